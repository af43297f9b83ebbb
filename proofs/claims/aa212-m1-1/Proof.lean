import JvmDerived
import JvmDerived.Pilot.@@N@@Statement
import JvmDerived.Pilot.@@N@@Code
set_option linter.unusedVariables false
set_option linter.unusedSimpArgs false
namespace Jvm.OwnW
open Sem ClassFile Op Lib Jvm.Stand Jvm.Free Jvm.LawKit Jvm.RoadKit
section Walks
variable {p : Program} {l : Launch} {e : Env} {R : Room} {s : State} {m : MethodId} {args : Array Value} {below : List Frame} {meth : Method} {c : Code} {T : State} {locs : List Loc} {cells slots : Nat}
/-- from A on the run comes to an end of which P holds -/
def Run (tb : Tables) (e : Env) (below : List Frame) (P : State → Outcome → Prop) (A : State) : Prop := ∃ s₂ o, Steps tb e below A s₂ ∧ P s₂ o
theorem Run.step {tb : Tables} {P : State → Outcome → Prop} {A B : State} (k : ∀ t, Steps tb e below B t → Steps tb e below A t) (h : Run tb e below P B) : Run tb e below P A := by
  obtain ⟨s₂, o, a, b⟩ := h
  exact ⟨s₂, o, k _ a, b⟩
/-- what a body's contract says at the end -/
def PQ (s : State) (below : List Frame) (rc rs : Nat) (Q : Option Value → Heap → List Loc → Prop) (s₂ : State) (o : Outcome) : Prop := s₂.status = .running ∧ Ended s₂ below o ∧ ∃ v L, o = .returned v ∧ Q v s₂.heap L ∧ FrameEnd s o s₂ L rc rs
theorem fin (X : Stand p l e R s m args below meth c T locs cells slots) {A : State} {Q : Option Value → Heap → List Loc → Prop} {rc rs : Nat} {v : Option Value} {h : Heap} (hl : meth.locks = false) (hv : meth.sig.returnType = none → v = none) (hc : cells ≤ rc) (hs : slots ≤ rs) (eT : T.heap = h) (hQ : Q v h locs)
    (st : ∀ fs, (∀ (f : JFrame) (acts : List Action), f.method = m → f.locked = none → f.entered = [] → (doReturn e (T.setTop f) acts v).1 = T.setFrames fs) → Steps p.tables e below A (T.setFrames fs)) : Run p.tables e below (PQ s below rc rs Q) A := by
  obtain ⟨fs, hr, hrun, hended, hW, hsame⟩ := X.leave (v := v) hv hl
  refine ⟨_, _, st fs hr, hrun, hended, _, _, rfl, ?_, ⟨_, rfl⟩, hW, hsame.mono hc hs⟩
  show Q v T.heap locs
  rw [eT]
  exact hQ
theorem finV (X : Stand p l e R s m args below meth c T locs cells slots) (hx : p.tables.exec = Jvm.exec) (hl : meth.locks = false) {Q : Option Value → Heap → List Loc → Prop} {rc rs pc : Nat} {Ls : Array Slot} {h : Heap} (hret : meth.sig.returnType = none) (hd : decode c.code pc = .ok (.return_, 1)) (hc : cells ≤ rc) (hs : slots ≤ rs) (eT : T.heap = h) (hQ : Q none h locs) : Run p.tables e below (PQ s below rc rs Q) (T.setTop (mkF m pc Ls [])) :=
  fin X hl (fun _ => rfl) hc hs eT hQ fun fs hr => X.returnOut hx hret hd hr
theorem finI (X : Stand p l e R s m args below meth c T locs cells slots) (hx : p.tables.exec = Jvm.exec) (hl : meth.locks = false) {Q : Option Value → Heap → List Loc → Prop} {rc rs pc : Nat} {Ls : Array Slot} {z : Int32} {rest : List Value} {h : Heap} (hret : meth.sig.returnType = some .int) (hd : decode c.code pc = .ok (.ireturn, 1)) (hc : cells ≤ rc) (hs : slots ≤ rs) (eT : T.heap = h) (hQ : Q (some (.int z)) h locs) : Run p.tables e below (PQ s below rc rs Q) (T.setTop (mkF m pc Ls (.int z :: rest))) :=
  fin X hl (fun q => by rw [hret] at q; cases q) hc hs eT hQ fun fs hr => retOut X hx hret rfl (Or.inl ⟨rfl, Or.inl rfl, _, rfl⟩) hd hr
theorem finZ (X : Stand p l e R s m args below meth c T locs cells slots) (hx : p.tables.exec = Jvm.exec) (hl : meth.locks = false) {Q : Option Value → Heap → List Loc → Prop} {rc rs pc : Nat} {Ls : Array Slot} {z : Int32} {rest : List Value} {h : Heap} (hret : meth.sig.returnType = some .boolean) (hd : decode c.code pc = .ok (.ireturn, 1)) (hz : z = 0 ∨ z = 1) (hc : cells ≤ rc) (hs : slots ≤ rs) (eT : T.heap = h) (hQ : Q (some (.int z)) h locs) : Run p.tables e below (PQ s below rc rs Q) (T.setTop (mkF m pc Ls (.int z :: rest))) :=
  fin X hl (fun q => by rw [hret] at q; cases q) hc hs eT hQ fun fs hr => retOut X hx hret (by rcases hz with rfl | rfl <;> rfl) (Or.inl ⟨rfl, Or.inr (Or.inl rfl), _, rfl⟩) hd hr
theorem finB (X : Stand p l e R s m args below meth c T locs cells slots) (hx : p.tables.exec = Jvm.exec) (hl : meth.locks = false) {Q : Option Value → Heap → List Loc → Prop} {rc rs pc : Nat} {Ls : Array Slot} {z : Int32} {rest : List Value} {h : Heap} (hret : meth.sig.returnType = some .byte) (hd : decode c.code pc = .ok (.ireturn, 1)) (hz : narrow .byte (.int z) = .int z) (hc : cells ≤ rc) (hs : slots ≤ rs) (eT : T.heap = h) (hQ : Q (some (.int z)) h locs) : Run p.tables e below (PQ s below rc rs Q) (T.setTop (mkF m pc Ls (.int z :: rest))) :=
  fin X hl (fun q => by rw [hret] at q; cases q) hc hs eT hQ fun fs hr => retOut X hx hret hz (Or.inl ⟨rfl, Or.inr (Or.inr (Or.inl rfl)), _, rfl⟩) hd hr
theorem finJ (X : Stand p l e R s m args below meth c T locs cells slots) (hx : p.tables.exec = Jvm.exec) (hl : meth.locks = false) {Q : Option Value → Heap → List Loc → Prop} {rc rs pc : Nat} {Ls : Array Slot} {z : Int64} {rest : List Value} {h : Heap} (hret : meth.sig.returnType = some .long) (hd : decode c.code pc = .ok (.lreturn, 1)) (hc : cells ≤ rc) (hs : slots ≤ rs) (eT : T.heap = h) (hQ : Q (some (.long z)) h locs) : Run p.tables e below (PQ s below rc rs Q) (T.setTop (mkF m pc Ls (.long z :: rest))) :=
  fin X hl (fun q => by rw [hret] at q; cases q) hc hs eT hQ fun fs hr => retOut X hx hret rfl (Or.inr (Or.inl ⟨rfl, rfl, _, rfl⟩)) hd hr
theorem finA (X : Stand p l e R s m args below meth c T locs cells slots) (hx : p.tables.exec = Jvm.exec) (hl : meth.locks = false) {Q : Option Value → Heap → List Loc → Prop} {rc rs pc : Nat} {Ls : Array Slot} {w : Value} {t : FieldType} {rest : List Value} {h : Heap} (hret : meth.sig.returnType = some t) (hd : decode c.code pc = .ok (.areturn, 1)) (ht : t.isReference = true) (hw : w.isRef = true) (hc : cells ≤ rc) (hs : slots ≤ rs) (eT : T.heap = h) (hQ : Q (some w) h locs) : Run p.tables e below (PQ s below rc rs Q) (T.setTop (mkF m pc Ls (w :: rest))) :=
  fin X hl (fun q => by rw [hret] at q; cases q) hc hs eT hQ fun fs hr => retOut X hx hret (by cases t <;> first | rfl | (cases w <;> first | rfl | cases ht)) (Or.inr (Or.inr (Or.inr (Or.inr ⟨rfl, ht, hw⟩)))) hd hr
/-- the same for a body that may load String constants -/
def PW (s : State) (below : List Frame) (rc rs : Nat) (Q : Option Value → Heap → List Loc → Prop) (s₂ : State) (o : Outcome) : Prop := s₂.status = .running ∧ Ended s₂ below o ∧ ∃ v L, o = .returned v ∧ Q v s₂.heap L ∧ ReturnedEndW s o s₂ L rc rs
theorem finW {vm : Vm} {n : Nat} (X : Stand p l e R (s.setVm vm) m args below meth c T locs cells slots) {A : State} {Q : Option Value → Heap → List Loc → Prop} {rc rs : Nat} {v : Option Value} {h : Heap} (hS : s.Since vm n) (hk : n ≤ h.size) (hl : meth.locks = false) (hv : meth.sig.returnType = none → v = none) (hc : cells ≤ rc) (hs : slots ≤ rs) (eT : T.heap = h) (hQ : Q v h locs)
    (st : ∀ fs, (∀ (f : JFrame) (acts : List Action), f.method = m → f.locked = none → f.entered = [] → (doReturn e (T.setTop f) acts v).1 = T.setFrames fs) → Steps p.tables e below A (T.setFrames fs)) : Run p.tables e below (PW s below rc rs Q) A := by
  obtain ⟨fs, hr, hrun, hended, hE⟩ := X.leaveW hS (by rw [eT]; exact hk) (v := v) hv hl
  refine ⟨_, _, st fs hr, hrun, hended, _, _, rfl, ?_, hE.1, hE.2.1, hE.2.2.1, hE.2.2.2.mono hc hs⟩
  show Q v T.heap locs
  rw [eT]
  exact hQ
theorem finVW {vm : Vm} {n : Nat} (X : Stand p l e R (s.setVm vm) m args below meth c T locs cells slots) (hx : p.tables.exec = Jvm.exec) {h : Heap} (hS : s.Since vm n) (hk : n ≤ h.size) (hl : meth.locks = false) {Q : Option Value → Heap → List Loc → Prop} {rc rs pc : Nat} {Ls : Array Slot} (hret : meth.sig.returnType = none) (hd : decode c.code pc = .ok (.return_, 1)) (hc : cells ≤ rc) (hs : slots ≤ rs) (eT : T.heap = h) (hQ : Q none h locs) : Run p.tables e below (PW s below rc rs Q) (T.setTop (mkF m pc Ls [])) :=
  finW X hS hk hl (fun _ => rfl) hc hs eT hQ fun fs hr => X.returnOut hx hret hd hr
theorem finIW {vm : Vm} {n : Nat} (X : Stand p l e R (s.setVm vm) m args below meth c T locs cells slots) (hx : p.tables.exec = Jvm.exec) {h : Heap} (hS : s.Since vm n) (hk : n ≤ h.size) (hl : meth.locks = false) {Q : Option Value → Heap → List Loc → Prop} {rc rs pc : Nat} {Ls : Array Slot} {z : Int32} {rest : List Value} (hret : meth.sig.returnType = some .int) (hd : decode c.code pc = .ok (.ireturn, 1)) (hc : cells ≤ rc) (hs : slots ≤ rs) (eT : T.heap = h) (hQ : Q (some (.int z)) h locs) : Run p.tables e below (PW s below rc rs Q) (T.setTop (mkF m pc Ls (.int z :: rest))) :=
  finW X hS hk hl (fun q => by rw [hret] at q; cases q) hc hs eT hQ fun fs hr => retOut X hx hret rfl (Or.inl ⟨rfl, Or.inl rfl, _, rfl⟩) hd hr
theorem finZW {vm : Vm} {n : Nat} (X : Stand p l e R (s.setVm vm) m args below meth c T locs cells slots) (hx : p.tables.exec = Jvm.exec) {h : Heap} (hS : s.Since vm n) (hk : n ≤ h.size) (hl : meth.locks = false) {Q : Option Value → Heap → List Loc → Prop} {rc rs pc : Nat} {Ls : Array Slot} {z : Int32} {rest : List Value} (hret : meth.sig.returnType = some .boolean) (hd : decode c.code pc = .ok (.ireturn, 1)) (hz : z = 0 ∨ z = 1) (hc : cells ≤ rc) (hs : slots ≤ rs) (eT : T.heap = h) (hQ : Q (some (.int z)) h locs) : Run p.tables e below (PW s below rc rs Q) (T.setTop (mkF m pc Ls (.int z :: rest))) :=
  finW X hS hk hl (fun q => by rw [hret] at q; cases q) hc hs eT hQ fun fs hr => retOut X hx hret (by rcases hz with rfl | rfl <;> rfl) (Or.inl ⟨rfl, Or.inr (Or.inl rfl), _, rfl⟩) hd hr
theorem finBW {vm : Vm} {n : Nat} (X : Stand p l e R (s.setVm vm) m args below meth c T locs cells slots) (hx : p.tables.exec = Jvm.exec) {h : Heap} (hS : s.Since vm n) (hk : n ≤ h.size) (hl : meth.locks = false) {Q : Option Value → Heap → List Loc → Prop} {rc rs pc : Nat} {Ls : Array Slot} {z : Int32} {rest : List Value} (hret : meth.sig.returnType = some .byte) (hd : decode c.code pc = .ok (.ireturn, 1)) (hz : narrow .byte (.int z) = .int z) (hc : cells ≤ rc) (hs : slots ≤ rs) (eT : T.heap = h) (hQ : Q (some (.int z)) h locs) : Run p.tables e below (PW s below rc rs Q) (T.setTop (mkF m pc Ls (.int z :: rest))) :=
  finW X hS hk hl (fun q => by rw [hret] at q; cases q) hc hs eT hQ fun fs hr => retOut X hx hret hz (Or.inl ⟨rfl, Or.inr (Or.inr (Or.inl rfl)), _, rfl⟩) hd hr
theorem finJW {vm : Vm} {n : Nat} (X : Stand p l e R (s.setVm vm) m args below meth c T locs cells slots) (hx : p.tables.exec = Jvm.exec) {h : Heap} (hS : s.Since vm n) (hk : n ≤ h.size) (hl : meth.locks = false) {Q : Option Value → Heap → List Loc → Prop} {rc rs pc : Nat} {Ls : Array Slot} {z : Int64} {rest : List Value} (hret : meth.sig.returnType = some .long) (hd : decode c.code pc = .ok (.lreturn, 1)) (hc : cells ≤ rc) (hs : slots ≤ rs) (eT : T.heap = h) (hQ : Q (some (.long z)) h locs) : Run p.tables e below (PW s below rc rs Q) (T.setTop (mkF m pc Ls (.long z :: rest))) :=
  finW X hS hk hl (fun q => by rw [hret] at q; cases q) hc hs eT hQ fun fs hr => retOut X hx hret rfl (Or.inr (Or.inl ⟨rfl, rfl, _, rfl⟩)) hd hr
theorem finAW {vm : Vm} {n : Nat} (X : Stand p l e R (s.setVm vm) m args below meth c T locs cells slots) (hx : p.tables.exec = Jvm.exec) {h : Heap} (hS : s.Since vm n) (hk : n ≤ h.size) (hl : meth.locks = false) {Q : Option Value → Heap → List Loc → Prop} {rc rs pc : Nat} {Ls : Array Slot} {w : Value} {t : FieldType} {rest : List Value} (hret : meth.sig.returnType = some t) (hd : decode c.code pc = .ok (.areturn, 1)) (ht : t.isReference = true) (hw : w.isRef = true) (hc : cells ≤ rc) (hs : slots ≤ rs) (eT : T.heap = h) (hQ : Q (some w) h locs) : Run p.tables e below (PW s below rc rs Q) (T.setTop (mkF m pc Ls (w :: rest))) :=
  finW X hS hk hl (fun q => by rw [hret] at q; cases q) hc hs eT hQ fun fs hr => retOut X hx hret (by cases t <;> first | rfl | (cases w <;> first | rfl | cases ht)) (Or.inr (Or.inr (Or.inr (Or.inr ⟨rfl, ht, hw⟩)))) hd hr
theorem own_lrem {g : JFrame} {target : State} (X : Stand p l e R s m args below meth c T locs cells slots) (hx : p.tables.exec = Jvm.exec) (hg : g.method = m) {x y : Int64} {rest : List Value} (hd : decode c.code g.pc = .ok (.lrem, 1)) (hs : g.stack = .long y :: .long x :: rest) (hy : y ≠ 0)
    (hr : Steps p.tables e below (T.setTop { g with pc := g.pc + 1, stack := .long (x % y) :: rest }) target) : Steps p.tables e below (T.setTop g) target :=
  XS.lrem X.here hx hg hd hs hy (by rw [lrem_mod]; exact hr)
end Walks
end Jvm.OwnW
namespace Jvm.Pilot.@@N@@
open Jvm Jvm.ClassFile Sem Op Lib Jvm.Free Jvm.Stand Jvm.LawKit Jvm.RoadKit Jvm.OwnW Bundle Jvm.Pilot.@@N@@.Jvm.D
def own_l (f : Nat → Int64) : List Value := [.long (f 0), .long (f 1), .long (f 2), .long (f 3), .long (f 4), .long (f 5), .long (f 6), .long (f 7), .long (f 8), .long (f 9), .long (f 10), .long (f 11), .long (f 12), .long (f 13), .long (f 14), .long (f 15), .long (f 16), .long (f 17), .long (f 18), .long (f 19), .long (f 20), .long (f 21), .long (f 22), .long (f 23), .long (f 24), .long (f 25), .long (f 26), .long (f 27), .long (f 28), .long (f 29), .long (f 30), .long (f 31)]
def own_up (f : Nat → Int64) (i : Nat) (x : Int64) (j : Nat) : Int64 := if j = i then x else f j
def own_near (f : Nat → Int64) (u v : Int64) : Nat → Int32
  | 0 => 0
  | i + 1 => own_near f u v i ||| ((if f i = u then 1 else 0) ||| (if f i = v then 1 else 0))
theorem own_or0 (x y : Int32) (hx : x = 0 ∨ x = 1) (hy : y = 0 ∨ y = 1) : (x ||| y = 0 ∨ x ||| y = 1) ∧ (x ||| y = 0 ↔ x = 0 ∧ y = 0) := by
  rcases hx with rfl | rfl <;> rcases hy with rfl | rfl <;> decide
theorem own_ite01 (p : Prop) [Decidable p] : (if p then (1 : Int32) else 0) = 0 ∨ (if p then (1 : Int32) else 0) = 1 := by
  by_cases h : p
  · exact Or.inr (if_pos h)
  · exact Or.inl (if_neg h)
theorem own_ite0 (p : Prop) [Decidable p] : (if p then (1 : Int32) else 0) = 0 ↔ ¬ p := by
  by_cases h : p
  · rw [if_pos h]; exact ⟨fun q => absurd q (by decide), fun q => absurd h q⟩
  · rw [if_neg h]; exact ⟨fun _ => h, fun _ => rfl⟩
theorem own_near01 (f : Nat → Int64) (u v : Int64) : ∀ n, own_near f u v n = 0 ∨ own_near f u v n = 1
  | 0 => Or.inl rfl
  | n + 1 => (own_or0 _ _ (own_near01 f u v n) (own_or0 _ _ (own_ite01 _) (own_ite01 _)).1).1
theorem own_near0 (f : Nat → Int64) (u v : Int64) : ∀ n, own_near f u v n = 0 ↔ ∀ j, j < n → f j ≠ u ∧ f j ≠ v
  | 0 => ⟨fun _ j h => absurd h (Nat.not_lt_zero j), fun _ => rfl⟩
  | n + 1 => by
    have a := own_or0 _ _ (own_near01 f u v n) (own_or0 _ _ (own_ite01 (f n = u)) (own_ite01 (f n = v))).1
    have b := (own_or0 _ _ (own_ite01 (f n = u)) (own_ite01 (f n = v))).2
    show (own_near f u v n ||| _) = 0 ↔ _
    rw [a.2, own_near0 f u v n, b, own_ite0, own_ite0]
    constructor
    · rintro ⟨h1, h2, h3⟩ j hj
      rcases Nat.lt_or_eq_of_le (Nat.le_of_lt_succ hj) with q | q
      · exact h1 j q
      · rw [q]; exact ⟨h2, h3⟩
    · intro h
      exact ⟨fun j hj => h j (Nat.lt_succ_of_lt hj), (h n (Nat.lt_succ_self n)).1, (h n (Nat.lt_succ_self n)).2⟩
theorem own_nat {i : Nat} (h : i < 32) : (Int32.ofNat i).toNatClampNeg = i ∧ ¬ (Int32.ofNat i) < 0 ∧ (Int32.ofNat i) < 32 ∧ (Int32.ofNat i) + 1 = Int32.ofNat (i + 1) := by
  match i, h with
  | 0, _ => exact ⟨by decide, by decide, by decide, by decide⟩
  | 1, _ => exact ⟨by decide, by decide, by decide, by decide⟩
  | 2, _ => exact ⟨by decide, by decide, by decide, by decide⟩
  | 3, _ => exact ⟨by decide, by decide, by decide, by decide⟩
  | 4, _ => exact ⟨by decide, by decide, by decide, by decide⟩
  | 5, _ => exact ⟨by decide, by decide, by decide, by decide⟩
  | 6, _ => exact ⟨by decide, by decide, by decide, by decide⟩
  | 7, _ => exact ⟨by decide, by decide, by decide, by decide⟩
  | 8, _ => exact ⟨by decide, by decide, by decide, by decide⟩
  | 9, _ => exact ⟨by decide, by decide, by decide, by decide⟩
  | 10, _ => exact ⟨by decide, by decide, by decide, by decide⟩
  | 11, _ => exact ⟨by decide, by decide, by decide, by decide⟩
  | 12, _ => exact ⟨by decide, by decide, by decide, by decide⟩
  | 13, _ => exact ⟨by decide, by decide, by decide, by decide⟩
  | 14, _ => exact ⟨by decide, by decide, by decide, by decide⟩
  | 15, _ => exact ⟨by decide, by decide, by decide, by decide⟩
  | 16, _ => exact ⟨by decide, by decide, by decide, by decide⟩
  | 17, _ => exact ⟨by decide, by decide, by decide, by decide⟩
  | 18, _ => exact ⟨by decide, by decide, by decide, by decide⟩
  | 19, _ => exact ⟨by decide, by decide, by decide, by decide⟩
  | 20, _ => exact ⟨by decide, by decide, by decide, by decide⟩
  | 21, _ => exact ⟨by decide, by decide, by decide, by decide⟩
  | 22, _ => exact ⟨by decide, by decide, by decide, by decide⟩
  | 23, _ => exact ⟨by decide, by decide, by decide, by decide⟩
  | 24, _ => exact ⟨by decide, by decide, by decide, by decide⟩
  | 25, _ => exact ⟨by decide, by decide, by decide, by decide⟩
  | 26, _ => exact ⟨by decide, by decide, by decide, by decide⟩
  | 27, _ => exact ⟨by decide, by decide, by decide, by decide⟩
  | 28, _ => exact ⟨by decide, by decide, by decide, by decide⟩
  | 29, _ => exact ⟨by decide, by decide, by decide, by decide⟩
  | 30, _ => exact ⟨by decide, by decide, by decide, by decide⟩
  | 31, _ => exact ⟨by decide, by decide, by decide, by decide⟩
  | k + 32, h => exact absurd h (by omega)
theorem own_get (f : Nat → Int64) {i : Nat} (h : i < 32) (d : Value) : (own_l f).getD i d = .long (f i) := by
  match i, h with
  | 0, _ => rfl
  | 1, _ => rfl
  | 2, _ => rfl
  | 3, _ => rfl
  | 4, _ => rfl
  | 5, _ => rfl
  | 6, _ => rfl
  | 7, _ => rfl
  | 8, _ => rfl
  | 9, _ => rfl
  | 10, _ => rfl
  | 11, _ => rfl
  | 12, _ => rfl
  | 13, _ => rfl
  | 14, _ => rfl
  | 15, _ => rfl
  | 16, _ => rfl
  | 17, _ => rfl
  | 18, _ => rfl
  | 19, _ => rfl
  | 20, _ => rfl
  | 21, _ => rfl
  | 22, _ => rfl
  | 23, _ => rfl
  | 24, _ => rfl
  | 25, _ => rfl
  | 26, _ => rfl
  | 27, _ => rfl
  | 28, _ => rfl
  | 29, _ => rfl
  | 30, _ => rfl
  | 31, _ => rfl
  | k + 32, h => exact absurd h (by omega)
theorem own_nn (x m : Int64) (hm : m = 3 ∨ m = 9223372036854775807) : (x &&& m) ≠ -1 := by
  have h : 0 ≤ (x &&& m).toInt := (c_andSL x m).2.2 (by rcases hm with rfl | rfl <;> decide)
  intro q
  rw [q] at h
  exact absurd h (by decide)
theorem own_hit0 (u v : Int64) (hu : u ≠ -1) (hv : v ≠ -1) : own_near (fun _ => -1) u v 32 = 0 := (own_near0 _ _ _ _).mpr fun j _ => ⟨hu.symm, hv.symm⟩
abbrev S2 (a b u v : Int64) : Prop := u = a ∨ u = b ∨ v = a ∨ v = b
abbrev S3 (a b c d u v : Int64) : Prop := u = a ∨ u = b ∨ u = c ∨ u = d ∨ v = a ∨ v = b ∨ v = c ∨ v = d
theorem own_hit1 (a b u v : Int64) (hu : u ≠ -1) (hv : v ≠ -1) : own_near (own_up (own_up (fun _ => -1) 0 a) 1 b) u v 32 = 0 ↔ ¬ S2 a b u v := by
  rw [own_near0]
  constructor
  · intro h q
    have h0 := h 0 (by decide)
    have h1 := h 1 (by decide)
    change a ≠ u ∧ a ≠ v at h0
    change b ≠ u ∧ b ≠ v at h1
    rcases q with q | q | q | q
    · exact h0.1 q.symm
    · exact h1.1 q.symm
    · exact h0.2 q.symm
    · exact h1.2 q.symm
  · intro h j _
    unfold own_up
    by_cases e1 : j = 1
    · rw [if_pos e1]; exact ⟨fun q => h (Or.inr (Or.inl q.symm)), fun q => h (Or.inr (Or.inr (Or.inr q.symm)))⟩
    · rw [if_neg e1]
      by_cases e0 : j = 0
      · rw [if_pos e0]; exact ⟨fun q => h (Or.inl q.symm), fun q => h (Or.inr (Or.inr (Or.inl q.symm)))⟩
      · rw [if_neg e0]; exact ⟨hu.symm, hv.symm⟩
abbrev F2 (a b c d : Int64) : Nat → Int64 := own_up (own_up (own_up (own_up (fun _ => -1) 0 a) 1 b) 2 c) 3 d
theorem own_hit2 (a b c d u v : Int64) (hu : u ≠ -1) (hv : v ≠ -1) : own_near (F2 a b c d) u v 32 = 0 ↔ ¬ S3 a b c d u v := by
  rw [own_near0]
  constructor
  · intro h q
    have h0 := h 0 (by decide)
    have h1 := h 1 (by decide)
    have h2 := h 2 (by decide)
    have h3 := h 3 (by decide)
    change a ≠ u ∧ a ≠ v at h0
    change b ≠ u ∧ b ≠ v at h1
    change c ≠ u ∧ c ≠ v at h2
    change d ≠ u ∧ d ≠ v at h3
    rcases q with q | q | q | q | q | q | q | q
    · exact h0.1 q.symm
    · exact h1.1 q.symm
    · exact h2.1 q.symm
    · exact h3.1 q.symm
    · exact h0.2 q.symm
    · exact h1.2 q.symm
    · exact h2.2 q.symm
    · exact h3.2 q.symm
  · intro h j _
    unfold F2 own_up
    by_cases e3 : j = 3
    · rw [if_pos e3]; exact ⟨fun q => h (Or.inr (Or.inr (Or.inr (Or.inl q.symm)))), fun q => h (Or.inr (Or.inr (Or.inr (Or.inr (Or.inr (Or.inr (Or.inr q.symm)))))))⟩
    rw [if_neg e3]
    by_cases e2 : j = 2
    · rw [if_pos e2]; exact ⟨fun q => h (Or.inr (Or.inr (Or.inl q.symm))), fun q => h (Or.inr (Or.inr (Or.inr (Or.inr (Or.inr (Or.inr (Or.inl q.symm)))))))⟩
    rw [if_neg e2]
    by_cases e1 : j = 1
    · rw [if_pos e1]; exact ⟨fun q => h (Or.inr (Or.inl q.symm)), fun q => h (Or.inr (Or.inr (Or.inr (Or.inr (Or.inr (Or.inl q.symm))))))⟩
    rw [if_neg e1]
    by_cases e0 : j = 0
    · rw [if_pos e0]; exact ⟨fun q => h (Or.inl q.symm), fun q => h (Or.inr (Or.inr (Or.inr (Or.inr (Or.inl q.symm)))))⟩
    rw [if_neg e0]; exact ⟨hu.symm, hv.symm⟩
theorem own_hit3 (a b c d : Int64) : ¬ own_near (F2 a b c d) a b 32 = 0 := fun h => ((own_near0 _ _ _ _).mp h 0 (by decide)).1 rfl
theorem own_n1 (a b u v n2 : Int64) (hu : u ≠ -1) (hv : v ≠ -1) (h : n2 = if S2 a b u v then 1 else 0) : n2 = if own_near (own_up (own_up (fun _ => -1) 0 a) 1 b) u v 32 = 0 then 0 else 1 := by
  have k := own_hit1 a b u v hu hv
  by_cases q : S2 a b u v
  · rw [h, if_pos q, if_neg (fun z => k.mp z q)]
  · rw [h, if_neg q, if_pos (k.mpr q)]
theorem own_n2 (a b c d u v n2 n3 : Int64) (hu : u ≠ -1) (hv : v ≠ -1) (h : n3 = if S3 a b c d u v then 1 else 0) : n2 + n3 = if own_near (F2 a b c d) u v 32 = 0 then n2 else n2 + 1 := by
  have k := own_hit2 a b c d u v hu hv
  by_cases q : S3 a b c d u v
  · rw [h, if_pos q, if_neg (fun z => k.mp z q)]
  · rw [h, if_neg q, if_pos (k.mpr q), Int64.add_zero]
theorem own_g0 (n2 : Int64) (p : Prop) [Decidable p] (h : n2 = if p then 1 else 0) : (if (2 : Int64) < (2 : Int64) * n2 then (1 : Int32) else 0) = 0 := by
  by_cases q : p
  · rw [h, if_pos q]; decide
  · rw [h, if_neg q]; decide
theorem own_g1 (n2 : Int64) (s2 : Int32) (p : Prop) [Decidable p] (h : n2 = if p then 1 else 0) (hs : s2 = if p then 1 else 0) : (if (3 : Int64) < (2 : Int64) * (n2 + 1) then (1 : Int32) else 0) = s2 := by
  by_cases q : p
  · rw [h, hs, if_pos q, if_pos q]; decide
  · rw [h, hs, if_neg q, if_neg q]; decide
theorem own_g2 (n2 n3 : Int64) (s2 s3 : Int32) (p r : Prop) [Decidable p] [Decidable r] (h : n2 = if p then 1 else 0) (h' : n3 = if r then 1 else 0) (hs : s2 = if p then 1 else 0) (hs' : s3 = if r then 1 else 0) : (if (3 : Int64) < (2 : Int64) * (n2 + n3) then (1 : Int32) else 0) = if s2 = 0 then 0 else if s3 = 0 then 0 else 1 := by
  by_cases q : p
  · by_cases t : r
    · rw [h, h', hs, hs', if_pos q, if_pos t, if_pos q, if_pos t]; decide
    · rw [h, h', hs, hs', if_pos q, if_neg t, if_pos q, if_neg t]; decide
  · by_cases t : r
    · rw [h, h', hs, hs', if_neg q, if_pos t, if_neg q, if_pos t]; decide
    · rw [h, h', hs, hs', if_neg q, if_neg t, if_neg q, if_neg t]; decide
theorem pn_java_util_Arrays : plainName "java/util/Arrays" = true := by first | (simp [plainName, overriddenIn]; done) | decide +kernel
theorem d3_0 : decode jdk_65_method_101_code 0 = .ok (.iconst 0, 1) := by decide +kernel
theorem d3_1 : decode jdk_65_method_101_code 1 = .ok (.istore_n 3, 1) := by decide +kernel
theorem d3_2 : decode jdk_65_method_101_code 2 = .ok (.aload_n 0, 1) := by decide +kernel
theorem d3_3 : decode jdk_65_method_101_code 3 = .ok (.arraylength, 1) := by decide +kernel
theorem d3_4 : decode jdk_65_method_101_code 4 = .ok (.istore 4, 2) := by decide +kernel
theorem d3_6 : decode jdk_65_method_101_code 6 = .ok (.iload_n 3, 1) := by decide +kernel
theorem d3_7 : decode jdk_65_method_101_code 7 = .ok (.iload 4, 2) := by decide +kernel
theorem d3_9 : decode jdk_65_method_101_code 9 = .ok (.if_icmp .ge 13, 3) := by decide +kernel
theorem d3_12 : decode jdk_65_method_101_code 12 = .ok (.aload_n 0, 1) := by decide +kernel
theorem d3_13 : decode jdk_65_method_101_code 13 = .ok (.iload_n 3, 1) := by decide +kernel
theorem d3_14 : decode jdk_65_method_101_code 14 = .ok (.lload_n 1, 1) := by decide +kernel
theorem d3_15 : decode jdk_65_method_101_code 15 = .ok (.lastore, 1) := by decide +kernel
theorem d3_16 : decode jdk_65_method_101_code 16 = .ok (.iinc 3 1, 3) := by decide +kernel
theorem d3_19 : decode jdk_65_method_101_code 19 = .ok (.goto (-13), 3) := by decide +kernel
theorem d3_22 : decode jdk_65_method_101_code 22 = .ok (.return_, 1) := by decide +kernel
theorem ef_3 (m : MethodId) (x0 : Addr) (x1 : Int64) : entryFrame m #[(.ref x0), (.long x1)] 5 = mkF m 0 #[.val (.ref x0), .val (.long x1), .second, .unset, .unset] [] := by first | (simp [entryFrame, mkF, argsToLocals, Value.category, maxLocals]; done) | rfl
def Q3 (Z : State) (a1 : Addr) (k : ClassId) (x : Int64) (h0 : Heap) (n0 : Nat) (v : Option Value) (h : Heap) (L : List Loc) : Prop := v = none ∧ Fr n0 L ∧ Keep h0 h [a1] ∧ Arv Z h a1 k .long (32 : Int32) (own_l (fun _ => x)) (.long (0 : Int64))
set_option maxRecDepth 65536 in
set_option maxHeartbeats 40000000 in
theorem rm3 (l : Launch) (Z : State) (a0 : Array Value) (hw : ∀ d ∈ tables_1, d.before a0 Z = true) (ws : List Jvm.Cond) (a1 : Addr) (k : ClassId) (x : Int64) (h0 : Heap) (n0 : Nat) (Z0 : n0 ≤ h0.size) (V1 : Arv Z h0 a1 k .long (32 : Int32) [(.long (0 : Int64)), (.long (0 : Int64)), (.long (0 : Int64)), (.long (0 : Int64)), (.long (0 : Int64)), (.long (0 : Int64)), (.long (0 : Int64)), (.long (0 : Int64)), (.long (0 : Int64)), (.long (0 : Int64)), (.long (0 : Int64)), (.long (0 : Int64)), (.long (0 : Int64)), (.long (0 : Int64)), (.long (0 : Int64)), (.long (0 : Int64)), (.long (0 : Int64)), (.long (0 : Int64)), (.long (0 : Int64)), (.long (0 : Int64)), (.long (0 : Int64)), (.long (0 : Int64)), (.long (0 : Int64)), (.long (0 : Int64)), (.long (0 : Int64)), (.long (0 : Int64)), (.long (0 : Int64)), (.long (0 : Int64)), (.long (0 : Int64)), (.long (0 : Int64)), (.long (0 : Int64)), (.long (0 : Int64))] (.long (0 : Int64))) (g1 : n0 ≤ a1) :
    MetFree l (⟨"java/util/Arrays", "fill", "([JJ)V"⟩ : MethodName) (head1 (Jvm.Cond.code (⟨"java/util/Arrays", "fill", "([JJ)V"⟩ : MethodName) jdk_65_method_101_code 5 none :: ws) ({ frames := 0, cells := 0, slots := 0, locals := 0 } : Room)) (fun a U => a = #[(.ref a1), (.long x)] ∧ Z.Warmed39 U.vm ∧ U.heap = h0) (fun _ _ _ _ _ => True) (fun _ U o U' => ∃ v L, o = .returned v ∧ Q3 Z a1 k x h0 n0 v U'.heap L ∧ FrameEnd U o U' L ({ frames := 0, cells := 0, slots := 0, locals := 0 } : Room).cells ({ frames := 0, cells := 0, slots := 0, locals := 0 } : Room).slots) := by
  refine MetFree.of_bodySF (plainFor_of_name pn_java_util_Arrays) hisR ?_
  intro p e s m args below meth c s₁ Bd hml0 hP hK
  obtain ⟨rfl, hZ, hh⟩ := hP
  have hx := Bd.exec
  have hby := Bd.bytes
  have hml : c.maxLocals = 5 := hml0
  have hown : s.vm.findClass "java/util/Arrays" = some m.cls := findClass_of_methodNamed Bd.named
  have hnm := (name_of_methodNamed Bd.named Bd.method).1
  have X0 : Stand p l e ({ frames := 0, cells := 0, slots := 0, locals := 0 } : Room) s m #[(.ref a1), (.long x)] below meth c s₁ [] 0 0 := Stand.of_body Bd
  have e0 : s₁.heap = h0 := by rw [← hh, Bd.state]; rfl
  have N0 := Fr.nil n0
  show Run p.tables e below (PQ s below 0 0 (Q3 Z a1 k x h0 n0)) (s₁.setTop (entryFrame m #[(.ref a1), (.long x)] 5))
  refine Run.step (fun t k => castTop (ef_3 m a1 x) k) ?_
  show Run _ _ _ _ (s₁.setTop (mkF m 0 #[.val (.ref a1), .val (.long x), .second, .unset, .unset] []))
  refine Run.step (fun t_ k_ => XS.iconst X0.here hx rfl (hb hby d3_0) k_) ?_
  show Run _ _ _ _ (s₁.setTop (mkF m 1 #[.val (.ref a1), .val (.long x), .second, .unset, .unset] [(.int (0 : Int32))]))
  refine Run.step (fun t_ k_ => XS.istoreN X0.here hx rfl (hb hby d3_1) rfl (l' := #[.val (.ref a1), .val (.long x), .second, .val (.int (0 : Int32)), .unset]) rfl k_) ?_
  show Run _ _ _ _ (s₁.setTop (mkF m 2 #[.val (.ref a1), .val (.long x), .second, .val (.int (0 : Int32)), .unset] []))
  refine Run.step (fun t_ k_ => XS.aloadN X0.here hx rfl (hb hby d3_2) rfl rfl k_) ?_
  show Run _ _ _ _ (s₁.setTop (mkF m 3 #[.val (.ref a1), .val (.long x), .second, .val (.int (0 : Int32)), .unset] [(.ref a1)]))
  obtain ⟨cl1, Ar1, q1, S1, M1, H1, U1⟩ := id V1
  refine Run.step (fun t_ k_ => X0.arraylength hx (by rw [e0]; exact Ar1.1) (State.isArrayOf_alike hZ.alike Ar1.2.1) (g := (mkF m 3 #[.val (.ref a1), .val (.long x), .second, .val (.int (0 : Int32)), .unset] [(.ref a1)])) rfl rfl (hb hby d3_3) _ k_) ?_
  rw [len_of S1 M1]
  show Run _ _ _ _ (s₁.setTop (mkF m 4 #[.val (.ref a1), .val (.long x), .second, .val (.int (0 : Int32)), .unset] [(.int (32 : Int32))]))
  refine Run.step (fun t_ k_ => XS.istore X0.here hx rfl (hb hby d3_4) rfl (l' := #[.val (.ref a1), .val (.long x), .second, .val (.int (0 : Int32)), .val (.int (32 : Int32))]) rfl k_) ?_
  show Run _ _ _ _ (s₁.setTop (mkF m 6 #[.val (.ref a1), .val (.long x), .second, .val (.int (0 : Int32)), .val (.int (32 : Int32))] []))
  refine Run.step (fun t_ k_ => XS.iloadN X0.here hx rfl (hb hby d3_6) rfl k_) ?_
  show Run _ _ _ _ (s₁.setTop (mkF m 7 #[.val (.ref a1), .val (.long x), .second, .val (.int (0 : Int32)), .val (.int (32 : Int32))] [(.int (0 : Int32))]))
  refine Run.step (fun t_ k_ => XS.iload X0.here hx rfl (hb hby d3_7) rfl k_) ?_
  show Run _ _ _ _ (s₁.setTop (mkF m 9 #[.val (.ref a1), .val (.long x), .second, .val (.int (0 : Int32)), .val (.int (32 : Int32))] [(.int (32 : Int32)), (.int (0 : Int32))]))
  refine Run.step (fun t_ k_ => XS.icmpNo X0.here hx rfl (hb hby d3_9) rfl (XT.ii_ge_f (by decide : (0 : Int32) < (32 : Int32))) k_) ?_
  show Run _ _ _ _ (s₁.setTop (mkF m 12 #[.val (.ref a1), .val (.long x), .second, .val (.int (0 : Int32)), .val (.int (32 : Int32))] []))
  refine Run.step (fun t_ k_ => XS.aloadN X0.here hx rfl (hb hby d3_12) rfl rfl k_) ?_
  show Run _ _ _ _ (s₁.setTop (mkF m 13 #[.val (.ref a1), .val (.long x), .second, .val (.int (0 : Int32)), .val (.int (32 : Int32))] [(.ref a1)]))
  refine Run.step (fun t_ k_ => XS.iloadN X0.here hx rfl (hb hby d3_13) rfl k_) ?_
  show Run _ _ _ _ (s₁.setTop (mkF m 14 #[.val (.ref a1), .val (.long x), .second, .val (.int (0 : Int32)), .val (.int (32 : Int32))] [(.int (0 : Int32)), (.ref a1)]))
  refine Run.step (fun t_ k_ => XS.lloadN X0.here hx rfl (hb hby d3_14) rfl k_) ?_
  show Run _ _ _ _ (s₁.setTop (mkF m 15 #[.val (.ref a1), .val (.long x), .second, .val (.int (0 : Int32)), .val (.int (32 : Int32))] [(.long x), (.int (0 : Int32)), (.ref a1)]))
  obtain ⟨cl2, Ar2, q2, S2, M2, H2, U2⟩ := id V1
  have hin3 : ¬ ((0 : Int32) < 0 ∨ cl2.slots.size ≤ ((0 : Int32)).toNatClampNeg) := inb_of S2 ⟨by decide, by decide⟩
  obtain ⟨T3, h3, X3, e3, W3, st3⟩ := stJ X0 hx hZ e0 Ar2 (j := (0 : Int32)) hin3 (g := (mkF m 15 #[.val (.ref a1), .val (.long x), .second, .val (.int (0 : Int32)), .val (.int (32 : Int32))] [(.long x), (.int (0 : Int32)), (.ref a1)])) rfl rfl (hb hby d3_15)
  refine Run.step st3 ?_
  have f4 : Arv Z h3 a1 k .long (32 : Int32) [(.long x), (.long (0 : Int64)), (.long (0 : Int64)), (.long (0 : Int64)), (.long (0 : Int64)), (.long (0 : Int64)), (.long (0 : Int64)), (.long (0 : Int64)), (.long (0 : Int64)), (.long (0 : Int64)), (.long (0 : Int64)), (.long (0 : Int64)), (.long (0 : Int64)), (.long (0 : Int64)), (.long (0 : Int64)), (.long (0 : Int64)), (.long (0 : Int64)), (.long (0 : Int64)), (.long (0 : Int64)), (.long (0 : Int64)), (.long (0 : Int64)), (.long (0 : Int64)), (.long (0 : Int64)), (.long (0 : Int64)), (.long (0 : Int64)), (.long (0 : Int64)), (.long (0 : Int64)), (.long (0 : Int64)), (.long (0 : Int64)), (.long (0 : Int64)), (.long (0 : Int64)), (.long (0 : Int64))] (.long (0 : Int64)) := Arv.set Ar2 q2 S2 M2 H2 U2 rfl W3 0 rfl (Nat.le_of_ble_eq_true rfl)
  have z6 := Nat.le_trans Z0 (Keep.of_wr W3).1
  have K7 := (Keep.refl h0 [a1]).wr W3 (Or.inl (List.mem_of_getElem? (i := 0) rfl))
  have N8 := Fr.snoc X3 N0 g1
  show Run _ _ _ _ (T3.setTop (mkF m 16 #[.val (.ref a1), .val (.long x), .second, .val (.int (0 : Int32)), .val (.int (32 : Int32))] []))
  refine Run.step (fun t_ k_ => XS.iinc X3.here hx rfl (hb hby d3_16) rfl (l' := #[.val (.ref a1), .val (.long x), .second, .val (.int (1 : Int32)), .val (.int (32 : Int32))]) rfl k_) ?_
  show Run _ _ _ _ (T3.setTop (mkF m 19 #[.val (.ref a1), .val (.long x), .second, .val (.int (1 : Int32)), .val (.int (32 : Int32))] []))
  refine Run.step (fun t_ k_ => XS.goto X3.here hx rfl (pc0 := 19) (pc' := 6) rfl (hb hby d3_19) (by decide) (by decide) k_) ?_
  show Run _ _ _ _ (T3.setTop (mkF m 6 #[.val (.ref a1), .val (.long x), .second, .val (.int (1 : Int32)), .val (.int (32 : Int32))] []))
  refine Run.step (fun t_ k_ => XS.iloadN X3.here hx rfl (hb hby d3_6) rfl k_) ?_
  show Run _ _ _ _ (T3.setTop (mkF m 7 #[.val (.ref a1), .val (.long x), .second, .val (.int (1 : Int32)), .val (.int (32 : Int32))] [(.int (1 : Int32))]))
  refine Run.step (fun t_ k_ => XS.iload X3.here hx rfl (hb hby d3_7) rfl k_) ?_
  show Run _ _ _ _ (T3.setTop (mkF m 9 #[.val (.ref a1), .val (.long x), .second, .val (.int (1 : Int32)), .val (.int (32 : Int32))] [(.int (32 : Int32)), (.int (1 : Int32))]))
  refine Run.step (fun t_ k_ => XS.icmpNo X3.here hx rfl (hb hby d3_9) rfl (XT.ii_ge_f (by decide : (1 : Int32) < (32 : Int32))) k_) ?_
  show Run _ _ _ _ (T3.setTop (mkF m 12 #[.val (.ref a1), .val (.long x), .second, .val (.int (1 : Int32)), .val (.int (32 : Int32))] []))
  refine Run.step (fun t_ k_ => XS.aloadN X3.here hx rfl (hb hby d3_12) rfl rfl k_) ?_
  show Run _ _ _ _ (T3.setTop (mkF m 13 #[.val (.ref a1), .val (.long x), .second, .val (.int (1 : Int32)), .val (.int (32 : Int32))] [(.ref a1)]))
  refine Run.step (fun t_ k_ => XS.iloadN X3.here hx rfl (hb hby d3_13) rfl k_) ?_
  show Run _ _ _ _ (T3.setTop (mkF m 14 #[.val (.ref a1), .val (.long x), .second, .val (.int (1 : Int32)), .val (.int (32 : Int32))] [(.int (1 : Int32)), (.ref a1)]))
  refine Run.step (fun t_ k_ => XS.lloadN X3.here hx rfl (hb hby d3_14) rfl k_) ?_
  show Run _ _ _ _ (T3.setTop (mkF m 15 #[.val (.ref a1), .val (.long x), .second, .val (.int (1 : Int32)), .val (.int (32 : Int32))] [(.long x), (.int (1 : Int32)), (.ref a1)]))
  obtain ⟨cl9, Ar9, q9, S9, M9, H9, U9⟩ := id f4
  have hin10 : ¬ ((1 : Int32) < 0 ∨ cl9.slots.size ≤ ((1 : Int32)).toNatClampNeg) := inb_of S9 ⟨by decide, by decide⟩
  obtain ⟨T10, h10, X10, e10, W10, st10⟩ := stJ X3 hx hZ e3 Ar9 (j := (1 : Int32)) hin10 (g := (mkF m 15 #[.val (.ref a1), .val (.long x), .second, .val (.int (1 : Int32)), .val (.int (32 : Int32))] [(.long x), (.int (1 : Int32)), (.ref a1)])) rfl rfl (hb hby d3_15)
  refine Run.step st10 ?_
  have f11 : Arv Z h10 a1 k .long (32 : Int32) [(.long x), (.long x), (.long (0 : Int64)), (.long (0 : Int64)), (.long (0 : Int64)), (.long (0 : Int64)), (.long (0 : Int64)), (.long (0 : Int64)), (.long (0 : Int64)), (.long (0 : Int64)), (.long (0 : Int64)), (.long (0 : Int64)), (.long (0 : Int64)), (.long (0 : Int64)), (.long (0 : Int64)), (.long (0 : Int64)), (.long (0 : Int64)), (.long (0 : Int64)), (.long (0 : Int64)), (.long (0 : Int64)), (.long (0 : Int64)), (.long (0 : Int64)), (.long (0 : Int64)), (.long (0 : Int64)), (.long (0 : Int64)), (.long (0 : Int64)), (.long (0 : Int64)), (.long (0 : Int64)), (.long (0 : Int64)), (.long (0 : Int64)), (.long (0 : Int64)), (.long (0 : Int64))] (.long (0 : Int64)) := Arv.set Ar9 q9 S9 M9 H9 U9 rfl W10 1 rfl (Nat.le_of_ble_eq_true rfl)
  have z13 := Nat.le_trans z6 (Keep.of_wr W10).1
  have K14 := K7.wr W10 (Or.inl (List.mem_of_getElem? (i := 0) rfl))
  have N15 := Fr.snoc X10 N8 g1
  show Run _ _ _ _ (T10.setTop (mkF m 16 #[.val (.ref a1), .val (.long x), .second, .val (.int (1 : Int32)), .val (.int (32 : Int32))] []))
  refine Run.step (fun t_ k_ => XS.iinc X10.here hx rfl (hb hby d3_16) rfl (l' := #[.val (.ref a1), .val (.long x), .second, .val (.int (2 : Int32)), .val (.int (32 : Int32))]) rfl k_) ?_
  show Run _ _ _ _ (T10.setTop (mkF m 19 #[.val (.ref a1), .val (.long x), .second, .val (.int (2 : Int32)), .val (.int (32 : Int32))] []))
  refine Run.step (fun t_ k_ => XS.goto X10.here hx rfl (pc0 := 19) (pc' := 6) rfl (hb hby d3_19) (by decide) (by decide) k_) ?_
  show Run _ _ _ _ (T10.setTop (mkF m 6 #[.val (.ref a1), .val (.long x), .second, .val (.int (2 : Int32)), .val (.int (32 : Int32))] []))
  refine Run.step (fun t_ k_ => XS.iloadN X10.here hx rfl (hb hby d3_6) rfl k_) ?_
  show Run _ _ _ _ (T10.setTop (mkF m 7 #[.val (.ref a1), .val (.long x), .second, .val (.int (2 : Int32)), .val (.int (32 : Int32))] [(.int (2 : Int32))]))
  refine Run.step (fun t_ k_ => XS.iload X10.here hx rfl (hb hby d3_7) rfl k_) ?_
  show Run _ _ _ _ (T10.setTop (mkF m 9 #[.val (.ref a1), .val (.long x), .second, .val (.int (2 : Int32)), .val (.int (32 : Int32))] [(.int (32 : Int32)), (.int (2 : Int32))]))
  refine Run.step (fun t_ k_ => XS.icmpNo X10.here hx rfl (hb hby d3_9) rfl (XT.ii_ge_f (by decide : (2 : Int32) < (32 : Int32))) k_) ?_
  show Run _ _ _ _ (T10.setTop (mkF m 12 #[.val (.ref a1), .val (.long x), .second, .val (.int (2 : Int32)), .val (.int (32 : Int32))] []))
  refine Run.step (fun t_ k_ => XS.aloadN X10.here hx rfl (hb hby d3_12) rfl rfl k_) ?_
  show Run _ _ _ _ (T10.setTop (mkF m 13 #[.val (.ref a1), .val (.long x), .second, .val (.int (2 : Int32)), .val (.int (32 : Int32))] [(.ref a1)]))
  refine Run.step (fun t_ k_ => XS.iloadN X10.here hx rfl (hb hby d3_13) rfl k_) ?_
  show Run _ _ _ _ (T10.setTop (mkF m 14 #[.val (.ref a1), .val (.long x), .second, .val (.int (2 : Int32)), .val (.int (32 : Int32))] [(.int (2 : Int32)), (.ref a1)]))
  refine Run.step (fun t_ k_ => XS.lloadN X10.here hx rfl (hb hby d3_14) rfl k_) ?_
  show Run _ _ _ _ (T10.setTop (mkF m 15 #[.val (.ref a1), .val (.long x), .second, .val (.int (2 : Int32)), .val (.int (32 : Int32))] [(.long x), (.int (2 : Int32)), (.ref a1)]))
  obtain ⟨cl16, Ar16, q16, S16, M16, H16, U16⟩ := id f11
  have hin17 : ¬ ((2 : Int32) < 0 ∨ cl16.slots.size ≤ ((2 : Int32)).toNatClampNeg) := inb_of S16 ⟨by decide, by decide⟩
  obtain ⟨T17, h17, X17, e17, W17, st17⟩ := stJ X10 hx hZ e10 Ar16 (j := (2 : Int32)) hin17 (g := (mkF m 15 #[.val (.ref a1), .val (.long x), .second, .val (.int (2 : Int32)), .val (.int (32 : Int32))] [(.long x), (.int (2 : Int32)), (.ref a1)])) rfl rfl (hb hby d3_15)
  refine Run.step st17 ?_
  have f18 : Arv Z h17 a1 k .long (32 : Int32) [(.long x), (.long x), (.long x), (.long (0 : Int64)), (.long (0 : Int64)), (.long (0 : Int64)), (.long (0 : Int64)), (.long (0 : Int64)), (.long (0 : Int64)), (.long (0 : Int64)), (.long (0 : Int64)), (.long (0 : Int64)), (.long (0 : Int64)), (.long (0 : Int64)), (.long (0 : Int64)), (.long (0 : Int64)), (.long (0 : Int64)), (.long (0 : Int64)), (.long (0 : Int64)), (.long (0 : Int64)), (.long (0 : Int64)), (.long (0 : Int64)), (.long (0 : Int64)), (.long (0 : Int64)), (.long (0 : Int64)), (.long (0 : Int64)), (.long (0 : Int64)), (.long (0 : Int64)), (.long (0 : Int64)), (.long (0 : Int64)), (.long (0 : Int64)), (.long (0 : Int64))] (.long (0 : Int64)) := Arv.set Ar16 q16 S16 M16 H16 U16 rfl W17 2 rfl (Nat.le_of_ble_eq_true rfl)
  have z20 := Nat.le_trans z13 (Keep.of_wr W17).1
  have K21 := K14.wr W17 (Or.inl (List.mem_of_getElem? (i := 0) rfl))
  have N22 := Fr.snoc X17 N15 g1
  show Run _ _ _ _ (T17.setTop (mkF m 16 #[.val (.ref a1), .val (.long x), .second, .val (.int (2 : Int32)), .val (.int (32 : Int32))] []))
  refine Run.step (fun t_ k_ => XS.iinc X17.here hx rfl (hb hby d3_16) rfl (l' := #[.val (.ref a1), .val (.long x), .second, .val (.int (3 : Int32)), .val (.int (32 : Int32))]) rfl k_) ?_
  show Run _ _ _ _ (T17.setTop (mkF m 19 #[.val (.ref a1), .val (.long x), .second, .val (.int (3 : Int32)), .val (.int (32 : Int32))] []))
  refine Run.step (fun t_ k_ => XS.goto X17.here hx rfl (pc0 := 19) (pc' := 6) rfl (hb hby d3_19) (by decide) (by decide) k_) ?_
  show Run _ _ _ _ (T17.setTop (mkF m 6 #[.val (.ref a1), .val (.long x), .second, .val (.int (3 : Int32)), .val (.int (32 : Int32))] []))
  refine Run.step (fun t_ k_ => XS.iloadN X17.here hx rfl (hb hby d3_6) rfl k_) ?_
  show Run _ _ _ _ (T17.setTop (mkF m 7 #[.val (.ref a1), .val (.long x), .second, .val (.int (3 : Int32)), .val (.int (32 : Int32))] [(.int (3 : Int32))]))
  refine Run.step (fun t_ k_ => XS.iload X17.here hx rfl (hb hby d3_7) rfl k_) ?_
  show Run _ _ _ _ (T17.setTop (mkF m 9 #[.val (.ref a1), .val (.long x), .second, .val (.int (3 : Int32)), .val (.int (32 : Int32))] [(.int (32 : Int32)), (.int (3 : Int32))]))
  refine Run.step (fun t_ k_ => XS.icmpNo X17.here hx rfl (hb hby d3_9) rfl (XT.ii_ge_f (by decide : (3 : Int32) < (32 : Int32))) k_) ?_
  show Run _ _ _ _ (T17.setTop (mkF m 12 #[.val (.ref a1), .val (.long x), .second, .val (.int (3 : Int32)), .val (.int (32 : Int32))] []))
  refine Run.step (fun t_ k_ => XS.aloadN X17.here hx rfl (hb hby d3_12) rfl rfl k_) ?_
  show Run _ _ _ _ (T17.setTop (mkF m 13 #[.val (.ref a1), .val (.long x), .second, .val (.int (3 : Int32)), .val (.int (32 : Int32))] [(.ref a1)]))
  refine Run.step (fun t_ k_ => XS.iloadN X17.here hx rfl (hb hby d3_13) rfl k_) ?_
  show Run _ _ _ _ (T17.setTop (mkF m 14 #[.val (.ref a1), .val (.long x), .second, .val (.int (3 : Int32)), .val (.int (32 : Int32))] [(.int (3 : Int32)), (.ref a1)]))
  refine Run.step (fun t_ k_ => XS.lloadN X17.here hx rfl (hb hby d3_14) rfl k_) ?_
  show Run _ _ _ _ (T17.setTop (mkF m 15 #[.val (.ref a1), .val (.long x), .second, .val (.int (3 : Int32)), .val (.int (32 : Int32))] [(.long x), (.int (3 : Int32)), (.ref a1)]))
  obtain ⟨cl23, Ar23, q23, S23, M23, H23, U23⟩ := id f18
  have hin24 : ¬ ((3 : Int32) < 0 ∨ cl23.slots.size ≤ ((3 : Int32)).toNatClampNeg) := inb_of S23 ⟨by decide, by decide⟩
  obtain ⟨T24, h24, X24, e24, W24, st24⟩ := stJ X17 hx hZ e17 Ar23 (j := (3 : Int32)) hin24 (g := (mkF m 15 #[.val (.ref a1), .val (.long x), .second, .val (.int (3 : Int32)), .val (.int (32 : Int32))] [(.long x), (.int (3 : Int32)), (.ref a1)])) rfl rfl (hb hby d3_15)
  refine Run.step st24 ?_
  have f25 : Arv Z h24 a1 k .long (32 : Int32) [(.long x), (.long x), (.long x), (.long x), (.long (0 : Int64)), (.long (0 : Int64)), (.long (0 : Int64)), (.long (0 : Int64)), (.long (0 : Int64)), (.long (0 : Int64)), (.long (0 : Int64)), (.long (0 : Int64)), (.long (0 : Int64)), (.long (0 : Int64)), (.long (0 : Int64)), (.long (0 : Int64)), (.long (0 : Int64)), (.long (0 : Int64)), (.long (0 : Int64)), (.long (0 : Int64)), (.long (0 : Int64)), (.long (0 : Int64)), (.long (0 : Int64)), (.long (0 : Int64)), (.long (0 : Int64)), (.long (0 : Int64)), (.long (0 : Int64)), (.long (0 : Int64)), (.long (0 : Int64)), (.long (0 : Int64)), (.long (0 : Int64)), (.long (0 : Int64))] (.long (0 : Int64)) := Arv.set Ar23 q23 S23 M23 H23 U23 rfl W24 3 rfl (Nat.le_of_ble_eq_true rfl)
  have z27 := Nat.le_trans z20 (Keep.of_wr W24).1
  have K28 := K21.wr W24 (Or.inl (List.mem_of_getElem? (i := 0) rfl))
  have N29 := Fr.snoc X24 N22 g1
  show Run _ _ _ _ (T24.setTop (mkF m 16 #[.val (.ref a1), .val (.long x), .second, .val (.int (3 : Int32)), .val (.int (32 : Int32))] []))
  refine Run.step (fun t_ k_ => XS.iinc X24.here hx rfl (hb hby d3_16) rfl (l' := #[.val (.ref a1), .val (.long x), .second, .val (.int (4 : Int32)), .val (.int (32 : Int32))]) rfl k_) ?_
  show Run _ _ _ _ (T24.setTop (mkF m 19 #[.val (.ref a1), .val (.long x), .second, .val (.int (4 : Int32)), .val (.int (32 : Int32))] []))
  refine Run.step (fun t_ k_ => XS.goto X24.here hx rfl (pc0 := 19) (pc' := 6) rfl (hb hby d3_19) (by decide) (by decide) k_) ?_
  show Run _ _ _ _ (T24.setTop (mkF m 6 #[.val (.ref a1), .val (.long x), .second, .val (.int (4 : Int32)), .val (.int (32 : Int32))] []))
  refine Run.step (fun t_ k_ => XS.iloadN X24.here hx rfl (hb hby d3_6) rfl k_) ?_
  show Run _ _ _ _ (T24.setTop (mkF m 7 #[.val (.ref a1), .val (.long x), .second, .val (.int (4 : Int32)), .val (.int (32 : Int32))] [(.int (4 : Int32))]))
  refine Run.step (fun t_ k_ => XS.iload X24.here hx rfl (hb hby d3_7) rfl k_) ?_
  show Run _ _ _ _ (T24.setTop (mkF m 9 #[.val (.ref a1), .val (.long x), .second, .val (.int (4 : Int32)), .val (.int (32 : Int32))] [(.int (32 : Int32)), (.int (4 : Int32))]))
  refine Run.step (fun t_ k_ => XS.icmpNo X24.here hx rfl (hb hby d3_9) rfl (XT.ii_ge_f (by decide : (4 : Int32) < (32 : Int32))) k_) ?_
  show Run _ _ _ _ (T24.setTop (mkF m 12 #[.val (.ref a1), .val (.long x), .second, .val (.int (4 : Int32)), .val (.int (32 : Int32))] []))
  refine Run.step (fun t_ k_ => XS.aloadN X24.here hx rfl (hb hby d3_12) rfl rfl k_) ?_
  show Run _ _ _ _ (T24.setTop (mkF m 13 #[.val (.ref a1), .val (.long x), .second, .val (.int (4 : Int32)), .val (.int (32 : Int32))] [(.ref a1)]))
  refine Run.step (fun t_ k_ => XS.iloadN X24.here hx rfl (hb hby d3_13) rfl k_) ?_
  show Run _ _ _ _ (T24.setTop (mkF m 14 #[.val (.ref a1), .val (.long x), .second, .val (.int (4 : Int32)), .val (.int (32 : Int32))] [(.int (4 : Int32)), (.ref a1)]))
  refine Run.step (fun t_ k_ => XS.lloadN X24.here hx rfl (hb hby d3_14) rfl k_) ?_
  show Run _ _ _ _ (T24.setTop (mkF m 15 #[.val (.ref a1), .val (.long x), .second, .val (.int (4 : Int32)), .val (.int (32 : Int32))] [(.long x), (.int (4 : Int32)), (.ref a1)]))
  obtain ⟨cl30, Ar30, q30, S30, M30, H30, U30⟩ := id f25
  have hin31 : ¬ ((4 : Int32) < 0 ∨ cl30.slots.size ≤ ((4 : Int32)).toNatClampNeg) := inb_of S30 ⟨by decide, by decide⟩
  obtain ⟨T31, h31, X31, e31, W31, st31⟩ := stJ X24 hx hZ e24 Ar30 (j := (4 : Int32)) hin31 (g := (mkF m 15 #[.val (.ref a1), .val (.long x), .second, .val (.int (4 : Int32)), .val (.int (32 : Int32))] [(.long x), (.int (4 : Int32)), (.ref a1)])) rfl rfl (hb hby d3_15)
  refine Run.step st31 ?_
  have f32 : Arv Z h31 a1 k .long (32 : Int32) [(.long x), (.long x), (.long x), (.long x), (.long x), (.long (0 : Int64)), (.long (0 : Int64)), (.long (0 : Int64)), (.long (0 : Int64)), (.long (0 : Int64)), (.long (0 : Int64)), (.long (0 : Int64)), (.long (0 : Int64)), (.long (0 : Int64)), (.long (0 : Int64)), (.long (0 : Int64)), (.long (0 : Int64)), (.long (0 : Int64)), (.long (0 : Int64)), (.long (0 : Int64)), (.long (0 : Int64)), (.long (0 : Int64)), (.long (0 : Int64)), (.long (0 : Int64)), (.long (0 : Int64)), (.long (0 : Int64)), (.long (0 : Int64)), (.long (0 : Int64)), (.long (0 : Int64)), (.long (0 : Int64)), (.long (0 : Int64)), (.long (0 : Int64))] (.long (0 : Int64)) := Arv.set Ar30 q30 S30 M30 H30 U30 rfl W31 4 rfl (Nat.le_of_ble_eq_true rfl)
  have z34 := Nat.le_trans z27 (Keep.of_wr W31).1
  have K35 := K28.wr W31 (Or.inl (List.mem_of_getElem? (i := 0) rfl))
  have N36 := Fr.snoc X31 N29 g1
  show Run _ _ _ _ (T31.setTop (mkF m 16 #[.val (.ref a1), .val (.long x), .second, .val (.int (4 : Int32)), .val (.int (32 : Int32))] []))
  refine Run.step (fun t_ k_ => XS.iinc X31.here hx rfl (hb hby d3_16) rfl (l' := #[.val (.ref a1), .val (.long x), .second, .val (.int (5 : Int32)), .val (.int (32 : Int32))]) rfl k_) ?_
  show Run _ _ _ _ (T31.setTop (mkF m 19 #[.val (.ref a1), .val (.long x), .second, .val (.int (5 : Int32)), .val (.int (32 : Int32))] []))
  refine Run.step (fun t_ k_ => XS.goto X31.here hx rfl (pc0 := 19) (pc' := 6) rfl (hb hby d3_19) (by decide) (by decide) k_) ?_
  show Run _ _ _ _ (T31.setTop (mkF m 6 #[.val (.ref a1), .val (.long x), .second, .val (.int (5 : Int32)), .val (.int (32 : Int32))] []))
  refine Run.step (fun t_ k_ => XS.iloadN X31.here hx rfl (hb hby d3_6) rfl k_) ?_
  show Run _ _ _ _ (T31.setTop (mkF m 7 #[.val (.ref a1), .val (.long x), .second, .val (.int (5 : Int32)), .val (.int (32 : Int32))] [(.int (5 : Int32))]))
  refine Run.step (fun t_ k_ => XS.iload X31.here hx rfl (hb hby d3_7) rfl k_) ?_
  show Run _ _ _ _ (T31.setTop (mkF m 9 #[.val (.ref a1), .val (.long x), .second, .val (.int (5 : Int32)), .val (.int (32 : Int32))] [(.int (32 : Int32)), (.int (5 : Int32))]))
  refine Run.step (fun t_ k_ => XS.icmpNo X31.here hx rfl (hb hby d3_9) rfl (XT.ii_ge_f (by decide : (5 : Int32) < (32 : Int32))) k_) ?_
  show Run _ _ _ _ (T31.setTop (mkF m 12 #[.val (.ref a1), .val (.long x), .second, .val (.int (5 : Int32)), .val (.int (32 : Int32))] []))
  refine Run.step (fun t_ k_ => XS.aloadN X31.here hx rfl (hb hby d3_12) rfl rfl k_) ?_
  show Run _ _ _ _ (T31.setTop (mkF m 13 #[.val (.ref a1), .val (.long x), .second, .val (.int (5 : Int32)), .val (.int (32 : Int32))] [(.ref a1)]))
  refine Run.step (fun t_ k_ => XS.iloadN X31.here hx rfl (hb hby d3_13) rfl k_) ?_
  show Run _ _ _ _ (T31.setTop (mkF m 14 #[.val (.ref a1), .val (.long x), .second, .val (.int (5 : Int32)), .val (.int (32 : Int32))] [(.int (5 : Int32)), (.ref a1)]))
  refine Run.step (fun t_ k_ => XS.lloadN X31.here hx rfl (hb hby d3_14) rfl k_) ?_
  show Run _ _ _ _ (T31.setTop (mkF m 15 #[.val (.ref a1), .val (.long x), .second, .val (.int (5 : Int32)), .val (.int (32 : Int32))] [(.long x), (.int (5 : Int32)), (.ref a1)]))
  obtain ⟨cl37, Ar37, q37, S37, M37, H37, U37⟩ := id f32
  have hin38 : ¬ ((5 : Int32) < 0 ∨ cl37.slots.size ≤ ((5 : Int32)).toNatClampNeg) := inb_of S37 ⟨by decide, by decide⟩
  obtain ⟨T38, h38, X38, e38, W38, st38⟩ := stJ X31 hx hZ e31 Ar37 (j := (5 : Int32)) hin38 (g := (mkF m 15 #[.val (.ref a1), .val (.long x), .second, .val (.int (5 : Int32)), .val (.int (32 : Int32))] [(.long x), (.int (5 : Int32)), (.ref a1)])) rfl rfl (hb hby d3_15)
  refine Run.step st38 ?_
  have f39 : Arv Z h38 a1 k .long (32 : Int32) [(.long x), (.long x), (.long x), (.long x), (.long x), (.long x), (.long (0 : Int64)), (.long (0 : Int64)), (.long (0 : Int64)), (.long (0 : Int64)), (.long (0 : Int64)), (.long (0 : Int64)), (.long (0 : Int64)), (.long (0 : Int64)), (.long (0 : Int64)), (.long (0 : Int64)), (.long (0 : Int64)), (.long (0 : Int64)), (.long (0 : Int64)), (.long (0 : Int64)), (.long (0 : Int64)), (.long (0 : Int64)), (.long (0 : Int64)), (.long (0 : Int64)), (.long (0 : Int64)), (.long (0 : Int64)), (.long (0 : Int64)), (.long (0 : Int64)), (.long (0 : Int64)), (.long (0 : Int64)), (.long (0 : Int64)), (.long (0 : Int64))] (.long (0 : Int64)) := Arv.set Ar37 q37 S37 M37 H37 U37 rfl W38 5 rfl (Nat.le_of_ble_eq_true rfl)
  have z41 := Nat.le_trans z34 (Keep.of_wr W38).1
  have K42 := K35.wr W38 (Or.inl (List.mem_of_getElem? (i := 0) rfl))
  have N43 := Fr.snoc X38 N36 g1
  show Run _ _ _ _ (T38.setTop (mkF m 16 #[.val (.ref a1), .val (.long x), .second, .val (.int (5 : Int32)), .val (.int (32 : Int32))] []))
  refine Run.step (fun t_ k_ => XS.iinc X38.here hx rfl (hb hby d3_16) rfl (l' := #[.val (.ref a1), .val (.long x), .second, .val (.int (6 : Int32)), .val (.int (32 : Int32))]) rfl k_) ?_
  show Run _ _ _ _ (T38.setTop (mkF m 19 #[.val (.ref a1), .val (.long x), .second, .val (.int (6 : Int32)), .val (.int (32 : Int32))] []))
  refine Run.step (fun t_ k_ => XS.goto X38.here hx rfl (pc0 := 19) (pc' := 6) rfl (hb hby d3_19) (by decide) (by decide) k_) ?_
  show Run _ _ _ _ (T38.setTop (mkF m 6 #[.val (.ref a1), .val (.long x), .second, .val (.int (6 : Int32)), .val (.int (32 : Int32))] []))
  refine Run.step (fun t_ k_ => XS.iloadN X38.here hx rfl (hb hby d3_6) rfl k_) ?_
  show Run _ _ _ _ (T38.setTop (mkF m 7 #[.val (.ref a1), .val (.long x), .second, .val (.int (6 : Int32)), .val (.int (32 : Int32))] [(.int (6 : Int32))]))
  refine Run.step (fun t_ k_ => XS.iload X38.here hx rfl (hb hby d3_7) rfl k_) ?_
  show Run _ _ _ _ (T38.setTop (mkF m 9 #[.val (.ref a1), .val (.long x), .second, .val (.int (6 : Int32)), .val (.int (32 : Int32))] [(.int (32 : Int32)), (.int (6 : Int32))]))
  refine Run.step (fun t_ k_ => XS.icmpNo X38.here hx rfl (hb hby d3_9) rfl (XT.ii_ge_f (by decide : (6 : Int32) < (32 : Int32))) k_) ?_
  show Run _ _ _ _ (T38.setTop (mkF m 12 #[.val (.ref a1), .val (.long x), .second, .val (.int (6 : Int32)), .val (.int (32 : Int32))] []))
  refine Run.step (fun t_ k_ => XS.aloadN X38.here hx rfl (hb hby d3_12) rfl rfl k_) ?_
  show Run _ _ _ _ (T38.setTop (mkF m 13 #[.val (.ref a1), .val (.long x), .second, .val (.int (6 : Int32)), .val (.int (32 : Int32))] [(.ref a1)]))
  refine Run.step (fun t_ k_ => XS.iloadN X38.here hx rfl (hb hby d3_13) rfl k_) ?_
  show Run _ _ _ _ (T38.setTop (mkF m 14 #[.val (.ref a1), .val (.long x), .second, .val (.int (6 : Int32)), .val (.int (32 : Int32))] [(.int (6 : Int32)), (.ref a1)]))
  refine Run.step (fun t_ k_ => XS.lloadN X38.here hx rfl (hb hby d3_14) rfl k_) ?_
  show Run _ _ _ _ (T38.setTop (mkF m 15 #[.val (.ref a1), .val (.long x), .second, .val (.int (6 : Int32)), .val (.int (32 : Int32))] [(.long x), (.int (6 : Int32)), (.ref a1)]))
  obtain ⟨cl44, Ar44, q44, S44, M44, H44, U44⟩ := id f39
  have hin45 : ¬ ((6 : Int32) < 0 ∨ cl44.slots.size ≤ ((6 : Int32)).toNatClampNeg) := inb_of S44 ⟨by decide, by decide⟩
  obtain ⟨T45, h45, X45, e45, W45, st45⟩ := stJ X38 hx hZ e38 Ar44 (j := (6 : Int32)) hin45 (g := (mkF m 15 #[.val (.ref a1), .val (.long x), .second, .val (.int (6 : Int32)), .val (.int (32 : Int32))] [(.long x), (.int (6 : Int32)), (.ref a1)])) rfl rfl (hb hby d3_15)
  refine Run.step st45 ?_
  have f46 : Arv Z h45 a1 k .long (32 : Int32) [(.long x), (.long x), (.long x), (.long x), (.long x), (.long x), (.long x), (.long (0 : Int64)), (.long (0 : Int64)), (.long (0 : Int64)), (.long (0 : Int64)), (.long (0 : Int64)), (.long (0 : Int64)), (.long (0 : Int64)), (.long (0 : Int64)), (.long (0 : Int64)), (.long (0 : Int64)), (.long (0 : Int64)), (.long (0 : Int64)), (.long (0 : Int64)), (.long (0 : Int64)), (.long (0 : Int64)), (.long (0 : Int64)), (.long (0 : Int64)), (.long (0 : Int64)), (.long (0 : Int64)), (.long (0 : Int64)), (.long (0 : Int64)), (.long (0 : Int64)), (.long (0 : Int64)), (.long (0 : Int64)), (.long (0 : Int64))] (.long (0 : Int64)) := Arv.set Ar44 q44 S44 M44 H44 U44 rfl W45 6 rfl (Nat.le_of_ble_eq_true rfl)
  have z48 := Nat.le_trans z41 (Keep.of_wr W45).1
  have K49 := K42.wr W45 (Or.inl (List.mem_of_getElem? (i := 0) rfl))
  have N50 := Fr.snoc X45 N43 g1
  show Run _ _ _ _ (T45.setTop (mkF m 16 #[.val (.ref a1), .val (.long x), .second, .val (.int (6 : Int32)), .val (.int (32 : Int32))] []))
  refine Run.step (fun t_ k_ => XS.iinc X45.here hx rfl (hb hby d3_16) rfl (l' := #[.val (.ref a1), .val (.long x), .second, .val (.int (7 : Int32)), .val (.int (32 : Int32))]) rfl k_) ?_
  show Run _ _ _ _ (T45.setTop (mkF m 19 #[.val (.ref a1), .val (.long x), .second, .val (.int (7 : Int32)), .val (.int (32 : Int32))] []))
  refine Run.step (fun t_ k_ => XS.goto X45.here hx rfl (pc0 := 19) (pc' := 6) rfl (hb hby d3_19) (by decide) (by decide) k_) ?_
  show Run _ _ _ _ (T45.setTop (mkF m 6 #[.val (.ref a1), .val (.long x), .second, .val (.int (7 : Int32)), .val (.int (32 : Int32))] []))
  refine Run.step (fun t_ k_ => XS.iloadN X45.here hx rfl (hb hby d3_6) rfl k_) ?_
  show Run _ _ _ _ (T45.setTop (mkF m 7 #[.val (.ref a1), .val (.long x), .second, .val (.int (7 : Int32)), .val (.int (32 : Int32))] [(.int (7 : Int32))]))
  refine Run.step (fun t_ k_ => XS.iload X45.here hx rfl (hb hby d3_7) rfl k_) ?_
  show Run _ _ _ _ (T45.setTop (mkF m 9 #[.val (.ref a1), .val (.long x), .second, .val (.int (7 : Int32)), .val (.int (32 : Int32))] [(.int (32 : Int32)), (.int (7 : Int32))]))
  refine Run.step (fun t_ k_ => XS.icmpNo X45.here hx rfl (hb hby d3_9) rfl (XT.ii_ge_f (by decide : (7 : Int32) < (32 : Int32))) k_) ?_
  show Run _ _ _ _ (T45.setTop (mkF m 12 #[.val (.ref a1), .val (.long x), .second, .val (.int (7 : Int32)), .val (.int (32 : Int32))] []))
  refine Run.step (fun t_ k_ => XS.aloadN X45.here hx rfl (hb hby d3_12) rfl rfl k_) ?_
  show Run _ _ _ _ (T45.setTop (mkF m 13 #[.val (.ref a1), .val (.long x), .second, .val (.int (7 : Int32)), .val (.int (32 : Int32))] [(.ref a1)]))
  refine Run.step (fun t_ k_ => XS.iloadN X45.here hx rfl (hb hby d3_13) rfl k_) ?_
  show Run _ _ _ _ (T45.setTop (mkF m 14 #[.val (.ref a1), .val (.long x), .second, .val (.int (7 : Int32)), .val (.int (32 : Int32))] [(.int (7 : Int32)), (.ref a1)]))
  refine Run.step (fun t_ k_ => XS.lloadN X45.here hx rfl (hb hby d3_14) rfl k_) ?_
  show Run _ _ _ _ (T45.setTop (mkF m 15 #[.val (.ref a1), .val (.long x), .second, .val (.int (7 : Int32)), .val (.int (32 : Int32))] [(.long x), (.int (7 : Int32)), (.ref a1)]))
  obtain ⟨cl51, Ar51, q51, S51, M51, H51, U51⟩ := id f46
  have hin52 : ¬ ((7 : Int32) < 0 ∨ cl51.slots.size ≤ ((7 : Int32)).toNatClampNeg) := inb_of S51 ⟨by decide, by decide⟩
  obtain ⟨T52, h52, X52, e52, W52, st52⟩ := stJ X45 hx hZ e45 Ar51 (j := (7 : Int32)) hin52 (g := (mkF m 15 #[.val (.ref a1), .val (.long x), .second, .val (.int (7 : Int32)), .val (.int (32 : Int32))] [(.long x), (.int (7 : Int32)), (.ref a1)])) rfl rfl (hb hby d3_15)
  refine Run.step st52 ?_
  have f53 : Arv Z h52 a1 k .long (32 : Int32) [(.long x), (.long x), (.long x), (.long x), (.long x), (.long x), (.long x), (.long x), (.long (0 : Int64)), (.long (0 : Int64)), (.long (0 : Int64)), (.long (0 : Int64)), (.long (0 : Int64)), (.long (0 : Int64)), (.long (0 : Int64)), (.long (0 : Int64)), (.long (0 : Int64)), (.long (0 : Int64)), (.long (0 : Int64)), (.long (0 : Int64)), (.long (0 : Int64)), (.long (0 : Int64)), (.long (0 : Int64)), (.long (0 : Int64)), (.long (0 : Int64)), (.long (0 : Int64)), (.long (0 : Int64)), (.long (0 : Int64)), (.long (0 : Int64)), (.long (0 : Int64)), (.long (0 : Int64)), (.long (0 : Int64))] (.long (0 : Int64)) := Arv.set Ar51 q51 S51 M51 H51 U51 rfl W52 7 rfl (Nat.le_of_ble_eq_true rfl)
  have z55 := Nat.le_trans z48 (Keep.of_wr W52).1
  have K56 := K49.wr W52 (Or.inl (List.mem_of_getElem? (i := 0) rfl))
  have N57 := Fr.snoc X52 N50 g1
  show Run _ _ _ _ (T52.setTop (mkF m 16 #[.val (.ref a1), .val (.long x), .second, .val (.int (7 : Int32)), .val (.int (32 : Int32))] []))
  refine Run.step (fun t_ k_ => XS.iinc X52.here hx rfl (hb hby d3_16) rfl (l' := #[.val (.ref a1), .val (.long x), .second, .val (.int (8 : Int32)), .val (.int (32 : Int32))]) rfl k_) ?_
  show Run _ _ _ _ (T52.setTop (mkF m 19 #[.val (.ref a1), .val (.long x), .second, .val (.int (8 : Int32)), .val (.int (32 : Int32))] []))
  refine Run.step (fun t_ k_ => XS.goto X52.here hx rfl (pc0 := 19) (pc' := 6) rfl (hb hby d3_19) (by decide) (by decide) k_) ?_
  show Run _ _ _ _ (T52.setTop (mkF m 6 #[.val (.ref a1), .val (.long x), .second, .val (.int (8 : Int32)), .val (.int (32 : Int32))] []))
  refine Run.step (fun t_ k_ => XS.iloadN X52.here hx rfl (hb hby d3_6) rfl k_) ?_
  show Run _ _ _ _ (T52.setTop (mkF m 7 #[.val (.ref a1), .val (.long x), .second, .val (.int (8 : Int32)), .val (.int (32 : Int32))] [(.int (8 : Int32))]))
  refine Run.step (fun t_ k_ => XS.iload X52.here hx rfl (hb hby d3_7) rfl k_) ?_
  show Run _ _ _ _ (T52.setTop (mkF m 9 #[.val (.ref a1), .val (.long x), .second, .val (.int (8 : Int32)), .val (.int (32 : Int32))] [(.int (32 : Int32)), (.int (8 : Int32))]))
  refine Run.step (fun t_ k_ => XS.icmpNo X52.here hx rfl (hb hby d3_9) rfl (XT.ii_ge_f (by decide : (8 : Int32) < (32 : Int32))) k_) ?_
  show Run _ _ _ _ (T52.setTop (mkF m 12 #[.val (.ref a1), .val (.long x), .second, .val (.int (8 : Int32)), .val (.int (32 : Int32))] []))
  refine Run.step (fun t_ k_ => XS.aloadN X52.here hx rfl (hb hby d3_12) rfl rfl k_) ?_
  show Run _ _ _ _ (T52.setTop (mkF m 13 #[.val (.ref a1), .val (.long x), .second, .val (.int (8 : Int32)), .val (.int (32 : Int32))] [(.ref a1)]))
  refine Run.step (fun t_ k_ => XS.iloadN X52.here hx rfl (hb hby d3_13) rfl k_) ?_
  show Run _ _ _ _ (T52.setTop (mkF m 14 #[.val (.ref a1), .val (.long x), .second, .val (.int (8 : Int32)), .val (.int (32 : Int32))] [(.int (8 : Int32)), (.ref a1)]))
  refine Run.step (fun t_ k_ => XS.lloadN X52.here hx rfl (hb hby d3_14) rfl k_) ?_
  show Run _ _ _ _ (T52.setTop (mkF m 15 #[.val (.ref a1), .val (.long x), .second, .val (.int (8 : Int32)), .val (.int (32 : Int32))] [(.long x), (.int (8 : Int32)), (.ref a1)]))
  obtain ⟨cl58, Ar58, q58, S58, M58, H58, U58⟩ := id f53
  have hin59 : ¬ ((8 : Int32) < 0 ∨ cl58.slots.size ≤ ((8 : Int32)).toNatClampNeg) := inb_of S58 ⟨by decide, by decide⟩
  obtain ⟨T59, h59, X59, e59, W59, st59⟩ := stJ X52 hx hZ e52 Ar58 (j := (8 : Int32)) hin59 (g := (mkF m 15 #[.val (.ref a1), .val (.long x), .second, .val (.int (8 : Int32)), .val (.int (32 : Int32))] [(.long x), (.int (8 : Int32)), (.ref a1)])) rfl rfl (hb hby d3_15)
  refine Run.step st59 ?_
  have f60 : Arv Z h59 a1 k .long (32 : Int32) [(.long x), (.long x), (.long x), (.long x), (.long x), (.long x), (.long x), (.long x), (.long x), (.long (0 : Int64)), (.long (0 : Int64)), (.long (0 : Int64)), (.long (0 : Int64)), (.long (0 : Int64)), (.long (0 : Int64)), (.long (0 : Int64)), (.long (0 : Int64)), (.long (0 : Int64)), (.long (0 : Int64)), (.long (0 : Int64)), (.long (0 : Int64)), (.long (0 : Int64)), (.long (0 : Int64)), (.long (0 : Int64)), (.long (0 : Int64)), (.long (0 : Int64)), (.long (0 : Int64)), (.long (0 : Int64)), (.long (0 : Int64)), (.long (0 : Int64)), (.long (0 : Int64)), (.long (0 : Int64))] (.long (0 : Int64)) := Arv.set Ar58 q58 S58 M58 H58 U58 rfl W59 8 rfl (Nat.le_of_ble_eq_true rfl)
  have z62 := Nat.le_trans z55 (Keep.of_wr W59).1
  have K63 := K56.wr W59 (Or.inl (List.mem_of_getElem? (i := 0) rfl))
  have N64 := Fr.snoc X59 N57 g1
  show Run _ _ _ _ (T59.setTop (mkF m 16 #[.val (.ref a1), .val (.long x), .second, .val (.int (8 : Int32)), .val (.int (32 : Int32))] []))
  refine Run.step (fun t_ k_ => XS.iinc X59.here hx rfl (hb hby d3_16) rfl (l' := #[.val (.ref a1), .val (.long x), .second, .val (.int (9 : Int32)), .val (.int (32 : Int32))]) rfl k_) ?_
  show Run _ _ _ _ (T59.setTop (mkF m 19 #[.val (.ref a1), .val (.long x), .second, .val (.int (9 : Int32)), .val (.int (32 : Int32))] []))
  refine Run.step (fun t_ k_ => XS.goto X59.here hx rfl (pc0 := 19) (pc' := 6) rfl (hb hby d3_19) (by decide) (by decide) k_) ?_
  show Run _ _ _ _ (T59.setTop (mkF m 6 #[.val (.ref a1), .val (.long x), .second, .val (.int (9 : Int32)), .val (.int (32 : Int32))] []))
  refine Run.step (fun t_ k_ => XS.iloadN X59.here hx rfl (hb hby d3_6) rfl k_) ?_
  show Run _ _ _ _ (T59.setTop (mkF m 7 #[.val (.ref a1), .val (.long x), .second, .val (.int (9 : Int32)), .val (.int (32 : Int32))] [(.int (9 : Int32))]))
  refine Run.step (fun t_ k_ => XS.iload X59.here hx rfl (hb hby d3_7) rfl k_) ?_
  show Run _ _ _ _ (T59.setTop (mkF m 9 #[.val (.ref a1), .val (.long x), .second, .val (.int (9 : Int32)), .val (.int (32 : Int32))] [(.int (32 : Int32)), (.int (9 : Int32))]))
  refine Run.step (fun t_ k_ => XS.icmpNo X59.here hx rfl (hb hby d3_9) rfl (XT.ii_ge_f (by decide : (9 : Int32) < (32 : Int32))) k_) ?_
  show Run _ _ _ _ (T59.setTop (mkF m 12 #[.val (.ref a1), .val (.long x), .second, .val (.int (9 : Int32)), .val (.int (32 : Int32))] []))
  refine Run.step (fun t_ k_ => XS.aloadN X59.here hx rfl (hb hby d3_12) rfl rfl k_) ?_
  show Run _ _ _ _ (T59.setTop (mkF m 13 #[.val (.ref a1), .val (.long x), .second, .val (.int (9 : Int32)), .val (.int (32 : Int32))] [(.ref a1)]))
  refine Run.step (fun t_ k_ => XS.iloadN X59.here hx rfl (hb hby d3_13) rfl k_) ?_
  show Run _ _ _ _ (T59.setTop (mkF m 14 #[.val (.ref a1), .val (.long x), .second, .val (.int (9 : Int32)), .val (.int (32 : Int32))] [(.int (9 : Int32)), (.ref a1)]))
  refine Run.step (fun t_ k_ => XS.lloadN X59.here hx rfl (hb hby d3_14) rfl k_) ?_
  show Run _ _ _ _ (T59.setTop (mkF m 15 #[.val (.ref a1), .val (.long x), .second, .val (.int (9 : Int32)), .val (.int (32 : Int32))] [(.long x), (.int (9 : Int32)), (.ref a1)]))
  obtain ⟨cl65, Ar65, q65, S65, M65, H65, U65⟩ := id f60
  have hin66 : ¬ ((9 : Int32) < 0 ∨ cl65.slots.size ≤ ((9 : Int32)).toNatClampNeg) := inb_of S65 ⟨by decide, by decide⟩
  obtain ⟨T66, h66, X66, e66, W66, st66⟩ := stJ X59 hx hZ e59 Ar65 (j := (9 : Int32)) hin66 (g := (mkF m 15 #[.val (.ref a1), .val (.long x), .second, .val (.int (9 : Int32)), .val (.int (32 : Int32))] [(.long x), (.int (9 : Int32)), (.ref a1)])) rfl rfl (hb hby d3_15)
  refine Run.step st66 ?_
  have f67 : Arv Z h66 a1 k .long (32 : Int32) [(.long x), (.long x), (.long x), (.long x), (.long x), (.long x), (.long x), (.long x), (.long x), (.long x), (.long (0 : Int64)), (.long (0 : Int64)), (.long (0 : Int64)), (.long (0 : Int64)), (.long (0 : Int64)), (.long (0 : Int64)), (.long (0 : Int64)), (.long (0 : Int64)), (.long (0 : Int64)), (.long (0 : Int64)), (.long (0 : Int64)), (.long (0 : Int64)), (.long (0 : Int64)), (.long (0 : Int64)), (.long (0 : Int64)), (.long (0 : Int64)), (.long (0 : Int64)), (.long (0 : Int64)), (.long (0 : Int64)), (.long (0 : Int64)), (.long (0 : Int64)), (.long (0 : Int64))] (.long (0 : Int64)) := Arv.set Ar65 q65 S65 M65 H65 U65 rfl W66 9 rfl (Nat.le_of_ble_eq_true rfl)
  have z69 := Nat.le_trans z62 (Keep.of_wr W66).1
  have K70 := K63.wr W66 (Or.inl (List.mem_of_getElem? (i := 0) rfl))
  have N71 := Fr.snoc X66 N64 g1
  show Run _ _ _ _ (T66.setTop (mkF m 16 #[.val (.ref a1), .val (.long x), .second, .val (.int (9 : Int32)), .val (.int (32 : Int32))] []))
  refine Run.step (fun t_ k_ => XS.iinc X66.here hx rfl (hb hby d3_16) rfl (l' := #[.val (.ref a1), .val (.long x), .second, .val (.int (10 : Int32)), .val (.int (32 : Int32))]) rfl k_) ?_
  show Run _ _ _ _ (T66.setTop (mkF m 19 #[.val (.ref a1), .val (.long x), .second, .val (.int (10 : Int32)), .val (.int (32 : Int32))] []))
  refine Run.step (fun t_ k_ => XS.goto X66.here hx rfl (pc0 := 19) (pc' := 6) rfl (hb hby d3_19) (by decide) (by decide) k_) ?_
  show Run _ _ _ _ (T66.setTop (mkF m 6 #[.val (.ref a1), .val (.long x), .second, .val (.int (10 : Int32)), .val (.int (32 : Int32))] []))
  refine Run.step (fun t_ k_ => XS.iloadN X66.here hx rfl (hb hby d3_6) rfl k_) ?_
  show Run _ _ _ _ (T66.setTop (mkF m 7 #[.val (.ref a1), .val (.long x), .second, .val (.int (10 : Int32)), .val (.int (32 : Int32))] [(.int (10 : Int32))]))
  refine Run.step (fun t_ k_ => XS.iload X66.here hx rfl (hb hby d3_7) rfl k_) ?_
  show Run _ _ _ _ (T66.setTop (mkF m 9 #[.val (.ref a1), .val (.long x), .second, .val (.int (10 : Int32)), .val (.int (32 : Int32))] [(.int (32 : Int32)), (.int (10 : Int32))]))
  refine Run.step (fun t_ k_ => XS.icmpNo X66.here hx rfl (hb hby d3_9) rfl (XT.ii_ge_f (by decide : (10 : Int32) < (32 : Int32))) k_) ?_
  show Run _ _ _ _ (T66.setTop (mkF m 12 #[.val (.ref a1), .val (.long x), .second, .val (.int (10 : Int32)), .val (.int (32 : Int32))] []))
  refine Run.step (fun t_ k_ => XS.aloadN X66.here hx rfl (hb hby d3_12) rfl rfl k_) ?_
  show Run _ _ _ _ (T66.setTop (mkF m 13 #[.val (.ref a1), .val (.long x), .second, .val (.int (10 : Int32)), .val (.int (32 : Int32))] [(.ref a1)]))
  refine Run.step (fun t_ k_ => XS.iloadN X66.here hx rfl (hb hby d3_13) rfl k_) ?_
  show Run _ _ _ _ (T66.setTop (mkF m 14 #[.val (.ref a1), .val (.long x), .second, .val (.int (10 : Int32)), .val (.int (32 : Int32))] [(.int (10 : Int32)), (.ref a1)]))
  refine Run.step (fun t_ k_ => XS.lloadN X66.here hx rfl (hb hby d3_14) rfl k_) ?_
  show Run _ _ _ _ (T66.setTop (mkF m 15 #[.val (.ref a1), .val (.long x), .second, .val (.int (10 : Int32)), .val (.int (32 : Int32))] [(.long x), (.int (10 : Int32)), (.ref a1)]))
  obtain ⟨cl72, Ar72, q72, S72, M72, H72, U72⟩ := id f67
  have hin73 : ¬ ((10 : Int32) < 0 ∨ cl72.slots.size ≤ ((10 : Int32)).toNatClampNeg) := inb_of S72 ⟨by decide, by decide⟩
  obtain ⟨T73, h73, X73, e73, W73, st73⟩ := stJ X66 hx hZ e66 Ar72 (j := (10 : Int32)) hin73 (g := (mkF m 15 #[.val (.ref a1), .val (.long x), .second, .val (.int (10 : Int32)), .val (.int (32 : Int32))] [(.long x), (.int (10 : Int32)), (.ref a1)])) rfl rfl (hb hby d3_15)
  refine Run.step st73 ?_
  have f74 : Arv Z h73 a1 k .long (32 : Int32) [(.long x), (.long x), (.long x), (.long x), (.long x), (.long x), (.long x), (.long x), (.long x), (.long x), (.long x), (.long (0 : Int64)), (.long (0 : Int64)), (.long (0 : Int64)), (.long (0 : Int64)), (.long (0 : Int64)), (.long (0 : Int64)), (.long (0 : Int64)), (.long (0 : Int64)), (.long (0 : Int64)), (.long (0 : Int64)), (.long (0 : Int64)), (.long (0 : Int64)), (.long (0 : Int64)), (.long (0 : Int64)), (.long (0 : Int64)), (.long (0 : Int64)), (.long (0 : Int64)), (.long (0 : Int64)), (.long (0 : Int64)), (.long (0 : Int64)), (.long (0 : Int64))] (.long (0 : Int64)) := Arv.set Ar72 q72 S72 M72 H72 U72 rfl W73 10 rfl (Nat.le_of_ble_eq_true rfl)
  have z76 := Nat.le_trans z69 (Keep.of_wr W73).1
  have K77 := K70.wr W73 (Or.inl (List.mem_of_getElem? (i := 0) rfl))
  have N78 := Fr.snoc X73 N71 g1
  show Run _ _ _ _ (T73.setTop (mkF m 16 #[.val (.ref a1), .val (.long x), .second, .val (.int (10 : Int32)), .val (.int (32 : Int32))] []))
  refine Run.step (fun t_ k_ => XS.iinc X73.here hx rfl (hb hby d3_16) rfl (l' := #[.val (.ref a1), .val (.long x), .second, .val (.int (11 : Int32)), .val (.int (32 : Int32))]) rfl k_) ?_
  show Run _ _ _ _ (T73.setTop (mkF m 19 #[.val (.ref a1), .val (.long x), .second, .val (.int (11 : Int32)), .val (.int (32 : Int32))] []))
  refine Run.step (fun t_ k_ => XS.goto X73.here hx rfl (pc0 := 19) (pc' := 6) rfl (hb hby d3_19) (by decide) (by decide) k_) ?_
  show Run _ _ _ _ (T73.setTop (mkF m 6 #[.val (.ref a1), .val (.long x), .second, .val (.int (11 : Int32)), .val (.int (32 : Int32))] []))
  refine Run.step (fun t_ k_ => XS.iloadN X73.here hx rfl (hb hby d3_6) rfl k_) ?_
  show Run _ _ _ _ (T73.setTop (mkF m 7 #[.val (.ref a1), .val (.long x), .second, .val (.int (11 : Int32)), .val (.int (32 : Int32))] [(.int (11 : Int32))]))
  refine Run.step (fun t_ k_ => XS.iload X73.here hx rfl (hb hby d3_7) rfl k_) ?_
  show Run _ _ _ _ (T73.setTop (mkF m 9 #[.val (.ref a1), .val (.long x), .second, .val (.int (11 : Int32)), .val (.int (32 : Int32))] [(.int (32 : Int32)), (.int (11 : Int32))]))
  refine Run.step (fun t_ k_ => XS.icmpNo X73.here hx rfl (hb hby d3_9) rfl (XT.ii_ge_f (by decide : (11 : Int32) < (32 : Int32))) k_) ?_
  show Run _ _ _ _ (T73.setTop (mkF m 12 #[.val (.ref a1), .val (.long x), .second, .val (.int (11 : Int32)), .val (.int (32 : Int32))] []))
  refine Run.step (fun t_ k_ => XS.aloadN X73.here hx rfl (hb hby d3_12) rfl rfl k_) ?_
  show Run _ _ _ _ (T73.setTop (mkF m 13 #[.val (.ref a1), .val (.long x), .second, .val (.int (11 : Int32)), .val (.int (32 : Int32))] [(.ref a1)]))
  refine Run.step (fun t_ k_ => XS.iloadN X73.here hx rfl (hb hby d3_13) rfl k_) ?_
  show Run _ _ _ _ (T73.setTop (mkF m 14 #[.val (.ref a1), .val (.long x), .second, .val (.int (11 : Int32)), .val (.int (32 : Int32))] [(.int (11 : Int32)), (.ref a1)]))
  refine Run.step (fun t_ k_ => XS.lloadN X73.here hx rfl (hb hby d3_14) rfl k_) ?_
  show Run _ _ _ _ (T73.setTop (mkF m 15 #[.val (.ref a1), .val (.long x), .second, .val (.int (11 : Int32)), .val (.int (32 : Int32))] [(.long x), (.int (11 : Int32)), (.ref a1)]))
  obtain ⟨cl79, Ar79, q79, S79, M79, H79, U79⟩ := id f74
  have hin80 : ¬ ((11 : Int32) < 0 ∨ cl79.slots.size ≤ ((11 : Int32)).toNatClampNeg) := inb_of S79 ⟨by decide, by decide⟩
  obtain ⟨T80, h80, X80, e80, W80, st80⟩ := stJ X73 hx hZ e73 Ar79 (j := (11 : Int32)) hin80 (g := (mkF m 15 #[.val (.ref a1), .val (.long x), .second, .val (.int (11 : Int32)), .val (.int (32 : Int32))] [(.long x), (.int (11 : Int32)), (.ref a1)])) rfl rfl (hb hby d3_15)
  refine Run.step st80 ?_
  have f81 : Arv Z h80 a1 k .long (32 : Int32) [(.long x), (.long x), (.long x), (.long x), (.long x), (.long x), (.long x), (.long x), (.long x), (.long x), (.long x), (.long x), (.long (0 : Int64)), (.long (0 : Int64)), (.long (0 : Int64)), (.long (0 : Int64)), (.long (0 : Int64)), (.long (0 : Int64)), (.long (0 : Int64)), (.long (0 : Int64)), (.long (0 : Int64)), (.long (0 : Int64)), (.long (0 : Int64)), (.long (0 : Int64)), (.long (0 : Int64)), (.long (0 : Int64)), (.long (0 : Int64)), (.long (0 : Int64)), (.long (0 : Int64)), (.long (0 : Int64)), (.long (0 : Int64)), (.long (0 : Int64))] (.long (0 : Int64)) := Arv.set Ar79 q79 S79 M79 H79 U79 rfl W80 11 rfl (Nat.le_of_ble_eq_true rfl)
  have z83 := Nat.le_trans z76 (Keep.of_wr W80).1
  have K84 := K77.wr W80 (Or.inl (List.mem_of_getElem? (i := 0) rfl))
  have N85 := Fr.snoc X80 N78 g1
  show Run _ _ _ _ (T80.setTop (mkF m 16 #[.val (.ref a1), .val (.long x), .second, .val (.int (11 : Int32)), .val (.int (32 : Int32))] []))
  refine Run.step (fun t_ k_ => XS.iinc X80.here hx rfl (hb hby d3_16) rfl (l' := #[.val (.ref a1), .val (.long x), .second, .val (.int (12 : Int32)), .val (.int (32 : Int32))]) rfl k_) ?_
  show Run _ _ _ _ (T80.setTop (mkF m 19 #[.val (.ref a1), .val (.long x), .second, .val (.int (12 : Int32)), .val (.int (32 : Int32))] []))
  refine Run.step (fun t_ k_ => XS.goto X80.here hx rfl (pc0 := 19) (pc' := 6) rfl (hb hby d3_19) (by decide) (by decide) k_) ?_
  show Run _ _ _ _ (T80.setTop (mkF m 6 #[.val (.ref a1), .val (.long x), .second, .val (.int (12 : Int32)), .val (.int (32 : Int32))] []))
  refine Run.step (fun t_ k_ => XS.iloadN X80.here hx rfl (hb hby d3_6) rfl k_) ?_
  show Run _ _ _ _ (T80.setTop (mkF m 7 #[.val (.ref a1), .val (.long x), .second, .val (.int (12 : Int32)), .val (.int (32 : Int32))] [(.int (12 : Int32))]))
  refine Run.step (fun t_ k_ => XS.iload X80.here hx rfl (hb hby d3_7) rfl k_) ?_
  show Run _ _ _ _ (T80.setTop (mkF m 9 #[.val (.ref a1), .val (.long x), .second, .val (.int (12 : Int32)), .val (.int (32 : Int32))] [(.int (32 : Int32)), (.int (12 : Int32))]))
  refine Run.step (fun t_ k_ => XS.icmpNo X80.here hx rfl (hb hby d3_9) rfl (XT.ii_ge_f (by decide : (12 : Int32) < (32 : Int32))) k_) ?_
  show Run _ _ _ _ (T80.setTop (mkF m 12 #[.val (.ref a1), .val (.long x), .second, .val (.int (12 : Int32)), .val (.int (32 : Int32))] []))
  refine Run.step (fun t_ k_ => XS.aloadN X80.here hx rfl (hb hby d3_12) rfl rfl k_) ?_
  show Run _ _ _ _ (T80.setTop (mkF m 13 #[.val (.ref a1), .val (.long x), .second, .val (.int (12 : Int32)), .val (.int (32 : Int32))] [(.ref a1)]))
  refine Run.step (fun t_ k_ => XS.iloadN X80.here hx rfl (hb hby d3_13) rfl k_) ?_
  show Run _ _ _ _ (T80.setTop (mkF m 14 #[.val (.ref a1), .val (.long x), .second, .val (.int (12 : Int32)), .val (.int (32 : Int32))] [(.int (12 : Int32)), (.ref a1)]))
  refine Run.step (fun t_ k_ => XS.lloadN X80.here hx rfl (hb hby d3_14) rfl k_) ?_
  show Run _ _ _ _ (T80.setTop (mkF m 15 #[.val (.ref a1), .val (.long x), .second, .val (.int (12 : Int32)), .val (.int (32 : Int32))] [(.long x), (.int (12 : Int32)), (.ref a1)]))
  obtain ⟨cl86, Ar86, q86, S86, M86, H86, U86⟩ := id f81
  have hin87 : ¬ ((12 : Int32) < 0 ∨ cl86.slots.size ≤ ((12 : Int32)).toNatClampNeg) := inb_of S86 ⟨by decide, by decide⟩
  obtain ⟨T87, h87, X87, e87, W87, st87⟩ := stJ X80 hx hZ e80 Ar86 (j := (12 : Int32)) hin87 (g := (mkF m 15 #[.val (.ref a1), .val (.long x), .second, .val (.int (12 : Int32)), .val (.int (32 : Int32))] [(.long x), (.int (12 : Int32)), (.ref a1)])) rfl rfl (hb hby d3_15)
  refine Run.step st87 ?_
  have f88 : Arv Z h87 a1 k .long (32 : Int32) [(.long x), (.long x), (.long x), (.long x), (.long x), (.long x), (.long x), (.long x), (.long x), (.long x), (.long x), (.long x), (.long x), (.long (0 : Int64)), (.long (0 : Int64)), (.long (0 : Int64)), (.long (0 : Int64)), (.long (0 : Int64)), (.long (0 : Int64)), (.long (0 : Int64)), (.long (0 : Int64)), (.long (0 : Int64)), (.long (0 : Int64)), (.long (0 : Int64)), (.long (0 : Int64)), (.long (0 : Int64)), (.long (0 : Int64)), (.long (0 : Int64)), (.long (0 : Int64)), (.long (0 : Int64)), (.long (0 : Int64)), (.long (0 : Int64))] (.long (0 : Int64)) := Arv.set Ar86 q86 S86 M86 H86 U86 rfl W87 12 rfl (Nat.le_of_ble_eq_true rfl)
  have z90 := Nat.le_trans z83 (Keep.of_wr W87).1
  have K91 := K84.wr W87 (Or.inl (List.mem_of_getElem? (i := 0) rfl))
  have N92 := Fr.snoc X87 N85 g1
  show Run _ _ _ _ (T87.setTop (mkF m 16 #[.val (.ref a1), .val (.long x), .second, .val (.int (12 : Int32)), .val (.int (32 : Int32))] []))
  refine Run.step (fun t_ k_ => XS.iinc X87.here hx rfl (hb hby d3_16) rfl (l' := #[.val (.ref a1), .val (.long x), .second, .val (.int (13 : Int32)), .val (.int (32 : Int32))]) rfl k_) ?_
  show Run _ _ _ _ (T87.setTop (mkF m 19 #[.val (.ref a1), .val (.long x), .second, .val (.int (13 : Int32)), .val (.int (32 : Int32))] []))
  refine Run.step (fun t_ k_ => XS.goto X87.here hx rfl (pc0 := 19) (pc' := 6) rfl (hb hby d3_19) (by decide) (by decide) k_) ?_
  show Run _ _ _ _ (T87.setTop (mkF m 6 #[.val (.ref a1), .val (.long x), .second, .val (.int (13 : Int32)), .val (.int (32 : Int32))] []))
  refine Run.step (fun t_ k_ => XS.iloadN X87.here hx rfl (hb hby d3_6) rfl k_) ?_
  show Run _ _ _ _ (T87.setTop (mkF m 7 #[.val (.ref a1), .val (.long x), .second, .val (.int (13 : Int32)), .val (.int (32 : Int32))] [(.int (13 : Int32))]))
  refine Run.step (fun t_ k_ => XS.iload X87.here hx rfl (hb hby d3_7) rfl k_) ?_
  show Run _ _ _ _ (T87.setTop (mkF m 9 #[.val (.ref a1), .val (.long x), .second, .val (.int (13 : Int32)), .val (.int (32 : Int32))] [(.int (32 : Int32)), (.int (13 : Int32))]))
  refine Run.step (fun t_ k_ => XS.icmpNo X87.here hx rfl (hb hby d3_9) rfl (XT.ii_ge_f (by decide : (13 : Int32) < (32 : Int32))) k_) ?_
  show Run _ _ _ _ (T87.setTop (mkF m 12 #[.val (.ref a1), .val (.long x), .second, .val (.int (13 : Int32)), .val (.int (32 : Int32))] []))
  refine Run.step (fun t_ k_ => XS.aloadN X87.here hx rfl (hb hby d3_12) rfl rfl k_) ?_
  show Run _ _ _ _ (T87.setTop (mkF m 13 #[.val (.ref a1), .val (.long x), .second, .val (.int (13 : Int32)), .val (.int (32 : Int32))] [(.ref a1)]))
  refine Run.step (fun t_ k_ => XS.iloadN X87.here hx rfl (hb hby d3_13) rfl k_) ?_
  show Run _ _ _ _ (T87.setTop (mkF m 14 #[.val (.ref a1), .val (.long x), .second, .val (.int (13 : Int32)), .val (.int (32 : Int32))] [(.int (13 : Int32)), (.ref a1)]))
  refine Run.step (fun t_ k_ => XS.lloadN X87.here hx rfl (hb hby d3_14) rfl k_) ?_
  show Run _ _ _ _ (T87.setTop (mkF m 15 #[.val (.ref a1), .val (.long x), .second, .val (.int (13 : Int32)), .val (.int (32 : Int32))] [(.long x), (.int (13 : Int32)), (.ref a1)]))
  obtain ⟨cl93, Ar93, q93, S93, M93, H93, U93⟩ := id f88
  have hin94 : ¬ ((13 : Int32) < 0 ∨ cl93.slots.size ≤ ((13 : Int32)).toNatClampNeg) := inb_of S93 ⟨by decide, by decide⟩
  obtain ⟨T94, h94, X94, e94, W94, st94⟩ := stJ X87 hx hZ e87 Ar93 (j := (13 : Int32)) hin94 (g := (mkF m 15 #[.val (.ref a1), .val (.long x), .second, .val (.int (13 : Int32)), .val (.int (32 : Int32))] [(.long x), (.int (13 : Int32)), (.ref a1)])) rfl rfl (hb hby d3_15)
  refine Run.step st94 ?_
  have f95 : Arv Z h94 a1 k .long (32 : Int32) [(.long x), (.long x), (.long x), (.long x), (.long x), (.long x), (.long x), (.long x), (.long x), (.long x), (.long x), (.long x), (.long x), (.long x), (.long (0 : Int64)), (.long (0 : Int64)), (.long (0 : Int64)), (.long (0 : Int64)), (.long (0 : Int64)), (.long (0 : Int64)), (.long (0 : Int64)), (.long (0 : Int64)), (.long (0 : Int64)), (.long (0 : Int64)), (.long (0 : Int64)), (.long (0 : Int64)), (.long (0 : Int64)), (.long (0 : Int64)), (.long (0 : Int64)), (.long (0 : Int64)), (.long (0 : Int64)), (.long (0 : Int64))] (.long (0 : Int64)) := Arv.set Ar93 q93 S93 M93 H93 U93 rfl W94 13 rfl (Nat.le_of_ble_eq_true rfl)
  have z97 := Nat.le_trans z90 (Keep.of_wr W94).1
  have K98 := K91.wr W94 (Or.inl (List.mem_of_getElem? (i := 0) rfl))
  have N99 := Fr.snoc X94 N92 g1
  show Run _ _ _ _ (T94.setTop (mkF m 16 #[.val (.ref a1), .val (.long x), .second, .val (.int (13 : Int32)), .val (.int (32 : Int32))] []))
  refine Run.step (fun t_ k_ => XS.iinc X94.here hx rfl (hb hby d3_16) rfl (l' := #[.val (.ref a1), .val (.long x), .second, .val (.int (14 : Int32)), .val (.int (32 : Int32))]) rfl k_) ?_
  show Run _ _ _ _ (T94.setTop (mkF m 19 #[.val (.ref a1), .val (.long x), .second, .val (.int (14 : Int32)), .val (.int (32 : Int32))] []))
  refine Run.step (fun t_ k_ => XS.goto X94.here hx rfl (pc0 := 19) (pc' := 6) rfl (hb hby d3_19) (by decide) (by decide) k_) ?_
  show Run _ _ _ _ (T94.setTop (mkF m 6 #[.val (.ref a1), .val (.long x), .second, .val (.int (14 : Int32)), .val (.int (32 : Int32))] []))
  refine Run.step (fun t_ k_ => XS.iloadN X94.here hx rfl (hb hby d3_6) rfl k_) ?_
  show Run _ _ _ _ (T94.setTop (mkF m 7 #[.val (.ref a1), .val (.long x), .second, .val (.int (14 : Int32)), .val (.int (32 : Int32))] [(.int (14 : Int32))]))
  refine Run.step (fun t_ k_ => XS.iload X94.here hx rfl (hb hby d3_7) rfl k_) ?_
  show Run _ _ _ _ (T94.setTop (mkF m 9 #[.val (.ref a1), .val (.long x), .second, .val (.int (14 : Int32)), .val (.int (32 : Int32))] [(.int (32 : Int32)), (.int (14 : Int32))]))
  refine Run.step (fun t_ k_ => XS.icmpNo X94.here hx rfl (hb hby d3_9) rfl (XT.ii_ge_f (by decide : (14 : Int32) < (32 : Int32))) k_) ?_
  show Run _ _ _ _ (T94.setTop (mkF m 12 #[.val (.ref a1), .val (.long x), .second, .val (.int (14 : Int32)), .val (.int (32 : Int32))] []))
  refine Run.step (fun t_ k_ => XS.aloadN X94.here hx rfl (hb hby d3_12) rfl rfl k_) ?_
  show Run _ _ _ _ (T94.setTop (mkF m 13 #[.val (.ref a1), .val (.long x), .second, .val (.int (14 : Int32)), .val (.int (32 : Int32))] [(.ref a1)]))
  refine Run.step (fun t_ k_ => XS.iloadN X94.here hx rfl (hb hby d3_13) rfl k_) ?_
  show Run _ _ _ _ (T94.setTop (mkF m 14 #[.val (.ref a1), .val (.long x), .second, .val (.int (14 : Int32)), .val (.int (32 : Int32))] [(.int (14 : Int32)), (.ref a1)]))
  refine Run.step (fun t_ k_ => XS.lloadN X94.here hx rfl (hb hby d3_14) rfl k_) ?_
  show Run _ _ _ _ (T94.setTop (mkF m 15 #[.val (.ref a1), .val (.long x), .second, .val (.int (14 : Int32)), .val (.int (32 : Int32))] [(.long x), (.int (14 : Int32)), (.ref a1)]))
  obtain ⟨cl100, Ar100, q100, S100, M100, H100, U100⟩ := id f95
  have hin101 : ¬ ((14 : Int32) < 0 ∨ cl100.slots.size ≤ ((14 : Int32)).toNatClampNeg) := inb_of S100 ⟨by decide, by decide⟩
  obtain ⟨T101, h101, X101, e101, W101, st101⟩ := stJ X94 hx hZ e94 Ar100 (j := (14 : Int32)) hin101 (g := (mkF m 15 #[.val (.ref a1), .val (.long x), .second, .val (.int (14 : Int32)), .val (.int (32 : Int32))] [(.long x), (.int (14 : Int32)), (.ref a1)])) rfl rfl (hb hby d3_15)
  refine Run.step st101 ?_
  have f102 : Arv Z h101 a1 k .long (32 : Int32) [(.long x), (.long x), (.long x), (.long x), (.long x), (.long x), (.long x), (.long x), (.long x), (.long x), (.long x), (.long x), (.long x), (.long x), (.long x), (.long (0 : Int64)), (.long (0 : Int64)), (.long (0 : Int64)), (.long (0 : Int64)), (.long (0 : Int64)), (.long (0 : Int64)), (.long (0 : Int64)), (.long (0 : Int64)), (.long (0 : Int64)), (.long (0 : Int64)), (.long (0 : Int64)), (.long (0 : Int64)), (.long (0 : Int64)), (.long (0 : Int64)), (.long (0 : Int64)), (.long (0 : Int64)), (.long (0 : Int64))] (.long (0 : Int64)) := Arv.set Ar100 q100 S100 M100 H100 U100 rfl W101 14 rfl (Nat.le_of_ble_eq_true rfl)
  have z104 := Nat.le_trans z97 (Keep.of_wr W101).1
  have K105 := K98.wr W101 (Or.inl (List.mem_of_getElem? (i := 0) rfl))
  have N106 := Fr.snoc X101 N99 g1
  show Run _ _ _ _ (T101.setTop (mkF m 16 #[.val (.ref a1), .val (.long x), .second, .val (.int (14 : Int32)), .val (.int (32 : Int32))] []))
  refine Run.step (fun t_ k_ => XS.iinc X101.here hx rfl (hb hby d3_16) rfl (l' := #[.val (.ref a1), .val (.long x), .second, .val (.int (15 : Int32)), .val (.int (32 : Int32))]) rfl k_) ?_
  show Run _ _ _ _ (T101.setTop (mkF m 19 #[.val (.ref a1), .val (.long x), .second, .val (.int (15 : Int32)), .val (.int (32 : Int32))] []))
  refine Run.step (fun t_ k_ => XS.goto X101.here hx rfl (pc0 := 19) (pc' := 6) rfl (hb hby d3_19) (by decide) (by decide) k_) ?_
  show Run _ _ _ _ (T101.setTop (mkF m 6 #[.val (.ref a1), .val (.long x), .second, .val (.int (15 : Int32)), .val (.int (32 : Int32))] []))
  refine Run.step (fun t_ k_ => XS.iloadN X101.here hx rfl (hb hby d3_6) rfl k_) ?_
  show Run _ _ _ _ (T101.setTop (mkF m 7 #[.val (.ref a1), .val (.long x), .second, .val (.int (15 : Int32)), .val (.int (32 : Int32))] [(.int (15 : Int32))]))
  refine Run.step (fun t_ k_ => XS.iload X101.here hx rfl (hb hby d3_7) rfl k_) ?_
  show Run _ _ _ _ (T101.setTop (mkF m 9 #[.val (.ref a1), .val (.long x), .second, .val (.int (15 : Int32)), .val (.int (32 : Int32))] [(.int (32 : Int32)), (.int (15 : Int32))]))
  refine Run.step (fun t_ k_ => XS.icmpNo X101.here hx rfl (hb hby d3_9) rfl (XT.ii_ge_f (by decide : (15 : Int32) < (32 : Int32))) k_) ?_
  show Run _ _ _ _ (T101.setTop (mkF m 12 #[.val (.ref a1), .val (.long x), .second, .val (.int (15 : Int32)), .val (.int (32 : Int32))] []))
  refine Run.step (fun t_ k_ => XS.aloadN X101.here hx rfl (hb hby d3_12) rfl rfl k_) ?_
  show Run _ _ _ _ (T101.setTop (mkF m 13 #[.val (.ref a1), .val (.long x), .second, .val (.int (15 : Int32)), .val (.int (32 : Int32))] [(.ref a1)]))
  refine Run.step (fun t_ k_ => XS.iloadN X101.here hx rfl (hb hby d3_13) rfl k_) ?_
  show Run _ _ _ _ (T101.setTop (mkF m 14 #[.val (.ref a1), .val (.long x), .second, .val (.int (15 : Int32)), .val (.int (32 : Int32))] [(.int (15 : Int32)), (.ref a1)]))
  refine Run.step (fun t_ k_ => XS.lloadN X101.here hx rfl (hb hby d3_14) rfl k_) ?_
  show Run _ _ _ _ (T101.setTop (mkF m 15 #[.val (.ref a1), .val (.long x), .second, .val (.int (15 : Int32)), .val (.int (32 : Int32))] [(.long x), (.int (15 : Int32)), (.ref a1)]))
  obtain ⟨cl107, Ar107, q107, S107, M107, H107, U107⟩ := id f102
  have hin108 : ¬ ((15 : Int32) < 0 ∨ cl107.slots.size ≤ ((15 : Int32)).toNatClampNeg) := inb_of S107 ⟨by decide, by decide⟩
  obtain ⟨T108, h108, X108, e108, W108, st108⟩ := stJ X101 hx hZ e101 Ar107 (j := (15 : Int32)) hin108 (g := (mkF m 15 #[.val (.ref a1), .val (.long x), .second, .val (.int (15 : Int32)), .val (.int (32 : Int32))] [(.long x), (.int (15 : Int32)), (.ref a1)])) rfl rfl (hb hby d3_15)
  refine Run.step st108 ?_
  have f109 : Arv Z h108 a1 k .long (32 : Int32) [(.long x), (.long x), (.long x), (.long x), (.long x), (.long x), (.long x), (.long x), (.long x), (.long x), (.long x), (.long x), (.long x), (.long x), (.long x), (.long x), (.long (0 : Int64)), (.long (0 : Int64)), (.long (0 : Int64)), (.long (0 : Int64)), (.long (0 : Int64)), (.long (0 : Int64)), (.long (0 : Int64)), (.long (0 : Int64)), (.long (0 : Int64)), (.long (0 : Int64)), (.long (0 : Int64)), (.long (0 : Int64)), (.long (0 : Int64)), (.long (0 : Int64)), (.long (0 : Int64)), (.long (0 : Int64))] (.long (0 : Int64)) := Arv.set Ar107 q107 S107 M107 H107 U107 rfl W108 15 rfl (Nat.le_of_ble_eq_true rfl)
  have z111 := Nat.le_trans z104 (Keep.of_wr W108).1
  have K112 := K105.wr W108 (Or.inl (List.mem_of_getElem? (i := 0) rfl))
  have N113 := Fr.snoc X108 N106 g1
  show Run _ _ _ _ (T108.setTop (mkF m 16 #[.val (.ref a1), .val (.long x), .second, .val (.int (15 : Int32)), .val (.int (32 : Int32))] []))
  refine Run.step (fun t_ k_ => XS.iinc X108.here hx rfl (hb hby d3_16) rfl (l' := #[.val (.ref a1), .val (.long x), .second, .val (.int (16 : Int32)), .val (.int (32 : Int32))]) rfl k_) ?_
  show Run _ _ _ _ (T108.setTop (mkF m 19 #[.val (.ref a1), .val (.long x), .second, .val (.int (16 : Int32)), .val (.int (32 : Int32))] []))
  refine Run.step (fun t_ k_ => XS.goto X108.here hx rfl (pc0 := 19) (pc' := 6) rfl (hb hby d3_19) (by decide) (by decide) k_) ?_
  show Run _ _ _ _ (T108.setTop (mkF m 6 #[.val (.ref a1), .val (.long x), .second, .val (.int (16 : Int32)), .val (.int (32 : Int32))] []))
  refine Run.step (fun t_ k_ => XS.iloadN X108.here hx rfl (hb hby d3_6) rfl k_) ?_
  show Run _ _ _ _ (T108.setTop (mkF m 7 #[.val (.ref a1), .val (.long x), .second, .val (.int (16 : Int32)), .val (.int (32 : Int32))] [(.int (16 : Int32))]))
  refine Run.step (fun t_ k_ => XS.iload X108.here hx rfl (hb hby d3_7) rfl k_) ?_
  show Run _ _ _ _ (T108.setTop (mkF m 9 #[.val (.ref a1), .val (.long x), .second, .val (.int (16 : Int32)), .val (.int (32 : Int32))] [(.int (32 : Int32)), (.int (16 : Int32))]))
  refine Run.step (fun t_ k_ => XS.icmpNo X108.here hx rfl (hb hby d3_9) rfl (XT.ii_ge_f (by decide : (16 : Int32) < (32 : Int32))) k_) ?_
  show Run _ _ _ _ (T108.setTop (mkF m 12 #[.val (.ref a1), .val (.long x), .second, .val (.int (16 : Int32)), .val (.int (32 : Int32))] []))
  refine Run.step (fun t_ k_ => XS.aloadN X108.here hx rfl (hb hby d3_12) rfl rfl k_) ?_
  show Run _ _ _ _ (T108.setTop (mkF m 13 #[.val (.ref a1), .val (.long x), .second, .val (.int (16 : Int32)), .val (.int (32 : Int32))] [(.ref a1)]))
  refine Run.step (fun t_ k_ => XS.iloadN X108.here hx rfl (hb hby d3_13) rfl k_) ?_
  show Run _ _ _ _ (T108.setTop (mkF m 14 #[.val (.ref a1), .val (.long x), .second, .val (.int (16 : Int32)), .val (.int (32 : Int32))] [(.int (16 : Int32)), (.ref a1)]))
  refine Run.step (fun t_ k_ => XS.lloadN X108.here hx rfl (hb hby d3_14) rfl k_) ?_
  show Run _ _ _ _ (T108.setTop (mkF m 15 #[.val (.ref a1), .val (.long x), .second, .val (.int (16 : Int32)), .val (.int (32 : Int32))] [(.long x), (.int (16 : Int32)), (.ref a1)]))
  obtain ⟨cl114, Ar114, q114, S114, M114, H114, U114⟩ := id f109
  have hin115 : ¬ ((16 : Int32) < 0 ∨ cl114.slots.size ≤ ((16 : Int32)).toNatClampNeg) := inb_of S114 ⟨by decide, by decide⟩
  obtain ⟨T115, h115, X115, e115, W115, st115⟩ := stJ X108 hx hZ e108 Ar114 (j := (16 : Int32)) hin115 (g := (mkF m 15 #[.val (.ref a1), .val (.long x), .second, .val (.int (16 : Int32)), .val (.int (32 : Int32))] [(.long x), (.int (16 : Int32)), (.ref a1)])) rfl rfl (hb hby d3_15)
  refine Run.step st115 ?_
  have f116 : Arv Z h115 a1 k .long (32 : Int32) [(.long x), (.long x), (.long x), (.long x), (.long x), (.long x), (.long x), (.long x), (.long x), (.long x), (.long x), (.long x), (.long x), (.long x), (.long x), (.long x), (.long x), (.long (0 : Int64)), (.long (0 : Int64)), (.long (0 : Int64)), (.long (0 : Int64)), (.long (0 : Int64)), (.long (0 : Int64)), (.long (0 : Int64)), (.long (0 : Int64)), (.long (0 : Int64)), (.long (0 : Int64)), (.long (0 : Int64)), (.long (0 : Int64)), (.long (0 : Int64)), (.long (0 : Int64)), (.long (0 : Int64))] (.long (0 : Int64)) := Arv.set Ar114 q114 S114 M114 H114 U114 rfl W115 16 rfl (Nat.le_of_ble_eq_true rfl)
  have z118 := Nat.le_trans z111 (Keep.of_wr W115).1
  have K119 := K112.wr W115 (Or.inl (List.mem_of_getElem? (i := 0) rfl))
  have N120 := Fr.snoc X115 N113 g1
  show Run _ _ _ _ (T115.setTop (mkF m 16 #[.val (.ref a1), .val (.long x), .second, .val (.int (16 : Int32)), .val (.int (32 : Int32))] []))
  refine Run.step (fun t_ k_ => XS.iinc X115.here hx rfl (hb hby d3_16) rfl (l' := #[.val (.ref a1), .val (.long x), .second, .val (.int (17 : Int32)), .val (.int (32 : Int32))]) rfl k_) ?_
  show Run _ _ _ _ (T115.setTop (mkF m 19 #[.val (.ref a1), .val (.long x), .second, .val (.int (17 : Int32)), .val (.int (32 : Int32))] []))
  refine Run.step (fun t_ k_ => XS.goto X115.here hx rfl (pc0 := 19) (pc' := 6) rfl (hb hby d3_19) (by decide) (by decide) k_) ?_
  show Run _ _ _ _ (T115.setTop (mkF m 6 #[.val (.ref a1), .val (.long x), .second, .val (.int (17 : Int32)), .val (.int (32 : Int32))] []))
  refine Run.step (fun t_ k_ => XS.iloadN X115.here hx rfl (hb hby d3_6) rfl k_) ?_
  show Run _ _ _ _ (T115.setTop (mkF m 7 #[.val (.ref a1), .val (.long x), .second, .val (.int (17 : Int32)), .val (.int (32 : Int32))] [(.int (17 : Int32))]))
  refine Run.step (fun t_ k_ => XS.iload X115.here hx rfl (hb hby d3_7) rfl k_) ?_
  show Run _ _ _ _ (T115.setTop (mkF m 9 #[.val (.ref a1), .val (.long x), .second, .val (.int (17 : Int32)), .val (.int (32 : Int32))] [(.int (32 : Int32)), (.int (17 : Int32))]))
  refine Run.step (fun t_ k_ => XS.icmpNo X115.here hx rfl (hb hby d3_9) rfl (XT.ii_ge_f (by decide : (17 : Int32) < (32 : Int32))) k_) ?_
  show Run _ _ _ _ (T115.setTop (mkF m 12 #[.val (.ref a1), .val (.long x), .second, .val (.int (17 : Int32)), .val (.int (32 : Int32))] []))
  refine Run.step (fun t_ k_ => XS.aloadN X115.here hx rfl (hb hby d3_12) rfl rfl k_) ?_
  show Run _ _ _ _ (T115.setTop (mkF m 13 #[.val (.ref a1), .val (.long x), .second, .val (.int (17 : Int32)), .val (.int (32 : Int32))] [(.ref a1)]))
  refine Run.step (fun t_ k_ => XS.iloadN X115.here hx rfl (hb hby d3_13) rfl k_) ?_
  show Run _ _ _ _ (T115.setTop (mkF m 14 #[.val (.ref a1), .val (.long x), .second, .val (.int (17 : Int32)), .val (.int (32 : Int32))] [(.int (17 : Int32)), (.ref a1)]))
  refine Run.step (fun t_ k_ => XS.lloadN X115.here hx rfl (hb hby d3_14) rfl k_) ?_
  show Run _ _ _ _ (T115.setTop (mkF m 15 #[.val (.ref a1), .val (.long x), .second, .val (.int (17 : Int32)), .val (.int (32 : Int32))] [(.long x), (.int (17 : Int32)), (.ref a1)]))
  obtain ⟨cl121, Ar121, q121, S121, M121, H121, U121⟩ := id f116
  have hin122 : ¬ ((17 : Int32) < 0 ∨ cl121.slots.size ≤ ((17 : Int32)).toNatClampNeg) := inb_of S121 ⟨by decide, by decide⟩
  obtain ⟨T122, h122, X122, e122, W122, st122⟩ := stJ X115 hx hZ e115 Ar121 (j := (17 : Int32)) hin122 (g := (mkF m 15 #[.val (.ref a1), .val (.long x), .second, .val (.int (17 : Int32)), .val (.int (32 : Int32))] [(.long x), (.int (17 : Int32)), (.ref a1)])) rfl rfl (hb hby d3_15)
  refine Run.step st122 ?_
  have f123 : Arv Z h122 a1 k .long (32 : Int32) [(.long x), (.long x), (.long x), (.long x), (.long x), (.long x), (.long x), (.long x), (.long x), (.long x), (.long x), (.long x), (.long x), (.long x), (.long x), (.long x), (.long x), (.long x), (.long (0 : Int64)), (.long (0 : Int64)), (.long (0 : Int64)), (.long (0 : Int64)), (.long (0 : Int64)), (.long (0 : Int64)), (.long (0 : Int64)), (.long (0 : Int64)), (.long (0 : Int64)), (.long (0 : Int64)), (.long (0 : Int64)), (.long (0 : Int64)), (.long (0 : Int64)), (.long (0 : Int64))] (.long (0 : Int64)) := Arv.set Ar121 q121 S121 M121 H121 U121 rfl W122 17 rfl (Nat.le_of_ble_eq_true rfl)
  have z125 := Nat.le_trans z118 (Keep.of_wr W122).1
  have K126 := K119.wr W122 (Or.inl (List.mem_of_getElem? (i := 0) rfl))
  have N127 := Fr.snoc X122 N120 g1
  show Run _ _ _ _ (T122.setTop (mkF m 16 #[.val (.ref a1), .val (.long x), .second, .val (.int (17 : Int32)), .val (.int (32 : Int32))] []))
  refine Run.step (fun t_ k_ => XS.iinc X122.here hx rfl (hb hby d3_16) rfl (l' := #[.val (.ref a1), .val (.long x), .second, .val (.int (18 : Int32)), .val (.int (32 : Int32))]) rfl k_) ?_
  show Run _ _ _ _ (T122.setTop (mkF m 19 #[.val (.ref a1), .val (.long x), .second, .val (.int (18 : Int32)), .val (.int (32 : Int32))] []))
  refine Run.step (fun t_ k_ => XS.goto X122.here hx rfl (pc0 := 19) (pc' := 6) rfl (hb hby d3_19) (by decide) (by decide) k_) ?_
  show Run _ _ _ _ (T122.setTop (mkF m 6 #[.val (.ref a1), .val (.long x), .second, .val (.int (18 : Int32)), .val (.int (32 : Int32))] []))
  refine Run.step (fun t_ k_ => XS.iloadN X122.here hx rfl (hb hby d3_6) rfl k_) ?_
  show Run _ _ _ _ (T122.setTop (mkF m 7 #[.val (.ref a1), .val (.long x), .second, .val (.int (18 : Int32)), .val (.int (32 : Int32))] [(.int (18 : Int32))]))
  refine Run.step (fun t_ k_ => XS.iload X122.here hx rfl (hb hby d3_7) rfl k_) ?_
  show Run _ _ _ _ (T122.setTop (mkF m 9 #[.val (.ref a1), .val (.long x), .second, .val (.int (18 : Int32)), .val (.int (32 : Int32))] [(.int (32 : Int32)), (.int (18 : Int32))]))
  refine Run.step (fun t_ k_ => XS.icmpNo X122.here hx rfl (hb hby d3_9) rfl (XT.ii_ge_f (by decide : (18 : Int32) < (32 : Int32))) k_) ?_
  show Run _ _ _ _ (T122.setTop (mkF m 12 #[.val (.ref a1), .val (.long x), .second, .val (.int (18 : Int32)), .val (.int (32 : Int32))] []))
  refine Run.step (fun t_ k_ => XS.aloadN X122.here hx rfl (hb hby d3_12) rfl rfl k_) ?_
  show Run _ _ _ _ (T122.setTop (mkF m 13 #[.val (.ref a1), .val (.long x), .second, .val (.int (18 : Int32)), .val (.int (32 : Int32))] [(.ref a1)]))
  refine Run.step (fun t_ k_ => XS.iloadN X122.here hx rfl (hb hby d3_13) rfl k_) ?_
  show Run _ _ _ _ (T122.setTop (mkF m 14 #[.val (.ref a1), .val (.long x), .second, .val (.int (18 : Int32)), .val (.int (32 : Int32))] [(.int (18 : Int32)), (.ref a1)]))
  refine Run.step (fun t_ k_ => XS.lloadN X122.here hx rfl (hb hby d3_14) rfl k_) ?_
  show Run _ _ _ _ (T122.setTop (mkF m 15 #[.val (.ref a1), .val (.long x), .second, .val (.int (18 : Int32)), .val (.int (32 : Int32))] [(.long x), (.int (18 : Int32)), (.ref a1)]))
  obtain ⟨cl128, Ar128, q128, S128, M128, H128, U128⟩ := id f123
  have hin129 : ¬ ((18 : Int32) < 0 ∨ cl128.slots.size ≤ ((18 : Int32)).toNatClampNeg) := inb_of S128 ⟨by decide, by decide⟩
  obtain ⟨T129, h129, X129, e129, W129, st129⟩ := stJ X122 hx hZ e122 Ar128 (j := (18 : Int32)) hin129 (g := (mkF m 15 #[.val (.ref a1), .val (.long x), .second, .val (.int (18 : Int32)), .val (.int (32 : Int32))] [(.long x), (.int (18 : Int32)), (.ref a1)])) rfl rfl (hb hby d3_15)
  refine Run.step st129 ?_
  have f130 : Arv Z h129 a1 k .long (32 : Int32) [(.long x), (.long x), (.long x), (.long x), (.long x), (.long x), (.long x), (.long x), (.long x), (.long x), (.long x), (.long x), (.long x), (.long x), (.long x), (.long x), (.long x), (.long x), (.long x), (.long (0 : Int64)), (.long (0 : Int64)), (.long (0 : Int64)), (.long (0 : Int64)), (.long (0 : Int64)), (.long (0 : Int64)), (.long (0 : Int64)), (.long (0 : Int64)), (.long (0 : Int64)), (.long (0 : Int64)), (.long (0 : Int64)), (.long (0 : Int64)), (.long (0 : Int64))] (.long (0 : Int64)) := Arv.set Ar128 q128 S128 M128 H128 U128 rfl W129 18 rfl (Nat.le_of_ble_eq_true rfl)
  have z132 := Nat.le_trans z125 (Keep.of_wr W129).1
  have K133 := K126.wr W129 (Or.inl (List.mem_of_getElem? (i := 0) rfl))
  have N134 := Fr.snoc X129 N127 g1
  show Run _ _ _ _ (T129.setTop (mkF m 16 #[.val (.ref a1), .val (.long x), .second, .val (.int (18 : Int32)), .val (.int (32 : Int32))] []))
  refine Run.step (fun t_ k_ => XS.iinc X129.here hx rfl (hb hby d3_16) rfl (l' := #[.val (.ref a1), .val (.long x), .second, .val (.int (19 : Int32)), .val (.int (32 : Int32))]) rfl k_) ?_
  show Run _ _ _ _ (T129.setTop (mkF m 19 #[.val (.ref a1), .val (.long x), .second, .val (.int (19 : Int32)), .val (.int (32 : Int32))] []))
  refine Run.step (fun t_ k_ => XS.goto X129.here hx rfl (pc0 := 19) (pc' := 6) rfl (hb hby d3_19) (by decide) (by decide) k_) ?_
  show Run _ _ _ _ (T129.setTop (mkF m 6 #[.val (.ref a1), .val (.long x), .second, .val (.int (19 : Int32)), .val (.int (32 : Int32))] []))
  refine Run.step (fun t_ k_ => XS.iloadN X129.here hx rfl (hb hby d3_6) rfl k_) ?_
  show Run _ _ _ _ (T129.setTop (mkF m 7 #[.val (.ref a1), .val (.long x), .second, .val (.int (19 : Int32)), .val (.int (32 : Int32))] [(.int (19 : Int32))]))
  refine Run.step (fun t_ k_ => XS.iload X129.here hx rfl (hb hby d3_7) rfl k_) ?_
  show Run _ _ _ _ (T129.setTop (mkF m 9 #[.val (.ref a1), .val (.long x), .second, .val (.int (19 : Int32)), .val (.int (32 : Int32))] [(.int (32 : Int32)), (.int (19 : Int32))]))
  refine Run.step (fun t_ k_ => XS.icmpNo X129.here hx rfl (hb hby d3_9) rfl (XT.ii_ge_f (by decide : (19 : Int32) < (32 : Int32))) k_) ?_
  show Run _ _ _ _ (T129.setTop (mkF m 12 #[.val (.ref a1), .val (.long x), .second, .val (.int (19 : Int32)), .val (.int (32 : Int32))] []))
  refine Run.step (fun t_ k_ => XS.aloadN X129.here hx rfl (hb hby d3_12) rfl rfl k_) ?_
  show Run _ _ _ _ (T129.setTop (mkF m 13 #[.val (.ref a1), .val (.long x), .second, .val (.int (19 : Int32)), .val (.int (32 : Int32))] [(.ref a1)]))
  refine Run.step (fun t_ k_ => XS.iloadN X129.here hx rfl (hb hby d3_13) rfl k_) ?_
  show Run _ _ _ _ (T129.setTop (mkF m 14 #[.val (.ref a1), .val (.long x), .second, .val (.int (19 : Int32)), .val (.int (32 : Int32))] [(.int (19 : Int32)), (.ref a1)]))
  refine Run.step (fun t_ k_ => XS.lloadN X129.here hx rfl (hb hby d3_14) rfl k_) ?_
  show Run _ _ _ _ (T129.setTop (mkF m 15 #[.val (.ref a1), .val (.long x), .second, .val (.int (19 : Int32)), .val (.int (32 : Int32))] [(.long x), (.int (19 : Int32)), (.ref a1)]))
  obtain ⟨cl135, Ar135, q135, S135, M135, H135, U135⟩ := id f130
  have hin136 : ¬ ((19 : Int32) < 0 ∨ cl135.slots.size ≤ ((19 : Int32)).toNatClampNeg) := inb_of S135 ⟨by decide, by decide⟩
  obtain ⟨T136, h136, X136, e136, W136, st136⟩ := stJ X129 hx hZ e129 Ar135 (j := (19 : Int32)) hin136 (g := (mkF m 15 #[.val (.ref a1), .val (.long x), .second, .val (.int (19 : Int32)), .val (.int (32 : Int32))] [(.long x), (.int (19 : Int32)), (.ref a1)])) rfl rfl (hb hby d3_15)
  refine Run.step st136 ?_
  have f137 : Arv Z h136 a1 k .long (32 : Int32) [(.long x), (.long x), (.long x), (.long x), (.long x), (.long x), (.long x), (.long x), (.long x), (.long x), (.long x), (.long x), (.long x), (.long x), (.long x), (.long x), (.long x), (.long x), (.long x), (.long x), (.long (0 : Int64)), (.long (0 : Int64)), (.long (0 : Int64)), (.long (0 : Int64)), (.long (0 : Int64)), (.long (0 : Int64)), (.long (0 : Int64)), (.long (0 : Int64)), (.long (0 : Int64)), (.long (0 : Int64)), (.long (0 : Int64)), (.long (0 : Int64))] (.long (0 : Int64)) := Arv.set Ar135 q135 S135 M135 H135 U135 rfl W136 19 rfl (Nat.le_of_ble_eq_true rfl)
  have z139 := Nat.le_trans z132 (Keep.of_wr W136).1
  have K140 := K133.wr W136 (Or.inl (List.mem_of_getElem? (i := 0) rfl))
  have N141 := Fr.snoc X136 N134 g1
  show Run _ _ _ _ (T136.setTop (mkF m 16 #[.val (.ref a1), .val (.long x), .second, .val (.int (19 : Int32)), .val (.int (32 : Int32))] []))
  refine Run.step (fun t_ k_ => XS.iinc X136.here hx rfl (hb hby d3_16) rfl (l' := #[.val (.ref a1), .val (.long x), .second, .val (.int (20 : Int32)), .val (.int (32 : Int32))]) rfl k_) ?_
  show Run _ _ _ _ (T136.setTop (mkF m 19 #[.val (.ref a1), .val (.long x), .second, .val (.int (20 : Int32)), .val (.int (32 : Int32))] []))
  refine Run.step (fun t_ k_ => XS.goto X136.here hx rfl (pc0 := 19) (pc' := 6) rfl (hb hby d3_19) (by decide) (by decide) k_) ?_
  show Run _ _ _ _ (T136.setTop (mkF m 6 #[.val (.ref a1), .val (.long x), .second, .val (.int (20 : Int32)), .val (.int (32 : Int32))] []))
  refine Run.step (fun t_ k_ => XS.iloadN X136.here hx rfl (hb hby d3_6) rfl k_) ?_
  show Run _ _ _ _ (T136.setTop (mkF m 7 #[.val (.ref a1), .val (.long x), .second, .val (.int (20 : Int32)), .val (.int (32 : Int32))] [(.int (20 : Int32))]))
  refine Run.step (fun t_ k_ => XS.iload X136.here hx rfl (hb hby d3_7) rfl k_) ?_
  show Run _ _ _ _ (T136.setTop (mkF m 9 #[.val (.ref a1), .val (.long x), .second, .val (.int (20 : Int32)), .val (.int (32 : Int32))] [(.int (32 : Int32)), (.int (20 : Int32))]))
  refine Run.step (fun t_ k_ => XS.icmpNo X136.here hx rfl (hb hby d3_9) rfl (XT.ii_ge_f (by decide : (20 : Int32) < (32 : Int32))) k_) ?_
  show Run _ _ _ _ (T136.setTop (mkF m 12 #[.val (.ref a1), .val (.long x), .second, .val (.int (20 : Int32)), .val (.int (32 : Int32))] []))
  refine Run.step (fun t_ k_ => XS.aloadN X136.here hx rfl (hb hby d3_12) rfl rfl k_) ?_
  show Run _ _ _ _ (T136.setTop (mkF m 13 #[.val (.ref a1), .val (.long x), .second, .val (.int (20 : Int32)), .val (.int (32 : Int32))] [(.ref a1)]))
  refine Run.step (fun t_ k_ => XS.iloadN X136.here hx rfl (hb hby d3_13) rfl k_) ?_
  show Run _ _ _ _ (T136.setTop (mkF m 14 #[.val (.ref a1), .val (.long x), .second, .val (.int (20 : Int32)), .val (.int (32 : Int32))] [(.int (20 : Int32)), (.ref a1)]))
  refine Run.step (fun t_ k_ => XS.lloadN X136.here hx rfl (hb hby d3_14) rfl k_) ?_
  show Run _ _ _ _ (T136.setTop (mkF m 15 #[.val (.ref a1), .val (.long x), .second, .val (.int (20 : Int32)), .val (.int (32 : Int32))] [(.long x), (.int (20 : Int32)), (.ref a1)]))
  obtain ⟨cl142, Ar142, q142, S142, M142, H142, U142⟩ := id f137
  have hin143 : ¬ ((20 : Int32) < 0 ∨ cl142.slots.size ≤ ((20 : Int32)).toNatClampNeg) := inb_of S142 ⟨by decide, by decide⟩
  obtain ⟨T143, h143, X143, e143, W143, st143⟩ := stJ X136 hx hZ e136 Ar142 (j := (20 : Int32)) hin143 (g := (mkF m 15 #[.val (.ref a1), .val (.long x), .second, .val (.int (20 : Int32)), .val (.int (32 : Int32))] [(.long x), (.int (20 : Int32)), (.ref a1)])) rfl rfl (hb hby d3_15)
  refine Run.step st143 ?_
  have f144 : Arv Z h143 a1 k .long (32 : Int32) [(.long x), (.long x), (.long x), (.long x), (.long x), (.long x), (.long x), (.long x), (.long x), (.long x), (.long x), (.long x), (.long x), (.long x), (.long x), (.long x), (.long x), (.long x), (.long x), (.long x), (.long x), (.long (0 : Int64)), (.long (0 : Int64)), (.long (0 : Int64)), (.long (0 : Int64)), (.long (0 : Int64)), (.long (0 : Int64)), (.long (0 : Int64)), (.long (0 : Int64)), (.long (0 : Int64)), (.long (0 : Int64)), (.long (0 : Int64))] (.long (0 : Int64)) := Arv.set Ar142 q142 S142 M142 H142 U142 rfl W143 20 rfl (Nat.le_of_ble_eq_true rfl)
  have z146 := Nat.le_trans z139 (Keep.of_wr W143).1
  have K147 := K140.wr W143 (Or.inl (List.mem_of_getElem? (i := 0) rfl))
  have N148 := Fr.snoc X143 N141 g1
  show Run _ _ _ _ (T143.setTop (mkF m 16 #[.val (.ref a1), .val (.long x), .second, .val (.int (20 : Int32)), .val (.int (32 : Int32))] []))
  refine Run.step (fun t_ k_ => XS.iinc X143.here hx rfl (hb hby d3_16) rfl (l' := #[.val (.ref a1), .val (.long x), .second, .val (.int (21 : Int32)), .val (.int (32 : Int32))]) rfl k_) ?_
  show Run _ _ _ _ (T143.setTop (mkF m 19 #[.val (.ref a1), .val (.long x), .second, .val (.int (21 : Int32)), .val (.int (32 : Int32))] []))
  refine Run.step (fun t_ k_ => XS.goto X143.here hx rfl (pc0 := 19) (pc' := 6) rfl (hb hby d3_19) (by decide) (by decide) k_) ?_
  show Run _ _ _ _ (T143.setTop (mkF m 6 #[.val (.ref a1), .val (.long x), .second, .val (.int (21 : Int32)), .val (.int (32 : Int32))] []))
  refine Run.step (fun t_ k_ => XS.iloadN X143.here hx rfl (hb hby d3_6) rfl k_) ?_
  show Run _ _ _ _ (T143.setTop (mkF m 7 #[.val (.ref a1), .val (.long x), .second, .val (.int (21 : Int32)), .val (.int (32 : Int32))] [(.int (21 : Int32))]))
  refine Run.step (fun t_ k_ => XS.iload X143.here hx rfl (hb hby d3_7) rfl k_) ?_
  show Run _ _ _ _ (T143.setTop (mkF m 9 #[.val (.ref a1), .val (.long x), .second, .val (.int (21 : Int32)), .val (.int (32 : Int32))] [(.int (32 : Int32)), (.int (21 : Int32))]))
  refine Run.step (fun t_ k_ => XS.icmpNo X143.here hx rfl (hb hby d3_9) rfl (XT.ii_ge_f (by decide : (21 : Int32) < (32 : Int32))) k_) ?_
  show Run _ _ _ _ (T143.setTop (mkF m 12 #[.val (.ref a1), .val (.long x), .second, .val (.int (21 : Int32)), .val (.int (32 : Int32))] []))
  refine Run.step (fun t_ k_ => XS.aloadN X143.here hx rfl (hb hby d3_12) rfl rfl k_) ?_
  show Run _ _ _ _ (T143.setTop (mkF m 13 #[.val (.ref a1), .val (.long x), .second, .val (.int (21 : Int32)), .val (.int (32 : Int32))] [(.ref a1)]))
  refine Run.step (fun t_ k_ => XS.iloadN X143.here hx rfl (hb hby d3_13) rfl k_) ?_
  show Run _ _ _ _ (T143.setTop (mkF m 14 #[.val (.ref a1), .val (.long x), .second, .val (.int (21 : Int32)), .val (.int (32 : Int32))] [(.int (21 : Int32)), (.ref a1)]))
  refine Run.step (fun t_ k_ => XS.lloadN X143.here hx rfl (hb hby d3_14) rfl k_) ?_
  show Run _ _ _ _ (T143.setTop (mkF m 15 #[.val (.ref a1), .val (.long x), .second, .val (.int (21 : Int32)), .val (.int (32 : Int32))] [(.long x), (.int (21 : Int32)), (.ref a1)]))
  obtain ⟨cl149, Ar149, q149, S149, M149, H149, U149⟩ := id f144
  have hin150 : ¬ ((21 : Int32) < 0 ∨ cl149.slots.size ≤ ((21 : Int32)).toNatClampNeg) := inb_of S149 ⟨by decide, by decide⟩
  obtain ⟨T150, h150, X150, e150, W150, st150⟩ := stJ X143 hx hZ e143 Ar149 (j := (21 : Int32)) hin150 (g := (mkF m 15 #[.val (.ref a1), .val (.long x), .second, .val (.int (21 : Int32)), .val (.int (32 : Int32))] [(.long x), (.int (21 : Int32)), (.ref a1)])) rfl rfl (hb hby d3_15)
  refine Run.step st150 ?_
  have f151 : Arv Z h150 a1 k .long (32 : Int32) [(.long x), (.long x), (.long x), (.long x), (.long x), (.long x), (.long x), (.long x), (.long x), (.long x), (.long x), (.long x), (.long x), (.long x), (.long x), (.long x), (.long x), (.long x), (.long x), (.long x), (.long x), (.long x), (.long (0 : Int64)), (.long (0 : Int64)), (.long (0 : Int64)), (.long (0 : Int64)), (.long (0 : Int64)), (.long (0 : Int64)), (.long (0 : Int64)), (.long (0 : Int64)), (.long (0 : Int64)), (.long (0 : Int64))] (.long (0 : Int64)) := Arv.set Ar149 q149 S149 M149 H149 U149 rfl W150 21 rfl (Nat.le_of_ble_eq_true rfl)
  have z153 := Nat.le_trans z146 (Keep.of_wr W150).1
  have K154 := K147.wr W150 (Or.inl (List.mem_of_getElem? (i := 0) rfl))
  have N155 := Fr.snoc X150 N148 g1
  show Run _ _ _ _ (T150.setTop (mkF m 16 #[.val (.ref a1), .val (.long x), .second, .val (.int (21 : Int32)), .val (.int (32 : Int32))] []))
  refine Run.step (fun t_ k_ => XS.iinc X150.here hx rfl (hb hby d3_16) rfl (l' := #[.val (.ref a1), .val (.long x), .second, .val (.int (22 : Int32)), .val (.int (32 : Int32))]) rfl k_) ?_
  show Run _ _ _ _ (T150.setTop (mkF m 19 #[.val (.ref a1), .val (.long x), .second, .val (.int (22 : Int32)), .val (.int (32 : Int32))] []))
  refine Run.step (fun t_ k_ => XS.goto X150.here hx rfl (pc0 := 19) (pc' := 6) rfl (hb hby d3_19) (by decide) (by decide) k_) ?_
  show Run _ _ _ _ (T150.setTop (mkF m 6 #[.val (.ref a1), .val (.long x), .second, .val (.int (22 : Int32)), .val (.int (32 : Int32))] []))
  refine Run.step (fun t_ k_ => XS.iloadN X150.here hx rfl (hb hby d3_6) rfl k_) ?_
  show Run _ _ _ _ (T150.setTop (mkF m 7 #[.val (.ref a1), .val (.long x), .second, .val (.int (22 : Int32)), .val (.int (32 : Int32))] [(.int (22 : Int32))]))
  refine Run.step (fun t_ k_ => XS.iload X150.here hx rfl (hb hby d3_7) rfl k_) ?_
  show Run _ _ _ _ (T150.setTop (mkF m 9 #[.val (.ref a1), .val (.long x), .second, .val (.int (22 : Int32)), .val (.int (32 : Int32))] [(.int (32 : Int32)), (.int (22 : Int32))]))
  refine Run.step (fun t_ k_ => XS.icmpNo X150.here hx rfl (hb hby d3_9) rfl (XT.ii_ge_f (by decide : (22 : Int32) < (32 : Int32))) k_) ?_
  show Run _ _ _ _ (T150.setTop (mkF m 12 #[.val (.ref a1), .val (.long x), .second, .val (.int (22 : Int32)), .val (.int (32 : Int32))] []))
  refine Run.step (fun t_ k_ => XS.aloadN X150.here hx rfl (hb hby d3_12) rfl rfl k_) ?_
  show Run _ _ _ _ (T150.setTop (mkF m 13 #[.val (.ref a1), .val (.long x), .second, .val (.int (22 : Int32)), .val (.int (32 : Int32))] [(.ref a1)]))
  refine Run.step (fun t_ k_ => XS.iloadN X150.here hx rfl (hb hby d3_13) rfl k_) ?_
  show Run _ _ _ _ (T150.setTop (mkF m 14 #[.val (.ref a1), .val (.long x), .second, .val (.int (22 : Int32)), .val (.int (32 : Int32))] [(.int (22 : Int32)), (.ref a1)]))
  refine Run.step (fun t_ k_ => XS.lloadN X150.here hx rfl (hb hby d3_14) rfl k_) ?_
  show Run _ _ _ _ (T150.setTop (mkF m 15 #[.val (.ref a1), .val (.long x), .second, .val (.int (22 : Int32)), .val (.int (32 : Int32))] [(.long x), (.int (22 : Int32)), (.ref a1)]))
  obtain ⟨cl156, Ar156, q156, S156, M156, H156, U156⟩ := id f151
  have hin157 : ¬ ((22 : Int32) < 0 ∨ cl156.slots.size ≤ ((22 : Int32)).toNatClampNeg) := inb_of S156 ⟨by decide, by decide⟩
  obtain ⟨T157, h157, X157, e157, W157, st157⟩ := stJ X150 hx hZ e150 Ar156 (j := (22 : Int32)) hin157 (g := (mkF m 15 #[.val (.ref a1), .val (.long x), .second, .val (.int (22 : Int32)), .val (.int (32 : Int32))] [(.long x), (.int (22 : Int32)), (.ref a1)])) rfl rfl (hb hby d3_15)
  refine Run.step st157 ?_
  have f158 : Arv Z h157 a1 k .long (32 : Int32) [(.long x), (.long x), (.long x), (.long x), (.long x), (.long x), (.long x), (.long x), (.long x), (.long x), (.long x), (.long x), (.long x), (.long x), (.long x), (.long x), (.long x), (.long x), (.long x), (.long x), (.long x), (.long x), (.long x), (.long (0 : Int64)), (.long (0 : Int64)), (.long (0 : Int64)), (.long (0 : Int64)), (.long (0 : Int64)), (.long (0 : Int64)), (.long (0 : Int64)), (.long (0 : Int64)), (.long (0 : Int64))] (.long (0 : Int64)) := Arv.set Ar156 q156 S156 M156 H156 U156 rfl W157 22 rfl (Nat.le_of_ble_eq_true rfl)
  have z160 := Nat.le_trans z153 (Keep.of_wr W157).1
  have K161 := K154.wr W157 (Or.inl (List.mem_of_getElem? (i := 0) rfl))
  have N162 := Fr.snoc X157 N155 g1
  show Run _ _ _ _ (T157.setTop (mkF m 16 #[.val (.ref a1), .val (.long x), .second, .val (.int (22 : Int32)), .val (.int (32 : Int32))] []))
  refine Run.step (fun t_ k_ => XS.iinc X157.here hx rfl (hb hby d3_16) rfl (l' := #[.val (.ref a1), .val (.long x), .second, .val (.int (23 : Int32)), .val (.int (32 : Int32))]) rfl k_) ?_
  show Run _ _ _ _ (T157.setTop (mkF m 19 #[.val (.ref a1), .val (.long x), .second, .val (.int (23 : Int32)), .val (.int (32 : Int32))] []))
  refine Run.step (fun t_ k_ => XS.goto X157.here hx rfl (pc0 := 19) (pc' := 6) rfl (hb hby d3_19) (by decide) (by decide) k_) ?_
  show Run _ _ _ _ (T157.setTop (mkF m 6 #[.val (.ref a1), .val (.long x), .second, .val (.int (23 : Int32)), .val (.int (32 : Int32))] []))
  refine Run.step (fun t_ k_ => XS.iloadN X157.here hx rfl (hb hby d3_6) rfl k_) ?_
  show Run _ _ _ _ (T157.setTop (mkF m 7 #[.val (.ref a1), .val (.long x), .second, .val (.int (23 : Int32)), .val (.int (32 : Int32))] [(.int (23 : Int32))]))
  refine Run.step (fun t_ k_ => XS.iload X157.here hx rfl (hb hby d3_7) rfl k_) ?_
  show Run _ _ _ _ (T157.setTop (mkF m 9 #[.val (.ref a1), .val (.long x), .second, .val (.int (23 : Int32)), .val (.int (32 : Int32))] [(.int (32 : Int32)), (.int (23 : Int32))]))
  refine Run.step (fun t_ k_ => XS.icmpNo X157.here hx rfl (hb hby d3_9) rfl (XT.ii_ge_f (by decide : (23 : Int32) < (32 : Int32))) k_) ?_
  show Run _ _ _ _ (T157.setTop (mkF m 12 #[.val (.ref a1), .val (.long x), .second, .val (.int (23 : Int32)), .val (.int (32 : Int32))] []))
  refine Run.step (fun t_ k_ => XS.aloadN X157.here hx rfl (hb hby d3_12) rfl rfl k_) ?_
  show Run _ _ _ _ (T157.setTop (mkF m 13 #[.val (.ref a1), .val (.long x), .second, .val (.int (23 : Int32)), .val (.int (32 : Int32))] [(.ref a1)]))
  refine Run.step (fun t_ k_ => XS.iloadN X157.here hx rfl (hb hby d3_13) rfl k_) ?_
  show Run _ _ _ _ (T157.setTop (mkF m 14 #[.val (.ref a1), .val (.long x), .second, .val (.int (23 : Int32)), .val (.int (32 : Int32))] [(.int (23 : Int32)), (.ref a1)]))
  refine Run.step (fun t_ k_ => XS.lloadN X157.here hx rfl (hb hby d3_14) rfl k_) ?_
  show Run _ _ _ _ (T157.setTop (mkF m 15 #[.val (.ref a1), .val (.long x), .second, .val (.int (23 : Int32)), .val (.int (32 : Int32))] [(.long x), (.int (23 : Int32)), (.ref a1)]))
  obtain ⟨cl163, Ar163, q163, S163, M163, H163, U163⟩ := id f158
  have hin164 : ¬ ((23 : Int32) < 0 ∨ cl163.slots.size ≤ ((23 : Int32)).toNatClampNeg) := inb_of S163 ⟨by decide, by decide⟩
  obtain ⟨T164, h164, X164, e164, W164, st164⟩ := stJ X157 hx hZ e157 Ar163 (j := (23 : Int32)) hin164 (g := (mkF m 15 #[.val (.ref a1), .val (.long x), .second, .val (.int (23 : Int32)), .val (.int (32 : Int32))] [(.long x), (.int (23 : Int32)), (.ref a1)])) rfl rfl (hb hby d3_15)
  refine Run.step st164 ?_
  have f165 : Arv Z h164 a1 k .long (32 : Int32) [(.long x), (.long x), (.long x), (.long x), (.long x), (.long x), (.long x), (.long x), (.long x), (.long x), (.long x), (.long x), (.long x), (.long x), (.long x), (.long x), (.long x), (.long x), (.long x), (.long x), (.long x), (.long x), (.long x), (.long x), (.long (0 : Int64)), (.long (0 : Int64)), (.long (0 : Int64)), (.long (0 : Int64)), (.long (0 : Int64)), (.long (0 : Int64)), (.long (0 : Int64)), (.long (0 : Int64))] (.long (0 : Int64)) := Arv.set Ar163 q163 S163 M163 H163 U163 rfl W164 23 rfl (Nat.le_of_ble_eq_true rfl)
  have z167 := Nat.le_trans z160 (Keep.of_wr W164).1
  have K168 := K161.wr W164 (Or.inl (List.mem_of_getElem? (i := 0) rfl))
  have N169 := Fr.snoc X164 N162 g1
  show Run _ _ _ _ (T164.setTop (mkF m 16 #[.val (.ref a1), .val (.long x), .second, .val (.int (23 : Int32)), .val (.int (32 : Int32))] []))
  refine Run.step (fun t_ k_ => XS.iinc X164.here hx rfl (hb hby d3_16) rfl (l' := #[.val (.ref a1), .val (.long x), .second, .val (.int (24 : Int32)), .val (.int (32 : Int32))]) rfl k_) ?_
  show Run _ _ _ _ (T164.setTop (mkF m 19 #[.val (.ref a1), .val (.long x), .second, .val (.int (24 : Int32)), .val (.int (32 : Int32))] []))
  refine Run.step (fun t_ k_ => XS.goto X164.here hx rfl (pc0 := 19) (pc' := 6) rfl (hb hby d3_19) (by decide) (by decide) k_) ?_
  show Run _ _ _ _ (T164.setTop (mkF m 6 #[.val (.ref a1), .val (.long x), .second, .val (.int (24 : Int32)), .val (.int (32 : Int32))] []))
  refine Run.step (fun t_ k_ => XS.iloadN X164.here hx rfl (hb hby d3_6) rfl k_) ?_
  show Run _ _ _ _ (T164.setTop (mkF m 7 #[.val (.ref a1), .val (.long x), .second, .val (.int (24 : Int32)), .val (.int (32 : Int32))] [(.int (24 : Int32))]))
  refine Run.step (fun t_ k_ => XS.iload X164.here hx rfl (hb hby d3_7) rfl k_) ?_
  show Run _ _ _ _ (T164.setTop (mkF m 9 #[.val (.ref a1), .val (.long x), .second, .val (.int (24 : Int32)), .val (.int (32 : Int32))] [(.int (32 : Int32)), (.int (24 : Int32))]))
  refine Run.step (fun t_ k_ => XS.icmpNo X164.here hx rfl (hb hby d3_9) rfl (XT.ii_ge_f (by decide : (24 : Int32) < (32 : Int32))) k_) ?_
  show Run _ _ _ _ (T164.setTop (mkF m 12 #[.val (.ref a1), .val (.long x), .second, .val (.int (24 : Int32)), .val (.int (32 : Int32))] []))
  refine Run.step (fun t_ k_ => XS.aloadN X164.here hx rfl (hb hby d3_12) rfl rfl k_) ?_
  show Run _ _ _ _ (T164.setTop (mkF m 13 #[.val (.ref a1), .val (.long x), .second, .val (.int (24 : Int32)), .val (.int (32 : Int32))] [(.ref a1)]))
  refine Run.step (fun t_ k_ => XS.iloadN X164.here hx rfl (hb hby d3_13) rfl k_) ?_
  show Run _ _ _ _ (T164.setTop (mkF m 14 #[.val (.ref a1), .val (.long x), .second, .val (.int (24 : Int32)), .val (.int (32 : Int32))] [(.int (24 : Int32)), (.ref a1)]))
  refine Run.step (fun t_ k_ => XS.lloadN X164.here hx rfl (hb hby d3_14) rfl k_) ?_
  show Run _ _ _ _ (T164.setTop (mkF m 15 #[.val (.ref a1), .val (.long x), .second, .val (.int (24 : Int32)), .val (.int (32 : Int32))] [(.long x), (.int (24 : Int32)), (.ref a1)]))
  obtain ⟨cl170, Ar170, q170, S170, M170, H170, U170⟩ := id f165
  have hin171 : ¬ ((24 : Int32) < 0 ∨ cl170.slots.size ≤ ((24 : Int32)).toNatClampNeg) := inb_of S170 ⟨by decide, by decide⟩
  obtain ⟨T171, h171, X171, e171, W171, st171⟩ := stJ X164 hx hZ e164 Ar170 (j := (24 : Int32)) hin171 (g := (mkF m 15 #[.val (.ref a1), .val (.long x), .second, .val (.int (24 : Int32)), .val (.int (32 : Int32))] [(.long x), (.int (24 : Int32)), (.ref a1)])) rfl rfl (hb hby d3_15)
  refine Run.step st171 ?_
  have f172 : Arv Z h171 a1 k .long (32 : Int32) [(.long x), (.long x), (.long x), (.long x), (.long x), (.long x), (.long x), (.long x), (.long x), (.long x), (.long x), (.long x), (.long x), (.long x), (.long x), (.long x), (.long x), (.long x), (.long x), (.long x), (.long x), (.long x), (.long x), (.long x), (.long x), (.long (0 : Int64)), (.long (0 : Int64)), (.long (0 : Int64)), (.long (0 : Int64)), (.long (0 : Int64)), (.long (0 : Int64)), (.long (0 : Int64))] (.long (0 : Int64)) := Arv.set Ar170 q170 S170 M170 H170 U170 rfl W171 24 rfl (Nat.le_of_ble_eq_true rfl)
  have z174 := Nat.le_trans z167 (Keep.of_wr W171).1
  have K175 := K168.wr W171 (Or.inl (List.mem_of_getElem? (i := 0) rfl))
  have N176 := Fr.snoc X171 N169 g1
  show Run _ _ _ _ (T171.setTop (mkF m 16 #[.val (.ref a1), .val (.long x), .second, .val (.int (24 : Int32)), .val (.int (32 : Int32))] []))
  refine Run.step (fun t_ k_ => XS.iinc X171.here hx rfl (hb hby d3_16) rfl (l' := #[.val (.ref a1), .val (.long x), .second, .val (.int (25 : Int32)), .val (.int (32 : Int32))]) rfl k_) ?_
  show Run _ _ _ _ (T171.setTop (mkF m 19 #[.val (.ref a1), .val (.long x), .second, .val (.int (25 : Int32)), .val (.int (32 : Int32))] []))
  refine Run.step (fun t_ k_ => XS.goto X171.here hx rfl (pc0 := 19) (pc' := 6) rfl (hb hby d3_19) (by decide) (by decide) k_) ?_
  show Run _ _ _ _ (T171.setTop (mkF m 6 #[.val (.ref a1), .val (.long x), .second, .val (.int (25 : Int32)), .val (.int (32 : Int32))] []))
  refine Run.step (fun t_ k_ => XS.iloadN X171.here hx rfl (hb hby d3_6) rfl k_) ?_
  show Run _ _ _ _ (T171.setTop (mkF m 7 #[.val (.ref a1), .val (.long x), .second, .val (.int (25 : Int32)), .val (.int (32 : Int32))] [(.int (25 : Int32))]))
  refine Run.step (fun t_ k_ => XS.iload X171.here hx rfl (hb hby d3_7) rfl k_) ?_
  show Run _ _ _ _ (T171.setTop (mkF m 9 #[.val (.ref a1), .val (.long x), .second, .val (.int (25 : Int32)), .val (.int (32 : Int32))] [(.int (32 : Int32)), (.int (25 : Int32))]))
  refine Run.step (fun t_ k_ => XS.icmpNo X171.here hx rfl (hb hby d3_9) rfl (XT.ii_ge_f (by decide : (25 : Int32) < (32 : Int32))) k_) ?_
  show Run _ _ _ _ (T171.setTop (mkF m 12 #[.val (.ref a1), .val (.long x), .second, .val (.int (25 : Int32)), .val (.int (32 : Int32))] []))
  refine Run.step (fun t_ k_ => XS.aloadN X171.here hx rfl (hb hby d3_12) rfl rfl k_) ?_
  show Run _ _ _ _ (T171.setTop (mkF m 13 #[.val (.ref a1), .val (.long x), .second, .val (.int (25 : Int32)), .val (.int (32 : Int32))] [(.ref a1)]))
  refine Run.step (fun t_ k_ => XS.iloadN X171.here hx rfl (hb hby d3_13) rfl k_) ?_
  show Run _ _ _ _ (T171.setTop (mkF m 14 #[.val (.ref a1), .val (.long x), .second, .val (.int (25 : Int32)), .val (.int (32 : Int32))] [(.int (25 : Int32)), (.ref a1)]))
  refine Run.step (fun t_ k_ => XS.lloadN X171.here hx rfl (hb hby d3_14) rfl k_) ?_
  show Run _ _ _ _ (T171.setTop (mkF m 15 #[.val (.ref a1), .val (.long x), .second, .val (.int (25 : Int32)), .val (.int (32 : Int32))] [(.long x), (.int (25 : Int32)), (.ref a1)]))
  obtain ⟨cl177, Ar177, q177, S177, M177, H177, U177⟩ := id f172
  have hin178 : ¬ ((25 : Int32) < 0 ∨ cl177.slots.size ≤ ((25 : Int32)).toNatClampNeg) := inb_of S177 ⟨by decide, by decide⟩
  obtain ⟨T178, h178, X178, e178, W178, st178⟩ := stJ X171 hx hZ e171 Ar177 (j := (25 : Int32)) hin178 (g := (mkF m 15 #[.val (.ref a1), .val (.long x), .second, .val (.int (25 : Int32)), .val (.int (32 : Int32))] [(.long x), (.int (25 : Int32)), (.ref a1)])) rfl rfl (hb hby d3_15)
  refine Run.step st178 ?_
  have f179 : Arv Z h178 a1 k .long (32 : Int32) [(.long x), (.long x), (.long x), (.long x), (.long x), (.long x), (.long x), (.long x), (.long x), (.long x), (.long x), (.long x), (.long x), (.long x), (.long x), (.long x), (.long x), (.long x), (.long x), (.long x), (.long x), (.long x), (.long x), (.long x), (.long x), (.long x), (.long (0 : Int64)), (.long (0 : Int64)), (.long (0 : Int64)), (.long (0 : Int64)), (.long (0 : Int64)), (.long (0 : Int64))] (.long (0 : Int64)) := Arv.set Ar177 q177 S177 M177 H177 U177 rfl W178 25 rfl (Nat.le_of_ble_eq_true rfl)
  have z181 := Nat.le_trans z174 (Keep.of_wr W178).1
  have K182 := K175.wr W178 (Or.inl (List.mem_of_getElem? (i := 0) rfl))
  have N183 := Fr.snoc X178 N176 g1
  show Run _ _ _ _ (T178.setTop (mkF m 16 #[.val (.ref a1), .val (.long x), .second, .val (.int (25 : Int32)), .val (.int (32 : Int32))] []))
  refine Run.step (fun t_ k_ => XS.iinc X178.here hx rfl (hb hby d3_16) rfl (l' := #[.val (.ref a1), .val (.long x), .second, .val (.int (26 : Int32)), .val (.int (32 : Int32))]) rfl k_) ?_
  show Run _ _ _ _ (T178.setTop (mkF m 19 #[.val (.ref a1), .val (.long x), .second, .val (.int (26 : Int32)), .val (.int (32 : Int32))] []))
  refine Run.step (fun t_ k_ => XS.goto X178.here hx rfl (pc0 := 19) (pc' := 6) rfl (hb hby d3_19) (by decide) (by decide) k_) ?_
  show Run _ _ _ _ (T178.setTop (mkF m 6 #[.val (.ref a1), .val (.long x), .second, .val (.int (26 : Int32)), .val (.int (32 : Int32))] []))
  refine Run.step (fun t_ k_ => XS.iloadN X178.here hx rfl (hb hby d3_6) rfl k_) ?_
  show Run _ _ _ _ (T178.setTop (mkF m 7 #[.val (.ref a1), .val (.long x), .second, .val (.int (26 : Int32)), .val (.int (32 : Int32))] [(.int (26 : Int32))]))
  refine Run.step (fun t_ k_ => XS.iload X178.here hx rfl (hb hby d3_7) rfl k_) ?_
  show Run _ _ _ _ (T178.setTop (mkF m 9 #[.val (.ref a1), .val (.long x), .second, .val (.int (26 : Int32)), .val (.int (32 : Int32))] [(.int (32 : Int32)), (.int (26 : Int32))]))
  refine Run.step (fun t_ k_ => XS.icmpNo X178.here hx rfl (hb hby d3_9) rfl (XT.ii_ge_f (by decide : (26 : Int32) < (32 : Int32))) k_) ?_
  show Run _ _ _ _ (T178.setTop (mkF m 12 #[.val (.ref a1), .val (.long x), .second, .val (.int (26 : Int32)), .val (.int (32 : Int32))] []))
  refine Run.step (fun t_ k_ => XS.aloadN X178.here hx rfl (hb hby d3_12) rfl rfl k_) ?_
  show Run _ _ _ _ (T178.setTop (mkF m 13 #[.val (.ref a1), .val (.long x), .second, .val (.int (26 : Int32)), .val (.int (32 : Int32))] [(.ref a1)]))
  refine Run.step (fun t_ k_ => XS.iloadN X178.here hx rfl (hb hby d3_13) rfl k_) ?_
  show Run _ _ _ _ (T178.setTop (mkF m 14 #[.val (.ref a1), .val (.long x), .second, .val (.int (26 : Int32)), .val (.int (32 : Int32))] [(.int (26 : Int32)), (.ref a1)]))
  refine Run.step (fun t_ k_ => XS.lloadN X178.here hx rfl (hb hby d3_14) rfl k_) ?_
  show Run _ _ _ _ (T178.setTop (mkF m 15 #[.val (.ref a1), .val (.long x), .second, .val (.int (26 : Int32)), .val (.int (32 : Int32))] [(.long x), (.int (26 : Int32)), (.ref a1)]))
  obtain ⟨cl184, Ar184, q184, S184, M184, H184, U184⟩ := id f179
  have hin185 : ¬ ((26 : Int32) < 0 ∨ cl184.slots.size ≤ ((26 : Int32)).toNatClampNeg) := inb_of S184 ⟨by decide, by decide⟩
  obtain ⟨T185, h185, X185, e185, W185, st185⟩ := stJ X178 hx hZ e178 Ar184 (j := (26 : Int32)) hin185 (g := (mkF m 15 #[.val (.ref a1), .val (.long x), .second, .val (.int (26 : Int32)), .val (.int (32 : Int32))] [(.long x), (.int (26 : Int32)), (.ref a1)])) rfl rfl (hb hby d3_15)
  refine Run.step st185 ?_
  have f186 : Arv Z h185 a1 k .long (32 : Int32) [(.long x), (.long x), (.long x), (.long x), (.long x), (.long x), (.long x), (.long x), (.long x), (.long x), (.long x), (.long x), (.long x), (.long x), (.long x), (.long x), (.long x), (.long x), (.long x), (.long x), (.long x), (.long x), (.long x), (.long x), (.long x), (.long x), (.long x), (.long (0 : Int64)), (.long (0 : Int64)), (.long (0 : Int64)), (.long (0 : Int64)), (.long (0 : Int64))] (.long (0 : Int64)) := Arv.set Ar184 q184 S184 M184 H184 U184 rfl W185 26 rfl (Nat.le_of_ble_eq_true rfl)
  have z188 := Nat.le_trans z181 (Keep.of_wr W185).1
  have K189 := K182.wr W185 (Or.inl (List.mem_of_getElem? (i := 0) rfl))
  have N190 := Fr.snoc X185 N183 g1
  show Run _ _ _ _ (T185.setTop (mkF m 16 #[.val (.ref a1), .val (.long x), .second, .val (.int (26 : Int32)), .val (.int (32 : Int32))] []))
  refine Run.step (fun t_ k_ => XS.iinc X185.here hx rfl (hb hby d3_16) rfl (l' := #[.val (.ref a1), .val (.long x), .second, .val (.int (27 : Int32)), .val (.int (32 : Int32))]) rfl k_) ?_
  show Run _ _ _ _ (T185.setTop (mkF m 19 #[.val (.ref a1), .val (.long x), .second, .val (.int (27 : Int32)), .val (.int (32 : Int32))] []))
  refine Run.step (fun t_ k_ => XS.goto X185.here hx rfl (pc0 := 19) (pc' := 6) rfl (hb hby d3_19) (by decide) (by decide) k_) ?_
  show Run _ _ _ _ (T185.setTop (mkF m 6 #[.val (.ref a1), .val (.long x), .second, .val (.int (27 : Int32)), .val (.int (32 : Int32))] []))
  refine Run.step (fun t_ k_ => XS.iloadN X185.here hx rfl (hb hby d3_6) rfl k_) ?_
  show Run _ _ _ _ (T185.setTop (mkF m 7 #[.val (.ref a1), .val (.long x), .second, .val (.int (27 : Int32)), .val (.int (32 : Int32))] [(.int (27 : Int32))]))
  refine Run.step (fun t_ k_ => XS.iload X185.here hx rfl (hb hby d3_7) rfl k_) ?_
  show Run _ _ _ _ (T185.setTop (mkF m 9 #[.val (.ref a1), .val (.long x), .second, .val (.int (27 : Int32)), .val (.int (32 : Int32))] [(.int (32 : Int32)), (.int (27 : Int32))]))
  refine Run.step (fun t_ k_ => XS.icmpNo X185.here hx rfl (hb hby d3_9) rfl (XT.ii_ge_f (by decide : (27 : Int32) < (32 : Int32))) k_) ?_
  show Run _ _ _ _ (T185.setTop (mkF m 12 #[.val (.ref a1), .val (.long x), .second, .val (.int (27 : Int32)), .val (.int (32 : Int32))] []))
  refine Run.step (fun t_ k_ => XS.aloadN X185.here hx rfl (hb hby d3_12) rfl rfl k_) ?_
  show Run _ _ _ _ (T185.setTop (mkF m 13 #[.val (.ref a1), .val (.long x), .second, .val (.int (27 : Int32)), .val (.int (32 : Int32))] [(.ref a1)]))
  refine Run.step (fun t_ k_ => XS.iloadN X185.here hx rfl (hb hby d3_13) rfl k_) ?_
  show Run _ _ _ _ (T185.setTop (mkF m 14 #[.val (.ref a1), .val (.long x), .second, .val (.int (27 : Int32)), .val (.int (32 : Int32))] [(.int (27 : Int32)), (.ref a1)]))
  refine Run.step (fun t_ k_ => XS.lloadN X185.here hx rfl (hb hby d3_14) rfl k_) ?_
  show Run _ _ _ _ (T185.setTop (mkF m 15 #[.val (.ref a1), .val (.long x), .second, .val (.int (27 : Int32)), .val (.int (32 : Int32))] [(.long x), (.int (27 : Int32)), (.ref a1)]))
  obtain ⟨cl191, Ar191, q191, S191, M191, H191, U191⟩ := id f186
  have hin192 : ¬ ((27 : Int32) < 0 ∨ cl191.slots.size ≤ ((27 : Int32)).toNatClampNeg) := inb_of S191 ⟨by decide, by decide⟩
  obtain ⟨T192, h192, X192, e192, W192, st192⟩ := stJ X185 hx hZ e185 Ar191 (j := (27 : Int32)) hin192 (g := (mkF m 15 #[.val (.ref a1), .val (.long x), .second, .val (.int (27 : Int32)), .val (.int (32 : Int32))] [(.long x), (.int (27 : Int32)), (.ref a1)])) rfl rfl (hb hby d3_15)
  refine Run.step st192 ?_
  have f193 : Arv Z h192 a1 k .long (32 : Int32) [(.long x), (.long x), (.long x), (.long x), (.long x), (.long x), (.long x), (.long x), (.long x), (.long x), (.long x), (.long x), (.long x), (.long x), (.long x), (.long x), (.long x), (.long x), (.long x), (.long x), (.long x), (.long x), (.long x), (.long x), (.long x), (.long x), (.long x), (.long x), (.long (0 : Int64)), (.long (0 : Int64)), (.long (0 : Int64)), (.long (0 : Int64))] (.long (0 : Int64)) := Arv.set Ar191 q191 S191 M191 H191 U191 rfl W192 27 rfl (Nat.le_of_ble_eq_true rfl)
  have z195 := Nat.le_trans z188 (Keep.of_wr W192).1
  have K196 := K189.wr W192 (Or.inl (List.mem_of_getElem? (i := 0) rfl))
  have N197 := Fr.snoc X192 N190 g1
  show Run _ _ _ _ (T192.setTop (mkF m 16 #[.val (.ref a1), .val (.long x), .second, .val (.int (27 : Int32)), .val (.int (32 : Int32))] []))
  refine Run.step (fun t_ k_ => XS.iinc X192.here hx rfl (hb hby d3_16) rfl (l' := #[.val (.ref a1), .val (.long x), .second, .val (.int (28 : Int32)), .val (.int (32 : Int32))]) rfl k_) ?_
  show Run _ _ _ _ (T192.setTop (mkF m 19 #[.val (.ref a1), .val (.long x), .second, .val (.int (28 : Int32)), .val (.int (32 : Int32))] []))
  refine Run.step (fun t_ k_ => XS.goto X192.here hx rfl (pc0 := 19) (pc' := 6) rfl (hb hby d3_19) (by decide) (by decide) k_) ?_
  show Run _ _ _ _ (T192.setTop (mkF m 6 #[.val (.ref a1), .val (.long x), .second, .val (.int (28 : Int32)), .val (.int (32 : Int32))] []))
  refine Run.step (fun t_ k_ => XS.iloadN X192.here hx rfl (hb hby d3_6) rfl k_) ?_
  show Run _ _ _ _ (T192.setTop (mkF m 7 #[.val (.ref a1), .val (.long x), .second, .val (.int (28 : Int32)), .val (.int (32 : Int32))] [(.int (28 : Int32))]))
  refine Run.step (fun t_ k_ => XS.iload X192.here hx rfl (hb hby d3_7) rfl k_) ?_
  show Run _ _ _ _ (T192.setTop (mkF m 9 #[.val (.ref a1), .val (.long x), .second, .val (.int (28 : Int32)), .val (.int (32 : Int32))] [(.int (32 : Int32)), (.int (28 : Int32))]))
  refine Run.step (fun t_ k_ => XS.icmpNo X192.here hx rfl (hb hby d3_9) rfl (XT.ii_ge_f (by decide : (28 : Int32) < (32 : Int32))) k_) ?_
  show Run _ _ _ _ (T192.setTop (mkF m 12 #[.val (.ref a1), .val (.long x), .second, .val (.int (28 : Int32)), .val (.int (32 : Int32))] []))
  refine Run.step (fun t_ k_ => XS.aloadN X192.here hx rfl (hb hby d3_12) rfl rfl k_) ?_
  show Run _ _ _ _ (T192.setTop (mkF m 13 #[.val (.ref a1), .val (.long x), .second, .val (.int (28 : Int32)), .val (.int (32 : Int32))] [(.ref a1)]))
  refine Run.step (fun t_ k_ => XS.iloadN X192.here hx rfl (hb hby d3_13) rfl k_) ?_
  show Run _ _ _ _ (T192.setTop (mkF m 14 #[.val (.ref a1), .val (.long x), .second, .val (.int (28 : Int32)), .val (.int (32 : Int32))] [(.int (28 : Int32)), (.ref a1)]))
  refine Run.step (fun t_ k_ => XS.lloadN X192.here hx rfl (hb hby d3_14) rfl k_) ?_
  show Run _ _ _ _ (T192.setTop (mkF m 15 #[.val (.ref a1), .val (.long x), .second, .val (.int (28 : Int32)), .val (.int (32 : Int32))] [(.long x), (.int (28 : Int32)), (.ref a1)]))
  obtain ⟨cl198, Ar198, q198, S198, M198, H198, U198⟩ := id f193
  have hin199 : ¬ ((28 : Int32) < 0 ∨ cl198.slots.size ≤ ((28 : Int32)).toNatClampNeg) := inb_of S198 ⟨by decide, by decide⟩
  obtain ⟨T199, h199, X199, e199, W199, st199⟩ := stJ X192 hx hZ e192 Ar198 (j := (28 : Int32)) hin199 (g := (mkF m 15 #[.val (.ref a1), .val (.long x), .second, .val (.int (28 : Int32)), .val (.int (32 : Int32))] [(.long x), (.int (28 : Int32)), (.ref a1)])) rfl rfl (hb hby d3_15)
  refine Run.step st199 ?_
  have f200 : Arv Z h199 a1 k .long (32 : Int32) [(.long x), (.long x), (.long x), (.long x), (.long x), (.long x), (.long x), (.long x), (.long x), (.long x), (.long x), (.long x), (.long x), (.long x), (.long x), (.long x), (.long x), (.long x), (.long x), (.long x), (.long x), (.long x), (.long x), (.long x), (.long x), (.long x), (.long x), (.long x), (.long x), (.long (0 : Int64)), (.long (0 : Int64)), (.long (0 : Int64))] (.long (0 : Int64)) := Arv.set Ar198 q198 S198 M198 H198 U198 rfl W199 28 rfl (Nat.le_of_ble_eq_true rfl)
  have z202 := Nat.le_trans z195 (Keep.of_wr W199).1
  have K203 := K196.wr W199 (Or.inl (List.mem_of_getElem? (i := 0) rfl))
  have N204 := Fr.snoc X199 N197 g1
  show Run _ _ _ _ (T199.setTop (mkF m 16 #[.val (.ref a1), .val (.long x), .second, .val (.int (28 : Int32)), .val (.int (32 : Int32))] []))
  refine Run.step (fun t_ k_ => XS.iinc X199.here hx rfl (hb hby d3_16) rfl (l' := #[.val (.ref a1), .val (.long x), .second, .val (.int (29 : Int32)), .val (.int (32 : Int32))]) rfl k_) ?_
  show Run _ _ _ _ (T199.setTop (mkF m 19 #[.val (.ref a1), .val (.long x), .second, .val (.int (29 : Int32)), .val (.int (32 : Int32))] []))
  refine Run.step (fun t_ k_ => XS.goto X199.here hx rfl (pc0 := 19) (pc' := 6) rfl (hb hby d3_19) (by decide) (by decide) k_) ?_
  show Run _ _ _ _ (T199.setTop (mkF m 6 #[.val (.ref a1), .val (.long x), .second, .val (.int (29 : Int32)), .val (.int (32 : Int32))] []))
  refine Run.step (fun t_ k_ => XS.iloadN X199.here hx rfl (hb hby d3_6) rfl k_) ?_
  show Run _ _ _ _ (T199.setTop (mkF m 7 #[.val (.ref a1), .val (.long x), .second, .val (.int (29 : Int32)), .val (.int (32 : Int32))] [(.int (29 : Int32))]))
  refine Run.step (fun t_ k_ => XS.iload X199.here hx rfl (hb hby d3_7) rfl k_) ?_
  show Run _ _ _ _ (T199.setTop (mkF m 9 #[.val (.ref a1), .val (.long x), .second, .val (.int (29 : Int32)), .val (.int (32 : Int32))] [(.int (32 : Int32)), (.int (29 : Int32))]))
  refine Run.step (fun t_ k_ => XS.icmpNo X199.here hx rfl (hb hby d3_9) rfl (XT.ii_ge_f (by decide : (29 : Int32) < (32 : Int32))) k_) ?_
  show Run _ _ _ _ (T199.setTop (mkF m 12 #[.val (.ref a1), .val (.long x), .second, .val (.int (29 : Int32)), .val (.int (32 : Int32))] []))
  refine Run.step (fun t_ k_ => XS.aloadN X199.here hx rfl (hb hby d3_12) rfl rfl k_) ?_
  show Run _ _ _ _ (T199.setTop (mkF m 13 #[.val (.ref a1), .val (.long x), .second, .val (.int (29 : Int32)), .val (.int (32 : Int32))] [(.ref a1)]))
  refine Run.step (fun t_ k_ => XS.iloadN X199.here hx rfl (hb hby d3_13) rfl k_) ?_
  show Run _ _ _ _ (T199.setTop (mkF m 14 #[.val (.ref a1), .val (.long x), .second, .val (.int (29 : Int32)), .val (.int (32 : Int32))] [(.int (29 : Int32)), (.ref a1)]))
  refine Run.step (fun t_ k_ => XS.lloadN X199.here hx rfl (hb hby d3_14) rfl k_) ?_
  show Run _ _ _ _ (T199.setTop (mkF m 15 #[.val (.ref a1), .val (.long x), .second, .val (.int (29 : Int32)), .val (.int (32 : Int32))] [(.long x), (.int (29 : Int32)), (.ref a1)]))
  obtain ⟨cl205, Ar205, q205, S205, M205, H205, U205⟩ := id f200
  have hin206 : ¬ ((29 : Int32) < 0 ∨ cl205.slots.size ≤ ((29 : Int32)).toNatClampNeg) := inb_of S205 ⟨by decide, by decide⟩
  obtain ⟨T206, h206, X206, e206, W206, st206⟩ := stJ X199 hx hZ e199 Ar205 (j := (29 : Int32)) hin206 (g := (mkF m 15 #[.val (.ref a1), .val (.long x), .second, .val (.int (29 : Int32)), .val (.int (32 : Int32))] [(.long x), (.int (29 : Int32)), (.ref a1)])) rfl rfl (hb hby d3_15)
  refine Run.step st206 ?_
  have f207 : Arv Z h206 a1 k .long (32 : Int32) [(.long x), (.long x), (.long x), (.long x), (.long x), (.long x), (.long x), (.long x), (.long x), (.long x), (.long x), (.long x), (.long x), (.long x), (.long x), (.long x), (.long x), (.long x), (.long x), (.long x), (.long x), (.long x), (.long x), (.long x), (.long x), (.long x), (.long x), (.long x), (.long x), (.long x), (.long (0 : Int64)), (.long (0 : Int64))] (.long (0 : Int64)) := Arv.set Ar205 q205 S205 M205 H205 U205 rfl W206 29 rfl (Nat.le_of_ble_eq_true rfl)
  have z209 := Nat.le_trans z202 (Keep.of_wr W206).1
  have K210 := K203.wr W206 (Or.inl (List.mem_of_getElem? (i := 0) rfl))
  have N211 := Fr.snoc X206 N204 g1
  show Run _ _ _ _ (T206.setTop (mkF m 16 #[.val (.ref a1), .val (.long x), .second, .val (.int (29 : Int32)), .val (.int (32 : Int32))] []))
  refine Run.step (fun t_ k_ => XS.iinc X206.here hx rfl (hb hby d3_16) rfl (l' := #[.val (.ref a1), .val (.long x), .second, .val (.int (30 : Int32)), .val (.int (32 : Int32))]) rfl k_) ?_
  show Run _ _ _ _ (T206.setTop (mkF m 19 #[.val (.ref a1), .val (.long x), .second, .val (.int (30 : Int32)), .val (.int (32 : Int32))] []))
  refine Run.step (fun t_ k_ => XS.goto X206.here hx rfl (pc0 := 19) (pc' := 6) rfl (hb hby d3_19) (by decide) (by decide) k_) ?_
  show Run _ _ _ _ (T206.setTop (mkF m 6 #[.val (.ref a1), .val (.long x), .second, .val (.int (30 : Int32)), .val (.int (32 : Int32))] []))
  refine Run.step (fun t_ k_ => XS.iloadN X206.here hx rfl (hb hby d3_6) rfl k_) ?_
  show Run _ _ _ _ (T206.setTop (mkF m 7 #[.val (.ref a1), .val (.long x), .second, .val (.int (30 : Int32)), .val (.int (32 : Int32))] [(.int (30 : Int32))]))
  refine Run.step (fun t_ k_ => XS.iload X206.here hx rfl (hb hby d3_7) rfl k_) ?_
  show Run _ _ _ _ (T206.setTop (mkF m 9 #[.val (.ref a1), .val (.long x), .second, .val (.int (30 : Int32)), .val (.int (32 : Int32))] [(.int (32 : Int32)), (.int (30 : Int32))]))
  refine Run.step (fun t_ k_ => XS.icmpNo X206.here hx rfl (hb hby d3_9) rfl (XT.ii_ge_f (by decide : (30 : Int32) < (32 : Int32))) k_) ?_
  show Run _ _ _ _ (T206.setTop (mkF m 12 #[.val (.ref a1), .val (.long x), .second, .val (.int (30 : Int32)), .val (.int (32 : Int32))] []))
  refine Run.step (fun t_ k_ => XS.aloadN X206.here hx rfl (hb hby d3_12) rfl rfl k_) ?_
  show Run _ _ _ _ (T206.setTop (mkF m 13 #[.val (.ref a1), .val (.long x), .second, .val (.int (30 : Int32)), .val (.int (32 : Int32))] [(.ref a1)]))
  refine Run.step (fun t_ k_ => XS.iloadN X206.here hx rfl (hb hby d3_13) rfl k_) ?_
  show Run _ _ _ _ (T206.setTop (mkF m 14 #[.val (.ref a1), .val (.long x), .second, .val (.int (30 : Int32)), .val (.int (32 : Int32))] [(.int (30 : Int32)), (.ref a1)]))
  refine Run.step (fun t_ k_ => XS.lloadN X206.here hx rfl (hb hby d3_14) rfl k_) ?_
  show Run _ _ _ _ (T206.setTop (mkF m 15 #[.val (.ref a1), .val (.long x), .second, .val (.int (30 : Int32)), .val (.int (32 : Int32))] [(.long x), (.int (30 : Int32)), (.ref a1)]))
  obtain ⟨cl212, Ar212, q212, S212, M212, H212, U212⟩ := id f207
  have hin213 : ¬ ((30 : Int32) < 0 ∨ cl212.slots.size ≤ ((30 : Int32)).toNatClampNeg) := inb_of S212 ⟨by decide, by decide⟩
  obtain ⟨T213, h213, X213, e213, W213, st213⟩ := stJ X206 hx hZ e206 Ar212 (j := (30 : Int32)) hin213 (g := (mkF m 15 #[.val (.ref a1), .val (.long x), .second, .val (.int (30 : Int32)), .val (.int (32 : Int32))] [(.long x), (.int (30 : Int32)), (.ref a1)])) rfl rfl (hb hby d3_15)
  refine Run.step st213 ?_
  have f214 : Arv Z h213 a1 k .long (32 : Int32) [(.long x), (.long x), (.long x), (.long x), (.long x), (.long x), (.long x), (.long x), (.long x), (.long x), (.long x), (.long x), (.long x), (.long x), (.long x), (.long x), (.long x), (.long x), (.long x), (.long x), (.long x), (.long x), (.long x), (.long x), (.long x), (.long x), (.long x), (.long x), (.long x), (.long x), (.long x), (.long (0 : Int64))] (.long (0 : Int64)) := Arv.set Ar212 q212 S212 M212 H212 U212 rfl W213 30 rfl (Nat.le_of_ble_eq_true rfl)
  have z216 := Nat.le_trans z209 (Keep.of_wr W213).1
  have K217 := K210.wr W213 (Or.inl (List.mem_of_getElem? (i := 0) rfl))
  have N218 := Fr.snoc X213 N211 g1
  show Run _ _ _ _ (T213.setTop (mkF m 16 #[.val (.ref a1), .val (.long x), .second, .val (.int (30 : Int32)), .val (.int (32 : Int32))] []))
  refine Run.step (fun t_ k_ => XS.iinc X213.here hx rfl (hb hby d3_16) rfl (l' := #[.val (.ref a1), .val (.long x), .second, .val (.int (31 : Int32)), .val (.int (32 : Int32))]) rfl k_) ?_
  show Run _ _ _ _ (T213.setTop (mkF m 19 #[.val (.ref a1), .val (.long x), .second, .val (.int (31 : Int32)), .val (.int (32 : Int32))] []))
  refine Run.step (fun t_ k_ => XS.goto X213.here hx rfl (pc0 := 19) (pc' := 6) rfl (hb hby d3_19) (by decide) (by decide) k_) ?_
  show Run _ _ _ _ (T213.setTop (mkF m 6 #[.val (.ref a1), .val (.long x), .second, .val (.int (31 : Int32)), .val (.int (32 : Int32))] []))
  refine Run.step (fun t_ k_ => XS.iloadN X213.here hx rfl (hb hby d3_6) rfl k_) ?_
  show Run _ _ _ _ (T213.setTop (mkF m 7 #[.val (.ref a1), .val (.long x), .second, .val (.int (31 : Int32)), .val (.int (32 : Int32))] [(.int (31 : Int32))]))
  refine Run.step (fun t_ k_ => XS.iload X213.here hx rfl (hb hby d3_7) rfl k_) ?_
  show Run _ _ _ _ (T213.setTop (mkF m 9 #[.val (.ref a1), .val (.long x), .second, .val (.int (31 : Int32)), .val (.int (32 : Int32))] [(.int (32 : Int32)), (.int (31 : Int32))]))
  refine Run.step (fun t_ k_ => XS.icmpNo X213.here hx rfl (hb hby d3_9) rfl (XT.ii_ge_f (by decide : (31 : Int32) < (32 : Int32))) k_) ?_
  show Run _ _ _ _ (T213.setTop (mkF m 12 #[.val (.ref a1), .val (.long x), .second, .val (.int (31 : Int32)), .val (.int (32 : Int32))] []))
  refine Run.step (fun t_ k_ => XS.aloadN X213.here hx rfl (hb hby d3_12) rfl rfl k_) ?_
  show Run _ _ _ _ (T213.setTop (mkF m 13 #[.val (.ref a1), .val (.long x), .second, .val (.int (31 : Int32)), .val (.int (32 : Int32))] [(.ref a1)]))
  refine Run.step (fun t_ k_ => XS.iloadN X213.here hx rfl (hb hby d3_13) rfl k_) ?_
  show Run _ _ _ _ (T213.setTop (mkF m 14 #[.val (.ref a1), .val (.long x), .second, .val (.int (31 : Int32)), .val (.int (32 : Int32))] [(.int (31 : Int32)), (.ref a1)]))
  refine Run.step (fun t_ k_ => XS.lloadN X213.here hx rfl (hb hby d3_14) rfl k_) ?_
  show Run _ _ _ _ (T213.setTop (mkF m 15 #[.val (.ref a1), .val (.long x), .second, .val (.int (31 : Int32)), .val (.int (32 : Int32))] [(.long x), (.int (31 : Int32)), (.ref a1)]))
  obtain ⟨cl219, Ar219, q219, S219, M219, H219, U219⟩ := id f214
  have hin220 : ¬ ((31 : Int32) < 0 ∨ cl219.slots.size ≤ ((31 : Int32)).toNatClampNeg) := inb_of S219 ⟨by decide, by decide⟩
  obtain ⟨T220, h220, X220, e220, W220, st220⟩ := stJ X213 hx hZ e213 Ar219 (j := (31 : Int32)) hin220 (g := (mkF m 15 #[.val (.ref a1), .val (.long x), .second, .val (.int (31 : Int32)), .val (.int (32 : Int32))] [(.long x), (.int (31 : Int32)), (.ref a1)])) rfl rfl (hb hby d3_15)
  refine Run.step st220 ?_
  have f221 : Arv Z h220 a1 k .long (32 : Int32) [(.long x), (.long x), (.long x), (.long x), (.long x), (.long x), (.long x), (.long x), (.long x), (.long x), (.long x), (.long x), (.long x), (.long x), (.long x), (.long x), (.long x), (.long x), (.long x), (.long x), (.long x), (.long x), (.long x), (.long x), (.long x), (.long x), (.long x), (.long x), (.long x), (.long x), (.long x), (.long x)] (.long (0 : Int64)) := Arv.set Ar219 q219 S219 M219 H219 U219 rfl W220 31 rfl (Nat.le_of_ble_eq_true rfl)
  have z223 := Nat.le_trans z216 (Keep.of_wr W220).1
  have K224 := K217.wr W220 (Or.inl (List.mem_of_getElem? (i := 0) rfl))
  have N225 := Fr.snoc X220 N218 g1
  show Run _ _ _ _ (T220.setTop (mkF m 16 #[.val (.ref a1), .val (.long x), .second, .val (.int (31 : Int32)), .val (.int (32 : Int32))] []))
  refine Run.step (fun t_ k_ => XS.iinc X220.here hx rfl (hb hby d3_16) rfl (l' := #[.val (.ref a1), .val (.long x), .second, .val (.int (32 : Int32)), .val (.int (32 : Int32))]) rfl k_) ?_
  show Run _ _ _ _ (T220.setTop (mkF m 19 #[.val (.ref a1), .val (.long x), .second, .val (.int (32 : Int32)), .val (.int (32 : Int32))] []))
  refine Run.step (fun t_ k_ => XS.goto X220.here hx rfl (pc0 := 19) (pc' := 6) rfl (hb hby d3_19) (by decide) (by decide) k_) ?_
  show Run _ _ _ _ (T220.setTop (mkF m 6 #[.val (.ref a1), .val (.long x), .second, .val (.int (32 : Int32)), .val (.int (32 : Int32))] []))
  refine Run.step (fun t_ k_ => XS.iloadN X220.here hx rfl (hb hby d3_6) rfl k_) ?_
  show Run _ _ _ _ (T220.setTop (mkF m 7 #[.val (.ref a1), .val (.long x), .second, .val (.int (32 : Int32)), .val (.int (32 : Int32))] [(.int (32 : Int32))]))
  refine Run.step (fun t_ k_ => XS.iload X220.here hx rfl (hb hby d3_7) rfl k_) ?_
  show Run _ _ _ _ (T220.setTop (mkF m 9 #[.val (.ref a1), .val (.long x), .second, .val (.int (32 : Int32)), .val (.int (32 : Int32))] [(.int (32 : Int32)), (.int (32 : Int32))]))
  refine Run.step (fun t_ k_ => XS.icmpYes X220.here hx rfl (pc0 := 9) (pc' := 22) rfl (hb hby d3_9) rfl (XT.ii_ge_t (by decide : ¬ ((32 : Int32) < (32 : Int32)))) (by decide) (by decide) k_) ?_
  show Run _ _ _ _ (T220.setTop (mkF m 22 #[.val (.ref a1), .val (.long x), .second, .val (.int (32 : Int32)), .val (.int (32 : Int32))] []))
  exact finV X220 hx (BodyLoose.notSynchronized Bd) Bd.returns (hb hby d3_22) (by decide) (by decide) e220 ⟨rfl, N225, K224, f221⟩
theorem pn_cleave_partition_LineGroups : plainName "cleave/partition/LineGroups" = true := by first | (simp [plainName, overriddenIn]; done) | decide +kernel
theorem d1_0 : decode prog_85_method_1_code 0 = .ok (.aload_n 0, 1) := by decide +kernel
theorem d1_1 : decode prog_85_method_1_code 1 = .ok (.invokespecial 1, 3) := by decide +kernel
theorem d1_4 : decode prog_85_method_1_code 4 = .ok (.aload_n 0, 1) := by decide +kernel
theorem d1_5 : decode prog_85_method_1_code 5 = .ok (.bipush 32, 2) := by decide +kernel
theorem d1_7 : decode prog_85_method_1_code 7 = .ok (.newarray .long, 2) := by decide +kernel
theorem d1_9 : decode prog_85_method_1_code 9 = .ok (.putfield 9, 3) := by decide +kernel
theorem d1_12 : decode prog_85_method_1_code 12 = .ok (.aload_n 0, 1) := by decide +kernel
theorem d1_13 : decode prog_85_method_1_code 13 = .ok (.getfield 9, 3) := by decide +kernel
theorem d1_16 : decode prog_85_method_1_code 16 = .ok (.ldc2_w 13, 3) := by decide +kernel
theorem d1_19 : decode prog_85_method_1_code 19 = .ok (.invokestatic 15, 3) := by decide +kernel
theorem pd__28_5bJJ_29V : parseMethodDescriptor "([JJ)V" = some ⟨[(.array .long), .long], none⟩ := by decide +kernel
theorem d1_22 : decode prog_85_method_1_code 22 = .ok (.return_, 1) := by decide +kernel
theorem ef_1 (m : MethodId) (x0 : Addr) : entryFrame m #[(.ref x0)] 1 = mkF m 0 #[.val (.ref x0)] [] := by first | (simp [entryFrame, mkF, argsToLocals, Value.category, maxLocals]; done) | rfl
def Q1 (Z : State) (a1 : Addr) (h0 : Heap) (n0 : Nat) (v : Option Value) (h : Heap) (L : List Loc) : Prop := v = none ∧ Fr n0 L ∧ Keep h0 h [a1] ∧ ∃ r k, Fld Z h a1 "cleave/partition/LineGroups" "recent" "[J" (.ref r) ∧ Fld Z h a1 "cleave/partition/LineGroups" "lines" "J" (.long (0 : Int64)) ∧ Fld Z h a1 "cleave/partition/LineGroups" "near" "J" (.long (0 : Int64)) ∧ Arv Z h r k .long (32 : Int32) (own_l (fun _ => -1)) (.long (0 : Int64)) ∧ h0.size ≤ r
set_option maxRecDepth 65536 in
set_option maxHeartbeats 40000000 in
theorem rm1 (l : Launch) (Z : State) (a0 : Array Value) (hw : ∀ d ∈ tables_1, d.before a0 Z = true) (ws : List Jvm.Cond) (a1 : Addr) (h0 : Heap) (n0 : Nat) (Z0 : n0 ≤ h0.size) (F1 : Fld Z h0 a1 "cleave/partition/LineGroups" "recent" "[J" .null) (F2 : Fld Z h0 a1 "cleave/partition/LineGroups" "lines" "J" (.long (0 : Int64))) (F3 : Fld Z h0 a1 "cleave/partition/LineGroups" "near" "J" (.long (0 : Int64))) (E1 : Exa Z h0 a1 "cleave/partition/LineGroups") (g1 : n0 ≤ a1) :
    MetFree l (⟨"cleave/partition/LineGroups", "<init>", "()V"⟩ : MethodName) (head1 (Jvm.Cond.code (⟨"cleave/partition/LineGroups", "<init>", "()V"⟩ : MethodName) prog_85_method_1_code 1 none :: ws) ({ frames := 1, cells := 1, slots := 32, locals := 16 } : Room)) (fun a U => a = #[(.ref a1)] ∧ Z.Warmed39 U.vm ∧ U.heap = h0) (fun _ _ _ _ _ => True) (fun _ U o U' => ∃ v L, o = .returned v ∧ Q1 Z a1 h0 n0 v U'.heap L ∧ FrameEnd U o U' L ({ frames := 1, cells := 1, slots := 32, locals := 16 } : Room).cells ({ frames := 1, cells := 1, slots := 32, locals := 16 } : Room).slots) := by
  refine MetFree.of_bodySF (plainFor_of_name pn_cleave_partition_LineGroups) hisR ?_
  intro p e s m args below meth c s₁ Bd hml0 hP hK
  obtain ⟨rfl, hZ, hh⟩ := hP
  have hx := Bd.exec
  have hby := Bd.bytes
  have w2 := hw _ (List.mem_of_getElem? (i := 2) rfl)
  have w7 := hw _ (List.mem_of_getElem? (i := 7) rfl)
  have w8 := hw _ (List.mem_of_getElem? (i := 8) rfl)
  have w9 := hw _ (List.mem_of_getElem? (i := 9) rfl)
  have w10 := hw _ (List.mem_of_getElem? (i := 10) rfl)
  have w11 := hw _ (List.mem_of_getElem? (i := 11) rfl)
  have w12 := hw _ (List.mem_of_getElem? (i := 12) rfl)
  have w13 := hw _ (List.mem_of_getElem? (i := 13) rfl)
  have w14 := hw _ (List.mem_of_getElem? (i := 14) rfl)
  have w15 := hw _ (List.mem_of_getElem? (i := 15) rfl)
  have w16 := hw _ (List.mem_of_getElem? (i := 16) rfl)
  have w17 := hw _ (List.mem_of_getElem? (i := 17) rfl)
  have w24 := hw _ (List.mem_of_getElem? (i := 24) rfl)
  have w27 := hw _ (List.mem_of_getElem? (i := 27) rfl)
  have hml : c.maxLocals = 1 := hml0
  have hown : s.vm.findClass "cleave/partition/LineGroups" = some m.cls := findClass_of_methodNamed Bd.named
  have hnm := (name_of_methodNamed Bd.named Bd.method).1
  have X0 : Stand p l e ({ frames := 1, cells := 1, slots := 32, locals := 16 } : Room) s m #[(.ref a1)] below meth c s₁ [] 0 0 := Stand.of_body Bd
  have e0 : s₁.heap = h0 := by rw [← hh, Bd.state]; rfl
  have N0 := Fr.nil n0
  show Run p.tables e below (PQ s below 1 32 (Q1 Z a1 h0 n0)) (s₁.setTop (entryFrame m #[(.ref a1)] 1))
  refine Run.step (fun t k => castTop (ef_1 m a1) k) ?_
  show Run _ _ _ _ (s₁.setTop (mkF m 0 #[.val (.ref a1)] []))
  refine Run.step (fun t_ k_ => XS.aloadN X0.here hx rfl (hb hby d1_0) rfl rfl k_) ?_
  show Run _ _ _ _ (s₁.setTop (mkF m 1 #[.val (.ref a1)] [(.ref a1)]))
  obtain ⟨T226, X226, e226, st226⟩ := initO X0 hx hZ hown w7 w8 w9 e0 (g := (mkF m 1 #[.val (.ref a1)] [(.ref a1)])) rfl (by rw [hml]; rfl) rfl (hb hby d1_1) (by decide) (W := 0) (by show 2 * 0 + _ ≤ _; exact Nat.le_of_eq rfl) (by decide)
  refine Run.step st226 ?_
  show Run _ _ _ _ (T226.setTop (mkF m 4 #[.val (.ref a1)] []))
  refine Run.step (fun t_ k_ => XS.aloadN X226.here hx rfl (hb hby d1_4) rfl rfl k_) ?_
  show Run _ _ _ _ (T226.setTop (mkF m 5 #[.val (.ref a1)] [(.ref a1)]))
  refine Run.step (fun t_ k_ => XS.bipush X226.here hx rfl (hb hby d1_5) k_) ?_
  show Run _ _ _ _ (T226.setTop (mkF m 7 #[.val (.ref a1)] [(.int (32 : Int32)), (.ref a1)]))
  obtain ⟨T227, h227, k227, X227, e227, E227, A227, st227⟩ := newP (aty := .long) X226 hx hZ w10 e226 (g := (mkF m 7 #[.val (.ref a1)] [(.int (32 : Int32)), (.ref a1)])) rfl (hb hby d1_7) rfl (by decide) (cap := 32) (by decide) (by decide) (by decide) (by decide)
  obtain ⟨b227, g227⟩ : ∃ z, z = h0.size := ⟨_, rfl⟩
  rw [← g227] at A227 st227
  refine Run.step st227 ?_
  have ne228 : a1 ≠ b227 := Nat.ne_of_lt (Nat.lt_of_lt_of_le F1.lt (Nat.le_of_eq g227.symm))
  have g_b227 : n0 ≤ b227 := Nat.le_trans Z0 (Nat.le_of_eq g227.symm)
  have sz_b227 : h0.size ≤ b227 := Nat.le_trans (Keep.refl h0 [a1]).1 (Nat.le_of_eq g227.symm)
  have f229 := F1.ext E227
  have f230 := F2.ext E227
  have f231 := F3.ext E227
  have f232 := E1.ext E227
  have z233 := Nat.le_trans Z0 E227.1
  have K234 := (Keep.refl h0 [a1]).ext E227
  have f235 : Arv Z h227 b227 k227 .long (32 : Int32) [(.long (0 : Int64)), (.long (0 : Int64)), (.long (0 : Int64)), (.long (0 : Int64)), (.long (0 : Int64)), (.long (0 : Int64)), (.long (0 : Int64)), (.long (0 : Int64)), (.long (0 : Int64)), (.long (0 : Int64)), (.long (0 : Int64)), (.long (0 : Int64)), (.long (0 : Int64)), (.long (0 : Int64)), (.long (0 : Int64)), (.long (0 : Int64)), (.long (0 : Int64)), (.long (0 : Int64)), (.long (0 : Int64)), (.long (0 : Int64)), (.long (0 : Int64)), (.long (0 : Int64)), (.long (0 : Int64)), (.long (0 : Int64)), (.long (0 : Int64)), (.long (0 : Int64)), (.long (0 : Int64)), (.long (0 : Int64)), (.long (0 : Int64)), (.long (0 : Int64)), (.long (0 : Int64)), (.long (0 : Int64))] (.long (0 : Int64)) := Arv.pad (Arv.new A227 (by decide)) (pad_rep [] (.long (0 : Int64)) 32)
  show Run _ _ _ _ (T227.setTop (mkF m 9 #[.val (.ref a1)] [(.ref b227), (.ref a1)]))
  obtain ⟨T236, h236, X236, e236, W236, st236⟩ := putF X227 hx hZ hown (host := "") (Or.inl w11) Via.refl e227 f229 f232 (Or.inr ⟨w12, rfl, hnm⟩) w2 (ty := (.array .long)) (by decide) rfl rfl (g := (mkF m 9 #[.val (.ref a1)] [(.ref b227), (.ref a1)])) rfl rfl (hb hby d1_9)
  refine Run.step st236 ?_
  have f237 := f229.same W236
  have f238 := f230.other W236 (Or.inr (slot_ne (Or.inl w24) (Or.inr w12) (by decide) (t := .long) (t' := (.array .long)) (by decide) (by decide)))
  have f239 := f231.other W236 (Or.inr (slot_ne (Or.inl w27) (Or.inr w12) (by decide) (t := .long) (t' := (.array .long)) (by decide) (by decide)))
  have f240 := f232.wr W236
  have f241 := f235.other W236 (Ne.symm ne228)
  have z242 := Nat.le_trans z233 (Keep.of_wr W236).1
  have K243 := K234.wr W236 (Or.inl (List.mem_of_getElem? (i := 0) rfl))
  have N244 := Fr.snoc X236 N0 g1
  show Run _ _ _ _ (T236.setTop (mkF m 12 #[.val (.ref a1)] []))
  refine Run.step (fun t_ k_ => XS.aloadN X236.here hx rfl (hb hby d1_12) rfl rfl k_) ?_
  show Run _ _ _ _ (T236.setTop (mkF m 13 #[.val (.ref a1)] [(.ref a1)]))
  obtain ⟨T245, X245, e245, st245⟩ := getF X236 hx hZ hown (host := "") (Or.inl w11) Via.refl e236 f237 (g := (mkF m 13 #[.val (.ref a1)] [(.ref a1)])) rfl rfl (hb hby d1_13)
  refine Run.step st245 ?_
  show Run _ _ _ _ (T245.setTop (mkF m 16 #[.val (.ref a1)] [(.ref b227)]))
  refine Run.step (fun t_ k_ => X245.ldc2Long hx hown (mvT hZ w13) (g := (mkF m 16 #[.val (.ref a1)] [(.ref b227)])) rfl (hb hby d1_16) _ k_) ?_
  show Run _ _ _ _ (T245.setTop (mkF m 19 #[.val (.ref a1)] [(.long (-1 : Int64)), (.ref b227)]))
  obtain ⟨_, _, ⟨T246, L246, k246, n246⟩, -, X246, ⟨Lc246, hQ246, l246, y246, z246⟩, st246⟩ := Jvm.LawKit.callS X245 hx (y := (⟨"java/util/Arrays", "fill", "([JJ)V"⟩ : MethodName)) hown (mvT hZ w14) (mvT hZ w15) (mvT hZ w16) (mvT hZ w17) (by decide) (backOf (W := 0) (rm3 l Z a0 hw [] b227 k227 (-1 : Int64) h236 n0 z242 f241 g_b227) hZ w17 w16 (by decide) (by decide)) (g := (mkF m 19 #[.val (.ref a1)] [(.long (-1 : Int64)), (.ref b227)])) rfl (by rw [hml]; rfl) (argsL := [(.ref b227), (.long (-1 : Int64))]) (rest := []) (lenOf pd__28_5bJJ_29V rfl) rfl (by show 2 * 0 + _ ≤ _; exact Nat.le_of_eq rfl) (hb hby d1_19) (fun _ _ => ⟨rfl, e245, (by decide : 1 + 0 ≤ _), (by decide : 32 + 0 ≤ _)⟩)
  dsimp only [Pt.U, Pt.locs, Pt.cells, Pt.slots] at X246 l246 y246 z246 st246 hQ246
  subst l246 y246 z246
  refine Run.step (st246) ?_
  obtain ⟨rfl, N246q, K246q, fv246⟩ := hQ246
  have N246 := Fr.app N244 N246q
  have f247 := f237.keep K246q (ninS ne228 nin0)
  have f248 := f238.keep K246q (ninS ne228 nin0)
  have f249 := f239.keep K246q (ninS ne228 nin0)
  have f250 := f240.keep K246q
  have z252 := Nat.le_trans z242 K246q.1
  have K253 := K243.trans K246q (allS (Or.inr sz_b227) all0)
  show Run _ _ _ _ (T246.setTop (mkF m 22 #[.val (.ref a1)] []))
  exact finV X246 hx (BodyLoose.notSynchronized Bd) Bd.returns (hb hby d1_22) (by decide) (by decide) rfl ⟨rfl, N246, K253, b227, k227, f247, f248, f249, fv246, sz_b227⟩
theorem d5_0 : decode prog_85_method_3_code 0 = .ok (.ldc2_w 30, 3) := by decide +kernel
theorem d5_3 : decode prog_85_method_3_code 3 = .ok (.aload_n 0, 1) := by decide +kernel
theorem d5_4 : decode prog_85_method_3_code 4 = .ok (.getfield 27, 3) := by decide +kernel
theorem d5_7 : decode prog_85_method_3_code 7 = .ok (.lmul, 1) := by decide +kernel
theorem d5_8 : decode prog_85_method_3_code 8 = .ok (.aload_n 0, 1) := by decide +kernel
theorem d5_9 : decode prog_85_method_3_code 9 = .ok (.getfield 21, 3) := by decide +kernel
theorem d5_12 : decode prog_85_method_3_code 12 = .ok (.lcmp, 1) := by decide +kernel
theorem d5_13 : decode prog_85_method_3_code 13 = .ok (.ifCond .le 7, 3) := by decide +kernel
theorem d5_16 : decode prog_85_method_3_code 16 = .ok (.iconst 1, 1) := by decide +kernel
theorem d5_17 : decode prog_85_method_3_code 17 = .ok (.goto 4, 3) := by decide +kernel
theorem d5_21 : decode prog_85_method_3_code 21 = .ok (.ireturn, 1) := by decide +kernel
theorem d5_20 : decode prog_85_method_3_code 20 = .ok (.iconst 0, 1) := by decide +kernel
theorem ef_5 (m : MethodId) (x0 : Addr) : entryFrame m #[(.ref x0)] 1 = mkF m 0 #[.val (.ref x0)] [] := by first | (simp [entryFrame, mkF, argsToLocals, Value.category, maxLocals]; done) | rfl
def Q5 (Z : State) (a1 : Addr) (ln : Int64) (nr : Int64) (h0 : Heap) (n0 : Nat) (v : Option Value) (h : Heap) (L : List Loc) : Prop := v = some (.int (if ln < (2 : Int64) * nr then 1 else 0)) ∧ Fr n0 L ∧ h = h0
set_option maxRecDepth 65536 in
set_option maxHeartbeats 40000000 in
theorem rm5 (l : Launch) (Z : State) (a0 : Array Value) (hw : ∀ d ∈ tables_1, d.before a0 Z = true) (ws : List Jvm.Cond) (a1 : Addr) (ln : Int64) (nr : Int64) (h0 : Heap) (n0 : Nat) (Z0 : n0 ≤ h0.size) (F2 : Fld Z h0 a1 "cleave/partition/LineGroups" "lines" "J" (.long ln)) (F3 : Fld Z h0 a1 "cleave/partition/LineGroups" "near" "J" (.long nr)) :
    MetFree l (⟨"cleave/partition/LineGroups", "grouped", "()Z"⟩ : MethodName) (head1 (Jvm.Cond.code (⟨"cleave/partition/LineGroups", "grouped", "()Z"⟩ : MethodName) prog_85_method_3_code 1 (some .boolean) :: ws) ({ frames := 0, cells := 0, slots := 0, locals := 0 } : Room)) (fun a U => a = #[(.ref a1)] ∧ Z.Warmed39 U.vm ∧ U.heap = h0) (fun _ _ _ _ _ => True) (fun _ U o U' => ∃ v L, o = .returned v ∧ Q5 Z a1 ln nr h0 n0 v U'.heap L ∧ FrameEnd U o U' L ({ frames := 0, cells := 0, slots := 0, locals := 0 } : Room).cells ({ frames := 0, cells := 0, slots := 0, locals := 0 } : Room).slots) := by
  refine MetFree.of_bodySF (plainFor_of_name pn_cleave_partition_LineGroups) hisR ?_
  intro p e s m args below meth c s₁ Bd hml0 hP hK
  obtain ⟨rfl, hZ, hh⟩ := hP
  have hx := Bd.exec
  have hby := Bd.bytes
  have w23 := hw _ (List.mem_of_getElem? (i := 23) rfl)
  have w26 := hw _ (List.mem_of_getElem? (i := 26) rfl)
  have w33 := hw _ (List.mem_of_getElem? (i := 33) rfl)
  have hml : c.maxLocals = 1 := hml0
  have hown : s.vm.findClass "cleave/partition/LineGroups" = some m.cls := findClass_of_methodNamed Bd.named
  have hnm := (name_of_methodNamed Bd.named Bd.method).1
  have X0 : Stand p l e ({ frames := 0, cells := 0, slots := 0, locals := 0 } : Room) s m #[(.ref a1)] below meth c s₁ [] 0 0 := Stand.of_body Bd
  have e0 : s₁.heap = h0 := by rw [← hh, Bd.state]; rfl
  have N0 := Fr.nil n0
  show Run p.tables e below (PQ s below 0 0 (Q5 Z a1 ln nr h0 n0)) (s₁.setTop (entryFrame m #[(.ref a1)] 1))
  refine Run.step (fun t k => castTop (ef_5 m a1) k) ?_
  show Run _ _ _ _ (s₁.setTop (mkF m 0 #[.val (.ref a1)] []))
  refine Run.step (fun t_ k_ => X0.ldc2Long hx hown (mvT hZ w33) (g := (mkF m 0 #[.val (.ref a1)] [])) rfl (hb hby d5_0) _ k_) ?_
  show Run _ _ _ _ (s₁.setTop (mkF m 3 #[.val (.ref a1)] [(.long (2 : Int64))]))
  refine Run.step (fun t_ k_ => XS.aloadN X0.here hx rfl (hb hby d5_3) rfl rfl k_) ?_
  show Run _ _ _ _ (s₁.setTop (mkF m 4 #[.val (.ref a1)] [(.ref a1), (.long (2 : Int64))]))
  obtain ⟨T254, X254, e254, st254⟩ := getF X0 hx hZ hown (host := "") (Or.inl w26) Via.refl e0 F3 (g := (mkF m 4 #[.val (.ref a1)] [(.ref a1), (.long (2 : Int64))])) rfl rfl (hb hby d5_4)
  refine Run.step st254 ?_
  show Run _ _ _ _ (T254.setTop (mkF m 7 #[.val (.ref a1)] [(.long nr), (.long (2 : Int64))]))
  refine Run.step (fun t_ k_ => XS.lmul X254.here hx rfl (hb hby d5_7) rfl k_) ?_
  show Run _ _ _ _ (T254.setTop (mkF m 8 #[.val (.ref a1)] [(.long ((2 : Int64) * nr))]))
  refine Run.step (fun t_ k_ => XS.aloadN X254.here hx rfl (hb hby d5_8) rfl rfl k_) ?_
  show Run _ _ _ _ (T254.setTop (mkF m 9 #[.val (.ref a1)] [(.ref a1), (.long ((2 : Int64) * nr))]))
  obtain ⟨T255, X255, e255, st255⟩ := getF X254 hx hZ hown (host := "") (Or.inl w23) Via.refl e254 F2 (g := (mkF m 9 #[.val (.ref a1)] [(.ref a1), (.long ((2 : Int64) * nr))])) rfl rfl (hb hby d5_9)
  refine Run.step st255 ?_
  show Run _ _ _ _ (T255.setTop (mkF m 12 #[.val (.ref a1)] [(.long ln), (.long ((2 : Int64) * nr))]))
  refine Run.step (fun t_ k_ => XS.lcmp X255.here hx rfl (hb hby d5_12) rfl k_) ?_
  show Run _ _ _ _ (T255.setTop (mkF m 13 #[.val (.ref a1)] [(.int (lcmpW ((2 : Int64) * nr) ln))]))
  by_cases c13 : ln < ((2 : Int64) * nr)
  · skip
    refine Run.step (fun t_ k_ => XS.ifNo X255.here hx rfl (hb hby d5_13) rfl (XT.ll_le_f c13) k_) ?_
    show Run _ _ _ _ (T255.setTop (mkF m 16 #[.val (.ref a1)] []))
    refine Run.step (fun t_ k_ => XS.iconst X255.here hx rfl (hb hby d5_16) k_) ?_
    show Run _ _ _ _ (T255.setTop (mkF m 17 #[.val (.ref a1)] [(.int (1 : Int32))]))
    refine Run.step (fun t_ k_ => XS.goto X255.here hx rfl (pc0 := 17) (pc' := 21) rfl (hb hby d5_17) (by decide) (by decide) k_) ?_
    show Run _ _ _ _ (T255.setTop (mkF m 21 #[.val (.ref a1)] [(.int (1 : Int32))]))
    exact finZ X255 hx (BodyLoose.notSynchronized Bd) Bd.returns (hb hby d5_21) (by decide) (by decide) (by decide) e255 ⟨congrArg (fun z => some (Value.int z)) (if_pos c13).symm, N0, rfl⟩
  · skip
    refine Run.step (fun t_ k_ => XS.ifYes X255.here hx rfl (pc0 := 13) (pc' := 20) rfl (hb hby d5_13) rfl (XT.ll_le_t c13) (by decide) (by decide) k_) ?_
    show Run _ _ _ _ (T255.setTop (mkF m 20 #[.val (.ref a1)] []))
    refine Run.step (fun t_ k_ => XS.iconst X255.here hx rfl (hb hby d5_20) k_) ?_
    show Run _ _ _ _ (T255.setTop (mkF m 21 #[.val (.ref a1)] [(.int (0 : Int32))]))
    exact finZ X255 hx (BodyLoose.notSynchronized Bd) Bd.returns (hb hby d5_21) (by decide) (by decide) (by decide) e255 ⟨congrArg (fun z => some (Value.int z)) (if_neg c13).symm, N0, rfl⟩
theorem d4_0 : decode prog_85_method_2_code 0 = .ok (.iconst 0, 1) := by decide +kernel
theorem d4_1 : decode prog_85_method_2_code 1 = .ok (.istore 5, 2) := by decide +kernel
theorem d4_3 : decode prog_85_method_2_code 3 = .ok (.aload_n 0, 1) := by decide +kernel
theorem d4_4 : decode prog_85_method_2_code 4 = .ok (.getfield 9, 3) := by decide +kernel
theorem d4_7 : decode prog_85_method_2_code 7 = .ok (.astore 6, 2) := by decide +kernel
theorem d4_9 : decode prog_85_method_2_code 9 = .ok (.aload 6, 2) := by decide +kernel
theorem d4_11 : decode prog_85_method_2_code 11 = .ok (.arraylength, 1) := by decide +kernel
theorem d4_12 : decode prog_85_method_2_code 12 = .ok (.istore 7, 2) := by decide +kernel
theorem d4_14 : decode prog_85_method_2_code 14 = .ok (.iconst 0, 1) := by decide +kernel
theorem d4_15 : decode prog_85_method_2_code 15 = .ok (.istore 8, 2) := by decide +kernel
theorem d4_17 : decode prog_85_method_2_code 17 = .ok (.iload 8, 2) := by decide +kernel
theorem d4_19 : decode prog_85_method_2_code 19 = .ok (.iload 7, 2) := by decide +kernel
theorem d4_21 : decode prog_85_method_2_code 21 = .ok (.if_icmp .ge 46, 3) := by decide +kernel
theorem d4_67 : decode prog_85_method_2_code 67 = .ok (.iconst 2, 1) := by decide +kernel
theorem d4_68 : decode prog_85_method_2_code 68 = .ok (.aload_n 0, 1) := by decide +kernel
theorem d4_69 : decode prog_85_method_2_code 69 = .ok (.getfield 21, 3) := by decide +kernel
theorem d4_72 : decode prog_85_method_2_code 72 = .ok (.ldc2_w 25, 3) := by decide +kernel
theorem d4_75 : decode prog_85_method_2_code 75 = .ok (.lrem, 1) := by decide +kernel
theorem d4_76 : decode prog_85_method_2_code 76 = .ok (.l2i, 1) := by decide +kernel
theorem d4_77 : decode prog_85_method_2_code 77 = .ok (.imul, 1) := by decide +kernel
theorem d4_78 : decode prog_85_method_2_code 78 = .ok (.istore 6, 2) := by decide +kernel
theorem d4_80 : decode prog_85_method_2_code 80 = .ok (.aload_n 0, 1) := by decide +kernel
theorem d4_81 : decode prog_85_method_2_code 81 = .ok (.getfield 9, 3) := by decide +kernel
theorem d4_84 : decode prog_85_method_2_code 84 = .ok (.iload 6, 2) := by decide +kernel
theorem d4_86 : decode prog_85_method_2_code 86 = .ok (.lload_n 1, 1) := by decide +kernel
theorem d4_87 : decode prog_85_method_2_code 87 = .ok (.lastore, 1) := by decide +kernel
theorem d4_88 : decode prog_85_method_2_code 88 = .ok (.aload_n 0, 1) := by decide +kernel
theorem d4_89 : decode prog_85_method_2_code 89 = .ok (.getfield 9, 3) := by decide +kernel
theorem d4_92 : decode prog_85_method_2_code 92 = .ok (.iload 6, 2) := by decide +kernel
theorem d4_94 : decode prog_85_method_2_code 94 = .ok (.iconst 1, 1) := by decide +kernel
theorem d4_95 : decode prog_85_method_2_code 95 = .ok (.iadd, 1) := by decide +kernel
theorem d4_96 : decode prog_85_method_2_code 96 = .ok (.lload_n 3, 1) := by decide +kernel
theorem d4_97 : decode prog_85_method_2_code 97 = .ok (.lastore, 1) := by decide +kernel
theorem d4_98 : decode prog_85_method_2_code 98 = .ok (.aload_n 0, 1) := by decide +kernel
theorem d4_99 : decode prog_85_method_2_code 99 = .ok (.dup, 1) := by decide +kernel
theorem d4_100 : decode prog_85_method_2_code 100 = .ok (.getfield 21, 3) := by decide +kernel
theorem d4_103 : decode prog_85_method_2_code 103 = .ok (.lconst 1, 1) := by decide +kernel
theorem d4_104 : decode prog_85_method_2_code 104 = .ok (.ladd, 1) := by decide +kernel
theorem d4_105 : decode prog_85_method_2_code 105 = .ok (.putfield 21, 3) := by decide +kernel
theorem d4_108 : decode prog_85_method_2_code 108 = .ok (.iload 5, 2) := by decide +kernel
theorem d4_110 : decode prog_85_method_2_code 110 = .ok (.ifCond .eq 13, 3) := by decide +kernel
theorem d4_123 : decode prog_85_method_2_code 123 = .ok (.return_, 1) := by decide +kernel
theorem d4_113 : decode prog_85_method_2_code 113 = .ok (.aload_n 0, 1) := by decide +kernel
theorem d4_114 : decode prog_85_method_2_code 114 = .ok (.dup, 1) := by decide +kernel
theorem d4_115 : decode prog_85_method_2_code 115 = .ok (.getfield 27, 3) := by decide +kernel
theorem d4_118 : decode prog_85_method_2_code 118 = .ok (.lconst 1, 1) := by decide +kernel
theorem d4_119 : decode prog_85_method_2_code 119 = .ok (.ladd, 1) := by decide +kernel
theorem d4_120 : decode prog_85_method_2_code 120 = .ok (.putfield 27, 3) := by decide +kernel
theorem d4_24 : decode prog_85_method_2_code 24 = .ok (.aload 6, 2) := by decide +kernel
theorem d4_26 : decode prog_85_method_2_code 26 = .ok (.iload 8, 2) := by decide +kernel
theorem d4_28 : decode prog_85_method_2_code 28 = .ok (.laload, 1) := by decide +kernel
theorem d4_29 : decode prog_85_method_2_code 29 = .ok (.lstore 9, 2) := by decide +kernel
theorem d4_31 : decode prog_85_method_2_code 31 = .ok (.iload 5, 2) := by decide +kernel
theorem d4_33 : decode prog_85_method_2_code 33 = .ok (.lload 9, 2) := by decide +kernel
theorem d4_35 : decode prog_85_method_2_code 35 = .ok (.lload_n 1, 1) := by decide +kernel
theorem d4_36 : decode prog_85_method_2_code 36 = .ok (.lcmp, 1) := by decide +kernel
theorem d4_37 : decode prog_85_method_2_code 37 = .ok (.ifCond .ne 7, 3) := by decide +kernel
theorem d4_40 : decode prog_85_method_2_code 40 = .ok (.iconst 1, 1) := by decide +kernel
theorem d4_41 : decode prog_85_method_2_code 41 = .ok (.goto 4, 3) := by decide +kernel
theorem d4_45 : decode prog_85_method_2_code 45 = .ok (.lload 9, 2) := by decide +kernel
theorem d4_47 : decode prog_85_method_2_code 47 = .ok (.lload_n 3, 1) := by decide +kernel
theorem d4_48 : decode prog_85_method_2_code 48 = .ok (.lcmp, 1) := by decide +kernel
theorem d4_49 : decode prog_85_method_2_code 49 = .ok (.ifCond .ne 7, 3) := by decide +kernel
theorem d4_52 : decode prog_85_method_2_code 52 = .ok (.iconst 1, 1) := by decide +kernel
theorem d4_53 : decode prog_85_method_2_code 53 = .ok (.goto 4, 3) := by decide +kernel
theorem d4_57 : decode prog_85_method_2_code 57 = .ok (.ior, 1) := by decide +kernel
theorem d4_58 : decode prog_85_method_2_code 58 = .ok (.ior, 1) := by decide +kernel
theorem d4_59 : decode prog_85_method_2_code 59 = .ok (.istore 5, 2) := by decide +kernel
theorem d4_61 : decode prog_85_method_2_code 61 = .ok (.iinc 8 1, 3) := by decide +kernel
theorem d4_64 : decode prog_85_method_2_code 64 = .ok (.goto (-47), 3) := by decide +kernel
theorem d4_56 : decode prog_85_method_2_code 56 = .ok (.iconst 0, 1) := by decide +kernel
theorem d4_44 : decode prog_85_method_2_code 44 = .ok (.iconst 0, 1) := by decide +kernel
theorem ef_4_0 (m : MethodId) (x0 : Addr) (x1 : Int64) (x2 : Int64) : entryFrame m #[(.ref x0), (.long x1), (.long x2)] 11 = mkF m 0 #[.val (.ref x0), .val (.long x1), .second, .val (.long x2), .second, .unset, .unset, .unset, .unset, .unset, .unset] [] := by first | (simp [entryFrame, mkF, argsToLocals, Value.category, maxLocals]; done) | rfl
def Q4_0 (Z : State) (a1 : Addr) (r : Addr) (kk : ClassId) (f : Nat → Int64) (ua : Int64) (va : Int64) (nr : Int64) (nr2 : Int64) (h0 : Heap) (n0 : Nat) (v : Option Value) (h : Heap) (L : List Loc) : Prop := v = none ∧ Fr n0 L ∧ Keep h0 h [a1, r] ∧ Fld Z h a1 "cleave/partition/LineGroups" "recent" "[J" (.ref r) ∧ Fld Z h a1 "cleave/partition/LineGroups" "lines" "J" (.long (1 : Int64)) ∧ Fld Z h a1 "cleave/partition/LineGroups" "near" "J" (.long nr2) ∧ Arv Z h r kk .long (32 : Int32) (own_l (own_up (own_up f 0 ua) 1 va)) (.long (0 : Int64))
set_option maxRecDepth 65536 in
set_option maxHeartbeats 40000000 in
theorem rm4_0 (l : Launch) (Z : State) (a0 : Array Value) (hw : ∀ d ∈ tables_1, d.before a0 Z = true) (ws : List Jvm.Cond) (a1 : Addr) (r : Addr) (kk : ClassId) (f : Nat → Int64) (ua : Int64) (va : Int64) (nr : Int64) (nr2 : Int64) (h0 : Heap) (n0 : Nat) (Z0 : n0 ≤ h0.size) (hnr : nr2 = if own_near f ua va 32 = 0 then nr else nr + 1) (F1 : Fld Z h0 a1 "cleave/partition/LineGroups" "recent" "[J" (.ref r)) (F2 : Fld Z h0 a1 "cleave/partition/LineGroups" "lines" "J" (.long (0 : Int64))) (F3 : Fld Z h0 a1 "cleave/partition/LineGroups" "near" "J" (.long nr)) (E1 : Exa Z h0 a1 "cleave/partition/LineGroups") (V1 : Arv Z h0 r kk .long (32 : Int32) (own_l f) (.long (0 : Int64))) (g1 : n0 ≤ a1) (g2 : n0 ≤ r) (ne : r ≠ a1) :
    MetFree l (⟨"cleave/partition/LineGroups", "read", "(JJ)V"⟩ : MethodName) (head1 (Jvm.Cond.code (⟨"cleave/partition/LineGroups", "read", "(JJ)V"⟩ : MethodName) prog_85_method_2_code 11 none :: ws) ({ frames := 0, cells := 0, slots := 0, locals := 0 } : Room)) (fun a U => a = #[(.ref a1), (.long ua), (.long va)] ∧ Z.Warmed39 U.vm ∧ U.heap = h0) (fun _ _ _ _ _ => True) (fun _ U o U' => ∃ v L, o = .returned v ∧ Q4_0 Z a1 r kk f ua va nr nr2 h0 n0 v U'.heap L ∧ FrameEnd U o U' L ({ frames := 0, cells := 0, slots := 0, locals := 0 } : Room).cells ({ frames := 0, cells := 0, slots := 0, locals := 0 } : Room).slots) := by
  refine MetFree.of_bodySF (plainFor_of_name pn_cleave_partition_LineGroups) hisR ?_
  intro p e s m args below meth c s₁ Bd hml0 hP hK
  obtain ⟨rfl, hZ, hh⟩ := hP
  have hx := Bd.exec
  have hby := Bd.bytes
  have w2 := hw _ (List.mem_of_getElem? (i := 2) rfl)
  have w11 := hw _ (List.mem_of_getElem? (i := 11) rfl)
  have w12 := hw _ (List.mem_of_getElem? (i := 12) rfl)
  have w23 := hw _ (List.mem_of_getElem? (i := 23) rfl)
  have w24 := hw _ (List.mem_of_getElem? (i := 24) rfl)
  have w25 := hw _ (List.mem_of_getElem? (i := 25) rfl)
  have w26 := hw _ (List.mem_of_getElem? (i := 26) rfl)
  have w27 := hw _ (List.mem_of_getElem? (i := 27) rfl)
  have hml : c.maxLocals = 11 := hml0
  have hown : s.vm.findClass "cleave/partition/LineGroups" = some m.cls := findClass_of_methodNamed Bd.named
  have hnm := (name_of_methodNamed Bd.named Bd.method).1
  have X0 : Stand p l e ({ frames := 0, cells := 0, slots := 0, locals := 0 } : Room) s m #[(.ref a1), (.long ua), (.long va)] below meth c s₁ [] 0 0 := Stand.of_body Bd
  have e0 : s₁.heap = h0 := by rw [← hh, Bd.state]; rfl
  have N0 := Fr.nil n0
  show Run p.tables e below (PQ s below 0 0 (Q4_0 Z a1 r kk f ua va nr nr2 h0 n0)) (s₁.setTop (entryFrame m #[(.ref a1), (.long ua), (.long va)] 11))
  refine Run.step (fun t k => castTop (ef_4_0 m a1 ua va) k) ?_
  show Run _ _ _ _ (s₁.setTop (mkF m 0 #[.val (.ref a1), .val (.long ua), .second, .val (.long va), .second, .unset, .unset, .unset, .unset, .unset, .unset] []))
  refine Run.step (fun t_ k_ => XS.iconst X0.here hx rfl (hb hby d4_0) k_) ?_
  show Run _ _ _ _ (s₁.setTop (mkF m 1 #[.val (.ref a1), .val (.long ua), .second, .val (.long va), .second, .unset, .unset, .unset, .unset, .unset, .unset] [(.int (0 : Int32))]))
  refine Run.step (fun t_ k_ => XS.istore X0.here hx rfl (hb hby d4_1) rfl (l' := #[.val (.ref a1), .val (.long ua), .second, .val (.long va), .second, .val (.int (0 : Int32)), .unset, .unset, .unset, .unset, .unset]) rfl k_) ?_
  show Run _ _ _ _ (s₁.setTop (mkF m 3 #[.val (.ref a1), .val (.long ua), .second, .val (.long va), .second, .val (.int (0 : Int32)), .unset, .unset, .unset, .unset, .unset] []))
  refine Run.step (fun t_ k_ => XS.aloadN X0.here hx rfl (hb hby d4_3) rfl rfl k_) ?_
  show Run _ _ _ _ (s₁.setTop (mkF m 4 #[.val (.ref a1), .val (.long ua), .second, .val (.long va), .second, .val (.int (0 : Int32)), .unset, .unset, .unset, .unset, .unset] [(.ref a1)]))
  obtain ⟨T256, X256, e256, st256⟩ := getF X0 hx hZ hown (host := "") (Or.inl w11) Via.refl e0 F1 (g := (mkF m 4 #[.val (.ref a1), .val (.long ua), .second, .val (.long va), .second, .val (.int (0 : Int32)), .unset, .unset, .unset, .unset, .unset] [(.ref a1)])) rfl rfl (hb hby d4_4)
  refine Run.step st256 ?_
  show Run _ _ _ _ (T256.setTop (mkF m 7 #[.val (.ref a1), .val (.long ua), .second, .val (.long va), .second, .val (.int (0 : Int32)), .unset, .unset, .unset, .unset, .unset] [(.ref r)]))
  refine Run.step (fun t_ k_ => XS.astore X256.here hx rfl (hb hby d4_7) rfl rfl (l' := #[.val (.ref a1), .val (.long ua), .second, .val (.long va), .second, .val (.int (0 : Int32)), .val (.ref r), .unset, .unset, .unset, .unset]) rfl k_) ?_
  show Run _ _ _ _ (T256.setTop (mkF m 9 #[.val (.ref a1), .val (.long ua), .second, .val (.long va), .second, .val (.int (0 : Int32)), .val (.ref r), .unset, .unset, .unset, .unset] []))
  refine Run.step (fun t_ k_ => XS.aload X256.here hx rfl (hb hby d4_9) rfl rfl k_) ?_
  show Run _ _ _ _ (T256.setTop (mkF m 11 #[.val (.ref a1), .val (.long ua), .second, .val (.long va), .second, .val (.int (0 : Int32)), .val (.ref r), .unset, .unset, .unset, .unset] [(.ref r)]))
  obtain ⟨cl257, Ar257, q257, S257, M257, H257, U257⟩ := id V1
  refine Run.step (fun t_ k_ => X256.arraylength hx (by rw [e256]; exact Ar257.1) (State.isArrayOf_alike hZ.alike Ar257.2.1) (g := (mkF m 11 #[.val (.ref a1), .val (.long ua), .second, .val (.long va), .second, .val (.int (0 : Int32)), .val (.ref r), .unset, .unset, .unset, .unset] [(.ref r)])) rfl rfl (hb hby d4_11) _ k_) ?_
  rw [len_of S257 M257]
  show Run _ _ _ _ (T256.setTop (mkF m 12 #[.val (.ref a1), .val (.long ua), .second, .val (.long va), .second, .val (.int (0 : Int32)), .val (.ref r), .unset, .unset, .unset, .unset] [(.int (32 : Int32))]))
  refine Run.step (fun t_ k_ => XS.istore X256.here hx rfl (hb hby d4_12) rfl (l' := #[.val (.ref a1), .val (.long ua), .second, .val (.long va), .second, .val (.int (0 : Int32)), .val (.ref r), .val (.int (32 : Int32)), .unset, .unset, .unset]) rfl k_) ?_
  show Run _ _ _ _ (T256.setTop (mkF m 14 #[.val (.ref a1), .val (.long ua), .second, .val (.long va), .second, .val (.int (0 : Int32)), .val (.ref r), .val (.int (32 : Int32)), .unset, .unset, .unset] []))
  refine Run.step (fun t_ k_ => XS.iconst X256.here hx rfl (hb hby d4_14) k_) ?_
  show Run _ _ _ _ (T256.setTop (mkF m 15 #[.val (.ref a1), .val (.long ua), .second, .val (.long va), .second, .val (.int (0 : Int32)), .val (.ref r), .val (.int (32 : Int32)), .unset, .unset, .unset] [(.int (0 : Int32))]))
  refine Run.step (fun t_ k_ => XS.istore X256.here hx rfl (hb hby d4_15) rfl (l' := #[.val (.ref a1), .val (.long ua), .second, .val (.long va), .second, .val (.int (0 : Int32)), .val (.ref r), .val (.int (32 : Int32)), .val (.int (0 : Int32)), .unset, .unset]) rfl k_) ?_
  show Run _ _ _ _ (T256.setTop (mkF m 17 #[.val (.ref a1), .val (.long ua), .second, .val (.long va), .second, .val (.int (0 : Int32)), .val (.ref r), .val (.int (32 : Int32)), .val (.int (0 : Int32)), .unset, .unset] []))
  have LP : ∀ (k i : Nat) (hi : i + k = 32) (TJ258 : State) (LJ258 : List Loc) (XJ258 : Stand p l e ({ frames := 0, cells := 0, slots := 0, locals := 0 } : Room) s m #[(.ref a1), (.long ua), (.long va)] below meth c TJ258 LJ258 0 0) (eJ258 : TJ258.heap = h0) (NJ258 : Fr n0 LJ258) (nv : Int32) (y : Int64) (hn : nv = own_near f ua va i), Run p.tables e below (PQ s below 0 0 (Q4_0 Z a1 r kk f ua va nr nr2 h0 n0)) (TJ258.setTop (mkF m 17 #[.val (.ref a1), .val (.long ua), .second, .val (.long va), .second, .val (.int nv), .val (.ref r), .val (.int (32 : Int32)), .val (.int (Int32.ofNat i)), .val (.long y), .second] [])) := by
    intro k
    induction k with
    | zero =>
      intro i hi TJ258 LJ258 XJ258 eJ258 NJ258 nv y hn
      obtain rfl : i = 32 := by omega
      show Run _ _ _ _ (TJ258.setTop (mkF m 17 #[.val (.ref a1), .val (.long ua), .second, .val (.long va), .second, .val (.int nv), .val (.ref r), .val (.int (32 : Int32)), .val (.int (Int32.ofNat 32)), .val (.long y), .second] []))
      refine Run.step (fun t_ k_ => XS.iload XJ258.here hx rfl (hb hby d4_17) rfl k_) ?_
      show Run _ _ _ _ (TJ258.setTop (mkF m 19 #[.val (.ref a1), .val (.long ua), .second, .val (.long va), .second, .val (.int nv), .val (.ref r), .val (.int (32 : Int32)), .val (.int (Int32.ofNat 32)), .val (.long y), .second] [(.int (Int32.ofNat 32))]))
      refine Run.step (fun t_ k_ => XS.iload XJ258.here hx rfl (hb hby d4_19) rfl k_) ?_
      show Run _ _ _ _ (TJ258.setTop (mkF m 21 #[.val (.ref a1), .val (.long ua), .second, .val (.long va), .second, .val (.int nv), .val (.ref r), .val (.int (32 : Int32)), .val (.int (Int32.ofNat 32)), .val (.long y), .second] [(.int (32 : Int32)), (.int (Int32.ofNat 32))]))
      refine Run.step (fun t_ k_ => XS.icmpYes XJ258.here hx rfl (pc0 := 21) (pc' := 67) rfl (hb hby d4_21) rfl (XT.ii_ge_t ((by decide) : ¬ ((Int32.ofNat 32) < (32 : Int32)))) (by decide) (by decide) k_) ?_
      show Run _ _ _ _ (TJ258.setTop (mkF m 67 #[.val (.ref a1), .val (.long ua), .second, .val (.long va), .second, .val (.int nv), .val (.ref r), .val (.int (32 : Int32)), .val (.int (Int32.ofNat 32)), .val (.long y), .second] []))
      refine Run.step (fun t_ k_ => XS.iconst XJ258.here hx rfl (hb hby d4_67) k_) ?_
      show Run _ _ _ _ (TJ258.setTop (mkF m 68 #[.val (.ref a1), .val (.long ua), .second, .val (.long va), .second, .val (.int nv), .val (.ref r), .val (.int (32 : Int32)), .val (.int (Int32.ofNat 32)), .val (.long y), .second] [(.int (2 : Int32))]))
      refine Run.step (fun t_ k_ => XS.aloadN XJ258.here hx rfl (hb hby d4_68) rfl rfl k_) ?_
      show Run _ _ _ _ (TJ258.setTop (mkF m 69 #[.val (.ref a1), .val (.long ua), .second, .val (.long va), .second, .val (.int nv), .val (.ref r), .val (.int (32 : Int32)), .val (.int (Int32.ofNat 32)), .val (.long y), .second] [(.ref a1), (.int (2 : Int32))]))
      obtain ⟨T259, X259, e259, st259⟩ := getF XJ258 hx hZ hown (host := "") (Or.inl w23) Via.refl eJ258 F2 (g := (mkF m 69 #[.val (.ref a1), .val (.long ua), .second, .val (.long va), .second, .val (.int nv), .val (.ref r), .val (.int (32 : Int32)), .val (.int (Int32.ofNat 32)), .val (.long y), .second] [(.ref a1), (.int (2 : Int32))])) rfl rfl (hb hby d4_69)
      refine Run.step st259 ?_
      show Run _ _ _ _ (T259.setTop (mkF m 72 #[.val (.ref a1), .val (.long ua), .second, .val (.long va), .second, .val (.int nv), .val (.ref r), .val (.int (32 : Int32)), .val (.int (Int32.ofNat 32)), .val (.long y), .second] [(.long (0 : Int64)), (.int (2 : Int32))]))
      refine Run.step (fun t_ k_ => X259.ldc2Long hx hown (mvT hZ w25) (g := (mkF m 72 #[.val (.ref a1), .val (.long ua), .second, .val (.long va), .second, .val (.int nv), .val (.ref r), .val (.int (32 : Int32)), .val (.int (Int32.ofNat 32)), .val (.long y), .second] [(.long (0 : Int64)), (.int (2 : Int32))])) rfl (hb hby d4_72) _ k_) ?_
      show Run _ _ _ _ (T259.setTop (mkF m 75 #[.val (.ref a1), .val (.long ua), .second, .val (.long va), .second, .val (.int nv), .val (.ref r), .val (.int (32 : Int32)), .val (.int (Int32.ofNat 32)), .val (.long y), .second] [(.long (16 : Int64)), (.long (0 : Int64)), (.int (2 : Int32))]))
      refine Run.step (fun t_ k_ => own_lrem X259 hx rfl (hb hby d4_75) rfl (by decide) k_) ?_
      show Run _ _ _ _ (T259.setTop (mkF m 76 #[.val (.ref a1), .val (.long ua), .second, .val (.long va), .second, .val (.int nv), .val (.ref r), .val (.int (32 : Int32)), .val (.int (Int32.ofNat 32)), .val (.long y), .second] [(.long (0 : Int64)), (.int (2 : Int32))]))
      refine Run.step (fun t_ k_ => XS.l2i X259.here hx rfl (hb hby d4_76) rfl k_) ?_
      show Run _ _ _ _ (T259.setTop (mkF m 77 #[.val (.ref a1), .val (.long ua), .second, .val (.long va), .second, .val (.int nv), .val (.ref r), .val (.int (32 : Int32)), .val (.int (Int32.ofNat 32)), .val (.long y), .second] [(.int (0 : Int32)), (.int (2 : Int32))]))
      refine Run.step (fun t_ k_ => XS.imul X259.here hx rfl (hb hby d4_77) rfl k_) ?_
      show Run _ _ _ _ (T259.setTop (mkF m 78 #[.val (.ref a1), .val (.long ua), .second, .val (.long va), .second, .val (.int nv), .val (.ref r), .val (.int (32 : Int32)), .val (.int (Int32.ofNat 32)), .val (.long y), .second] [(.int (0 : Int32))]))
      refine Run.step (fun t_ k_ => XS.istore X259.here hx rfl (hb hby d4_78) rfl (l' := #[.val (.ref a1), .val (.long ua), .second, .val (.long va), .second, .val (.int nv), .val (.int (0 : Int32)), .val (.int (32 : Int32)), .val (.int (Int32.ofNat 32)), .val (.long y), .second]) rfl k_) ?_
      show Run _ _ _ _ (T259.setTop (mkF m 80 #[.val (.ref a1), .val (.long ua), .second, .val (.long va), .second, .val (.int nv), .val (.int (0 : Int32)), .val (.int (32 : Int32)), .val (.int (Int32.ofNat 32)), .val (.long y), .second] []))
      refine Run.step (fun t_ k_ => XS.aloadN X259.here hx rfl (hb hby d4_80) rfl rfl k_) ?_
      show Run _ _ _ _ (T259.setTop (mkF m 81 #[.val (.ref a1), .val (.long ua), .second, .val (.long va), .second, .val (.int nv), .val (.int (0 : Int32)), .val (.int (32 : Int32)), .val (.int (Int32.ofNat 32)), .val (.long y), .second] [(.ref a1)]))
      obtain ⟨T260, X260, e260, st260⟩ := getF X259 hx hZ hown (host := "") (Or.inl w11) Via.refl e259 F1 (g := (mkF m 81 #[.val (.ref a1), .val (.long ua), .second, .val (.long va), .second, .val (.int nv), .val (.int (0 : Int32)), .val (.int (32 : Int32)), .val (.int (Int32.ofNat 32)), .val (.long y), .second] [(.ref a1)])) rfl rfl (hb hby d4_81)
      refine Run.step st260 ?_
      show Run _ _ _ _ (T260.setTop (mkF m 84 #[.val (.ref a1), .val (.long ua), .second, .val (.long va), .second, .val (.int nv), .val (.int (0 : Int32)), .val (.int (32 : Int32)), .val (.int (Int32.ofNat 32)), .val (.long y), .second] [(.ref r)]))
      refine Run.step (fun t_ k_ => XS.iload X260.here hx rfl (hb hby d4_84) rfl k_) ?_
      show Run _ _ _ _ (T260.setTop (mkF m 86 #[.val (.ref a1), .val (.long ua), .second, .val (.long va), .second, .val (.int nv), .val (.int (0 : Int32)), .val (.int (32 : Int32)), .val (.int (Int32.ofNat 32)), .val (.long y), .second] [(.int (0 : Int32)), (.ref r)]))
      refine Run.step (fun t_ k_ => XS.lloadN X260.here hx rfl (hb hby d4_86) rfl k_) ?_
      show Run _ _ _ _ (T260.setTop (mkF m 87 #[.val (.ref a1), .val (.long ua), .second, .val (.long va), .second, .val (.int nv), .val (.int (0 : Int32)), .val (.int (32 : Int32)), .val (.int (Int32.ofNat 32)), .val (.long y), .second] [(.long ua), (.int (0 : Int32)), (.ref r)]))
      obtain ⟨cl261, Ar261, q261, S261, M261, H261, U261⟩ := id V1
      have hin262 : ¬ ((0 : Int32) < 0 ∨ cl261.slots.size ≤ ((0 : Int32)).toNatClampNeg) := inb_of S261 ⟨by decide, by decide⟩
      obtain ⟨T262, h262, X262, e262, W262, st262⟩ := stJ X260 hx hZ e260 Ar261 (j := (0 : Int32)) hin262 (g := (mkF m 87 #[.val (.ref a1), .val (.long ua), .second, .val (.long va), .second, .val (.int nv), .val (.int (0 : Int32)), .val (.int (32 : Int32)), .val (.int (Int32.ofNat 32)), .val (.long y), .second] [(.long ua), (.int (0 : Int32)), (.ref r)])) rfl rfl (hb hby d4_87)
      refine Run.step st262 ?_
      have f263 : Arv Z h262 r kk .long (32 : Int32) (own_l (own_up f 0 ua)) (.long (0 : Int64)) := Arv.set Ar261 q261 S261 M261 H261 U261 rfl W262 0 rfl (Nat.le_of_ble_eq_true rfl)
      have f264 := F1.other W262 (Or.inl (Ne.symm ne))
      have f265 := F2.other W262 (Or.inl (Ne.symm ne))
      have f266 := F3.other W262 (Or.inl (Ne.symm ne))
      have f267 := E1.wr W262
      have z269 := Nat.le_trans Z0 (Keep.of_wr W262).1
      have K270 := (Keep.refl h0 [a1, r]).wr W262 (Or.inl (List.mem_of_getElem? (i := 1) rfl))
      have N271 := Fr.snoc X262 NJ258 g2
      show Run _ _ _ _ (T262.setTop (mkF m 88 #[.val (.ref a1), .val (.long ua), .second, .val (.long va), .second, .val (.int nv), .val (.int (0 : Int32)), .val (.int (32 : Int32)), .val (.int (Int32.ofNat 32)), .val (.long y), .second] []))
      refine Run.step (fun t_ k_ => XS.aloadN X262.here hx rfl (hb hby d4_88) rfl rfl k_) ?_
      show Run _ _ _ _ (T262.setTop (mkF m 89 #[.val (.ref a1), .val (.long ua), .second, .val (.long va), .second, .val (.int nv), .val (.int (0 : Int32)), .val (.int (32 : Int32)), .val (.int (Int32.ofNat 32)), .val (.long y), .second] [(.ref a1)]))
      obtain ⟨T272, X272, e272, st272⟩ := getF X262 hx hZ hown (host := "") (Or.inl w11) Via.refl e262 f264 (g := (mkF m 89 #[.val (.ref a1), .val (.long ua), .second, .val (.long va), .second, .val (.int nv), .val (.int (0 : Int32)), .val (.int (32 : Int32)), .val (.int (Int32.ofNat 32)), .val (.long y), .second] [(.ref a1)])) rfl rfl (hb hby d4_89)
      refine Run.step st272 ?_
      show Run _ _ _ _ (T272.setTop (mkF m 92 #[.val (.ref a1), .val (.long ua), .second, .val (.long va), .second, .val (.int nv), .val (.int (0 : Int32)), .val (.int (32 : Int32)), .val (.int (Int32.ofNat 32)), .val (.long y), .second] [(.ref r)]))
      refine Run.step (fun t_ k_ => XS.iload X272.here hx rfl (hb hby d4_92) rfl k_) ?_
      show Run _ _ _ _ (T272.setTop (mkF m 94 #[.val (.ref a1), .val (.long ua), .second, .val (.long va), .second, .val (.int nv), .val (.int (0 : Int32)), .val (.int (32 : Int32)), .val (.int (Int32.ofNat 32)), .val (.long y), .second] [(.int (0 : Int32)), (.ref r)]))
      refine Run.step (fun t_ k_ => XS.iconst X272.here hx rfl (hb hby d4_94) k_) ?_
      show Run _ _ _ _ (T272.setTop (mkF m 95 #[.val (.ref a1), .val (.long ua), .second, .val (.long va), .second, .val (.int nv), .val (.int (0 : Int32)), .val (.int (32 : Int32)), .val (.int (Int32.ofNat 32)), .val (.long y), .second] [(.int (1 : Int32)), (.int (0 : Int32)), (.ref r)]))
      refine Run.step (fun t_ k_ => XS.iadd X272.here hx rfl (hb hby d4_95) rfl k_) ?_
      show Run _ _ _ _ (T272.setTop (mkF m 96 #[.val (.ref a1), .val (.long ua), .second, .val (.long va), .second, .val (.int nv), .val (.int (0 : Int32)), .val (.int (32 : Int32)), .val (.int (Int32.ofNat 32)), .val (.long y), .second] [(.int (1 : Int32)), (.ref r)]))
      refine Run.step (fun t_ k_ => XS.lloadN X272.here hx rfl (hb hby d4_96) rfl k_) ?_
      show Run _ _ _ _ (T272.setTop (mkF m 97 #[.val (.ref a1), .val (.long ua), .second, .val (.long va), .second, .val (.int nv), .val (.int (0 : Int32)), .val (.int (32 : Int32)), .val (.int (Int32.ofNat 32)), .val (.long y), .second] [(.long va), (.int (1 : Int32)), (.ref r)]))
      obtain ⟨cl273, Ar273, q273, S273, M273, H273, U273⟩ := id f263
      have hin274 : ¬ ((1 : Int32) < 0 ∨ cl273.slots.size ≤ ((1 : Int32)).toNatClampNeg) := inb_of S273 ⟨by decide, by decide⟩
      obtain ⟨T274, h274, X274, e274, W274, st274⟩ := stJ X272 hx hZ e272 Ar273 (j := (1 : Int32)) hin274 (g := (mkF m 97 #[.val (.ref a1), .val (.long ua), .second, .val (.long va), .second, .val (.int nv), .val (.int (0 : Int32)), .val (.int (32 : Int32)), .val (.int (Int32.ofNat 32)), .val (.long y), .second] [(.long va), (.int (1 : Int32)), (.ref r)])) rfl rfl (hb hby d4_97)
      refine Run.step st274 ?_
      have f275 : Arv Z h274 r kk .long (32 : Int32) (own_l (own_up (own_up f 0 ua) 1 va)) (.long (0 : Int64)) := Arv.set Ar273 q273 S273 M273 H273 U273 rfl W274 1 rfl (Nat.le_of_ble_eq_true rfl)
      have f276 := f264.other W274 (Or.inl (Ne.symm ne))
      have f277 := f265.other W274 (Or.inl (Ne.symm ne))
      have f278 := f266.other W274 (Or.inl (Ne.symm ne))
      have f279 := f267.wr W274
      have z281 := Nat.le_trans z269 (Keep.of_wr W274).1
      have K282 := K270.wr W274 (Or.inl (List.mem_of_getElem? (i := 1) rfl))
      have N283 := Fr.snoc X274 N271 g2
      show Run _ _ _ _ (T274.setTop (mkF m 98 #[.val (.ref a1), .val (.long ua), .second, .val (.long va), .second, .val (.int nv), .val (.int (0 : Int32)), .val (.int (32 : Int32)), .val (.int (Int32.ofNat 32)), .val (.long y), .second] []))
      refine Run.step (fun t_ k_ => XS.aloadN X274.here hx rfl (hb hby d4_98) rfl rfl k_) ?_
      show Run _ _ _ _ (T274.setTop (mkF m 99 #[.val (.ref a1), .val (.long ua), .second, .val (.long va), .second, .val (.int nv), .val (.int (0 : Int32)), .val (.int (32 : Int32)), .val (.int (Int32.ofNat 32)), .val (.long y), .second] [(.ref a1)]))
      refine Run.step (fun t_ k_ => XS.dup X274.here hx rfl (hb hby d4_99) rfl rfl k_) ?_
      show Run _ _ _ _ (T274.setTop (mkF m 100 #[.val (.ref a1), .val (.long ua), .second, .val (.long va), .second, .val (.int nv), .val (.int (0 : Int32)), .val (.int (32 : Int32)), .val (.int (Int32.ofNat 32)), .val (.long y), .second] [(.ref a1), (.ref a1)]))
      obtain ⟨T284, X284, e284, st284⟩ := getF X274 hx hZ hown (host := "") (Or.inl w23) Via.refl e274 f277 (g := (mkF m 100 #[.val (.ref a1), .val (.long ua), .second, .val (.long va), .second, .val (.int nv), .val (.int (0 : Int32)), .val (.int (32 : Int32)), .val (.int (Int32.ofNat 32)), .val (.long y), .second] [(.ref a1), (.ref a1)])) rfl rfl (hb hby d4_100)
      refine Run.step st284 ?_
      show Run _ _ _ _ (T284.setTop (mkF m 103 #[.val (.ref a1), .val (.long ua), .second, .val (.long va), .second, .val (.int nv), .val (.int (0 : Int32)), .val (.int (32 : Int32)), .val (.int (Int32.ofNat 32)), .val (.long y), .second] [(.long (0 : Int64)), (.ref a1)]))
      refine Run.step (fun t_ k_ => XS.lconst X284.here hx rfl (hb hby d4_103) k_) ?_
      show Run _ _ _ _ (T284.setTop (mkF m 104 #[.val (.ref a1), .val (.long ua), .second, .val (.long va), .second, .val (.int nv), .val (.int (0 : Int32)), .val (.int (32 : Int32)), .val (.int (Int32.ofNat 32)), .val (.long y), .second] [(.long (1 : Int64)), (.long (0 : Int64)), (.ref a1)]))
      refine Run.step (fun t_ k_ => XS.ladd X284.here hx rfl (hb hby d4_104) rfl k_) ?_
      show Run _ _ _ _ (T284.setTop (mkF m 105 #[.val (.ref a1), .val (.long ua), .second, .val (.long va), .second, .val (.int nv), .val (.int (0 : Int32)), .val (.int (32 : Int32)), .val (.int (Int32.ofNat 32)), .val (.long y), .second] [(.long (1 : Int64)), (.ref a1)]))
      obtain ⟨T285, h285, X285, e285, W285, st285⟩ := putF X284 hx hZ hown (host := "") (Or.inl w23) Via.refl e284 f277 f279 (Or.inl w24) w2 (ty := .long) (by decide) rfl rfl (g := (mkF m 105 #[.val (.ref a1), .val (.long ua), .second, .val (.long va), .second, .val (.int nv), .val (.int (0 : Int32)), .val (.int (32 : Int32)), .val (.int (Int32.ofNat 32)), .val (.long y), .second] [(.long (1 : Int64)), (.ref a1)])) rfl rfl (hb hby d4_105)
      refine Run.step st285 ?_
      have f286 := f276.other W285 (Or.inr (slot_ne (Or.inr w12) (Or.inl w24) (by decide) (t := (.array .long)) (t' := .long) (by decide) (by decide)))
      have f287 := f277.same W285
      have f288 := f278.other W285 (Or.inr (slot_ne (Or.inl w27) (Or.inl w24) (by decide) (t := .long) (t' := .long) (by decide) (by decide)))
      have f289 := f279.wr W285
      have f290 := f275.other W285 ne
      have z291 := Nat.le_trans z281 (Keep.of_wr W285).1
      have K292 := K282.wr W285 (Or.inl (List.mem_of_getElem? (i := 0) rfl))
      have N293 := Fr.snoc X285 N283 g1
      show Run _ _ _ _ (T285.setTop (mkF m 108 #[.val (.ref a1), .val (.long ua), .second, .val (.long va), .second, .val (.int nv), .val (.int (0 : Int32)), .val (.int (32 : Int32)), .val (.int (Int32.ofNat 32)), .val (.long y), .second] []))
      refine Run.step (fun t_ k_ => XS.iload X285.here hx rfl (hb hby d4_108) rfl k_) ?_
      show Run _ _ _ _ (T285.setTop (mkF m 110 #[.val (.ref a1), .val (.long ua), .second, .val (.long va), .second, .val (.int nv), .val (.int (0 : Int32)), .val (.int (32 : Int32)), .val (.int (Int32.ofNat 32)), .val (.long y), .second] [(.int nv)]))
      by_cases c110 : nv = (0 : Int32)
      · skip
        refine Run.step (fun t_ k_ => XS.ifYes X285.here hx rfl (pc0 := 110) (pc' := 123) rfl (hb hby d4_110) rfl (XT.i0_eq_t c110) (by decide) (by decide) k_) ?_
        show Run _ _ _ _ (T285.setTop (mkF m 123 #[.val (.ref a1), .val (.long ua), .second, .val (.long va), .second, .val (.int nv), .val (.int (0 : Int32)), .val (.int (32 : Int32)), .val (.int (Int32.ofNat 32)), .val (.long y), .second] []))
        exact finV X285 hx (BodyLoose.notSynchronized Bd) Bd.returns (hb hby d4_123) (by decide) (by decide) e285 ⟨rfl, N293, K292, f286, f287, (by rw [hnr, ← hn, if_pos c110]; exact f288), f290⟩
      · skip
        refine Run.step (fun t_ k_ => XS.ifNo X285.here hx rfl (hb hby d4_110) rfl (XT.i0_eq_f c110) k_) ?_
        show Run _ _ _ _ (T285.setTop (mkF m 113 #[.val (.ref a1), .val (.long ua), .second, .val (.long va), .second, .val (.int nv), .val (.int (0 : Int32)), .val (.int (32 : Int32)), .val (.int (Int32.ofNat 32)), .val (.long y), .second] []))
        refine Run.step (fun t_ k_ => XS.aloadN X285.here hx rfl (hb hby d4_113) rfl rfl k_) ?_
        show Run _ _ _ _ (T285.setTop (mkF m 114 #[.val (.ref a1), .val (.long ua), .second, .val (.long va), .second, .val (.int nv), .val (.int (0 : Int32)), .val (.int (32 : Int32)), .val (.int (Int32.ofNat 32)), .val (.long y), .second] [(.ref a1)]))
        refine Run.step (fun t_ k_ => XS.dup X285.here hx rfl (hb hby d4_114) rfl rfl k_) ?_
        show Run _ _ _ _ (T285.setTop (mkF m 115 #[.val (.ref a1), .val (.long ua), .second, .val (.long va), .second, .val (.int nv), .val (.int (0 : Int32)), .val (.int (32 : Int32)), .val (.int (Int32.ofNat 32)), .val (.long y), .second] [(.ref a1), (.ref a1)]))
        obtain ⟨T294, X294, e294, st294⟩ := getF X285 hx hZ hown (host := "") (Or.inl w26) Via.refl e285 f288 (g := (mkF m 115 #[.val (.ref a1), .val (.long ua), .second, .val (.long va), .second, .val (.int nv), .val (.int (0 : Int32)), .val (.int (32 : Int32)), .val (.int (Int32.ofNat 32)), .val (.long y), .second] [(.ref a1), (.ref a1)])) rfl rfl (hb hby d4_115)
        refine Run.step st294 ?_
        show Run _ _ _ _ (T294.setTop (mkF m 118 #[.val (.ref a1), .val (.long ua), .second, .val (.long va), .second, .val (.int nv), .val (.int (0 : Int32)), .val (.int (32 : Int32)), .val (.int (Int32.ofNat 32)), .val (.long y), .second] [(.long nr), (.ref a1)]))
        refine Run.step (fun t_ k_ => XS.lconst X294.here hx rfl (hb hby d4_118) k_) ?_
        show Run _ _ _ _ (T294.setTop (mkF m 119 #[.val (.ref a1), .val (.long ua), .second, .val (.long va), .second, .val (.int nv), .val (.int (0 : Int32)), .val (.int (32 : Int32)), .val (.int (Int32.ofNat 32)), .val (.long y), .second] [(.long (1 : Int64)), (.long nr), (.ref a1)]))
        refine Run.step (fun t_ k_ => XS.ladd X294.here hx rfl (hb hby d4_119) rfl k_) ?_
        show Run _ _ _ _ (T294.setTop (mkF m 120 #[.val (.ref a1), .val (.long ua), .second, .val (.long va), .second, .val (.int nv), .val (.int (0 : Int32)), .val (.int (32 : Int32)), .val (.int (Int32.ofNat 32)), .val (.long y), .second] [(.long (nr + (1 : Int64))), (.ref a1)]))
        obtain ⟨T295, h295, X295, e295, W295, st295⟩ := putF X294 hx hZ hown (host := "") (Or.inl w26) Via.refl e294 f288 f289 (Or.inl w27) w2 (ty := .long) (by decide) rfl rfl (g := (mkF m 120 #[.val (.ref a1), .val (.long ua), .second, .val (.long va), .second, .val (.int nv), .val (.int (0 : Int32)), .val (.int (32 : Int32)), .val (.int (Int32.ofNat 32)), .val (.long y), .second] [(.long (nr + (1 : Int64))), (.ref a1)])) rfl rfl (hb hby d4_120)
        refine Run.step st295 ?_
        have f296 := f286.other W295 (Or.inr (slot_ne (Or.inr w12) (Or.inl w27) (by decide) (t := (.array .long)) (t' := .long) (by decide) (by decide)))
        have f297 := f287.other W295 (Or.inr (slot_ne (Or.inl w24) (Or.inl w27) (by decide) (t := .long) (t' := .long) (by decide) (by decide)))
        have f298 := f288.same W295
        have f299 := f289.wr W295
        have f300 := f290.other W295 ne
        have z301 := Nat.le_trans z291 (Keep.of_wr W295).1
        have K302 := K292.wr W295 (Or.inl (List.mem_of_getElem? (i := 0) rfl))
        have N303 := Fr.snoc X295 N293 g1
        show Run _ _ _ _ (T295.setTop (mkF m 123 #[.val (.ref a1), .val (.long ua), .second, .val (.long va), .second, .val (.int nv), .val (.int (0 : Int32)), .val (.int (32 : Int32)), .val (.int (Int32.ofNat 32)), .val (.long y), .second] []))
        exact finV X295 hx (BodyLoose.notSynchronized Bd) Bd.returns (hb hby d4_123) (by decide) (by decide) e295 ⟨rfl, N303, K302, f296, f297, (by rw [hnr, ← hn, if_neg c110]; exact f298), f300⟩
    | succ k ih =>
      intro i hi TJ258 LJ258 XJ258 eJ258 NJ258 nv y hn
      have hlt : i < 32 := by omega
      refine Run.step (fun t_ k_ => XS.iload XJ258.here hx rfl (hb hby d4_17) rfl k_) ?_
      show Run _ _ _ _ (TJ258.setTop (mkF m 19 #[.val (.ref a1), .val (.long ua), .second, .val (.long va), .second, .val (.int nv), .val (.ref r), .val (.int (32 : Int32)), .val (.int (Int32.ofNat i)), .val (.long y), .second] [(.int (Int32.ofNat i))]))
      refine Run.step (fun t_ k_ => XS.iload XJ258.here hx rfl (hb hby d4_19) rfl k_) ?_
      show Run _ _ _ _ (TJ258.setTop (mkF m 21 #[.val (.ref a1), .val (.long ua), .second, .val (.long va), .second, .val (.int nv), .val (.ref r), .val (.int (32 : Int32)), .val (.int (Int32.ofNat i)), .val (.long y), .second] [(.int (32 : Int32)), (.int (Int32.ofNat i))]))
      refine Run.step (fun t_ k_ => XS.icmpNo XJ258.here hx rfl (hb hby d4_21) rfl (XT.ii_ge_f ((own_nat hlt).2.2.1 : (Int32.ofNat i) < (32 : Int32))) k_) ?_
      show Run _ _ _ _ (TJ258.setTop (mkF m 24 #[.val (.ref a1), .val (.long ua), .second, .val (.long va), .second, .val (.int nv), .val (.ref r), .val (.int (32 : Int32)), .val (.int (Int32.ofNat i)), .val (.long y), .second] []))
      refine Run.step (fun t_ k_ => XS.aload XJ258.here hx rfl (hb hby d4_24) rfl rfl k_) ?_
      show Run _ _ _ _ (TJ258.setTop (mkF m 26 #[.val (.ref a1), .val (.long ua), .second, .val (.long va), .second, .val (.int nv), .val (.ref r), .val (.int (32 : Int32)), .val (.int (Int32.ofNat i)), .val (.long y), .second] [(.ref r)]))
      refine Run.step (fun t_ k_ => XS.iload XJ258.here hx rfl (hb hby d4_26) rfl k_) ?_
      show Run _ _ _ _ (TJ258.setTop (mkF m 28 #[.val (.ref a1), .val (.long ua), .second, .val (.long va), .second, .val (.int nv), .val (.ref r), .val (.int (32 : Int32)), .val (.int (Int32.ofNat i)), .val (.long y), .second] [(.int (Int32.ofNat i)), (.ref r)]))
      obtain ⟨cl304, Ar304, q304, S304, M304, H304, U304⟩ := id V1
      have hin305 : ¬ ((Int32.ofNat i) < 0 ∨ cl304.slots.size ≤ ((Int32.ofNat i)).toNatClampNeg) := inb_of S304 ⟨(own_nat hlt).2.1, (own_nat hlt).2.2.1⟩
      have hat305 : cl304.slots[((Int32.ofNat i)).toNatClampNeg]? = some (.long (f i)) := H304.at hin305 (by rw [(own_nat hlt).1]; exact own_get f hlt _)
      refine Run.step (fun t_ k_ => XJ258.laload hx (j := (Int32.ofNat i)) (v := (.long (f i))) (by rw [eJ258]; exact Ar304.1) (State.isArrayOf_alike hZ.alike Ar304.2.1) Ar304.2.2 hin305 hat305 (g := (mkF m 28 #[.val (.ref a1), .val (.long ua), .second, .val (.long va), .second, .val (.int nv), .val (.ref r), .val (.int (32 : Int32)), .val (.int (Int32.ofNat i)), .val (.long y), .second] [(.int (Int32.ofNat i)), (.ref r)])) rfl rfl (hb hby d4_28) _ k_) ?_
      show Run _ _ _ _ (TJ258.setTop (mkF m 29 #[.val (.ref a1), .val (.long ua), .second, .val (.long va), .second, .val (.int nv), .val (.ref r), .val (.int (32 : Int32)), .val (.int (Int32.ofNat i)), .val (.long y), .second] [(.long (f i))]))
      refine Run.step (fun t_ k_ => XS.lstore XJ258.here hx rfl (hb hby d4_29) rfl (l' := #[.val (.ref a1), .val (.long ua), .second, .val (.long va), .second, .val (.int nv), .val (.ref r), .val (.int (32 : Int32)), .val (.int (Int32.ofNat i)), .val (.long (f i)), .second]) rfl k_) ?_
      show Run _ _ _ _ (TJ258.setTop (mkF m 31 #[.val (.ref a1), .val (.long ua), .second, .val (.long va), .second, .val (.int nv), .val (.ref r), .val (.int (32 : Int32)), .val (.int (Int32.ofNat i)), .val (.long (f i)), .second] []))
      refine Run.step (fun t_ k_ => XS.iload XJ258.here hx rfl (hb hby d4_31) rfl k_) ?_
      show Run _ _ _ _ (TJ258.setTop (mkF m 33 #[.val (.ref a1), .val (.long ua), .second, .val (.long va), .second, .val (.int nv), .val (.ref r), .val (.int (32 : Int32)), .val (.int (Int32.ofNat i)), .val (.long (f i)), .second] [(.int nv)]))
      refine Run.step (fun t_ k_ => XS.lload XJ258.here hx rfl (hb hby d4_33) rfl k_) ?_
      show Run _ _ _ _ (TJ258.setTop (mkF m 35 #[.val (.ref a1), .val (.long ua), .second, .val (.long va), .second, .val (.int nv), .val (.ref r), .val (.int (32 : Int32)), .val (.int (Int32.ofNat i)), .val (.long (f i)), .second] [(.long (f i)), (.int nv)]))
      refine Run.step (fun t_ k_ => XS.lloadN XJ258.here hx rfl (hb hby d4_35) rfl k_) ?_
      show Run _ _ _ _ (TJ258.setTop (mkF m 36 #[.val (.ref a1), .val (.long ua), .second, .val (.long va), .second, .val (.int nv), .val (.ref r), .val (.int (32 : Int32)), .val (.int (Int32.ofNat i)), .val (.long (f i)), .second] [(.long ua), (.long (f i)), (.int nv)]))
      refine Run.step (fun t_ k_ => XS.lcmp XJ258.here hx rfl (hb hby d4_36) rfl k_) ?_
      show Run _ _ _ _ (TJ258.setTop (mkF m 37 #[.val (.ref a1), .val (.long ua), .second, .val (.long va), .second, .val (.int nv), .val (.ref r), .val (.int (32 : Int32)), .val (.int (Int32.ofNat i)), .val (.long (f i)), .second] [(.int (lcmpW (f i) ua)), (.int nv)]))
      by_cases c37 : (f i) = ua
      · skip
        refine Run.step (fun t_ k_ => XS.ifNo XJ258.here hx rfl (hb hby d4_37) rfl (XT.ll_ne_f c37) k_) ?_
        show Run _ _ _ _ (TJ258.setTop (mkF m 40 #[.val (.ref a1), .val (.long ua), .second, .val (.long va), .second, .val (.int nv), .val (.ref r), .val (.int (32 : Int32)), .val (.int (Int32.ofNat i)), .val (.long (f i)), .second] [(.int nv)]))
        refine Run.step (fun t_ k_ => XS.iconst XJ258.here hx rfl (hb hby d4_40) k_) ?_
        show Run _ _ _ _ (TJ258.setTop (mkF m 41 #[.val (.ref a1), .val (.long ua), .second, .val (.long va), .second, .val (.int nv), .val (.ref r), .val (.int (32 : Int32)), .val (.int (Int32.ofNat i)), .val (.long (f i)), .second] [(.int (1 : Int32)), (.int nv)]))
        refine Run.step (fun t_ k_ => XS.goto XJ258.here hx rfl (pc0 := 41) (pc' := 45) rfl (hb hby d4_41) (by decide) (by decide) k_) ?_
        show Run _ _ _ _ (TJ258.setTop (mkF m 45 #[.val (.ref a1), .val (.long ua), .second, .val (.long va), .second, .val (.int nv), .val (.ref r), .val (.int (32 : Int32)), .val (.int (Int32.ofNat i)), .val (.long (f i)), .second] [(.int (1 : Int32)), (.int nv)]))
        refine Run.step (fun t_ k_ => XS.lload XJ258.here hx rfl (hb hby d4_45) rfl k_) ?_
        show Run _ _ _ _ (TJ258.setTop (mkF m 47 #[.val (.ref a1), .val (.long ua), .second, .val (.long va), .second, .val (.int nv), .val (.ref r), .val (.int (32 : Int32)), .val (.int (Int32.ofNat i)), .val (.long (f i)), .second] [(.long (f i)), (.int (1 : Int32)), (.int nv)]))
        refine Run.step (fun t_ k_ => XS.lloadN XJ258.here hx rfl (hb hby d4_47) rfl k_) ?_
        show Run _ _ _ _ (TJ258.setTop (mkF m 48 #[.val (.ref a1), .val (.long ua), .second, .val (.long va), .second, .val (.int nv), .val (.ref r), .val (.int (32 : Int32)), .val (.int (Int32.ofNat i)), .val (.long (f i)), .second] [(.long va), (.long (f i)), (.int (1 : Int32)), (.int nv)]))
        refine Run.step (fun t_ k_ => XS.lcmp XJ258.here hx rfl (hb hby d4_48) rfl k_) ?_
        show Run _ _ _ _ (TJ258.setTop (mkF m 49 #[.val (.ref a1), .val (.long ua), .second, .val (.long va), .second, .val (.int nv), .val (.ref r), .val (.int (32 : Int32)), .val (.int (Int32.ofNat i)), .val (.long (f i)), .second] [(.int (lcmpW (f i) va)), (.int (1 : Int32)), (.int nv)]))
        by_cases c49 : (f i) = va
        · skip
          refine Run.step (fun t_ k_ => XS.ifNo XJ258.here hx rfl (hb hby d4_49) rfl (XT.ll_ne_f c49) k_) ?_
          show Run _ _ _ _ (TJ258.setTop (mkF m 52 #[.val (.ref a1), .val (.long ua), .second, .val (.long va), .second, .val (.int nv), .val (.ref r), .val (.int (32 : Int32)), .val (.int (Int32.ofNat i)), .val (.long (f i)), .second] [(.int (1 : Int32)), (.int nv)]))
          refine Run.step (fun t_ k_ => XS.iconst XJ258.here hx rfl (hb hby d4_52) k_) ?_
          show Run _ _ _ _ (TJ258.setTop (mkF m 53 #[.val (.ref a1), .val (.long ua), .second, .val (.long va), .second, .val (.int nv), .val (.ref r), .val (.int (32 : Int32)), .val (.int (Int32.ofNat i)), .val (.long (f i)), .second] [(.int (1 : Int32)), (.int (1 : Int32)), (.int nv)]))
          refine Run.step (fun t_ k_ => XS.goto XJ258.here hx rfl (pc0 := 53) (pc' := 57) rfl (hb hby d4_53) (by decide) (by decide) k_) ?_
          show Run _ _ _ _ (TJ258.setTop (mkF m 57 #[.val (.ref a1), .val (.long ua), .second, .val (.long va), .second, .val (.int nv), .val (.ref r), .val (.int (32 : Int32)), .val (.int (Int32.ofNat i)), .val (.long (f i)), .second] [(.int (1 : Int32)), (.int (1 : Int32)), (.int nv)]))
          refine Run.step (fun t_ k_ => XS.ior XJ258.here hx rfl (hb hby d4_57) rfl k_) ?_
          show Run _ _ _ _ (TJ258.setTop (mkF m 58 #[.val (.ref a1), .val (.long ua), .second, .val (.long va), .second, .val (.int nv), .val (.ref r), .val (.int (32 : Int32)), .val (.int (Int32.ofNat i)), .val (.long (f i)), .second] [(.int ((1 : Int32) ||| (1 : Int32))), (.int nv)]))
          refine Run.step (fun t_ k_ => XS.ior XJ258.here hx rfl (hb hby d4_58) rfl k_) ?_
          show Run _ _ _ _ (TJ258.setTop (mkF m 59 #[.val (.ref a1), .val (.long ua), .second, .val (.long va), .second, .val (.int nv), .val (.ref r), .val (.int (32 : Int32)), .val (.int (Int32.ofNat i)), .val (.long (f i)), .second] [(.int (nv ||| ((1 : Int32) ||| (1 : Int32))))]))
          refine Run.step (fun t_ k_ => XS.istore XJ258.here hx rfl (hb hby d4_59) rfl (l' := #[.val (.ref a1), .val (.long ua), .second, .val (.long va), .second, .val (.int (nv ||| ((1 : Int32) ||| (1 : Int32)))), .val (.ref r), .val (.int (32 : Int32)), .val (.int (Int32.ofNat i)), .val (.long (f i)), .second]) rfl k_) ?_
          show Run _ _ _ _ (TJ258.setTop (mkF m 61 #[.val (.ref a1), .val (.long ua), .second, .val (.long va), .second, .val (.int (nv ||| ((1 : Int32) ||| (1 : Int32)))), .val (.ref r), .val (.int (32 : Int32)), .val (.int (Int32.ofNat i)), .val (.long (f i)), .second] []))
          refine Run.step (fun t_ k_ => XS.iinc XJ258.here hx rfl (hb hby d4_61) rfl (l' := #[.val (.ref a1), .val (.long ua), .second, .val (.long va), .second, .val (.int (nv ||| ((1 : Int32) ||| (1 : Int32)))), .val (.ref r), .val (.int (32 : Int32)), .val (.int ((Int32.ofNat i) + (1 : Int32))), .val (.long (f i)), .second]) rfl k_) ?_
          show Run _ _ _ _ (TJ258.setTop (mkF m 64 #[.val (.ref a1), .val (.long ua), .second, .val (.long va), .second, .val (.int (nv ||| ((1 : Int32) ||| (1 : Int32)))), .val (.ref r), .val (.int (32 : Int32)), .val (.int ((Int32.ofNat i) + (1 : Int32))), .val (.long (f i)), .second] []))
          refine Run.step (fun t_ k_ => XS.goto XJ258.here hx rfl (pc0 := 64) (pc' := 17) rfl (hb hby d4_64) (by decide) (by decide) k_) ?_
          show Run _ _ _ _ (TJ258.setTop (mkF m 17 #[.val (.ref a1), .val (.long ua), .second, .val (.long va), .second, .val (.int (nv ||| ((1 : Int32) ||| (1 : Int32)))), .val (.ref r), .val (.int (32 : Int32)), .val (.int ((Int32.ofNat i) + (1 : Int32))), .val (.long (f i)), .second] []))
          rw [(own_nat hlt).2.2.2]
          exact ih (i + 1) (by omega) _ _ XJ258 eJ258 NJ258 _ _ (by rw [hn]; show _ = own_near f ua va i ||| ((if f i = ua then 1 else 0) ||| (if f i = va then 1 else 0)); rw [if_pos c37, if_pos c49])
        · skip
          refine Run.step (fun t_ k_ => XS.ifYes XJ258.here hx rfl (pc0 := 49) (pc' := 56) rfl (hb hby d4_49) rfl (XT.ll_ne_t c49) (by decide) (by decide) k_) ?_
          show Run _ _ _ _ (TJ258.setTop (mkF m 56 #[.val (.ref a1), .val (.long ua), .second, .val (.long va), .second, .val (.int nv), .val (.ref r), .val (.int (32 : Int32)), .val (.int (Int32.ofNat i)), .val (.long (f i)), .second] [(.int (1 : Int32)), (.int nv)]))
          refine Run.step (fun t_ k_ => XS.iconst XJ258.here hx rfl (hb hby d4_56) k_) ?_
          show Run _ _ _ _ (TJ258.setTop (mkF m 57 #[.val (.ref a1), .val (.long ua), .second, .val (.long va), .second, .val (.int nv), .val (.ref r), .val (.int (32 : Int32)), .val (.int (Int32.ofNat i)), .val (.long (f i)), .second] [(.int (0 : Int32)), (.int (1 : Int32)), (.int nv)]))
          refine Run.step (fun t_ k_ => XS.ior XJ258.here hx rfl (hb hby d4_57) rfl k_) ?_
          show Run _ _ _ _ (TJ258.setTop (mkF m 58 #[.val (.ref a1), .val (.long ua), .second, .val (.long va), .second, .val (.int nv), .val (.ref r), .val (.int (32 : Int32)), .val (.int (Int32.ofNat i)), .val (.long (f i)), .second] [(.int ((1 : Int32) ||| (0 : Int32))), (.int nv)]))
          refine Run.step (fun t_ k_ => XS.ior XJ258.here hx rfl (hb hby d4_58) rfl k_) ?_
          show Run _ _ _ _ (TJ258.setTop (mkF m 59 #[.val (.ref a1), .val (.long ua), .second, .val (.long va), .second, .val (.int nv), .val (.ref r), .val (.int (32 : Int32)), .val (.int (Int32.ofNat i)), .val (.long (f i)), .second] [(.int (nv ||| ((1 : Int32) ||| (0 : Int32))))]))
          refine Run.step (fun t_ k_ => XS.istore XJ258.here hx rfl (hb hby d4_59) rfl (l' := #[.val (.ref a1), .val (.long ua), .second, .val (.long va), .second, .val (.int (nv ||| ((1 : Int32) ||| (0 : Int32)))), .val (.ref r), .val (.int (32 : Int32)), .val (.int (Int32.ofNat i)), .val (.long (f i)), .second]) rfl k_) ?_
          show Run _ _ _ _ (TJ258.setTop (mkF m 61 #[.val (.ref a1), .val (.long ua), .second, .val (.long va), .second, .val (.int (nv ||| ((1 : Int32) ||| (0 : Int32)))), .val (.ref r), .val (.int (32 : Int32)), .val (.int (Int32.ofNat i)), .val (.long (f i)), .second] []))
          refine Run.step (fun t_ k_ => XS.iinc XJ258.here hx rfl (hb hby d4_61) rfl (l' := #[.val (.ref a1), .val (.long ua), .second, .val (.long va), .second, .val (.int (nv ||| ((1 : Int32) ||| (0 : Int32)))), .val (.ref r), .val (.int (32 : Int32)), .val (.int ((Int32.ofNat i) + (1 : Int32))), .val (.long (f i)), .second]) rfl k_) ?_
          show Run _ _ _ _ (TJ258.setTop (mkF m 64 #[.val (.ref a1), .val (.long ua), .second, .val (.long va), .second, .val (.int (nv ||| ((1 : Int32) ||| (0 : Int32)))), .val (.ref r), .val (.int (32 : Int32)), .val (.int ((Int32.ofNat i) + (1 : Int32))), .val (.long (f i)), .second] []))
          refine Run.step (fun t_ k_ => XS.goto XJ258.here hx rfl (pc0 := 64) (pc' := 17) rfl (hb hby d4_64) (by decide) (by decide) k_) ?_
          show Run _ _ _ _ (TJ258.setTop (mkF m 17 #[.val (.ref a1), .val (.long ua), .second, .val (.long va), .second, .val (.int (nv ||| ((1 : Int32) ||| (0 : Int32)))), .val (.ref r), .val (.int (32 : Int32)), .val (.int ((Int32.ofNat i) + (1 : Int32))), .val (.long (f i)), .second] []))
          rw [(own_nat hlt).2.2.2]
          exact ih (i + 1) (by omega) _ _ XJ258 eJ258 NJ258 _ _ (by rw [hn]; show _ = own_near f ua va i ||| ((if f i = ua then 1 else 0) ||| (if f i = va then 1 else 0)); rw [if_pos c37, if_neg c49])
      · skip
        refine Run.step (fun t_ k_ => XS.ifYes XJ258.here hx rfl (pc0 := 37) (pc' := 44) rfl (hb hby d4_37) rfl (XT.ll_ne_t c37) (by decide) (by decide) k_) ?_
        show Run _ _ _ _ (TJ258.setTop (mkF m 44 #[.val (.ref a1), .val (.long ua), .second, .val (.long va), .second, .val (.int nv), .val (.ref r), .val (.int (32 : Int32)), .val (.int (Int32.ofNat i)), .val (.long (f i)), .second] [(.int nv)]))
        refine Run.step (fun t_ k_ => XS.iconst XJ258.here hx rfl (hb hby d4_44) k_) ?_
        show Run _ _ _ _ (TJ258.setTop (mkF m 45 #[.val (.ref a1), .val (.long ua), .second, .val (.long va), .second, .val (.int nv), .val (.ref r), .val (.int (32 : Int32)), .val (.int (Int32.ofNat i)), .val (.long (f i)), .second] [(.int (0 : Int32)), (.int nv)]))
        refine Run.step (fun t_ k_ => XS.lload XJ258.here hx rfl (hb hby d4_45) rfl k_) ?_
        show Run _ _ _ _ (TJ258.setTop (mkF m 47 #[.val (.ref a1), .val (.long ua), .second, .val (.long va), .second, .val (.int nv), .val (.ref r), .val (.int (32 : Int32)), .val (.int (Int32.ofNat i)), .val (.long (f i)), .second] [(.long (f i)), (.int (0 : Int32)), (.int nv)]))
        refine Run.step (fun t_ k_ => XS.lloadN XJ258.here hx rfl (hb hby d4_47) rfl k_) ?_
        show Run _ _ _ _ (TJ258.setTop (mkF m 48 #[.val (.ref a1), .val (.long ua), .second, .val (.long va), .second, .val (.int nv), .val (.ref r), .val (.int (32 : Int32)), .val (.int (Int32.ofNat i)), .val (.long (f i)), .second] [(.long va), (.long (f i)), (.int (0 : Int32)), (.int nv)]))
        refine Run.step (fun t_ k_ => XS.lcmp XJ258.here hx rfl (hb hby d4_48) rfl k_) ?_
        show Run _ _ _ _ (TJ258.setTop (mkF m 49 #[.val (.ref a1), .val (.long ua), .second, .val (.long va), .second, .val (.int nv), .val (.ref r), .val (.int (32 : Int32)), .val (.int (Int32.ofNat i)), .val (.long (f i)), .second] [(.int (lcmpW (f i) va)), (.int (0 : Int32)), (.int nv)]))
        by_cases c49 : (f i) = va
        · skip
          refine Run.step (fun t_ k_ => XS.ifNo XJ258.here hx rfl (hb hby d4_49) rfl (XT.ll_ne_f c49) k_) ?_
          show Run _ _ _ _ (TJ258.setTop (mkF m 52 #[.val (.ref a1), .val (.long ua), .second, .val (.long va), .second, .val (.int nv), .val (.ref r), .val (.int (32 : Int32)), .val (.int (Int32.ofNat i)), .val (.long (f i)), .second] [(.int (0 : Int32)), (.int nv)]))
          refine Run.step (fun t_ k_ => XS.iconst XJ258.here hx rfl (hb hby d4_52) k_) ?_
          show Run _ _ _ _ (TJ258.setTop (mkF m 53 #[.val (.ref a1), .val (.long ua), .second, .val (.long va), .second, .val (.int nv), .val (.ref r), .val (.int (32 : Int32)), .val (.int (Int32.ofNat i)), .val (.long (f i)), .second] [(.int (1 : Int32)), (.int (0 : Int32)), (.int nv)]))
          refine Run.step (fun t_ k_ => XS.goto XJ258.here hx rfl (pc0 := 53) (pc' := 57) rfl (hb hby d4_53) (by decide) (by decide) k_) ?_
          show Run _ _ _ _ (TJ258.setTop (mkF m 57 #[.val (.ref a1), .val (.long ua), .second, .val (.long va), .second, .val (.int nv), .val (.ref r), .val (.int (32 : Int32)), .val (.int (Int32.ofNat i)), .val (.long (f i)), .second] [(.int (1 : Int32)), (.int (0 : Int32)), (.int nv)]))
          refine Run.step (fun t_ k_ => XS.ior XJ258.here hx rfl (hb hby d4_57) rfl k_) ?_
          show Run _ _ _ _ (TJ258.setTop (mkF m 58 #[.val (.ref a1), .val (.long ua), .second, .val (.long va), .second, .val (.int nv), .val (.ref r), .val (.int (32 : Int32)), .val (.int (Int32.ofNat i)), .val (.long (f i)), .second] [(.int ((0 : Int32) ||| (1 : Int32))), (.int nv)]))
          refine Run.step (fun t_ k_ => XS.ior XJ258.here hx rfl (hb hby d4_58) rfl k_) ?_
          show Run _ _ _ _ (TJ258.setTop (mkF m 59 #[.val (.ref a1), .val (.long ua), .second, .val (.long va), .second, .val (.int nv), .val (.ref r), .val (.int (32 : Int32)), .val (.int (Int32.ofNat i)), .val (.long (f i)), .second] [(.int (nv ||| ((0 : Int32) ||| (1 : Int32))))]))
          refine Run.step (fun t_ k_ => XS.istore XJ258.here hx rfl (hb hby d4_59) rfl (l' := #[.val (.ref a1), .val (.long ua), .second, .val (.long va), .second, .val (.int (nv ||| ((0 : Int32) ||| (1 : Int32)))), .val (.ref r), .val (.int (32 : Int32)), .val (.int (Int32.ofNat i)), .val (.long (f i)), .second]) rfl k_) ?_
          show Run _ _ _ _ (TJ258.setTop (mkF m 61 #[.val (.ref a1), .val (.long ua), .second, .val (.long va), .second, .val (.int (nv ||| ((0 : Int32) ||| (1 : Int32)))), .val (.ref r), .val (.int (32 : Int32)), .val (.int (Int32.ofNat i)), .val (.long (f i)), .second] []))
          refine Run.step (fun t_ k_ => XS.iinc XJ258.here hx rfl (hb hby d4_61) rfl (l' := #[.val (.ref a1), .val (.long ua), .second, .val (.long va), .second, .val (.int (nv ||| ((0 : Int32) ||| (1 : Int32)))), .val (.ref r), .val (.int (32 : Int32)), .val (.int ((Int32.ofNat i) + (1 : Int32))), .val (.long (f i)), .second]) rfl k_) ?_
          show Run _ _ _ _ (TJ258.setTop (mkF m 64 #[.val (.ref a1), .val (.long ua), .second, .val (.long va), .second, .val (.int (nv ||| ((0 : Int32) ||| (1 : Int32)))), .val (.ref r), .val (.int (32 : Int32)), .val (.int ((Int32.ofNat i) + (1 : Int32))), .val (.long (f i)), .second] []))
          refine Run.step (fun t_ k_ => XS.goto XJ258.here hx rfl (pc0 := 64) (pc' := 17) rfl (hb hby d4_64) (by decide) (by decide) k_) ?_
          show Run _ _ _ _ (TJ258.setTop (mkF m 17 #[.val (.ref a1), .val (.long ua), .second, .val (.long va), .second, .val (.int (nv ||| ((0 : Int32) ||| (1 : Int32)))), .val (.ref r), .val (.int (32 : Int32)), .val (.int ((Int32.ofNat i) + (1 : Int32))), .val (.long (f i)), .second] []))
          rw [(own_nat hlt).2.2.2]
          exact ih (i + 1) (by omega) _ _ XJ258 eJ258 NJ258 _ _ (by rw [hn]; show _ = own_near f ua va i ||| ((if f i = ua then 1 else 0) ||| (if f i = va then 1 else 0)); rw [if_neg c37, if_pos c49])
        · skip
          refine Run.step (fun t_ k_ => XS.ifYes XJ258.here hx rfl (pc0 := 49) (pc' := 56) rfl (hb hby d4_49) rfl (XT.ll_ne_t c49) (by decide) (by decide) k_) ?_
          show Run _ _ _ _ (TJ258.setTop (mkF m 56 #[.val (.ref a1), .val (.long ua), .second, .val (.long va), .second, .val (.int nv), .val (.ref r), .val (.int (32 : Int32)), .val (.int (Int32.ofNat i)), .val (.long (f i)), .second] [(.int (0 : Int32)), (.int nv)]))
          refine Run.step (fun t_ k_ => XS.iconst XJ258.here hx rfl (hb hby d4_56) k_) ?_
          show Run _ _ _ _ (TJ258.setTop (mkF m 57 #[.val (.ref a1), .val (.long ua), .second, .val (.long va), .second, .val (.int nv), .val (.ref r), .val (.int (32 : Int32)), .val (.int (Int32.ofNat i)), .val (.long (f i)), .second] [(.int (0 : Int32)), (.int (0 : Int32)), (.int nv)]))
          refine Run.step (fun t_ k_ => XS.ior XJ258.here hx rfl (hb hby d4_57) rfl k_) ?_
          show Run _ _ _ _ (TJ258.setTop (mkF m 58 #[.val (.ref a1), .val (.long ua), .second, .val (.long va), .second, .val (.int nv), .val (.ref r), .val (.int (32 : Int32)), .val (.int (Int32.ofNat i)), .val (.long (f i)), .second] [(.int ((0 : Int32) ||| (0 : Int32))), (.int nv)]))
          refine Run.step (fun t_ k_ => XS.ior XJ258.here hx rfl (hb hby d4_58) rfl k_) ?_
          show Run _ _ _ _ (TJ258.setTop (mkF m 59 #[.val (.ref a1), .val (.long ua), .second, .val (.long va), .second, .val (.int nv), .val (.ref r), .val (.int (32 : Int32)), .val (.int (Int32.ofNat i)), .val (.long (f i)), .second] [(.int (nv ||| ((0 : Int32) ||| (0 : Int32))))]))
          refine Run.step (fun t_ k_ => XS.istore XJ258.here hx rfl (hb hby d4_59) rfl (l' := #[.val (.ref a1), .val (.long ua), .second, .val (.long va), .second, .val (.int (nv ||| ((0 : Int32) ||| (0 : Int32)))), .val (.ref r), .val (.int (32 : Int32)), .val (.int (Int32.ofNat i)), .val (.long (f i)), .second]) rfl k_) ?_
          show Run _ _ _ _ (TJ258.setTop (mkF m 61 #[.val (.ref a1), .val (.long ua), .second, .val (.long va), .second, .val (.int (nv ||| ((0 : Int32) ||| (0 : Int32)))), .val (.ref r), .val (.int (32 : Int32)), .val (.int (Int32.ofNat i)), .val (.long (f i)), .second] []))
          refine Run.step (fun t_ k_ => XS.iinc XJ258.here hx rfl (hb hby d4_61) rfl (l' := #[.val (.ref a1), .val (.long ua), .second, .val (.long va), .second, .val (.int (nv ||| ((0 : Int32) ||| (0 : Int32)))), .val (.ref r), .val (.int (32 : Int32)), .val (.int ((Int32.ofNat i) + (1 : Int32))), .val (.long (f i)), .second]) rfl k_) ?_
          show Run _ _ _ _ (TJ258.setTop (mkF m 64 #[.val (.ref a1), .val (.long ua), .second, .val (.long va), .second, .val (.int (nv ||| ((0 : Int32) ||| (0 : Int32)))), .val (.ref r), .val (.int (32 : Int32)), .val (.int ((Int32.ofNat i) + (1 : Int32))), .val (.long (f i)), .second] []))
          refine Run.step (fun t_ k_ => XS.goto XJ258.here hx rfl (pc0 := 64) (pc' := 17) rfl (hb hby d4_64) (by decide) (by decide) k_) ?_
          show Run _ _ _ _ (TJ258.setTop (mkF m 17 #[.val (.ref a1), .val (.long ua), .second, .val (.long va), .second, .val (.int (nv ||| ((0 : Int32) ||| (0 : Int32)))), .val (.ref r), .val (.int (32 : Int32)), .val (.int ((Int32.ofNat i) + (1 : Int32))), .val (.long (f i)), .second] []))
          rw [(own_nat hlt).2.2.2]
          exact ih (i + 1) (by omega) _ _ XJ258 eJ258 NJ258 _ _ (by rw [hn]; show _ = own_near f ua va i ||| ((if f i = ua then 1 else 0) ||| (if f i = va then 1 else 0)); rw [if_neg c37, if_neg c49])
  refine Run.step (fun t_ k_ => XS.iload X256.here hx rfl (hb hby d4_17) rfl k_) ?_
  show Run _ _ _ _ (T256.setTop (mkF m 19 #[.val (.ref a1), .val (.long ua), .second, .val (.long va), .second, .val (.int (0 : Int32)), .val (.ref r), .val (.int (32 : Int32)), .val (.int (0 : Int32)), .unset, .unset] [(.int (0 : Int32))]))
  refine Run.step (fun t_ k_ => XS.iload X256.here hx rfl (hb hby d4_19) rfl k_) ?_
  show Run _ _ _ _ (T256.setTop (mkF m 21 #[.val (.ref a1), .val (.long ua), .second, .val (.long va), .second, .val (.int (0 : Int32)), .val (.ref r), .val (.int (32 : Int32)), .val (.int (0 : Int32)), .unset, .unset] [(.int (32 : Int32)), (.int (0 : Int32))]))
  refine Run.step (fun t_ k_ => XS.icmpNo X256.here hx rfl (hb hby d4_21) rfl (XT.ii_ge_f (by decide : (0 : Int32) < (32 : Int32))) k_) ?_
  show Run _ _ _ _ (T256.setTop (mkF m 24 #[.val (.ref a1), .val (.long ua), .second, .val (.long va), .second, .val (.int (0 : Int32)), .val (.ref r), .val (.int (32 : Int32)), .val (.int (0 : Int32)), .unset, .unset] []))
  refine Run.step (fun t_ k_ => XS.aload X256.here hx rfl (hb hby d4_24) rfl rfl k_) ?_
  show Run _ _ _ _ (T256.setTop (mkF m 26 #[.val (.ref a1), .val (.long ua), .second, .val (.long va), .second, .val (.int (0 : Int32)), .val (.ref r), .val (.int (32 : Int32)), .val (.int (0 : Int32)), .unset, .unset] [(.ref r)]))
  refine Run.step (fun t_ k_ => XS.iload X256.here hx rfl (hb hby d4_26) rfl k_) ?_
  show Run _ _ _ _ (T256.setTop (mkF m 28 #[.val (.ref a1), .val (.long ua), .second, .val (.long va), .second, .val (.int (0 : Int32)), .val (.ref r), .val (.int (32 : Int32)), .val (.int (0 : Int32)), .unset, .unset] [(.int (0 : Int32)), (.ref r)]))
  obtain ⟨cl306, Ar306, q306, S306, M306, H306, U306⟩ := id V1
  have hin307 : ¬ ((0 : Int32) < 0 ∨ cl306.slots.size ≤ ((0 : Int32)).toNatClampNeg) := inb_of S306 ⟨by decide, by decide⟩
  have hat307 : cl306.slots[((0 : Int32)).toNatClampNeg]? = some (.long (f 0)) := H306.at hin307 (own_get f (by decide) _)
  refine Run.step (fun t_ k_ => X256.laload hx (j := (0 : Int32)) (v := (.long (f 0))) (by rw [e256]; exact Ar306.1) (State.isArrayOf_alike hZ.alike Ar306.2.1) Ar306.2.2 hin307 hat307 (g := (mkF m 28 #[.val (.ref a1), .val (.long ua), .second, .val (.long va), .second, .val (.int (0 : Int32)), .val (.ref r), .val (.int (32 : Int32)), .val (.int (0 : Int32)), .unset, .unset] [(.int (0 : Int32)), (.ref r)])) rfl rfl (hb hby d4_28) _ k_) ?_
  show Run _ _ _ _ (T256.setTop (mkF m 29 #[.val (.ref a1), .val (.long ua), .second, .val (.long va), .second, .val (.int (0 : Int32)), .val (.ref r), .val (.int (32 : Int32)), .val (.int (0 : Int32)), .unset, .unset] [(.long (f 0))]))
  refine Run.step (fun t_ k_ => XS.lstore X256.here hx rfl (hb hby d4_29) rfl (l' := #[.val (.ref a1), .val (.long ua), .second, .val (.long va), .second, .val (.int (0 : Int32)), .val (.ref r), .val (.int (32 : Int32)), .val (.int (0 : Int32)), .val (.long (f 0)), .second]) rfl k_) ?_
  show Run _ _ _ _ (T256.setTop (mkF m 31 #[.val (.ref a1), .val (.long ua), .second, .val (.long va), .second, .val (.int (0 : Int32)), .val (.ref r), .val (.int (32 : Int32)), .val (.int (0 : Int32)), .val (.long (f 0)), .second] []))
  refine Run.step (fun t_ k_ => XS.iload X256.here hx rfl (hb hby d4_31) rfl k_) ?_
  show Run _ _ _ _ (T256.setTop (mkF m 33 #[.val (.ref a1), .val (.long ua), .second, .val (.long va), .second, .val (.int (0 : Int32)), .val (.ref r), .val (.int (32 : Int32)), .val (.int (0 : Int32)), .val (.long (f 0)), .second] [(.int (0 : Int32))]))
  refine Run.step (fun t_ k_ => XS.lload X256.here hx rfl (hb hby d4_33) rfl k_) ?_
  show Run _ _ _ _ (T256.setTop (mkF m 35 #[.val (.ref a1), .val (.long ua), .second, .val (.long va), .second, .val (.int (0 : Int32)), .val (.ref r), .val (.int (32 : Int32)), .val (.int (0 : Int32)), .val (.long (f 0)), .second] [(.long (f 0)), (.int (0 : Int32))]))
  refine Run.step (fun t_ k_ => XS.lloadN X256.here hx rfl (hb hby d4_35) rfl k_) ?_
  show Run _ _ _ _ (T256.setTop (mkF m 36 #[.val (.ref a1), .val (.long ua), .second, .val (.long va), .second, .val (.int (0 : Int32)), .val (.ref r), .val (.int (32 : Int32)), .val (.int (0 : Int32)), .val (.long (f 0)), .second] [(.long ua), (.long (f 0)), (.int (0 : Int32))]))
  refine Run.step (fun t_ k_ => XS.lcmp X256.here hx rfl (hb hby d4_36) rfl k_) ?_
  show Run _ _ _ _ (T256.setTop (mkF m 37 #[.val (.ref a1), .val (.long ua), .second, .val (.long va), .second, .val (.int (0 : Int32)), .val (.ref r), .val (.int (32 : Int32)), .val (.int (0 : Int32)), .val (.long (f 0)), .second] [(.int (lcmpW (f 0) ua)), (.int (0 : Int32))]))
  by_cases c37 : (f 0) = ua
  · skip
    refine Run.step (fun t_ k_ => XS.ifNo X256.here hx rfl (hb hby d4_37) rfl (XT.ll_ne_f c37) k_) ?_
    show Run _ _ _ _ (T256.setTop (mkF m 40 #[.val (.ref a1), .val (.long ua), .second, .val (.long va), .second, .val (.int (0 : Int32)), .val (.ref r), .val (.int (32 : Int32)), .val (.int (0 : Int32)), .val (.long (f 0)), .second] [(.int (0 : Int32))]))
    refine Run.step (fun t_ k_ => XS.iconst X256.here hx rfl (hb hby d4_40) k_) ?_
    show Run _ _ _ _ (T256.setTop (mkF m 41 #[.val (.ref a1), .val (.long ua), .second, .val (.long va), .second, .val (.int (0 : Int32)), .val (.ref r), .val (.int (32 : Int32)), .val (.int (0 : Int32)), .val (.long (f 0)), .second] [(.int (1 : Int32)), (.int (0 : Int32))]))
    refine Run.step (fun t_ k_ => XS.goto X256.here hx rfl (pc0 := 41) (pc' := 45) rfl (hb hby d4_41) (by decide) (by decide) k_) ?_
    show Run _ _ _ _ (T256.setTop (mkF m 45 #[.val (.ref a1), .val (.long ua), .second, .val (.long va), .second, .val (.int (0 : Int32)), .val (.ref r), .val (.int (32 : Int32)), .val (.int (0 : Int32)), .val (.long (f 0)), .second] [(.int (1 : Int32)), (.int (0 : Int32))]))
    refine Run.step (fun t_ k_ => XS.lload X256.here hx rfl (hb hby d4_45) rfl k_) ?_
    show Run _ _ _ _ (T256.setTop (mkF m 47 #[.val (.ref a1), .val (.long ua), .second, .val (.long va), .second, .val (.int (0 : Int32)), .val (.ref r), .val (.int (32 : Int32)), .val (.int (0 : Int32)), .val (.long (f 0)), .second] [(.long (f 0)), (.int (1 : Int32)), (.int (0 : Int32))]))
    refine Run.step (fun t_ k_ => XS.lloadN X256.here hx rfl (hb hby d4_47) rfl k_) ?_
    show Run _ _ _ _ (T256.setTop (mkF m 48 #[.val (.ref a1), .val (.long ua), .second, .val (.long va), .second, .val (.int (0 : Int32)), .val (.ref r), .val (.int (32 : Int32)), .val (.int (0 : Int32)), .val (.long (f 0)), .second] [(.long va), (.long (f 0)), (.int (1 : Int32)), (.int (0 : Int32))]))
    refine Run.step (fun t_ k_ => XS.lcmp X256.here hx rfl (hb hby d4_48) rfl k_) ?_
    show Run _ _ _ _ (T256.setTop (mkF m 49 #[.val (.ref a1), .val (.long ua), .second, .val (.long va), .second, .val (.int (0 : Int32)), .val (.ref r), .val (.int (32 : Int32)), .val (.int (0 : Int32)), .val (.long (f 0)), .second] [(.int (lcmpW (f 0) va)), (.int (1 : Int32)), (.int (0 : Int32))]))
    by_cases c49 : (f 0) = va
    · skip
      refine Run.step (fun t_ k_ => XS.ifNo X256.here hx rfl (hb hby d4_49) rfl (XT.ll_ne_f c49) k_) ?_
      show Run _ _ _ _ (T256.setTop (mkF m 52 #[.val (.ref a1), .val (.long ua), .second, .val (.long va), .second, .val (.int (0 : Int32)), .val (.ref r), .val (.int (32 : Int32)), .val (.int (0 : Int32)), .val (.long (f 0)), .second] [(.int (1 : Int32)), (.int (0 : Int32))]))
      refine Run.step (fun t_ k_ => XS.iconst X256.here hx rfl (hb hby d4_52) k_) ?_
      show Run _ _ _ _ (T256.setTop (mkF m 53 #[.val (.ref a1), .val (.long ua), .second, .val (.long va), .second, .val (.int (0 : Int32)), .val (.ref r), .val (.int (32 : Int32)), .val (.int (0 : Int32)), .val (.long (f 0)), .second] [(.int (1 : Int32)), (.int (1 : Int32)), (.int (0 : Int32))]))
      refine Run.step (fun t_ k_ => XS.goto X256.here hx rfl (pc0 := 53) (pc' := 57) rfl (hb hby d4_53) (by decide) (by decide) k_) ?_
      show Run _ _ _ _ (T256.setTop (mkF m 57 #[.val (.ref a1), .val (.long ua), .second, .val (.long va), .second, .val (.int (0 : Int32)), .val (.ref r), .val (.int (32 : Int32)), .val (.int (0 : Int32)), .val (.long (f 0)), .second] [(.int (1 : Int32)), (.int (1 : Int32)), (.int (0 : Int32))]))
      refine Run.step (fun t_ k_ => XS.ior X256.here hx rfl (hb hby d4_57) rfl k_) ?_
      show Run _ _ _ _ (T256.setTop (mkF m 58 #[.val (.ref a1), .val (.long ua), .second, .val (.long va), .second, .val (.int (0 : Int32)), .val (.ref r), .val (.int (32 : Int32)), .val (.int (0 : Int32)), .val (.long (f 0)), .second] [(.int ((1 : Int32) ||| (1 : Int32))), (.int (0 : Int32))]))
      refine Run.step (fun t_ k_ => XS.ior X256.here hx rfl (hb hby d4_58) rfl k_) ?_
      show Run _ _ _ _ (T256.setTop (mkF m 59 #[.val (.ref a1), .val (.long ua), .second, .val (.long va), .second, .val (.int (0 : Int32)), .val (.ref r), .val (.int (32 : Int32)), .val (.int (0 : Int32)), .val (.long (f 0)), .second] [(.int ((0 : Int32) ||| ((1 : Int32) ||| (1 : Int32))))]))
      refine Run.step (fun t_ k_ => XS.istore X256.here hx rfl (hb hby d4_59) rfl (l' := #[.val (.ref a1), .val (.long ua), .second, .val (.long va), .second, .val (.int ((0 : Int32) ||| ((1 : Int32) ||| (1 : Int32)))), .val (.ref r), .val (.int (32 : Int32)), .val (.int (0 : Int32)), .val (.long (f 0)), .second]) rfl k_) ?_
      show Run _ _ _ _ (T256.setTop (mkF m 61 #[.val (.ref a1), .val (.long ua), .second, .val (.long va), .second, .val (.int ((0 : Int32) ||| ((1 : Int32) ||| (1 : Int32)))), .val (.ref r), .val (.int (32 : Int32)), .val (.int (0 : Int32)), .val (.long (f 0)), .second] []))
      refine Run.step (fun t_ k_ => XS.iinc X256.here hx rfl (hb hby d4_61) rfl (l' := #[.val (.ref a1), .val (.long ua), .second, .val (.long va), .second, .val (.int ((0 : Int32) ||| ((1 : Int32) ||| (1 : Int32)))), .val (.ref r), .val (.int (32 : Int32)), .val (.int (1 : Int32)), .val (.long (f 0)), .second]) rfl k_) ?_
      show Run _ _ _ _ (T256.setTop (mkF m 64 #[.val (.ref a1), .val (.long ua), .second, .val (.long va), .second, .val (.int ((0 : Int32) ||| ((1 : Int32) ||| (1 : Int32)))), .val (.ref r), .val (.int (32 : Int32)), .val (.int (1 : Int32)), .val (.long (f 0)), .second] []))
      refine Run.step (fun t_ k_ => XS.goto X256.here hx rfl (pc0 := 64) (pc' := 17) rfl (hb hby d4_64) (by decide) (by decide) k_) ?_
      show Run _ _ _ _ (T256.setTop (mkF m 17 #[.val (.ref a1), .val (.long ua), .second, .val (.long va), .second, .val (.int ((0 : Int32) ||| ((1 : Int32) ||| (1 : Int32)))), .val (.ref r), .val (.int (32 : Int32)), .val (.int (1 : Int32)), .val (.long (f 0)), .second] []))
      exact LP 31 1 rfl _ _ X256 e256 N0 _ _ (by show _ = (0 : Int32) ||| ((if f 0 = ua then 1 else 0) ||| (if f 0 = va then 1 else 0)); rw [if_pos c37, if_pos c49])
    · skip
      refine Run.step (fun t_ k_ => XS.ifYes X256.here hx rfl (pc0 := 49) (pc' := 56) rfl (hb hby d4_49) rfl (XT.ll_ne_t c49) (by decide) (by decide) k_) ?_
      show Run _ _ _ _ (T256.setTop (mkF m 56 #[.val (.ref a1), .val (.long ua), .second, .val (.long va), .second, .val (.int (0 : Int32)), .val (.ref r), .val (.int (32 : Int32)), .val (.int (0 : Int32)), .val (.long (f 0)), .second] [(.int (1 : Int32)), (.int (0 : Int32))]))
      refine Run.step (fun t_ k_ => XS.iconst X256.here hx rfl (hb hby d4_56) k_) ?_
      show Run _ _ _ _ (T256.setTop (mkF m 57 #[.val (.ref a1), .val (.long ua), .second, .val (.long va), .second, .val (.int (0 : Int32)), .val (.ref r), .val (.int (32 : Int32)), .val (.int (0 : Int32)), .val (.long (f 0)), .second] [(.int (0 : Int32)), (.int (1 : Int32)), (.int (0 : Int32))]))
      refine Run.step (fun t_ k_ => XS.ior X256.here hx rfl (hb hby d4_57) rfl k_) ?_
      show Run _ _ _ _ (T256.setTop (mkF m 58 #[.val (.ref a1), .val (.long ua), .second, .val (.long va), .second, .val (.int (0 : Int32)), .val (.ref r), .val (.int (32 : Int32)), .val (.int (0 : Int32)), .val (.long (f 0)), .second] [(.int ((1 : Int32) ||| (0 : Int32))), (.int (0 : Int32))]))
      refine Run.step (fun t_ k_ => XS.ior X256.here hx rfl (hb hby d4_58) rfl k_) ?_
      show Run _ _ _ _ (T256.setTop (mkF m 59 #[.val (.ref a1), .val (.long ua), .second, .val (.long va), .second, .val (.int (0 : Int32)), .val (.ref r), .val (.int (32 : Int32)), .val (.int (0 : Int32)), .val (.long (f 0)), .second] [(.int ((0 : Int32) ||| ((1 : Int32) ||| (0 : Int32))))]))
      refine Run.step (fun t_ k_ => XS.istore X256.here hx rfl (hb hby d4_59) rfl (l' := #[.val (.ref a1), .val (.long ua), .second, .val (.long va), .second, .val (.int ((0 : Int32) ||| ((1 : Int32) ||| (0 : Int32)))), .val (.ref r), .val (.int (32 : Int32)), .val (.int (0 : Int32)), .val (.long (f 0)), .second]) rfl k_) ?_
      show Run _ _ _ _ (T256.setTop (mkF m 61 #[.val (.ref a1), .val (.long ua), .second, .val (.long va), .second, .val (.int ((0 : Int32) ||| ((1 : Int32) ||| (0 : Int32)))), .val (.ref r), .val (.int (32 : Int32)), .val (.int (0 : Int32)), .val (.long (f 0)), .second] []))
      refine Run.step (fun t_ k_ => XS.iinc X256.here hx rfl (hb hby d4_61) rfl (l' := #[.val (.ref a1), .val (.long ua), .second, .val (.long va), .second, .val (.int ((0 : Int32) ||| ((1 : Int32) ||| (0 : Int32)))), .val (.ref r), .val (.int (32 : Int32)), .val (.int (1 : Int32)), .val (.long (f 0)), .second]) rfl k_) ?_
      show Run _ _ _ _ (T256.setTop (mkF m 64 #[.val (.ref a1), .val (.long ua), .second, .val (.long va), .second, .val (.int ((0 : Int32) ||| ((1 : Int32) ||| (0 : Int32)))), .val (.ref r), .val (.int (32 : Int32)), .val (.int (1 : Int32)), .val (.long (f 0)), .second] []))
      refine Run.step (fun t_ k_ => XS.goto X256.here hx rfl (pc0 := 64) (pc' := 17) rfl (hb hby d4_64) (by decide) (by decide) k_) ?_
      show Run _ _ _ _ (T256.setTop (mkF m 17 #[.val (.ref a1), .val (.long ua), .second, .val (.long va), .second, .val (.int ((0 : Int32) ||| ((1 : Int32) ||| (0 : Int32)))), .val (.ref r), .val (.int (32 : Int32)), .val (.int (1 : Int32)), .val (.long (f 0)), .second] []))
      exact LP 31 1 rfl _ _ X256 e256 N0 _ _ (by show _ = (0 : Int32) ||| ((if f 0 = ua then 1 else 0) ||| (if f 0 = va then 1 else 0)); rw [if_pos c37, if_neg c49])
  · skip
    refine Run.step (fun t_ k_ => XS.ifYes X256.here hx rfl (pc0 := 37) (pc' := 44) rfl (hb hby d4_37) rfl (XT.ll_ne_t c37) (by decide) (by decide) k_) ?_
    show Run _ _ _ _ (T256.setTop (mkF m 44 #[.val (.ref a1), .val (.long ua), .second, .val (.long va), .second, .val (.int (0 : Int32)), .val (.ref r), .val (.int (32 : Int32)), .val (.int (0 : Int32)), .val (.long (f 0)), .second] [(.int (0 : Int32))]))
    refine Run.step (fun t_ k_ => XS.iconst X256.here hx rfl (hb hby d4_44) k_) ?_
    show Run _ _ _ _ (T256.setTop (mkF m 45 #[.val (.ref a1), .val (.long ua), .second, .val (.long va), .second, .val (.int (0 : Int32)), .val (.ref r), .val (.int (32 : Int32)), .val (.int (0 : Int32)), .val (.long (f 0)), .second] [(.int (0 : Int32)), (.int (0 : Int32))]))
    refine Run.step (fun t_ k_ => XS.lload X256.here hx rfl (hb hby d4_45) rfl k_) ?_
    show Run _ _ _ _ (T256.setTop (mkF m 47 #[.val (.ref a1), .val (.long ua), .second, .val (.long va), .second, .val (.int (0 : Int32)), .val (.ref r), .val (.int (32 : Int32)), .val (.int (0 : Int32)), .val (.long (f 0)), .second] [(.long (f 0)), (.int (0 : Int32)), (.int (0 : Int32))]))
    refine Run.step (fun t_ k_ => XS.lloadN X256.here hx rfl (hb hby d4_47) rfl k_) ?_
    show Run _ _ _ _ (T256.setTop (mkF m 48 #[.val (.ref a1), .val (.long ua), .second, .val (.long va), .second, .val (.int (0 : Int32)), .val (.ref r), .val (.int (32 : Int32)), .val (.int (0 : Int32)), .val (.long (f 0)), .second] [(.long va), (.long (f 0)), (.int (0 : Int32)), (.int (0 : Int32))]))
    refine Run.step (fun t_ k_ => XS.lcmp X256.here hx rfl (hb hby d4_48) rfl k_) ?_
    show Run _ _ _ _ (T256.setTop (mkF m 49 #[.val (.ref a1), .val (.long ua), .second, .val (.long va), .second, .val (.int (0 : Int32)), .val (.ref r), .val (.int (32 : Int32)), .val (.int (0 : Int32)), .val (.long (f 0)), .second] [(.int (lcmpW (f 0) va)), (.int (0 : Int32)), (.int (0 : Int32))]))
    by_cases c49 : (f 0) = va
    · skip
      refine Run.step (fun t_ k_ => XS.ifNo X256.here hx rfl (hb hby d4_49) rfl (XT.ll_ne_f c49) k_) ?_
      show Run _ _ _ _ (T256.setTop (mkF m 52 #[.val (.ref a1), .val (.long ua), .second, .val (.long va), .second, .val (.int (0 : Int32)), .val (.ref r), .val (.int (32 : Int32)), .val (.int (0 : Int32)), .val (.long (f 0)), .second] [(.int (0 : Int32)), (.int (0 : Int32))]))
      refine Run.step (fun t_ k_ => XS.iconst X256.here hx rfl (hb hby d4_52) k_) ?_
      show Run _ _ _ _ (T256.setTop (mkF m 53 #[.val (.ref a1), .val (.long ua), .second, .val (.long va), .second, .val (.int (0 : Int32)), .val (.ref r), .val (.int (32 : Int32)), .val (.int (0 : Int32)), .val (.long (f 0)), .second] [(.int (1 : Int32)), (.int (0 : Int32)), (.int (0 : Int32))]))
      refine Run.step (fun t_ k_ => XS.goto X256.here hx rfl (pc0 := 53) (pc' := 57) rfl (hb hby d4_53) (by decide) (by decide) k_) ?_
      show Run _ _ _ _ (T256.setTop (mkF m 57 #[.val (.ref a1), .val (.long ua), .second, .val (.long va), .second, .val (.int (0 : Int32)), .val (.ref r), .val (.int (32 : Int32)), .val (.int (0 : Int32)), .val (.long (f 0)), .second] [(.int (1 : Int32)), (.int (0 : Int32)), (.int (0 : Int32))]))
      refine Run.step (fun t_ k_ => XS.ior X256.here hx rfl (hb hby d4_57) rfl k_) ?_
      show Run _ _ _ _ (T256.setTop (mkF m 58 #[.val (.ref a1), .val (.long ua), .second, .val (.long va), .second, .val (.int (0 : Int32)), .val (.ref r), .val (.int (32 : Int32)), .val (.int (0 : Int32)), .val (.long (f 0)), .second] [(.int ((0 : Int32) ||| (1 : Int32))), (.int (0 : Int32))]))
      refine Run.step (fun t_ k_ => XS.ior X256.here hx rfl (hb hby d4_58) rfl k_) ?_
      show Run _ _ _ _ (T256.setTop (mkF m 59 #[.val (.ref a1), .val (.long ua), .second, .val (.long va), .second, .val (.int (0 : Int32)), .val (.ref r), .val (.int (32 : Int32)), .val (.int (0 : Int32)), .val (.long (f 0)), .second] [(.int ((0 : Int32) ||| ((0 : Int32) ||| (1 : Int32))))]))
      refine Run.step (fun t_ k_ => XS.istore X256.here hx rfl (hb hby d4_59) rfl (l' := #[.val (.ref a1), .val (.long ua), .second, .val (.long va), .second, .val (.int ((0 : Int32) ||| ((0 : Int32) ||| (1 : Int32)))), .val (.ref r), .val (.int (32 : Int32)), .val (.int (0 : Int32)), .val (.long (f 0)), .second]) rfl k_) ?_
      show Run _ _ _ _ (T256.setTop (mkF m 61 #[.val (.ref a1), .val (.long ua), .second, .val (.long va), .second, .val (.int ((0 : Int32) ||| ((0 : Int32) ||| (1 : Int32)))), .val (.ref r), .val (.int (32 : Int32)), .val (.int (0 : Int32)), .val (.long (f 0)), .second] []))
      refine Run.step (fun t_ k_ => XS.iinc X256.here hx rfl (hb hby d4_61) rfl (l' := #[.val (.ref a1), .val (.long ua), .second, .val (.long va), .second, .val (.int ((0 : Int32) ||| ((0 : Int32) ||| (1 : Int32)))), .val (.ref r), .val (.int (32 : Int32)), .val (.int (1 : Int32)), .val (.long (f 0)), .second]) rfl k_) ?_
      show Run _ _ _ _ (T256.setTop (mkF m 64 #[.val (.ref a1), .val (.long ua), .second, .val (.long va), .second, .val (.int ((0 : Int32) ||| ((0 : Int32) ||| (1 : Int32)))), .val (.ref r), .val (.int (32 : Int32)), .val (.int (1 : Int32)), .val (.long (f 0)), .second] []))
      refine Run.step (fun t_ k_ => XS.goto X256.here hx rfl (pc0 := 64) (pc' := 17) rfl (hb hby d4_64) (by decide) (by decide) k_) ?_
      show Run _ _ _ _ (T256.setTop (mkF m 17 #[.val (.ref a1), .val (.long ua), .second, .val (.long va), .second, .val (.int ((0 : Int32) ||| ((0 : Int32) ||| (1 : Int32)))), .val (.ref r), .val (.int (32 : Int32)), .val (.int (1 : Int32)), .val (.long (f 0)), .second] []))
      exact LP 31 1 rfl _ _ X256 e256 N0 _ _ (by show _ = (0 : Int32) ||| ((if f 0 = ua then 1 else 0) ||| (if f 0 = va then 1 else 0)); rw [if_neg c37, if_pos c49])
    · skip
      refine Run.step (fun t_ k_ => XS.ifYes X256.here hx rfl (pc0 := 49) (pc' := 56) rfl (hb hby d4_49) rfl (XT.ll_ne_t c49) (by decide) (by decide) k_) ?_
      show Run _ _ _ _ (T256.setTop (mkF m 56 #[.val (.ref a1), .val (.long ua), .second, .val (.long va), .second, .val (.int (0 : Int32)), .val (.ref r), .val (.int (32 : Int32)), .val (.int (0 : Int32)), .val (.long (f 0)), .second] [(.int (0 : Int32)), (.int (0 : Int32))]))
      refine Run.step (fun t_ k_ => XS.iconst X256.here hx rfl (hb hby d4_56) k_) ?_
      show Run _ _ _ _ (T256.setTop (mkF m 57 #[.val (.ref a1), .val (.long ua), .second, .val (.long va), .second, .val (.int (0 : Int32)), .val (.ref r), .val (.int (32 : Int32)), .val (.int (0 : Int32)), .val (.long (f 0)), .second] [(.int (0 : Int32)), (.int (0 : Int32)), (.int (0 : Int32))]))
      refine Run.step (fun t_ k_ => XS.ior X256.here hx rfl (hb hby d4_57) rfl k_) ?_
      show Run _ _ _ _ (T256.setTop (mkF m 58 #[.val (.ref a1), .val (.long ua), .second, .val (.long va), .second, .val (.int (0 : Int32)), .val (.ref r), .val (.int (32 : Int32)), .val (.int (0 : Int32)), .val (.long (f 0)), .second] [(.int ((0 : Int32) ||| (0 : Int32))), (.int (0 : Int32))]))
      refine Run.step (fun t_ k_ => XS.ior X256.here hx rfl (hb hby d4_58) rfl k_) ?_
      show Run _ _ _ _ (T256.setTop (mkF m 59 #[.val (.ref a1), .val (.long ua), .second, .val (.long va), .second, .val (.int (0 : Int32)), .val (.ref r), .val (.int (32 : Int32)), .val (.int (0 : Int32)), .val (.long (f 0)), .second] [(.int ((0 : Int32) ||| ((0 : Int32) ||| (0 : Int32))))]))
      refine Run.step (fun t_ k_ => XS.istore X256.here hx rfl (hb hby d4_59) rfl (l' := #[.val (.ref a1), .val (.long ua), .second, .val (.long va), .second, .val (.int ((0 : Int32) ||| ((0 : Int32) ||| (0 : Int32)))), .val (.ref r), .val (.int (32 : Int32)), .val (.int (0 : Int32)), .val (.long (f 0)), .second]) rfl k_) ?_
      show Run _ _ _ _ (T256.setTop (mkF m 61 #[.val (.ref a1), .val (.long ua), .second, .val (.long va), .second, .val (.int ((0 : Int32) ||| ((0 : Int32) ||| (0 : Int32)))), .val (.ref r), .val (.int (32 : Int32)), .val (.int (0 : Int32)), .val (.long (f 0)), .second] []))
      refine Run.step (fun t_ k_ => XS.iinc X256.here hx rfl (hb hby d4_61) rfl (l' := #[.val (.ref a1), .val (.long ua), .second, .val (.long va), .second, .val (.int ((0 : Int32) ||| ((0 : Int32) ||| (0 : Int32)))), .val (.ref r), .val (.int (32 : Int32)), .val (.int (1 : Int32)), .val (.long (f 0)), .second]) rfl k_) ?_
      show Run _ _ _ _ (T256.setTop (mkF m 64 #[.val (.ref a1), .val (.long ua), .second, .val (.long va), .second, .val (.int ((0 : Int32) ||| ((0 : Int32) ||| (0 : Int32)))), .val (.ref r), .val (.int (32 : Int32)), .val (.int (1 : Int32)), .val (.long (f 0)), .second] []))
      refine Run.step (fun t_ k_ => XS.goto X256.here hx rfl (pc0 := 64) (pc' := 17) rfl (hb hby d4_64) (by decide) (by decide) k_) ?_
      show Run _ _ _ _ (T256.setTop (mkF m 17 #[.val (.ref a1), .val (.long ua), .second, .val (.long va), .second, .val (.int ((0 : Int32) ||| ((0 : Int32) ||| (0 : Int32)))), .val (.ref r), .val (.int (32 : Int32)), .val (.int (1 : Int32)), .val (.long (f 0)), .second] []))
      exact LP 31 1 rfl _ _ X256 e256 N0 _ _ (by show _ = (0 : Int32) ||| ((if f 0 = ua then 1 else 0) ||| (if f 0 = va then 1 else 0)); rw [if_neg c37, if_neg c49])
theorem ef_4_1 (m : MethodId) (x0 : Addr) (x1 : Int64) (x2 : Int64) : entryFrame m #[(.ref x0), (.long x1), (.long x2)] 11 = mkF m 0 #[.val (.ref x0), .val (.long x1), .second, .val (.long x2), .second, .unset, .unset, .unset, .unset, .unset, .unset] [] := by first | (simp [entryFrame, mkF, argsToLocals, Value.category, maxLocals]; done) | rfl
def Q4_1 (Z : State) (a1 : Addr) (r : Addr) (kk : ClassId) (f : Nat → Int64) (ua : Int64) (va : Int64) (nr : Int64) (nr2 : Int64) (h0 : Heap) (n0 : Nat) (v : Option Value) (h : Heap) (L : List Loc) : Prop := v = none ∧ Fr n0 L ∧ Keep h0 h [a1, r] ∧ Fld Z h a1 "cleave/partition/LineGroups" "recent" "[J" (.ref r) ∧ Fld Z h a1 "cleave/partition/LineGroups" "lines" "J" (.long (2 : Int64)) ∧ Fld Z h a1 "cleave/partition/LineGroups" "near" "J" (.long nr2) ∧ Arv Z h r kk .long (32 : Int32) (own_l (own_up (own_up f 2 ua) 3 va)) (.long (0 : Int64))
set_option maxRecDepth 65536 in
set_option maxHeartbeats 40000000 in
theorem rm4_1 (l : Launch) (Z : State) (a0 : Array Value) (hw : ∀ d ∈ tables_1, d.before a0 Z = true) (ws : List Jvm.Cond) (a1 : Addr) (r : Addr) (kk : ClassId) (f : Nat → Int64) (ua : Int64) (va : Int64) (nr : Int64) (nr2 : Int64) (h0 : Heap) (n0 : Nat) (Z0 : n0 ≤ h0.size) (hnr : nr2 = if own_near f ua va 32 = 0 then nr else nr + 1) (F1 : Fld Z h0 a1 "cleave/partition/LineGroups" "recent" "[J" (.ref r)) (F2 : Fld Z h0 a1 "cleave/partition/LineGroups" "lines" "J" (.long (1 : Int64))) (F3 : Fld Z h0 a1 "cleave/partition/LineGroups" "near" "J" (.long nr)) (E1 : Exa Z h0 a1 "cleave/partition/LineGroups") (V1 : Arv Z h0 r kk .long (32 : Int32) (own_l f) (.long (0 : Int64))) (g1 : n0 ≤ a1) (g2 : n0 ≤ r) (ne : r ≠ a1) :
    MetFree l (⟨"cleave/partition/LineGroups", "read", "(JJ)V"⟩ : MethodName) (head1 (Jvm.Cond.code (⟨"cleave/partition/LineGroups", "read", "(JJ)V"⟩ : MethodName) prog_85_method_2_code 11 none :: ws) ({ frames := 0, cells := 0, slots := 0, locals := 0 } : Room)) (fun a U => a = #[(.ref a1), (.long ua), (.long va)] ∧ Z.Warmed39 U.vm ∧ U.heap = h0) (fun _ _ _ _ _ => True) (fun _ U o U' => ∃ v L, o = .returned v ∧ Q4_1 Z a1 r kk f ua va nr nr2 h0 n0 v U'.heap L ∧ FrameEnd U o U' L ({ frames := 0, cells := 0, slots := 0, locals := 0 } : Room).cells ({ frames := 0, cells := 0, slots := 0, locals := 0 } : Room).slots) := by
  refine MetFree.of_bodySF (plainFor_of_name pn_cleave_partition_LineGroups) hisR ?_
  intro p e s m args below meth c s₁ Bd hml0 hP hK
  obtain ⟨rfl, hZ, hh⟩ := hP
  have hx := Bd.exec
  have hby := Bd.bytes
  have w2 := hw _ (List.mem_of_getElem? (i := 2) rfl)
  have w11 := hw _ (List.mem_of_getElem? (i := 11) rfl)
  have w12 := hw _ (List.mem_of_getElem? (i := 12) rfl)
  have w23 := hw _ (List.mem_of_getElem? (i := 23) rfl)
  have w24 := hw _ (List.mem_of_getElem? (i := 24) rfl)
  have w25 := hw _ (List.mem_of_getElem? (i := 25) rfl)
  have w26 := hw _ (List.mem_of_getElem? (i := 26) rfl)
  have w27 := hw _ (List.mem_of_getElem? (i := 27) rfl)
  have hml : c.maxLocals = 11 := hml0
  have hown : s.vm.findClass "cleave/partition/LineGroups" = some m.cls := findClass_of_methodNamed Bd.named
  have hnm := (name_of_methodNamed Bd.named Bd.method).1
  have X0 : Stand p l e ({ frames := 0, cells := 0, slots := 0, locals := 0 } : Room) s m #[(.ref a1), (.long ua), (.long va)] below meth c s₁ [] 0 0 := Stand.of_body Bd
  have e0 : s₁.heap = h0 := by rw [← hh, Bd.state]; rfl
  have N0 := Fr.nil n0
  show Run p.tables e below (PQ s below 0 0 (Q4_1 Z a1 r kk f ua va nr nr2 h0 n0)) (s₁.setTop (entryFrame m #[(.ref a1), (.long ua), (.long va)] 11))
  refine Run.step (fun t k => castTop (ef_4_1 m a1 ua va) k) ?_
  show Run _ _ _ _ (s₁.setTop (mkF m 0 #[.val (.ref a1), .val (.long ua), .second, .val (.long va), .second, .unset, .unset, .unset, .unset, .unset, .unset] []))
  refine Run.step (fun t_ k_ => XS.iconst X0.here hx rfl (hb hby d4_0) k_) ?_
  show Run _ _ _ _ (s₁.setTop (mkF m 1 #[.val (.ref a1), .val (.long ua), .second, .val (.long va), .second, .unset, .unset, .unset, .unset, .unset, .unset] [(.int (0 : Int32))]))
  refine Run.step (fun t_ k_ => XS.istore X0.here hx rfl (hb hby d4_1) rfl (l' := #[.val (.ref a1), .val (.long ua), .second, .val (.long va), .second, .val (.int (0 : Int32)), .unset, .unset, .unset, .unset, .unset]) rfl k_) ?_
  show Run _ _ _ _ (s₁.setTop (mkF m 3 #[.val (.ref a1), .val (.long ua), .second, .val (.long va), .second, .val (.int (0 : Int32)), .unset, .unset, .unset, .unset, .unset] []))
  refine Run.step (fun t_ k_ => XS.aloadN X0.here hx rfl (hb hby d4_3) rfl rfl k_) ?_
  show Run _ _ _ _ (s₁.setTop (mkF m 4 #[.val (.ref a1), .val (.long ua), .second, .val (.long va), .second, .val (.int (0 : Int32)), .unset, .unset, .unset, .unset, .unset] [(.ref a1)]))
  obtain ⟨T308, X308, e308, st308⟩ := getF X0 hx hZ hown (host := "") (Or.inl w11) Via.refl e0 F1 (g := (mkF m 4 #[.val (.ref a1), .val (.long ua), .second, .val (.long va), .second, .val (.int (0 : Int32)), .unset, .unset, .unset, .unset, .unset] [(.ref a1)])) rfl rfl (hb hby d4_4)
  refine Run.step st308 ?_
  show Run _ _ _ _ (T308.setTop (mkF m 7 #[.val (.ref a1), .val (.long ua), .second, .val (.long va), .second, .val (.int (0 : Int32)), .unset, .unset, .unset, .unset, .unset] [(.ref r)]))
  refine Run.step (fun t_ k_ => XS.astore X308.here hx rfl (hb hby d4_7) rfl rfl (l' := #[.val (.ref a1), .val (.long ua), .second, .val (.long va), .second, .val (.int (0 : Int32)), .val (.ref r), .unset, .unset, .unset, .unset]) rfl k_) ?_
  show Run _ _ _ _ (T308.setTop (mkF m 9 #[.val (.ref a1), .val (.long ua), .second, .val (.long va), .second, .val (.int (0 : Int32)), .val (.ref r), .unset, .unset, .unset, .unset] []))
  refine Run.step (fun t_ k_ => XS.aload X308.here hx rfl (hb hby d4_9) rfl rfl k_) ?_
  show Run _ _ _ _ (T308.setTop (mkF m 11 #[.val (.ref a1), .val (.long ua), .second, .val (.long va), .second, .val (.int (0 : Int32)), .val (.ref r), .unset, .unset, .unset, .unset] [(.ref r)]))
  obtain ⟨cl309, Ar309, q309, S309, M309, H309, U309⟩ := id V1
  refine Run.step (fun t_ k_ => X308.arraylength hx (by rw [e308]; exact Ar309.1) (State.isArrayOf_alike hZ.alike Ar309.2.1) (g := (mkF m 11 #[.val (.ref a1), .val (.long ua), .second, .val (.long va), .second, .val (.int (0 : Int32)), .val (.ref r), .unset, .unset, .unset, .unset] [(.ref r)])) rfl rfl (hb hby d4_11) _ k_) ?_
  rw [len_of S309 M309]
  show Run _ _ _ _ (T308.setTop (mkF m 12 #[.val (.ref a1), .val (.long ua), .second, .val (.long va), .second, .val (.int (0 : Int32)), .val (.ref r), .unset, .unset, .unset, .unset] [(.int (32 : Int32))]))
  refine Run.step (fun t_ k_ => XS.istore X308.here hx rfl (hb hby d4_12) rfl (l' := #[.val (.ref a1), .val (.long ua), .second, .val (.long va), .second, .val (.int (0 : Int32)), .val (.ref r), .val (.int (32 : Int32)), .unset, .unset, .unset]) rfl k_) ?_
  show Run _ _ _ _ (T308.setTop (mkF m 14 #[.val (.ref a1), .val (.long ua), .second, .val (.long va), .second, .val (.int (0 : Int32)), .val (.ref r), .val (.int (32 : Int32)), .unset, .unset, .unset] []))
  refine Run.step (fun t_ k_ => XS.iconst X308.here hx rfl (hb hby d4_14) k_) ?_
  show Run _ _ _ _ (T308.setTop (mkF m 15 #[.val (.ref a1), .val (.long ua), .second, .val (.long va), .second, .val (.int (0 : Int32)), .val (.ref r), .val (.int (32 : Int32)), .unset, .unset, .unset] [(.int (0 : Int32))]))
  refine Run.step (fun t_ k_ => XS.istore X308.here hx rfl (hb hby d4_15) rfl (l' := #[.val (.ref a1), .val (.long ua), .second, .val (.long va), .second, .val (.int (0 : Int32)), .val (.ref r), .val (.int (32 : Int32)), .val (.int (0 : Int32)), .unset, .unset]) rfl k_) ?_
  show Run _ _ _ _ (T308.setTop (mkF m 17 #[.val (.ref a1), .val (.long ua), .second, .val (.long va), .second, .val (.int (0 : Int32)), .val (.ref r), .val (.int (32 : Int32)), .val (.int (0 : Int32)), .unset, .unset] []))
  have LP : ∀ (k i : Nat) (hi : i + k = 32) (TJ310 : State) (LJ310 : List Loc) (XJ310 : Stand p l e ({ frames := 0, cells := 0, slots := 0, locals := 0 } : Room) s m #[(.ref a1), (.long ua), (.long va)] below meth c TJ310 LJ310 0 0) (eJ310 : TJ310.heap = h0) (NJ310 : Fr n0 LJ310) (nv : Int32) (y : Int64) (hn : nv = own_near f ua va i), Run p.tables e below (PQ s below 0 0 (Q4_1 Z a1 r kk f ua va nr nr2 h0 n0)) (TJ310.setTop (mkF m 17 #[.val (.ref a1), .val (.long ua), .second, .val (.long va), .second, .val (.int nv), .val (.ref r), .val (.int (32 : Int32)), .val (.int (Int32.ofNat i)), .val (.long y), .second] [])) := by
    intro k
    induction k with
    | zero =>
      intro i hi TJ310 LJ310 XJ310 eJ310 NJ310 nv y hn
      obtain rfl : i = 32 := by omega
      show Run _ _ _ _ (TJ310.setTop (mkF m 17 #[.val (.ref a1), .val (.long ua), .second, .val (.long va), .second, .val (.int nv), .val (.ref r), .val (.int (32 : Int32)), .val (.int (Int32.ofNat 32)), .val (.long y), .second] []))
      refine Run.step (fun t_ k_ => XS.iload XJ310.here hx rfl (hb hby d4_17) rfl k_) ?_
      show Run _ _ _ _ (TJ310.setTop (mkF m 19 #[.val (.ref a1), .val (.long ua), .second, .val (.long va), .second, .val (.int nv), .val (.ref r), .val (.int (32 : Int32)), .val (.int (Int32.ofNat 32)), .val (.long y), .second] [(.int (Int32.ofNat 32))]))
      refine Run.step (fun t_ k_ => XS.iload XJ310.here hx rfl (hb hby d4_19) rfl k_) ?_
      show Run _ _ _ _ (TJ310.setTop (mkF m 21 #[.val (.ref a1), .val (.long ua), .second, .val (.long va), .second, .val (.int nv), .val (.ref r), .val (.int (32 : Int32)), .val (.int (Int32.ofNat 32)), .val (.long y), .second] [(.int (32 : Int32)), (.int (Int32.ofNat 32))]))
      refine Run.step (fun t_ k_ => XS.icmpYes XJ310.here hx rfl (pc0 := 21) (pc' := 67) rfl (hb hby d4_21) rfl (XT.ii_ge_t ((by decide) : ¬ ((Int32.ofNat 32) < (32 : Int32)))) (by decide) (by decide) k_) ?_
      show Run _ _ _ _ (TJ310.setTop (mkF m 67 #[.val (.ref a1), .val (.long ua), .second, .val (.long va), .second, .val (.int nv), .val (.ref r), .val (.int (32 : Int32)), .val (.int (Int32.ofNat 32)), .val (.long y), .second] []))
      refine Run.step (fun t_ k_ => XS.iconst XJ310.here hx rfl (hb hby d4_67) k_) ?_
      show Run _ _ _ _ (TJ310.setTop (mkF m 68 #[.val (.ref a1), .val (.long ua), .second, .val (.long va), .second, .val (.int nv), .val (.ref r), .val (.int (32 : Int32)), .val (.int (Int32.ofNat 32)), .val (.long y), .second] [(.int (2 : Int32))]))
      refine Run.step (fun t_ k_ => XS.aloadN XJ310.here hx rfl (hb hby d4_68) rfl rfl k_) ?_
      show Run _ _ _ _ (TJ310.setTop (mkF m 69 #[.val (.ref a1), .val (.long ua), .second, .val (.long va), .second, .val (.int nv), .val (.ref r), .val (.int (32 : Int32)), .val (.int (Int32.ofNat 32)), .val (.long y), .second] [(.ref a1), (.int (2 : Int32))]))
      obtain ⟨T311, X311, e311, st311⟩ := getF XJ310 hx hZ hown (host := "") (Or.inl w23) Via.refl eJ310 F2 (g := (mkF m 69 #[.val (.ref a1), .val (.long ua), .second, .val (.long va), .second, .val (.int nv), .val (.ref r), .val (.int (32 : Int32)), .val (.int (Int32.ofNat 32)), .val (.long y), .second] [(.ref a1), (.int (2 : Int32))])) rfl rfl (hb hby d4_69)
      refine Run.step st311 ?_
      show Run _ _ _ _ (T311.setTop (mkF m 72 #[.val (.ref a1), .val (.long ua), .second, .val (.long va), .second, .val (.int nv), .val (.ref r), .val (.int (32 : Int32)), .val (.int (Int32.ofNat 32)), .val (.long y), .second] [(.long (1 : Int64)), (.int (2 : Int32))]))
      refine Run.step (fun t_ k_ => X311.ldc2Long hx hown (mvT hZ w25) (g := (mkF m 72 #[.val (.ref a1), .val (.long ua), .second, .val (.long va), .second, .val (.int nv), .val (.ref r), .val (.int (32 : Int32)), .val (.int (Int32.ofNat 32)), .val (.long y), .second] [(.long (1 : Int64)), (.int (2 : Int32))])) rfl (hb hby d4_72) _ k_) ?_
      show Run _ _ _ _ (T311.setTop (mkF m 75 #[.val (.ref a1), .val (.long ua), .second, .val (.long va), .second, .val (.int nv), .val (.ref r), .val (.int (32 : Int32)), .val (.int (Int32.ofNat 32)), .val (.long y), .second] [(.long (16 : Int64)), (.long (1 : Int64)), (.int (2 : Int32))]))
      refine Run.step (fun t_ k_ => own_lrem X311 hx rfl (hb hby d4_75) rfl (by decide) k_) ?_
      show Run _ _ _ _ (T311.setTop (mkF m 76 #[.val (.ref a1), .val (.long ua), .second, .val (.long va), .second, .val (.int nv), .val (.ref r), .val (.int (32 : Int32)), .val (.int (Int32.ofNat 32)), .val (.long y), .second] [(.long (1 : Int64)), (.int (2 : Int32))]))
      refine Run.step (fun t_ k_ => XS.l2i X311.here hx rfl (hb hby d4_76) rfl k_) ?_
      show Run _ _ _ _ (T311.setTop (mkF m 77 #[.val (.ref a1), .val (.long ua), .second, .val (.long va), .second, .val (.int nv), .val (.ref r), .val (.int (32 : Int32)), .val (.int (Int32.ofNat 32)), .val (.long y), .second] [(.int (1 : Int32)), (.int (2 : Int32))]))
      refine Run.step (fun t_ k_ => XS.imul X311.here hx rfl (hb hby d4_77) rfl k_) ?_
      show Run _ _ _ _ (T311.setTop (mkF m 78 #[.val (.ref a1), .val (.long ua), .second, .val (.long va), .second, .val (.int nv), .val (.ref r), .val (.int (32 : Int32)), .val (.int (Int32.ofNat 32)), .val (.long y), .second] [(.int (2 : Int32))]))
      refine Run.step (fun t_ k_ => XS.istore X311.here hx rfl (hb hby d4_78) rfl (l' := #[.val (.ref a1), .val (.long ua), .second, .val (.long va), .second, .val (.int nv), .val (.int (2 : Int32)), .val (.int (32 : Int32)), .val (.int (Int32.ofNat 32)), .val (.long y), .second]) rfl k_) ?_
      show Run _ _ _ _ (T311.setTop (mkF m 80 #[.val (.ref a1), .val (.long ua), .second, .val (.long va), .second, .val (.int nv), .val (.int (2 : Int32)), .val (.int (32 : Int32)), .val (.int (Int32.ofNat 32)), .val (.long y), .second] []))
      refine Run.step (fun t_ k_ => XS.aloadN X311.here hx rfl (hb hby d4_80) rfl rfl k_) ?_
      show Run _ _ _ _ (T311.setTop (mkF m 81 #[.val (.ref a1), .val (.long ua), .second, .val (.long va), .second, .val (.int nv), .val (.int (2 : Int32)), .val (.int (32 : Int32)), .val (.int (Int32.ofNat 32)), .val (.long y), .second] [(.ref a1)]))
      obtain ⟨T312, X312, e312, st312⟩ := getF X311 hx hZ hown (host := "") (Or.inl w11) Via.refl e311 F1 (g := (mkF m 81 #[.val (.ref a1), .val (.long ua), .second, .val (.long va), .second, .val (.int nv), .val (.int (2 : Int32)), .val (.int (32 : Int32)), .val (.int (Int32.ofNat 32)), .val (.long y), .second] [(.ref a1)])) rfl rfl (hb hby d4_81)
      refine Run.step st312 ?_
      show Run _ _ _ _ (T312.setTop (mkF m 84 #[.val (.ref a1), .val (.long ua), .second, .val (.long va), .second, .val (.int nv), .val (.int (2 : Int32)), .val (.int (32 : Int32)), .val (.int (Int32.ofNat 32)), .val (.long y), .second] [(.ref r)]))
      refine Run.step (fun t_ k_ => XS.iload X312.here hx rfl (hb hby d4_84) rfl k_) ?_
      show Run _ _ _ _ (T312.setTop (mkF m 86 #[.val (.ref a1), .val (.long ua), .second, .val (.long va), .second, .val (.int nv), .val (.int (2 : Int32)), .val (.int (32 : Int32)), .val (.int (Int32.ofNat 32)), .val (.long y), .second] [(.int (2 : Int32)), (.ref r)]))
      refine Run.step (fun t_ k_ => XS.lloadN X312.here hx rfl (hb hby d4_86) rfl k_) ?_
      show Run _ _ _ _ (T312.setTop (mkF m 87 #[.val (.ref a1), .val (.long ua), .second, .val (.long va), .second, .val (.int nv), .val (.int (2 : Int32)), .val (.int (32 : Int32)), .val (.int (Int32.ofNat 32)), .val (.long y), .second] [(.long ua), (.int (2 : Int32)), (.ref r)]))
      obtain ⟨cl313, Ar313, q313, S313, M313, H313, U313⟩ := id V1
      have hin314 : ¬ ((2 : Int32) < 0 ∨ cl313.slots.size ≤ ((2 : Int32)).toNatClampNeg) := inb_of S313 ⟨by decide, by decide⟩
      obtain ⟨T314, h314, X314, e314, W314, st314⟩ := stJ X312 hx hZ e312 Ar313 (j := (2 : Int32)) hin314 (g := (mkF m 87 #[.val (.ref a1), .val (.long ua), .second, .val (.long va), .second, .val (.int nv), .val (.int (2 : Int32)), .val (.int (32 : Int32)), .val (.int (Int32.ofNat 32)), .val (.long y), .second] [(.long ua), (.int (2 : Int32)), (.ref r)])) rfl rfl (hb hby d4_87)
      refine Run.step st314 ?_
      have f315 : Arv Z h314 r kk .long (32 : Int32) (own_l (own_up f 2 ua)) (.long (0 : Int64)) := Arv.set Ar313 q313 S313 M313 H313 U313 rfl W314 2 rfl (Nat.le_of_ble_eq_true rfl)
      have f316 := F1.other W314 (Or.inl (Ne.symm ne))
      have f317 := F2.other W314 (Or.inl (Ne.symm ne))
      have f318 := F3.other W314 (Or.inl (Ne.symm ne))
      have f319 := E1.wr W314
      have z321 := Nat.le_trans Z0 (Keep.of_wr W314).1
      have K322 := (Keep.refl h0 [a1, r]).wr W314 (Or.inl (List.mem_of_getElem? (i := 1) rfl))
      have N323 := Fr.snoc X314 NJ310 g2
      show Run _ _ _ _ (T314.setTop (mkF m 88 #[.val (.ref a1), .val (.long ua), .second, .val (.long va), .second, .val (.int nv), .val (.int (2 : Int32)), .val (.int (32 : Int32)), .val (.int (Int32.ofNat 32)), .val (.long y), .second] []))
      refine Run.step (fun t_ k_ => XS.aloadN X314.here hx rfl (hb hby d4_88) rfl rfl k_) ?_
      show Run _ _ _ _ (T314.setTop (mkF m 89 #[.val (.ref a1), .val (.long ua), .second, .val (.long va), .second, .val (.int nv), .val (.int (2 : Int32)), .val (.int (32 : Int32)), .val (.int (Int32.ofNat 32)), .val (.long y), .second] [(.ref a1)]))
      obtain ⟨T324, X324, e324, st324⟩ := getF X314 hx hZ hown (host := "") (Or.inl w11) Via.refl e314 f316 (g := (mkF m 89 #[.val (.ref a1), .val (.long ua), .second, .val (.long va), .second, .val (.int nv), .val (.int (2 : Int32)), .val (.int (32 : Int32)), .val (.int (Int32.ofNat 32)), .val (.long y), .second] [(.ref a1)])) rfl rfl (hb hby d4_89)
      refine Run.step st324 ?_
      show Run _ _ _ _ (T324.setTop (mkF m 92 #[.val (.ref a1), .val (.long ua), .second, .val (.long va), .second, .val (.int nv), .val (.int (2 : Int32)), .val (.int (32 : Int32)), .val (.int (Int32.ofNat 32)), .val (.long y), .second] [(.ref r)]))
      refine Run.step (fun t_ k_ => XS.iload X324.here hx rfl (hb hby d4_92) rfl k_) ?_
      show Run _ _ _ _ (T324.setTop (mkF m 94 #[.val (.ref a1), .val (.long ua), .second, .val (.long va), .second, .val (.int nv), .val (.int (2 : Int32)), .val (.int (32 : Int32)), .val (.int (Int32.ofNat 32)), .val (.long y), .second] [(.int (2 : Int32)), (.ref r)]))
      refine Run.step (fun t_ k_ => XS.iconst X324.here hx rfl (hb hby d4_94) k_) ?_
      show Run _ _ _ _ (T324.setTop (mkF m 95 #[.val (.ref a1), .val (.long ua), .second, .val (.long va), .second, .val (.int nv), .val (.int (2 : Int32)), .val (.int (32 : Int32)), .val (.int (Int32.ofNat 32)), .val (.long y), .second] [(.int (1 : Int32)), (.int (2 : Int32)), (.ref r)]))
      refine Run.step (fun t_ k_ => XS.iadd X324.here hx rfl (hb hby d4_95) rfl k_) ?_
      show Run _ _ _ _ (T324.setTop (mkF m 96 #[.val (.ref a1), .val (.long ua), .second, .val (.long va), .second, .val (.int nv), .val (.int (2 : Int32)), .val (.int (32 : Int32)), .val (.int (Int32.ofNat 32)), .val (.long y), .second] [(.int (3 : Int32)), (.ref r)]))
      refine Run.step (fun t_ k_ => XS.lloadN X324.here hx rfl (hb hby d4_96) rfl k_) ?_
      show Run _ _ _ _ (T324.setTop (mkF m 97 #[.val (.ref a1), .val (.long ua), .second, .val (.long va), .second, .val (.int nv), .val (.int (2 : Int32)), .val (.int (32 : Int32)), .val (.int (Int32.ofNat 32)), .val (.long y), .second] [(.long va), (.int (3 : Int32)), (.ref r)]))
      obtain ⟨cl325, Ar325, q325, S325, M325, H325, U325⟩ := id f315
      have hin326 : ¬ ((3 : Int32) < 0 ∨ cl325.slots.size ≤ ((3 : Int32)).toNatClampNeg) := inb_of S325 ⟨by decide, by decide⟩
      obtain ⟨T326, h326, X326, e326, W326, st326⟩ := stJ X324 hx hZ e324 Ar325 (j := (3 : Int32)) hin326 (g := (mkF m 97 #[.val (.ref a1), .val (.long ua), .second, .val (.long va), .second, .val (.int nv), .val (.int (2 : Int32)), .val (.int (32 : Int32)), .val (.int (Int32.ofNat 32)), .val (.long y), .second] [(.long va), (.int (3 : Int32)), (.ref r)])) rfl rfl (hb hby d4_97)
      refine Run.step st326 ?_
      have f327 : Arv Z h326 r kk .long (32 : Int32) (own_l (own_up (own_up f 2 ua) 3 va)) (.long (0 : Int64)) := Arv.set Ar325 q325 S325 M325 H325 U325 rfl W326 3 rfl (Nat.le_of_ble_eq_true rfl)
      have f328 := f316.other W326 (Or.inl (Ne.symm ne))
      have f329 := f317.other W326 (Or.inl (Ne.symm ne))
      have f330 := f318.other W326 (Or.inl (Ne.symm ne))
      have f331 := f319.wr W326
      have z333 := Nat.le_trans z321 (Keep.of_wr W326).1
      have K334 := K322.wr W326 (Or.inl (List.mem_of_getElem? (i := 1) rfl))
      have N335 := Fr.snoc X326 N323 g2
      show Run _ _ _ _ (T326.setTop (mkF m 98 #[.val (.ref a1), .val (.long ua), .second, .val (.long va), .second, .val (.int nv), .val (.int (2 : Int32)), .val (.int (32 : Int32)), .val (.int (Int32.ofNat 32)), .val (.long y), .second] []))
      refine Run.step (fun t_ k_ => XS.aloadN X326.here hx rfl (hb hby d4_98) rfl rfl k_) ?_
      show Run _ _ _ _ (T326.setTop (mkF m 99 #[.val (.ref a1), .val (.long ua), .second, .val (.long va), .second, .val (.int nv), .val (.int (2 : Int32)), .val (.int (32 : Int32)), .val (.int (Int32.ofNat 32)), .val (.long y), .second] [(.ref a1)]))
      refine Run.step (fun t_ k_ => XS.dup X326.here hx rfl (hb hby d4_99) rfl rfl k_) ?_
      show Run _ _ _ _ (T326.setTop (mkF m 100 #[.val (.ref a1), .val (.long ua), .second, .val (.long va), .second, .val (.int nv), .val (.int (2 : Int32)), .val (.int (32 : Int32)), .val (.int (Int32.ofNat 32)), .val (.long y), .second] [(.ref a1), (.ref a1)]))
      obtain ⟨T336, X336, e336, st336⟩ := getF X326 hx hZ hown (host := "") (Or.inl w23) Via.refl e326 f329 (g := (mkF m 100 #[.val (.ref a1), .val (.long ua), .second, .val (.long va), .second, .val (.int nv), .val (.int (2 : Int32)), .val (.int (32 : Int32)), .val (.int (Int32.ofNat 32)), .val (.long y), .second] [(.ref a1), (.ref a1)])) rfl rfl (hb hby d4_100)
      refine Run.step st336 ?_
      show Run _ _ _ _ (T336.setTop (mkF m 103 #[.val (.ref a1), .val (.long ua), .second, .val (.long va), .second, .val (.int nv), .val (.int (2 : Int32)), .val (.int (32 : Int32)), .val (.int (Int32.ofNat 32)), .val (.long y), .second] [(.long (1 : Int64)), (.ref a1)]))
      refine Run.step (fun t_ k_ => XS.lconst X336.here hx rfl (hb hby d4_103) k_) ?_
      show Run _ _ _ _ (T336.setTop (mkF m 104 #[.val (.ref a1), .val (.long ua), .second, .val (.long va), .second, .val (.int nv), .val (.int (2 : Int32)), .val (.int (32 : Int32)), .val (.int (Int32.ofNat 32)), .val (.long y), .second] [(.long (1 : Int64)), (.long (1 : Int64)), (.ref a1)]))
      refine Run.step (fun t_ k_ => XS.ladd X336.here hx rfl (hb hby d4_104) rfl k_) ?_
      show Run _ _ _ _ (T336.setTop (mkF m 105 #[.val (.ref a1), .val (.long ua), .second, .val (.long va), .second, .val (.int nv), .val (.int (2 : Int32)), .val (.int (32 : Int32)), .val (.int (Int32.ofNat 32)), .val (.long y), .second] [(.long (2 : Int64)), (.ref a1)]))
      obtain ⟨T337, h337, X337, e337, W337, st337⟩ := putF X336 hx hZ hown (host := "") (Or.inl w23) Via.refl e336 f329 f331 (Or.inl w24) w2 (ty := .long) (by decide) rfl rfl (g := (mkF m 105 #[.val (.ref a1), .val (.long ua), .second, .val (.long va), .second, .val (.int nv), .val (.int (2 : Int32)), .val (.int (32 : Int32)), .val (.int (Int32.ofNat 32)), .val (.long y), .second] [(.long (2 : Int64)), (.ref a1)])) rfl rfl (hb hby d4_105)
      refine Run.step st337 ?_
      have f338 := f328.other W337 (Or.inr (slot_ne (Or.inr w12) (Or.inl w24) (by decide) (t := (.array .long)) (t' := .long) (by decide) (by decide)))
      have f339 := f329.same W337
      have f340 := f330.other W337 (Or.inr (slot_ne (Or.inl w27) (Or.inl w24) (by decide) (t := .long) (t' := .long) (by decide) (by decide)))
      have f341 := f331.wr W337
      have f342 := f327.other W337 ne
      have z343 := Nat.le_trans z333 (Keep.of_wr W337).1
      have K344 := K334.wr W337 (Or.inl (List.mem_of_getElem? (i := 0) rfl))
      have N345 := Fr.snoc X337 N335 g1
      show Run _ _ _ _ (T337.setTop (mkF m 108 #[.val (.ref a1), .val (.long ua), .second, .val (.long va), .second, .val (.int nv), .val (.int (2 : Int32)), .val (.int (32 : Int32)), .val (.int (Int32.ofNat 32)), .val (.long y), .second] []))
      refine Run.step (fun t_ k_ => XS.iload X337.here hx rfl (hb hby d4_108) rfl k_) ?_
      show Run _ _ _ _ (T337.setTop (mkF m 110 #[.val (.ref a1), .val (.long ua), .second, .val (.long va), .second, .val (.int nv), .val (.int (2 : Int32)), .val (.int (32 : Int32)), .val (.int (Int32.ofNat 32)), .val (.long y), .second] [(.int nv)]))
      by_cases c110 : nv = (0 : Int32)
      · skip
        refine Run.step (fun t_ k_ => XS.ifYes X337.here hx rfl (pc0 := 110) (pc' := 123) rfl (hb hby d4_110) rfl (XT.i0_eq_t c110) (by decide) (by decide) k_) ?_
        show Run _ _ _ _ (T337.setTop (mkF m 123 #[.val (.ref a1), .val (.long ua), .second, .val (.long va), .second, .val (.int nv), .val (.int (2 : Int32)), .val (.int (32 : Int32)), .val (.int (Int32.ofNat 32)), .val (.long y), .second] []))
        exact finV X337 hx (BodyLoose.notSynchronized Bd) Bd.returns (hb hby d4_123) (by decide) (by decide) e337 ⟨rfl, N345, K344, f338, f339, (by rw [hnr, ← hn, if_pos c110]; exact f340), f342⟩
      · skip
        refine Run.step (fun t_ k_ => XS.ifNo X337.here hx rfl (hb hby d4_110) rfl (XT.i0_eq_f c110) k_) ?_
        show Run _ _ _ _ (T337.setTop (mkF m 113 #[.val (.ref a1), .val (.long ua), .second, .val (.long va), .second, .val (.int nv), .val (.int (2 : Int32)), .val (.int (32 : Int32)), .val (.int (Int32.ofNat 32)), .val (.long y), .second] []))
        refine Run.step (fun t_ k_ => XS.aloadN X337.here hx rfl (hb hby d4_113) rfl rfl k_) ?_
        show Run _ _ _ _ (T337.setTop (mkF m 114 #[.val (.ref a1), .val (.long ua), .second, .val (.long va), .second, .val (.int nv), .val (.int (2 : Int32)), .val (.int (32 : Int32)), .val (.int (Int32.ofNat 32)), .val (.long y), .second] [(.ref a1)]))
        refine Run.step (fun t_ k_ => XS.dup X337.here hx rfl (hb hby d4_114) rfl rfl k_) ?_
        show Run _ _ _ _ (T337.setTop (mkF m 115 #[.val (.ref a1), .val (.long ua), .second, .val (.long va), .second, .val (.int nv), .val (.int (2 : Int32)), .val (.int (32 : Int32)), .val (.int (Int32.ofNat 32)), .val (.long y), .second] [(.ref a1), (.ref a1)]))
        obtain ⟨T346, X346, e346, st346⟩ := getF X337 hx hZ hown (host := "") (Or.inl w26) Via.refl e337 f340 (g := (mkF m 115 #[.val (.ref a1), .val (.long ua), .second, .val (.long va), .second, .val (.int nv), .val (.int (2 : Int32)), .val (.int (32 : Int32)), .val (.int (Int32.ofNat 32)), .val (.long y), .second] [(.ref a1), (.ref a1)])) rfl rfl (hb hby d4_115)
        refine Run.step st346 ?_
        show Run _ _ _ _ (T346.setTop (mkF m 118 #[.val (.ref a1), .val (.long ua), .second, .val (.long va), .second, .val (.int nv), .val (.int (2 : Int32)), .val (.int (32 : Int32)), .val (.int (Int32.ofNat 32)), .val (.long y), .second] [(.long nr), (.ref a1)]))
        refine Run.step (fun t_ k_ => XS.lconst X346.here hx rfl (hb hby d4_118) k_) ?_
        show Run _ _ _ _ (T346.setTop (mkF m 119 #[.val (.ref a1), .val (.long ua), .second, .val (.long va), .second, .val (.int nv), .val (.int (2 : Int32)), .val (.int (32 : Int32)), .val (.int (Int32.ofNat 32)), .val (.long y), .second] [(.long (1 : Int64)), (.long nr), (.ref a1)]))
        refine Run.step (fun t_ k_ => XS.ladd X346.here hx rfl (hb hby d4_119) rfl k_) ?_
        show Run _ _ _ _ (T346.setTop (mkF m 120 #[.val (.ref a1), .val (.long ua), .second, .val (.long va), .second, .val (.int nv), .val (.int (2 : Int32)), .val (.int (32 : Int32)), .val (.int (Int32.ofNat 32)), .val (.long y), .second] [(.long (nr + (1 : Int64))), (.ref a1)]))
        obtain ⟨T347, h347, X347, e347, W347, st347⟩ := putF X346 hx hZ hown (host := "") (Or.inl w26) Via.refl e346 f340 f341 (Or.inl w27) w2 (ty := .long) (by decide) rfl rfl (g := (mkF m 120 #[.val (.ref a1), .val (.long ua), .second, .val (.long va), .second, .val (.int nv), .val (.int (2 : Int32)), .val (.int (32 : Int32)), .val (.int (Int32.ofNat 32)), .val (.long y), .second] [(.long (nr + (1 : Int64))), (.ref a1)])) rfl rfl (hb hby d4_120)
        refine Run.step st347 ?_
        have f348 := f338.other W347 (Or.inr (slot_ne (Or.inr w12) (Or.inl w27) (by decide) (t := (.array .long)) (t' := .long) (by decide) (by decide)))
        have f349 := f339.other W347 (Or.inr (slot_ne (Or.inl w24) (Or.inl w27) (by decide) (t := .long) (t' := .long) (by decide) (by decide)))
        have f350 := f340.same W347
        have f351 := f341.wr W347
        have f352 := f342.other W347 ne
        have z353 := Nat.le_trans z343 (Keep.of_wr W347).1
        have K354 := K344.wr W347 (Or.inl (List.mem_of_getElem? (i := 0) rfl))
        have N355 := Fr.snoc X347 N345 g1
        show Run _ _ _ _ (T347.setTop (mkF m 123 #[.val (.ref a1), .val (.long ua), .second, .val (.long va), .second, .val (.int nv), .val (.int (2 : Int32)), .val (.int (32 : Int32)), .val (.int (Int32.ofNat 32)), .val (.long y), .second] []))
        exact finV X347 hx (BodyLoose.notSynchronized Bd) Bd.returns (hb hby d4_123) (by decide) (by decide) e347 ⟨rfl, N355, K354, f348, f349, (by rw [hnr, ← hn, if_neg c110]; exact f350), f352⟩
    | succ k ih =>
      intro i hi TJ310 LJ310 XJ310 eJ310 NJ310 nv y hn
      have hlt : i < 32 := by omega
      refine Run.step (fun t_ k_ => XS.iload XJ310.here hx rfl (hb hby d4_17) rfl k_) ?_
      show Run _ _ _ _ (TJ310.setTop (mkF m 19 #[.val (.ref a1), .val (.long ua), .second, .val (.long va), .second, .val (.int nv), .val (.ref r), .val (.int (32 : Int32)), .val (.int (Int32.ofNat i)), .val (.long y), .second] [(.int (Int32.ofNat i))]))
      refine Run.step (fun t_ k_ => XS.iload XJ310.here hx rfl (hb hby d4_19) rfl k_) ?_
      show Run _ _ _ _ (TJ310.setTop (mkF m 21 #[.val (.ref a1), .val (.long ua), .second, .val (.long va), .second, .val (.int nv), .val (.ref r), .val (.int (32 : Int32)), .val (.int (Int32.ofNat i)), .val (.long y), .second] [(.int (32 : Int32)), (.int (Int32.ofNat i))]))
      refine Run.step (fun t_ k_ => XS.icmpNo XJ310.here hx rfl (hb hby d4_21) rfl (XT.ii_ge_f ((own_nat hlt).2.2.1 : (Int32.ofNat i) < (32 : Int32))) k_) ?_
      show Run _ _ _ _ (TJ310.setTop (mkF m 24 #[.val (.ref a1), .val (.long ua), .second, .val (.long va), .second, .val (.int nv), .val (.ref r), .val (.int (32 : Int32)), .val (.int (Int32.ofNat i)), .val (.long y), .second] []))
      refine Run.step (fun t_ k_ => XS.aload XJ310.here hx rfl (hb hby d4_24) rfl rfl k_) ?_
      show Run _ _ _ _ (TJ310.setTop (mkF m 26 #[.val (.ref a1), .val (.long ua), .second, .val (.long va), .second, .val (.int nv), .val (.ref r), .val (.int (32 : Int32)), .val (.int (Int32.ofNat i)), .val (.long y), .second] [(.ref r)]))
      refine Run.step (fun t_ k_ => XS.iload XJ310.here hx rfl (hb hby d4_26) rfl k_) ?_
      show Run _ _ _ _ (TJ310.setTop (mkF m 28 #[.val (.ref a1), .val (.long ua), .second, .val (.long va), .second, .val (.int nv), .val (.ref r), .val (.int (32 : Int32)), .val (.int (Int32.ofNat i)), .val (.long y), .second] [(.int (Int32.ofNat i)), (.ref r)]))
      obtain ⟨cl356, Ar356, q356, S356, M356, H356, U356⟩ := id V1
      have hin357 : ¬ ((Int32.ofNat i) < 0 ∨ cl356.slots.size ≤ ((Int32.ofNat i)).toNatClampNeg) := inb_of S356 ⟨(own_nat hlt).2.1, (own_nat hlt).2.2.1⟩
      have hat357 : cl356.slots[((Int32.ofNat i)).toNatClampNeg]? = some (.long (f i)) := H356.at hin357 (by rw [(own_nat hlt).1]; exact own_get f hlt _)
      refine Run.step (fun t_ k_ => XJ310.laload hx (j := (Int32.ofNat i)) (v := (.long (f i))) (by rw [eJ310]; exact Ar356.1) (State.isArrayOf_alike hZ.alike Ar356.2.1) Ar356.2.2 hin357 hat357 (g := (mkF m 28 #[.val (.ref a1), .val (.long ua), .second, .val (.long va), .second, .val (.int nv), .val (.ref r), .val (.int (32 : Int32)), .val (.int (Int32.ofNat i)), .val (.long y), .second] [(.int (Int32.ofNat i)), (.ref r)])) rfl rfl (hb hby d4_28) _ k_) ?_
      show Run _ _ _ _ (TJ310.setTop (mkF m 29 #[.val (.ref a1), .val (.long ua), .second, .val (.long va), .second, .val (.int nv), .val (.ref r), .val (.int (32 : Int32)), .val (.int (Int32.ofNat i)), .val (.long y), .second] [(.long (f i))]))
      refine Run.step (fun t_ k_ => XS.lstore XJ310.here hx rfl (hb hby d4_29) rfl (l' := #[.val (.ref a1), .val (.long ua), .second, .val (.long va), .second, .val (.int nv), .val (.ref r), .val (.int (32 : Int32)), .val (.int (Int32.ofNat i)), .val (.long (f i)), .second]) rfl k_) ?_
      show Run _ _ _ _ (TJ310.setTop (mkF m 31 #[.val (.ref a1), .val (.long ua), .second, .val (.long va), .second, .val (.int nv), .val (.ref r), .val (.int (32 : Int32)), .val (.int (Int32.ofNat i)), .val (.long (f i)), .second] []))
      refine Run.step (fun t_ k_ => XS.iload XJ310.here hx rfl (hb hby d4_31) rfl k_) ?_
      show Run _ _ _ _ (TJ310.setTop (mkF m 33 #[.val (.ref a1), .val (.long ua), .second, .val (.long va), .second, .val (.int nv), .val (.ref r), .val (.int (32 : Int32)), .val (.int (Int32.ofNat i)), .val (.long (f i)), .second] [(.int nv)]))
      refine Run.step (fun t_ k_ => XS.lload XJ310.here hx rfl (hb hby d4_33) rfl k_) ?_
      show Run _ _ _ _ (TJ310.setTop (mkF m 35 #[.val (.ref a1), .val (.long ua), .second, .val (.long va), .second, .val (.int nv), .val (.ref r), .val (.int (32 : Int32)), .val (.int (Int32.ofNat i)), .val (.long (f i)), .second] [(.long (f i)), (.int nv)]))
      refine Run.step (fun t_ k_ => XS.lloadN XJ310.here hx rfl (hb hby d4_35) rfl k_) ?_
      show Run _ _ _ _ (TJ310.setTop (mkF m 36 #[.val (.ref a1), .val (.long ua), .second, .val (.long va), .second, .val (.int nv), .val (.ref r), .val (.int (32 : Int32)), .val (.int (Int32.ofNat i)), .val (.long (f i)), .second] [(.long ua), (.long (f i)), (.int nv)]))
      refine Run.step (fun t_ k_ => XS.lcmp XJ310.here hx rfl (hb hby d4_36) rfl k_) ?_
      show Run _ _ _ _ (TJ310.setTop (mkF m 37 #[.val (.ref a1), .val (.long ua), .second, .val (.long va), .second, .val (.int nv), .val (.ref r), .val (.int (32 : Int32)), .val (.int (Int32.ofNat i)), .val (.long (f i)), .second] [(.int (lcmpW (f i) ua)), (.int nv)]))
      by_cases c37 : (f i) = ua
      · skip
        refine Run.step (fun t_ k_ => XS.ifNo XJ310.here hx rfl (hb hby d4_37) rfl (XT.ll_ne_f c37) k_) ?_
        show Run _ _ _ _ (TJ310.setTop (mkF m 40 #[.val (.ref a1), .val (.long ua), .second, .val (.long va), .second, .val (.int nv), .val (.ref r), .val (.int (32 : Int32)), .val (.int (Int32.ofNat i)), .val (.long (f i)), .second] [(.int nv)]))
        refine Run.step (fun t_ k_ => XS.iconst XJ310.here hx rfl (hb hby d4_40) k_) ?_
        show Run _ _ _ _ (TJ310.setTop (mkF m 41 #[.val (.ref a1), .val (.long ua), .second, .val (.long va), .second, .val (.int nv), .val (.ref r), .val (.int (32 : Int32)), .val (.int (Int32.ofNat i)), .val (.long (f i)), .second] [(.int (1 : Int32)), (.int nv)]))
        refine Run.step (fun t_ k_ => XS.goto XJ310.here hx rfl (pc0 := 41) (pc' := 45) rfl (hb hby d4_41) (by decide) (by decide) k_) ?_
        show Run _ _ _ _ (TJ310.setTop (mkF m 45 #[.val (.ref a1), .val (.long ua), .second, .val (.long va), .second, .val (.int nv), .val (.ref r), .val (.int (32 : Int32)), .val (.int (Int32.ofNat i)), .val (.long (f i)), .second] [(.int (1 : Int32)), (.int nv)]))
        refine Run.step (fun t_ k_ => XS.lload XJ310.here hx rfl (hb hby d4_45) rfl k_) ?_
        show Run _ _ _ _ (TJ310.setTop (mkF m 47 #[.val (.ref a1), .val (.long ua), .second, .val (.long va), .second, .val (.int nv), .val (.ref r), .val (.int (32 : Int32)), .val (.int (Int32.ofNat i)), .val (.long (f i)), .second] [(.long (f i)), (.int (1 : Int32)), (.int nv)]))
        refine Run.step (fun t_ k_ => XS.lloadN XJ310.here hx rfl (hb hby d4_47) rfl k_) ?_
        show Run _ _ _ _ (TJ310.setTop (mkF m 48 #[.val (.ref a1), .val (.long ua), .second, .val (.long va), .second, .val (.int nv), .val (.ref r), .val (.int (32 : Int32)), .val (.int (Int32.ofNat i)), .val (.long (f i)), .second] [(.long va), (.long (f i)), (.int (1 : Int32)), (.int nv)]))
        refine Run.step (fun t_ k_ => XS.lcmp XJ310.here hx rfl (hb hby d4_48) rfl k_) ?_
        show Run _ _ _ _ (TJ310.setTop (mkF m 49 #[.val (.ref a1), .val (.long ua), .second, .val (.long va), .second, .val (.int nv), .val (.ref r), .val (.int (32 : Int32)), .val (.int (Int32.ofNat i)), .val (.long (f i)), .second] [(.int (lcmpW (f i) va)), (.int (1 : Int32)), (.int nv)]))
        by_cases c49 : (f i) = va
        · skip
          refine Run.step (fun t_ k_ => XS.ifNo XJ310.here hx rfl (hb hby d4_49) rfl (XT.ll_ne_f c49) k_) ?_
          show Run _ _ _ _ (TJ310.setTop (mkF m 52 #[.val (.ref a1), .val (.long ua), .second, .val (.long va), .second, .val (.int nv), .val (.ref r), .val (.int (32 : Int32)), .val (.int (Int32.ofNat i)), .val (.long (f i)), .second] [(.int (1 : Int32)), (.int nv)]))
          refine Run.step (fun t_ k_ => XS.iconst XJ310.here hx rfl (hb hby d4_52) k_) ?_
          show Run _ _ _ _ (TJ310.setTop (mkF m 53 #[.val (.ref a1), .val (.long ua), .second, .val (.long va), .second, .val (.int nv), .val (.ref r), .val (.int (32 : Int32)), .val (.int (Int32.ofNat i)), .val (.long (f i)), .second] [(.int (1 : Int32)), (.int (1 : Int32)), (.int nv)]))
          refine Run.step (fun t_ k_ => XS.goto XJ310.here hx rfl (pc0 := 53) (pc' := 57) rfl (hb hby d4_53) (by decide) (by decide) k_) ?_
          show Run _ _ _ _ (TJ310.setTop (mkF m 57 #[.val (.ref a1), .val (.long ua), .second, .val (.long va), .second, .val (.int nv), .val (.ref r), .val (.int (32 : Int32)), .val (.int (Int32.ofNat i)), .val (.long (f i)), .second] [(.int (1 : Int32)), (.int (1 : Int32)), (.int nv)]))
          refine Run.step (fun t_ k_ => XS.ior XJ310.here hx rfl (hb hby d4_57) rfl k_) ?_
          show Run _ _ _ _ (TJ310.setTop (mkF m 58 #[.val (.ref a1), .val (.long ua), .second, .val (.long va), .second, .val (.int nv), .val (.ref r), .val (.int (32 : Int32)), .val (.int (Int32.ofNat i)), .val (.long (f i)), .second] [(.int ((1 : Int32) ||| (1 : Int32))), (.int nv)]))
          refine Run.step (fun t_ k_ => XS.ior XJ310.here hx rfl (hb hby d4_58) rfl k_) ?_
          show Run _ _ _ _ (TJ310.setTop (mkF m 59 #[.val (.ref a1), .val (.long ua), .second, .val (.long va), .second, .val (.int nv), .val (.ref r), .val (.int (32 : Int32)), .val (.int (Int32.ofNat i)), .val (.long (f i)), .second] [(.int (nv ||| ((1 : Int32) ||| (1 : Int32))))]))
          refine Run.step (fun t_ k_ => XS.istore XJ310.here hx rfl (hb hby d4_59) rfl (l' := #[.val (.ref a1), .val (.long ua), .second, .val (.long va), .second, .val (.int (nv ||| ((1 : Int32) ||| (1 : Int32)))), .val (.ref r), .val (.int (32 : Int32)), .val (.int (Int32.ofNat i)), .val (.long (f i)), .second]) rfl k_) ?_
          show Run _ _ _ _ (TJ310.setTop (mkF m 61 #[.val (.ref a1), .val (.long ua), .second, .val (.long va), .second, .val (.int (nv ||| ((1 : Int32) ||| (1 : Int32)))), .val (.ref r), .val (.int (32 : Int32)), .val (.int (Int32.ofNat i)), .val (.long (f i)), .second] []))
          refine Run.step (fun t_ k_ => XS.iinc XJ310.here hx rfl (hb hby d4_61) rfl (l' := #[.val (.ref a1), .val (.long ua), .second, .val (.long va), .second, .val (.int (nv ||| ((1 : Int32) ||| (1 : Int32)))), .val (.ref r), .val (.int (32 : Int32)), .val (.int ((Int32.ofNat i) + (1 : Int32))), .val (.long (f i)), .second]) rfl k_) ?_
          show Run _ _ _ _ (TJ310.setTop (mkF m 64 #[.val (.ref a1), .val (.long ua), .second, .val (.long va), .second, .val (.int (nv ||| ((1 : Int32) ||| (1 : Int32)))), .val (.ref r), .val (.int (32 : Int32)), .val (.int ((Int32.ofNat i) + (1 : Int32))), .val (.long (f i)), .second] []))
          refine Run.step (fun t_ k_ => XS.goto XJ310.here hx rfl (pc0 := 64) (pc' := 17) rfl (hb hby d4_64) (by decide) (by decide) k_) ?_
          show Run _ _ _ _ (TJ310.setTop (mkF m 17 #[.val (.ref a1), .val (.long ua), .second, .val (.long va), .second, .val (.int (nv ||| ((1 : Int32) ||| (1 : Int32)))), .val (.ref r), .val (.int (32 : Int32)), .val (.int ((Int32.ofNat i) + (1 : Int32))), .val (.long (f i)), .second] []))
          rw [(own_nat hlt).2.2.2]
          exact ih (i + 1) (by omega) _ _ XJ310 eJ310 NJ310 _ _ (by rw [hn]; show _ = own_near f ua va i ||| ((if f i = ua then 1 else 0) ||| (if f i = va then 1 else 0)); rw [if_pos c37, if_pos c49])
        · skip
          refine Run.step (fun t_ k_ => XS.ifYes XJ310.here hx rfl (pc0 := 49) (pc' := 56) rfl (hb hby d4_49) rfl (XT.ll_ne_t c49) (by decide) (by decide) k_) ?_
          show Run _ _ _ _ (TJ310.setTop (mkF m 56 #[.val (.ref a1), .val (.long ua), .second, .val (.long va), .second, .val (.int nv), .val (.ref r), .val (.int (32 : Int32)), .val (.int (Int32.ofNat i)), .val (.long (f i)), .second] [(.int (1 : Int32)), (.int nv)]))
          refine Run.step (fun t_ k_ => XS.iconst XJ310.here hx rfl (hb hby d4_56) k_) ?_
          show Run _ _ _ _ (TJ310.setTop (mkF m 57 #[.val (.ref a1), .val (.long ua), .second, .val (.long va), .second, .val (.int nv), .val (.ref r), .val (.int (32 : Int32)), .val (.int (Int32.ofNat i)), .val (.long (f i)), .second] [(.int (0 : Int32)), (.int (1 : Int32)), (.int nv)]))
          refine Run.step (fun t_ k_ => XS.ior XJ310.here hx rfl (hb hby d4_57) rfl k_) ?_
          show Run _ _ _ _ (TJ310.setTop (mkF m 58 #[.val (.ref a1), .val (.long ua), .second, .val (.long va), .second, .val (.int nv), .val (.ref r), .val (.int (32 : Int32)), .val (.int (Int32.ofNat i)), .val (.long (f i)), .second] [(.int ((1 : Int32) ||| (0 : Int32))), (.int nv)]))
          refine Run.step (fun t_ k_ => XS.ior XJ310.here hx rfl (hb hby d4_58) rfl k_) ?_
          show Run _ _ _ _ (TJ310.setTop (mkF m 59 #[.val (.ref a1), .val (.long ua), .second, .val (.long va), .second, .val (.int nv), .val (.ref r), .val (.int (32 : Int32)), .val (.int (Int32.ofNat i)), .val (.long (f i)), .second] [(.int (nv ||| ((1 : Int32) ||| (0 : Int32))))]))
          refine Run.step (fun t_ k_ => XS.istore XJ310.here hx rfl (hb hby d4_59) rfl (l' := #[.val (.ref a1), .val (.long ua), .second, .val (.long va), .second, .val (.int (nv ||| ((1 : Int32) ||| (0 : Int32)))), .val (.ref r), .val (.int (32 : Int32)), .val (.int (Int32.ofNat i)), .val (.long (f i)), .second]) rfl k_) ?_
          show Run _ _ _ _ (TJ310.setTop (mkF m 61 #[.val (.ref a1), .val (.long ua), .second, .val (.long va), .second, .val (.int (nv ||| ((1 : Int32) ||| (0 : Int32)))), .val (.ref r), .val (.int (32 : Int32)), .val (.int (Int32.ofNat i)), .val (.long (f i)), .second] []))
          refine Run.step (fun t_ k_ => XS.iinc XJ310.here hx rfl (hb hby d4_61) rfl (l' := #[.val (.ref a1), .val (.long ua), .second, .val (.long va), .second, .val (.int (nv ||| ((1 : Int32) ||| (0 : Int32)))), .val (.ref r), .val (.int (32 : Int32)), .val (.int ((Int32.ofNat i) + (1 : Int32))), .val (.long (f i)), .second]) rfl k_) ?_
          show Run _ _ _ _ (TJ310.setTop (mkF m 64 #[.val (.ref a1), .val (.long ua), .second, .val (.long va), .second, .val (.int (nv ||| ((1 : Int32) ||| (0 : Int32)))), .val (.ref r), .val (.int (32 : Int32)), .val (.int ((Int32.ofNat i) + (1 : Int32))), .val (.long (f i)), .second] []))
          refine Run.step (fun t_ k_ => XS.goto XJ310.here hx rfl (pc0 := 64) (pc' := 17) rfl (hb hby d4_64) (by decide) (by decide) k_) ?_
          show Run _ _ _ _ (TJ310.setTop (mkF m 17 #[.val (.ref a1), .val (.long ua), .second, .val (.long va), .second, .val (.int (nv ||| ((1 : Int32) ||| (0 : Int32)))), .val (.ref r), .val (.int (32 : Int32)), .val (.int ((Int32.ofNat i) + (1 : Int32))), .val (.long (f i)), .second] []))
          rw [(own_nat hlt).2.2.2]
          exact ih (i + 1) (by omega) _ _ XJ310 eJ310 NJ310 _ _ (by rw [hn]; show _ = own_near f ua va i ||| ((if f i = ua then 1 else 0) ||| (if f i = va then 1 else 0)); rw [if_pos c37, if_neg c49])
      · skip
        refine Run.step (fun t_ k_ => XS.ifYes XJ310.here hx rfl (pc0 := 37) (pc' := 44) rfl (hb hby d4_37) rfl (XT.ll_ne_t c37) (by decide) (by decide) k_) ?_
        show Run _ _ _ _ (TJ310.setTop (mkF m 44 #[.val (.ref a1), .val (.long ua), .second, .val (.long va), .second, .val (.int nv), .val (.ref r), .val (.int (32 : Int32)), .val (.int (Int32.ofNat i)), .val (.long (f i)), .second] [(.int nv)]))
        refine Run.step (fun t_ k_ => XS.iconst XJ310.here hx rfl (hb hby d4_44) k_) ?_
        show Run _ _ _ _ (TJ310.setTop (mkF m 45 #[.val (.ref a1), .val (.long ua), .second, .val (.long va), .second, .val (.int nv), .val (.ref r), .val (.int (32 : Int32)), .val (.int (Int32.ofNat i)), .val (.long (f i)), .second] [(.int (0 : Int32)), (.int nv)]))
        refine Run.step (fun t_ k_ => XS.lload XJ310.here hx rfl (hb hby d4_45) rfl k_) ?_
        show Run _ _ _ _ (TJ310.setTop (mkF m 47 #[.val (.ref a1), .val (.long ua), .second, .val (.long va), .second, .val (.int nv), .val (.ref r), .val (.int (32 : Int32)), .val (.int (Int32.ofNat i)), .val (.long (f i)), .second] [(.long (f i)), (.int (0 : Int32)), (.int nv)]))
        refine Run.step (fun t_ k_ => XS.lloadN XJ310.here hx rfl (hb hby d4_47) rfl k_) ?_
        show Run _ _ _ _ (TJ310.setTop (mkF m 48 #[.val (.ref a1), .val (.long ua), .second, .val (.long va), .second, .val (.int nv), .val (.ref r), .val (.int (32 : Int32)), .val (.int (Int32.ofNat i)), .val (.long (f i)), .second] [(.long va), (.long (f i)), (.int (0 : Int32)), (.int nv)]))
        refine Run.step (fun t_ k_ => XS.lcmp XJ310.here hx rfl (hb hby d4_48) rfl k_) ?_
        show Run _ _ _ _ (TJ310.setTop (mkF m 49 #[.val (.ref a1), .val (.long ua), .second, .val (.long va), .second, .val (.int nv), .val (.ref r), .val (.int (32 : Int32)), .val (.int (Int32.ofNat i)), .val (.long (f i)), .second] [(.int (lcmpW (f i) va)), (.int (0 : Int32)), (.int nv)]))
        by_cases c49 : (f i) = va
        · skip
          refine Run.step (fun t_ k_ => XS.ifNo XJ310.here hx rfl (hb hby d4_49) rfl (XT.ll_ne_f c49) k_) ?_
          show Run _ _ _ _ (TJ310.setTop (mkF m 52 #[.val (.ref a1), .val (.long ua), .second, .val (.long va), .second, .val (.int nv), .val (.ref r), .val (.int (32 : Int32)), .val (.int (Int32.ofNat i)), .val (.long (f i)), .second] [(.int (0 : Int32)), (.int nv)]))
          refine Run.step (fun t_ k_ => XS.iconst XJ310.here hx rfl (hb hby d4_52) k_) ?_
          show Run _ _ _ _ (TJ310.setTop (mkF m 53 #[.val (.ref a1), .val (.long ua), .second, .val (.long va), .second, .val (.int nv), .val (.ref r), .val (.int (32 : Int32)), .val (.int (Int32.ofNat i)), .val (.long (f i)), .second] [(.int (1 : Int32)), (.int (0 : Int32)), (.int nv)]))
          refine Run.step (fun t_ k_ => XS.goto XJ310.here hx rfl (pc0 := 53) (pc' := 57) rfl (hb hby d4_53) (by decide) (by decide) k_) ?_
          show Run _ _ _ _ (TJ310.setTop (mkF m 57 #[.val (.ref a1), .val (.long ua), .second, .val (.long va), .second, .val (.int nv), .val (.ref r), .val (.int (32 : Int32)), .val (.int (Int32.ofNat i)), .val (.long (f i)), .second] [(.int (1 : Int32)), (.int (0 : Int32)), (.int nv)]))
          refine Run.step (fun t_ k_ => XS.ior XJ310.here hx rfl (hb hby d4_57) rfl k_) ?_
          show Run _ _ _ _ (TJ310.setTop (mkF m 58 #[.val (.ref a1), .val (.long ua), .second, .val (.long va), .second, .val (.int nv), .val (.ref r), .val (.int (32 : Int32)), .val (.int (Int32.ofNat i)), .val (.long (f i)), .second] [(.int ((0 : Int32) ||| (1 : Int32))), (.int nv)]))
          refine Run.step (fun t_ k_ => XS.ior XJ310.here hx rfl (hb hby d4_58) rfl k_) ?_
          show Run _ _ _ _ (TJ310.setTop (mkF m 59 #[.val (.ref a1), .val (.long ua), .second, .val (.long va), .second, .val (.int nv), .val (.ref r), .val (.int (32 : Int32)), .val (.int (Int32.ofNat i)), .val (.long (f i)), .second] [(.int (nv ||| ((0 : Int32) ||| (1 : Int32))))]))
          refine Run.step (fun t_ k_ => XS.istore XJ310.here hx rfl (hb hby d4_59) rfl (l' := #[.val (.ref a1), .val (.long ua), .second, .val (.long va), .second, .val (.int (nv ||| ((0 : Int32) ||| (1 : Int32)))), .val (.ref r), .val (.int (32 : Int32)), .val (.int (Int32.ofNat i)), .val (.long (f i)), .second]) rfl k_) ?_
          show Run _ _ _ _ (TJ310.setTop (mkF m 61 #[.val (.ref a1), .val (.long ua), .second, .val (.long va), .second, .val (.int (nv ||| ((0 : Int32) ||| (1 : Int32)))), .val (.ref r), .val (.int (32 : Int32)), .val (.int (Int32.ofNat i)), .val (.long (f i)), .second] []))
          refine Run.step (fun t_ k_ => XS.iinc XJ310.here hx rfl (hb hby d4_61) rfl (l' := #[.val (.ref a1), .val (.long ua), .second, .val (.long va), .second, .val (.int (nv ||| ((0 : Int32) ||| (1 : Int32)))), .val (.ref r), .val (.int (32 : Int32)), .val (.int ((Int32.ofNat i) + (1 : Int32))), .val (.long (f i)), .second]) rfl k_) ?_
          show Run _ _ _ _ (TJ310.setTop (mkF m 64 #[.val (.ref a1), .val (.long ua), .second, .val (.long va), .second, .val (.int (nv ||| ((0 : Int32) ||| (1 : Int32)))), .val (.ref r), .val (.int (32 : Int32)), .val (.int ((Int32.ofNat i) + (1 : Int32))), .val (.long (f i)), .second] []))
          refine Run.step (fun t_ k_ => XS.goto XJ310.here hx rfl (pc0 := 64) (pc' := 17) rfl (hb hby d4_64) (by decide) (by decide) k_) ?_
          show Run _ _ _ _ (TJ310.setTop (mkF m 17 #[.val (.ref a1), .val (.long ua), .second, .val (.long va), .second, .val (.int (nv ||| ((0 : Int32) ||| (1 : Int32)))), .val (.ref r), .val (.int (32 : Int32)), .val (.int ((Int32.ofNat i) + (1 : Int32))), .val (.long (f i)), .second] []))
          rw [(own_nat hlt).2.2.2]
          exact ih (i + 1) (by omega) _ _ XJ310 eJ310 NJ310 _ _ (by rw [hn]; show _ = own_near f ua va i ||| ((if f i = ua then 1 else 0) ||| (if f i = va then 1 else 0)); rw [if_neg c37, if_pos c49])
        · skip
          refine Run.step (fun t_ k_ => XS.ifYes XJ310.here hx rfl (pc0 := 49) (pc' := 56) rfl (hb hby d4_49) rfl (XT.ll_ne_t c49) (by decide) (by decide) k_) ?_
          show Run _ _ _ _ (TJ310.setTop (mkF m 56 #[.val (.ref a1), .val (.long ua), .second, .val (.long va), .second, .val (.int nv), .val (.ref r), .val (.int (32 : Int32)), .val (.int (Int32.ofNat i)), .val (.long (f i)), .second] [(.int (0 : Int32)), (.int nv)]))
          refine Run.step (fun t_ k_ => XS.iconst XJ310.here hx rfl (hb hby d4_56) k_) ?_
          show Run _ _ _ _ (TJ310.setTop (mkF m 57 #[.val (.ref a1), .val (.long ua), .second, .val (.long va), .second, .val (.int nv), .val (.ref r), .val (.int (32 : Int32)), .val (.int (Int32.ofNat i)), .val (.long (f i)), .second] [(.int (0 : Int32)), (.int (0 : Int32)), (.int nv)]))
          refine Run.step (fun t_ k_ => XS.ior XJ310.here hx rfl (hb hby d4_57) rfl k_) ?_
          show Run _ _ _ _ (TJ310.setTop (mkF m 58 #[.val (.ref a1), .val (.long ua), .second, .val (.long va), .second, .val (.int nv), .val (.ref r), .val (.int (32 : Int32)), .val (.int (Int32.ofNat i)), .val (.long (f i)), .second] [(.int ((0 : Int32) ||| (0 : Int32))), (.int nv)]))
          refine Run.step (fun t_ k_ => XS.ior XJ310.here hx rfl (hb hby d4_58) rfl k_) ?_
          show Run _ _ _ _ (TJ310.setTop (mkF m 59 #[.val (.ref a1), .val (.long ua), .second, .val (.long va), .second, .val (.int nv), .val (.ref r), .val (.int (32 : Int32)), .val (.int (Int32.ofNat i)), .val (.long (f i)), .second] [(.int (nv ||| ((0 : Int32) ||| (0 : Int32))))]))
          refine Run.step (fun t_ k_ => XS.istore XJ310.here hx rfl (hb hby d4_59) rfl (l' := #[.val (.ref a1), .val (.long ua), .second, .val (.long va), .second, .val (.int (nv ||| ((0 : Int32) ||| (0 : Int32)))), .val (.ref r), .val (.int (32 : Int32)), .val (.int (Int32.ofNat i)), .val (.long (f i)), .second]) rfl k_) ?_
          show Run _ _ _ _ (TJ310.setTop (mkF m 61 #[.val (.ref a1), .val (.long ua), .second, .val (.long va), .second, .val (.int (nv ||| ((0 : Int32) ||| (0 : Int32)))), .val (.ref r), .val (.int (32 : Int32)), .val (.int (Int32.ofNat i)), .val (.long (f i)), .second] []))
          refine Run.step (fun t_ k_ => XS.iinc XJ310.here hx rfl (hb hby d4_61) rfl (l' := #[.val (.ref a1), .val (.long ua), .second, .val (.long va), .second, .val (.int (nv ||| ((0 : Int32) ||| (0 : Int32)))), .val (.ref r), .val (.int (32 : Int32)), .val (.int ((Int32.ofNat i) + (1 : Int32))), .val (.long (f i)), .second]) rfl k_) ?_
          show Run _ _ _ _ (TJ310.setTop (mkF m 64 #[.val (.ref a1), .val (.long ua), .second, .val (.long va), .second, .val (.int (nv ||| ((0 : Int32) ||| (0 : Int32)))), .val (.ref r), .val (.int (32 : Int32)), .val (.int ((Int32.ofNat i) + (1 : Int32))), .val (.long (f i)), .second] []))
          refine Run.step (fun t_ k_ => XS.goto XJ310.here hx rfl (pc0 := 64) (pc' := 17) rfl (hb hby d4_64) (by decide) (by decide) k_) ?_
          show Run _ _ _ _ (TJ310.setTop (mkF m 17 #[.val (.ref a1), .val (.long ua), .second, .val (.long va), .second, .val (.int (nv ||| ((0 : Int32) ||| (0 : Int32)))), .val (.ref r), .val (.int (32 : Int32)), .val (.int ((Int32.ofNat i) + (1 : Int32))), .val (.long (f i)), .second] []))
          rw [(own_nat hlt).2.2.2]
          exact ih (i + 1) (by omega) _ _ XJ310 eJ310 NJ310 _ _ (by rw [hn]; show _ = own_near f ua va i ||| ((if f i = ua then 1 else 0) ||| (if f i = va then 1 else 0)); rw [if_neg c37, if_neg c49])
  refine Run.step (fun t_ k_ => XS.iload X308.here hx rfl (hb hby d4_17) rfl k_) ?_
  show Run _ _ _ _ (T308.setTop (mkF m 19 #[.val (.ref a1), .val (.long ua), .second, .val (.long va), .second, .val (.int (0 : Int32)), .val (.ref r), .val (.int (32 : Int32)), .val (.int (0 : Int32)), .unset, .unset] [(.int (0 : Int32))]))
  refine Run.step (fun t_ k_ => XS.iload X308.here hx rfl (hb hby d4_19) rfl k_) ?_
  show Run _ _ _ _ (T308.setTop (mkF m 21 #[.val (.ref a1), .val (.long ua), .second, .val (.long va), .second, .val (.int (0 : Int32)), .val (.ref r), .val (.int (32 : Int32)), .val (.int (0 : Int32)), .unset, .unset] [(.int (32 : Int32)), (.int (0 : Int32))]))
  refine Run.step (fun t_ k_ => XS.icmpNo X308.here hx rfl (hb hby d4_21) rfl (XT.ii_ge_f (by decide : (0 : Int32) < (32 : Int32))) k_) ?_
  show Run _ _ _ _ (T308.setTop (mkF m 24 #[.val (.ref a1), .val (.long ua), .second, .val (.long va), .second, .val (.int (0 : Int32)), .val (.ref r), .val (.int (32 : Int32)), .val (.int (0 : Int32)), .unset, .unset] []))
  refine Run.step (fun t_ k_ => XS.aload X308.here hx rfl (hb hby d4_24) rfl rfl k_) ?_
  show Run _ _ _ _ (T308.setTop (mkF m 26 #[.val (.ref a1), .val (.long ua), .second, .val (.long va), .second, .val (.int (0 : Int32)), .val (.ref r), .val (.int (32 : Int32)), .val (.int (0 : Int32)), .unset, .unset] [(.ref r)]))
  refine Run.step (fun t_ k_ => XS.iload X308.here hx rfl (hb hby d4_26) rfl k_) ?_
  show Run _ _ _ _ (T308.setTop (mkF m 28 #[.val (.ref a1), .val (.long ua), .second, .val (.long va), .second, .val (.int (0 : Int32)), .val (.ref r), .val (.int (32 : Int32)), .val (.int (0 : Int32)), .unset, .unset] [(.int (0 : Int32)), (.ref r)]))
  obtain ⟨cl358, Ar358, q358, S358, M358, H358, U358⟩ := id V1
  have hin359 : ¬ ((0 : Int32) < 0 ∨ cl358.slots.size ≤ ((0 : Int32)).toNatClampNeg) := inb_of S358 ⟨by decide, by decide⟩
  have hat359 : cl358.slots[((0 : Int32)).toNatClampNeg]? = some (.long (f 0)) := H358.at hin359 (own_get f (by decide) _)
  refine Run.step (fun t_ k_ => X308.laload hx (j := (0 : Int32)) (v := (.long (f 0))) (by rw [e308]; exact Ar358.1) (State.isArrayOf_alike hZ.alike Ar358.2.1) Ar358.2.2 hin359 hat359 (g := (mkF m 28 #[.val (.ref a1), .val (.long ua), .second, .val (.long va), .second, .val (.int (0 : Int32)), .val (.ref r), .val (.int (32 : Int32)), .val (.int (0 : Int32)), .unset, .unset] [(.int (0 : Int32)), (.ref r)])) rfl rfl (hb hby d4_28) _ k_) ?_
  show Run _ _ _ _ (T308.setTop (mkF m 29 #[.val (.ref a1), .val (.long ua), .second, .val (.long va), .second, .val (.int (0 : Int32)), .val (.ref r), .val (.int (32 : Int32)), .val (.int (0 : Int32)), .unset, .unset] [(.long (f 0))]))
  refine Run.step (fun t_ k_ => XS.lstore X308.here hx rfl (hb hby d4_29) rfl (l' := #[.val (.ref a1), .val (.long ua), .second, .val (.long va), .second, .val (.int (0 : Int32)), .val (.ref r), .val (.int (32 : Int32)), .val (.int (0 : Int32)), .val (.long (f 0)), .second]) rfl k_) ?_
  show Run _ _ _ _ (T308.setTop (mkF m 31 #[.val (.ref a1), .val (.long ua), .second, .val (.long va), .second, .val (.int (0 : Int32)), .val (.ref r), .val (.int (32 : Int32)), .val (.int (0 : Int32)), .val (.long (f 0)), .second] []))
  refine Run.step (fun t_ k_ => XS.iload X308.here hx rfl (hb hby d4_31) rfl k_) ?_
  show Run _ _ _ _ (T308.setTop (mkF m 33 #[.val (.ref a1), .val (.long ua), .second, .val (.long va), .second, .val (.int (0 : Int32)), .val (.ref r), .val (.int (32 : Int32)), .val (.int (0 : Int32)), .val (.long (f 0)), .second] [(.int (0 : Int32))]))
  refine Run.step (fun t_ k_ => XS.lload X308.here hx rfl (hb hby d4_33) rfl k_) ?_
  show Run _ _ _ _ (T308.setTop (mkF m 35 #[.val (.ref a1), .val (.long ua), .second, .val (.long va), .second, .val (.int (0 : Int32)), .val (.ref r), .val (.int (32 : Int32)), .val (.int (0 : Int32)), .val (.long (f 0)), .second] [(.long (f 0)), (.int (0 : Int32))]))
  refine Run.step (fun t_ k_ => XS.lloadN X308.here hx rfl (hb hby d4_35) rfl k_) ?_
  show Run _ _ _ _ (T308.setTop (mkF m 36 #[.val (.ref a1), .val (.long ua), .second, .val (.long va), .second, .val (.int (0 : Int32)), .val (.ref r), .val (.int (32 : Int32)), .val (.int (0 : Int32)), .val (.long (f 0)), .second] [(.long ua), (.long (f 0)), (.int (0 : Int32))]))
  refine Run.step (fun t_ k_ => XS.lcmp X308.here hx rfl (hb hby d4_36) rfl k_) ?_
  show Run _ _ _ _ (T308.setTop (mkF m 37 #[.val (.ref a1), .val (.long ua), .second, .val (.long va), .second, .val (.int (0 : Int32)), .val (.ref r), .val (.int (32 : Int32)), .val (.int (0 : Int32)), .val (.long (f 0)), .second] [(.int (lcmpW (f 0) ua)), (.int (0 : Int32))]))
  by_cases c37 : (f 0) = ua
  · skip
    refine Run.step (fun t_ k_ => XS.ifNo X308.here hx rfl (hb hby d4_37) rfl (XT.ll_ne_f c37) k_) ?_
    show Run _ _ _ _ (T308.setTop (mkF m 40 #[.val (.ref a1), .val (.long ua), .second, .val (.long va), .second, .val (.int (0 : Int32)), .val (.ref r), .val (.int (32 : Int32)), .val (.int (0 : Int32)), .val (.long (f 0)), .second] [(.int (0 : Int32))]))
    refine Run.step (fun t_ k_ => XS.iconst X308.here hx rfl (hb hby d4_40) k_) ?_
    show Run _ _ _ _ (T308.setTop (mkF m 41 #[.val (.ref a1), .val (.long ua), .second, .val (.long va), .second, .val (.int (0 : Int32)), .val (.ref r), .val (.int (32 : Int32)), .val (.int (0 : Int32)), .val (.long (f 0)), .second] [(.int (1 : Int32)), (.int (0 : Int32))]))
    refine Run.step (fun t_ k_ => XS.goto X308.here hx rfl (pc0 := 41) (pc' := 45) rfl (hb hby d4_41) (by decide) (by decide) k_) ?_
    show Run _ _ _ _ (T308.setTop (mkF m 45 #[.val (.ref a1), .val (.long ua), .second, .val (.long va), .second, .val (.int (0 : Int32)), .val (.ref r), .val (.int (32 : Int32)), .val (.int (0 : Int32)), .val (.long (f 0)), .second] [(.int (1 : Int32)), (.int (0 : Int32))]))
    refine Run.step (fun t_ k_ => XS.lload X308.here hx rfl (hb hby d4_45) rfl k_) ?_
    show Run _ _ _ _ (T308.setTop (mkF m 47 #[.val (.ref a1), .val (.long ua), .second, .val (.long va), .second, .val (.int (0 : Int32)), .val (.ref r), .val (.int (32 : Int32)), .val (.int (0 : Int32)), .val (.long (f 0)), .second] [(.long (f 0)), (.int (1 : Int32)), (.int (0 : Int32))]))
    refine Run.step (fun t_ k_ => XS.lloadN X308.here hx rfl (hb hby d4_47) rfl k_) ?_
    show Run _ _ _ _ (T308.setTop (mkF m 48 #[.val (.ref a1), .val (.long ua), .second, .val (.long va), .second, .val (.int (0 : Int32)), .val (.ref r), .val (.int (32 : Int32)), .val (.int (0 : Int32)), .val (.long (f 0)), .second] [(.long va), (.long (f 0)), (.int (1 : Int32)), (.int (0 : Int32))]))
    refine Run.step (fun t_ k_ => XS.lcmp X308.here hx rfl (hb hby d4_48) rfl k_) ?_
    show Run _ _ _ _ (T308.setTop (mkF m 49 #[.val (.ref a1), .val (.long ua), .second, .val (.long va), .second, .val (.int (0 : Int32)), .val (.ref r), .val (.int (32 : Int32)), .val (.int (0 : Int32)), .val (.long (f 0)), .second] [(.int (lcmpW (f 0) va)), (.int (1 : Int32)), (.int (0 : Int32))]))
    by_cases c49 : (f 0) = va
    · skip
      refine Run.step (fun t_ k_ => XS.ifNo X308.here hx rfl (hb hby d4_49) rfl (XT.ll_ne_f c49) k_) ?_
      show Run _ _ _ _ (T308.setTop (mkF m 52 #[.val (.ref a1), .val (.long ua), .second, .val (.long va), .second, .val (.int (0 : Int32)), .val (.ref r), .val (.int (32 : Int32)), .val (.int (0 : Int32)), .val (.long (f 0)), .second] [(.int (1 : Int32)), (.int (0 : Int32))]))
      refine Run.step (fun t_ k_ => XS.iconst X308.here hx rfl (hb hby d4_52) k_) ?_
      show Run _ _ _ _ (T308.setTop (mkF m 53 #[.val (.ref a1), .val (.long ua), .second, .val (.long va), .second, .val (.int (0 : Int32)), .val (.ref r), .val (.int (32 : Int32)), .val (.int (0 : Int32)), .val (.long (f 0)), .second] [(.int (1 : Int32)), (.int (1 : Int32)), (.int (0 : Int32))]))
      refine Run.step (fun t_ k_ => XS.goto X308.here hx rfl (pc0 := 53) (pc' := 57) rfl (hb hby d4_53) (by decide) (by decide) k_) ?_
      show Run _ _ _ _ (T308.setTop (mkF m 57 #[.val (.ref a1), .val (.long ua), .second, .val (.long va), .second, .val (.int (0 : Int32)), .val (.ref r), .val (.int (32 : Int32)), .val (.int (0 : Int32)), .val (.long (f 0)), .second] [(.int (1 : Int32)), (.int (1 : Int32)), (.int (0 : Int32))]))
      refine Run.step (fun t_ k_ => XS.ior X308.here hx rfl (hb hby d4_57) rfl k_) ?_
      show Run _ _ _ _ (T308.setTop (mkF m 58 #[.val (.ref a1), .val (.long ua), .second, .val (.long va), .second, .val (.int (0 : Int32)), .val (.ref r), .val (.int (32 : Int32)), .val (.int (0 : Int32)), .val (.long (f 0)), .second] [(.int ((1 : Int32) ||| (1 : Int32))), (.int (0 : Int32))]))
      refine Run.step (fun t_ k_ => XS.ior X308.here hx rfl (hb hby d4_58) rfl k_) ?_
      show Run _ _ _ _ (T308.setTop (mkF m 59 #[.val (.ref a1), .val (.long ua), .second, .val (.long va), .second, .val (.int (0 : Int32)), .val (.ref r), .val (.int (32 : Int32)), .val (.int (0 : Int32)), .val (.long (f 0)), .second] [(.int ((0 : Int32) ||| ((1 : Int32) ||| (1 : Int32))))]))
      refine Run.step (fun t_ k_ => XS.istore X308.here hx rfl (hb hby d4_59) rfl (l' := #[.val (.ref a1), .val (.long ua), .second, .val (.long va), .second, .val (.int ((0 : Int32) ||| ((1 : Int32) ||| (1 : Int32)))), .val (.ref r), .val (.int (32 : Int32)), .val (.int (0 : Int32)), .val (.long (f 0)), .second]) rfl k_) ?_
      show Run _ _ _ _ (T308.setTop (mkF m 61 #[.val (.ref a1), .val (.long ua), .second, .val (.long va), .second, .val (.int ((0 : Int32) ||| ((1 : Int32) ||| (1 : Int32)))), .val (.ref r), .val (.int (32 : Int32)), .val (.int (0 : Int32)), .val (.long (f 0)), .second] []))
      refine Run.step (fun t_ k_ => XS.iinc X308.here hx rfl (hb hby d4_61) rfl (l' := #[.val (.ref a1), .val (.long ua), .second, .val (.long va), .second, .val (.int ((0 : Int32) ||| ((1 : Int32) ||| (1 : Int32)))), .val (.ref r), .val (.int (32 : Int32)), .val (.int (1 : Int32)), .val (.long (f 0)), .second]) rfl k_) ?_
      show Run _ _ _ _ (T308.setTop (mkF m 64 #[.val (.ref a1), .val (.long ua), .second, .val (.long va), .second, .val (.int ((0 : Int32) ||| ((1 : Int32) ||| (1 : Int32)))), .val (.ref r), .val (.int (32 : Int32)), .val (.int (1 : Int32)), .val (.long (f 0)), .second] []))
      refine Run.step (fun t_ k_ => XS.goto X308.here hx rfl (pc0 := 64) (pc' := 17) rfl (hb hby d4_64) (by decide) (by decide) k_) ?_
      show Run _ _ _ _ (T308.setTop (mkF m 17 #[.val (.ref a1), .val (.long ua), .second, .val (.long va), .second, .val (.int ((0 : Int32) ||| ((1 : Int32) ||| (1 : Int32)))), .val (.ref r), .val (.int (32 : Int32)), .val (.int (1 : Int32)), .val (.long (f 0)), .second] []))
      exact LP 31 1 rfl _ _ X308 e308 N0 _ _ (by show _ = (0 : Int32) ||| ((if f 0 = ua then 1 else 0) ||| (if f 0 = va then 1 else 0)); rw [if_pos c37, if_pos c49])
    · skip
      refine Run.step (fun t_ k_ => XS.ifYes X308.here hx rfl (pc0 := 49) (pc' := 56) rfl (hb hby d4_49) rfl (XT.ll_ne_t c49) (by decide) (by decide) k_) ?_
      show Run _ _ _ _ (T308.setTop (mkF m 56 #[.val (.ref a1), .val (.long ua), .second, .val (.long va), .second, .val (.int (0 : Int32)), .val (.ref r), .val (.int (32 : Int32)), .val (.int (0 : Int32)), .val (.long (f 0)), .second] [(.int (1 : Int32)), (.int (0 : Int32))]))
      refine Run.step (fun t_ k_ => XS.iconst X308.here hx rfl (hb hby d4_56) k_) ?_
      show Run _ _ _ _ (T308.setTop (mkF m 57 #[.val (.ref a1), .val (.long ua), .second, .val (.long va), .second, .val (.int (0 : Int32)), .val (.ref r), .val (.int (32 : Int32)), .val (.int (0 : Int32)), .val (.long (f 0)), .second] [(.int (0 : Int32)), (.int (1 : Int32)), (.int (0 : Int32))]))
      refine Run.step (fun t_ k_ => XS.ior X308.here hx rfl (hb hby d4_57) rfl k_) ?_
      show Run _ _ _ _ (T308.setTop (mkF m 58 #[.val (.ref a1), .val (.long ua), .second, .val (.long va), .second, .val (.int (0 : Int32)), .val (.ref r), .val (.int (32 : Int32)), .val (.int (0 : Int32)), .val (.long (f 0)), .second] [(.int ((1 : Int32) ||| (0 : Int32))), (.int (0 : Int32))]))
      refine Run.step (fun t_ k_ => XS.ior X308.here hx rfl (hb hby d4_58) rfl k_) ?_
      show Run _ _ _ _ (T308.setTop (mkF m 59 #[.val (.ref a1), .val (.long ua), .second, .val (.long va), .second, .val (.int (0 : Int32)), .val (.ref r), .val (.int (32 : Int32)), .val (.int (0 : Int32)), .val (.long (f 0)), .second] [(.int ((0 : Int32) ||| ((1 : Int32) ||| (0 : Int32))))]))
      refine Run.step (fun t_ k_ => XS.istore X308.here hx rfl (hb hby d4_59) rfl (l' := #[.val (.ref a1), .val (.long ua), .second, .val (.long va), .second, .val (.int ((0 : Int32) ||| ((1 : Int32) ||| (0 : Int32)))), .val (.ref r), .val (.int (32 : Int32)), .val (.int (0 : Int32)), .val (.long (f 0)), .second]) rfl k_) ?_
      show Run _ _ _ _ (T308.setTop (mkF m 61 #[.val (.ref a1), .val (.long ua), .second, .val (.long va), .second, .val (.int ((0 : Int32) ||| ((1 : Int32) ||| (0 : Int32)))), .val (.ref r), .val (.int (32 : Int32)), .val (.int (0 : Int32)), .val (.long (f 0)), .second] []))
      refine Run.step (fun t_ k_ => XS.iinc X308.here hx rfl (hb hby d4_61) rfl (l' := #[.val (.ref a1), .val (.long ua), .second, .val (.long va), .second, .val (.int ((0 : Int32) ||| ((1 : Int32) ||| (0 : Int32)))), .val (.ref r), .val (.int (32 : Int32)), .val (.int (1 : Int32)), .val (.long (f 0)), .second]) rfl k_) ?_
      show Run _ _ _ _ (T308.setTop (mkF m 64 #[.val (.ref a1), .val (.long ua), .second, .val (.long va), .second, .val (.int ((0 : Int32) ||| ((1 : Int32) ||| (0 : Int32)))), .val (.ref r), .val (.int (32 : Int32)), .val (.int (1 : Int32)), .val (.long (f 0)), .second] []))
      refine Run.step (fun t_ k_ => XS.goto X308.here hx rfl (pc0 := 64) (pc' := 17) rfl (hb hby d4_64) (by decide) (by decide) k_) ?_
      show Run _ _ _ _ (T308.setTop (mkF m 17 #[.val (.ref a1), .val (.long ua), .second, .val (.long va), .second, .val (.int ((0 : Int32) ||| ((1 : Int32) ||| (0 : Int32)))), .val (.ref r), .val (.int (32 : Int32)), .val (.int (1 : Int32)), .val (.long (f 0)), .second] []))
      exact LP 31 1 rfl _ _ X308 e308 N0 _ _ (by show _ = (0 : Int32) ||| ((if f 0 = ua then 1 else 0) ||| (if f 0 = va then 1 else 0)); rw [if_pos c37, if_neg c49])
  · skip
    refine Run.step (fun t_ k_ => XS.ifYes X308.here hx rfl (pc0 := 37) (pc' := 44) rfl (hb hby d4_37) rfl (XT.ll_ne_t c37) (by decide) (by decide) k_) ?_
    show Run _ _ _ _ (T308.setTop (mkF m 44 #[.val (.ref a1), .val (.long ua), .second, .val (.long va), .second, .val (.int (0 : Int32)), .val (.ref r), .val (.int (32 : Int32)), .val (.int (0 : Int32)), .val (.long (f 0)), .second] [(.int (0 : Int32))]))
    refine Run.step (fun t_ k_ => XS.iconst X308.here hx rfl (hb hby d4_44) k_) ?_
    show Run _ _ _ _ (T308.setTop (mkF m 45 #[.val (.ref a1), .val (.long ua), .second, .val (.long va), .second, .val (.int (0 : Int32)), .val (.ref r), .val (.int (32 : Int32)), .val (.int (0 : Int32)), .val (.long (f 0)), .second] [(.int (0 : Int32)), (.int (0 : Int32))]))
    refine Run.step (fun t_ k_ => XS.lload X308.here hx rfl (hb hby d4_45) rfl k_) ?_
    show Run _ _ _ _ (T308.setTop (mkF m 47 #[.val (.ref a1), .val (.long ua), .second, .val (.long va), .second, .val (.int (0 : Int32)), .val (.ref r), .val (.int (32 : Int32)), .val (.int (0 : Int32)), .val (.long (f 0)), .second] [(.long (f 0)), (.int (0 : Int32)), (.int (0 : Int32))]))
    refine Run.step (fun t_ k_ => XS.lloadN X308.here hx rfl (hb hby d4_47) rfl k_) ?_
    show Run _ _ _ _ (T308.setTop (mkF m 48 #[.val (.ref a1), .val (.long ua), .second, .val (.long va), .second, .val (.int (0 : Int32)), .val (.ref r), .val (.int (32 : Int32)), .val (.int (0 : Int32)), .val (.long (f 0)), .second] [(.long va), (.long (f 0)), (.int (0 : Int32)), (.int (0 : Int32))]))
    refine Run.step (fun t_ k_ => XS.lcmp X308.here hx rfl (hb hby d4_48) rfl k_) ?_
    show Run _ _ _ _ (T308.setTop (mkF m 49 #[.val (.ref a1), .val (.long ua), .second, .val (.long va), .second, .val (.int (0 : Int32)), .val (.ref r), .val (.int (32 : Int32)), .val (.int (0 : Int32)), .val (.long (f 0)), .second] [(.int (lcmpW (f 0) va)), (.int (0 : Int32)), (.int (0 : Int32))]))
    by_cases c49 : (f 0) = va
    · skip
      refine Run.step (fun t_ k_ => XS.ifNo X308.here hx rfl (hb hby d4_49) rfl (XT.ll_ne_f c49) k_) ?_
      show Run _ _ _ _ (T308.setTop (mkF m 52 #[.val (.ref a1), .val (.long ua), .second, .val (.long va), .second, .val (.int (0 : Int32)), .val (.ref r), .val (.int (32 : Int32)), .val (.int (0 : Int32)), .val (.long (f 0)), .second] [(.int (0 : Int32)), (.int (0 : Int32))]))
      refine Run.step (fun t_ k_ => XS.iconst X308.here hx rfl (hb hby d4_52) k_) ?_
      show Run _ _ _ _ (T308.setTop (mkF m 53 #[.val (.ref a1), .val (.long ua), .second, .val (.long va), .second, .val (.int (0 : Int32)), .val (.ref r), .val (.int (32 : Int32)), .val (.int (0 : Int32)), .val (.long (f 0)), .second] [(.int (1 : Int32)), (.int (0 : Int32)), (.int (0 : Int32))]))
      refine Run.step (fun t_ k_ => XS.goto X308.here hx rfl (pc0 := 53) (pc' := 57) rfl (hb hby d4_53) (by decide) (by decide) k_) ?_
      show Run _ _ _ _ (T308.setTop (mkF m 57 #[.val (.ref a1), .val (.long ua), .second, .val (.long va), .second, .val (.int (0 : Int32)), .val (.ref r), .val (.int (32 : Int32)), .val (.int (0 : Int32)), .val (.long (f 0)), .second] [(.int (1 : Int32)), (.int (0 : Int32)), (.int (0 : Int32))]))
      refine Run.step (fun t_ k_ => XS.ior X308.here hx rfl (hb hby d4_57) rfl k_) ?_
      show Run _ _ _ _ (T308.setTop (mkF m 58 #[.val (.ref a1), .val (.long ua), .second, .val (.long va), .second, .val (.int (0 : Int32)), .val (.ref r), .val (.int (32 : Int32)), .val (.int (0 : Int32)), .val (.long (f 0)), .second] [(.int ((0 : Int32) ||| (1 : Int32))), (.int (0 : Int32))]))
      refine Run.step (fun t_ k_ => XS.ior X308.here hx rfl (hb hby d4_58) rfl k_) ?_
      show Run _ _ _ _ (T308.setTop (mkF m 59 #[.val (.ref a1), .val (.long ua), .second, .val (.long va), .second, .val (.int (0 : Int32)), .val (.ref r), .val (.int (32 : Int32)), .val (.int (0 : Int32)), .val (.long (f 0)), .second] [(.int ((0 : Int32) ||| ((0 : Int32) ||| (1 : Int32))))]))
      refine Run.step (fun t_ k_ => XS.istore X308.here hx rfl (hb hby d4_59) rfl (l' := #[.val (.ref a1), .val (.long ua), .second, .val (.long va), .second, .val (.int ((0 : Int32) ||| ((0 : Int32) ||| (1 : Int32)))), .val (.ref r), .val (.int (32 : Int32)), .val (.int (0 : Int32)), .val (.long (f 0)), .second]) rfl k_) ?_
      show Run _ _ _ _ (T308.setTop (mkF m 61 #[.val (.ref a1), .val (.long ua), .second, .val (.long va), .second, .val (.int ((0 : Int32) ||| ((0 : Int32) ||| (1 : Int32)))), .val (.ref r), .val (.int (32 : Int32)), .val (.int (0 : Int32)), .val (.long (f 0)), .second] []))
      refine Run.step (fun t_ k_ => XS.iinc X308.here hx rfl (hb hby d4_61) rfl (l' := #[.val (.ref a1), .val (.long ua), .second, .val (.long va), .second, .val (.int ((0 : Int32) ||| ((0 : Int32) ||| (1 : Int32)))), .val (.ref r), .val (.int (32 : Int32)), .val (.int (1 : Int32)), .val (.long (f 0)), .second]) rfl k_) ?_
      show Run _ _ _ _ (T308.setTop (mkF m 64 #[.val (.ref a1), .val (.long ua), .second, .val (.long va), .second, .val (.int ((0 : Int32) ||| ((0 : Int32) ||| (1 : Int32)))), .val (.ref r), .val (.int (32 : Int32)), .val (.int (1 : Int32)), .val (.long (f 0)), .second] []))
      refine Run.step (fun t_ k_ => XS.goto X308.here hx rfl (pc0 := 64) (pc' := 17) rfl (hb hby d4_64) (by decide) (by decide) k_) ?_
      show Run _ _ _ _ (T308.setTop (mkF m 17 #[.val (.ref a1), .val (.long ua), .second, .val (.long va), .second, .val (.int ((0 : Int32) ||| ((0 : Int32) ||| (1 : Int32)))), .val (.ref r), .val (.int (32 : Int32)), .val (.int (1 : Int32)), .val (.long (f 0)), .second] []))
      exact LP 31 1 rfl _ _ X308 e308 N0 _ _ (by show _ = (0 : Int32) ||| ((if f 0 = ua then 1 else 0) ||| (if f 0 = va then 1 else 0)); rw [if_neg c37, if_pos c49])
    · skip
      refine Run.step (fun t_ k_ => XS.ifYes X308.here hx rfl (pc0 := 49) (pc' := 56) rfl (hb hby d4_49) rfl (XT.ll_ne_t c49) (by decide) (by decide) k_) ?_
      show Run _ _ _ _ (T308.setTop (mkF m 56 #[.val (.ref a1), .val (.long ua), .second, .val (.long va), .second, .val (.int (0 : Int32)), .val (.ref r), .val (.int (32 : Int32)), .val (.int (0 : Int32)), .val (.long (f 0)), .second] [(.int (0 : Int32)), (.int (0 : Int32))]))
      refine Run.step (fun t_ k_ => XS.iconst X308.here hx rfl (hb hby d4_56) k_) ?_
      show Run _ _ _ _ (T308.setTop (mkF m 57 #[.val (.ref a1), .val (.long ua), .second, .val (.long va), .second, .val (.int (0 : Int32)), .val (.ref r), .val (.int (32 : Int32)), .val (.int (0 : Int32)), .val (.long (f 0)), .second] [(.int (0 : Int32)), (.int (0 : Int32)), (.int (0 : Int32))]))
      refine Run.step (fun t_ k_ => XS.ior X308.here hx rfl (hb hby d4_57) rfl k_) ?_
      show Run _ _ _ _ (T308.setTop (mkF m 58 #[.val (.ref a1), .val (.long ua), .second, .val (.long va), .second, .val (.int (0 : Int32)), .val (.ref r), .val (.int (32 : Int32)), .val (.int (0 : Int32)), .val (.long (f 0)), .second] [(.int ((0 : Int32) ||| (0 : Int32))), (.int (0 : Int32))]))
      refine Run.step (fun t_ k_ => XS.ior X308.here hx rfl (hb hby d4_58) rfl k_) ?_
      show Run _ _ _ _ (T308.setTop (mkF m 59 #[.val (.ref a1), .val (.long ua), .second, .val (.long va), .second, .val (.int (0 : Int32)), .val (.ref r), .val (.int (32 : Int32)), .val (.int (0 : Int32)), .val (.long (f 0)), .second] [(.int ((0 : Int32) ||| ((0 : Int32) ||| (0 : Int32))))]))
      refine Run.step (fun t_ k_ => XS.istore X308.here hx rfl (hb hby d4_59) rfl (l' := #[.val (.ref a1), .val (.long ua), .second, .val (.long va), .second, .val (.int ((0 : Int32) ||| ((0 : Int32) ||| (0 : Int32)))), .val (.ref r), .val (.int (32 : Int32)), .val (.int (0 : Int32)), .val (.long (f 0)), .second]) rfl k_) ?_
      show Run _ _ _ _ (T308.setTop (mkF m 61 #[.val (.ref a1), .val (.long ua), .second, .val (.long va), .second, .val (.int ((0 : Int32) ||| ((0 : Int32) ||| (0 : Int32)))), .val (.ref r), .val (.int (32 : Int32)), .val (.int (0 : Int32)), .val (.long (f 0)), .second] []))
      refine Run.step (fun t_ k_ => XS.iinc X308.here hx rfl (hb hby d4_61) rfl (l' := #[.val (.ref a1), .val (.long ua), .second, .val (.long va), .second, .val (.int ((0 : Int32) ||| ((0 : Int32) ||| (0 : Int32)))), .val (.ref r), .val (.int (32 : Int32)), .val (.int (1 : Int32)), .val (.long (f 0)), .second]) rfl k_) ?_
      show Run _ _ _ _ (T308.setTop (mkF m 64 #[.val (.ref a1), .val (.long ua), .second, .val (.long va), .second, .val (.int ((0 : Int32) ||| ((0 : Int32) ||| (0 : Int32)))), .val (.ref r), .val (.int (32 : Int32)), .val (.int (1 : Int32)), .val (.long (f 0)), .second] []))
      refine Run.step (fun t_ k_ => XS.goto X308.here hx rfl (pc0 := 64) (pc' := 17) rfl (hb hby d4_64) (by decide) (by decide) k_) ?_
      show Run _ _ _ _ (T308.setTop (mkF m 17 #[.val (.ref a1), .val (.long ua), .second, .val (.long va), .second, .val (.int ((0 : Int32) ||| ((0 : Int32) ||| (0 : Int32)))), .val (.ref r), .val (.int (32 : Int32)), .val (.int (1 : Int32)), .val (.long (f 0)), .second] []))
      exact LP 31 1 rfl _ _ X308 e308 N0 _ _ (by show _ = (0 : Int32) ||| ((if f 0 = ua then 1 else 0) ||| (if f 0 = va then 1 else 0)); rw [if_neg c37, if_neg c49])
theorem ef_4_2 (m : MethodId) (x0 : Addr) (x1 : Int64) (x2 : Int64) : entryFrame m #[(.ref x0), (.long x1), (.long x2)] 11 = mkF m 0 #[.val (.ref x0), .val (.long x1), .second, .val (.long x2), .second, .unset, .unset, .unset, .unset, .unset, .unset] [] := by first | (simp [entryFrame, mkF, argsToLocals, Value.category, maxLocals]; done) | rfl
def Q4_2 (Z : State) (a1 : Addr) (r : Addr) (kk : ClassId) (f : Nat → Int64) (ua : Int64) (va : Int64) (nr : Int64) (nr2 : Int64) (h0 : Heap) (n0 : Nat) (v : Option Value) (h : Heap) (L : List Loc) : Prop := v = none ∧ Fr n0 L ∧ Keep h0 h [a1, r] ∧ Fld Z h a1 "cleave/partition/LineGroups" "recent" "[J" (.ref r) ∧ Fld Z h a1 "cleave/partition/LineGroups" "lines" "J" (.long (3 : Int64)) ∧ Fld Z h a1 "cleave/partition/LineGroups" "near" "J" (.long nr2) ∧ Arv Z h r kk .long (32 : Int32) (own_l (own_up (own_up f 4 ua) 5 va)) (.long (0 : Int64))
set_option maxRecDepth 65536 in
set_option maxHeartbeats 40000000 in
theorem rm4_2 (l : Launch) (Z : State) (a0 : Array Value) (hw : ∀ d ∈ tables_1, d.before a0 Z = true) (ws : List Jvm.Cond) (a1 : Addr) (r : Addr) (kk : ClassId) (f : Nat → Int64) (ua : Int64) (va : Int64) (nr : Int64) (nr2 : Int64) (h0 : Heap) (n0 : Nat) (Z0 : n0 ≤ h0.size) (hnr : nr2 = if own_near f ua va 32 = 0 then nr else nr + 1) (F1 : Fld Z h0 a1 "cleave/partition/LineGroups" "recent" "[J" (.ref r)) (F2 : Fld Z h0 a1 "cleave/partition/LineGroups" "lines" "J" (.long (2 : Int64))) (F3 : Fld Z h0 a1 "cleave/partition/LineGroups" "near" "J" (.long nr)) (E1 : Exa Z h0 a1 "cleave/partition/LineGroups") (V1 : Arv Z h0 r kk .long (32 : Int32) (own_l f) (.long (0 : Int64))) (g1 : n0 ≤ a1) (g2 : n0 ≤ r) (ne : r ≠ a1) :
    MetFree l (⟨"cleave/partition/LineGroups", "read", "(JJ)V"⟩ : MethodName) (head1 (Jvm.Cond.code (⟨"cleave/partition/LineGroups", "read", "(JJ)V"⟩ : MethodName) prog_85_method_2_code 11 none :: ws) ({ frames := 0, cells := 0, slots := 0, locals := 0 } : Room)) (fun a U => a = #[(.ref a1), (.long ua), (.long va)] ∧ Z.Warmed39 U.vm ∧ U.heap = h0) (fun _ _ _ _ _ => True) (fun _ U o U' => ∃ v L, o = .returned v ∧ Q4_2 Z a1 r kk f ua va nr nr2 h0 n0 v U'.heap L ∧ FrameEnd U o U' L ({ frames := 0, cells := 0, slots := 0, locals := 0 } : Room).cells ({ frames := 0, cells := 0, slots := 0, locals := 0 } : Room).slots) := by
  refine MetFree.of_bodySF (plainFor_of_name pn_cleave_partition_LineGroups) hisR ?_
  intro p e s m args below meth c s₁ Bd hml0 hP hK
  obtain ⟨rfl, hZ, hh⟩ := hP
  have hx := Bd.exec
  have hby := Bd.bytes
  have w2 := hw _ (List.mem_of_getElem? (i := 2) rfl)
  have w11 := hw _ (List.mem_of_getElem? (i := 11) rfl)
  have w12 := hw _ (List.mem_of_getElem? (i := 12) rfl)
  have w23 := hw _ (List.mem_of_getElem? (i := 23) rfl)
  have w24 := hw _ (List.mem_of_getElem? (i := 24) rfl)
  have w25 := hw _ (List.mem_of_getElem? (i := 25) rfl)
  have w26 := hw _ (List.mem_of_getElem? (i := 26) rfl)
  have w27 := hw _ (List.mem_of_getElem? (i := 27) rfl)
  have hml : c.maxLocals = 11 := hml0
  have hown : s.vm.findClass "cleave/partition/LineGroups" = some m.cls := findClass_of_methodNamed Bd.named
  have hnm := (name_of_methodNamed Bd.named Bd.method).1
  have X0 : Stand p l e ({ frames := 0, cells := 0, slots := 0, locals := 0 } : Room) s m #[(.ref a1), (.long ua), (.long va)] below meth c s₁ [] 0 0 := Stand.of_body Bd
  have e0 : s₁.heap = h0 := by rw [← hh, Bd.state]; rfl
  have N0 := Fr.nil n0
  show Run p.tables e below (PQ s below 0 0 (Q4_2 Z a1 r kk f ua va nr nr2 h0 n0)) (s₁.setTop (entryFrame m #[(.ref a1), (.long ua), (.long va)] 11))
  refine Run.step (fun t k => castTop (ef_4_2 m a1 ua va) k) ?_
  show Run _ _ _ _ (s₁.setTop (mkF m 0 #[.val (.ref a1), .val (.long ua), .second, .val (.long va), .second, .unset, .unset, .unset, .unset, .unset, .unset] []))
  refine Run.step (fun t_ k_ => XS.iconst X0.here hx rfl (hb hby d4_0) k_) ?_
  show Run _ _ _ _ (s₁.setTop (mkF m 1 #[.val (.ref a1), .val (.long ua), .second, .val (.long va), .second, .unset, .unset, .unset, .unset, .unset, .unset] [(.int (0 : Int32))]))
  refine Run.step (fun t_ k_ => XS.istore X0.here hx rfl (hb hby d4_1) rfl (l' := #[.val (.ref a1), .val (.long ua), .second, .val (.long va), .second, .val (.int (0 : Int32)), .unset, .unset, .unset, .unset, .unset]) rfl k_) ?_
  show Run _ _ _ _ (s₁.setTop (mkF m 3 #[.val (.ref a1), .val (.long ua), .second, .val (.long va), .second, .val (.int (0 : Int32)), .unset, .unset, .unset, .unset, .unset] []))
  refine Run.step (fun t_ k_ => XS.aloadN X0.here hx rfl (hb hby d4_3) rfl rfl k_) ?_
  show Run _ _ _ _ (s₁.setTop (mkF m 4 #[.val (.ref a1), .val (.long ua), .second, .val (.long va), .second, .val (.int (0 : Int32)), .unset, .unset, .unset, .unset, .unset] [(.ref a1)]))
  obtain ⟨T360, X360, e360, st360⟩ := getF X0 hx hZ hown (host := "") (Or.inl w11) Via.refl e0 F1 (g := (mkF m 4 #[.val (.ref a1), .val (.long ua), .second, .val (.long va), .second, .val (.int (0 : Int32)), .unset, .unset, .unset, .unset, .unset] [(.ref a1)])) rfl rfl (hb hby d4_4)
  refine Run.step st360 ?_
  show Run _ _ _ _ (T360.setTop (mkF m 7 #[.val (.ref a1), .val (.long ua), .second, .val (.long va), .second, .val (.int (0 : Int32)), .unset, .unset, .unset, .unset, .unset] [(.ref r)]))
  refine Run.step (fun t_ k_ => XS.astore X360.here hx rfl (hb hby d4_7) rfl rfl (l' := #[.val (.ref a1), .val (.long ua), .second, .val (.long va), .second, .val (.int (0 : Int32)), .val (.ref r), .unset, .unset, .unset, .unset]) rfl k_) ?_
  show Run _ _ _ _ (T360.setTop (mkF m 9 #[.val (.ref a1), .val (.long ua), .second, .val (.long va), .second, .val (.int (0 : Int32)), .val (.ref r), .unset, .unset, .unset, .unset] []))
  refine Run.step (fun t_ k_ => XS.aload X360.here hx rfl (hb hby d4_9) rfl rfl k_) ?_
  show Run _ _ _ _ (T360.setTop (mkF m 11 #[.val (.ref a1), .val (.long ua), .second, .val (.long va), .second, .val (.int (0 : Int32)), .val (.ref r), .unset, .unset, .unset, .unset] [(.ref r)]))
  obtain ⟨cl361, Ar361, q361, S361, M361, H361, U361⟩ := id V1
  refine Run.step (fun t_ k_ => X360.arraylength hx (by rw [e360]; exact Ar361.1) (State.isArrayOf_alike hZ.alike Ar361.2.1) (g := (mkF m 11 #[.val (.ref a1), .val (.long ua), .second, .val (.long va), .second, .val (.int (0 : Int32)), .val (.ref r), .unset, .unset, .unset, .unset] [(.ref r)])) rfl rfl (hb hby d4_11) _ k_) ?_
  rw [len_of S361 M361]
  show Run _ _ _ _ (T360.setTop (mkF m 12 #[.val (.ref a1), .val (.long ua), .second, .val (.long va), .second, .val (.int (0 : Int32)), .val (.ref r), .unset, .unset, .unset, .unset] [(.int (32 : Int32))]))
  refine Run.step (fun t_ k_ => XS.istore X360.here hx rfl (hb hby d4_12) rfl (l' := #[.val (.ref a1), .val (.long ua), .second, .val (.long va), .second, .val (.int (0 : Int32)), .val (.ref r), .val (.int (32 : Int32)), .unset, .unset, .unset]) rfl k_) ?_
  show Run _ _ _ _ (T360.setTop (mkF m 14 #[.val (.ref a1), .val (.long ua), .second, .val (.long va), .second, .val (.int (0 : Int32)), .val (.ref r), .val (.int (32 : Int32)), .unset, .unset, .unset] []))
  refine Run.step (fun t_ k_ => XS.iconst X360.here hx rfl (hb hby d4_14) k_) ?_
  show Run _ _ _ _ (T360.setTop (mkF m 15 #[.val (.ref a1), .val (.long ua), .second, .val (.long va), .second, .val (.int (0 : Int32)), .val (.ref r), .val (.int (32 : Int32)), .unset, .unset, .unset] [(.int (0 : Int32))]))
  refine Run.step (fun t_ k_ => XS.istore X360.here hx rfl (hb hby d4_15) rfl (l' := #[.val (.ref a1), .val (.long ua), .second, .val (.long va), .second, .val (.int (0 : Int32)), .val (.ref r), .val (.int (32 : Int32)), .val (.int (0 : Int32)), .unset, .unset]) rfl k_) ?_
  show Run _ _ _ _ (T360.setTop (mkF m 17 #[.val (.ref a1), .val (.long ua), .second, .val (.long va), .second, .val (.int (0 : Int32)), .val (.ref r), .val (.int (32 : Int32)), .val (.int (0 : Int32)), .unset, .unset] []))
  have LP : ∀ (k i : Nat) (hi : i + k = 32) (TJ362 : State) (LJ362 : List Loc) (XJ362 : Stand p l e ({ frames := 0, cells := 0, slots := 0, locals := 0 } : Room) s m #[(.ref a1), (.long ua), (.long va)] below meth c TJ362 LJ362 0 0) (eJ362 : TJ362.heap = h0) (NJ362 : Fr n0 LJ362) (nv : Int32) (y : Int64) (hn : nv = own_near f ua va i), Run p.tables e below (PQ s below 0 0 (Q4_2 Z a1 r kk f ua va nr nr2 h0 n0)) (TJ362.setTop (mkF m 17 #[.val (.ref a1), .val (.long ua), .second, .val (.long va), .second, .val (.int nv), .val (.ref r), .val (.int (32 : Int32)), .val (.int (Int32.ofNat i)), .val (.long y), .second] [])) := by
    intro k
    induction k with
    | zero =>
      intro i hi TJ362 LJ362 XJ362 eJ362 NJ362 nv y hn
      obtain rfl : i = 32 := by omega
      show Run _ _ _ _ (TJ362.setTop (mkF m 17 #[.val (.ref a1), .val (.long ua), .second, .val (.long va), .second, .val (.int nv), .val (.ref r), .val (.int (32 : Int32)), .val (.int (Int32.ofNat 32)), .val (.long y), .second] []))
      refine Run.step (fun t_ k_ => XS.iload XJ362.here hx rfl (hb hby d4_17) rfl k_) ?_
      show Run _ _ _ _ (TJ362.setTop (mkF m 19 #[.val (.ref a1), .val (.long ua), .second, .val (.long va), .second, .val (.int nv), .val (.ref r), .val (.int (32 : Int32)), .val (.int (Int32.ofNat 32)), .val (.long y), .second] [(.int (Int32.ofNat 32))]))
      refine Run.step (fun t_ k_ => XS.iload XJ362.here hx rfl (hb hby d4_19) rfl k_) ?_
      show Run _ _ _ _ (TJ362.setTop (mkF m 21 #[.val (.ref a1), .val (.long ua), .second, .val (.long va), .second, .val (.int nv), .val (.ref r), .val (.int (32 : Int32)), .val (.int (Int32.ofNat 32)), .val (.long y), .second] [(.int (32 : Int32)), (.int (Int32.ofNat 32))]))
      refine Run.step (fun t_ k_ => XS.icmpYes XJ362.here hx rfl (pc0 := 21) (pc' := 67) rfl (hb hby d4_21) rfl (XT.ii_ge_t ((by decide) : ¬ ((Int32.ofNat 32) < (32 : Int32)))) (by decide) (by decide) k_) ?_
      show Run _ _ _ _ (TJ362.setTop (mkF m 67 #[.val (.ref a1), .val (.long ua), .second, .val (.long va), .second, .val (.int nv), .val (.ref r), .val (.int (32 : Int32)), .val (.int (Int32.ofNat 32)), .val (.long y), .second] []))
      refine Run.step (fun t_ k_ => XS.iconst XJ362.here hx rfl (hb hby d4_67) k_) ?_
      show Run _ _ _ _ (TJ362.setTop (mkF m 68 #[.val (.ref a1), .val (.long ua), .second, .val (.long va), .second, .val (.int nv), .val (.ref r), .val (.int (32 : Int32)), .val (.int (Int32.ofNat 32)), .val (.long y), .second] [(.int (2 : Int32))]))
      refine Run.step (fun t_ k_ => XS.aloadN XJ362.here hx rfl (hb hby d4_68) rfl rfl k_) ?_
      show Run _ _ _ _ (TJ362.setTop (mkF m 69 #[.val (.ref a1), .val (.long ua), .second, .val (.long va), .second, .val (.int nv), .val (.ref r), .val (.int (32 : Int32)), .val (.int (Int32.ofNat 32)), .val (.long y), .second] [(.ref a1), (.int (2 : Int32))]))
      obtain ⟨T363, X363, e363, st363⟩ := getF XJ362 hx hZ hown (host := "") (Or.inl w23) Via.refl eJ362 F2 (g := (mkF m 69 #[.val (.ref a1), .val (.long ua), .second, .val (.long va), .second, .val (.int nv), .val (.ref r), .val (.int (32 : Int32)), .val (.int (Int32.ofNat 32)), .val (.long y), .second] [(.ref a1), (.int (2 : Int32))])) rfl rfl (hb hby d4_69)
      refine Run.step st363 ?_
      show Run _ _ _ _ (T363.setTop (mkF m 72 #[.val (.ref a1), .val (.long ua), .second, .val (.long va), .second, .val (.int nv), .val (.ref r), .val (.int (32 : Int32)), .val (.int (Int32.ofNat 32)), .val (.long y), .second] [(.long (2 : Int64)), (.int (2 : Int32))]))
      refine Run.step (fun t_ k_ => X363.ldc2Long hx hown (mvT hZ w25) (g := (mkF m 72 #[.val (.ref a1), .val (.long ua), .second, .val (.long va), .second, .val (.int nv), .val (.ref r), .val (.int (32 : Int32)), .val (.int (Int32.ofNat 32)), .val (.long y), .second] [(.long (2 : Int64)), (.int (2 : Int32))])) rfl (hb hby d4_72) _ k_) ?_
      show Run _ _ _ _ (T363.setTop (mkF m 75 #[.val (.ref a1), .val (.long ua), .second, .val (.long va), .second, .val (.int nv), .val (.ref r), .val (.int (32 : Int32)), .val (.int (Int32.ofNat 32)), .val (.long y), .second] [(.long (16 : Int64)), (.long (2 : Int64)), (.int (2 : Int32))]))
      refine Run.step (fun t_ k_ => own_lrem X363 hx rfl (hb hby d4_75) rfl (by decide) k_) ?_
      show Run _ _ _ _ (T363.setTop (mkF m 76 #[.val (.ref a1), .val (.long ua), .second, .val (.long va), .second, .val (.int nv), .val (.ref r), .val (.int (32 : Int32)), .val (.int (Int32.ofNat 32)), .val (.long y), .second] [(.long (2 : Int64)), (.int (2 : Int32))]))
      refine Run.step (fun t_ k_ => XS.l2i X363.here hx rfl (hb hby d4_76) rfl k_) ?_
      show Run _ _ _ _ (T363.setTop (mkF m 77 #[.val (.ref a1), .val (.long ua), .second, .val (.long va), .second, .val (.int nv), .val (.ref r), .val (.int (32 : Int32)), .val (.int (Int32.ofNat 32)), .val (.long y), .second] [(.int (2 : Int32)), (.int (2 : Int32))]))
      refine Run.step (fun t_ k_ => XS.imul X363.here hx rfl (hb hby d4_77) rfl k_) ?_
      show Run _ _ _ _ (T363.setTop (mkF m 78 #[.val (.ref a1), .val (.long ua), .second, .val (.long va), .second, .val (.int nv), .val (.ref r), .val (.int (32 : Int32)), .val (.int (Int32.ofNat 32)), .val (.long y), .second] [(.int (4 : Int32))]))
      refine Run.step (fun t_ k_ => XS.istore X363.here hx rfl (hb hby d4_78) rfl (l' := #[.val (.ref a1), .val (.long ua), .second, .val (.long va), .second, .val (.int nv), .val (.int (4 : Int32)), .val (.int (32 : Int32)), .val (.int (Int32.ofNat 32)), .val (.long y), .second]) rfl k_) ?_
      show Run _ _ _ _ (T363.setTop (mkF m 80 #[.val (.ref a1), .val (.long ua), .second, .val (.long va), .second, .val (.int nv), .val (.int (4 : Int32)), .val (.int (32 : Int32)), .val (.int (Int32.ofNat 32)), .val (.long y), .second] []))
      refine Run.step (fun t_ k_ => XS.aloadN X363.here hx rfl (hb hby d4_80) rfl rfl k_) ?_
      show Run _ _ _ _ (T363.setTop (mkF m 81 #[.val (.ref a1), .val (.long ua), .second, .val (.long va), .second, .val (.int nv), .val (.int (4 : Int32)), .val (.int (32 : Int32)), .val (.int (Int32.ofNat 32)), .val (.long y), .second] [(.ref a1)]))
      obtain ⟨T364, X364, e364, st364⟩ := getF X363 hx hZ hown (host := "") (Or.inl w11) Via.refl e363 F1 (g := (mkF m 81 #[.val (.ref a1), .val (.long ua), .second, .val (.long va), .second, .val (.int nv), .val (.int (4 : Int32)), .val (.int (32 : Int32)), .val (.int (Int32.ofNat 32)), .val (.long y), .second] [(.ref a1)])) rfl rfl (hb hby d4_81)
      refine Run.step st364 ?_
      show Run _ _ _ _ (T364.setTop (mkF m 84 #[.val (.ref a1), .val (.long ua), .second, .val (.long va), .second, .val (.int nv), .val (.int (4 : Int32)), .val (.int (32 : Int32)), .val (.int (Int32.ofNat 32)), .val (.long y), .second] [(.ref r)]))
      refine Run.step (fun t_ k_ => XS.iload X364.here hx rfl (hb hby d4_84) rfl k_) ?_
      show Run _ _ _ _ (T364.setTop (mkF m 86 #[.val (.ref a1), .val (.long ua), .second, .val (.long va), .second, .val (.int nv), .val (.int (4 : Int32)), .val (.int (32 : Int32)), .val (.int (Int32.ofNat 32)), .val (.long y), .second] [(.int (4 : Int32)), (.ref r)]))
      refine Run.step (fun t_ k_ => XS.lloadN X364.here hx rfl (hb hby d4_86) rfl k_) ?_
      show Run _ _ _ _ (T364.setTop (mkF m 87 #[.val (.ref a1), .val (.long ua), .second, .val (.long va), .second, .val (.int nv), .val (.int (4 : Int32)), .val (.int (32 : Int32)), .val (.int (Int32.ofNat 32)), .val (.long y), .second] [(.long ua), (.int (4 : Int32)), (.ref r)]))
      obtain ⟨cl365, Ar365, q365, S365, M365, H365, U365⟩ := id V1
      have hin366 : ¬ ((4 : Int32) < 0 ∨ cl365.slots.size ≤ ((4 : Int32)).toNatClampNeg) := inb_of S365 ⟨by decide, by decide⟩
      obtain ⟨T366, h366, X366, e366, W366, st366⟩ := stJ X364 hx hZ e364 Ar365 (j := (4 : Int32)) hin366 (g := (mkF m 87 #[.val (.ref a1), .val (.long ua), .second, .val (.long va), .second, .val (.int nv), .val (.int (4 : Int32)), .val (.int (32 : Int32)), .val (.int (Int32.ofNat 32)), .val (.long y), .second] [(.long ua), (.int (4 : Int32)), (.ref r)])) rfl rfl (hb hby d4_87)
      refine Run.step st366 ?_
      have f367 : Arv Z h366 r kk .long (32 : Int32) (own_l (own_up f 4 ua)) (.long (0 : Int64)) := Arv.set Ar365 q365 S365 M365 H365 U365 rfl W366 4 rfl (Nat.le_of_ble_eq_true rfl)
      have f368 := F1.other W366 (Or.inl (Ne.symm ne))
      have f369 := F2.other W366 (Or.inl (Ne.symm ne))
      have f370 := F3.other W366 (Or.inl (Ne.symm ne))
      have f371 := E1.wr W366
      have z373 := Nat.le_trans Z0 (Keep.of_wr W366).1
      have K374 := (Keep.refl h0 [a1, r]).wr W366 (Or.inl (List.mem_of_getElem? (i := 1) rfl))
      have N375 := Fr.snoc X366 NJ362 g2
      show Run _ _ _ _ (T366.setTop (mkF m 88 #[.val (.ref a1), .val (.long ua), .second, .val (.long va), .second, .val (.int nv), .val (.int (4 : Int32)), .val (.int (32 : Int32)), .val (.int (Int32.ofNat 32)), .val (.long y), .second] []))
      refine Run.step (fun t_ k_ => XS.aloadN X366.here hx rfl (hb hby d4_88) rfl rfl k_) ?_
      show Run _ _ _ _ (T366.setTop (mkF m 89 #[.val (.ref a1), .val (.long ua), .second, .val (.long va), .second, .val (.int nv), .val (.int (4 : Int32)), .val (.int (32 : Int32)), .val (.int (Int32.ofNat 32)), .val (.long y), .second] [(.ref a1)]))
      obtain ⟨T376, X376, e376, st376⟩ := getF X366 hx hZ hown (host := "") (Or.inl w11) Via.refl e366 f368 (g := (mkF m 89 #[.val (.ref a1), .val (.long ua), .second, .val (.long va), .second, .val (.int nv), .val (.int (4 : Int32)), .val (.int (32 : Int32)), .val (.int (Int32.ofNat 32)), .val (.long y), .second] [(.ref a1)])) rfl rfl (hb hby d4_89)
      refine Run.step st376 ?_
      show Run _ _ _ _ (T376.setTop (mkF m 92 #[.val (.ref a1), .val (.long ua), .second, .val (.long va), .second, .val (.int nv), .val (.int (4 : Int32)), .val (.int (32 : Int32)), .val (.int (Int32.ofNat 32)), .val (.long y), .second] [(.ref r)]))
      refine Run.step (fun t_ k_ => XS.iload X376.here hx rfl (hb hby d4_92) rfl k_) ?_
      show Run _ _ _ _ (T376.setTop (mkF m 94 #[.val (.ref a1), .val (.long ua), .second, .val (.long va), .second, .val (.int nv), .val (.int (4 : Int32)), .val (.int (32 : Int32)), .val (.int (Int32.ofNat 32)), .val (.long y), .second] [(.int (4 : Int32)), (.ref r)]))
      refine Run.step (fun t_ k_ => XS.iconst X376.here hx rfl (hb hby d4_94) k_) ?_
      show Run _ _ _ _ (T376.setTop (mkF m 95 #[.val (.ref a1), .val (.long ua), .second, .val (.long va), .second, .val (.int nv), .val (.int (4 : Int32)), .val (.int (32 : Int32)), .val (.int (Int32.ofNat 32)), .val (.long y), .second] [(.int (1 : Int32)), (.int (4 : Int32)), (.ref r)]))
      refine Run.step (fun t_ k_ => XS.iadd X376.here hx rfl (hb hby d4_95) rfl k_) ?_
      show Run _ _ _ _ (T376.setTop (mkF m 96 #[.val (.ref a1), .val (.long ua), .second, .val (.long va), .second, .val (.int nv), .val (.int (4 : Int32)), .val (.int (32 : Int32)), .val (.int (Int32.ofNat 32)), .val (.long y), .second] [(.int (5 : Int32)), (.ref r)]))
      refine Run.step (fun t_ k_ => XS.lloadN X376.here hx rfl (hb hby d4_96) rfl k_) ?_
      show Run _ _ _ _ (T376.setTop (mkF m 97 #[.val (.ref a1), .val (.long ua), .second, .val (.long va), .second, .val (.int nv), .val (.int (4 : Int32)), .val (.int (32 : Int32)), .val (.int (Int32.ofNat 32)), .val (.long y), .second] [(.long va), (.int (5 : Int32)), (.ref r)]))
      obtain ⟨cl377, Ar377, q377, S377, M377, H377, U377⟩ := id f367
      have hin378 : ¬ ((5 : Int32) < 0 ∨ cl377.slots.size ≤ ((5 : Int32)).toNatClampNeg) := inb_of S377 ⟨by decide, by decide⟩
      obtain ⟨T378, h378, X378, e378, W378, st378⟩ := stJ X376 hx hZ e376 Ar377 (j := (5 : Int32)) hin378 (g := (mkF m 97 #[.val (.ref a1), .val (.long ua), .second, .val (.long va), .second, .val (.int nv), .val (.int (4 : Int32)), .val (.int (32 : Int32)), .val (.int (Int32.ofNat 32)), .val (.long y), .second] [(.long va), (.int (5 : Int32)), (.ref r)])) rfl rfl (hb hby d4_97)
      refine Run.step st378 ?_
      have f379 : Arv Z h378 r kk .long (32 : Int32) (own_l (own_up (own_up f 4 ua) 5 va)) (.long (0 : Int64)) := Arv.set Ar377 q377 S377 M377 H377 U377 rfl W378 5 rfl (Nat.le_of_ble_eq_true rfl)
      have f380 := f368.other W378 (Or.inl (Ne.symm ne))
      have f381 := f369.other W378 (Or.inl (Ne.symm ne))
      have f382 := f370.other W378 (Or.inl (Ne.symm ne))
      have f383 := f371.wr W378
      have z385 := Nat.le_trans z373 (Keep.of_wr W378).1
      have K386 := K374.wr W378 (Or.inl (List.mem_of_getElem? (i := 1) rfl))
      have N387 := Fr.snoc X378 N375 g2
      show Run _ _ _ _ (T378.setTop (mkF m 98 #[.val (.ref a1), .val (.long ua), .second, .val (.long va), .second, .val (.int nv), .val (.int (4 : Int32)), .val (.int (32 : Int32)), .val (.int (Int32.ofNat 32)), .val (.long y), .second] []))
      refine Run.step (fun t_ k_ => XS.aloadN X378.here hx rfl (hb hby d4_98) rfl rfl k_) ?_
      show Run _ _ _ _ (T378.setTop (mkF m 99 #[.val (.ref a1), .val (.long ua), .second, .val (.long va), .second, .val (.int nv), .val (.int (4 : Int32)), .val (.int (32 : Int32)), .val (.int (Int32.ofNat 32)), .val (.long y), .second] [(.ref a1)]))
      refine Run.step (fun t_ k_ => XS.dup X378.here hx rfl (hb hby d4_99) rfl rfl k_) ?_
      show Run _ _ _ _ (T378.setTop (mkF m 100 #[.val (.ref a1), .val (.long ua), .second, .val (.long va), .second, .val (.int nv), .val (.int (4 : Int32)), .val (.int (32 : Int32)), .val (.int (Int32.ofNat 32)), .val (.long y), .second] [(.ref a1), (.ref a1)]))
      obtain ⟨T388, X388, e388, st388⟩ := getF X378 hx hZ hown (host := "") (Or.inl w23) Via.refl e378 f381 (g := (mkF m 100 #[.val (.ref a1), .val (.long ua), .second, .val (.long va), .second, .val (.int nv), .val (.int (4 : Int32)), .val (.int (32 : Int32)), .val (.int (Int32.ofNat 32)), .val (.long y), .second] [(.ref a1), (.ref a1)])) rfl rfl (hb hby d4_100)
      refine Run.step st388 ?_
      show Run _ _ _ _ (T388.setTop (mkF m 103 #[.val (.ref a1), .val (.long ua), .second, .val (.long va), .second, .val (.int nv), .val (.int (4 : Int32)), .val (.int (32 : Int32)), .val (.int (Int32.ofNat 32)), .val (.long y), .second] [(.long (2 : Int64)), (.ref a1)]))
      refine Run.step (fun t_ k_ => XS.lconst X388.here hx rfl (hb hby d4_103) k_) ?_
      show Run _ _ _ _ (T388.setTop (mkF m 104 #[.val (.ref a1), .val (.long ua), .second, .val (.long va), .second, .val (.int nv), .val (.int (4 : Int32)), .val (.int (32 : Int32)), .val (.int (Int32.ofNat 32)), .val (.long y), .second] [(.long (1 : Int64)), (.long (2 : Int64)), (.ref a1)]))
      refine Run.step (fun t_ k_ => XS.ladd X388.here hx rfl (hb hby d4_104) rfl k_) ?_
      show Run _ _ _ _ (T388.setTop (mkF m 105 #[.val (.ref a1), .val (.long ua), .second, .val (.long va), .second, .val (.int nv), .val (.int (4 : Int32)), .val (.int (32 : Int32)), .val (.int (Int32.ofNat 32)), .val (.long y), .second] [(.long (3 : Int64)), (.ref a1)]))
      obtain ⟨T389, h389, X389, e389, W389, st389⟩ := putF X388 hx hZ hown (host := "") (Or.inl w23) Via.refl e388 f381 f383 (Or.inl w24) w2 (ty := .long) (by decide) rfl rfl (g := (mkF m 105 #[.val (.ref a1), .val (.long ua), .second, .val (.long va), .second, .val (.int nv), .val (.int (4 : Int32)), .val (.int (32 : Int32)), .val (.int (Int32.ofNat 32)), .val (.long y), .second] [(.long (3 : Int64)), (.ref a1)])) rfl rfl (hb hby d4_105)
      refine Run.step st389 ?_
      have f390 := f380.other W389 (Or.inr (slot_ne (Or.inr w12) (Or.inl w24) (by decide) (t := (.array .long)) (t' := .long) (by decide) (by decide)))
      have f391 := f381.same W389
      have f392 := f382.other W389 (Or.inr (slot_ne (Or.inl w27) (Or.inl w24) (by decide) (t := .long) (t' := .long) (by decide) (by decide)))
      have f393 := f383.wr W389
      have f394 := f379.other W389 ne
      have z395 := Nat.le_trans z385 (Keep.of_wr W389).1
      have K396 := K386.wr W389 (Or.inl (List.mem_of_getElem? (i := 0) rfl))
      have N397 := Fr.snoc X389 N387 g1
      show Run _ _ _ _ (T389.setTop (mkF m 108 #[.val (.ref a1), .val (.long ua), .second, .val (.long va), .second, .val (.int nv), .val (.int (4 : Int32)), .val (.int (32 : Int32)), .val (.int (Int32.ofNat 32)), .val (.long y), .second] []))
      refine Run.step (fun t_ k_ => XS.iload X389.here hx rfl (hb hby d4_108) rfl k_) ?_
      show Run _ _ _ _ (T389.setTop (mkF m 110 #[.val (.ref a1), .val (.long ua), .second, .val (.long va), .second, .val (.int nv), .val (.int (4 : Int32)), .val (.int (32 : Int32)), .val (.int (Int32.ofNat 32)), .val (.long y), .second] [(.int nv)]))
      by_cases c110 : nv = (0 : Int32)
      · skip
        refine Run.step (fun t_ k_ => XS.ifYes X389.here hx rfl (pc0 := 110) (pc' := 123) rfl (hb hby d4_110) rfl (XT.i0_eq_t c110) (by decide) (by decide) k_) ?_
        show Run _ _ _ _ (T389.setTop (mkF m 123 #[.val (.ref a1), .val (.long ua), .second, .val (.long va), .second, .val (.int nv), .val (.int (4 : Int32)), .val (.int (32 : Int32)), .val (.int (Int32.ofNat 32)), .val (.long y), .second] []))
        exact finV X389 hx (BodyLoose.notSynchronized Bd) Bd.returns (hb hby d4_123) (by decide) (by decide) e389 ⟨rfl, N397, K396, f390, f391, (by rw [hnr, ← hn, if_pos c110]; exact f392), f394⟩
      · skip
        refine Run.step (fun t_ k_ => XS.ifNo X389.here hx rfl (hb hby d4_110) rfl (XT.i0_eq_f c110) k_) ?_
        show Run _ _ _ _ (T389.setTop (mkF m 113 #[.val (.ref a1), .val (.long ua), .second, .val (.long va), .second, .val (.int nv), .val (.int (4 : Int32)), .val (.int (32 : Int32)), .val (.int (Int32.ofNat 32)), .val (.long y), .second] []))
        refine Run.step (fun t_ k_ => XS.aloadN X389.here hx rfl (hb hby d4_113) rfl rfl k_) ?_
        show Run _ _ _ _ (T389.setTop (mkF m 114 #[.val (.ref a1), .val (.long ua), .second, .val (.long va), .second, .val (.int nv), .val (.int (4 : Int32)), .val (.int (32 : Int32)), .val (.int (Int32.ofNat 32)), .val (.long y), .second] [(.ref a1)]))
        refine Run.step (fun t_ k_ => XS.dup X389.here hx rfl (hb hby d4_114) rfl rfl k_) ?_
        show Run _ _ _ _ (T389.setTop (mkF m 115 #[.val (.ref a1), .val (.long ua), .second, .val (.long va), .second, .val (.int nv), .val (.int (4 : Int32)), .val (.int (32 : Int32)), .val (.int (Int32.ofNat 32)), .val (.long y), .second] [(.ref a1), (.ref a1)]))
        obtain ⟨T398, X398, e398, st398⟩ := getF X389 hx hZ hown (host := "") (Or.inl w26) Via.refl e389 f392 (g := (mkF m 115 #[.val (.ref a1), .val (.long ua), .second, .val (.long va), .second, .val (.int nv), .val (.int (4 : Int32)), .val (.int (32 : Int32)), .val (.int (Int32.ofNat 32)), .val (.long y), .second] [(.ref a1), (.ref a1)])) rfl rfl (hb hby d4_115)
        refine Run.step st398 ?_
        show Run _ _ _ _ (T398.setTop (mkF m 118 #[.val (.ref a1), .val (.long ua), .second, .val (.long va), .second, .val (.int nv), .val (.int (4 : Int32)), .val (.int (32 : Int32)), .val (.int (Int32.ofNat 32)), .val (.long y), .second] [(.long nr), (.ref a1)]))
        refine Run.step (fun t_ k_ => XS.lconst X398.here hx rfl (hb hby d4_118) k_) ?_
        show Run _ _ _ _ (T398.setTop (mkF m 119 #[.val (.ref a1), .val (.long ua), .second, .val (.long va), .second, .val (.int nv), .val (.int (4 : Int32)), .val (.int (32 : Int32)), .val (.int (Int32.ofNat 32)), .val (.long y), .second] [(.long (1 : Int64)), (.long nr), (.ref a1)]))
        refine Run.step (fun t_ k_ => XS.ladd X398.here hx rfl (hb hby d4_119) rfl k_) ?_
        show Run _ _ _ _ (T398.setTop (mkF m 120 #[.val (.ref a1), .val (.long ua), .second, .val (.long va), .second, .val (.int nv), .val (.int (4 : Int32)), .val (.int (32 : Int32)), .val (.int (Int32.ofNat 32)), .val (.long y), .second] [(.long (nr + (1 : Int64))), (.ref a1)]))
        obtain ⟨T399, h399, X399, e399, W399, st399⟩ := putF X398 hx hZ hown (host := "") (Or.inl w26) Via.refl e398 f392 f393 (Or.inl w27) w2 (ty := .long) (by decide) rfl rfl (g := (mkF m 120 #[.val (.ref a1), .val (.long ua), .second, .val (.long va), .second, .val (.int nv), .val (.int (4 : Int32)), .val (.int (32 : Int32)), .val (.int (Int32.ofNat 32)), .val (.long y), .second] [(.long (nr + (1 : Int64))), (.ref a1)])) rfl rfl (hb hby d4_120)
        refine Run.step st399 ?_
        have f400 := f390.other W399 (Or.inr (slot_ne (Or.inr w12) (Or.inl w27) (by decide) (t := (.array .long)) (t' := .long) (by decide) (by decide)))
        have f401 := f391.other W399 (Or.inr (slot_ne (Or.inl w24) (Or.inl w27) (by decide) (t := .long) (t' := .long) (by decide) (by decide)))
        have f402 := f392.same W399
        have f403 := f393.wr W399
        have f404 := f394.other W399 ne
        have z405 := Nat.le_trans z395 (Keep.of_wr W399).1
        have K406 := K396.wr W399 (Or.inl (List.mem_of_getElem? (i := 0) rfl))
        have N407 := Fr.snoc X399 N397 g1
        show Run _ _ _ _ (T399.setTop (mkF m 123 #[.val (.ref a1), .val (.long ua), .second, .val (.long va), .second, .val (.int nv), .val (.int (4 : Int32)), .val (.int (32 : Int32)), .val (.int (Int32.ofNat 32)), .val (.long y), .second] []))
        exact finV X399 hx (BodyLoose.notSynchronized Bd) Bd.returns (hb hby d4_123) (by decide) (by decide) e399 ⟨rfl, N407, K406, f400, f401, (by rw [hnr, ← hn, if_neg c110]; exact f402), f404⟩
    | succ k ih =>
      intro i hi TJ362 LJ362 XJ362 eJ362 NJ362 nv y hn
      have hlt : i < 32 := by omega
      refine Run.step (fun t_ k_ => XS.iload XJ362.here hx rfl (hb hby d4_17) rfl k_) ?_
      show Run _ _ _ _ (TJ362.setTop (mkF m 19 #[.val (.ref a1), .val (.long ua), .second, .val (.long va), .second, .val (.int nv), .val (.ref r), .val (.int (32 : Int32)), .val (.int (Int32.ofNat i)), .val (.long y), .second] [(.int (Int32.ofNat i))]))
      refine Run.step (fun t_ k_ => XS.iload XJ362.here hx rfl (hb hby d4_19) rfl k_) ?_
      show Run _ _ _ _ (TJ362.setTop (mkF m 21 #[.val (.ref a1), .val (.long ua), .second, .val (.long va), .second, .val (.int nv), .val (.ref r), .val (.int (32 : Int32)), .val (.int (Int32.ofNat i)), .val (.long y), .second] [(.int (32 : Int32)), (.int (Int32.ofNat i))]))
      refine Run.step (fun t_ k_ => XS.icmpNo XJ362.here hx rfl (hb hby d4_21) rfl (XT.ii_ge_f ((own_nat hlt).2.2.1 : (Int32.ofNat i) < (32 : Int32))) k_) ?_
      show Run _ _ _ _ (TJ362.setTop (mkF m 24 #[.val (.ref a1), .val (.long ua), .second, .val (.long va), .second, .val (.int nv), .val (.ref r), .val (.int (32 : Int32)), .val (.int (Int32.ofNat i)), .val (.long y), .second] []))
      refine Run.step (fun t_ k_ => XS.aload XJ362.here hx rfl (hb hby d4_24) rfl rfl k_) ?_
      show Run _ _ _ _ (TJ362.setTop (mkF m 26 #[.val (.ref a1), .val (.long ua), .second, .val (.long va), .second, .val (.int nv), .val (.ref r), .val (.int (32 : Int32)), .val (.int (Int32.ofNat i)), .val (.long y), .second] [(.ref r)]))
      refine Run.step (fun t_ k_ => XS.iload XJ362.here hx rfl (hb hby d4_26) rfl k_) ?_
      show Run _ _ _ _ (TJ362.setTop (mkF m 28 #[.val (.ref a1), .val (.long ua), .second, .val (.long va), .second, .val (.int nv), .val (.ref r), .val (.int (32 : Int32)), .val (.int (Int32.ofNat i)), .val (.long y), .second] [(.int (Int32.ofNat i)), (.ref r)]))
      obtain ⟨cl408, Ar408, q408, S408, M408, H408, U408⟩ := id V1
      have hin409 : ¬ ((Int32.ofNat i) < 0 ∨ cl408.slots.size ≤ ((Int32.ofNat i)).toNatClampNeg) := inb_of S408 ⟨(own_nat hlt).2.1, (own_nat hlt).2.2.1⟩
      have hat409 : cl408.slots[((Int32.ofNat i)).toNatClampNeg]? = some (.long (f i)) := H408.at hin409 (by rw [(own_nat hlt).1]; exact own_get f hlt _)
      refine Run.step (fun t_ k_ => XJ362.laload hx (j := (Int32.ofNat i)) (v := (.long (f i))) (by rw [eJ362]; exact Ar408.1) (State.isArrayOf_alike hZ.alike Ar408.2.1) Ar408.2.2 hin409 hat409 (g := (mkF m 28 #[.val (.ref a1), .val (.long ua), .second, .val (.long va), .second, .val (.int nv), .val (.ref r), .val (.int (32 : Int32)), .val (.int (Int32.ofNat i)), .val (.long y), .second] [(.int (Int32.ofNat i)), (.ref r)])) rfl rfl (hb hby d4_28) _ k_) ?_
      show Run _ _ _ _ (TJ362.setTop (mkF m 29 #[.val (.ref a1), .val (.long ua), .second, .val (.long va), .second, .val (.int nv), .val (.ref r), .val (.int (32 : Int32)), .val (.int (Int32.ofNat i)), .val (.long y), .second] [(.long (f i))]))
      refine Run.step (fun t_ k_ => XS.lstore XJ362.here hx rfl (hb hby d4_29) rfl (l' := #[.val (.ref a1), .val (.long ua), .second, .val (.long va), .second, .val (.int nv), .val (.ref r), .val (.int (32 : Int32)), .val (.int (Int32.ofNat i)), .val (.long (f i)), .second]) rfl k_) ?_
      show Run _ _ _ _ (TJ362.setTop (mkF m 31 #[.val (.ref a1), .val (.long ua), .second, .val (.long va), .second, .val (.int nv), .val (.ref r), .val (.int (32 : Int32)), .val (.int (Int32.ofNat i)), .val (.long (f i)), .second] []))
      refine Run.step (fun t_ k_ => XS.iload XJ362.here hx rfl (hb hby d4_31) rfl k_) ?_
      show Run _ _ _ _ (TJ362.setTop (mkF m 33 #[.val (.ref a1), .val (.long ua), .second, .val (.long va), .second, .val (.int nv), .val (.ref r), .val (.int (32 : Int32)), .val (.int (Int32.ofNat i)), .val (.long (f i)), .second] [(.int nv)]))
      refine Run.step (fun t_ k_ => XS.lload XJ362.here hx rfl (hb hby d4_33) rfl k_) ?_
      show Run _ _ _ _ (TJ362.setTop (mkF m 35 #[.val (.ref a1), .val (.long ua), .second, .val (.long va), .second, .val (.int nv), .val (.ref r), .val (.int (32 : Int32)), .val (.int (Int32.ofNat i)), .val (.long (f i)), .second] [(.long (f i)), (.int nv)]))
      refine Run.step (fun t_ k_ => XS.lloadN XJ362.here hx rfl (hb hby d4_35) rfl k_) ?_
      show Run _ _ _ _ (TJ362.setTop (mkF m 36 #[.val (.ref a1), .val (.long ua), .second, .val (.long va), .second, .val (.int nv), .val (.ref r), .val (.int (32 : Int32)), .val (.int (Int32.ofNat i)), .val (.long (f i)), .second] [(.long ua), (.long (f i)), (.int nv)]))
      refine Run.step (fun t_ k_ => XS.lcmp XJ362.here hx rfl (hb hby d4_36) rfl k_) ?_
      show Run _ _ _ _ (TJ362.setTop (mkF m 37 #[.val (.ref a1), .val (.long ua), .second, .val (.long va), .second, .val (.int nv), .val (.ref r), .val (.int (32 : Int32)), .val (.int (Int32.ofNat i)), .val (.long (f i)), .second] [(.int (lcmpW (f i) ua)), (.int nv)]))
      by_cases c37 : (f i) = ua
      · skip
        refine Run.step (fun t_ k_ => XS.ifNo XJ362.here hx rfl (hb hby d4_37) rfl (XT.ll_ne_f c37) k_) ?_
        show Run _ _ _ _ (TJ362.setTop (mkF m 40 #[.val (.ref a1), .val (.long ua), .second, .val (.long va), .second, .val (.int nv), .val (.ref r), .val (.int (32 : Int32)), .val (.int (Int32.ofNat i)), .val (.long (f i)), .second] [(.int nv)]))
        refine Run.step (fun t_ k_ => XS.iconst XJ362.here hx rfl (hb hby d4_40) k_) ?_
        show Run _ _ _ _ (TJ362.setTop (mkF m 41 #[.val (.ref a1), .val (.long ua), .second, .val (.long va), .second, .val (.int nv), .val (.ref r), .val (.int (32 : Int32)), .val (.int (Int32.ofNat i)), .val (.long (f i)), .second] [(.int (1 : Int32)), (.int nv)]))
        refine Run.step (fun t_ k_ => XS.goto XJ362.here hx rfl (pc0 := 41) (pc' := 45) rfl (hb hby d4_41) (by decide) (by decide) k_) ?_
        show Run _ _ _ _ (TJ362.setTop (mkF m 45 #[.val (.ref a1), .val (.long ua), .second, .val (.long va), .second, .val (.int nv), .val (.ref r), .val (.int (32 : Int32)), .val (.int (Int32.ofNat i)), .val (.long (f i)), .second] [(.int (1 : Int32)), (.int nv)]))
        refine Run.step (fun t_ k_ => XS.lload XJ362.here hx rfl (hb hby d4_45) rfl k_) ?_
        show Run _ _ _ _ (TJ362.setTop (mkF m 47 #[.val (.ref a1), .val (.long ua), .second, .val (.long va), .second, .val (.int nv), .val (.ref r), .val (.int (32 : Int32)), .val (.int (Int32.ofNat i)), .val (.long (f i)), .second] [(.long (f i)), (.int (1 : Int32)), (.int nv)]))
        refine Run.step (fun t_ k_ => XS.lloadN XJ362.here hx rfl (hb hby d4_47) rfl k_) ?_
        show Run _ _ _ _ (TJ362.setTop (mkF m 48 #[.val (.ref a1), .val (.long ua), .second, .val (.long va), .second, .val (.int nv), .val (.ref r), .val (.int (32 : Int32)), .val (.int (Int32.ofNat i)), .val (.long (f i)), .second] [(.long va), (.long (f i)), (.int (1 : Int32)), (.int nv)]))
        refine Run.step (fun t_ k_ => XS.lcmp XJ362.here hx rfl (hb hby d4_48) rfl k_) ?_
        show Run _ _ _ _ (TJ362.setTop (mkF m 49 #[.val (.ref a1), .val (.long ua), .second, .val (.long va), .second, .val (.int nv), .val (.ref r), .val (.int (32 : Int32)), .val (.int (Int32.ofNat i)), .val (.long (f i)), .second] [(.int (lcmpW (f i) va)), (.int (1 : Int32)), (.int nv)]))
        by_cases c49 : (f i) = va
        · skip
          refine Run.step (fun t_ k_ => XS.ifNo XJ362.here hx rfl (hb hby d4_49) rfl (XT.ll_ne_f c49) k_) ?_
          show Run _ _ _ _ (TJ362.setTop (mkF m 52 #[.val (.ref a1), .val (.long ua), .second, .val (.long va), .second, .val (.int nv), .val (.ref r), .val (.int (32 : Int32)), .val (.int (Int32.ofNat i)), .val (.long (f i)), .second] [(.int (1 : Int32)), (.int nv)]))
          refine Run.step (fun t_ k_ => XS.iconst XJ362.here hx rfl (hb hby d4_52) k_) ?_
          show Run _ _ _ _ (TJ362.setTop (mkF m 53 #[.val (.ref a1), .val (.long ua), .second, .val (.long va), .second, .val (.int nv), .val (.ref r), .val (.int (32 : Int32)), .val (.int (Int32.ofNat i)), .val (.long (f i)), .second] [(.int (1 : Int32)), (.int (1 : Int32)), (.int nv)]))
          refine Run.step (fun t_ k_ => XS.goto XJ362.here hx rfl (pc0 := 53) (pc' := 57) rfl (hb hby d4_53) (by decide) (by decide) k_) ?_
          show Run _ _ _ _ (TJ362.setTop (mkF m 57 #[.val (.ref a1), .val (.long ua), .second, .val (.long va), .second, .val (.int nv), .val (.ref r), .val (.int (32 : Int32)), .val (.int (Int32.ofNat i)), .val (.long (f i)), .second] [(.int (1 : Int32)), (.int (1 : Int32)), (.int nv)]))
          refine Run.step (fun t_ k_ => XS.ior XJ362.here hx rfl (hb hby d4_57) rfl k_) ?_
          show Run _ _ _ _ (TJ362.setTop (mkF m 58 #[.val (.ref a1), .val (.long ua), .second, .val (.long va), .second, .val (.int nv), .val (.ref r), .val (.int (32 : Int32)), .val (.int (Int32.ofNat i)), .val (.long (f i)), .second] [(.int ((1 : Int32) ||| (1 : Int32))), (.int nv)]))
          refine Run.step (fun t_ k_ => XS.ior XJ362.here hx rfl (hb hby d4_58) rfl k_) ?_
          show Run _ _ _ _ (TJ362.setTop (mkF m 59 #[.val (.ref a1), .val (.long ua), .second, .val (.long va), .second, .val (.int nv), .val (.ref r), .val (.int (32 : Int32)), .val (.int (Int32.ofNat i)), .val (.long (f i)), .second] [(.int (nv ||| ((1 : Int32) ||| (1 : Int32))))]))
          refine Run.step (fun t_ k_ => XS.istore XJ362.here hx rfl (hb hby d4_59) rfl (l' := #[.val (.ref a1), .val (.long ua), .second, .val (.long va), .second, .val (.int (nv ||| ((1 : Int32) ||| (1 : Int32)))), .val (.ref r), .val (.int (32 : Int32)), .val (.int (Int32.ofNat i)), .val (.long (f i)), .second]) rfl k_) ?_
          show Run _ _ _ _ (TJ362.setTop (mkF m 61 #[.val (.ref a1), .val (.long ua), .second, .val (.long va), .second, .val (.int (nv ||| ((1 : Int32) ||| (1 : Int32)))), .val (.ref r), .val (.int (32 : Int32)), .val (.int (Int32.ofNat i)), .val (.long (f i)), .second] []))
          refine Run.step (fun t_ k_ => XS.iinc XJ362.here hx rfl (hb hby d4_61) rfl (l' := #[.val (.ref a1), .val (.long ua), .second, .val (.long va), .second, .val (.int (nv ||| ((1 : Int32) ||| (1 : Int32)))), .val (.ref r), .val (.int (32 : Int32)), .val (.int ((Int32.ofNat i) + (1 : Int32))), .val (.long (f i)), .second]) rfl k_) ?_
          show Run _ _ _ _ (TJ362.setTop (mkF m 64 #[.val (.ref a1), .val (.long ua), .second, .val (.long va), .second, .val (.int (nv ||| ((1 : Int32) ||| (1 : Int32)))), .val (.ref r), .val (.int (32 : Int32)), .val (.int ((Int32.ofNat i) + (1 : Int32))), .val (.long (f i)), .second] []))
          refine Run.step (fun t_ k_ => XS.goto XJ362.here hx rfl (pc0 := 64) (pc' := 17) rfl (hb hby d4_64) (by decide) (by decide) k_) ?_
          show Run _ _ _ _ (TJ362.setTop (mkF m 17 #[.val (.ref a1), .val (.long ua), .second, .val (.long va), .second, .val (.int (nv ||| ((1 : Int32) ||| (1 : Int32)))), .val (.ref r), .val (.int (32 : Int32)), .val (.int ((Int32.ofNat i) + (1 : Int32))), .val (.long (f i)), .second] []))
          rw [(own_nat hlt).2.2.2]
          exact ih (i + 1) (by omega) _ _ XJ362 eJ362 NJ362 _ _ (by rw [hn]; show _ = own_near f ua va i ||| ((if f i = ua then 1 else 0) ||| (if f i = va then 1 else 0)); rw [if_pos c37, if_pos c49])
        · skip
          refine Run.step (fun t_ k_ => XS.ifYes XJ362.here hx rfl (pc0 := 49) (pc' := 56) rfl (hb hby d4_49) rfl (XT.ll_ne_t c49) (by decide) (by decide) k_) ?_
          show Run _ _ _ _ (TJ362.setTop (mkF m 56 #[.val (.ref a1), .val (.long ua), .second, .val (.long va), .second, .val (.int nv), .val (.ref r), .val (.int (32 : Int32)), .val (.int (Int32.ofNat i)), .val (.long (f i)), .second] [(.int (1 : Int32)), (.int nv)]))
          refine Run.step (fun t_ k_ => XS.iconst XJ362.here hx rfl (hb hby d4_56) k_) ?_
          show Run _ _ _ _ (TJ362.setTop (mkF m 57 #[.val (.ref a1), .val (.long ua), .second, .val (.long va), .second, .val (.int nv), .val (.ref r), .val (.int (32 : Int32)), .val (.int (Int32.ofNat i)), .val (.long (f i)), .second] [(.int (0 : Int32)), (.int (1 : Int32)), (.int nv)]))
          refine Run.step (fun t_ k_ => XS.ior XJ362.here hx rfl (hb hby d4_57) rfl k_) ?_
          show Run _ _ _ _ (TJ362.setTop (mkF m 58 #[.val (.ref a1), .val (.long ua), .second, .val (.long va), .second, .val (.int nv), .val (.ref r), .val (.int (32 : Int32)), .val (.int (Int32.ofNat i)), .val (.long (f i)), .second] [(.int ((1 : Int32) ||| (0 : Int32))), (.int nv)]))
          refine Run.step (fun t_ k_ => XS.ior XJ362.here hx rfl (hb hby d4_58) rfl k_) ?_
          show Run _ _ _ _ (TJ362.setTop (mkF m 59 #[.val (.ref a1), .val (.long ua), .second, .val (.long va), .second, .val (.int nv), .val (.ref r), .val (.int (32 : Int32)), .val (.int (Int32.ofNat i)), .val (.long (f i)), .second] [(.int (nv ||| ((1 : Int32) ||| (0 : Int32))))]))
          refine Run.step (fun t_ k_ => XS.istore XJ362.here hx rfl (hb hby d4_59) rfl (l' := #[.val (.ref a1), .val (.long ua), .second, .val (.long va), .second, .val (.int (nv ||| ((1 : Int32) ||| (0 : Int32)))), .val (.ref r), .val (.int (32 : Int32)), .val (.int (Int32.ofNat i)), .val (.long (f i)), .second]) rfl k_) ?_
          show Run _ _ _ _ (TJ362.setTop (mkF m 61 #[.val (.ref a1), .val (.long ua), .second, .val (.long va), .second, .val (.int (nv ||| ((1 : Int32) ||| (0 : Int32)))), .val (.ref r), .val (.int (32 : Int32)), .val (.int (Int32.ofNat i)), .val (.long (f i)), .second] []))
          refine Run.step (fun t_ k_ => XS.iinc XJ362.here hx rfl (hb hby d4_61) rfl (l' := #[.val (.ref a1), .val (.long ua), .second, .val (.long va), .second, .val (.int (nv ||| ((1 : Int32) ||| (0 : Int32)))), .val (.ref r), .val (.int (32 : Int32)), .val (.int ((Int32.ofNat i) + (1 : Int32))), .val (.long (f i)), .second]) rfl k_) ?_
          show Run _ _ _ _ (TJ362.setTop (mkF m 64 #[.val (.ref a1), .val (.long ua), .second, .val (.long va), .second, .val (.int (nv ||| ((1 : Int32) ||| (0 : Int32)))), .val (.ref r), .val (.int (32 : Int32)), .val (.int ((Int32.ofNat i) + (1 : Int32))), .val (.long (f i)), .second] []))
          refine Run.step (fun t_ k_ => XS.goto XJ362.here hx rfl (pc0 := 64) (pc' := 17) rfl (hb hby d4_64) (by decide) (by decide) k_) ?_
          show Run _ _ _ _ (TJ362.setTop (mkF m 17 #[.val (.ref a1), .val (.long ua), .second, .val (.long va), .second, .val (.int (nv ||| ((1 : Int32) ||| (0 : Int32)))), .val (.ref r), .val (.int (32 : Int32)), .val (.int ((Int32.ofNat i) + (1 : Int32))), .val (.long (f i)), .second] []))
          rw [(own_nat hlt).2.2.2]
          exact ih (i + 1) (by omega) _ _ XJ362 eJ362 NJ362 _ _ (by rw [hn]; show _ = own_near f ua va i ||| ((if f i = ua then 1 else 0) ||| (if f i = va then 1 else 0)); rw [if_pos c37, if_neg c49])
      · skip
        refine Run.step (fun t_ k_ => XS.ifYes XJ362.here hx rfl (pc0 := 37) (pc' := 44) rfl (hb hby d4_37) rfl (XT.ll_ne_t c37) (by decide) (by decide) k_) ?_
        show Run _ _ _ _ (TJ362.setTop (mkF m 44 #[.val (.ref a1), .val (.long ua), .second, .val (.long va), .second, .val (.int nv), .val (.ref r), .val (.int (32 : Int32)), .val (.int (Int32.ofNat i)), .val (.long (f i)), .second] [(.int nv)]))
        refine Run.step (fun t_ k_ => XS.iconst XJ362.here hx rfl (hb hby d4_44) k_) ?_
        show Run _ _ _ _ (TJ362.setTop (mkF m 45 #[.val (.ref a1), .val (.long ua), .second, .val (.long va), .second, .val (.int nv), .val (.ref r), .val (.int (32 : Int32)), .val (.int (Int32.ofNat i)), .val (.long (f i)), .second] [(.int (0 : Int32)), (.int nv)]))
        refine Run.step (fun t_ k_ => XS.lload XJ362.here hx rfl (hb hby d4_45) rfl k_) ?_
        show Run _ _ _ _ (TJ362.setTop (mkF m 47 #[.val (.ref a1), .val (.long ua), .second, .val (.long va), .second, .val (.int nv), .val (.ref r), .val (.int (32 : Int32)), .val (.int (Int32.ofNat i)), .val (.long (f i)), .second] [(.long (f i)), (.int (0 : Int32)), (.int nv)]))
        refine Run.step (fun t_ k_ => XS.lloadN XJ362.here hx rfl (hb hby d4_47) rfl k_) ?_
        show Run _ _ _ _ (TJ362.setTop (mkF m 48 #[.val (.ref a1), .val (.long ua), .second, .val (.long va), .second, .val (.int nv), .val (.ref r), .val (.int (32 : Int32)), .val (.int (Int32.ofNat i)), .val (.long (f i)), .second] [(.long va), (.long (f i)), (.int (0 : Int32)), (.int nv)]))
        refine Run.step (fun t_ k_ => XS.lcmp XJ362.here hx rfl (hb hby d4_48) rfl k_) ?_
        show Run _ _ _ _ (TJ362.setTop (mkF m 49 #[.val (.ref a1), .val (.long ua), .second, .val (.long va), .second, .val (.int nv), .val (.ref r), .val (.int (32 : Int32)), .val (.int (Int32.ofNat i)), .val (.long (f i)), .second] [(.int (lcmpW (f i) va)), (.int (0 : Int32)), (.int nv)]))
        by_cases c49 : (f i) = va
        · skip
          refine Run.step (fun t_ k_ => XS.ifNo XJ362.here hx rfl (hb hby d4_49) rfl (XT.ll_ne_f c49) k_) ?_
          show Run _ _ _ _ (TJ362.setTop (mkF m 52 #[.val (.ref a1), .val (.long ua), .second, .val (.long va), .second, .val (.int nv), .val (.ref r), .val (.int (32 : Int32)), .val (.int (Int32.ofNat i)), .val (.long (f i)), .second] [(.int (0 : Int32)), (.int nv)]))
          refine Run.step (fun t_ k_ => XS.iconst XJ362.here hx rfl (hb hby d4_52) k_) ?_
          show Run _ _ _ _ (TJ362.setTop (mkF m 53 #[.val (.ref a1), .val (.long ua), .second, .val (.long va), .second, .val (.int nv), .val (.ref r), .val (.int (32 : Int32)), .val (.int (Int32.ofNat i)), .val (.long (f i)), .second] [(.int (1 : Int32)), (.int (0 : Int32)), (.int nv)]))
          refine Run.step (fun t_ k_ => XS.goto XJ362.here hx rfl (pc0 := 53) (pc' := 57) rfl (hb hby d4_53) (by decide) (by decide) k_) ?_
          show Run _ _ _ _ (TJ362.setTop (mkF m 57 #[.val (.ref a1), .val (.long ua), .second, .val (.long va), .second, .val (.int nv), .val (.ref r), .val (.int (32 : Int32)), .val (.int (Int32.ofNat i)), .val (.long (f i)), .second] [(.int (1 : Int32)), (.int (0 : Int32)), (.int nv)]))
          refine Run.step (fun t_ k_ => XS.ior XJ362.here hx rfl (hb hby d4_57) rfl k_) ?_
          show Run _ _ _ _ (TJ362.setTop (mkF m 58 #[.val (.ref a1), .val (.long ua), .second, .val (.long va), .second, .val (.int nv), .val (.ref r), .val (.int (32 : Int32)), .val (.int (Int32.ofNat i)), .val (.long (f i)), .second] [(.int ((0 : Int32) ||| (1 : Int32))), (.int nv)]))
          refine Run.step (fun t_ k_ => XS.ior XJ362.here hx rfl (hb hby d4_58) rfl k_) ?_
          show Run _ _ _ _ (TJ362.setTop (mkF m 59 #[.val (.ref a1), .val (.long ua), .second, .val (.long va), .second, .val (.int nv), .val (.ref r), .val (.int (32 : Int32)), .val (.int (Int32.ofNat i)), .val (.long (f i)), .second] [(.int (nv ||| ((0 : Int32) ||| (1 : Int32))))]))
          refine Run.step (fun t_ k_ => XS.istore XJ362.here hx rfl (hb hby d4_59) rfl (l' := #[.val (.ref a1), .val (.long ua), .second, .val (.long va), .second, .val (.int (nv ||| ((0 : Int32) ||| (1 : Int32)))), .val (.ref r), .val (.int (32 : Int32)), .val (.int (Int32.ofNat i)), .val (.long (f i)), .second]) rfl k_) ?_
          show Run _ _ _ _ (TJ362.setTop (mkF m 61 #[.val (.ref a1), .val (.long ua), .second, .val (.long va), .second, .val (.int (nv ||| ((0 : Int32) ||| (1 : Int32)))), .val (.ref r), .val (.int (32 : Int32)), .val (.int (Int32.ofNat i)), .val (.long (f i)), .second] []))
          refine Run.step (fun t_ k_ => XS.iinc XJ362.here hx rfl (hb hby d4_61) rfl (l' := #[.val (.ref a1), .val (.long ua), .second, .val (.long va), .second, .val (.int (nv ||| ((0 : Int32) ||| (1 : Int32)))), .val (.ref r), .val (.int (32 : Int32)), .val (.int ((Int32.ofNat i) + (1 : Int32))), .val (.long (f i)), .second]) rfl k_) ?_
          show Run _ _ _ _ (TJ362.setTop (mkF m 64 #[.val (.ref a1), .val (.long ua), .second, .val (.long va), .second, .val (.int (nv ||| ((0 : Int32) ||| (1 : Int32)))), .val (.ref r), .val (.int (32 : Int32)), .val (.int ((Int32.ofNat i) + (1 : Int32))), .val (.long (f i)), .second] []))
          refine Run.step (fun t_ k_ => XS.goto XJ362.here hx rfl (pc0 := 64) (pc' := 17) rfl (hb hby d4_64) (by decide) (by decide) k_) ?_
          show Run _ _ _ _ (TJ362.setTop (mkF m 17 #[.val (.ref a1), .val (.long ua), .second, .val (.long va), .second, .val (.int (nv ||| ((0 : Int32) ||| (1 : Int32)))), .val (.ref r), .val (.int (32 : Int32)), .val (.int ((Int32.ofNat i) + (1 : Int32))), .val (.long (f i)), .second] []))
          rw [(own_nat hlt).2.2.2]
          exact ih (i + 1) (by omega) _ _ XJ362 eJ362 NJ362 _ _ (by rw [hn]; show _ = own_near f ua va i ||| ((if f i = ua then 1 else 0) ||| (if f i = va then 1 else 0)); rw [if_neg c37, if_pos c49])
        · skip
          refine Run.step (fun t_ k_ => XS.ifYes XJ362.here hx rfl (pc0 := 49) (pc' := 56) rfl (hb hby d4_49) rfl (XT.ll_ne_t c49) (by decide) (by decide) k_) ?_
          show Run _ _ _ _ (TJ362.setTop (mkF m 56 #[.val (.ref a1), .val (.long ua), .second, .val (.long va), .second, .val (.int nv), .val (.ref r), .val (.int (32 : Int32)), .val (.int (Int32.ofNat i)), .val (.long (f i)), .second] [(.int (0 : Int32)), (.int nv)]))
          refine Run.step (fun t_ k_ => XS.iconst XJ362.here hx rfl (hb hby d4_56) k_) ?_
          show Run _ _ _ _ (TJ362.setTop (mkF m 57 #[.val (.ref a1), .val (.long ua), .second, .val (.long va), .second, .val (.int nv), .val (.ref r), .val (.int (32 : Int32)), .val (.int (Int32.ofNat i)), .val (.long (f i)), .second] [(.int (0 : Int32)), (.int (0 : Int32)), (.int nv)]))
          refine Run.step (fun t_ k_ => XS.ior XJ362.here hx rfl (hb hby d4_57) rfl k_) ?_
          show Run _ _ _ _ (TJ362.setTop (mkF m 58 #[.val (.ref a1), .val (.long ua), .second, .val (.long va), .second, .val (.int nv), .val (.ref r), .val (.int (32 : Int32)), .val (.int (Int32.ofNat i)), .val (.long (f i)), .second] [(.int ((0 : Int32) ||| (0 : Int32))), (.int nv)]))
          refine Run.step (fun t_ k_ => XS.ior XJ362.here hx rfl (hb hby d4_58) rfl k_) ?_
          show Run _ _ _ _ (TJ362.setTop (mkF m 59 #[.val (.ref a1), .val (.long ua), .second, .val (.long va), .second, .val (.int nv), .val (.ref r), .val (.int (32 : Int32)), .val (.int (Int32.ofNat i)), .val (.long (f i)), .second] [(.int (nv ||| ((0 : Int32) ||| (0 : Int32))))]))
          refine Run.step (fun t_ k_ => XS.istore XJ362.here hx rfl (hb hby d4_59) rfl (l' := #[.val (.ref a1), .val (.long ua), .second, .val (.long va), .second, .val (.int (nv ||| ((0 : Int32) ||| (0 : Int32)))), .val (.ref r), .val (.int (32 : Int32)), .val (.int (Int32.ofNat i)), .val (.long (f i)), .second]) rfl k_) ?_
          show Run _ _ _ _ (TJ362.setTop (mkF m 61 #[.val (.ref a1), .val (.long ua), .second, .val (.long va), .second, .val (.int (nv ||| ((0 : Int32) ||| (0 : Int32)))), .val (.ref r), .val (.int (32 : Int32)), .val (.int (Int32.ofNat i)), .val (.long (f i)), .second] []))
          refine Run.step (fun t_ k_ => XS.iinc XJ362.here hx rfl (hb hby d4_61) rfl (l' := #[.val (.ref a1), .val (.long ua), .second, .val (.long va), .second, .val (.int (nv ||| ((0 : Int32) ||| (0 : Int32)))), .val (.ref r), .val (.int (32 : Int32)), .val (.int ((Int32.ofNat i) + (1 : Int32))), .val (.long (f i)), .second]) rfl k_) ?_
          show Run _ _ _ _ (TJ362.setTop (mkF m 64 #[.val (.ref a1), .val (.long ua), .second, .val (.long va), .second, .val (.int (nv ||| ((0 : Int32) ||| (0 : Int32)))), .val (.ref r), .val (.int (32 : Int32)), .val (.int ((Int32.ofNat i) + (1 : Int32))), .val (.long (f i)), .second] []))
          refine Run.step (fun t_ k_ => XS.goto XJ362.here hx rfl (pc0 := 64) (pc' := 17) rfl (hb hby d4_64) (by decide) (by decide) k_) ?_
          show Run _ _ _ _ (TJ362.setTop (mkF m 17 #[.val (.ref a1), .val (.long ua), .second, .val (.long va), .second, .val (.int (nv ||| ((0 : Int32) ||| (0 : Int32)))), .val (.ref r), .val (.int (32 : Int32)), .val (.int ((Int32.ofNat i) + (1 : Int32))), .val (.long (f i)), .second] []))
          rw [(own_nat hlt).2.2.2]
          exact ih (i + 1) (by omega) _ _ XJ362 eJ362 NJ362 _ _ (by rw [hn]; show _ = own_near f ua va i ||| ((if f i = ua then 1 else 0) ||| (if f i = va then 1 else 0)); rw [if_neg c37, if_neg c49])
  refine Run.step (fun t_ k_ => XS.iload X360.here hx rfl (hb hby d4_17) rfl k_) ?_
  show Run _ _ _ _ (T360.setTop (mkF m 19 #[.val (.ref a1), .val (.long ua), .second, .val (.long va), .second, .val (.int (0 : Int32)), .val (.ref r), .val (.int (32 : Int32)), .val (.int (0 : Int32)), .unset, .unset] [(.int (0 : Int32))]))
  refine Run.step (fun t_ k_ => XS.iload X360.here hx rfl (hb hby d4_19) rfl k_) ?_
  show Run _ _ _ _ (T360.setTop (mkF m 21 #[.val (.ref a1), .val (.long ua), .second, .val (.long va), .second, .val (.int (0 : Int32)), .val (.ref r), .val (.int (32 : Int32)), .val (.int (0 : Int32)), .unset, .unset] [(.int (32 : Int32)), (.int (0 : Int32))]))
  refine Run.step (fun t_ k_ => XS.icmpNo X360.here hx rfl (hb hby d4_21) rfl (XT.ii_ge_f (by decide : (0 : Int32) < (32 : Int32))) k_) ?_
  show Run _ _ _ _ (T360.setTop (mkF m 24 #[.val (.ref a1), .val (.long ua), .second, .val (.long va), .second, .val (.int (0 : Int32)), .val (.ref r), .val (.int (32 : Int32)), .val (.int (0 : Int32)), .unset, .unset] []))
  refine Run.step (fun t_ k_ => XS.aload X360.here hx rfl (hb hby d4_24) rfl rfl k_) ?_
  show Run _ _ _ _ (T360.setTop (mkF m 26 #[.val (.ref a1), .val (.long ua), .second, .val (.long va), .second, .val (.int (0 : Int32)), .val (.ref r), .val (.int (32 : Int32)), .val (.int (0 : Int32)), .unset, .unset] [(.ref r)]))
  refine Run.step (fun t_ k_ => XS.iload X360.here hx rfl (hb hby d4_26) rfl k_) ?_
  show Run _ _ _ _ (T360.setTop (mkF m 28 #[.val (.ref a1), .val (.long ua), .second, .val (.long va), .second, .val (.int (0 : Int32)), .val (.ref r), .val (.int (32 : Int32)), .val (.int (0 : Int32)), .unset, .unset] [(.int (0 : Int32)), (.ref r)]))
  obtain ⟨cl410, Ar410, q410, S410, M410, H410, U410⟩ := id V1
  have hin411 : ¬ ((0 : Int32) < 0 ∨ cl410.slots.size ≤ ((0 : Int32)).toNatClampNeg) := inb_of S410 ⟨by decide, by decide⟩
  have hat411 : cl410.slots[((0 : Int32)).toNatClampNeg]? = some (.long (f 0)) := H410.at hin411 (own_get f (by decide) _)
  refine Run.step (fun t_ k_ => X360.laload hx (j := (0 : Int32)) (v := (.long (f 0))) (by rw [e360]; exact Ar410.1) (State.isArrayOf_alike hZ.alike Ar410.2.1) Ar410.2.2 hin411 hat411 (g := (mkF m 28 #[.val (.ref a1), .val (.long ua), .second, .val (.long va), .second, .val (.int (0 : Int32)), .val (.ref r), .val (.int (32 : Int32)), .val (.int (0 : Int32)), .unset, .unset] [(.int (0 : Int32)), (.ref r)])) rfl rfl (hb hby d4_28) _ k_) ?_
  show Run _ _ _ _ (T360.setTop (mkF m 29 #[.val (.ref a1), .val (.long ua), .second, .val (.long va), .second, .val (.int (0 : Int32)), .val (.ref r), .val (.int (32 : Int32)), .val (.int (0 : Int32)), .unset, .unset] [(.long (f 0))]))
  refine Run.step (fun t_ k_ => XS.lstore X360.here hx rfl (hb hby d4_29) rfl (l' := #[.val (.ref a1), .val (.long ua), .second, .val (.long va), .second, .val (.int (0 : Int32)), .val (.ref r), .val (.int (32 : Int32)), .val (.int (0 : Int32)), .val (.long (f 0)), .second]) rfl k_) ?_
  show Run _ _ _ _ (T360.setTop (mkF m 31 #[.val (.ref a1), .val (.long ua), .second, .val (.long va), .second, .val (.int (0 : Int32)), .val (.ref r), .val (.int (32 : Int32)), .val (.int (0 : Int32)), .val (.long (f 0)), .second] []))
  refine Run.step (fun t_ k_ => XS.iload X360.here hx rfl (hb hby d4_31) rfl k_) ?_
  show Run _ _ _ _ (T360.setTop (mkF m 33 #[.val (.ref a1), .val (.long ua), .second, .val (.long va), .second, .val (.int (0 : Int32)), .val (.ref r), .val (.int (32 : Int32)), .val (.int (0 : Int32)), .val (.long (f 0)), .second] [(.int (0 : Int32))]))
  refine Run.step (fun t_ k_ => XS.lload X360.here hx rfl (hb hby d4_33) rfl k_) ?_
  show Run _ _ _ _ (T360.setTop (mkF m 35 #[.val (.ref a1), .val (.long ua), .second, .val (.long va), .second, .val (.int (0 : Int32)), .val (.ref r), .val (.int (32 : Int32)), .val (.int (0 : Int32)), .val (.long (f 0)), .second] [(.long (f 0)), (.int (0 : Int32))]))
  refine Run.step (fun t_ k_ => XS.lloadN X360.here hx rfl (hb hby d4_35) rfl k_) ?_
  show Run _ _ _ _ (T360.setTop (mkF m 36 #[.val (.ref a1), .val (.long ua), .second, .val (.long va), .second, .val (.int (0 : Int32)), .val (.ref r), .val (.int (32 : Int32)), .val (.int (0 : Int32)), .val (.long (f 0)), .second] [(.long ua), (.long (f 0)), (.int (0 : Int32))]))
  refine Run.step (fun t_ k_ => XS.lcmp X360.here hx rfl (hb hby d4_36) rfl k_) ?_
  show Run _ _ _ _ (T360.setTop (mkF m 37 #[.val (.ref a1), .val (.long ua), .second, .val (.long va), .second, .val (.int (0 : Int32)), .val (.ref r), .val (.int (32 : Int32)), .val (.int (0 : Int32)), .val (.long (f 0)), .second] [(.int (lcmpW (f 0) ua)), (.int (0 : Int32))]))
  by_cases c37 : (f 0) = ua
  · skip
    refine Run.step (fun t_ k_ => XS.ifNo X360.here hx rfl (hb hby d4_37) rfl (XT.ll_ne_f c37) k_) ?_
    show Run _ _ _ _ (T360.setTop (mkF m 40 #[.val (.ref a1), .val (.long ua), .second, .val (.long va), .second, .val (.int (0 : Int32)), .val (.ref r), .val (.int (32 : Int32)), .val (.int (0 : Int32)), .val (.long (f 0)), .second] [(.int (0 : Int32))]))
    refine Run.step (fun t_ k_ => XS.iconst X360.here hx rfl (hb hby d4_40) k_) ?_
    show Run _ _ _ _ (T360.setTop (mkF m 41 #[.val (.ref a1), .val (.long ua), .second, .val (.long va), .second, .val (.int (0 : Int32)), .val (.ref r), .val (.int (32 : Int32)), .val (.int (0 : Int32)), .val (.long (f 0)), .second] [(.int (1 : Int32)), (.int (0 : Int32))]))
    refine Run.step (fun t_ k_ => XS.goto X360.here hx rfl (pc0 := 41) (pc' := 45) rfl (hb hby d4_41) (by decide) (by decide) k_) ?_
    show Run _ _ _ _ (T360.setTop (mkF m 45 #[.val (.ref a1), .val (.long ua), .second, .val (.long va), .second, .val (.int (0 : Int32)), .val (.ref r), .val (.int (32 : Int32)), .val (.int (0 : Int32)), .val (.long (f 0)), .second] [(.int (1 : Int32)), (.int (0 : Int32))]))
    refine Run.step (fun t_ k_ => XS.lload X360.here hx rfl (hb hby d4_45) rfl k_) ?_
    show Run _ _ _ _ (T360.setTop (mkF m 47 #[.val (.ref a1), .val (.long ua), .second, .val (.long va), .second, .val (.int (0 : Int32)), .val (.ref r), .val (.int (32 : Int32)), .val (.int (0 : Int32)), .val (.long (f 0)), .second] [(.long (f 0)), (.int (1 : Int32)), (.int (0 : Int32))]))
    refine Run.step (fun t_ k_ => XS.lloadN X360.here hx rfl (hb hby d4_47) rfl k_) ?_
    show Run _ _ _ _ (T360.setTop (mkF m 48 #[.val (.ref a1), .val (.long ua), .second, .val (.long va), .second, .val (.int (0 : Int32)), .val (.ref r), .val (.int (32 : Int32)), .val (.int (0 : Int32)), .val (.long (f 0)), .second] [(.long va), (.long (f 0)), (.int (1 : Int32)), (.int (0 : Int32))]))
    refine Run.step (fun t_ k_ => XS.lcmp X360.here hx rfl (hb hby d4_48) rfl k_) ?_
    show Run _ _ _ _ (T360.setTop (mkF m 49 #[.val (.ref a1), .val (.long ua), .second, .val (.long va), .second, .val (.int (0 : Int32)), .val (.ref r), .val (.int (32 : Int32)), .val (.int (0 : Int32)), .val (.long (f 0)), .second] [(.int (lcmpW (f 0) va)), (.int (1 : Int32)), (.int (0 : Int32))]))
    by_cases c49 : (f 0) = va
    · skip
      refine Run.step (fun t_ k_ => XS.ifNo X360.here hx rfl (hb hby d4_49) rfl (XT.ll_ne_f c49) k_) ?_
      show Run _ _ _ _ (T360.setTop (mkF m 52 #[.val (.ref a1), .val (.long ua), .second, .val (.long va), .second, .val (.int (0 : Int32)), .val (.ref r), .val (.int (32 : Int32)), .val (.int (0 : Int32)), .val (.long (f 0)), .second] [(.int (1 : Int32)), (.int (0 : Int32))]))
      refine Run.step (fun t_ k_ => XS.iconst X360.here hx rfl (hb hby d4_52) k_) ?_
      show Run _ _ _ _ (T360.setTop (mkF m 53 #[.val (.ref a1), .val (.long ua), .second, .val (.long va), .second, .val (.int (0 : Int32)), .val (.ref r), .val (.int (32 : Int32)), .val (.int (0 : Int32)), .val (.long (f 0)), .second] [(.int (1 : Int32)), (.int (1 : Int32)), (.int (0 : Int32))]))
      refine Run.step (fun t_ k_ => XS.goto X360.here hx rfl (pc0 := 53) (pc' := 57) rfl (hb hby d4_53) (by decide) (by decide) k_) ?_
      show Run _ _ _ _ (T360.setTop (mkF m 57 #[.val (.ref a1), .val (.long ua), .second, .val (.long va), .second, .val (.int (0 : Int32)), .val (.ref r), .val (.int (32 : Int32)), .val (.int (0 : Int32)), .val (.long (f 0)), .second] [(.int (1 : Int32)), (.int (1 : Int32)), (.int (0 : Int32))]))
      refine Run.step (fun t_ k_ => XS.ior X360.here hx rfl (hb hby d4_57) rfl k_) ?_
      show Run _ _ _ _ (T360.setTop (mkF m 58 #[.val (.ref a1), .val (.long ua), .second, .val (.long va), .second, .val (.int (0 : Int32)), .val (.ref r), .val (.int (32 : Int32)), .val (.int (0 : Int32)), .val (.long (f 0)), .second] [(.int ((1 : Int32) ||| (1 : Int32))), (.int (0 : Int32))]))
      refine Run.step (fun t_ k_ => XS.ior X360.here hx rfl (hb hby d4_58) rfl k_) ?_
      show Run _ _ _ _ (T360.setTop (mkF m 59 #[.val (.ref a1), .val (.long ua), .second, .val (.long va), .second, .val (.int (0 : Int32)), .val (.ref r), .val (.int (32 : Int32)), .val (.int (0 : Int32)), .val (.long (f 0)), .second] [(.int ((0 : Int32) ||| ((1 : Int32) ||| (1 : Int32))))]))
      refine Run.step (fun t_ k_ => XS.istore X360.here hx rfl (hb hby d4_59) rfl (l' := #[.val (.ref a1), .val (.long ua), .second, .val (.long va), .second, .val (.int ((0 : Int32) ||| ((1 : Int32) ||| (1 : Int32)))), .val (.ref r), .val (.int (32 : Int32)), .val (.int (0 : Int32)), .val (.long (f 0)), .second]) rfl k_) ?_
      show Run _ _ _ _ (T360.setTop (mkF m 61 #[.val (.ref a1), .val (.long ua), .second, .val (.long va), .second, .val (.int ((0 : Int32) ||| ((1 : Int32) ||| (1 : Int32)))), .val (.ref r), .val (.int (32 : Int32)), .val (.int (0 : Int32)), .val (.long (f 0)), .second] []))
      refine Run.step (fun t_ k_ => XS.iinc X360.here hx rfl (hb hby d4_61) rfl (l' := #[.val (.ref a1), .val (.long ua), .second, .val (.long va), .second, .val (.int ((0 : Int32) ||| ((1 : Int32) ||| (1 : Int32)))), .val (.ref r), .val (.int (32 : Int32)), .val (.int (1 : Int32)), .val (.long (f 0)), .second]) rfl k_) ?_
      show Run _ _ _ _ (T360.setTop (mkF m 64 #[.val (.ref a1), .val (.long ua), .second, .val (.long va), .second, .val (.int ((0 : Int32) ||| ((1 : Int32) ||| (1 : Int32)))), .val (.ref r), .val (.int (32 : Int32)), .val (.int (1 : Int32)), .val (.long (f 0)), .second] []))
      refine Run.step (fun t_ k_ => XS.goto X360.here hx rfl (pc0 := 64) (pc' := 17) rfl (hb hby d4_64) (by decide) (by decide) k_) ?_
      show Run _ _ _ _ (T360.setTop (mkF m 17 #[.val (.ref a1), .val (.long ua), .second, .val (.long va), .second, .val (.int ((0 : Int32) ||| ((1 : Int32) ||| (1 : Int32)))), .val (.ref r), .val (.int (32 : Int32)), .val (.int (1 : Int32)), .val (.long (f 0)), .second] []))
      exact LP 31 1 rfl _ _ X360 e360 N0 _ _ (by show _ = (0 : Int32) ||| ((if f 0 = ua then 1 else 0) ||| (if f 0 = va then 1 else 0)); rw [if_pos c37, if_pos c49])
    · skip
      refine Run.step (fun t_ k_ => XS.ifYes X360.here hx rfl (pc0 := 49) (pc' := 56) rfl (hb hby d4_49) rfl (XT.ll_ne_t c49) (by decide) (by decide) k_) ?_
      show Run _ _ _ _ (T360.setTop (mkF m 56 #[.val (.ref a1), .val (.long ua), .second, .val (.long va), .second, .val (.int (0 : Int32)), .val (.ref r), .val (.int (32 : Int32)), .val (.int (0 : Int32)), .val (.long (f 0)), .second] [(.int (1 : Int32)), (.int (0 : Int32))]))
      refine Run.step (fun t_ k_ => XS.iconst X360.here hx rfl (hb hby d4_56) k_) ?_
      show Run _ _ _ _ (T360.setTop (mkF m 57 #[.val (.ref a1), .val (.long ua), .second, .val (.long va), .second, .val (.int (0 : Int32)), .val (.ref r), .val (.int (32 : Int32)), .val (.int (0 : Int32)), .val (.long (f 0)), .second] [(.int (0 : Int32)), (.int (1 : Int32)), (.int (0 : Int32))]))
      refine Run.step (fun t_ k_ => XS.ior X360.here hx rfl (hb hby d4_57) rfl k_) ?_
      show Run _ _ _ _ (T360.setTop (mkF m 58 #[.val (.ref a1), .val (.long ua), .second, .val (.long va), .second, .val (.int (0 : Int32)), .val (.ref r), .val (.int (32 : Int32)), .val (.int (0 : Int32)), .val (.long (f 0)), .second] [(.int ((1 : Int32) ||| (0 : Int32))), (.int (0 : Int32))]))
      refine Run.step (fun t_ k_ => XS.ior X360.here hx rfl (hb hby d4_58) rfl k_) ?_
      show Run _ _ _ _ (T360.setTop (mkF m 59 #[.val (.ref a1), .val (.long ua), .second, .val (.long va), .second, .val (.int (0 : Int32)), .val (.ref r), .val (.int (32 : Int32)), .val (.int (0 : Int32)), .val (.long (f 0)), .second] [(.int ((0 : Int32) ||| ((1 : Int32) ||| (0 : Int32))))]))
      refine Run.step (fun t_ k_ => XS.istore X360.here hx rfl (hb hby d4_59) rfl (l' := #[.val (.ref a1), .val (.long ua), .second, .val (.long va), .second, .val (.int ((0 : Int32) ||| ((1 : Int32) ||| (0 : Int32)))), .val (.ref r), .val (.int (32 : Int32)), .val (.int (0 : Int32)), .val (.long (f 0)), .second]) rfl k_) ?_
      show Run _ _ _ _ (T360.setTop (mkF m 61 #[.val (.ref a1), .val (.long ua), .second, .val (.long va), .second, .val (.int ((0 : Int32) ||| ((1 : Int32) ||| (0 : Int32)))), .val (.ref r), .val (.int (32 : Int32)), .val (.int (0 : Int32)), .val (.long (f 0)), .second] []))
      refine Run.step (fun t_ k_ => XS.iinc X360.here hx rfl (hb hby d4_61) rfl (l' := #[.val (.ref a1), .val (.long ua), .second, .val (.long va), .second, .val (.int ((0 : Int32) ||| ((1 : Int32) ||| (0 : Int32)))), .val (.ref r), .val (.int (32 : Int32)), .val (.int (1 : Int32)), .val (.long (f 0)), .second]) rfl k_) ?_
      show Run _ _ _ _ (T360.setTop (mkF m 64 #[.val (.ref a1), .val (.long ua), .second, .val (.long va), .second, .val (.int ((0 : Int32) ||| ((1 : Int32) ||| (0 : Int32)))), .val (.ref r), .val (.int (32 : Int32)), .val (.int (1 : Int32)), .val (.long (f 0)), .second] []))
      refine Run.step (fun t_ k_ => XS.goto X360.here hx rfl (pc0 := 64) (pc' := 17) rfl (hb hby d4_64) (by decide) (by decide) k_) ?_
      show Run _ _ _ _ (T360.setTop (mkF m 17 #[.val (.ref a1), .val (.long ua), .second, .val (.long va), .second, .val (.int ((0 : Int32) ||| ((1 : Int32) ||| (0 : Int32)))), .val (.ref r), .val (.int (32 : Int32)), .val (.int (1 : Int32)), .val (.long (f 0)), .second] []))
      exact LP 31 1 rfl _ _ X360 e360 N0 _ _ (by show _ = (0 : Int32) ||| ((if f 0 = ua then 1 else 0) ||| (if f 0 = va then 1 else 0)); rw [if_pos c37, if_neg c49])
  · skip
    refine Run.step (fun t_ k_ => XS.ifYes X360.here hx rfl (pc0 := 37) (pc' := 44) rfl (hb hby d4_37) rfl (XT.ll_ne_t c37) (by decide) (by decide) k_) ?_
    show Run _ _ _ _ (T360.setTop (mkF m 44 #[.val (.ref a1), .val (.long ua), .second, .val (.long va), .second, .val (.int (0 : Int32)), .val (.ref r), .val (.int (32 : Int32)), .val (.int (0 : Int32)), .val (.long (f 0)), .second] [(.int (0 : Int32))]))
    refine Run.step (fun t_ k_ => XS.iconst X360.here hx rfl (hb hby d4_44) k_) ?_
    show Run _ _ _ _ (T360.setTop (mkF m 45 #[.val (.ref a1), .val (.long ua), .second, .val (.long va), .second, .val (.int (0 : Int32)), .val (.ref r), .val (.int (32 : Int32)), .val (.int (0 : Int32)), .val (.long (f 0)), .second] [(.int (0 : Int32)), (.int (0 : Int32))]))
    refine Run.step (fun t_ k_ => XS.lload X360.here hx rfl (hb hby d4_45) rfl k_) ?_
    show Run _ _ _ _ (T360.setTop (mkF m 47 #[.val (.ref a1), .val (.long ua), .second, .val (.long va), .second, .val (.int (0 : Int32)), .val (.ref r), .val (.int (32 : Int32)), .val (.int (0 : Int32)), .val (.long (f 0)), .second] [(.long (f 0)), (.int (0 : Int32)), (.int (0 : Int32))]))
    refine Run.step (fun t_ k_ => XS.lloadN X360.here hx rfl (hb hby d4_47) rfl k_) ?_
    show Run _ _ _ _ (T360.setTop (mkF m 48 #[.val (.ref a1), .val (.long ua), .second, .val (.long va), .second, .val (.int (0 : Int32)), .val (.ref r), .val (.int (32 : Int32)), .val (.int (0 : Int32)), .val (.long (f 0)), .second] [(.long va), (.long (f 0)), (.int (0 : Int32)), (.int (0 : Int32))]))
    refine Run.step (fun t_ k_ => XS.lcmp X360.here hx rfl (hb hby d4_48) rfl k_) ?_
    show Run _ _ _ _ (T360.setTop (mkF m 49 #[.val (.ref a1), .val (.long ua), .second, .val (.long va), .second, .val (.int (0 : Int32)), .val (.ref r), .val (.int (32 : Int32)), .val (.int (0 : Int32)), .val (.long (f 0)), .second] [(.int (lcmpW (f 0) va)), (.int (0 : Int32)), (.int (0 : Int32))]))
    by_cases c49 : (f 0) = va
    · skip
      refine Run.step (fun t_ k_ => XS.ifNo X360.here hx rfl (hb hby d4_49) rfl (XT.ll_ne_f c49) k_) ?_
      show Run _ _ _ _ (T360.setTop (mkF m 52 #[.val (.ref a1), .val (.long ua), .second, .val (.long va), .second, .val (.int (0 : Int32)), .val (.ref r), .val (.int (32 : Int32)), .val (.int (0 : Int32)), .val (.long (f 0)), .second] [(.int (0 : Int32)), (.int (0 : Int32))]))
      refine Run.step (fun t_ k_ => XS.iconst X360.here hx rfl (hb hby d4_52) k_) ?_
      show Run _ _ _ _ (T360.setTop (mkF m 53 #[.val (.ref a1), .val (.long ua), .second, .val (.long va), .second, .val (.int (0 : Int32)), .val (.ref r), .val (.int (32 : Int32)), .val (.int (0 : Int32)), .val (.long (f 0)), .second] [(.int (1 : Int32)), (.int (0 : Int32)), (.int (0 : Int32))]))
      refine Run.step (fun t_ k_ => XS.goto X360.here hx rfl (pc0 := 53) (pc' := 57) rfl (hb hby d4_53) (by decide) (by decide) k_) ?_
      show Run _ _ _ _ (T360.setTop (mkF m 57 #[.val (.ref a1), .val (.long ua), .second, .val (.long va), .second, .val (.int (0 : Int32)), .val (.ref r), .val (.int (32 : Int32)), .val (.int (0 : Int32)), .val (.long (f 0)), .second] [(.int (1 : Int32)), (.int (0 : Int32)), (.int (0 : Int32))]))
      refine Run.step (fun t_ k_ => XS.ior X360.here hx rfl (hb hby d4_57) rfl k_) ?_
      show Run _ _ _ _ (T360.setTop (mkF m 58 #[.val (.ref a1), .val (.long ua), .second, .val (.long va), .second, .val (.int (0 : Int32)), .val (.ref r), .val (.int (32 : Int32)), .val (.int (0 : Int32)), .val (.long (f 0)), .second] [(.int ((0 : Int32) ||| (1 : Int32))), (.int (0 : Int32))]))
      refine Run.step (fun t_ k_ => XS.ior X360.here hx rfl (hb hby d4_58) rfl k_) ?_
      show Run _ _ _ _ (T360.setTop (mkF m 59 #[.val (.ref a1), .val (.long ua), .second, .val (.long va), .second, .val (.int (0 : Int32)), .val (.ref r), .val (.int (32 : Int32)), .val (.int (0 : Int32)), .val (.long (f 0)), .second] [(.int ((0 : Int32) ||| ((0 : Int32) ||| (1 : Int32))))]))
      refine Run.step (fun t_ k_ => XS.istore X360.here hx rfl (hb hby d4_59) rfl (l' := #[.val (.ref a1), .val (.long ua), .second, .val (.long va), .second, .val (.int ((0 : Int32) ||| ((0 : Int32) ||| (1 : Int32)))), .val (.ref r), .val (.int (32 : Int32)), .val (.int (0 : Int32)), .val (.long (f 0)), .second]) rfl k_) ?_
      show Run _ _ _ _ (T360.setTop (mkF m 61 #[.val (.ref a1), .val (.long ua), .second, .val (.long va), .second, .val (.int ((0 : Int32) ||| ((0 : Int32) ||| (1 : Int32)))), .val (.ref r), .val (.int (32 : Int32)), .val (.int (0 : Int32)), .val (.long (f 0)), .second] []))
      refine Run.step (fun t_ k_ => XS.iinc X360.here hx rfl (hb hby d4_61) rfl (l' := #[.val (.ref a1), .val (.long ua), .second, .val (.long va), .second, .val (.int ((0 : Int32) ||| ((0 : Int32) ||| (1 : Int32)))), .val (.ref r), .val (.int (32 : Int32)), .val (.int (1 : Int32)), .val (.long (f 0)), .second]) rfl k_) ?_
      show Run _ _ _ _ (T360.setTop (mkF m 64 #[.val (.ref a1), .val (.long ua), .second, .val (.long va), .second, .val (.int ((0 : Int32) ||| ((0 : Int32) ||| (1 : Int32)))), .val (.ref r), .val (.int (32 : Int32)), .val (.int (1 : Int32)), .val (.long (f 0)), .second] []))
      refine Run.step (fun t_ k_ => XS.goto X360.here hx rfl (pc0 := 64) (pc' := 17) rfl (hb hby d4_64) (by decide) (by decide) k_) ?_
      show Run _ _ _ _ (T360.setTop (mkF m 17 #[.val (.ref a1), .val (.long ua), .second, .val (.long va), .second, .val (.int ((0 : Int32) ||| ((0 : Int32) ||| (1 : Int32)))), .val (.ref r), .val (.int (32 : Int32)), .val (.int (1 : Int32)), .val (.long (f 0)), .second] []))
      exact LP 31 1 rfl _ _ X360 e360 N0 _ _ (by show _ = (0 : Int32) ||| ((if f 0 = ua then 1 else 0) ||| (if f 0 = va then 1 else 0)); rw [if_neg c37, if_pos c49])
    · skip
      refine Run.step (fun t_ k_ => XS.ifYes X360.here hx rfl (pc0 := 49) (pc' := 56) rfl (hb hby d4_49) rfl (XT.ll_ne_t c49) (by decide) (by decide) k_) ?_
      show Run _ _ _ _ (T360.setTop (mkF m 56 #[.val (.ref a1), .val (.long ua), .second, .val (.long va), .second, .val (.int (0 : Int32)), .val (.ref r), .val (.int (32 : Int32)), .val (.int (0 : Int32)), .val (.long (f 0)), .second] [(.int (0 : Int32)), (.int (0 : Int32))]))
      refine Run.step (fun t_ k_ => XS.iconst X360.here hx rfl (hb hby d4_56) k_) ?_
      show Run _ _ _ _ (T360.setTop (mkF m 57 #[.val (.ref a1), .val (.long ua), .second, .val (.long va), .second, .val (.int (0 : Int32)), .val (.ref r), .val (.int (32 : Int32)), .val (.int (0 : Int32)), .val (.long (f 0)), .second] [(.int (0 : Int32)), (.int (0 : Int32)), (.int (0 : Int32))]))
      refine Run.step (fun t_ k_ => XS.ior X360.here hx rfl (hb hby d4_57) rfl k_) ?_
      show Run _ _ _ _ (T360.setTop (mkF m 58 #[.val (.ref a1), .val (.long ua), .second, .val (.long va), .second, .val (.int (0 : Int32)), .val (.ref r), .val (.int (32 : Int32)), .val (.int (0 : Int32)), .val (.long (f 0)), .second] [(.int ((0 : Int32) ||| (0 : Int32))), (.int (0 : Int32))]))
      refine Run.step (fun t_ k_ => XS.ior X360.here hx rfl (hb hby d4_58) rfl k_) ?_
      show Run _ _ _ _ (T360.setTop (mkF m 59 #[.val (.ref a1), .val (.long ua), .second, .val (.long va), .second, .val (.int (0 : Int32)), .val (.ref r), .val (.int (32 : Int32)), .val (.int (0 : Int32)), .val (.long (f 0)), .second] [(.int ((0 : Int32) ||| ((0 : Int32) ||| (0 : Int32))))]))
      refine Run.step (fun t_ k_ => XS.istore X360.here hx rfl (hb hby d4_59) rfl (l' := #[.val (.ref a1), .val (.long ua), .second, .val (.long va), .second, .val (.int ((0 : Int32) ||| ((0 : Int32) ||| (0 : Int32)))), .val (.ref r), .val (.int (32 : Int32)), .val (.int (0 : Int32)), .val (.long (f 0)), .second]) rfl k_) ?_
      show Run _ _ _ _ (T360.setTop (mkF m 61 #[.val (.ref a1), .val (.long ua), .second, .val (.long va), .second, .val (.int ((0 : Int32) ||| ((0 : Int32) ||| (0 : Int32)))), .val (.ref r), .val (.int (32 : Int32)), .val (.int (0 : Int32)), .val (.long (f 0)), .second] []))
      refine Run.step (fun t_ k_ => XS.iinc X360.here hx rfl (hb hby d4_61) rfl (l' := #[.val (.ref a1), .val (.long ua), .second, .val (.long va), .second, .val (.int ((0 : Int32) ||| ((0 : Int32) ||| (0 : Int32)))), .val (.ref r), .val (.int (32 : Int32)), .val (.int (1 : Int32)), .val (.long (f 0)), .second]) rfl k_) ?_
      show Run _ _ _ _ (T360.setTop (mkF m 64 #[.val (.ref a1), .val (.long ua), .second, .val (.long va), .second, .val (.int ((0 : Int32) ||| ((0 : Int32) ||| (0 : Int32)))), .val (.ref r), .val (.int (32 : Int32)), .val (.int (1 : Int32)), .val (.long (f 0)), .second] []))
      refine Run.step (fun t_ k_ => XS.goto X360.here hx rfl (pc0 := 64) (pc' := 17) rfl (hb hby d4_64) (by decide) (by decide) k_) ?_
      show Run _ _ _ _ (T360.setTop (mkF m 17 #[.val (.ref a1), .val (.long ua), .second, .val (.long va), .second, .val (.int ((0 : Int32) ||| ((0 : Int32) ||| (0 : Int32)))), .val (.ref r), .val (.int (32 : Int32)), .val (.int (1 : Int32)), .val (.long (f 0)), .second] []))
      exact LP 31 1 rfl _ _ X360 e360 N0 _ _ (by show _ = (0 : Int32) ||| ((if f 0 = ua then 1 else 0) ||| (if f 0 = va then 1 else 0)); rw [if_neg c37, if_neg c49])
theorem pn_cleave_partition_LineGroupsReadPinLaw : plainName "cleave/partition/LineGroupsReadPinLaw" = true := by first | (simp [plainName, overriddenIn]; done) | decide +kernel
theorem pd__28_29V : parseMethodDescriptor "()V" = some ⟨[], none⟩ := by decide +kernel
theorem pd__28JJ_29V : parseMethodDescriptor "(JJ)V" = some ⟨[.long, .long], none⟩ := by decide +kernel
theorem pd__28_29Z : parseMethodDescriptor "()Z" = some ⟨[], some .boolean⟩ := by decide +kernel
theorem ef_0 (m : MethodId) (x0 : Int64) (x1 : Int64) (x2 : Int64) (x3 : Int64) (x4 : Int64) (x5 : Int64) : entryFrame m #[(.long x0), (.long x1), (.long x2), (.long x3), (.long x4), (.long x5)] maxLocals = mkF m 0 #[.val (.long x0), .second, .val (.long x1), .second, .val (.long x2), .second, .val (.long x3), .second, .val (.long x4), .second, .val (.long x5), .second, .unset, .unset, .unset, .unset, .unset, .unset, .unset, .unset, .unset, .unset, .unset, .unset, .unset, .unset, .unset, .unset, .unset, .unset, .unset, .unset, .unset] [] := by first | (simp [entryFrame, mkF, argsToLocals, Value.category, maxLocals]; done) | rfl
def Q0 (Z : State) (p1 : Int64) (p2 : Int64) (p3 : Int64) (p4 : Int64) (p5 : Int64) (p6 : Int64) (h0 : Heap) (n0 : Nat) (v : Option Value) (h : Heap) (L : List Loc) : Prop := v = some (.int 1) ∧ Fr n0 L
set_option maxRecDepth 65536 in
set_option maxHeartbeats 40000000 in
theorem rm0 (l : Launch) (Z : State) (a0 : Array Value) (hw : ∀ d ∈ tables_1, d.before a0 Z = true) (ws : List Jvm.Cond) (p1 : Int64) (p2 : Int64) (p3 : Int64) (p4 : Int64) (p5 : Int64) (p6 : Int64) (h0 : Heap) (n0 : Nat) (Z0 : n0 ≤ h0.size)  :
    MetFree l x (head1 (Jvm.Cond.code x code maxLocals ret :: ws) room_1) (fun a U => a = #[(.long p1), (.long p2), (.long p3), (.long p4), (.long p5), (.long p6)] ∧ Z.Warmed39 U.vm ∧ U.heap = h0) (fun _ _ _ _ _ => True) (fun _ U o U' => ∃ v L, o = .returned v ∧ Q0 Z p1 p2 p3 p4 p5 p6 h0 n0 v U'.heap L ∧ FrameEnd U o U' L 16 256) := by
  refine MetFree.of_bodySF (plainFor_of_name pn_cleave_partition_LineGroupsReadPinLaw) hisR ?_
  intro p e s m args below meth c s₁ Bd hml0 hP hK
  obtain ⟨rfl, hZ, hh⟩ := hP
  have hx := Bd.exec
  have hby := Bd.bytes
  have w0 := hw _ (List.mem_of_getElem? (i := 0) rfl)
  have w1 := hw _ (List.mem_of_getElem? (i := 1) rfl)
  have w2 := hw _ (List.mem_of_getElem? (i := 2) rfl)
  have w3 := hw _ (List.mem_of_getElem? (i := 3) rfl)
  have w4 := hw _ (List.mem_of_getElem? (i := 4) rfl)
  have w5 := hw _ (List.mem_of_getElem? (i := 5) rfl)
  have w6 := hw _ (List.mem_of_getElem? (i := 6) rfl)
  have w12 := hw _ (List.mem_of_getElem? (i := 12) rfl)
  have w18 := hw _ (List.mem_of_getElem? (i := 18) rfl)
  have w19 := hw _ (List.mem_of_getElem? (i := 19) rfl)
  have w20 := hw _ (List.mem_of_getElem? (i := 20) rfl)
  have w21 := hw _ (List.mem_of_getElem? (i := 21) rfl)
  have w22 := hw _ (List.mem_of_getElem? (i := 22) rfl)
  have w24 := hw _ (List.mem_of_getElem? (i := 24) rfl)
  have w27 := hw _ (List.mem_of_getElem? (i := 27) rfl)
  have w28 := hw _ (List.mem_of_getElem? (i := 28) rfl)
  have w29 := hw _ (List.mem_of_getElem? (i := 29) rfl)
  have w30 := hw _ (List.mem_of_getElem? (i := 30) rfl)
  have w31 := hw _ (List.mem_of_getElem? (i := 31) rfl)
  have w32 := hw _ (List.mem_of_getElem? (i := 32) rfl)
  have w34 := hw _ (List.mem_of_getElem? (i := 34) rfl)
  have hml : c.maxLocals = 33 := hml0
  have hown : s.vm.findClass "cleave/partition/LineGroupsReadPinLaw" = some m.cls := findClass_of_methodNamed Bd.named
  have hnm := (name_of_methodNamed Bd.named Bd.method).1
  have X0 : Stand p l e room_1 s m #[(.long p1), (.long p2), (.long p3), (.long p4), (.long p5), (.long p6)] below meth c s₁ [] 0 0 := Stand.of_body Bd
  have e0 : s₁.heap = h0 := by rw [← hh, Bd.state]; rfl
  have N0 := Fr.nil n0
  show Run p.tables e below (PQ s below 16 256 (Q0 Z p1 p2 p3 p4 p5 p6 h0 n0)) (s₁.setTop (entryFrame m #[(.long p1), (.long p2), (.long p3), (.long p4), (.long p5), (.long p6)] maxLocals))
  refine Run.step (fun t k => castTop (ef_0 m p1 p2 p3 p4 p5 p6) k) ?_
  show Run _ _ _ _ (s₁.setTop (mkF m 0 #[.val (.long p1), .second, .val (.long p2), .second, .val (.long p3), .second, .val (.long p4), .second, .val (.long p5), .second, .val (.long p6), .second, .unset, .unset, .unset, .unset, .unset, .unset, .unset, .unset, .unset, .unset, .unset, .unset, .unset, .unset, .unset, .unset, .unset, .unset, .unset, .unset, .unset] []))
  refine Run.step (fun t_ k_ => XS.lloadN X0.here hx rfl (hb hby at_0) rfl k_) ?_
  show Run _ _ _ _ (s₁.setTop (mkF m 1 #[.val (.long p1), .second, .val (.long p2), .second, .val (.long p3), .second, .val (.long p4), .second, .val (.long p5), .second, .val (.long p6), .second, .unset, .unset, .unset, .unset, .unset, .unset, .unset, .unset, .unset, .unset, .unset, .unset, .unset, .unset, .unset, .unset, .unset, .unset, .unset, .unset, .unset] [(.long p1)]))
  refine Run.step (fun t_ k_ => XS.lconst X0.here hx rfl (hb hby at_1) k_) ?_
  show Run _ _ _ _ (s₁.setTop (mkF m 2 #[.val (.long p1), .second, .val (.long p2), .second, .val (.long p3), .second, .val (.long p4), .second, .val (.long p5), .second, .val (.long p6), .second, .unset, .unset, .unset, .unset, .unset, .unset, .unset, .unset, .unset, .unset, .unset, .unset, .unset, .unset, .unset, .unset, .unset, .unset, .unset, .unset, .unset] [(.long (0 : Int64)), (.long p1)]))
  refine Run.step (fun t_ k_ => XS.lcmp X0.here hx rfl (hb hby at_2) rfl k_) ?_
  show Run _ _ _ _ (s₁.setTop (mkF m 3 #[.val (.long p1), .second, .val (.long p2), .second, .val (.long p3), .second, .val (.long p4), .second, .val (.long p5), .second, .val (.long p6), .second, .unset, .unset, .unset, .unset, .unset, .unset, .unset, .unset, .unset, .unset, .unset, .unset, .unset, .unset, .unset, .unset, .unset, .unset, .unset, .unset, .unset] [(.int (lcmpW p1 (0 : Int64)))]))
  have J412 : ∀ (TJ412 : State) (LJ412 : List Loc) (XJ412 : Stand p l e room_1 s m #[(.long p1), (.long p2), (.long p3), (.long p4), (.long p5), (.long p6)] below meth c TJ412 LJ412 0 0) (eJ412 : TJ412.heap = h0) (NJ412 : Fr n0 LJ412) (mk : Int64), (mk = 3 ∨ mk = 9223372036854775807) → Run p.tables e below (PQ s below 16 256 (Q0 Z p1 p2 p3 p4 p5 p6 h0 n0)) (TJ412.setTop (mkF m 15 #[.val (.long p1), .second, .val (.long p2), .second, .val (.long p3), .second, .val (.long p4), .second, .val (.long p5), .second, .val (.long p6), .second, .unset, .unset, .unset, .unset, .unset, .unset, .unset, .unset, .unset, .unset, .unset, .unset, .unset, .unset, .unset, .unset, .unset, .unset, .unset, .unset, .unset] [(.long mk)])) := by
    intro TJ412 LJ412 XJ412 eJ412 NJ412 mk hv412
    refine Run.step (fun t_ k_ => XS.lstore XJ412.here hx rfl (hb hby at_15) rfl (l' := #[.val (.long p1), .second, .val (.long p2), .second, .val (.long p3), .second, .val (.long p4), .second, .val (.long p5), .second, .val (.long p6), .second, .val (.long mk), .second, .unset, .unset, .unset, .unset, .unset, .unset, .unset, .unset, .unset, .unset, .unset, .unset, .unset, .unset, .unset, .unset, .unset, .unset, .unset]) rfl k_) ?_
    show Run _ _ _ _ (TJ412.setTop (mkF m 17 #[.val (.long p1), .second, .val (.long p2), .second, .val (.long p3), .second, .val (.long p4), .second, .val (.long p5), .second, .val (.long p6), .second, .val (.long mk), .second, .unset, .unset, .unset, .unset, .unset, .unset, .unset, .unset, .unset, .unset, .unset, .unset, .unset, .unset, .unset, .unset, .unset, .unset, .unset] []))
    refine Run.step (fun t_ k_ => XS.lloadN XJ412.here hx rfl (hb hby at_17) rfl k_) ?_
    show Run _ _ _ _ (TJ412.setTop (mkF m 18 #[.val (.long p1), .second, .val (.long p2), .second, .val (.long p3), .second, .val (.long p4), .second, .val (.long p5), .second, .val (.long p6), .second, .val (.long mk), .second, .unset, .unset, .unset, .unset, .unset, .unset, .unset, .unset, .unset, .unset, .unset, .unset, .unset, .unset, .unset, .unset, .unset, .unset, .unset] [(.long p1)]))
    refine Run.step (fun t_ k_ => XS.lload XJ412.here hx rfl (hb hby at_18) rfl k_) ?_
    show Run _ _ _ _ (TJ412.setTop (mkF m 20 #[.val (.long p1), .second, .val (.long p2), .second, .val (.long p3), .second, .val (.long p4), .second, .val (.long p5), .second, .val (.long p6), .second, .val (.long mk), .second, .unset, .unset, .unset, .unset, .unset, .unset, .unset, .unset, .unset, .unset, .unset, .unset, .unset, .unset, .unset, .unset, .unset, .unset, .unset] [(.long mk), (.long p1)]))
    refine Run.step (fun t_ k_ => XS.land XJ412.here hx rfl (hb hby at_20) rfl k_) ?_
    show Run _ _ _ _ (TJ412.setTop (mkF m 21 #[.val (.long p1), .second, .val (.long p2), .second, .val (.long p3), .second, .val (.long p4), .second, .val (.long p5), .second, .val (.long p6), .second, .val (.long mk), .second, .unset, .unset, .unset, .unset, .unset, .unset, .unset, .unset, .unset, .unset, .unset, .unset, .unset, .unset, .unset, .unset, .unset, .unset, .unset] [(.long (p1 &&& mk))]))
    refine Run.step (fun t_ k_ => XS.lstore XJ412.here hx rfl (hb hby at_21) rfl (l' := #[.val (.long p1), .second, .val (.long p2), .second, .val (.long p3), .second, .val (.long p4), .second, .val (.long p5), .second, .val (.long p6), .second, .val (.long mk), .second, .val (.long (p1 &&& mk)), .second, .unset, .unset, .unset, .unset, .unset, .unset, .unset, .unset, .unset, .unset, .unset, .unset, .unset, .unset, .unset, .unset, .unset]) rfl k_) ?_
    show Run _ _ _ _ (TJ412.setTop (mkF m 23 #[.val (.long p1), .second, .val (.long p2), .second, .val (.long p3), .second, .val (.long p4), .second, .val (.long p5), .second, .val (.long p6), .second, .val (.long mk), .second, .val (.long (p1 &&& mk)), .second, .unset, .unset, .unset, .unset, .unset, .unset, .unset, .unset, .unset, .unset, .unset, .unset, .unset, .unset, .unset, .unset, .unset] []))
    obtain ⟨u1, hu1⟩ : ∃ z, z = (p1 &&& mk) := ⟨_, rfl⟩
    rw [← hu1]
    have s_u1 : u1 ≠ -1 := by rw [hu1]; exact own_nn _ _ hv412
    show Run _ _ _ _ (TJ412.setTop (mkF m 23 #[.val (.long p1), .second, .val (.long p2), .second, .val (.long p3), .second, .val (.long p4), .second, .val (.long p5), .second, .val (.long p6), .second, .val (.long mk), .second, .val (.long u1), .second, .unset, .unset, .unset, .unset, .unset, .unset, .unset, .unset, .unset, .unset, .unset, .unset, .unset, .unset, .unset, .unset, .unset] []))
    refine Run.step (fun t_ k_ => XS.lloadN XJ412.here hx rfl (hb hby at_23) rfl k_) ?_
    show Run _ _ _ _ (TJ412.setTop (mkF m 24 #[.val (.long p1), .second, .val (.long p2), .second, .val (.long p3), .second, .val (.long p4), .second, .val (.long p5), .second, .val (.long p6), .second, .val (.long mk), .second, .val (.long u1), .second, .unset, .unset, .unset, .unset, .unset, .unset, .unset, .unset, .unset, .unset, .unset, .unset, .unset, .unset, .unset, .unset, .unset] [(.long p2)]))
    refine Run.step (fun t_ k_ => XS.lload XJ412.here hx rfl (hb hby at_24) rfl k_) ?_
    show Run _ _ _ _ (TJ412.setTop (mkF m 26 #[.val (.long p1), .second, .val (.long p2), .second, .val (.long p3), .second, .val (.long p4), .second, .val (.long p5), .second, .val (.long p6), .second, .val (.long mk), .second, .val (.long u1), .second, .unset, .unset, .unset, .unset, .unset, .unset, .unset, .unset, .unset, .unset, .unset, .unset, .unset, .unset, .unset, .unset, .unset] [(.long mk), (.long p2)]))
    refine Run.step (fun t_ k_ => XS.land XJ412.here hx rfl (hb hby at_26) rfl k_) ?_
    show Run _ _ _ _ (TJ412.setTop (mkF m 27 #[.val (.long p1), .second, .val (.long p2), .second, .val (.long p3), .second, .val (.long p4), .second, .val (.long p5), .second, .val (.long p6), .second, .val (.long mk), .second, .val (.long u1), .second, .unset, .unset, .unset, .unset, .unset, .unset, .unset, .unset, .unset, .unset, .unset, .unset, .unset, .unset, .unset, .unset, .unset] [(.long (p2 &&& mk))]))
    refine Run.step (fun t_ k_ => XS.lstore XJ412.here hx rfl (hb hby at_27) rfl (l' := #[.val (.long p1), .second, .val (.long p2), .second, .val (.long p3), .second, .val (.long p4), .second, .val (.long p5), .second, .val (.long p6), .second, .val (.long mk), .second, .val (.long u1), .second, .val (.long (p2 &&& mk)), .second, .unset, .unset, .unset, .unset, .unset, .unset, .unset, .unset, .unset, .unset, .unset, .unset, .unset, .unset, .unset]) rfl k_) ?_
    show Run _ _ _ _ (TJ412.setTop (mkF m 29 #[.val (.long p1), .second, .val (.long p2), .second, .val (.long p3), .second, .val (.long p4), .second, .val (.long p5), .second, .val (.long p6), .second, .val (.long mk), .second, .val (.long u1), .second, .val (.long (p2 &&& mk)), .second, .unset, .unset, .unset, .unset, .unset, .unset, .unset, .unset, .unset, .unset, .unset, .unset, .unset, .unset, .unset] []))
    obtain ⟨v1, hv1⟩ : ∃ z, z = (p2 &&& mk) := ⟨_, rfl⟩
    rw [← hv1]
    have s_v1 : v1 ≠ -1 := by rw [hv1]; exact own_nn _ _ hv412
    show Run _ _ _ _ (TJ412.setTop (mkF m 29 #[.val (.long p1), .second, .val (.long p2), .second, .val (.long p3), .second, .val (.long p4), .second, .val (.long p5), .second, .val (.long p6), .second, .val (.long mk), .second, .val (.long u1), .second, .val (.long v1), .second, .unset, .unset, .unset, .unset, .unset, .unset, .unset, .unset, .unset, .unset, .unset, .unset, .unset, .unset, .unset] []))
    refine Run.step (fun t_ k_ => XS.lload XJ412.here hx rfl (hb hby at_29) rfl k_) ?_
    show Run _ _ _ _ (TJ412.setTop (mkF m 31 #[.val (.long p1), .second, .val (.long p2), .second, .val (.long p3), .second, .val (.long p4), .second, .val (.long p5), .second, .val (.long p6), .second, .val (.long mk), .second, .val (.long u1), .second, .val (.long v1), .second, .unset, .unset, .unset, .unset, .unset, .unset, .unset, .unset, .unset, .unset, .unset, .unset, .unset, .unset, .unset] [(.long p3)]))
    refine Run.step (fun t_ k_ => XS.lload XJ412.here hx rfl (hb hby at_31) rfl k_) ?_
    show Run _ _ _ _ (TJ412.setTop (mkF m 33 #[.val (.long p1), .second, .val (.long p2), .second, .val (.long p3), .second, .val (.long p4), .second, .val (.long p5), .second, .val (.long p6), .second, .val (.long mk), .second, .val (.long u1), .second, .val (.long v1), .second, .unset, .unset, .unset, .unset, .unset, .unset, .unset, .unset, .unset, .unset, .unset, .unset, .unset, .unset, .unset] [(.long mk), (.long p3)]))
    refine Run.step (fun t_ k_ => XS.land XJ412.here hx rfl (hb hby at_33) rfl k_) ?_
    show Run _ _ _ _ (TJ412.setTop (mkF m 34 #[.val (.long p1), .second, .val (.long p2), .second, .val (.long p3), .second, .val (.long p4), .second, .val (.long p5), .second, .val (.long p6), .second, .val (.long mk), .second, .val (.long u1), .second, .val (.long v1), .second, .unset, .unset, .unset, .unset, .unset, .unset, .unset, .unset, .unset, .unset, .unset, .unset, .unset, .unset, .unset] [(.long (p3 &&& mk))]))
    refine Run.step (fun t_ k_ => XS.lstore XJ412.here hx rfl (hb hby at_34) rfl (l' := #[.val (.long p1), .second, .val (.long p2), .second, .val (.long p3), .second, .val (.long p4), .second, .val (.long p5), .second, .val (.long p6), .second, .val (.long mk), .second, .val (.long u1), .second, .val (.long v1), .second, .val (.long (p3 &&& mk)), .second, .unset, .unset, .unset, .unset, .unset, .unset, .unset, .unset, .unset, .unset, .unset, .unset, .unset]) rfl k_) ?_
    show Run _ _ _ _ (TJ412.setTop (mkF m 36 #[.val (.long p1), .second, .val (.long p2), .second, .val (.long p3), .second, .val (.long p4), .second, .val (.long p5), .second, .val (.long p6), .second, .val (.long mk), .second, .val (.long u1), .second, .val (.long v1), .second, .val (.long (p3 &&& mk)), .second, .unset, .unset, .unset, .unset, .unset, .unset, .unset, .unset, .unset, .unset, .unset, .unset, .unset] []))
    obtain ⟨u2, hu2⟩ : ∃ z, z = (p3 &&& mk) := ⟨_, rfl⟩
    rw [← hu2]
    have s_u2 : u2 ≠ -1 := by rw [hu2]; exact own_nn _ _ hv412
    show Run _ _ _ _ (TJ412.setTop (mkF m 36 #[.val (.long p1), .second, .val (.long p2), .second, .val (.long p3), .second, .val (.long p4), .second, .val (.long p5), .second, .val (.long p6), .second, .val (.long mk), .second, .val (.long u1), .second, .val (.long v1), .second, .val (.long u2), .second, .unset, .unset, .unset, .unset, .unset, .unset, .unset, .unset, .unset, .unset, .unset, .unset, .unset] []))
    refine Run.step (fun t_ k_ => XS.lload XJ412.here hx rfl (hb hby at_36) rfl k_) ?_
    show Run _ _ _ _ (TJ412.setTop (mkF m 38 #[.val (.long p1), .second, .val (.long p2), .second, .val (.long p3), .second, .val (.long p4), .second, .val (.long p5), .second, .val (.long p6), .second, .val (.long mk), .second, .val (.long u1), .second, .val (.long v1), .second, .val (.long u2), .second, .unset, .unset, .unset, .unset, .unset, .unset, .unset, .unset, .unset, .unset, .unset, .unset, .unset] [(.long p4)]))
    refine Run.step (fun t_ k_ => XS.lload XJ412.here hx rfl (hb hby at_38) rfl k_) ?_
    show Run _ _ _ _ (TJ412.setTop (mkF m 40 #[.val (.long p1), .second, .val (.long p2), .second, .val (.long p3), .second, .val (.long p4), .second, .val (.long p5), .second, .val (.long p6), .second, .val (.long mk), .second, .val (.long u1), .second, .val (.long v1), .second, .val (.long u2), .second, .unset, .unset, .unset, .unset, .unset, .unset, .unset, .unset, .unset, .unset, .unset, .unset, .unset] [(.long mk), (.long p4)]))
    refine Run.step (fun t_ k_ => XS.land XJ412.here hx rfl (hb hby at_40) rfl k_) ?_
    show Run _ _ _ _ (TJ412.setTop (mkF m 41 #[.val (.long p1), .second, .val (.long p2), .second, .val (.long p3), .second, .val (.long p4), .second, .val (.long p5), .second, .val (.long p6), .second, .val (.long mk), .second, .val (.long u1), .second, .val (.long v1), .second, .val (.long u2), .second, .unset, .unset, .unset, .unset, .unset, .unset, .unset, .unset, .unset, .unset, .unset, .unset, .unset] [(.long (p4 &&& mk))]))
    refine Run.step (fun t_ k_ => XS.lstore XJ412.here hx rfl (hb hby at_41) rfl (l' := #[.val (.long p1), .second, .val (.long p2), .second, .val (.long p3), .second, .val (.long p4), .second, .val (.long p5), .second, .val (.long p6), .second, .val (.long mk), .second, .val (.long u1), .second, .val (.long v1), .second, .val (.long u2), .second, .val (.long (p4 &&& mk)), .second, .unset, .unset, .unset, .unset, .unset, .unset, .unset, .unset, .unset, .unset, .unset]) rfl k_) ?_
    show Run _ _ _ _ (TJ412.setTop (mkF m 43 #[.val (.long p1), .second, .val (.long p2), .second, .val (.long p3), .second, .val (.long p4), .second, .val (.long p5), .second, .val (.long p6), .second, .val (.long mk), .second, .val (.long u1), .second, .val (.long v1), .second, .val (.long u2), .second, .val (.long (p4 &&& mk)), .second, .unset, .unset, .unset, .unset, .unset, .unset, .unset, .unset, .unset, .unset, .unset] []))
    obtain ⟨v2, hv2⟩ : ∃ z, z = (p4 &&& mk) := ⟨_, rfl⟩
    rw [← hv2]
    have s_v2 : v2 ≠ -1 := by rw [hv2]; exact own_nn _ _ hv412
    show Run _ _ _ _ (TJ412.setTop (mkF m 43 #[.val (.long p1), .second, .val (.long p2), .second, .val (.long p3), .second, .val (.long p4), .second, .val (.long p5), .second, .val (.long p6), .second, .val (.long mk), .second, .val (.long u1), .second, .val (.long v1), .second, .val (.long u2), .second, .val (.long v2), .second, .unset, .unset, .unset, .unset, .unset, .unset, .unset, .unset, .unset, .unset, .unset] []))
    refine Run.step (fun t_ k_ => XS.lload XJ412.here hx rfl (hb hby at_43) rfl k_) ?_
    show Run _ _ _ _ (TJ412.setTop (mkF m 45 #[.val (.long p1), .second, .val (.long p2), .second, .val (.long p3), .second, .val (.long p4), .second, .val (.long p5), .second, .val (.long p6), .second, .val (.long mk), .second, .val (.long u1), .second, .val (.long v1), .second, .val (.long u2), .second, .val (.long v2), .second, .unset, .unset, .unset, .unset, .unset, .unset, .unset, .unset, .unset, .unset, .unset] [(.long p5)]))
    refine Run.step (fun t_ k_ => XS.lload XJ412.here hx rfl (hb hby at_45) rfl k_) ?_
    show Run _ _ _ _ (TJ412.setTop (mkF m 47 #[.val (.long p1), .second, .val (.long p2), .second, .val (.long p3), .second, .val (.long p4), .second, .val (.long p5), .second, .val (.long p6), .second, .val (.long mk), .second, .val (.long u1), .second, .val (.long v1), .second, .val (.long u2), .second, .val (.long v2), .second, .unset, .unset, .unset, .unset, .unset, .unset, .unset, .unset, .unset, .unset, .unset] [(.long mk), (.long p5)]))
    refine Run.step (fun t_ k_ => XS.land XJ412.here hx rfl (hb hby at_47) rfl k_) ?_
    show Run _ _ _ _ (TJ412.setTop (mkF m 48 #[.val (.long p1), .second, .val (.long p2), .second, .val (.long p3), .second, .val (.long p4), .second, .val (.long p5), .second, .val (.long p6), .second, .val (.long mk), .second, .val (.long u1), .second, .val (.long v1), .second, .val (.long u2), .second, .val (.long v2), .second, .unset, .unset, .unset, .unset, .unset, .unset, .unset, .unset, .unset, .unset, .unset] [(.long (p5 &&& mk))]))
    refine Run.step (fun t_ k_ => XS.lstore XJ412.here hx rfl (hb hby at_48) rfl (l' := #[.val (.long p1), .second, .val (.long p2), .second, .val (.long p3), .second, .val (.long p4), .second, .val (.long p5), .second, .val (.long p6), .second, .val (.long mk), .second, .val (.long u1), .second, .val (.long v1), .second, .val (.long u2), .second, .val (.long v2), .second, .val (.long (p5 &&& mk)), .second, .unset, .unset, .unset, .unset, .unset, .unset, .unset, .unset, .unset]) rfl k_) ?_
    show Run _ _ _ _ (TJ412.setTop (mkF m 50 #[.val (.long p1), .second, .val (.long p2), .second, .val (.long p3), .second, .val (.long p4), .second, .val (.long p5), .second, .val (.long p6), .second, .val (.long mk), .second, .val (.long u1), .second, .val (.long v1), .second, .val (.long u2), .second, .val (.long v2), .second, .val (.long (p5 &&& mk)), .second, .unset, .unset, .unset, .unset, .unset, .unset, .unset, .unset, .unset] []))
    obtain ⟨u3, hu3⟩ : ∃ z, z = (p5 &&& mk) := ⟨_, rfl⟩
    rw [← hu3]
    have s_u3 : u3 ≠ -1 := by rw [hu3]; exact own_nn _ _ hv412
    show Run _ _ _ _ (TJ412.setTop (mkF m 50 #[.val (.long p1), .second, .val (.long p2), .second, .val (.long p3), .second, .val (.long p4), .second, .val (.long p5), .second, .val (.long p6), .second, .val (.long mk), .second, .val (.long u1), .second, .val (.long v1), .second, .val (.long u2), .second, .val (.long v2), .second, .val (.long u3), .second, .unset, .unset, .unset, .unset, .unset, .unset, .unset, .unset, .unset] []))
    refine Run.step (fun t_ k_ => XS.lload XJ412.here hx rfl (hb hby at_50) rfl k_) ?_
    show Run _ _ _ _ (TJ412.setTop (mkF m 52 #[.val (.long p1), .second, .val (.long p2), .second, .val (.long p3), .second, .val (.long p4), .second, .val (.long p5), .second, .val (.long p6), .second, .val (.long mk), .second, .val (.long u1), .second, .val (.long v1), .second, .val (.long u2), .second, .val (.long v2), .second, .val (.long u3), .second, .unset, .unset, .unset, .unset, .unset, .unset, .unset, .unset, .unset] [(.long p6)]))
    refine Run.step (fun t_ k_ => XS.lload XJ412.here hx rfl (hb hby at_52) rfl k_) ?_
    show Run _ _ _ _ (TJ412.setTop (mkF m 54 #[.val (.long p1), .second, .val (.long p2), .second, .val (.long p3), .second, .val (.long p4), .second, .val (.long p5), .second, .val (.long p6), .second, .val (.long mk), .second, .val (.long u1), .second, .val (.long v1), .second, .val (.long u2), .second, .val (.long v2), .second, .val (.long u3), .second, .unset, .unset, .unset, .unset, .unset, .unset, .unset, .unset, .unset] [(.long mk), (.long p6)]))
    refine Run.step (fun t_ k_ => XS.land XJ412.here hx rfl (hb hby at_54) rfl k_) ?_
    show Run _ _ _ _ (TJ412.setTop (mkF m 55 #[.val (.long p1), .second, .val (.long p2), .second, .val (.long p3), .second, .val (.long p4), .second, .val (.long p5), .second, .val (.long p6), .second, .val (.long mk), .second, .val (.long u1), .second, .val (.long v1), .second, .val (.long u2), .second, .val (.long v2), .second, .val (.long u3), .second, .unset, .unset, .unset, .unset, .unset, .unset, .unset, .unset, .unset] [(.long (p6 &&& mk))]))
    refine Run.step (fun t_ k_ => XS.lstore XJ412.here hx rfl (hb hby at_55) rfl (l' := #[.val (.long p1), .second, .val (.long p2), .second, .val (.long p3), .second, .val (.long p4), .second, .val (.long p5), .second, .val (.long p6), .second, .val (.long mk), .second, .val (.long u1), .second, .val (.long v1), .second, .val (.long u2), .second, .val (.long v2), .second, .val (.long u3), .second, .val (.long (p6 &&& mk)), .second, .unset, .unset, .unset, .unset, .unset, .unset, .unset]) rfl k_) ?_
    show Run _ _ _ _ (TJ412.setTop (mkF m 57 #[.val (.long p1), .second, .val (.long p2), .second, .val (.long p3), .second, .val (.long p4), .second, .val (.long p5), .second, .val (.long p6), .second, .val (.long mk), .second, .val (.long u1), .second, .val (.long v1), .second, .val (.long u2), .second, .val (.long v2), .second, .val (.long u3), .second, .val (.long (p6 &&& mk)), .second, .unset, .unset, .unset, .unset, .unset, .unset, .unset] []))
    obtain ⟨v3, hv3⟩ : ∃ z, z = (p6 &&& mk) := ⟨_, rfl⟩
    rw [← hv3]
    have s_v3 : v3 ≠ -1 := by rw [hv3]; exact own_nn _ _ hv412
    show Run _ _ _ _ (TJ412.setTop (mkF m 57 #[.val (.long p1), .second, .val (.long p2), .second, .val (.long p3), .second, .val (.long p4), .second, .val (.long p5), .second, .val (.long p6), .second, .val (.long mk), .second, .val (.long u1), .second, .val (.long v1), .second, .val (.long u2), .second, .val (.long v2), .second, .val (.long u3), .second, .val (.long v3), .second, .unset, .unset, .unset, .unset, .unset, .unset, .unset] []))
    refine Run.step (fun t_ k_ => XS.lload XJ412.here hx rfl (hb hby at_57) rfl k_) ?_
    show Run _ _ _ _ (TJ412.setTop (mkF m 59 #[.val (.long p1), .second, .val (.long p2), .second, .val (.long p3), .second, .val (.long p4), .second, .val (.long p5), .second, .val (.long p6), .second, .val (.long mk), .second, .val (.long u1), .second, .val (.long v1), .second, .val (.long u2), .second, .val (.long v2), .second, .val (.long u3), .second, .val (.long v3), .second, .unset, .unset, .unset, .unset, .unset, .unset, .unset] [(.long u2)]))
    refine Run.step (fun t_ k_ => XS.lload XJ412.here hx rfl (hb hby at_59) rfl k_) ?_
    show Run _ _ _ _ (TJ412.setTop (mkF m 61 #[.val (.long p1), .second, .val (.long p2), .second, .val (.long p3), .second, .val (.long p4), .second, .val (.long p5), .second, .val (.long p6), .second, .val (.long mk), .second, .val (.long u1), .second, .val (.long v1), .second, .val (.long u2), .second, .val (.long v2), .second, .val (.long u3), .second, .val (.long v3), .second, .unset, .unset, .unset, .unset, .unset, .unset, .unset] [(.long u1), (.long u2)]))
    refine Run.step (fun t_ k_ => XS.lcmp XJ412.here hx rfl (hb hby at_61) rfl k_) ?_
    show Run _ _ _ _ (TJ412.setTop (mkF m 62 #[.val (.long p1), .second, .val (.long p2), .second, .val (.long p3), .second, .val (.long p4), .second, .val (.long p5), .second, .val (.long p6), .second, .val (.long mk), .second, .val (.long u1), .second, .val (.long v1), .second, .val (.long u2), .second, .val (.long v2), .second, .val (.long u3), .second, .val (.long v3), .second, .unset, .unset, .unset, .unset, .unset, .unset, .unset] [(.int (lcmpW u2 u1))]))
    have J413 : ∀ (TJ413 : State) (LJ413 : List Loc) (XJ413 : Stand p l e room_1 s m #[(.long p1), (.long p2), (.long p3), (.long p4), (.long p5), (.long p6)] below meth c TJ413 LJ413 0 0) (eJ413 : TJ413.heap = h0) (NJ413 : Fr n0 LJ413) (s2 : Int32), (s2 = if S2 u1 v1 u2 v2 then 1 else 0) → Run p.tables e below (PQ s below 16 256 (Q0 Z p1 p2 p3 p4 p5 p6 h0 n0)) (TJ413.setTop (mkF m 94 #[.val (.long p1), .second, .val (.long p2), .second, .val (.long p3), .second, .val (.long p4), .second, .val (.long p5), .second, .val (.long p6), .second, .val (.long mk), .second, .val (.long u1), .second, .val (.long v1), .second, .val (.long u2), .second, .val (.long v2), .second, .val (.long u3), .second, .val (.long v3), .second, .unset, .unset, .unset, .unset, .unset, .unset, .unset] [(.int s2)])) := by
      intro TJ413 LJ413 XJ413 eJ413 NJ413 s2 hv413
      refine Run.step (fun t_ k_ => XS.istore XJ413.here hx rfl (hb hby at_94) rfl (l' := #[.val (.long p1), .second, .val (.long p2), .second, .val (.long p3), .second, .val (.long p4), .second, .val (.long p5), .second, .val (.long p6), .second, .val (.long mk), .second, .val (.long u1), .second, .val (.long v1), .second, .val (.long u2), .second, .val (.long v2), .second, .val (.long u3), .second, .val (.long v3), .second, .val (.int s2), .unset, .unset, .unset, .unset, .unset, .unset]) rfl k_) ?_
      show Run _ _ _ _ (TJ413.setTop (mkF m 96 #[.val (.long p1), .second, .val (.long p2), .second, .val (.long p3), .second, .val (.long p4), .second, .val (.long p5), .second, .val (.long p6), .second, .val (.long mk), .second, .val (.long u1), .second, .val (.long v1), .second, .val (.long u2), .second, .val (.long v2), .second, .val (.long u3), .second, .val (.long v3), .second, .val (.int s2), .unset, .unset, .unset, .unset, .unset, .unset] []))
      refine Run.step (fun t_ k_ => XS.lload XJ413.here hx rfl (hb hby at_96) rfl k_) ?_
      show Run _ _ _ _ (TJ413.setTop (mkF m 98 #[.val (.long p1), .second, .val (.long p2), .second, .val (.long p3), .second, .val (.long p4), .second, .val (.long p5), .second, .val (.long p6), .second, .val (.long mk), .second, .val (.long u1), .second, .val (.long v1), .second, .val (.long u2), .second, .val (.long v2), .second, .val (.long u3), .second, .val (.long v3), .second, .val (.int s2), .unset, .unset, .unset, .unset, .unset, .unset] [(.long u3)]))
      refine Run.step (fun t_ k_ => XS.lload XJ413.here hx rfl (hb hby at_98) rfl k_) ?_
      show Run _ _ _ _ (TJ413.setTop (mkF m 100 #[.val (.long p1), .second, .val (.long p2), .second, .val (.long p3), .second, .val (.long p4), .second, .val (.long p5), .second, .val (.long p6), .second, .val (.long mk), .second, .val (.long u1), .second, .val (.long v1), .second, .val (.long u2), .second, .val (.long v2), .second, .val (.long u3), .second, .val (.long v3), .second, .val (.int s2), .unset, .unset, .unset, .unset, .unset, .unset] [(.long u1), (.long u3)]))
      refine Run.step (fun t_ k_ => XS.lcmp XJ413.here hx rfl (hb hby at_100) rfl k_) ?_
      show Run _ _ _ _ (TJ413.setTop (mkF m 101 #[.val (.long p1), .second, .val (.long p2), .second, .val (.long p3), .second, .val (.long p4), .second, .val (.long p5), .second, .val (.long p6), .second, .val (.long mk), .second, .val (.long u1), .second, .val (.long v1), .second, .val (.long u2), .second, .val (.long v2), .second, .val (.long u3), .second, .val (.long v3), .second, .val (.int s2), .unset, .unset, .unset, .unset, .unset, .unset] [(.int (lcmpW u3 u1))]))
      have J414 : ∀ (TJ414 : State) (LJ414 : List Loc) (XJ414 : Stand p l e room_1 s m #[(.long p1), (.long p2), (.long p3), (.long p4), (.long p5), (.long p6)] below meth c TJ414 LJ414 0 0) (eJ414 : TJ414.heap = h0) (NJ414 : Fr n0 LJ414) (s3 : Int32), (s3 = if S3 u1 v1 u2 v2 u3 v3 then 1 else 0) → Run p.tables e below (PQ s below 16 256 (Q0 Z p1 p2 p3 p4 p5 p6 h0 n0)) (TJ414.setTop (mkF m 165 #[.val (.long p1), .second, .val (.long p2), .second, .val (.long p3), .second, .val (.long p4), .second, .val (.long p5), .second, .val (.long p6), .second, .val (.long mk), .second, .val (.long u1), .second, .val (.long v1), .second, .val (.long u2), .second, .val (.long v2), .second, .val (.long u3), .second, .val (.long v3), .second, .val (.int s2), .unset, .unset, .unset, .unset, .unset, .unset] [(.int s3)])) := by
        intro TJ414 LJ414 XJ414 eJ414 NJ414 s3 hv414
        refine Run.step (fun t_ k_ => XS.istore XJ414.here hx rfl (hb hby at_165) rfl (l' := #[.val (.long p1), .second, .val (.long p2), .second, .val (.long p3), .second, .val (.long p4), .second, .val (.long p5), .second, .val (.long p6), .second, .val (.long mk), .second, .val (.long u1), .second, .val (.long v1), .second, .val (.long u2), .second, .val (.long v2), .second, .val (.long u3), .second, .val (.long v3), .second, .val (.int s2), .val (.int s3), .unset, .unset, .unset, .unset, .unset]) rfl k_) ?_
        show Run _ _ _ _ (TJ414.setTop (mkF m 167 #[.val (.long p1), .second, .val (.long p2), .second, .val (.long p3), .second, .val (.long p4), .second, .val (.long p5), .second, .val (.long p6), .second, .val (.long mk), .second, .val (.long u1), .second, .val (.long v1), .second, .val (.long u2), .second, .val (.long v2), .second, .val (.long u3), .second, .val (.long v3), .second, .val (.int s2), .val (.int s3), .unset, .unset, .unset, .unset, .unset] []))
        obtain ⟨n2, hn2⟩ : ∃ z : Int64, z = if S2 u1 v1 u2 v2 then 1 else 0 := ⟨_, rfl⟩
        obtain ⟨n3, hn3⟩ : ∃ z : Int64, z = if S3 u1 v1 u2 v2 u3 v3 then 1 else 0 := ⟨_, rfl⟩
        obtain ⟨T415, h415, X415, e415, E415, A415, D415, -, st415⟩ := newO XJ414 hx hZ hown w1 w2 w3 eJ414 (g := (mkF m 167 #[.val (.long p1), .second, .val (.long p2), .second, .val (.long p3), .second, .val (.long p4), .second, .val (.long p5), .second, .val (.long p6), .second, .val (.long mk), .second, .val (.long u1), .second, .val (.long v1), .second, .val (.long u2), .second, .val (.long v2), .second, .val (.long u3), .second, .val (.long v3), .second, .val (.int s2), .val (.int s3), .unset, .unset, .unset, .unset, .unset] [])) rfl (hb hby at_167) (by decide) (by decide)
        obtain ⟨b415, g415⟩ : ∃ z, z = h0.size := ⟨_, rfl⟩
        rw [← g415] at A415 D415 st415
        refine Run.step st415 ?_
        have g_b415 : n0 ≤ b415 := Nat.le_trans Z0 (Nat.le_of_eq g415.symm)
        have z416 := Nat.le_trans Z0 E415.1
        have f417 : Fld Z h415 b415 "cleave/partition/LineGroups" "recent" "[J" .null := D415 (Or.inr w12) (ty := (.array .long)) (by decide)
        have f418 : Fld Z h415 b415 "cleave/partition/LineGroups" "lines" "J" (.long (0 : Int64)) := D415 (Or.inl w24) (ty := .long) (by decide)
        have f419 : Fld Z h415 b415 "cleave/partition/LineGroups" "near" "J" (.long (0 : Int64)) := D415 (Or.inl w27) (ty := .long) (by decide)
        show Run _ _ _ _ (T415.setTop (mkF m 170 #[.val (.long p1), .second, .val (.long p2), .second, .val (.long p3), .second, .val (.long p4), .second, .val (.long p5), .second, .val (.long p6), .second, .val (.long mk), .second, .val (.long u1), .second, .val (.long v1), .second, .val (.long u2), .second, .val (.long v2), .second, .val (.long u3), .second, .val (.long v3), .second, .val (.int s2), .val (.int s3), .unset, .unset, .unset, .unset, .unset] [(.ref b415)]))
        refine Run.step (fun t_ k_ => XS.dup X415.here hx rfl (hb hby at_170) rfl rfl k_) ?_
        show Run _ _ _ _ (T415.setTop (mkF m 171 #[.val (.long p1), .second, .val (.long p2), .second, .val (.long p3), .second, .val (.long p4), .second, .val (.long p5), .second, .val (.long p6), .second, .val (.long mk), .second, .val (.long u1), .second, .val (.long v1), .second, .val (.long u2), .second, .val (.long v2), .second, .val (.long u3), .second, .val (.long v3), .second, .val (.int s2), .val (.int s3), .unset, .unset, .unset, .unset, .unset] [(.ref b415), (.ref b415)]))
        obtain ⟨_, _, ⟨T420, L420, k420, n420⟩, -, X420, ⟨Lc420, hQ420, l420, y420, z420⟩, st420⟩ := X415.specialBack hx (y := (⟨"cleave/partition/LineGroups", "<init>", "()V"⟩ : MethodName)) rfl hown (mvT hZ w4) (mvT hZ w5) (mvT hZ w6) (by decide) (backOf (W := 1) (rm1 l Z a0 hw [] b415 h415 n0 z416 f417 f418 f419 A415 g_b415) hZ w6 w3 (by decide) (by decide)) (g := (mkF m 171 #[.val (.long p1), .second, .val (.long p2), .second, .val (.long p3), .second, .val (.long p4), .second, .val (.long p5), .second, .val (.long p6), .second, .val (.long mk), .second, .val (.long u1), .second, .val (.long v1), .second, .val (.long u2), .second, .val (.long v2), .second, .val (.long u3), .second, .val (.long v3), .second, .val (.int s2), .val (.int s3), .unset, .unset, .unset, .unset, .unset] [(.ref b415), (.ref b415)])) rfl (by rw [hml]; rfl) (Steps.refl _) (a := b415) (argsL := []) (rest := [(.ref b415)]) (lenOf pd__28_29V rfl) rfl (by show 2 * 0 + _ ≤ _; exact Nat.le_of_eq rfl) (hb hby at_171) (fun _ _ => ⟨rfl, e415, (by decide : 1 + 1 ≤ _), (by decide : 3 + 32 ≤ _)⟩)
        dsimp only [Pt.U, Pt.locs, Pt.cells, Pt.slots] at X420 l420 y420 z420 st420 hQ420
        subst l420 y420 z420
        refine Run.step (fun t k => st420.trans k) ?_
        obtain ⟨rfl, N420q, K420q, r420, k420, fr420, fl420, fn420, fv420, fz420⟩ := hQ420
        have N420 := Fr.app NJ414 N420q
        have f421 := A415.keep K420q
        have z425 := Nat.le_trans z416 K420q.1
        have gr420 : n0 ≤ r420 := Nat.le_trans z416 fz420
        have nr420b415 : b415 ≠ r420 := Nat.ne_of_lt (Nat.lt_of_lt_of_le A415.lt fz420)
        show Run _ _ _ _ (T420.setTop (mkF m 174 #[.val (.long p1), .second, .val (.long p2), .second, .val (.long p3), .second, .val (.long p4), .second, .val (.long p5), .second, .val (.long p6), .second, .val (.long mk), .second, .val (.long u1), .second, .val (.long v1), .second, .val (.long u2), .second, .val (.long v2), .second, .val (.long u3), .second, .val (.long v3), .second, .val (.int s2), .val (.int s3), .unset, .unset, .unset, .unset, .unset] [(.ref b415)]))
        refine Run.step (fun t_ k_ => XS.astore X420.here hx rfl (hb hby at_174) rfl rfl (l' := #[.val (.long p1), .second, .val (.long p2), .second, .val (.long p3), .second, .val (.long p4), .second, .val (.long p5), .second, .val (.long p6), .second, .val (.long mk), .second, .val (.long u1), .second, .val (.long v1), .second, .val (.long u2), .second, .val (.long v2), .second, .val (.long u3), .second, .val (.long v3), .second, .val (.int s2), .val (.int s3), .val (.ref b415), .unset, .unset, .unset, .unset]) rfl k_) ?_
        show Run _ _ _ _ (T420.setTop (mkF m 176 #[.val (.long p1), .second, .val (.long p2), .second, .val (.long p3), .second, .val (.long p4), .second, .val (.long p5), .second, .val (.long p6), .second, .val (.long mk), .second, .val (.long u1), .second, .val (.long v1), .second, .val (.long u2), .second, .val (.long v2), .second, .val (.long u3), .second, .val (.long v3), .second, .val (.int s2), .val (.int s3), .val (.ref b415), .unset, .unset, .unset, .unset] []))
        refine Run.step (fun t_ k_ => XS.aload X420.here hx rfl (hb hby at_176) rfl rfl k_) ?_
        show Run _ _ _ _ (T420.setTop (mkF m 178 #[.val (.long p1), .second, .val (.long p2), .second, .val (.long p3), .second, .val (.long p4), .second, .val (.long p5), .second, .val (.long p6), .second, .val (.long mk), .second, .val (.long u1), .second, .val (.long v1), .second, .val (.long u2), .second, .val (.long v2), .second, .val (.long u3), .second, .val (.long v3), .second, .val (.int s2), .val (.int s3), .val (.ref b415), .unset, .unset, .unset, .unset] [(.ref b415)]))
        refine Run.step (fun t_ k_ => XS.lload X420.here hx rfl (hb hby at_178) rfl k_) ?_
        show Run _ _ _ _ (T420.setTop (mkF m 180 #[.val (.long p1), .second, .val (.long p2), .second, .val (.long p3), .second, .val (.long p4), .second, .val (.long p5), .second, .val (.long p6), .second, .val (.long mk), .second, .val (.long u1), .second, .val (.long v1), .second, .val (.long u2), .second, .val (.long v2), .second, .val (.long u3), .second, .val (.long v3), .second, .val (.int s2), .val (.int s3), .val (.ref b415), .unset, .unset, .unset, .unset] [(.long u1), (.ref b415)]))
        refine Run.step (fun t_ k_ => XS.lload X420.here hx rfl (hb hby at_180) rfl k_) ?_
        show Run _ _ _ _ (T420.setTop (mkF m 182 #[.val (.long p1), .second, .val (.long p2), .second, .val (.long p3), .second, .val (.long p4), .second, .val (.long p5), .second, .val (.long p6), .second, .val (.long mk), .second, .val (.long u1), .second, .val (.long v1), .second, .val (.long u2), .second, .val (.long v2), .second, .val (.long u3), .second, .val (.long v3), .second, .val (.int s2), .val (.int s3), .val (.ref b415), .unset, .unset, .unset, .unset] [(.long v1), (.long u1), (.ref b415)]))
        obtain ⟨cq426, kq426, q426a, q426b, q426c⟩ := isOf hZ rfl f421
        obtain ⟨_, _, ⟨T426, L426, k426, n426⟩, -, X426, ⟨Lc426, hQ426, l426, y426, z426⟩, st426⟩ := X420.virtualBack hx (y := (⟨"cleave/partition/LineGroups", "read", "(JJ)V"⟩ : MethodName)) (z := (⟨"cleave/partition/LineGroups", "read", "(JJ)V"⟩ : MethodName)) hown (mvT hZ w18) (mvT hZ w19) (notFace_of_selects (args := #[]) (mvT hZ w21)) (mvT hZ w21) (mvT hZ w20) (by decide) (backOf (W := 0) (rm4_0 l Z a0 hw [] b415 r420 k420 (fun _ => -1) u1 v1 (0 : Int64) (0 : Int64) T420.heap n0 z425 (by rw [if_pos (own_hit0 _ _ s_u1 s_v1)]) fr420 fl420 fn420 f421 fv420 g_b415 gr420 (Ne.symm nr420b415)) hZ w22 w3 (by decide) (by decide)) q426a q426c (g := (mkF m 182 #[.val (.long p1), .second, .val (.long p2), .second, .val (.long p3), .second, .val (.long p4), .second, .val (.long p5), .second, .val (.long p6), .second, .val (.long mk), .second, .val (.long u1), .second, .val (.long v1), .second, .val (.long u2), .second, .val (.long v2), .second, .val (.long u3), .second, .val (.long v3), .second, .val (.int s2), .val (.int s3), .val (.ref b415), .unset, .unset, .unset, .unset] [(.long v1), (.long u1), (.ref b415)])) rfl (by rw [hml]; rfl) (Steps.refl _) (argsL := [(.long u1), (.long v1)]) (rest := []) (lenOf pd__28JJ_29V rfl) rfl (by show 2 * 0 + _ ≤ _; exact Nat.le_of_eq rfl) (hb hby at_182) (fun _ _ => ⟨rfl, rfl, (by decide : 2 + 0 ≤ _), (by decide : 35 + 0 ≤ _)⟩)
        dsimp only [Pt.U, Pt.locs, Pt.cells, Pt.slots] at X426 l426 y426 z426 st426 hQ426
        subst l426 y426 z426
        refine Run.step (fun t k => st426.trans k) ?_
        obtain ⟨rfl, N426q, K426q, fr426, fl426, fn426, fv426⟩ := hQ426
        have N426 := Fr.app N420 N426q
        have f427 := f421.keep K426q
        have z432 := Nat.le_trans z425 K426q.1
        show Run _ _ _ _ (T426.setTop (mkF m 185 #[.val (.long p1), .second, .val (.long p2), .second, .val (.long p3), .second, .val (.long p4), .second, .val (.long p5), .second, .val (.long p6), .second, .val (.long mk), .second, .val (.long u1), .second, .val (.long v1), .second, .val (.long u2), .second, .val (.long v2), .second, .val (.long u3), .second, .val (.long v3), .second, .val (.int s2), .val (.int s3), .val (.ref b415), .unset, .unset, .unset, .unset] []))
        refine Run.step (fun t_ k_ => XS.aload X426.here hx rfl (hb hby at_185) rfl rfl k_) ?_
        show Run _ _ _ _ (T426.setTop (mkF m 187 #[.val (.long p1), .second, .val (.long p2), .second, .val (.long p3), .second, .val (.long p4), .second, .val (.long p5), .second, .val (.long p6), .second, .val (.long mk), .second, .val (.long u1), .second, .val (.long v1), .second, .val (.long u2), .second, .val (.long v2), .second, .val (.long u3), .second, .val (.long v3), .second, .val (.int s2), .val (.int s3), .val (.ref b415), .unset, .unset, .unset, .unset] [(.ref b415)]))
        refine Run.step (fun t_ k_ => XS.lload X426.here hx rfl (hb hby at_187) rfl k_) ?_
        show Run _ _ _ _ (T426.setTop (mkF m 189 #[.val (.long p1), .second, .val (.long p2), .second, .val (.long p3), .second, .val (.long p4), .second, .val (.long p5), .second, .val (.long p6), .second, .val (.long mk), .second, .val (.long u1), .second, .val (.long v1), .second, .val (.long u2), .second, .val (.long v2), .second, .val (.long u3), .second, .val (.long v3), .second, .val (.int s2), .val (.int s3), .val (.ref b415), .unset, .unset, .unset, .unset] [(.long u2), (.ref b415)]))
        refine Run.step (fun t_ k_ => XS.lload X426.here hx rfl (hb hby at_189) rfl k_) ?_
        show Run _ _ _ _ (T426.setTop (mkF m 191 #[.val (.long p1), .second, .val (.long p2), .second, .val (.long p3), .second, .val (.long p4), .second, .val (.long p5), .second, .val (.long p6), .second, .val (.long mk), .second, .val (.long u1), .second, .val (.long v1), .second, .val (.long u2), .second, .val (.long v2), .second, .val (.long u3), .second, .val (.long v3), .second, .val (.int s2), .val (.int s3), .val (.ref b415), .unset, .unset, .unset, .unset] [(.long v2), (.long u2), (.ref b415)]))
        obtain ⟨cq433, kq433, q433a, q433b, q433c⟩ := isOf hZ rfl f427
        obtain ⟨_, _, ⟨T433, L433, k433, n433⟩, -, X433, ⟨Lc433, hQ433, l433, y433, z433⟩, st433⟩ := X426.virtualBack hx (y := (⟨"cleave/partition/LineGroups", "read", "(JJ)V"⟩ : MethodName)) (z := (⟨"cleave/partition/LineGroups", "read", "(JJ)V"⟩ : MethodName)) hown (mvT hZ w18) (mvT hZ w19) (notFace_of_selects (args := #[]) (mvT hZ w21)) (mvT hZ w21) (mvT hZ w20) (by decide) (backOf (W := 0) (rm4_1 l Z a0 hw [] b415 r420 k420 (own_up (own_up (fun _ => -1) 0 u1) 1 v1) u2 v2 (0 : Int64) n2 T426.heap n0 z432 (own_n1 u1 v1 u2 v2 n2 s_u2 s_v2 hn2) fr426 fl426 fn426 f427 fv426 g_b415 gr420 (Ne.symm nr420b415)) hZ w22 w3 (by decide) (by decide)) q433a q433c (g := (mkF m 191 #[.val (.long p1), .second, .val (.long p2), .second, .val (.long p3), .second, .val (.long p4), .second, .val (.long p5), .second, .val (.long p6), .second, .val (.long mk), .second, .val (.long u1), .second, .val (.long v1), .second, .val (.long u2), .second, .val (.long v2), .second, .val (.long u3), .second, .val (.long v3), .second, .val (.int s2), .val (.int s3), .val (.ref b415), .unset, .unset, .unset, .unset] [(.long v2), (.long u2), (.ref b415)])) rfl (by rw [hml]; rfl) (Steps.refl _) (argsL := [(.long u2), (.long v2)]) (rest := []) (lenOf pd__28JJ_29V rfl) rfl (by show 2 * 0 + _ ≤ _; exact Nat.le_of_eq rfl) (hb hby at_191) (fun _ _ => ⟨rfl, rfl, (by decide : 2 + 0 ≤ _), (by decide : 35 + 0 ≤ _)⟩)
        dsimp only [Pt.U, Pt.locs, Pt.cells, Pt.slots] at X433 l433 y433 z433 st433 hQ433
        subst l433 y433 z433
        refine Run.step (fun t k => st433.trans k) ?_
        obtain ⟨rfl, N433q, K433q, fr433, fl433, fn433, fv433⟩ := hQ433
        have N433 := Fr.app N426 N433q
        have f434 := f427.keep K433q
        have z439 := Nat.le_trans z432 K433q.1
        show Run _ _ _ _ (T433.setTop (mkF m 194 #[.val (.long p1), .second, .val (.long p2), .second, .val (.long p3), .second, .val (.long p4), .second, .val (.long p5), .second, .val (.long p6), .second, .val (.long mk), .second, .val (.long u1), .second, .val (.long v1), .second, .val (.long u2), .second, .val (.long v2), .second, .val (.long u3), .second, .val (.long v3), .second, .val (.int s2), .val (.int s3), .val (.ref b415), .unset, .unset, .unset, .unset] []))
        refine Run.step (fun t_ k_ => XS.aload X433.here hx rfl (hb hby at_194) rfl rfl k_) ?_
        show Run _ _ _ _ (T433.setTop (mkF m 196 #[.val (.long p1), .second, .val (.long p2), .second, .val (.long p3), .second, .val (.long p4), .second, .val (.long p5), .second, .val (.long p6), .second, .val (.long mk), .second, .val (.long u1), .second, .val (.long v1), .second, .val (.long u2), .second, .val (.long v2), .second, .val (.long u3), .second, .val (.long v3), .second, .val (.int s2), .val (.int s3), .val (.ref b415), .unset, .unset, .unset, .unset] [(.ref b415)]))
        obtain ⟨cq440, kq440, q440a, q440b, q440c⟩ := isOf hZ rfl f434
        obtain ⟨_, _, ⟨T440, L440, k440, n440⟩, -, X440, ⟨Lc440, hQ440, l440, y440, z440⟩, st440⟩ := X433.virtualBack hx (y := (⟨"cleave/partition/LineGroups", "grouped", "()Z"⟩ : MethodName)) (z := (⟨"cleave/partition/LineGroups", "grouped", "()Z"⟩ : MethodName)) hown (mvT hZ w28) (mvT hZ w29) (notFace_of_selects (args := #[]) (mvT hZ w31)) (mvT hZ w31) (mvT hZ w30) (by decide) (backOf (W := 0) (rm5 l Z a0 hw [] b415 (2 : Int64) n2 T433.heap n0 z439 fl433 fn433) hZ w32 w3 (by decide) (by decide)) q440a q440c (g := (mkF m 196 #[.val (.long p1), .second, .val (.long p2), .second, .val (.long p3), .second, .val (.long p4), .second, .val (.long p5), .second, .val (.long p6), .second, .val (.long mk), .second, .val (.long u1), .second, .val (.long v1), .second, .val (.long u2), .second, .val (.long v2), .second, .val (.long u3), .second, .val (.long v3), .second, .val (.int s2), .val (.int s3), .val (.ref b415), .unset, .unset, .unset, .unset] [(.ref b415)])) rfl (by rw [hml]; rfl) (Steps.refl _) (argsL := []) (rest := []) (lenOf pd__28_29Z rfl) rfl (by show 2 * 0 + _ ≤ _; exact Nat.le_of_eq rfl) (hb hby at_196) (fun _ _ => ⟨rfl, rfl, (by decide : 2 + 0 ≤ _), (by decide : 35 + 0 ≤ _)⟩)
        dsimp only [Pt.U, Pt.locs, Pt.cells, Pt.slots] at X440 l440 y440 z440 st440 hQ440
        subst l440 y440 z440
        refine Run.step (fun t k => st440.trans k) ?_
        obtain ⟨rfl, N440q, e440q⟩ := hQ440
        have N440 := Fr.app N433 N440q
        show Run _ _ _ _ (T440.setTop (mkF m 199 #[.val (.long p1), .second, .val (.long p2), .second, .val (.long p3), .second, .val (.long p4), .second, .val (.long p5), .second, .val (.long p6), .second, .val (.long mk), .second, .val (.long u1), .second, .val (.long v1), .second, .val (.long u2), .second, .val (.long v2), .second, .val (.long u3), .second, .val (.long v3), .second, .val (.int s2), .val (.int s3), .val (.ref b415), .unset, .unset, .unset, .unset] [(.int (if (2 : Int64) < (2 : Int64) * n2 then 1 else 0))]))
        refine Run.step (fun t_ k_ => XS.istore X440.here hx rfl (hb hby at_199) rfl (l' := #[.val (.long p1), .second, .val (.long p2), .second, .val (.long p3), .second, .val (.long p4), .second, .val (.long p5), .second, .val (.long p6), .second, .val (.long mk), .second, .val (.long u1), .second, .val (.long v1), .second, .val (.long u2), .second, .val (.long v2), .second, .val (.long u3), .second, .val (.long v3), .second, .val (.int s2), .val (.int s3), .val (.ref b415), .val (.int (if (2 : Int64) < (2 : Int64) * n2 then 1 else 0)), .unset, .unset, .unset]) rfl k_) ?_
        show Run _ _ _ _ (T440.setTop (mkF m 201 #[.val (.long p1), .second, .val (.long p2), .second, .val (.long p3), .second, .val (.long p4), .second, .val (.long p5), .second, .val (.long p6), .second, .val (.long mk), .second, .val (.long u1), .second, .val (.long v1), .second, .val (.long u2), .second, .val (.long v2), .second, .val (.long u3), .second, .val (.long v3), .second, .val (.int s2), .val (.int s3), .val (.ref b415), .val (.int (if (2 : Int64) < (2 : Int64) * n2 then 1 else 0)), .unset, .unset, .unset] []))
        refine Run.step (fun t_ k_ => XS.aload X440.here hx rfl (hb hby at_201) rfl rfl k_) ?_
        show Run _ _ _ _ (T440.setTop (mkF m 203 #[.val (.long p1), .second, .val (.long p2), .second, .val (.long p3), .second, .val (.long p4), .second, .val (.long p5), .second, .val (.long p6), .second, .val (.long mk), .second, .val (.long u1), .second, .val (.long v1), .second, .val (.long u2), .second, .val (.long v2), .second, .val (.long u3), .second, .val (.long v3), .second, .val (.int s2), .val (.int s3), .val (.ref b415), .val (.int (if (2 : Int64) < (2 : Int64) * n2 then 1 else 0)), .unset, .unset, .unset] [(.ref b415)]))
        refine Run.step (fun t_ k_ => XS.lload X440.here hx rfl (hb hby at_203) rfl k_) ?_
        show Run _ _ _ _ (T440.setTop (mkF m 205 #[.val (.long p1), .second, .val (.long p2), .second, .val (.long p3), .second, .val (.long p4), .second, .val (.long p5), .second, .val (.long p6), .second, .val (.long mk), .second, .val (.long u1), .second, .val (.long v1), .second, .val (.long u2), .second, .val (.long v2), .second, .val (.long u3), .second, .val (.long v3), .second, .val (.int s2), .val (.int s3), .val (.ref b415), .val (.int (if (2 : Int64) < (2 : Int64) * n2 then 1 else 0)), .unset, .unset, .unset] [(.long u1), (.ref b415)]))
        refine Run.step (fun t_ k_ => XS.lload X440.here hx rfl (hb hby at_205) rfl k_) ?_
        show Run _ _ _ _ (T440.setTop (mkF m 207 #[.val (.long p1), .second, .val (.long p2), .second, .val (.long p3), .second, .val (.long p4), .second, .val (.long p5), .second, .val (.long p6), .second, .val (.long mk), .second, .val (.long u1), .second, .val (.long v1), .second, .val (.long u2), .second, .val (.long v2), .second, .val (.long u3), .second, .val (.long v3), .second, .val (.int s2), .val (.int s3), .val (.ref b415), .val (.int (if (2 : Int64) < (2 : Int64) * n2 then 1 else 0)), .unset, .unset, .unset] [(.long v1), (.long u1), (.ref b415)]))
        obtain ⟨cq441, kq441, q441a, q441b, q441c⟩ := isOf hZ e440q f434
        obtain ⟨_, _, ⟨T441, L441, k441, n441⟩, -, X441, ⟨Lc441, hQ441, l441, y441, z441⟩, st441⟩ := X440.virtualBack hx (y := (⟨"cleave/partition/LineGroups", "read", "(JJ)V"⟩ : MethodName)) (z := (⟨"cleave/partition/LineGroups", "read", "(JJ)V"⟩ : MethodName)) hown (mvT hZ w18) (mvT hZ w19) (notFace_of_selects (args := #[]) (mvT hZ w21)) (mvT hZ w21) (mvT hZ w20) (by decide) (backOf (W := 0) (rm4_2 l Z a0 hw [] b415 r420 k420 (own_up (own_up (own_up (own_up (fun _ => -1) 0 u1) 1 v1) 2 u2) 3 v2) u1 v1 n2 (n2 + 1) T433.heap n0 z439 (by rw [if_neg (own_hit3 u1 v1 u2 v2)]) fr433 fl433 fn433 f434 fv433 g_b415 gr420 (Ne.symm nr420b415)) hZ w22 w3 (by decide) (by decide)) q441a q441c (g := (mkF m 207 #[.val (.long p1), .second, .val (.long p2), .second, .val (.long p3), .second, .val (.long p4), .second, .val (.long p5), .second, .val (.long p6), .second, .val (.long mk), .second, .val (.long u1), .second, .val (.long v1), .second, .val (.long u2), .second, .val (.long v2), .second, .val (.long u3), .second, .val (.long v3), .second, .val (.int s2), .val (.int s3), .val (.ref b415), .val (.int (if (2 : Int64) < (2 : Int64) * n2 then 1 else 0)), .unset, .unset, .unset] [(.long v1), (.long u1), (.ref b415)])) rfl (by rw [hml]; rfl) (Steps.refl _) (argsL := [(.long u1), (.long v1)]) (rest := []) (lenOf pd__28JJ_29V rfl) rfl (by show 2 * 0 + _ ≤ _; exact Nat.le_of_eq rfl) (hb hby at_207) (fun _ _ => ⟨rfl, e440q, (by decide : 2 + 0 ≤ _), (by decide : 35 + 0 ≤ _)⟩)
        dsimp only [Pt.U, Pt.locs, Pt.cells, Pt.slots] at X441 l441 y441 z441 st441 hQ441
        subst l441 y441 z441
        refine Run.step (fun t k => st441.trans k) ?_
        obtain ⟨rfl, N441q, K441q, fr441, fl441, fn441, fv441⟩ := hQ441
        have N441 := Fr.app N440 N441q
        have f442 := f434.keep K441q
        have z447 := Nat.le_trans z439 K441q.1
        show Run _ _ _ _ (T441.setTop (mkF m 210 #[.val (.long p1), .second, .val (.long p2), .second, .val (.long p3), .second, .val (.long p4), .second, .val (.long p5), .second, .val (.long p6), .second, .val (.long mk), .second, .val (.long u1), .second, .val (.long v1), .second, .val (.long u2), .second, .val (.long v2), .second, .val (.long u3), .second, .val (.long v3), .second, .val (.int s2), .val (.int s3), .val (.ref b415), .val (.int (if (2 : Int64) < (2 : Int64) * n2 then 1 else 0)), .unset, .unset, .unset] []))
        refine Run.step (fun t_ k_ => XS.aload X441.here hx rfl (hb hby at_210) rfl rfl k_) ?_
        show Run _ _ _ _ (T441.setTop (mkF m 212 #[.val (.long p1), .second, .val (.long p2), .second, .val (.long p3), .second, .val (.long p4), .second, .val (.long p5), .second, .val (.long p6), .second, .val (.long mk), .second, .val (.long u1), .second, .val (.long v1), .second, .val (.long u2), .second, .val (.long v2), .second, .val (.long u3), .second, .val (.long v3), .second, .val (.int s2), .val (.int s3), .val (.ref b415), .val (.int (if (2 : Int64) < (2 : Int64) * n2 then 1 else 0)), .unset, .unset, .unset] [(.ref b415)]))
        obtain ⟨cq448, kq448, q448a, q448b, q448c⟩ := isOf hZ rfl f442
        obtain ⟨_, _, ⟨T448, L448, k448, n448⟩, -, X448, ⟨Lc448, hQ448, l448, y448, z448⟩, st448⟩ := X441.virtualBack hx (y := (⟨"cleave/partition/LineGroups", "grouped", "()Z"⟩ : MethodName)) (z := (⟨"cleave/partition/LineGroups", "grouped", "()Z"⟩ : MethodName)) hown (mvT hZ w28) (mvT hZ w29) (notFace_of_selects (args := #[]) (mvT hZ w31)) (mvT hZ w31) (mvT hZ w30) (by decide) (backOf (W := 0) (rm5 l Z a0 hw [] b415 (3 : Int64) (n2 + 1) T441.heap n0 z447 fl441 fn441) hZ w32 w3 (by decide) (by decide)) q448a q448c (g := (mkF m 212 #[.val (.long p1), .second, .val (.long p2), .second, .val (.long p3), .second, .val (.long p4), .second, .val (.long p5), .second, .val (.long p6), .second, .val (.long mk), .second, .val (.long u1), .second, .val (.long v1), .second, .val (.long u2), .second, .val (.long v2), .second, .val (.long u3), .second, .val (.long v3), .second, .val (.int s2), .val (.int s3), .val (.ref b415), .val (.int (if (2 : Int64) < (2 : Int64) * n2 then 1 else 0)), .unset, .unset, .unset] [(.ref b415)])) rfl (by rw [hml]; rfl) (Steps.refl _) (argsL := []) (rest := []) (lenOf pd__28_29Z rfl) rfl (by show 2 * 0 + _ ≤ _; exact Nat.le_of_eq rfl) (hb hby at_212) (fun _ _ => ⟨rfl, rfl, (by decide : 2 + 0 ≤ _), (by decide : 35 + 0 ≤ _)⟩)
        dsimp only [Pt.U, Pt.locs, Pt.cells, Pt.slots] at X448 l448 y448 z448 st448 hQ448
        subst l448 y448 z448
        refine Run.step (fun t k => st448.trans k) ?_
        obtain ⟨rfl, N448q, e448q⟩ := hQ448
        have N448 := Fr.app N441 N448q
        show Run _ _ _ _ (T448.setTop (mkF m 215 #[.val (.long p1), .second, .val (.long p2), .second, .val (.long p3), .second, .val (.long p4), .second, .val (.long p5), .second, .val (.long p6), .second, .val (.long mk), .second, .val (.long u1), .second, .val (.long v1), .second, .val (.long u2), .second, .val (.long v2), .second, .val (.long u3), .second, .val (.long v3), .second, .val (.int s2), .val (.int s3), .val (.ref b415), .val (.int (if (2 : Int64) < (2 : Int64) * n2 then 1 else 0)), .unset, .unset, .unset] [(.int (if (3 : Int64) < (2 : Int64) * (n2 + 1) then 1 else 0))]))
        refine Run.step (fun t_ k_ => XS.istore X448.here hx rfl (hb hby at_215) rfl (l' := #[.val (.long p1), .second, .val (.long p2), .second, .val (.long p3), .second, .val (.long p4), .second, .val (.long p5), .second, .val (.long p6), .second, .val (.long mk), .second, .val (.long u1), .second, .val (.long v1), .second, .val (.long u2), .second, .val (.long v2), .second, .val (.long u3), .second, .val (.long v3), .second, .val (.int s2), .val (.int s3), .val (.ref b415), .val (.int (if (2 : Int64) < (2 : Int64) * n2 then 1 else 0)), .val (.int (if (3 : Int64) < (2 : Int64) * (n2 + 1) then 1 else 0)), .unset, .unset]) rfl k_) ?_
        show Run _ _ _ _ (T448.setTop (mkF m 217 #[.val (.long p1), .second, .val (.long p2), .second, .val (.long p3), .second, .val (.long p4), .second, .val (.long p5), .second, .val (.long p6), .second, .val (.long mk), .second, .val (.long u1), .second, .val (.long v1), .second, .val (.long u2), .second, .val (.long v2), .second, .val (.long u3), .second, .val (.long v3), .second, .val (.int s2), .val (.int s3), .val (.ref b415), .val (.int (if (2 : Int64) < (2 : Int64) * n2 then 1 else 0)), .val (.int (if (3 : Int64) < (2 : Int64) * (n2 + 1) then 1 else 0)), .unset, .unset] []))
        obtain ⟨T449, h449, X449, e449, E449, A449, D449, -, st449⟩ := newO X448 hx hZ hown w1 w2 w3 e448q (g := (mkF m 217 #[.val (.long p1), .second, .val (.long p2), .second, .val (.long p3), .second, .val (.long p4), .second, .val (.long p5), .second, .val (.long p6), .second, .val (.long mk), .second, .val (.long u1), .second, .val (.long v1), .second, .val (.long u2), .second, .val (.long v2), .second, .val (.long u3), .second, .val (.long v3), .second, .val (.int s2), .val (.int s3), .val (.ref b415), .val (.int (if (2 : Int64) < (2 : Int64) * n2 then 1 else 0)), .val (.int (if (3 : Int64) < (2 : Int64) * (n2 + 1) then 1 else 0)), .unset, .unset] [])) rfl (hb hby at_217) (by decide) (by decide)
        obtain ⟨b449, g449⟩ : ∃ z, z = T441.heap.size := ⟨_, rfl⟩
        rw [← g449] at A449 D449 st449
        refine Run.step st449 ?_
        have ne450 : b415 ≠ b449 := Nat.ne_of_lt (Nat.lt_of_lt_of_le f442.lt (Nat.le_of_eq g449.symm))
        have ne451 : r420 ≠ b449 := Nat.ne_of_lt (Nat.lt_of_lt_of_le fv441.lt (Nat.le_of_eq g449.symm))
        have g_b449 : n0 ≤ b449 := Nat.le_trans z447 (Nat.le_of_eq g449.symm)
        have f452 := f442.ext E449
        have f453 := fr441.ext E449
        have f454 := fl441.ext E449
        have f455 := fn441.ext E449
        have f456 := fv441.ext E449
        have z457 := Nat.le_trans z447 E449.1
        have f458 : Fld Z h449 b449 "cleave/partition/LineGroups" "recent" "[J" .null := D449 (Or.inr w12) (ty := (.array .long)) (by decide)
        have f459 : Fld Z h449 b449 "cleave/partition/LineGroups" "lines" "J" (.long (0 : Int64)) := D449 (Or.inl w24) (ty := .long) (by decide)
        have f460 : Fld Z h449 b449 "cleave/partition/LineGroups" "near" "J" (.long (0 : Int64)) := D449 (Or.inl w27) (ty := .long) (by decide)
        show Run _ _ _ _ (T449.setTop (mkF m 220 #[.val (.long p1), .second, .val (.long p2), .second, .val (.long p3), .second, .val (.long p4), .second, .val (.long p5), .second, .val (.long p6), .second, .val (.long mk), .second, .val (.long u1), .second, .val (.long v1), .second, .val (.long u2), .second, .val (.long v2), .second, .val (.long u3), .second, .val (.long v3), .second, .val (.int s2), .val (.int s3), .val (.ref b415), .val (.int (if (2 : Int64) < (2 : Int64) * n2 then 1 else 0)), .val (.int (if (3 : Int64) < (2 : Int64) * (n2 + 1) then 1 else 0)), .unset, .unset] [(.ref b449)]))
        refine Run.step (fun t_ k_ => XS.dup X449.here hx rfl (hb hby at_220) rfl rfl k_) ?_
        show Run _ _ _ _ (T449.setTop (mkF m 221 #[.val (.long p1), .second, .val (.long p2), .second, .val (.long p3), .second, .val (.long p4), .second, .val (.long p5), .second, .val (.long p6), .second, .val (.long mk), .second, .val (.long u1), .second, .val (.long v1), .second, .val (.long u2), .second, .val (.long v2), .second, .val (.long u3), .second, .val (.long v3), .second, .val (.int s2), .val (.int s3), .val (.ref b415), .val (.int (if (2 : Int64) < (2 : Int64) * n2 then 1 else 0)), .val (.int (if (3 : Int64) < (2 : Int64) * (n2 + 1) then 1 else 0)), .unset, .unset] [(.ref b449), (.ref b449)]))
        obtain ⟨_, _, ⟨T461, L461, k461, n461⟩, -, X461, ⟨Lc461, hQ461, l461, y461, z461⟩, st461⟩ := X449.specialBack hx (y := (⟨"cleave/partition/LineGroups", "<init>", "()V"⟩ : MethodName)) rfl hown (mvT hZ w4) (mvT hZ w5) (mvT hZ w6) (by decide) (backOf (W := 1) (rm1 l Z a0 hw [] b449 h449 n0 z457 f458 f459 f460 A449 g_b449) hZ w6 w3 (by decide) (by decide)) (g := (mkF m 221 #[.val (.long p1), .second, .val (.long p2), .second, .val (.long p3), .second, .val (.long p4), .second, .val (.long p5), .second, .val (.long p6), .second, .val (.long mk), .second, .val (.long u1), .second, .val (.long v1), .second, .val (.long u2), .second, .val (.long v2), .second, .val (.long u3), .second, .val (.long v3), .second, .val (.int s2), .val (.int s3), .val (.ref b415), .val (.int (if (2 : Int64) < (2 : Int64) * n2 then 1 else 0)), .val (.int (if (3 : Int64) < (2 : Int64) * (n2 + 1) then 1 else 0)), .unset, .unset] [(.ref b449), (.ref b449)])) rfl (by rw [hml]; rfl) (Steps.refl _) (a := b449) (argsL := []) (rest := [(.ref b449)]) (lenOf pd__28_29V rfl) rfl (by show 2 * 0 + _ ≤ _; exact Nat.le_of_eq rfl) (hb hby at_221) (fun _ _ => ⟨rfl, e449, (by decide : 3 + 1 ≤ _), (by decide : 38 + 32 ≤ _)⟩)
        dsimp only [Pt.U, Pt.locs, Pt.cells, Pt.slots] at X461 l461 y461 z461 st461 hQ461
        subst l461 y461 z461
        refine Run.step (fun t k => st461.trans k) ?_
        obtain ⟨rfl, N461q, K461q, r461, k461, fr461, fl461, fn461, fv461, fz461⟩ := hQ461
        have N461 := Fr.app N448 N461q
        have f462 := f452.keep K461q
        have f463 := f453.keep K461q (ninS ne450 nin0)
        have f464 := f454.keep K461q (ninS ne450 nin0)
        have f465 := f455.keep K461q (ninS ne450 nin0)
        have f466 := f456.keep K461q (ninS ne451 nin0)
        have f467 := A449.keep K461q
        have z471 := Nat.le_trans z457 K461q.1
        have gr461 : n0 ≤ r461 := Nat.le_trans z457 fz461
        have nr461b415 : b415 ≠ r461 := Nat.ne_of_lt (Nat.lt_of_lt_of_le f452.lt fz461)
        have nr461r420 : r420 ≠ r461 := Nat.ne_of_lt (Nat.lt_of_lt_of_le f456.lt fz461)
        have nr461b449 : b449 ≠ r461 := Nat.ne_of_lt (Nat.lt_of_lt_of_le A449.lt fz461)
        show Run _ _ _ _ (T461.setTop (mkF m 224 #[.val (.long p1), .second, .val (.long p2), .second, .val (.long p3), .second, .val (.long p4), .second, .val (.long p5), .second, .val (.long p6), .second, .val (.long mk), .second, .val (.long u1), .second, .val (.long v1), .second, .val (.long u2), .second, .val (.long v2), .second, .val (.long u3), .second, .val (.long v3), .second, .val (.int s2), .val (.int s3), .val (.ref b415), .val (.int (if (2 : Int64) < (2 : Int64) * n2 then 1 else 0)), .val (.int (if (3 : Int64) < (2 : Int64) * (n2 + 1) then 1 else 0)), .unset, .unset] [(.ref b449)]))
        refine Run.step (fun t_ k_ => XS.astore X461.here hx rfl (hb hby at_224) rfl rfl (l' := #[.val (.long p1), .second, .val (.long p2), .second, .val (.long p3), .second, .val (.long p4), .second, .val (.long p5), .second, .val (.long p6), .second, .val (.long mk), .second, .val (.long u1), .second, .val (.long v1), .second, .val (.long u2), .second, .val (.long v2), .second, .val (.long u3), .second, .val (.long v3), .second, .val (.int s2), .val (.int s3), .val (.ref b415), .val (.int (if (2 : Int64) < (2 : Int64) * n2 then 1 else 0)), .val (.int (if (3 : Int64) < (2 : Int64) * (n2 + 1) then 1 else 0)), .val (.ref b449), .unset]) rfl k_) ?_
        show Run _ _ _ _ (T461.setTop (mkF m 226 #[.val (.long p1), .second, .val (.long p2), .second, .val (.long p3), .second, .val (.long p4), .second, .val (.long p5), .second, .val (.long p6), .second, .val (.long mk), .second, .val (.long u1), .second, .val (.long v1), .second, .val (.long u2), .second, .val (.long v2), .second, .val (.long u3), .second, .val (.long v3), .second, .val (.int s2), .val (.int s3), .val (.ref b415), .val (.int (if (2 : Int64) < (2 : Int64) * n2 then 1 else 0)), .val (.int (if (3 : Int64) < (2 : Int64) * (n2 + 1) then 1 else 0)), .val (.ref b449), .unset] []))
        refine Run.step (fun t_ k_ => XS.aload X461.here hx rfl (hb hby at_226) rfl rfl k_) ?_
        show Run _ _ _ _ (T461.setTop (mkF m 228 #[.val (.long p1), .second, .val (.long p2), .second, .val (.long p3), .second, .val (.long p4), .second, .val (.long p5), .second, .val (.long p6), .second, .val (.long mk), .second, .val (.long u1), .second, .val (.long v1), .second, .val (.long u2), .second, .val (.long v2), .second, .val (.long u3), .second, .val (.long v3), .second, .val (.int s2), .val (.int s3), .val (.ref b415), .val (.int (if (2 : Int64) < (2 : Int64) * n2 then 1 else 0)), .val (.int (if (3 : Int64) < (2 : Int64) * (n2 + 1) then 1 else 0)), .val (.ref b449), .unset] [(.ref b449)]))
        refine Run.step (fun t_ k_ => XS.lload X461.here hx rfl (hb hby at_228) rfl k_) ?_
        show Run _ _ _ _ (T461.setTop (mkF m 230 #[.val (.long p1), .second, .val (.long p2), .second, .val (.long p3), .second, .val (.long p4), .second, .val (.long p5), .second, .val (.long p6), .second, .val (.long mk), .second, .val (.long u1), .second, .val (.long v1), .second, .val (.long u2), .second, .val (.long v2), .second, .val (.long u3), .second, .val (.long v3), .second, .val (.int s2), .val (.int s3), .val (.ref b415), .val (.int (if (2 : Int64) < (2 : Int64) * n2 then 1 else 0)), .val (.int (if (3 : Int64) < (2 : Int64) * (n2 + 1) then 1 else 0)), .val (.ref b449), .unset] [(.long u1), (.ref b449)]))
        refine Run.step (fun t_ k_ => XS.lload X461.here hx rfl (hb hby at_230) rfl k_) ?_
        show Run _ _ _ _ (T461.setTop (mkF m 232 #[.val (.long p1), .second, .val (.long p2), .second, .val (.long p3), .second, .val (.long p4), .second, .val (.long p5), .second, .val (.long p6), .second, .val (.long mk), .second, .val (.long u1), .second, .val (.long v1), .second, .val (.long u2), .second, .val (.long v2), .second, .val (.long u3), .second, .val (.long v3), .second, .val (.int s2), .val (.int s3), .val (.ref b415), .val (.int (if (2 : Int64) < (2 : Int64) * n2 then 1 else 0)), .val (.int (if (3 : Int64) < (2 : Int64) * (n2 + 1) then 1 else 0)), .val (.ref b449), .unset] [(.long v1), (.long u1), (.ref b449)]))
        obtain ⟨cq472, kq472, q472a, q472b, q472c⟩ := isOf hZ rfl f467
        obtain ⟨_, _, ⟨T472, L472, k472, n472⟩, -, X472, ⟨Lc472, hQ472, l472, y472, z472⟩, st472⟩ := X461.virtualBack hx (y := (⟨"cleave/partition/LineGroups", "read", "(JJ)V"⟩ : MethodName)) (z := (⟨"cleave/partition/LineGroups", "read", "(JJ)V"⟩ : MethodName)) hown (mvT hZ w18) (mvT hZ w19) (notFace_of_selects (args := #[]) (mvT hZ w21)) (mvT hZ w21) (mvT hZ w20) (by decide) (backOf (W := 0) (rm4_0 l Z a0 hw [] b449 r461 k461 (fun _ => -1) u1 v1 (0 : Int64) (0 : Int64) T461.heap n0 z471 (by rw [if_pos (own_hit0 _ _ s_u1 s_v1)]) fr461 fl461 fn461 f467 fv461 g_b449 gr461 (Ne.symm nr461b449)) hZ w22 w3 (by decide) (by decide)) q472a q472c (g := (mkF m 232 #[.val (.long p1), .second, .val (.long p2), .second, .val (.long p3), .second, .val (.long p4), .second, .val (.long p5), .second, .val (.long p6), .second, .val (.long mk), .second, .val (.long u1), .second, .val (.long v1), .second, .val (.long u2), .second, .val (.long v2), .second, .val (.long u3), .second, .val (.long v3), .second, .val (.int s2), .val (.int s3), .val (.ref b415), .val (.int (if (2 : Int64) < (2 : Int64) * n2 then 1 else 0)), .val (.int (if (3 : Int64) < (2 : Int64) * (n2 + 1) then 1 else 0)), .val (.ref b449), .unset] [(.long v1), (.long u1), (.ref b449)])) rfl (by rw [hml]; rfl) (Steps.refl _) (argsL := [(.long u1), (.long v1)]) (rest := []) (lenOf pd__28JJ_29V rfl) rfl (by show 2 * 0 + _ ≤ _; exact Nat.le_of_eq rfl) (hb hby at_232) (fun _ _ => ⟨rfl, rfl, (by decide : 4 + 0 ≤ _), (by decide : 70 + 0 ≤ _)⟩)
        dsimp only [Pt.U, Pt.locs, Pt.cells, Pt.slots] at X472 l472 y472 z472 st472 hQ472
        subst l472 y472 z472
        refine Run.step (fun t k => st472.trans k) ?_
        obtain ⟨rfl, N472q, K472q, fr472, fl472, fn472, fv472⟩ := hQ472
        have N472 := Fr.app N461 N472q
        have f473 := f462.keep K472q
        have f474 := f463.keep K472q (ninS ne450 (ninS nr461b415 nin0))
        have f475 := f464.keep K472q (ninS ne450 (ninS nr461b415 nin0))
        have f476 := f465.keep K472q (ninS ne450 (ninS nr461b415 nin0))
        have f477 := f466.keep K472q (ninS ne451 (ninS nr461r420 nin0))
        have f478 := f467.keep K472q
        have z483 := Nat.le_trans z471 K472q.1
        show Run _ _ _ _ (T472.setTop (mkF m 235 #[.val (.long p1), .second, .val (.long p2), .second, .val (.long p3), .second, .val (.long p4), .second, .val (.long p5), .second, .val (.long p6), .second, .val (.long mk), .second, .val (.long u1), .second, .val (.long v1), .second, .val (.long u2), .second, .val (.long v2), .second, .val (.long u3), .second, .val (.long v3), .second, .val (.int s2), .val (.int s3), .val (.ref b415), .val (.int (if (2 : Int64) < (2 : Int64) * n2 then 1 else 0)), .val (.int (if (3 : Int64) < (2 : Int64) * (n2 + 1) then 1 else 0)), .val (.ref b449), .unset] []))
        refine Run.step (fun t_ k_ => XS.aload X472.here hx rfl (hb hby at_235) rfl rfl k_) ?_
        show Run _ _ _ _ (T472.setTop (mkF m 237 #[.val (.long p1), .second, .val (.long p2), .second, .val (.long p3), .second, .val (.long p4), .second, .val (.long p5), .second, .val (.long p6), .second, .val (.long mk), .second, .val (.long u1), .second, .val (.long v1), .second, .val (.long u2), .second, .val (.long v2), .second, .val (.long u3), .second, .val (.long v3), .second, .val (.int s2), .val (.int s3), .val (.ref b415), .val (.int (if (2 : Int64) < (2 : Int64) * n2 then 1 else 0)), .val (.int (if (3 : Int64) < (2 : Int64) * (n2 + 1) then 1 else 0)), .val (.ref b449), .unset] [(.ref b449)]))
        refine Run.step (fun t_ k_ => XS.lload X472.here hx rfl (hb hby at_237) rfl k_) ?_
        show Run _ _ _ _ (T472.setTop (mkF m 239 #[.val (.long p1), .second, .val (.long p2), .second, .val (.long p3), .second, .val (.long p4), .second, .val (.long p5), .second, .val (.long p6), .second, .val (.long mk), .second, .val (.long u1), .second, .val (.long v1), .second, .val (.long u2), .second, .val (.long v2), .second, .val (.long u3), .second, .val (.long v3), .second, .val (.int s2), .val (.int s3), .val (.ref b415), .val (.int (if (2 : Int64) < (2 : Int64) * n2 then 1 else 0)), .val (.int (if (3 : Int64) < (2 : Int64) * (n2 + 1) then 1 else 0)), .val (.ref b449), .unset] [(.long u2), (.ref b449)]))
        refine Run.step (fun t_ k_ => XS.lload X472.here hx rfl (hb hby at_239) rfl k_) ?_
        show Run _ _ _ _ (T472.setTop (mkF m 241 #[.val (.long p1), .second, .val (.long p2), .second, .val (.long p3), .second, .val (.long p4), .second, .val (.long p5), .second, .val (.long p6), .second, .val (.long mk), .second, .val (.long u1), .second, .val (.long v1), .second, .val (.long u2), .second, .val (.long v2), .second, .val (.long u3), .second, .val (.long v3), .second, .val (.int s2), .val (.int s3), .val (.ref b415), .val (.int (if (2 : Int64) < (2 : Int64) * n2 then 1 else 0)), .val (.int (if (3 : Int64) < (2 : Int64) * (n2 + 1) then 1 else 0)), .val (.ref b449), .unset] [(.long v2), (.long u2), (.ref b449)]))
        obtain ⟨cq484, kq484, q484a, q484b, q484c⟩ := isOf hZ rfl f478
        obtain ⟨_, _, ⟨T484, L484, k484, n484⟩, -, X484, ⟨Lc484, hQ484, l484, y484, z484⟩, st484⟩ := X472.virtualBack hx (y := (⟨"cleave/partition/LineGroups", "read", "(JJ)V"⟩ : MethodName)) (z := (⟨"cleave/partition/LineGroups", "read", "(JJ)V"⟩ : MethodName)) hown (mvT hZ w18) (mvT hZ w19) (notFace_of_selects (args := #[]) (mvT hZ w21)) (mvT hZ w21) (mvT hZ w20) (by decide) (backOf (W := 0) (rm4_1 l Z a0 hw [] b449 r461 k461 (own_up (own_up (fun _ => -1) 0 u1) 1 v1) u2 v2 (0 : Int64) n2 T472.heap n0 z483 (own_n1 u1 v1 u2 v2 n2 s_u2 s_v2 hn2) fr472 fl472 fn472 f478 fv472 g_b449 gr461 (Ne.symm nr461b449)) hZ w22 w3 (by decide) (by decide)) q484a q484c (g := (mkF m 241 #[.val (.long p1), .second, .val (.long p2), .second, .val (.long p3), .second, .val (.long p4), .second, .val (.long p5), .second, .val (.long p6), .second, .val (.long mk), .second, .val (.long u1), .second, .val (.long v1), .second, .val (.long u2), .second, .val (.long v2), .second, .val (.long u3), .second, .val (.long v3), .second, .val (.int s2), .val (.int s3), .val (.ref b415), .val (.int (if (2 : Int64) < (2 : Int64) * n2 then 1 else 0)), .val (.int (if (3 : Int64) < (2 : Int64) * (n2 + 1) then 1 else 0)), .val (.ref b449), .unset] [(.long v2), (.long u2), (.ref b449)])) rfl (by rw [hml]; rfl) (Steps.refl _) (argsL := [(.long u2), (.long v2)]) (rest := []) (lenOf pd__28JJ_29V rfl) rfl (by show 2 * 0 + _ ≤ _; exact Nat.le_of_eq rfl) (hb hby at_241) (fun _ _ => ⟨rfl, rfl, (by decide : 4 + 0 ≤ _), (by decide : 70 + 0 ≤ _)⟩)
        dsimp only [Pt.U, Pt.locs, Pt.cells, Pt.slots] at X484 l484 y484 z484 st484 hQ484
        subst l484 y484 z484
        refine Run.step (fun t k => st484.trans k) ?_
        obtain ⟨rfl, N484q, K484q, fr484, fl484, fn484, fv484⟩ := hQ484
        have N484 := Fr.app N472 N484q
        have f485 := f473.keep K484q
        have f486 := f474.keep K484q (ninS ne450 (ninS nr461b415 nin0))
        have f487 := f475.keep K484q (ninS ne450 (ninS nr461b415 nin0))
        have f488 := f476.keep K484q (ninS ne450 (ninS nr461b415 nin0))
        have f489 := f477.keep K484q (ninS ne451 (ninS nr461r420 nin0))
        have f490 := f478.keep K484q
        have z495 := Nat.le_trans z483 K484q.1
        show Run _ _ _ _ (T484.setTop (mkF m 244 #[.val (.long p1), .second, .val (.long p2), .second, .val (.long p3), .second, .val (.long p4), .second, .val (.long p5), .second, .val (.long p6), .second, .val (.long mk), .second, .val (.long u1), .second, .val (.long v1), .second, .val (.long u2), .second, .val (.long v2), .second, .val (.long u3), .second, .val (.long v3), .second, .val (.int s2), .val (.int s3), .val (.ref b415), .val (.int (if (2 : Int64) < (2 : Int64) * n2 then 1 else 0)), .val (.int (if (3 : Int64) < (2 : Int64) * (n2 + 1) then 1 else 0)), .val (.ref b449), .unset] []))
        refine Run.step (fun t_ k_ => XS.aload X484.here hx rfl (hb hby at_244) rfl rfl k_) ?_
        show Run _ _ _ _ (T484.setTop (mkF m 246 #[.val (.long p1), .second, .val (.long p2), .second, .val (.long p3), .second, .val (.long p4), .second, .val (.long p5), .second, .val (.long p6), .second, .val (.long mk), .second, .val (.long u1), .second, .val (.long v1), .second, .val (.long u2), .second, .val (.long v2), .second, .val (.long u3), .second, .val (.long v3), .second, .val (.int s2), .val (.int s3), .val (.ref b415), .val (.int (if (2 : Int64) < (2 : Int64) * n2 then 1 else 0)), .val (.int (if (3 : Int64) < (2 : Int64) * (n2 + 1) then 1 else 0)), .val (.ref b449), .unset] [(.ref b449)]))
        refine Run.step (fun t_ k_ => XS.lload X484.here hx rfl (hb hby at_246) rfl k_) ?_
        show Run _ _ _ _ (T484.setTop (mkF m 248 #[.val (.long p1), .second, .val (.long p2), .second, .val (.long p3), .second, .val (.long p4), .second, .val (.long p5), .second, .val (.long p6), .second, .val (.long mk), .second, .val (.long u1), .second, .val (.long v1), .second, .val (.long u2), .second, .val (.long v2), .second, .val (.long u3), .second, .val (.long v3), .second, .val (.int s2), .val (.int s3), .val (.ref b415), .val (.int (if (2 : Int64) < (2 : Int64) * n2 then 1 else 0)), .val (.int (if (3 : Int64) < (2 : Int64) * (n2 + 1) then 1 else 0)), .val (.ref b449), .unset] [(.long u3), (.ref b449)]))
        refine Run.step (fun t_ k_ => XS.lload X484.here hx rfl (hb hby at_248) rfl k_) ?_
        show Run _ _ _ _ (T484.setTop (mkF m 250 #[.val (.long p1), .second, .val (.long p2), .second, .val (.long p3), .second, .val (.long p4), .second, .val (.long p5), .second, .val (.long p6), .second, .val (.long mk), .second, .val (.long u1), .second, .val (.long v1), .second, .val (.long u2), .second, .val (.long v2), .second, .val (.long u3), .second, .val (.long v3), .second, .val (.int s2), .val (.int s3), .val (.ref b415), .val (.int (if (2 : Int64) < (2 : Int64) * n2 then 1 else 0)), .val (.int (if (3 : Int64) < (2 : Int64) * (n2 + 1) then 1 else 0)), .val (.ref b449), .unset] [(.long v3), (.long u3), (.ref b449)]))
        obtain ⟨cq496, kq496, q496a, q496b, q496c⟩ := isOf hZ rfl f490
        obtain ⟨_, _, ⟨T496, L496, k496, n496⟩, -, X496, ⟨Lc496, hQ496, l496, y496, z496⟩, st496⟩ := X484.virtualBack hx (y := (⟨"cleave/partition/LineGroups", "read", "(JJ)V"⟩ : MethodName)) (z := (⟨"cleave/partition/LineGroups", "read", "(JJ)V"⟩ : MethodName)) hown (mvT hZ w18) (mvT hZ w19) (notFace_of_selects (args := #[]) (mvT hZ w21)) (mvT hZ w21) (mvT hZ w20) (by decide) (backOf (W := 0) (rm4_2 l Z a0 hw [] b449 r461 k461 (own_up (own_up (own_up (own_up (fun _ => -1) 0 u1) 1 v1) 2 u2) 3 v2) u3 v3 n2 (n2 + n3) T484.heap n0 z495 (own_n2 u1 v1 u2 v2 u3 v3 n2 n3 s_u3 s_v3 hn3) fr484 fl484 fn484 f490 fv484 g_b449 gr461 (Ne.symm nr461b449)) hZ w22 w3 (by decide) (by decide)) q496a q496c (g := (mkF m 250 #[.val (.long p1), .second, .val (.long p2), .second, .val (.long p3), .second, .val (.long p4), .second, .val (.long p5), .second, .val (.long p6), .second, .val (.long mk), .second, .val (.long u1), .second, .val (.long v1), .second, .val (.long u2), .second, .val (.long v2), .second, .val (.long u3), .second, .val (.long v3), .second, .val (.int s2), .val (.int s3), .val (.ref b415), .val (.int (if (2 : Int64) < (2 : Int64) * n2 then 1 else 0)), .val (.int (if (3 : Int64) < (2 : Int64) * (n2 + 1) then 1 else 0)), .val (.ref b449), .unset] [(.long v3), (.long u3), (.ref b449)])) rfl (by rw [hml]; rfl) (Steps.refl _) (argsL := [(.long u3), (.long v3)]) (rest := []) (lenOf pd__28JJ_29V rfl) rfl (by show 2 * 0 + _ ≤ _; exact Nat.le_of_eq rfl) (hb hby at_250) (fun _ _ => ⟨rfl, rfl, (by decide : 4 + 0 ≤ _), (by decide : 70 + 0 ≤ _)⟩)
        dsimp only [Pt.U, Pt.locs, Pt.cells, Pt.slots] at X496 l496 y496 z496 st496 hQ496
        subst l496 y496 z496
        refine Run.step (fun t k => st496.trans k) ?_
        obtain ⟨rfl, N496q, K496q, fr496, fl496, fn496, fv496⟩ := hQ496
        have N496 := Fr.app N484 N496q
        have f497 := f485.keep K496q
        have f498 := f486.keep K496q (ninS ne450 (ninS nr461b415 nin0))
        have f499 := f487.keep K496q (ninS ne450 (ninS nr461b415 nin0))
        have f500 := f488.keep K496q (ninS ne450 (ninS nr461b415 nin0))
        have f501 := f489.keep K496q (ninS ne451 (ninS nr461r420 nin0))
        have f502 := f490.keep K496q
        have z507 := Nat.le_trans z495 K496q.1
        show Run _ _ _ _ (T496.setTop (mkF m 253 #[.val (.long p1), .second, .val (.long p2), .second, .val (.long p3), .second, .val (.long p4), .second, .val (.long p5), .second, .val (.long p6), .second, .val (.long mk), .second, .val (.long u1), .second, .val (.long v1), .second, .val (.long u2), .second, .val (.long v2), .second, .val (.long u3), .second, .val (.long v3), .second, .val (.int s2), .val (.int s3), .val (.ref b415), .val (.int (if (2 : Int64) < (2 : Int64) * n2 then 1 else 0)), .val (.int (if (3 : Int64) < (2 : Int64) * (n2 + 1) then 1 else 0)), .val (.ref b449), .unset] []))
        refine Run.step (fun t_ k_ => XS.aload X496.here hx rfl (hb hby at_253) rfl rfl k_) ?_
        show Run _ _ _ _ (T496.setTop (mkF m 255 #[.val (.long p1), .second, .val (.long p2), .second, .val (.long p3), .second, .val (.long p4), .second, .val (.long p5), .second, .val (.long p6), .second, .val (.long mk), .second, .val (.long u1), .second, .val (.long v1), .second, .val (.long u2), .second, .val (.long v2), .second, .val (.long u3), .second, .val (.long v3), .second, .val (.int s2), .val (.int s3), .val (.ref b415), .val (.int (if (2 : Int64) < (2 : Int64) * n2 then 1 else 0)), .val (.int (if (3 : Int64) < (2 : Int64) * (n2 + 1) then 1 else 0)), .val (.ref b449), .unset] [(.ref b449)]))
        obtain ⟨cq508, kq508, q508a, q508b, q508c⟩ := isOf hZ rfl f502
        obtain ⟨_, _, ⟨T508, L508, k508, n508⟩, -, X508, ⟨Lc508, hQ508, l508, y508, z508⟩, st508⟩ := X496.virtualBack hx (y := (⟨"cleave/partition/LineGroups", "grouped", "()Z"⟩ : MethodName)) (z := (⟨"cleave/partition/LineGroups", "grouped", "()Z"⟩ : MethodName)) hown (mvT hZ w28) (mvT hZ w29) (notFace_of_selects (args := #[]) (mvT hZ w31)) (mvT hZ w31) (mvT hZ w30) (by decide) (backOf (W := 0) (rm5 l Z a0 hw [] b449 (3 : Int64) (n2 + n3) T496.heap n0 z507 fl496 fn496) hZ w32 w3 (by decide) (by decide)) q508a q508c (g := (mkF m 255 #[.val (.long p1), .second, .val (.long p2), .second, .val (.long p3), .second, .val (.long p4), .second, .val (.long p5), .second, .val (.long p6), .second, .val (.long mk), .second, .val (.long u1), .second, .val (.long v1), .second, .val (.long u2), .second, .val (.long v2), .second, .val (.long u3), .second, .val (.long v3), .second, .val (.int s2), .val (.int s3), .val (.ref b415), .val (.int (if (2 : Int64) < (2 : Int64) * n2 then 1 else 0)), .val (.int (if (3 : Int64) < (2 : Int64) * (n2 + 1) then 1 else 0)), .val (.ref b449), .unset] [(.ref b449)])) rfl (by rw [hml]; rfl) (Steps.refl _) (argsL := []) (rest := []) (lenOf pd__28_29Z rfl) rfl (by show 2 * 0 + _ ≤ _; exact Nat.le_of_eq rfl) (hb hby at_255) (fun _ _ => ⟨rfl, rfl, (by decide : 4 + 0 ≤ _), (by decide : 70 + 0 ≤ _)⟩)
        dsimp only [Pt.U, Pt.locs, Pt.cells, Pt.slots] at X508 l508 y508 z508 st508 hQ508
        subst l508 y508 z508
        refine Run.step (fun t k => st508.trans k) ?_
        obtain ⟨rfl, N508q, e508q⟩ := hQ508
        have N508 := Fr.app N496 N508q
        show Run _ _ _ _ (T508.setTop (mkF m 258 #[.val (.long p1), .second, .val (.long p2), .second, .val (.long p3), .second, .val (.long p4), .second, .val (.long p5), .second, .val (.long p6), .second, .val (.long mk), .second, .val (.long u1), .second, .val (.long v1), .second, .val (.long u2), .second, .val (.long v2), .second, .val (.long u3), .second, .val (.long v3), .second, .val (.int s2), .val (.int s3), .val (.ref b415), .val (.int (if (2 : Int64) < (2 : Int64) * n2 then 1 else 0)), .val (.int (if (3 : Int64) < (2 : Int64) * (n2 + 1) then 1 else 0)), .val (.ref b449), .unset] [(.int (if (3 : Int64) < (2 : Int64) * (n2 + n3) then 1 else 0))]))
        refine Run.step (fun t_ k_ => XS.istore X508.here hx rfl (hb hby at_258) rfl (l' := #[.val (.long p1), .second, .val (.long p2), .second, .val (.long p3), .second, .val (.long p4), .second, .val (.long p5), .second, .val (.long p6), .second, .val (.long mk), .second, .val (.long u1), .second, .val (.long v1), .second, .val (.long u2), .second, .val (.long v2), .second, .val (.long u3), .second, .val (.long v3), .second, .val (.int s2), .val (.int s3), .val (.ref b415), .val (.int (if (2 : Int64) < (2 : Int64) * n2 then 1 else 0)), .val (.int (if (3 : Int64) < (2 : Int64) * (n2 + 1) then 1 else 0)), .val (.ref b449), .val (.int (if (3 : Int64) < (2 : Int64) * (n2 + n3) then 1 else 0))]) rfl k_) ?_
        show Run _ _ _ _ (T508.setTop (mkF m 260 #[.val (.long p1), .second, .val (.long p2), .second, .val (.long p3), .second, .val (.long p4), .second, .val (.long p5), .second, .val (.long p6), .second, .val (.long mk), .second, .val (.long u1), .second, .val (.long v1), .second, .val (.long u2), .second, .val (.long v2), .second, .val (.long u3), .second, .val (.long v3), .second, .val (.int s2), .val (.int s3), .val (.ref b415), .val (.int (if (2 : Int64) < (2 : Int64) * n2 then 1 else 0)), .val (.int (if (3 : Int64) < (2 : Int64) * (n2 + 1) then 1 else 0)), .val (.ref b449), .val (.int (if (3 : Int64) < (2 : Int64) * (n2 + n3) then 1 else 0))] []))
        refine Run.step (fun t_ k_ => XS.iload X508.here hx rfl (hb hby at_260) rfl k_) ?_
        show Run _ _ _ _ (T508.setTop (mkF m 262 #[.val (.long p1), .second, .val (.long p2), .second, .val (.long p3), .second, .val (.long p4), .second, .val (.long p5), .second, .val (.long p6), .second, .val (.long mk), .second, .val (.long u1), .second, .val (.long v1), .second, .val (.long u2), .second, .val (.long v2), .second, .val (.long u3), .second, .val (.long v3), .second, .val (.int s2), .val (.int s3), .val (.ref b415), .val (.int (if (2 : Int64) < (2 : Int64) * n2 then 1 else 0)), .val (.int (if (3 : Int64) < (2 : Int64) * (n2 + 1) then 1 else 0)), .val (.ref b449), .val (.int (if (3 : Int64) < (2 : Int64) * (n2 + n3) then 1 else 0))] [(.int (if (2 : Int64) < (2 : Int64) * n2 then 1 else 0))]))
        refine Run.step (fun t_ k_ => XS.ifNo X508.here hx rfl (hb hby at_262) rfl (XT.i0_ne_f ((own_g0 n2 _ hn2) : (if (2 : Int64) < (2 : Int64) * n2 then 1 else 0) = (0 : Int32))) k_) ?_
        show Run _ _ _ _ (T508.setTop (mkF m 265 #[.val (.long p1), .second, .val (.long p2), .second, .val (.long p3), .second, .val (.long p4), .second, .val (.long p5), .second, .val (.long p6), .second, .val (.long mk), .second, .val (.long u1), .second, .val (.long v1), .second, .val (.long u2), .second, .val (.long v2), .second, .val (.long u3), .second, .val (.long v3), .second, .val (.int s2), .val (.int s3), .val (.ref b415), .val (.int (if (2 : Int64) < (2 : Int64) * n2 then 1 else 0)), .val (.int (if (3 : Int64) < (2 : Int64) * (n2 + 1) then 1 else 0)), .val (.ref b449), .val (.int (if (3 : Int64) < (2 : Int64) * (n2 + n3) then 1 else 0))] []))
        refine Run.step (fun t_ k_ => XS.iload X508.here hx rfl (hb hby at_265) rfl k_) ?_
        show Run _ _ _ _ (T508.setTop (mkF m 267 #[.val (.long p1), .second, .val (.long p2), .second, .val (.long p3), .second, .val (.long p4), .second, .val (.long p5), .second, .val (.long p6), .second, .val (.long mk), .second, .val (.long u1), .second, .val (.long v1), .second, .val (.long u2), .second, .val (.long v2), .second, .val (.long u3), .second, .val (.long v3), .second, .val (.int s2), .val (.int s3), .val (.ref b415), .val (.int (if (2 : Int64) < (2 : Int64) * n2 then 1 else 0)), .val (.int (if (3 : Int64) < (2 : Int64) * (n2 + 1) then 1 else 0)), .val (.ref b449), .val (.int (if (3 : Int64) < (2 : Int64) * (n2 + n3) then 1 else 0))] [(.int (if (3 : Int64) < (2 : Int64) * (n2 + 1) then 1 else 0))]))
        refine Run.step (fun t_ k_ => XS.iload X508.here hx rfl (hb hby at_267) rfl k_) ?_
        show Run _ _ _ _ (T508.setTop (mkF m 269 #[.val (.long p1), .second, .val (.long p2), .second, .val (.long p3), .second, .val (.long p4), .second, .val (.long p5), .second, .val (.long p6), .second, .val (.long mk), .second, .val (.long u1), .second, .val (.long v1), .second, .val (.long u2), .second, .val (.long v2), .second, .val (.long u3), .second, .val (.long v3), .second, .val (.int s2), .val (.int s3), .val (.ref b415), .val (.int (if (2 : Int64) < (2 : Int64) * n2 then 1 else 0)), .val (.int (if (3 : Int64) < (2 : Int64) * (n2 + 1) then 1 else 0)), .val (.ref b449), .val (.int (if (3 : Int64) < (2 : Int64) * (n2 + n3) then 1 else 0))] [(.int s2), (.int (if (3 : Int64) < (2 : Int64) * (n2 + 1) then 1 else 0))]))
        refine Run.step (fun t_ k_ => XS.icmpNo X508.here hx rfl (hb hby at_269) rfl (XT.ii_ne_f ((own_g1 n2 s2 _ hn2 hv413) : (if (3 : Int64) < (2 : Int64) * (n2 + 1) then 1 else 0) = s2)) k_) ?_
        show Run _ _ _ _ (T508.setTop (mkF m 272 #[.val (.long p1), .second, .val (.long p2), .second, .val (.long p3), .second, .val (.long p4), .second, .val (.long p5), .second, .val (.long p6), .second, .val (.long mk), .second, .val (.long u1), .second, .val (.long v1), .second, .val (.long u2), .second, .val (.long v2), .second, .val (.long u3), .second, .val (.long v3), .second, .val (.int s2), .val (.int s3), .val (.ref b415), .val (.int (if (2 : Int64) < (2 : Int64) * n2 then 1 else 0)), .val (.int (if (3 : Int64) < (2 : Int64) * (n2 + 1) then 1 else 0)), .val (.ref b449), .val (.int (if (3 : Int64) < (2 : Int64) * (n2 + n3) then 1 else 0))] []))
        refine Run.step (fun t_ k_ => XS.iload X508.here hx rfl (hb hby at_272) rfl k_) ?_
        show Run _ _ _ _ (T508.setTop (mkF m 274 #[.val (.long p1), .second, .val (.long p2), .second, .val (.long p3), .second, .val (.long p4), .second, .val (.long p5), .second, .val (.long p6), .second, .val (.long mk), .second, .val (.long u1), .second, .val (.long v1), .second, .val (.long u2), .second, .val (.long v2), .second, .val (.long u3), .second, .val (.long v3), .second, .val (.int s2), .val (.int s3), .val (.ref b415), .val (.int (if (2 : Int64) < (2 : Int64) * n2 then 1 else 0)), .val (.int (if (3 : Int64) < (2 : Int64) * (n2 + 1) then 1 else 0)), .val (.ref b449), .val (.int (if (3 : Int64) < (2 : Int64) * (n2 + n3) then 1 else 0))] [(.int (if (3 : Int64) < (2 : Int64) * (n2 + n3) then 1 else 0))]))
        refine Run.step (fun t_ k_ => XS.iload X508.here hx rfl (hb hby at_274) rfl k_) ?_
        show Run _ _ _ _ (T508.setTop (mkF m 276 #[.val (.long p1), .second, .val (.long p2), .second, .val (.long p3), .second, .val (.long p4), .second, .val (.long p5), .second, .val (.long p6), .second, .val (.long mk), .second, .val (.long u1), .second, .val (.long v1), .second, .val (.long u2), .second, .val (.long v2), .second, .val (.long u3), .second, .val (.long v3), .second, .val (.int s2), .val (.int s3), .val (.ref b415), .val (.int (if (2 : Int64) < (2 : Int64) * n2 then 1 else 0)), .val (.int (if (3 : Int64) < (2 : Int64) * (n2 + 1) then 1 else 0)), .val (.ref b449), .val (.int (if (3 : Int64) < (2 : Int64) * (n2 + n3) then 1 else 0))] [(.int s2), (.int (if (3 : Int64) < (2 : Int64) * (n2 + n3) then 1 else 0))]))
        by_cases c276 : s2 = (0 : Int32)
        · skip
          refine Run.step (fun t_ k_ => XS.ifYes X508.here hx rfl (pc0 := 276) (pc' := 288) rfl (hb hby at_276) rfl (XT.i0_eq_t c276) (by decide) (by decide) k_) ?_
          show Run _ _ _ _ (T508.setTop (mkF m 288 #[.val (.long p1), .second, .val (.long p2), .second, .val (.long p3), .second, .val (.long p4), .second, .val (.long p5), .second, .val (.long p6), .second, .val (.long mk), .second, .val (.long u1), .second, .val (.long v1), .second, .val (.long u2), .second, .val (.long v2), .second, .val (.long u3), .second, .val (.long v3), .second, .val (.int s2), .val (.int s3), .val (.ref b415), .val (.int (if (2 : Int64) < (2 : Int64) * n2 then 1 else 0)), .val (.int (if (3 : Int64) < (2 : Int64) * (n2 + 1) then 1 else 0)), .val (.ref b449), .val (.int (if (3 : Int64) < (2 : Int64) * (n2 + n3) then 1 else 0))] [(.int (if (3 : Int64) < (2 : Int64) * (n2 + n3) then 1 else 0))]))
          refine Run.step (fun t_ k_ => XS.iconst X508.here hx rfl (hb hby at_288) k_) ?_
          show Run _ _ _ _ (T508.setTop (mkF m 289 #[.val (.long p1), .second, .val (.long p2), .second, .val (.long p3), .second, .val (.long p4), .second, .val (.long p5), .second, .val (.long p6), .second, .val (.long mk), .second, .val (.long u1), .second, .val (.long v1), .second, .val (.long u2), .second, .val (.long v2), .second, .val (.long u3), .second, .val (.long v3), .second, .val (.int s2), .val (.int s3), .val (.ref b415), .val (.int (if (2 : Int64) < (2 : Int64) * n2 then 1 else 0)), .val (.int (if (3 : Int64) < (2 : Int64) * (n2 + 1) then 1 else 0)), .val (.ref b449), .val (.int (if (3 : Int64) < (2 : Int64) * (n2 + n3) then 1 else 0))] [(.int (0 : Int32)), (.int (if (3 : Int64) < (2 : Int64) * (n2 + n3) then 1 else 0))]))
          refine Run.step (fun t_ k_ => XS.icmpNo X508.here hx rfl (hb hby at_289) rfl (XT.ii_ne_f (((own_g2 n2 n3 s2 s3 _ _ hn2 hn3 hv413 hv414).trans (if_pos c276)) : (if (3 : Int64) < (2 : Int64) * (n2 + n3) then 1 else 0) = (0 : Int32))) k_) ?_
          show Run _ _ _ _ (T508.setTop (mkF m 292 #[.val (.long p1), .second, .val (.long p2), .second, .val (.long p3), .second, .val (.long p4), .second, .val (.long p5), .second, .val (.long p6), .second, .val (.long mk), .second, .val (.long u1), .second, .val (.long v1), .second, .val (.long u2), .second, .val (.long v2), .second, .val (.long u3), .second, .val (.long v3), .second, .val (.int s2), .val (.int s3), .val (.ref b415), .val (.int (if (2 : Int64) < (2 : Int64) * n2 then 1 else 0)), .val (.int (if (3 : Int64) < (2 : Int64) * (n2 + 1) then 1 else 0)), .val (.ref b449), .val (.int (if (3 : Int64) < (2 : Int64) * (n2 + n3) then 1 else 0))] []))
          refine Run.step (fun t_ k_ => XS.iconst X508.here hx rfl (hb hby at_292) k_) ?_
          show Run _ _ _ _ (T508.setTop (mkF m 293 #[.val (.long p1), .second, .val (.long p2), .second, .val (.long p3), .second, .val (.long p4), .second, .val (.long p5), .second, .val (.long p6), .second, .val (.long mk), .second, .val (.long u1), .second, .val (.long v1), .second, .val (.long u2), .second, .val (.long v2), .second, .val (.long u3), .second, .val (.long v3), .second, .val (.int s2), .val (.int s3), .val (.ref b415), .val (.int (if (2 : Int64) < (2 : Int64) * n2 then 1 else 0)), .val (.int (if (3 : Int64) < (2 : Int64) * (n2 + 1) then 1 else 0)), .val (.ref b449), .val (.int (if (3 : Int64) < (2 : Int64) * (n2 + n3) then 1 else 0))] [(.int (1 : Int32))]))
          refine Run.step (fun t_ k_ => XS.goto X508.here hx rfl (pc0 := 293) (pc' := 297) rfl (hb hby at_293) (by decide) (by decide) k_) ?_
          show Run _ _ _ _ (T508.setTop (mkF m 297 #[.val (.long p1), .second, .val (.long p2), .second, .val (.long p3), .second, .val (.long p4), .second, .val (.long p5), .second, .val (.long p6), .second, .val (.long mk), .second, .val (.long u1), .second, .val (.long v1), .second, .val (.long u2), .second, .val (.long v2), .second, .val (.long u3), .second, .val (.long v3), .second, .val (.int s2), .val (.int s3), .val (.ref b415), .val (.int (if (2 : Int64) < (2 : Int64) * n2 then 1 else 0)), .val (.int (if (3 : Int64) < (2 : Int64) * (n2 + 1) then 1 else 0)), .val (.ref b449), .val (.int (if (3 : Int64) < (2 : Int64) * (n2 + n3) then 1 else 0))] [(.int (1 : Int32))]))
          exact finZ X508 hx (BodyLoose.notSynchronized Bd) Bd.returns (hb hby at_297) (by decide) (by decide) (by decide) e508q ⟨rfl, N508⟩
        · skip
          refine Run.step (fun t_ k_ => XS.ifNo X508.here hx rfl (hb hby at_276) rfl (XT.i0_eq_f c276) k_) ?_
          show Run _ _ _ _ (T508.setTop (mkF m 279 #[.val (.long p1), .second, .val (.long p2), .second, .val (.long p3), .second, .val (.long p4), .second, .val (.long p5), .second, .val (.long p6), .second, .val (.long mk), .second, .val (.long u1), .second, .val (.long v1), .second, .val (.long u2), .second, .val (.long v2), .second, .val (.long u3), .second, .val (.long v3), .second, .val (.int s2), .val (.int s3), .val (.ref b415), .val (.int (if (2 : Int64) < (2 : Int64) * n2 then 1 else 0)), .val (.int (if (3 : Int64) < (2 : Int64) * (n2 + 1) then 1 else 0)), .val (.ref b449), .val (.int (if (3 : Int64) < (2 : Int64) * (n2 + n3) then 1 else 0))] [(.int (if (3 : Int64) < (2 : Int64) * (n2 + n3) then 1 else 0))]))
          refine Run.step (fun t_ k_ => XS.iload X508.here hx rfl (hb hby at_279) rfl k_) ?_
          show Run _ _ _ _ (T508.setTop (mkF m 281 #[.val (.long p1), .second, .val (.long p2), .second, .val (.long p3), .second, .val (.long p4), .second, .val (.long p5), .second, .val (.long p6), .second, .val (.long mk), .second, .val (.long u1), .second, .val (.long v1), .second, .val (.long u2), .second, .val (.long v2), .second, .val (.long u3), .second, .val (.long v3), .second, .val (.int s2), .val (.int s3), .val (.ref b415), .val (.int (if (2 : Int64) < (2 : Int64) * n2 then 1 else 0)), .val (.int (if (3 : Int64) < (2 : Int64) * (n2 + 1) then 1 else 0)), .val (.ref b449), .val (.int (if (3 : Int64) < (2 : Int64) * (n2 + n3) then 1 else 0))] [(.int s3), (.int (if (3 : Int64) < (2 : Int64) * (n2 + n3) then 1 else 0))]))
          by_cases c281 : s3 = (0 : Int32)
          · skip
            refine Run.step (fun t_ k_ => XS.ifYes X508.here hx rfl (pc0 := 281) (pc' := 288) rfl (hb hby at_281) rfl (XT.i0_eq_t c281) (by decide) (by decide) k_) ?_
            show Run _ _ _ _ (T508.setTop (mkF m 288 #[.val (.long p1), .second, .val (.long p2), .second, .val (.long p3), .second, .val (.long p4), .second, .val (.long p5), .second, .val (.long p6), .second, .val (.long mk), .second, .val (.long u1), .second, .val (.long v1), .second, .val (.long u2), .second, .val (.long v2), .second, .val (.long u3), .second, .val (.long v3), .second, .val (.int s2), .val (.int s3), .val (.ref b415), .val (.int (if (2 : Int64) < (2 : Int64) * n2 then 1 else 0)), .val (.int (if (3 : Int64) < (2 : Int64) * (n2 + 1) then 1 else 0)), .val (.ref b449), .val (.int (if (3 : Int64) < (2 : Int64) * (n2 + n3) then 1 else 0))] [(.int (if (3 : Int64) < (2 : Int64) * (n2 + n3) then 1 else 0))]))
            refine Run.step (fun t_ k_ => XS.iconst X508.here hx rfl (hb hby at_288) k_) ?_
            show Run _ _ _ _ (T508.setTop (mkF m 289 #[.val (.long p1), .second, .val (.long p2), .second, .val (.long p3), .second, .val (.long p4), .second, .val (.long p5), .second, .val (.long p6), .second, .val (.long mk), .second, .val (.long u1), .second, .val (.long v1), .second, .val (.long u2), .second, .val (.long v2), .second, .val (.long u3), .second, .val (.long v3), .second, .val (.int s2), .val (.int s3), .val (.ref b415), .val (.int (if (2 : Int64) < (2 : Int64) * n2 then 1 else 0)), .val (.int (if (3 : Int64) < (2 : Int64) * (n2 + 1) then 1 else 0)), .val (.ref b449), .val (.int (if (3 : Int64) < (2 : Int64) * (n2 + n3) then 1 else 0))] [(.int (0 : Int32)), (.int (if (3 : Int64) < (2 : Int64) * (n2 + n3) then 1 else 0))]))
            refine Run.step (fun t_ k_ => XS.icmpNo X508.here hx rfl (hb hby at_289) rfl (XT.ii_ne_f (((own_g2 n2 n3 s2 s3 _ _ hn2 hn3 hv413 hv414).trans ((if_neg c276).trans (if_pos c281))) : (if (3 : Int64) < (2 : Int64) * (n2 + n3) then 1 else 0) = (0 : Int32))) k_) ?_
            show Run _ _ _ _ (T508.setTop (mkF m 292 #[.val (.long p1), .second, .val (.long p2), .second, .val (.long p3), .second, .val (.long p4), .second, .val (.long p5), .second, .val (.long p6), .second, .val (.long mk), .second, .val (.long u1), .second, .val (.long v1), .second, .val (.long u2), .second, .val (.long v2), .second, .val (.long u3), .second, .val (.long v3), .second, .val (.int s2), .val (.int s3), .val (.ref b415), .val (.int (if (2 : Int64) < (2 : Int64) * n2 then 1 else 0)), .val (.int (if (3 : Int64) < (2 : Int64) * (n2 + 1) then 1 else 0)), .val (.ref b449), .val (.int (if (3 : Int64) < (2 : Int64) * (n2 + n3) then 1 else 0))] []))
            refine Run.step (fun t_ k_ => XS.iconst X508.here hx rfl (hb hby at_292) k_) ?_
            show Run _ _ _ _ (T508.setTop (mkF m 293 #[.val (.long p1), .second, .val (.long p2), .second, .val (.long p3), .second, .val (.long p4), .second, .val (.long p5), .second, .val (.long p6), .second, .val (.long mk), .second, .val (.long u1), .second, .val (.long v1), .second, .val (.long u2), .second, .val (.long v2), .second, .val (.long u3), .second, .val (.long v3), .second, .val (.int s2), .val (.int s3), .val (.ref b415), .val (.int (if (2 : Int64) < (2 : Int64) * n2 then 1 else 0)), .val (.int (if (3 : Int64) < (2 : Int64) * (n2 + 1) then 1 else 0)), .val (.ref b449), .val (.int (if (3 : Int64) < (2 : Int64) * (n2 + n3) then 1 else 0))] [(.int (1 : Int32))]))
            refine Run.step (fun t_ k_ => XS.goto X508.here hx rfl (pc0 := 293) (pc' := 297) rfl (hb hby at_293) (by decide) (by decide) k_) ?_
            show Run _ _ _ _ (T508.setTop (mkF m 297 #[.val (.long p1), .second, .val (.long p2), .second, .val (.long p3), .second, .val (.long p4), .second, .val (.long p5), .second, .val (.long p6), .second, .val (.long mk), .second, .val (.long u1), .second, .val (.long v1), .second, .val (.long u2), .second, .val (.long v2), .second, .val (.long u3), .second, .val (.long v3), .second, .val (.int s2), .val (.int s3), .val (.ref b415), .val (.int (if (2 : Int64) < (2 : Int64) * n2 then 1 else 0)), .val (.int (if (3 : Int64) < (2 : Int64) * (n2 + 1) then 1 else 0)), .val (.ref b449), .val (.int (if (3 : Int64) < (2 : Int64) * (n2 + n3) then 1 else 0))] [(.int (1 : Int32))]))
            exact finZ X508 hx (BodyLoose.notSynchronized Bd) Bd.returns (hb hby at_297) (by decide) (by decide) (by decide) e508q ⟨rfl, N508⟩
          · skip
            refine Run.step (fun t_ k_ => XS.ifNo X508.here hx rfl (hb hby at_281) rfl (XT.i0_eq_f c281) k_) ?_
            show Run _ _ _ _ (T508.setTop (mkF m 284 #[.val (.long p1), .second, .val (.long p2), .second, .val (.long p3), .second, .val (.long p4), .second, .val (.long p5), .second, .val (.long p6), .second, .val (.long mk), .second, .val (.long u1), .second, .val (.long v1), .second, .val (.long u2), .second, .val (.long v2), .second, .val (.long u3), .second, .val (.long v3), .second, .val (.int s2), .val (.int s3), .val (.ref b415), .val (.int (if (2 : Int64) < (2 : Int64) * n2 then 1 else 0)), .val (.int (if (3 : Int64) < (2 : Int64) * (n2 + 1) then 1 else 0)), .val (.ref b449), .val (.int (if (3 : Int64) < (2 : Int64) * (n2 + n3) then 1 else 0))] [(.int (if (3 : Int64) < (2 : Int64) * (n2 + n3) then 1 else 0))]))
            refine Run.step (fun t_ k_ => XS.iconst X508.here hx rfl (hb hby at_284) k_) ?_
            show Run _ _ _ _ (T508.setTop (mkF m 285 #[.val (.long p1), .second, .val (.long p2), .second, .val (.long p3), .second, .val (.long p4), .second, .val (.long p5), .second, .val (.long p6), .second, .val (.long mk), .second, .val (.long u1), .second, .val (.long v1), .second, .val (.long u2), .second, .val (.long v2), .second, .val (.long u3), .second, .val (.long v3), .second, .val (.int s2), .val (.int s3), .val (.ref b415), .val (.int (if (2 : Int64) < (2 : Int64) * n2 then 1 else 0)), .val (.int (if (3 : Int64) < (2 : Int64) * (n2 + 1) then 1 else 0)), .val (.ref b449), .val (.int (if (3 : Int64) < (2 : Int64) * (n2 + n3) then 1 else 0))] [(.int (1 : Int32)), (.int (if (3 : Int64) < (2 : Int64) * (n2 + n3) then 1 else 0))]))
            refine Run.step (fun t_ k_ => XS.goto X508.here hx rfl (pc0 := 285) (pc' := 289) rfl (hb hby at_285) (by decide) (by decide) k_) ?_
            show Run _ _ _ _ (T508.setTop (mkF m 289 #[.val (.long p1), .second, .val (.long p2), .second, .val (.long p3), .second, .val (.long p4), .second, .val (.long p5), .second, .val (.long p6), .second, .val (.long mk), .second, .val (.long u1), .second, .val (.long v1), .second, .val (.long u2), .second, .val (.long v2), .second, .val (.long u3), .second, .val (.long v3), .second, .val (.int s2), .val (.int s3), .val (.ref b415), .val (.int (if (2 : Int64) < (2 : Int64) * n2 then 1 else 0)), .val (.int (if (3 : Int64) < (2 : Int64) * (n2 + 1) then 1 else 0)), .val (.ref b449), .val (.int (if (3 : Int64) < (2 : Int64) * (n2 + n3) then 1 else 0))] [(.int (1 : Int32)), (.int (if (3 : Int64) < (2 : Int64) * (n2 + n3) then 1 else 0))]))
            refine Run.step (fun t_ k_ => XS.icmpNo X508.here hx rfl (hb hby at_289) rfl (XT.ii_ne_f (((own_g2 n2 n3 s2 s3 _ _ hn2 hn3 hv413 hv414).trans ((if_neg c276).trans (if_neg c281))) : (if (3 : Int64) < (2 : Int64) * (n2 + n3) then 1 else 0) = (1 : Int32))) k_) ?_
            show Run _ _ _ _ (T508.setTop (mkF m 292 #[.val (.long p1), .second, .val (.long p2), .second, .val (.long p3), .second, .val (.long p4), .second, .val (.long p5), .second, .val (.long p6), .second, .val (.long mk), .second, .val (.long u1), .second, .val (.long v1), .second, .val (.long u2), .second, .val (.long v2), .second, .val (.long u3), .second, .val (.long v3), .second, .val (.int s2), .val (.int s3), .val (.ref b415), .val (.int (if (2 : Int64) < (2 : Int64) * n2 then 1 else 0)), .val (.int (if (3 : Int64) < (2 : Int64) * (n2 + 1) then 1 else 0)), .val (.ref b449), .val (.int (if (3 : Int64) < (2 : Int64) * (n2 + n3) then 1 else 0))] []))
            refine Run.step (fun t_ k_ => XS.iconst X508.here hx rfl (hb hby at_292) k_) ?_
            show Run _ _ _ _ (T508.setTop (mkF m 293 #[.val (.long p1), .second, .val (.long p2), .second, .val (.long p3), .second, .val (.long p4), .second, .val (.long p5), .second, .val (.long p6), .second, .val (.long mk), .second, .val (.long u1), .second, .val (.long v1), .second, .val (.long u2), .second, .val (.long v2), .second, .val (.long u3), .second, .val (.long v3), .second, .val (.int s2), .val (.int s3), .val (.ref b415), .val (.int (if (2 : Int64) < (2 : Int64) * n2 then 1 else 0)), .val (.int (if (3 : Int64) < (2 : Int64) * (n2 + 1) then 1 else 0)), .val (.ref b449), .val (.int (if (3 : Int64) < (2 : Int64) * (n2 + n3) then 1 else 0))] [(.int (1 : Int32))]))
            refine Run.step (fun t_ k_ => XS.goto X508.here hx rfl (pc0 := 293) (pc' := 297) rfl (hb hby at_293) (by decide) (by decide) k_) ?_
            show Run _ _ _ _ (T508.setTop (mkF m 297 #[.val (.long p1), .second, .val (.long p2), .second, .val (.long p3), .second, .val (.long p4), .second, .val (.long p5), .second, .val (.long p6), .second, .val (.long mk), .second, .val (.long u1), .second, .val (.long v1), .second, .val (.long u2), .second, .val (.long v2), .second, .val (.long u3), .second, .val (.long v3), .second, .val (.int s2), .val (.int s3), .val (.ref b415), .val (.int (if (2 : Int64) < (2 : Int64) * n2 then 1 else 0)), .val (.int (if (3 : Int64) < (2 : Int64) * (n2 + 1) then 1 else 0)), .val (.ref b449), .val (.int (if (3 : Int64) < (2 : Int64) * (n2 + n3) then 1 else 0))] [(.int (1 : Int32))]))
            exact finZ X508 hx (BodyLoose.notSynchronized Bd) Bd.returns (hb hby at_297) (by decide) (by decide) (by decide) e508q ⟨rfl, N508⟩
      by_cases c101 : u3 = u1
      · skip
        refine Run.step (fun t_ k_ => XS.ifYes XJ413.here hx rfl (pc0 := 101) (pc' := 160) rfl (hb hby at_101) rfl (XT.ll_eq_t c101) (by decide) (by decide) k_) ?_
        show Run _ _ _ _ (TJ413.setTop (mkF m 160 #[.val (.long p1), .second, .val (.long p2), .second, .val (.long p3), .second, .val (.long p4), .second, .val (.long p5), .second, .val (.long p6), .second, .val (.long mk), .second, .val (.long u1), .second, .val (.long v1), .second, .val (.long u2), .second, .val (.long v2), .second, .val (.long u3), .second, .val (.long v3), .second, .val (.int s2), .unset, .unset, .unset, .unset, .unset, .unset] []))
        refine Run.step (fun t_ k_ => XS.iconst XJ413.here hx rfl (hb hby at_160) k_) ?_
        show Run _ _ _ _ (TJ413.setTop (mkF m 161 #[.val (.long p1), .second, .val (.long p2), .second, .val (.long p3), .second, .val (.long p4), .second, .val (.long p5), .second, .val (.long p6), .second, .val (.long mk), .second, .val (.long u1), .second, .val (.long v1), .second, .val (.long u2), .second, .val (.long v2), .second, .val (.long u3), .second, .val (.long v3), .second, .val (.int s2), .unset, .unset, .unset, .unset, .unset, .unset] [(.int (1 : Int32))]))
        refine Run.step (fun t_ k_ => XS.goto XJ413.here hx rfl (pc0 := 161) (pc' := 165) rfl (hb hby at_161) (by decide) (by decide) k_) ?_
        show Run _ _ _ _ (TJ413.setTop (mkF m 165 #[.val (.long p1), .second, .val (.long p2), .second, .val (.long p3), .second, .val (.long p4), .second, .val (.long p5), .second, .val (.long p6), .second, .val (.long mk), .second, .val (.long u1), .second, .val (.long v1), .second, .val (.long u2), .second, .val (.long v2), .second, .val (.long u3), .second, .val (.long v3), .second, .val (.int s2), .unset, .unset, .unset, .unset, .unset, .unset] [(.int (1 : Int32))]))
        exact J414 _ _ XJ413 eJ413 NJ413 (1 : Int32) (if_pos (Or.inl c101)).symm
      · skip
        refine Run.step (fun t_ k_ => XS.ifNo XJ413.here hx rfl (hb hby at_101) rfl (XT.ll_eq_f c101) k_) ?_
        show Run _ _ _ _ (TJ413.setTop (mkF m 104 #[.val (.long p1), .second, .val (.long p2), .second, .val (.long p3), .second, .val (.long p4), .second, .val (.long p5), .second, .val (.long p6), .second, .val (.long mk), .second, .val (.long u1), .second, .val (.long v1), .second, .val (.long u2), .second, .val (.long v2), .second, .val (.long u3), .second, .val (.long v3), .second, .val (.int s2), .unset, .unset, .unset, .unset, .unset, .unset] []))
        refine Run.step (fun t_ k_ => XS.lload XJ413.here hx rfl (hb hby at_104) rfl k_) ?_
        show Run _ _ _ _ (TJ413.setTop (mkF m 106 #[.val (.long p1), .second, .val (.long p2), .second, .val (.long p3), .second, .val (.long p4), .second, .val (.long p5), .second, .val (.long p6), .second, .val (.long mk), .second, .val (.long u1), .second, .val (.long v1), .second, .val (.long u2), .second, .val (.long v2), .second, .val (.long u3), .second, .val (.long v3), .second, .val (.int s2), .unset, .unset, .unset, .unset, .unset, .unset] [(.long u3)]))
        refine Run.step (fun t_ k_ => XS.lload XJ413.here hx rfl (hb hby at_106) rfl k_) ?_
        show Run _ _ _ _ (TJ413.setTop (mkF m 108 #[.val (.long p1), .second, .val (.long p2), .second, .val (.long p3), .second, .val (.long p4), .second, .val (.long p5), .second, .val (.long p6), .second, .val (.long mk), .second, .val (.long u1), .second, .val (.long v1), .second, .val (.long u2), .second, .val (.long v2), .second, .val (.long u3), .second, .val (.long v3), .second, .val (.int s2), .unset, .unset, .unset, .unset, .unset, .unset] [(.long v1), (.long u3)]))
        refine Run.step (fun t_ k_ => XS.lcmp XJ413.here hx rfl (hb hby at_108) rfl k_) ?_
        show Run _ _ _ _ (TJ413.setTop (mkF m 109 #[.val (.long p1), .second, .val (.long p2), .second, .val (.long p3), .second, .val (.long p4), .second, .val (.long p5), .second, .val (.long p6), .second, .val (.long mk), .second, .val (.long u1), .second, .val (.long v1), .second, .val (.long u2), .second, .val (.long v2), .second, .val (.long u3), .second, .val (.long v3), .second, .val (.int s2), .unset, .unset, .unset, .unset, .unset, .unset] [(.int (lcmpW u3 v1))]))
        by_cases c109 : u3 = v1
        · skip
          refine Run.step (fun t_ k_ => XS.ifYes XJ413.here hx rfl (pc0 := 109) (pc' := 160) rfl (hb hby at_109) rfl (XT.ll_eq_t c109) (by decide) (by decide) k_) ?_
          show Run _ _ _ _ (TJ413.setTop (mkF m 160 #[.val (.long p1), .second, .val (.long p2), .second, .val (.long p3), .second, .val (.long p4), .second, .val (.long p5), .second, .val (.long p6), .second, .val (.long mk), .second, .val (.long u1), .second, .val (.long v1), .second, .val (.long u2), .second, .val (.long v2), .second, .val (.long u3), .second, .val (.long v3), .second, .val (.int s2), .unset, .unset, .unset, .unset, .unset, .unset] []))
          refine Run.step (fun t_ k_ => XS.iconst XJ413.here hx rfl (hb hby at_160) k_) ?_
          show Run _ _ _ _ (TJ413.setTop (mkF m 161 #[.val (.long p1), .second, .val (.long p2), .second, .val (.long p3), .second, .val (.long p4), .second, .val (.long p5), .second, .val (.long p6), .second, .val (.long mk), .second, .val (.long u1), .second, .val (.long v1), .second, .val (.long u2), .second, .val (.long v2), .second, .val (.long u3), .second, .val (.long v3), .second, .val (.int s2), .unset, .unset, .unset, .unset, .unset, .unset] [(.int (1 : Int32))]))
          refine Run.step (fun t_ k_ => XS.goto XJ413.here hx rfl (pc0 := 161) (pc' := 165) rfl (hb hby at_161) (by decide) (by decide) k_) ?_
          show Run _ _ _ _ (TJ413.setTop (mkF m 165 #[.val (.long p1), .second, .val (.long p2), .second, .val (.long p3), .second, .val (.long p4), .second, .val (.long p5), .second, .val (.long p6), .second, .val (.long mk), .second, .val (.long u1), .second, .val (.long v1), .second, .val (.long u2), .second, .val (.long v2), .second, .val (.long u3), .second, .val (.long v3), .second, .val (.int s2), .unset, .unset, .unset, .unset, .unset, .unset] [(.int (1 : Int32))]))
          exact J414 _ _ XJ413 eJ413 NJ413 (1 : Int32) (if_pos (Or.inr (Or.inl c109))).symm
        · skip
          refine Run.step (fun t_ k_ => XS.ifNo XJ413.here hx rfl (hb hby at_109) rfl (XT.ll_eq_f c109) k_) ?_
          show Run _ _ _ _ (TJ413.setTop (mkF m 112 #[.val (.long p1), .second, .val (.long p2), .second, .val (.long p3), .second, .val (.long p4), .second, .val (.long p5), .second, .val (.long p6), .second, .val (.long mk), .second, .val (.long u1), .second, .val (.long v1), .second, .val (.long u2), .second, .val (.long v2), .second, .val (.long u3), .second, .val (.long v3), .second, .val (.int s2), .unset, .unset, .unset, .unset, .unset, .unset] []))
          refine Run.step (fun t_ k_ => XS.lload XJ413.here hx rfl (hb hby at_112) rfl k_) ?_
          show Run _ _ _ _ (TJ413.setTop (mkF m 114 #[.val (.long p1), .second, .val (.long p2), .second, .val (.long p3), .second, .val (.long p4), .second, .val (.long p5), .second, .val (.long p6), .second, .val (.long mk), .second, .val (.long u1), .second, .val (.long v1), .second, .val (.long u2), .second, .val (.long v2), .second, .val (.long u3), .second, .val (.long v3), .second, .val (.int s2), .unset, .unset, .unset, .unset, .unset, .unset] [(.long u3)]))
          refine Run.step (fun t_ k_ => XS.lload XJ413.here hx rfl (hb hby at_114) rfl k_) ?_
          show Run _ _ _ _ (TJ413.setTop (mkF m 116 #[.val (.long p1), .second, .val (.long p2), .second, .val (.long p3), .second, .val (.long p4), .second, .val (.long p5), .second, .val (.long p6), .second, .val (.long mk), .second, .val (.long u1), .second, .val (.long v1), .second, .val (.long u2), .second, .val (.long v2), .second, .val (.long u3), .second, .val (.long v3), .second, .val (.int s2), .unset, .unset, .unset, .unset, .unset, .unset] [(.long u2), (.long u3)]))
          refine Run.step (fun t_ k_ => XS.lcmp XJ413.here hx rfl (hb hby at_116) rfl k_) ?_
          show Run _ _ _ _ (TJ413.setTop (mkF m 117 #[.val (.long p1), .second, .val (.long p2), .second, .val (.long p3), .second, .val (.long p4), .second, .val (.long p5), .second, .val (.long p6), .second, .val (.long mk), .second, .val (.long u1), .second, .val (.long v1), .second, .val (.long u2), .second, .val (.long v2), .second, .val (.long u3), .second, .val (.long v3), .second, .val (.int s2), .unset, .unset, .unset, .unset, .unset, .unset] [(.int (lcmpW u3 u2))]))
          by_cases c117 : u3 = u2
          · skip
            refine Run.step (fun t_ k_ => XS.ifYes XJ413.here hx rfl (pc0 := 117) (pc' := 160) rfl (hb hby at_117) rfl (XT.ll_eq_t c117) (by decide) (by decide) k_) ?_
            show Run _ _ _ _ (TJ413.setTop (mkF m 160 #[.val (.long p1), .second, .val (.long p2), .second, .val (.long p3), .second, .val (.long p4), .second, .val (.long p5), .second, .val (.long p6), .second, .val (.long mk), .second, .val (.long u1), .second, .val (.long v1), .second, .val (.long u2), .second, .val (.long v2), .second, .val (.long u3), .second, .val (.long v3), .second, .val (.int s2), .unset, .unset, .unset, .unset, .unset, .unset] []))
            refine Run.step (fun t_ k_ => XS.iconst XJ413.here hx rfl (hb hby at_160) k_) ?_
            show Run _ _ _ _ (TJ413.setTop (mkF m 161 #[.val (.long p1), .second, .val (.long p2), .second, .val (.long p3), .second, .val (.long p4), .second, .val (.long p5), .second, .val (.long p6), .second, .val (.long mk), .second, .val (.long u1), .second, .val (.long v1), .second, .val (.long u2), .second, .val (.long v2), .second, .val (.long u3), .second, .val (.long v3), .second, .val (.int s2), .unset, .unset, .unset, .unset, .unset, .unset] [(.int (1 : Int32))]))
            refine Run.step (fun t_ k_ => XS.goto XJ413.here hx rfl (pc0 := 161) (pc' := 165) rfl (hb hby at_161) (by decide) (by decide) k_) ?_
            show Run _ _ _ _ (TJ413.setTop (mkF m 165 #[.val (.long p1), .second, .val (.long p2), .second, .val (.long p3), .second, .val (.long p4), .second, .val (.long p5), .second, .val (.long p6), .second, .val (.long mk), .second, .val (.long u1), .second, .val (.long v1), .second, .val (.long u2), .second, .val (.long v2), .second, .val (.long u3), .second, .val (.long v3), .second, .val (.int s2), .unset, .unset, .unset, .unset, .unset, .unset] [(.int (1 : Int32))]))
            exact J414 _ _ XJ413 eJ413 NJ413 (1 : Int32) (if_pos (Or.inr (Or.inr (Or.inl c117)))).symm
          · skip
            refine Run.step (fun t_ k_ => XS.ifNo XJ413.here hx rfl (hb hby at_117) rfl (XT.ll_eq_f c117) k_) ?_
            show Run _ _ _ _ (TJ413.setTop (mkF m 120 #[.val (.long p1), .second, .val (.long p2), .second, .val (.long p3), .second, .val (.long p4), .second, .val (.long p5), .second, .val (.long p6), .second, .val (.long mk), .second, .val (.long u1), .second, .val (.long v1), .second, .val (.long u2), .second, .val (.long v2), .second, .val (.long u3), .second, .val (.long v3), .second, .val (.int s2), .unset, .unset, .unset, .unset, .unset, .unset] []))
            refine Run.step (fun t_ k_ => XS.lload XJ413.here hx rfl (hb hby at_120) rfl k_) ?_
            show Run _ _ _ _ (TJ413.setTop (mkF m 122 #[.val (.long p1), .second, .val (.long p2), .second, .val (.long p3), .second, .val (.long p4), .second, .val (.long p5), .second, .val (.long p6), .second, .val (.long mk), .second, .val (.long u1), .second, .val (.long v1), .second, .val (.long u2), .second, .val (.long v2), .second, .val (.long u3), .second, .val (.long v3), .second, .val (.int s2), .unset, .unset, .unset, .unset, .unset, .unset] [(.long u3)]))
            refine Run.step (fun t_ k_ => XS.lload XJ413.here hx rfl (hb hby at_122) rfl k_) ?_
            show Run _ _ _ _ (TJ413.setTop (mkF m 124 #[.val (.long p1), .second, .val (.long p2), .second, .val (.long p3), .second, .val (.long p4), .second, .val (.long p5), .second, .val (.long p6), .second, .val (.long mk), .second, .val (.long u1), .second, .val (.long v1), .second, .val (.long u2), .second, .val (.long v2), .second, .val (.long u3), .second, .val (.long v3), .second, .val (.int s2), .unset, .unset, .unset, .unset, .unset, .unset] [(.long v2), (.long u3)]))
            refine Run.step (fun t_ k_ => XS.lcmp XJ413.here hx rfl (hb hby at_124) rfl k_) ?_
            show Run _ _ _ _ (TJ413.setTop (mkF m 125 #[.val (.long p1), .second, .val (.long p2), .second, .val (.long p3), .second, .val (.long p4), .second, .val (.long p5), .second, .val (.long p6), .second, .val (.long mk), .second, .val (.long u1), .second, .val (.long v1), .second, .val (.long u2), .second, .val (.long v2), .second, .val (.long u3), .second, .val (.long v3), .second, .val (.int s2), .unset, .unset, .unset, .unset, .unset, .unset] [(.int (lcmpW u3 v2))]))
            by_cases c125 : u3 = v2
            · skip
              refine Run.step (fun t_ k_ => XS.ifYes XJ413.here hx rfl (pc0 := 125) (pc' := 160) rfl (hb hby at_125) rfl (XT.ll_eq_t c125) (by decide) (by decide) k_) ?_
              show Run _ _ _ _ (TJ413.setTop (mkF m 160 #[.val (.long p1), .second, .val (.long p2), .second, .val (.long p3), .second, .val (.long p4), .second, .val (.long p5), .second, .val (.long p6), .second, .val (.long mk), .second, .val (.long u1), .second, .val (.long v1), .second, .val (.long u2), .second, .val (.long v2), .second, .val (.long u3), .second, .val (.long v3), .second, .val (.int s2), .unset, .unset, .unset, .unset, .unset, .unset] []))
              refine Run.step (fun t_ k_ => XS.iconst XJ413.here hx rfl (hb hby at_160) k_) ?_
              show Run _ _ _ _ (TJ413.setTop (mkF m 161 #[.val (.long p1), .second, .val (.long p2), .second, .val (.long p3), .second, .val (.long p4), .second, .val (.long p5), .second, .val (.long p6), .second, .val (.long mk), .second, .val (.long u1), .second, .val (.long v1), .second, .val (.long u2), .second, .val (.long v2), .second, .val (.long u3), .second, .val (.long v3), .second, .val (.int s2), .unset, .unset, .unset, .unset, .unset, .unset] [(.int (1 : Int32))]))
              refine Run.step (fun t_ k_ => XS.goto XJ413.here hx rfl (pc0 := 161) (pc' := 165) rfl (hb hby at_161) (by decide) (by decide) k_) ?_
              show Run _ _ _ _ (TJ413.setTop (mkF m 165 #[.val (.long p1), .second, .val (.long p2), .second, .val (.long p3), .second, .val (.long p4), .second, .val (.long p5), .second, .val (.long p6), .second, .val (.long mk), .second, .val (.long u1), .second, .val (.long v1), .second, .val (.long u2), .second, .val (.long v2), .second, .val (.long u3), .second, .val (.long v3), .second, .val (.int s2), .unset, .unset, .unset, .unset, .unset, .unset] [(.int (1 : Int32))]))
              exact J414 _ _ XJ413 eJ413 NJ413 (1 : Int32) (if_pos (Or.inr (Or.inr (Or.inr (Or.inl c125))))).symm
            · skip
              refine Run.step (fun t_ k_ => XS.ifNo XJ413.here hx rfl (hb hby at_125) rfl (XT.ll_eq_f c125) k_) ?_
              show Run _ _ _ _ (TJ413.setTop (mkF m 128 #[.val (.long p1), .second, .val (.long p2), .second, .val (.long p3), .second, .val (.long p4), .second, .val (.long p5), .second, .val (.long p6), .second, .val (.long mk), .second, .val (.long u1), .second, .val (.long v1), .second, .val (.long u2), .second, .val (.long v2), .second, .val (.long u3), .second, .val (.long v3), .second, .val (.int s2), .unset, .unset, .unset, .unset, .unset, .unset] []))
              refine Run.step (fun t_ k_ => XS.lload XJ413.here hx rfl (hb hby at_128) rfl k_) ?_
              show Run _ _ _ _ (TJ413.setTop (mkF m 130 #[.val (.long p1), .second, .val (.long p2), .second, .val (.long p3), .second, .val (.long p4), .second, .val (.long p5), .second, .val (.long p6), .second, .val (.long mk), .second, .val (.long u1), .second, .val (.long v1), .second, .val (.long u2), .second, .val (.long v2), .second, .val (.long u3), .second, .val (.long v3), .second, .val (.int s2), .unset, .unset, .unset, .unset, .unset, .unset] [(.long v3)]))
              refine Run.step (fun t_ k_ => XS.lload XJ413.here hx rfl (hb hby at_130) rfl k_) ?_
              show Run _ _ _ _ (TJ413.setTop (mkF m 132 #[.val (.long p1), .second, .val (.long p2), .second, .val (.long p3), .second, .val (.long p4), .second, .val (.long p5), .second, .val (.long p6), .second, .val (.long mk), .second, .val (.long u1), .second, .val (.long v1), .second, .val (.long u2), .second, .val (.long v2), .second, .val (.long u3), .second, .val (.long v3), .second, .val (.int s2), .unset, .unset, .unset, .unset, .unset, .unset] [(.long u1), (.long v3)]))
              refine Run.step (fun t_ k_ => XS.lcmp XJ413.here hx rfl (hb hby at_132) rfl k_) ?_
              show Run _ _ _ _ (TJ413.setTop (mkF m 133 #[.val (.long p1), .second, .val (.long p2), .second, .val (.long p3), .second, .val (.long p4), .second, .val (.long p5), .second, .val (.long p6), .second, .val (.long mk), .second, .val (.long u1), .second, .val (.long v1), .second, .val (.long u2), .second, .val (.long v2), .second, .val (.long u3), .second, .val (.long v3), .second, .val (.int s2), .unset, .unset, .unset, .unset, .unset, .unset] [(.int (lcmpW v3 u1))]))
              by_cases c133 : v3 = u1
              · skip
                refine Run.step (fun t_ k_ => XS.ifYes XJ413.here hx rfl (pc0 := 133) (pc' := 160) rfl (hb hby at_133) rfl (XT.ll_eq_t c133) (by decide) (by decide) k_) ?_
                show Run _ _ _ _ (TJ413.setTop (mkF m 160 #[.val (.long p1), .second, .val (.long p2), .second, .val (.long p3), .second, .val (.long p4), .second, .val (.long p5), .second, .val (.long p6), .second, .val (.long mk), .second, .val (.long u1), .second, .val (.long v1), .second, .val (.long u2), .second, .val (.long v2), .second, .val (.long u3), .second, .val (.long v3), .second, .val (.int s2), .unset, .unset, .unset, .unset, .unset, .unset] []))
                refine Run.step (fun t_ k_ => XS.iconst XJ413.here hx rfl (hb hby at_160) k_) ?_
                show Run _ _ _ _ (TJ413.setTop (mkF m 161 #[.val (.long p1), .second, .val (.long p2), .second, .val (.long p3), .second, .val (.long p4), .second, .val (.long p5), .second, .val (.long p6), .second, .val (.long mk), .second, .val (.long u1), .second, .val (.long v1), .second, .val (.long u2), .second, .val (.long v2), .second, .val (.long u3), .second, .val (.long v3), .second, .val (.int s2), .unset, .unset, .unset, .unset, .unset, .unset] [(.int (1 : Int32))]))
                refine Run.step (fun t_ k_ => XS.goto XJ413.here hx rfl (pc0 := 161) (pc' := 165) rfl (hb hby at_161) (by decide) (by decide) k_) ?_
                show Run _ _ _ _ (TJ413.setTop (mkF m 165 #[.val (.long p1), .second, .val (.long p2), .second, .val (.long p3), .second, .val (.long p4), .second, .val (.long p5), .second, .val (.long p6), .second, .val (.long mk), .second, .val (.long u1), .second, .val (.long v1), .second, .val (.long u2), .second, .val (.long v2), .second, .val (.long u3), .second, .val (.long v3), .second, .val (.int s2), .unset, .unset, .unset, .unset, .unset, .unset] [(.int (1 : Int32))]))
                exact J414 _ _ XJ413 eJ413 NJ413 (1 : Int32) (if_pos (Or.inr (Or.inr (Or.inr (Or.inr (Or.inl c133)))))).symm
              · skip
                refine Run.step (fun t_ k_ => XS.ifNo XJ413.here hx rfl (hb hby at_133) rfl (XT.ll_eq_f c133) k_) ?_
                show Run _ _ _ _ (TJ413.setTop (mkF m 136 #[.val (.long p1), .second, .val (.long p2), .second, .val (.long p3), .second, .val (.long p4), .second, .val (.long p5), .second, .val (.long p6), .second, .val (.long mk), .second, .val (.long u1), .second, .val (.long v1), .second, .val (.long u2), .second, .val (.long v2), .second, .val (.long u3), .second, .val (.long v3), .second, .val (.int s2), .unset, .unset, .unset, .unset, .unset, .unset] []))
                refine Run.step (fun t_ k_ => XS.lload XJ413.here hx rfl (hb hby at_136) rfl k_) ?_
                show Run _ _ _ _ (TJ413.setTop (mkF m 138 #[.val (.long p1), .second, .val (.long p2), .second, .val (.long p3), .second, .val (.long p4), .second, .val (.long p5), .second, .val (.long p6), .second, .val (.long mk), .second, .val (.long u1), .second, .val (.long v1), .second, .val (.long u2), .second, .val (.long v2), .second, .val (.long u3), .second, .val (.long v3), .second, .val (.int s2), .unset, .unset, .unset, .unset, .unset, .unset] [(.long v3)]))
                refine Run.step (fun t_ k_ => XS.lload XJ413.here hx rfl (hb hby at_138) rfl k_) ?_
                show Run _ _ _ _ (TJ413.setTop (mkF m 140 #[.val (.long p1), .second, .val (.long p2), .second, .val (.long p3), .second, .val (.long p4), .second, .val (.long p5), .second, .val (.long p6), .second, .val (.long mk), .second, .val (.long u1), .second, .val (.long v1), .second, .val (.long u2), .second, .val (.long v2), .second, .val (.long u3), .second, .val (.long v3), .second, .val (.int s2), .unset, .unset, .unset, .unset, .unset, .unset] [(.long v1), (.long v3)]))
                refine Run.step (fun t_ k_ => XS.lcmp XJ413.here hx rfl (hb hby at_140) rfl k_) ?_
                show Run _ _ _ _ (TJ413.setTop (mkF m 141 #[.val (.long p1), .second, .val (.long p2), .second, .val (.long p3), .second, .val (.long p4), .second, .val (.long p5), .second, .val (.long p6), .second, .val (.long mk), .second, .val (.long u1), .second, .val (.long v1), .second, .val (.long u2), .second, .val (.long v2), .second, .val (.long u3), .second, .val (.long v3), .second, .val (.int s2), .unset, .unset, .unset, .unset, .unset, .unset] [(.int (lcmpW v3 v1))]))
                by_cases c141 : v3 = v1
                · skip
                  refine Run.step (fun t_ k_ => XS.ifYes XJ413.here hx rfl (pc0 := 141) (pc' := 160) rfl (hb hby at_141) rfl (XT.ll_eq_t c141) (by decide) (by decide) k_) ?_
                  show Run _ _ _ _ (TJ413.setTop (mkF m 160 #[.val (.long p1), .second, .val (.long p2), .second, .val (.long p3), .second, .val (.long p4), .second, .val (.long p5), .second, .val (.long p6), .second, .val (.long mk), .second, .val (.long u1), .second, .val (.long v1), .second, .val (.long u2), .second, .val (.long v2), .second, .val (.long u3), .second, .val (.long v3), .second, .val (.int s2), .unset, .unset, .unset, .unset, .unset, .unset] []))
                  refine Run.step (fun t_ k_ => XS.iconst XJ413.here hx rfl (hb hby at_160) k_) ?_
                  show Run _ _ _ _ (TJ413.setTop (mkF m 161 #[.val (.long p1), .second, .val (.long p2), .second, .val (.long p3), .second, .val (.long p4), .second, .val (.long p5), .second, .val (.long p6), .second, .val (.long mk), .second, .val (.long u1), .second, .val (.long v1), .second, .val (.long u2), .second, .val (.long v2), .second, .val (.long u3), .second, .val (.long v3), .second, .val (.int s2), .unset, .unset, .unset, .unset, .unset, .unset] [(.int (1 : Int32))]))
                  refine Run.step (fun t_ k_ => XS.goto XJ413.here hx rfl (pc0 := 161) (pc' := 165) rfl (hb hby at_161) (by decide) (by decide) k_) ?_
                  show Run _ _ _ _ (TJ413.setTop (mkF m 165 #[.val (.long p1), .second, .val (.long p2), .second, .val (.long p3), .second, .val (.long p4), .second, .val (.long p5), .second, .val (.long p6), .second, .val (.long mk), .second, .val (.long u1), .second, .val (.long v1), .second, .val (.long u2), .second, .val (.long v2), .second, .val (.long u3), .second, .val (.long v3), .second, .val (.int s2), .unset, .unset, .unset, .unset, .unset, .unset] [(.int (1 : Int32))]))
                  exact J414 _ _ XJ413 eJ413 NJ413 (1 : Int32) (if_pos (Or.inr (Or.inr (Or.inr (Or.inr (Or.inr (Or.inl c141))))))).symm
                · skip
                  refine Run.step (fun t_ k_ => XS.ifNo XJ413.here hx rfl (hb hby at_141) rfl (XT.ll_eq_f c141) k_) ?_
                  show Run _ _ _ _ (TJ413.setTop (mkF m 144 #[.val (.long p1), .second, .val (.long p2), .second, .val (.long p3), .second, .val (.long p4), .second, .val (.long p5), .second, .val (.long p6), .second, .val (.long mk), .second, .val (.long u1), .second, .val (.long v1), .second, .val (.long u2), .second, .val (.long v2), .second, .val (.long u3), .second, .val (.long v3), .second, .val (.int s2), .unset, .unset, .unset, .unset, .unset, .unset] []))
                  refine Run.step (fun t_ k_ => XS.lload XJ413.here hx rfl (hb hby at_144) rfl k_) ?_
                  show Run _ _ _ _ (TJ413.setTop (mkF m 146 #[.val (.long p1), .second, .val (.long p2), .second, .val (.long p3), .second, .val (.long p4), .second, .val (.long p5), .second, .val (.long p6), .second, .val (.long mk), .second, .val (.long u1), .second, .val (.long v1), .second, .val (.long u2), .second, .val (.long v2), .second, .val (.long u3), .second, .val (.long v3), .second, .val (.int s2), .unset, .unset, .unset, .unset, .unset, .unset] [(.long v3)]))
                  refine Run.step (fun t_ k_ => XS.lload XJ413.here hx rfl (hb hby at_146) rfl k_) ?_
                  show Run _ _ _ _ (TJ413.setTop (mkF m 148 #[.val (.long p1), .second, .val (.long p2), .second, .val (.long p3), .second, .val (.long p4), .second, .val (.long p5), .second, .val (.long p6), .second, .val (.long mk), .second, .val (.long u1), .second, .val (.long v1), .second, .val (.long u2), .second, .val (.long v2), .second, .val (.long u3), .second, .val (.long v3), .second, .val (.int s2), .unset, .unset, .unset, .unset, .unset, .unset] [(.long u2), (.long v3)]))
                  refine Run.step (fun t_ k_ => XS.lcmp XJ413.here hx rfl (hb hby at_148) rfl k_) ?_
                  show Run _ _ _ _ (TJ413.setTop (mkF m 149 #[.val (.long p1), .second, .val (.long p2), .second, .val (.long p3), .second, .val (.long p4), .second, .val (.long p5), .second, .val (.long p6), .second, .val (.long mk), .second, .val (.long u1), .second, .val (.long v1), .second, .val (.long u2), .second, .val (.long v2), .second, .val (.long u3), .second, .val (.long v3), .second, .val (.int s2), .unset, .unset, .unset, .unset, .unset, .unset] [(.int (lcmpW v3 u2))]))
                  by_cases c149 : v3 = u2
                  · skip
                    refine Run.step (fun t_ k_ => XS.ifYes XJ413.here hx rfl (pc0 := 149) (pc' := 160) rfl (hb hby at_149) rfl (XT.ll_eq_t c149) (by decide) (by decide) k_) ?_
                    show Run _ _ _ _ (TJ413.setTop (mkF m 160 #[.val (.long p1), .second, .val (.long p2), .second, .val (.long p3), .second, .val (.long p4), .second, .val (.long p5), .second, .val (.long p6), .second, .val (.long mk), .second, .val (.long u1), .second, .val (.long v1), .second, .val (.long u2), .second, .val (.long v2), .second, .val (.long u3), .second, .val (.long v3), .second, .val (.int s2), .unset, .unset, .unset, .unset, .unset, .unset] []))
                    refine Run.step (fun t_ k_ => XS.iconst XJ413.here hx rfl (hb hby at_160) k_) ?_
                    show Run _ _ _ _ (TJ413.setTop (mkF m 161 #[.val (.long p1), .second, .val (.long p2), .second, .val (.long p3), .second, .val (.long p4), .second, .val (.long p5), .second, .val (.long p6), .second, .val (.long mk), .second, .val (.long u1), .second, .val (.long v1), .second, .val (.long u2), .second, .val (.long v2), .second, .val (.long u3), .second, .val (.long v3), .second, .val (.int s2), .unset, .unset, .unset, .unset, .unset, .unset] [(.int (1 : Int32))]))
                    refine Run.step (fun t_ k_ => XS.goto XJ413.here hx rfl (pc0 := 161) (pc' := 165) rfl (hb hby at_161) (by decide) (by decide) k_) ?_
                    show Run _ _ _ _ (TJ413.setTop (mkF m 165 #[.val (.long p1), .second, .val (.long p2), .second, .val (.long p3), .second, .val (.long p4), .second, .val (.long p5), .second, .val (.long p6), .second, .val (.long mk), .second, .val (.long u1), .second, .val (.long v1), .second, .val (.long u2), .second, .val (.long v2), .second, .val (.long u3), .second, .val (.long v3), .second, .val (.int s2), .unset, .unset, .unset, .unset, .unset, .unset] [(.int (1 : Int32))]))
                    exact J414 _ _ XJ413 eJ413 NJ413 (1 : Int32) (if_pos (Or.inr (Or.inr (Or.inr (Or.inr (Or.inr (Or.inr (Or.inl c149)))))))).symm
                  · skip
                    refine Run.step (fun t_ k_ => XS.ifNo XJ413.here hx rfl (hb hby at_149) rfl (XT.ll_eq_f c149) k_) ?_
                    show Run _ _ _ _ (TJ413.setTop (mkF m 152 #[.val (.long p1), .second, .val (.long p2), .second, .val (.long p3), .second, .val (.long p4), .second, .val (.long p5), .second, .val (.long p6), .second, .val (.long mk), .second, .val (.long u1), .second, .val (.long v1), .second, .val (.long u2), .second, .val (.long v2), .second, .val (.long u3), .second, .val (.long v3), .second, .val (.int s2), .unset, .unset, .unset, .unset, .unset, .unset] []))
                    refine Run.step (fun t_ k_ => XS.lload XJ413.here hx rfl (hb hby at_152) rfl k_) ?_
                    show Run _ _ _ _ (TJ413.setTop (mkF m 154 #[.val (.long p1), .second, .val (.long p2), .second, .val (.long p3), .second, .val (.long p4), .second, .val (.long p5), .second, .val (.long p6), .second, .val (.long mk), .second, .val (.long u1), .second, .val (.long v1), .second, .val (.long u2), .second, .val (.long v2), .second, .val (.long u3), .second, .val (.long v3), .second, .val (.int s2), .unset, .unset, .unset, .unset, .unset, .unset] [(.long v3)]))
                    refine Run.step (fun t_ k_ => XS.lload XJ413.here hx rfl (hb hby at_154) rfl k_) ?_
                    show Run _ _ _ _ (TJ413.setTop (mkF m 156 #[.val (.long p1), .second, .val (.long p2), .second, .val (.long p3), .second, .val (.long p4), .second, .val (.long p5), .second, .val (.long p6), .second, .val (.long mk), .second, .val (.long u1), .second, .val (.long v1), .second, .val (.long u2), .second, .val (.long v2), .second, .val (.long u3), .second, .val (.long v3), .second, .val (.int s2), .unset, .unset, .unset, .unset, .unset, .unset] [(.long v2), (.long v3)]))
                    refine Run.step (fun t_ k_ => XS.lcmp XJ413.here hx rfl (hb hby at_156) rfl k_) ?_
                    show Run _ _ _ _ (TJ413.setTop (mkF m 157 #[.val (.long p1), .second, .val (.long p2), .second, .val (.long p3), .second, .val (.long p4), .second, .val (.long p5), .second, .val (.long p6), .second, .val (.long mk), .second, .val (.long u1), .second, .val (.long v1), .second, .val (.long u2), .second, .val (.long v2), .second, .val (.long u3), .second, .val (.long v3), .second, .val (.int s2), .unset, .unset, .unset, .unset, .unset, .unset] [(.int (lcmpW v3 v2))]))
                    by_cases c157 : v3 = v2
                    · skip
                      refine Run.step (fun t_ k_ => XS.ifNo XJ413.here hx rfl (hb hby at_157) rfl (XT.ll_ne_f c157) k_) ?_
                      show Run _ _ _ _ (TJ413.setTop (mkF m 160 #[.val (.long p1), .second, .val (.long p2), .second, .val (.long p3), .second, .val (.long p4), .second, .val (.long p5), .second, .val (.long p6), .second, .val (.long mk), .second, .val (.long u1), .second, .val (.long v1), .second, .val (.long u2), .second, .val (.long v2), .second, .val (.long u3), .second, .val (.long v3), .second, .val (.int s2), .unset, .unset, .unset, .unset, .unset, .unset] []))
                      refine Run.step (fun t_ k_ => XS.iconst XJ413.here hx rfl (hb hby at_160) k_) ?_
                      show Run _ _ _ _ (TJ413.setTop (mkF m 161 #[.val (.long p1), .second, .val (.long p2), .second, .val (.long p3), .second, .val (.long p4), .second, .val (.long p5), .second, .val (.long p6), .second, .val (.long mk), .second, .val (.long u1), .second, .val (.long v1), .second, .val (.long u2), .second, .val (.long v2), .second, .val (.long u3), .second, .val (.long v3), .second, .val (.int s2), .unset, .unset, .unset, .unset, .unset, .unset] [(.int (1 : Int32))]))
                      refine Run.step (fun t_ k_ => XS.goto XJ413.here hx rfl (pc0 := 161) (pc' := 165) rfl (hb hby at_161) (by decide) (by decide) k_) ?_
                      show Run _ _ _ _ (TJ413.setTop (mkF m 165 #[.val (.long p1), .second, .val (.long p2), .second, .val (.long p3), .second, .val (.long p4), .second, .val (.long p5), .second, .val (.long p6), .second, .val (.long mk), .second, .val (.long u1), .second, .val (.long v1), .second, .val (.long u2), .second, .val (.long v2), .second, .val (.long u3), .second, .val (.long v3), .second, .val (.int s2), .unset, .unset, .unset, .unset, .unset, .unset] [(.int (1 : Int32))]))
                      exact J414 _ _ XJ413 eJ413 NJ413 (1 : Int32) (if_pos (Or.inr (Or.inr (Or.inr (Or.inr (Or.inr (Or.inr (Or.inr (c157))))))))).symm
                    · skip
                      refine Run.step (fun t_ k_ => XS.ifYes XJ413.here hx rfl (pc0 := 157) (pc' := 164) rfl (hb hby at_157) rfl (XT.ll_ne_t c157) (by decide) (by decide) k_) ?_
                      show Run _ _ _ _ (TJ413.setTop (mkF m 164 #[.val (.long p1), .second, .val (.long p2), .second, .val (.long p3), .second, .val (.long p4), .second, .val (.long p5), .second, .val (.long p6), .second, .val (.long mk), .second, .val (.long u1), .second, .val (.long v1), .second, .val (.long u2), .second, .val (.long v2), .second, .val (.long u3), .second, .val (.long v3), .second, .val (.int s2), .unset, .unset, .unset, .unset, .unset, .unset] []))
                      refine Run.step (fun t_ k_ => XS.iconst XJ413.here hx rfl (hb hby at_164) k_) ?_
                      show Run _ _ _ _ (TJ413.setTop (mkF m 165 #[.val (.long p1), .second, .val (.long p2), .second, .val (.long p3), .second, .val (.long p4), .second, .val (.long p5), .second, .val (.long p6), .second, .val (.long mk), .second, .val (.long u1), .second, .val (.long v1), .second, .val (.long u2), .second, .val (.long v2), .second, .val (.long u3), .second, .val (.long v3), .second, .val (.int s2), .unset, .unset, .unset, .unset, .unset, .unset] [(.int (0 : Int32))]))
                      exact J414 _ _ XJ413 eJ413 NJ413 (0 : Int32) (if_neg (by rintro (q | q | q | q | q | q | q | q); exact c101 q; exact c109 q; exact c117 q; exact c125 q; exact c133 q; exact c141 q; exact c149 q; exact c157 q)).symm
    by_cases c62 : u2 = u1
    · skip
      refine Run.step (fun t_ k_ => XS.ifYes XJ412.here hx rfl (pc0 := 62) (pc' := 89) rfl (hb hby at_62) rfl (XT.ll_eq_t c62) (by decide) (by decide) k_) ?_
      show Run _ _ _ _ (TJ412.setTop (mkF m 89 #[.val (.long p1), .second, .val (.long p2), .second, .val (.long p3), .second, .val (.long p4), .second, .val (.long p5), .second, .val (.long p6), .second, .val (.long mk), .second, .val (.long u1), .second, .val (.long v1), .second, .val (.long u2), .second, .val (.long v2), .second, .val (.long u3), .second, .val (.long v3), .second, .unset, .unset, .unset, .unset, .unset, .unset, .unset] []))
      refine Run.step (fun t_ k_ => XS.iconst XJ412.here hx rfl (hb hby at_89) k_) ?_
      show Run _ _ _ _ (TJ412.setTop (mkF m 90 #[.val (.long p1), .second, .val (.long p2), .second, .val (.long p3), .second, .val (.long p4), .second, .val (.long p5), .second, .val (.long p6), .second, .val (.long mk), .second, .val (.long u1), .second, .val (.long v1), .second, .val (.long u2), .second, .val (.long v2), .second, .val (.long u3), .second, .val (.long v3), .second, .unset, .unset, .unset, .unset, .unset, .unset, .unset] [(.int (1 : Int32))]))
      refine Run.step (fun t_ k_ => XS.goto XJ412.here hx rfl (pc0 := 90) (pc' := 94) rfl (hb hby at_90) (by decide) (by decide) k_) ?_
      show Run _ _ _ _ (TJ412.setTop (mkF m 94 #[.val (.long p1), .second, .val (.long p2), .second, .val (.long p3), .second, .val (.long p4), .second, .val (.long p5), .second, .val (.long p6), .second, .val (.long mk), .second, .val (.long u1), .second, .val (.long v1), .second, .val (.long u2), .second, .val (.long v2), .second, .val (.long u3), .second, .val (.long v3), .second, .unset, .unset, .unset, .unset, .unset, .unset, .unset] [(.int (1 : Int32))]))
      exact J413 _ _ XJ412 eJ412 NJ412 (1 : Int32) (if_pos (Or.inl c62)).symm
    · skip
      refine Run.step (fun t_ k_ => XS.ifNo XJ412.here hx rfl (hb hby at_62) rfl (XT.ll_eq_f c62) k_) ?_
      show Run _ _ _ _ (TJ412.setTop (mkF m 65 #[.val (.long p1), .second, .val (.long p2), .second, .val (.long p3), .second, .val (.long p4), .second, .val (.long p5), .second, .val (.long p6), .second, .val (.long mk), .second, .val (.long u1), .second, .val (.long v1), .second, .val (.long u2), .second, .val (.long v2), .second, .val (.long u3), .second, .val (.long v3), .second, .unset, .unset, .unset, .unset, .unset, .unset, .unset] []))
      refine Run.step (fun t_ k_ => XS.lload XJ412.here hx rfl (hb hby at_65) rfl k_) ?_
      show Run _ _ _ _ (TJ412.setTop (mkF m 67 #[.val (.long p1), .second, .val (.long p2), .second, .val (.long p3), .second, .val (.long p4), .second, .val (.long p5), .second, .val (.long p6), .second, .val (.long mk), .second, .val (.long u1), .second, .val (.long v1), .second, .val (.long u2), .second, .val (.long v2), .second, .val (.long u3), .second, .val (.long v3), .second, .unset, .unset, .unset, .unset, .unset, .unset, .unset] [(.long u2)]))
      refine Run.step (fun t_ k_ => XS.lload XJ412.here hx rfl (hb hby at_67) rfl k_) ?_
      show Run _ _ _ _ (TJ412.setTop (mkF m 69 #[.val (.long p1), .second, .val (.long p2), .second, .val (.long p3), .second, .val (.long p4), .second, .val (.long p5), .second, .val (.long p6), .second, .val (.long mk), .second, .val (.long u1), .second, .val (.long v1), .second, .val (.long u2), .second, .val (.long v2), .second, .val (.long u3), .second, .val (.long v3), .second, .unset, .unset, .unset, .unset, .unset, .unset, .unset] [(.long v1), (.long u2)]))
      refine Run.step (fun t_ k_ => XS.lcmp XJ412.here hx rfl (hb hby at_69) rfl k_) ?_
      show Run _ _ _ _ (TJ412.setTop (mkF m 70 #[.val (.long p1), .second, .val (.long p2), .second, .val (.long p3), .second, .val (.long p4), .second, .val (.long p5), .second, .val (.long p6), .second, .val (.long mk), .second, .val (.long u1), .second, .val (.long v1), .second, .val (.long u2), .second, .val (.long v2), .second, .val (.long u3), .second, .val (.long v3), .second, .unset, .unset, .unset, .unset, .unset, .unset, .unset] [(.int (lcmpW u2 v1))]))
      by_cases c70 : u2 = v1
      · skip
        refine Run.step (fun t_ k_ => XS.ifYes XJ412.here hx rfl (pc0 := 70) (pc' := 89) rfl (hb hby at_70) rfl (XT.ll_eq_t c70) (by decide) (by decide) k_) ?_
        show Run _ _ _ _ (TJ412.setTop (mkF m 89 #[.val (.long p1), .second, .val (.long p2), .second, .val (.long p3), .second, .val (.long p4), .second, .val (.long p5), .second, .val (.long p6), .second, .val (.long mk), .second, .val (.long u1), .second, .val (.long v1), .second, .val (.long u2), .second, .val (.long v2), .second, .val (.long u3), .second, .val (.long v3), .second, .unset, .unset, .unset, .unset, .unset, .unset, .unset] []))
        refine Run.step (fun t_ k_ => XS.iconst XJ412.here hx rfl (hb hby at_89) k_) ?_
        show Run _ _ _ _ (TJ412.setTop (mkF m 90 #[.val (.long p1), .second, .val (.long p2), .second, .val (.long p3), .second, .val (.long p4), .second, .val (.long p5), .second, .val (.long p6), .second, .val (.long mk), .second, .val (.long u1), .second, .val (.long v1), .second, .val (.long u2), .second, .val (.long v2), .second, .val (.long u3), .second, .val (.long v3), .second, .unset, .unset, .unset, .unset, .unset, .unset, .unset] [(.int (1 : Int32))]))
        refine Run.step (fun t_ k_ => XS.goto XJ412.here hx rfl (pc0 := 90) (pc' := 94) rfl (hb hby at_90) (by decide) (by decide) k_) ?_
        show Run _ _ _ _ (TJ412.setTop (mkF m 94 #[.val (.long p1), .second, .val (.long p2), .second, .val (.long p3), .second, .val (.long p4), .second, .val (.long p5), .second, .val (.long p6), .second, .val (.long mk), .second, .val (.long u1), .second, .val (.long v1), .second, .val (.long u2), .second, .val (.long v2), .second, .val (.long u3), .second, .val (.long v3), .second, .unset, .unset, .unset, .unset, .unset, .unset, .unset] [(.int (1 : Int32))]))
        exact J413 _ _ XJ412 eJ412 NJ412 (1 : Int32) (if_pos (Or.inr (Or.inl c70))).symm
      · skip
        refine Run.step (fun t_ k_ => XS.ifNo XJ412.here hx rfl (hb hby at_70) rfl (XT.ll_eq_f c70) k_) ?_
        show Run _ _ _ _ (TJ412.setTop (mkF m 73 #[.val (.long p1), .second, .val (.long p2), .second, .val (.long p3), .second, .val (.long p4), .second, .val (.long p5), .second, .val (.long p6), .second, .val (.long mk), .second, .val (.long u1), .second, .val (.long v1), .second, .val (.long u2), .second, .val (.long v2), .second, .val (.long u3), .second, .val (.long v3), .second, .unset, .unset, .unset, .unset, .unset, .unset, .unset] []))
        refine Run.step (fun t_ k_ => XS.lload XJ412.here hx rfl (hb hby at_73) rfl k_) ?_
        show Run _ _ _ _ (TJ412.setTop (mkF m 75 #[.val (.long p1), .second, .val (.long p2), .second, .val (.long p3), .second, .val (.long p4), .second, .val (.long p5), .second, .val (.long p6), .second, .val (.long mk), .second, .val (.long u1), .second, .val (.long v1), .second, .val (.long u2), .second, .val (.long v2), .second, .val (.long u3), .second, .val (.long v3), .second, .unset, .unset, .unset, .unset, .unset, .unset, .unset] [(.long v2)]))
        refine Run.step (fun t_ k_ => XS.lload XJ412.here hx rfl (hb hby at_75) rfl k_) ?_
        show Run _ _ _ _ (TJ412.setTop (mkF m 77 #[.val (.long p1), .second, .val (.long p2), .second, .val (.long p3), .second, .val (.long p4), .second, .val (.long p5), .second, .val (.long p6), .second, .val (.long mk), .second, .val (.long u1), .second, .val (.long v1), .second, .val (.long u2), .second, .val (.long v2), .second, .val (.long u3), .second, .val (.long v3), .second, .unset, .unset, .unset, .unset, .unset, .unset, .unset] [(.long u1), (.long v2)]))
        refine Run.step (fun t_ k_ => XS.lcmp XJ412.here hx rfl (hb hby at_77) rfl k_) ?_
        show Run _ _ _ _ (TJ412.setTop (mkF m 78 #[.val (.long p1), .second, .val (.long p2), .second, .val (.long p3), .second, .val (.long p4), .second, .val (.long p5), .second, .val (.long p6), .second, .val (.long mk), .second, .val (.long u1), .second, .val (.long v1), .second, .val (.long u2), .second, .val (.long v2), .second, .val (.long u3), .second, .val (.long v3), .second, .unset, .unset, .unset, .unset, .unset, .unset, .unset] [(.int (lcmpW v2 u1))]))
        by_cases c78 : v2 = u1
        · skip
          refine Run.step (fun t_ k_ => XS.ifYes XJ412.here hx rfl (pc0 := 78) (pc' := 89) rfl (hb hby at_78) rfl (XT.ll_eq_t c78) (by decide) (by decide) k_) ?_
          show Run _ _ _ _ (TJ412.setTop (mkF m 89 #[.val (.long p1), .second, .val (.long p2), .second, .val (.long p3), .second, .val (.long p4), .second, .val (.long p5), .second, .val (.long p6), .second, .val (.long mk), .second, .val (.long u1), .second, .val (.long v1), .second, .val (.long u2), .second, .val (.long v2), .second, .val (.long u3), .second, .val (.long v3), .second, .unset, .unset, .unset, .unset, .unset, .unset, .unset] []))
          refine Run.step (fun t_ k_ => XS.iconst XJ412.here hx rfl (hb hby at_89) k_) ?_
          show Run _ _ _ _ (TJ412.setTop (mkF m 90 #[.val (.long p1), .second, .val (.long p2), .second, .val (.long p3), .second, .val (.long p4), .second, .val (.long p5), .second, .val (.long p6), .second, .val (.long mk), .second, .val (.long u1), .second, .val (.long v1), .second, .val (.long u2), .second, .val (.long v2), .second, .val (.long u3), .second, .val (.long v3), .second, .unset, .unset, .unset, .unset, .unset, .unset, .unset] [(.int (1 : Int32))]))
          refine Run.step (fun t_ k_ => XS.goto XJ412.here hx rfl (pc0 := 90) (pc' := 94) rfl (hb hby at_90) (by decide) (by decide) k_) ?_
          show Run _ _ _ _ (TJ412.setTop (mkF m 94 #[.val (.long p1), .second, .val (.long p2), .second, .val (.long p3), .second, .val (.long p4), .second, .val (.long p5), .second, .val (.long p6), .second, .val (.long mk), .second, .val (.long u1), .second, .val (.long v1), .second, .val (.long u2), .second, .val (.long v2), .second, .val (.long u3), .second, .val (.long v3), .second, .unset, .unset, .unset, .unset, .unset, .unset, .unset] [(.int (1 : Int32))]))
          exact J413 _ _ XJ412 eJ412 NJ412 (1 : Int32) (if_pos (Or.inr (Or.inr (Or.inl c78)))).symm
        · skip
          refine Run.step (fun t_ k_ => XS.ifNo XJ412.here hx rfl (hb hby at_78) rfl (XT.ll_eq_f c78) k_) ?_
          show Run _ _ _ _ (TJ412.setTop (mkF m 81 #[.val (.long p1), .second, .val (.long p2), .second, .val (.long p3), .second, .val (.long p4), .second, .val (.long p5), .second, .val (.long p6), .second, .val (.long mk), .second, .val (.long u1), .second, .val (.long v1), .second, .val (.long u2), .second, .val (.long v2), .second, .val (.long u3), .second, .val (.long v3), .second, .unset, .unset, .unset, .unset, .unset, .unset, .unset] []))
          refine Run.step (fun t_ k_ => XS.lload XJ412.here hx rfl (hb hby at_81) rfl k_) ?_
          show Run _ _ _ _ (TJ412.setTop (mkF m 83 #[.val (.long p1), .second, .val (.long p2), .second, .val (.long p3), .second, .val (.long p4), .second, .val (.long p5), .second, .val (.long p6), .second, .val (.long mk), .second, .val (.long u1), .second, .val (.long v1), .second, .val (.long u2), .second, .val (.long v2), .second, .val (.long u3), .second, .val (.long v3), .second, .unset, .unset, .unset, .unset, .unset, .unset, .unset] [(.long v2)]))
          refine Run.step (fun t_ k_ => XS.lload XJ412.here hx rfl (hb hby at_83) rfl k_) ?_
          show Run _ _ _ _ (TJ412.setTop (mkF m 85 #[.val (.long p1), .second, .val (.long p2), .second, .val (.long p3), .second, .val (.long p4), .second, .val (.long p5), .second, .val (.long p6), .second, .val (.long mk), .second, .val (.long u1), .second, .val (.long v1), .second, .val (.long u2), .second, .val (.long v2), .second, .val (.long u3), .second, .val (.long v3), .second, .unset, .unset, .unset, .unset, .unset, .unset, .unset] [(.long v1), (.long v2)]))
          refine Run.step (fun t_ k_ => XS.lcmp XJ412.here hx rfl (hb hby at_85) rfl k_) ?_
          show Run _ _ _ _ (TJ412.setTop (mkF m 86 #[.val (.long p1), .second, .val (.long p2), .second, .val (.long p3), .second, .val (.long p4), .second, .val (.long p5), .second, .val (.long p6), .second, .val (.long mk), .second, .val (.long u1), .second, .val (.long v1), .second, .val (.long u2), .second, .val (.long v2), .second, .val (.long u3), .second, .val (.long v3), .second, .unset, .unset, .unset, .unset, .unset, .unset, .unset] [(.int (lcmpW v2 v1))]))
          by_cases c86 : v2 = v1
          · skip
            refine Run.step (fun t_ k_ => XS.ifNo XJ412.here hx rfl (hb hby at_86) rfl (XT.ll_ne_f c86) k_) ?_
            show Run _ _ _ _ (TJ412.setTop (mkF m 89 #[.val (.long p1), .second, .val (.long p2), .second, .val (.long p3), .second, .val (.long p4), .second, .val (.long p5), .second, .val (.long p6), .second, .val (.long mk), .second, .val (.long u1), .second, .val (.long v1), .second, .val (.long u2), .second, .val (.long v2), .second, .val (.long u3), .second, .val (.long v3), .second, .unset, .unset, .unset, .unset, .unset, .unset, .unset] []))
            refine Run.step (fun t_ k_ => XS.iconst XJ412.here hx rfl (hb hby at_89) k_) ?_
            show Run _ _ _ _ (TJ412.setTop (mkF m 90 #[.val (.long p1), .second, .val (.long p2), .second, .val (.long p3), .second, .val (.long p4), .second, .val (.long p5), .second, .val (.long p6), .second, .val (.long mk), .second, .val (.long u1), .second, .val (.long v1), .second, .val (.long u2), .second, .val (.long v2), .second, .val (.long u3), .second, .val (.long v3), .second, .unset, .unset, .unset, .unset, .unset, .unset, .unset] [(.int (1 : Int32))]))
            refine Run.step (fun t_ k_ => XS.goto XJ412.here hx rfl (pc0 := 90) (pc' := 94) rfl (hb hby at_90) (by decide) (by decide) k_) ?_
            show Run _ _ _ _ (TJ412.setTop (mkF m 94 #[.val (.long p1), .second, .val (.long p2), .second, .val (.long p3), .second, .val (.long p4), .second, .val (.long p5), .second, .val (.long p6), .second, .val (.long mk), .second, .val (.long u1), .second, .val (.long v1), .second, .val (.long u2), .second, .val (.long v2), .second, .val (.long u3), .second, .val (.long v3), .second, .unset, .unset, .unset, .unset, .unset, .unset, .unset] [(.int (1 : Int32))]))
            exact J413 _ _ XJ412 eJ412 NJ412 (1 : Int32) (if_pos (Or.inr (Or.inr (Or.inr (c86))))).symm
          · skip
            refine Run.step (fun t_ k_ => XS.ifYes XJ412.here hx rfl (pc0 := 86) (pc' := 93) rfl (hb hby at_86) rfl (XT.ll_ne_t c86) (by decide) (by decide) k_) ?_
            show Run _ _ _ _ (TJ412.setTop (mkF m 93 #[.val (.long p1), .second, .val (.long p2), .second, .val (.long p3), .second, .val (.long p4), .second, .val (.long p5), .second, .val (.long p6), .second, .val (.long mk), .second, .val (.long u1), .second, .val (.long v1), .second, .val (.long u2), .second, .val (.long v2), .second, .val (.long u3), .second, .val (.long v3), .second, .unset, .unset, .unset, .unset, .unset, .unset, .unset] []))
            refine Run.step (fun t_ k_ => XS.iconst XJ412.here hx rfl (hb hby at_93) k_) ?_
            show Run _ _ _ _ (TJ412.setTop (mkF m 94 #[.val (.long p1), .second, .val (.long p2), .second, .val (.long p3), .second, .val (.long p4), .second, .val (.long p5), .second, .val (.long p6), .second, .val (.long mk), .second, .val (.long u1), .second, .val (.long v1), .second, .val (.long u2), .second, .val (.long v2), .second, .val (.long u3), .second, .val (.long v3), .second, .unset, .unset, .unset, .unset, .unset, .unset, .unset] [(.int (0 : Int32))]))
            exact J413 _ _ XJ412 eJ412 NJ412 (0 : Int32) (if_neg (by rintro (q | q | q | q); exact c62 q; exact c70 q; exact c78 q; exact c86 q)).symm
  by_cases c3 : p1 < (0 : Int64)
  · skip
    refine Run.step (fun t_ k_ => XS.ifNo X0.here hx rfl (hb hby at_3) rfl (XT.ll_ge_f c3) k_) ?_
    show Run _ _ _ _ (s₁.setTop (mkF m 6 #[.val (.long p1), .second, .val (.long p2), .second, .val (.long p3), .second, .val (.long p4), .second, .val (.long p5), .second, .val (.long p6), .second, .unset, .unset, .unset, .unset, .unset, .unset, .unset, .unset, .unset, .unset, .unset, .unset, .unset, .unset, .unset, .unset, .unset, .unset, .unset, .unset, .unset] []))
    refine Run.step (fun t_ k_ => X0.ldc2Long hx hown (mvT hZ w34) (g := (mkF m 6 #[.val (.long p1), .second, .val (.long p2), .second, .val (.long p3), .second, .val (.long p4), .second, .val (.long p5), .second, .val (.long p6), .second, .unset, .unset, .unset, .unset, .unset, .unset, .unset, .unset, .unset, .unset, .unset, .unset, .unset, .unset, .unset, .unset, .unset, .unset, .unset, .unset, .unset] [])) rfl (hb hby at_6) _ k_) ?_
    show Run _ _ _ _ (s₁.setTop (mkF m 9 #[.val (.long p1), .second, .val (.long p2), .second, .val (.long p3), .second, .val (.long p4), .second, .val (.long p5), .second, .val (.long p6), .second, .unset, .unset, .unset, .unset, .unset, .unset, .unset, .unset, .unset, .unset, .unset, .unset, .unset, .unset, .unset, .unset, .unset, .unset, .unset, .unset, .unset] [(.long (3 : Int64))]))
    refine Run.step (fun t_ k_ => XS.goto X0.here hx rfl (pc0 := 9) (pc' := 15) rfl (hb hby at_9) (by decide) (by decide) k_) ?_
    show Run _ _ _ _ (s₁.setTop (mkF m 15 #[.val (.long p1), .second, .val (.long p2), .second, .val (.long p3), .second, .val (.long p4), .second, .val (.long p5), .second, .val (.long p6), .second, .unset, .unset, .unset, .unset, .unset, .unset, .unset, .unset, .unset, .unset, .unset, .unset, .unset, .unset, .unset, .unset, .unset, .unset, .unset, .unset, .unset] [(.long (3 : Int64))]))
    exact J412 _ _ X0 e0 N0 (3 : Int64) (Or.inl rfl)
  · skip
    refine Run.step (fun t_ k_ => XS.ifYes X0.here hx rfl (pc0 := 3) (pc' := 12) rfl (hb hby at_3) rfl (XT.ll_ge_t c3) (by decide) (by decide) k_) ?_
    show Run _ _ _ _ (s₁.setTop (mkF m 12 #[.val (.long p1), .second, .val (.long p2), .second, .val (.long p3), .second, .val (.long p4), .second, .val (.long p5), .second, .val (.long p6), .second, .unset, .unset, .unset, .unset, .unset, .unset, .unset, .unset, .unset, .unset, .unset, .unset, .unset, .unset, .unset, .unset, .unset, .unset, .unset, .unset, .unset] []))
    refine Run.step (fun t_ k_ => X0.ldc2Long hx hown (mvT hZ w0) (g := (mkF m 12 #[.val (.long p1), .second, .val (.long p2), .second, .val (.long p3), .second, .val (.long p4), .second, .val (.long p5), .second, .val (.long p6), .second, .unset, .unset, .unset, .unset, .unset, .unset, .unset, .unset, .unset, .unset, .unset, .unset, .unset, .unset, .unset, .unset, .unset, .unset, .unset, .unset, .unset] [])) rfl (hb hby at_12) _ k_) ?_
    show Run _ _ _ _ (s₁.setTop (mkF m 15 #[.val (.long p1), .second, .val (.long p2), .second, .val (.long p3), .second, .val (.long p4), .second, .val (.long p5), .second, .val (.long p6), .second, .unset, .unset, .unset, .unset, .unset, .unset, .unset, .unset, .unset, .unset, .unset, .unset, .unset, .unset, .unset, .unset, .unset, .unset, .unset, .unset, .unset] [(.long (9223372036854775807 : Int64))]))
    exact J412 _ _ X0 e0 N0 (9223372036854775807 : Int64) (Or.inr rfl)
set_option maxRecDepth 65536 in
set_option maxHeartbeats 40000000 in
theorem comes_1 {Post : Tables → Env → Array Value → State → Outcome → State → Prop} (hpost : ∀ tb e args s v u, (limb_1_1.after args s (.returned v) u = true ∧ limb_1_2.after args s (.returned v) u = true ∧ True) → FrameEnd s (.returned v) u (Jvm.fieldLocs frame_1_writes args s ++ Jvm.arrayLocs frame_1_arrays args s ++ Jvm.staticLocs frame_1_statics s) 16 256 → Post tb e args s (.returned v) u) :
    ArmFor flags0 classFile x code maxLocals ret World_1 tables_1 room_1 Calls_1 rest_1 Pre_1 Post := by
  intro l hfl _ _ p e ha hc hk s m args below hf hA hF happ hP
  obtain ⟨hcalls, hrest, hpre⟩ := hP
  obtain ⟨-, -, -, hnamed, -, -, -, hat⟩ := (Spec.applies_iff hf).mp happ
  obtain ⟨hg, hn⟩ := and_e (Cond.before_iff.mp (show (Jvm.Cond.and given_1 narrow_1).before args s = true from hpre))
  obtain ⟨h1, h2⟩ := and_e hg
  obtain ⟨w0, w1, w2, w3, w4, w5, rfl⟩ : ∃ w0 w1 w2 w3 w4 w5 : Value, args = #[w0, w1, w2, w3, w4, w5] := by
    have hs : args.size = 6 := by simpa [Cond.value, given_1] using h1
    obtain ⟨L⟩ := args
    match L, hs with
    | [w0, w1, w2, w3, w4, w5], _ => exact ⟨w0, w1, w2, w3, w4, w5, rfl⟩
  have hw := fun d (hd : d ∈ tables_1) => atoms_spec (ws := Jvm.Cond.code x code maxLocals ret :: tables_1) hat d (List.mem_cons_of_mem _ hd)
  have hfit : Fit s := fun {y c} hc i hi => by
    obtain ⟨ha, rfl⟩ := Array.getElem?_eq_some_iff.mp hc
    have q := List.all_eq_true.mp ((Array.all_eq_true_iff_forall_mem.mp hF) _ (Array.getElem_mem ha)) i (List.mem_range.mpr hi)
    simpa [Array.getElem?_eq_getElem hi] using q
  obtain ⟨a0, t0⟩ := and_e h2
  obtain ⟨i0, q0⟩ := isL_v a0
  obtain rfl : w0 = (.long i0) := Option.some.inj q0
  obtain ⟨a1, t1⟩ := and_e t0
  obtain ⟨i1, q1⟩ := isL_v a1
  obtain rfl : w1 = (.long i1) := Option.some.inj q1
  obtain ⟨a2, t2⟩ := and_e t1
  obtain ⟨i2, q2⟩ := isL_v a2
  obtain rfl : w2 = (.long i2) := Option.some.inj q2
  obtain ⟨a3, t3⟩ := and_e t2
  obtain ⟨i3, q3⟩ := isL_v a3
  obtain rfl : w3 = (.long i3) := Option.some.inj q3
  obtain ⟨a4, t4⟩ := and_e t3
  obtain ⟨i4, q4⟩ := isL_v a4
  obtain rfl : w4 = (.long i4) := Option.some.inj q4
  obtain ⟨i5, q5⟩ := isL_v t4
  obtain rfl : w5 = (.long i5) := Option.some.inj q5
  obtain ⟨n, o, g1, g2, g3, _, L, rfl, ⟨rfl, N⟩, hq⟩ := rm0 l s _ hw tables_1 i0 i1 i2 i3 i4 i5 s.heap s.heap.size (Nat.le_refl _) p e ha hc hk s m _ below hf ((Spec.applies_iff_loose hf).mp happ).1 ⟨rfl, State.Warmed39.refl s, rfl⟩ trivial
  refine ⟨n, _, g1, g2, g3, hpost _ _ _ _ _ _ ⟨Cond.after_iff.mpr rfl, Cond.after_iff.mpr (eq_i res_at (Term.int_eval (1)) rfl), trivial⟩ ⟨hq.1, hq.2.1, (hq.2.2.sift fun y hy => Or.inr (N y hy)).mono (by decide) (by decide)⟩⟩
theorem main_1_1 : Claimed_1_1 := comes_1 fun _ _ _ _ _ _ h hF => ⟨h.1, hF⟩
theorem main_1_2 : Claimed_1_2 := comes_1 fun _ _ _ _ _ _ h hF => ⟨h.2.1, hF⟩
end Jvm.Pilot.@@N@@
namespace Jvm.Pilot.@@N@@
open Jvm Jvm.ClassFile Sem Op Lib Jvm.Free Jvm.Stand Jvm.Pilot.@@N@@.Jvm.D
/-! MADE BY PROGRAM (witnessworld.py) out of the Statement's table words and the real class files: 12 classes; the members and pool entries that the words name. The judged class is class 1, her method 1. -/
namespace start1
open Jvm.ClassFile
def u (s : String) : CpInfo := .utf8 (stringToUtf16 s)
/-- a pool by its gaps: so many unusable entries, then the entry; so many at the end -/
def gap : Nat → List CpInfo → List CpInfo
  | 0, r => r
  | n + 1, r => .unusable :: gap n r
def poolList (es : List (Nat × CpInfo)) (last : Nat) : List CpInfo := es.foldr (fun e r => gap e.1 (e.2 :: r)) (gap last [])
def pool (es : List (Nat × CpInfo)) (last : Nat) : Array CpInfo := ⟨poolList es last⟩
def fileOf (pool : Array CpInfo) (this : Nat) (attrs : Array Attribute := #[]) (ms : Array MethodInfo := #[]) (fl : Nat := 33) (sup : Nat := 0) (ifs : Array Nat := #[]) (fds : Array FieldInfo := #[]) : ClassFile where
  minorVersion := 0
  majorVersion := 65
  constantPool := pool
  accessFlags := fl
  thisClass := this
  superClass := sup
  interfaces := ifs
  fields := fds
  methods := ms
  attributes := attrs
def plain (name : String) (sup : Option ClassId) : Class where
  name := name
  kind := .ordinary
  loader := none
  accessFlags := 33
  super := sup
  interfaces := #[]
  cf := none
  fields := #[]
  methods := #[]
  instanceTypes := #[]
  staticTypes := #[]
  resolved := #[]
  callSites := []
  init := .initialized
  statics := none
  mirror := none

def pool0 : Array CpInfo := pool [(5, u "<init>"), (0, u "()V"), (1, .class_ 10), (1, u "java/lang/Object")] 113

def k0c0 : Code := { maxStack := 0, maxLocals := 1, code := object_method_1_code, exceptionTable := #[], attributes := #[] }
def k0m0 : Method := { name := "<init>", desc := "()V", sig := { parameters := [], returnType := none }, accessFlags := 1, code := some k0c0 }
/-- java/lang/Object -/
def k0 : Class := { plain "java/lang/Object" none with
  accessFlags := 33
  interfaces := #[]
  cf := some (fileOf pool0 8 #[] #[{ accessFlags := 1, nameIndex := 5, descriptorIndex := 6, attributes := #[] }] 33 0 #[] #[])
  fields := #[]
  methods := #[k0m0]
  instanceTypes := #[]
  staticTypes := #[]
  resolved := Array.replicate 124 none
  statics := none }

def pool1 : Array CpInfo := pool [(2, .class_ 4), (0, .nameAndType 5 6), (0, u "java/lang/Object"), (0, u "<init>"), (0, u "()V"), (0, .long 3), (3, .long 9223372036854775807), (1, .class_ 14), (0, u "cleave/partition/LineGroups"), (0, .methodref 13 3), (0, .methodref 13 17), (0, .nameAndType 18 19), (0, u "read"), (0, u "(JJ)V"), (0, .methodref 13 21), (0, .nameAndType 22 23), (0, u "grouped"), (0, u "()Z"), (0, .class_ 25), (0, u "cleave/partition/LineGroupsReadPinLaw"), (2, u "law"), (0, u "(JJJJJJ)Z")] 3

def k1m0 : Method := { name := "<init>", desc := "()V", sig := { parameters := [], returnType := none }, accessFlags := 2, code := none }
def k1c1 : Code := { maxStack := 5, maxLocals := 33, code := code, exceptionTable := #[], attributes := #[] }
def k1m1 : Method := { name := "law", desc := "(JJJJJJ)Z", sig := { parameters := [.long, .long, .long, .long, .long, .long], returnType := some .boolean }, accessFlags := 9, code := some k1c1 }
/-- cleave/partition/LineGroupsReadPinLaw -/
def k1 : Class := { plain "cleave/partition/LineGroupsReadPinLaw" (some 0) with
  accessFlags := 49
  interfaces := #[]
  cf := some (fileOf pool1 24 #[] #[{ accessFlags := 2, nameIndex := 5, descriptorIndex := 6, attributes := #[] }, { accessFlags := 9, nameIndex := 28, descriptorIndex := 29, attributes := #[] }] 49 2 #[] #[])
  fields := #[]
  methods := #[k1m0, k1m1]
  instanceTypes := #[]
  staticTypes := #[]
  resolved := Array.replicate 33 none
  statics := none }

def pool2 : Array CpInfo := pool [(1, .methodref 2 3), (0, .class_ 4), (0, .nameAndType 5 6), (0, u "java/lang/Object"), (0, u "<init>"), (0, u "()V"), (0, .class_ 8), (0, u "cleave/partition/LineGroups"), (0, .fieldref 7 10), (0, .nameAndType 11 12), (0, u "recent"), (0, u "[J"), (0, .long 18446744073709551615), (1, .methodref 16 17), (0, .class_ 18), (0, .nameAndType 19 20), (0, u "java/util/Arrays"), (0, u "fill"), (0, u "([JJ)V"), (0, .fieldref 7 22), (0, .nameAndType 23 24), (0, u "lines"), (0, u "J"), (0, .long 16), (1, .fieldref 7 28), (0, .nameAndType 29 24), (0, u "near"), (0, .long 2), (1, u "NEAR"), (0, u "I"), (4, u "read"), (0, u "(JJ)V"), (2, u "grouped"), (0, u "()Z")] 2

def k2c0 : Code := { maxStack := 3, maxLocals := 1, code := prog_85_method_1_code, exceptionTable := #[], attributes := #[] }
def k2m0 : Method := { name := "<init>", desc := "()V", sig := { parameters := [], returnType := none }, accessFlags := 0, code := some k2c0 }
def k2c1 : Code := { maxStack := 6, maxLocals := 11, code := prog_85_method_2_code, exceptionTable := #[], attributes := #[] }
def k2m1 : Method := { name := "read", desc := "(JJ)V", sig := { parameters := [.long, .long], returnType := none }, accessFlags := 0, code := some k2c1 }
def k2c2 : Code := { maxStack := 4, maxLocals := 1, code := prog_85_method_3_code, exceptionTable := #[], attributes := #[] }
def k2m2 : Method := { name := "grouped", desc := "()Z", sig := { parameters := [], returnType := some .boolean }, accessFlags := 0, code := some k2c2 }
/-- cleave/partition/LineGroups -/
def k2 : Class := { plain "cleave/partition/LineGroups" (some 0) with
  accessFlags := 48
  interfaces := #[]
  cf := some (fileOf pool2 7 #[] #[{ accessFlags := 0, nameIndex := 5, descriptorIndex := 6, attributes := #[] }, { accessFlags := 0, nameIndex := 38, descriptorIndex := 39, attributes := #[] }, { accessFlags := 0, nameIndex := 42, descriptorIndex := 43, attributes := #[] }] 48 2 #[] #[{ accessFlags := 24, nameIndex := 32, descriptorIndex := 33, attributes := #[] }, { accessFlags := 18, nameIndex := 11, descriptorIndex := 12, attributes := #[] }, { accessFlags := 2, nameIndex := 23, descriptorIndex := 24, attributes := #[] }, { accessFlags := 2, nameIndex := 29, descriptorIndex := 24, attributes := #[] }])
  fields := #[{ name := "NEAR", type := .int, accessFlags := 24, slot := 0, constantValue := 0 }, { name := "recent", type := (.array .long), accessFlags := 18, slot := 0, constantValue := 0 }, { name := "lines", type := .long, accessFlags := 2, slot := 1, constantValue := 0 }, { name := "near", type := .long, accessFlags := 2, slot := 2, constantValue := 0 }]
  methods := #[k2m0, k2m1, k2m2]
  instanceTypes := #[(.array .long), .long, .long]
  staticTypes := #[.int]
  resolved := Array.replicate 46 none
  statics := none }

def pool3 : Array CpInfo := pool [(2, .class_ 4), (1, u "java/lang/Object"), (0, u "<init>"), (0, u "()V"), (7, .class_ 16), (1, u "java/util/Arrays"), (57, .class_ 76), (1, u "java/util/Arrays$NaturalOrder"), (36, .class_ 115), (1, u "java/util/Arrays$LegacyMergeSort"), (1, u "Z"), (257, .class_ 376), (0, u "java/util/Arrays$ArrayList"), (68, u "$assertionsDisabled"), (269, u "MIN_ARRAY_SORT_GRAN"), (0, u "I"), (2, u "INSERTIONSORT_THRESHOLD"), (120, u "fill"), (0, u "([JJ)V"), (133, .class_ 976), (0, u "java/util/Arrays$ArrayItr")] 52

def k3m0 : Method := { name := "<init>", desc := "()V", sig := { parameters := [], returnType := none }, accessFlags := 2, code := none }
def k3c1 : Code := { maxStack := 4, maxLocals := 5, code := jdk_65_method_101_code, exceptionTable := #[], attributes := #[] }
def k3m1 : Method := { name := "fill", desc := "([JJ)V", sig := { parameters := [(.array .long), .long], returnType := none }, accessFlags := 9, code := some k3c1 }
/-- java/util/Arrays -/
def k3 : Class := { plain "java/util/Arrays" (some 0) with
  accessFlags := 49
  interfaces := #[]
  cf := some (fileOf pool3 14 #[.nestMembers #[975, 375, 113, 74]] #[{ accessFlags := 2, nameIndex := 5, descriptorIndex := 6, attributes := #[] }, { accessFlags := 9, nameIndex := 840, descriptorIndex := 841, attributes := #[] }] 49 2 #[] #[{ accessFlags := 26, nameIndex := 715, descriptorIndex := 716, attributes := #[] }, { accessFlags := 26, nameIndex := 719, descriptorIndex := 716, attributes := #[] }, { accessFlags := 4120, nameIndex := 445, descriptorIndex := 117, attributes := #[] }])
  fields := #[{ name := "MIN_ARRAY_SORT_GRAN", type := .int, accessFlags := 26, slot := 0, constantValue := 0 }, { name := "INSERTIONSORT_THRESHOLD", type := .int, accessFlags := 26, slot := 1, constantValue := 0 }, { name := "$assertionsDisabled", type := .boolean, accessFlags := 4120, slot := 2, constantValue := 0 }]
  methods := #[k3m0, k3m1]
  instanceTypes := #[]
  staticTypes := #[.int, .int, .boolean]
  resolved := Array.replicate 1029 none
  statics := none }

def pool4 : Array CpInfo := pool [(1, u "java/lang/Cloneable"), (0, .class_ 1), (0, u "java/lang/Object"), (0, .class_ 3)] 3

/-- java/lang/Cloneable -/
def k4 : Class := { plain "java/lang/Cloneable" (some 0) with
  accessFlags := 1537
  interfaces := #[]
  cf := some (fileOf pool4 2 #[] #[] 1537 4 #[] #[])
  fields := #[]
  methods := #[]
  instanceTypes := #[]
  staticTypes := #[]
  resolved := Array.replicate 8 none
  statics := none }

def pool5 : Array CpInfo := pool [(1, u "java/io/Serializable"), (0, .class_ 1), (0, u "java/lang/Object"), (0, .class_ 3)] 3

/-- java/io/Serializable -/
def k5 : Class := { plain "java/io/Serializable" (some 0) with
  accessFlags := 1537
  interfaces := #[]
  cf := some (fileOf pool5 2 #[] #[] 1537 4 #[] #[])
  fields := #[]
  methods := #[]
  instanceTypes := #[]
  staticTypes := #[]
  resolved := Array.replicate 8 none
  statics := none }

/-- the primitive byte -/
def k6 : Class := { plain "byte" none with kind := .primitive 'B', accessFlags := 0x411 }
/-- [B -/
def k7 : Class := { plain "[B" (some 0) with kind := .array 6 .byte, interfaces := #[4, 5], accessFlags := 1041 }

/-- the primitive int -/
def k8 : Class := { plain "int" none with kind := .primitive 'I', accessFlags := 0x411 }
/-- [I -/
def k9 : Class := { plain "[I" (some 0) with kind := .array 8 .int, interfaces := #[4, 5], accessFlags := 1041 }

/-- the primitive long -/
def k10 : Class := { plain "long" none with kind := .primitive 'J', accessFlags := 0x411 }
/-- [J -/
def k11 : Class := { plain "[J" (some 0) with kind := .array 10 .long, interfaces := #[4, 5], accessFlags := 1041 }

def heap : Heap := #[]
def classes : Array Class := #[k0, k1, k2, k3, k4, k5, k6, k7, k8, k9, k10, k11]
def interned : List (Array UInt16 × Addr) := []
def slotsUsed : Nat := 0
def theMethod : MethodId := ⟨1, 1⟩
def args0 : Array Value := #[.long 1, .long 2, .long 3, .long 4, .long 5, .long 6]
def aboutOver (below : List Frame) : State where
  vm := { classes := classes, interned := interned.toArray }
  heap := heap
  slotsUsed := slotsUsed
  threads := #[{ frames := .invoking theMethod args0 :: below }]
def below0 : List Frame := [.native { method := ⟨0, 0⟩, args := #[] }]
def about1 : State := aboutOver below0
def p0 : Program := .bare "" "" ""
def e0 : Env := launch0.env 0 0 0
theorem w_frames : about1.frames = Frame.invoking theMethod args0 :: below0 := rfl
set_option maxRecDepth 65536 in
theorem w_args : argsFit about1.vm theMethod args0 = true := by decide +kernel
set_option maxRecDepth 65536 in
theorem w_heap : heapFits about1 = true := by decide +kernel
set_option maxRecDepth 65536 in
theorem w_runnable : about1.curStatus? = some .runnable := by decide +kernel
set_option maxRecDepth 65536 in
theorem w_alone : about1.alone = true := by decide +kernel
set_option maxRecDepth 65536 in
theorem w_named : about1.methodNamed? x = some theMethod := by decide +kernel
set_option maxRecDepth 65536 in
theorem w_hears : about1.hears theMethod below0 = true := by decide +kernel
set_option maxRecDepth 65536 in
theorem w_ripe : about1.ripe theMethod args0 below0 = true := by decide +kernel
theorem w_running : about1.status = .running := rfl
set_option maxRecDepth 65536 in
theorem w_room : about1.hasRoom e0.platform room_1 = true :=
  launch0.hasRoom_least _ room_1 (by decide +kernel) (by decide +kernel) (by decide +kernel) (by decide +kernel) (by decide +kernel) (by decide +kernel)
theorem allAtoms_all (ts : List Jvm.Cond) (a : Array Jvm.Value) (st : Jvm.State) : (allAtoms ts).before a st = ts.all (fun c => c.before a st) := by
  induction ts with
  | nil => rfl
  | cons c t ih =>
    show (Jvm.Cond.and c (allAtoms t)).before a st = _
    rw [Jvm.Cond.before_and, ih, List.all_cons]
def words1 : List Jvm.Cond := Jvm.Cond.code x code maxLocals ret :: tables_1
/-- a 'code' word, met by the world's own term for the bytes: nothing is compared byte by byte -/
theorem code_word {y : MethodName} {bytes : ByteArray} {mx : Nat} {rt : Option FieldType} {a : Array Value} {s : State} {m : MethodId} {meth : Method} {c : Code} (h1 : s.methodNamed? y = some m) (h2 : s.vm.method? m = some meth) (h3 : meth.code = some c) (h4 : c.code = bytes)
    (h5 : (c.maxLocals == mx && c.exceptionTable.isEmpty && decide (c.maxStack ≤ mostOperands) && decide (meth.sig.returnType = rt) && !meth.locks && decide (parseMethodDescriptor y.desc = some meth.sig)) = true) : (Jvm.Cond.code y bytes mx rt).before a s = true := by
  simp only [Bool.and_eq_true, beq_iff_eq, Bool.not_eq_true', decide_eq_true_eq] at h5
  obtain ⟨⟨⟨⟨⟨g1, g2⟩, g3⟩, g4⟩, g5⟩, g6⟩ := h5
  simp [Cond.before, Cond.holds, Cond.value, h1, h2, h3, h4, g1, g2, g3, g4, g5, g6]
def isCode : Jvm.Cond → Bool
  | .code _ _ _ _ => true
  | _ => false
theorem all_split {L : List Jvm.Cond} {P : Jvm.Cond → Bool} (h1 : L.all (fun c => isCode c || P c) = true) (h2 : ∀ c ∈ L.filter isCode, P c = true) : L.all P = true := by
  refine List.all_eq_true.mpr fun c hc => ?_
  have h := List.all_eq_true.mp h1 c hc
  rcases Bool.eq_false_or_eq_true (isCode c) with hi | hi
  · exact h2 c (List.mem_filter.mpr ⟨hc, hi⟩)
  · simpa [hi] using h
set_option maxRecDepth 65536 in
theorem w_c0 : (Jvm.Cond.code x code maxLocals ret).before args0 about1 = true := code_word (m := ⟨1, 1⟩) (meth := k1m1) (c := k1c1) (by decide +kernel) rfl rfl rfl (by decide +kernel)
set_option maxRecDepth 65536 in
theorem w_c1 : (Jvm.Cond.code ({ cls := "cleave/partition/LineGroups", name := "<init>", desc := "()V" } : Jvm.MethodName) prog_85_method_1_code (1 : Nat) (Option.none : Option Jvm.ClassFile.FieldType)).before args0 about1 = true := code_word (m := ⟨2, 0⟩) (meth := k2m0) (c := k2c0) (by decide +kernel) rfl rfl rfl (by decide +kernel)
set_option maxRecDepth 65536 in
theorem w_c2 : (Jvm.Cond.code ({ cls := "java/lang/Object", name := "<init>", desc := "()V" } : Jvm.MethodName) object_method_1_code (1 : Nat) (Option.none : Option Jvm.ClassFile.FieldType)).before args0 about1 = true := code_word (m := ⟨0, 0⟩) (meth := k0m0) (c := k0c0) (by decide +kernel) rfl rfl rfl (by decide +kernel)
set_option maxRecDepth 65536 in
theorem w_c3 : (Jvm.Cond.code ({ cls := "java/util/Arrays", name := "fill", desc := "([JJ)V" } : Jvm.MethodName) jdk_65_method_101_code (5 : Nat) (Option.none : Option Jvm.ClassFile.FieldType)).before args0 about1 = true := code_word (m := ⟨3, 1⟩) (meth := k3m1) (c := k3c1) (by decide +kernel) rfl rfl rfl (by decide +kernel)
set_option maxRecDepth 65536 in
theorem w_c4 : (Jvm.Cond.code ({ cls := "cleave/partition/LineGroups", name := "read", desc := "(JJ)V" } : Jvm.MethodName) prog_85_method_2_code (11 : Nat) (Option.none : Option Jvm.ClassFile.FieldType)).before args0 about1 = true := code_word (m := ⟨2, 1⟩) (meth := k2m1) (c := k2c1) (by decide +kernel) rfl rfl rfl (by decide +kernel)
set_option maxRecDepth 65536 in
theorem w_c5 : (Jvm.Cond.code ({ cls := "cleave/partition/LineGroups", name := "grouped", desc := "()Z" } : Jvm.MethodName) prog_85_method_3_code (1 : Nat) (Option.some Jvm.ClassFile.FieldType.boolean)).before args0 about1 = true := code_word (m := ⟨2, 2⟩) (meth := k2m2) (c := k2c2) (by decide +kernel) rfl rfl rfl (by decide +kernel)
def codes1 : List Jvm.Cond := [Jvm.Cond.code x code maxLocals ret, Jvm.Cond.code ({ cls := "cleave/partition/LineGroups", name := "<init>", desc := "()V" } : Jvm.MethodName) prog_85_method_1_code (1 : Nat) (Option.none : Option Jvm.ClassFile.FieldType), Jvm.Cond.code ({ cls := "java/lang/Object", name := "<init>", desc := "()V" } : Jvm.MethodName) object_method_1_code (1 : Nat) (Option.none : Option Jvm.ClassFile.FieldType), Jvm.Cond.code ({ cls := "java/util/Arrays", name := "fill", desc := "([JJ)V" } : Jvm.MethodName) jdk_65_method_101_code (5 : Nat) (Option.none : Option Jvm.ClassFile.FieldType), Jvm.Cond.code ({ cls := "cleave/partition/LineGroups", name := "read", desc := "(JJ)V" } : Jvm.MethodName) prog_85_method_2_code (11 : Nat) (Option.none : Option Jvm.ClassFile.FieldType), Jvm.Cond.code ({ cls := "cleave/partition/LineGroups", name := "grouped", desc := "()Z" } : Jvm.MethodName) prog_85_method_3_code (1 : Nat) (Option.some Jvm.ClassFile.FieldType.boolean)]
set_option maxRecDepth 65536 in
theorem codes_eq : words1.filter isCode = codes1 := rfl
theorem w_codes : ∀ c ∈ words1.filter isCode, c.before args0 about1 = true := by
  rw [codes_eq]
  intro c hc
  simp only [codes1, List.mem_cons, List.not_mem_nil, or_false] at hc
  rcases hc with rfl | rfl | rfl | rfl | rfl | rfl
  · exact w_c0
  · exact w_c1
  · exact w_c2
  · exact w_c3
  · exact w_c4
  · exact w_c5
set_option maxRecDepth 65536 in
theorem w_t1 : (words1.take 24).all (fun c => isCode c || c.before args0 about1) = true := by decide +kernel
set_option maxRecDepth 65536 in
theorem w_t2 : (words1.drop 24).all (fun c => isCode c || c.before args0 about1) = true := by decide +kernel
theorem w_tables : (allAtoms (Jvm.Cond.code x code maxLocals ret :: tables_1)).before args0 about1 = true := by
  rw [allAtoms_all]
  show words1.all (fun c => c.before args0 about1) = true
  refine all_split ?_ w_codes
  rw [← List.take_append_drop 24 words1, List.all_append, w_t1, w_t2]
  rfl
set_option maxRecDepth 65536 in
theorem w_case : (Jvm.Cond.and given_1 narrow_1).before args0 about1 = true := by decide +kernel
theorem w_applies : (headSpec (Jvm.Cond.code x code maxLocals ret :: tables_1) room_1).applies x e0.platform about1 = true :=
  (Spec.applies_iff w_frames).mpr ⟨w_running, w_runnable, w_alone, w_named, w_hears, w_ripe, w_room, w_tables⟩
theorem atStart : AtStart classFile x code maxLocals ret World_1 tables_1 room_1 Calls_1 rest_1 Pre_1 launch0 p0 e0 about1 theMethod args0 below0 :=
  ⟨lists_1, trivial, launch0.admits_env _ _ _, launch0.least_env, fairChoices_fair.cas, fairChoices_fair.clock, w_frames, w_args, w_heap, w_applies, trivial, trivial, w_case⟩
end start1
theorem witness_1 : WitnessClaimed_1 := ⟨start1.p0, start1.e0, start1.about1, start1.theMethod, start1.args0, start1.below0, start1.atStart⟩
end Jvm.Pilot.@@N@@
