import JvmDerived
import JvmDerived.Pilot.@@N@@Statement
import JvmDerived.Pilot.@@N@@Code
set_option linter.unusedVariables false
set_option linter.unusedSimpArgs false
namespace Jvm.OwnW
open Sem ClassFile Op Lib Jvm.Stand Jvm.Free Jvm.LawKit Jvm.RoadKit
section Walks
variable {p : Program} {l : Launch} {e : Env} {R : Room} {s : State} {m : MethodId} {args : Array Value} {below : List Frame} {meth : Method} {c : Code} {T : State} {locs : List Loc} {cells slots : Nat}
/-- from A on the run comes to an end of which P holds -/
def Run (tb : Tables) (e : Env) (below : List Frame) (P : State → Outcome → Prop) (A : State) : Prop := ∃ s₂ o, Steps tb e below A s₂ ∧ P s₂ o
theorem Run.step {tb : Tables} {P : State → Outcome → Prop} {A B : State} (k : ∀ t, Steps tb e below B t → Steps tb e below A t) (h : Run tb e below P B) : Run tb e below P A := by
  obtain ⟨s₂, o, a, b⟩ := h
  exact ⟨s₂, o, k _ a, b⟩
/-- what a body's contract says at the end -/
def PQ (s : State) (below : List Frame) (rc rs : Nat) (Q : Option Value → Heap → List Loc → Prop) (s₂ : State) (o : Outcome) : Prop := s₂.status = .running ∧ Ended s₂ below o ∧ ∃ v L, o = .returned v ∧ Q v s₂.heap L ∧ FrameEnd s o s₂ L rc rs
theorem fin (X : Stand p l e R s m args below meth c T locs cells slots) {A : State} {Q : Option Value → Heap → List Loc → Prop} {rc rs : Nat} {v : Option Value} {h : Heap} (hl : meth.locks = false) (hv : meth.sig.returnType = none → v = none) (hc : cells ≤ rc) (hs : slots ≤ rs) (eT : T.heap = h) (hQ : Q v h locs)
    (st : ∀ fs, (∀ (f : JFrame) (acts : List Action), f.method = m → f.locked = none → f.entered = [] → (doReturn e (T.setTop f) acts v).1 = T.setFrames fs) → Steps p.tables e below A (T.setFrames fs)) : Run p.tables e below (PQ s below rc rs Q) A := by
  obtain ⟨fs, hr, hrun, hended, hW, hsame⟩ := X.leave (v := v) hv hl
  refine ⟨_, _, st fs hr, hrun, hended, _, _, rfl, ?_, ⟨_, rfl⟩, hW, hsame.mono hc hs⟩
  show Q v T.heap locs
  rw [eT]
  exact hQ
theorem finV (X : Stand p l e R s m args below meth c T locs cells slots) (hx : p.tables.exec = Jvm.exec) (hl : meth.locks = false) {Q : Option Value → Heap → List Loc → Prop} {rc rs pc : Nat} {Ls : Array Slot} {h : Heap} (hret : meth.sig.returnType = none) (hd : decode c.code pc = .ok (.return_, 1)) (hc : cells ≤ rc) (hs : slots ≤ rs) (eT : T.heap = h) (hQ : Q none h locs) : Run p.tables e below (PQ s below rc rs Q) (T.setTop (mkF m pc Ls [])) :=
  fin X hl (fun _ => rfl) hc hs eT hQ fun fs hr => X.returnOut hx hret hd hr
theorem finI (X : Stand p l e R s m args below meth c T locs cells slots) (hx : p.tables.exec = Jvm.exec) (hl : meth.locks = false) {Q : Option Value → Heap → List Loc → Prop} {rc rs pc : Nat} {Ls : Array Slot} {z : Int32} {rest : List Value} {h : Heap} (hret : meth.sig.returnType = some .int) (hd : decode c.code pc = .ok (.ireturn, 1)) (hc : cells ≤ rc) (hs : slots ≤ rs) (eT : T.heap = h) (hQ : Q (some (.int z)) h locs) : Run p.tables e below (PQ s below rc rs Q) (T.setTop (mkF m pc Ls (.int z :: rest))) :=
  fin X hl (fun q => by rw [hret] at q; cases q) hc hs eT hQ fun fs hr => retOut X hx hret rfl (Or.inl ⟨rfl, Or.inl rfl, _, rfl⟩) hd hr
theorem finZ (X : Stand p l e R s m args below meth c T locs cells slots) (hx : p.tables.exec = Jvm.exec) (hl : meth.locks = false) {Q : Option Value → Heap → List Loc → Prop} {rc rs pc : Nat} {Ls : Array Slot} {z : Int32} {rest : List Value} {h : Heap} (hret : meth.sig.returnType = some .boolean) (hd : decode c.code pc = .ok (.ireturn, 1)) (hz : z = 0 ∨ z = 1) (hc : cells ≤ rc) (hs : slots ≤ rs) (eT : T.heap = h) (hQ : Q (some (.int z)) h locs) : Run p.tables e below (PQ s below rc rs Q) (T.setTop (mkF m pc Ls (.int z :: rest))) :=
  fin X hl (fun q => by rw [hret] at q; cases q) hc hs eT hQ fun fs hr => retOut X hx hret (by rcases hz with rfl | rfl <;> rfl) (Or.inl ⟨rfl, Or.inr (Or.inl rfl), _, rfl⟩) hd hr
theorem finB (X : Stand p l e R s m args below meth c T locs cells slots) (hx : p.tables.exec = Jvm.exec) (hl : meth.locks = false) {Q : Option Value → Heap → List Loc → Prop} {rc rs pc : Nat} {Ls : Array Slot} {z : Int32} {rest : List Value} {h : Heap} (hret : meth.sig.returnType = some .byte) (hd : decode c.code pc = .ok (.ireturn, 1)) (hz : narrow .byte (.int z) = .int z) (hc : cells ≤ rc) (hs : slots ≤ rs) (eT : T.heap = h) (hQ : Q (some (.int z)) h locs) : Run p.tables e below (PQ s below rc rs Q) (T.setTop (mkF m pc Ls (.int z :: rest))) :=
  fin X hl (fun q => by rw [hret] at q; cases q) hc hs eT hQ fun fs hr => retOut X hx hret hz (Or.inl ⟨rfl, Or.inr (Or.inr (Or.inl rfl)), _, rfl⟩) hd hr
theorem finJ (X : Stand p l e R s m args below meth c T locs cells slots) (hx : p.tables.exec = Jvm.exec) (hl : meth.locks = false) {Q : Option Value → Heap → List Loc → Prop} {rc rs pc : Nat} {Ls : Array Slot} {z : Int64} {rest : List Value} {h : Heap} (hret : meth.sig.returnType = some .long) (hd : decode c.code pc = .ok (.lreturn, 1)) (hc : cells ≤ rc) (hs : slots ≤ rs) (eT : T.heap = h) (hQ : Q (some (.long z)) h locs) : Run p.tables e below (PQ s below rc rs Q) (T.setTop (mkF m pc Ls (.long z :: rest))) :=
  fin X hl (fun q => by rw [hret] at q; cases q) hc hs eT hQ fun fs hr => retOut X hx hret rfl (Or.inr (Or.inl ⟨rfl, rfl, _, rfl⟩)) hd hr
theorem finA (X : Stand p l e R s m args below meth c T locs cells slots) (hx : p.tables.exec = Jvm.exec) (hl : meth.locks = false) {Q : Option Value → Heap → List Loc → Prop} {rc rs pc : Nat} {Ls : Array Slot} {w : Value} {t : FieldType} {rest : List Value} {h : Heap} (hret : meth.sig.returnType = some t) (hd : decode c.code pc = .ok (.areturn, 1)) (ht : t.isReference = true) (hw : w.isRef = true) (hc : cells ≤ rc) (hs : slots ≤ rs) (eT : T.heap = h) (hQ : Q (some w) h locs) : Run p.tables e below (PQ s below rc rs Q) (T.setTop (mkF m pc Ls (w :: rest))) :=
  fin X hl (fun q => by rw [hret] at q; cases q) hc hs eT hQ fun fs hr => retOut X hx hret (by cases t <;> first | rfl | (cases w <;> first | rfl | cases ht)) (Or.inr (Or.inr (Or.inr (Or.inr ⟨rfl, ht, hw⟩)))) hd hr
/-- the same for a body that may load String constants -/
def PW (s : State) (below : List Frame) (rc rs : Nat) (Q : Option Value → Heap → List Loc → Prop) (s₂ : State) (o : Outcome) : Prop := s₂.status = .running ∧ Ended s₂ below o ∧ ∃ v L, o = .returned v ∧ Q v s₂.heap L ∧ ReturnedEndW s o s₂ L rc rs
theorem finW {vm : Vm} {n : Nat} (X : Stand p l e R (s.setVm vm) m args below meth c T locs cells slots) {A : State} {Q : Option Value → Heap → List Loc → Prop} {rc rs : Nat} {v : Option Value} {h : Heap} (hS : s.Since vm n) (hk : n ≤ h.size) (hl : meth.locks = false) (hv : meth.sig.returnType = none → v = none) (hc : cells ≤ rc) (hs : slots ≤ rs) (eT : T.heap = h) (hQ : Q v h locs)
    (st : ∀ fs, (∀ (f : JFrame) (acts : List Action), f.method = m → f.locked = none → f.entered = [] → (doReturn e (T.setTop f) acts v).1 = T.setFrames fs) → Steps p.tables e below A (T.setFrames fs)) : Run p.tables e below (PW s below rc rs Q) A := by
  obtain ⟨fs, hr, hrun, hended, hE⟩ := X.leaveW hS (by rw [eT]; exact hk) (v := v) hv hl
  refine ⟨_, _, st fs hr, hrun, hended, _, _, rfl, ?_, hE.1, hE.2.1, hE.2.2.1, hE.2.2.2.mono hc hs⟩
  show Q v T.heap locs
  rw [eT]
  exact hQ
theorem finVW {vm : Vm} {n : Nat} (X : Stand p l e R (s.setVm vm) m args below meth c T locs cells slots) (hx : p.tables.exec = Jvm.exec) {h : Heap} (hS : s.Since vm n) (hk : n ≤ h.size) (hl : meth.locks = false) {Q : Option Value → Heap → List Loc → Prop} {rc rs pc : Nat} {Ls : Array Slot} (hret : meth.sig.returnType = none) (hd : decode c.code pc = .ok (.return_, 1)) (hc : cells ≤ rc) (hs : slots ≤ rs) (eT : T.heap = h) (hQ : Q none h locs) : Run p.tables e below (PW s below rc rs Q) (T.setTop (mkF m pc Ls [])) :=
  finW X hS hk hl (fun _ => rfl) hc hs eT hQ fun fs hr => X.returnOut hx hret hd hr
theorem finIW {vm : Vm} {n : Nat} (X : Stand p l e R (s.setVm vm) m args below meth c T locs cells slots) (hx : p.tables.exec = Jvm.exec) {h : Heap} (hS : s.Since vm n) (hk : n ≤ h.size) (hl : meth.locks = false) {Q : Option Value → Heap → List Loc → Prop} {rc rs pc : Nat} {Ls : Array Slot} {z : Int32} {rest : List Value} (hret : meth.sig.returnType = some .int) (hd : decode c.code pc = .ok (.ireturn, 1)) (hc : cells ≤ rc) (hs : slots ≤ rs) (eT : T.heap = h) (hQ : Q (some (.int z)) h locs) : Run p.tables e below (PW s below rc rs Q) (T.setTop (mkF m pc Ls (.int z :: rest))) :=
  finW X hS hk hl (fun q => by rw [hret] at q; cases q) hc hs eT hQ fun fs hr => retOut X hx hret rfl (Or.inl ⟨rfl, Or.inl rfl, _, rfl⟩) hd hr
theorem finZW {vm : Vm} {n : Nat} (X : Stand p l e R (s.setVm vm) m args below meth c T locs cells slots) (hx : p.tables.exec = Jvm.exec) {h : Heap} (hS : s.Since vm n) (hk : n ≤ h.size) (hl : meth.locks = false) {Q : Option Value → Heap → List Loc → Prop} {rc rs pc : Nat} {Ls : Array Slot} {z : Int32} {rest : List Value} (hret : meth.sig.returnType = some .boolean) (hd : decode c.code pc = .ok (.ireturn, 1)) (hz : z = 0 ∨ z = 1) (hc : cells ≤ rc) (hs : slots ≤ rs) (eT : T.heap = h) (hQ : Q (some (.int z)) h locs) : Run p.tables e below (PW s below rc rs Q) (T.setTop (mkF m pc Ls (.int z :: rest))) :=
  finW X hS hk hl (fun q => by rw [hret] at q; cases q) hc hs eT hQ fun fs hr => retOut X hx hret (by rcases hz with rfl | rfl <;> rfl) (Or.inl ⟨rfl, Or.inr (Or.inl rfl), _, rfl⟩) hd hr
theorem finBW {vm : Vm} {n : Nat} (X : Stand p l e R (s.setVm vm) m args below meth c T locs cells slots) (hx : p.tables.exec = Jvm.exec) {h : Heap} (hS : s.Since vm n) (hk : n ≤ h.size) (hl : meth.locks = false) {Q : Option Value → Heap → List Loc → Prop} {rc rs pc : Nat} {Ls : Array Slot} {z : Int32} {rest : List Value} (hret : meth.sig.returnType = some .byte) (hd : decode c.code pc = .ok (.ireturn, 1)) (hz : narrow .byte (.int z) = .int z) (hc : cells ≤ rc) (hs : slots ≤ rs) (eT : T.heap = h) (hQ : Q (some (.int z)) h locs) : Run p.tables e below (PW s below rc rs Q) (T.setTop (mkF m pc Ls (.int z :: rest))) :=
  finW X hS hk hl (fun q => by rw [hret] at q; cases q) hc hs eT hQ fun fs hr => retOut X hx hret hz (Or.inl ⟨rfl, Or.inr (Or.inr (Or.inl rfl)), _, rfl⟩) hd hr
theorem finJW {vm : Vm} {n : Nat} (X : Stand p l e R (s.setVm vm) m args below meth c T locs cells slots) (hx : p.tables.exec = Jvm.exec) {h : Heap} (hS : s.Since vm n) (hk : n ≤ h.size) (hl : meth.locks = false) {Q : Option Value → Heap → List Loc → Prop} {rc rs pc : Nat} {Ls : Array Slot} {z : Int64} {rest : List Value} (hret : meth.sig.returnType = some .long) (hd : decode c.code pc = .ok (.lreturn, 1)) (hc : cells ≤ rc) (hs : slots ≤ rs) (eT : T.heap = h) (hQ : Q (some (.long z)) h locs) : Run p.tables e below (PW s below rc rs Q) (T.setTop (mkF m pc Ls (.long z :: rest))) :=
  finW X hS hk hl (fun q => by rw [hret] at q; cases q) hc hs eT hQ fun fs hr => retOut X hx hret rfl (Or.inr (Or.inl ⟨rfl, rfl, _, rfl⟩)) hd hr
theorem finAW {vm : Vm} {n : Nat} (X : Stand p l e R (s.setVm vm) m args below meth c T locs cells slots) (hx : p.tables.exec = Jvm.exec) {h : Heap} (hS : s.Since vm n) (hk : n ≤ h.size) (hl : meth.locks = false) {Q : Option Value → Heap → List Loc → Prop} {rc rs pc : Nat} {Ls : Array Slot} {w : Value} {t : FieldType} {rest : List Value} (hret : meth.sig.returnType = some t) (hd : decode c.code pc = .ok (.areturn, 1)) (ht : t.isReference = true) (hw : w.isRef = true) (hc : cells ≤ rc) (hs : slots ≤ rs) (eT : T.heap = h) (hQ : Q (some w) h locs) : Run p.tables e below (PW s below rc rs Q) (T.setTop (mkF m pc Ls (w :: rest))) :=
  finW X hS hk hl (fun q => by rw [hret] at q; cases q) hc hs eT hQ fun fs hr => retOut X hx hret (by cases t <;> first | rfl | (cases w <;> first | rfl | cases ht)) (Or.inr (Or.inr (Or.inr (Or.inr ⟨rfl, ht, hw⟩)))) hd hr
theorem own_lrem {g : JFrame} {target : State} (X : Stand p l e R s m args below meth c T locs cells slots) (hx : p.tables.exec = Jvm.exec) (hg : g.method = m) {x y : Int64} {rest : List Value} (hd : decode c.code g.pc = .ok (.lrem, 1)) (hs : g.stack = .long y :: .long x :: rest) (hy : y ≠ 0)
    (hr : Steps p.tables e below (T.setTop { g with pc := g.pc + 1, stack := .long (x % y) :: rest }) target) : Steps p.tables e below (T.setTop g) target :=
  XS.lrem X.here hx hg hd hs hy (by rw [lrem_mod]; exact hr)
end Walks
end Jvm.OwnW
namespace Jvm.Pilot.@@N@@
open Jvm Jvm.ClassFile Sem Op Lib Jvm.Free Jvm.Stand Jvm.LawKit Jvm.RoadKit Jvm.OwnW Bundle Jvm.Pilot.@@N@@.Jvm.D
theorem own_eq {args : Array Value} {first s : State} {o : Option Outcome} {idx : List Nat} {a b : Term} (h : (Cond.eq a b).value args first o s idx = some true) : ∃ x, a.eval args first o idx s = some x ∧ b.eval args first o idx s = some x := by
  obtain ⟨x, y, hx, hy, k1, k2⟩ := cmp_v (Or.inl h)
  refine ⟨x, hx, ?_⟩
  rw [hy]
  simp only [Cond.value, hx, hy] at h
  cases x <;> cases y <;> simp at h <;> simp [h]
theorem own_eqr {args : Array Value} {first s : State} {o : Option Outcome} {idx : List Nat} {a b : Term} {v : Value} (h : (Cond.eq a b).value args first o s idx = some true) (hb : b.eval args first o idx s = some v) : a.eval args first o idx s = some v := by
  obtain ⟨x, h1, h2⟩ := own_eq h
  rw [h1, ← h2, hb]
theorem own_eqi {args : Array Value} {first s : State} {o : Option Outcome} {idx : List Nat} {a : Term} {n : Int32} (h : (Cond.eq a (Term.int n)).value args first o s idx = some true) : a.eval args first o idx s = some (.int n) := own_eqr h (Term.int_eval _)
theorem own_len {args : Array Value} {s : State} {t : Term} {b : Addr} {cl : Cell} {ty : FieldType} {n : Int32} (A : Arr s s.heap b cl ty) (ev : t.eval args s none [] s = some (.ref b)) (h : (Term.length t).eval args s none [] s = some (.int n)) : cl.slots.size < 2 ^ 31 ∧ cl.slots.size.toInt32 = n := by
  have ha := Arr.fin (Vm.Alike.refl _) A
  by_cases q : cl.slots.size < 2 ^ 31
  · have e := len_f ev ha q
    rw [h] at e
    cases e
    exact ⟨q, rfl⟩
  · simp [Term.eval, ev, ha, q] at h
def own_vs (o : Nat → Addr) : List Value := [.ref (o 0), .ref (o 1), .ref (o 2), .ref (o 3), .null, .ref (o 5), .ref (o 6), .ref (o 7), .ref (o 8), .ref (o 9), .ref (o 10), .ref (o 11), .ref (o 12), .ref (o 13), .ref (o 14), .ref (o 15), .ref (o 16)]
def own_at (o : Nat → Addr) (c : Int32) : Value := if c < 0 then .null else (own_vs o).getD c.toNatClampNeg .null
def own_exp (o : Nat → Addr) (c : Int32) : Value := if c = 0 then .ref (o 0) else if c = 1 then .ref (o 1) else if c = 2 then .ref (o 2) else if c = 3 then .ref (o 3) else if c = 5 then .ref (o 5) else if c = 6 then .ref (o 6) else if c = 7 then .ref (o 7) else if c = 8 then .ref (o 8) else if c = 9 then .ref (o 9) else if c = 10 then .ref (o 10) else if c = 11 then .ref (o 11) else if c = 12 then .ref (o 12) else if c = 13 then .ref (o 13) else if c = 14 then .ref (o 14) else if c = 15 then .ref (o 15) else if c = 16 then .ref (o 16) else .null
theorem own_cases (o : Nat → Addr) (c : Int32) : own_exp o c = .null ∨ ∃ k : Nat, k < 17 ∧ k ≠ 4 ∧ c = Int32.ofNat k ∧ own_exp o c = .ref (o k) := by
  by_cases h0 : c = 0
  · exact Or.inr ⟨0, by decide, by decide, h0, if_pos h0⟩
  by_cases h1 : c = 1
  · exact Or.inr ⟨1, by decide, by decide, h1, (if_neg h0).trans (if_pos h1)⟩
  by_cases h2 : c = 2
  · exact Or.inr ⟨2, by decide, by decide, h2, (if_neg h0).trans ((if_neg h1).trans (if_pos h2))⟩
  by_cases h3 : c = 3
  · exact Or.inr ⟨3, by decide, by decide, h3, (if_neg h0).trans ((if_neg h1).trans ((if_neg h2).trans (if_pos h3)))⟩
  by_cases h5 : c = 5
  · exact Or.inr ⟨5, by decide, by decide, h5, (if_neg h0).trans ((if_neg h1).trans ((if_neg h2).trans ((if_neg h3).trans (if_pos h5))))⟩
  by_cases h6 : c = 6
  · exact Or.inr ⟨6, by decide, by decide, h6, (if_neg h0).trans ((if_neg h1).trans ((if_neg h2).trans ((if_neg h3).trans ((if_neg h5).trans (if_pos h6)))))⟩
  by_cases h7 : c = 7
  · exact Or.inr ⟨7, by decide, by decide, h7, (if_neg h0).trans ((if_neg h1).trans ((if_neg h2).trans ((if_neg h3).trans ((if_neg h5).trans ((if_neg h6).trans (if_pos h7))))))⟩
  by_cases h8 : c = 8
  · exact Or.inr ⟨8, by decide, by decide, h8, (if_neg h0).trans ((if_neg h1).trans ((if_neg h2).trans ((if_neg h3).trans ((if_neg h5).trans ((if_neg h6).trans ((if_neg h7).trans (if_pos h8)))))))⟩
  by_cases h9 : c = 9
  · exact Or.inr ⟨9, by decide, by decide, h9, (if_neg h0).trans ((if_neg h1).trans ((if_neg h2).trans ((if_neg h3).trans ((if_neg h5).trans ((if_neg h6).trans ((if_neg h7).trans ((if_neg h8).trans (if_pos h9))))))))⟩
  by_cases h10 : c = 10
  · exact Or.inr ⟨10, by decide, by decide, h10, (if_neg h0).trans ((if_neg h1).trans ((if_neg h2).trans ((if_neg h3).trans ((if_neg h5).trans ((if_neg h6).trans ((if_neg h7).trans ((if_neg h8).trans ((if_neg h9).trans (if_pos h10)))))))))⟩
  by_cases h11 : c = 11
  · exact Or.inr ⟨11, by decide, by decide, h11, (if_neg h0).trans ((if_neg h1).trans ((if_neg h2).trans ((if_neg h3).trans ((if_neg h5).trans ((if_neg h6).trans ((if_neg h7).trans ((if_neg h8).trans ((if_neg h9).trans ((if_neg h10).trans (if_pos h11))))))))))⟩
  by_cases h12 : c = 12
  · exact Or.inr ⟨12, by decide, by decide, h12, (if_neg h0).trans ((if_neg h1).trans ((if_neg h2).trans ((if_neg h3).trans ((if_neg h5).trans ((if_neg h6).trans ((if_neg h7).trans ((if_neg h8).trans ((if_neg h9).trans ((if_neg h10).trans ((if_neg h11).trans (if_pos h12)))))))))))⟩
  by_cases h13 : c = 13
  · exact Or.inr ⟨13, by decide, by decide, h13, (if_neg h0).trans ((if_neg h1).trans ((if_neg h2).trans ((if_neg h3).trans ((if_neg h5).trans ((if_neg h6).trans ((if_neg h7).trans ((if_neg h8).trans ((if_neg h9).trans ((if_neg h10).trans ((if_neg h11).trans ((if_neg h12).trans (if_pos h13))))))))))))⟩
  by_cases h14 : c = 14
  · exact Or.inr ⟨14, by decide, by decide, h14, (if_neg h0).trans ((if_neg h1).trans ((if_neg h2).trans ((if_neg h3).trans ((if_neg h5).trans ((if_neg h6).trans ((if_neg h7).trans ((if_neg h8).trans ((if_neg h9).trans ((if_neg h10).trans ((if_neg h11).trans ((if_neg h12).trans ((if_neg h13).trans (if_pos h14)))))))))))))⟩
  by_cases h15 : c = 15
  · exact Or.inr ⟨15, by decide, by decide, h15, (if_neg h0).trans ((if_neg h1).trans ((if_neg h2).trans ((if_neg h3).trans ((if_neg h5).trans ((if_neg h6).trans ((if_neg h7).trans ((if_neg h8).trans ((if_neg h9).trans ((if_neg h10).trans ((if_neg h11).trans ((if_neg h12).trans ((if_neg h13).trans ((if_neg h14).trans (if_pos h15))))))))))))))⟩
  by_cases h16 : c = 16
  · exact Or.inr ⟨16, by decide, by decide, h16, (if_neg h0).trans ((if_neg h1).trans ((if_neg h2).trans ((if_neg h3).trans ((if_neg h5).trans ((if_neg h6).trans ((if_neg h7).trans ((if_neg h8).trans ((if_neg h9).trans ((if_neg h10).trans ((if_neg h11).trans ((if_neg h12).trans ((if_neg h13).trans ((if_neg h14).trans ((if_neg h15).trans (if_pos h16)))))))))))))))⟩
  exact Or.inl ((if_neg h0).trans ((if_neg h1).trans ((if_neg h2).trans ((if_neg h3).trans ((if_neg h5).trans ((if_neg h6).trans ((if_neg h7).trans ((if_neg h8).trans ((if_neg h9).trans ((if_neg h10).trans ((if_neg h11).trans ((if_neg h12).trans ((if_neg h13).trans ((if_neg h14).trans ((if_neg h15).trans (if_neg h16))))))))))))))))
theorem own_at_neg (o : Nat → Addr) {c : Int32} (h : c < 0) : own_at o c = .null := if_pos h
theorem own_at_big (o : Nat → Addr) {c : Int32} (h : ¬ c < 17) : own_at o c = .null := by
  have q : ¬ c.toInt < 17 := fun q => h (Int32.lt_iff_toInt_lt.mpr q)
  have n : ¬ c < 0 := fun r => by
    have := Int32.lt_iff_toInt_lt.mp r
    have e0 : (0 : Int32).toInt = 0 := by decide
    omega
  have e := nat_of n
  refine (if_neg n).trans ?_
  have l : (own_vs o).length = 17 := rfl
  rw [List.getD_eq_getElem?_getD, List.getElem?_eq_none (by rw [l]; omega)]
  rfl
theorem own_same (o : Nat → Addr) (c : Int32) : own_at o c = own_exp o c := by
  by_cases h0 : c = 0
  · rw [h0]; rfl
  by_cases h1 : c = 1
  · rw [h1]; rfl
  by_cases h2 : c = 2
  · rw [h2]; rfl
  by_cases h3 : c = 3
  · rw [h3]; rfl
  by_cases h5 : c = 5
  · rw [h5]; rfl
  by_cases h6 : c = 6
  · rw [h6]; rfl
  by_cases h7 : c = 7
  · rw [h7]; rfl
  by_cases h8 : c = 8
  · rw [h8]; rfl
  by_cases h9 : c = 9
  · rw [h9]; rfl
  by_cases h10 : c = 10
  · rw [h10]; rfl
  by_cases h11 : c = 11
  · rw [h11]; rfl
  by_cases h12 : c = 12
  · rw [h12]; rfl
  by_cases h13 : c = 13
  · rw [h13]; rfl
  by_cases h14 : c = 14
  · rw [h14]; rfl
  by_cases h15 : c = 15
  · rw [h15]; rfl
  by_cases h16 : c = 16
  · rw [h16]; rfl
  by_cases h4 : c = 4
  · rw [h4]; rfl
  rw [show own_exp o c = .null from (if_neg h0).trans ((if_neg h1).trans ((if_neg h2).trans ((if_neg h3).trans ((if_neg h5).trans ((if_neg h6).trans ((if_neg h7).trans ((if_neg h8).trans ((if_neg h9).trans ((if_neg h10).trans ((if_neg h11).trans ((if_neg h12).trans ((if_neg h13).trans ((if_neg h14).trans ((if_neg h15).trans (if_neg h16)))))))))))))))]
  by_cases n : c < 0
  · exact own_at_neg o n
  · refine own_at_big o fun q => ?_
    have e := Int32.lt_iff_toInt_lt.mp q
    have e17 : (17 : Int32).toInt = 17 := by decide
    have e0 := nat_of n
    have t0 : c.toInt ≠ 0 := fun r => h0 (Int32.toInt_inj.mp r)
    have t1 : c.toInt ≠ 1 := fun r => h1 (Int32.toInt_inj.mp r)
    have t2 : c.toInt ≠ 2 := fun r => h2 (Int32.toInt_inj.mp r)
    have t3 : c.toInt ≠ 3 := fun r => h3 (Int32.toInt_inj.mp r)
    have t4 : c.toInt ≠ 4 := fun r => h4 (Int32.toInt_inj.mp r)
    have t5 : c.toInt ≠ 5 := fun r => h5 (Int32.toInt_inj.mp r)
    have t6 : c.toInt ≠ 6 := fun r => h6 (Int32.toInt_inj.mp r)
    have t7 : c.toInt ≠ 7 := fun r => h7 (Int32.toInt_inj.mp r)
    have t8 : c.toInt ≠ 8 := fun r => h8 (Int32.toInt_inj.mp r)
    have t9 : c.toInt ≠ 9 := fun r => h9 (Int32.toInt_inj.mp r)
    have t10 : c.toInt ≠ 10 := fun r => h10 (Int32.toInt_inj.mp r)
    have t11 : c.toInt ≠ 11 := fun r => h11 (Int32.toInt_inj.mp r)
    have t12 : c.toInt ≠ 12 := fun r => h12 (Int32.toInt_inj.mp r)
    have t13 : c.toInt ≠ 13 := fun r => h13 (Int32.toInt_inj.mp r)
    have t14 : c.toInt ≠ 14 := fun r => h14 (Int32.toInt_inj.mp r)
    have t15 : c.toInt ≠ 15 := fun r => h15 (Int32.toInt_inj.mp r)
    have t16 : c.toInt ≠ 16 := fun r => h16 (Int32.toInt_inj.mp r)
    omega
theorem pn_com_example_hashspace_hashspace_protocol_Opcode : plainName "com/example/hashspace/hashspace/protocol/Opcode" = true := by first | (simp [plainName, overriddenIn]; done) | decide +kernel
theorem d1_0 : decode prog_42_method_5_code 0 = .ok (.iload_n 0, 1) := by decide +kernel
theorem d1_1 : decode prog_42_method_5_code 1 = .ok (.ifCond .lt 19, 3) := by decide +kernel
theorem d1_20 : decode prog_42_method_5_code 20 = .ok (.aconst_null, 1) := by decide +kernel
theorem d1_21 : decode prog_42_method_5_code 21 = .ok (.areturn, 1) := by decide +kernel
theorem d1_4 : decode prog_42_method_5_code 4 = .ok (.iload_n 0, 1) := by decide +kernel
theorem d1_5 : decode prog_42_method_5_code 5 = .ok (.getstatic 75, 3) := by decide +kernel
theorem d1_8 : decode prog_42_method_5_code 8 = .ok (.arraylength, 1) := by decide +kernel
theorem d1_9 : decode prog_42_method_5_code 9 = .ok (.if_icmp .ge 11, 3) := by decide +kernel
theorem d1_12 : decode prog_42_method_5_code 12 = .ok (.getstatic 75, 3) := by decide +kernel
theorem d1_15 : decode prog_42_method_5_code 15 = .ok (.iload_n 0, 1) := by decide +kernel
theorem d1_16 : decode prog_42_method_5_code 16 = .ok (.aaload, 1) := by decide +kernel
theorem d1_17 : decode prog_42_method_5_code 17 = .ok (.goto 4, 3) := by decide +kernel
theorem ef_1 (m : MethodId) (x0 : Int32) : entryFrame m #[(.int x0)] 1 = mkF m 0 #[.val (.int x0)] [] := by first | (simp [entryFrame, mkF, argsToLocals, Value.category, maxLocals]; done) | rfl
def Q1 (Z : State) (q : Int32) (ob : Nat → Addr) (bc : Addr) (kc : ClassId) (w : Value) (h0 : Heap) (n0 : Nat) (v : Option Value) (h : Heap) (L : List Loc) : Prop := v = some w ∧ Fr n0 L ∧ h = h0
set_option maxRecDepth 65536 in
set_option maxHeartbeats 40000000 in
theorem rm1 (l : Launch) (Z : State) (a0 : Array Value) (hw : ∀ d ∈ tables_1, d.before a0 Z = true) (ws : List Jvm.Cond) (q : Int32) (ob : Nat → Addr) (bc : Addr) (kc : ClassId) (w : Value) (h0 : Heap) (n0 : Nat) (Z0 : n0 ≤ h0.size) (hq : own_at ob q = w) (hwr : w.isRef = true) (SB : Sta Z h0 "com/example/hashspace/hashspace/protocol/Opcode" "BY_CODE" "[Lcom/example/hashspace/hashspace/protocol/Opcode;" (.ref bc)) (VB : Arv Z h0 bc kc (.object "com/example/hashspace/hashspace/protocol/Opcode") (17 : Int32) (own_vs ob) .null) :
    MetFree l (⟨"com/example/hashspace/hashspace/protocol/Opcode", "of", "(I)Lcom/example/hashspace/hashspace/protocol/Opcode;"⟩ : MethodName) (head1 (Jvm.Cond.code (⟨"com/example/hashspace/hashspace/protocol/Opcode", "of", "(I)Lcom/example/hashspace/hashspace/protocol/Opcode;"⟩ : MethodName) prog_42_method_5_code 1 (some (.object "com/example/hashspace/hashspace/protocol/Opcode")) :: ws) ({ frames := 0, cells := 0, slots := 0, locals := 0 } : Room)) (fun a U => a = #[(.int q)] ∧ Z.Warmed39 U.vm ∧ U.heap = h0) (fun _ _ _ _ _ => True) (fun _ U o U' => ∃ v L, o = .returned v ∧ Q1 Z q ob bc kc w h0 n0 v U'.heap L ∧ FrameEnd U o U' L ({ frames := 0, cells := 0, slots := 0, locals := 0 } : Room).cells ({ frames := 0, cells := 0, slots := 0, locals := 0 } : Room).slots) := by
  refine MetFree.of_bodySF (plainFor_of_name pn_com_example_hashspace_hashspace_protocol_Opcode) hisR ?_
  intro p e s m args below meth c s₁ Bd hml0 hP hK
  obtain ⟨rfl, hZ, hh⟩ := hP
  have hx := Bd.exec
  have hby := Bd.bytes
  have w4 := hw _ (List.mem_of_getElem? (i := 4) rfl)
  have hml : c.maxLocals = 1 := hml0
  have hown : s.vm.findClass "com/example/hashspace/hashspace/protocol/Opcode" = some m.cls := findClass_of_methodNamed Bd.named
  have hnm := (name_of_methodNamed Bd.named Bd.method).1
  have X0 : Stand p l e ({ frames := 0, cells := 0, slots := 0, locals := 0 } : Room) s m #[(.int q)] below meth c s₁ [] 0 0 := Stand.of_body Bd
  have e0 : s₁.heap = h0 := by rw [← hh, Bd.state]; rfl
  have N0 := Fr.nil n0
  show Run p.tables e below (PQ s below 0 0 (Q1 Z q ob bc kc w h0 n0)) (s₁.setTop (entryFrame m #[(.int q)] 1))
  refine Run.step (fun t k => castTop (ef_1 m q) k) ?_
  show Run _ _ _ _ (s₁.setTop (mkF m 0 #[.val (.int q)] []))
  refine Run.step (fun t_ k_ => XS.iloadN X0.here hx rfl (hb hby d1_0) rfl k_) ?_
  show Run _ _ _ _ (s₁.setTop (mkF m 1 #[.val (.int q)] [(.int q)]))
  by_cases c1 : q < (0 : Int32)
  · skip
    refine Run.step (fun t_ k_ => XS.ifYes X0.here hx rfl (pc0 := 1) (pc' := 20) rfl (hb hby d1_1) rfl (XT.i0_lt_t c1) (by decide) (by decide) k_) ?_
    show Run _ _ _ _ (s₁.setTop (mkF m 20 #[.val (.int q)] []))
    refine Run.step (fun t_ k_ => XS.aconstNull X0.here hx rfl (hb hby d1_20) k_) ?_
    show Run _ _ _ _ (s₁.setTop (mkF m 21 #[.val (.int q)] [.null]))
    exact finA X0 hx (BodyLoose.notSynchronized Bd) Bd.returns (hb hby d1_21) rfl rfl (by decide) (by decide) e0 ⟨congrArg some ((own_at_neg ob c1).symm.trans hq), N0, rfl⟩
  · skip
    refine Run.step (fun t_ k_ => XS.ifNo X0.here hx rfl (hb hby d1_1) rfl (XT.i0_lt_f c1) k_) ?_
    show Run _ _ _ _ (s₁.setTop (mkF m 4 #[.val (.int q)] []))
    refine Run.step (fun t_ k_ => XS.iloadN X0.here hx rfl (hb hby d1_4) rfl k_) ?_
    show Run _ _ _ _ (s₁.setTop (mkF m 5 #[.val (.int q)] [(.int q)]))
    obtain ⟨T1, X1, e1, st1⟩ := getS2 X0 hx hZ hown (host := "") (Or.inl w4) Via.refl e0 SB (g := (mkF m 5 #[.val (.int q)] [(.int q)])) rfl (hb hby d1_5)
    refine Run.step st1 ?_
    show Run _ _ _ _ (T1.setTop (mkF m 8 #[.val (.int q)] [(.ref bc), (.int q)]))
    obtain ⟨cl2, Ar2, q2, S2, M2, H2, U2⟩ := id VB
    refine Run.step (fun t_ k_ => X1.arraylength hx (by rw [e1]; exact Ar2.1) (State.isArrayOf_alike hZ.alike Ar2.2.1) (g := (mkF m 8 #[.val (.int q)] [(.ref bc), (.int q)])) rfl rfl (hb hby d1_8) _ k_) ?_
    rw [len_of S2 M2]
    show Run _ _ _ _ (T1.setTop (mkF m 9 #[.val (.int q)] [(.int (17 : Int32)), (.int q)]))
    by_cases c9 : q < (17 : Int32)
    · skip
      refine Run.step (fun t_ k_ => XS.icmpNo X1.here hx rfl (hb hby d1_9) rfl (XT.ii_ge_f c9) k_) ?_
      show Run _ _ _ _ (T1.setTop (mkF m 12 #[.val (.int q)] []))
      obtain ⟨T3, X3, e3, st3⟩ := getS2 X1 hx hZ hown (host := "") (Or.inl w4) Via.refl e1 SB (g := (mkF m 12 #[.val (.int q)] [])) rfl (hb hby d1_12)
      refine Run.step st3 ?_
      show Run _ _ _ _ (T3.setTop (mkF m 15 #[.val (.int q)] [(.ref bc)]))
      refine Run.step (fun t_ k_ => XS.iloadN X3.here hx rfl (hb hby d1_15) rfl k_) ?_
      show Run _ _ _ _ (T3.setTop (mkF m 16 #[.val (.int q)] [(.int q), (.ref bc)]))
      obtain ⟨cl4, Ar4, q4, S4, M4, H4, U4⟩ := id VB
      have hin5 : ¬ (q < 0 ∨ cl4.slots.size ≤ (q).toNatClampNeg) := inb_of S4 ⟨c1, c9⟩
      have hat5 : cl4.slots[(q).toNatClampNeg]? = some w := H4.at hin5 ((if_neg c1).symm.trans hq)
      refine Run.step (fun t_ k_ => X3.aaload hx (j := q) (v := w) (by rw [e3]; exact Ar4.1) (State.isArrayOf_alike hZ.alike Ar4.2.1) rfl Ar4.2.2 hin5 hat5 (g := (mkF m 16 #[.val (.int q)] [(.int q), (.ref bc)])) rfl rfl (hb hby d1_16) _ k_) ?_
      show Run _ _ _ _ (T3.setTop (mkF m 17 #[.val (.int q)] [w]))
      refine Run.step (fun t_ k_ => XS.goto X3.here hx rfl (pc0 := 17) (pc' := 21) rfl (hb hby d1_17) (by decide) (by decide) k_) ?_
      show Run _ _ _ _ (T3.setTop (mkF m 21 #[.val (.int q)] [w]))
      exact finA X3 hx (BodyLoose.notSynchronized Bd) Bd.returns (hb hby d1_21) rfl hwr (by decide) (by decide) e3 ⟨rfl, N0, rfl⟩
    · skip
      refine Run.step (fun t_ k_ => XS.icmpYes X1.here hx rfl (pc0 := 9) (pc' := 20) rfl (hb hby d1_9) rfl (XT.ii_ge_t c9) (by decide) (by decide) k_) ?_
      show Run _ _ _ _ (T1.setTop (mkF m 20 #[.val (.int q)] []))
      refine Run.step (fun t_ k_ => XS.aconstNull X1.here hx rfl (hb hby d1_20) k_) ?_
      show Run _ _ _ _ (T1.setTop (mkF m 21 #[.val (.int q)] [.null]))
      exact finA X1 hx (BodyLoose.notSynchronized Bd) Bd.returns (hb hby d1_21) rfl rfl (by decide) (by decide) e1 ⟨congrArg some ((own_at_big ob c9).symm.trans hq), N0, rfl⟩
theorem pn_com_example_hashspace_hashspace_protocol_OpcodeOfPinLaw : plainName "com/example/hashspace/hashspace/protocol/OpcodeOfPinLaw" = true := by first | (simp [plainName, overriddenIn]; done) | decide +kernel
theorem d2_0 : decode method_2_code 0 = .ok (.iload_n 0, 1) := by decide +kernel
theorem d2_1 : decode method_2_code 1 = .ok (.ifCond .ne 7, 3) := by decide +kernel
theorem d2_4 : decode method_2_code 4 = .ok (.getstatic 7, 3) := by decide +kernel
theorem d2_7 : decode method_2_code 7 = .ok (.areturn, 1) := by decide +kernel
theorem d2_8 : decode method_2_code 8 = .ok (.iload_n 0, 1) := by decide +kernel
theorem d2_9 : decode method_2_code 9 = .ok (.iconst 1, 1) := by decide +kernel
theorem d2_10 : decode method_2_code 10 = .ok (.if_icmp .ne 7, 3) := by decide +kernel
theorem d2_13 : decode method_2_code 13 = .ok (.getstatic 13, 3) := by decide +kernel
theorem d2_16 : decode method_2_code 16 = .ok (.areturn, 1) := by decide +kernel
theorem d2_17 : decode method_2_code 17 = .ok (.iload_n 0, 1) := by decide +kernel
theorem d2_18 : decode method_2_code 18 = .ok (.iconst 2, 1) := by decide +kernel
theorem d2_19 : decode method_2_code 19 = .ok (.if_icmp .ne 7, 3) := by decide +kernel
theorem d2_22 : decode method_2_code 22 = .ok (.getstatic 16, 3) := by decide +kernel
theorem d2_25 : decode method_2_code 25 = .ok (.areturn, 1) := by decide +kernel
theorem d2_26 : decode method_2_code 26 = .ok (.iload_n 0, 1) := by decide +kernel
theorem d2_27 : decode method_2_code 27 = .ok (.iconst 3, 1) := by decide +kernel
theorem d2_28 : decode method_2_code 28 = .ok (.if_icmp .ne 7, 3) := by decide +kernel
theorem d2_31 : decode method_2_code 31 = .ok (.getstatic 19, 3) := by decide +kernel
theorem d2_34 : decode method_2_code 34 = .ok (.areturn, 1) := by decide +kernel
theorem d2_35 : decode method_2_code 35 = .ok (.iload_n 0, 1) := by decide +kernel
theorem d2_36 : decode method_2_code 36 = .ok (.iconst 5, 1) := by decide +kernel
theorem d2_37 : decode method_2_code 37 = .ok (.if_icmp .ne 7, 3) := by decide +kernel
theorem d2_40 : decode method_2_code 40 = .ok (.getstatic 22, 3) := by decide +kernel
theorem d2_43 : decode method_2_code 43 = .ok (.areturn, 1) := by decide +kernel
theorem d2_44 : decode method_2_code 44 = .ok (.iload_n 0, 1) := by decide +kernel
theorem d2_45 : decode method_2_code 45 = .ok (.bipush 6, 2) := by decide +kernel
theorem d2_47 : decode method_2_code 47 = .ok (.if_icmp .ne 7, 3) := by decide +kernel
theorem d2_50 : decode method_2_code 50 = .ok (.getstatic 25, 3) := by decide +kernel
theorem d2_53 : decode method_2_code 53 = .ok (.areturn, 1) := by decide +kernel
theorem d2_54 : decode method_2_code 54 = .ok (.iload_n 0, 1) := by decide +kernel
theorem d2_55 : decode method_2_code 55 = .ok (.bipush 7, 2) := by decide +kernel
theorem d2_57 : decode method_2_code 57 = .ok (.if_icmp .ne 7, 3) := by decide +kernel
theorem d2_60 : decode method_2_code 60 = .ok (.getstatic 28, 3) := by decide +kernel
theorem d2_63 : decode method_2_code 63 = .ok (.areturn, 1) := by decide +kernel
theorem d2_64 : decode method_2_code 64 = .ok (.iload_n 0, 1) := by decide +kernel
theorem d2_65 : decode method_2_code 65 = .ok (.bipush 8, 2) := by decide +kernel
theorem d2_67 : decode method_2_code 67 = .ok (.if_icmp .ne 7, 3) := by decide +kernel
theorem d2_70 : decode method_2_code 70 = .ok (.getstatic 31, 3) := by decide +kernel
theorem d2_73 : decode method_2_code 73 = .ok (.areturn, 1) := by decide +kernel
theorem d2_74 : decode method_2_code 74 = .ok (.iload_n 0, 1) := by decide +kernel
theorem d2_75 : decode method_2_code 75 = .ok (.bipush 9, 2) := by decide +kernel
theorem d2_77 : decode method_2_code 77 = .ok (.if_icmp .ne 7, 3) := by decide +kernel
theorem d2_80 : decode method_2_code 80 = .ok (.getstatic 34, 3) := by decide +kernel
theorem d2_83 : decode method_2_code 83 = .ok (.areturn, 1) := by decide +kernel
theorem d2_84 : decode method_2_code 84 = .ok (.iload_n 0, 1) := by decide +kernel
theorem d2_85 : decode method_2_code 85 = .ok (.bipush 10, 2) := by decide +kernel
theorem d2_87 : decode method_2_code 87 = .ok (.if_icmp .ne 7, 3) := by decide +kernel
theorem d2_90 : decode method_2_code 90 = .ok (.getstatic 37, 3) := by decide +kernel
theorem d2_93 : decode method_2_code 93 = .ok (.areturn, 1) := by decide +kernel
theorem d2_94 : decode method_2_code 94 = .ok (.iload_n 0, 1) := by decide +kernel
theorem d2_95 : decode method_2_code 95 = .ok (.bipush 11, 2) := by decide +kernel
theorem d2_97 : decode method_2_code 97 = .ok (.if_icmp .ne 7, 3) := by decide +kernel
theorem d2_100 : decode method_2_code 100 = .ok (.getstatic 40, 3) := by decide +kernel
theorem d2_103 : decode method_2_code 103 = .ok (.areturn, 1) := by decide +kernel
theorem d2_104 : decode method_2_code 104 = .ok (.iload_n 0, 1) := by decide +kernel
theorem d2_105 : decode method_2_code 105 = .ok (.bipush 12, 2) := by decide +kernel
theorem d2_107 : decode method_2_code 107 = .ok (.if_icmp .ne 7, 3) := by decide +kernel
theorem d2_110 : decode method_2_code 110 = .ok (.getstatic 43, 3) := by decide +kernel
theorem d2_113 : decode method_2_code 113 = .ok (.areturn, 1) := by decide +kernel
theorem d2_114 : decode method_2_code 114 = .ok (.iload_n 0, 1) := by decide +kernel
theorem d2_115 : decode method_2_code 115 = .ok (.bipush 13, 2) := by decide +kernel
theorem d2_117 : decode method_2_code 117 = .ok (.if_icmp .ne 7, 3) := by decide +kernel
theorem d2_120 : decode method_2_code 120 = .ok (.getstatic 46, 3) := by decide +kernel
theorem d2_123 : decode method_2_code 123 = .ok (.areturn, 1) := by decide +kernel
theorem d2_124 : decode method_2_code 124 = .ok (.iload_n 0, 1) := by decide +kernel
theorem d2_125 : decode method_2_code 125 = .ok (.bipush 14, 2) := by decide +kernel
theorem d2_127 : decode method_2_code 127 = .ok (.if_icmp .ne 7, 3) := by decide +kernel
theorem d2_130 : decode method_2_code 130 = .ok (.getstatic 49, 3) := by decide +kernel
theorem d2_133 : decode method_2_code 133 = .ok (.areturn, 1) := by decide +kernel
theorem d2_134 : decode method_2_code 134 = .ok (.iload_n 0, 1) := by decide +kernel
theorem d2_135 : decode method_2_code 135 = .ok (.bipush 15, 2) := by decide +kernel
theorem d2_137 : decode method_2_code 137 = .ok (.if_icmp .ne 7, 3) := by decide +kernel
theorem d2_140 : decode method_2_code 140 = .ok (.getstatic 52, 3) := by decide +kernel
theorem d2_143 : decode method_2_code 143 = .ok (.areturn, 1) := by decide +kernel
theorem d2_144 : decode method_2_code 144 = .ok (.iload_n 0, 1) := by decide +kernel
theorem d2_145 : decode method_2_code 145 = .ok (.bipush 16, 2) := by decide +kernel
theorem d2_147 : decode method_2_code 147 = .ok (.if_icmp .ne 7, 3) := by decide +kernel
theorem d2_150 : decode method_2_code 150 = .ok (.getstatic 55, 3) := by decide +kernel
theorem d2_153 : decode method_2_code 153 = .ok (.areturn, 1) := by decide +kernel
theorem d2_154 : decode method_2_code 154 = .ok (.aconst_null, 1) := by decide +kernel
theorem d2_155 : decode method_2_code 155 = .ok (.areturn, 1) := by decide +kernel
theorem ef_2 (m : MethodId) (x0 : Int32) : entryFrame m #[(.int x0)] 1 = mkF m 0 #[.val (.int x0)] [] := by first | (simp [entryFrame, mkF, argsToLocals, Value.category, maxLocals]; done) | rfl
def Q2 (Z : State) (q : Int32) (ob : Nat → Addr) (w : Value) (h0 : Heap) (n0 : Nat) (v : Option Value) (h : Heap) (L : List Loc) : Prop := v = some w ∧ Fr n0 L ∧ h = h0
set_option maxRecDepth 65536 in
set_option maxHeartbeats 40000000 in
theorem rm2 (l : Launch) (Z : State) (a0 : Array Value) (hw : ∀ d ∈ tables_1, d.before a0 Z = true) (ws : List Jvm.Cond) (q : Int32) (ob : Nat → Addr) (w : Value) (h0 : Heap) (n0 : Nat) (Z0 : n0 ≤ h0.size) (hq : own_exp ob q = w) (S_ERROR : Sta Z h0 "com/example/hashspace/hashspace/protocol/Opcode" "ERROR" "Lcom/example/hashspace/hashspace/protocol/Opcode;" (.ref (ob 0))) (S_STARTUP : Sta Z h0 "com/example/hashspace/hashspace/protocol/Opcode" "STARTUP" "Lcom/example/hashspace/hashspace/protocol/Opcode;" (.ref (ob 1))) (S_READY : Sta Z h0 "com/example/hashspace/hashspace/protocol/Opcode" "READY" "Lcom/example/hashspace/hashspace/protocol/Opcode;" (.ref (ob 2))) (S_AUTHENTICATE : Sta Z h0 "com/example/hashspace/hashspace/protocol/Opcode" "AUTHENTICATE" "Lcom/example/hashspace/hashspace/protocol/Opcode;" (.ref (ob 3))) (S_OPTIONS : Sta Z h0 "com/example/hashspace/hashspace/protocol/Opcode" "OPTIONS" "Lcom/example/hashspace/hashspace/protocol/Opcode;" (.ref (ob 5))) (S_SUPPORTED : Sta Z h0 "com/example/hashspace/hashspace/protocol/Opcode" "SUPPORTED" "Lcom/example/hashspace/hashspace/protocol/Opcode;" (.ref (ob 6))) (S_QUERY : Sta Z h0 "com/example/hashspace/hashspace/protocol/Opcode" "QUERY" "Lcom/example/hashspace/hashspace/protocol/Opcode;" (.ref (ob 7))) (S_RESULT : Sta Z h0 "com/example/hashspace/hashspace/protocol/Opcode" "RESULT" "Lcom/example/hashspace/hashspace/protocol/Opcode;" (.ref (ob 8))) (S_PREPARE : Sta Z h0 "com/example/hashspace/hashspace/protocol/Opcode" "PREPARE" "Lcom/example/hashspace/hashspace/protocol/Opcode;" (.ref (ob 9))) (S_EXECUTE : Sta Z h0 "com/example/hashspace/hashspace/protocol/Opcode" "EXECUTE" "Lcom/example/hashspace/hashspace/protocol/Opcode;" (.ref (ob 10))) (S_REGISTER : Sta Z h0 "com/example/hashspace/hashspace/protocol/Opcode" "REGISTER" "Lcom/example/hashspace/hashspace/protocol/Opcode;" (.ref (ob 11))) (S_EVENT : Sta Z h0 "com/example/hashspace/hashspace/protocol/Opcode" "EVENT" "Lcom/example/hashspace/hashspace/protocol/Opcode;" (.ref (ob 12))) (S_BATCH : Sta Z h0 "com/example/hashspace/hashspace/protocol/Opcode" "BATCH" "Lcom/example/hashspace/hashspace/protocol/Opcode;" (.ref (ob 13))) (S_AUTH_CHALLENGE : Sta Z h0 "com/example/hashspace/hashspace/protocol/Opcode" "AUTH_CHALLENGE" "Lcom/example/hashspace/hashspace/protocol/Opcode;" (.ref (ob 14))) (S_AUTH_RESPONSE : Sta Z h0 "com/example/hashspace/hashspace/protocol/Opcode" "AUTH_RESPONSE" "Lcom/example/hashspace/hashspace/protocol/Opcode;" (.ref (ob 15))) (S_AUTH_SUCCESS : Sta Z h0 "com/example/hashspace/hashspace/protocol/Opcode" "AUTH_SUCCESS" "Lcom/example/hashspace/hashspace/protocol/Opcode;" (.ref (ob 16))) :
    MetFree l (⟨"com/example/hashspace/hashspace/protocol/OpcodeOfPinLaw", "expected", "(I)Lcom/example/hashspace/hashspace/protocol/Opcode;"⟩ : MethodName) (head1 (Jvm.Cond.code (⟨"com/example/hashspace/hashspace/protocol/OpcodeOfPinLaw", "expected", "(I)Lcom/example/hashspace/hashspace/protocol/Opcode;"⟩ : MethodName) method_2_code 1 (some (.object "com/example/hashspace/hashspace/protocol/Opcode")) :: ws) ({ frames := 0, cells := 0, slots := 0, locals := 0 } : Room)) (fun a U => a = #[(.int q)] ∧ Z.Warmed39 U.vm ∧ U.heap = h0) (fun _ _ _ _ _ => True) (fun _ U o U' => ∃ v L, o = .returned v ∧ Q2 Z q ob w h0 n0 v U'.heap L ∧ FrameEnd U o U' L ({ frames := 0, cells := 0, slots := 0, locals := 0 } : Room).cells ({ frames := 0, cells := 0, slots := 0, locals := 0 } : Room).slots) := by
  refine MetFree.of_bodySF (plainFor_of_name pn_com_example_hashspace_hashspace_protocol_OpcodeOfPinLaw) hisR ?_
  intro p e s m args below meth c s₁ Bd hml0 hP hK
  obtain ⟨rfl, hZ, hh⟩ := hP
  have hx := Bd.exec
  have hby := Bd.bytes
  have w11 := hw _ (List.mem_of_getElem? (i := 11) rfl)
  have w20 := hw _ (List.mem_of_getElem? (i := 20) rfl)
  have w22 := hw _ (List.mem_of_getElem? (i := 22) rfl)
  have w24 := hw _ (List.mem_of_getElem? (i := 24) rfl)
  have w26 := hw _ (List.mem_of_getElem? (i := 26) rfl)
  have w28 := hw _ (List.mem_of_getElem? (i := 28) rfl)
  have w30 := hw _ (List.mem_of_getElem? (i := 30) rfl)
  have w32 := hw _ (List.mem_of_getElem? (i := 32) rfl)
  have w34 := hw _ (List.mem_of_getElem? (i := 34) rfl)
  have w36 := hw _ (List.mem_of_getElem? (i := 36) rfl)
  have w38 := hw _ (List.mem_of_getElem? (i := 38) rfl)
  have w40 := hw _ (List.mem_of_getElem? (i := 40) rfl)
  have w42 := hw _ (List.mem_of_getElem? (i := 42) rfl)
  have w44 := hw _ (List.mem_of_getElem? (i := 44) rfl)
  have w46 := hw _ (List.mem_of_getElem? (i := 46) rfl)
  have w48 := hw _ (List.mem_of_getElem? (i := 48) rfl)
  have hml : c.maxLocals = 1 := hml0
  have hown : s.vm.findClass "com/example/hashspace/hashspace/protocol/OpcodeOfPinLaw" = some m.cls := findClass_of_methodNamed Bd.named
  have hnm := (name_of_methodNamed Bd.named Bd.method).1
  have X0 : Stand p l e ({ frames := 0, cells := 0, slots := 0, locals := 0 } : Room) s m #[(.int q)] below meth c s₁ [] 0 0 := Stand.of_body Bd
  have e0 : s₁.heap = h0 := by rw [← hh, Bd.state]; rfl
  have N0 := Fr.nil n0
  show Run p.tables e below (PQ s below 0 0 (Q2 Z q ob w h0 n0)) (s₁.setTop (entryFrame m #[(.int q)] 1))
  refine Run.step (fun t k => castTop (ef_2 m q) k) ?_
  show Run _ _ _ _ (s₁.setTop (mkF m 0 #[.val (.int q)] []))
  refine Run.step (fun t_ k_ => XS.iloadN X0.here hx rfl (hb hby d2_0) rfl k_) ?_
  show Run _ _ _ _ (s₁.setTop (mkF m 1 #[.val (.int q)] [(.int q)]))
  by_cases c1 : q = (0 : Int32)
  · skip
    refine Run.step (fun t_ k_ => XS.ifNo X0.here hx rfl (hb hby d2_1) rfl (XT.i0_ne_f c1) k_) ?_
    show Run _ _ _ _ (s₁.setTop (mkF m 4 #[.val (.int q)] []))
    obtain ⟨T6, X6, e6, st6⟩ := getS2 X0 hx hZ hown (host := "") (Or.inl w11) Via.refl e0 S_ERROR (g := (mkF m 4 #[.val (.int q)] [])) rfl (hb hby d2_4)
    refine Run.step st6 ?_
    show Run _ _ _ _ (T6.setTop (mkF m 7 #[.val (.int q)] [(.ref (ob 0))]))
    exact finA X6 hx (BodyLoose.notSynchronized Bd) Bd.returns (hb hby d2_7) rfl rfl (by decide) (by decide) e6 ⟨congrArg some ((show own_exp ob q = (.ref (ob 0)) from if_pos c1).symm.trans hq), N0, rfl⟩
  · skip
    refine Run.step (fun t_ k_ => XS.ifYes X0.here hx rfl (pc0 := 1) (pc' := 8) rfl (hb hby d2_1) rfl (XT.i0_ne_t c1) (by decide) (by decide) k_) ?_
    show Run _ _ _ _ (s₁.setTop (mkF m 8 #[.val (.int q)] []))
    refine Run.step (fun t_ k_ => XS.iloadN X0.here hx rfl (hb hby d2_8) rfl k_) ?_
    show Run _ _ _ _ (s₁.setTop (mkF m 9 #[.val (.int q)] [(.int q)]))
    refine Run.step (fun t_ k_ => XS.iconst X0.here hx rfl (hb hby d2_9) k_) ?_
    show Run _ _ _ _ (s₁.setTop (mkF m 10 #[.val (.int q)] [(.int (1 : Int32)), (.int q)]))
    by_cases c10 : q = (1 : Int32)
    · skip
      refine Run.step (fun t_ k_ => XS.icmpNo X0.here hx rfl (hb hby d2_10) rfl (XT.ii_ne_f c10) k_) ?_
      show Run _ _ _ _ (s₁.setTop (mkF m 13 #[.val (.int q)] []))
      obtain ⟨T7, X7, e7, st7⟩ := getS2 X0 hx hZ hown (host := "") (Or.inl w30) Via.refl e0 S_STARTUP (g := (mkF m 13 #[.val (.int q)] [])) rfl (hb hby d2_13)
      refine Run.step st7 ?_
      show Run _ _ _ _ (T7.setTop (mkF m 16 #[.val (.int q)] [(.ref (ob 1))]))
      exact finA X7 hx (BodyLoose.notSynchronized Bd) Bd.returns (hb hby d2_16) rfl rfl (by decide) (by decide) e7 ⟨congrArg some ((show own_exp ob q = (.ref (ob 1)) from (if_neg c1).trans (if_pos c10)).symm.trans hq), N0, rfl⟩
    · skip
      refine Run.step (fun t_ k_ => XS.icmpYes X0.here hx rfl (pc0 := 10) (pc' := 17) rfl (hb hby d2_10) rfl (XT.ii_ne_t c10) (by decide) (by decide) k_) ?_
      show Run _ _ _ _ (s₁.setTop (mkF m 17 #[.val (.int q)] []))
      refine Run.step (fun t_ k_ => XS.iloadN X0.here hx rfl (hb hby d2_17) rfl k_) ?_
      show Run _ _ _ _ (s₁.setTop (mkF m 18 #[.val (.int q)] [(.int q)]))
      refine Run.step (fun t_ k_ => XS.iconst X0.here hx rfl (hb hby d2_18) k_) ?_
      show Run _ _ _ _ (s₁.setTop (mkF m 19 #[.val (.int q)] [(.int (2 : Int32)), (.int q)]))
      by_cases c19 : q = (2 : Int32)
      · skip
        refine Run.step (fun t_ k_ => XS.icmpNo X0.here hx rfl (hb hby d2_19) rfl (XT.ii_ne_f c19) k_) ?_
        show Run _ _ _ _ (s₁.setTop (mkF m 22 #[.val (.int q)] []))
        obtain ⟨T8, X8, e8, st8⟩ := getS2 X0 hx hZ hown (host := "") (Or.inl w22) Via.refl e0 S_READY (g := (mkF m 22 #[.val (.int q)] [])) rfl (hb hby d2_22)
        refine Run.step st8 ?_
        show Run _ _ _ _ (T8.setTop (mkF m 25 #[.val (.int q)] [(.ref (ob 2))]))
        exact finA X8 hx (BodyLoose.notSynchronized Bd) Bd.returns (hb hby d2_25) rfl rfl (by decide) (by decide) e8 ⟨congrArg some ((show own_exp ob q = (.ref (ob 2)) from (if_neg c1).trans ((if_neg c10).trans (if_pos c19))).symm.trans hq), N0, rfl⟩
      · skip
        refine Run.step (fun t_ k_ => XS.icmpYes X0.here hx rfl (pc0 := 19) (pc' := 26) rfl (hb hby d2_19) rfl (XT.ii_ne_t c19) (by decide) (by decide) k_) ?_
        show Run _ _ _ _ (s₁.setTop (mkF m 26 #[.val (.int q)] []))
        refine Run.step (fun t_ k_ => XS.iloadN X0.here hx rfl (hb hby d2_26) rfl k_) ?_
        show Run _ _ _ _ (s₁.setTop (mkF m 27 #[.val (.int q)] [(.int q)]))
        refine Run.step (fun t_ k_ => XS.iconst X0.here hx rfl (hb hby d2_27) k_) ?_
        show Run _ _ _ _ (s₁.setTop (mkF m 28 #[.val (.int q)] [(.int (3 : Int32)), (.int q)]))
        by_cases c28 : q = (3 : Int32)
        · skip
          refine Run.step (fun t_ k_ => XS.icmpNo X0.here hx rfl (hb hby d2_28) rfl (XT.ii_ne_f c28) k_) ?_
          show Run _ _ _ _ (s₁.setTop (mkF m 31 #[.val (.int q)] []))
          obtain ⟨T9, X9, e9, st9⟩ := getS2 X0 hx hZ hown (host := "") (Or.inl w28) Via.refl e0 S_AUTHENTICATE (g := (mkF m 31 #[.val (.int q)] [])) rfl (hb hby d2_31)
          refine Run.step st9 ?_
          show Run _ _ _ _ (T9.setTop (mkF m 34 #[.val (.int q)] [(.ref (ob 3))]))
          exact finA X9 hx (BodyLoose.notSynchronized Bd) Bd.returns (hb hby d2_34) rfl rfl (by decide) (by decide) e9 ⟨congrArg some ((show own_exp ob q = (.ref (ob 3)) from (if_neg c1).trans ((if_neg c10).trans ((if_neg c19).trans (if_pos c28)))).symm.trans hq), N0, rfl⟩
        · skip
          refine Run.step (fun t_ k_ => XS.icmpYes X0.here hx rfl (pc0 := 28) (pc' := 35) rfl (hb hby d2_28) rfl (XT.ii_ne_t c28) (by decide) (by decide) k_) ?_
          show Run _ _ _ _ (s₁.setTop (mkF m 35 #[.val (.int q)] []))
          refine Run.step (fun t_ k_ => XS.iloadN X0.here hx rfl (hb hby d2_35) rfl k_) ?_
          show Run _ _ _ _ (s₁.setTop (mkF m 36 #[.val (.int q)] [(.int q)]))
          refine Run.step (fun t_ k_ => XS.iconst X0.here hx rfl (hb hby d2_36) k_) ?_
          show Run _ _ _ _ (s₁.setTop (mkF m 37 #[.val (.int q)] [(.int (5 : Int32)), (.int q)]))
          by_cases c37 : q = (5 : Int32)
          · skip
            refine Run.step (fun t_ k_ => XS.icmpNo X0.here hx rfl (hb hby d2_37) rfl (XT.ii_ne_f c37) k_) ?_
            show Run _ _ _ _ (s₁.setTop (mkF m 40 #[.val (.int q)] []))
            obtain ⟨T10, X10, e10, st10⟩ := getS2 X0 hx hZ hown (host := "") (Or.inl w36) Via.refl e0 S_OPTIONS (g := (mkF m 40 #[.val (.int q)] [])) rfl (hb hby d2_40)
            refine Run.step st10 ?_
            show Run _ _ _ _ (T10.setTop (mkF m 43 #[.val (.int q)] [(.ref (ob 5))]))
            exact finA X10 hx (BodyLoose.notSynchronized Bd) Bd.returns (hb hby d2_43) rfl rfl (by decide) (by decide) e10 ⟨congrArg some ((show own_exp ob q = (.ref (ob 5)) from (if_neg c1).trans ((if_neg c10).trans ((if_neg c19).trans ((if_neg c28).trans (if_pos c37))))).symm.trans hq), N0, rfl⟩
          · skip
            refine Run.step (fun t_ k_ => XS.icmpYes X0.here hx rfl (pc0 := 37) (pc' := 44) rfl (hb hby d2_37) rfl (XT.ii_ne_t c37) (by decide) (by decide) k_) ?_
            show Run _ _ _ _ (s₁.setTop (mkF m 44 #[.val (.int q)] []))
            refine Run.step (fun t_ k_ => XS.iloadN X0.here hx rfl (hb hby d2_44) rfl k_) ?_
            show Run _ _ _ _ (s₁.setTop (mkF m 45 #[.val (.int q)] [(.int q)]))
            refine Run.step (fun t_ k_ => XS.bipush X0.here hx rfl (hb hby d2_45) k_) ?_
            show Run _ _ _ _ (s₁.setTop (mkF m 47 #[.val (.int q)] [(.int (6 : Int32)), (.int q)]))
            by_cases c47 : q = (6 : Int32)
            · skip
              refine Run.step (fun t_ k_ => XS.icmpNo X0.here hx rfl (hb hby d2_47) rfl (XT.ii_ne_f c47) k_) ?_
              show Run _ _ _ _ (s₁.setTop (mkF m 50 #[.val (.int q)] []))
              obtain ⟨T11, X11, e11, st11⟩ := getS2 X0 hx hZ hown (host := "") (Or.inl w38) Via.refl e0 S_SUPPORTED (g := (mkF m 50 #[.val (.int q)] [])) rfl (hb hby d2_50)
              refine Run.step st11 ?_
              show Run _ _ _ _ (T11.setTop (mkF m 53 #[.val (.int q)] [(.ref (ob 6))]))
              exact finA X11 hx (BodyLoose.notSynchronized Bd) Bd.returns (hb hby d2_53) rfl rfl (by decide) (by decide) e11 ⟨congrArg some ((show own_exp ob q = (.ref (ob 6)) from (if_neg c1).trans ((if_neg c10).trans ((if_neg c19).trans ((if_neg c28).trans ((if_neg c37).trans (if_pos c47)))))).symm.trans hq), N0, rfl⟩
            · skip
              refine Run.step (fun t_ k_ => XS.icmpYes X0.here hx rfl (pc0 := 47) (pc' := 54) rfl (hb hby d2_47) rfl (XT.ii_ne_t c47) (by decide) (by decide) k_) ?_
              show Run _ _ _ _ (s₁.setTop (mkF m 54 #[.val (.int q)] []))
              refine Run.step (fun t_ k_ => XS.iloadN X0.here hx rfl (hb hby d2_54) rfl k_) ?_
              show Run _ _ _ _ (s₁.setTop (mkF m 55 #[.val (.int q)] [(.int q)]))
              refine Run.step (fun t_ k_ => XS.bipush X0.here hx rfl (hb hby d2_55) k_) ?_
              show Run _ _ _ _ (s₁.setTop (mkF m 57 #[.val (.int q)] [(.int (7 : Int32)), (.int q)]))
              by_cases c57 : q = (7 : Int32)
              · skip
                refine Run.step (fun t_ k_ => XS.icmpNo X0.here hx rfl (hb hby d2_57) rfl (XT.ii_ne_f c57) k_) ?_
                show Run _ _ _ _ (s₁.setTop (mkF m 60 #[.val (.int q)] []))
                obtain ⟨T12, X12, e12, st12⟩ := getS2 X0 hx hZ hown (host := "") (Or.inl w34) Via.refl e0 S_QUERY (g := (mkF m 60 #[.val (.int q)] [])) rfl (hb hby d2_60)
                refine Run.step st12 ?_
                show Run _ _ _ _ (T12.setTop (mkF m 63 #[.val (.int q)] [(.ref (ob 7))]))
                exact finA X12 hx (BodyLoose.notSynchronized Bd) Bd.returns (hb hby d2_63) rfl rfl (by decide) (by decide) e12 ⟨congrArg some ((show own_exp ob q = (.ref (ob 7)) from (if_neg c1).trans ((if_neg c10).trans ((if_neg c19).trans ((if_neg c28).trans ((if_neg c37).trans ((if_neg c47).trans (if_pos c57))))))).symm.trans hq), N0, rfl⟩
              · skip
                refine Run.step (fun t_ k_ => XS.icmpYes X0.here hx rfl (pc0 := 57) (pc' := 64) rfl (hb hby d2_57) rfl (XT.ii_ne_t c57) (by decide) (by decide) k_) ?_
                show Run _ _ _ _ (s₁.setTop (mkF m 64 #[.val (.int q)] []))
                refine Run.step (fun t_ k_ => XS.iloadN X0.here hx rfl (hb hby d2_64) rfl k_) ?_
                show Run _ _ _ _ (s₁.setTop (mkF m 65 #[.val (.int q)] [(.int q)]))
                refine Run.step (fun t_ k_ => XS.bipush X0.here hx rfl (hb hby d2_65) k_) ?_
                show Run _ _ _ _ (s₁.setTop (mkF m 67 #[.val (.int q)] [(.int (8 : Int32)), (.int q)]))
                by_cases c67 : q = (8 : Int32)
                · skip
                  refine Run.step (fun t_ k_ => XS.icmpNo X0.here hx rfl (hb hby d2_67) rfl (XT.ii_ne_f c67) k_) ?_
                  show Run _ _ _ _ (s₁.setTop (mkF m 70 #[.val (.int q)] []))
                  obtain ⟨T13, X13, e13, st13⟩ := getS2 X0 hx hZ hown (host := "") (Or.inl w24) Via.refl e0 S_RESULT (g := (mkF m 70 #[.val (.int q)] [])) rfl (hb hby d2_70)
                  refine Run.step st13 ?_
                  show Run _ _ _ _ (T13.setTop (mkF m 73 #[.val (.int q)] [(.ref (ob 8))]))
                  exact finA X13 hx (BodyLoose.notSynchronized Bd) Bd.returns (hb hby d2_73) rfl rfl (by decide) (by decide) e13 ⟨congrArg some ((show own_exp ob q = (.ref (ob 8)) from (if_neg c1).trans ((if_neg c10).trans ((if_neg c19).trans ((if_neg c28).trans ((if_neg c37).trans ((if_neg c47).trans ((if_neg c57).trans (if_pos c67)))))))).symm.trans hq), N0, rfl⟩
                · skip
                  refine Run.step (fun t_ k_ => XS.icmpYes X0.here hx rfl (pc0 := 67) (pc' := 74) rfl (hb hby d2_67) rfl (XT.ii_ne_t c67) (by decide) (by decide) k_) ?_
                  show Run _ _ _ _ (s₁.setTop (mkF m 74 #[.val (.int q)] []))
                  refine Run.step (fun t_ k_ => XS.iloadN X0.here hx rfl (hb hby d2_74) rfl k_) ?_
                  show Run _ _ _ _ (s₁.setTop (mkF m 75 #[.val (.int q)] [(.int q)]))
                  refine Run.step (fun t_ k_ => XS.bipush X0.here hx rfl (hb hby d2_75) k_) ?_
                  show Run _ _ _ _ (s₁.setTop (mkF m 77 #[.val (.int q)] [(.int (9 : Int32)), (.int q)]))
                  by_cases c77 : q = (9 : Int32)
                  · skip
                    refine Run.step (fun t_ k_ => XS.icmpNo X0.here hx rfl (hb hby d2_77) rfl (XT.ii_ne_f c77) k_) ?_
                    show Run _ _ _ _ (s₁.setTop (mkF m 80 #[.val (.int q)] []))
                    obtain ⟨T14, X14, e14, st14⟩ := getS2 X0 hx hZ hown (host := "") (Or.inl w40) Via.refl e0 S_PREPARE (g := (mkF m 80 #[.val (.int q)] [])) rfl (hb hby d2_80)
                    refine Run.step st14 ?_
                    show Run _ _ _ _ (T14.setTop (mkF m 83 #[.val (.int q)] [(.ref (ob 9))]))
                    exact finA X14 hx (BodyLoose.notSynchronized Bd) Bd.returns (hb hby d2_83) rfl rfl (by decide) (by decide) e14 ⟨congrArg some ((show own_exp ob q = (.ref (ob 9)) from (if_neg c1).trans ((if_neg c10).trans ((if_neg c19).trans ((if_neg c28).trans ((if_neg c37).trans ((if_neg c47).trans ((if_neg c57).trans ((if_neg c67).trans (if_pos c77))))))))).symm.trans hq), N0, rfl⟩
                  · skip
                    refine Run.step (fun t_ k_ => XS.icmpYes X0.here hx rfl (pc0 := 77) (pc' := 84) rfl (hb hby d2_77) rfl (XT.ii_ne_t c77) (by decide) (by decide) k_) ?_
                    show Run _ _ _ _ (s₁.setTop (mkF m 84 #[.val (.int q)] []))
                    refine Run.step (fun t_ k_ => XS.iloadN X0.here hx rfl (hb hby d2_84) rfl k_) ?_
                    show Run _ _ _ _ (s₁.setTop (mkF m 85 #[.val (.int q)] [(.int q)]))
                    refine Run.step (fun t_ k_ => XS.bipush X0.here hx rfl (hb hby d2_85) k_) ?_
                    show Run _ _ _ _ (s₁.setTop (mkF m 87 #[.val (.int q)] [(.int (10 : Int32)), (.int q)]))
                    by_cases c87 : q = (10 : Int32)
                    · skip
                      refine Run.step (fun t_ k_ => XS.icmpNo X0.here hx rfl (hb hby d2_87) rfl (XT.ii_ne_f c87) k_) ?_
                      show Run _ _ _ _ (s₁.setTop (mkF m 90 #[.val (.int q)] []))
                      obtain ⟨T15, X15, e15, st15⟩ := getS2 X0 hx hZ hown (host := "") (Or.inl w32) Via.refl e0 S_EXECUTE (g := (mkF m 90 #[.val (.int q)] [])) rfl (hb hby d2_90)
                      refine Run.step st15 ?_
                      show Run _ _ _ _ (T15.setTop (mkF m 93 #[.val (.int q)] [(.ref (ob 10))]))
                      exact finA X15 hx (BodyLoose.notSynchronized Bd) Bd.returns (hb hby d2_93) rfl rfl (by decide) (by decide) e15 ⟨congrArg some ((show own_exp ob q = (.ref (ob 10)) from (if_neg c1).trans ((if_neg c10).trans ((if_neg c19).trans ((if_neg c28).trans ((if_neg c37).trans ((if_neg c47).trans ((if_neg c57).trans ((if_neg c67).trans ((if_neg c77).trans (if_pos c87)))))))))).symm.trans hq), N0, rfl⟩
                    · skip
                      refine Run.step (fun t_ k_ => XS.icmpYes X0.here hx rfl (pc0 := 87) (pc' := 94) rfl (hb hby d2_87) rfl (XT.ii_ne_t c87) (by decide) (by decide) k_) ?_
                      show Run _ _ _ _ (s₁.setTop (mkF m 94 #[.val (.int q)] []))
                      refine Run.step (fun t_ k_ => XS.iloadN X0.here hx rfl (hb hby d2_94) rfl k_) ?_
                      show Run _ _ _ _ (s₁.setTop (mkF m 95 #[.val (.int q)] [(.int q)]))
                      refine Run.step (fun t_ k_ => XS.bipush X0.here hx rfl (hb hby d2_95) k_) ?_
                      show Run _ _ _ _ (s₁.setTop (mkF m 97 #[.val (.int q)] [(.int (11 : Int32)), (.int q)]))
                      by_cases c97 : q = (11 : Int32)
                      · skip
                        refine Run.step (fun t_ k_ => XS.icmpNo X0.here hx rfl (hb hby d2_97) rfl (XT.ii_ne_f c97) k_) ?_
                        show Run _ _ _ _ (s₁.setTop (mkF m 100 #[.val (.int q)] []))
                        obtain ⟨T16, X16, e16, st16⟩ := getS2 X0 hx hZ hown (host := "") (Or.inl w46) Via.refl e0 S_REGISTER (g := (mkF m 100 #[.val (.int q)] [])) rfl (hb hby d2_100)
                        refine Run.step st16 ?_
                        show Run _ _ _ _ (T16.setTop (mkF m 103 #[.val (.int q)] [(.ref (ob 11))]))
                        exact finA X16 hx (BodyLoose.notSynchronized Bd) Bd.returns (hb hby d2_103) rfl rfl (by decide) (by decide) e16 ⟨congrArg some ((show own_exp ob q = (.ref (ob 11)) from (if_neg c1).trans ((if_neg c10).trans ((if_neg c19).trans ((if_neg c28).trans ((if_neg c37).trans ((if_neg c47).trans ((if_neg c57).trans ((if_neg c67).trans ((if_neg c77).trans ((if_neg c87).trans (if_pos c97))))))))))).symm.trans hq), N0, rfl⟩
                      · skip
                        refine Run.step (fun t_ k_ => XS.icmpYes X0.here hx rfl (pc0 := 97) (pc' := 104) rfl (hb hby d2_97) rfl (XT.ii_ne_t c97) (by decide) (by decide) k_) ?_
                        show Run _ _ _ _ (s₁.setTop (mkF m 104 #[.val (.int q)] []))
                        refine Run.step (fun t_ k_ => XS.iloadN X0.here hx rfl (hb hby d2_104) rfl k_) ?_
                        show Run _ _ _ _ (s₁.setTop (mkF m 105 #[.val (.int q)] [(.int q)]))
                        refine Run.step (fun t_ k_ => XS.bipush X0.here hx rfl (hb hby d2_105) k_) ?_
                        show Run _ _ _ _ (s₁.setTop (mkF m 107 #[.val (.int q)] [(.int (12 : Int32)), (.int q)]))
                        by_cases c107 : q = (12 : Int32)
                        · skip
                          refine Run.step (fun t_ k_ => XS.icmpNo X0.here hx rfl (hb hby d2_107) rfl (XT.ii_ne_f c107) k_) ?_
                          show Run _ _ _ _ (s₁.setTop (mkF m 110 #[.val (.int q)] []))
                          obtain ⟨T17, X17, e17, st17⟩ := getS2 X0 hx hZ hown (host := "") (Or.inl w26) Via.refl e0 S_EVENT (g := (mkF m 110 #[.val (.int q)] [])) rfl (hb hby d2_110)
                          refine Run.step st17 ?_
                          show Run _ _ _ _ (T17.setTop (mkF m 113 #[.val (.int q)] [(.ref (ob 12))]))
                          exact finA X17 hx (BodyLoose.notSynchronized Bd) Bd.returns (hb hby d2_113) rfl rfl (by decide) (by decide) e17 ⟨congrArg some ((show own_exp ob q = (.ref (ob 12)) from (if_neg c1).trans ((if_neg c10).trans ((if_neg c19).trans ((if_neg c28).trans ((if_neg c37).trans ((if_neg c47).trans ((if_neg c57).trans ((if_neg c67).trans ((if_neg c77).trans ((if_neg c87).trans ((if_neg c97).trans (if_pos c107)))))))))))).symm.trans hq), N0, rfl⟩
                        · skip
                          refine Run.step (fun t_ k_ => XS.icmpYes X0.here hx rfl (pc0 := 107) (pc' := 114) rfl (hb hby d2_107) rfl (XT.ii_ne_t c107) (by decide) (by decide) k_) ?_
                          show Run _ _ _ _ (s₁.setTop (mkF m 114 #[.val (.int q)] []))
                          refine Run.step (fun t_ k_ => XS.iloadN X0.here hx rfl (hb hby d2_114) rfl k_) ?_
                          show Run _ _ _ _ (s₁.setTop (mkF m 115 #[.val (.int q)] [(.int q)]))
                          refine Run.step (fun t_ k_ => XS.bipush X0.here hx rfl (hb hby d2_115) k_) ?_
                          show Run _ _ _ _ (s₁.setTop (mkF m 117 #[.val (.int q)] [(.int (13 : Int32)), (.int q)]))
                          by_cases c117 : q = (13 : Int32)
                          · skip
                            refine Run.step (fun t_ k_ => XS.icmpNo X0.here hx rfl (hb hby d2_117) rfl (XT.ii_ne_f c117) k_) ?_
                            show Run _ _ _ _ (s₁.setTop (mkF m 120 #[.val (.int q)] []))
                            obtain ⟨T18, X18, e18, st18⟩ := getS2 X0 hx hZ hown (host := "") (Or.inl w48) Via.refl e0 S_BATCH (g := (mkF m 120 #[.val (.int q)] [])) rfl (hb hby d2_120)
                            refine Run.step st18 ?_
                            show Run _ _ _ _ (T18.setTop (mkF m 123 #[.val (.int q)] [(.ref (ob 13))]))
                            exact finA X18 hx (BodyLoose.notSynchronized Bd) Bd.returns (hb hby d2_123) rfl rfl (by decide) (by decide) e18 ⟨congrArg some ((show own_exp ob q = (.ref (ob 13)) from (if_neg c1).trans ((if_neg c10).trans ((if_neg c19).trans ((if_neg c28).trans ((if_neg c37).trans ((if_neg c47).trans ((if_neg c57).trans ((if_neg c67).trans ((if_neg c77).trans ((if_neg c87).trans ((if_neg c97).trans ((if_neg c107).trans (if_pos c117))))))))))))).symm.trans hq), N0, rfl⟩
                          · skip
                            refine Run.step (fun t_ k_ => XS.icmpYes X0.here hx rfl (pc0 := 117) (pc' := 124) rfl (hb hby d2_117) rfl (XT.ii_ne_t c117) (by decide) (by decide) k_) ?_
                            show Run _ _ _ _ (s₁.setTop (mkF m 124 #[.val (.int q)] []))
                            refine Run.step (fun t_ k_ => XS.iloadN X0.here hx rfl (hb hby d2_124) rfl k_) ?_
                            show Run _ _ _ _ (s₁.setTop (mkF m 125 #[.val (.int q)] [(.int q)]))
                            refine Run.step (fun t_ k_ => XS.bipush X0.here hx rfl (hb hby d2_125) k_) ?_
                            show Run _ _ _ _ (s₁.setTop (mkF m 127 #[.val (.int q)] [(.int (14 : Int32)), (.int q)]))
                            by_cases c127 : q = (14 : Int32)
                            · skip
                              refine Run.step (fun t_ k_ => XS.icmpNo X0.here hx rfl (hb hby d2_127) rfl (XT.ii_ne_f c127) k_) ?_
                              show Run _ _ _ _ (s₁.setTop (mkF m 130 #[.val (.int q)] []))
                              obtain ⟨T19, X19, e19, st19⟩ := getS2 X0 hx hZ hown (host := "") (Or.inl w20) Via.refl e0 S_AUTH_CHALLENGE (g := (mkF m 130 #[.val (.int q)] [])) rfl (hb hby d2_130)
                              refine Run.step st19 ?_
                              show Run _ _ _ _ (T19.setTop (mkF m 133 #[.val (.int q)] [(.ref (ob 14))]))
                              exact finA X19 hx (BodyLoose.notSynchronized Bd) Bd.returns (hb hby d2_133) rfl rfl (by decide) (by decide) e19 ⟨congrArg some ((show own_exp ob q = (.ref (ob 14)) from (if_neg c1).trans ((if_neg c10).trans ((if_neg c19).trans ((if_neg c28).trans ((if_neg c37).trans ((if_neg c47).trans ((if_neg c57).trans ((if_neg c67).trans ((if_neg c77).trans ((if_neg c87).trans ((if_neg c97).trans ((if_neg c107).trans ((if_neg c117).trans (if_pos c127)))))))))))))).symm.trans hq), N0, rfl⟩
                            · skip
                              refine Run.step (fun t_ k_ => XS.icmpYes X0.here hx rfl (pc0 := 127) (pc' := 134) rfl (hb hby d2_127) rfl (XT.ii_ne_t c127) (by decide) (by decide) k_) ?_
                              show Run _ _ _ _ (s₁.setTop (mkF m 134 #[.val (.int q)] []))
                              refine Run.step (fun t_ k_ => XS.iloadN X0.here hx rfl (hb hby d2_134) rfl k_) ?_
                              show Run _ _ _ _ (s₁.setTop (mkF m 135 #[.val (.int q)] [(.int q)]))
                              refine Run.step (fun t_ k_ => XS.bipush X0.here hx rfl (hb hby d2_135) k_) ?_
                              show Run _ _ _ _ (s₁.setTop (mkF m 137 #[.val (.int q)] [(.int (15 : Int32)), (.int q)]))
                              by_cases c137 : q = (15 : Int32)
                              · skip
                                refine Run.step (fun t_ k_ => XS.icmpNo X0.here hx rfl (hb hby d2_137) rfl (XT.ii_ne_f c137) k_) ?_
                                show Run _ _ _ _ (s₁.setTop (mkF m 140 #[.val (.int q)] []))
                                obtain ⟨T20, X20, e20, st20⟩ := getS2 X0 hx hZ hown (host := "") (Or.inl w44) Via.refl e0 S_AUTH_RESPONSE (g := (mkF m 140 #[.val (.int q)] [])) rfl (hb hby d2_140)
                                refine Run.step st20 ?_
                                show Run _ _ _ _ (T20.setTop (mkF m 143 #[.val (.int q)] [(.ref (ob 15))]))
                                exact finA X20 hx (BodyLoose.notSynchronized Bd) Bd.returns (hb hby d2_143) rfl rfl (by decide) (by decide) e20 ⟨congrArg some ((show own_exp ob q = (.ref (ob 15)) from (if_neg c1).trans ((if_neg c10).trans ((if_neg c19).trans ((if_neg c28).trans ((if_neg c37).trans ((if_neg c47).trans ((if_neg c57).trans ((if_neg c67).trans ((if_neg c77).trans ((if_neg c87).trans ((if_neg c97).trans ((if_neg c107).trans ((if_neg c117).trans ((if_neg c127).trans (if_pos c137))))))))))))))).symm.trans hq), N0, rfl⟩
                              · skip
                                refine Run.step (fun t_ k_ => XS.icmpYes X0.here hx rfl (pc0 := 137) (pc' := 144) rfl (hb hby d2_137) rfl (XT.ii_ne_t c137) (by decide) (by decide) k_) ?_
                                show Run _ _ _ _ (s₁.setTop (mkF m 144 #[.val (.int q)] []))
                                refine Run.step (fun t_ k_ => XS.iloadN X0.here hx rfl (hb hby d2_144) rfl k_) ?_
                                show Run _ _ _ _ (s₁.setTop (mkF m 145 #[.val (.int q)] [(.int q)]))
                                refine Run.step (fun t_ k_ => XS.bipush X0.here hx rfl (hb hby d2_145) k_) ?_
                                show Run _ _ _ _ (s₁.setTop (mkF m 147 #[.val (.int q)] [(.int (16 : Int32)), (.int q)]))
                                by_cases c147 : q = (16 : Int32)
                                · skip
                                  refine Run.step (fun t_ k_ => XS.icmpNo X0.here hx rfl (hb hby d2_147) rfl (XT.ii_ne_f c147) k_) ?_
                                  show Run _ _ _ _ (s₁.setTop (mkF m 150 #[.val (.int q)] []))
                                  obtain ⟨T21, X21, e21, st21⟩ := getS2 X0 hx hZ hown (host := "") (Or.inl w42) Via.refl e0 S_AUTH_SUCCESS (g := (mkF m 150 #[.val (.int q)] [])) rfl (hb hby d2_150)
                                  refine Run.step st21 ?_
                                  show Run _ _ _ _ (T21.setTop (mkF m 153 #[.val (.int q)] [(.ref (ob 16))]))
                                  exact finA X21 hx (BodyLoose.notSynchronized Bd) Bd.returns (hb hby d2_153) rfl rfl (by decide) (by decide) e21 ⟨congrArg some ((show own_exp ob q = (.ref (ob 16)) from (if_neg c1).trans ((if_neg c10).trans ((if_neg c19).trans ((if_neg c28).trans ((if_neg c37).trans ((if_neg c47).trans ((if_neg c57).trans ((if_neg c67).trans ((if_neg c77).trans ((if_neg c87).trans ((if_neg c97).trans ((if_neg c107).trans ((if_neg c117).trans ((if_neg c127).trans ((if_neg c137).trans (if_pos c147)))))))))))))))).symm.trans hq), N0, rfl⟩
                                · skip
                                  refine Run.step (fun t_ k_ => XS.icmpYes X0.here hx rfl (pc0 := 147) (pc' := 154) rfl (hb hby d2_147) rfl (XT.ii_ne_t c147) (by decide) (by decide) k_) ?_
                                  show Run _ _ _ _ (s₁.setTop (mkF m 154 #[.val (.int q)] []))
                                  refine Run.step (fun t_ k_ => XS.aconstNull X0.here hx rfl (hb hby d2_154) k_) ?_
                                  show Run _ _ _ _ (s₁.setTop (mkF m 155 #[.val (.int q)] [.null]))
                                  exact finA X0 hx (BodyLoose.notSynchronized Bd) Bd.returns (hb hby d2_155) rfl rfl (by decide) (by decide) e0 ⟨congrArg some ((show own_exp ob q = .null from (if_neg c1).trans ((if_neg c10).trans ((if_neg c19).trans ((if_neg c28).trans ((if_neg c37).trans ((if_neg c47).trans ((if_neg c57).trans ((if_neg c67).trans ((if_neg c77).trans ((if_neg c87).trans ((if_neg c97).trans ((if_neg c107).trans ((if_neg c117).trans ((if_neg c127).trans ((if_neg c137).trans (if_neg c147)))))))))))))))).symm.trans hq), N0, rfl⟩
theorem d3_0 : decode prog_42_method_4_code 0 = .ok (.aload_n 0, 1) := by decide +kernel
theorem d3_1 : decode prog_42_method_4_code 1 = .ok (.getfield 71, 3) := by decide +kernel
theorem d3_4 : decode prog_42_method_4_code 4 = .ok (.ireturn, 1) := by decide +kernel
theorem ef_3 (m : MethodId) (x0 : Addr) : entryFrame m #[(.ref x0)] 1 = mkF m 0 #[.val (.ref x0)] [] := by first | (simp [entryFrame, mkF, argsToLocals, Value.category, maxLocals]; done) | rfl
def Q3 (Z : State) (a1 : Addr) (q : Int32) (h0 : Heap) (n0 : Nat) (v : Option Value) (h : Heap) (L : List Loc) : Prop := v = some (.int q) ∧ Fr n0 L ∧ h = h0
set_option maxRecDepth 65536 in
set_option maxHeartbeats 40000000 in
theorem rm3 (l : Launch) (Z : State) (a0 : Array Value) (hw : ∀ d ∈ tables_1, d.before a0 Z = true) (ws : List Jvm.Cond) (a1 : Addr) (q : Int32) (h0 : Heap) (n0 : Nat) (Z0 : n0 ≤ h0.size) (F1 : Fld Z h0 a1 "com/example/hashspace/hashspace/protocol/Opcode" "code" "I" (.int q)) :
    MetFree l (⟨"com/example/hashspace/hashspace/protocol/Opcode", "code", "()I"⟩ : MethodName) (head1 (Jvm.Cond.code (⟨"com/example/hashspace/hashspace/protocol/Opcode", "code", "()I"⟩ : MethodName) prog_42_method_4_code 1 (some .int) :: ws) ({ frames := 0, cells := 0, slots := 0, locals := 0 } : Room)) (fun a U => a = #[(.ref a1)] ∧ Z.Warmed39 U.vm ∧ U.heap = h0) (fun _ _ _ _ _ => True) (fun _ U o U' => ∃ v L, o = .returned v ∧ Q3 Z a1 q h0 n0 v U'.heap L ∧ FrameEnd U o U' L ({ frames := 0, cells := 0, slots := 0, locals := 0 } : Room).cells ({ frames := 0, cells := 0, slots := 0, locals := 0 } : Room).slots) := by
  refine MetFree.of_bodySF (plainFor_of_name pn_com_example_hashspace_hashspace_protocol_Opcode) hisR ?_
  intro p e s m args below meth c s₁ Bd hml0 hP hK
  obtain ⟨rfl, hZ, hh⟩ := hP
  have hx := Bd.exec
  have hby := Bd.bytes
  have w17 := hw _ (List.mem_of_getElem? (i := 17) rfl)
  have hml : c.maxLocals = 1 := hml0
  have hown : s.vm.findClass "com/example/hashspace/hashspace/protocol/Opcode" = some m.cls := findClass_of_methodNamed Bd.named
  have hnm := (name_of_methodNamed Bd.named Bd.method).1
  have X0 : Stand p l e ({ frames := 0, cells := 0, slots := 0, locals := 0 } : Room) s m #[(.ref a1)] below meth c s₁ [] 0 0 := Stand.of_body Bd
  have e0 : s₁.heap = h0 := by rw [← hh, Bd.state]; rfl
  have N0 := Fr.nil n0
  show Run p.tables e below (PQ s below 0 0 (Q3 Z a1 q h0 n0)) (s₁.setTop (entryFrame m #[(.ref a1)] 1))
  refine Run.step (fun t k => castTop (ef_3 m a1) k) ?_
  show Run _ _ _ _ (s₁.setTop (mkF m 0 #[.val (.ref a1)] []))
  refine Run.step (fun t_ k_ => XS.aloadN X0.here hx rfl (hb hby d3_0) rfl rfl k_) ?_
  show Run _ _ _ _ (s₁.setTop (mkF m 1 #[.val (.ref a1)] [(.ref a1)]))
  obtain ⟨T22, X22, e22, st22⟩ := getF X0 hx hZ hown (host := "") (Or.inl w17) Via.refl e0 F1 (g := (mkF m 1 #[.val (.ref a1)] [(.ref a1)])) rfl rfl (hb hby d3_1)
  refine Run.step st22 ?_
  show Run _ _ _ _ (T22.setTop (mkF m 4 #[.val (.ref a1)] [(.int q)]))
  exact finI X22 hx (BodyLoose.notSynchronized Bd) Bd.returns (hb hby d3_4) (by decide) (by decide) e22 ⟨rfl, N0, rfl⟩
theorem pd__28I_29Lcom_2fexample_2fhashspace_2fhashspace_2fprotocol_2fOpcode_3b : parseMethodDescriptor "(I)Lcom/example/hashspace/hashspace/protocol/Opcode;" = some ⟨[.int], some (.object "com/example/hashspace/hashspace/protocol/Opcode")⟩ := by decide +kernel
theorem pd__28_29I : parseMethodDescriptor "()I" = some ⟨[], some .int⟩ := by decide +kernel
theorem ef_0 (m : MethodId) (x0 : Int32) (x1 : Int32) : entryFrame m #[(.int x0), (.int x1)] maxLocals = mkF m 0 #[.val (.int x0), .val (.int x1), .unset, .unset, .unset, .unset] [] := by first | (simp [entryFrame, mkF, argsToLocals, Value.category, maxLocals]; done) | rfl
def Q0 (Z : State) (p1 : Int32) (p2 : Int32) (ob : Nat → Addr) (bc : Addr) (kc : ClassId) (h0 : Heap) (n0 : Nat) (v : Option Value) (h : Heap) (L : List Loc) : Prop := v = some (.int 1) ∧ Fr n0 L
set_option maxRecDepth 65536 in
set_option maxHeartbeats 40000000 in
theorem rm0 (l : Launch) (Z : State) (a0 : Array Value) (hw : ∀ d ∈ tables_1, d.before a0 Z = true) (ws : List Jvm.Cond) (p1 : Int32) (p2 : Int32) (ob : Nat → Addr) (bc : Addr) (kc : ClassId) (h0 : Heap) (n0 : Nat) (Z0 : n0 ≤ h0.size) (SB : Sta Z h0 "com/example/hashspace/hashspace/protocol/Opcode" "BY_CODE" "[Lcom/example/hashspace/hashspace/protocol/Opcode;" (.ref bc)) (VB : Arv Z h0 bc kc (.object "com/example/hashspace/hashspace/protocol/Opcode") (17 : Int32) (own_vs ob) .null) (hE : ∀ k : Nat, k < 17 → k ≠ 4 → Exa Z h0 (ob k) "com/example/hashspace/hashspace/protocol/Opcode" ∧ Fld Z h0 (ob k) "com/example/hashspace/hashspace/protocol/Opcode" "code" "I" (.int (Int32.ofNat k))) (S_ERROR : Sta Z h0 "com/example/hashspace/hashspace/protocol/Opcode" "ERROR" "Lcom/example/hashspace/hashspace/protocol/Opcode;" (.ref (ob 0))) (S_STARTUP : Sta Z h0 "com/example/hashspace/hashspace/protocol/Opcode" "STARTUP" "Lcom/example/hashspace/hashspace/protocol/Opcode;" (.ref (ob 1))) (S_READY : Sta Z h0 "com/example/hashspace/hashspace/protocol/Opcode" "READY" "Lcom/example/hashspace/hashspace/protocol/Opcode;" (.ref (ob 2))) (S_AUTHENTICATE : Sta Z h0 "com/example/hashspace/hashspace/protocol/Opcode" "AUTHENTICATE" "Lcom/example/hashspace/hashspace/protocol/Opcode;" (.ref (ob 3))) (S_OPTIONS : Sta Z h0 "com/example/hashspace/hashspace/protocol/Opcode" "OPTIONS" "Lcom/example/hashspace/hashspace/protocol/Opcode;" (.ref (ob 5))) (S_SUPPORTED : Sta Z h0 "com/example/hashspace/hashspace/protocol/Opcode" "SUPPORTED" "Lcom/example/hashspace/hashspace/protocol/Opcode;" (.ref (ob 6))) (S_QUERY : Sta Z h0 "com/example/hashspace/hashspace/protocol/Opcode" "QUERY" "Lcom/example/hashspace/hashspace/protocol/Opcode;" (.ref (ob 7))) (S_RESULT : Sta Z h0 "com/example/hashspace/hashspace/protocol/Opcode" "RESULT" "Lcom/example/hashspace/hashspace/protocol/Opcode;" (.ref (ob 8))) (S_PREPARE : Sta Z h0 "com/example/hashspace/hashspace/protocol/Opcode" "PREPARE" "Lcom/example/hashspace/hashspace/protocol/Opcode;" (.ref (ob 9))) (S_EXECUTE : Sta Z h0 "com/example/hashspace/hashspace/protocol/Opcode" "EXECUTE" "Lcom/example/hashspace/hashspace/protocol/Opcode;" (.ref (ob 10))) (S_REGISTER : Sta Z h0 "com/example/hashspace/hashspace/protocol/Opcode" "REGISTER" "Lcom/example/hashspace/hashspace/protocol/Opcode;" (.ref (ob 11))) (S_EVENT : Sta Z h0 "com/example/hashspace/hashspace/protocol/Opcode" "EVENT" "Lcom/example/hashspace/hashspace/protocol/Opcode;" (.ref (ob 12))) (S_BATCH : Sta Z h0 "com/example/hashspace/hashspace/protocol/Opcode" "BATCH" "Lcom/example/hashspace/hashspace/protocol/Opcode;" (.ref (ob 13))) (S_AUTH_CHALLENGE : Sta Z h0 "com/example/hashspace/hashspace/protocol/Opcode" "AUTH_CHALLENGE" "Lcom/example/hashspace/hashspace/protocol/Opcode;" (.ref (ob 14))) (S_AUTH_RESPONSE : Sta Z h0 "com/example/hashspace/hashspace/protocol/Opcode" "AUTH_RESPONSE" "Lcom/example/hashspace/hashspace/protocol/Opcode;" (.ref (ob 15))) (S_AUTH_SUCCESS : Sta Z h0 "com/example/hashspace/hashspace/protocol/Opcode" "AUTH_SUCCESS" "Lcom/example/hashspace/hashspace/protocol/Opcode;" (.ref (ob 16))) :
    MetFree l x (head1 (Jvm.Cond.code x code maxLocals ret :: ws) room_1) (fun a U => a = #[(.int p1), (.int p2)] ∧ Z.Warmed39 U.vm ∧ U.heap = h0) (fun _ _ _ _ _ => True) (fun _ U o U' => ∃ v L, o = .returned v ∧ Q0 Z p1 p2 ob bc kc h0 n0 v U'.heap L ∧ FrameEnd U o U' L 0 0) := by
  refine MetFree.of_bodySF (plainFor_of_name pn_com_example_hashspace_hashspace_protocol_OpcodeOfPinLaw) hisR ?_
  intro p e s m args below meth c s₁ Bd hml0 hP hK
  obtain ⟨rfl, hZ, hh⟩ := hP
  have hx := Bd.exec
  have hby := Bd.bytes
  have w0 := hw _ (List.mem_of_getElem? (i := 0) rfl)
  have w1 := hw _ (List.mem_of_getElem? (i := 1) rfl)
  have w2 := hw _ (List.mem_of_getElem? (i := 2) rfl)
  have w3 := hw _ (List.mem_of_getElem? (i := 3) rfl)
  have w7 := hw _ (List.mem_of_getElem? (i := 7) rfl)
  have w8 := hw _ (List.mem_of_getElem? (i := 8) rfl)
  have w9 := hw _ (List.mem_of_getElem? (i := 9) rfl)
  have w10 := hw _ (List.mem_of_getElem? (i := 10) rfl)
  have w12 := hw _ (List.mem_of_getElem? (i := 12) rfl)
  have w13 := hw _ (List.mem_of_getElem? (i := 13) rfl)
  have w14 := hw _ (List.mem_of_getElem? (i := 14) rfl)
  have w15 := hw _ (List.mem_of_getElem? (i := 15) rfl)
  have w16 := hw _ (List.mem_of_getElem? (i := 16) rfl)
  have hml : c.maxLocals = 6 := hml0
  have hown : s.vm.findClass "com/example/hashspace/hashspace/protocol/OpcodeOfPinLaw" = some m.cls := findClass_of_methodNamed Bd.named
  have hnm := (name_of_methodNamed Bd.named Bd.method).1
  have X0 : Stand p l e room_1 s m #[(.int p1), (.int p2)] below meth c s₁ [] 0 0 := Stand.of_body Bd
  have e0 : s₁.heap = h0 := by rw [← hh, Bd.state]; rfl
  have N0 := Fr.nil n0
  show Run p.tables e below (PQ s below 0 0 (Q0 Z p1 p2 ob bc kc h0 n0)) (s₁.setTop (entryFrame m #[(.int p1), (.int p2)] maxLocals))
  refine Run.step (fun t k => castTop (ef_0 m p1 p2) k) ?_
  show Run _ _ _ _ (s₁.setTop (mkF m 0 #[.val (.int p1), .val (.int p2), .unset, .unset, .unset, .unset] []))
  refine Run.step (fun t_ k_ => XS.iloadN X0.here hx rfl (hb hby at_0) rfl k_) ?_
  show Run _ _ _ _ (s₁.setTop (mkF m 1 #[.val (.int p1), .val (.int p2), .unset, .unset, .unset, .unset] [(.int p2)]))
  refine Run.step (fun t_ k_ => XS.iconst X0.here hx rfl (hb hby at_1) k_) ?_
  show Run _ _ _ _ (s₁.setTop (mkF m 2 #[.val (.int p1), .val (.int p2), .unset, .unset, .unset, .unset] [(.int (1 : Int32)), (.int p2)]))
  refine Run.step (fun t_ k_ => XS.iand X0.here hx rfl (hb hby at_2) rfl k_) ?_
  show Run _ _ _ _ (s₁.setTop (mkF m 3 #[.val (.int p1), .val (.int p2), .unset, .unset, .unset, .unset] [(.int (p2 &&& (1 : Int32)))]))
  have J23 : ∀ (TJ23 : State) (LJ23 : List Loc) (XJ23 : Stand p l e room_1 s m #[(.int p1), (.int p2)] below meth c TJ23 LJ23 0 0) (eJ23 : TJ23.heap = h0) (NJ23 : Fr n0 LJ23) (wh : Int32) (cc : Int32), (True) → Run p.tables e below (PQ s below 0 0 (Q0 Z p1 p2 ob bc kc h0 n0)) (TJ23.setTop (mkF m 26 #[.val (.int p1), .val (.int p2), .val (.int wh), .unset, .unset, .unset] [(.int cc)])) := by
    intro TJ23 LJ23 XJ23 eJ23 NJ23 wh cc hv23
    refine Run.step (fun t_ k_ => XS.istoreN XJ23.here hx rfl (hb hby at_26) rfl (l' := #[.val (.int p1), .val (.int p2), .val (.int wh), .val (.int cc), .unset, .unset]) rfl k_) ?_
    show Run _ _ _ _ (TJ23.setTop (mkF m 27 #[.val (.int p1), .val (.int p2), .val (.int wh), .val (.int cc), .unset, .unset] []))
    rcases own_cases ob cc with hn | ⟨k, hk1, hk2, hk3, hk4⟩
    · have _hx := hx
      refine Run.step (fun t_ k_ => XS.iloadN XJ23.here hx rfl (hb hby at_27) rfl k_) ?_
      show Run _ _ _ _ (TJ23.setTop (mkF m 28 #[.val (.int p1), .val (.int p2), .val (.int wh), .val (.int cc), .unset, .unset] [(.int cc)]))
      obtain ⟨_, _, ⟨T24, L24, k24, n24⟩, -, X24, ⟨Lc24, hQ24, l24, y24, z24⟩, st24⟩ := Jvm.LawKit.callS XJ23 hx (y := (⟨"com/example/hashspace/hashspace/protocol/Opcode", "of", "(I)Lcom/example/hashspace/hashspace/protocol/Opcode;"⟩ : MethodName)) hown (mvT hZ w0) (mvT hZ w1) (mvT hZ w2) (mvT hZ w3) (by decide) (backOf (W := 0) (rm1 l Z a0 hw [] cc ob bc kc .null h0 n0 Z0 ((own_same ob cc).trans hn) rfl SB VB) hZ w3 w2 (by decide) (by decide)) (g := (mkF m 28 #[.val (.int p1), .val (.int p2), .val (.int wh), .val (.int cc), .unset, .unset] [(.int cc)])) rfl (by rw [hml]; rfl) (argsL := [(.int cc)]) (rest := []) (lenOf pd__28I_29Lcom_2fexample_2fhashspace_2fhashspace_2fprotocol_2fOpcode_3b rfl) rfl (by show 2 * 0 + _ ≤ _; exact Nat.le_of_eq rfl) (hb hby at_28) (fun _ _ => ⟨rfl, eJ23, (by decide : 0 + 0 ≤ _), (by decide : 0 + 0 ≤ _)⟩)
      dsimp only [Pt.U, Pt.locs, Pt.cells, Pt.slots] at X24 l24 y24 z24 st24 hQ24
      subst l24 y24 z24
      refine Run.step (st24) ?_
      obtain ⟨rfl, N24q, e24q⟩ := hQ24
      have N24 := Fr.app NJ23 N24q
      show Run _ _ _ _ (T24.setTop (mkF m 31 #[.val (.int p1), .val (.int p2), .val (.int wh), .val (.int cc), .unset, .unset] [.null]))
      refine Run.step (fun t_ k_ => XS.astore X24.here hx rfl (hb hby at_31) rfl rfl (l' := #[.val (.int p1), .val (.int p2), .val (.int wh), .val (.int cc), .val .null, .unset]) rfl k_) ?_
      show Run _ _ _ _ (T24.setTop (mkF m 33 #[.val (.int p1), .val (.int p2), .val (.int wh), .val (.int cc), .val .null, .unset] []))
      refine Run.step (fun t_ k_ => XS.iloadN X24.here hx rfl (hb hby at_33) rfl k_) ?_
      show Run _ _ _ _ (T24.setTop (mkF m 34 #[.val (.int p1), .val (.int p2), .val (.int wh), .val (.int cc), .val .null, .unset] [(.int cc)]))
      obtain ⟨_, _, ⟨T25, L25, k25, n25⟩, -, X25, ⟨Lc25, hQ25, l25, y25, z25⟩, st25⟩ := Jvm.LawKit.callS X24 hx (y := (⟨"com/example/hashspace/hashspace/protocol/OpcodeOfPinLaw", "expected", "(I)Lcom/example/hashspace/hashspace/protocol/Opcode;"⟩ : MethodName)) hown (mvT hZ w7) (mvT hZ w8) (mvT hZ w9) (mvT hZ w10) (by decide) (backOf (W := 0) (rm2 l Z a0 hw [] cc ob .null h0 n0 Z0 hn S_ERROR S_STARTUP S_READY S_AUTHENTICATE S_OPTIONS S_SUPPORTED S_QUERY S_RESULT S_PREPARE S_EXECUTE S_REGISTER S_EVENT S_BATCH S_AUTH_CHALLENGE S_AUTH_RESPONSE S_AUTH_SUCCESS) hZ w10 w9 (by decide) (by decide)) (g := (mkF m 34 #[.val (.int p1), .val (.int p2), .val (.int wh), .val (.int cc), .val .null, .unset] [(.int cc)])) rfl (by rw [hml]; rfl) (argsL := [(.int cc)]) (rest := []) (lenOf pd__28I_29Lcom_2fexample_2fhashspace_2fhashspace_2fprotocol_2fOpcode_3b rfl) rfl (by show 2 * 0 + _ ≤ _; exact Nat.le_of_eq rfl) (hb hby at_34) (fun _ _ => ⟨rfl, e24q, (by decide : 0 + 0 ≤ _), (by decide : 0 + 0 ≤ _)⟩)
      dsimp only [Pt.U, Pt.locs, Pt.cells, Pt.slots] at X25 l25 y25 z25 st25 hQ25
      subst l25 y25 z25
      refine Run.step (st25) ?_
      obtain ⟨rfl, N25q, e25q⟩ := hQ25
      have N25 := Fr.app N24 N25q
      show Run _ _ _ _ (T25.setTop (mkF m 37 #[.val (.int p1), .val (.int p2), .val (.int wh), .val (.int cc), .val .null, .unset] [.null]))
      refine Run.step (fun t_ k_ => XS.astore X25.here hx rfl (hb hby at_37) rfl rfl (l' := #[.val (.int p1), .val (.int p2), .val (.int wh), .val (.int cc), .val .null, .val .null]) rfl k_) ?_
      show Run _ _ _ _ (T25.setTop (mkF m 39 #[.val (.int p1), .val (.int p2), .val (.int wh), .val (.int cc), .val .null, .val .null] []))
      refine Run.step (fun t_ k_ => XS.aload X25.here hx rfl (hb hby at_39) rfl rfl k_) ?_
      show Run _ _ _ _ (T25.setTop (mkF m 41 #[.val (.int p1), .val (.int p2), .val (.int wh), .val (.int cc), .val .null, .val .null] [.null]))
      refine Run.step (fun t_ k_ => XS.aload X25.here hx rfl (hb hby at_41) rfl rfl k_) ?_
      show Run _ _ _ _ (T25.setTop (mkF m 43 #[.val (.int p1), .val (.int p2), .val (.int wh), .val (.int cc), .val .null, .val .null] [.null, .null]))
      refine Run.step (fun t_ k_ => Jvm.RoadKit.acmp (g := (mkF m 43 #[.val (.int p1), .val (.int p2), .val (.int wh), .val (.int cc), .val .null, .val .null] [.null, .null])) X25 hx rfl rfl rfl (pc0 := 43) (pc' := 48) (same := true) rfl (hb hby at_43) rfl (decide_eq_true rfl) (by decide) (by decide) k_) ?_
      show Run _ _ _ _ (T25.setTop (mkF m 48 #[.val (.int p1), .val (.int p2), .val (.int wh), .val (.int cc), .val .null, .val .null] []))
      refine Run.step (fun t_ k_ => XS.aload X25.here hx rfl (hb hby at_48) rfl rfl k_) ?_
      show Run _ _ _ _ (T25.setTop (mkF m 50 #[.val (.int p1), .val (.int p2), .val (.int wh), .val (.int cc), .val .null, .val .null] [.null]))
      refine Run.step (fun t_ k_ => XS.ifnullYes X25.here hx rfl (pc0 := 50) (pc' := 62) rfl (hb hby at_50) rfl (by decide) (by decide) k_) ?_
      show Run _ _ _ _ (T25.setTop (mkF m 62 #[.val (.int p1), .val (.int p2), .val (.int wh), .val (.int cc), .val .null, .val .null] []))
      refine Run.step (fun t_ k_ => XS.iconst X25.here hx rfl (hb hby at_62) k_) ?_
      show Run _ _ _ _ (T25.setTop (mkF m 63 #[.val (.int p1), .val (.int p2), .val (.int wh), .val (.int cc), .val .null, .val .null] [(.int (1 : Int32))]))
      refine Run.step (fun t_ k_ => XS.goto X25.here hx rfl (pc0 := 63) (pc' := 67) rfl (hb hby at_63) (by decide) (by decide) k_) ?_
      show Run _ _ _ _ (T25.setTop (mkF m 67 #[.val (.int p1), .val (.int p2), .val (.int wh), .val (.int cc), .val .null, .val .null] [(.int (1 : Int32))]))
      exact finZ X25 hx (BodyLoose.notSynchronized Bd) Bd.returns (hb hby at_67) (by decide) (by decide) (by decide) e25q ⟨rfl, N25⟩
    · have _hx := hx
      obtain ⟨Ek, Fk⟩ := hE k hk1 hk2
      refine Run.step (fun t_ k_ => XS.iloadN XJ23.here hx rfl (hb hby at_27) rfl k_) ?_
      show Run _ _ _ _ (TJ23.setTop (mkF m 28 #[.val (.int p1), .val (.int p2), .val (.int wh), .val (.int cc), .unset, .unset] [(.int cc)]))
      obtain ⟨_, _, ⟨T26, L26, k26, n26⟩, -, X26, ⟨Lc26, hQ26, l26, y26, z26⟩, st26⟩ := Jvm.LawKit.callS XJ23 hx (y := (⟨"com/example/hashspace/hashspace/protocol/Opcode", "of", "(I)Lcom/example/hashspace/hashspace/protocol/Opcode;"⟩ : MethodName)) hown (mvT hZ w0) (mvT hZ w1) (mvT hZ w2) (mvT hZ w3) (by decide) (backOf (W := 0) (rm1 l Z a0 hw [] cc ob bc kc (.ref (ob k)) h0 n0 Z0 ((own_same ob cc).trans hk4) rfl SB VB) hZ w3 w2 (by decide) (by decide)) (g := (mkF m 28 #[.val (.int p1), .val (.int p2), .val (.int wh), .val (.int cc), .unset, .unset] [(.int cc)])) rfl (by rw [hml]; rfl) (argsL := [(.int cc)]) (rest := []) (lenOf pd__28I_29Lcom_2fexample_2fhashspace_2fhashspace_2fprotocol_2fOpcode_3b rfl) rfl (by show 2 * 0 + _ ≤ _; exact Nat.le_of_eq rfl) (hb hby at_28) (fun _ _ => ⟨rfl, eJ23, (by decide : 0 + 0 ≤ _), (by decide : 0 + 0 ≤ _)⟩)
      dsimp only [Pt.U, Pt.locs, Pt.cells, Pt.slots] at X26 l26 y26 z26 st26 hQ26
      subst l26 y26 z26
      refine Run.step (st26) ?_
      obtain ⟨rfl, N26q, e26q⟩ := hQ26
      have N26 := Fr.app NJ23 N26q
      show Run _ _ _ _ (T26.setTop (mkF m 31 #[.val (.int p1), .val (.int p2), .val (.int wh), .val (.int cc), .unset, .unset] [(.ref (ob k))]))
      refine Run.step (fun t_ k_ => XS.astore X26.here hx rfl (hb hby at_31) rfl rfl (l' := #[.val (.int p1), .val (.int p2), .val (.int wh), .val (.int cc), .val (.ref (ob k)), .unset]) rfl k_) ?_
      show Run _ _ _ _ (T26.setTop (mkF m 33 #[.val (.int p1), .val (.int p2), .val (.int wh), .val (.int cc), .val (.ref (ob k)), .unset] []))
      refine Run.step (fun t_ k_ => XS.iloadN X26.here hx rfl (hb hby at_33) rfl k_) ?_
      show Run _ _ _ _ (T26.setTop (mkF m 34 #[.val (.int p1), .val (.int p2), .val (.int wh), .val (.int cc), .val (.ref (ob k)), .unset] [(.int cc)]))
      obtain ⟨_, _, ⟨T27, L27, k27, n27⟩, -, X27, ⟨Lc27, hQ27, l27, y27, z27⟩, st27⟩ := Jvm.LawKit.callS X26 hx (y := (⟨"com/example/hashspace/hashspace/protocol/OpcodeOfPinLaw", "expected", "(I)Lcom/example/hashspace/hashspace/protocol/Opcode;"⟩ : MethodName)) hown (mvT hZ w7) (mvT hZ w8) (mvT hZ w9) (mvT hZ w10) (by decide) (backOf (W := 0) (rm2 l Z a0 hw [] cc ob (.ref (ob k)) h0 n0 Z0 hk4 S_ERROR S_STARTUP S_READY S_AUTHENTICATE S_OPTIONS S_SUPPORTED S_QUERY S_RESULT S_PREPARE S_EXECUTE S_REGISTER S_EVENT S_BATCH S_AUTH_CHALLENGE S_AUTH_RESPONSE S_AUTH_SUCCESS) hZ w10 w9 (by decide) (by decide)) (g := (mkF m 34 #[.val (.int p1), .val (.int p2), .val (.int wh), .val (.int cc), .val (.ref (ob k)), .unset] [(.int cc)])) rfl (by rw [hml]; rfl) (argsL := [(.int cc)]) (rest := []) (lenOf pd__28I_29Lcom_2fexample_2fhashspace_2fhashspace_2fprotocol_2fOpcode_3b rfl) rfl (by show 2 * 0 + _ ≤ _; exact Nat.le_of_eq rfl) (hb hby at_34) (fun _ _ => ⟨rfl, e26q, (by decide : 0 + 0 ≤ _), (by decide : 0 + 0 ≤ _)⟩)
      dsimp only [Pt.U, Pt.locs, Pt.cells, Pt.slots] at X27 l27 y27 z27 st27 hQ27
      subst l27 y27 z27
      refine Run.step (st27) ?_
      obtain ⟨rfl, N27q, e27q⟩ := hQ27
      have N27 := Fr.app N26 N27q
      show Run _ _ _ _ (T27.setTop (mkF m 37 #[.val (.int p1), .val (.int p2), .val (.int wh), .val (.int cc), .val (.ref (ob k)), .unset] [(.ref (ob k))]))
      refine Run.step (fun t_ k_ => XS.astore X27.here hx rfl (hb hby at_37) rfl rfl (l' := #[.val (.int p1), .val (.int p2), .val (.int wh), .val (.int cc), .val (.ref (ob k)), .val (.ref (ob k))]) rfl k_) ?_
      show Run _ _ _ _ (T27.setTop (mkF m 39 #[.val (.int p1), .val (.int p2), .val (.int wh), .val (.int cc), .val (.ref (ob k)), .val (.ref (ob k))] []))
      refine Run.step (fun t_ k_ => XS.aload X27.here hx rfl (hb hby at_39) rfl rfl k_) ?_
      show Run _ _ _ _ (T27.setTop (mkF m 41 #[.val (.int p1), .val (.int p2), .val (.int wh), .val (.int cc), .val (.ref (ob k)), .val (.ref (ob k))] [(.ref (ob k))]))
      refine Run.step (fun t_ k_ => XS.aload X27.here hx rfl (hb hby at_41) rfl rfl k_) ?_
      show Run _ _ _ _ (T27.setTop (mkF m 43 #[.val (.int p1), .val (.int p2), .val (.int wh), .val (.int cc), .val (.ref (ob k)), .val (.ref (ob k))] [(.ref (ob k)), (.ref (ob k))]))
      refine Run.step (fun t_ k_ => Jvm.RoadKit.acmp (g := (mkF m 43 #[.val (.int p1), .val (.int p2), .val (.int wh), .val (.int cc), .val (.ref (ob k)), .val (.ref (ob k))] [(.ref (ob k)), (.ref (ob k))])) X27 hx rfl rfl rfl (pc0 := 43) (pc' := 48) (same := true) rfl (hb hby at_43) rfl (decide_eq_true rfl) (by decide) (by decide) k_) ?_
      show Run _ _ _ _ (T27.setTop (mkF m 48 #[.val (.int p1), .val (.int p2), .val (.int wh), .val (.int cc), .val (.ref (ob k)), .val (.ref (ob k))] []))
      refine Run.step (fun t_ k_ => XS.aload X27.here hx rfl (hb hby at_48) rfl rfl k_) ?_
      show Run _ _ _ _ (T27.setTop (mkF m 50 #[.val (.int p1), .val (.int p2), .val (.int wh), .val (.int cc), .val (.ref (ob k)), .val (.ref (ob k))] [(.ref (ob k))]))
      refine Run.step (fun t_ k_ => XS.ifnullNo X27.here hx rfl (hb hby at_50) rfl k_) ?_
      show Run _ _ _ _ (T27.setTop (mkF m 53 #[.val (.int p1), .val (.int p2), .val (.int wh), .val (.int cc), .val (.ref (ob k)), .val (.ref (ob k))] []))
      refine Run.step (fun t_ k_ => XS.aload X27.here hx rfl (hb hby at_53) rfl rfl k_) ?_
      show Run _ _ _ _ (T27.setTop (mkF m 55 #[.val (.int p1), .val (.int p2), .val (.int wh), .val (.int cc), .val (.ref (ob k)), .val (.ref (ob k))] [(.ref (ob k))]))
      obtain ⟨cq28, kq28, q28a, q28b, q28c⟩ := isOf hZ e27q Ek
      obtain ⟨_, _, ⟨T28, L28, k28, n28⟩, -, X28, ⟨Lc28, hQ28, l28, y28, z28⟩, st28⟩ := X27.virtualBack hx (y := (⟨"com/example/hashspace/hashspace/protocol/Opcode", "code", "()I"⟩ : MethodName)) (z := (⟨"com/example/hashspace/hashspace/protocol/Opcode", "code", "()I"⟩ : MethodName)) hown (mvT hZ w12) (mvT hZ w13) (notFace_of_selects (args := #[]) (mvT hZ w15)) (mvT hZ w15) (mvT hZ w14) (by decide) (backOf (W := 0) (rm3 l Z a0 hw [] (ob k) (Int32.ofNat k) h0 n0 Z0 Fk) hZ w16 w2 (by decide) (by decide)) q28a q28c (g := (mkF m 55 #[.val (.int p1), .val (.int p2), .val (.int wh), .val (.int cc), .val (.ref (ob k)), .val (.ref (ob k))] [(.ref (ob k))])) rfl (by rw [hml]; rfl) (Steps.refl _) (argsL := []) (rest := []) (lenOf pd__28_29I rfl) rfl (by show 2 * 0 + _ ≤ _; exact Nat.le_of_eq rfl) (hb hby at_55) (fun _ _ => ⟨rfl, e27q, (by decide : 0 + 0 ≤ _), (by decide : 0 + 0 ≤ _)⟩)
      dsimp only [Pt.U, Pt.locs, Pt.cells, Pt.slots] at X28 l28 y28 z28 st28 hQ28
      subst l28 y28 z28
      refine Run.step (fun t k => st28.trans k) ?_
      obtain ⟨rfl, N28q, e28q⟩ := hQ28
      have N28 := Fr.app N27 N28q
      show Run _ _ _ _ (T28.setTop (mkF m 58 #[.val (.int p1), .val (.int p2), .val (.int wh), .val (.int cc), .val (.ref (ob k)), .val (.ref (ob k))] [(.int (Int32.ofNat k))]))
      refine Run.step (fun t_ k_ => XS.iloadN X28.here hx rfl (hb hby at_58) rfl k_) ?_
      show Run _ _ _ _ (T28.setTop (mkF m 59 #[.val (.int p1), .val (.int p2), .val (.int wh), .val (.int cc), .val (.ref (ob k)), .val (.ref (ob k))] [(.int cc), (.int (Int32.ofNat k))]))
      refine Run.step (fun t_ k_ => XS.icmpNo X28.here hx rfl (hb hby at_59) rfl (XT.ii_ne_f (hk3.symm : (Int32.ofNat k) = cc)) k_) ?_
      show Run _ _ _ _ (T28.setTop (mkF m 62 #[.val (.int p1), .val (.int p2), .val (.int wh), .val (.int cc), .val (.ref (ob k)), .val (.ref (ob k))] []))
      refine Run.step (fun t_ k_ => XS.iconst X28.here hx rfl (hb hby at_62) k_) ?_
      show Run _ _ _ _ (T28.setTop (mkF m 63 #[.val (.int p1), .val (.int p2), .val (.int wh), .val (.int cc), .val (.ref (ob k)), .val (.ref (ob k))] [(.int (1 : Int32))]))
      refine Run.step (fun t_ k_ => XS.goto X28.here hx rfl (pc0 := 63) (pc' := 67) rfl (hb hby at_63) (by decide) (by decide) k_) ?_
      show Run _ _ _ _ (T28.setTop (mkF m 67 #[.val (.int p1), .val (.int p2), .val (.int wh), .val (.int cc), .val (.ref (ob k)), .val (.ref (ob k))] [(.int (1 : Int32))]))
      exact finZ X28 hx (BodyLoose.notSynchronized Bd) Bd.returns (hb hby at_67) (by decide) (by decide) (by decide) e28q ⟨rfl, N28⟩
  by_cases c3 : (p2 &&& (1 : Int32)) = (0 : Int32)
  · skip
    refine Run.step (fun t_ k_ => XS.ifYes X0.here hx rfl (pc0 := 3) (pc' := 10) rfl (hb hby at_3) rfl (XT.i0_eq_t c3) (by decide) (by decide) k_) ?_
    show Run _ _ _ _ (s₁.setTop (mkF m 10 #[.val (.int p1), .val (.int p2), .unset, .unset, .unset, .unset] []))
    refine Run.step (fun t_ k_ => XS.iconst X0.here hx rfl (hb hby at_10) k_) ?_
    show Run _ _ _ _ (s₁.setTop (mkF m 11 #[.val (.int p1), .val (.int p2), .unset, .unset, .unset, .unset] [(.int (0 : Int32))]))
    refine Run.step (fun t_ k_ => XS.istoreN X0.here hx rfl (hb hby at_11) rfl (l' := #[.val (.int p1), .val (.int p2), .val (.int (0 : Int32)), .unset, .unset, .unset]) rfl k_) ?_
    show Run _ _ _ _ (s₁.setTop (mkF m 12 #[.val (.int p1), .val (.int p2), .val (.int (0 : Int32)), .unset, .unset, .unset] []))
    refine Run.step (fun t_ k_ => XS.iloadN X0.here hx rfl (hb hby at_12) rfl k_) ?_
    show Run _ _ _ _ (s₁.setTop (mkF m 13 #[.val (.int p1), .val (.int p2), .val (.int (0 : Int32)), .unset, .unset, .unset] [(.int (0 : Int32))]))
    refine Run.step (fun t_ k_ => XS.ifYes X0.here hx rfl (pc0 := 13) (pc' := 20) rfl (hb hby at_13) rfl (XT.i0_eq_t (by decide : (0 : Int32) = (0 : Int32))) (by decide) (by decide) k_) ?_
    show Run _ _ _ _ (s₁.setTop (mkF m 20 #[.val (.int p1), .val (.int p2), .val (.int (0 : Int32)), .unset, .unset, .unset] []))
    refine Run.step (fun t_ k_ => XS.iloadN X0.here hx rfl (hb hby at_20) rfl k_) ?_
    show Run _ _ _ _ (s₁.setTop (mkF m 21 #[.val (.int p1), .val (.int p2), .val (.int (0 : Int32)), .unset, .unset, .unset] [(.int p1)]))
    refine Run.step (fun t_ k_ => XS.bipush X0.here hx rfl (hb hby at_21) k_) ?_
    show Run _ _ _ _ (s₁.setTop (mkF m 23 #[.val (.int p1), .val (.int p2), .val (.int (0 : Int32)), .unset, .unset, .unset] [(.int (31 : Int32)), (.int p1)]))
    refine Run.step (fun t_ k_ => XS.iand X0.here hx rfl (hb hby at_23) rfl k_) ?_
    show Run _ _ _ _ (s₁.setTop (mkF m 24 #[.val (.int p1), .val (.int p2), .val (.int (0 : Int32)), .unset, .unset, .unset] [(.int (p1 &&& (31 : Int32)))]))
    refine Run.step (fun t_ k_ => XS.iconst X0.here hx rfl (hb hby at_24) k_) ?_
    show Run _ _ _ _ (s₁.setTop (mkF m 25 #[.val (.int p1), .val (.int p2), .val (.int (0 : Int32)), .unset, .unset, .unset] [(.int (4 : Int32)), (.int (p1 &&& (31 : Int32)))]))
    refine Run.step (fun t_ k_ => XS.isub X0.here hx rfl (hb hby at_25) rfl k_) ?_
    show Run _ _ _ _ (s₁.setTop (mkF m 26 #[.val (.int p1), .val (.int p2), .val (.int (0 : Int32)), .unset, .unset, .unset] [(.int ((p1 &&& (31 : Int32)) - (4 : Int32)))]))
    exact J23 _ _ X0 e0 N0 (0 : Int32) ((p1 &&& (31 : Int32)) - (4 : Int32)) trivial
  · skip
    refine Run.step (fun t_ k_ => XS.ifNo X0.here hx rfl (hb hby at_3) rfl (XT.i0_eq_f c3) k_) ?_
    show Run _ _ _ _ (s₁.setTop (mkF m 6 #[.val (.int p1), .val (.int p2), .unset, .unset, .unset, .unset] []))
    refine Run.step (fun t_ k_ => XS.iconst X0.here hx rfl (hb hby at_6) k_) ?_
    show Run _ _ _ _ (s₁.setTop (mkF m 7 #[.val (.int p1), .val (.int p2), .unset, .unset, .unset, .unset] [(.int (1 : Int32))]))
    refine Run.step (fun t_ k_ => XS.goto X0.here hx rfl (pc0 := 7) (pc' := 11) rfl (hb hby at_7) (by decide) (by decide) k_) ?_
    show Run _ _ _ _ (s₁.setTop (mkF m 11 #[.val (.int p1), .val (.int p2), .unset, .unset, .unset, .unset] [(.int (1 : Int32))]))
    refine Run.step (fun t_ k_ => XS.istoreN X0.here hx rfl (hb hby at_11) rfl (l' := #[.val (.int p1), .val (.int p2), .val (.int (1 : Int32)), .unset, .unset, .unset]) rfl k_) ?_
    show Run _ _ _ _ (s₁.setTop (mkF m 12 #[.val (.int p1), .val (.int p2), .val (.int (1 : Int32)), .unset, .unset, .unset] []))
    refine Run.step (fun t_ k_ => XS.iloadN X0.here hx rfl (hb hby at_12) rfl k_) ?_
    show Run _ _ _ _ (s₁.setTop (mkF m 13 #[.val (.int p1), .val (.int p2), .val (.int (1 : Int32)), .unset, .unset, .unset] [(.int (1 : Int32))]))
    refine Run.step (fun t_ k_ => XS.ifNo X0.here hx rfl (hb hby at_13) rfl (XT.i0_eq_f (by decide : ¬ ((1 : Int32) = (0 : Int32)))) k_) ?_
    show Run _ _ _ _ (s₁.setTop (mkF m 16 #[.val (.int p1), .val (.int p2), .val (.int (1 : Int32)), .unset, .unset, .unset] []))
    refine Run.step (fun t_ k_ => XS.iloadN X0.here hx rfl (hb hby at_16) rfl k_) ?_
    show Run _ _ _ _ (s₁.setTop (mkF m 17 #[.val (.int p1), .val (.int p2), .val (.int (1 : Int32)), .unset, .unset, .unset] [(.int p1)]))
    refine Run.step (fun t_ k_ => XS.goto X0.here hx rfl (pc0 := 17) (pc' := 26) rfl (hb hby at_17) (by decide) (by decide) k_) ?_
    show Run _ _ _ _ (s₁.setTop (mkF m 26 #[.val (.int p1), .val (.int p2), .val (.int (1 : Int32)), .unset, .unset, .unset] [(.int p1)]))
    exact J23 _ _ X0 e0 N0 (1 : Int32) p1 trivial
set_option maxRecDepth 65536 in
set_option maxHeartbeats 40000000 in
theorem comes_1 {Post : Tables → Env → Array Value → State → Outcome → State → Prop} (hpost : ∀ tb e args s v u, (limb_1_1.after args s (.returned v) u = true ∧ limb_1_2.after args s (.returned v) u = true ∧ True) → FrameEnd s (.returned v) u (Jvm.fieldLocs frame_1_writes args s ++ Jvm.arrayLocs frame_1_arrays args s ++ Jvm.staticLocs frame_1_statics s) 0 0 → Post tb e args s (.returned v) u) :
    ArmFor flags0 classFile x code maxLocals ret World_1 tables_1 room_1 Calls_1 rest_1 Pre_1 Post := by
  intro l hfl _ _ p e ha hc hk s m args below hf hA hF happ hP
  obtain ⟨hcalls, hrest, hpre⟩ := hP
  obtain ⟨-, -, -, hnamed, -, -, -, hat⟩ := (Spec.applies_iff hf).mp happ
  obtain ⟨hg, hn⟩ := and_e (Cond.before_iff.mp (show (Jvm.Cond.and given_1 narrow_1).before args s = true from hpre))
  obtain ⟨h1, h2⟩ := and_e hg
  obtain ⟨w0, w1, rfl⟩ : ∃ w0 w1 : Value, args = #[w0, w1] := by
    have hs : args.size = 2 := by simpa [Cond.value, given_1] using h1
    obtain ⟨L⟩ := args
    match L, hs with
    | [w0, w1], _ => exact ⟨w0, w1, rfl⟩
  have hw := fun d (hd : d ∈ tables_1) => atoms_spec (ws := Jvm.Cond.code x code maxLocals ret :: tables_1) hat d (List.mem_cons_of_mem _ hd)
  have hfit : Fit s := fun {y c} hc i hi => by
    obtain ⟨ha, rfl⟩ := Array.getElem?_eq_some_iff.mp hc
    have q := List.all_eq_true.mp ((Array.all_eq_true_iff_forall_mem.mp hF) _ (Array.getElem_mem ha)) i (List.mem_range.mpr hi)
    simpa [Array.getElem?_eq_getElem hi] using q
  obtain ⟨a0, t0⟩ := and_e h2
  obtain ⟨i0, q0⟩ := is_v a0
  obtain rfl : w0 = (.int i0) := Option.some.inj q0
  obtain ⟨i1, q1⟩ := is_v t0
  obtain rfl : w1 = (.int i1) := Option.some.inj q1
  obtain ⟨n0, m0⟩ := and_e hn
  obtain ⟨n1, m1⟩ := and_e m0
  obtain ⟨n2, m2⟩ := and_e m1
  obtain ⟨n3, m3⟩ := and_e m2
  obtain ⟨n4, m4⟩ := and_e m3
  obtain ⟨n5, m5⟩ := and_e m4
  obtain ⟨n6, m6⟩ := and_e m5
  obtain ⟨n7, m7⟩ := and_e m6
  obtain ⟨n8, m8⟩ := and_e m7
  obtain ⟨n9, m9⟩ := and_e m8
  obtain ⟨n10, m10⟩ := and_e m9
  obtain ⟨n11, m11⟩ := and_e m10
  obtain ⟨n12, m12⟩ := and_e m11
  obtain ⟨n13, m13⟩ := and_e m12
  obtain ⟨n14, m14⟩ := and_e m13
  obtain ⟨n15, m15⟩ := and_e m14
  obtain ⟨n16, m16⟩ := and_e m15
  obtain ⟨n17, m17⟩ := and_e m16
  obtain ⟨n18, m18⟩ := and_e m17
  obtain ⟨n19, m19⟩ := and_e m18
  obtain ⟨n20, m20⟩ := and_e m19
  obtain ⟨n21, m21⟩ := and_e m20
  obtain ⟨n22, m22⟩ := and_e m21
  obtain ⟨n23, m23⟩ := and_e m22
  obtain ⟨n24, m24⟩ := and_e m23
  obtain ⟨n25, m25⟩ := and_e m24
  obtain ⟨n26, m26⟩ := and_e m25
  obtain ⟨n27, m27⟩ := and_e m26
  obtain ⟨n28, m28⟩ := and_e m27
  obtain ⟨n29, m29⟩ := and_e m28
  obtain ⟨n30, m30⟩ := and_e m29
  obtain ⟨n31, m31⟩ := and_e m30
  obtain ⟨n32, m32⟩ := and_e m31
  obtain ⟨n33, m33⟩ := and_e m32
  obtain ⟨n34, m34⟩ := and_e m33
  obtain ⟨n35, m35⟩ := and_e m34
  obtain ⟨n36, m36⟩ := and_e m35
  obtain ⟨n37, m37⟩ := and_e m36
  obtain ⟨n38, m38⟩ := and_e m37
  obtain ⟨n39, m39⟩ := and_e m38
  obtain ⟨n40, m40⟩ := and_e m39
  obtain ⟨n41, m41⟩ := and_e m40
  obtain ⟨n42, m42⟩ := and_e m41
  obtain ⟨n43, m43⟩ := and_e m42
  obtain ⟨n44, m44⟩ := and_e m43
  obtain ⟨n45, m45⟩ := and_e m44
  obtain ⟨n46, m46⟩ := and_e m45
  obtain ⟨n47, m47⟩ := and_e m46
  obtain ⟨n48, m48⟩ := and_e m47
  obtain ⟨n49, m49⟩ := and_e m48
  obtain ⟨o_BY_CODE, ev_BY_CODE⟩ := arr_v n0
  obtain ⟨cl_BY_CODE, A_BY_CODE⟩ := Arr.start ev_BY_CODE n0
  have S_BY_CODE := Sta.start ev_BY_CODE (Or.inr ⟨(hw _ (List.mem_of_getElem? (i := 2) rfl)), (hw _ (List.mem_of_getElem? (i := 5) rfl))⟩)
  obtain ⟨o_ERROR, ev_ERROR⟩ := exa_v n2
  have E_ERROR := Exa.start ev_ERROR n2
  have S_ERROR := Sta.start ev_ERROR (Or.inr ⟨(hw _ (List.mem_of_getElem? (i := 2) rfl)), (hw _ (List.mem_of_getElem? (i := 6) rfl))⟩)
  obtain ⟨o_AUTH_CHALLENGE, ev_AUTH_CHALLENGE⟩ := exa_v n5
  have E_AUTH_CHALLENGE := Exa.start ev_AUTH_CHALLENGE n5
  have S_AUTH_CHALLENGE := Sta.start ev_AUTH_CHALLENGE (Or.inr ⟨(hw _ (List.mem_of_getElem? (i := 2) rfl)), (hw _ (List.mem_of_getElem? (i := 19) rfl))⟩)
  obtain ⟨o_READY, ev_READY⟩ := exa_v n9
  have E_READY := Exa.start ev_READY n9
  have S_READY := Sta.start ev_READY (Or.inr ⟨(hw _ (List.mem_of_getElem? (i := 2) rfl)), (hw _ (List.mem_of_getElem? (i := 21) rfl))⟩)
  obtain ⟨o_RESULT, ev_RESULT⟩ := exa_v n12
  have E_RESULT := Exa.start ev_RESULT n12
  have S_RESULT := Sta.start ev_RESULT (Or.inr ⟨(hw _ (List.mem_of_getElem? (i := 2) rfl)), (hw _ (List.mem_of_getElem? (i := 23) rfl))⟩)
  obtain ⟨o_EVENT, ev_EVENT⟩ := exa_v n15
  have E_EVENT := Exa.start ev_EVENT n15
  have S_EVENT := Sta.start ev_EVENT (Or.inr ⟨(hw _ (List.mem_of_getElem? (i := 2) rfl)), (hw _ (List.mem_of_getElem? (i := 25) rfl))⟩)
  obtain ⟨o_AUTHENTICATE, ev_AUTHENTICATE⟩ := exa_v n18
  have E_AUTHENTICATE := Exa.start ev_AUTHENTICATE n18
  have S_AUTHENTICATE := Sta.start ev_AUTHENTICATE (Or.inr ⟨(hw _ (List.mem_of_getElem? (i := 2) rfl)), (hw _ (List.mem_of_getElem? (i := 27) rfl))⟩)
  obtain ⟨o_STARTUP, ev_STARTUP⟩ := exa_v n21
  have E_STARTUP := Exa.start ev_STARTUP n21
  have S_STARTUP := Sta.start ev_STARTUP (Or.inr ⟨(hw _ (List.mem_of_getElem? (i := 2) rfl)), (hw _ (List.mem_of_getElem? (i := 29) rfl))⟩)
  obtain ⟨o_EXECUTE, ev_EXECUTE⟩ := exa_v n24
  have E_EXECUTE := Exa.start ev_EXECUTE n24
  have S_EXECUTE := Sta.start ev_EXECUTE (Or.inr ⟨(hw _ (List.mem_of_getElem? (i := 2) rfl)), (hw _ (List.mem_of_getElem? (i := 31) rfl))⟩)
  obtain ⟨o_QUERY, ev_QUERY⟩ := exa_v n27
  have E_QUERY := Exa.start ev_QUERY n27
  have S_QUERY := Sta.start ev_QUERY (Or.inr ⟨(hw _ (List.mem_of_getElem? (i := 2) rfl)), (hw _ (List.mem_of_getElem? (i := 33) rfl))⟩)
  obtain ⟨o_OPTIONS, ev_OPTIONS⟩ := exa_v n30
  have E_OPTIONS := Exa.start ev_OPTIONS n30
  have S_OPTIONS := Sta.start ev_OPTIONS (Or.inr ⟨(hw _ (List.mem_of_getElem? (i := 2) rfl)), (hw _ (List.mem_of_getElem? (i := 35) rfl))⟩)
  obtain ⟨o_SUPPORTED, ev_SUPPORTED⟩ := exa_v n33
  have E_SUPPORTED := Exa.start ev_SUPPORTED n33
  have S_SUPPORTED := Sta.start ev_SUPPORTED (Or.inr ⟨(hw _ (List.mem_of_getElem? (i := 2) rfl)), (hw _ (List.mem_of_getElem? (i := 37) rfl))⟩)
  obtain ⟨o_PREPARE, ev_PREPARE⟩ := exa_v n36
  have E_PREPARE := Exa.start ev_PREPARE n36
  have S_PREPARE := Sta.start ev_PREPARE (Or.inr ⟨(hw _ (List.mem_of_getElem? (i := 2) rfl)), (hw _ (List.mem_of_getElem? (i := 39) rfl))⟩)
  obtain ⟨o_AUTH_SUCCESS, ev_AUTH_SUCCESS⟩ := exa_v n39
  have E_AUTH_SUCCESS := Exa.start ev_AUTH_SUCCESS n39
  have S_AUTH_SUCCESS := Sta.start ev_AUTH_SUCCESS (Or.inr ⟨(hw _ (List.mem_of_getElem? (i := 2) rfl)), (hw _ (List.mem_of_getElem? (i := 41) rfl))⟩)
  obtain ⟨o_AUTH_RESPONSE, ev_AUTH_RESPONSE⟩ := exa_v n42
  have E_AUTH_RESPONSE := Exa.start ev_AUTH_RESPONSE n42
  have S_AUTH_RESPONSE := Sta.start ev_AUTH_RESPONSE (Or.inr ⟨(hw _ (List.mem_of_getElem? (i := 2) rfl)), (hw _ (List.mem_of_getElem? (i := 43) rfl))⟩)
  obtain ⟨o_REGISTER, ev_REGISTER⟩ := exa_v n45
  have E_REGISTER := Exa.start ev_REGISTER n45
  have S_REGISTER := Sta.start ev_REGISTER (Or.inr ⟨(hw _ (List.mem_of_getElem? (i := 2) rfl)), (hw _ (List.mem_of_getElem? (i := 45) rfl))⟩)
  obtain ⟨o_BATCH, ev_BATCH⟩ := exa_v n48
  have E_BATCH := Exa.start ev_BATCH n48
  have S_BATCH := Sta.start ev_BATCH (Or.inr ⟨(hw _ (List.mem_of_getElem? (i := 2) rfl)), (hw _ (List.mem_of_getElem? (i := 47) rfl))⟩)
  have G_BY_CODE := own_len A_BY_CODE ev_BY_CODE (own_eqi n1)
  have V_BY_CODE_0 := (elem_in (own_eqr n3 ev_ERROR) ev_BY_CODE (Term.int_eval _) A_BY_CODE.1).2
  have F_ERROR_code := Fld.start ((fld_at ev_ERROR).symm.trans (own_eqi n4))
  have V_BY_CODE_14 := (elem_in (own_eqr n6 ev_AUTH_CHALLENGE) ev_BY_CODE (Term.int_eval _) A_BY_CODE.1).2
  have F_AUTH_CHALLENGE_code := Fld.start ((fld_at ev_AUTH_CHALLENGE).symm.trans (own_eqi n7))
  have V_BY_CODE_4 := (elem_in (null_v n8) ev_BY_CODE (Term.int_eval _) A_BY_CODE.1).2
  have V_BY_CODE_2 := (elem_in (own_eqr n10 ev_READY) ev_BY_CODE (Term.int_eval _) A_BY_CODE.1).2
  have F_READY_code := Fld.start ((fld_at ev_READY).symm.trans (own_eqi n11))
  have V_BY_CODE_8 := (elem_in (own_eqr n13 ev_RESULT) ev_BY_CODE (Term.int_eval _) A_BY_CODE.1).2
  have F_RESULT_code := Fld.start ((fld_at ev_RESULT).symm.trans (own_eqi n14))
  have V_BY_CODE_12 := (elem_in (own_eqr n16 ev_EVENT) ev_BY_CODE (Term.int_eval _) A_BY_CODE.1).2
  have F_EVENT_code := Fld.start ((fld_at ev_EVENT).symm.trans (own_eqi n17))
  have V_BY_CODE_3 := (elem_in (own_eqr n19 ev_AUTHENTICATE) ev_BY_CODE (Term.int_eval _) A_BY_CODE.1).2
  have F_AUTHENTICATE_code := Fld.start ((fld_at ev_AUTHENTICATE).symm.trans (own_eqi n20))
  have V_BY_CODE_1 := (elem_in (own_eqr n22 ev_STARTUP) ev_BY_CODE (Term.int_eval _) A_BY_CODE.1).2
  have F_STARTUP_code := Fld.start ((fld_at ev_STARTUP).symm.trans (own_eqi n23))
  have V_BY_CODE_10 := (elem_in (own_eqr n25 ev_EXECUTE) ev_BY_CODE (Term.int_eval _) A_BY_CODE.1).2
  have F_EXECUTE_code := Fld.start ((fld_at ev_EXECUTE).symm.trans (own_eqi n26))
  have V_BY_CODE_7 := (elem_in (own_eqr n28 ev_QUERY) ev_BY_CODE (Term.int_eval _) A_BY_CODE.1).2
  have F_QUERY_code := Fld.start ((fld_at ev_QUERY).symm.trans (own_eqi n29))
  have V_BY_CODE_5 := (elem_in (own_eqr n31 ev_OPTIONS) ev_BY_CODE (Term.int_eval _) A_BY_CODE.1).2
  have F_OPTIONS_code := Fld.start ((fld_at ev_OPTIONS).symm.trans (own_eqi n32))
  have V_BY_CODE_6 := (elem_in (own_eqr n34 ev_SUPPORTED) ev_BY_CODE (Term.int_eval _) A_BY_CODE.1).2
  have F_SUPPORTED_code := Fld.start ((fld_at ev_SUPPORTED).symm.trans (own_eqi n35))
  have V_BY_CODE_9 := (elem_in (own_eqr n37 ev_PREPARE) ev_BY_CODE (Term.int_eval _) A_BY_CODE.1).2
  have F_PREPARE_code := Fld.start ((fld_at ev_PREPARE).symm.trans (own_eqi n38))
  have V_BY_CODE_16 := (elem_in (own_eqr n40 ev_AUTH_SUCCESS) ev_BY_CODE (Term.int_eval _) A_BY_CODE.1).2
  have F_AUTH_SUCCESS_code := Fld.start ((fld_at ev_AUTH_SUCCESS).symm.trans (own_eqi n41))
  have V_BY_CODE_15 := (elem_in (own_eqr n43 ev_AUTH_RESPONSE) ev_BY_CODE (Term.int_eval _) A_BY_CODE.1).2
  have F_AUTH_RESPONSE_code := Fld.start ((fld_at ev_AUTH_RESPONSE).symm.trans (own_eqi n44))
  have V_BY_CODE_11 := (elem_in (own_eqr n46 ev_REGISTER) ev_BY_CODE (Term.int_eval _) A_BY_CODE.1).2
  have F_REGISTER_code := Fld.start ((fld_at ev_REGISTER).symm.trans (own_eqi n47))
  have V_BY_CODE_13 := (elem_in (own_eqr n49 ev_BATCH) ev_BY_CODE (Term.int_eval _) A_BY_CODE.1).2
  have F_BATCH_code := Fld.start ((fld_at ev_BATCH).symm.trans (own_eqi m49))
  have VB : Arv s s.heap o_BY_CODE cl_BY_CODE.cls (.object "com/example/hashspace/hashspace/protocol/Opcode") (17 : Int32) (own_vs (fun k => [o_ERROR, o_STARTUP, o_READY, o_AUTHENTICATE, 0, o_OPTIONS, o_SUPPORTED, o_QUERY, o_RESULT, o_PREPARE, o_EXECUTE, o_REGISTER, o_EVENT, o_BATCH, o_AUTH_CHALLENGE, o_AUTH_RESPONSE, o_AUTH_SUCCESS].getD k 0)) .null := Arv.start hfit A_BY_CODE G_BY_CODE.1 G_BY_CODE.2 (by decide) rfl ⟨V_BY_CODE_0, V_BY_CODE_1, V_BY_CODE_2, V_BY_CODE_3, V_BY_CODE_4, V_BY_CODE_5, V_BY_CODE_6, V_BY_CODE_7, V_BY_CODE_8, V_BY_CODE_9, V_BY_CODE_10, V_BY_CODE_11, V_BY_CODE_12, V_BY_CODE_13, V_BY_CODE_14, V_BY_CODE_15, V_BY_CODE_16, trivial⟩
  have hE : ∀ k : Nat, k < 17 → k ≠ 4 → Exa s s.heap ([o_ERROR, o_STARTUP, o_READY, o_AUTHENTICATE, 0, o_OPTIONS, o_SUPPORTED, o_QUERY, o_RESULT, o_PREPARE, o_EXECUTE, o_REGISTER, o_EVENT, o_BATCH, o_AUTH_CHALLENGE, o_AUTH_RESPONSE, o_AUTH_SUCCESS].getD k 0) "com/example/hashspace/hashspace/protocol/Opcode" ∧ Fld s s.heap ([o_ERROR, o_STARTUP, o_READY, o_AUTHENTICATE, 0, o_OPTIONS, o_SUPPORTED, o_QUERY, o_RESULT, o_PREPARE, o_EXECUTE, o_REGISTER, o_EVENT, o_BATCH, o_AUTH_CHALLENGE, o_AUTH_RESPONSE, o_AUTH_SUCCESS].getD k 0) "com/example/hashspace/hashspace/protocol/Opcode" "code" "I" (.int (Int32.ofNat k)) := by
    intro k h1 h2
    match k, h1, h2 with
    | 0, _, _ => exact ⟨E_ERROR, F_ERROR_code⟩
    | 1, _, _ => exact ⟨E_STARTUP, F_STARTUP_code⟩
    | 2, _, _ => exact ⟨E_READY, F_READY_code⟩
    | 3, _, _ => exact ⟨E_AUTHENTICATE, F_AUTHENTICATE_code⟩
    | 5, _, _ => exact ⟨E_OPTIONS, F_OPTIONS_code⟩
    | 6, _, _ => exact ⟨E_SUPPORTED, F_SUPPORTED_code⟩
    | 7, _, _ => exact ⟨E_QUERY, F_QUERY_code⟩
    | 8, _, _ => exact ⟨E_RESULT, F_RESULT_code⟩
    | 9, _, _ => exact ⟨E_PREPARE, F_PREPARE_code⟩
    | 10, _, _ => exact ⟨E_EXECUTE, F_EXECUTE_code⟩
    | 11, _, _ => exact ⟨E_REGISTER, F_REGISTER_code⟩
    | 12, _, _ => exact ⟨E_EVENT, F_EVENT_code⟩
    | 13, _, _ => exact ⟨E_BATCH, F_BATCH_code⟩
    | 14, _, _ => exact ⟨E_AUTH_CHALLENGE, F_AUTH_CHALLENGE_code⟩
    | 15, _, _ => exact ⟨E_AUTH_RESPONSE, F_AUTH_RESPONSE_code⟩
    | 16, _, _ => exact ⟨E_AUTH_SUCCESS, F_AUTH_SUCCESS_code⟩
    | 4, _, h => exact absurd rfl h
    | k + 17, h, _ => exact absurd h (by omega)
  obtain ⟨n, o, g1, g2, g3, _, L, rfl, ⟨rfl, N⟩, hq⟩ := rm0 l s _ hw tables_1 i0 i1 (fun k => [o_ERROR, o_STARTUP, o_READY, o_AUTHENTICATE, 0, o_OPTIONS, o_SUPPORTED, o_QUERY, o_RESULT, o_PREPARE, o_EXECUTE, o_REGISTER, o_EVENT, o_BATCH, o_AUTH_CHALLENGE, o_AUTH_RESPONSE, o_AUTH_SUCCESS].getD k 0) o_BY_CODE cl_BY_CODE.cls s.heap s.heap.size (Nat.le_refl _) S_BY_CODE VB hE S_ERROR S_STARTUP S_READY S_AUTHENTICATE S_OPTIONS S_SUPPORTED S_QUERY S_RESULT S_PREPARE S_EXECUTE S_REGISTER S_EVENT S_BATCH S_AUTH_CHALLENGE S_AUTH_RESPONSE S_AUTH_SUCCESS p e ha hc hk s m _ below hf ((Spec.applies_iff_loose hf).mp happ).1 ⟨rfl, State.Warmed39.refl s, rfl⟩ trivial
  refine ⟨n, _, g1, g2, g3, hpost _ _ _ _ _ _ ⟨Cond.after_iff.mpr rfl, Cond.after_iff.mpr (eq_i res_at (Term.int_eval (1)) rfl), trivial⟩ ⟨hq.1, hq.2.1, (hq.2.2.sift fun y hy => Or.inr (N y hy)).mono (by decide) (by decide)⟩⟩
theorem main_1_1 : Claimed_1_1 := comes_1 fun _ _ _ _ _ _ h hF => ⟨h.1, hF⟩
theorem main_1_2 : Claimed_1_2 := comes_1 fun _ _ _ _ _ _ h hF => ⟨h.2.1, hF⟩
end Jvm.Pilot.@@N@@
namespace Jvm.Pilot.@@N@@
open Jvm Jvm.ClassFile Sem Op Lib Jvm.Free Jvm.Stand Jvm.Pilot.@@N@@.Jvm.D
/-! MADE BY PROGRAM (witnessworld.py) out of the Statement's table words and the real class files: 13 classes; the members and pool entries that the words name. The judged class is class 1, her method 2. -/
namespace start1
open Jvm.ClassFile
def u (s : String) : CpInfo := .utf8 (stringToUtf16 s)
/-- a pool by its gaps: so many unusable entries, then the entry; so many at the end -/
def gap : Nat → List CpInfo → List CpInfo
  | 0, r => r
  | n + 1, r => .unusable :: gap n r
def poolList (es : List (Nat × CpInfo)) (last : Nat) : List CpInfo := es.foldr (fun e r => gap e.1 (e.2 :: r)) (gap last [])
def pool (es : List (Nat × CpInfo)) (last : Nat) : Array CpInfo := ⟨poolList es last⟩
def fileOf (pool : Array CpInfo) (this : Nat) (attrs : Array Attribute := #[]) (ms : Array MethodInfo := #[]) (fl : Nat := 33) (sup : Nat := 0) (ifs : Array Nat := #[]) (fds : Array FieldInfo := #[]) : ClassFile where
  minorVersion := 0
  majorVersion := 65
  constantPool := pool
  accessFlags := fl
  thisClass := this
  superClass := sup
  interfaces := ifs
  fields := fds
  methods := ms
  attributes := attrs
def plain (name : String) (sup : Option ClassId) : Class where
  name := name
  kind := .ordinary
  loader := none
  accessFlags := 33
  super := sup
  interfaces := #[]
  cf := none
  fields := #[]
  methods := #[]
  instanceTypes := #[]
  staticTypes := #[]
  resolved := #[]
  callSites := []
  init := .initialized
  statics := none
  mirror := none

def pool0 : Array CpInfo := pool [(5, u "<init>"), (0, u "()V"), (1, .class_ 10), (1, u "java/lang/Object")] 113

def k0m0 : Method := { name := "<init>", desc := "()V", sig := { parameters := [], returnType := none }, accessFlags := 1, code := none }
/-- java/lang/Object -/
def k0 : Class := { plain "java/lang/Object" none with
  accessFlags := 33
  interfaces := #[]
  cf := some (fileOf pool0 8 #[] #[{ accessFlags := 1, nameIndex := 5, descriptorIndex := 6, attributes := #[] }] 33 0 #[] #[])
  fields := #[]
  methods := #[k0m0]
  instanceTypes := #[]
  staticTypes := #[]
  resolved := Array.replicate 124 none
  statics := none }

def pool1 : Array CpInfo := pool [(2, .class_ 4), (1, u "java/lang/Object"), (0, u "<init>"), (0, u "()V"), (0, .fieldref 8 9), (0, .class_ 10), (0, .nameAndType 11 12), (0, u "com/example/hashspace/hashspace/protocol/Opcode"), (0, u "ERROR"), (0, u "Lcom/example/hashspace/hashspace/protocol/Opcode;"), (0, .fieldref 8 14), (0, .nameAndType 15 12), (0, u "STARTUP"), (0, .fieldref 8 17), (0, .nameAndType 18 12), (0, u "READY"), (0, .fieldref 8 20), (0, .nameAndType 21 12), (0, u "AUTHENTICATE"), (0, .fieldref 8 23), (0, .nameAndType 24 12), (0, u "OPTIONS"), (0, .fieldref 8 26), (0, .nameAndType 27 12), (0, u "SUPPORTED"), (0, .fieldref 8 29), (0, .nameAndType 30 12), (0, u "QUERY"), (0, .fieldref 8 32), (0, .nameAndType 33 12), (0, u "RESULT"), (0, .fieldref 8 35), (0, .nameAndType 36 12), (0, u "PREPARE"), (0, .fieldref 8 38), (0, .nameAndType 39 12), (0, u "EXECUTE"), (0, .fieldref 8 41), (0, .nameAndType 42 12), (0, u "REGISTER"), (0, .fieldref 8 44), (0, .nameAndType 45 12), (0, u "EVENT"), (0, .fieldref 8 47), (0, .nameAndType 48 12), (0, u "BATCH"), (0, .fieldref 8 50), (0, .nameAndType 51 12), (0, u "AUTH_CHALLENGE"), (0, .fieldref 8 53), (0, .nameAndType 54 12), (0, u "AUTH_RESPONSE"), (0, .fieldref 8 56), (0, .nameAndType 57 12), (0, u "AUTH_SUCCESS"), (0, .methodref 8 59), (0, .nameAndType 60 61), (0, u "of"), (0, u "(I)Lcom/example/hashspace/hashspace/protocol/Opcode;"), (0, .methodref 63 64), (0, .class_ 65), (0, .nameAndType 66 61), (0, u "com/example/hashspace/hashspace/protocol/OpcodeOfPinLaw"), (0, u "expected"), (0, .methodref 8 68), (0, .nameAndType 69 70), (0, u "code"), (0, u "()I"), (3, u "law"), (0, u "(II)Z")] 2

def k1m0 : Method := { name := "<init>", desc := "()V", sig := { parameters := [], returnType := none }, accessFlags := 1, code := none }
def k1c1 : Code := { maxStack := 2, maxLocals := 1, code := method_2_code, exceptionTable := #[], attributes := #[] }
def k1m1 : Method := { name := "expected", desc := "(I)Lcom/example/hashspace/hashspace/protocol/Opcode;", sig := { parameters := [.int], returnType := some (.object "com/example/hashspace/hashspace/protocol/Opcode") }, accessFlags := 10, code := some k1c1 }
def k1c2 : Code := { maxStack := 2, maxLocals := 6, code := code, exceptionTable := #[], attributes := #[] }
def k1m2 : Method := { name := "law", desc := "(II)Z", sig := { parameters := [.int, .int], returnType := some .boolean }, accessFlags := 9, code := some k1c2 }
/-- com/example/hashspace/hashspace/protocol/OpcodeOfPinLaw -/
def k1 : Class := { plain "com/example/hashspace/hashspace/protocol/OpcodeOfPinLaw" (some 0) with
  accessFlags := 49
  interfaces := #[]
  cf := some (fileOf pool1 63 #[] #[{ accessFlags := 1, nameIndex := 5, descriptorIndex := 6, attributes := #[] }, { accessFlags := 10, nameIndex := 66, descriptorIndex := 61, attributes := #[] }, { accessFlags := 9, nameIndex := 74, descriptorIndex := 75, attributes := #[] }] 49 2 #[] #[])
  fields := #[]
  methods := #[k1m0, k1m1, k1m2]
  instanceTypes := #[]
  staticTypes := #[]
  resolved := Array.replicate 78 none
  statics := none }

def pool2 : Array CpInfo := pool [(1, .class_ 2), (0, u "java/lang/constant/Constable"), (0, .class_ 4), (0, u "java/lang/Object")] 6

/-- java/lang/constant/Constable -/
def k2 : Class := { plain "java/lang/constant/Constable" (some 0) with
  accessFlags := 1537
  interfaces := #[]
  cf := some (fileOf pool2 1 #[] #[] 1537 3 #[] #[])
  fields := #[]
  methods := #[]
  instanceTypes := #[]
  staticTypes := #[]
  resolved := Array.replicate 11 none
  statics := none }

def pool3 : Array CpInfo := pool [(1, .class_ 2), (0, u "java/lang/Comparable"), (0, .class_ 4), (0, u "java/lang/Object")] 7

/-- java/lang/Comparable -/
def k3 : Class := { plain "java/lang/Comparable" (some 0) with
  accessFlags := 1537
  interfaces := #[]
  cf := some (fileOf pool3 1 #[] #[] 1537 3 #[] #[])
  fields := #[]
  methods := #[]
  instanceTypes := #[]
  staticTypes := #[]
  resolved := Array.replicate 12 none
  statics := none }

def pool4 : Array CpInfo := pool [(1, .class_ 2), (0, u "java/io/Serializable"), (0, .class_ 4), (0, u "java/lang/Object")] 2

/-- java/io/Serializable -/
def k4 : Class := { plain "java/io/Serializable" (some 0) with
  accessFlags := 1537
  interfaces := #[]
  cf := some (fileOf pool4 1 #[] #[] 1537 3 #[] #[])
  fields := #[]
  methods := #[]
  instanceTypes := #[]
  staticTypes := #[]
  resolved := Array.replicate 7 none
  statics := none }

def pool5 : Array CpInfo := pool [(2, .class_ 4), (1, u "java/lang/Enum"), (0, u "name"), (0, u "Ljava/lang/String;"), (2, u "ordinal"), (0, u "I"), (1, .class_ 14), (1, u "java/lang/Object"), (4, u "hash"), (86, .class_ 108), (1, u "java/lang/Enum$EnumDesc"), (2, .class_ 112), (0, u "java/lang/constant/Constable"), (0, .class_ 114), (0, u "java/lang/Comparable"), (0, .class_ 116), (0, u "java/io/Serializable")] 87

/-- java/lang/Enum -/
def k5 : Class := { plain "java/lang/Enum" (some 0) with
  accessFlags := 1057
  interfaces := #[2, 3, 4]
  cf := some (fileOf pool5 2 #[.nestMembers #[106]] #[] 1057 12 #[111, 113, 115] #[{ accessFlags := 18, nameIndex := 5, descriptorIndex := 6, attributes := #[] }, { accessFlags := 18, nameIndex := 9, descriptorIndex := 10, attributes := #[] }, { accessFlags := 2, nameIndex := 19, descriptorIndex := 10, attributes := #[] }])
  fields := #[{ name := "name", type := (.object "java/lang/String"), accessFlags := 18, slot := 0, constantValue := 0 }, { name := "ordinal", type := .int, accessFlags := 18, slot := 1, constantValue := 0 }, { name := "hash", type := .int, accessFlags := 2, slot := 2, constantValue := 0 }]
  methods := #[]
  instanceTypes := #[(.object "java/lang/String"), .int, .int]
  staticTypes := #[]
  resolved := Array.replicate 204 none
  statics := none }

def pool6 : Array CpInfo := pool [(1, .class_ 2), (0, u "com/example/hashspace/hashspace/protocol/Opcode"), (2, u "ERROR"), (0, u "Lcom/example/hashspace/hashspace/protocol/Opcode;"), (2, u "STARTUP"), (2, u "READY"), (2, u "AUTHENTICATE"), (2, u "OPTIONS"), (2, u "SUPPORTED"), (2, u "QUERY"), (2, u "RESULT"), (2, u "PREPARE"), (2, u "EXECUTE"), (2, u "REGISTER"), (2, u "EVENT"), (2, u "BATCH"), (2, u "AUTH_CHALLENGE"), (2, u "AUTH_RESPONSE"), (2, u "AUTH_SUCCESS"), (2, u "$VALUES"), (0, u "[Lcom/example/hashspace/hashspace/protocol/Opcode;"), (6, .class_ 64), (1, u "java/lang/Enum"), (6, .fieldref 1 72), (0, .nameAndType 73 74), (0, u "code"), (0, u "I"), (0, .fieldref 1 76), (0, .nameAndType 77 55), (0, u "BY_CODE"), (32, u "()I"), (0, u "of"), (0, u "(I)Lcom/example/hashspace/hashspace/protocol/Opcode;")] 6

def k6c0 : Code := { maxStack := 1, maxLocals := 1, code := prog_42_method_4_code, exceptionTable := #[], attributes := #[] }
def k6m0 : Method := { name := "code", desc := "()I", sig := { parameters := [], returnType := some .int }, accessFlags := 1, code := some k6c0 }
def k6c1 : Code := { maxStack := 2, maxLocals := 1, code := prog_42_method_5_code, exceptionTable := #[], attributes := #[] }
def k6m1 : Method := { name := "of", desc := "(I)Lcom/example/hashspace/hashspace/protocol/Opcode;", sig := { parameters := [.int], returnType := some (.object "com/example/hashspace/hashspace/protocol/Opcode") }, accessFlags := 9, code := some k6c1 }
/-- com/example/hashspace/hashspace/protocol/Opcode -/
def k6 : Class := { plain "com/example/hashspace/hashspace/protocol/Opcode" (some 5) with
  accessFlags := 16433
  interfaces := #[]
  cf := some (fileOf pool6 1 #[] #[{ accessFlags := 1, nameIndex := 73, descriptorIndex := 110, attributes := #[] }, { accessFlags := 9, nameIndex := 111, descriptorIndex := 112, attributes := #[] }] 16433 62 #[] #[{ accessFlags := 16409, nameIndex := 5, descriptorIndex := 6, attributes := #[] }, { accessFlags := 16409, nameIndex := 9, descriptorIndex := 6, attributes := #[] }, { accessFlags := 16409, nameIndex := 12, descriptorIndex := 6, attributes := #[] }, { accessFlags := 16409, nameIndex := 15, descriptorIndex := 6, attributes := #[] }, { accessFlags := 16409, nameIndex := 18, descriptorIndex := 6, attributes := #[] }, { accessFlags := 16409, nameIndex := 21, descriptorIndex := 6, attributes := #[] }, { accessFlags := 16409, nameIndex := 24, descriptorIndex := 6, attributes := #[] }, { accessFlags := 16409, nameIndex := 27, descriptorIndex := 6, attributes := #[] }, { accessFlags := 16409, nameIndex := 30, descriptorIndex := 6, attributes := #[] }, { accessFlags := 16409, nameIndex := 33, descriptorIndex := 6, attributes := #[] }, { accessFlags := 16409, nameIndex := 36, descriptorIndex := 6, attributes := #[] }, { accessFlags := 16409, nameIndex := 39, descriptorIndex := 6, attributes := #[] }, { accessFlags := 16409, nameIndex := 42, descriptorIndex := 6, attributes := #[] }, { accessFlags := 16409, nameIndex := 45, descriptorIndex := 6, attributes := #[] }, { accessFlags := 16409, nameIndex := 48, descriptorIndex := 6, attributes := #[] }, { accessFlags := 16409, nameIndex := 51, descriptorIndex := 6, attributes := #[] }, { accessFlags := 26, nameIndex := 77, descriptorIndex := 55, attributes := #[] }, { accessFlags := 18, nameIndex := 73, descriptorIndex := 74, attributes := #[] }, { accessFlags := 4122, nameIndex := 54, descriptorIndex := 55, attributes := #[] }])
  fields := #[{ name := "ERROR", type := (.object "com/example/hashspace/hashspace/protocol/Opcode"), accessFlags := 16409, slot := 0, constantValue := 0 }, { name := "STARTUP", type := (.object "com/example/hashspace/hashspace/protocol/Opcode"), accessFlags := 16409, slot := 1, constantValue := 0 }, { name := "READY", type := (.object "com/example/hashspace/hashspace/protocol/Opcode"), accessFlags := 16409, slot := 2, constantValue := 0 }, { name := "AUTHENTICATE", type := (.object "com/example/hashspace/hashspace/protocol/Opcode"), accessFlags := 16409, slot := 3, constantValue := 0 }, { name := "OPTIONS", type := (.object "com/example/hashspace/hashspace/protocol/Opcode"), accessFlags := 16409, slot := 4, constantValue := 0 }, { name := "SUPPORTED", type := (.object "com/example/hashspace/hashspace/protocol/Opcode"), accessFlags := 16409, slot := 5, constantValue := 0 }, { name := "QUERY", type := (.object "com/example/hashspace/hashspace/protocol/Opcode"), accessFlags := 16409, slot := 6, constantValue := 0 }, { name := "RESULT", type := (.object "com/example/hashspace/hashspace/protocol/Opcode"), accessFlags := 16409, slot := 7, constantValue := 0 }, { name := "PREPARE", type := (.object "com/example/hashspace/hashspace/protocol/Opcode"), accessFlags := 16409, slot := 8, constantValue := 0 }, { name := "EXECUTE", type := (.object "com/example/hashspace/hashspace/protocol/Opcode"), accessFlags := 16409, slot := 9, constantValue := 0 }, { name := "REGISTER", type := (.object "com/example/hashspace/hashspace/protocol/Opcode"), accessFlags := 16409, slot := 10, constantValue := 0 }, { name := "EVENT", type := (.object "com/example/hashspace/hashspace/protocol/Opcode"), accessFlags := 16409, slot := 11, constantValue := 0 }, { name := "BATCH", type := (.object "com/example/hashspace/hashspace/protocol/Opcode"), accessFlags := 16409, slot := 12, constantValue := 0 }, { name := "AUTH_CHALLENGE", type := (.object "com/example/hashspace/hashspace/protocol/Opcode"), accessFlags := 16409, slot := 13, constantValue := 0 }, { name := "AUTH_RESPONSE", type := (.object "com/example/hashspace/hashspace/protocol/Opcode"), accessFlags := 16409, slot := 14, constantValue := 0 }, { name := "AUTH_SUCCESS", type := (.object "com/example/hashspace/hashspace/protocol/Opcode"), accessFlags := 16409, slot := 15, constantValue := 0 }, { name := "BY_CODE", type := (.array (.object "com/example/hashspace/hashspace/protocol/Opcode")), accessFlags := 26, slot := 16, constantValue := 0 }, { name := "code", type := .int, accessFlags := 18, slot := 3, constantValue := 0 }, { name := "$VALUES", type := (.array (.object "com/example/hashspace/hashspace/protocol/Opcode")), accessFlags := 4122, slot := 17, constantValue := 0 }]
  methods := #[k6m0, k6m1]
  instanceTypes := #[(.object "java/lang/String"), .int, .int, .int]
  staticTypes := #[(.object "com/example/hashspace/hashspace/protocol/Opcode"), (.object "com/example/hashspace/hashspace/protocol/Opcode"), (.object "com/example/hashspace/hashspace/protocol/Opcode"), (.object "com/example/hashspace/hashspace/protocol/Opcode"), (.object "com/example/hashspace/hashspace/protocol/Opcode"), (.object "com/example/hashspace/hashspace/protocol/Opcode"), (.object "com/example/hashspace/hashspace/protocol/Opcode"), (.object "com/example/hashspace/hashspace/protocol/Opcode"), (.object "com/example/hashspace/hashspace/protocol/Opcode"), (.object "com/example/hashspace/hashspace/protocol/Opcode"), (.object "com/example/hashspace/hashspace/protocol/Opcode"), (.object "com/example/hashspace/hashspace/protocol/Opcode"), (.object "com/example/hashspace/hashspace/protocol/Opcode"), (.object "com/example/hashspace/hashspace/protocol/Opcode"), (.object "com/example/hashspace/hashspace/protocol/Opcode"), (.object "com/example/hashspace/hashspace/protocol/Opcode"), (.array (.object "com/example/hashspace/hashspace/protocol/Opcode")), (.array (.object "com/example/hashspace/hashspace/protocol/Opcode"))]
  resolved := Array.replicate 119 none
  statics := some 0 }

def pool7 : Array CpInfo := pool [(1, u "java/lang/Cloneable"), (0, .class_ 1), (0, u "java/lang/Object"), (0, .class_ 3)] 3

/-- java/lang/Cloneable -/
def k7 : Class := { plain "java/lang/Cloneable" (some 0) with
  accessFlags := 1537
  interfaces := #[]
  cf := some (fileOf pool7 2 #[] #[] 1537 4 #[] #[])
  fields := #[]
  methods := #[]
  instanceTypes := #[]
  staticTypes := #[]
  resolved := Array.replicate 8 none
  statics := none }

/-- the primitive byte -/
def k8 : Class := { plain "byte" none with kind := .primitive 'B', accessFlags := 0x411 }
/-- [B -/
def k9 : Class := { plain "[B" (some 0) with kind := .array 8 .byte, interfaces := #[7, 4], accessFlags := 1041 }

/-- the primitive int -/
def k10 : Class := { plain "int" none with kind := .primitive 'I', accessFlags := 0x411 }
/-- [I -/
def k11 : Class := { plain "[I" (some 0) with kind := .array 10 .int, interfaces := #[7, 4], accessFlags := 1041 }

/-- [Lcom/example/hashspace/hashspace/protocol/Opcode; -/
def k12 : Class := { plain "[Lcom/example/hashspace/hashspace/protocol/Opcode;" (some 0) with kind := .array 6 (.object "com/example/hashspace/hashspace/protocol/Opcode"), interfaces := #[7, 4], accessFlags := 1041 }

def heap : Heap := #[{ cls := 6, slots := #[.ref 2, .ref 3, .ref 4, .ref 5, .ref 6, .ref 7, .ref 8, .ref 9, .ref 10, .ref 11, .ref 12, .ref 13, .ref 14, .ref 15, .ref 16, .ref 17, .ref 1, .null], vm := .statics 6 },
  { cls := 12, slots := #[.ref 2, .ref 3, .ref 4, .ref 5, .null, .ref 6, .ref 7, .ref 8, .ref 9, .ref 10, .ref 11, .ref 12, .ref 13, .ref 14, .ref 15, .ref 16, .ref 17], vm := .none },
  { cls := 6, slots := #[.null, .int 0, .int 0, .int 0], vm := .none },
  { cls := 6, slots := #[.null, .int 1, .int 0, .int 1], vm := .none },
  { cls := 6, slots := #[.null, .int 2, .int 0, .int 2], vm := .none },
  { cls := 6, slots := #[.null, .int 3, .int 0, .int 3], vm := .none },
  { cls := 6, slots := #[.null, .int 5, .int 0, .int 5], vm := .none },
  { cls := 6, slots := #[.null, .int 6, .int 0, .int 6], vm := .none },
  { cls := 6, slots := #[.null, .int 7, .int 0, .int 7], vm := .none },
  { cls := 6, slots := #[.null, .int 8, .int 0, .int 8], vm := .none },
  { cls := 6, slots := #[.null, .int 9, .int 0, .int 9], vm := .none },
  { cls := 6, slots := #[.null, .int 10, .int 0, .int 10], vm := .none },
  { cls := 6, slots := #[.null, .int 11, .int 0, .int 11], vm := .none },
  { cls := 6, slots := #[.null, .int 12, .int 0, .int 12], vm := .none },
  { cls := 6, slots := #[.null, .int 13, .int 0, .int 13], vm := .none },
  { cls := 6, slots := #[.null, .int 14, .int 0, .int 14], vm := .none },
  { cls := 6, slots := #[.null, .int 15, .int 0, .int 15], vm := .none },
  { cls := 6, slots := #[.null, .int 16, .int 0, .int 16], vm := .none }]
def classes : Array Class := #[k0, k1, k2, k3, k4, k5, k6, k7, k8, k9, k10, k11, k12]
def interned : List (Array UInt16 × Addr) := []
def slotsUsed : Nat := 99
def theMethod : MethodId := ⟨1, 2⟩
def args0 : Array Value := #[.int 3, .int 1]
def aboutOver (below : List Frame) : State where
  vm := { classes := classes, interned := interned.toArray }
  heap := heap
  slotsUsed := slotsUsed
  threads := #[{ frames := .invoking theMethod args0 :: below }]
def below0 : List Frame := [.native { method := ⟨0, 0⟩, args := #[] }]
def about1 : State := aboutOver below0
def p0 : Program := .bare "" "" ""
def e0 : Env := launch0.env 0 0 0
theorem w_frames : about1.frames = Frame.invoking theMethod args0 :: below0 := rfl
set_option maxRecDepth 65536 in
theorem w_args : argsFit about1.vm theMethod args0 = true := by decide +kernel
set_option maxRecDepth 65536 in
theorem w_heap : heapFits about1 = true := by decide +kernel
set_option maxRecDepth 65536 in
theorem w_runnable : about1.curStatus? = some .runnable := by decide +kernel
set_option maxRecDepth 65536 in
theorem w_alone : about1.alone = true := by decide +kernel
set_option maxRecDepth 65536 in
theorem w_named : about1.methodNamed? x = some theMethod := by decide +kernel
set_option maxRecDepth 65536 in
theorem w_hears : about1.hears theMethod below0 = true := by decide +kernel
set_option maxRecDepth 65536 in
theorem w_ripe : about1.ripe theMethod args0 below0 = true := by decide +kernel
theorem w_running : about1.status = .running := rfl
set_option maxRecDepth 65536 in
theorem w_room : about1.hasRoom e0.platform room_1 = true :=
  launch0.hasRoom_least _ room_1 (by decide +kernel) (by decide +kernel) (by decide +kernel) (by decide +kernel) (by decide +kernel) (by decide +kernel)
theorem allAtoms_all (ts : List Jvm.Cond) (a : Array Jvm.Value) (st : Jvm.State) : (allAtoms ts).before a st = ts.all (fun c => c.before a st) := by
  induction ts with
  | nil => rfl
  | cons c t ih =>
    show (Jvm.Cond.and c (allAtoms t)).before a st = _
    rw [Jvm.Cond.before_and, ih, List.all_cons]
def words1 : List Jvm.Cond := Jvm.Cond.code x code maxLocals ret :: tables_1
/-- a 'code' word, met by the world's own term for the bytes: nothing is compared byte by byte -/
theorem code_word {y : MethodName} {bytes : ByteArray} {mx : Nat} {rt : Option FieldType} {a : Array Value} {s : State} {m : MethodId} {meth : Method} {c : Code} (h1 : s.methodNamed? y = some m) (h2 : s.vm.method? m = some meth) (h3 : meth.code = some c) (h4 : c.code = bytes)
    (h5 : (c.maxLocals == mx && c.exceptionTable.isEmpty && decide (c.maxStack ≤ mostOperands) && decide (meth.sig.returnType = rt) && !meth.locks && decide (parseMethodDescriptor y.desc = some meth.sig)) = true) : (Jvm.Cond.code y bytes mx rt).before a s = true := by
  simp only [Bool.and_eq_true, beq_iff_eq, Bool.not_eq_true', decide_eq_true_eq] at h5
  obtain ⟨⟨⟨⟨⟨g1, g2⟩, g3⟩, g4⟩, g5⟩, g6⟩ := h5
  simp [Cond.before, Cond.holds, Cond.value, h1, h2, h3, h4, g1, g2, g3, g4, g5, g6]
def isCode : Jvm.Cond → Bool
  | .code _ _ _ _ => true
  | _ => false
theorem all_split {L : List Jvm.Cond} {P : Jvm.Cond → Bool} (h1 : L.all (fun c => isCode c || P c) = true) (h2 : ∀ c ∈ L.filter isCode, P c = true) : L.all P = true := by
  refine List.all_eq_true.mpr fun c hc => ?_
  have h := List.all_eq_true.mp h1 c hc
  rcases Bool.eq_false_or_eq_true (isCode c) with hi | hi
  · exact h2 c (List.mem_filter.mpr ⟨hc, hi⟩)
  · simpa [hi] using h
set_option maxRecDepth 65536 in
theorem w_c0 : (Jvm.Cond.code x code maxLocals ret).before args0 about1 = true := code_word (m := ⟨1, 2⟩) (meth := k1m2) (c := k1c2) (by decide +kernel) rfl rfl rfl (by decide +kernel)
set_option maxRecDepth 65536 in
theorem w_c1 : (Jvm.Cond.code ({ cls := "com/example/hashspace/hashspace/protocol/Opcode", name := "of", desc := "(I)Lcom/example/hashspace/hashspace/protocol/Opcode;" } : Jvm.MethodName) prog_42_method_5_code (1 : Nat) (Option.some (Jvm.ClassFile.FieldType.object "com/example/hashspace/hashspace/protocol/Opcode"))).before args0 about1 = true := code_word (m := ⟨6, 1⟩) (meth := k6m1) (c := k6c1) (by decide +kernel) rfl rfl rfl (by decide +kernel)
set_option maxRecDepth 65536 in
theorem w_c2 : (Jvm.Cond.code ({ cls := "com/example/hashspace/hashspace/protocol/OpcodeOfPinLaw", name := "expected", desc := "(I)Lcom/example/hashspace/hashspace/protocol/Opcode;" } : Jvm.MethodName) method_2_code (1 : Nat) (Option.some (Jvm.ClassFile.FieldType.object "com/example/hashspace/hashspace/protocol/Opcode"))).before args0 about1 = true := code_word (m := ⟨1, 1⟩) (meth := k1m1) (c := k1c1) (by decide +kernel) rfl rfl rfl (by decide +kernel)
set_option maxRecDepth 65536 in
theorem w_c3 : (Jvm.Cond.code ({ cls := "com/example/hashspace/hashspace/protocol/Opcode", name := "code", desc := "()I" } : Jvm.MethodName) prog_42_method_4_code (1 : Nat) (Option.some Jvm.ClassFile.FieldType.int)).before args0 about1 = true := code_word (m := ⟨6, 0⟩) (meth := k6m0) (c := k6c0) (by decide +kernel) rfl rfl rfl (by decide +kernel)
def codes1 : List Jvm.Cond := [Jvm.Cond.code x code maxLocals ret, Jvm.Cond.code ({ cls := "com/example/hashspace/hashspace/protocol/Opcode", name := "of", desc := "(I)Lcom/example/hashspace/hashspace/protocol/Opcode;" } : Jvm.MethodName) prog_42_method_5_code (1 : Nat) (Option.some (Jvm.ClassFile.FieldType.object "com/example/hashspace/hashspace/protocol/Opcode")), Jvm.Cond.code ({ cls := "com/example/hashspace/hashspace/protocol/OpcodeOfPinLaw", name := "expected", desc := "(I)Lcom/example/hashspace/hashspace/protocol/Opcode;" } : Jvm.MethodName) method_2_code (1 : Nat) (Option.some (Jvm.ClassFile.FieldType.object "com/example/hashspace/hashspace/protocol/Opcode")), Jvm.Cond.code ({ cls := "com/example/hashspace/hashspace/protocol/Opcode", name := "code", desc := "()I" } : Jvm.MethodName) prog_42_method_4_code (1 : Nat) (Option.some Jvm.ClassFile.FieldType.int)]
set_option maxRecDepth 65536 in
theorem codes_eq : words1.filter isCode = codes1 := rfl
theorem w_codes : ∀ c ∈ words1.filter isCode, c.before args0 about1 = true := by
  rw [codes_eq]
  intro c hc
  simp only [codes1, List.mem_cons, List.not_mem_nil, or_false] at hc
  rcases hc with rfl | rfl | rfl | rfl
  · exact w_c0
  · exact w_c1
  · exact w_c2
  · exact w_c3
set_option maxRecDepth 65536 in
theorem w_t1 : (words1.take 24).all (fun c => isCode c || c.before args0 about1) = true := by decide +kernel
set_option maxRecDepth 65536 in
theorem w_t2 : ((words1.drop 24).take 24).all (fun c => isCode c || c.before args0 about1) = true := by decide +kernel
set_option maxRecDepth 65536 in
theorem w_t3 : ((words1.drop 24).drop 24).all (fun c => isCode c || c.before args0 about1) = true := by decide +kernel
theorem w_tables : (allAtoms (Jvm.Cond.code x code maxLocals ret :: tables_1)).before args0 about1 = true := by
  rw [allAtoms_all]
  show words1.all (fun c => c.before args0 about1) = true
  refine all_split ?_ w_codes
  rw [← List.take_append_drop 24 words1, List.all_append, w_t1, ← List.take_append_drop 24 (words1.drop 24), List.all_append, w_t2, w_t3]
  rfl
set_option maxRecDepth 65536 in
theorem w_case : (Jvm.Cond.and given_1 narrow_1).before args0 about1 = true := by decide +kernel
theorem w_applies : (headSpec (Jvm.Cond.code x code maxLocals ret :: tables_1) room_1).applies x e0.platform about1 = true :=
  (Spec.applies_iff w_frames).mpr ⟨w_running, w_runnable, w_alone, w_named, w_hears, w_ripe, w_room, w_tables⟩
theorem atStart : AtStart classFile x code maxLocals ret World_1 tables_1 room_1 Calls_1 rest_1 Pre_1 launch0 p0 e0 about1 theMethod args0 below0 :=
  ⟨lists_1, trivial, launch0.admits_env _ _ _, launch0.least_env, fairChoices_fair.cas, fairChoices_fair.clock, w_frames, w_args, w_heap, w_applies, trivial, trivial, w_case⟩
end start1
theorem witness_1 : WitnessClaimed_1 := ⟨start1.p0, start1.e0, start1.about1, start1.theMethod, start1.args0, start1.below0, start1.atStart⟩
end Jvm.Pilot.@@N@@
