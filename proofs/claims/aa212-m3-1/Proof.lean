import JvmDerived
import JvmDerived.Pilot.@@N@@Statement
import JvmDerived.Pilot.@@N@@Code
set_option linter.unusedVariables false
set_option linter.unusedSimpArgs false
namespace Jvm.OwnW
open Sem ClassFile Op Lib Jvm.Stand Jvm.Free Jvm.LawKit Jvm.RoadKit
section Walks
variable {p : Program} {l : Launch} {e : Env} {R : Room} {s : State} {m : MethodId} {args : Array Value} {below : List Frame} {meth : Method} {c : Code} {T : State} {locs : List Loc} {cells slots : Nat}
/-- from A on the run comes to an end of which P holds -/
def Run (tb : Tables) (e : Env) (below : List Frame) (P : State → Outcome → Prop) (A : State) : Prop := ∃ s₂ o, Steps tb e below A s₂ ∧ P s₂ o
theorem Run.step {tb : Tables} {P : State → Outcome → Prop} {A B : State} (k : ∀ t, Steps tb e below B t → Steps tb e below A t) (h : Run tb e below P B) : Run tb e below P A := by
  obtain ⟨s₂, o, a, b⟩ := h
  exact ⟨s₂, o, k _ a, b⟩
/-- what a body's contract says at the end -/
def PQ (s : State) (below : List Frame) (rc rs : Nat) (Q : Option Value → Heap → List Loc → Prop) (s₂ : State) (o : Outcome) : Prop := s₂.status = .running ∧ Ended s₂ below o ∧ ∃ v L, o = .returned v ∧ Q v s₂.heap L ∧ FrameEnd s o s₂ L rc rs
theorem fin (X : Stand p l e R s m args below meth c T locs cells slots) {A : State} {Q : Option Value → Heap → List Loc → Prop} {rc rs : Nat} {v : Option Value} {h : Heap} (hl : meth.locks = false) (hv : meth.sig.returnType = none → v = none) (hc : cells ≤ rc) (hs : slots ≤ rs) (eT : T.heap = h) (hQ : Q v h locs)
    (st : ∀ fs, (∀ (f : JFrame) (acts : List Action), f.method = m → f.locked = none → f.entered = [] → (doReturn e (T.setTop f) acts v).1 = T.setFrames fs) → Steps p.tables e below A (T.setFrames fs)) : Run p.tables e below (PQ s below rc rs Q) A := by
  obtain ⟨fs, hr, hrun, hended, hW, hsame⟩ := X.leave (v := v) hv hl
  refine ⟨_, _, st fs hr, hrun, hended, _, _, rfl, ?_, ⟨_, rfl⟩, hW, hsame.mono hc hs⟩
  show Q v T.heap locs
  rw [eT]
  exact hQ
theorem finV (X : Stand p l e R s m args below meth c T locs cells slots) (hx : p.tables.exec = Jvm.exec) (hl : meth.locks = false) {Q : Option Value → Heap → List Loc → Prop} {rc rs pc : Nat} {Ls : Array Slot} {h : Heap} (hret : meth.sig.returnType = none) (hd : decode c.code pc = .ok (.return_, 1)) (hc : cells ≤ rc) (hs : slots ≤ rs) (eT : T.heap = h) (hQ : Q none h locs) : Run p.tables e below (PQ s below rc rs Q) (T.setTop (mkF m pc Ls [])) :=
  fin X hl (fun _ => rfl) hc hs eT hQ fun fs hr => X.returnOut hx hret hd hr
theorem finI (X : Stand p l e R s m args below meth c T locs cells slots) (hx : p.tables.exec = Jvm.exec) (hl : meth.locks = false) {Q : Option Value → Heap → List Loc → Prop} {rc rs pc : Nat} {Ls : Array Slot} {z : Int32} {rest : List Value} {h : Heap} (hret : meth.sig.returnType = some .int) (hd : decode c.code pc = .ok (.ireturn, 1)) (hc : cells ≤ rc) (hs : slots ≤ rs) (eT : T.heap = h) (hQ : Q (some (.int z)) h locs) : Run p.tables e below (PQ s below rc rs Q) (T.setTop (mkF m pc Ls (.int z :: rest))) :=
  fin X hl (fun q => by rw [hret] at q; cases q) hc hs eT hQ fun fs hr => retOut X hx hret rfl (Or.inl ⟨rfl, Or.inl rfl, _, rfl⟩) hd hr
theorem finZ (X : Stand p l e R s m args below meth c T locs cells slots) (hx : p.tables.exec = Jvm.exec) (hl : meth.locks = false) {Q : Option Value → Heap → List Loc → Prop} {rc rs pc : Nat} {Ls : Array Slot} {z : Int32} {rest : List Value} {h : Heap} (hret : meth.sig.returnType = some .boolean) (hd : decode c.code pc = .ok (.ireturn, 1)) (hz : z = 0 ∨ z = 1) (hc : cells ≤ rc) (hs : slots ≤ rs) (eT : T.heap = h) (hQ : Q (some (.int z)) h locs) : Run p.tables e below (PQ s below rc rs Q) (T.setTop (mkF m pc Ls (.int z :: rest))) :=
  fin X hl (fun q => by rw [hret] at q; cases q) hc hs eT hQ fun fs hr => retOut X hx hret (by rcases hz with rfl | rfl <;> rfl) (Or.inl ⟨rfl, Or.inr (Or.inl rfl), _, rfl⟩) hd hr
theorem finB (X : Stand p l e R s m args below meth c T locs cells slots) (hx : p.tables.exec = Jvm.exec) (hl : meth.locks = false) {Q : Option Value → Heap → List Loc → Prop} {rc rs pc : Nat} {Ls : Array Slot} {z : Int32} {rest : List Value} {h : Heap} (hret : meth.sig.returnType = some .byte) (hd : decode c.code pc = .ok (.ireturn, 1)) (hz : narrow .byte (.int z) = .int z) (hc : cells ≤ rc) (hs : slots ≤ rs) (eT : T.heap = h) (hQ : Q (some (.int z)) h locs) : Run p.tables e below (PQ s below rc rs Q) (T.setTop (mkF m pc Ls (.int z :: rest))) :=
  fin X hl (fun q => by rw [hret] at q; cases q) hc hs eT hQ fun fs hr => retOut X hx hret hz (Or.inl ⟨rfl, Or.inr (Or.inr (Or.inl rfl)), _, rfl⟩) hd hr
theorem finJ (X : Stand p l e R s m args below meth c T locs cells slots) (hx : p.tables.exec = Jvm.exec) (hl : meth.locks = false) {Q : Option Value → Heap → List Loc → Prop} {rc rs pc : Nat} {Ls : Array Slot} {z : Int64} {rest : List Value} {h : Heap} (hret : meth.sig.returnType = some .long) (hd : decode c.code pc = .ok (.lreturn, 1)) (hc : cells ≤ rc) (hs : slots ≤ rs) (eT : T.heap = h) (hQ : Q (some (.long z)) h locs) : Run p.tables e below (PQ s below rc rs Q) (T.setTop (mkF m pc Ls (.long z :: rest))) :=
  fin X hl (fun q => by rw [hret] at q; cases q) hc hs eT hQ fun fs hr => retOut X hx hret rfl (Or.inr (Or.inl ⟨rfl, rfl, _, rfl⟩)) hd hr
theorem finA (X : Stand p l e R s m args below meth c T locs cells slots) (hx : p.tables.exec = Jvm.exec) (hl : meth.locks = false) {Q : Option Value → Heap → List Loc → Prop} {rc rs pc : Nat} {Ls : Array Slot} {w : Value} {t : FieldType} {rest : List Value} {h : Heap} (hret : meth.sig.returnType = some t) (hd : decode c.code pc = .ok (.areturn, 1)) (ht : t.isReference = true) (hw : w.isRef = true) (hc : cells ≤ rc) (hs : slots ≤ rs) (eT : T.heap = h) (hQ : Q (some w) h locs) : Run p.tables e below (PQ s below rc rs Q) (T.setTop (mkF m pc Ls (w :: rest))) :=
  fin X hl (fun q => by rw [hret] at q; cases q) hc hs eT hQ fun fs hr => retOut X hx hret (by cases t <;> first | rfl | (cases w <;> first | rfl | cases ht)) (Or.inr (Or.inr (Or.inr (Or.inr ⟨rfl, ht, hw⟩)))) hd hr
/-- the same for a body that may load String constants -/
def PW (s : State) (below : List Frame) (rc rs : Nat) (Q : Option Value → Heap → List Loc → Prop) (s₂ : State) (o : Outcome) : Prop := s₂.status = .running ∧ Ended s₂ below o ∧ ∃ v L, o = .returned v ∧ Q v s₂.heap L ∧ ReturnedEndW s o s₂ L rc rs
theorem finW {vm : Vm} {n : Nat} (X : Stand p l e R (s.setVm vm) m args below meth c T locs cells slots) {A : State} {Q : Option Value → Heap → List Loc → Prop} {rc rs : Nat} {v : Option Value} {h : Heap} (hS : s.Since vm n) (hk : n ≤ h.size) (hl : meth.locks = false) (hv : meth.sig.returnType = none → v = none) (hc : cells ≤ rc) (hs : slots ≤ rs) (eT : T.heap = h) (hQ : Q v h locs)
    (st : ∀ fs, (∀ (f : JFrame) (acts : List Action), f.method = m → f.locked = none → f.entered = [] → (doReturn e (T.setTop f) acts v).1 = T.setFrames fs) → Steps p.tables e below A (T.setFrames fs)) : Run p.tables e below (PW s below rc rs Q) A := by
  obtain ⟨fs, hr, hrun, hended, hE⟩ := X.leaveW hS (by rw [eT]; exact hk) (v := v) hv hl
  refine ⟨_, _, st fs hr, hrun, hended, _, _, rfl, ?_, hE.1, hE.2.1, hE.2.2.1, hE.2.2.2.mono hc hs⟩
  show Q v T.heap locs
  rw [eT]
  exact hQ
theorem finVW {vm : Vm} {n : Nat} (X : Stand p l e R (s.setVm vm) m args below meth c T locs cells slots) (hx : p.tables.exec = Jvm.exec) {h : Heap} (hS : s.Since vm n) (hk : n ≤ h.size) (hl : meth.locks = false) {Q : Option Value → Heap → List Loc → Prop} {rc rs pc : Nat} {Ls : Array Slot} (hret : meth.sig.returnType = none) (hd : decode c.code pc = .ok (.return_, 1)) (hc : cells ≤ rc) (hs : slots ≤ rs) (eT : T.heap = h) (hQ : Q none h locs) : Run p.tables e below (PW s below rc rs Q) (T.setTop (mkF m pc Ls [])) :=
  finW X hS hk hl (fun _ => rfl) hc hs eT hQ fun fs hr => X.returnOut hx hret hd hr
theorem finIW {vm : Vm} {n : Nat} (X : Stand p l e R (s.setVm vm) m args below meth c T locs cells slots) (hx : p.tables.exec = Jvm.exec) {h : Heap} (hS : s.Since vm n) (hk : n ≤ h.size) (hl : meth.locks = false) {Q : Option Value → Heap → List Loc → Prop} {rc rs pc : Nat} {Ls : Array Slot} {z : Int32} {rest : List Value} (hret : meth.sig.returnType = some .int) (hd : decode c.code pc = .ok (.ireturn, 1)) (hc : cells ≤ rc) (hs : slots ≤ rs) (eT : T.heap = h) (hQ : Q (some (.int z)) h locs) : Run p.tables e below (PW s below rc rs Q) (T.setTop (mkF m pc Ls (.int z :: rest))) :=
  finW X hS hk hl (fun q => by rw [hret] at q; cases q) hc hs eT hQ fun fs hr => retOut X hx hret rfl (Or.inl ⟨rfl, Or.inl rfl, _, rfl⟩) hd hr
theorem finZW {vm : Vm} {n : Nat} (X : Stand p l e R (s.setVm vm) m args below meth c T locs cells slots) (hx : p.tables.exec = Jvm.exec) {h : Heap} (hS : s.Since vm n) (hk : n ≤ h.size) (hl : meth.locks = false) {Q : Option Value → Heap → List Loc → Prop} {rc rs pc : Nat} {Ls : Array Slot} {z : Int32} {rest : List Value} (hret : meth.sig.returnType = some .boolean) (hd : decode c.code pc = .ok (.ireturn, 1)) (hz : z = 0 ∨ z = 1) (hc : cells ≤ rc) (hs : slots ≤ rs) (eT : T.heap = h) (hQ : Q (some (.int z)) h locs) : Run p.tables e below (PW s below rc rs Q) (T.setTop (mkF m pc Ls (.int z :: rest))) :=
  finW X hS hk hl (fun q => by rw [hret] at q; cases q) hc hs eT hQ fun fs hr => retOut X hx hret (by rcases hz with rfl | rfl <;> rfl) (Or.inl ⟨rfl, Or.inr (Or.inl rfl), _, rfl⟩) hd hr
theorem finBW {vm : Vm} {n : Nat} (X : Stand p l e R (s.setVm vm) m args below meth c T locs cells slots) (hx : p.tables.exec = Jvm.exec) {h : Heap} (hS : s.Since vm n) (hk : n ≤ h.size) (hl : meth.locks = false) {Q : Option Value → Heap → List Loc → Prop} {rc rs pc : Nat} {Ls : Array Slot} {z : Int32} {rest : List Value} (hret : meth.sig.returnType = some .byte) (hd : decode c.code pc = .ok (.ireturn, 1)) (hz : narrow .byte (.int z) = .int z) (hc : cells ≤ rc) (hs : slots ≤ rs) (eT : T.heap = h) (hQ : Q (some (.int z)) h locs) : Run p.tables e below (PW s below rc rs Q) (T.setTop (mkF m pc Ls (.int z :: rest))) :=
  finW X hS hk hl (fun q => by rw [hret] at q; cases q) hc hs eT hQ fun fs hr => retOut X hx hret hz (Or.inl ⟨rfl, Or.inr (Or.inr (Or.inl rfl)), _, rfl⟩) hd hr
theorem finJW {vm : Vm} {n : Nat} (X : Stand p l e R (s.setVm vm) m args below meth c T locs cells slots) (hx : p.tables.exec = Jvm.exec) {h : Heap} (hS : s.Since vm n) (hk : n ≤ h.size) (hl : meth.locks = false) {Q : Option Value → Heap → List Loc → Prop} {rc rs pc : Nat} {Ls : Array Slot} {z : Int64} {rest : List Value} (hret : meth.sig.returnType = some .long) (hd : decode c.code pc = .ok (.lreturn, 1)) (hc : cells ≤ rc) (hs : slots ≤ rs) (eT : T.heap = h) (hQ : Q (some (.long z)) h locs) : Run p.tables e below (PW s below rc rs Q) (T.setTop (mkF m pc Ls (.long z :: rest))) :=
  finW X hS hk hl (fun q => by rw [hret] at q; cases q) hc hs eT hQ fun fs hr => retOut X hx hret rfl (Or.inr (Or.inl ⟨rfl, rfl, _, rfl⟩)) hd hr
theorem finAW {vm : Vm} {n : Nat} (X : Stand p l e R (s.setVm vm) m args below meth c T locs cells slots) (hx : p.tables.exec = Jvm.exec) {h : Heap} (hS : s.Since vm n) (hk : n ≤ h.size) (hl : meth.locks = false) {Q : Option Value → Heap → List Loc → Prop} {rc rs pc : Nat} {Ls : Array Slot} {w : Value} {t : FieldType} {rest : List Value} (hret : meth.sig.returnType = some t) (hd : decode c.code pc = .ok (.areturn, 1)) (ht : t.isReference = true) (hw : w.isRef = true) (hc : cells ≤ rc) (hs : slots ≤ rs) (eT : T.heap = h) (hQ : Q (some w) h locs) : Run p.tables e below (PW s below rc rs Q) (T.setTop (mkF m pc Ls (w :: rest))) :=
  finW X hS hk hl (fun q => by rw [hret] at q; cases q) hc hs eT hQ fun fs hr => retOut X hx hret (by cases t <;> first | rfl | (cases w <;> first | rfl | cases ht)) (Or.inr (Or.inr (Or.inr (Or.inr ⟨rfl, ht, hw⟩)))) hd hr
theorem own_lrem {g : JFrame} {target : State} (X : Stand p l e R s m args below meth c T locs cells slots) (hx : p.tables.exec = Jvm.exec) (hg : g.method = m) {x y : Int64} {rest : List Value} (hd : decode c.code g.pc = .ok (.lrem, 1)) (hs : g.stack = .long y :: .long x :: rest) (hy : y ≠ 0)
    (hr : Steps p.tables e below (T.setTop { g with pc := g.pc + 1, stack := .long (x % y) :: rest }) target) : Steps p.tables e below (T.setTop g) target :=
  XS.lrem X.here hx hg hd hs hy (by rw [lrem_mod]; exact hr)
end Walks
end Jvm.OwnW
namespace Jvm.Pilot.@@N@@
open Jvm Jvm.ClassFile Sem Op Lib Jvm.Free Jvm.Stand Jvm.LawKit Jvm.RoadKit Jvm.OwnW Bundle Jvm.Pilot.@@N@@.Jvm.D
theorem own_eq {args : Array Value} {first s : State} {o : Option Outcome} {idx : List Nat} {a b : Term} (h : (Cond.eq a b).value args first o s idx = some true) : ∃ x, a.eval args first o idx s = some x ∧ b.eval args first o idx s = some x := by
  obtain ⟨x, y, hx, hy, k1, k2⟩ := cmp_v (Or.inl h)
  refine ⟨x, hx, ?_⟩
  rw [hy]
  simp only [Cond.value, hx, hy] at h
  cases x <;> cases y <;> simp at h <;> simp [h]
theorem own_eqr {args : Array Value} {first s : State} {o : Option Outcome} {idx : List Nat} {a b : Term} {v : Value} (h : (Cond.eq a b).value args first o s idx = some true) (hb : b.eval args first o idx s = some v) : a.eval args first o idx s = some v := by
  obtain ⟨x, h1, h2⟩ := own_eq h
  rw [h1, ← h2, hb]
theorem own_eqi {args : Array Value} {first s : State} {o : Option Outcome} {idx : List Nat} {a : Term} {n : Int32} (h : (Cond.eq a (Term.int n)).value args first o s idx = some true) : a.eval args first o idx s = some (.int n) := own_eqr h (Term.int_eval _)
theorem own_len {args : Array Value} {s : State} {t : Term} {b : Addr} {cl : Cell} {ty : FieldType} {n : Int32} (A : Arr s s.heap b cl ty) (ev : t.eval args s none [] s = some (.ref b)) (h : (Term.length t).eval args s none [] s = some (.int n)) : cl.slots.size < 2 ^ 31 ∧ cl.slots.size.toInt32 = n := by
  have ha := Arr.fin (Vm.Alike.refl _) A
  by_cases q : cl.slots.size < 2 ^ 31
  · have e := len_f ev ha q
    rw [h] at e
    cases e
    exact ⟨q, rfl⟩
  · simp [Term.eval, ev, ha, q] at h
def Bv (Z : State) (h : Heap) (a : Addr) (n : Int32) (g : Nat → Int32) : Prop := ∃ c : Cell, Arr Z h a c .byte ∧ c.slots.size = n.toNatClampNeg ∧ ¬ n < 0 ∧ ∀ j, j < c.slots.size → c.slots[j]? = some (.int (g j))
theorem Bv.lt {Z : State} {h : Heap} {a : Addr} {n : Int32} {g : Nat → Int32} (F : Bv Z h a n g) : a < h.size := by obtain ⟨c, A, -⟩ := F; exact A.lt
theorem Bv.ext {Z : State} {h h' : Heap} {a : Addr} {n : Int32} {g : Nat → Int32} (F : Bv Z h a n g) (E : Ext h h') : Bv Z h' a n g := by obtain ⟨c, A, r⟩ := F; exact ⟨c, A.ext E, r⟩
theorem Bv.other {Z : State} {h h' : Heap} {a b : Addr} {n : Int32} {g : Nat → Int32} {sl : Nat} {v : Value} (F : Bv Z h b n g) (W : Wr h h' a sl v) (q : b ≠ a) : Bv Z h' b n g := by obtain ⟨c, A, r⟩ := F; exact ⟨c, A.other W q, r⟩
theorem Bv.keep {Z : State} {h h' : Heap} {a : Addr} {n : Int32} {g : Nat → Int32} {ws : List Addr} (F : Bv Z h a n g) (K : Keep h h' ws) (q : a ∉ ws) : Bv Z h' a n g := by obtain ⟨c, A, r⟩ := F; exact ⟨c, ⟨K.2.1 a c A.1 q, A.2⟩, r⟩
theorem Bv.new {Z : State} {h : Heap} {a : Addr} {k : ClassId} {n : Int32} (F : Arv Z h a k .byte n [] (.int (0 : Int32))) : Bv Z h a n (fun _ => 0) := by
  obtain ⟨c, A, -, S, M, H, -⟩ := F
  exact ⟨c, A, S, M, fun j hj => H j hj⟩
def own_up (g : Nat → Int32) (i : Nat) (x : Int32) (j : Nat) : Int32 := if j = i then x else g j
theorem Bv.set {Z : State} {h h' : Heap} {a : Addr} {n j : Int32} {g : Nat → Int32} {c : Cell} {x : Int32} (A : Arr Z h a c .byte) (S : c.slots.size = n.toNatClampNeg) (M : ¬ n < 0) (H : ∀ j, j < c.slots.size → c.slots[j]? = some (.int (g j))) (hx : nar .byte x = x) (W : Wr h h' a j.toNatClampNeg (.int (nar .byte x))) : Bv Z h' a n (own_up g j.toNatClampNeg x) := by
  rw [hx] at W
  refine ⟨_, A.same W, by rw [sz_set]; exact S, M, fun i hi => ?_⟩
  rw [sz_set] at hi
  show (c.slots.setIfInBounds j.toNatClampNeg (.int x))[i]? = _
  rw [Array.getElem?_setIfInBounds]
  unfold own_up
  by_cases e : j.toNatClampNeg = i
  · rw [if_pos e, if_pos (e ▸ hi), if_pos e.symm]
  · rw [if_neg e, if_neg (fun q => e q.symm)]
    exact H i hi
theorem Bv.out {Z : State} {h : Heap} {a : Addr} {n j : Int32} {g : Nat → Int32} {x : Int32} (F : Bv Z h a n g) (hj : ¬ j < n) (h0 : ¬ j < 0) : Bv Z h a n (own_up g j.toNatClampNeg x) := by
  obtain ⟨c, A, S, M, H⟩ := F
  refine ⟨c, A, S, M, fun i hi => ?_⟩
  have e1 := nat_of M
  have e2 := nat_of h0
  have q : ¬ j.toInt < n.toInt := fun q => hj (Int32.lt_iff_toInt_lt.mpr q)
  unfold own_up
  rw [if_neg (by omega)]
  exact H i hi
theorem own_byte (x : Int32) : nar .byte (x.toInt8.toInt32) = x.toInt8.toInt32 := by
  show x.toInt8.toInt32.toInt8.toInt32 = x.toInt8.toInt32
  rw [Int8.toInt8_toInt32]
def own_expect (k i : Int32) : Int32 := if k = (0 : Int32) then (if i = (0 : Int32) then ((66 : Int32)) else (if i = (1 : Int32) then ((90 : Int32)) else (if i = (2 : Int32) then ((104 : Int32)) else ((0 : Int32))))) else (if k = (1 : Int32) then (if i = (0 : Int32) then ((253 : Int32)) else (if i = (1 : Int32) then ((55 : Int32)) else (if i = (2 : Int32) then ((122 : Int32)) else (if i = (3 : Int32) then ((88 : Int32)) else (if i = (4 : Int32) then ((90 : Int32)) else ((0 : Int32))))))) else (if k = (2 : Int32) then (if i = (0 : Int32) then ((40 : Int32)) else (if i = (1 : Int32) then ((181 : Int32)) else (if i = (2 : Int32) then ((47 : Int32)) else (if i = (3 : Int32) then ((253 : Int32)) else ((0 : Int32)))))) else (if k = (3 : Int32) then (if i = (0 : Int32) then ((80 : Int32)) else (if i = (1 : Int32) then ((75 : Int32)) else (if i = (2 : Int32) then ((3 : Int32)) else (if i = (3 : Int32) then ((4 : Int32)) else ((0 : Int32)))))) else (if i = (0 : Int32) then ((117 : Int32)) else (if i = (1 : Int32) then ((115 : Int32)) else (if i = (2 : Int32) then ((116 : Int32)) else (if i = (3 : Int32) then ((97 : Int32)) else (if i = (4 : Int32) then ((114 : Int32)) else ((0 : Int32))))))))))
def own_pick (k i s : Int32) (d : Int64) : Int32 := if (((s.toUInt32 >>> (i &&& 31).toUInt32).toInt32) &&& (1 : Int32)) = (0 : Int32) then (((d.toUInt64 >>> (((8 : Int32) * i) &&& 0x3f).toInt64.toUInt64).toInt64).toInt32.toInt8.toInt32) else ((own_expect k i).toInt8.toInt32)
theorem own_pickb (k i s : Int32) (d : Int64) : nar .byte (own_pick k i s d) = own_pick k i s d := by
  unfold own_pick
  split <;> exact own_byte _
theorem own_six (x : Int32) : (x &&& (2147483647 : Int32)) % (6 : Int32) = 0 ∨ (x &&& (2147483647 : Int32)) % (6 : Int32) = 1 ∨ (x &&& (2147483647 : Int32)) % (6 : Int32) = 2 ∨ (x &&& (2147483647 : Int32)) % (6 : Int32) = 3 ∨ (x &&& (2147483647 : Int32)) % (6 : Int32) = 4 ∨ (x &&& (2147483647 : Int32)) % (6 : Int32) = 5 := by
  have h := c_and x 2147483647 (by decide)
  have r := (c_irem (x &&& 2147483647) 6 6 (by decide)).1 h.1
  have q : ((x &&& (2147483647 : Int32)) % (6 : Int32)).toInt = 0 ∨ ((x &&& (2147483647 : Int32)) % (6 : Int32)).toInt = 1 ∨ ((x &&& (2147483647 : Int32)) % (6 : Int32)).toInt = 2 ∨ ((x &&& (2147483647 : Int32)) % (6 : Int32)).toInt = 3 ∨ ((x &&& (2147483647 : Int32)) % (6 : Int32)).toInt = 4 ∨ ((x &&& (2147483647 : Int32)) % (6 : Int32)).toInt = 5 := by omega
  rcases q with q | q | q | q | q | q
  · exact Or.inl (Int32.toInt_inj.mp q)
  · exact Or.inr (Or.inl (Int32.toInt_inj.mp q))
  · exact Or.inr (Or.inr (Or.inl (Int32.toInt_inj.mp q)))
  · exact Or.inr (Or.inr (Or.inr (Or.inl (Int32.toInt_inj.mp q))))
  · exact Or.inr (Or.inr (Or.inr (Or.inr (Or.inl (Int32.toInt_inj.mp q)))))
  · exact Or.inr (Or.inr (Or.inr (Or.inr (Or.inr (Int32.toInt_inj.mp q)))))
theorem own_n0 (x : Int32) : ¬ ((0 : Int32) + (x &&& (7 : Int32))) < 0 ∧ ((0 : Int32) + (x &&& (7 : Int32))).toNatClampNeg ≤ 7 := by
  have h := c_and x 7 (by decide)
  have e : (7 : Int32).toInt = 7 := by decide
  rw [Int32.zero_add]
  refine ⟨fun q => ?_, ?_⟩
  · have := Int32.lt_iff_toInt_lt.mp q
    have e0 : (0 : Int32).toInt = 0 := by decide
    omega
  · show (x &&& (7 : Int32)).toInt.toNat ≤ 7
    omega
theorem own_n257 (x : Int32) : ¬ ((257 : Int32) + (x &&& (7 : Int32))) < 0 ∧ ((257 : Int32) + (x &&& (7 : Int32))).toNatClampNeg ≤ 264 := by
  have h := c_and x 7 (by decide)
  have a := c_iadd 257 (x &&& 7)
  have e : (7 : Int32).toInt = 7 := by decide
  have e1 : (257 : Int32).toInt = 257 := by decide
  have r := rng32 (257 + (x &&& 7))
  rw [e1] at a
  refine ⟨fun q => ?_, ?_⟩
  · have := Int32.lt_iff_toInt_lt.mp q
    have e0 : (0 : Int32).toInt = 0 := by decide
    omega
  · show ((257 : Int32) + (x &&& (7 : Int32))).toInt.toNat ≤ 264
    omega
theorem own_in {j z n : Int32} (h : ¬ n < z) (q : j < z) : j < n := by
  have a := Int32.lt_iff_toInt_lt.mp q
  have b : ¬ n.toInt < z.toInt := fun t => h (Int32.lt_iff_toInt_lt.mpr t)
  exact Int32.lt_iff_toInt_lt.mpr (by omega)
theorem pn_cleave_io_PackedFormatHoldsMagicPinLaw : plainName "cleave/io/PackedFormatHoldsMagicPinLaw" = true := by first | (simp [plainName, overriddenIn]; done) | decide +kernel
theorem d4_0 : decode method_2_code 0 = .ok (.iload_n 0, 1) := by decide +kernel
theorem d4_1 : decode method_2_code 1 = .ok (.ifCond .ne 28, 3) := by decide +kernel
theorem d4_4 : decode method_2_code 4 = .ok (.iload_n 1, 1) := by decide +kernel
theorem d4_5 : decode method_2_code 5 = .ok (.ifCond .ne 6, 3) := by decide +kernel
theorem d4_8 : decode method_2_code 8 = .ok (.bipush 66, 2) := by decide +kernel
theorem d4_10 : decode method_2_code 10 = .ok (.ireturn, 1) := by decide +kernel
theorem d4_11 : decode method_2_code 11 = .ok (.iload_n 1, 1) := by decide +kernel
theorem d4_12 : decode method_2_code 12 = .ok (.iconst 1, 1) := by decide +kernel
theorem d4_13 : decode method_2_code 13 = .ok (.if_icmp .ne 6, 3) := by decide +kernel
theorem d4_16 : decode method_2_code 16 = .ok (.bipush 90, 2) := by decide +kernel
theorem d4_18 : decode method_2_code 18 = .ok (.ireturn, 1) := by decide +kernel
theorem d4_19 : decode method_2_code 19 = .ok (.iload_n 1, 1) := by decide +kernel
theorem d4_20 : decode method_2_code 20 = .ok (.iconst 2, 1) := by decide +kernel
theorem d4_21 : decode method_2_code 21 = .ok (.if_icmp .ne 6, 3) := by decide +kernel
theorem d4_24 : decode method_2_code 24 = .ok (.bipush 104, 2) := by decide +kernel
theorem d4_26 : decode method_2_code 26 = .ok (.ireturn, 1) := by decide +kernel
theorem d4_27 : decode method_2_code 27 = .ok (.iconst 0, 1) := by decide +kernel
theorem d4_28 : decode method_2_code 28 = .ok (.ireturn, 1) := by decide +kernel
theorem d4_29 : decode method_2_code 29 = .ok (.iload_n 0, 1) := by decide +kernel
theorem d4_30 : decode method_2_code 30 = .ok (.iconst 1, 1) := by decide +kernel
theorem d4_31 : decode method_2_code 31 = .ok (.if_icmp .ne 45, 3) := by decide +kernel
theorem d4_34 : decode method_2_code 34 = .ok (.iload_n 1, 1) := by decide +kernel
theorem d4_35 : decode method_2_code 35 = .ok (.ifCond .ne 7, 3) := by decide +kernel
theorem d4_38 : decode method_2_code 38 = .ok (.sipush 253, 3) := by decide +kernel
theorem d4_41 : decode method_2_code 41 = .ok (.ireturn, 1) := by decide +kernel
theorem d4_42 : decode method_2_code 42 = .ok (.iload_n 1, 1) := by decide +kernel
theorem d4_43 : decode method_2_code 43 = .ok (.iconst 1, 1) := by decide +kernel
theorem d4_44 : decode method_2_code 44 = .ok (.if_icmp .ne 6, 3) := by decide +kernel
theorem d4_47 : decode method_2_code 47 = .ok (.bipush 55, 2) := by decide +kernel
theorem d4_49 : decode method_2_code 49 = .ok (.ireturn, 1) := by decide +kernel
theorem d4_50 : decode method_2_code 50 = .ok (.iload_n 1, 1) := by decide +kernel
theorem d4_51 : decode method_2_code 51 = .ok (.iconst 2, 1) := by decide +kernel
theorem d4_52 : decode method_2_code 52 = .ok (.if_icmp .ne 6, 3) := by decide +kernel
theorem d4_55 : decode method_2_code 55 = .ok (.bipush 122, 2) := by decide +kernel
theorem d4_57 : decode method_2_code 57 = .ok (.ireturn, 1) := by decide +kernel
theorem d4_58 : decode method_2_code 58 = .ok (.iload_n 1, 1) := by decide +kernel
theorem d4_59 : decode method_2_code 59 = .ok (.iconst 3, 1) := by decide +kernel
theorem d4_60 : decode method_2_code 60 = .ok (.if_icmp .ne 6, 3) := by decide +kernel
theorem d4_63 : decode method_2_code 63 = .ok (.bipush 88, 2) := by decide +kernel
theorem d4_65 : decode method_2_code 65 = .ok (.ireturn, 1) := by decide +kernel
theorem d4_66 : decode method_2_code 66 = .ok (.iload_n 1, 1) := by decide +kernel
theorem d4_67 : decode method_2_code 67 = .ok (.iconst 4, 1) := by decide +kernel
theorem d4_68 : decode method_2_code 68 = .ok (.if_icmp .ne 6, 3) := by decide +kernel
theorem d4_71 : decode method_2_code 71 = .ok (.bipush 90, 2) := by decide +kernel
theorem d4_73 : decode method_2_code 73 = .ok (.ireturn, 1) := by decide +kernel
theorem d4_74 : decode method_2_code 74 = .ok (.iconst 0, 1) := by decide +kernel
theorem d4_75 : decode method_2_code 75 = .ok (.ireturn, 1) := by decide +kernel
theorem d4_76 : decode method_2_code 76 = .ok (.iload_n 0, 1) := by decide +kernel
theorem d4_77 : decode method_2_code 77 = .ok (.iconst 2, 1) := by decide +kernel
theorem d4_78 : decode method_2_code 78 = .ok (.if_icmp .ne 38, 3) := by decide +kernel
theorem d4_81 : decode method_2_code 81 = .ok (.iload_n 1, 1) := by decide +kernel
theorem d4_82 : decode method_2_code 82 = .ok (.ifCond .ne 6, 3) := by decide +kernel
theorem d4_85 : decode method_2_code 85 = .ok (.bipush 40, 2) := by decide +kernel
theorem d4_87 : decode method_2_code 87 = .ok (.ireturn, 1) := by decide +kernel
theorem d4_88 : decode method_2_code 88 = .ok (.iload_n 1, 1) := by decide +kernel
theorem d4_89 : decode method_2_code 89 = .ok (.iconst 1, 1) := by decide +kernel
theorem d4_90 : decode method_2_code 90 = .ok (.if_icmp .ne 7, 3) := by decide +kernel
theorem d4_93 : decode method_2_code 93 = .ok (.sipush 181, 3) := by decide +kernel
theorem d4_96 : decode method_2_code 96 = .ok (.ireturn, 1) := by decide +kernel
theorem d4_97 : decode method_2_code 97 = .ok (.iload_n 1, 1) := by decide +kernel
theorem d4_98 : decode method_2_code 98 = .ok (.iconst 2, 1) := by decide +kernel
theorem d4_99 : decode method_2_code 99 = .ok (.if_icmp .ne 6, 3) := by decide +kernel
theorem d4_102 : decode method_2_code 102 = .ok (.bipush 47, 2) := by decide +kernel
theorem d4_104 : decode method_2_code 104 = .ok (.ireturn, 1) := by decide +kernel
theorem d4_105 : decode method_2_code 105 = .ok (.iload_n 1, 1) := by decide +kernel
theorem d4_106 : decode method_2_code 106 = .ok (.iconst 3, 1) := by decide +kernel
theorem d4_107 : decode method_2_code 107 = .ok (.if_icmp .ne 7, 3) := by decide +kernel
theorem d4_110 : decode method_2_code 110 = .ok (.sipush 253, 3) := by decide +kernel
theorem d4_113 : decode method_2_code 113 = .ok (.ireturn, 1) := by decide +kernel
theorem d4_114 : decode method_2_code 114 = .ok (.iconst 0, 1) := by decide +kernel
theorem d4_115 : decode method_2_code 115 = .ok (.ireturn, 1) := by decide +kernel
theorem d4_116 : decode method_2_code 116 = .ok (.iload_n 0, 1) := by decide +kernel
theorem d4_117 : decode method_2_code 117 = .ok (.iconst 3, 1) := by decide +kernel
theorem d4_118 : decode method_2_code 118 = .ok (.if_icmp .ne 34, 3) := by decide +kernel
theorem d4_121 : decode method_2_code 121 = .ok (.iload_n 1, 1) := by decide +kernel
theorem d4_122 : decode method_2_code 122 = .ok (.ifCond .ne 6, 3) := by decide +kernel
theorem d4_125 : decode method_2_code 125 = .ok (.bipush 80, 2) := by decide +kernel
theorem d4_127 : decode method_2_code 127 = .ok (.ireturn, 1) := by decide +kernel
theorem d4_128 : decode method_2_code 128 = .ok (.iload_n 1, 1) := by decide +kernel
theorem d4_129 : decode method_2_code 129 = .ok (.iconst 1, 1) := by decide +kernel
theorem d4_130 : decode method_2_code 130 = .ok (.if_icmp .ne 6, 3) := by decide +kernel
theorem d4_133 : decode method_2_code 133 = .ok (.bipush 75, 2) := by decide +kernel
theorem d4_135 : decode method_2_code 135 = .ok (.ireturn, 1) := by decide +kernel
theorem d4_136 : decode method_2_code 136 = .ok (.iload_n 1, 1) := by decide +kernel
theorem d4_137 : decode method_2_code 137 = .ok (.iconst 2, 1) := by decide +kernel
theorem d4_138 : decode method_2_code 138 = .ok (.if_icmp .ne 5, 3) := by decide +kernel
theorem d4_141 : decode method_2_code 141 = .ok (.iconst 3, 1) := by decide +kernel
theorem d4_142 : decode method_2_code 142 = .ok (.ireturn, 1) := by decide +kernel
theorem d4_143 : decode method_2_code 143 = .ok (.iload_n 1, 1) := by decide +kernel
theorem d4_144 : decode method_2_code 144 = .ok (.iconst 3, 1) := by decide +kernel
theorem d4_145 : decode method_2_code 145 = .ok (.if_icmp .ne 5, 3) := by decide +kernel
theorem d4_148 : decode method_2_code 148 = .ok (.iconst 4, 1) := by decide +kernel
theorem d4_149 : decode method_2_code 149 = .ok (.ireturn, 1) := by decide +kernel
theorem d4_150 : decode method_2_code 150 = .ok (.iconst 0, 1) := by decide +kernel
theorem d4_151 : decode method_2_code 151 = .ok (.ireturn, 1) := by decide +kernel
theorem d4_152 : decode method_2_code 152 = .ok (.iload_n 1, 1) := by decide +kernel
theorem d4_153 : decode method_2_code 153 = .ok (.ifCond .ne 6, 3) := by decide +kernel
theorem d4_156 : decode method_2_code 156 = .ok (.bipush 117, 2) := by decide +kernel
theorem d4_158 : decode method_2_code 158 = .ok (.ireturn, 1) := by decide +kernel
theorem d4_159 : decode method_2_code 159 = .ok (.iload_n 1, 1) := by decide +kernel
theorem d4_160 : decode method_2_code 160 = .ok (.iconst 1, 1) := by decide +kernel
theorem d4_161 : decode method_2_code 161 = .ok (.if_icmp .ne 6, 3) := by decide +kernel
theorem d4_164 : decode method_2_code 164 = .ok (.bipush 115, 2) := by decide +kernel
theorem d4_166 : decode method_2_code 166 = .ok (.ireturn, 1) := by decide +kernel
theorem d4_167 : decode method_2_code 167 = .ok (.iload_n 1, 1) := by decide +kernel
theorem d4_168 : decode method_2_code 168 = .ok (.iconst 2, 1) := by decide +kernel
theorem d4_169 : decode method_2_code 169 = .ok (.if_icmp .ne 6, 3) := by decide +kernel
theorem d4_172 : decode method_2_code 172 = .ok (.bipush 116, 2) := by decide +kernel
theorem d4_174 : decode method_2_code 174 = .ok (.ireturn, 1) := by decide +kernel
theorem d4_175 : decode method_2_code 175 = .ok (.iload_n 1, 1) := by decide +kernel
theorem d4_176 : decode method_2_code 176 = .ok (.iconst 3, 1) := by decide +kernel
theorem d4_177 : decode method_2_code 177 = .ok (.if_icmp .ne 6, 3) := by decide +kernel
theorem d4_180 : decode method_2_code 180 = .ok (.bipush 97, 2) := by decide +kernel
theorem d4_182 : decode method_2_code 182 = .ok (.ireturn, 1) := by decide +kernel
theorem d4_183 : decode method_2_code 183 = .ok (.iload_n 1, 1) := by decide +kernel
theorem d4_184 : decode method_2_code 184 = .ok (.iconst 4, 1) := by decide +kernel
theorem d4_185 : decode method_2_code 185 = .ok (.if_icmp .ne 6, 3) := by decide +kernel
theorem d4_188 : decode method_2_code 188 = .ok (.bipush 114, 2) := by decide +kernel
theorem d4_190 : decode method_2_code 190 = .ok (.ireturn, 1) := by decide +kernel
theorem d4_191 : decode method_2_code 191 = .ok (.iconst 0, 1) := by decide +kernel
theorem d4_192 : decode method_2_code 192 = .ok (.ireturn, 1) := by decide +kernel
theorem ef_4 (m : MethodId) (x0 : Int32) (x1 : Int32) : entryFrame m #[(.int x0), (.int x1)] 2 = mkF m 0 #[.val (.int x0), .val (.int x1)] [] := by first | (simp [entryFrame, mkF, argsToLocals, Value.category, maxLocals]; done) | rfl
def Q4 (Z : State) (kx : Int32) (ix : Int32) (h0 : Heap) (n0 : Nat) (v : Option Value) (h : Heap) (L : List Loc) : Prop := v = some (.int (own_expect kx ix)) ∧ Fr n0 L ∧ h = h0
set_option maxRecDepth 65536 in
set_option maxHeartbeats 40000000 in
theorem rm4 (l : Launch) (Z : State) (a0 : Array Value) (hw : ∀ d ∈ tables_1, d.before a0 Z = true) (ws : List Jvm.Cond) (kx : Int32) (ix : Int32) (h0 : Heap) (n0 : Nat) (Z0 : n0 ≤ h0.size)  :
    MetFree l (⟨"cleave/io/PackedFormatHoldsMagicPinLaw", "expected", "(II)I"⟩ : MethodName) (head1 (Jvm.Cond.code (⟨"cleave/io/PackedFormatHoldsMagicPinLaw", "expected", "(II)I"⟩ : MethodName) method_2_code 2 (some .int) :: ws) ({ frames := 0, cells := 0, slots := 0, locals := 0 } : Room)) (fun a U => a = #[(.int kx), (.int ix)] ∧ Z.Warmed39 U.vm ∧ U.heap = h0) (fun _ _ _ _ _ => True) (fun _ U o U' => ∃ v L, o = .returned v ∧ Q4 Z kx ix h0 n0 v U'.heap L ∧ FrameEnd U o U' L ({ frames := 0, cells := 0, slots := 0, locals := 0 } : Room).cells ({ frames := 0, cells := 0, slots := 0, locals := 0 } : Room).slots) := by
  refine MetFree.of_bodySF (plainFor_of_name pn_cleave_io_PackedFormatHoldsMagicPinLaw) hisR ?_
  intro p e s m args below meth c s₁ Bd hml0 hP hK
  obtain ⟨rfl, hZ, hh⟩ := hP
  have hx := Bd.exec
  have hby := Bd.bytes
  have hml : c.maxLocals = 2 := hml0
  have hown : s.vm.findClass "cleave/io/PackedFormatHoldsMagicPinLaw" = some m.cls := findClass_of_methodNamed Bd.named
  have hnm := (name_of_methodNamed Bd.named Bd.method).1
  have X0 : Stand p l e ({ frames := 0, cells := 0, slots := 0, locals := 0 } : Room) s m #[(.int kx), (.int ix)] below meth c s₁ [] 0 0 := Stand.of_body Bd
  have e0 : s₁.heap = h0 := by rw [← hh, Bd.state]; rfl
  have N0 := Fr.nil n0
  show Run p.tables e below (PQ s below 0 0 (Q4 Z kx ix h0 n0)) (s₁.setTop (entryFrame m #[(.int kx), (.int ix)] 2))
  refine Run.step (fun t k => castTop (ef_4 m kx ix) k) ?_
  show Run _ _ _ _ (s₁.setTop (mkF m 0 #[.val (.int kx), .val (.int ix)] []))
  refine Run.step (fun t_ k_ => XS.iloadN X0.here hx rfl (hb hby d4_0) rfl k_) ?_
  show Run _ _ _ _ (s₁.setTop (mkF m 1 #[.val (.int kx), .val (.int ix)] [(.int kx)]))
  by_cases c1 : kx = (0 : Int32)
  · skip
    refine Run.step (fun t_ k_ => XS.ifNo X0.here hx rfl (hb hby d4_1) rfl (XT.i0_ne_f c1) (XS.iloadN X0.here hx rfl (hb hby d4_4) rfl k_)) ?_
    show Run _ _ _ _ (s₁.setTop (mkF m 5 #[.val (.int kx), .val (.int ix)] [(.int ix)]))
    by_cases c5 : ix = (0 : Int32)
    · skip
      refine Run.step (fun t_ k_ => XS.ifNo X0.here hx rfl (hb hby d4_5) rfl (XT.i0_ne_f c5) (XS.bipush X0.here hx rfl (hb hby d4_8) k_)) ?_
      show Run _ _ _ _ (s₁.setTop (mkF m 10 #[.val (.int kx), .val (.int ix)] [(.int (66 : Int32))]))
      exact finI X0 hx (BodyLoose.notSynchronized Bd) Bd.returns (hb hby d4_10) (by decide) (by decide) e0 ⟨congrArg (fun z => some (Value.int z)) (show own_expect kx ix = (66 : Int32) from (if_pos c1).trans (if_pos c5)).symm, N0, rfl⟩
    · skip
      refine Run.step (fun t_ k_ => XS.ifYes X0.here hx rfl (pc0 := 5) (pc' := 11) rfl (hb hby d4_5) rfl (XT.i0_ne_t c5) (by decide) (by decide) (XS.iloadN X0.here hx rfl (hb hby d4_11) rfl (XS.iconst X0.here hx rfl (hb hby d4_12) k_))) ?_
      show Run _ _ _ _ (s₁.setTop (mkF m 13 #[.val (.int kx), .val (.int ix)] [(.int (1 : Int32)), (.int ix)]))
      by_cases c13 : ix = (1 : Int32)
      · skip
        refine Run.step (fun t_ k_ => XS.icmpNo X0.here hx rfl (hb hby d4_13) rfl (XT.ii_ne_f c13) (XS.bipush X0.here hx rfl (hb hby d4_16) k_)) ?_
        show Run _ _ _ _ (s₁.setTop (mkF m 18 #[.val (.int kx), .val (.int ix)] [(.int (90 : Int32))]))
        exact finI X0 hx (BodyLoose.notSynchronized Bd) Bd.returns (hb hby d4_18) (by decide) (by decide) e0 ⟨congrArg (fun z => some (Value.int z)) (show own_expect kx ix = (90 : Int32) from (if_pos c1).trans ((if_neg c5).trans (if_pos c13))).symm, N0, rfl⟩
      · skip
        refine Run.step (fun t_ k_ => XS.icmpYes X0.here hx rfl (pc0 := 13) (pc' := 19) rfl (hb hby d4_13) rfl (XT.ii_ne_t c13) (by decide) (by decide) (XS.iloadN X0.here hx rfl (hb hby d4_19) rfl (XS.iconst X0.here hx rfl (hb hby d4_20) k_))) ?_
        show Run _ _ _ _ (s₁.setTop (mkF m 21 #[.val (.int kx), .val (.int ix)] [(.int (2 : Int32)), (.int ix)]))
        by_cases c21 : ix = (2 : Int32)
        · skip
          refine Run.step (fun t_ k_ => XS.icmpNo X0.here hx rfl (hb hby d4_21) rfl (XT.ii_ne_f c21) (XS.bipush X0.here hx rfl (hb hby d4_24) k_)) ?_
          show Run _ _ _ _ (s₁.setTop (mkF m 26 #[.val (.int kx), .val (.int ix)] [(.int (104 : Int32))]))
          exact finI X0 hx (BodyLoose.notSynchronized Bd) Bd.returns (hb hby d4_26) (by decide) (by decide) e0 ⟨congrArg (fun z => some (Value.int z)) (show own_expect kx ix = (104 : Int32) from (if_pos c1).trans ((if_neg c5).trans ((if_neg c13).trans (if_pos c21)))).symm, N0, rfl⟩
        · skip
          refine Run.step (fun t_ k_ => XS.icmpYes X0.here hx rfl (pc0 := 21) (pc' := 27) rfl (hb hby d4_21) rfl (XT.ii_ne_t c21) (by decide) (by decide) (XS.iconst X0.here hx rfl (hb hby d4_27) k_)) ?_
          show Run _ _ _ _ (s₁.setTop (mkF m 28 #[.val (.int kx), .val (.int ix)] [(.int (0 : Int32))]))
          exact finI X0 hx (BodyLoose.notSynchronized Bd) Bd.returns (hb hby d4_28) (by decide) (by decide) e0 ⟨congrArg (fun z => some (Value.int z)) (show own_expect kx ix = (0 : Int32) from (if_pos c1).trans ((if_neg c5).trans ((if_neg c13).trans (if_neg c21)))).symm, N0, rfl⟩
  · skip
    refine Run.step (fun t_ k_ => XS.ifYes X0.here hx rfl (pc0 := 1) (pc' := 29) rfl (hb hby d4_1) rfl (XT.i0_ne_t c1) (by decide) (by decide) (XS.iloadN X0.here hx rfl (hb hby d4_29) rfl (XS.iconst X0.here hx rfl (hb hby d4_30) k_))) ?_
    show Run _ _ _ _ (s₁.setTop (mkF m 31 #[.val (.int kx), .val (.int ix)] [(.int (1 : Int32)), (.int kx)]))
    by_cases c31 : kx = (1 : Int32)
    · skip
      refine Run.step (fun t_ k_ => XS.icmpNo X0.here hx rfl (hb hby d4_31) rfl (XT.ii_ne_f c31) (XS.iloadN X0.here hx rfl (hb hby d4_34) rfl k_)) ?_
      show Run _ _ _ _ (s₁.setTop (mkF m 35 #[.val (.int kx), .val (.int ix)] [(.int ix)]))
      by_cases c35 : ix = (0 : Int32)
      · skip
        refine Run.step (fun t_ k_ => XS.ifNo X0.here hx rfl (hb hby d4_35) rfl (XT.i0_ne_f c35) (XS.sipush X0.here hx rfl (hb hby d4_38) k_)) ?_
        show Run _ _ _ _ (s₁.setTop (mkF m 41 #[.val (.int kx), .val (.int ix)] [(.int (253 : Int32))]))
        exact finI X0 hx (BodyLoose.notSynchronized Bd) Bd.returns (hb hby d4_41) (by decide) (by decide) e0 ⟨congrArg (fun z => some (Value.int z)) (show own_expect kx ix = (253 : Int32) from (if_neg c1).trans ((if_pos c31).trans (if_pos c35))).symm, N0, rfl⟩
      · skip
        refine Run.step (fun t_ k_ => XS.ifYes X0.here hx rfl (pc0 := 35) (pc' := 42) rfl (hb hby d4_35) rfl (XT.i0_ne_t c35) (by decide) (by decide) (XS.iloadN X0.here hx rfl (hb hby d4_42) rfl (XS.iconst X0.here hx rfl (hb hby d4_43) k_))) ?_
        show Run _ _ _ _ (s₁.setTop (mkF m 44 #[.val (.int kx), .val (.int ix)] [(.int (1 : Int32)), (.int ix)]))
        by_cases c44 : ix = (1 : Int32)
        · skip
          refine Run.step (fun t_ k_ => XS.icmpNo X0.here hx rfl (hb hby d4_44) rfl (XT.ii_ne_f c44) (XS.bipush X0.here hx rfl (hb hby d4_47) k_)) ?_
          show Run _ _ _ _ (s₁.setTop (mkF m 49 #[.val (.int kx), .val (.int ix)] [(.int (55 : Int32))]))
          exact finI X0 hx (BodyLoose.notSynchronized Bd) Bd.returns (hb hby d4_49) (by decide) (by decide) e0 ⟨congrArg (fun z => some (Value.int z)) (show own_expect kx ix = (55 : Int32) from (if_neg c1).trans ((if_pos c31).trans ((if_neg c35).trans (if_pos c44)))).symm, N0, rfl⟩
        · skip
          refine Run.step (fun t_ k_ => XS.icmpYes X0.here hx rfl (pc0 := 44) (pc' := 50) rfl (hb hby d4_44) rfl (XT.ii_ne_t c44) (by decide) (by decide) (XS.iloadN X0.here hx rfl (hb hby d4_50) rfl (XS.iconst X0.here hx rfl (hb hby d4_51) k_))) ?_
          show Run _ _ _ _ (s₁.setTop (mkF m 52 #[.val (.int kx), .val (.int ix)] [(.int (2 : Int32)), (.int ix)]))
          by_cases c52 : ix = (2 : Int32)
          · skip
            refine Run.step (fun t_ k_ => XS.icmpNo X0.here hx rfl (hb hby d4_52) rfl (XT.ii_ne_f c52) (XS.bipush X0.here hx rfl (hb hby d4_55) k_)) ?_
            show Run _ _ _ _ (s₁.setTop (mkF m 57 #[.val (.int kx), .val (.int ix)] [(.int (122 : Int32))]))
            exact finI X0 hx (BodyLoose.notSynchronized Bd) Bd.returns (hb hby d4_57) (by decide) (by decide) e0 ⟨congrArg (fun z => some (Value.int z)) (show own_expect kx ix = (122 : Int32) from (if_neg c1).trans ((if_pos c31).trans ((if_neg c35).trans ((if_neg c44).trans (if_pos c52))))).symm, N0, rfl⟩
          · skip
            refine Run.step (fun t_ k_ => XS.icmpYes X0.here hx rfl (pc0 := 52) (pc' := 58) rfl (hb hby d4_52) rfl (XT.ii_ne_t c52) (by decide) (by decide) (XS.iloadN X0.here hx rfl (hb hby d4_58) rfl (XS.iconst X0.here hx rfl (hb hby d4_59) k_))) ?_
            show Run _ _ _ _ (s₁.setTop (mkF m 60 #[.val (.int kx), .val (.int ix)] [(.int (3 : Int32)), (.int ix)]))
            by_cases c60 : ix = (3 : Int32)
            · skip
              refine Run.step (fun t_ k_ => XS.icmpNo X0.here hx rfl (hb hby d4_60) rfl (XT.ii_ne_f c60) (XS.bipush X0.here hx rfl (hb hby d4_63) k_)) ?_
              show Run _ _ _ _ (s₁.setTop (mkF m 65 #[.val (.int kx), .val (.int ix)] [(.int (88 : Int32))]))
              exact finI X0 hx (BodyLoose.notSynchronized Bd) Bd.returns (hb hby d4_65) (by decide) (by decide) e0 ⟨congrArg (fun z => some (Value.int z)) (show own_expect kx ix = (88 : Int32) from (if_neg c1).trans ((if_pos c31).trans ((if_neg c35).trans ((if_neg c44).trans ((if_neg c52).trans (if_pos c60)))))).symm, N0, rfl⟩
            · skip
              refine Run.step (fun t_ k_ => XS.icmpYes X0.here hx rfl (pc0 := 60) (pc' := 66) rfl (hb hby d4_60) rfl (XT.ii_ne_t c60) (by decide) (by decide) (XS.iloadN X0.here hx rfl (hb hby d4_66) rfl (XS.iconst X0.here hx rfl (hb hby d4_67) k_))) ?_
              show Run _ _ _ _ (s₁.setTop (mkF m 68 #[.val (.int kx), .val (.int ix)] [(.int (4 : Int32)), (.int ix)]))
              by_cases c68 : ix = (4 : Int32)
              · skip
                refine Run.step (fun t_ k_ => XS.icmpNo X0.here hx rfl (hb hby d4_68) rfl (XT.ii_ne_f c68) (XS.bipush X0.here hx rfl (hb hby d4_71) k_)) ?_
                show Run _ _ _ _ (s₁.setTop (mkF m 73 #[.val (.int kx), .val (.int ix)] [(.int (90 : Int32))]))
                exact finI X0 hx (BodyLoose.notSynchronized Bd) Bd.returns (hb hby d4_73) (by decide) (by decide) e0 ⟨congrArg (fun z => some (Value.int z)) (show own_expect kx ix = (90 : Int32) from (if_neg c1).trans ((if_pos c31).trans ((if_neg c35).trans ((if_neg c44).trans ((if_neg c52).trans ((if_neg c60).trans (if_pos c68))))))).symm, N0, rfl⟩
              · skip
                refine Run.step (fun t_ k_ => XS.icmpYes X0.here hx rfl (pc0 := 68) (pc' := 74) rfl (hb hby d4_68) rfl (XT.ii_ne_t c68) (by decide) (by decide) (XS.iconst X0.here hx rfl (hb hby d4_74) k_)) ?_
                show Run _ _ _ _ (s₁.setTop (mkF m 75 #[.val (.int kx), .val (.int ix)] [(.int (0 : Int32))]))
                exact finI X0 hx (BodyLoose.notSynchronized Bd) Bd.returns (hb hby d4_75) (by decide) (by decide) e0 ⟨congrArg (fun z => some (Value.int z)) (show own_expect kx ix = (0 : Int32) from (if_neg c1).trans ((if_pos c31).trans ((if_neg c35).trans ((if_neg c44).trans ((if_neg c52).trans ((if_neg c60).trans (if_neg c68))))))).symm, N0, rfl⟩
    · skip
      refine Run.step (fun t_ k_ => XS.icmpYes X0.here hx rfl (pc0 := 31) (pc' := 76) rfl (hb hby d4_31) rfl (XT.ii_ne_t c31) (by decide) (by decide) (XS.iloadN X0.here hx rfl (hb hby d4_76) rfl (XS.iconst X0.here hx rfl (hb hby d4_77) k_))) ?_
      show Run _ _ _ _ (s₁.setTop (mkF m 78 #[.val (.int kx), .val (.int ix)] [(.int (2 : Int32)), (.int kx)]))
      by_cases c78 : kx = (2 : Int32)
      · skip
        refine Run.step (fun t_ k_ => XS.icmpNo X0.here hx rfl (hb hby d4_78) rfl (XT.ii_ne_f c78) (XS.iloadN X0.here hx rfl (hb hby d4_81) rfl k_)) ?_
        show Run _ _ _ _ (s₁.setTop (mkF m 82 #[.val (.int kx), .val (.int ix)] [(.int ix)]))
        by_cases c82 : ix = (0 : Int32)
        · skip
          refine Run.step (fun t_ k_ => XS.ifNo X0.here hx rfl (hb hby d4_82) rfl (XT.i0_ne_f c82) (XS.bipush X0.here hx rfl (hb hby d4_85) k_)) ?_
          show Run _ _ _ _ (s₁.setTop (mkF m 87 #[.val (.int kx), .val (.int ix)] [(.int (40 : Int32))]))
          exact finI X0 hx (BodyLoose.notSynchronized Bd) Bd.returns (hb hby d4_87) (by decide) (by decide) e0 ⟨congrArg (fun z => some (Value.int z)) (show own_expect kx ix = (40 : Int32) from (if_neg c1).trans ((if_neg c31).trans ((if_pos c78).trans (if_pos c82)))).symm, N0, rfl⟩
        · skip
          refine Run.step (fun t_ k_ => XS.ifYes X0.here hx rfl (pc0 := 82) (pc' := 88) rfl (hb hby d4_82) rfl (XT.i0_ne_t c82) (by decide) (by decide) (XS.iloadN X0.here hx rfl (hb hby d4_88) rfl (XS.iconst X0.here hx rfl (hb hby d4_89) k_))) ?_
          show Run _ _ _ _ (s₁.setTop (mkF m 90 #[.val (.int kx), .val (.int ix)] [(.int (1 : Int32)), (.int ix)]))
          by_cases c90 : ix = (1 : Int32)
          · skip
            refine Run.step (fun t_ k_ => XS.icmpNo X0.here hx rfl (hb hby d4_90) rfl (XT.ii_ne_f c90) (XS.sipush X0.here hx rfl (hb hby d4_93) k_)) ?_
            show Run _ _ _ _ (s₁.setTop (mkF m 96 #[.val (.int kx), .val (.int ix)] [(.int (181 : Int32))]))
            exact finI X0 hx (BodyLoose.notSynchronized Bd) Bd.returns (hb hby d4_96) (by decide) (by decide) e0 ⟨congrArg (fun z => some (Value.int z)) (show own_expect kx ix = (181 : Int32) from (if_neg c1).trans ((if_neg c31).trans ((if_pos c78).trans ((if_neg c82).trans (if_pos c90))))).symm, N0, rfl⟩
          · skip
            refine Run.step (fun t_ k_ => XS.icmpYes X0.here hx rfl (pc0 := 90) (pc' := 97) rfl (hb hby d4_90) rfl (XT.ii_ne_t c90) (by decide) (by decide) (XS.iloadN X0.here hx rfl (hb hby d4_97) rfl (XS.iconst X0.here hx rfl (hb hby d4_98) k_))) ?_
            show Run _ _ _ _ (s₁.setTop (mkF m 99 #[.val (.int kx), .val (.int ix)] [(.int (2 : Int32)), (.int ix)]))
            by_cases c99 : ix = (2 : Int32)
            · skip
              refine Run.step (fun t_ k_ => XS.icmpNo X0.here hx rfl (hb hby d4_99) rfl (XT.ii_ne_f c99) (XS.bipush X0.here hx rfl (hb hby d4_102) k_)) ?_
              show Run _ _ _ _ (s₁.setTop (mkF m 104 #[.val (.int kx), .val (.int ix)] [(.int (47 : Int32))]))
              exact finI X0 hx (BodyLoose.notSynchronized Bd) Bd.returns (hb hby d4_104) (by decide) (by decide) e0 ⟨congrArg (fun z => some (Value.int z)) (show own_expect kx ix = (47 : Int32) from (if_neg c1).trans ((if_neg c31).trans ((if_pos c78).trans ((if_neg c82).trans ((if_neg c90).trans (if_pos c99)))))).symm, N0, rfl⟩
            · skip
              refine Run.step (fun t_ k_ => XS.icmpYes X0.here hx rfl (pc0 := 99) (pc' := 105) rfl (hb hby d4_99) rfl (XT.ii_ne_t c99) (by decide) (by decide) (XS.iloadN X0.here hx rfl (hb hby d4_105) rfl (XS.iconst X0.here hx rfl (hb hby d4_106) k_))) ?_
              show Run _ _ _ _ (s₁.setTop (mkF m 107 #[.val (.int kx), .val (.int ix)] [(.int (3 : Int32)), (.int ix)]))
              by_cases c107 : ix = (3 : Int32)
              · skip
                refine Run.step (fun t_ k_ => XS.icmpNo X0.here hx rfl (hb hby d4_107) rfl (XT.ii_ne_f c107) (XS.sipush X0.here hx rfl (hb hby d4_110) k_)) ?_
                show Run _ _ _ _ (s₁.setTop (mkF m 113 #[.val (.int kx), .val (.int ix)] [(.int (253 : Int32))]))
                exact finI X0 hx (BodyLoose.notSynchronized Bd) Bd.returns (hb hby d4_113) (by decide) (by decide) e0 ⟨congrArg (fun z => some (Value.int z)) (show own_expect kx ix = (253 : Int32) from (if_neg c1).trans ((if_neg c31).trans ((if_pos c78).trans ((if_neg c82).trans ((if_neg c90).trans ((if_neg c99).trans (if_pos c107))))))).symm, N0, rfl⟩
              · skip
                refine Run.step (fun t_ k_ => XS.icmpYes X0.here hx rfl (pc0 := 107) (pc' := 114) rfl (hb hby d4_107) rfl (XT.ii_ne_t c107) (by decide) (by decide) (XS.iconst X0.here hx rfl (hb hby d4_114) k_)) ?_
                show Run _ _ _ _ (s₁.setTop (mkF m 115 #[.val (.int kx), .val (.int ix)] [(.int (0 : Int32))]))
                exact finI X0 hx (BodyLoose.notSynchronized Bd) Bd.returns (hb hby d4_115) (by decide) (by decide) e0 ⟨congrArg (fun z => some (Value.int z)) (show own_expect kx ix = (0 : Int32) from (if_neg c1).trans ((if_neg c31).trans ((if_pos c78).trans ((if_neg c82).trans ((if_neg c90).trans ((if_neg c99).trans (if_neg c107))))))).symm, N0, rfl⟩
      · skip
        refine Run.step (fun t_ k_ => XS.icmpYes X0.here hx rfl (pc0 := 78) (pc' := 116) rfl (hb hby d4_78) rfl (XT.ii_ne_t c78) (by decide) (by decide) (XS.iloadN X0.here hx rfl (hb hby d4_116) rfl (XS.iconst X0.here hx rfl (hb hby d4_117) k_))) ?_
        show Run _ _ _ _ (s₁.setTop (mkF m 118 #[.val (.int kx), .val (.int ix)] [(.int (3 : Int32)), (.int kx)]))
        by_cases c118 : kx = (3 : Int32)
        · skip
          refine Run.step (fun t_ k_ => XS.icmpNo X0.here hx rfl (hb hby d4_118) rfl (XT.ii_ne_f c118) (XS.iloadN X0.here hx rfl (hb hby d4_121) rfl k_)) ?_
          show Run _ _ _ _ (s₁.setTop (mkF m 122 #[.val (.int kx), .val (.int ix)] [(.int ix)]))
          by_cases c122 : ix = (0 : Int32)
          · skip
            refine Run.step (fun t_ k_ => XS.ifNo X0.here hx rfl (hb hby d4_122) rfl (XT.i0_ne_f c122) (XS.bipush X0.here hx rfl (hb hby d4_125) k_)) ?_
            show Run _ _ _ _ (s₁.setTop (mkF m 127 #[.val (.int kx), .val (.int ix)] [(.int (80 : Int32))]))
            exact finI X0 hx (BodyLoose.notSynchronized Bd) Bd.returns (hb hby d4_127) (by decide) (by decide) e0 ⟨congrArg (fun z => some (Value.int z)) (show own_expect kx ix = (80 : Int32) from (if_neg c1).trans ((if_neg c31).trans ((if_neg c78).trans ((if_pos c118).trans (if_pos c122))))).symm, N0, rfl⟩
          · skip
            refine Run.step (fun t_ k_ => XS.ifYes X0.here hx rfl (pc0 := 122) (pc' := 128) rfl (hb hby d4_122) rfl (XT.i0_ne_t c122) (by decide) (by decide) (XS.iloadN X0.here hx rfl (hb hby d4_128) rfl (XS.iconst X0.here hx rfl (hb hby d4_129) k_))) ?_
            show Run _ _ _ _ (s₁.setTop (mkF m 130 #[.val (.int kx), .val (.int ix)] [(.int (1 : Int32)), (.int ix)]))
            by_cases c130 : ix = (1 : Int32)
            · skip
              refine Run.step (fun t_ k_ => XS.icmpNo X0.here hx rfl (hb hby d4_130) rfl (XT.ii_ne_f c130) (XS.bipush X0.here hx rfl (hb hby d4_133) k_)) ?_
              show Run _ _ _ _ (s₁.setTop (mkF m 135 #[.val (.int kx), .val (.int ix)] [(.int (75 : Int32))]))
              exact finI X0 hx (BodyLoose.notSynchronized Bd) Bd.returns (hb hby d4_135) (by decide) (by decide) e0 ⟨congrArg (fun z => some (Value.int z)) (show own_expect kx ix = (75 : Int32) from (if_neg c1).trans ((if_neg c31).trans ((if_neg c78).trans ((if_pos c118).trans ((if_neg c122).trans (if_pos c130)))))).symm, N0, rfl⟩
            · skip
              refine Run.step (fun t_ k_ => XS.icmpYes X0.here hx rfl (pc0 := 130) (pc' := 136) rfl (hb hby d4_130) rfl (XT.ii_ne_t c130) (by decide) (by decide) (XS.iloadN X0.here hx rfl (hb hby d4_136) rfl (XS.iconst X0.here hx rfl (hb hby d4_137) k_))) ?_
              show Run _ _ _ _ (s₁.setTop (mkF m 138 #[.val (.int kx), .val (.int ix)] [(.int (2 : Int32)), (.int ix)]))
              by_cases c138 : ix = (2 : Int32)
              · skip
                refine Run.step (fun t_ k_ => XS.icmpNo X0.here hx rfl (hb hby d4_138) rfl (XT.ii_ne_f c138) (XS.iconst X0.here hx rfl (hb hby d4_141) k_)) ?_
                show Run _ _ _ _ (s₁.setTop (mkF m 142 #[.val (.int kx), .val (.int ix)] [(.int (3 : Int32))]))
                exact finI X0 hx (BodyLoose.notSynchronized Bd) Bd.returns (hb hby d4_142) (by decide) (by decide) e0 ⟨congrArg (fun z => some (Value.int z)) (show own_expect kx ix = (3 : Int32) from (if_neg c1).trans ((if_neg c31).trans ((if_neg c78).trans ((if_pos c118).trans ((if_neg c122).trans ((if_neg c130).trans (if_pos c138))))))).symm, N0, rfl⟩
              · skip
                refine Run.step (fun t_ k_ => XS.icmpYes X0.here hx rfl (pc0 := 138) (pc' := 143) rfl (hb hby d4_138) rfl (XT.ii_ne_t c138) (by decide) (by decide) (XS.iloadN X0.here hx rfl (hb hby d4_143) rfl (XS.iconst X0.here hx rfl (hb hby d4_144) k_))) ?_
                show Run _ _ _ _ (s₁.setTop (mkF m 145 #[.val (.int kx), .val (.int ix)] [(.int (3 : Int32)), (.int ix)]))
                by_cases c145 : ix = (3 : Int32)
                · skip
                  refine Run.step (fun t_ k_ => XS.icmpNo X0.here hx rfl (hb hby d4_145) rfl (XT.ii_ne_f c145) (XS.iconst X0.here hx rfl (hb hby d4_148) k_)) ?_
                  show Run _ _ _ _ (s₁.setTop (mkF m 149 #[.val (.int kx), .val (.int ix)] [(.int (4 : Int32))]))
                  exact finI X0 hx (BodyLoose.notSynchronized Bd) Bd.returns (hb hby d4_149) (by decide) (by decide) e0 ⟨congrArg (fun z => some (Value.int z)) (show own_expect kx ix = (4 : Int32) from (if_neg c1).trans ((if_neg c31).trans ((if_neg c78).trans ((if_pos c118).trans ((if_neg c122).trans ((if_neg c130).trans ((if_neg c138).trans (if_pos c145)))))))).symm, N0, rfl⟩
                · skip
                  refine Run.step (fun t_ k_ => XS.icmpYes X0.here hx rfl (pc0 := 145) (pc' := 150) rfl (hb hby d4_145) rfl (XT.ii_ne_t c145) (by decide) (by decide) (XS.iconst X0.here hx rfl (hb hby d4_150) k_)) ?_
                  show Run _ _ _ _ (s₁.setTop (mkF m 151 #[.val (.int kx), .val (.int ix)] [(.int (0 : Int32))]))
                  exact finI X0 hx (BodyLoose.notSynchronized Bd) Bd.returns (hb hby d4_151) (by decide) (by decide) e0 ⟨congrArg (fun z => some (Value.int z)) (show own_expect kx ix = (0 : Int32) from (if_neg c1).trans ((if_neg c31).trans ((if_neg c78).trans ((if_pos c118).trans ((if_neg c122).trans ((if_neg c130).trans ((if_neg c138).trans (if_neg c145)))))))).symm, N0, rfl⟩
        · skip
          refine Run.step (fun t_ k_ => XS.icmpYes X0.here hx rfl (pc0 := 118) (pc' := 152) rfl (hb hby d4_118) rfl (XT.ii_ne_t c118) (by decide) (by decide) (XS.iloadN X0.here hx rfl (hb hby d4_152) rfl k_)) ?_
          show Run _ _ _ _ (s₁.setTop (mkF m 153 #[.val (.int kx), .val (.int ix)] [(.int ix)]))
          by_cases c153 : ix = (0 : Int32)
          · skip
            refine Run.step (fun t_ k_ => XS.ifNo X0.here hx rfl (hb hby d4_153) rfl (XT.i0_ne_f c153) (XS.bipush X0.here hx rfl (hb hby d4_156) k_)) ?_
            show Run _ _ _ _ (s₁.setTop (mkF m 158 #[.val (.int kx), .val (.int ix)] [(.int (117 : Int32))]))
            exact finI X0 hx (BodyLoose.notSynchronized Bd) Bd.returns (hb hby d4_158) (by decide) (by decide) e0 ⟨congrArg (fun z => some (Value.int z)) (show own_expect kx ix = (117 : Int32) from (if_neg c1).trans ((if_neg c31).trans ((if_neg c78).trans ((if_neg c118).trans (if_pos c153))))).symm, N0, rfl⟩
          · skip
            refine Run.step (fun t_ k_ => XS.ifYes X0.here hx rfl (pc0 := 153) (pc' := 159) rfl (hb hby d4_153) rfl (XT.i0_ne_t c153) (by decide) (by decide) (XS.iloadN X0.here hx rfl (hb hby d4_159) rfl (XS.iconst X0.here hx rfl (hb hby d4_160) k_))) ?_
            show Run _ _ _ _ (s₁.setTop (mkF m 161 #[.val (.int kx), .val (.int ix)] [(.int (1 : Int32)), (.int ix)]))
            by_cases c161 : ix = (1 : Int32)
            · skip
              refine Run.step (fun t_ k_ => XS.icmpNo X0.here hx rfl (hb hby d4_161) rfl (XT.ii_ne_f c161) (XS.bipush X0.here hx rfl (hb hby d4_164) k_)) ?_
              show Run _ _ _ _ (s₁.setTop (mkF m 166 #[.val (.int kx), .val (.int ix)] [(.int (115 : Int32))]))
              exact finI X0 hx (BodyLoose.notSynchronized Bd) Bd.returns (hb hby d4_166) (by decide) (by decide) e0 ⟨congrArg (fun z => some (Value.int z)) (show own_expect kx ix = (115 : Int32) from (if_neg c1).trans ((if_neg c31).trans ((if_neg c78).trans ((if_neg c118).trans ((if_neg c153).trans (if_pos c161)))))).symm, N0, rfl⟩
            · skip
              refine Run.step (fun t_ k_ => XS.icmpYes X0.here hx rfl (pc0 := 161) (pc' := 167) rfl (hb hby d4_161) rfl (XT.ii_ne_t c161) (by decide) (by decide) (XS.iloadN X0.here hx rfl (hb hby d4_167) rfl (XS.iconst X0.here hx rfl (hb hby d4_168) k_))) ?_
              show Run _ _ _ _ (s₁.setTop (mkF m 169 #[.val (.int kx), .val (.int ix)] [(.int (2 : Int32)), (.int ix)]))
              by_cases c169 : ix = (2 : Int32)
              · skip
                refine Run.step (fun t_ k_ => XS.icmpNo X0.here hx rfl (hb hby d4_169) rfl (XT.ii_ne_f c169) (XS.bipush X0.here hx rfl (hb hby d4_172) k_)) ?_
                show Run _ _ _ _ (s₁.setTop (mkF m 174 #[.val (.int kx), .val (.int ix)] [(.int (116 : Int32))]))
                exact finI X0 hx (BodyLoose.notSynchronized Bd) Bd.returns (hb hby d4_174) (by decide) (by decide) e0 ⟨congrArg (fun z => some (Value.int z)) (show own_expect kx ix = (116 : Int32) from (if_neg c1).trans ((if_neg c31).trans ((if_neg c78).trans ((if_neg c118).trans ((if_neg c153).trans ((if_neg c161).trans (if_pos c169))))))).symm, N0, rfl⟩
              · skip
                refine Run.step (fun t_ k_ => XS.icmpYes X0.here hx rfl (pc0 := 169) (pc' := 175) rfl (hb hby d4_169) rfl (XT.ii_ne_t c169) (by decide) (by decide) (XS.iloadN X0.here hx rfl (hb hby d4_175) rfl (XS.iconst X0.here hx rfl (hb hby d4_176) k_))) ?_
                show Run _ _ _ _ (s₁.setTop (mkF m 177 #[.val (.int kx), .val (.int ix)] [(.int (3 : Int32)), (.int ix)]))
                by_cases c177 : ix = (3 : Int32)
                · skip
                  refine Run.step (fun t_ k_ => XS.icmpNo X0.here hx rfl (hb hby d4_177) rfl (XT.ii_ne_f c177) (XS.bipush X0.here hx rfl (hb hby d4_180) k_)) ?_
                  show Run _ _ _ _ (s₁.setTop (mkF m 182 #[.val (.int kx), .val (.int ix)] [(.int (97 : Int32))]))
                  exact finI X0 hx (BodyLoose.notSynchronized Bd) Bd.returns (hb hby d4_182) (by decide) (by decide) e0 ⟨congrArg (fun z => some (Value.int z)) (show own_expect kx ix = (97 : Int32) from (if_neg c1).trans ((if_neg c31).trans ((if_neg c78).trans ((if_neg c118).trans ((if_neg c153).trans ((if_neg c161).trans ((if_neg c169).trans (if_pos c177)))))))).symm, N0, rfl⟩
                · skip
                  refine Run.step (fun t_ k_ => XS.icmpYes X0.here hx rfl (pc0 := 177) (pc' := 183) rfl (hb hby d4_177) rfl (XT.ii_ne_t c177) (by decide) (by decide) (XS.iloadN X0.here hx rfl (hb hby d4_183) rfl (XS.iconst X0.here hx rfl (hb hby d4_184) k_))) ?_
                  show Run _ _ _ _ (s₁.setTop (mkF m 185 #[.val (.int kx), .val (.int ix)] [(.int (4 : Int32)), (.int ix)]))
                  by_cases c185 : ix = (4 : Int32)
                  · skip
                    refine Run.step (fun t_ k_ => XS.icmpNo X0.here hx rfl (hb hby d4_185) rfl (XT.ii_ne_f c185) (XS.bipush X0.here hx rfl (hb hby d4_188) k_)) ?_
                    show Run _ _ _ _ (s₁.setTop (mkF m 190 #[.val (.int kx), .val (.int ix)] [(.int (114 : Int32))]))
                    exact finI X0 hx (BodyLoose.notSynchronized Bd) Bd.returns (hb hby d4_190) (by decide) (by decide) e0 ⟨congrArg (fun z => some (Value.int z)) (show own_expect kx ix = (114 : Int32) from (if_neg c1).trans ((if_neg c31).trans ((if_neg c78).trans ((if_neg c118).trans ((if_neg c153).trans ((if_neg c161).trans ((if_neg c169).trans ((if_neg c177).trans (if_pos c185))))))))).symm, N0, rfl⟩
                  · skip
                    refine Run.step (fun t_ k_ => XS.icmpYes X0.here hx rfl (pc0 := 185) (pc' := 191) rfl (hb hby d4_185) rfl (XT.ii_ne_t c185) (by decide) (by decide) (XS.iconst X0.here hx rfl (hb hby d4_191) k_)) ?_
                    show Run _ _ _ _ (s₁.setTop (mkF m 192 #[.val (.int kx), .val (.int ix)] [(.int (0 : Int32))]))
                    exact finI X0 hx (BodyLoose.notSynchronized Bd) Bd.returns (hb hby d4_192) (by decide) (by decide) e0 ⟨congrArg (fun z => some (Value.int z)) (show own_expect kx ix = (0 : Int32) from (if_neg c1).trans ((if_neg c31).trans ((if_neg c78).trans ((if_neg c118).trans ((if_neg c153).trans ((if_neg c161).trans ((if_neg c169).trans ((if_neg c177).trans (if_neg c185))))))))).symm, N0, rfl⟩
theorem d1_0 : decode method_3_code 0 = .ok (.iload_n 2, 1) := by decide +kernel
theorem d1_1 : decode method_3_code 1 = .ok (.iload_n 1, 1) := by decide +kernel
theorem d1_2 : decode method_3_code 2 = .ok (.iushr, 1) := by decide +kernel
theorem d1_3 : decode method_3_code 3 = .ok (.iconst 1, 1) := by decide +kernel
theorem d1_4 : decode method_3_code 4 = .ok (.iand, 1) := by decide +kernel
theorem d1_5 : decode method_3_code 5 = .ok (.ifCond .eq 10, 3) := by decide +kernel
theorem d1_15 : decode method_3_code 15 = .ok (.lload_n 3, 1) := by decide +kernel
theorem d1_16 : decode method_3_code 16 = .ok (.bipush 8, 2) := by decide +kernel
theorem d1_18 : decode method_3_code 18 = .ok (.iload_n 1, 1) := by decide +kernel
theorem d1_19 : decode method_3_code 19 = .ok (.imul, 1) := by decide +kernel
theorem d1_20 : decode method_3_code 20 = .ok (.lushr, 1) := by decide +kernel
theorem d1_21 : decode method_3_code 21 = .ok (.l2i, 1) := by decide +kernel
theorem d1_22 : decode method_3_code 22 = .ok (.i2b, 1) := by decide +kernel
theorem d1_23 : decode method_3_code 23 = .ok (.ireturn, 1) := by decide +kernel
theorem d1_8 : decode method_3_code 8 = .ok (.iload_n 0, 1) := by decide +kernel
theorem d1_9 : decode method_3_code 9 = .ok (.iload_n 1, 1) := by decide +kernel
theorem d1_10 : decode method_3_code 10 = .ok (.invokestatic 7, 3) := by decide +kernel
theorem pd__28II_29I : parseMethodDescriptor "(II)I" = some ⟨[.int, .int], some .int⟩ := by decide +kernel
theorem d1_13 : decode method_3_code 13 = .ok (.i2b, 1) := by decide +kernel
theorem d1_14 : decode method_3_code 14 = .ok (.ireturn, 1) := by decide +kernel
theorem ef_1 (m : MethodId) (x0 : Int32) (x1 : Int32) (x2 : Int32) (x3 : Int64) : entryFrame m #[(.int x0), (.int x1), (.int x2), (.long x3)] 5 = mkF m 0 #[.val (.int x0), .val (.int x1), .val (.int x2), .val (.long x3), .second] [] := by first | (simp [entryFrame, mkF, argsToLocals, Value.category, maxLocals]; done) | rfl
def Q1 (Z : State) (kx : Int32) (ix : Int32) (sx : Int32) (dx : Int64) (h0 : Heap) (n0 : Nat) (v : Option Value) (h : Heap) (L : List Loc) : Prop := v = some (.int (own_pick kx ix sx dx)) ∧ Fr n0 L ∧ h = h0
set_option maxRecDepth 65536 in
set_option maxHeartbeats 40000000 in
theorem rm1 (l : Launch) (Z : State) (a0 : Array Value) (hw : ∀ d ∈ tables_1, d.before a0 Z = true) (ws : List Jvm.Cond) (kx : Int32) (ix : Int32) (sx : Int32) (dx : Int64) (h0 : Heap) (n0 : Nat) (Z0 : n0 ≤ h0.size)  :
    MetFree l (⟨"cleave/io/PackedFormatHoldsMagicPinLaw", "pick", "(IIIJ)B"⟩ : MethodName) (head1 (Jvm.Cond.code (⟨"cleave/io/PackedFormatHoldsMagicPinLaw", "pick", "(IIIJ)B"⟩ : MethodName) method_3_code 5 (some .byte) :: ws) ({ frames := 1, cells := 0, slots := 0, locals := 13 } : Room)) (fun a U => a = #[(.int kx), (.int ix), (.int sx), (.long dx)] ∧ Z.Warmed39 U.vm ∧ U.heap = h0) (fun _ _ _ _ _ => True) (fun _ U o U' => ∃ v L, o = .returned v ∧ Q1 Z kx ix sx dx h0 n0 v U'.heap L ∧ FrameEnd U o U' L ({ frames := 1, cells := 0, slots := 0, locals := 13 } : Room).cells ({ frames := 1, cells := 0, slots := 0, locals := 13 } : Room).slots) := by
  refine MetFree.of_bodySF (plainFor_of_name pn_cleave_io_PackedFormatHoldsMagicPinLaw) hisR ?_
  intro p e s m args below meth c s₁ Bd hml0 hP hK
  obtain ⟨rfl, hZ, hh⟩ := hP
  have hx := Bd.exec
  have hby := Bd.bytes
  have w7 := hw _ (List.mem_of_getElem? (i := 7) rfl)
  have w15 := hw _ (List.mem_of_getElem? (i := 15) rfl)
  have w16 := hw _ (List.mem_of_getElem? (i := 16) rfl)
  have w17 := hw _ (List.mem_of_getElem? (i := 17) rfl)
  have hml : c.maxLocals = 5 := hml0
  have hown : s.vm.findClass "cleave/io/PackedFormatHoldsMagicPinLaw" = some m.cls := findClass_of_methodNamed Bd.named
  have hnm := (name_of_methodNamed Bd.named Bd.method).1
  have X0 : Stand p l e ({ frames := 1, cells := 0, slots := 0, locals := 13 } : Room) s m #[(.int kx), (.int ix), (.int sx), (.long dx)] below meth c s₁ [] 0 0 := Stand.of_body Bd
  have e0 : s₁.heap = h0 := by rw [← hh, Bd.state]; rfl
  have N0 := Fr.nil n0
  show Run p.tables e below (PQ s below 0 0 (Q1 Z kx ix sx dx h0 n0)) (s₁.setTop (entryFrame m #[(.int kx), (.int ix), (.int sx), (.long dx)] 5))
  refine Run.step (fun t k => castTop (ef_1 m kx ix sx dx) k) ?_
  show Run _ _ _ _ (s₁.setTop (mkF m 0 #[.val (.int kx), .val (.int ix), .val (.int sx), .val (.long dx), .second] []))
  refine Run.step (fun t_ k_ => XS.iloadN X0.here hx rfl (hb hby d1_0) rfl (XS.iloadN X0.here hx rfl (hb hby d1_1) rfl (XS.iushr X0.here hx rfl (hb hby d1_2) rfl (XS.iconst X0.here hx rfl (hb hby d1_3) (XS.iand X0.here hx rfl (hb hby d1_4) rfl k_))))) ?_
  show Run _ _ _ _ (s₁.setTop (mkF m 5 #[.val (.int kx), .val (.int ix), .val (.int sx), .val (.long dx), .second] [(.int (((sx.toUInt32 >>> (ix &&& 31).toUInt32).toInt32) &&& (1 : Int32)))]))
  by_cases c5 : (((sx.toUInt32 >>> (ix &&& 31).toUInt32).toInt32) &&& (1 : Int32)) = (0 : Int32)
  · skip
    refine Run.step (fun t_ k_ => XS.ifYes X0.here hx rfl (pc0 := 5) (pc' := 15) rfl (hb hby d1_5) rfl (XT.i0_eq_t c5) (by decide) (by decide) (XS.lloadN X0.here hx rfl (hb hby d1_15) rfl (XS.bipush X0.here hx rfl (hb hby d1_16) (XS.iloadN X0.here hx rfl (hb hby d1_18) rfl (XS.imul X0.here hx rfl (hb hby d1_19) rfl (XS.lushr X0.here hx rfl (hb hby d1_20) rfl k_)))))) ?_
    show Run _ _ _ _ (s₁.setTop (mkF m 21 #[.val (.int kx), .val (.int ix), .val (.int sx), .val (.long dx), .second] [(.long ((dx.toUInt64 >>> (((8 : Int32) * ix) &&& 0x3f).toInt64.toUInt64).toInt64))]))
    refine Run.step (fun t_ k_ => XS.l2i X0.here hx rfl (hb hby d1_21) rfl (XS.i2b X0.here hx rfl (hb hby d1_22) rfl k_)) ?_
    show Run _ _ _ _ (s₁.setTop (mkF m 23 #[.val (.int kx), .val (.int ix), .val (.int sx), .val (.long dx), .second] [(.int ((((dx.toUInt64 >>> (((8 : Int32) * ix) &&& 0x3f).toInt64.toUInt64).toInt64).toInt32).toInt8.toInt32))]))
    exact finB X0 hx (BodyLoose.notSynchronized Bd) Bd.returns (hb hby d1_23) (congrArg Value.int (own_byte _)) (by decide) (by decide) e0 ⟨congrArg (fun z => some (Value.int z)) (show own_pick kx ix sx dx = ((((dx.toUInt64 >>> (((8 : Int32) * ix) &&& 0x3f).toInt64.toUInt64).toInt64).toInt32).toInt8.toInt32) from if_pos c5).symm, N0, rfl⟩
  · skip
    refine Run.step (fun t_ k_ => XS.ifNo X0.here hx rfl (hb hby d1_5) rfl (XT.i0_eq_f c5) (XS.iloadN X0.here hx rfl (hb hby d1_8) rfl (XS.iloadN X0.here hx rfl (hb hby d1_9) rfl k_))) ?_
    show Run _ _ _ _ (s₁.setTop (mkF m 10 #[.val (.int kx), .val (.int ix), .val (.int sx), .val (.long dx), .second] [(.int ix), (.int kx)]))
    obtain ⟨_, _, ⟨T1, L1, k1, n1⟩, -, X1, ⟨Lc1, hQ1, l1, y1, z1⟩, st1⟩ := Jvm.LawKit.callS X0 hx (y := (⟨"cleave/io/PackedFormatHoldsMagicPinLaw", "expected", "(II)I"⟩ : MethodName)) hown (mvT hZ w15) (mvT hZ w16) (mvT hZ w7) (mvT hZ w17) (by decide) (backOf (W := 0) (rm4 l Z a0 hw [] kx ix h0 n0 Z0) hZ w17 w7 (by decide) (by decide)) (g := (mkF m 10 #[.val (.int kx), .val (.int ix), .val (.int sx), .val (.long dx), .second] [(.int ix), (.int kx)])) rfl (by rw [hml]; rfl) (argsL := [(.int kx), (.int ix)]) (rest := []) (lenOf pd__28II_29I rfl) rfl (by show 2 * 0 + _ ≤ _; exact Nat.le_of_eq rfl) (hb hby d1_10) (fun _ _ => ⟨rfl, e0, (by decide : 0 + 0 ≤ _), (by decide : 0 + 0 ≤ _)⟩)
    dsimp only [Pt.U, Pt.locs, Pt.cells, Pt.slots] at X1 l1 y1 z1 st1 hQ1
    subst l1 y1 z1
    refine Run.step (st1) ?_
    obtain ⟨rfl, N1q, e1q⟩ := hQ1
    have N1 := Fr.app N0 N1q
    show Run _ _ _ _ (T1.setTop (mkF m 13 #[.val (.int kx), .val (.int ix), .val (.int sx), .val (.long dx), .second] [(.int (own_expect kx ix))]))
    refine Run.step (fun t_ k_ => XS.i2b X1.here hx rfl (hb hby d1_13) rfl k_) ?_
    show Run _ _ _ _ (T1.setTop (mkF m 14 #[.val (.int kx), .val (.int ix), .val (.int sx), .val (.long dx), .second] [(.int ((own_expect kx ix).toInt8.toInt32))]))
    exact finB X1 hx (BodyLoose.notSynchronized Bd) Bd.returns (hb hby d1_14) (congrArg Value.int (own_byte _)) (by decide) (by decide) e1q ⟨congrArg (fun z => some (Value.int z)) (show own_pick kx ix sx dx = ((own_expect kx ix).toInt8.toInt32) from if_neg c5).symm, N1, rfl⟩
theorem d3_0 : decode method_4_code 0 = .ok (.iload_n 0, 1) := by decide +kernel
theorem d3_1 : decode method_4_code 1 = .ok (.iload_n 1, 1) := by decide +kernel
theorem d3_2 : decode method_4_code 2 = .ok (.iload_n 2, 1) := by decide +kernel
theorem d3_3 : decode method_4_code 3 = .ok (.lload_n 3, 1) := by decide +kernel
theorem d3_4 : decode method_4_code 4 = .ok (.invokestatic 13, 3) := by decide +kernel
theorem pd__28IIIJ_29B : parseMethodDescriptor "(IIIJ)B" = some ⟨[.int, .int, .int, .long], some .byte⟩ := by decide +kernel
theorem d3_7 : decode method_4_code 7 = .ok (.iload_n 0, 1) := by decide +kernel
theorem d3_8 : decode method_4_code 8 = .ok (.iload_n 1, 1) := by decide +kernel
theorem d3_9 : decode method_4_code 9 = .ok (.invokestatic 7, 3) := by decide +kernel
theorem d3_12 : decode method_4_code 12 = .ok (.i2b, 1) := by decide +kernel
theorem d3_13 : decode method_4_code 13 = .ok (.if_icmp .ne 7, 3) := by decide +kernel
theorem d3_16 : decode method_4_code 16 = .ok (.iconst 1, 1) := by decide +kernel
theorem d3_17 : decode method_4_code 17 = .ok (.goto 4, 3) := by decide +kernel
theorem d3_21 : decode method_4_code 21 = .ok (.ireturn, 1) := by decide +kernel
theorem d3_20 : decode method_4_code 20 = .ok (.iconst 0, 1) := by decide +kernel
theorem ef_3 (m : MethodId) (x0 : Int32) (x1 : Int32) (x2 : Int32) (x3 : Int64) : entryFrame m #[(.int x0), (.int x1), (.int x2), (.long x3)] 5 = mkF m 0 #[.val (.int x0), .val (.int x1), .val (.int x2), .val (.long x3), .second] [] := by first | (simp [entryFrame, mkF, argsToLocals, Value.category, maxLocals]; done) | rfl
def Q3 (Z : State) (kx : Int32) (ix : Int32) (sx : Int32) (dx : Int64) (h0 : Heap) (n0 : Nat) (v : Option Value) (h : Heap) (L : List Loc) : Prop := v = some (.int (if own_pick kx ix sx dx = (own_expect kx ix).toInt8.toInt32 then 1 else 0)) ∧ Fr n0 L ∧ h = h0
set_option maxRecDepth 65536 in
set_option maxHeartbeats 40000000 in
theorem rm3 (l : Launch) (Z : State) (a0 : Array Value) (hw : ∀ d ∈ tables_1, d.before a0 Z = true) (ws : List Jvm.Cond) (kx : Int32) (ix : Int32) (sx : Int32) (dx : Int64) (h0 : Heap) (n0 : Nat) (Z0 : n0 ≤ h0.size)  :
    MetFree l (⟨"cleave/io/PackedFormatHoldsMagicPinLaw", "matches", "(IIIJ)Z"⟩ : MethodName) (head1 (Jvm.Cond.code (⟨"cleave/io/PackedFormatHoldsMagicPinLaw", "matches", "(IIIJ)Z"⟩ : MethodName) method_4_code 5 (some .boolean) :: ws) ({ frames := 2, cells := 0, slots := 0, locals := 29 } : Room)) (fun a U => a = #[(.int kx), (.int ix), (.int sx), (.long dx)] ∧ Z.Warmed39 U.vm ∧ U.heap = h0) (fun _ _ _ _ _ => True) (fun _ U o U' => ∃ v L, o = .returned v ∧ Q3 Z kx ix sx dx h0 n0 v U'.heap L ∧ FrameEnd U o U' L ({ frames := 2, cells := 0, slots := 0, locals := 29 } : Room).cells ({ frames := 2, cells := 0, slots := 0, locals := 29 } : Room).slots) := by
  refine MetFree.of_bodySF (plainFor_of_name pn_cleave_io_PackedFormatHoldsMagicPinLaw) hisR ?_
  intro p e s m args below meth c s₁ Bd hml0 hP hK
  obtain ⟨rfl, hZ, hh⟩ := hP
  have hx := Bd.exec
  have hby := Bd.bytes
  have w5 := hw _ (List.mem_of_getElem? (i := 5) rfl)
  have w6 := hw _ (List.mem_of_getElem? (i := 6) rfl)
  have w7 := hw _ (List.mem_of_getElem? (i := 7) rfl)
  have w8 := hw _ (List.mem_of_getElem? (i := 8) rfl)
  have w15 := hw _ (List.mem_of_getElem? (i := 15) rfl)
  have w16 := hw _ (List.mem_of_getElem? (i := 16) rfl)
  have w17 := hw _ (List.mem_of_getElem? (i := 17) rfl)
  have hml : c.maxLocals = 5 := hml0
  have hown : s.vm.findClass "cleave/io/PackedFormatHoldsMagicPinLaw" = some m.cls := findClass_of_methodNamed Bd.named
  have hnm := (name_of_methodNamed Bd.named Bd.method).1
  have X0 : Stand p l e ({ frames := 2, cells := 0, slots := 0, locals := 29 } : Room) s m #[(.int kx), (.int ix), (.int sx), (.long dx)] below meth c s₁ [] 0 0 := Stand.of_body Bd
  have e0 : s₁.heap = h0 := by rw [← hh, Bd.state]; rfl
  have N0 := Fr.nil n0
  show Run p.tables e below (PQ s below 0 0 (Q3 Z kx ix sx dx h0 n0)) (s₁.setTop (entryFrame m #[(.int kx), (.int ix), (.int sx), (.long dx)] 5))
  refine Run.step (fun t k => castTop (ef_3 m kx ix sx dx) k) ?_
  show Run _ _ _ _ (s₁.setTop (mkF m 0 #[.val (.int kx), .val (.int ix), .val (.int sx), .val (.long dx), .second] []))
  refine Run.step (fun t_ k_ => XS.iloadN X0.here hx rfl (hb hby d3_0) rfl (XS.iloadN X0.here hx rfl (hb hby d3_1) rfl (XS.iloadN X0.here hx rfl (hb hby d3_2) rfl (XS.lloadN X0.here hx rfl (hb hby d3_3) rfl k_)))) ?_
  show Run _ _ _ _ (s₁.setTop (mkF m 4 #[.val (.int kx), .val (.int ix), .val (.int sx), .val (.long dx), .second] [(.long dx), (.int sx), (.int ix), (.int kx)]))
  obtain ⟨_, _, ⟨T2, L2, k2, n2⟩, -, X2, ⟨Lc2, hQ2, l2, y2, z2⟩, st2⟩ := Jvm.LawKit.callS X0 hx (y := (⟨"cleave/io/PackedFormatHoldsMagicPinLaw", "pick", "(IIIJ)B"⟩ : MethodName)) hown (mvT hZ w5) (mvT hZ w6) (mvT hZ w7) (mvT hZ w8) (by decide) (backOf (W := 0) (rm1 l Z a0 hw [] kx ix sx dx h0 n0 Z0) hZ w8 w7 (by decide) (by decide)) (g := (mkF m 4 #[.val (.int kx), .val (.int ix), .val (.int sx), .val (.long dx), .second] [(.long dx), (.int sx), (.int ix), (.int kx)])) rfl (by rw [hml]; rfl) (argsL := [(.int kx), (.int ix), (.int sx), (.long dx)]) (rest := []) (lenOf pd__28IIIJ_29B rfl) rfl (by show 2 * 0 + _ ≤ _; exact Nat.le_of_eq rfl) (hb hby d3_4) (fun _ _ => ⟨rfl, e0, (by decide : 0 + 0 ≤ _), (by decide : 0 + 0 ≤ _)⟩)
  dsimp only [Pt.U, Pt.locs, Pt.cells, Pt.slots] at X2 l2 y2 z2 st2 hQ2
  subst l2 y2 z2
  refine Run.step (st2) ?_
  obtain ⟨rfl, N2q, e2q⟩ := hQ2
  have N2 := Fr.app N0 N2q
  show Run _ _ _ _ (T2.setTop (mkF m 7 #[.val (.int kx), .val (.int ix), .val (.int sx), .val (.long dx), .second] [(.int (own_pick kx ix sx dx))]))
  refine Run.step (fun t_ k_ => XS.iloadN X2.here hx rfl (hb hby d3_7) rfl (XS.iloadN X2.here hx rfl (hb hby d3_8) rfl k_)) ?_
  show Run _ _ _ _ (T2.setTop (mkF m 9 #[.val (.int kx), .val (.int ix), .val (.int sx), .val (.long dx), .second] [(.int ix), (.int kx), (.int (own_pick kx ix sx dx))]))
  obtain ⟨_, _, ⟨T3, L3, k3, n3⟩, -, X3, ⟨Lc3, hQ3, l3, y3, z3⟩, st3⟩ := Jvm.LawKit.callS X2 hx (y := (⟨"cleave/io/PackedFormatHoldsMagicPinLaw", "expected", "(II)I"⟩ : MethodName)) hown (mvT hZ w15) (mvT hZ w16) (mvT hZ w7) (mvT hZ w17) (by decide) (backOf (W := 1) (rm4 l Z a0 hw [] kx ix h0 n0 Z0) hZ w17 w7 (by decide) (by decide)) (g := (mkF m 9 #[.val (.int kx), .val (.int ix), .val (.int sx), .val (.long dx), .second] [(.int ix), (.int kx), (.int (own_pick kx ix sx dx))])) rfl (by rw [hml]; rfl) (argsL := [(.int kx), (.int ix)]) (rest := [(.int (own_pick kx ix sx dx))]) (lenOf pd__28II_29I rfl) rfl (by show 2 * 0 + _ ≤ _; exact Nat.le_of_eq rfl) (hb hby d3_9) (fun _ _ => ⟨rfl, e2q, (by decide : 0 + 0 ≤ _), (by decide : 0 + 0 ≤ _)⟩)
  dsimp only [Pt.U, Pt.locs, Pt.cells, Pt.slots] at X3 l3 y3 z3 st3 hQ3
  subst l3 y3 z3
  refine Run.step (st3) ?_
  obtain ⟨rfl, N3q, e3q⟩ := hQ3
  have N3 := Fr.app N2 N3q
  show Run _ _ _ _ (T3.setTop (mkF m 12 #[.val (.int kx), .val (.int ix), .val (.int sx), .val (.long dx), .second] [(.int (own_expect kx ix)), (.int (own_pick kx ix sx dx))]))
  refine Run.step (fun t_ k_ => XS.i2b X3.here hx rfl (hb hby d3_12) rfl k_) ?_
  show Run _ _ _ _ (T3.setTop (mkF m 13 #[.val (.int kx), .val (.int ix), .val (.int sx), .val (.long dx), .second] [(.int ((own_expect kx ix).toInt8.toInt32)), (.int (own_pick kx ix sx dx))]))
  by_cases c13 : (own_pick kx ix sx dx) = ((own_expect kx ix).toInt8.toInt32)
  · skip
    refine Run.step (fun t_ k_ => XS.icmpNo X3.here hx rfl (hb hby d3_13) rfl (XT.ii_ne_f c13) (XS.iconst X3.here hx rfl (hb hby d3_16) (XS.goto X3.here hx rfl (pc0 := 17) (pc' := 21) rfl (hb hby d3_17) (by decide) (by decide) k_))) ?_
    show Run _ _ _ _ (T3.setTop (mkF m 21 #[.val (.int kx), .val (.int ix), .val (.int sx), .val (.long dx), .second] [(.int (1 : Int32))]))
    exact finZ X3 hx (BodyLoose.notSynchronized Bd) Bd.returns (hb hby d3_21) (by decide) (by decide) (by decide) e3q ⟨congrArg (fun z => some (Value.int z)) (if_pos c13).symm, N3, rfl⟩
  · skip
    refine Run.step (fun t_ k_ => XS.icmpYes X3.here hx rfl (pc0 := 13) (pc' := 20) rfl (hb hby d3_13) rfl (XT.ii_ne_t c13) (by decide) (by decide) (XS.iconst X3.here hx rfl (hb hby d3_20) k_)) ?_
    show Run _ _ _ _ (T3.setTop (mkF m 21 #[.val (.int kx), .val (.int ix), .val (.int sx), .val (.long dx), .second] [(.int (0 : Int32))]))
    exact finZ X3 hx (BodyLoose.notSynchronized Bd) Bd.returns (hb hby d3_21) (by decide) (by decide) (by decide) e3q ⟨congrArg (fun z => some (Value.int z)) (if_neg c13).symm, N3, rfl⟩
theorem d2_0 : decode method_5_code 0 = .ok (.iload_n 1, 1) := by decide +kernel
theorem d2_1 : decode method_5_code 1 = .ok (.aload_n 0, 1) := by decide +kernel
theorem d2_2 : decode method_5_code 2 = .ok (.arraylength, 1) := by decide +kernel
theorem d2_3 : decode method_5_code 3 = .ok (.if_icmp .ge 7, 3) := by decide +kernel
theorem d2_6 : decode method_5_code 6 = .ok (.aload_n 0, 1) := by decide +kernel
theorem d2_7 : decode method_5_code 7 = .ok (.iload_n 1, 1) := by decide +kernel
theorem d2_8 : decode method_5_code 8 = .ok (.iload_n 2, 1) := by decide +kernel
theorem d2_9 : decode method_5_code 9 = .ok (.bastore, 1) := by decide +kernel
theorem d2_10 : decode method_5_code 10 = .ok (.return_, 1) := by decide +kernel
theorem ef_2 (m : MethodId) (x0 : Addr) (x1 : Int32) (x2 : Int32) : entryFrame m #[(.ref x0), (.int x1), (.int x2)] 3 = mkF m 0 #[.val (.ref x0), .val (.int x1), .val (.int x2)] [] := by first | (simp [entryFrame, mkF, argsToLocals, Value.category, maxLocals]; done) | rfl
def Q2 (Z : State) (a1 : Addr) (pos : Int32) (b : Int32) (n : Int32) (g : Nat → Int32) (h0 : Heap) (n0 : Nat) (v : Option Value) (h : Heap) (L : List Loc) : Prop := v = none ∧ Fr n0 L ∧ Keep h0 h [a1] ∧ Bv Z h a1 n (own_up g pos.toNatClampNeg b)
set_option maxRecDepth 65536 in
set_option maxHeartbeats 40000000 in
theorem rm2 (l : Launch) (Z : State) (a0 : Array Value) (hw : ∀ d ∈ tables_1, d.before a0 Z = true) (ws : List Jvm.Cond) (a1 : Addr) (pos : Int32) (b : Int32) (n : Int32) (g : Nat → Int32) (h0 : Heap) (n0 : Nat) (Z0 : n0 ≤ h0.size) (V1 : Bv Z h0 a1 n g) (hp : ¬ pos < 0) (hbb : nar .byte b = b) (g1 : n0 ≤ a1) :
    MetFree l (⟨"cleave/io/PackedFormatHoldsMagicPinLaw", "put", "([BIB)V"⟩ : MethodName) (head1 (Jvm.Cond.code (⟨"cleave/io/PackedFormatHoldsMagicPinLaw", "put", "([BIB)V"⟩ : MethodName) method_5_code 3 none :: ws) ({ frames := 0, cells := 0, slots := 0, locals := 0 } : Room)) (fun a U => a = #[(.ref a1), (.int pos), (.int b)] ∧ Z.Warmed39 U.vm ∧ U.heap = h0) (fun _ _ _ _ _ => True) (fun _ U o U' => ∃ v L, o = .returned v ∧ Q2 Z a1 pos b n g h0 n0 v U'.heap L ∧ FrameEnd U o U' L ({ frames := 0, cells := 0, slots := 0, locals := 0 } : Room).cells ({ frames := 0, cells := 0, slots := 0, locals := 0 } : Room).slots) := by
  refine MetFree.of_bodySF (plainFor_of_name pn_cleave_io_PackedFormatHoldsMagicPinLaw) hisR ?_
  intro p e s m args below meth c s₁ Bd hml0 hP hK
  obtain ⟨rfl, hZ, hh⟩ := hP
  have hx := Bd.exec
  have hby := Bd.bytes
  have hml : c.maxLocals = 3 := hml0
  have hown : s.vm.findClass "cleave/io/PackedFormatHoldsMagicPinLaw" = some m.cls := findClass_of_methodNamed Bd.named
  have hnm := (name_of_methodNamed Bd.named Bd.method).1
  have X0 : Stand p l e ({ frames := 0, cells := 0, slots := 0, locals := 0 } : Room) s m #[(.ref a1), (.int pos), (.int b)] below meth c s₁ [] 0 0 := Stand.of_body Bd
  have e0 : s₁.heap = h0 := by rw [← hh, Bd.state]; rfl
  have N0 := Fr.nil n0
  show Run p.tables e below (PQ s below 0 0 (Q2 Z a1 pos b n g h0 n0)) (s₁.setTop (entryFrame m #[(.ref a1), (.int pos), (.int b)] 3))
  refine Run.step (fun t k => castTop (ef_2 m a1 pos b) k) ?_
  show Run _ _ _ _ (s₁.setTop (mkF m 0 #[.val (.ref a1), .val (.int pos), .val (.int b)] []))
  refine Run.step (fun t_ k_ => XS.iloadN X0.here hx rfl (hb hby d2_0) rfl (XS.aloadN X0.here hx rfl (hb hby d2_1) rfl rfl k_)) ?_
  show Run _ _ _ _ (s₁.setTop (mkF m 2 #[.val (.ref a1), .val (.int pos), .val (.int b)] [(.ref a1), (.int pos)]))
  obtain ⟨cl4, Ar4, S4, M4, H4⟩ := id V1
  refine Run.step (fun t_ k_ => X0.arraylength hx (by rw [e0]; exact Ar4.1) (State.isArrayOf_alike hZ.alike Ar4.2.1) (g := (mkF m 2 #[.val (.ref a1), .val (.int pos), .val (.int b)] [(.ref a1), (.int pos)])) rfl rfl (hb hby d2_2) _ k_) ?_
  rw [len_of S4 M4]
  show Run _ _ _ _ (s₁.setTop (mkF m 3 #[.val (.ref a1), .val (.int pos), .val (.int b)] [(.int n), (.int pos)]))
  by_cases c3 : pos < n
  · skip
    refine Run.step (fun t_ k_ => XS.icmpNo X0.here hx rfl (hb hby d2_3) rfl (XT.ii_ge_f c3) (XS.aloadN X0.here hx rfl (hb hby d2_6) rfl rfl (XS.iloadN X0.here hx rfl (hb hby d2_7) rfl (XS.iloadN X0.here hx rfl (hb hby d2_8) rfl k_)))) ?_
    show Run _ _ _ _ (s₁.setTop (mkF m 9 #[.val (.ref a1), .val (.int pos), .val (.int b)] [(.int b), (.int pos), (.ref a1)]))
    obtain ⟨cl5, Ar5, S5, M5, H5⟩ := id V1
    have hin6 : ¬ (pos < 0 ∨ cl5.slots.size ≤ (pos).toNatClampNeg) := inb_of S5 ⟨hp, c3⟩
    obtain ⟨T6, h6, X6, e6, W6, st6⟩ := stB X0 hx hZ e0 Ar5 (j := pos) hin6 (g := (mkF m 9 #[.val (.ref a1), .val (.int pos), .val (.int b)] [(.int b), (.int pos), (.ref a1)])) rfl rfl (hb hby d2_9)
    refine Run.step st6 ?_
    have f7 := Bv.set Ar5 S5 M5 H5 hbb W6
    have z9 := Nat.le_trans Z0 (Keep.of_wr W6).1
    have K10 := (Keep.refl h0 [a1]).wr W6 (Or.inl (List.mem_of_getElem? (i := 0) rfl))
    have N11 := Fr.snoc X6 N0 g1
    show Run _ _ _ _ (T6.setTop (mkF m 10 #[.val (.ref a1), .val (.int pos), .val (.int b)] []))
    exact finV X6 hx (BodyLoose.notSynchronized Bd) Bd.returns (hb hby d2_10) (by decide) (by decide) e6 ⟨rfl, N11, K10, f7⟩
  · skip
    refine Run.step (fun t_ k_ => XS.icmpYes X0.here hx rfl (pc0 := 3) (pc' := 10) rfl (hb hby d2_3) rfl (XT.ii_ge_t c3) (by decide) (by decide) k_) ?_
    show Run _ _ _ _ (s₁.setTop (mkF m 10 #[.val (.ref a1), .val (.int pos), .val (.int b)] []))
    exact finV X0 hx (BodyLoose.notSynchronized Bd) Bd.returns (hb hby d2_10) (by decide) (by decide) e0 ⟨rfl, N0, (Keep.refl h0 [a1]), (Bv.out V1 c3 hp)⟩
theorem pn_cleave_io_PackedFormat : plainName "cleave/io/PackedFormat" = true := by first | (simp [plainName, overriddenIn]; done) | decide +kernel
theorem d5_0 : decode prog_34_method_10_code 0 = .ok (.aload_n 1, 1) := by decide +kernel
theorem d5_1 : decode prog_34_method_10_code 1 = .ok (.arraylength, 1) := by decide +kernel
theorem d5_2 : decode prog_34_method_10_code 2 = .ok (.aload_n 0, 1) := by decide +kernel
theorem d5_3 : decode prog_34_method_10_code 3 = .ok (.getfield 55, 3) := by decide +kernel
theorem d5_6 : decode prog_34_method_10_code 6 = .ok (.aload_n 0, 1) := by decide +kernel
theorem d5_7 : decode prog_34_method_10_code 7 = .ok (.getfield 59, 3) := by decide +kernel
theorem d5_10 : decode prog_34_method_10_code 10 = .ok (.arraylength, 1) := by decide +kernel
theorem d5_11 : decode prog_34_method_10_code 11 = .ok (.iadd, 1) := by decide +kernel
theorem d5_12 : decode prog_34_method_10_code 12 = .ok (.if_icmp .lt 7, 3) := by decide +kernel
theorem d5_19 : decode prog_34_method_10_code 19 = .ok (.iconst 0, 1) := by decide +kernel
theorem d5_20 : decode prog_34_method_10_code 20 = .ok (.istore_n 2, 1) := by decide +kernel
theorem d5_21 : decode prog_34_method_10_code 21 = .ok (.iconst 0, 1) := by decide +kernel
theorem d5_22 : decode prog_34_method_10_code 22 = .ok (.istore_n 3, 1) := by decide +kernel
theorem d5_23 : decode prog_34_method_10_code 23 = .ok (.iload_n 2, 1) := by decide +kernel
theorem d5_24 : decode prog_34_method_10_code 24 = .ok (.ifCond .eq 41, 3) := by decide +kernel
theorem d5_65 : decode prog_34_method_10_code 65 = .ok (.iload_n 2, 1) := by decide +kernel
theorem d5_66 : decode prog_34_method_10_code 66 = .ok (.ireturn, 1) := by decide +kernel
theorem d5_15 : decode prog_34_method_10_code 15 = .ok (.iconst 1, 1) := by decide +kernel
theorem d5_16 : decode prog_34_method_10_code 16 = .ok (.goto 4, 3) := by decide +kernel
theorem d5_27 : decode prog_34_method_10_code 27 = .ok (.iload_n 3, 1) := by decide +kernel
theorem d5_28 : decode prog_34_method_10_code 28 = .ok (.aload_n 0, 1) := by decide +kernel
theorem d5_29 : decode prog_34_method_10_code 29 = .ok (.getfield 59, 3) := by decide +kernel
theorem d5_32 : decode prog_34_method_10_code 32 = .ok (.arraylength, 1) := by decide +kernel
theorem d5_33 : decode prog_34_method_10_code 33 = .ok (.if_icmp .ge 32, 3) := by decide +kernel
theorem d5_36 : decode prog_34_method_10_code 36 = .ok (.aload_n 1, 1) := by decide +kernel
theorem d5_37 : decode prog_34_method_10_code 37 = .ok (.aload_n 0, 1) := by decide +kernel
theorem d5_38 : decode prog_34_method_10_code 38 = .ok (.getfield 55, 3) := by decide +kernel
theorem d5_41 : decode prog_34_method_10_code 41 = .ok (.iload_n 3, 1) := by decide +kernel
theorem d5_42 : decode prog_34_method_10_code 42 = .ok (.iadd, 1) := by decide +kernel
theorem d5_43 : decode prog_34_method_10_code 43 = .ok (.baload, 1) := by decide +kernel
theorem d5_44 : decode prog_34_method_10_code 44 = .ok (.aload_n 0, 1) := by decide +kernel
theorem d5_45 : decode prog_34_method_10_code 45 = .ok (.getfield 59, 3) := by decide +kernel
theorem d5_48 : decode prog_34_method_10_code 48 = .ok (.iload_n 3, 1) := by decide +kernel
theorem d5_49 : decode prog_34_method_10_code 49 = .ok (.baload, 1) := by decide +kernel
theorem d5_50 : decode prog_34_method_10_code 50 = .ok (.if_icmp .ne 7, 3) := by decide +kernel
theorem d5_53 : decode prog_34_method_10_code 53 = .ok (.iconst 1, 1) := by decide +kernel
theorem d5_54 : decode prog_34_method_10_code 54 = .ok (.goto 4, 3) := by decide +kernel
theorem d5_58 : decode prog_34_method_10_code 58 = .ok (.istore_n 2, 1) := by decide +kernel
theorem d5_59 : decode prog_34_method_10_code 59 = .ok (.iinc 3 1, 3) := by decide +kernel
theorem d5_62 : decode prog_34_method_10_code 62 = .ok (.goto (-39), 3) := by decide +kernel
theorem d5_57 : decode prog_34_method_10_code 57 = .ok (.iconst 0, 1) := by decide +kernel
theorem ef_5_BZIP2 (m : MethodId) (x0 : Addr) (x1 : Addr) : entryFrame m #[(.ref x0), (.ref x1)] 4 = mkF m 0 #[.val (.ref x0), .val (.ref x1), .unset, .unset] [] := by first | (simp [entryFrame, mkF, argsToLocals, Value.category, maxLocals]; done) | rfl
def Q5_BZIP2 (Z : State) (a1 : Addr) (a2 : Addr) (mg : Addr) (km : ClassId) (nn : Int32) (g : Nat → Int32) (h0 : Heap) (n0 : Nat) (v : Option Value) (h : Heap) (L : List Loc) : Prop := v = some (.int (if nn < (3 : Int32) then 0 else (if g 0 = (66 : Int32) then (if g 1 = (90 : Int32) then (if g 2 = (104 : Int32) then (1) else 0) else 0) else 0))) ∧ Fr n0 L ∧ h = h0
set_option maxRecDepth 65536 in
set_option maxHeartbeats 40000000 in
theorem rm5_BZIP2 (l : Launch) (Z : State) (a0 : Array Value) (hw : ∀ d ∈ tables_1, d.before a0 Z = true) (ws : List Jvm.Cond) (a1 : Addr) (a2 : Addr) (mg : Addr) (km : ClassId) (nn : Int32) (g : Nat → Int32) (h0 : Heap) (n0 : Nat) (Z0 : n0 ≤ h0.size) (F1 : Fld Z h0 a1 "cleave/io/PackedFormat" "offset" "I" (.int (0 : Int32))) (F2 : Fld Z h0 a1 "cleave/io/PackedFormat" "magic" "[B" (.ref mg)) (VM : Arv Z h0 mg km .byte (3 : Int32) [(.int (66 : Int32)), (.int (90 : Int32)), (.int (104 : Int32))] (.int (0 : Int32))) (VT : Bv Z h0 a2 nn g) :
    MetFree l (⟨"cleave/io/PackedFormat", "holdsMagic", "([B)Z"⟩ : MethodName) (head1 (Jvm.Cond.code (⟨"cleave/io/PackedFormat", "holdsMagic", "([B)Z"⟩ : MethodName) prog_34_method_10_code 4 (some .boolean) :: ws) ({ frames := 0, cells := 0, slots := 0, locals := 0 } : Room)) (fun a U => a = #[(.ref a1), (.ref a2)] ∧ Z.Warmed39 U.vm ∧ U.heap = h0) (fun _ _ _ _ _ => True) (fun _ U o U' => ∃ v L, o = .returned v ∧ Q5_BZIP2 Z a1 a2 mg km nn g h0 n0 v U'.heap L ∧ FrameEnd U o U' L ({ frames := 0, cells := 0, slots := 0, locals := 0 } : Room).cells ({ frames := 0, cells := 0, slots := 0, locals := 0 } : Room).slots) := by
  refine MetFree.of_bodySF (plainFor_of_name pn_cleave_io_PackedFormat) hisR ?_
  intro p e s m args below meth c s₁ Bd hml0 hP hK
  obtain ⟨rfl, hZ, hh⟩ := hP
  have hx := Bd.exec
  have hby := Bd.bytes
  have w23 := hw _ (List.mem_of_getElem? (i := 23) rfl)
  have w25 := hw _ (List.mem_of_getElem? (i := 25) rfl)
  have hml : c.maxLocals = 4 := hml0
  have hown : s.vm.findClass "cleave/io/PackedFormat" = some m.cls := findClass_of_methodNamed Bd.named
  have hnm := (name_of_methodNamed Bd.named Bd.method).1
  have X0 : Stand p l e ({ frames := 0, cells := 0, slots := 0, locals := 0 } : Room) s m #[(.ref a1), (.ref a2)] below meth c s₁ [] 0 0 := Stand.of_body Bd
  have e0 : s₁.heap = h0 := by rw [← hh, Bd.state]; rfl
  have N0 := Fr.nil n0
  show Run p.tables e below (PQ s below 0 0 (Q5_BZIP2 Z a1 a2 mg km nn g h0 n0)) (s₁.setTop (entryFrame m #[(.ref a1), (.ref a2)] 4))
  refine Run.step (fun t k => castTop (ef_5_BZIP2 m a1 a2) k) ?_
  show Run _ _ _ _ (s₁.setTop (mkF m 0 #[.val (.ref a1), .val (.ref a2), .unset, .unset] []))
  refine Run.step (fun t_ k_ => XS.aloadN X0.here hx rfl (hb hby d5_0) rfl rfl k_) ?_
  show Run _ _ _ _ (s₁.setTop (mkF m 1 #[.val (.ref a1), .val (.ref a2), .unset, .unset] [(.ref a2)]))
  obtain ⟨cl12, Ar12, S12, M12, H12⟩ := id VT
  refine Run.step (fun t_ k_ => X0.arraylength hx (by rw [e0]; exact Ar12.1) (State.isArrayOf_alike hZ.alike Ar12.2.1) (g := (mkF m 1 #[.val (.ref a1), .val (.ref a2), .unset, .unset] [(.ref a2)])) rfl rfl (hb hby d5_1) _ k_) ?_
  rw [len_of S12 M12]
  show Run _ _ _ _ (s₁.setTop (mkF m 2 #[.val (.ref a1), .val (.ref a2), .unset, .unset] [(.int nn)]))
  refine Run.step (fun t_ k_ => XS.aloadN X0.here hx rfl (hb hby d5_2) rfl rfl k_) ?_
  show Run _ _ _ _ (s₁.setTop (mkF m 3 #[.val (.ref a1), .val (.ref a2), .unset, .unset] [(.ref a1), (.int nn)]))
  obtain ⟨T13, X13, e13, st13⟩ := getF X0 hx hZ hown (host := "") (Or.inl w23) Via.refl e0 F1 (g := (mkF m 3 #[.val (.ref a1), .val (.ref a2), .unset, .unset] [(.ref a1), (.int nn)])) rfl rfl (hb hby d5_3)
  refine Run.step st13 ?_
  show Run _ _ _ _ (T13.setTop (mkF m 6 #[.val (.ref a1), .val (.ref a2), .unset, .unset] [(.int (0 : Int32)), (.int nn)]))
  refine Run.step (fun t_ k_ => XS.aloadN X13.here hx rfl (hb hby d5_6) rfl rfl k_) ?_
  show Run _ _ _ _ (T13.setTop (mkF m 7 #[.val (.ref a1), .val (.ref a2), .unset, .unset] [(.ref a1), (.int (0 : Int32)), (.int nn)]))
  obtain ⟨T14, X14, e14, st14⟩ := getF X13 hx hZ hown (host := "") (Or.inl w25) Via.refl e13 F2 (g := (mkF m 7 #[.val (.ref a1), .val (.ref a2), .unset, .unset] [(.ref a1), (.int (0 : Int32)), (.int nn)])) rfl rfl (hb hby d5_7)
  refine Run.step st14 ?_
  show Run _ _ _ _ (T14.setTop (mkF m 10 #[.val (.ref a1), .val (.ref a2), .unset, .unset] [(.ref mg), (.int (0 : Int32)), (.int nn)]))
  obtain ⟨cl15, Ar15, q15, S15, M15, H15, U15⟩ := id VM
  refine Run.step (fun t_ k_ => X14.arraylength hx (by rw [e14]; exact Ar15.1) (State.isArrayOf_alike hZ.alike Ar15.2.1) (g := (mkF m 10 #[.val (.ref a1), .val (.ref a2), .unset, .unset] [(.ref mg), (.int (0 : Int32)), (.int nn)])) rfl rfl (hb hby d5_10) _ k_) ?_
  rw [len_of S15 M15]
  show Run _ _ _ _ (T14.setTop (mkF m 11 #[.val (.ref a1), .val (.ref a2), .unset, .unset] [(.int (3 : Int32)), (.int (0 : Int32)), (.int nn)]))
  refine Run.step (fun t_ k_ => XS.iadd X14.here hx rfl (hb hby d5_11) rfl k_) ?_
  show Run _ _ _ _ (T14.setTop (mkF m 12 #[.val (.ref a1), .val (.ref a2), .unset, .unset] [(.int (3 : Int32)), (.int nn)]))
  by_cases c12 : nn < (3 : Int32)
  · skip
    refine Run.step (fun t_ k_ => XS.icmpYes X14.here hx rfl (pc0 := 12) (pc' := 19) rfl (hb hby d5_12) rfl (XT.ii_lt_t c12) (by decide) (by decide) (XS.iconst X14.here hx rfl (hb hby d5_19) (XS.istoreN X14.here hx rfl (hb hby d5_20) rfl (l' := #[.val (.ref a1), .val (.ref a2), .val (.int (0 : Int32)), .unset]) rfl (XS.iconst X14.here hx rfl (hb hby d5_21) (XS.istoreN X14.here hx rfl (hb hby d5_22) rfl (l' := #[.val (.ref a1), .val (.ref a2), .val (.int (0 : Int32)), .val (.int (0 : Int32))]) rfl (XS.iloadN X14.here hx rfl (hb hby d5_23) rfl k_)))))) ?_
    show Run _ _ _ _ (T14.setTop (mkF m 24 #[.val (.ref a1), .val (.ref a2), .val (.int (0 : Int32)), .val (.int (0 : Int32))] [(.int (0 : Int32))]))
    refine Run.step (fun t_ k_ => XS.ifYes X14.here hx rfl (pc0 := 24) (pc' := 65) rfl (hb hby d5_24) rfl (XT.i0_eq_t (by decide : (0 : Int32) = (0 : Int32))) (by decide) (by decide) (XS.iloadN X14.here hx rfl (hb hby d5_65) rfl k_)) ?_
    show Run _ _ _ _ (T14.setTop (mkF m 66 #[.val (.ref a1), .val (.ref a2), .val (.int (0 : Int32)), .val (.int (0 : Int32))] [(.int (0 : Int32))]))
    exact finZ X14 hx (BodyLoose.notSynchronized Bd) Bd.returns (hb hby d5_66) (by decide) (by decide) (by decide) e14 ⟨congrArg (fun z => some (Value.int z)) (if_pos c12).symm, N0, rfl⟩
  · skip
    refine Run.step (fun t_ k_ => XS.icmpNo X14.here hx rfl (hb hby d5_12) rfl (XT.ii_lt_f c12) (XS.iconst X14.here hx rfl (hb hby d5_15) (XS.goto X14.here hx rfl (pc0 := 16) (pc' := 20) rfl (hb hby d5_16) (by decide) (by decide) (XS.istoreN X14.here hx rfl (hb hby d5_20) rfl (l' := #[.val (.ref a1), .val (.ref a2), .val (.int (1 : Int32)), .unset]) rfl (XS.iconst X14.here hx rfl (hb hby d5_21) (XS.istoreN X14.here hx rfl (hb hby d5_22) rfl (l' := #[.val (.ref a1), .val (.ref a2), .val (.int (1 : Int32)), .val (.int (0 : Int32))]) rfl k_)))))) ?_
    show Run _ _ _ _ (T14.setTop (mkF m 23 #[.val (.ref a1), .val (.ref a2), .val (.int (1 : Int32)), .val (.int (0 : Int32))] []))
    refine Run.step (fun t_ k_ => XS.iloadN X14.here hx rfl (hb hby d5_23) rfl (XS.ifNo X14.here hx rfl (hb hby d5_24) rfl (XT.i0_eq_f (by decide : ¬ ((1 : Int32) = (0 : Int32)))) (XS.iloadN X14.here hx rfl (hb hby d5_27) rfl (XS.aloadN X14.here hx rfl (hb hby d5_28) rfl rfl k_)))) ?_
    show Run _ _ _ _ (T14.setTop (mkF m 29 #[.val (.ref a1), .val (.ref a2), .val (.int (1 : Int32)), .val (.int (0 : Int32))] [(.ref a1), (.int (0 : Int32))]))
    obtain ⟨T16, X16, e16, st16⟩ := getF X14 hx hZ hown (host := "") (Or.inl w25) Via.refl e14 F2 (g := (mkF m 29 #[.val (.ref a1), .val (.ref a2), .val (.int (1 : Int32)), .val (.int (0 : Int32))] [(.ref a1), (.int (0 : Int32))])) rfl rfl (hb hby d5_29)
    refine Run.step st16 ?_
    show Run _ _ _ _ (T16.setTop (mkF m 32 #[.val (.ref a1), .val (.ref a2), .val (.int (1 : Int32)), .val (.int (0 : Int32))] [(.ref mg), (.int (0 : Int32))]))
    obtain ⟨cl17, Ar17, q17, S17, M17, H17, U17⟩ := id VM
    refine Run.step (fun t_ k_ => X16.arraylength hx (by rw [e16]; exact Ar17.1) (State.isArrayOf_alike hZ.alike Ar17.2.1) (g := (mkF m 32 #[.val (.ref a1), .val (.ref a2), .val (.int (1 : Int32)), .val (.int (0 : Int32))] [(.ref mg), (.int (0 : Int32))])) rfl rfl (hb hby d5_32) _ k_) ?_
    rw [len_of S17 M17]
    show Run _ _ _ _ (T16.setTop (mkF m 33 #[.val (.ref a1), .val (.ref a2), .val (.int (1 : Int32)), .val (.int (0 : Int32))] [(.int (3 : Int32)), (.int (0 : Int32))]))
    refine Run.step (fun t_ k_ => XS.icmpNo X16.here hx rfl (hb hby d5_33) rfl (XT.ii_ge_f (by decide : (0 : Int32) < (3 : Int32))) (XS.aloadN X16.here hx rfl (hb hby d5_36) rfl rfl (XS.aloadN X16.here hx rfl (hb hby d5_37) rfl rfl k_))) ?_
    show Run _ _ _ _ (T16.setTop (mkF m 38 #[.val (.ref a1), .val (.ref a2), .val (.int (1 : Int32)), .val (.int (0 : Int32))] [(.ref a1), (.ref a2)]))
    obtain ⟨T18, X18, e18, st18⟩ := getF X16 hx hZ hown (host := "") (Or.inl w23) Via.refl e16 F1 (g := (mkF m 38 #[.val (.ref a1), .val (.ref a2), .val (.int (1 : Int32)), .val (.int (0 : Int32))] [(.ref a1), (.ref a2)])) rfl rfl (hb hby d5_38)
    refine Run.step st18 ?_
    show Run _ _ _ _ (T18.setTop (mkF m 41 #[.val (.ref a1), .val (.ref a2), .val (.int (1 : Int32)), .val (.int (0 : Int32))] [(.int (0 : Int32)), (.ref a2)]))
    refine Run.step (fun t_ k_ => XS.iloadN X18.here hx rfl (hb hby d5_41) rfl (XS.iadd X18.here hx rfl (hb hby d5_42) rfl k_)) ?_
    show Run _ _ _ _ (T18.setTop (mkF m 43 #[.val (.ref a1), .val (.ref a2), .val (.int (1 : Int32)), .val (.int (0 : Int32))] [(.int (0 : Int32)), (.ref a2)]))
    obtain ⟨cl19, Ar19, S19, M19, H19⟩ := id VT
    have hin20 : ¬ ((0 : Int32) < 0 ∨ cl19.slots.size ≤ ((0 : Int32)).toNatClampNeg) := inb_of S19 ⟨by decide, own_in c12 (by decide)⟩
    have hat20 : cl19.slots[((0 : Int32)).toNatClampNeg]? = some (.int (g 0)) := H19 _ (Nat.lt_of_not_le fun q => hin20 (Or.inr q))
    refine Run.step (fun t_ k_ => X18.baloadBytes hx (j := (0 : Int32)) (v := (.int (g 0))) (by rw [e18]; exact Ar19.1) (State.isArrayOf_alike hZ.alike Ar19.2.1) Ar19.2.2 hin20 hat20 (g := (mkF m 43 #[.val (.ref a1), .val (.ref a2), .val (.int (1 : Int32)), .val (.int (0 : Int32))] [(.int (0 : Int32)), (.ref a2)])) rfl rfl (hb hby d5_43) _ (XS.aloadN X18.here hx rfl (hb hby d5_44) rfl rfl k_)) ?_
    show Run _ _ _ _ (T18.setTop (mkF m 45 #[.val (.ref a1), .val (.ref a2), .val (.int (1 : Int32)), .val (.int (0 : Int32))] [(.ref a1), (.int (g 0))]))
    obtain ⟨T21, X21, e21, st21⟩ := getF X18 hx hZ hown (host := "") (Or.inl w25) Via.refl e18 F2 (g := (mkF m 45 #[.val (.ref a1), .val (.ref a2), .val (.int (1 : Int32)), .val (.int (0 : Int32))] [(.ref a1), (.int (g 0))])) rfl rfl (hb hby d5_45)
    refine Run.step st21 ?_
    show Run _ _ _ _ (T21.setTop (mkF m 48 #[.val (.ref a1), .val (.ref a2), .val (.int (1 : Int32)), .val (.int (0 : Int32))] [(.ref mg), (.int (g 0))]))
    refine Run.step (fun t_ k_ => XS.iloadN X21.here hx rfl (hb hby d5_48) rfl k_) ?_
    show Run _ _ _ _ (T21.setTop (mkF m 49 #[.val (.ref a1), .val (.ref a2), .val (.int (1 : Int32)), .val (.int (0 : Int32))] [(.int (0 : Int32)), (.ref mg), (.int (g 0))]))
    obtain ⟨cl22, Ar22, q22, S22, M22, H22, U22⟩ := id VM
    have hin23 : ¬ ((0 : Int32) < 0 ∨ cl22.slots.size ≤ ((0 : Int32)).toNatClampNeg) := inb_of S22 ⟨by decide, by decide⟩
    have hat23 : cl22.slots[((0 : Int32)).toNatClampNeg]? = some (.int (66 : Int32)) := H22.at hin23 rfl
    refine Run.step (fun t_ k_ => X21.baloadBytes hx (j := (0 : Int32)) (v := (.int (66 : Int32))) (by rw [e21]; exact Ar22.1) (State.isArrayOf_alike hZ.alike Ar22.2.1) Ar22.2.2 hin23 hat23 (g := (mkF m 49 #[.val (.ref a1), .val (.ref a2), .val (.int (1 : Int32)), .val (.int (0 : Int32))] [(.int (0 : Int32)), (.ref mg), (.int (g 0))])) rfl rfl (hb hby d5_49) _ k_) ?_
    show Run _ _ _ _ (T21.setTop (mkF m 50 #[.val (.ref a1), .val (.ref a2), .val (.int (1 : Int32)), .val (.int (0 : Int32))] [(.int (66 : Int32)), (.int (g 0))]))
    by_cases c50 : (g 0) = (66 : Int32)
    · skip
      refine Run.step (fun t_ k_ => XS.icmpNo X21.here hx rfl (hb hby d5_50) rfl (XT.ii_ne_f c50) (XS.iconst X21.here hx rfl (hb hby d5_53) (XS.goto X21.here hx rfl (pc0 := 54) (pc' := 58) rfl (hb hby d5_54) (by decide) (by decide) (XS.istoreN X21.here hx rfl (hb hby d5_58) rfl (l' := #[.val (.ref a1), .val (.ref a2), .val (.int (1 : Int32)), .val (.int (0 : Int32))]) rfl (XS.iinc X21.here hx rfl (hb hby d5_59) rfl (l' := #[.val (.ref a1), .val (.ref a2), .val (.int (1 : Int32)), .val (.int (1 : Int32))]) rfl (XS.goto X21.here hx rfl (pc0 := 62) (pc' := 23) rfl (hb hby d5_62) (by decide) (by decide) k_)))))) ?_
      show Run _ _ _ _ (T21.setTop (mkF m 23 #[.val (.ref a1), .val (.ref a2), .val (.int (1 : Int32)), .val (.int (1 : Int32))] []))
      refine Run.step (fun t_ k_ => XS.iloadN X21.here hx rfl (hb hby d5_23) rfl (XS.ifNo X21.here hx rfl (hb hby d5_24) rfl (XT.i0_eq_f (by decide : ¬ ((1 : Int32) = (0 : Int32)))) (XS.iloadN X21.here hx rfl (hb hby d5_27) rfl (XS.aloadN X21.here hx rfl (hb hby d5_28) rfl rfl k_)))) ?_
      show Run _ _ _ _ (T21.setTop (mkF m 29 #[.val (.ref a1), .val (.ref a2), .val (.int (1 : Int32)), .val (.int (1 : Int32))] [(.ref a1), (.int (1 : Int32))]))
      obtain ⟨T24, X24, e24, st24⟩ := getF X21 hx hZ hown (host := "") (Or.inl w25) Via.refl e21 F2 (g := (mkF m 29 #[.val (.ref a1), .val (.ref a2), .val (.int (1 : Int32)), .val (.int (1 : Int32))] [(.ref a1), (.int (1 : Int32))])) rfl rfl (hb hby d5_29)
      refine Run.step st24 ?_
      show Run _ _ _ _ (T24.setTop (mkF m 32 #[.val (.ref a1), .val (.ref a2), .val (.int (1 : Int32)), .val (.int (1 : Int32))] [(.ref mg), (.int (1 : Int32))]))
      obtain ⟨cl25, Ar25, q25, S25, M25, H25, U25⟩ := id VM
      refine Run.step (fun t_ k_ => X24.arraylength hx (by rw [e24]; exact Ar25.1) (State.isArrayOf_alike hZ.alike Ar25.2.1) (g := (mkF m 32 #[.val (.ref a1), .val (.ref a2), .val (.int (1 : Int32)), .val (.int (1 : Int32))] [(.ref mg), (.int (1 : Int32))])) rfl rfl (hb hby d5_32) _ k_) ?_
      rw [len_of S25 M25]
      show Run _ _ _ _ (T24.setTop (mkF m 33 #[.val (.ref a1), .val (.ref a2), .val (.int (1 : Int32)), .val (.int (1 : Int32))] [(.int (3 : Int32)), (.int (1 : Int32))]))
      refine Run.step (fun t_ k_ => XS.icmpNo X24.here hx rfl (hb hby d5_33) rfl (XT.ii_ge_f (by decide : (1 : Int32) < (3 : Int32))) (XS.aloadN X24.here hx rfl (hb hby d5_36) rfl rfl (XS.aloadN X24.here hx rfl (hb hby d5_37) rfl rfl k_))) ?_
      show Run _ _ _ _ (T24.setTop (mkF m 38 #[.val (.ref a1), .val (.ref a2), .val (.int (1 : Int32)), .val (.int (1 : Int32))] [(.ref a1), (.ref a2)]))
      obtain ⟨T26, X26, e26, st26⟩ := getF X24 hx hZ hown (host := "") (Or.inl w23) Via.refl e24 F1 (g := (mkF m 38 #[.val (.ref a1), .val (.ref a2), .val (.int (1 : Int32)), .val (.int (1 : Int32))] [(.ref a1), (.ref a2)])) rfl rfl (hb hby d5_38)
      refine Run.step st26 ?_
      show Run _ _ _ _ (T26.setTop (mkF m 41 #[.val (.ref a1), .val (.ref a2), .val (.int (1 : Int32)), .val (.int (1 : Int32))] [(.int (0 : Int32)), (.ref a2)]))
      refine Run.step (fun t_ k_ => XS.iloadN X26.here hx rfl (hb hby d5_41) rfl (XS.iadd X26.here hx rfl (hb hby d5_42) rfl k_)) ?_
      show Run _ _ _ _ (T26.setTop (mkF m 43 #[.val (.ref a1), .val (.ref a2), .val (.int (1 : Int32)), .val (.int (1 : Int32))] [(.int (1 : Int32)), (.ref a2)]))
      obtain ⟨cl27, Ar27, S27, M27, H27⟩ := id VT
      have hin28 : ¬ ((1 : Int32) < 0 ∨ cl27.slots.size ≤ ((1 : Int32)).toNatClampNeg) := inb_of S27 ⟨by decide, own_in c12 (by decide)⟩
      have hat28 : cl27.slots[((1 : Int32)).toNatClampNeg]? = some (.int (g 1)) := H27 _ (Nat.lt_of_not_le fun q => hin28 (Or.inr q))
      refine Run.step (fun t_ k_ => X26.baloadBytes hx (j := (1 : Int32)) (v := (.int (g 1))) (by rw [e26]; exact Ar27.1) (State.isArrayOf_alike hZ.alike Ar27.2.1) Ar27.2.2 hin28 hat28 (g := (mkF m 43 #[.val (.ref a1), .val (.ref a2), .val (.int (1 : Int32)), .val (.int (1 : Int32))] [(.int (1 : Int32)), (.ref a2)])) rfl rfl (hb hby d5_43) _ (XS.aloadN X26.here hx rfl (hb hby d5_44) rfl rfl k_)) ?_
      show Run _ _ _ _ (T26.setTop (mkF m 45 #[.val (.ref a1), .val (.ref a2), .val (.int (1 : Int32)), .val (.int (1 : Int32))] [(.ref a1), (.int (g 1))]))
      obtain ⟨T29, X29, e29, st29⟩ := getF X26 hx hZ hown (host := "") (Or.inl w25) Via.refl e26 F2 (g := (mkF m 45 #[.val (.ref a1), .val (.ref a2), .val (.int (1 : Int32)), .val (.int (1 : Int32))] [(.ref a1), (.int (g 1))])) rfl rfl (hb hby d5_45)
      refine Run.step st29 ?_
      show Run _ _ _ _ (T29.setTop (mkF m 48 #[.val (.ref a1), .val (.ref a2), .val (.int (1 : Int32)), .val (.int (1 : Int32))] [(.ref mg), (.int (g 1))]))
      refine Run.step (fun t_ k_ => XS.iloadN X29.here hx rfl (hb hby d5_48) rfl k_) ?_
      show Run _ _ _ _ (T29.setTop (mkF m 49 #[.val (.ref a1), .val (.ref a2), .val (.int (1 : Int32)), .val (.int (1 : Int32))] [(.int (1 : Int32)), (.ref mg), (.int (g 1))]))
      obtain ⟨cl30, Ar30, q30, S30, M30, H30, U30⟩ := id VM
      have hin31 : ¬ ((1 : Int32) < 0 ∨ cl30.slots.size ≤ ((1 : Int32)).toNatClampNeg) := inb_of S30 ⟨by decide, by decide⟩
      have hat31 : cl30.slots[((1 : Int32)).toNatClampNeg]? = some (.int (90 : Int32)) := H30.at hin31 rfl
      refine Run.step (fun t_ k_ => X29.baloadBytes hx (j := (1 : Int32)) (v := (.int (90 : Int32))) (by rw [e29]; exact Ar30.1) (State.isArrayOf_alike hZ.alike Ar30.2.1) Ar30.2.2 hin31 hat31 (g := (mkF m 49 #[.val (.ref a1), .val (.ref a2), .val (.int (1 : Int32)), .val (.int (1 : Int32))] [(.int (1 : Int32)), (.ref mg), (.int (g 1))])) rfl rfl (hb hby d5_49) _ k_) ?_
      show Run _ _ _ _ (T29.setTop (mkF m 50 #[.val (.ref a1), .val (.ref a2), .val (.int (1 : Int32)), .val (.int (1 : Int32))] [(.int (90 : Int32)), (.int (g 1))]))
      by_cases c50_32 : (g 1) = (90 : Int32)
      · skip
        refine Run.step (fun t_ k_ => XS.icmpNo X29.here hx rfl (hb hby d5_50) rfl (XT.ii_ne_f c50_32) (XS.iconst X29.here hx rfl (hb hby d5_53) (XS.goto X29.here hx rfl (pc0 := 54) (pc' := 58) rfl (hb hby d5_54) (by decide) (by decide) (XS.istoreN X29.here hx rfl (hb hby d5_58) rfl (l' := #[.val (.ref a1), .val (.ref a2), .val (.int (1 : Int32)), .val (.int (1 : Int32))]) rfl (XS.iinc X29.here hx rfl (hb hby d5_59) rfl (l' := #[.val (.ref a1), .val (.ref a2), .val (.int (1 : Int32)), .val (.int (2 : Int32))]) rfl (XS.goto X29.here hx rfl (pc0 := 62) (pc' := 23) rfl (hb hby d5_62) (by decide) (by decide) k_)))))) ?_
        show Run _ _ _ _ (T29.setTop (mkF m 23 #[.val (.ref a1), .val (.ref a2), .val (.int (1 : Int32)), .val (.int (2 : Int32))] []))
        refine Run.step (fun t_ k_ => XS.iloadN X29.here hx rfl (hb hby d5_23) rfl (XS.ifNo X29.here hx rfl (hb hby d5_24) rfl (XT.i0_eq_f (by decide : ¬ ((1 : Int32) = (0 : Int32)))) (XS.iloadN X29.here hx rfl (hb hby d5_27) rfl (XS.aloadN X29.here hx rfl (hb hby d5_28) rfl rfl k_)))) ?_
        show Run _ _ _ _ (T29.setTop (mkF m 29 #[.val (.ref a1), .val (.ref a2), .val (.int (1 : Int32)), .val (.int (2 : Int32))] [(.ref a1), (.int (2 : Int32))]))
        obtain ⟨T33, X33, e33, st33⟩ := getF X29 hx hZ hown (host := "") (Or.inl w25) Via.refl e29 F2 (g := (mkF m 29 #[.val (.ref a1), .val (.ref a2), .val (.int (1 : Int32)), .val (.int (2 : Int32))] [(.ref a1), (.int (2 : Int32))])) rfl rfl (hb hby d5_29)
        refine Run.step st33 ?_
        show Run _ _ _ _ (T33.setTop (mkF m 32 #[.val (.ref a1), .val (.ref a2), .val (.int (1 : Int32)), .val (.int (2 : Int32))] [(.ref mg), (.int (2 : Int32))]))
        obtain ⟨cl34, Ar34, q34, S34, M34, H34, U34⟩ := id VM
        refine Run.step (fun t_ k_ => X33.arraylength hx (by rw [e33]; exact Ar34.1) (State.isArrayOf_alike hZ.alike Ar34.2.1) (g := (mkF m 32 #[.val (.ref a1), .val (.ref a2), .val (.int (1 : Int32)), .val (.int (2 : Int32))] [(.ref mg), (.int (2 : Int32))])) rfl rfl (hb hby d5_32) _ k_) ?_
        rw [len_of S34 M34]
        show Run _ _ _ _ (T33.setTop (mkF m 33 #[.val (.ref a1), .val (.ref a2), .val (.int (1 : Int32)), .val (.int (2 : Int32))] [(.int (3 : Int32)), (.int (2 : Int32))]))
        refine Run.step (fun t_ k_ => XS.icmpNo X33.here hx rfl (hb hby d5_33) rfl (XT.ii_ge_f (by decide : (2 : Int32) < (3 : Int32))) (XS.aloadN X33.here hx rfl (hb hby d5_36) rfl rfl (XS.aloadN X33.here hx rfl (hb hby d5_37) rfl rfl k_))) ?_
        show Run _ _ _ _ (T33.setTop (mkF m 38 #[.val (.ref a1), .val (.ref a2), .val (.int (1 : Int32)), .val (.int (2 : Int32))] [(.ref a1), (.ref a2)]))
        obtain ⟨T35, X35, e35, st35⟩ := getF X33 hx hZ hown (host := "") (Or.inl w23) Via.refl e33 F1 (g := (mkF m 38 #[.val (.ref a1), .val (.ref a2), .val (.int (1 : Int32)), .val (.int (2 : Int32))] [(.ref a1), (.ref a2)])) rfl rfl (hb hby d5_38)
        refine Run.step st35 ?_
        show Run _ _ _ _ (T35.setTop (mkF m 41 #[.val (.ref a1), .val (.ref a2), .val (.int (1 : Int32)), .val (.int (2 : Int32))] [(.int (0 : Int32)), (.ref a2)]))
        refine Run.step (fun t_ k_ => XS.iloadN X35.here hx rfl (hb hby d5_41) rfl (XS.iadd X35.here hx rfl (hb hby d5_42) rfl k_)) ?_
        show Run _ _ _ _ (T35.setTop (mkF m 43 #[.val (.ref a1), .val (.ref a2), .val (.int (1 : Int32)), .val (.int (2 : Int32))] [(.int (2 : Int32)), (.ref a2)]))
        obtain ⟨cl36, Ar36, S36, M36, H36⟩ := id VT
        have hin37 : ¬ ((2 : Int32) < 0 ∨ cl36.slots.size ≤ ((2 : Int32)).toNatClampNeg) := inb_of S36 ⟨by decide, own_in c12 (by decide)⟩
        have hat37 : cl36.slots[((2 : Int32)).toNatClampNeg]? = some (.int (g 2)) := H36 _ (Nat.lt_of_not_le fun q => hin37 (Or.inr q))
        refine Run.step (fun t_ k_ => X35.baloadBytes hx (j := (2 : Int32)) (v := (.int (g 2))) (by rw [e35]; exact Ar36.1) (State.isArrayOf_alike hZ.alike Ar36.2.1) Ar36.2.2 hin37 hat37 (g := (mkF m 43 #[.val (.ref a1), .val (.ref a2), .val (.int (1 : Int32)), .val (.int (2 : Int32))] [(.int (2 : Int32)), (.ref a2)])) rfl rfl (hb hby d5_43) _ (XS.aloadN X35.here hx rfl (hb hby d5_44) rfl rfl k_)) ?_
        show Run _ _ _ _ (T35.setTop (mkF m 45 #[.val (.ref a1), .val (.ref a2), .val (.int (1 : Int32)), .val (.int (2 : Int32))] [(.ref a1), (.int (g 2))]))
        obtain ⟨T38, X38, e38, st38⟩ := getF X35 hx hZ hown (host := "") (Or.inl w25) Via.refl e35 F2 (g := (mkF m 45 #[.val (.ref a1), .val (.ref a2), .val (.int (1 : Int32)), .val (.int (2 : Int32))] [(.ref a1), (.int (g 2))])) rfl rfl (hb hby d5_45)
        refine Run.step st38 ?_
        show Run _ _ _ _ (T38.setTop (mkF m 48 #[.val (.ref a1), .val (.ref a2), .val (.int (1 : Int32)), .val (.int (2 : Int32))] [(.ref mg), (.int (g 2))]))
        refine Run.step (fun t_ k_ => XS.iloadN X38.here hx rfl (hb hby d5_48) rfl k_) ?_
        show Run _ _ _ _ (T38.setTop (mkF m 49 #[.val (.ref a1), .val (.ref a2), .val (.int (1 : Int32)), .val (.int (2 : Int32))] [(.int (2 : Int32)), (.ref mg), (.int (g 2))]))
        obtain ⟨cl39, Ar39, q39, S39, M39, H39, U39⟩ := id VM
        have hin40 : ¬ ((2 : Int32) < 0 ∨ cl39.slots.size ≤ ((2 : Int32)).toNatClampNeg) := inb_of S39 ⟨by decide, by decide⟩
        have hat40 : cl39.slots[((2 : Int32)).toNatClampNeg]? = some (.int (104 : Int32)) := H39.at hin40 rfl
        refine Run.step (fun t_ k_ => X38.baloadBytes hx (j := (2 : Int32)) (v := (.int (104 : Int32))) (by rw [e38]; exact Ar39.1) (State.isArrayOf_alike hZ.alike Ar39.2.1) Ar39.2.2 hin40 hat40 (g := (mkF m 49 #[.val (.ref a1), .val (.ref a2), .val (.int (1 : Int32)), .val (.int (2 : Int32))] [(.int (2 : Int32)), (.ref mg), (.int (g 2))])) rfl rfl (hb hby d5_49) _ k_) ?_
        show Run _ _ _ _ (T38.setTop (mkF m 50 #[.val (.ref a1), .val (.ref a2), .val (.int (1 : Int32)), .val (.int (2 : Int32))] [(.int (104 : Int32)), (.int (g 2))]))
        by_cases c50_41 : (g 2) = (104 : Int32)
        · skip
          refine Run.step (fun t_ k_ => XS.icmpNo X38.here hx rfl (hb hby d5_50) rfl (XT.ii_ne_f c50_41) (XS.iconst X38.here hx rfl (hb hby d5_53) (XS.goto X38.here hx rfl (pc0 := 54) (pc' := 58) rfl (hb hby d5_54) (by decide) (by decide) (XS.istoreN X38.here hx rfl (hb hby d5_58) rfl (l' := #[.val (.ref a1), .val (.ref a2), .val (.int (1 : Int32)), .val (.int (2 : Int32))]) rfl (XS.iinc X38.here hx rfl (hb hby d5_59) rfl (l' := #[.val (.ref a1), .val (.ref a2), .val (.int (1 : Int32)), .val (.int (3 : Int32))]) rfl (XS.goto X38.here hx rfl (pc0 := 62) (pc' := 23) rfl (hb hby d5_62) (by decide) (by decide) k_)))))) ?_
          show Run _ _ _ _ (T38.setTop (mkF m 23 #[.val (.ref a1), .val (.ref a2), .val (.int (1 : Int32)), .val (.int (3 : Int32))] []))
          refine Run.step (fun t_ k_ => XS.iloadN X38.here hx rfl (hb hby d5_23) rfl (XS.ifNo X38.here hx rfl (hb hby d5_24) rfl (XT.i0_eq_f (by decide : ¬ ((1 : Int32) = (0 : Int32)))) (XS.iloadN X38.here hx rfl (hb hby d5_27) rfl (XS.aloadN X38.here hx rfl (hb hby d5_28) rfl rfl k_)))) ?_
          show Run _ _ _ _ (T38.setTop (mkF m 29 #[.val (.ref a1), .val (.ref a2), .val (.int (1 : Int32)), .val (.int (3 : Int32))] [(.ref a1), (.int (3 : Int32))]))
          obtain ⟨T42, X42, e42, st42⟩ := getF X38 hx hZ hown (host := "") (Or.inl w25) Via.refl e38 F2 (g := (mkF m 29 #[.val (.ref a1), .val (.ref a2), .val (.int (1 : Int32)), .val (.int (3 : Int32))] [(.ref a1), (.int (3 : Int32))])) rfl rfl (hb hby d5_29)
          refine Run.step st42 ?_
          show Run _ _ _ _ (T42.setTop (mkF m 32 #[.val (.ref a1), .val (.ref a2), .val (.int (1 : Int32)), .val (.int (3 : Int32))] [(.ref mg), (.int (3 : Int32))]))
          obtain ⟨cl43, Ar43, q43, S43, M43, H43, U43⟩ := id VM
          refine Run.step (fun t_ k_ => X42.arraylength hx (by rw [e42]; exact Ar43.1) (State.isArrayOf_alike hZ.alike Ar43.2.1) (g := (mkF m 32 #[.val (.ref a1), .val (.ref a2), .val (.int (1 : Int32)), .val (.int (3 : Int32))] [(.ref mg), (.int (3 : Int32))])) rfl rfl (hb hby d5_32) _ k_) ?_
          rw [len_of S43 M43]
          show Run _ _ _ _ (T42.setTop (mkF m 33 #[.val (.ref a1), .val (.ref a2), .val (.int (1 : Int32)), .val (.int (3 : Int32))] [(.int (3 : Int32)), (.int (3 : Int32))]))
          refine Run.step (fun t_ k_ => XS.icmpYes X42.here hx rfl (pc0 := 33) (pc' := 65) rfl (hb hby d5_33) rfl (XT.ii_ge_t (by decide : ¬ ((3 : Int32) < (3 : Int32)))) (by decide) (by decide) (XS.iloadN X42.here hx rfl (hb hby d5_65) rfl k_)) ?_
          show Run _ _ _ _ (T42.setTop (mkF m 66 #[.val (.ref a1), .val (.ref a2), .val (.int (1 : Int32)), .val (.int (3 : Int32))] [(.int (1 : Int32))]))
          exact finZ X42 hx (BodyLoose.notSynchronized Bd) Bd.returns (hb hby d5_66) (by decide) (by decide) (by decide) e42 ⟨congrArg (fun z => some (Value.int z)) ((if_neg c12).trans ((if_pos c50).trans ((if_pos c50_32).trans (if_pos c50_41)))).symm, N0, rfl⟩
        · skip
          refine Run.step (fun t_ k_ => XS.icmpYes X38.here hx rfl (pc0 := 50) (pc' := 57) rfl (hb hby d5_50) rfl (XT.ii_ne_t c50_41) (by decide) (by decide) (XS.iconst X38.here hx rfl (hb hby d5_57) (XS.istoreN X38.here hx rfl (hb hby d5_58) rfl (l' := #[.val (.ref a1), .val (.ref a2), .val (.int (0 : Int32)), .val (.int (2 : Int32))]) rfl (XS.iinc X38.here hx rfl (hb hby d5_59) rfl (l' := #[.val (.ref a1), .val (.ref a2), .val (.int (0 : Int32)), .val (.int (3 : Int32))]) rfl (XS.goto X38.here hx rfl (pc0 := 62) (pc' := 23) rfl (hb hby d5_62) (by decide) (by decide) (XS.iloadN X38.here hx rfl (hb hby d5_23) rfl k_)))))) ?_
          show Run _ _ _ _ (T38.setTop (mkF m 24 #[.val (.ref a1), .val (.ref a2), .val (.int (0 : Int32)), .val (.int (3 : Int32))] [(.int (0 : Int32))]))
          refine Run.step (fun t_ k_ => XS.ifYes X38.here hx rfl (pc0 := 24) (pc' := 65) rfl (hb hby d5_24) rfl (XT.i0_eq_t (by decide : (0 : Int32) = (0 : Int32))) (by decide) (by decide) (XS.iloadN X38.here hx rfl (hb hby d5_65) rfl k_)) ?_
          show Run _ _ _ _ (T38.setTop (mkF m 66 #[.val (.ref a1), .val (.ref a2), .val (.int (0 : Int32)), .val (.int (3 : Int32))] [(.int (0 : Int32))]))
          exact finZ X38 hx (BodyLoose.notSynchronized Bd) Bd.returns (hb hby d5_66) (by decide) (by decide) (by decide) e38 ⟨congrArg (fun z => some (Value.int z)) ((if_neg c12).trans ((if_pos c50).trans ((if_pos c50_32).trans (if_neg c50_41)))).symm, N0, rfl⟩
      · skip
        refine Run.step (fun t_ k_ => XS.icmpYes X29.here hx rfl (pc0 := 50) (pc' := 57) rfl (hb hby d5_50) rfl (XT.ii_ne_t c50_32) (by decide) (by decide) (XS.iconst X29.here hx rfl (hb hby d5_57) (XS.istoreN X29.here hx rfl (hb hby d5_58) rfl (l' := #[.val (.ref a1), .val (.ref a2), .val (.int (0 : Int32)), .val (.int (1 : Int32))]) rfl (XS.iinc X29.here hx rfl (hb hby d5_59) rfl (l' := #[.val (.ref a1), .val (.ref a2), .val (.int (0 : Int32)), .val (.int (2 : Int32))]) rfl (XS.goto X29.here hx rfl (pc0 := 62) (pc' := 23) rfl (hb hby d5_62) (by decide) (by decide) (XS.iloadN X29.here hx rfl (hb hby d5_23) rfl k_)))))) ?_
        show Run _ _ _ _ (T29.setTop (mkF m 24 #[.val (.ref a1), .val (.ref a2), .val (.int (0 : Int32)), .val (.int (2 : Int32))] [(.int (0 : Int32))]))
        refine Run.step (fun t_ k_ => XS.ifYes X29.here hx rfl (pc0 := 24) (pc' := 65) rfl (hb hby d5_24) rfl (XT.i0_eq_t (by decide : (0 : Int32) = (0 : Int32))) (by decide) (by decide) (XS.iloadN X29.here hx rfl (hb hby d5_65) rfl k_)) ?_
        show Run _ _ _ _ (T29.setTop (mkF m 66 #[.val (.ref a1), .val (.ref a2), .val (.int (0 : Int32)), .val (.int (2 : Int32))] [(.int (0 : Int32))]))
        exact finZ X29 hx (BodyLoose.notSynchronized Bd) Bd.returns (hb hby d5_66) (by decide) (by decide) (by decide) e29 ⟨congrArg (fun z => some (Value.int z)) ((if_neg c12).trans ((if_pos c50).trans (if_neg c50_32))).symm, N0, rfl⟩
    · skip
      refine Run.step (fun t_ k_ => XS.icmpYes X21.here hx rfl (pc0 := 50) (pc' := 57) rfl (hb hby d5_50) rfl (XT.ii_ne_t c50) (by decide) (by decide) (XS.iconst X21.here hx rfl (hb hby d5_57) (XS.istoreN X21.here hx rfl (hb hby d5_58) rfl (l' := #[.val (.ref a1), .val (.ref a2), .val (.int (0 : Int32)), .val (.int (0 : Int32))]) rfl (XS.iinc X21.here hx rfl (hb hby d5_59) rfl (l' := #[.val (.ref a1), .val (.ref a2), .val (.int (0 : Int32)), .val (.int (1 : Int32))]) rfl (XS.goto X21.here hx rfl (pc0 := 62) (pc' := 23) rfl (hb hby d5_62) (by decide) (by decide) (XS.iloadN X21.here hx rfl (hb hby d5_23) rfl k_)))))) ?_
      show Run _ _ _ _ (T21.setTop (mkF m 24 #[.val (.ref a1), .val (.ref a2), .val (.int (0 : Int32)), .val (.int (1 : Int32))] [(.int (0 : Int32))]))
      refine Run.step (fun t_ k_ => XS.ifYes X21.here hx rfl (pc0 := 24) (pc' := 65) rfl (hb hby d5_24) rfl (XT.i0_eq_t (by decide : (0 : Int32) = (0 : Int32))) (by decide) (by decide) (XS.iloadN X21.here hx rfl (hb hby d5_65) rfl k_)) ?_
      show Run _ _ _ _ (T21.setTop (mkF m 66 #[.val (.ref a1), .val (.ref a2), .val (.int (0 : Int32)), .val (.int (1 : Int32))] [(.int (0 : Int32))]))
      exact finZ X21 hx (BodyLoose.notSynchronized Bd) Bd.returns (hb hby d5_66) (by decide) (by decide) (by decide) e21 ⟨congrArg (fun z => some (Value.int z)) ((if_neg c12).trans (if_neg c50)).symm, N0, rfl⟩
theorem ef_5_XZ (m : MethodId) (x0 : Addr) (x1 : Addr) : entryFrame m #[(.ref x0), (.ref x1)] 4 = mkF m 0 #[.val (.ref x0), .val (.ref x1), .unset, .unset] [] := by first | (simp [entryFrame, mkF, argsToLocals, Value.category, maxLocals]; done) | rfl
def Q5_XZ (Z : State) (a1 : Addr) (a2 : Addr) (mg : Addr) (km : ClassId) (nn : Int32) (g : Nat → Int32) (h0 : Heap) (n0 : Nat) (v : Option Value) (h : Heap) (L : List Loc) : Prop := v = some (.int (if nn < (6 : Int32) then 0 else (if g 0 = (-3 : Int32) then (if g 1 = (55 : Int32) then (if g 2 = (122 : Int32) then (if g 3 = (88 : Int32) then (if g 4 = (90 : Int32) then (if g 5 = (0 : Int32) then (1) else 0) else 0) else 0) else 0) else 0) else 0))) ∧ Fr n0 L ∧ h = h0
set_option maxRecDepth 65536 in
set_option maxHeartbeats 40000000 in
theorem rm5_XZ (l : Launch) (Z : State) (a0 : Array Value) (hw : ∀ d ∈ tables_1, d.before a0 Z = true) (ws : List Jvm.Cond) (a1 : Addr) (a2 : Addr) (mg : Addr) (km : ClassId) (nn : Int32) (g : Nat → Int32) (h0 : Heap) (n0 : Nat) (Z0 : n0 ≤ h0.size) (F1 : Fld Z h0 a1 "cleave/io/PackedFormat" "offset" "I" (.int (0 : Int32))) (F2 : Fld Z h0 a1 "cleave/io/PackedFormat" "magic" "[B" (.ref mg)) (VM : Arv Z h0 mg km .byte (6 : Int32) [(.int (-3 : Int32)), (.int (55 : Int32)), (.int (122 : Int32)), (.int (88 : Int32)), (.int (90 : Int32)), (.int (0 : Int32))] (.int (0 : Int32))) (VT : Bv Z h0 a2 nn g) :
    MetFree l (⟨"cleave/io/PackedFormat", "holdsMagic", "([B)Z"⟩ : MethodName) (head1 (Jvm.Cond.code (⟨"cleave/io/PackedFormat", "holdsMagic", "([B)Z"⟩ : MethodName) prog_34_method_10_code 4 (some .boolean) :: ws) ({ frames := 0, cells := 0, slots := 0, locals := 0 } : Room)) (fun a U => a = #[(.ref a1), (.ref a2)] ∧ Z.Warmed39 U.vm ∧ U.heap = h0) (fun _ _ _ _ _ => True) (fun _ U o U' => ∃ v L, o = .returned v ∧ Q5_XZ Z a1 a2 mg km nn g h0 n0 v U'.heap L ∧ FrameEnd U o U' L ({ frames := 0, cells := 0, slots := 0, locals := 0 } : Room).cells ({ frames := 0, cells := 0, slots := 0, locals := 0 } : Room).slots) := by
  refine MetFree.of_bodySF (plainFor_of_name pn_cleave_io_PackedFormat) hisR ?_
  intro p e s m args below meth c s₁ Bd hml0 hP hK
  obtain ⟨rfl, hZ, hh⟩ := hP
  have hx := Bd.exec
  have hby := Bd.bytes
  have w23 := hw _ (List.mem_of_getElem? (i := 23) rfl)
  have w25 := hw _ (List.mem_of_getElem? (i := 25) rfl)
  have hml : c.maxLocals = 4 := hml0
  have hown : s.vm.findClass "cleave/io/PackedFormat" = some m.cls := findClass_of_methodNamed Bd.named
  have hnm := (name_of_methodNamed Bd.named Bd.method).1
  have X0 : Stand p l e ({ frames := 0, cells := 0, slots := 0, locals := 0 } : Room) s m #[(.ref a1), (.ref a2)] below meth c s₁ [] 0 0 := Stand.of_body Bd
  have e0 : s₁.heap = h0 := by rw [← hh, Bd.state]; rfl
  have N0 := Fr.nil n0
  show Run p.tables e below (PQ s below 0 0 (Q5_XZ Z a1 a2 mg km nn g h0 n0)) (s₁.setTop (entryFrame m #[(.ref a1), (.ref a2)] 4))
  refine Run.step (fun t k => castTop (ef_5_XZ m a1 a2) k) ?_
  show Run _ _ _ _ (s₁.setTop (mkF m 0 #[.val (.ref a1), .val (.ref a2), .unset, .unset] []))
  refine Run.step (fun t_ k_ => XS.aloadN X0.here hx rfl (hb hby d5_0) rfl rfl k_) ?_
  show Run _ _ _ _ (s₁.setTop (mkF m 1 #[.val (.ref a1), .val (.ref a2), .unset, .unset] [(.ref a2)]))
  obtain ⟨cl44, Ar44, S44, M44, H44⟩ := id VT
  refine Run.step (fun t_ k_ => X0.arraylength hx (by rw [e0]; exact Ar44.1) (State.isArrayOf_alike hZ.alike Ar44.2.1) (g := (mkF m 1 #[.val (.ref a1), .val (.ref a2), .unset, .unset] [(.ref a2)])) rfl rfl (hb hby d5_1) _ k_) ?_
  rw [len_of S44 M44]
  show Run _ _ _ _ (s₁.setTop (mkF m 2 #[.val (.ref a1), .val (.ref a2), .unset, .unset] [(.int nn)]))
  refine Run.step (fun t_ k_ => XS.aloadN X0.here hx rfl (hb hby d5_2) rfl rfl k_) ?_
  show Run _ _ _ _ (s₁.setTop (mkF m 3 #[.val (.ref a1), .val (.ref a2), .unset, .unset] [(.ref a1), (.int nn)]))
  obtain ⟨T45, X45, e45, st45⟩ := getF X0 hx hZ hown (host := "") (Or.inl w23) Via.refl e0 F1 (g := (mkF m 3 #[.val (.ref a1), .val (.ref a2), .unset, .unset] [(.ref a1), (.int nn)])) rfl rfl (hb hby d5_3)
  refine Run.step st45 ?_
  show Run _ _ _ _ (T45.setTop (mkF m 6 #[.val (.ref a1), .val (.ref a2), .unset, .unset] [(.int (0 : Int32)), (.int nn)]))
  refine Run.step (fun t_ k_ => XS.aloadN X45.here hx rfl (hb hby d5_6) rfl rfl k_) ?_
  show Run _ _ _ _ (T45.setTop (mkF m 7 #[.val (.ref a1), .val (.ref a2), .unset, .unset] [(.ref a1), (.int (0 : Int32)), (.int nn)]))
  obtain ⟨T46, X46, e46, st46⟩ := getF X45 hx hZ hown (host := "") (Or.inl w25) Via.refl e45 F2 (g := (mkF m 7 #[.val (.ref a1), .val (.ref a2), .unset, .unset] [(.ref a1), (.int (0 : Int32)), (.int nn)])) rfl rfl (hb hby d5_7)
  refine Run.step st46 ?_
  show Run _ _ _ _ (T46.setTop (mkF m 10 #[.val (.ref a1), .val (.ref a2), .unset, .unset] [(.ref mg), (.int (0 : Int32)), (.int nn)]))
  obtain ⟨cl47, Ar47, q47, S47, M47, H47, U47⟩ := id VM
  refine Run.step (fun t_ k_ => X46.arraylength hx (by rw [e46]; exact Ar47.1) (State.isArrayOf_alike hZ.alike Ar47.2.1) (g := (mkF m 10 #[.val (.ref a1), .val (.ref a2), .unset, .unset] [(.ref mg), (.int (0 : Int32)), (.int nn)])) rfl rfl (hb hby d5_10) _ k_) ?_
  rw [len_of S47 M47]
  show Run _ _ _ _ (T46.setTop (mkF m 11 #[.val (.ref a1), .val (.ref a2), .unset, .unset] [(.int (6 : Int32)), (.int (0 : Int32)), (.int nn)]))
  refine Run.step (fun t_ k_ => XS.iadd X46.here hx rfl (hb hby d5_11) rfl k_) ?_
  show Run _ _ _ _ (T46.setTop (mkF m 12 #[.val (.ref a1), .val (.ref a2), .unset, .unset] [(.int (6 : Int32)), (.int nn)]))
  by_cases c12 : nn < (6 : Int32)
  · skip
    refine Run.step (fun t_ k_ => XS.icmpYes X46.here hx rfl (pc0 := 12) (pc' := 19) rfl (hb hby d5_12) rfl (XT.ii_lt_t c12) (by decide) (by decide) (XS.iconst X46.here hx rfl (hb hby d5_19) (XS.istoreN X46.here hx rfl (hb hby d5_20) rfl (l' := #[.val (.ref a1), .val (.ref a2), .val (.int (0 : Int32)), .unset]) rfl (XS.iconst X46.here hx rfl (hb hby d5_21) (XS.istoreN X46.here hx rfl (hb hby d5_22) rfl (l' := #[.val (.ref a1), .val (.ref a2), .val (.int (0 : Int32)), .val (.int (0 : Int32))]) rfl (XS.iloadN X46.here hx rfl (hb hby d5_23) rfl k_)))))) ?_
    show Run _ _ _ _ (T46.setTop (mkF m 24 #[.val (.ref a1), .val (.ref a2), .val (.int (0 : Int32)), .val (.int (0 : Int32))] [(.int (0 : Int32))]))
    refine Run.step (fun t_ k_ => XS.ifYes X46.here hx rfl (pc0 := 24) (pc' := 65) rfl (hb hby d5_24) rfl (XT.i0_eq_t (by decide : (0 : Int32) = (0 : Int32))) (by decide) (by decide) (XS.iloadN X46.here hx rfl (hb hby d5_65) rfl k_)) ?_
    show Run _ _ _ _ (T46.setTop (mkF m 66 #[.val (.ref a1), .val (.ref a2), .val (.int (0 : Int32)), .val (.int (0 : Int32))] [(.int (0 : Int32))]))
    exact finZ X46 hx (BodyLoose.notSynchronized Bd) Bd.returns (hb hby d5_66) (by decide) (by decide) (by decide) e46 ⟨congrArg (fun z => some (Value.int z)) (if_pos c12).symm, N0, rfl⟩
  · skip
    refine Run.step (fun t_ k_ => XS.icmpNo X46.here hx rfl (hb hby d5_12) rfl (XT.ii_lt_f c12) (XS.iconst X46.here hx rfl (hb hby d5_15) (XS.goto X46.here hx rfl (pc0 := 16) (pc' := 20) rfl (hb hby d5_16) (by decide) (by decide) (XS.istoreN X46.here hx rfl (hb hby d5_20) rfl (l' := #[.val (.ref a1), .val (.ref a2), .val (.int (1 : Int32)), .unset]) rfl (XS.iconst X46.here hx rfl (hb hby d5_21) (XS.istoreN X46.here hx rfl (hb hby d5_22) rfl (l' := #[.val (.ref a1), .val (.ref a2), .val (.int (1 : Int32)), .val (.int (0 : Int32))]) rfl k_)))))) ?_
    show Run _ _ _ _ (T46.setTop (mkF m 23 #[.val (.ref a1), .val (.ref a2), .val (.int (1 : Int32)), .val (.int (0 : Int32))] []))
    refine Run.step (fun t_ k_ => XS.iloadN X46.here hx rfl (hb hby d5_23) rfl (XS.ifNo X46.here hx rfl (hb hby d5_24) rfl (XT.i0_eq_f (by decide : ¬ ((1 : Int32) = (0 : Int32)))) (XS.iloadN X46.here hx rfl (hb hby d5_27) rfl (XS.aloadN X46.here hx rfl (hb hby d5_28) rfl rfl k_)))) ?_
    show Run _ _ _ _ (T46.setTop (mkF m 29 #[.val (.ref a1), .val (.ref a2), .val (.int (1 : Int32)), .val (.int (0 : Int32))] [(.ref a1), (.int (0 : Int32))]))
    obtain ⟨T48, X48, e48, st48⟩ := getF X46 hx hZ hown (host := "") (Or.inl w25) Via.refl e46 F2 (g := (mkF m 29 #[.val (.ref a1), .val (.ref a2), .val (.int (1 : Int32)), .val (.int (0 : Int32))] [(.ref a1), (.int (0 : Int32))])) rfl rfl (hb hby d5_29)
    refine Run.step st48 ?_
    show Run _ _ _ _ (T48.setTop (mkF m 32 #[.val (.ref a1), .val (.ref a2), .val (.int (1 : Int32)), .val (.int (0 : Int32))] [(.ref mg), (.int (0 : Int32))]))
    obtain ⟨cl49, Ar49, q49, S49, M49, H49, U49⟩ := id VM
    refine Run.step (fun t_ k_ => X48.arraylength hx (by rw [e48]; exact Ar49.1) (State.isArrayOf_alike hZ.alike Ar49.2.1) (g := (mkF m 32 #[.val (.ref a1), .val (.ref a2), .val (.int (1 : Int32)), .val (.int (0 : Int32))] [(.ref mg), (.int (0 : Int32))])) rfl rfl (hb hby d5_32) _ k_) ?_
    rw [len_of S49 M49]
    show Run _ _ _ _ (T48.setTop (mkF m 33 #[.val (.ref a1), .val (.ref a2), .val (.int (1 : Int32)), .val (.int (0 : Int32))] [(.int (6 : Int32)), (.int (0 : Int32))]))
    refine Run.step (fun t_ k_ => XS.icmpNo X48.here hx rfl (hb hby d5_33) rfl (XT.ii_ge_f (by decide : (0 : Int32) < (6 : Int32))) (XS.aloadN X48.here hx rfl (hb hby d5_36) rfl rfl (XS.aloadN X48.here hx rfl (hb hby d5_37) rfl rfl k_))) ?_
    show Run _ _ _ _ (T48.setTop (mkF m 38 #[.val (.ref a1), .val (.ref a2), .val (.int (1 : Int32)), .val (.int (0 : Int32))] [(.ref a1), (.ref a2)]))
    obtain ⟨T50, X50, e50, st50⟩ := getF X48 hx hZ hown (host := "") (Or.inl w23) Via.refl e48 F1 (g := (mkF m 38 #[.val (.ref a1), .val (.ref a2), .val (.int (1 : Int32)), .val (.int (0 : Int32))] [(.ref a1), (.ref a2)])) rfl rfl (hb hby d5_38)
    refine Run.step st50 ?_
    show Run _ _ _ _ (T50.setTop (mkF m 41 #[.val (.ref a1), .val (.ref a2), .val (.int (1 : Int32)), .val (.int (0 : Int32))] [(.int (0 : Int32)), (.ref a2)]))
    refine Run.step (fun t_ k_ => XS.iloadN X50.here hx rfl (hb hby d5_41) rfl (XS.iadd X50.here hx rfl (hb hby d5_42) rfl k_)) ?_
    show Run _ _ _ _ (T50.setTop (mkF m 43 #[.val (.ref a1), .val (.ref a2), .val (.int (1 : Int32)), .val (.int (0 : Int32))] [(.int (0 : Int32)), (.ref a2)]))
    obtain ⟨cl51, Ar51, S51, M51, H51⟩ := id VT
    have hin52 : ¬ ((0 : Int32) < 0 ∨ cl51.slots.size ≤ ((0 : Int32)).toNatClampNeg) := inb_of S51 ⟨by decide, own_in c12 (by decide)⟩
    have hat52 : cl51.slots[((0 : Int32)).toNatClampNeg]? = some (.int (g 0)) := H51 _ (Nat.lt_of_not_le fun q => hin52 (Or.inr q))
    refine Run.step (fun t_ k_ => X50.baloadBytes hx (j := (0 : Int32)) (v := (.int (g 0))) (by rw [e50]; exact Ar51.1) (State.isArrayOf_alike hZ.alike Ar51.2.1) Ar51.2.2 hin52 hat52 (g := (mkF m 43 #[.val (.ref a1), .val (.ref a2), .val (.int (1 : Int32)), .val (.int (0 : Int32))] [(.int (0 : Int32)), (.ref a2)])) rfl rfl (hb hby d5_43) _ (XS.aloadN X50.here hx rfl (hb hby d5_44) rfl rfl k_)) ?_
    show Run _ _ _ _ (T50.setTop (mkF m 45 #[.val (.ref a1), .val (.ref a2), .val (.int (1 : Int32)), .val (.int (0 : Int32))] [(.ref a1), (.int (g 0))]))
    obtain ⟨T53, X53, e53, st53⟩ := getF X50 hx hZ hown (host := "") (Or.inl w25) Via.refl e50 F2 (g := (mkF m 45 #[.val (.ref a1), .val (.ref a2), .val (.int (1 : Int32)), .val (.int (0 : Int32))] [(.ref a1), (.int (g 0))])) rfl rfl (hb hby d5_45)
    refine Run.step st53 ?_
    show Run _ _ _ _ (T53.setTop (mkF m 48 #[.val (.ref a1), .val (.ref a2), .val (.int (1 : Int32)), .val (.int (0 : Int32))] [(.ref mg), (.int (g 0))]))
    refine Run.step (fun t_ k_ => XS.iloadN X53.here hx rfl (hb hby d5_48) rfl k_) ?_
    show Run _ _ _ _ (T53.setTop (mkF m 49 #[.val (.ref a1), .val (.ref a2), .val (.int (1 : Int32)), .val (.int (0 : Int32))] [(.int (0 : Int32)), (.ref mg), (.int (g 0))]))
    obtain ⟨cl54, Ar54, q54, S54, M54, H54, U54⟩ := id VM
    have hin55 : ¬ ((0 : Int32) < 0 ∨ cl54.slots.size ≤ ((0 : Int32)).toNatClampNeg) := inb_of S54 ⟨by decide, by decide⟩
    have hat55 : cl54.slots[((0 : Int32)).toNatClampNeg]? = some (.int (-3 : Int32)) := H54.at hin55 rfl
    refine Run.step (fun t_ k_ => X53.baloadBytes hx (j := (0 : Int32)) (v := (.int (-3 : Int32))) (by rw [e53]; exact Ar54.1) (State.isArrayOf_alike hZ.alike Ar54.2.1) Ar54.2.2 hin55 hat55 (g := (mkF m 49 #[.val (.ref a1), .val (.ref a2), .val (.int (1 : Int32)), .val (.int (0 : Int32))] [(.int (0 : Int32)), (.ref mg), (.int (g 0))])) rfl rfl (hb hby d5_49) _ k_) ?_
    show Run _ _ _ _ (T53.setTop (mkF m 50 #[.val (.ref a1), .val (.ref a2), .val (.int (1 : Int32)), .val (.int (0 : Int32))] [(.int (-3 : Int32)), (.int (g 0))]))
    by_cases c50 : (g 0) = (-3 : Int32)
    · skip
      refine Run.step (fun t_ k_ => XS.icmpNo X53.here hx rfl (hb hby d5_50) rfl (XT.ii_ne_f c50) (XS.iconst X53.here hx rfl (hb hby d5_53) (XS.goto X53.here hx rfl (pc0 := 54) (pc' := 58) rfl (hb hby d5_54) (by decide) (by decide) (XS.istoreN X53.here hx rfl (hb hby d5_58) rfl (l' := #[.val (.ref a1), .val (.ref a2), .val (.int (1 : Int32)), .val (.int (0 : Int32))]) rfl (XS.iinc X53.here hx rfl (hb hby d5_59) rfl (l' := #[.val (.ref a1), .val (.ref a2), .val (.int (1 : Int32)), .val (.int (1 : Int32))]) rfl (XS.goto X53.here hx rfl (pc0 := 62) (pc' := 23) rfl (hb hby d5_62) (by decide) (by decide) k_)))))) ?_
      show Run _ _ _ _ (T53.setTop (mkF m 23 #[.val (.ref a1), .val (.ref a2), .val (.int (1 : Int32)), .val (.int (1 : Int32))] []))
      refine Run.step (fun t_ k_ => XS.iloadN X53.here hx rfl (hb hby d5_23) rfl (XS.ifNo X53.here hx rfl (hb hby d5_24) rfl (XT.i0_eq_f (by decide : ¬ ((1 : Int32) = (0 : Int32)))) (XS.iloadN X53.here hx rfl (hb hby d5_27) rfl (XS.aloadN X53.here hx rfl (hb hby d5_28) rfl rfl k_)))) ?_
      show Run _ _ _ _ (T53.setTop (mkF m 29 #[.val (.ref a1), .val (.ref a2), .val (.int (1 : Int32)), .val (.int (1 : Int32))] [(.ref a1), (.int (1 : Int32))]))
      obtain ⟨T56, X56, e56, st56⟩ := getF X53 hx hZ hown (host := "") (Or.inl w25) Via.refl e53 F2 (g := (mkF m 29 #[.val (.ref a1), .val (.ref a2), .val (.int (1 : Int32)), .val (.int (1 : Int32))] [(.ref a1), (.int (1 : Int32))])) rfl rfl (hb hby d5_29)
      refine Run.step st56 ?_
      show Run _ _ _ _ (T56.setTop (mkF m 32 #[.val (.ref a1), .val (.ref a2), .val (.int (1 : Int32)), .val (.int (1 : Int32))] [(.ref mg), (.int (1 : Int32))]))
      obtain ⟨cl57, Ar57, q57, S57, M57, H57, U57⟩ := id VM
      refine Run.step (fun t_ k_ => X56.arraylength hx (by rw [e56]; exact Ar57.1) (State.isArrayOf_alike hZ.alike Ar57.2.1) (g := (mkF m 32 #[.val (.ref a1), .val (.ref a2), .val (.int (1 : Int32)), .val (.int (1 : Int32))] [(.ref mg), (.int (1 : Int32))])) rfl rfl (hb hby d5_32) _ k_) ?_
      rw [len_of S57 M57]
      show Run _ _ _ _ (T56.setTop (mkF m 33 #[.val (.ref a1), .val (.ref a2), .val (.int (1 : Int32)), .val (.int (1 : Int32))] [(.int (6 : Int32)), (.int (1 : Int32))]))
      refine Run.step (fun t_ k_ => XS.icmpNo X56.here hx rfl (hb hby d5_33) rfl (XT.ii_ge_f (by decide : (1 : Int32) < (6 : Int32))) (XS.aloadN X56.here hx rfl (hb hby d5_36) rfl rfl (XS.aloadN X56.here hx rfl (hb hby d5_37) rfl rfl k_))) ?_
      show Run _ _ _ _ (T56.setTop (mkF m 38 #[.val (.ref a1), .val (.ref a2), .val (.int (1 : Int32)), .val (.int (1 : Int32))] [(.ref a1), (.ref a2)]))
      obtain ⟨T58, X58, e58, st58⟩ := getF X56 hx hZ hown (host := "") (Or.inl w23) Via.refl e56 F1 (g := (mkF m 38 #[.val (.ref a1), .val (.ref a2), .val (.int (1 : Int32)), .val (.int (1 : Int32))] [(.ref a1), (.ref a2)])) rfl rfl (hb hby d5_38)
      refine Run.step st58 ?_
      show Run _ _ _ _ (T58.setTop (mkF m 41 #[.val (.ref a1), .val (.ref a2), .val (.int (1 : Int32)), .val (.int (1 : Int32))] [(.int (0 : Int32)), (.ref a2)]))
      refine Run.step (fun t_ k_ => XS.iloadN X58.here hx rfl (hb hby d5_41) rfl (XS.iadd X58.here hx rfl (hb hby d5_42) rfl k_)) ?_
      show Run _ _ _ _ (T58.setTop (mkF m 43 #[.val (.ref a1), .val (.ref a2), .val (.int (1 : Int32)), .val (.int (1 : Int32))] [(.int (1 : Int32)), (.ref a2)]))
      obtain ⟨cl59, Ar59, S59, M59, H59⟩ := id VT
      have hin60 : ¬ ((1 : Int32) < 0 ∨ cl59.slots.size ≤ ((1 : Int32)).toNatClampNeg) := inb_of S59 ⟨by decide, own_in c12 (by decide)⟩
      have hat60 : cl59.slots[((1 : Int32)).toNatClampNeg]? = some (.int (g 1)) := H59 _ (Nat.lt_of_not_le fun q => hin60 (Or.inr q))
      refine Run.step (fun t_ k_ => X58.baloadBytes hx (j := (1 : Int32)) (v := (.int (g 1))) (by rw [e58]; exact Ar59.1) (State.isArrayOf_alike hZ.alike Ar59.2.1) Ar59.2.2 hin60 hat60 (g := (mkF m 43 #[.val (.ref a1), .val (.ref a2), .val (.int (1 : Int32)), .val (.int (1 : Int32))] [(.int (1 : Int32)), (.ref a2)])) rfl rfl (hb hby d5_43) _ (XS.aloadN X58.here hx rfl (hb hby d5_44) rfl rfl k_)) ?_
      show Run _ _ _ _ (T58.setTop (mkF m 45 #[.val (.ref a1), .val (.ref a2), .val (.int (1 : Int32)), .val (.int (1 : Int32))] [(.ref a1), (.int (g 1))]))
      obtain ⟨T61, X61, e61, st61⟩ := getF X58 hx hZ hown (host := "") (Or.inl w25) Via.refl e58 F2 (g := (mkF m 45 #[.val (.ref a1), .val (.ref a2), .val (.int (1 : Int32)), .val (.int (1 : Int32))] [(.ref a1), (.int (g 1))])) rfl rfl (hb hby d5_45)
      refine Run.step st61 ?_
      show Run _ _ _ _ (T61.setTop (mkF m 48 #[.val (.ref a1), .val (.ref a2), .val (.int (1 : Int32)), .val (.int (1 : Int32))] [(.ref mg), (.int (g 1))]))
      refine Run.step (fun t_ k_ => XS.iloadN X61.here hx rfl (hb hby d5_48) rfl k_) ?_
      show Run _ _ _ _ (T61.setTop (mkF m 49 #[.val (.ref a1), .val (.ref a2), .val (.int (1 : Int32)), .val (.int (1 : Int32))] [(.int (1 : Int32)), (.ref mg), (.int (g 1))]))
      obtain ⟨cl62, Ar62, q62, S62, M62, H62, U62⟩ := id VM
      have hin63 : ¬ ((1 : Int32) < 0 ∨ cl62.slots.size ≤ ((1 : Int32)).toNatClampNeg) := inb_of S62 ⟨by decide, by decide⟩
      have hat63 : cl62.slots[((1 : Int32)).toNatClampNeg]? = some (.int (55 : Int32)) := H62.at hin63 rfl
      refine Run.step (fun t_ k_ => X61.baloadBytes hx (j := (1 : Int32)) (v := (.int (55 : Int32))) (by rw [e61]; exact Ar62.1) (State.isArrayOf_alike hZ.alike Ar62.2.1) Ar62.2.2 hin63 hat63 (g := (mkF m 49 #[.val (.ref a1), .val (.ref a2), .val (.int (1 : Int32)), .val (.int (1 : Int32))] [(.int (1 : Int32)), (.ref mg), (.int (g 1))])) rfl rfl (hb hby d5_49) _ k_) ?_
      show Run _ _ _ _ (T61.setTop (mkF m 50 #[.val (.ref a1), .val (.ref a2), .val (.int (1 : Int32)), .val (.int (1 : Int32))] [(.int (55 : Int32)), (.int (g 1))]))
      by_cases c50_64 : (g 1) = (55 : Int32)
      · skip
        refine Run.step (fun t_ k_ => XS.icmpNo X61.here hx rfl (hb hby d5_50) rfl (XT.ii_ne_f c50_64) (XS.iconst X61.here hx rfl (hb hby d5_53) (XS.goto X61.here hx rfl (pc0 := 54) (pc' := 58) rfl (hb hby d5_54) (by decide) (by decide) (XS.istoreN X61.here hx rfl (hb hby d5_58) rfl (l' := #[.val (.ref a1), .val (.ref a2), .val (.int (1 : Int32)), .val (.int (1 : Int32))]) rfl (XS.iinc X61.here hx rfl (hb hby d5_59) rfl (l' := #[.val (.ref a1), .val (.ref a2), .val (.int (1 : Int32)), .val (.int (2 : Int32))]) rfl (XS.goto X61.here hx rfl (pc0 := 62) (pc' := 23) rfl (hb hby d5_62) (by decide) (by decide) k_)))))) ?_
        show Run _ _ _ _ (T61.setTop (mkF m 23 #[.val (.ref a1), .val (.ref a2), .val (.int (1 : Int32)), .val (.int (2 : Int32))] []))
        refine Run.step (fun t_ k_ => XS.iloadN X61.here hx rfl (hb hby d5_23) rfl (XS.ifNo X61.here hx rfl (hb hby d5_24) rfl (XT.i0_eq_f (by decide : ¬ ((1 : Int32) = (0 : Int32)))) (XS.iloadN X61.here hx rfl (hb hby d5_27) rfl (XS.aloadN X61.here hx rfl (hb hby d5_28) rfl rfl k_)))) ?_
        show Run _ _ _ _ (T61.setTop (mkF m 29 #[.val (.ref a1), .val (.ref a2), .val (.int (1 : Int32)), .val (.int (2 : Int32))] [(.ref a1), (.int (2 : Int32))]))
        obtain ⟨T65, X65, e65, st65⟩ := getF X61 hx hZ hown (host := "") (Or.inl w25) Via.refl e61 F2 (g := (mkF m 29 #[.val (.ref a1), .val (.ref a2), .val (.int (1 : Int32)), .val (.int (2 : Int32))] [(.ref a1), (.int (2 : Int32))])) rfl rfl (hb hby d5_29)
        refine Run.step st65 ?_
        show Run _ _ _ _ (T65.setTop (mkF m 32 #[.val (.ref a1), .val (.ref a2), .val (.int (1 : Int32)), .val (.int (2 : Int32))] [(.ref mg), (.int (2 : Int32))]))
        obtain ⟨cl66, Ar66, q66, S66, M66, H66, U66⟩ := id VM
        refine Run.step (fun t_ k_ => X65.arraylength hx (by rw [e65]; exact Ar66.1) (State.isArrayOf_alike hZ.alike Ar66.2.1) (g := (mkF m 32 #[.val (.ref a1), .val (.ref a2), .val (.int (1 : Int32)), .val (.int (2 : Int32))] [(.ref mg), (.int (2 : Int32))])) rfl rfl (hb hby d5_32) _ k_) ?_
        rw [len_of S66 M66]
        show Run _ _ _ _ (T65.setTop (mkF m 33 #[.val (.ref a1), .val (.ref a2), .val (.int (1 : Int32)), .val (.int (2 : Int32))] [(.int (6 : Int32)), (.int (2 : Int32))]))
        refine Run.step (fun t_ k_ => XS.icmpNo X65.here hx rfl (hb hby d5_33) rfl (XT.ii_ge_f (by decide : (2 : Int32) < (6 : Int32))) (XS.aloadN X65.here hx rfl (hb hby d5_36) rfl rfl (XS.aloadN X65.here hx rfl (hb hby d5_37) rfl rfl k_))) ?_
        show Run _ _ _ _ (T65.setTop (mkF m 38 #[.val (.ref a1), .val (.ref a2), .val (.int (1 : Int32)), .val (.int (2 : Int32))] [(.ref a1), (.ref a2)]))
        obtain ⟨T67, X67, e67, st67⟩ := getF X65 hx hZ hown (host := "") (Or.inl w23) Via.refl e65 F1 (g := (mkF m 38 #[.val (.ref a1), .val (.ref a2), .val (.int (1 : Int32)), .val (.int (2 : Int32))] [(.ref a1), (.ref a2)])) rfl rfl (hb hby d5_38)
        refine Run.step st67 ?_
        show Run _ _ _ _ (T67.setTop (mkF m 41 #[.val (.ref a1), .val (.ref a2), .val (.int (1 : Int32)), .val (.int (2 : Int32))] [(.int (0 : Int32)), (.ref a2)]))
        refine Run.step (fun t_ k_ => XS.iloadN X67.here hx rfl (hb hby d5_41) rfl (XS.iadd X67.here hx rfl (hb hby d5_42) rfl k_)) ?_
        show Run _ _ _ _ (T67.setTop (mkF m 43 #[.val (.ref a1), .val (.ref a2), .val (.int (1 : Int32)), .val (.int (2 : Int32))] [(.int (2 : Int32)), (.ref a2)]))
        obtain ⟨cl68, Ar68, S68, M68, H68⟩ := id VT
        have hin69 : ¬ ((2 : Int32) < 0 ∨ cl68.slots.size ≤ ((2 : Int32)).toNatClampNeg) := inb_of S68 ⟨by decide, own_in c12 (by decide)⟩
        have hat69 : cl68.slots[((2 : Int32)).toNatClampNeg]? = some (.int (g 2)) := H68 _ (Nat.lt_of_not_le fun q => hin69 (Or.inr q))
        refine Run.step (fun t_ k_ => X67.baloadBytes hx (j := (2 : Int32)) (v := (.int (g 2))) (by rw [e67]; exact Ar68.1) (State.isArrayOf_alike hZ.alike Ar68.2.1) Ar68.2.2 hin69 hat69 (g := (mkF m 43 #[.val (.ref a1), .val (.ref a2), .val (.int (1 : Int32)), .val (.int (2 : Int32))] [(.int (2 : Int32)), (.ref a2)])) rfl rfl (hb hby d5_43) _ (XS.aloadN X67.here hx rfl (hb hby d5_44) rfl rfl k_)) ?_
        show Run _ _ _ _ (T67.setTop (mkF m 45 #[.val (.ref a1), .val (.ref a2), .val (.int (1 : Int32)), .val (.int (2 : Int32))] [(.ref a1), (.int (g 2))]))
        obtain ⟨T70, X70, e70, st70⟩ := getF X67 hx hZ hown (host := "") (Or.inl w25) Via.refl e67 F2 (g := (mkF m 45 #[.val (.ref a1), .val (.ref a2), .val (.int (1 : Int32)), .val (.int (2 : Int32))] [(.ref a1), (.int (g 2))])) rfl rfl (hb hby d5_45)
        refine Run.step st70 ?_
        show Run _ _ _ _ (T70.setTop (mkF m 48 #[.val (.ref a1), .val (.ref a2), .val (.int (1 : Int32)), .val (.int (2 : Int32))] [(.ref mg), (.int (g 2))]))
        refine Run.step (fun t_ k_ => XS.iloadN X70.here hx rfl (hb hby d5_48) rfl k_) ?_
        show Run _ _ _ _ (T70.setTop (mkF m 49 #[.val (.ref a1), .val (.ref a2), .val (.int (1 : Int32)), .val (.int (2 : Int32))] [(.int (2 : Int32)), (.ref mg), (.int (g 2))]))
        obtain ⟨cl71, Ar71, q71, S71, M71, H71, U71⟩ := id VM
        have hin72 : ¬ ((2 : Int32) < 0 ∨ cl71.slots.size ≤ ((2 : Int32)).toNatClampNeg) := inb_of S71 ⟨by decide, by decide⟩
        have hat72 : cl71.slots[((2 : Int32)).toNatClampNeg]? = some (.int (122 : Int32)) := H71.at hin72 rfl
        refine Run.step (fun t_ k_ => X70.baloadBytes hx (j := (2 : Int32)) (v := (.int (122 : Int32))) (by rw [e70]; exact Ar71.1) (State.isArrayOf_alike hZ.alike Ar71.2.1) Ar71.2.2 hin72 hat72 (g := (mkF m 49 #[.val (.ref a1), .val (.ref a2), .val (.int (1 : Int32)), .val (.int (2 : Int32))] [(.int (2 : Int32)), (.ref mg), (.int (g 2))])) rfl rfl (hb hby d5_49) _ k_) ?_
        show Run _ _ _ _ (T70.setTop (mkF m 50 #[.val (.ref a1), .val (.ref a2), .val (.int (1 : Int32)), .val (.int (2 : Int32))] [(.int (122 : Int32)), (.int (g 2))]))
        by_cases c50_73 : (g 2) = (122 : Int32)
        · skip
          refine Run.step (fun t_ k_ => XS.icmpNo X70.here hx rfl (hb hby d5_50) rfl (XT.ii_ne_f c50_73) (XS.iconst X70.here hx rfl (hb hby d5_53) (XS.goto X70.here hx rfl (pc0 := 54) (pc' := 58) rfl (hb hby d5_54) (by decide) (by decide) (XS.istoreN X70.here hx rfl (hb hby d5_58) rfl (l' := #[.val (.ref a1), .val (.ref a2), .val (.int (1 : Int32)), .val (.int (2 : Int32))]) rfl (XS.iinc X70.here hx rfl (hb hby d5_59) rfl (l' := #[.val (.ref a1), .val (.ref a2), .val (.int (1 : Int32)), .val (.int (3 : Int32))]) rfl (XS.goto X70.here hx rfl (pc0 := 62) (pc' := 23) rfl (hb hby d5_62) (by decide) (by decide) k_)))))) ?_
          show Run _ _ _ _ (T70.setTop (mkF m 23 #[.val (.ref a1), .val (.ref a2), .val (.int (1 : Int32)), .val (.int (3 : Int32))] []))
          refine Run.step (fun t_ k_ => XS.iloadN X70.here hx rfl (hb hby d5_23) rfl (XS.ifNo X70.here hx rfl (hb hby d5_24) rfl (XT.i0_eq_f (by decide : ¬ ((1 : Int32) = (0 : Int32)))) (XS.iloadN X70.here hx rfl (hb hby d5_27) rfl (XS.aloadN X70.here hx rfl (hb hby d5_28) rfl rfl k_)))) ?_
          show Run _ _ _ _ (T70.setTop (mkF m 29 #[.val (.ref a1), .val (.ref a2), .val (.int (1 : Int32)), .val (.int (3 : Int32))] [(.ref a1), (.int (3 : Int32))]))
          obtain ⟨T74, X74, e74, st74⟩ := getF X70 hx hZ hown (host := "") (Or.inl w25) Via.refl e70 F2 (g := (mkF m 29 #[.val (.ref a1), .val (.ref a2), .val (.int (1 : Int32)), .val (.int (3 : Int32))] [(.ref a1), (.int (3 : Int32))])) rfl rfl (hb hby d5_29)
          refine Run.step st74 ?_
          show Run _ _ _ _ (T74.setTop (mkF m 32 #[.val (.ref a1), .val (.ref a2), .val (.int (1 : Int32)), .val (.int (3 : Int32))] [(.ref mg), (.int (3 : Int32))]))
          obtain ⟨cl75, Ar75, q75, S75, M75, H75, U75⟩ := id VM
          refine Run.step (fun t_ k_ => X74.arraylength hx (by rw [e74]; exact Ar75.1) (State.isArrayOf_alike hZ.alike Ar75.2.1) (g := (mkF m 32 #[.val (.ref a1), .val (.ref a2), .val (.int (1 : Int32)), .val (.int (3 : Int32))] [(.ref mg), (.int (3 : Int32))])) rfl rfl (hb hby d5_32) _ k_) ?_
          rw [len_of S75 M75]
          show Run _ _ _ _ (T74.setTop (mkF m 33 #[.val (.ref a1), .val (.ref a2), .val (.int (1 : Int32)), .val (.int (3 : Int32))] [(.int (6 : Int32)), (.int (3 : Int32))]))
          refine Run.step (fun t_ k_ => XS.icmpNo X74.here hx rfl (hb hby d5_33) rfl (XT.ii_ge_f (by decide : (3 : Int32) < (6 : Int32))) (XS.aloadN X74.here hx rfl (hb hby d5_36) rfl rfl (XS.aloadN X74.here hx rfl (hb hby d5_37) rfl rfl k_))) ?_
          show Run _ _ _ _ (T74.setTop (mkF m 38 #[.val (.ref a1), .val (.ref a2), .val (.int (1 : Int32)), .val (.int (3 : Int32))] [(.ref a1), (.ref a2)]))
          obtain ⟨T76, X76, e76, st76⟩ := getF X74 hx hZ hown (host := "") (Or.inl w23) Via.refl e74 F1 (g := (mkF m 38 #[.val (.ref a1), .val (.ref a2), .val (.int (1 : Int32)), .val (.int (3 : Int32))] [(.ref a1), (.ref a2)])) rfl rfl (hb hby d5_38)
          refine Run.step st76 ?_
          show Run _ _ _ _ (T76.setTop (mkF m 41 #[.val (.ref a1), .val (.ref a2), .val (.int (1 : Int32)), .val (.int (3 : Int32))] [(.int (0 : Int32)), (.ref a2)]))
          refine Run.step (fun t_ k_ => XS.iloadN X76.here hx rfl (hb hby d5_41) rfl (XS.iadd X76.here hx rfl (hb hby d5_42) rfl k_)) ?_
          show Run _ _ _ _ (T76.setTop (mkF m 43 #[.val (.ref a1), .val (.ref a2), .val (.int (1 : Int32)), .val (.int (3 : Int32))] [(.int (3 : Int32)), (.ref a2)]))
          obtain ⟨cl77, Ar77, S77, M77, H77⟩ := id VT
          have hin78 : ¬ ((3 : Int32) < 0 ∨ cl77.slots.size ≤ ((3 : Int32)).toNatClampNeg) := inb_of S77 ⟨by decide, own_in c12 (by decide)⟩
          have hat78 : cl77.slots[((3 : Int32)).toNatClampNeg]? = some (.int (g 3)) := H77 _ (Nat.lt_of_not_le fun q => hin78 (Or.inr q))
          refine Run.step (fun t_ k_ => X76.baloadBytes hx (j := (3 : Int32)) (v := (.int (g 3))) (by rw [e76]; exact Ar77.1) (State.isArrayOf_alike hZ.alike Ar77.2.1) Ar77.2.2 hin78 hat78 (g := (mkF m 43 #[.val (.ref a1), .val (.ref a2), .val (.int (1 : Int32)), .val (.int (3 : Int32))] [(.int (3 : Int32)), (.ref a2)])) rfl rfl (hb hby d5_43) _ (XS.aloadN X76.here hx rfl (hb hby d5_44) rfl rfl k_)) ?_
          show Run _ _ _ _ (T76.setTop (mkF m 45 #[.val (.ref a1), .val (.ref a2), .val (.int (1 : Int32)), .val (.int (3 : Int32))] [(.ref a1), (.int (g 3))]))
          obtain ⟨T79, X79, e79, st79⟩ := getF X76 hx hZ hown (host := "") (Or.inl w25) Via.refl e76 F2 (g := (mkF m 45 #[.val (.ref a1), .val (.ref a2), .val (.int (1 : Int32)), .val (.int (3 : Int32))] [(.ref a1), (.int (g 3))])) rfl rfl (hb hby d5_45)
          refine Run.step st79 ?_
          show Run _ _ _ _ (T79.setTop (mkF m 48 #[.val (.ref a1), .val (.ref a2), .val (.int (1 : Int32)), .val (.int (3 : Int32))] [(.ref mg), (.int (g 3))]))
          refine Run.step (fun t_ k_ => XS.iloadN X79.here hx rfl (hb hby d5_48) rfl k_) ?_
          show Run _ _ _ _ (T79.setTop (mkF m 49 #[.val (.ref a1), .val (.ref a2), .val (.int (1 : Int32)), .val (.int (3 : Int32))] [(.int (3 : Int32)), (.ref mg), (.int (g 3))]))
          obtain ⟨cl80, Ar80, q80, S80, M80, H80, U80⟩ := id VM
          have hin81 : ¬ ((3 : Int32) < 0 ∨ cl80.slots.size ≤ ((3 : Int32)).toNatClampNeg) := inb_of S80 ⟨by decide, by decide⟩
          have hat81 : cl80.slots[((3 : Int32)).toNatClampNeg]? = some (.int (88 : Int32)) := H80.at hin81 rfl
          refine Run.step (fun t_ k_ => X79.baloadBytes hx (j := (3 : Int32)) (v := (.int (88 : Int32))) (by rw [e79]; exact Ar80.1) (State.isArrayOf_alike hZ.alike Ar80.2.1) Ar80.2.2 hin81 hat81 (g := (mkF m 49 #[.val (.ref a1), .val (.ref a2), .val (.int (1 : Int32)), .val (.int (3 : Int32))] [(.int (3 : Int32)), (.ref mg), (.int (g 3))])) rfl rfl (hb hby d5_49) _ k_) ?_
          show Run _ _ _ _ (T79.setTop (mkF m 50 #[.val (.ref a1), .val (.ref a2), .val (.int (1 : Int32)), .val (.int (3 : Int32))] [(.int (88 : Int32)), (.int (g 3))]))
          by_cases c50_82 : (g 3) = (88 : Int32)
          · skip
            refine Run.step (fun t_ k_ => XS.icmpNo X79.here hx rfl (hb hby d5_50) rfl (XT.ii_ne_f c50_82) (XS.iconst X79.here hx rfl (hb hby d5_53) (XS.goto X79.here hx rfl (pc0 := 54) (pc' := 58) rfl (hb hby d5_54) (by decide) (by decide) (XS.istoreN X79.here hx rfl (hb hby d5_58) rfl (l' := #[.val (.ref a1), .val (.ref a2), .val (.int (1 : Int32)), .val (.int (3 : Int32))]) rfl (XS.iinc X79.here hx rfl (hb hby d5_59) rfl (l' := #[.val (.ref a1), .val (.ref a2), .val (.int (1 : Int32)), .val (.int (4 : Int32))]) rfl (XS.goto X79.here hx rfl (pc0 := 62) (pc' := 23) rfl (hb hby d5_62) (by decide) (by decide) k_)))))) ?_
            show Run _ _ _ _ (T79.setTop (mkF m 23 #[.val (.ref a1), .val (.ref a2), .val (.int (1 : Int32)), .val (.int (4 : Int32))] []))
            refine Run.step (fun t_ k_ => XS.iloadN X79.here hx rfl (hb hby d5_23) rfl (XS.ifNo X79.here hx rfl (hb hby d5_24) rfl (XT.i0_eq_f (by decide : ¬ ((1 : Int32) = (0 : Int32)))) (XS.iloadN X79.here hx rfl (hb hby d5_27) rfl (XS.aloadN X79.here hx rfl (hb hby d5_28) rfl rfl k_)))) ?_
            show Run _ _ _ _ (T79.setTop (mkF m 29 #[.val (.ref a1), .val (.ref a2), .val (.int (1 : Int32)), .val (.int (4 : Int32))] [(.ref a1), (.int (4 : Int32))]))
            obtain ⟨T83, X83, e83, st83⟩ := getF X79 hx hZ hown (host := "") (Or.inl w25) Via.refl e79 F2 (g := (mkF m 29 #[.val (.ref a1), .val (.ref a2), .val (.int (1 : Int32)), .val (.int (4 : Int32))] [(.ref a1), (.int (4 : Int32))])) rfl rfl (hb hby d5_29)
            refine Run.step st83 ?_
            show Run _ _ _ _ (T83.setTop (mkF m 32 #[.val (.ref a1), .val (.ref a2), .val (.int (1 : Int32)), .val (.int (4 : Int32))] [(.ref mg), (.int (4 : Int32))]))
            obtain ⟨cl84, Ar84, q84, S84, M84, H84, U84⟩ := id VM
            refine Run.step (fun t_ k_ => X83.arraylength hx (by rw [e83]; exact Ar84.1) (State.isArrayOf_alike hZ.alike Ar84.2.1) (g := (mkF m 32 #[.val (.ref a1), .val (.ref a2), .val (.int (1 : Int32)), .val (.int (4 : Int32))] [(.ref mg), (.int (4 : Int32))])) rfl rfl (hb hby d5_32) _ k_) ?_
            rw [len_of S84 M84]
            show Run _ _ _ _ (T83.setTop (mkF m 33 #[.val (.ref a1), .val (.ref a2), .val (.int (1 : Int32)), .val (.int (4 : Int32))] [(.int (6 : Int32)), (.int (4 : Int32))]))
            refine Run.step (fun t_ k_ => XS.icmpNo X83.here hx rfl (hb hby d5_33) rfl (XT.ii_ge_f (by decide : (4 : Int32) < (6 : Int32))) (XS.aloadN X83.here hx rfl (hb hby d5_36) rfl rfl (XS.aloadN X83.here hx rfl (hb hby d5_37) rfl rfl k_))) ?_
            show Run _ _ _ _ (T83.setTop (mkF m 38 #[.val (.ref a1), .val (.ref a2), .val (.int (1 : Int32)), .val (.int (4 : Int32))] [(.ref a1), (.ref a2)]))
            obtain ⟨T85, X85, e85, st85⟩ := getF X83 hx hZ hown (host := "") (Or.inl w23) Via.refl e83 F1 (g := (mkF m 38 #[.val (.ref a1), .val (.ref a2), .val (.int (1 : Int32)), .val (.int (4 : Int32))] [(.ref a1), (.ref a2)])) rfl rfl (hb hby d5_38)
            refine Run.step st85 ?_
            show Run _ _ _ _ (T85.setTop (mkF m 41 #[.val (.ref a1), .val (.ref a2), .val (.int (1 : Int32)), .val (.int (4 : Int32))] [(.int (0 : Int32)), (.ref a2)]))
            refine Run.step (fun t_ k_ => XS.iloadN X85.here hx rfl (hb hby d5_41) rfl (XS.iadd X85.here hx rfl (hb hby d5_42) rfl k_)) ?_
            show Run _ _ _ _ (T85.setTop (mkF m 43 #[.val (.ref a1), .val (.ref a2), .val (.int (1 : Int32)), .val (.int (4 : Int32))] [(.int (4 : Int32)), (.ref a2)]))
            obtain ⟨cl86, Ar86, S86, M86, H86⟩ := id VT
            have hin87 : ¬ ((4 : Int32) < 0 ∨ cl86.slots.size ≤ ((4 : Int32)).toNatClampNeg) := inb_of S86 ⟨by decide, own_in c12 (by decide)⟩
            have hat87 : cl86.slots[((4 : Int32)).toNatClampNeg]? = some (.int (g 4)) := H86 _ (Nat.lt_of_not_le fun q => hin87 (Or.inr q))
            refine Run.step (fun t_ k_ => X85.baloadBytes hx (j := (4 : Int32)) (v := (.int (g 4))) (by rw [e85]; exact Ar86.1) (State.isArrayOf_alike hZ.alike Ar86.2.1) Ar86.2.2 hin87 hat87 (g := (mkF m 43 #[.val (.ref a1), .val (.ref a2), .val (.int (1 : Int32)), .val (.int (4 : Int32))] [(.int (4 : Int32)), (.ref a2)])) rfl rfl (hb hby d5_43) _ (XS.aloadN X85.here hx rfl (hb hby d5_44) rfl rfl k_)) ?_
            show Run _ _ _ _ (T85.setTop (mkF m 45 #[.val (.ref a1), .val (.ref a2), .val (.int (1 : Int32)), .val (.int (4 : Int32))] [(.ref a1), (.int (g 4))]))
            obtain ⟨T88, X88, e88, st88⟩ := getF X85 hx hZ hown (host := "") (Or.inl w25) Via.refl e85 F2 (g := (mkF m 45 #[.val (.ref a1), .val (.ref a2), .val (.int (1 : Int32)), .val (.int (4 : Int32))] [(.ref a1), (.int (g 4))])) rfl rfl (hb hby d5_45)
            refine Run.step st88 ?_
            show Run _ _ _ _ (T88.setTop (mkF m 48 #[.val (.ref a1), .val (.ref a2), .val (.int (1 : Int32)), .val (.int (4 : Int32))] [(.ref mg), (.int (g 4))]))
            refine Run.step (fun t_ k_ => XS.iloadN X88.here hx rfl (hb hby d5_48) rfl k_) ?_
            show Run _ _ _ _ (T88.setTop (mkF m 49 #[.val (.ref a1), .val (.ref a2), .val (.int (1 : Int32)), .val (.int (4 : Int32))] [(.int (4 : Int32)), (.ref mg), (.int (g 4))]))
            obtain ⟨cl89, Ar89, q89, S89, M89, H89, U89⟩ := id VM
            have hin90 : ¬ ((4 : Int32) < 0 ∨ cl89.slots.size ≤ ((4 : Int32)).toNatClampNeg) := inb_of S89 ⟨by decide, by decide⟩
            have hat90 : cl89.slots[((4 : Int32)).toNatClampNeg]? = some (.int (90 : Int32)) := H89.at hin90 rfl
            refine Run.step (fun t_ k_ => X88.baloadBytes hx (j := (4 : Int32)) (v := (.int (90 : Int32))) (by rw [e88]; exact Ar89.1) (State.isArrayOf_alike hZ.alike Ar89.2.1) Ar89.2.2 hin90 hat90 (g := (mkF m 49 #[.val (.ref a1), .val (.ref a2), .val (.int (1 : Int32)), .val (.int (4 : Int32))] [(.int (4 : Int32)), (.ref mg), (.int (g 4))])) rfl rfl (hb hby d5_49) _ k_) ?_
            show Run _ _ _ _ (T88.setTop (mkF m 50 #[.val (.ref a1), .val (.ref a2), .val (.int (1 : Int32)), .val (.int (4 : Int32))] [(.int (90 : Int32)), (.int (g 4))]))
            by_cases c50_91 : (g 4) = (90 : Int32)
            · skip
              refine Run.step (fun t_ k_ => XS.icmpNo X88.here hx rfl (hb hby d5_50) rfl (XT.ii_ne_f c50_91) (XS.iconst X88.here hx rfl (hb hby d5_53) (XS.goto X88.here hx rfl (pc0 := 54) (pc' := 58) rfl (hb hby d5_54) (by decide) (by decide) (XS.istoreN X88.here hx rfl (hb hby d5_58) rfl (l' := #[.val (.ref a1), .val (.ref a2), .val (.int (1 : Int32)), .val (.int (4 : Int32))]) rfl (XS.iinc X88.here hx rfl (hb hby d5_59) rfl (l' := #[.val (.ref a1), .val (.ref a2), .val (.int (1 : Int32)), .val (.int (5 : Int32))]) rfl (XS.goto X88.here hx rfl (pc0 := 62) (pc' := 23) rfl (hb hby d5_62) (by decide) (by decide) k_)))))) ?_
              show Run _ _ _ _ (T88.setTop (mkF m 23 #[.val (.ref a1), .val (.ref a2), .val (.int (1 : Int32)), .val (.int (5 : Int32))] []))
              refine Run.step (fun t_ k_ => XS.iloadN X88.here hx rfl (hb hby d5_23) rfl (XS.ifNo X88.here hx rfl (hb hby d5_24) rfl (XT.i0_eq_f (by decide : ¬ ((1 : Int32) = (0 : Int32)))) (XS.iloadN X88.here hx rfl (hb hby d5_27) rfl (XS.aloadN X88.here hx rfl (hb hby d5_28) rfl rfl k_)))) ?_
              show Run _ _ _ _ (T88.setTop (mkF m 29 #[.val (.ref a1), .val (.ref a2), .val (.int (1 : Int32)), .val (.int (5 : Int32))] [(.ref a1), (.int (5 : Int32))]))
              obtain ⟨T92, X92, e92, st92⟩ := getF X88 hx hZ hown (host := "") (Or.inl w25) Via.refl e88 F2 (g := (mkF m 29 #[.val (.ref a1), .val (.ref a2), .val (.int (1 : Int32)), .val (.int (5 : Int32))] [(.ref a1), (.int (5 : Int32))])) rfl rfl (hb hby d5_29)
              refine Run.step st92 ?_
              show Run _ _ _ _ (T92.setTop (mkF m 32 #[.val (.ref a1), .val (.ref a2), .val (.int (1 : Int32)), .val (.int (5 : Int32))] [(.ref mg), (.int (5 : Int32))]))
              obtain ⟨cl93, Ar93, q93, S93, M93, H93, U93⟩ := id VM
              refine Run.step (fun t_ k_ => X92.arraylength hx (by rw [e92]; exact Ar93.1) (State.isArrayOf_alike hZ.alike Ar93.2.1) (g := (mkF m 32 #[.val (.ref a1), .val (.ref a2), .val (.int (1 : Int32)), .val (.int (5 : Int32))] [(.ref mg), (.int (5 : Int32))])) rfl rfl (hb hby d5_32) _ k_) ?_
              rw [len_of S93 M93]
              show Run _ _ _ _ (T92.setTop (mkF m 33 #[.val (.ref a1), .val (.ref a2), .val (.int (1 : Int32)), .val (.int (5 : Int32))] [(.int (6 : Int32)), (.int (5 : Int32))]))
              refine Run.step (fun t_ k_ => XS.icmpNo X92.here hx rfl (hb hby d5_33) rfl (XT.ii_ge_f (by decide : (5 : Int32) < (6 : Int32))) (XS.aloadN X92.here hx rfl (hb hby d5_36) rfl rfl (XS.aloadN X92.here hx rfl (hb hby d5_37) rfl rfl k_))) ?_
              show Run _ _ _ _ (T92.setTop (mkF m 38 #[.val (.ref a1), .val (.ref a2), .val (.int (1 : Int32)), .val (.int (5 : Int32))] [(.ref a1), (.ref a2)]))
              obtain ⟨T94, X94, e94, st94⟩ := getF X92 hx hZ hown (host := "") (Or.inl w23) Via.refl e92 F1 (g := (mkF m 38 #[.val (.ref a1), .val (.ref a2), .val (.int (1 : Int32)), .val (.int (5 : Int32))] [(.ref a1), (.ref a2)])) rfl rfl (hb hby d5_38)
              refine Run.step st94 ?_
              show Run _ _ _ _ (T94.setTop (mkF m 41 #[.val (.ref a1), .val (.ref a2), .val (.int (1 : Int32)), .val (.int (5 : Int32))] [(.int (0 : Int32)), (.ref a2)]))
              refine Run.step (fun t_ k_ => XS.iloadN X94.here hx rfl (hb hby d5_41) rfl (XS.iadd X94.here hx rfl (hb hby d5_42) rfl k_)) ?_
              show Run _ _ _ _ (T94.setTop (mkF m 43 #[.val (.ref a1), .val (.ref a2), .val (.int (1 : Int32)), .val (.int (5 : Int32))] [(.int (5 : Int32)), (.ref a2)]))
              obtain ⟨cl95, Ar95, S95, M95, H95⟩ := id VT
              have hin96 : ¬ ((5 : Int32) < 0 ∨ cl95.slots.size ≤ ((5 : Int32)).toNatClampNeg) := inb_of S95 ⟨by decide, own_in c12 (by decide)⟩
              have hat96 : cl95.slots[((5 : Int32)).toNatClampNeg]? = some (.int (g 5)) := H95 _ (Nat.lt_of_not_le fun q => hin96 (Or.inr q))
              refine Run.step (fun t_ k_ => X94.baloadBytes hx (j := (5 : Int32)) (v := (.int (g 5))) (by rw [e94]; exact Ar95.1) (State.isArrayOf_alike hZ.alike Ar95.2.1) Ar95.2.2 hin96 hat96 (g := (mkF m 43 #[.val (.ref a1), .val (.ref a2), .val (.int (1 : Int32)), .val (.int (5 : Int32))] [(.int (5 : Int32)), (.ref a2)])) rfl rfl (hb hby d5_43) _ (XS.aloadN X94.here hx rfl (hb hby d5_44) rfl rfl k_)) ?_
              show Run _ _ _ _ (T94.setTop (mkF m 45 #[.val (.ref a1), .val (.ref a2), .val (.int (1 : Int32)), .val (.int (5 : Int32))] [(.ref a1), (.int (g 5))]))
              obtain ⟨T97, X97, e97, st97⟩ := getF X94 hx hZ hown (host := "") (Or.inl w25) Via.refl e94 F2 (g := (mkF m 45 #[.val (.ref a1), .val (.ref a2), .val (.int (1 : Int32)), .val (.int (5 : Int32))] [(.ref a1), (.int (g 5))])) rfl rfl (hb hby d5_45)
              refine Run.step st97 ?_
              show Run _ _ _ _ (T97.setTop (mkF m 48 #[.val (.ref a1), .val (.ref a2), .val (.int (1 : Int32)), .val (.int (5 : Int32))] [(.ref mg), (.int (g 5))]))
              refine Run.step (fun t_ k_ => XS.iloadN X97.here hx rfl (hb hby d5_48) rfl k_) ?_
              show Run _ _ _ _ (T97.setTop (mkF m 49 #[.val (.ref a1), .val (.ref a2), .val (.int (1 : Int32)), .val (.int (5 : Int32))] [(.int (5 : Int32)), (.ref mg), (.int (g 5))]))
              obtain ⟨cl98, Ar98, q98, S98, M98, H98, U98⟩ := id VM
              have hin99 : ¬ ((5 : Int32) < 0 ∨ cl98.slots.size ≤ ((5 : Int32)).toNatClampNeg) := inb_of S98 ⟨by decide, by decide⟩
              have hat99 : cl98.slots[((5 : Int32)).toNatClampNeg]? = some (.int (0 : Int32)) := H98.at hin99 rfl
              refine Run.step (fun t_ k_ => X97.baloadBytes hx (j := (5 : Int32)) (v := (.int (0 : Int32))) (by rw [e97]; exact Ar98.1) (State.isArrayOf_alike hZ.alike Ar98.2.1) Ar98.2.2 hin99 hat99 (g := (mkF m 49 #[.val (.ref a1), .val (.ref a2), .val (.int (1 : Int32)), .val (.int (5 : Int32))] [(.int (5 : Int32)), (.ref mg), (.int (g 5))])) rfl rfl (hb hby d5_49) _ k_) ?_
              show Run _ _ _ _ (T97.setTop (mkF m 50 #[.val (.ref a1), .val (.ref a2), .val (.int (1 : Int32)), .val (.int (5 : Int32))] [(.int (0 : Int32)), (.int (g 5))]))
              by_cases c50_100 : (g 5) = (0 : Int32)
              · skip
                refine Run.step (fun t_ k_ => XS.icmpNo X97.here hx rfl (hb hby d5_50) rfl (XT.ii_ne_f c50_100) (XS.iconst X97.here hx rfl (hb hby d5_53) (XS.goto X97.here hx rfl (pc0 := 54) (pc' := 58) rfl (hb hby d5_54) (by decide) (by decide) (XS.istoreN X97.here hx rfl (hb hby d5_58) rfl (l' := #[.val (.ref a1), .val (.ref a2), .val (.int (1 : Int32)), .val (.int (5 : Int32))]) rfl (XS.iinc X97.here hx rfl (hb hby d5_59) rfl (l' := #[.val (.ref a1), .val (.ref a2), .val (.int (1 : Int32)), .val (.int (6 : Int32))]) rfl (XS.goto X97.here hx rfl (pc0 := 62) (pc' := 23) rfl (hb hby d5_62) (by decide) (by decide) k_)))))) ?_
                show Run _ _ _ _ (T97.setTop (mkF m 23 #[.val (.ref a1), .val (.ref a2), .val (.int (1 : Int32)), .val (.int (6 : Int32))] []))
                refine Run.step (fun t_ k_ => XS.iloadN X97.here hx rfl (hb hby d5_23) rfl (XS.ifNo X97.here hx rfl (hb hby d5_24) rfl (XT.i0_eq_f (by decide : ¬ ((1 : Int32) = (0 : Int32)))) (XS.iloadN X97.here hx rfl (hb hby d5_27) rfl (XS.aloadN X97.here hx rfl (hb hby d5_28) rfl rfl k_)))) ?_
                show Run _ _ _ _ (T97.setTop (mkF m 29 #[.val (.ref a1), .val (.ref a2), .val (.int (1 : Int32)), .val (.int (6 : Int32))] [(.ref a1), (.int (6 : Int32))]))
                obtain ⟨T101, X101, e101, st101⟩ := getF X97 hx hZ hown (host := "") (Or.inl w25) Via.refl e97 F2 (g := (mkF m 29 #[.val (.ref a1), .val (.ref a2), .val (.int (1 : Int32)), .val (.int (6 : Int32))] [(.ref a1), (.int (6 : Int32))])) rfl rfl (hb hby d5_29)
                refine Run.step st101 ?_
                show Run _ _ _ _ (T101.setTop (mkF m 32 #[.val (.ref a1), .val (.ref a2), .val (.int (1 : Int32)), .val (.int (6 : Int32))] [(.ref mg), (.int (6 : Int32))]))
                obtain ⟨cl102, Ar102, q102, S102, M102, H102, U102⟩ := id VM
                refine Run.step (fun t_ k_ => X101.arraylength hx (by rw [e101]; exact Ar102.1) (State.isArrayOf_alike hZ.alike Ar102.2.1) (g := (mkF m 32 #[.val (.ref a1), .val (.ref a2), .val (.int (1 : Int32)), .val (.int (6 : Int32))] [(.ref mg), (.int (6 : Int32))])) rfl rfl (hb hby d5_32) _ k_) ?_
                rw [len_of S102 M102]
                show Run _ _ _ _ (T101.setTop (mkF m 33 #[.val (.ref a1), .val (.ref a2), .val (.int (1 : Int32)), .val (.int (6 : Int32))] [(.int (6 : Int32)), (.int (6 : Int32))]))
                refine Run.step (fun t_ k_ => XS.icmpYes X101.here hx rfl (pc0 := 33) (pc' := 65) rfl (hb hby d5_33) rfl (XT.ii_ge_t (by decide : ¬ ((6 : Int32) < (6 : Int32)))) (by decide) (by decide) (XS.iloadN X101.here hx rfl (hb hby d5_65) rfl k_)) ?_
                show Run _ _ _ _ (T101.setTop (mkF m 66 #[.val (.ref a1), .val (.ref a2), .val (.int (1 : Int32)), .val (.int (6 : Int32))] [(.int (1 : Int32))]))
                exact finZ X101 hx (BodyLoose.notSynchronized Bd) Bd.returns (hb hby d5_66) (by decide) (by decide) (by decide) e101 ⟨congrArg (fun z => some (Value.int z)) ((if_neg c12).trans ((if_pos c50).trans ((if_pos c50_64).trans ((if_pos c50_73).trans ((if_pos c50_82).trans ((if_pos c50_91).trans (if_pos c50_100))))))).symm, N0, rfl⟩
              · skip
                refine Run.step (fun t_ k_ => XS.icmpYes X97.here hx rfl (pc0 := 50) (pc' := 57) rfl (hb hby d5_50) rfl (XT.ii_ne_t c50_100) (by decide) (by decide) (XS.iconst X97.here hx rfl (hb hby d5_57) (XS.istoreN X97.here hx rfl (hb hby d5_58) rfl (l' := #[.val (.ref a1), .val (.ref a2), .val (.int (0 : Int32)), .val (.int (5 : Int32))]) rfl (XS.iinc X97.here hx rfl (hb hby d5_59) rfl (l' := #[.val (.ref a1), .val (.ref a2), .val (.int (0 : Int32)), .val (.int (6 : Int32))]) rfl (XS.goto X97.here hx rfl (pc0 := 62) (pc' := 23) rfl (hb hby d5_62) (by decide) (by decide) (XS.iloadN X97.here hx rfl (hb hby d5_23) rfl k_)))))) ?_
                show Run _ _ _ _ (T97.setTop (mkF m 24 #[.val (.ref a1), .val (.ref a2), .val (.int (0 : Int32)), .val (.int (6 : Int32))] [(.int (0 : Int32))]))
                refine Run.step (fun t_ k_ => XS.ifYes X97.here hx rfl (pc0 := 24) (pc' := 65) rfl (hb hby d5_24) rfl (XT.i0_eq_t (by decide : (0 : Int32) = (0 : Int32))) (by decide) (by decide) (XS.iloadN X97.here hx rfl (hb hby d5_65) rfl k_)) ?_
                show Run _ _ _ _ (T97.setTop (mkF m 66 #[.val (.ref a1), .val (.ref a2), .val (.int (0 : Int32)), .val (.int (6 : Int32))] [(.int (0 : Int32))]))
                exact finZ X97 hx (BodyLoose.notSynchronized Bd) Bd.returns (hb hby d5_66) (by decide) (by decide) (by decide) e97 ⟨congrArg (fun z => some (Value.int z)) ((if_neg c12).trans ((if_pos c50).trans ((if_pos c50_64).trans ((if_pos c50_73).trans ((if_pos c50_82).trans ((if_pos c50_91).trans (if_neg c50_100))))))).symm, N0, rfl⟩
            · skip
              refine Run.step (fun t_ k_ => XS.icmpYes X88.here hx rfl (pc0 := 50) (pc' := 57) rfl (hb hby d5_50) rfl (XT.ii_ne_t c50_91) (by decide) (by decide) (XS.iconst X88.here hx rfl (hb hby d5_57) (XS.istoreN X88.here hx rfl (hb hby d5_58) rfl (l' := #[.val (.ref a1), .val (.ref a2), .val (.int (0 : Int32)), .val (.int (4 : Int32))]) rfl (XS.iinc X88.here hx rfl (hb hby d5_59) rfl (l' := #[.val (.ref a1), .val (.ref a2), .val (.int (0 : Int32)), .val (.int (5 : Int32))]) rfl (XS.goto X88.here hx rfl (pc0 := 62) (pc' := 23) rfl (hb hby d5_62) (by decide) (by decide) (XS.iloadN X88.here hx rfl (hb hby d5_23) rfl k_)))))) ?_
              show Run _ _ _ _ (T88.setTop (mkF m 24 #[.val (.ref a1), .val (.ref a2), .val (.int (0 : Int32)), .val (.int (5 : Int32))] [(.int (0 : Int32))]))
              refine Run.step (fun t_ k_ => XS.ifYes X88.here hx rfl (pc0 := 24) (pc' := 65) rfl (hb hby d5_24) rfl (XT.i0_eq_t (by decide : (0 : Int32) = (0 : Int32))) (by decide) (by decide) (XS.iloadN X88.here hx rfl (hb hby d5_65) rfl k_)) ?_
              show Run _ _ _ _ (T88.setTop (mkF m 66 #[.val (.ref a1), .val (.ref a2), .val (.int (0 : Int32)), .val (.int (5 : Int32))] [(.int (0 : Int32))]))
              exact finZ X88 hx (BodyLoose.notSynchronized Bd) Bd.returns (hb hby d5_66) (by decide) (by decide) (by decide) e88 ⟨congrArg (fun z => some (Value.int z)) ((if_neg c12).trans ((if_pos c50).trans ((if_pos c50_64).trans ((if_pos c50_73).trans ((if_pos c50_82).trans (if_neg c50_91)))))).symm, N0, rfl⟩
          · skip
            refine Run.step (fun t_ k_ => XS.icmpYes X79.here hx rfl (pc0 := 50) (pc' := 57) rfl (hb hby d5_50) rfl (XT.ii_ne_t c50_82) (by decide) (by decide) (XS.iconst X79.here hx rfl (hb hby d5_57) (XS.istoreN X79.here hx rfl (hb hby d5_58) rfl (l' := #[.val (.ref a1), .val (.ref a2), .val (.int (0 : Int32)), .val (.int (3 : Int32))]) rfl (XS.iinc X79.here hx rfl (hb hby d5_59) rfl (l' := #[.val (.ref a1), .val (.ref a2), .val (.int (0 : Int32)), .val (.int (4 : Int32))]) rfl (XS.goto X79.here hx rfl (pc0 := 62) (pc' := 23) rfl (hb hby d5_62) (by decide) (by decide) (XS.iloadN X79.here hx rfl (hb hby d5_23) rfl k_)))))) ?_
            show Run _ _ _ _ (T79.setTop (mkF m 24 #[.val (.ref a1), .val (.ref a2), .val (.int (0 : Int32)), .val (.int (4 : Int32))] [(.int (0 : Int32))]))
            refine Run.step (fun t_ k_ => XS.ifYes X79.here hx rfl (pc0 := 24) (pc' := 65) rfl (hb hby d5_24) rfl (XT.i0_eq_t (by decide : (0 : Int32) = (0 : Int32))) (by decide) (by decide) (XS.iloadN X79.here hx rfl (hb hby d5_65) rfl k_)) ?_
            show Run _ _ _ _ (T79.setTop (mkF m 66 #[.val (.ref a1), .val (.ref a2), .val (.int (0 : Int32)), .val (.int (4 : Int32))] [(.int (0 : Int32))]))
            exact finZ X79 hx (BodyLoose.notSynchronized Bd) Bd.returns (hb hby d5_66) (by decide) (by decide) (by decide) e79 ⟨congrArg (fun z => some (Value.int z)) ((if_neg c12).trans ((if_pos c50).trans ((if_pos c50_64).trans ((if_pos c50_73).trans (if_neg c50_82))))).symm, N0, rfl⟩
        · skip
          refine Run.step (fun t_ k_ => XS.icmpYes X70.here hx rfl (pc0 := 50) (pc' := 57) rfl (hb hby d5_50) rfl (XT.ii_ne_t c50_73) (by decide) (by decide) (XS.iconst X70.here hx rfl (hb hby d5_57) (XS.istoreN X70.here hx rfl (hb hby d5_58) rfl (l' := #[.val (.ref a1), .val (.ref a2), .val (.int (0 : Int32)), .val (.int (2 : Int32))]) rfl (XS.iinc X70.here hx rfl (hb hby d5_59) rfl (l' := #[.val (.ref a1), .val (.ref a2), .val (.int (0 : Int32)), .val (.int (3 : Int32))]) rfl (XS.goto X70.here hx rfl (pc0 := 62) (pc' := 23) rfl (hb hby d5_62) (by decide) (by decide) (XS.iloadN X70.here hx rfl (hb hby d5_23) rfl k_)))))) ?_
          show Run _ _ _ _ (T70.setTop (mkF m 24 #[.val (.ref a1), .val (.ref a2), .val (.int (0 : Int32)), .val (.int (3 : Int32))] [(.int (0 : Int32))]))
          refine Run.step (fun t_ k_ => XS.ifYes X70.here hx rfl (pc0 := 24) (pc' := 65) rfl (hb hby d5_24) rfl (XT.i0_eq_t (by decide : (0 : Int32) = (0 : Int32))) (by decide) (by decide) (XS.iloadN X70.here hx rfl (hb hby d5_65) rfl k_)) ?_
          show Run _ _ _ _ (T70.setTop (mkF m 66 #[.val (.ref a1), .val (.ref a2), .val (.int (0 : Int32)), .val (.int (3 : Int32))] [(.int (0 : Int32))]))
          exact finZ X70 hx (BodyLoose.notSynchronized Bd) Bd.returns (hb hby d5_66) (by decide) (by decide) (by decide) e70 ⟨congrArg (fun z => some (Value.int z)) ((if_neg c12).trans ((if_pos c50).trans ((if_pos c50_64).trans (if_neg c50_73)))).symm, N0, rfl⟩
      · skip
        refine Run.step (fun t_ k_ => XS.icmpYes X61.here hx rfl (pc0 := 50) (pc' := 57) rfl (hb hby d5_50) rfl (XT.ii_ne_t c50_64) (by decide) (by decide) (XS.iconst X61.here hx rfl (hb hby d5_57) (XS.istoreN X61.here hx rfl (hb hby d5_58) rfl (l' := #[.val (.ref a1), .val (.ref a2), .val (.int (0 : Int32)), .val (.int (1 : Int32))]) rfl (XS.iinc X61.here hx rfl (hb hby d5_59) rfl (l' := #[.val (.ref a1), .val (.ref a2), .val (.int (0 : Int32)), .val (.int (2 : Int32))]) rfl (XS.goto X61.here hx rfl (pc0 := 62) (pc' := 23) rfl (hb hby d5_62) (by decide) (by decide) (XS.iloadN X61.here hx rfl (hb hby d5_23) rfl k_)))))) ?_
        show Run _ _ _ _ (T61.setTop (mkF m 24 #[.val (.ref a1), .val (.ref a2), .val (.int (0 : Int32)), .val (.int (2 : Int32))] [(.int (0 : Int32))]))
        refine Run.step (fun t_ k_ => XS.ifYes X61.here hx rfl (pc0 := 24) (pc' := 65) rfl (hb hby d5_24) rfl (XT.i0_eq_t (by decide : (0 : Int32) = (0 : Int32))) (by decide) (by decide) (XS.iloadN X61.here hx rfl (hb hby d5_65) rfl k_)) ?_
        show Run _ _ _ _ (T61.setTop (mkF m 66 #[.val (.ref a1), .val (.ref a2), .val (.int (0 : Int32)), .val (.int (2 : Int32))] [(.int (0 : Int32))]))
        exact finZ X61 hx (BodyLoose.notSynchronized Bd) Bd.returns (hb hby d5_66) (by decide) (by decide) (by decide) e61 ⟨congrArg (fun z => some (Value.int z)) ((if_neg c12).trans ((if_pos c50).trans (if_neg c50_64))).symm, N0, rfl⟩
    · skip
      refine Run.step (fun t_ k_ => XS.icmpYes X53.here hx rfl (pc0 := 50) (pc' := 57) rfl (hb hby d5_50) rfl (XT.ii_ne_t c50) (by decide) (by decide) (XS.iconst X53.here hx rfl (hb hby d5_57) (XS.istoreN X53.here hx rfl (hb hby d5_58) rfl (l' := #[.val (.ref a1), .val (.ref a2), .val (.int (0 : Int32)), .val (.int (0 : Int32))]) rfl (XS.iinc X53.here hx rfl (hb hby d5_59) rfl (l' := #[.val (.ref a1), .val (.ref a2), .val (.int (0 : Int32)), .val (.int (1 : Int32))]) rfl (XS.goto X53.here hx rfl (pc0 := 62) (pc' := 23) rfl (hb hby d5_62) (by decide) (by decide) (XS.iloadN X53.here hx rfl (hb hby d5_23) rfl k_)))))) ?_
      show Run _ _ _ _ (T53.setTop (mkF m 24 #[.val (.ref a1), .val (.ref a2), .val (.int (0 : Int32)), .val (.int (1 : Int32))] [(.int (0 : Int32))]))
      refine Run.step (fun t_ k_ => XS.ifYes X53.here hx rfl (pc0 := 24) (pc' := 65) rfl (hb hby d5_24) rfl (XT.i0_eq_t (by decide : (0 : Int32) = (0 : Int32))) (by decide) (by decide) (XS.iloadN X53.here hx rfl (hb hby d5_65) rfl k_)) ?_
      show Run _ _ _ _ (T53.setTop (mkF m 66 #[.val (.ref a1), .val (.ref a2), .val (.int (0 : Int32)), .val (.int (1 : Int32))] [(.int (0 : Int32))]))
      exact finZ X53 hx (BodyLoose.notSynchronized Bd) Bd.returns (hb hby d5_66) (by decide) (by decide) (by decide) e53 ⟨congrArg (fun z => some (Value.int z)) ((if_neg c12).trans (if_neg c50)).symm, N0, rfl⟩
theorem ef_5_ZSTD (m : MethodId) (x0 : Addr) (x1 : Addr) : entryFrame m #[(.ref x0), (.ref x1)] 4 = mkF m 0 #[.val (.ref x0), .val (.ref x1), .unset, .unset] [] := by first | (simp [entryFrame, mkF, argsToLocals, Value.category, maxLocals]; done) | rfl
def Q5_ZSTD (Z : State) (a1 : Addr) (a2 : Addr) (mg : Addr) (km : ClassId) (nn : Int32) (g : Nat → Int32) (h0 : Heap) (n0 : Nat) (v : Option Value) (h : Heap) (L : List Loc) : Prop := v = some (.int (if nn < (4 : Int32) then 0 else (if g 0 = (40 : Int32) then (if g 1 = (-75 : Int32) then (if g 2 = (47 : Int32) then (if g 3 = (-3 : Int32) then (1) else 0) else 0) else 0) else 0))) ∧ Fr n0 L ∧ h = h0
set_option maxRecDepth 65536 in
set_option maxHeartbeats 40000000 in
theorem rm5_ZSTD (l : Launch) (Z : State) (a0 : Array Value) (hw : ∀ d ∈ tables_1, d.before a0 Z = true) (ws : List Jvm.Cond) (a1 : Addr) (a2 : Addr) (mg : Addr) (km : ClassId) (nn : Int32) (g : Nat → Int32) (h0 : Heap) (n0 : Nat) (Z0 : n0 ≤ h0.size) (F1 : Fld Z h0 a1 "cleave/io/PackedFormat" "offset" "I" (.int (0 : Int32))) (F2 : Fld Z h0 a1 "cleave/io/PackedFormat" "magic" "[B" (.ref mg)) (VM : Arv Z h0 mg km .byte (4 : Int32) [(.int (40 : Int32)), (.int (-75 : Int32)), (.int (47 : Int32)), (.int (-3 : Int32))] (.int (0 : Int32))) (VT : Bv Z h0 a2 nn g) :
    MetFree l (⟨"cleave/io/PackedFormat", "holdsMagic", "([B)Z"⟩ : MethodName) (head1 (Jvm.Cond.code (⟨"cleave/io/PackedFormat", "holdsMagic", "([B)Z"⟩ : MethodName) prog_34_method_10_code 4 (some .boolean) :: ws) ({ frames := 0, cells := 0, slots := 0, locals := 0 } : Room)) (fun a U => a = #[(.ref a1), (.ref a2)] ∧ Z.Warmed39 U.vm ∧ U.heap = h0) (fun _ _ _ _ _ => True) (fun _ U o U' => ∃ v L, o = .returned v ∧ Q5_ZSTD Z a1 a2 mg km nn g h0 n0 v U'.heap L ∧ FrameEnd U o U' L ({ frames := 0, cells := 0, slots := 0, locals := 0 } : Room).cells ({ frames := 0, cells := 0, slots := 0, locals := 0 } : Room).slots) := by
  refine MetFree.of_bodySF (plainFor_of_name pn_cleave_io_PackedFormat) hisR ?_
  intro p e s m args below meth c s₁ Bd hml0 hP hK
  obtain ⟨rfl, hZ, hh⟩ := hP
  have hx := Bd.exec
  have hby := Bd.bytes
  have w23 := hw _ (List.mem_of_getElem? (i := 23) rfl)
  have w25 := hw _ (List.mem_of_getElem? (i := 25) rfl)
  have hml : c.maxLocals = 4 := hml0
  have hown : s.vm.findClass "cleave/io/PackedFormat" = some m.cls := findClass_of_methodNamed Bd.named
  have hnm := (name_of_methodNamed Bd.named Bd.method).1
  have X0 : Stand p l e ({ frames := 0, cells := 0, slots := 0, locals := 0 } : Room) s m #[(.ref a1), (.ref a2)] below meth c s₁ [] 0 0 := Stand.of_body Bd
  have e0 : s₁.heap = h0 := by rw [← hh, Bd.state]; rfl
  have N0 := Fr.nil n0
  show Run p.tables e below (PQ s below 0 0 (Q5_ZSTD Z a1 a2 mg km nn g h0 n0)) (s₁.setTop (entryFrame m #[(.ref a1), (.ref a2)] 4))
  refine Run.step (fun t k => castTop (ef_5_ZSTD m a1 a2) k) ?_
  show Run _ _ _ _ (s₁.setTop (mkF m 0 #[.val (.ref a1), .val (.ref a2), .unset, .unset] []))
  refine Run.step (fun t_ k_ => XS.aloadN X0.here hx rfl (hb hby d5_0) rfl rfl k_) ?_
  show Run _ _ _ _ (s₁.setTop (mkF m 1 #[.val (.ref a1), .val (.ref a2), .unset, .unset] [(.ref a2)]))
  obtain ⟨cl103, Ar103, S103, M103, H103⟩ := id VT
  refine Run.step (fun t_ k_ => X0.arraylength hx (by rw [e0]; exact Ar103.1) (State.isArrayOf_alike hZ.alike Ar103.2.1) (g := (mkF m 1 #[.val (.ref a1), .val (.ref a2), .unset, .unset] [(.ref a2)])) rfl rfl (hb hby d5_1) _ k_) ?_
  rw [len_of S103 M103]
  show Run _ _ _ _ (s₁.setTop (mkF m 2 #[.val (.ref a1), .val (.ref a2), .unset, .unset] [(.int nn)]))
  refine Run.step (fun t_ k_ => XS.aloadN X0.here hx rfl (hb hby d5_2) rfl rfl k_) ?_
  show Run _ _ _ _ (s₁.setTop (mkF m 3 #[.val (.ref a1), .val (.ref a2), .unset, .unset] [(.ref a1), (.int nn)]))
  obtain ⟨T104, X104, e104, st104⟩ := getF X0 hx hZ hown (host := "") (Or.inl w23) Via.refl e0 F1 (g := (mkF m 3 #[.val (.ref a1), .val (.ref a2), .unset, .unset] [(.ref a1), (.int nn)])) rfl rfl (hb hby d5_3)
  refine Run.step st104 ?_
  show Run _ _ _ _ (T104.setTop (mkF m 6 #[.val (.ref a1), .val (.ref a2), .unset, .unset] [(.int (0 : Int32)), (.int nn)]))
  refine Run.step (fun t_ k_ => XS.aloadN X104.here hx rfl (hb hby d5_6) rfl rfl k_) ?_
  show Run _ _ _ _ (T104.setTop (mkF m 7 #[.val (.ref a1), .val (.ref a2), .unset, .unset] [(.ref a1), (.int (0 : Int32)), (.int nn)]))
  obtain ⟨T105, X105, e105, st105⟩ := getF X104 hx hZ hown (host := "") (Or.inl w25) Via.refl e104 F2 (g := (mkF m 7 #[.val (.ref a1), .val (.ref a2), .unset, .unset] [(.ref a1), (.int (0 : Int32)), (.int nn)])) rfl rfl (hb hby d5_7)
  refine Run.step st105 ?_
  show Run _ _ _ _ (T105.setTop (mkF m 10 #[.val (.ref a1), .val (.ref a2), .unset, .unset] [(.ref mg), (.int (0 : Int32)), (.int nn)]))
  obtain ⟨cl106, Ar106, q106, S106, M106, H106, U106⟩ := id VM
  refine Run.step (fun t_ k_ => X105.arraylength hx (by rw [e105]; exact Ar106.1) (State.isArrayOf_alike hZ.alike Ar106.2.1) (g := (mkF m 10 #[.val (.ref a1), .val (.ref a2), .unset, .unset] [(.ref mg), (.int (0 : Int32)), (.int nn)])) rfl rfl (hb hby d5_10) _ k_) ?_
  rw [len_of S106 M106]
  show Run _ _ _ _ (T105.setTop (mkF m 11 #[.val (.ref a1), .val (.ref a2), .unset, .unset] [(.int (4 : Int32)), (.int (0 : Int32)), (.int nn)]))
  refine Run.step (fun t_ k_ => XS.iadd X105.here hx rfl (hb hby d5_11) rfl k_) ?_
  show Run _ _ _ _ (T105.setTop (mkF m 12 #[.val (.ref a1), .val (.ref a2), .unset, .unset] [(.int (4 : Int32)), (.int nn)]))
  by_cases c12 : nn < (4 : Int32)
  · skip
    refine Run.step (fun t_ k_ => XS.icmpYes X105.here hx rfl (pc0 := 12) (pc' := 19) rfl (hb hby d5_12) rfl (XT.ii_lt_t c12) (by decide) (by decide) (XS.iconst X105.here hx rfl (hb hby d5_19) (XS.istoreN X105.here hx rfl (hb hby d5_20) rfl (l' := #[.val (.ref a1), .val (.ref a2), .val (.int (0 : Int32)), .unset]) rfl (XS.iconst X105.here hx rfl (hb hby d5_21) (XS.istoreN X105.here hx rfl (hb hby d5_22) rfl (l' := #[.val (.ref a1), .val (.ref a2), .val (.int (0 : Int32)), .val (.int (0 : Int32))]) rfl (XS.iloadN X105.here hx rfl (hb hby d5_23) rfl k_)))))) ?_
    show Run _ _ _ _ (T105.setTop (mkF m 24 #[.val (.ref a1), .val (.ref a2), .val (.int (0 : Int32)), .val (.int (0 : Int32))] [(.int (0 : Int32))]))
    refine Run.step (fun t_ k_ => XS.ifYes X105.here hx rfl (pc0 := 24) (pc' := 65) rfl (hb hby d5_24) rfl (XT.i0_eq_t (by decide : (0 : Int32) = (0 : Int32))) (by decide) (by decide) (XS.iloadN X105.here hx rfl (hb hby d5_65) rfl k_)) ?_
    show Run _ _ _ _ (T105.setTop (mkF m 66 #[.val (.ref a1), .val (.ref a2), .val (.int (0 : Int32)), .val (.int (0 : Int32))] [(.int (0 : Int32))]))
    exact finZ X105 hx (BodyLoose.notSynchronized Bd) Bd.returns (hb hby d5_66) (by decide) (by decide) (by decide) e105 ⟨congrArg (fun z => some (Value.int z)) (if_pos c12).symm, N0, rfl⟩
  · skip
    refine Run.step (fun t_ k_ => XS.icmpNo X105.here hx rfl (hb hby d5_12) rfl (XT.ii_lt_f c12) (XS.iconst X105.here hx rfl (hb hby d5_15) (XS.goto X105.here hx rfl (pc0 := 16) (pc' := 20) rfl (hb hby d5_16) (by decide) (by decide) (XS.istoreN X105.here hx rfl (hb hby d5_20) rfl (l' := #[.val (.ref a1), .val (.ref a2), .val (.int (1 : Int32)), .unset]) rfl (XS.iconst X105.here hx rfl (hb hby d5_21) (XS.istoreN X105.here hx rfl (hb hby d5_22) rfl (l' := #[.val (.ref a1), .val (.ref a2), .val (.int (1 : Int32)), .val (.int (0 : Int32))]) rfl k_)))))) ?_
    show Run _ _ _ _ (T105.setTop (mkF m 23 #[.val (.ref a1), .val (.ref a2), .val (.int (1 : Int32)), .val (.int (0 : Int32))] []))
    refine Run.step (fun t_ k_ => XS.iloadN X105.here hx rfl (hb hby d5_23) rfl (XS.ifNo X105.here hx rfl (hb hby d5_24) rfl (XT.i0_eq_f (by decide : ¬ ((1 : Int32) = (0 : Int32)))) (XS.iloadN X105.here hx rfl (hb hby d5_27) rfl (XS.aloadN X105.here hx rfl (hb hby d5_28) rfl rfl k_)))) ?_
    show Run _ _ _ _ (T105.setTop (mkF m 29 #[.val (.ref a1), .val (.ref a2), .val (.int (1 : Int32)), .val (.int (0 : Int32))] [(.ref a1), (.int (0 : Int32))]))
    obtain ⟨T107, X107, e107, st107⟩ := getF X105 hx hZ hown (host := "") (Or.inl w25) Via.refl e105 F2 (g := (mkF m 29 #[.val (.ref a1), .val (.ref a2), .val (.int (1 : Int32)), .val (.int (0 : Int32))] [(.ref a1), (.int (0 : Int32))])) rfl rfl (hb hby d5_29)
    refine Run.step st107 ?_
    show Run _ _ _ _ (T107.setTop (mkF m 32 #[.val (.ref a1), .val (.ref a2), .val (.int (1 : Int32)), .val (.int (0 : Int32))] [(.ref mg), (.int (0 : Int32))]))
    obtain ⟨cl108, Ar108, q108, S108, M108, H108, U108⟩ := id VM
    refine Run.step (fun t_ k_ => X107.arraylength hx (by rw [e107]; exact Ar108.1) (State.isArrayOf_alike hZ.alike Ar108.2.1) (g := (mkF m 32 #[.val (.ref a1), .val (.ref a2), .val (.int (1 : Int32)), .val (.int (0 : Int32))] [(.ref mg), (.int (0 : Int32))])) rfl rfl (hb hby d5_32) _ k_) ?_
    rw [len_of S108 M108]
    show Run _ _ _ _ (T107.setTop (mkF m 33 #[.val (.ref a1), .val (.ref a2), .val (.int (1 : Int32)), .val (.int (0 : Int32))] [(.int (4 : Int32)), (.int (0 : Int32))]))
    refine Run.step (fun t_ k_ => XS.icmpNo X107.here hx rfl (hb hby d5_33) rfl (XT.ii_ge_f (by decide : (0 : Int32) < (4 : Int32))) (XS.aloadN X107.here hx rfl (hb hby d5_36) rfl rfl (XS.aloadN X107.here hx rfl (hb hby d5_37) rfl rfl k_))) ?_
    show Run _ _ _ _ (T107.setTop (mkF m 38 #[.val (.ref a1), .val (.ref a2), .val (.int (1 : Int32)), .val (.int (0 : Int32))] [(.ref a1), (.ref a2)]))
    obtain ⟨T109, X109, e109, st109⟩ := getF X107 hx hZ hown (host := "") (Or.inl w23) Via.refl e107 F1 (g := (mkF m 38 #[.val (.ref a1), .val (.ref a2), .val (.int (1 : Int32)), .val (.int (0 : Int32))] [(.ref a1), (.ref a2)])) rfl rfl (hb hby d5_38)
    refine Run.step st109 ?_
    show Run _ _ _ _ (T109.setTop (mkF m 41 #[.val (.ref a1), .val (.ref a2), .val (.int (1 : Int32)), .val (.int (0 : Int32))] [(.int (0 : Int32)), (.ref a2)]))
    refine Run.step (fun t_ k_ => XS.iloadN X109.here hx rfl (hb hby d5_41) rfl (XS.iadd X109.here hx rfl (hb hby d5_42) rfl k_)) ?_
    show Run _ _ _ _ (T109.setTop (mkF m 43 #[.val (.ref a1), .val (.ref a2), .val (.int (1 : Int32)), .val (.int (0 : Int32))] [(.int (0 : Int32)), (.ref a2)]))
    obtain ⟨cl110, Ar110, S110, M110, H110⟩ := id VT
    have hin111 : ¬ ((0 : Int32) < 0 ∨ cl110.slots.size ≤ ((0 : Int32)).toNatClampNeg) := inb_of S110 ⟨by decide, own_in c12 (by decide)⟩
    have hat111 : cl110.slots[((0 : Int32)).toNatClampNeg]? = some (.int (g 0)) := H110 _ (Nat.lt_of_not_le fun q => hin111 (Or.inr q))
    refine Run.step (fun t_ k_ => X109.baloadBytes hx (j := (0 : Int32)) (v := (.int (g 0))) (by rw [e109]; exact Ar110.1) (State.isArrayOf_alike hZ.alike Ar110.2.1) Ar110.2.2 hin111 hat111 (g := (mkF m 43 #[.val (.ref a1), .val (.ref a2), .val (.int (1 : Int32)), .val (.int (0 : Int32))] [(.int (0 : Int32)), (.ref a2)])) rfl rfl (hb hby d5_43) _ (XS.aloadN X109.here hx rfl (hb hby d5_44) rfl rfl k_)) ?_
    show Run _ _ _ _ (T109.setTop (mkF m 45 #[.val (.ref a1), .val (.ref a2), .val (.int (1 : Int32)), .val (.int (0 : Int32))] [(.ref a1), (.int (g 0))]))
    obtain ⟨T112, X112, e112, st112⟩ := getF X109 hx hZ hown (host := "") (Or.inl w25) Via.refl e109 F2 (g := (mkF m 45 #[.val (.ref a1), .val (.ref a2), .val (.int (1 : Int32)), .val (.int (0 : Int32))] [(.ref a1), (.int (g 0))])) rfl rfl (hb hby d5_45)
    refine Run.step st112 ?_
    show Run _ _ _ _ (T112.setTop (mkF m 48 #[.val (.ref a1), .val (.ref a2), .val (.int (1 : Int32)), .val (.int (0 : Int32))] [(.ref mg), (.int (g 0))]))
    refine Run.step (fun t_ k_ => XS.iloadN X112.here hx rfl (hb hby d5_48) rfl k_) ?_
    show Run _ _ _ _ (T112.setTop (mkF m 49 #[.val (.ref a1), .val (.ref a2), .val (.int (1 : Int32)), .val (.int (0 : Int32))] [(.int (0 : Int32)), (.ref mg), (.int (g 0))]))
    obtain ⟨cl113, Ar113, q113, S113, M113, H113, U113⟩ := id VM
    have hin114 : ¬ ((0 : Int32) < 0 ∨ cl113.slots.size ≤ ((0 : Int32)).toNatClampNeg) := inb_of S113 ⟨by decide, by decide⟩
    have hat114 : cl113.slots[((0 : Int32)).toNatClampNeg]? = some (.int (40 : Int32)) := H113.at hin114 rfl
    refine Run.step (fun t_ k_ => X112.baloadBytes hx (j := (0 : Int32)) (v := (.int (40 : Int32))) (by rw [e112]; exact Ar113.1) (State.isArrayOf_alike hZ.alike Ar113.2.1) Ar113.2.2 hin114 hat114 (g := (mkF m 49 #[.val (.ref a1), .val (.ref a2), .val (.int (1 : Int32)), .val (.int (0 : Int32))] [(.int (0 : Int32)), (.ref mg), (.int (g 0))])) rfl rfl (hb hby d5_49) _ k_) ?_
    show Run _ _ _ _ (T112.setTop (mkF m 50 #[.val (.ref a1), .val (.ref a2), .val (.int (1 : Int32)), .val (.int (0 : Int32))] [(.int (40 : Int32)), (.int (g 0))]))
    by_cases c50 : (g 0) = (40 : Int32)
    · skip
      refine Run.step (fun t_ k_ => XS.icmpNo X112.here hx rfl (hb hby d5_50) rfl (XT.ii_ne_f c50) (XS.iconst X112.here hx rfl (hb hby d5_53) (XS.goto X112.here hx rfl (pc0 := 54) (pc' := 58) rfl (hb hby d5_54) (by decide) (by decide) (XS.istoreN X112.here hx rfl (hb hby d5_58) rfl (l' := #[.val (.ref a1), .val (.ref a2), .val (.int (1 : Int32)), .val (.int (0 : Int32))]) rfl (XS.iinc X112.here hx rfl (hb hby d5_59) rfl (l' := #[.val (.ref a1), .val (.ref a2), .val (.int (1 : Int32)), .val (.int (1 : Int32))]) rfl (XS.goto X112.here hx rfl (pc0 := 62) (pc' := 23) rfl (hb hby d5_62) (by decide) (by decide) k_)))))) ?_
      show Run _ _ _ _ (T112.setTop (mkF m 23 #[.val (.ref a1), .val (.ref a2), .val (.int (1 : Int32)), .val (.int (1 : Int32))] []))
      refine Run.step (fun t_ k_ => XS.iloadN X112.here hx rfl (hb hby d5_23) rfl (XS.ifNo X112.here hx rfl (hb hby d5_24) rfl (XT.i0_eq_f (by decide : ¬ ((1 : Int32) = (0 : Int32)))) (XS.iloadN X112.here hx rfl (hb hby d5_27) rfl (XS.aloadN X112.here hx rfl (hb hby d5_28) rfl rfl k_)))) ?_
      show Run _ _ _ _ (T112.setTop (mkF m 29 #[.val (.ref a1), .val (.ref a2), .val (.int (1 : Int32)), .val (.int (1 : Int32))] [(.ref a1), (.int (1 : Int32))]))
      obtain ⟨T115, X115, e115, st115⟩ := getF X112 hx hZ hown (host := "") (Or.inl w25) Via.refl e112 F2 (g := (mkF m 29 #[.val (.ref a1), .val (.ref a2), .val (.int (1 : Int32)), .val (.int (1 : Int32))] [(.ref a1), (.int (1 : Int32))])) rfl rfl (hb hby d5_29)
      refine Run.step st115 ?_
      show Run _ _ _ _ (T115.setTop (mkF m 32 #[.val (.ref a1), .val (.ref a2), .val (.int (1 : Int32)), .val (.int (1 : Int32))] [(.ref mg), (.int (1 : Int32))]))
      obtain ⟨cl116, Ar116, q116, S116, M116, H116, U116⟩ := id VM
      refine Run.step (fun t_ k_ => X115.arraylength hx (by rw [e115]; exact Ar116.1) (State.isArrayOf_alike hZ.alike Ar116.2.1) (g := (mkF m 32 #[.val (.ref a1), .val (.ref a2), .val (.int (1 : Int32)), .val (.int (1 : Int32))] [(.ref mg), (.int (1 : Int32))])) rfl rfl (hb hby d5_32) _ k_) ?_
      rw [len_of S116 M116]
      show Run _ _ _ _ (T115.setTop (mkF m 33 #[.val (.ref a1), .val (.ref a2), .val (.int (1 : Int32)), .val (.int (1 : Int32))] [(.int (4 : Int32)), (.int (1 : Int32))]))
      refine Run.step (fun t_ k_ => XS.icmpNo X115.here hx rfl (hb hby d5_33) rfl (XT.ii_ge_f (by decide : (1 : Int32) < (4 : Int32))) (XS.aloadN X115.here hx rfl (hb hby d5_36) rfl rfl (XS.aloadN X115.here hx rfl (hb hby d5_37) rfl rfl k_))) ?_
      show Run _ _ _ _ (T115.setTop (mkF m 38 #[.val (.ref a1), .val (.ref a2), .val (.int (1 : Int32)), .val (.int (1 : Int32))] [(.ref a1), (.ref a2)]))
      obtain ⟨T117, X117, e117, st117⟩ := getF X115 hx hZ hown (host := "") (Or.inl w23) Via.refl e115 F1 (g := (mkF m 38 #[.val (.ref a1), .val (.ref a2), .val (.int (1 : Int32)), .val (.int (1 : Int32))] [(.ref a1), (.ref a2)])) rfl rfl (hb hby d5_38)
      refine Run.step st117 ?_
      show Run _ _ _ _ (T117.setTop (mkF m 41 #[.val (.ref a1), .val (.ref a2), .val (.int (1 : Int32)), .val (.int (1 : Int32))] [(.int (0 : Int32)), (.ref a2)]))
      refine Run.step (fun t_ k_ => XS.iloadN X117.here hx rfl (hb hby d5_41) rfl (XS.iadd X117.here hx rfl (hb hby d5_42) rfl k_)) ?_
      show Run _ _ _ _ (T117.setTop (mkF m 43 #[.val (.ref a1), .val (.ref a2), .val (.int (1 : Int32)), .val (.int (1 : Int32))] [(.int (1 : Int32)), (.ref a2)]))
      obtain ⟨cl118, Ar118, S118, M118, H118⟩ := id VT
      have hin119 : ¬ ((1 : Int32) < 0 ∨ cl118.slots.size ≤ ((1 : Int32)).toNatClampNeg) := inb_of S118 ⟨by decide, own_in c12 (by decide)⟩
      have hat119 : cl118.slots[((1 : Int32)).toNatClampNeg]? = some (.int (g 1)) := H118 _ (Nat.lt_of_not_le fun q => hin119 (Or.inr q))
      refine Run.step (fun t_ k_ => X117.baloadBytes hx (j := (1 : Int32)) (v := (.int (g 1))) (by rw [e117]; exact Ar118.1) (State.isArrayOf_alike hZ.alike Ar118.2.1) Ar118.2.2 hin119 hat119 (g := (mkF m 43 #[.val (.ref a1), .val (.ref a2), .val (.int (1 : Int32)), .val (.int (1 : Int32))] [(.int (1 : Int32)), (.ref a2)])) rfl rfl (hb hby d5_43) _ (XS.aloadN X117.here hx rfl (hb hby d5_44) rfl rfl k_)) ?_
      show Run _ _ _ _ (T117.setTop (mkF m 45 #[.val (.ref a1), .val (.ref a2), .val (.int (1 : Int32)), .val (.int (1 : Int32))] [(.ref a1), (.int (g 1))]))
      obtain ⟨T120, X120, e120, st120⟩ := getF X117 hx hZ hown (host := "") (Or.inl w25) Via.refl e117 F2 (g := (mkF m 45 #[.val (.ref a1), .val (.ref a2), .val (.int (1 : Int32)), .val (.int (1 : Int32))] [(.ref a1), (.int (g 1))])) rfl rfl (hb hby d5_45)
      refine Run.step st120 ?_
      show Run _ _ _ _ (T120.setTop (mkF m 48 #[.val (.ref a1), .val (.ref a2), .val (.int (1 : Int32)), .val (.int (1 : Int32))] [(.ref mg), (.int (g 1))]))
      refine Run.step (fun t_ k_ => XS.iloadN X120.here hx rfl (hb hby d5_48) rfl k_) ?_
      show Run _ _ _ _ (T120.setTop (mkF m 49 #[.val (.ref a1), .val (.ref a2), .val (.int (1 : Int32)), .val (.int (1 : Int32))] [(.int (1 : Int32)), (.ref mg), (.int (g 1))]))
      obtain ⟨cl121, Ar121, q121, S121, M121, H121, U121⟩ := id VM
      have hin122 : ¬ ((1 : Int32) < 0 ∨ cl121.slots.size ≤ ((1 : Int32)).toNatClampNeg) := inb_of S121 ⟨by decide, by decide⟩
      have hat122 : cl121.slots[((1 : Int32)).toNatClampNeg]? = some (.int (-75 : Int32)) := H121.at hin122 rfl
      refine Run.step (fun t_ k_ => X120.baloadBytes hx (j := (1 : Int32)) (v := (.int (-75 : Int32))) (by rw [e120]; exact Ar121.1) (State.isArrayOf_alike hZ.alike Ar121.2.1) Ar121.2.2 hin122 hat122 (g := (mkF m 49 #[.val (.ref a1), .val (.ref a2), .val (.int (1 : Int32)), .val (.int (1 : Int32))] [(.int (1 : Int32)), (.ref mg), (.int (g 1))])) rfl rfl (hb hby d5_49) _ k_) ?_
      show Run _ _ _ _ (T120.setTop (mkF m 50 #[.val (.ref a1), .val (.ref a2), .val (.int (1 : Int32)), .val (.int (1 : Int32))] [(.int (-75 : Int32)), (.int (g 1))]))
      by_cases c50_123 : (g 1) = (-75 : Int32)
      · skip
        refine Run.step (fun t_ k_ => XS.icmpNo X120.here hx rfl (hb hby d5_50) rfl (XT.ii_ne_f c50_123) (XS.iconst X120.here hx rfl (hb hby d5_53) (XS.goto X120.here hx rfl (pc0 := 54) (pc' := 58) rfl (hb hby d5_54) (by decide) (by decide) (XS.istoreN X120.here hx rfl (hb hby d5_58) rfl (l' := #[.val (.ref a1), .val (.ref a2), .val (.int (1 : Int32)), .val (.int (1 : Int32))]) rfl (XS.iinc X120.here hx rfl (hb hby d5_59) rfl (l' := #[.val (.ref a1), .val (.ref a2), .val (.int (1 : Int32)), .val (.int (2 : Int32))]) rfl (XS.goto X120.here hx rfl (pc0 := 62) (pc' := 23) rfl (hb hby d5_62) (by decide) (by decide) k_)))))) ?_
        show Run _ _ _ _ (T120.setTop (mkF m 23 #[.val (.ref a1), .val (.ref a2), .val (.int (1 : Int32)), .val (.int (2 : Int32))] []))
        refine Run.step (fun t_ k_ => XS.iloadN X120.here hx rfl (hb hby d5_23) rfl (XS.ifNo X120.here hx rfl (hb hby d5_24) rfl (XT.i0_eq_f (by decide : ¬ ((1 : Int32) = (0 : Int32)))) (XS.iloadN X120.here hx rfl (hb hby d5_27) rfl (XS.aloadN X120.here hx rfl (hb hby d5_28) rfl rfl k_)))) ?_
        show Run _ _ _ _ (T120.setTop (mkF m 29 #[.val (.ref a1), .val (.ref a2), .val (.int (1 : Int32)), .val (.int (2 : Int32))] [(.ref a1), (.int (2 : Int32))]))
        obtain ⟨T124, X124, e124, st124⟩ := getF X120 hx hZ hown (host := "") (Or.inl w25) Via.refl e120 F2 (g := (mkF m 29 #[.val (.ref a1), .val (.ref a2), .val (.int (1 : Int32)), .val (.int (2 : Int32))] [(.ref a1), (.int (2 : Int32))])) rfl rfl (hb hby d5_29)
        refine Run.step st124 ?_
        show Run _ _ _ _ (T124.setTop (mkF m 32 #[.val (.ref a1), .val (.ref a2), .val (.int (1 : Int32)), .val (.int (2 : Int32))] [(.ref mg), (.int (2 : Int32))]))
        obtain ⟨cl125, Ar125, q125, S125, M125, H125, U125⟩ := id VM
        refine Run.step (fun t_ k_ => X124.arraylength hx (by rw [e124]; exact Ar125.1) (State.isArrayOf_alike hZ.alike Ar125.2.1) (g := (mkF m 32 #[.val (.ref a1), .val (.ref a2), .val (.int (1 : Int32)), .val (.int (2 : Int32))] [(.ref mg), (.int (2 : Int32))])) rfl rfl (hb hby d5_32) _ k_) ?_
        rw [len_of S125 M125]
        show Run _ _ _ _ (T124.setTop (mkF m 33 #[.val (.ref a1), .val (.ref a2), .val (.int (1 : Int32)), .val (.int (2 : Int32))] [(.int (4 : Int32)), (.int (2 : Int32))]))
        refine Run.step (fun t_ k_ => XS.icmpNo X124.here hx rfl (hb hby d5_33) rfl (XT.ii_ge_f (by decide : (2 : Int32) < (4 : Int32))) (XS.aloadN X124.here hx rfl (hb hby d5_36) rfl rfl (XS.aloadN X124.here hx rfl (hb hby d5_37) rfl rfl k_))) ?_
        show Run _ _ _ _ (T124.setTop (mkF m 38 #[.val (.ref a1), .val (.ref a2), .val (.int (1 : Int32)), .val (.int (2 : Int32))] [(.ref a1), (.ref a2)]))
        obtain ⟨T126, X126, e126, st126⟩ := getF X124 hx hZ hown (host := "") (Or.inl w23) Via.refl e124 F1 (g := (mkF m 38 #[.val (.ref a1), .val (.ref a2), .val (.int (1 : Int32)), .val (.int (2 : Int32))] [(.ref a1), (.ref a2)])) rfl rfl (hb hby d5_38)
        refine Run.step st126 ?_
        show Run _ _ _ _ (T126.setTop (mkF m 41 #[.val (.ref a1), .val (.ref a2), .val (.int (1 : Int32)), .val (.int (2 : Int32))] [(.int (0 : Int32)), (.ref a2)]))
        refine Run.step (fun t_ k_ => XS.iloadN X126.here hx rfl (hb hby d5_41) rfl (XS.iadd X126.here hx rfl (hb hby d5_42) rfl k_)) ?_
        show Run _ _ _ _ (T126.setTop (mkF m 43 #[.val (.ref a1), .val (.ref a2), .val (.int (1 : Int32)), .val (.int (2 : Int32))] [(.int (2 : Int32)), (.ref a2)]))
        obtain ⟨cl127, Ar127, S127, M127, H127⟩ := id VT
        have hin128 : ¬ ((2 : Int32) < 0 ∨ cl127.slots.size ≤ ((2 : Int32)).toNatClampNeg) := inb_of S127 ⟨by decide, own_in c12 (by decide)⟩
        have hat128 : cl127.slots[((2 : Int32)).toNatClampNeg]? = some (.int (g 2)) := H127 _ (Nat.lt_of_not_le fun q => hin128 (Or.inr q))
        refine Run.step (fun t_ k_ => X126.baloadBytes hx (j := (2 : Int32)) (v := (.int (g 2))) (by rw [e126]; exact Ar127.1) (State.isArrayOf_alike hZ.alike Ar127.2.1) Ar127.2.2 hin128 hat128 (g := (mkF m 43 #[.val (.ref a1), .val (.ref a2), .val (.int (1 : Int32)), .val (.int (2 : Int32))] [(.int (2 : Int32)), (.ref a2)])) rfl rfl (hb hby d5_43) _ (XS.aloadN X126.here hx rfl (hb hby d5_44) rfl rfl k_)) ?_
        show Run _ _ _ _ (T126.setTop (mkF m 45 #[.val (.ref a1), .val (.ref a2), .val (.int (1 : Int32)), .val (.int (2 : Int32))] [(.ref a1), (.int (g 2))]))
        obtain ⟨T129, X129, e129, st129⟩ := getF X126 hx hZ hown (host := "") (Or.inl w25) Via.refl e126 F2 (g := (mkF m 45 #[.val (.ref a1), .val (.ref a2), .val (.int (1 : Int32)), .val (.int (2 : Int32))] [(.ref a1), (.int (g 2))])) rfl rfl (hb hby d5_45)
        refine Run.step st129 ?_
        show Run _ _ _ _ (T129.setTop (mkF m 48 #[.val (.ref a1), .val (.ref a2), .val (.int (1 : Int32)), .val (.int (2 : Int32))] [(.ref mg), (.int (g 2))]))
        refine Run.step (fun t_ k_ => XS.iloadN X129.here hx rfl (hb hby d5_48) rfl k_) ?_
        show Run _ _ _ _ (T129.setTop (mkF m 49 #[.val (.ref a1), .val (.ref a2), .val (.int (1 : Int32)), .val (.int (2 : Int32))] [(.int (2 : Int32)), (.ref mg), (.int (g 2))]))
        obtain ⟨cl130, Ar130, q130, S130, M130, H130, U130⟩ := id VM
        have hin131 : ¬ ((2 : Int32) < 0 ∨ cl130.slots.size ≤ ((2 : Int32)).toNatClampNeg) := inb_of S130 ⟨by decide, by decide⟩
        have hat131 : cl130.slots[((2 : Int32)).toNatClampNeg]? = some (.int (47 : Int32)) := H130.at hin131 rfl
        refine Run.step (fun t_ k_ => X129.baloadBytes hx (j := (2 : Int32)) (v := (.int (47 : Int32))) (by rw [e129]; exact Ar130.1) (State.isArrayOf_alike hZ.alike Ar130.2.1) Ar130.2.2 hin131 hat131 (g := (mkF m 49 #[.val (.ref a1), .val (.ref a2), .val (.int (1 : Int32)), .val (.int (2 : Int32))] [(.int (2 : Int32)), (.ref mg), (.int (g 2))])) rfl rfl (hb hby d5_49) _ k_) ?_
        show Run _ _ _ _ (T129.setTop (mkF m 50 #[.val (.ref a1), .val (.ref a2), .val (.int (1 : Int32)), .val (.int (2 : Int32))] [(.int (47 : Int32)), (.int (g 2))]))
        by_cases c50_132 : (g 2) = (47 : Int32)
        · skip
          refine Run.step (fun t_ k_ => XS.icmpNo X129.here hx rfl (hb hby d5_50) rfl (XT.ii_ne_f c50_132) (XS.iconst X129.here hx rfl (hb hby d5_53) (XS.goto X129.here hx rfl (pc0 := 54) (pc' := 58) rfl (hb hby d5_54) (by decide) (by decide) (XS.istoreN X129.here hx rfl (hb hby d5_58) rfl (l' := #[.val (.ref a1), .val (.ref a2), .val (.int (1 : Int32)), .val (.int (2 : Int32))]) rfl (XS.iinc X129.here hx rfl (hb hby d5_59) rfl (l' := #[.val (.ref a1), .val (.ref a2), .val (.int (1 : Int32)), .val (.int (3 : Int32))]) rfl (XS.goto X129.here hx rfl (pc0 := 62) (pc' := 23) rfl (hb hby d5_62) (by decide) (by decide) k_)))))) ?_
          show Run _ _ _ _ (T129.setTop (mkF m 23 #[.val (.ref a1), .val (.ref a2), .val (.int (1 : Int32)), .val (.int (3 : Int32))] []))
          refine Run.step (fun t_ k_ => XS.iloadN X129.here hx rfl (hb hby d5_23) rfl (XS.ifNo X129.here hx rfl (hb hby d5_24) rfl (XT.i0_eq_f (by decide : ¬ ((1 : Int32) = (0 : Int32)))) (XS.iloadN X129.here hx rfl (hb hby d5_27) rfl (XS.aloadN X129.here hx rfl (hb hby d5_28) rfl rfl k_)))) ?_
          show Run _ _ _ _ (T129.setTop (mkF m 29 #[.val (.ref a1), .val (.ref a2), .val (.int (1 : Int32)), .val (.int (3 : Int32))] [(.ref a1), (.int (3 : Int32))]))
          obtain ⟨T133, X133, e133, st133⟩ := getF X129 hx hZ hown (host := "") (Or.inl w25) Via.refl e129 F2 (g := (mkF m 29 #[.val (.ref a1), .val (.ref a2), .val (.int (1 : Int32)), .val (.int (3 : Int32))] [(.ref a1), (.int (3 : Int32))])) rfl rfl (hb hby d5_29)
          refine Run.step st133 ?_
          show Run _ _ _ _ (T133.setTop (mkF m 32 #[.val (.ref a1), .val (.ref a2), .val (.int (1 : Int32)), .val (.int (3 : Int32))] [(.ref mg), (.int (3 : Int32))]))
          obtain ⟨cl134, Ar134, q134, S134, M134, H134, U134⟩ := id VM
          refine Run.step (fun t_ k_ => X133.arraylength hx (by rw [e133]; exact Ar134.1) (State.isArrayOf_alike hZ.alike Ar134.2.1) (g := (mkF m 32 #[.val (.ref a1), .val (.ref a2), .val (.int (1 : Int32)), .val (.int (3 : Int32))] [(.ref mg), (.int (3 : Int32))])) rfl rfl (hb hby d5_32) _ k_) ?_
          rw [len_of S134 M134]
          show Run _ _ _ _ (T133.setTop (mkF m 33 #[.val (.ref a1), .val (.ref a2), .val (.int (1 : Int32)), .val (.int (3 : Int32))] [(.int (4 : Int32)), (.int (3 : Int32))]))
          refine Run.step (fun t_ k_ => XS.icmpNo X133.here hx rfl (hb hby d5_33) rfl (XT.ii_ge_f (by decide : (3 : Int32) < (4 : Int32))) (XS.aloadN X133.here hx rfl (hb hby d5_36) rfl rfl (XS.aloadN X133.here hx rfl (hb hby d5_37) rfl rfl k_))) ?_
          show Run _ _ _ _ (T133.setTop (mkF m 38 #[.val (.ref a1), .val (.ref a2), .val (.int (1 : Int32)), .val (.int (3 : Int32))] [(.ref a1), (.ref a2)]))
          obtain ⟨T135, X135, e135, st135⟩ := getF X133 hx hZ hown (host := "") (Or.inl w23) Via.refl e133 F1 (g := (mkF m 38 #[.val (.ref a1), .val (.ref a2), .val (.int (1 : Int32)), .val (.int (3 : Int32))] [(.ref a1), (.ref a2)])) rfl rfl (hb hby d5_38)
          refine Run.step st135 ?_
          show Run _ _ _ _ (T135.setTop (mkF m 41 #[.val (.ref a1), .val (.ref a2), .val (.int (1 : Int32)), .val (.int (3 : Int32))] [(.int (0 : Int32)), (.ref a2)]))
          refine Run.step (fun t_ k_ => XS.iloadN X135.here hx rfl (hb hby d5_41) rfl (XS.iadd X135.here hx rfl (hb hby d5_42) rfl k_)) ?_
          show Run _ _ _ _ (T135.setTop (mkF m 43 #[.val (.ref a1), .val (.ref a2), .val (.int (1 : Int32)), .val (.int (3 : Int32))] [(.int (3 : Int32)), (.ref a2)]))
          obtain ⟨cl136, Ar136, S136, M136, H136⟩ := id VT
          have hin137 : ¬ ((3 : Int32) < 0 ∨ cl136.slots.size ≤ ((3 : Int32)).toNatClampNeg) := inb_of S136 ⟨by decide, own_in c12 (by decide)⟩
          have hat137 : cl136.slots[((3 : Int32)).toNatClampNeg]? = some (.int (g 3)) := H136 _ (Nat.lt_of_not_le fun q => hin137 (Or.inr q))
          refine Run.step (fun t_ k_ => X135.baloadBytes hx (j := (3 : Int32)) (v := (.int (g 3))) (by rw [e135]; exact Ar136.1) (State.isArrayOf_alike hZ.alike Ar136.2.1) Ar136.2.2 hin137 hat137 (g := (mkF m 43 #[.val (.ref a1), .val (.ref a2), .val (.int (1 : Int32)), .val (.int (3 : Int32))] [(.int (3 : Int32)), (.ref a2)])) rfl rfl (hb hby d5_43) _ (XS.aloadN X135.here hx rfl (hb hby d5_44) rfl rfl k_)) ?_
          show Run _ _ _ _ (T135.setTop (mkF m 45 #[.val (.ref a1), .val (.ref a2), .val (.int (1 : Int32)), .val (.int (3 : Int32))] [(.ref a1), (.int (g 3))]))
          obtain ⟨T138, X138, e138, st138⟩ := getF X135 hx hZ hown (host := "") (Or.inl w25) Via.refl e135 F2 (g := (mkF m 45 #[.val (.ref a1), .val (.ref a2), .val (.int (1 : Int32)), .val (.int (3 : Int32))] [(.ref a1), (.int (g 3))])) rfl rfl (hb hby d5_45)
          refine Run.step st138 ?_
          show Run _ _ _ _ (T138.setTop (mkF m 48 #[.val (.ref a1), .val (.ref a2), .val (.int (1 : Int32)), .val (.int (3 : Int32))] [(.ref mg), (.int (g 3))]))
          refine Run.step (fun t_ k_ => XS.iloadN X138.here hx rfl (hb hby d5_48) rfl k_) ?_
          show Run _ _ _ _ (T138.setTop (mkF m 49 #[.val (.ref a1), .val (.ref a2), .val (.int (1 : Int32)), .val (.int (3 : Int32))] [(.int (3 : Int32)), (.ref mg), (.int (g 3))]))
          obtain ⟨cl139, Ar139, q139, S139, M139, H139, U139⟩ := id VM
          have hin140 : ¬ ((3 : Int32) < 0 ∨ cl139.slots.size ≤ ((3 : Int32)).toNatClampNeg) := inb_of S139 ⟨by decide, by decide⟩
          have hat140 : cl139.slots[((3 : Int32)).toNatClampNeg]? = some (.int (-3 : Int32)) := H139.at hin140 rfl
          refine Run.step (fun t_ k_ => X138.baloadBytes hx (j := (3 : Int32)) (v := (.int (-3 : Int32))) (by rw [e138]; exact Ar139.1) (State.isArrayOf_alike hZ.alike Ar139.2.1) Ar139.2.2 hin140 hat140 (g := (mkF m 49 #[.val (.ref a1), .val (.ref a2), .val (.int (1 : Int32)), .val (.int (3 : Int32))] [(.int (3 : Int32)), (.ref mg), (.int (g 3))])) rfl rfl (hb hby d5_49) _ k_) ?_
          show Run _ _ _ _ (T138.setTop (mkF m 50 #[.val (.ref a1), .val (.ref a2), .val (.int (1 : Int32)), .val (.int (3 : Int32))] [(.int (-3 : Int32)), (.int (g 3))]))
          by_cases c50_141 : (g 3) = (-3 : Int32)
          · skip
            refine Run.step (fun t_ k_ => XS.icmpNo X138.here hx rfl (hb hby d5_50) rfl (XT.ii_ne_f c50_141) (XS.iconst X138.here hx rfl (hb hby d5_53) (XS.goto X138.here hx rfl (pc0 := 54) (pc' := 58) rfl (hb hby d5_54) (by decide) (by decide) (XS.istoreN X138.here hx rfl (hb hby d5_58) rfl (l' := #[.val (.ref a1), .val (.ref a2), .val (.int (1 : Int32)), .val (.int (3 : Int32))]) rfl (XS.iinc X138.here hx rfl (hb hby d5_59) rfl (l' := #[.val (.ref a1), .val (.ref a2), .val (.int (1 : Int32)), .val (.int (4 : Int32))]) rfl (XS.goto X138.here hx rfl (pc0 := 62) (pc' := 23) rfl (hb hby d5_62) (by decide) (by decide) k_)))))) ?_
            show Run _ _ _ _ (T138.setTop (mkF m 23 #[.val (.ref a1), .val (.ref a2), .val (.int (1 : Int32)), .val (.int (4 : Int32))] []))
            refine Run.step (fun t_ k_ => XS.iloadN X138.here hx rfl (hb hby d5_23) rfl (XS.ifNo X138.here hx rfl (hb hby d5_24) rfl (XT.i0_eq_f (by decide : ¬ ((1 : Int32) = (0 : Int32)))) (XS.iloadN X138.here hx rfl (hb hby d5_27) rfl (XS.aloadN X138.here hx rfl (hb hby d5_28) rfl rfl k_)))) ?_
            show Run _ _ _ _ (T138.setTop (mkF m 29 #[.val (.ref a1), .val (.ref a2), .val (.int (1 : Int32)), .val (.int (4 : Int32))] [(.ref a1), (.int (4 : Int32))]))
            obtain ⟨T142, X142, e142, st142⟩ := getF X138 hx hZ hown (host := "") (Or.inl w25) Via.refl e138 F2 (g := (mkF m 29 #[.val (.ref a1), .val (.ref a2), .val (.int (1 : Int32)), .val (.int (4 : Int32))] [(.ref a1), (.int (4 : Int32))])) rfl rfl (hb hby d5_29)
            refine Run.step st142 ?_
            show Run _ _ _ _ (T142.setTop (mkF m 32 #[.val (.ref a1), .val (.ref a2), .val (.int (1 : Int32)), .val (.int (4 : Int32))] [(.ref mg), (.int (4 : Int32))]))
            obtain ⟨cl143, Ar143, q143, S143, M143, H143, U143⟩ := id VM
            refine Run.step (fun t_ k_ => X142.arraylength hx (by rw [e142]; exact Ar143.1) (State.isArrayOf_alike hZ.alike Ar143.2.1) (g := (mkF m 32 #[.val (.ref a1), .val (.ref a2), .val (.int (1 : Int32)), .val (.int (4 : Int32))] [(.ref mg), (.int (4 : Int32))])) rfl rfl (hb hby d5_32) _ k_) ?_
            rw [len_of S143 M143]
            show Run _ _ _ _ (T142.setTop (mkF m 33 #[.val (.ref a1), .val (.ref a2), .val (.int (1 : Int32)), .val (.int (4 : Int32))] [(.int (4 : Int32)), (.int (4 : Int32))]))
            refine Run.step (fun t_ k_ => XS.icmpYes X142.here hx rfl (pc0 := 33) (pc' := 65) rfl (hb hby d5_33) rfl (XT.ii_ge_t (by decide : ¬ ((4 : Int32) < (4 : Int32)))) (by decide) (by decide) (XS.iloadN X142.here hx rfl (hb hby d5_65) rfl k_)) ?_
            show Run _ _ _ _ (T142.setTop (mkF m 66 #[.val (.ref a1), .val (.ref a2), .val (.int (1 : Int32)), .val (.int (4 : Int32))] [(.int (1 : Int32))]))
            exact finZ X142 hx (BodyLoose.notSynchronized Bd) Bd.returns (hb hby d5_66) (by decide) (by decide) (by decide) e142 ⟨congrArg (fun z => some (Value.int z)) ((if_neg c12).trans ((if_pos c50).trans ((if_pos c50_123).trans ((if_pos c50_132).trans (if_pos c50_141))))).symm, N0, rfl⟩
          · skip
            refine Run.step (fun t_ k_ => XS.icmpYes X138.here hx rfl (pc0 := 50) (pc' := 57) rfl (hb hby d5_50) rfl (XT.ii_ne_t c50_141) (by decide) (by decide) (XS.iconst X138.here hx rfl (hb hby d5_57) (XS.istoreN X138.here hx rfl (hb hby d5_58) rfl (l' := #[.val (.ref a1), .val (.ref a2), .val (.int (0 : Int32)), .val (.int (3 : Int32))]) rfl (XS.iinc X138.here hx rfl (hb hby d5_59) rfl (l' := #[.val (.ref a1), .val (.ref a2), .val (.int (0 : Int32)), .val (.int (4 : Int32))]) rfl (XS.goto X138.here hx rfl (pc0 := 62) (pc' := 23) rfl (hb hby d5_62) (by decide) (by decide) (XS.iloadN X138.here hx rfl (hb hby d5_23) rfl k_)))))) ?_
            show Run _ _ _ _ (T138.setTop (mkF m 24 #[.val (.ref a1), .val (.ref a2), .val (.int (0 : Int32)), .val (.int (4 : Int32))] [(.int (0 : Int32))]))
            refine Run.step (fun t_ k_ => XS.ifYes X138.here hx rfl (pc0 := 24) (pc' := 65) rfl (hb hby d5_24) rfl (XT.i0_eq_t (by decide : (0 : Int32) = (0 : Int32))) (by decide) (by decide) (XS.iloadN X138.here hx rfl (hb hby d5_65) rfl k_)) ?_
            show Run _ _ _ _ (T138.setTop (mkF m 66 #[.val (.ref a1), .val (.ref a2), .val (.int (0 : Int32)), .val (.int (4 : Int32))] [(.int (0 : Int32))]))
            exact finZ X138 hx (BodyLoose.notSynchronized Bd) Bd.returns (hb hby d5_66) (by decide) (by decide) (by decide) e138 ⟨congrArg (fun z => some (Value.int z)) ((if_neg c12).trans ((if_pos c50).trans ((if_pos c50_123).trans ((if_pos c50_132).trans (if_neg c50_141))))).symm, N0, rfl⟩
        · skip
          refine Run.step (fun t_ k_ => XS.icmpYes X129.here hx rfl (pc0 := 50) (pc' := 57) rfl (hb hby d5_50) rfl (XT.ii_ne_t c50_132) (by decide) (by decide) (XS.iconst X129.here hx rfl (hb hby d5_57) (XS.istoreN X129.here hx rfl (hb hby d5_58) rfl (l' := #[.val (.ref a1), .val (.ref a2), .val (.int (0 : Int32)), .val (.int (2 : Int32))]) rfl (XS.iinc X129.here hx rfl (hb hby d5_59) rfl (l' := #[.val (.ref a1), .val (.ref a2), .val (.int (0 : Int32)), .val (.int (3 : Int32))]) rfl (XS.goto X129.here hx rfl (pc0 := 62) (pc' := 23) rfl (hb hby d5_62) (by decide) (by decide) (XS.iloadN X129.here hx rfl (hb hby d5_23) rfl k_)))))) ?_
          show Run _ _ _ _ (T129.setTop (mkF m 24 #[.val (.ref a1), .val (.ref a2), .val (.int (0 : Int32)), .val (.int (3 : Int32))] [(.int (0 : Int32))]))
          refine Run.step (fun t_ k_ => XS.ifYes X129.here hx rfl (pc0 := 24) (pc' := 65) rfl (hb hby d5_24) rfl (XT.i0_eq_t (by decide : (0 : Int32) = (0 : Int32))) (by decide) (by decide) (XS.iloadN X129.here hx rfl (hb hby d5_65) rfl k_)) ?_
          show Run _ _ _ _ (T129.setTop (mkF m 66 #[.val (.ref a1), .val (.ref a2), .val (.int (0 : Int32)), .val (.int (3 : Int32))] [(.int (0 : Int32))]))
          exact finZ X129 hx (BodyLoose.notSynchronized Bd) Bd.returns (hb hby d5_66) (by decide) (by decide) (by decide) e129 ⟨congrArg (fun z => some (Value.int z)) ((if_neg c12).trans ((if_pos c50).trans ((if_pos c50_123).trans (if_neg c50_132)))).symm, N0, rfl⟩
      · skip
        refine Run.step (fun t_ k_ => XS.icmpYes X120.here hx rfl (pc0 := 50) (pc' := 57) rfl (hb hby d5_50) rfl (XT.ii_ne_t c50_123) (by decide) (by decide) (XS.iconst X120.here hx rfl (hb hby d5_57) (XS.istoreN X120.here hx rfl (hb hby d5_58) rfl (l' := #[.val (.ref a1), .val (.ref a2), .val (.int (0 : Int32)), .val (.int (1 : Int32))]) rfl (XS.iinc X120.here hx rfl (hb hby d5_59) rfl (l' := #[.val (.ref a1), .val (.ref a2), .val (.int (0 : Int32)), .val (.int (2 : Int32))]) rfl (XS.goto X120.here hx rfl (pc0 := 62) (pc' := 23) rfl (hb hby d5_62) (by decide) (by decide) (XS.iloadN X120.here hx rfl (hb hby d5_23) rfl k_)))))) ?_
        show Run _ _ _ _ (T120.setTop (mkF m 24 #[.val (.ref a1), .val (.ref a2), .val (.int (0 : Int32)), .val (.int (2 : Int32))] [(.int (0 : Int32))]))
        refine Run.step (fun t_ k_ => XS.ifYes X120.here hx rfl (pc0 := 24) (pc' := 65) rfl (hb hby d5_24) rfl (XT.i0_eq_t (by decide : (0 : Int32) = (0 : Int32))) (by decide) (by decide) (XS.iloadN X120.here hx rfl (hb hby d5_65) rfl k_)) ?_
        show Run _ _ _ _ (T120.setTop (mkF m 66 #[.val (.ref a1), .val (.ref a2), .val (.int (0 : Int32)), .val (.int (2 : Int32))] [(.int (0 : Int32))]))
        exact finZ X120 hx (BodyLoose.notSynchronized Bd) Bd.returns (hb hby d5_66) (by decide) (by decide) (by decide) e120 ⟨congrArg (fun z => some (Value.int z)) ((if_neg c12).trans ((if_pos c50).trans (if_neg c50_123))).symm, N0, rfl⟩
    · skip
      refine Run.step (fun t_ k_ => XS.icmpYes X112.here hx rfl (pc0 := 50) (pc' := 57) rfl (hb hby d5_50) rfl (XT.ii_ne_t c50) (by decide) (by decide) (XS.iconst X112.here hx rfl (hb hby d5_57) (XS.istoreN X112.here hx rfl (hb hby d5_58) rfl (l' := #[.val (.ref a1), .val (.ref a2), .val (.int (0 : Int32)), .val (.int (0 : Int32))]) rfl (XS.iinc X112.here hx rfl (hb hby d5_59) rfl (l' := #[.val (.ref a1), .val (.ref a2), .val (.int (0 : Int32)), .val (.int (1 : Int32))]) rfl (XS.goto X112.here hx rfl (pc0 := 62) (pc' := 23) rfl (hb hby d5_62) (by decide) (by decide) (XS.iloadN X112.here hx rfl (hb hby d5_23) rfl k_)))))) ?_
      show Run _ _ _ _ (T112.setTop (mkF m 24 #[.val (.ref a1), .val (.ref a2), .val (.int (0 : Int32)), .val (.int (1 : Int32))] [(.int (0 : Int32))]))
      refine Run.step (fun t_ k_ => XS.ifYes X112.here hx rfl (pc0 := 24) (pc' := 65) rfl (hb hby d5_24) rfl (XT.i0_eq_t (by decide : (0 : Int32) = (0 : Int32))) (by decide) (by decide) (XS.iloadN X112.here hx rfl (hb hby d5_65) rfl k_)) ?_
      show Run _ _ _ _ (T112.setTop (mkF m 66 #[.val (.ref a1), .val (.ref a2), .val (.int (0 : Int32)), .val (.int (1 : Int32))] [(.int (0 : Int32))]))
      exact finZ X112 hx (BodyLoose.notSynchronized Bd) Bd.returns (hb hby d5_66) (by decide) (by decide) (by decide) e112 ⟨congrArg (fun z => some (Value.int z)) ((if_neg c12).trans (if_neg c50)).symm, N0, rfl⟩
theorem ef_5_ZIP (m : MethodId) (x0 : Addr) (x1 : Addr) : entryFrame m #[(.ref x0), (.ref x1)] 4 = mkF m 0 #[.val (.ref x0), .val (.ref x1), .unset, .unset] [] := by first | (simp [entryFrame, mkF, argsToLocals, Value.category, maxLocals]; done) | rfl
def Q5_ZIP (Z : State) (a1 : Addr) (a2 : Addr) (mg : Addr) (km : ClassId) (nn : Int32) (g : Nat → Int32) (h0 : Heap) (n0 : Nat) (v : Option Value) (h : Heap) (L : List Loc) : Prop := v = some (.int (if nn < (4 : Int32) then 0 else (if g 0 = (80 : Int32) then (if g 1 = (75 : Int32) then (if g 2 = (3 : Int32) then (if g 3 = (4 : Int32) then (1) else 0) else 0) else 0) else 0))) ∧ Fr n0 L ∧ h = h0
set_option maxRecDepth 65536 in
set_option maxHeartbeats 40000000 in
theorem rm5_ZIP (l : Launch) (Z : State) (a0 : Array Value) (hw : ∀ d ∈ tables_1, d.before a0 Z = true) (ws : List Jvm.Cond) (a1 : Addr) (a2 : Addr) (mg : Addr) (km : ClassId) (nn : Int32) (g : Nat → Int32) (h0 : Heap) (n0 : Nat) (Z0 : n0 ≤ h0.size) (F1 : Fld Z h0 a1 "cleave/io/PackedFormat" "offset" "I" (.int (0 : Int32))) (F2 : Fld Z h0 a1 "cleave/io/PackedFormat" "magic" "[B" (.ref mg)) (VM : Arv Z h0 mg km .byte (4 : Int32) [(.int (80 : Int32)), (.int (75 : Int32)), (.int (3 : Int32)), (.int (4 : Int32))] (.int (0 : Int32))) (VT : Bv Z h0 a2 nn g) :
    MetFree l (⟨"cleave/io/PackedFormat", "holdsMagic", "([B)Z"⟩ : MethodName) (head1 (Jvm.Cond.code (⟨"cleave/io/PackedFormat", "holdsMagic", "([B)Z"⟩ : MethodName) prog_34_method_10_code 4 (some .boolean) :: ws) ({ frames := 0, cells := 0, slots := 0, locals := 0 } : Room)) (fun a U => a = #[(.ref a1), (.ref a2)] ∧ Z.Warmed39 U.vm ∧ U.heap = h0) (fun _ _ _ _ _ => True) (fun _ U o U' => ∃ v L, o = .returned v ∧ Q5_ZIP Z a1 a2 mg km nn g h0 n0 v U'.heap L ∧ FrameEnd U o U' L ({ frames := 0, cells := 0, slots := 0, locals := 0 } : Room).cells ({ frames := 0, cells := 0, slots := 0, locals := 0 } : Room).slots) := by
  refine MetFree.of_bodySF (plainFor_of_name pn_cleave_io_PackedFormat) hisR ?_
  intro p e s m args below meth c s₁ Bd hml0 hP hK
  obtain ⟨rfl, hZ, hh⟩ := hP
  have hx := Bd.exec
  have hby := Bd.bytes
  have w23 := hw _ (List.mem_of_getElem? (i := 23) rfl)
  have w25 := hw _ (List.mem_of_getElem? (i := 25) rfl)
  have hml : c.maxLocals = 4 := hml0
  have hown : s.vm.findClass "cleave/io/PackedFormat" = some m.cls := findClass_of_methodNamed Bd.named
  have hnm := (name_of_methodNamed Bd.named Bd.method).1
  have X0 : Stand p l e ({ frames := 0, cells := 0, slots := 0, locals := 0 } : Room) s m #[(.ref a1), (.ref a2)] below meth c s₁ [] 0 0 := Stand.of_body Bd
  have e0 : s₁.heap = h0 := by rw [← hh, Bd.state]; rfl
  have N0 := Fr.nil n0
  show Run p.tables e below (PQ s below 0 0 (Q5_ZIP Z a1 a2 mg km nn g h0 n0)) (s₁.setTop (entryFrame m #[(.ref a1), (.ref a2)] 4))
  refine Run.step (fun t k => castTop (ef_5_ZIP m a1 a2) k) ?_
  show Run _ _ _ _ (s₁.setTop (mkF m 0 #[.val (.ref a1), .val (.ref a2), .unset, .unset] []))
  refine Run.step (fun t_ k_ => XS.aloadN X0.here hx rfl (hb hby d5_0) rfl rfl k_) ?_
  show Run _ _ _ _ (s₁.setTop (mkF m 1 #[.val (.ref a1), .val (.ref a2), .unset, .unset] [(.ref a2)]))
  obtain ⟨cl144, Ar144, S144, M144, H144⟩ := id VT
  refine Run.step (fun t_ k_ => X0.arraylength hx (by rw [e0]; exact Ar144.1) (State.isArrayOf_alike hZ.alike Ar144.2.1) (g := (mkF m 1 #[.val (.ref a1), .val (.ref a2), .unset, .unset] [(.ref a2)])) rfl rfl (hb hby d5_1) _ k_) ?_
  rw [len_of S144 M144]
  show Run _ _ _ _ (s₁.setTop (mkF m 2 #[.val (.ref a1), .val (.ref a2), .unset, .unset] [(.int nn)]))
  refine Run.step (fun t_ k_ => XS.aloadN X0.here hx rfl (hb hby d5_2) rfl rfl k_) ?_
  show Run _ _ _ _ (s₁.setTop (mkF m 3 #[.val (.ref a1), .val (.ref a2), .unset, .unset] [(.ref a1), (.int nn)]))
  obtain ⟨T145, X145, e145, st145⟩ := getF X0 hx hZ hown (host := "") (Or.inl w23) Via.refl e0 F1 (g := (mkF m 3 #[.val (.ref a1), .val (.ref a2), .unset, .unset] [(.ref a1), (.int nn)])) rfl rfl (hb hby d5_3)
  refine Run.step st145 ?_
  show Run _ _ _ _ (T145.setTop (mkF m 6 #[.val (.ref a1), .val (.ref a2), .unset, .unset] [(.int (0 : Int32)), (.int nn)]))
  refine Run.step (fun t_ k_ => XS.aloadN X145.here hx rfl (hb hby d5_6) rfl rfl k_) ?_
  show Run _ _ _ _ (T145.setTop (mkF m 7 #[.val (.ref a1), .val (.ref a2), .unset, .unset] [(.ref a1), (.int (0 : Int32)), (.int nn)]))
  obtain ⟨T146, X146, e146, st146⟩ := getF X145 hx hZ hown (host := "") (Or.inl w25) Via.refl e145 F2 (g := (mkF m 7 #[.val (.ref a1), .val (.ref a2), .unset, .unset] [(.ref a1), (.int (0 : Int32)), (.int nn)])) rfl rfl (hb hby d5_7)
  refine Run.step st146 ?_
  show Run _ _ _ _ (T146.setTop (mkF m 10 #[.val (.ref a1), .val (.ref a2), .unset, .unset] [(.ref mg), (.int (0 : Int32)), (.int nn)]))
  obtain ⟨cl147, Ar147, q147, S147, M147, H147, U147⟩ := id VM
  refine Run.step (fun t_ k_ => X146.arraylength hx (by rw [e146]; exact Ar147.1) (State.isArrayOf_alike hZ.alike Ar147.2.1) (g := (mkF m 10 #[.val (.ref a1), .val (.ref a2), .unset, .unset] [(.ref mg), (.int (0 : Int32)), (.int nn)])) rfl rfl (hb hby d5_10) _ k_) ?_
  rw [len_of S147 M147]
  show Run _ _ _ _ (T146.setTop (mkF m 11 #[.val (.ref a1), .val (.ref a2), .unset, .unset] [(.int (4 : Int32)), (.int (0 : Int32)), (.int nn)]))
  refine Run.step (fun t_ k_ => XS.iadd X146.here hx rfl (hb hby d5_11) rfl k_) ?_
  show Run _ _ _ _ (T146.setTop (mkF m 12 #[.val (.ref a1), .val (.ref a2), .unset, .unset] [(.int (4 : Int32)), (.int nn)]))
  by_cases c12 : nn < (4 : Int32)
  · skip
    refine Run.step (fun t_ k_ => XS.icmpYes X146.here hx rfl (pc0 := 12) (pc' := 19) rfl (hb hby d5_12) rfl (XT.ii_lt_t c12) (by decide) (by decide) (XS.iconst X146.here hx rfl (hb hby d5_19) (XS.istoreN X146.here hx rfl (hb hby d5_20) rfl (l' := #[.val (.ref a1), .val (.ref a2), .val (.int (0 : Int32)), .unset]) rfl (XS.iconst X146.here hx rfl (hb hby d5_21) (XS.istoreN X146.here hx rfl (hb hby d5_22) rfl (l' := #[.val (.ref a1), .val (.ref a2), .val (.int (0 : Int32)), .val (.int (0 : Int32))]) rfl (XS.iloadN X146.here hx rfl (hb hby d5_23) rfl k_)))))) ?_
    show Run _ _ _ _ (T146.setTop (mkF m 24 #[.val (.ref a1), .val (.ref a2), .val (.int (0 : Int32)), .val (.int (0 : Int32))] [(.int (0 : Int32))]))
    refine Run.step (fun t_ k_ => XS.ifYes X146.here hx rfl (pc0 := 24) (pc' := 65) rfl (hb hby d5_24) rfl (XT.i0_eq_t (by decide : (0 : Int32) = (0 : Int32))) (by decide) (by decide) (XS.iloadN X146.here hx rfl (hb hby d5_65) rfl k_)) ?_
    show Run _ _ _ _ (T146.setTop (mkF m 66 #[.val (.ref a1), .val (.ref a2), .val (.int (0 : Int32)), .val (.int (0 : Int32))] [(.int (0 : Int32))]))
    exact finZ X146 hx (BodyLoose.notSynchronized Bd) Bd.returns (hb hby d5_66) (by decide) (by decide) (by decide) e146 ⟨congrArg (fun z => some (Value.int z)) (if_pos c12).symm, N0, rfl⟩
  · skip
    refine Run.step (fun t_ k_ => XS.icmpNo X146.here hx rfl (hb hby d5_12) rfl (XT.ii_lt_f c12) (XS.iconst X146.here hx rfl (hb hby d5_15) (XS.goto X146.here hx rfl (pc0 := 16) (pc' := 20) rfl (hb hby d5_16) (by decide) (by decide) (XS.istoreN X146.here hx rfl (hb hby d5_20) rfl (l' := #[.val (.ref a1), .val (.ref a2), .val (.int (1 : Int32)), .unset]) rfl (XS.iconst X146.here hx rfl (hb hby d5_21) (XS.istoreN X146.here hx rfl (hb hby d5_22) rfl (l' := #[.val (.ref a1), .val (.ref a2), .val (.int (1 : Int32)), .val (.int (0 : Int32))]) rfl k_)))))) ?_
    show Run _ _ _ _ (T146.setTop (mkF m 23 #[.val (.ref a1), .val (.ref a2), .val (.int (1 : Int32)), .val (.int (0 : Int32))] []))
    refine Run.step (fun t_ k_ => XS.iloadN X146.here hx rfl (hb hby d5_23) rfl (XS.ifNo X146.here hx rfl (hb hby d5_24) rfl (XT.i0_eq_f (by decide : ¬ ((1 : Int32) = (0 : Int32)))) (XS.iloadN X146.here hx rfl (hb hby d5_27) rfl (XS.aloadN X146.here hx rfl (hb hby d5_28) rfl rfl k_)))) ?_
    show Run _ _ _ _ (T146.setTop (mkF m 29 #[.val (.ref a1), .val (.ref a2), .val (.int (1 : Int32)), .val (.int (0 : Int32))] [(.ref a1), (.int (0 : Int32))]))
    obtain ⟨T148, X148, e148, st148⟩ := getF X146 hx hZ hown (host := "") (Or.inl w25) Via.refl e146 F2 (g := (mkF m 29 #[.val (.ref a1), .val (.ref a2), .val (.int (1 : Int32)), .val (.int (0 : Int32))] [(.ref a1), (.int (0 : Int32))])) rfl rfl (hb hby d5_29)
    refine Run.step st148 ?_
    show Run _ _ _ _ (T148.setTop (mkF m 32 #[.val (.ref a1), .val (.ref a2), .val (.int (1 : Int32)), .val (.int (0 : Int32))] [(.ref mg), (.int (0 : Int32))]))
    obtain ⟨cl149, Ar149, q149, S149, M149, H149, U149⟩ := id VM
    refine Run.step (fun t_ k_ => X148.arraylength hx (by rw [e148]; exact Ar149.1) (State.isArrayOf_alike hZ.alike Ar149.2.1) (g := (mkF m 32 #[.val (.ref a1), .val (.ref a2), .val (.int (1 : Int32)), .val (.int (0 : Int32))] [(.ref mg), (.int (0 : Int32))])) rfl rfl (hb hby d5_32) _ k_) ?_
    rw [len_of S149 M149]
    show Run _ _ _ _ (T148.setTop (mkF m 33 #[.val (.ref a1), .val (.ref a2), .val (.int (1 : Int32)), .val (.int (0 : Int32))] [(.int (4 : Int32)), (.int (0 : Int32))]))
    refine Run.step (fun t_ k_ => XS.icmpNo X148.here hx rfl (hb hby d5_33) rfl (XT.ii_ge_f (by decide : (0 : Int32) < (4 : Int32))) (XS.aloadN X148.here hx rfl (hb hby d5_36) rfl rfl (XS.aloadN X148.here hx rfl (hb hby d5_37) rfl rfl k_))) ?_
    show Run _ _ _ _ (T148.setTop (mkF m 38 #[.val (.ref a1), .val (.ref a2), .val (.int (1 : Int32)), .val (.int (0 : Int32))] [(.ref a1), (.ref a2)]))
    obtain ⟨T150, X150, e150, st150⟩ := getF X148 hx hZ hown (host := "") (Or.inl w23) Via.refl e148 F1 (g := (mkF m 38 #[.val (.ref a1), .val (.ref a2), .val (.int (1 : Int32)), .val (.int (0 : Int32))] [(.ref a1), (.ref a2)])) rfl rfl (hb hby d5_38)
    refine Run.step st150 ?_
    show Run _ _ _ _ (T150.setTop (mkF m 41 #[.val (.ref a1), .val (.ref a2), .val (.int (1 : Int32)), .val (.int (0 : Int32))] [(.int (0 : Int32)), (.ref a2)]))
    refine Run.step (fun t_ k_ => XS.iloadN X150.here hx rfl (hb hby d5_41) rfl (XS.iadd X150.here hx rfl (hb hby d5_42) rfl k_)) ?_
    show Run _ _ _ _ (T150.setTop (mkF m 43 #[.val (.ref a1), .val (.ref a2), .val (.int (1 : Int32)), .val (.int (0 : Int32))] [(.int (0 : Int32)), (.ref a2)]))
    obtain ⟨cl151, Ar151, S151, M151, H151⟩ := id VT
    have hin152 : ¬ ((0 : Int32) < 0 ∨ cl151.slots.size ≤ ((0 : Int32)).toNatClampNeg) := inb_of S151 ⟨by decide, own_in c12 (by decide)⟩
    have hat152 : cl151.slots[((0 : Int32)).toNatClampNeg]? = some (.int (g 0)) := H151 _ (Nat.lt_of_not_le fun q => hin152 (Or.inr q))
    refine Run.step (fun t_ k_ => X150.baloadBytes hx (j := (0 : Int32)) (v := (.int (g 0))) (by rw [e150]; exact Ar151.1) (State.isArrayOf_alike hZ.alike Ar151.2.1) Ar151.2.2 hin152 hat152 (g := (mkF m 43 #[.val (.ref a1), .val (.ref a2), .val (.int (1 : Int32)), .val (.int (0 : Int32))] [(.int (0 : Int32)), (.ref a2)])) rfl rfl (hb hby d5_43) _ (XS.aloadN X150.here hx rfl (hb hby d5_44) rfl rfl k_)) ?_
    show Run _ _ _ _ (T150.setTop (mkF m 45 #[.val (.ref a1), .val (.ref a2), .val (.int (1 : Int32)), .val (.int (0 : Int32))] [(.ref a1), (.int (g 0))]))
    obtain ⟨T153, X153, e153, st153⟩ := getF X150 hx hZ hown (host := "") (Or.inl w25) Via.refl e150 F2 (g := (mkF m 45 #[.val (.ref a1), .val (.ref a2), .val (.int (1 : Int32)), .val (.int (0 : Int32))] [(.ref a1), (.int (g 0))])) rfl rfl (hb hby d5_45)
    refine Run.step st153 ?_
    show Run _ _ _ _ (T153.setTop (mkF m 48 #[.val (.ref a1), .val (.ref a2), .val (.int (1 : Int32)), .val (.int (0 : Int32))] [(.ref mg), (.int (g 0))]))
    refine Run.step (fun t_ k_ => XS.iloadN X153.here hx rfl (hb hby d5_48) rfl k_) ?_
    show Run _ _ _ _ (T153.setTop (mkF m 49 #[.val (.ref a1), .val (.ref a2), .val (.int (1 : Int32)), .val (.int (0 : Int32))] [(.int (0 : Int32)), (.ref mg), (.int (g 0))]))
    obtain ⟨cl154, Ar154, q154, S154, M154, H154, U154⟩ := id VM
    have hin155 : ¬ ((0 : Int32) < 0 ∨ cl154.slots.size ≤ ((0 : Int32)).toNatClampNeg) := inb_of S154 ⟨by decide, by decide⟩
    have hat155 : cl154.slots[((0 : Int32)).toNatClampNeg]? = some (.int (80 : Int32)) := H154.at hin155 rfl
    refine Run.step (fun t_ k_ => X153.baloadBytes hx (j := (0 : Int32)) (v := (.int (80 : Int32))) (by rw [e153]; exact Ar154.1) (State.isArrayOf_alike hZ.alike Ar154.2.1) Ar154.2.2 hin155 hat155 (g := (mkF m 49 #[.val (.ref a1), .val (.ref a2), .val (.int (1 : Int32)), .val (.int (0 : Int32))] [(.int (0 : Int32)), (.ref mg), (.int (g 0))])) rfl rfl (hb hby d5_49) _ k_) ?_
    show Run _ _ _ _ (T153.setTop (mkF m 50 #[.val (.ref a1), .val (.ref a2), .val (.int (1 : Int32)), .val (.int (0 : Int32))] [(.int (80 : Int32)), (.int (g 0))]))
    by_cases c50 : (g 0) = (80 : Int32)
    · skip
      refine Run.step (fun t_ k_ => XS.icmpNo X153.here hx rfl (hb hby d5_50) rfl (XT.ii_ne_f c50) (XS.iconst X153.here hx rfl (hb hby d5_53) (XS.goto X153.here hx rfl (pc0 := 54) (pc' := 58) rfl (hb hby d5_54) (by decide) (by decide) (XS.istoreN X153.here hx rfl (hb hby d5_58) rfl (l' := #[.val (.ref a1), .val (.ref a2), .val (.int (1 : Int32)), .val (.int (0 : Int32))]) rfl (XS.iinc X153.here hx rfl (hb hby d5_59) rfl (l' := #[.val (.ref a1), .val (.ref a2), .val (.int (1 : Int32)), .val (.int (1 : Int32))]) rfl (XS.goto X153.here hx rfl (pc0 := 62) (pc' := 23) rfl (hb hby d5_62) (by decide) (by decide) k_)))))) ?_
      show Run _ _ _ _ (T153.setTop (mkF m 23 #[.val (.ref a1), .val (.ref a2), .val (.int (1 : Int32)), .val (.int (1 : Int32))] []))
      refine Run.step (fun t_ k_ => XS.iloadN X153.here hx rfl (hb hby d5_23) rfl (XS.ifNo X153.here hx rfl (hb hby d5_24) rfl (XT.i0_eq_f (by decide : ¬ ((1 : Int32) = (0 : Int32)))) (XS.iloadN X153.here hx rfl (hb hby d5_27) rfl (XS.aloadN X153.here hx rfl (hb hby d5_28) rfl rfl k_)))) ?_
      show Run _ _ _ _ (T153.setTop (mkF m 29 #[.val (.ref a1), .val (.ref a2), .val (.int (1 : Int32)), .val (.int (1 : Int32))] [(.ref a1), (.int (1 : Int32))]))
      obtain ⟨T156, X156, e156, st156⟩ := getF X153 hx hZ hown (host := "") (Or.inl w25) Via.refl e153 F2 (g := (mkF m 29 #[.val (.ref a1), .val (.ref a2), .val (.int (1 : Int32)), .val (.int (1 : Int32))] [(.ref a1), (.int (1 : Int32))])) rfl rfl (hb hby d5_29)
      refine Run.step st156 ?_
      show Run _ _ _ _ (T156.setTop (mkF m 32 #[.val (.ref a1), .val (.ref a2), .val (.int (1 : Int32)), .val (.int (1 : Int32))] [(.ref mg), (.int (1 : Int32))]))
      obtain ⟨cl157, Ar157, q157, S157, M157, H157, U157⟩ := id VM
      refine Run.step (fun t_ k_ => X156.arraylength hx (by rw [e156]; exact Ar157.1) (State.isArrayOf_alike hZ.alike Ar157.2.1) (g := (mkF m 32 #[.val (.ref a1), .val (.ref a2), .val (.int (1 : Int32)), .val (.int (1 : Int32))] [(.ref mg), (.int (1 : Int32))])) rfl rfl (hb hby d5_32) _ k_) ?_
      rw [len_of S157 M157]
      show Run _ _ _ _ (T156.setTop (mkF m 33 #[.val (.ref a1), .val (.ref a2), .val (.int (1 : Int32)), .val (.int (1 : Int32))] [(.int (4 : Int32)), (.int (1 : Int32))]))
      refine Run.step (fun t_ k_ => XS.icmpNo X156.here hx rfl (hb hby d5_33) rfl (XT.ii_ge_f (by decide : (1 : Int32) < (4 : Int32))) (XS.aloadN X156.here hx rfl (hb hby d5_36) rfl rfl (XS.aloadN X156.here hx rfl (hb hby d5_37) rfl rfl k_))) ?_
      show Run _ _ _ _ (T156.setTop (mkF m 38 #[.val (.ref a1), .val (.ref a2), .val (.int (1 : Int32)), .val (.int (1 : Int32))] [(.ref a1), (.ref a2)]))
      obtain ⟨T158, X158, e158, st158⟩ := getF X156 hx hZ hown (host := "") (Or.inl w23) Via.refl e156 F1 (g := (mkF m 38 #[.val (.ref a1), .val (.ref a2), .val (.int (1 : Int32)), .val (.int (1 : Int32))] [(.ref a1), (.ref a2)])) rfl rfl (hb hby d5_38)
      refine Run.step st158 ?_
      show Run _ _ _ _ (T158.setTop (mkF m 41 #[.val (.ref a1), .val (.ref a2), .val (.int (1 : Int32)), .val (.int (1 : Int32))] [(.int (0 : Int32)), (.ref a2)]))
      refine Run.step (fun t_ k_ => XS.iloadN X158.here hx rfl (hb hby d5_41) rfl (XS.iadd X158.here hx rfl (hb hby d5_42) rfl k_)) ?_
      show Run _ _ _ _ (T158.setTop (mkF m 43 #[.val (.ref a1), .val (.ref a2), .val (.int (1 : Int32)), .val (.int (1 : Int32))] [(.int (1 : Int32)), (.ref a2)]))
      obtain ⟨cl159, Ar159, S159, M159, H159⟩ := id VT
      have hin160 : ¬ ((1 : Int32) < 0 ∨ cl159.slots.size ≤ ((1 : Int32)).toNatClampNeg) := inb_of S159 ⟨by decide, own_in c12 (by decide)⟩
      have hat160 : cl159.slots[((1 : Int32)).toNatClampNeg]? = some (.int (g 1)) := H159 _ (Nat.lt_of_not_le fun q => hin160 (Or.inr q))
      refine Run.step (fun t_ k_ => X158.baloadBytes hx (j := (1 : Int32)) (v := (.int (g 1))) (by rw [e158]; exact Ar159.1) (State.isArrayOf_alike hZ.alike Ar159.2.1) Ar159.2.2 hin160 hat160 (g := (mkF m 43 #[.val (.ref a1), .val (.ref a2), .val (.int (1 : Int32)), .val (.int (1 : Int32))] [(.int (1 : Int32)), (.ref a2)])) rfl rfl (hb hby d5_43) _ (XS.aloadN X158.here hx rfl (hb hby d5_44) rfl rfl k_)) ?_
      show Run _ _ _ _ (T158.setTop (mkF m 45 #[.val (.ref a1), .val (.ref a2), .val (.int (1 : Int32)), .val (.int (1 : Int32))] [(.ref a1), (.int (g 1))]))
      obtain ⟨T161, X161, e161, st161⟩ := getF X158 hx hZ hown (host := "") (Or.inl w25) Via.refl e158 F2 (g := (mkF m 45 #[.val (.ref a1), .val (.ref a2), .val (.int (1 : Int32)), .val (.int (1 : Int32))] [(.ref a1), (.int (g 1))])) rfl rfl (hb hby d5_45)
      refine Run.step st161 ?_
      show Run _ _ _ _ (T161.setTop (mkF m 48 #[.val (.ref a1), .val (.ref a2), .val (.int (1 : Int32)), .val (.int (1 : Int32))] [(.ref mg), (.int (g 1))]))
      refine Run.step (fun t_ k_ => XS.iloadN X161.here hx rfl (hb hby d5_48) rfl k_) ?_
      show Run _ _ _ _ (T161.setTop (mkF m 49 #[.val (.ref a1), .val (.ref a2), .val (.int (1 : Int32)), .val (.int (1 : Int32))] [(.int (1 : Int32)), (.ref mg), (.int (g 1))]))
      obtain ⟨cl162, Ar162, q162, S162, M162, H162, U162⟩ := id VM
      have hin163 : ¬ ((1 : Int32) < 0 ∨ cl162.slots.size ≤ ((1 : Int32)).toNatClampNeg) := inb_of S162 ⟨by decide, by decide⟩
      have hat163 : cl162.slots[((1 : Int32)).toNatClampNeg]? = some (.int (75 : Int32)) := H162.at hin163 rfl
      refine Run.step (fun t_ k_ => X161.baloadBytes hx (j := (1 : Int32)) (v := (.int (75 : Int32))) (by rw [e161]; exact Ar162.1) (State.isArrayOf_alike hZ.alike Ar162.2.1) Ar162.2.2 hin163 hat163 (g := (mkF m 49 #[.val (.ref a1), .val (.ref a2), .val (.int (1 : Int32)), .val (.int (1 : Int32))] [(.int (1 : Int32)), (.ref mg), (.int (g 1))])) rfl rfl (hb hby d5_49) _ k_) ?_
      show Run _ _ _ _ (T161.setTop (mkF m 50 #[.val (.ref a1), .val (.ref a2), .val (.int (1 : Int32)), .val (.int (1 : Int32))] [(.int (75 : Int32)), (.int (g 1))]))
      by_cases c50_164 : (g 1) = (75 : Int32)
      · skip
        refine Run.step (fun t_ k_ => XS.icmpNo X161.here hx rfl (hb hby d5_50) rfl (XT.ii_ne_f c50_164) (XS.iconst X161.here hx rfl (hb hby d5_53) (XS.goto X161.here hx rfl (pc0 := 54) (pc' := 58) rfl (hb hby d5_54) (by decide) (by decide) (XS.istoreN X161.here hx rfl (hb hby d5_58) rfl (l' := #[.val (.ref a1), .val (.ref a2), .val (.int (1 : Int32)), .val (.int (1 : Int32))]) rfl (XS.iinc X161.here hx rfl (hb hby d5_59) rfl (l' := #[.val (.ref a1), .val (.ref a2), .val (.int (1 : Int32)), .val (.int (2 : Int32))]) rfl (XS.goto X161.here hx rfl (pc0 := 62) (pc' := 23) rfl (hb hby d5_62) (by decide) (by decide) k_)))))) ?_
        show Run _ _ _ _ (T161.setTop (mkF m 23 #[.val (.ref a1), .val (.ref a2), .val (.int (1 : Int32)), .val (.int (2 : Int32))] []))
        refine Run.step (fun t_ k_ => XS.iloadN X161.here hx rfl (hb hby d5_23) rfl (XS.ifNo X161.here hx rfl (hb hby d5_24) rfl (XT.i0_eq_f (by decide : ¬ ((1 : Int32) = (0 : Int32)))) (XS.iloadN X161.here hx rfl (hb hby d5_27) rfl (XS.aloadN X161.here hx rfl (hb hby d5_28) rfl rfl k_)))) ?_
        show Run _ _ _ _ (T161.setTop (mkF m 29 #[.val (.ref a1), .val (.ref a2), .val (.int (1 : Int32)), .val (.int (2 : Int32))] [(.ref a1), (.int (2 : Int32))]))
        obtain ⟨T165, X165, e165, st165⟩ := getF X161 hx hZ hown (host := "") (Or.inl w25) Via.refl e161 F2 (g := (mkF m 29 #[.val (.ref a1), .val (.ref a2), .val (.int (1 : Int32)), .val (.int (2 : Int32))] [(.ref a1), (.int (2 : Int32))])) rfl rfl (hb hby d5_29)
        refine Run.step st165 ?_
        show Run _ _ _ _ (T165.setTop (mkF m 32 #[.val (.ref a1), .val (.ref a2), .val (.int (1 : Int32)), .val (.int (2 : Int32))] [(.ref mg), (.int (2 : Int32))]))
        obtain ⟨cl166, Ar166, q166, S166, M166, H166, U166⟩ := id VM
        refine Run.step (fun t_ k_ => X165.arraylength hx (by rw [e165]; exact Ar166.1) (State.isArrayOf_alike hZ.alike Ar166.2.1) (g := (mkF m 32 #[.val (.ref a1), .val (.ref a2), .val (.int (1 : Int32)), .val (.int (2 : Int32))] [(.ref mg), (.int (2 : Int32))])) rfl rfl (hb hby d5_32) _ k_) ?_
        rw [len_of S166 M166]
        show Run _ _ _ _ (T165.setTop (mkF m 33 #[.val (.ref a1), .val (.ref a2), .val (.int (1 : Int32)), .val (.int (2 : Int32))] [(.int (4 : Int32)), (.int (2 : Int32))]))
        refine Run.step (fun t_ k_ => XS.icmpNo X165.here hx rfl (hb hby d5_33) rfl (XT.ii_ge_f (by decide : (2 : Int32) < (4 : Int32))) (XS.aloadN X165.here hx rfl (hb hby d5_36) rfl rfl (XS.aloadN X165.here hx rfl (hb hby d5_37) rfl rfl k_))) ?_
        show Run _ _ _ _ (T165.setTop (mkF m 38 #[.val (.ref a1), .val (.ref a2), .val (.int (1 : Int32)), .val (.int (2 : Int32))] [(.ref a1), (.ref a2)]))
        obtain ⟨T167, X167, e167, st167⟩ := getF X165 hx hZ hown (host := "") (Or.inl w23) Via.refl e165 F1 (g := (mkF m 38 #[.val (.ref a1), .val (.ref a2), .val (.int (1 : Int32)), .val (.int (2 : Int32))] [(.ref a1), (.ref a2)])) rfl rfl (hb hby d5_38)
        refine Run.step st167 ?_
        show Run _ _ _ _ (T167.setTop (mkF m 41 #[.val (.ref a1), .val (.ref a2), .val (.int (1 : Int32)), .val (.int (2 : Int32))] [(.int (0 : Int32)), (.ref a2)]))
        refine Run.step (fun t_ k_ => XS.iloadN X167.here hx rfl (hb hby d5_41) rfl (XS.iadd X167.here hx rfl (hb hby d5_42) rfl k_)) ?_
        show Run _ _ _ _ (T167.setTop (mkF m 43 #[.val (.ref a1), .val (.ref a2), .val (.int (1 : Int32)), .val (.int (2 : Int32))] [(.int (2 : Int32)), (.ref a2)]))
        obtain ⟨cl168, Ar168, S168, M168, H168⟩ := id VT
        have hin169 : ¬ ((2 : Int32) < 0 ∨ cl168.slots.size ≤ ((2 : Int32)).toNatClampNeg) := inb_of S168 ⟨by decide, own_in c12 (by decide)⟩
        have hat169 : cl168.slots[((2 : Int32)).toNatClampNeg]? = some (.int (g 2)) := H168 _ (Nat.lt_of_not_le fun q => hin169 (Or.inr q))
        refine Run.step (fun t_ k_ => X167.baloadBytes hx (j := (2 : Int32)) (v := (.int (g 2))) (by rw [e167]; exact Ar168.1) (State.isArrayOf_alike hZ.alike Ar168.2.1) Ar168.2.2 hin169 hat169 (g := (mkF m 43 #[.val (.ref a1), .val (.ref a2), .val (.int (1 : Int32)), .val (.int (2 : Int32))] [(.int (2 : Int32)), (.ref a2)])) rfl rfl (hb hby d5_43) _ (XS.aloadN X167.here hx rfl (hb hby d5_44) rfl rfl k_)) ?_
        show Run _ _ _ _ (T167.setTop (mkF m 45 #[.val (.ref a1), .val (.ref a2), .val (.int (1 : Int32)), .val (.int (2 : Int32))] [(.ref a1), (.int (g 2))]))
        obtain ⟨T170, X170, e170, st170⟩ := getF X167 hx hZ hown (host := "") (Or.inl w25) Via.refl e167 F2 (g := (mkF m 45 #[.val (.ref a1), .val (.ref a2), .val (.int (1 : Int32)), .val (.int (2 : Int32))] [(.ref a1), (.int (g 2))])) rfl rfl (hb hby d5_45)
        refine Run.step st170 ?_
        show Run _ _ _ _ (T170.setTop (mkF m 48 #[.val (.ref a1), .val (.ref a2), .val (.int (1 : Int32)), .val (.int (2 : Int32))] [(.ref mg), (.int (g 2))]))
        refine Run.step (fun t_ k_ => XS.iloadN X170.here hx rfl (hb hby d5_48) rfl k_) ?_
        show Run _ _ _ _ (T170.setTop (mkF m 49 #[.val (.ref a1), .val (.ref a2), .val (.int (1 : Int32)), .val (.int (2 : Int32))] [(.int (2 : Int32)), (.ref mg), (.int (g 2))]))
        obtain ⟨cl171, Ar171, q171, S171, M171, H171, U171⟩ := id VM
        have hin172 : ¬ ((2 : Int32) < 0 ∨ cl171.slots.size ≤ ((2 : Int32)).toNatClampNeg) := inb_of S171 ⟨by decide, by decide⟩
        have hat172 : cl171.slots[((2 : Int32)).toNatClampNeg]? = some (.int (3 : Int32)) := H171.at hin172 rfl
        refine Run.step (fun t_ k_ => X170.baloadBytes hx (j := (2 : Int32)) (v := (.int (3 : Int32))) (by rw [e170]; exact Ar171.1) (State.isArrayOf_alike hZ.alike Ar171.2.1) Ar171.2.2 hin172 hat172 (g := (mkF m 49 #[.val (.ref a1), .val (.ref a2), .val (.int (1 : Int32)), .val (.int (2 : Int32))] [(.int (2 : Int32)), (.ref mg), (.int (g 2))])) rfl rfl (hb hby d5_49) _ k_) ?_
        show Run _ _ _ _ (T170.setTop (mkF m 50 #[.val (.ref a1), .val (.ref a2), .val (.int (1 : Int32)), .val (.int (2 : Int32))] [(.int (3 : Int32)), (.int (g 2))]))
        by_cases c50_173 : (g 2) = (3 : Int32)
        · skip
          refine Run.step (fun t_ k_ => XS.icmpNo X170.here hx rfl (hb hby d5_50) rfl (XT.ii_ne_f c50_173) (XS.iconst X170.here hx rfl (hb hby d5_53) (XS.goto X170.here hx rfl (pc0 := 54) (pc' := 58) rfl (hb hby d5_54) (by decide) (by decide) (XS.istoreN X170.here hx rfl (hb hby d5_58) rfl (l' := #[.val (.ref a1), .val (.ref a2), .val (.int (1 : Int32)), .val (.int (2 : Int32))]) rfl (XS.iinc X170.here hx rfl (hb hby d5_59) rfl (l' := #[.val (.ref a1), .val (.ref a2), .val (.int (1 : Int32)), .val (.int (3 : Int32))]) rfl (XS.goto X170.here hx rfl (pc0 := 62) (pc' := 23) rfl (hb hby d5_62) (by decide) (by decide) k_)))))) ?_
          show Run _ _ _ _ (T170.setTop (mkF m 23 #[.val (.ref a1), .val (.ref a2), .val (.int (1 : Int32)), .val (.int (3 : Int32))] []))
          refine Run.step (fun t_ k_ => XS.iloadN X170.here hx rfl (hb hby d5_23) rfl (XS.ifNo X170.here hx rfl (hb hby d5_24) rfl (XT.i0_eq_f (by decide : ¬ ((1 : Int32) = (0 : Int32)))) (XS.iloadN X170.here hx rfl (hb hby d5_27) rfl (XS.aloadN X170.here hx rfl (hb hby d5_28) rfl rfl k_)))) ?_
          show Run _ _ _ _ (T170.setTop (mkF m 29 #[.val (.ref a1), .val (.ref a2), .val (.int (1 : Int32)), .val (.int (3 : Int32))] [(.ref a1), (.int (3 : Int32))]))
          obtain ⟨T174, X174, e174, st174⟩ := getF X170 hx hZ hown (host := "") (Or.inl w25) Via.refl e170 F2 (g := (mkF m 29 #[.val (.ref a1), .val (.ref a2), .val (.int (1 : Int32)), .val (.int (3 : Int32))] [(.ref a1), (.int (3 : Int32))])) rfl rfl (hb hby d5_29)
          refine Run.step st174 ?_
          show Run _ _ _ _ (T174.setTop (mkF m 32 #[.val (.ref a1), .val (.ref a2), .val (.int (1 : Int32)), .val (.int (3 : Int32))] [(.ref mg), (.int (3 : Int32))]))
          obtain ⟨cl175, Ar175, q175, S175, M175, H175, U175⟩ := id VM
          refine Run.step (fun t_ k_ => X174.arraylength hx (by rw [e174]; exact Ar175.1) (State.isArrayOf_alike hZ.alike Ar175.2.1) (g := (mkF m 32 #[.val (.ref a1), .val (.ref a2), .val (.int (1 : Int32)), .val (.int (3 : Int32))] [(.ref mg), (.int (3 : Int32))])) rfl rfl (hb hby d5_32) _ k_) ?_
          rw [len_of S175 M175]
          show Run _ _ _ _ (T174.setTop (mkF m 33 #[.val (.ref a1), .val (.ref a2), .val (.int (1 : Int32)), .val (.int (3 : Int32))] [(.int (4 : Int32)), (.int (3 : Int32))]))
          refine Run.step (fun t_ k_ => XS.icmpNo X174.here hx rfl (hb hby d5_33) rfl (XT.ii_ge_f (by decide : (3 : Int32) < (4 : Int32))) (XS.aloadN X174.here hx rfl (hb hby d5_36) rfl rfl (XS.aloadN X174.here hx rfl (hb hby d5_37) rfl rfl k_))) ?_
          show Run _ _ _ _ (T174.setTop (mkF m 38 #[.val (.ref a1), .val (.ref a2), .val (.int (1 : Int32)), .val (.int (3 : Int32))] [(.ref a1), (.ref a2)]))
          obtain ⟨T176, X176, e176, st176⟩ := getF X174 hx hZ hown (host := "") (Or.inl w23) Via.refl e174 F1 (g := (mkF m 38 #[.val (.ref a1), .val (.ref a2), .val (.int (1 : Int32)), .val (.int (3 : Int32))] [(.ref a1), (.ref a2)])) rfl rfl (hb hby d5_38)
          refine Run.step st176 ?_
          show Run _ _ _ _ (T176.setTop (mkF m 41 #[.val (.ref a1), .val (.ref a2), .val (.int (1 : Int32)), .val (.int (3 : Int32))] [(.int (0 : Int32)), (.ref a2)]))
          refine Run.step (fun t_ k_ => XS.iloadN X176.here hx rfl (hb hby d5_41) rfl (XS.iadd X176.here hx rfl (hb hby d5_42) rfl k_)) ?_
          show Run _ _ _ _ (T176.setTop (mkF m 43 #[.val (.ref a1), .val (.ref a2), .val (.int (1 : Int32)), .val (.int (3 : Int32))] [(.int (3 : Int32)), (.ref a2)]))
          obtain ⟨cl177, Ar177, S177, M177, H177⟩ := id VT
          have hin178 : ¬ ((3 : Int32) < 0 ∨ cl177.slots.size ≤ ((3 : Int32)).toNatClampNeg) := inb_of S177 ⟨by decide, own_in c12 (by decide)⟩
          have hat178 : cl177.slots[((3 : Int32)).toNatClampNeg]? = some (.int (g 3)) := H177 _ (Nat.lt_of_not_le fun q => hin178 (Or.inr q))
          refine Run.step (fun t_ k_ => X176.baloadBytes hx (j := (3 : Int32)) (v := (.int (g 3))) (by rw [e176]; exact Ar177.1) (State.isArrayOf_alike hZ.alike Ar177.2.1) Ar177.2.2 hin178 hat178 (g := (mkF m 43 #[.val (.ref a1), .val (.ref a2), .val (.int (1 : Int32)), .val (.int (3 : Int32))] [(.int (3 : Int32)), (.ref a2)])) rfl rfl (hb hby d5_43) _ (XS.aloadN X176.here hx rfl (hb hby d5_44) rfl rfl k_)) ?_
          show Run _ _ _ _ (T176.setTop (mkF m 45 #[.val (.ref a1), .val (.ref a2), .val (.int (1 : Int32)), .val (.int (3 : Int32))] [(.ref a1), (.int (g 3))]))
          obtain ⟨T179, X179, e179, st179⟩ := getF X176 hx hZ hown (host := "") (Or.inl w25) Via.refl e176 F2 (g := (mkF m 45 #[.val (.ref a1), .val (.ref a2), .val (.int (1 : Int32)), .val (.int (3 : Int32))] [(.ref a1), (.int (g 3))])) rfl rfl (hb hby d5_45)
          refine Run.step st179 ?_
          show Run _ _ _ _ (T179.setTop (mkF m 48 #[.val (.ref a1), .val (.ref a2), .val (.int (1 : Int32)), .val (.int (3 : Int32))] [(.ref mg), (.int (g 3))]))
          refine Run.step (fun t_ k_ => XS.iloadN X179.here hx rfl (hb hby d5_48) rfl k_) ?_
          show Run _ _ _ _ (T179.setTop (mkF m 49 #[.val (.ref a1), .val (.ref a2), .val (.int (1 : Int32)), .val (.int (3 : Int32))] [(.int (3 : Int32)), (.ref mg), (.int (g 3))]))
          obtain ⟨cl180, Ar180, q180, S180, M180, H180, U180⟩ := id VM
          have hin181 : ¬ ((3 : Int32) < 0 ∨ cl180.slots.size ≤ ((3 : Int32)).toNatClampNeg) := inb_of S180 ⟨by decide, by decide⟩
          have hat181 : cl180.slots[((3 : Int32)).toNatClampNeg]? = some (.int (4 : Int32)) := H180.at hin181 rfl
          refine Run.step (fun t_ k_ => X179.baloadBytes hx (j := (3 : Int32)) (v := (.int (4 : Int32))) (by rw [e179]; exact Ar180.1) (State.isArrayOf_alike hZ.alike Ar180.2.1) Ar180.2.2 hin181 hat181 (g := (mkF m 49 #[.val (.ref a1), .val (.ref a2), .val (.int (1 : Int32)), .val (.int (3 : Int32))] [(.int (3 : Int32)), (.ref mg), (.int (g 3))])) rfl rfl (hb hby d5_49) _ k_) ?_
          show Run _ _ _ _ (T179.setTop (mkF m 50 #[.val (.ref a1), .val (.ref a2), .val (.int (1 : Int32)), .val (.int (3 : Int32))] [(.int (4 : Int32)), (.int (g 3))]))
          by_cases c50_182 : (g 3) = (4 : Int32)
          · skip
            refine Run.step (fun t_ k_ => XS.icmpNo X179.here hx rfl (hb hby d5_50) rfl (XT.ii_ne_f c50_182) (XS.iconst X179.here hx rfl (hb hby d5_53) (XS.goto X179.here hx rfl (pc0 := 54) (pc' := 58) rfl (hb hby d5_54) (by decide) (by decide) (XS.istoreN X179.here hx rfl (hb hby d5_58) rfl (l' := #[.val (.ref a1), .val (.ref a2), .val (.int (1 : Int32)), .val (.int (3 : Int32))]) rfl (XS.iinc X179.here hx rfl (hb hby d5_59) rfl (l' := #[.val (.ref a1), .val (.ref a2), .val (.int (1 : Int32)), .val (.int (4 : Int32))]) rfl (XS.goto X179.here hx rfl (pc0 := 62) (pc' := 23) rfl (hb hby d5_62) (by decide) (by decide) k_)))))) ?_
            show Run _ _ _ _ (T179.setTop (mkF m 23 #[.val (.ref a1), .val (.ref a2), .val (.int (1 : Int32)), .val (.int (4 : Int32))] []))
            refine Run.step (fun t_ k_ => XS.iloadN X179.here hx rfl (hb hby d5_23) rfl (XS.ifNo X179.here hx rfl (hb hby d5_24) rfl (XT.i0_eq_f (by decide : ¬ ((1 : Int32) = (0 : Int32)))) (XS.iloadN X179.here hx rfl (hb hby d5_27) rfl (XS.aloadN X179.here hx rfl (hb hby d5_28) rfl rfl k_)))) ?_
            show Run _ _ _ _ (T179.setTop (mkF m 29 #[.val (.ref a1), .val (.ref a2), .val (.int (1 : Int32)), .val (.int (4 : Int32))] [(.ref a1), (.int (4 : Int32))]))
            obtain ⟨T183, X183, e183, st183⟩ := getF X179 hx hZ hown (host := "") (Or.inl w25) Via.refl e179 F2 (g := (mkF m 29 #[.val (.ref a1), .val (.ref a2), .val (.int (1 : Int32)), .val (.int (4 : Int32))] [(.ref a1), (.int (4 : Int32))])) rfl rfl (hb hby d5_29)
            refine Run.step st183 ?_
            show Run _ _ _ _ (T183.setTop (mkF m 32 #[.val (.ref a1), .val (.ref a2), .val (.int (1 : Int32)), .val (.int (4 : Int32))] [(.ref mg), (.int (4 : Int32))]))
            obtain ⟨cl184, Ar184, q184, S184, M184, H184, U184⟩ := id VM
            refine Run.step (fun t_ k_ => X183.arraylength hx (by rw [e183]; exact Ar184.1) (State.isArrayOf_alike hZ.alike Ar184.2.1) (g := (mkF m 32 #[.val (.ref a1), .val (.ref a2), .val (.int (1 : Int32)), .val (.int (4 : Int32))] [(.ref mg), (.int (4 : Int32))])) rfl rfl (hb hby d5_32) _ k_) ?_
            rw [len_of S184 M184]
            show Run _ _ _ _ (T183.setTop (mkF m 33 #[.val (.ref a1), .val (.ref a2), .val (.int (1 : Int32)), .val (.int (4 : Int32))] [(.int (4 : Int32)), (.int (4 : Int32))]))
            refine Run.step (fun t_ k_ => XS.icmpYes X183.here hx rfl (pc0 := 33) (pc' := 65) rfl (hb hby d5_33) rfl (XT.ii_ge_t (by decide : ¬ ((4 : Int32) < (4 : Int32)))) (by decide) (by decide) (XS.iloadN X183.here hx rfl (hb hby d5_65) rfl k_)) ?_
            show Run _ _ _ _ (T183.setTop (mkF m 66 #[.val (.ref a1), .val (.ref a2), .val (.int (1 : Int32)), .val (.int (4 : Int32))] [(.int (1 : Int32))]))
            exact finZ X183 hx (BodyLoose.notSynchronized Bd) Bd.returns (hb hby d5_66) (by decide) (by decide) (by decide) e183 ⟨congrArg (fun z => some (Value.int z)) ((if_neg c12).trans ((if_pos c50).trans ((if_pos c50_164).trans ((if_pos c50_173).trans (if_pos c50_182))))).symm, N0, rfl⟩
          · skip
            refine Run.step (fun t_ k_ => XS.icmpYes X179.here hx rfl (pc0 := 50) (pc' := 57) rfl (hb hby d5_50) rfl (XT.ii_ne_t c50_182) (by decide) (by decide) (XS.iconst X179.here hx rfl (hb hby d5_57) (XS.istoreN X179.here hx rfl (hb hby d5_58) rfl (l' := #[.val (.ref a1), .val (.ref a2), .val (.int (0 : Int32)), .val (.int (3 : Int32))]) rfl (XS.iinc X179.here hx rfl (hb hby d5_59) rfl (l' := #[.val (.ref a1), .val (.ref a2), .val (.int (0 : Int32)), .val (.int (4 : Int32))]) rfl (XS.goto X179.here hx rfl (pc0 := 62) (pc' := 23) rfl (hb hby d5_62) (by decide) (by decide) (XS.iloadN X179.here hx rfl (hb hby d5_23) rfl k_)))))) ?_
            show Run _ _ _ _ (T179.setTop (mkF m 24 #[.val (.ref a1), .val (.ref a2), .val (.int (0 : Int32)), .val (.int (4 : Int32))] [(.int (0 : Int32))]))
            refine Run.step (fun t_ k_ => XS.ifYes X179.here hx rfl (pc0 := 24) (pc' := 65) rfl (hb hby d5_24) rfl (XT.i0_eq_t (by decide : (0 : Int32) = (0 : Int32))) (by decide) (by decide) (XS.iloadN X179.here hx rfl (hb hby d5_65) rfl k_)) ?_
            show Run _ _ _ _ (T179.setTop (mkF m 66 #[.val (.ref a1), .val (.ref a2), .val (.int (0 : Int32)), .val (.int (4 : Int32))] [(.int (0 : Int32))]))
            exact finZ X179 hx (BodyLoose.notSynchronized Bd) Bd.returns (hb hby d5_66) (by decide) (by decide) (by decide) e179 ⟨congrArg (fun z => some (Value.int z)) ((if_neg c12).trans ((if_pos c50).trans ((if_pos c50_164).trans ((if_pos c50_173).trans (if_neg c50_182))))).symm, N0, rfl⟩
        · skip
          refine Run.step (fun t_ k_ => XS.icmpYes X170.here hx rfl (pc0 := 50) (pc' := 57) rfl (hb hby d5_50) rfl (XT.ii_ne_t c50_173) (by decide) (by decide) (XS.iconst X170.here hx rfl (hb hby d5_57) (XS.istoreN X170.here hx rfl (hb hby d5_58) rfl (l' := #[.val (.ref a1), .val (.ref a2), .val (.int (0 : Int32)), .val (.int (2 : Int32))]) rfl (XS.iinc X170.here hx rfl (hb hby d5_59) rfl (l' := #[.val (.ref a1), .val (.ref a2), .val (.int (0 : Int32)), .val (.int (3 : Int32))]) rfl (XS.goto X170.here hx rfl (pc0 := 62) (pc' := 23) rfl (hb hby d5_62) (by decide) (by decide) (XS.iloadN X170.here hx rfl (hb hby d5_23) rfl k_)))))) ?_
          show Run _ _ _ _ (T170.setTop (mkF m 24 #[.val (.ref a1), .val (.ref a2), .val (.int (0 : Int32)), .val (.int (3 : Int32))] [(.int (0 : Int32))]))
          refine Run.step (fun t_ k_ => XS.ifYes X170.here hx rfl (pc0 := 24) (pc' := 65) rfl (hb hby d5_24) rfl (XT.i0_eq_t (by decide : (0 : Int32) = (0 : Int32))) (by decide) (by decide) (XS.iloadN X170.here hx rfl (hb hby d5_65) rfl k_)) ?_
          show Run _ _ _ _ (T170.setTop (mkF m 66 #[.val (.ref a1), .val (.ref a2), .val (.int (0 : Int32)), .val (.int (3 : Int32))] [(.int (0 : Int32))]))
          exact finZ X170 hx (BodyLoose.notSynchronized Bd) Bd.returns (hb hby d5_66) (by decide) (by decide) (by decide) e170 ⟨congrArg (fun z => some (Value.int z)) ((if_neg c12).trans ((if_pos c50).trans ((if_pos c50_164).trans (if_neg c50_173)))).symm, N0, rfl⟩
      · skip
        refine Run.step (fun t_ k_ => XS.icmpYes X161.here hx rfl (pc0 := 50) (pc' := 57) rfl (hb hby d5_50) rfl (XT.ii_ne_t c50_164) (by decide) (by decide) (XS.iconst X161.here hx rfl (hb hby d5_57) (XS.istoreN X161.here hx rfl (hb hby d5_58) rfl (l' := #[.val (.ref a1), .val (.ref a2), .val (.int (0 : Int32)), .val (.int (1 : Int32))]) rfl (XS.iinc X161.here hx rfl (hb hby d5_59) rfl (l' := #[.val (.ref a1), .val (.ref a2), .val (.int (0 : Int32)), .val (.int (2 : Int32))]) rfl (XS.goto X161.here hx rfl (pc0 := 62) (pc' := 23) rfl (hb hby d5_62) (by decide) (by decide) (XS.iloadN X161.here hx rfl (hb hby d5_23) rfl k_)))))) ?_
        show Run _ _ _ _ (T161.setTop (mkF m 24 #[.val (.ref a1), .val (.ref a2), .val (.int (0 : Int32)), .val (.int (2 : Int32))] [(.int (0 : Int32))]))
        refine Run.step (fun t_ k_ => XS.ifYes X161.here hx rfl (pc0 := 24) (pc' := 65) rfl (hb hby d5_24) rfl (XT.i0_eq_t (by decide : (0 : Int32) = (0 : Int32))) (by decide) (by decide) (XS.iloadN X161.here hx rfl (hb hby d5_65) rfl k_)) ?_
        show Run _ _ _ _ (T161.setTop (mkF m 66 #[.val (.ref a1), .val (.ref a2), .val (.int (0 : Int32)), .val (.int (2 : Int32))] [(.int (0 : Int32))]))
        exact finZ X161 hx (BodyLoose.notSynchronized Bd) Bd.returns (hb hby d5_66) (by decide) (by decide) (by decide) e161 ⟨congrArg (fun z => some (Value.int z)) ((if_neg c12).trans ((if_pos c50).trans (if_neg c50_164))).symm, N0, rfl⟩
    · skip
      refine Run.step (fun t_ k_ => XS.icmpYes X153.here hx rfl (pc0 := 50) (pc' := 57) rfl (hb hby d5_50) rfl (XT.ii_ne_t c50) (by decide) (by decide) (XS.iconst X153.here hx rfl (hb hby d5_57) (XS.istoreN X153.here hx rfl (hb hby d5_58) rfl (l' := #[.val (.ref a1), .val (.ref a2), .val (.int (0 : Int32)), .val (.int (0 : Int32))]) rfl (XS.iinc X153.here hx rfl (hb hby d5_59) rfl (l' := #[.val (.ref a1), .val (.ref a2), .val (.int (0 : Int32)), .val (.int (1 : Int32))]) rfl (XS.goto X153.here hx rfl (pc0 := 62) (pc' := 23) rfl (hb hby d5_62) (by decide) (by decide) (XS.iloadN X153.here hx rfl (hb hby d5_23) rfl k_)))))) ?_
      show Run _ _ _ _ (T153.setTop (mkF m 24 #[.val (.ref a1), .val (.ref a2), .val (.int (0 : Int32)), .val (.int (1 : Int32))] [(.int (0 : Int32))]))
      refine Run.step (fun t_ k_ => XS.ifYes X153.here hx rfl (pc0 := 24) (pc' := 65) rfl (hb hby d5_24) rfl (XT.i0_eq_t (by decide : (0 : Int32) = (0 : Int32))) (by decide) (by decide) (XS.iloadN X153.here hx rfl (hb hby d5_65) rfl k_)) ?_
      show Run _ _ _ _ (T153.setTop (mkF m 66 #[.val (.ref a1), .val (.ref a2), .val (.int (0 : Int32)), .val (.int (1 : Int32))] [(.int (0 : Int32))]))
      exact finZ X153 hx (BodyLoose.notSynchronized Bd) Bd.returns (hb hby d5_66) (by decide) (by decide) (by decide) e153 ⟨congrArg (fun z => some (Value.int z)) ((if_neg c12).trans (if_neg c50)).symm, N0, rfl⟩
theorem ef_5_TAR (m : MethodId) (x0 : Addr) (x1 : Addr) : entryFrame m #[(.ref x0), (.ref x1)] 4 = mkF m 0 #[.val (.ref x0), .val (.ref x1), .unset, .unset] [] := by first | (simp [entryFrame, mkF, argsToLocals, Value.category, maxLocals]; done) | rfl
def Q5_TAR (Z : State) (a1 : Addr) (a2 : Addr) (mg : Addr) (km : ClassId) (nn : Int32) (g : Nat → Int32) (h0 : Heap) (n0 : Nat) (v : Option Value) (h : Heap) (L : List Loc) : Prop := v = some (.int (if nn < (262 : Int32) then 0 else (if g 257 = (117 : Int32) then (if g 258 = (115 : Int32) then (if g 259 = (116 : Int32) then (if g 260 = (97 : Int32) then (if g 261 = (114 : Int32) then (1) else 0) else 0) else 0) else 0) else 0))) ∧ Fr n0 L ∧ h = h0
set_option maxRecDepth 65536 in
set_option maxHeartbeats 40000000 in
theorem rm5_TAR (l : Launch) (Z : State) (a0 : Array Value) (hw : ∀ d ∈ tables_1, d.before a0 Z = true) (ws : List Jvm.Cond) (a1 : Addr) (a2 : Addr) (mg : Addr) (km : ClassId) (nn : Int32) (g : Nat → Int32) (h0 : Heap) (n0 : Nat) (Z0 : n0 ≤ h0.size) (F1 : Fld Z h0 a1 "cleave/io/PackedFormat" "offset" "I" (.int (257 : Int32))) (F2 : Fld Z h0 a1 "cleave/io/PackedFormat" "magic" "[B" (.ref mg)) (VM : Arv Z h0 mg km .byte (5 : Int32) [(.int (117 : Int32)), (.int (115 : Int32)), (.int (116 : Int32)), (.int (97 : Int32)), (.int (114 : Int32))] (.int (0 : Int32))) (VT : Bv Z h0 a2 nn g) :
    MetFree l (⟨"cleave/io/PackedFormat", "holdsMagic", "([B)Z"⟩ : MethodName) (head1 (Jvm.Cond.code (⟨"cleave/io/PackedFormat", "holdsMagic", "([B)Z"⟩ : MethodName) prog_34_method_10_code 4 (some .boolean) :: ws) ({ frames := 0, cells := 0, slots := 0, locals := 0 } : Room)) (fun a U => a = #[(.ref a1), (.ref a2)] ∧ Z.Warmed39 U.vm ∧ U.heap = h0) (fun _ _ _ _ _ => True) (fun _ U o U' => ∃ v L, o = .returned v ∧ Q5_TAR Z a1 a2 mg km nn g h0 n0 v U'.heap L ∧ FrameEnd U o U' L ({ frames := 0, cells := 0, slots := 0, locals := 0 } : Room).cells ({ frames := 0, cells := 0, slots := 0, locals := 0 } : Room).slots) := by
  refine MetFree.of_bodySF (plainFor_of_name pn_cleave_io_PackedFormat) hisR ?_
  intro p e s m args below meth c s₁ Bd hml0 hP hK
  obtain ⟨rfl, hZ, hh⟩ := hP
  have hx := Bd.exec
  have hby := Bd.bytes
  have w23 := hw _ (List.mem_of_getElem? (i := 23) rfl)
  have w25 := hw _ (List.mem_of_getElem? (i := 25) rfl)
  have hml : c.maxLocals = 4 := hml0
  have hown : s.vm.findClass "cleave/io/PackedFormat" = some m.cls := findClass_of_methodNamed Bd.named
  have hnm := (name_of_methodNamed Bd.named Bd.method).1
  have X0 : Stand p l e ({ frames := 0, cells := 0, slots := 0, locals := 0 } : Room) s m #[(.ref a1), (.ref a2)] below meth c s₁ [] 0 0 := Stand.of_body Bd
  have e0 : s₁.heap = h0 := by rw [← hh, Bd.state]; rfl
  have N0 := Fr.nil n0
  show Run p.tables e below (PQ s below 0 0 (Q5_TAR Z a1 a2 mg km nn g h0 n0)) (s₁.setTop (entryFrame m #[(.ref a1), (.ref a2)] 4))
  refine Run.step (fun t k => castTop (ef_5_TAR m a1 a2) k) ?_
  show Run _ _ _ _ (s₁.setTop (mkF m 0 #[.val (.ref a1), .val (.ref a2), .unset, .unset] []))
  refine Run.step (fun t_ k_ => XS.aloadN X0.here hx rfl (hb hby d5_0) rfl rfl k_) ?_
  show Run _ _ _ _ (s₁.setTop (mkF m 1 #[.val (.ref a1), .val (.ref a2), .unset, .unset] [(.ref a2)]))
  obtain ⟨cl185, Ar185, S185, M185, H185⟩ := id VT
  refine Run.step (fun t_ k_ => X0.arraylength hx (by rw [e0]; exact Ar185.1) (State.isArrayOf_alike hZ.alike Ar185.2.1) (g := (mkF m 1 #[.val (.ref a1), .val (.ref a2), .unset, .unset] [(.ref a2)])) rfl rfl (hb hby d5_1) _ k_) ?_
  rw [len_of S185 M185]
  show Run _ _ _ _ (s₁.setTop (mkF m 2 #[.val (.ref a1), .val (.ref a2), .unset, .unset] [(.int nn)]))
  refine Run.step (fun t_ k_ => XS.aloadN X0.here hx rfl (hb hby d5_2) rfl rfl k_) ?_
  show Run _ _ _ _ (s₁.setTop (mkF m 3 #[.val (.ref a1), .val (.ref a2), .unset, .unset] [(.ref a1), (.int nn)]))
  obtain ⟨T186, X186, e186, st186⟩ := getF X0 hx hZ hown (host := "") (Or.inl w23) Via.refl e0 F1 (g := (mkF m 3 #[.val (.ref a1), .val (.ref a2), .unset, .unset] [(.ref a1), (.int nn)])) rfl rfl (hb hby d5_3)
  refine Run.step st186 ?_
  show Run _ _ _ _ (T186.setTop (mkF m 6 #[.val (.ref a1), .val (.ref a2), .unset, .unset] [(.int (257 : Int32)), (.int nn)]))
  refine Run.step (fun t_ k_ => XS.aloadN X186.here hx rfl (hb hby d5_6) rfl rfl k_) ?_
  show Run _ _ _ _ (T186.setTop (mkF m 7 #[.val (.ref a1), .val (.ref a2), .unset, .unset] [(.ref a1), (.int (257 : Int32)), (.int nn)]))
  obtain ⟨T187, X187, e187, st187⟩ := getF X186 hx hZ hown (host := "") (Or.inl w25) Via.refl e186 F2 (g := (mkF m 7 #[.val (.ref a1), .val (.ref a2), .unset, .unset] [(.ref a1), (.int (257 : Int32)), (.int nn)])) rfl rfl (hb hby d5_7)
  refine Run.step st187 ?_
  show Run _ _ _ _ (T187.setTop (mkF m 10 #[.val (.ref a1), .val (.ref a2), .unset, .unset] [(.ref mg), (.int (257 : Int32)), (.int nn)]))
  obtain ⟨cl188, Ar188, q188, S188, M188, H188, U188⟩ := id VM
  refine Run.step (fun t_ k_ => X187.arraylength hx (by rw [e187]; exact Ar188.1) (State.isArrayOf_alike hZ.alike Ar188.2.1) (g := (mkF m 10 #[.val (.ref a1), .val (.ref a2), .unset, .unset] [(.ref mg), (.int (257 : Int32)), (.int nn)])) rfl rfl (hb hby d5_10) _ k_) ?_
  rw [len_of S188 M188]
  show Run _ _ _ _ (T187.setTop (mkF m 11 #[.val (.ref a1), .val (.ref a2), .unset, .unset] [(.int (5 : Int32)), (.int (257 : Int32)), (.int nn)]))
  refine Run.step (fun t_ k_ => XS.iadd X187.here hx rfl (hb hby d5_11) rfl k_) ?_
  show Run _ _ _ _ (T187.setTop (mkF m 12 #[.val (.ref a1), .val (.ref a2), .unset, .unset] [(.int (262 : Int32)), (.int nn)]))
  by_cases c12 : nn < (262 : Int32)
  · skip
    refine Run.step (fun t_ k_ => XS.icmpYes X187.here hx rfl (pc0 := 12) (pc' := 19) rfl (hb hby d5_12) rfl (XT.ii_lt_t c12) (by decide) (by decide) (XS.iconst X187.here hx rfl (hb hby d5_19) (XS.istoreN X187.here hx rfl (hb hby d5_20) rfl (l' := #[.val (.ref a1), .val (.ref a2), .val (.int (0 : Int32)), .unset]) rfl (XS.iconst X187.here hx rfl (hb hby d5_21) (XS.istoreN X187.here hx rfl (hb hby d5_22) rfl (l' := #[.val (.ref a1), .val (.ref a2), .val (.int (0 : Int32)), .val (.int (0 : Int32))]) rfl (XS.iloadN X187.here hx rfl (hb hby d5_23) rfl k_)))))) ?_
    show Run _ _ _ _ (T187.setTop (mkF m 24 #[.val (.ref a1), .val (.ref a2), .val (.int (0 : Int32)), .val (.int (0 : Int32))] [(.int (0 : Int32))]))
    refine Run.step (fun t_ k_ => XS.ifYes X187.here hx rfl (pc0 := 24) (pc' := 65) rfl (hb hby d5_24) rfl (XT.i0_eq_t (by decide : (0 : Int32) = (0 : Int32))) (by decide) (by decide) (XS.iloadN X187.here hx rfl (hb hby d5_65) rfl k_)) ?_
    show Run _ _ _ _ (T187.setTop (mkF m 66 #[.val (.ref a1), .val (.ref a2), .val (.int (0 : Int32)), .val (.int (0 : Int32))] [(.int (0 : Int32))]))
    exact finZ X187 hx (BodyLoose.notSynchronized Bd) Bd.returns (hb hby d5_66) (by decide) (by decide) (by decide) e187 ⟨congrArg (fun z => some (Value.int z)) (if_pos c12).symm, N0, rfl⟩
  · skip
    refine Run.step (fun t_ k_ => XS.icmpNo X187.here hx rfl (hb hby d5_12) rfl (XT.ii_lt_f c12) (XS.iconst X187.here hx rfl (hb hby d5_15) (XS.goto X187.here hx rfl (pc0 := 16) (pc' := 20) rfl (hb hby d5_16) (by decide) (by decide) (XS.istoreN X187.here hx rfl (hb hby d5_20) rfl (l' := #[.val (.ref a1), .val (.ref a2), .val (.int (1 : Int32)), .unset]) rfl (XS.iconst X187.here hx rfl (hb hby d5_21) (XS.istoreN X187.here hx rfl (hb hby d5_22) rfl (l' := #[.val (.ref a1), .val (.ref a2), .val (.int (1 : Int32)), .val (.int (0 : Int32))]) rfl k_)))))) ?_
    show Run _ _ _ _ (T187.setTop (mkF m 23 #[.val (.ref a1), .val (.ref a2), .val (.int (1 : Int32)), .val (.int (0 : Int32))] []))
    refine Run.step (fun t_ k_ => XS.iloadN X187.here hx rfl (hb hby d5_23) rfl (XS.ifNo X187.here hx rfl (hb hby d5_24) rfl (XT.i0_eq_f (by decide : ¬ ((1 : Int32) = (0 : Int32)))) (XS.iloadN X187.here hx rfl (hb hby d5_27) rfl (XS.aloadN X187.here hx rfl (hb hby d5_28) rfl rfl k_)))) ?_
    show Run _ _ _ _ (T187.setTop (mkF m 29 #[.val (.ref a1), .val (.ref a2), .val (.int (1 : Int32)), .val (.int (0 : Int32))] [(.ref a1), (.int (0 : Int32))]))
    obtain ⟨T189, X189, e189, st189⟩ := getF X187 hx hZ hown (host := "") (Or.inl w25) Via.refl e187 F2 (g := (mkF m 29 #[.val (.ref a1), .val (.ref a2), .val (.int (1 : Int32)), .val (.int (0 : Int32))] [(.ref a1), (.int (0 : Int32))])) rfl rfl (hb hby d5_29)
    refine Run.step st189 ?_
    show Run _ _ _ _ (T189.setTop (mkF m 32 #[.val (.ref a1), .val (.ref a2), .val (.int (1 : Int32)), .val (.int (0 : Int32))] [(.ref mg), (.int (0 : Int32))]))
    obtain ⟨cl190, Ar190, q190, S190, M190, H190, U190⟩ := id VM
    refine Run.step (fun t_ k_ => X189.arraylength hx (by rw [e189]; exact Ar190.1) (State.isArrayOf_alike hZ.alike Ar190.2.1) (g := (mkF m 32 #[.val (.ref a1), .val (.ref a2), .val (.int (1 : Int32)), .val (.int (0 : Int32))] [(.ref mg), (.int (0 : Int32))])) rfl rfl (hb hby d5_32) _ k_) ?_
    rw [len_of S190 M190]
    show Run _ _ _ _ (T189.setTop (mkF m 33 #[.val (.ref a1), .val (.ref a2), .val (.int (1 : Int32)), .val (.int (0 : Int32))] [(.int (5 : Int32)), (.int (0 : Int32))]))
    refine Run.step (fun t_ k_ => XS.icmpNo X189.here hx rfl (hb hby d5_33) rfl (XT.ii_ge_f (by decide : (0 : Int32) < (5 : Int32))) (XS.aloadN X189.here hx rfl (hb hby d5_36) rfl rfl (XS.aloadN X189.here hx rfl (hb hby d5_37) rfl rfl k_))) ?_
    show Run _ _ _ _ (T189.setTop (mkF m 38 #[.val (.ref a1), .val (.ref a2), .val (.int (1 : Int32)), .val (.int (0 : Int32))] [(.ref a1), (.ref a2)]))
    obtain ⟨T191, X191, e191, st191⟩ := getF X189 hx hZ hown (host := "") (Or.inl w23) Via.refl e189 F1 (g := (mkF m 38 #[.val (.ref a1), .val (.ref a2), .val (.int (1 : Int32)), .val (.int (0 : Int32))] [(.ref a1), (.ref a2)])) rfl rfl (hb hby d5_38)
    refine Run.step st191 ?_
    show Run _ _ _ _ (T191.setTop (mkF m 41 #[.val (.ref a1), .val (.ref a2), .val (.int (1 : Int32)), .val (.int (0 : Int32))] [(.int (257 : Int32)), (.ref a2)]))
    refine Run.step (fun t_ k_ => XS.iloadN X191.here hx rfl (hb hby d5_41) rfl (XS.iadd X191.here hx rfl (hb hby d5_42) rfl k_)) ?_
    show Run _ _ _ _ (T191.setTop (mkF m 43 #[.val (.ref a1), .val (.ref a2), .val (.int (1 : Int32)), .val (.int (0 : Int32))] [(.int (257 : Int32)), (.ref a2)]))
    obtain ⟨cl192, Ar192, S192, M192, H192⟩ := id VT
    have hin193 : ¬ ((257 : Int32) < 0 ∨ cl192.slots.size ≤ ((257 : Int32)).toNatClampNeg) := inb_of S192 ⟨by decide, own_in c12 (by decide)⟩
    have hat193 : cl192.slots[((257 : Int32)).toNatClampNeg]? = some (.int (g 257)) := H192 _ (Nat.lt_of_not_le fun q => hin193 (Or.inr q))
    refine Run.step (fun t_ k_ => X191.baloadBytes hx (j := (257 : Int32)) (v := (.int (g 257))) (by rw [e191]; exact Ar192.1) (State.isArrayOf_alike hZ.alike Ar192.2.1) Ar192.2.2 hin193 hat193 (g := (mkF m 43 #[.val (.ref a1), .val (.ref a2), .val (.int (1 : Int32)), .val (.int (0 : Int32))] [(.int (257 : Int32)), (.ref a2)])) rfl rfl (hb hby d5_43) _ (XS.aloadN X191.here hx rfl (hb hby d5_44) rfl rfl k_)) ?_
    show Run _ _ _ _ (T191.setTop (mkF m 45 #[.val (.ref a1), .val (.ref a2), .val (.int (1 : Int32)), .val (.int (0 : Int32))] [(.ref a1), (.int (g 257))]))
    obtain ⟨T194, X194, e194, st194⟩ := getF X191 hx hZ hown (host := "") (Or.inl w25) Via.refl e191 F2 (g := (mkF m 45 #[.val (.ref a1), .val (.ref a2), .val (.int (1 : Int32)), .val (.int (0 : Int32))] [(.ref a1), (.int (g 257))])) rfl rfl (hb hby d5_45)
    refine Run.step st194 ?_
    show Run _ _ _ _ (T194.setTop (mkF m 48 #[.val (.ref a1), .val (.ref a2), .val (.int (1 : Int32)), .val (.int (0 : Int32))] [(.ref mg), (.int (g 257))]))
    refine Run.step (fun t_ k_ => XS.iloadN X194.here hx rfl (hb hby d5_48) rfl k_) ?_
    show Run _ _ _ _ (T194.setTop (mkF m 49 #[.val (.ref a1), .val (.ref a2), .val (.int (1 : Int32)), .val (.int (0 : Int32))] [(.int (0 : Int32)), (.ref mg), (.int (g 257))]))
    obtain ⟨cl195, Ar195, q195, S195, M195, H195, U195⟩ := id VM
    have hin196 : ¬ ((0 : Int32) < 0 ∨ cl195.slots.size ≤ ((0 : Int32)).toNatClampNeg) := inb_of S195 ⟨by decide, by decide⟩
    have hat196 : cl195.slots[((0 : Int32)).toNatClampNeg]? = some (.int (117 : Int32)) := H195.at hin196 rfl
    refine Run.step (fun t_ k_ => X194.baloadBytes hx (j := (0 : Int32)) (v := (.int (117 : Int32))) (by rw [e194]; exact Ar195.1) (State.isArrayOf_alike hZ.alike Ar195.2.1) Ar195.2.2 hin196 hat196 (g := (mkF m 49 #[.val (.ref a1), .val (.ref a2), .val (.int (1 : Int32)), .val (.int (0 : Int32))] [(.int (0 : Int32)), (.ref mg), (.int (g 257))])) rfl rfl (hb hby d5_49) _ k_) ?_
    show Run _ _ _ _ (T194.setTop (mkF m 50 #[.val (.ref a1), .val (.ref a2), .val (.int (1 : Int32)), .val (.int (0 : Int32))] [(.int (117 : Int32)), (.int (g 257))]))
    by_cases c50 : (g 257) = (117 : Int32)
    · skip
      refine Run.step (fun t_ k_ => XS.icmpNo X194.here hx rfl (hb hby d5_50) rfl (XT.ii_ne_f c50) (XS.iconst X194.here hx rfl (hb hby d5_53) (XS.goto X194.here hx rfl (pc0 := 54) (pc' := 58) rfl (hb hby d5_54) (by decide) (by decide) (XS.istoreN X194.here hx rfl (hb hby d5_58) rfl (l' := #[.val (.ref a1), .val (.ref a2), .val (.int (1 : Int32)), .val (.int (0 : Int32))]) rfl (XS.iinc X194.here hx rfl (hb hby d5_59) rfl (l' := #[.val (.ref a1), .val (.ref a2), .val (.int (1 : Int32)), .val (.int (1 : Int32))]) rfl (XS.goto X194.here hx rfl (pc0 := 62) (pc' := 23) rfl (hb hby d5_62) (by decide) (by decide) k_)))))) ?_
      show Run _ _ _ _ (T194.setTop (mkF m 23 #[.val (.ref a1), .val (.ref a2), .val (.int (1 : Int32)), .val (.int (1 : Int32))] []))
      refine Run.step (fun t_ k_ => XS.iloadN X194.here hx rfl (hb hby d5_23) rfl (XS.ifNo X194.here hx rfl (hb hby d5_24) rfl (XT.i0_eq_f (by decide : ¬ ((1 : Int32) = (0 : Int32)))) (XS.iloadN X194.here hx rfl (hb hby d5_27) rfl (XS.aloadN X194.here hx rfl (hb hby d5_28) rfl rfl k_)))) ?_
      show Run _ _ _ _ (T194.setTop (mkF m 29 #[.val (.ref a1), .val (.ref a2), .val (.int (1 : Int32)), .val (.int (1 : Int32))] [(.ref a1), (.int (1 : Int32))]))
      obtain ⟨T197, X197, e197, st197⟩ := getF X194 hx hZ hown (host := "") (Or.inl w25) Via.refl e194 F2 (g := (mkF m 29 #[.val (.ref a1), .val (.ref a2), .val (.int (1 : Int32)), .val (.int (1 : Int32))] [(.ref a1), (.int (1 : Int32))])) rfl rfl (hb hby d5_29)
      refine Run.step st197 ?_
      show Run _ _ _ _ (T197.setTop (mkF m 32 #[.val (.ref a1), .val (.ref a2), .val (.int (1 : Int32)), .val (.int (1 : Int32))] [(.ref mg), (.int (1 : Int32))]))
      obtain ⟨cl198, Ar198, q198, S198, M198, H198, U198⟩ := id VM
      refine Run.step (fun t_ k_ => X197.arraylength hx (by rw [e197]; exact Ar198.1) (State.isArrayOf_alike hZ.alike Ar198.2.1) (g := (mkF m 32 #[.val (.ref a1), .val (.ref a2), .val (.int (1 : Int32)), .val (.int (1 : Int32))] [(.ref mg), (.int (1 : Int32))])) rfl rfl (hb hby d5_32) _ k_) ?_
      rw [len_of S198 M198]
      show Run _ _ _ _ (T197.setTop (mkF m 33 #[.val (.ref a1), .val (.ref a2), .val (.int (1 : Int32)), .val (.int (1 : Int32))] [(.int (5 : Int32)), (.int (1 : Int32))]))
      refine Run.step (fun t_ k_ => XS.icmpNo X197.here hx rfl (hb hby d5_33) rfl (XT.ii_ge_f (by decide : (1 : Int32) < (5 : Int32))) (XS.aloadN X197.here hx rfl (hb hby d5_36) rfl rfl (XS.aloadN X197.here hx rfl (hb hby d5_37) rfl rfl k_))) ?_
      show Run _ _ _ _ (T197.setTop (mkF m 38 #[.val (.ref a1), .val (.ref a2), .val (.int (1 : Int32)), .val (.int (1 : Int32))] [(.ref a1), (.ref a2)]))
      obtain ⟨T199, X199, e199, st199⟩ := getF X197 hx hZ hown (host := "") (Or.inl w23) Via.refl e197 F1 (g := (mkF m 38 #[.val (.ref a1), .val (.ref a2), .val (.int (1 : Int32)), .val (.int (1 : Int32))] [(.ref a1), (.ref a2)])) rfl rfl (hb hby d5_38)
      refine Run.step st199 ?_
      show Run _ _ _ _ (T199.setTop (mkF m 41 #[.val (.ref a1), .val (.ref a2), .val (.int (1 : Int32)), .val (.int (1 : Int32))] [(.int (257 : Int32)), (.ref a2)]))
      refine Run.step (fun t_ k_ => XS.iloadN X199.here hx rfl (hb hby d5_41) rfl (XS.iadd X199.here hx rfl (hb hby d5_42) rfl k_)) ?_
      show Run _ _ _ _ (T199.setTop (mkF m 43 #[.val (.ref a1), .val (.ref a2), .val (.int (1 : Int32)), .val (.int (1 : Int32))] [(.int (258 : Int32)), (.ref a2)]))
      obtain ⟨cl200, Ar200, S200, M200, H200⟩ := id VT
      have hin201 : ¬ ((258 : Int32) < 0 ∨ cl200.slots.size ≤ ((258 : Int32)).toNatClampNeg) := inb_of S200 ⟨by decide, own_in c12 (by decide)⟩
      have hat201 : cl200.slots[((258 : Int32)).toNatClampNeg]? = some (.int (g 258)) := H200 _ (Nat.lt_of_not_le fun q => hin201 (Or.inr q))
      refine Run.step (fun t_ k_ => X199.baloadBytes hx (j := (258 : Int32)) (v := (.int (g 258))) (by rw [e199]; exact Ar200.1) (State.isArrayOf_alike hZ.alike Ar200.2.1) Ar200.2.2 hin201 hat201 (g := (mkF m 43 #[.val (.ref a1), .val (.ref a2), .val (.int (1 : Int32)), .val (.int (1 : Int32))] [(.int (258 : Int32)), (.ref a2)])) rfl rfl (hb hby d5_43) _ (XS.aloadN X199.here hx rfl (hb hby d5_44) rfl rfl k_)) ?_
      show Run _ _ _ _ (T199.setTop (mkF m 45 #[.val (.ref a1), .val (.ref a2), .val (.int (1 : Int32)), .val (.int (1 : Int32))] [(.ref a1), (.int (g 258))]))
      obtain ⟨T202, X202, e202, st202⟩ := getF X199 hx hZ hown (host := "") (Or.inl w25) Via.refl e199 F2 (g := (mkF m 45 #[.val (.ref a1), .val (.ref a2), .val (.int (1 : Int32)), .val (.int (1 : Int32))] [(.ref a1), (.int (g 258))])) rfl rfl (hb hby d5_45)
      refine Run.step st202 ?_
      show Run _ _ _ _ (T202.setTop (mkF m 48 #[.val (.ref a1), .val (.ref a2), .val (.int (1 : Int32)), .val (.int (1 : Int32))] [(.ref mg), (.int (g 258))]))
      refine Run.step (fun t_ k_ => XS.iloadN X202.here hx rfl (hb hby d5_48) rfl k_) ?_
      show Run _ _ _ _ (T202.setTop (mkF m 49 #[.val (.ref a1), .val (.ref a2), .val (.int (1 : Int32)), .val (.int (1 : Int32))] [(.int (1 : Int32)), (.ref mg), (.int (g 258))]))
      obtain ⟨cl203, Ar203, q203, S203, M203, H203, U203⟩ := id VM
      have hin204 : ¬ ((1 : Int32) < 0 ∨ cl203.slots.size ≤ ((1 : Int32)).toNatClampNeg) := inb_of S203 ⟨by decide, by decide⟩
      have hat204 : cl203.slots[((1 : Int32)).toNatClampNeg]? = some (.int (115 : Int32)) := H203.at hin204 rfl
      refine Run.step (fun t_ k_ => X202.baloadBytes hx (j := (1 : Int32)) (v := (.int (115 : Int32))) (by rw [e202]; exact Ar203.1) (State.isArrayOf_alike hZ.alike Ar203.2.1) Ar203.2.2 hin204 hat204 (g := (mkF m 49 #[.val (.ref a1), .val (.ref a2), .val (.int (1 : Int32)), .val (.int (1 : Int32))] [(.int (1 : Int32)), (.ref mg), (.int (g 258))])) rfl rfl (hb hby d5_49) _ k_) ?_
      show Run _ _ _ _ (T202.setTop (mkF m 50 #[.val (.ref a1), .val (.ref a2), .val (.int (1 : Int32)), .val (.int (1 : Int32))] [(.int (115 : Int32)), (.int (g 258))]))
      by_cases c50_205 : (g 258) = (115 : Int32)
      · skip
        refine Run.step (fun t_ k_ => XS.icmpNo X202.here hx rfl (hb hby d5_50) rfl (XT.ii_ne_f c50_205) (XS.iconst X202.here hx rfl (hb hby d5_53) (XS.goto X202.here hx rfl (pc0 := 54) (pc' := 58) rfl (hb hby d5_54) (by decide) (by decide) (XS.istoreN X202.here hx rfl (hb hby d5_58) rfl (l' := #[.val (.ref a1), .val (.ref a2), .val (.int (1 : Int32)), .val (.int (1 : Int32))]) rfl (XS.iinc X202.here hx rfl (hb hby d5_59) rfl (l' := #[.val (.ref a1), .val (.ref a2), .val (.int (1 : Int32)), .val (.int (2 : Int32))]) rfl (XS.goto X202.here hx rfl (pc0 := 62) (pc' := 23) rfl (hb hby d5_62) (by decide) (by decide) k_)))))) ?_
        show Run _ _ _ _ (T202.setTop (mkF m 23 #[.val (.ref a1), .val (.ref a2), .val (.int (1 : Int32)), .val (.int (2 : Int32))] []))
        refine Run.step (fun t_ k_ => XS.iloadN X202.here hx rfl (hb hby d5_23) rfl (XS.ifNo X202.here hx rfl (hb hby d5_24) rfl (XT.i0_eq_f (by decide : ¬ ((1 : Int32) = (0 : Int32)))) (XS.iloadN X202.here hx rfl (hb hby d5_27) rfl (XS.aloadN X202.here hx rfl (hb hby d5_28) rfl rfl k_)))) ?_
        show Run _ _ _ _ (T202.setTop (mkF m 29 #[.val (.ref a1), .val (.ref a2), .val (.int (1 : Int32)), .val (.int (2 : Int32))] [(.ref a1), (.int (2 : Int32))]))
        obtain ⟨T206, X206, e206, st206⟩ := getF X202 hx hZ hown (host := "") (Or.inl w25) Via.refl e202 F2 (g := (mkF m 29 #[.val (.ref a1), .val (.ref a2), .val (.int (1 : Int32)), .val (.int (2 : Int32))] [(.ref a1), (.int (2 : Int32))])) rfl rfl (hb hby d5_29)
        refine Run.step st206 ?_
        show Run _ _ _ _ (T206.setTop (mkF m 32 #[.val (.ref a1), .val (.ref a2), .val (.int (1 : Int32)), .val (.int (2 : Int32))] [(.ref mg), (.int (2 : Int32))]))
        obtain ⟨cl207, Ar207, q207, S207, M207, H207, U207⟩ := id VM
        refine Run.step (fun t_ k_ => X206.arraylength hx (by rw [e206]; exact Ar207.1) (State.isArrayOf_alike hZ.alike Ar207.2.1) (g := (mkF m 32 #[.val (.ref a1), .val (.ref a2), .val (.int (1 : Int32)), .val (.int (2 : Int32))] [(.ref mg), (.int (2 : Int32))])) rfl rfl (hb hby d5_32) _ k_) ?_
        rw [len_of S207 M207]
        show Run _ _ _ _ (T206.setTop (mkF m 33 #[.val (.ref a1), .val (.ref a2), .val (.int (1 : Int32)), .val (.int (2 : Int32))] [(.int (5 : Int32)), (.int (2 : Int32))]))
        refine Run.step (fun t_ k_ => XS.icmpNo X206.here hx rfl (hb hby d5_33) rfl (XT.ii_ge_f (by decide : (2 : Int32) < (5 : Int32))) (XS.aloadN X206.here hx rfl (hb hby d5_36) rfl rfl (XS.aloadN X206.here hx rfl (hb hby d5_37) rfl rfl k_))) ?_
        show Run _ _ _ _ (T206.setTop (mkF m 38 #[.val (.ref a1), .val (.ref a2), .val (.int (1 : Int32)), .val (.int (2 : Int32))] [(.ref a1), (.ref a2)]))
        obtain ⟨T208, X208, e208, st208⟩ := getF X206 hx hZ hown (host := "") (Or.inl w23) Via.refl e206 F1 (g := (mkF m 38 #[.val (.ref a1), .val (.ref a2), .val (.int (1 : Int32)), .val (.int (2 : Int32))] [(.ref a1), (.ref a2)])) rfl rfl (hb hby d5_38)
        refine Run.step st208 ?_
        show Run _ _ _ _ (T208.setTop (mkF m 41 #[.val (.ref a1), .val (.ref a2), .val (.int (1 : Int32)), .val (.int (2 : Int32))] [(.int (257 : Int32)), (.ref a2)]))
        refine Run.step (fun t_ k_ => XS.iloadN X208.here hx rfl (hb hby d5_41) rfl (XS.iadd X208.here hx rfl (hb hby d5_42) rfl k_)) ?_
        show Run _ _ _ _ (T208.setTop (mkF m 43 #[.val (.ref a1), .val (.ref a2), .val (.int (1 : Int32)), .val (.int (2 : Int32))] [(.int (259 : Int32)), (.ref a2)]))
        obtain ⟨cl209, Ar209, S209, M209, H209⟩ := id VT
        have hin210 : ¬ ((259 : Int32) < 0 ∨ cl209.slots.size ≤ ((259 : Int32)).toNatClampNeg) := inb_of S209 ⟨by decide, own_in c12 (by decide)⟩
        have hat210 : cl209.slots[((259 : Int32)).toNatClampNeg]? = some (.int (g 259)) := H209 _ (Nat.lt_of_not_le fun q => hin210 (Or.inr q))
        refine Run.step (fun t_ k_ => X208.baloadBytes hx (j := (259 : Int32)) (v := (.int (g 259))) (by rw [e208]; exact Ar209.1) (State.isArrayOf_alike hZ.alike Ar209.2.1) Ar209.2.2 hin210 hat210 (g := (mkF m 43 #[.val (.ref a1), .val (.ref a2), .val (.int (1 : Int32)), .val (.int (2 : Int32))] [(.int (259 : Int32)), (.ref a2)])) rfl rfl (hb hby d5_43) _ (XS.aloadN X208.here hx rfl (hb hby d5_44) rfl rfl k_)) ?_
        show Run _ _ _ _ (T208.setTop (mkF m 45 #[.val (.ref a1), .val (.ref a2), .val (.int (1 : Int32)), .val (.int (2 : Int32))] [(.ref a1), (.int (g 259))]))
        obtain ⟨T211, X211, e211, st211⟩ := getF X208 hx hZ hown (host := "") (Or.inl w25) Via.refl e208 F2 (g := (mkF m 45 #[.val (.ref a1), .val (.ref a2), .val (.int (1 : Int32)), .val (.int (2 : Int32))] [(.ref a1), (.int (g 259))])) rfl rfl (hb hby d5_45)
        refine Run.step st211 ?_
        show Run _ _ _ _ (T211.setTop (mkF m 48 #[.val (.ref a1), .val (.ref a2), .val (.int (1 : Int32)), .val (.int (2 : Int32))] [(.ref mg), (.int (g 259))]))
        refine Run.step (fun t_ k_ => XS.iloadN X211.here hx rfl (hb hby d5_48) rfl k_) ?_
        show Run _ _ _ _ (T211.setTop (mkF m 49 #[.val (.ref a1), .val (.ref a2), .val (.int (1 : Int32)), .val (.int (2 : Int32))] [(.int (2 : Int32)), (.ref mg), (.int (g 259))]))
        obtain ⟨cl212, Ar212, q212, S212, M212, H212, U212⟩ := id VM
        have hin213 : ¬ ((2 : Int32) < 0 ∨ cl212.slots.size ≤ ((2 : Int32)).toNatClampNeg) := inb_of S212 ⟨by decide, by decide⟩
        have hat213 : cl212.slots[((2 : Int32)).toNatClampNeg]? = some (.int (116 : Int32)) := H212.at hin213 rfl
        refine Run.step (fun t_ k_ => X211.baloadBytes hx (j := (2 : Int32)) (v := (.int (116 : Int32))) (by rw [e211]; exact Ar212.1) (State.isArrayOf_alike hZ.alike Ar212.2.1) Ar212.2.2 hin213 hat213 (g := (mkF m 49 #[.val (.ref a1), .val (.ref a2), .val (.int (1 : Int32)), .val (.int (2 : Int32))] [(.int (2 : Int32)), (.ref mg), (.int (g 259))])) rfl rfl (hb hby d5_49) _ k_) ?_
        show Run _ _ _ _ (T211.setTop (mkF m 50 #[.val (.ref a1), .val (.ref a2), .val (.int (1 : Int32)), .val (.int (2 : Int32))] [(.int (116 : Int32)), (.int (g 259))]))
        by_cases c50_214 : (g 259) = (116 : Int32)
        · skip
          refine Run.step (fun t_ k_ => XS.icmpNo X211.here hx rfl (hb hby d5_50) rfl (XT.ii_ne_f c50_214) (XS.iconst X211.here hx rfl (hb hby d5_53) (XS.goto X211.here hx rfl (pc0 := 54) (pc' := 58) rfl (hb hby d5_54) (by decide) (by decide) (XS.istoreN X211.here hx rfl (hb hby d5_58) rfl (l' := #[.val (.ref a1), .val (.ref a2), .val (.int (1 : Int32)), .val (.int (2 : Int32))]) rfl (XS.iinc X211.here hx rfl (hb hby d5_59) rfl (l' := #[.val (.ref a1), .val (.ref a2), .val (.int (1 : Int32)), .val (.int (3 : Int32))]) rfl (XS.goto X211.here hx rfl (pc0 := 62) (pc' := 23) rfl (hb hby d5_62) (by decide) (by decide) k_)))))) ?_
          show Run _ _ _ _ (T211.setTop (mkF m 23 #[.val (.ref a1), .val (.ref a2), .val (.int (1 : Int32)), .val (.int (3 : Int32))] []))
          refine Run.step (fun t_ k_ => XS.iloadN X211.here hx rfl (hb hby d5_23) rfl (XS.ifNo X211.here hx rfl (hb hby d5_24) rfl (XT.i0_eq_f (by decide : ¬ ((1 : Int32) = (0 : Int32)))) (XS.iloadN X211.here hx rfl (hb hby d5_27) rfl (XS.aloadN X211.here hx rfl (hb hby d5_28) rfl rfl k_)))) ?_
          show Run _ _ _ _ (T211.setTop (mkF m 29 #[.val (.ref a1), .val (.ref a2), .val (.int (1 : Int32)), .val (.int (3 : Int32))] [(.ref a1), (.int (3 : Int32))]))
          obtain ⟨T215, X215, e215, st215⟩ := getF X211 hx hZ hown (host := "") (Or.inl w25) Via.refl e211 F2 (g := (mkF m 29 #[.val (.ref a1), .val (.ref a2), .val (.int (1 : Int32)), .val (.int (3 : Int32))] [(.ref a1), (.int (3 : Int32))])) rfl rfl (hb hby d5_29)
          refine Run.step st215 ?_
          show Run _ _ _ _ (T215.setTop (mkF m 32 #[.val (.ref a1), .val (.ref a2), .val (.int (1 : Int32)), .val (.int (3 : Int32))] [(.ref mg), (.int (3 : Int32))]))
          obtain ⟨cl216, Ar216, q216, S216, M216, H216, U216⟩ := id VM
          refine Run.step (fun t_ k_ => X215.arraylength hx (by rw [e215]; exact Ar216.1) (State.isArrayOf_alike hZ.alike Ar216.2.1) (g := (mkF m 32 #[.val (.ref a1), .val (.ref a2), .val (.int (1 : Int32)), .val (.int (3 : Int32))] [(.ref mg), (.int (3 : Int32))])) rfl rfl (hb hby d5_32) _ k_) ?_
          rw [len_of S216 M216]
          show Run _ _ _ _ (T215.setTop (mkF m 33 #[.val (.ref a1), .val (.ref a2), .val (.int (1 : Int32)), .val (.int (3 : Int32))] [(.int (5 : Int32)), (.int (3 : Int32))]))
          refine Run.step (fun t_ k_ => XS.icmpNo X215.here hx rfl (hb hby d5_33) rfl (XT.ii_ge_f (by decide : (3 : Int32) < (5 : Int32))) (XS.aloadN X215.here hx rfl (hb hby d5_36) rfl rfl (XS.aloadN X215.here hx rfl (hb hby d5_37) rfl rfl k_))) ?_
          show Run _ _ _ _ (T215.setTop (mkF m 38 #[.val (.ref a1), .val (.ref a2), .val (.int (1 : Int32)), .val (.int (3 : Int32))] [(.ref a1), (.ref a2)]))
          obtain ⟨T217, X217, e217, st217⟩ := getF X215 hx hZ hown (host := "") (Or.inl w23) Via.refl e215 F1 (g := (mkF m 38 #[.val (.ref a1), .val (.ref a2), .val (.int (1 : Int32)), .val (.int (3 : Int32))] [(.ref a1), (.ref a2)])) rfl rfl (hb hby d5_38)
          refine Run.step st217 ?_
          show Run _ _ _ _ (T217.setTop (mkF m 41 #[.val (.ref a1), .val (.ref a2), .val (.int (1 : Int32)), .val (.int (3 : Int32))] [(.int (257 : Int32)), (.ref a2)]))
          refine Run.step (fun t_ k_ => XS.iloadN X217.here hx rfl (hb hby d5_41) rfl (XS.iadd X217.here hx rfl (hb hby d5_42) rfl k_)) ?_
          show Run _ _ _ _ (T217.setTop (mkF m 43 #[.val (.ref a1), .val (.ref a2), .val (.int (1 : Int32)), .val (.int (3 : Int32))] [(.int (260 : Int32)), (.ref a2)]))
          obtain ⟨cl218, Ar218, S218, M218, H218⟩ := id VT
          have hin219 : ¬ ((260 : Int32) < 0 ∨ cl218.slots.size ≤ ((260 : Int32)).toNatClampNeg) := inb_of S218 ⟨by decide, own_in c12 (by decide)⟩
          have hat219 : cl218.slots[((260 : Int32)).toNatClampNeg]? = some (.int (g 260)) := H218 _ (Nat.lt_of_not_le fun q => hin219 (Or.inr q))
          refine Run.step (fun t_ k_ => X217.baloadBytes hx (j := (260 : Int32)) (v := (.int (g 260))) (by rw [e217]; exact Ar218.1) (State.isArrayOf_alike hZ.alike Ar218.2.1) Ar218.2.2 hin219 hat219 (g := (mkF m 43 #[.val (.ref a1), .val (.ref a2), .val (.int (1 : Int32)), .val (.int (3 : Int32))] [(.int (260 : Int32)), (.ref a2)])) rfl rfl (hb hby d5_43) _ (XS.aloadN X217.here hx rfl (hb hby d5_44) rfl rfl k_)) ?_
          show Run _ _ _ _ (T217.setTop (mkF m 45 #[.val (.ref a1), .val (.ref a2), .val (.int (1 : Int32)), .val (.int (3 : Int32))] [(.ref a1), (.int (g 260))]))
          obtain ⟨T220, X220, e220, st220⟩ := getF X217 hx hZ hown (host := "") (Or.inl w25) Via.refl e217 F2 (g := (mkF m 45 #[.val (.ref a1), .val (.ref a2), .val (.int (1 : Int32)), .val (.int (3 : Int32))] [(.ref a1), (.int (g 260))])) rfl rfl (hb hby d5_45)
          refine Run.step st220 ?_
          show Run _ _ _ _ (T220.setTop (mkF m 48 #[.val (.ref a1), .val (.ref a2), .val (.int (1 : Int32)), .val (.int (3 : Int32))] [(.ref mg), (.int (g 260))]))
          refine Run.step (fun t_ k_ => XS.iloadN X220.here hx rfl (hb hby d5_48) rfl k_) ?_
          show Run _ _ _ _ (T220.setTop (mkF m 49 #[.val (.ref a1), .val (.ref a2), .val (.int (1 : Int32)), .val (.int (3 : Int32))] [(.int (3 : Int32)), (.ref mg), (.int (g 260))]))
          obtain ⟨cl221, Ar221, q221, S221, M221, H221, U221⟩ := id VM
          have hin222 : ¬ ((3 : Int32) < 0 ∨ cl221.slots.size ≤ ((3 : Int32)).toNatClampNeg) := inb_of S221 ⟨by decide, by decide⟩
          have hat222 : cl221.slots[((3 : Int32)).toNatClampNeg]? = some (.int (97 : Int32)) := H221.at hin222 rfl
          refine Run.step (fun t_ k_ => X220.baloadBytes hx (j := (3 : Int32)) (v := (.int (97 : Int32))) (by rw [e220]; exact Ar221.1) (State.isArrayOf_alike hZ.alike Ar221.2.1) Ar221.2.2 hin222 hat222 (g := (mkF m 49 #[.val (.ref a1), .val (.ref a2), .val (.int (1 : Int32)), .val (.int (3 : Int32))] [(.int (3 : Int32)), (.ref mg), (.int (g 260))])) rfl rfl (hb hby d5_49) _ k_) ?_
          show Run _ _ _ _ (T220.setTop (mkF m 50 #[.val (.ref a1), .val (.ref a2), .val (.int (1 : Int32)), .val (.int (3 : Int32))] [(.int (97 : Int32)), (.int (g 260))]))
          by_cases c50_223 : (g 260) = (97 : Int32)
          · skip
            refine Run.step (fun t_ k_ => XS.icmpNo X220.here hx rfl (hb hby d5_50) rfl (XT.ii_ne_f c50_223) (XS.iconst X220.here hx rfl (hb hby d5_53) (XS.goto X220.here hx rfl (pc0 := 54) (pc' := 58) rfl (hb hby d5_54) (by decide) (by decide) (XS.istoreN X220.here hx rfl (hb hby d5_58) rfl (l' := #[.val (.ref a1), .val (.ref a2), .val (.int (1 : Int32)), .val (.int (3 : Int32))]) rfl (XS.iinc X220.here hx rfl (hb hby d5_59) rfl (l' := #[.val (.ref a1), .val (.ref a2), .val (.int (1 : Int32)), .val (.int (4 : Int32))]) rfl (XS.goto X220.here hx rfl (pc0 := 62) (pc' := 23) rfl (hb hby d5_62) (by decide) (by decide) k_)))))) ?_
            show Run _ _ _ _ (T220.setTop (mkF m 23 #[.val (.ref a1), .val (.ref a2), .val (.int (1 : Int32)), .val (.int (4 : Int32))] []))
            refine Run.step (fun t_ k_ => XS.iloadN X220.here hx rfl (hb hby d5_23) rfl (XS.ifNo X220.here hx rfl (hb hby d5_24) rfl (XT.i0_eq_f (by decide : ¬ ((1 : Int32) = (0 : Int32)))) (XS.iloadN X220.here hx rfl (hb hby d5_27) rfl (XS.aloadN X220.here hx rfl (hb hby d5_28) rfl rfl k_)))) ?_
            show Run _ _ _ _ (T220.setTop (mkF m 29 #[.val (.ref a1), .val (.ref a2), .val (.int (1 : Int32)), .val (.int (4 : Int32))] [(.ref a1), (.int (4 : Int32))]))
            obtain ⟨T224, X224, e224, st224⟩ := getF X220 hx hZ hown (host := "") (Or.inl w25) Via.refl e220 F2 (g := (mkF m 29 #[.val (.ref a1), .val (.ref a2), .val (.int (1 : Int32)), .val (.int (4 : Int32))] [(.ref a1), (.int (4 : Int32))])) rfl rfl (hb hby d5_29)
            refine Run.step st224 ?_
            show Run _ _ _ _ (T224.setTop (mkF m 32 #[.val (.ref a1), .val (.ref a2), .val (.int (1 : Int32)), .val (.int (4 : Int32))] [(.ref mg), (.int (4 : Int32))]))
            obtain ⟨cl225, Ar225, q225, S225, M225, H225, U225⟩ := id VM
            refine Run.step (fun t_ k_ => X224.arraylength hx (by rw [e224]; exact Ar225.1) (State.isArrayOf_alike hZ.alike Ar225.2.1) (g := (mkF m 32 #[.val (.ref a1), .val (.ref a2), .val (.int (1 : Int32)), .val (.int (4 : Int32))] [(.ref mg), (.int (4 : Int32))])) rfl rfl (hb hby d5_32) _ k_) ?_
            rw [len_of S225 M225]
            show Run _ _ _ _ (T224.setTop (mkF m 33 #[.val (.ref a1), .val (.ref a2), .val (.int (1 : Int32)), .val (.int (4 : Int32))] [(.int (5 : Int32)), (.int (4 : Int32))]))
            refine Run.step (fun t_ k_ => XS.icmpNo X224.here hx rfl (hb hby d5_33) rfl (XT.ii_ge_f (by decide : (4 : Int32) < (5 : Int32))) (XS.aloadN X224.here hx rfl (hb hby d5_36) rfl rfl (XS.aloadN X224.here hx rfl (hb hby d5_37) rfl rfl k_))) ?_
            show Run _ _ _ _ (T224.setTop (mkF m 38 #[.val (.ref a1), .val (.ref a2), .val (.int (1 : Int32)), .val (.int (4 : Int32))] [(.ref a1), (.ref a2)]))
            obtain ⟨T226, X226, e226, st226⟩ := getF X224 hx hZ hown (host := "") (Or.inl w23) Via.refl e224 F1 (g := (mkF m 38 #[.val (.ref a1), .val (.ref a2), .val (.int (1 : Int32)), .val (.int (4 : Int32))] [(.ref a1), (.ref a2)])) rfl rfl (hb hby d5_38)
            refine Run.step st226 ?_
            show Run _ _ _ _ (T226.setTop (mkF m 41 #[.val (.ref a1), .val (.ref a2), .val (.int (1 : Int32)), .val (.int (4 : Int32))] [(.int (257 : Int32)), (.ref a2)]))
            refine Run.step (fun t_ k_ => XS.iloadN X226.here hx rfl (hb hby d5_41) rfl (XS.iadd X226.here hx rfl (hb hby d5_42) rfl k_)) ?_
            show Run _ _ _ _ (T226.setTop (mkF m 43 #[.val (.ref a1), .val (.ref a2), .val (.int (1 : Int32)), .val (.int (4 : Int32))] [(.int (261 : Int32)), (.ref a2)]))
            obtain ⟨cl227, Ar227, S227, M227, H227⟩ := id VT
            have hin228 : ¬ ((261 : Int32) < 0 ∨ cl227.slots.size ≤ ((261 : Int32)).toNatClampNeg) := inb_of S227 ⟨by decide, own_in c12 (by decide)⟩
            have hat228 : cl227.slots[((261 : Int32)).toNatClampNeg]? = some (.int (g 261)) := H227 _ (Nat.lt_of_not_le fun q => hin228 (Or.inr q))
            refine Run.step (fun t_ k_ => X226.baloadBytes hx (j := (261 : Int32)) (v := (.int (g 261))) (by rw [e226]; exact Ar227.1) (State.isArrayOf_alike hZ.alike Ar227.2.1) Ar227.2.2 hin228 hat228 (g := (mkF m 43 #[.val (.ref a1), .val (.ref a2), .val (.int (1 : Int32)), .val (.int (4 : Int32))] [(.int (261 : Int32)), (.ref a2)])) rfl rfl (hb hby d5_43) _ (XS.aloadN X226.here hx rfl (hb hby d5_44) rfl rfl k_)) ?_
            show Run _ _ _ _ (T226.setTop (mkF m 45 #[.val (.ref a1), .val (.ref a2), .val (.int (1 : Int32)), .val (.int (4 : Int32))] [(.ref a1), (.int (g 261))]))
            obtain ⟨T229, X229, e229, st229⟩ := getF X226 hx hZ hown (host := "") (Or.inl w25) Via.refl e226 F2 (g := (mkF m 45 #[.val (.ref a1), .val (.ref a2), .val (.int (1 : Int32)), .val (.int (4 : Int32))] [(.ref a1), (.int (g 261))])) rfl rfl (hb hby d5_45)
            refine Run.step st229 ?_
            show Run _ _ _ _ (T229.setTop (mkF m 48 #[.val (.ref a1), .val (.ref a2), .val (.int (1 : Int32)), .val (.int (4 : Int32))] [(.ref mg), (.int (g 261))]))
            refine Run.step (fun t_ k_ => XS.iloadN X229.here hx rfl (hb hby d5_48) rfl k_) ?_
            show Run _ _ _ _ (T229.setTop (mkF m 49 #[.val (.ref a1), .val (.ref a2), .val (.int (1 : Int32)), .val (.int (4 : Int32))] [(.int (4 : Int32)), (.ref mg), (.int (g 261))]))
            obtain ⟨cl230, Ar230, q230, S230, M230, H230, U230⟩ := id VM
            have hin231 : ¬ ((4 : Int32) < 0 ∨ cl230.slots.size ≤ ((4 : Int32)).toNatClampNeg) := inb_of S230 ⟨by decide, by decide⟩
            have hat231 : cl230.slots[((4 : Int32)).toNatClampNeg]? = some (.int (114 : Int32)) := H230.at hin231 rfl
            refine Run.step (fun t_ k_ => X229.baloadBytes hx (j := (4 : Int32)) (v := (.int (114 : Int32))) (by rw [e229]; exact Ar230.1) (State.isArrayOf_alike hZ.alike Ar230.2.1) Ar230.2.2 hin231 hat231 (g := (mkF m 49 #[.val (.ref a1), .val (.ref a2), .val (.int (1 : Int32)), .val (.int (4 : Int32))] [(.int (4 : Int32)), (.ref mg), (.int (g 261))])) rfl rfl (hb hby d5_49) _ k_) ?_
            show Run _ _ _ _ (T229.setTop (mkF m 50 #[.val (.ref a1), .val (.ref a2), .val (.int (1 : Int32)), .val (.int (4 : Int32))] [(.int (114 : Int32)), (.int (g 261))]))
            by_cases c50_232 : (g 261) = (114 : Int32)
            · skip
              refine Run.step (fun t_ k_ => XS.icmpNo X229.here hx rfl (hb hby d5_50) rfl (XT.ii_ne_f c50_232) (XS.iconst X229.here hx rfl (hb hby d5_53) (XS.goto X229.here hx rfl (pc0 := 54) (pc' := 58) rfl (hb hby d5_54) (by decide) (by decide) (XS.istoreN X229.here hx rfl (hb hby d5_58) rfl (l' := #[.val (.ref a1), .val (.ref a2), .val (.int (1 : Int32)), .val (.int (4 : Int32))]) rfl (XS.iinc X229.here hx rfl (hb hby d5_59) rfl (l' := #[.val (.ref a1), .val (.ref a2), .val (.int (1 : Int32)), .val (.int (5 : Int32))]) rfl (XS.goto X229.here hx rfl (pc0 := 62) (pc' := 23) rfl (hb hby d5_62) (by decide) (by decide) k_)))))) ?_
              show Run _ _ _ _ (T229.setTop (mkF m 23 #[.val (.ref a1), .val (.ref a2), .val (.int (1 : Int32)), .val (.int (5 : Int32))] []))
              refine Run.step (fun t_ k_ => XS.iloadN X229.here hx rfl (hb hby d5_23) rfl (XS.ifNo X229.here hx rfl (hb hby d5_24) rfl (XT.i0_eq_f (by decide : ¬ ((1 : Int32) = (0 : Int32)))) (XS.iloadN X229.here hx rfl (hb hby d5_27) rfl (XS.aloadN X229.here hx rfl (hb hby d5_28) rfl rfl k_)))) ?_
              show Run _ _ _ _ (T229.setTop (mkF m 29 #[.val (.ref a1), .val (.ref a2), .val (.int (1 : Int32)), .val (.int (5 : Int32))] [(.ref a1), (.int (5 : Int32))]))
              obtain ⟨T233, X233, e233, st233⟩ := getF X229 hx hZ hown (host := "") (Or.inl w25) Via.refl e229 F2 (g := (mkF m 29 #[.val (.ref a1), .val (.ref a2), .val (.int (1 : Int32)), .val (.int (5 : Int32))] [(.ref a1), (.int (5 : Int32))])) rfl rfl (hb hby d5_29)
              refine Run.step st233 ?_
              show Run _ _ _ _ (T233.setTop (mkF m 32 #[.val (.ref a1), .val (.ref a2), .val (.int (1 : Int32)), .val (.int (5 : Int32))] [(.ref mg), (.int (5 : Int32))]))
              obtain ⟨cl234, Ar234, q234, S234, M234, H234, U234⟩ := id VM
              refine Run.step (fun t_ k_ => X233.arraylength hx (by rw [e233]; exact Ar234.1) (State.isArrayOf_alike hZ.alike Ar234.2.1) (g := (mkF m 32 #[.val (.ref a1), .val (.ref a2), .val (.int (1 : Int32)), .val (.int (5 : Int32))] [(.ref mg), (.int (5 : Int32))])) rfl rfl (hb hby d5_32) _ k_) ?_
              rw [len_of S234 M234]
              show Run _ _ _ _ (T233.setTop (mkF m 33 #[.val (.ref a1), .val (.ref a2), .val (.int (1 : Int32)), .val (.int (5 : Int32))] [(.int (5 : Int32)), (.int (5 : Int32))]))
              refine Run.step (fun t_ k_ => XS.icmpYes X233.here hx rfl (pc0 := 33) (pc' := 65) rfl (hb hby d5_33) rfl (XT.ii_ge_t (by decide : ¬ ((5 : Int32) < (5 : Int32)))) (by decide) (by decide) (XS.iloadN X233.here hx rfl (hb hby d5_65) rfl k_)) ?_
              show Run _ _ _ _ (T233.setTop (mkF m 66 #[.val (.ref a1), .val (.ref a2), .val (.int (1 : Int32)), .val (.int (5 : Int32))] [(.int (1 : Int32))]))
              exact finZ X233 hx (BodyLoose.notSynchronized Bd) Bd.returns (hb hby d5_66) (by decide) (by decide) (by decide) e233 ⟨congrArg (fun z => some (Value.int z)) ((if_neg c12).trans ((if_pos c50).trans ((if_pos c50_205).trans ((if_pos c50_214).trans ((if_pos c50_223).trans (if_pos c50_232)))))).symm, N0, rfl⟩
            · skip
              refine Run.step (fun t_ k_ => XS.icmpYes X229.here hx rfl (pc0 := 50) (pc' := 57) rfl (hb hby d5_50) rfl (XT.ii_ne_t c50_232) (by decide) (by decide) (XS.iconst X229.here hx rfl (hb hby d5_57) (XS.istoreN X229.here hx rfl (hb hby d5_58) rfl (l' := #[.val (.ref a1), .val (.ref a2), .val (.int (0 : Int32)), .val (.int (4 : Int32))]) rfl (XS.iinc X229.here hx rfl (hb hby d5_59) rfl (l' := #[.val (.ref a1), .val (.ref a2), .val (.int (0 : Int32)), .val (.int (5 : Int32))]) rfl (XS.goto X229.here hx rfl (pc0 := 62) (pc' := 23) rfl (hb hby d5_62) (by decide) (by decide) (XS.iloadN X229.here hx rfl (hb hby d5_23) rfl k_)))))) ?_
              show Run _ _ _ _ (T229.setTop (mkF m 24 #[.val (.ref a1), .val (.ref a2), .val (.int (0 : Int32)), .val (.int (5 : Int32))] [(.int (0 : Int32))]))
              refine Run.step (fun t_ k_ => XS.ifYes X229.here hx rfl (pc0 := 24) (pc' := 65) rfl (hb hby d5_24) rfl (XT.i0_eq_t (by decide : (0 : Int32) = (0 : Int32))) (by decide) (by decide) (XS.iloadN X229.here hx rfl (hb hby d5_65) rfl k_)) ?_
              show Run _ _ _ _ (T229.setTop (mkF m 66 #[.val (.ref a1), .val (.ref a2), .val (.int (0 : Int32)), .val (.int (5 : Int32))] [(.int (0 : Int32))]))
              exact finZ X229 hx (BodyLoose.notSynchronized Bd) Bd.returns (hb hby d5_66) (by decide) (by decide) (by decide) e229 ⟨congrArg (fun z => some (Value.int z)) ((if_neg c12).trans ((if_pos c50).trans ((if_pos c50_205).trans ((if_pos c50_214).trans ((if_pos c50_223).trans (if_neg c50_232)))))).symm, N0, rfl⟩
          · skip
            refine Run.step (fun t_ k_ => XS.icmpYes X220.here hx rfl (pc0 := 50) (pc' := 57) rfl (hb hby d5_50) rfl (XT.ii_ne_t c50_223) (by decide) (by decide) (XS.iconst X220.here hx rfl (hb hby d5_57) (XS.istoreN X220.here hx rfl (hb hby d5_58) rfl (l' := #[.val (.ref a1), .val (.ref a2), .val (.int (0 : Int32)), .val (.int (3 : Int32))]) rfl (XS.iinc X220.here hx rfl (hb hby d5_59) rfl (l' := #[.val (.ref a1), .val (.ref a2), .val (.int (0 : Int32)), .val (.int (4 : Int32))]) rfl (XS.goto X220.here hx rfl (pc0 := 62) (pc' := 23) rfl (hb hby d5_62) (by decide) (by decide) (XS.iloadN X220.here hx rfl (hb hby d5_23) rfl k_)))))) ?_
            show Run _ _ _ _ (T220.setTop (mkF m 24 #[.val (.ref a1), .val (.ref a2), .val (.int (0 : Int32)), .val (.int (4 : Int32))] [(.int (0 : Int32))]))
            refine Run.step (fun t_ k_ => XS.ifYes X220.here hx rfl (pc0 := 24) (pc' := 65) rfl (hb hby d5_24) rfl (XT.i0_eq_t (by decide : (0 : Int32) = (0 : Int32))) (by decide) (by decide) (XS.iloadN X220.here hx rfl (hb hby d5_65) rfl k_)) ?_
            show Run _ _ _ _ (T220.setTop (mkF m 66 #[.val (.ref a1), .val (.ref a2), .val (.int (0 : Int32)), .val (.int (4 : Int32))] [(.int (0 : Int32))]))
            exact finZ X220 hx (BodyLoose.notSynchronized Bd) Bd.returns (hb hby d5_66) (by decide) (by decide) (by decide) e220 ⟨congrArg (fun z => some (Value.int z)) ((if_neg c12).trans ((if_pos c50).trans ((if_pos c50_205).trans ((if_pos c50_214).trans (if_neg c50_223))))).symm, N0, rfl⟩
        · skip
          refine Run.step (fun t_ k_ => XS.icmpYes X211.here hx rfl (pc0 := 50) (pc' := 57) rfl (hb hby d5_50) rfl (XT.ii_ne_t c50_214) (by decide) (by decide) (XS.iconst X211.here hx rfl (hb hby d5_57) (XS.istoreN X211.here hx rfl (hb hby d5_58) rfl (l' := #[.val (.ref a1), .val (.ref a2), .val (.int (0 : Int32)), .val (.int (2 : Int32))]) rfl (XS.iinc X211.here hx rfl (hb hby d5_59) rfl (l' := #[.val (.ref a1), .val (.ref a2), .val (.int (0 : Int32)), .val (.int (3 : Int32))]) rfl (XS.goto X211.here hx rfl (pc0 := 62) (pc' := 23) rfl (hb hby d5_62) (by decide) (by decide) (XS.iloadN X211.here hx rfl (hb hby d5_23) rfl k_)))))) ?_
          show Run _ _ _ _ (T211.setTop (mkF m 24 #[.val (.ref a1), .val (.ref a2), .val (.int (0 : Int32)), .val (.int (3 : Int32))] [(.int (0 : Int32))]))
          refine Run.step (fun t_ k_ => XS.ifYes X211.here hx rfl (pc0 := 24) (pc' := 65) rfl (hb hby d5_24) rfl (XT.i0_eq_t (by decide : (0 : Int32) = (0 : Int32))) (by decide) (by decide) (XS.iloadN X211.here hx rfl (hb hby d5_65) rfl k_)) ?_
          show Run _ _ _ _ (T211.setTop (mkF m 66 #[.val (.ref a1), .val (.ref a2), .val (.int (0 : Int32)), .val (.int (3 : Int32))] [(.int (0 : Int32))]))
          exact finZ X211 hx (BodyLoose.notSynchronized Bd) Bd.returns (hb hby d5_66) (by decide) (by decide) (by decide) e211 ⟨congrArg (fun z => some (Value.int z)) ((if_neg c12).trans ((if_pos c50).trans ((if_pos c50_205).trans (if_neg c50_214)))).symm, N0, rfl⟩
      · skip
        refine Run.step (fun t_ k_ => XS.icmpYes X202.here hx rfl (pc0 := 50) (pc' := 57) rfl (hb hby d5_50) rfl (XT.ii_ne_t c50_205) (by decide) (by decide) (XS.iconst X202.here hx rfl (hb hby d5_57) (XS.istoreN X202.here hx rfl (hb hby d5_58) rfl (l' := #[.val (.ref a1), .val (.ref a2), .val (.int (0 : Int32)), .val (.int (1 : Int32))]) rfl (XS.iinc X202.here hx rfl (hb hby d5_59) rfl (l' := #[.val (.ref a1), .val (.ref a2), .val (.int (0 : Int32)), .val (.int (2 : Int32))]) rfl (XS.goto X202.here hx rfl (pc0 := 62) (pc' := 23) rfl (hb hby d5_62) (by decide) (by decide) (XS.iloadN X202.here hx rfl (hb hby d5_23) rfl k_)))))) ?_
        show Run _ _ _ _ (T202.setTop (mkF m 24 #[.val (.ref a1), .val (.ref a2), .val (.int (0 : Int32)), .val (.int (2 : Int32))] [(.int (0 : Int32))]))
        refine Run.step (fun t_ k_ => XS.ifYes X202.here hx rfl (pc0 := 24) (pc' := 65) rfl (hb hby d5_24) rfl (XT.i0_eq_t (by decide : (0 : Int32) = (0 : Int32))) (by decide) (by decide) (XS.iloadN X202.here hx rfl (hb hby d5_65) rfl k_)) ?_
        show Run _ _ _ _ (T202.setTop (mkF m 66 #[.val (.ref a1), .val (.ref a2), .val (.int (0 : Int32)), .val (.int (2 : Int32))] [(.int (0 : Int32))]))
        exact finZ X202 hx (BodyLoose.notSynchronized Bd) Bd.returns (hb hby d5_66) (by decide) (by decide) (by decide) e202 ⟨congrArg (fun z => some (Value.int z)) ((if_neg c12).trans ((if_pos c50).trans (if_neg c50_205))).symm, N0, rfl⟩
    · skip
      refine Run.step (fun t_ k_ => XS.icmpYes X194.here hx rfl (pc0 := 50) (pc' := 57) rfl (hb hby d5_50) rfl (XT.ii_ne_t c50) (by decide) (by decide) (XS.iconst X194.here hx rfl (hb hby d5_57) (XS.istoreN X194.here hx rfl (hb hby d5_58) rfl (l' := #[.val (.ref a1), .val (.ref a2), .val (.int (0 : Int32)), .val (.int (0 : Int32))]) rfl (XS.iinc X194.here hx rfl (hb hby d5_59) rfl (l' := #[.val (.ref a1), .val (.ref a2), .val (.int (0 : Int32)), .val (.int (1 : Int32))]) rfl (XS.goto X194.here hx rfl (pc0 := 62) (pc' := 23) rfl (hb hby d5_62) (by decide) (by decide) (XS.iloadN X194.here hx rfl (hb hby d5_23) rfl k_)))))) ?_
      show Run _ _ _ _ (T194.setTop (mkF m 24 #[.val (.ref a1), .val (.ref a2), .val (.int (0 : Int32)), .val (.int (1 : Int32))] [(.int (0 : Int32))]))
      refine Run.step (fun t_ k_ => XS.ifYes X194.here hx rfl (pc0 := 24) (pc' := 65) rfl (hb hby d5_24) rfl (XT.i0_eq_t (by decide : (0 : Int32) = (0 : Int32))) (by decide) (by decide) (XS.iloadN X194.here hx rfl (hb hby d5_65) rfl k_)) ?_
      show Run _ _ _ _ (T194.setTop (mkF m 66 #[.val (.ref a1), .val (.ref a2), .val (.int (0 : Int32)), .val (.int (1 : Int32))] [(.int (0 : Int32))]))
      exact finZ X194 hx (BodyLoose.notSynchronized Bd) Bd.returns (hb hby d5_66) (by decide) (by decide) (by decide) e194 ⟨congrArg (fun z => some (Value.int z)) ((if_neg c12).trans (if_neg c50)).symm, N0, rfl⟩
theorem pd__28_5bBIB_29V : parseMethodDescriptor "([BIB)V" = some ⟨[(.array .byte), .int, .byte], none⟩ := by decide +kernel
theorem pd__28_5bB_29Z : parseMethodDescriptor "([B)Z" = some ⟨[(.array .byte)], some .boolean⟩ := by decide +kernel
theorem pd__28IIIJ_29Z : parseMethodDescriptor "(IIIJ)Z" = some ⟨[.int, .int, .int, .long], some .boolean⟩ := by decide +kernel
theorem ef_0 (m : MethodId) (x0 : Int32) (x1 : Int32) (x2 : Int64) : entryFrame m #[(.int x0), (.int x1), (.long x2)] maxLocals = mkF m 0 #[.val (.int x0), .val (.int x1), .val (.long x2), .second, .unset, .unset, .unset, .unset, .unset, .unset, .unset, .unset] [] := by first | (simp [entryFrame, mkF, argsToLocals, Value.category, maxLocals]; done) | rfl
def Q0 (Z : State) (p1 : Int32) (p2 : Int32) (p3 : Int64) (o_BZIP2 : Addr) (mg_BZIP2 : Addr) (km_BZIP2 : ClassId) (o_XZ : Addr) (mg_XZ : Addr) (km_XZ : ClassId) (o_ZSTD : Addr) (mg_ZSTD : Addr) (km_ZSTD : ClassId) (o_ZIP : Addr) (mg_ZIP : Addr) (km_ZIP : ClassId) (o_TAR : Addr) (mg_TAR : Addr) (km_TAR : ClassId) (o_GZIP_TAR : Addr) (mg_GZIP_TAR : Addr) (km_GZIP_TAR : ClassId) (h0 : Heap) (n0 : Nat) (v : Option Value) (h : Heap) (L : List Loc) : Prop := v = some (.int 1) ∧ Fr n0 L
set_option maxRecDepth 65536 in
set_option maxHeartbeats 40000000 in
theorem rm0 (l : Launch) (Z : State) (a0 : Array Value) (hw : ∀ d ∈ tables_1, d.before a0 Z = true) (ws : List Jvm.Cond) (p1 : Int32) (p2 : Int32) (p3 : Int64) (o_BZIP2 : Addr) (mg_BZIP2 : Addr) (km_BZIP2 : ClassId) (o_XZ : Addr) (mg_XZ : Addr) (km_XZ : ClassId) (o_ZSTD : Addr) (mg_ZSTD : Addr) (km_ZSTD : ClassId) (o_ZIP : Addr) (mg_ZIP : Addr) (km_ZIP : ClassId) (o_TAR : Addr) (mg_TAR : Addr) (km_TAR : ClassId) (o_GZIP_TAR : Addr) (mg_GZIP_TAR : Addr) (km_GZIP_TAR : ClassId) (h0 : Heap) (n0 : Nat) (Z0 : n0 ≤ h0.size) (O0 : Old Z n0 h0) (S_BZIP2 : Sta Z Z.heap "cleave/io/PackedFormat" "BZIP2" "Lcleave/io/PackedFormat;" (.ref o_BZIP2)) (E_BZIP2 : Exa Z Z.heap o_BZIP2 "cleave/io/PackedFormat$1") (F1_BZIP2 : Fld Z Z.heap o_BZIP2 "cleave/io/PackedFormat" "offset" "I" (.int (0 : Int32))) (F2_BZIP2 : Fld Z Z.heap o_BZIP2 "cleave/io/PackedFormat" "magic" "[B" (.ref mg_BZIP2)) (VM_BZIP2 : Arv Z Z.heap mg_BZIP2 km_BZIP2 .byte (3 : Int32) [(.int (66 : Int32)), (.int (90 : Int32)), (.int (104 : Int32))] (.int (0 : Int32))) (S_XZ : Sta Z Z.heap "cleave/io/PackedFormat" "XZ" "Lcleave/io/PackedFormat;" (.ref o_XZ)) (E_XZ : Exa Z Z.heap o_XZ "cleave/io/PackedFormat") (F1_XZ : Fld Z Z.heap o_XZ "cleave/io/PackedFormat" "offset" "I" (.int (0 : Int32))) (F2_XZ : Fld Z Z.heap o_XZ "cleave/io/PackedFormat" "magic" "[B" (.ref mg_XZ)) (VM_XZ : Arv Z Z.heap mg_XZ km_XZ .byte (6 : Int32) [(.int (-3 : Int32)), (.int (55 : Int32)), (.int (122 : Int32)), (.int (88 : Int32)), (.int (90 : Int32)), (.int (0 : Int32))] (.int (0 : Int32))) (S_ZSTD : Sta Z Z.heap "cleave/io/PackedFormat" "ZSTD" "Lcleave/io/PackedFormat;" (.ref o_ZSTD)) (E_ZSTD : Exa Z Z.heap o_ZSTD "cleave/io/PackedFormat") (F1_ZSTD : Fld Z Z.heap o_ZSTD "cleave/io/PackedFormat" "offset" "I" (.int (0 : Int32))) (F2_ZSTD : Fld Z Z.heap o_ZSTD "cleave/io/PackedFormat" "magic" "[B" (.ref mg_ZSTD)) (VM_ZSTD : Arv Z Z.heap mg_ZSTD km_ZSTD .byte (4 : Int32) [(.int (40 : Int32)), (.int (-75 : Int32)), (.int (47 : Int32)), (.int (-3 : Int32))] (.int (0 : Int32))) (S_ZIP : Sta Z Z.heap "cleave/io/PackedFormat" "ZIP" "Lcleave/io/PackedFormat;" (.ref o_ZIP)) (E_ZIP : Exa Z Z.heap o_ZIP "cleave/io/PackedFormat") (F1_ZIP : Fld Z Z.heap o_ZIP "cleave/io/PackedFormat" "offset" "I" (.int (0 : Int32))) (F2_ZIP : Fld Z Z.heap o_ZIP "cleave/io/PackedFormat" "magic" "[B" (.ref mg_ZIP)) (VM_ZIP : Arv Z Z.heap mg_ZIP km_ZIP .byte (4 : Int32) [(.int (80 : Int32)), (.int (75 : Int32)), (.int (3 : Int32)), (.int (4 : Int32))] (.int (0 : Int32))) (S_TAR : Sta Z Z.heap "cleave/io/PackedFormat" "TAR" "Lcleave/io/PackedFormat;" (.ref o_TAR)) (E_TAR : Exa Z Z.heap o_TAR "cleave/io/PackedFormat$2") (F1_TAR : Fld Z Z.heap o_TAR "cleave/io/PackedFormat" "offset" "I" (.int (257 : Int32))) (F2_TAR : Fld Z Z.heap o_TAR "cleave/io/PackedFormat" "magic" "[B" (.ref mg_TAR)) (VM_TAR : Arv Z Z.heap mg_TAR km_TAR .byte (5 : Int32) [(.int (117 : Int32)), (.int (115 : Int32)), (.int (116 : Int32)), (.int (97 : Int32)), (.int (114 : Int32))] (.int (0 : Int32))) (S_GZIP_TAR : Sta Z Z.heap "cleave/io/PackedFormat" "GZIP_TAR" "Lcleave/io/PackedFormat;" (.ref o_GZIP_TAR)) (E_GZIP_TAR : Exa Z Z.heap o_GZIP_TAR "cleave/io/PackedFormat$3") (F1_GZIP_TAR : Fld Z Z.heap o_GZIP_TAR "cleave/io/PackedFormat" "offset" "I" (.int (257 : Int32))) (F2_GZIP_TAR : Fld Z Z.heap o_GZIP_TAR "cleave/io/PackedFormat" "magic" "[B" (.ref mg_GZIP_TAR)) (VM_GZIP_TAR : Arv Z Z.heap mg_GZIP_TAR km_GZIP_TAR .byte (5 : Int32) [(.int (117 : Int32)), (.int (115 : Int32)), (.int (116 : Int32)), (.int (97 : Int32)), (.int (114 : Int32))] (.int (0 : Int32))) :
    MetFree l x (head1 (Jvm.Cond.code x code maxLocals ret :: ws) room_1) (fun a U => a = #[(.int p1), (.int p2), (.long p3)] ∧ Z.Warmed39 U.vm ∧ U.heap = h0) (fun _ _ _ _ _ => True) (fun _ U o U' => ∃ v L, o = .returned v ∧ Q0 Z p1 p2 p3 o_BZIP2 mg_BZIP2 km_BZIP2 o_XZ mg_XZ km_XZ o_ZSTD mg_ZSTD km_ZSTD o_ZIP mg_ZIP km_ZIP o_TAR mg_TAR km_TAR o_GZIP_TAR mg_GZIP_TAR km_GZIP_TAR h0 n0 v U'.heap L ∧ FrameEnd U o U' L 16 640) := by
  refine MetFree.of_bodySF (plainFor_of_name pn_cleave_io_PackedFormatHoldsMagicPinLaw) hisR ?_
  intro p e s m args below meth c s₁ Bd hml0 hP hK
  obtain ⟨rfl, hZ, hh⟩ := hP
  have hx := Bd.exec
  have hby := Bd.bytes
  have w0 := hw _ (List.mem_of_getElem? (i := 0) rfl)
  have w1 := hw _ (List.mem_of_getElem? (i := 1) rfl)
  have w2 := hw _ (List.mem_of_getElem? (i := 2) rfl)
  have w4 := hw _ (List.mem_of_getElem? (i := 4) rfl)
  have w5 := hw _ (List.mem_of_getElem? (i := 5) rfl)
  have w6 := hw _ (List.mem_of_getElem? (i := 6) rfl)
  have w7 := hw _ (List.mem_of_getElem? (i := 7) rfl)
  have w8 := hw _ (List.mem_of_getElem? (i := 8) rfl)
  have w9 := hw _ (List.mem_of_getElem? (i := 9) rfl)
  have w10 := hw _ (List.mem_of_getElem? (i := 10) rfl)
  have w11 := hw _ (List.mem_of_getElem? (i := 11) rfl)
  have w12 := hw _ (List.mem_of_getElem? (i := 12) rfl)
  have w13 := hw _ (List.mem_of_getElem? (i := 13) rfl)
  have w14 := hw _ (List.mem_of_getElem? (i := 14) rfl)
  have w18 := hw _ (List.mem_of_getElem? (i := 18) rfl)
  have w19 := hw _ (List.mem_of_getElem? (i := 19) rfl)
  have w20 := hw _ (List.mem_of_getElem? (i := 20) rfl)
  have w21 := hw _ (List.mem_of_getElem? (i := 21) rfl)
  have w22 := hw _ (List.mem_of_getElem? (i := 22) rfl)
  have w27 := hw _ (List.mem_of_getElem? (i := 27) rfl)
  have w29 := hw _ (List.mem_of_getElem? (i := 29) rfl)
  have w32 := hw _ (List.mem_of_getElem? (i := 32) rfl)
  have w34 := hw _ (List.mem_of_getElem? (i := 34) rfl)
  have w37 := hw _ (List.mem_of_getElem? (i := 37) rfl)
  have w39 := hw _ (List.mem_of_getElem? (i := 39) rfl)
  have w42 := hw _ (List.mem_of_getElem? (i := 42) rfl)
  have w44 := hw _ (List.mem_of_getElem? (i := 44) rfl)
  have hml : c.maxLocals = 12 := hml0
  have hown : s.vm.findClass "cleave/io/PackedFormatHoldsMagicPinLaw" = some m.cls := findClass_of_methodNamed Bd.named
  have hnm := (name_of_methodNamed Bd.named Bd.method).1
  have X0 : Stand p l e room_1 s m #[(.int p1), (.int p2), (.long p3)] below meth c s₁ [] 0 0 := Stand.of_body Bd
  have e0 : s₁.heap = h0 := by rw [← hh, Bd.state]; rfl
  have N0 := Fr.nil n0
  show Run p.tables e below (PQ s below 16 640 (Q0 Z p1 p2 p3 o_BZIP2 mg_BZIP2 km_BZIP2 o_XZ mg_XZ km_XZ o_ZSTD mg_ZSTD km_ZSTD o_ZIP mg_ZIP km_ZIP o_TAR mg_TAR km_TAR o_GZIP_TAR mg_GZIP_TAR km_GZIP_TAR h0 n0)) (s₁.setTop (entryFrame m #[(.int p1), (.int p2), (.long p3)] maxLocals))
  refine Run.step (fun t k => castTop (ef_0 m p1 p2 p3) k) ?_
  show Run _ _ _ _ (s₁.setTop (mkF m 0 #[.val (.int p1), .val (.int p2), .val (.long p3), .second, .unset, .unset, .unset, .unset, .unset, .unset, .unset, .unset] []))
  refine Run.step (fun t_ k_ => XS.iloadN X0.here hx rfl (hb hby at_0) rfl (X0.ldcInt hx hown (mvT hZ w0) (g := (mkF m 1 #[.val (.int p1), .val (.int p2), .val (.long p3), .second, .unset, .unset, .unset, .unset, .unset, .unset, .unset, .unset] [(.int p1)])) rfl (hb hby at_1) _ (XS.iand X0.here hx rfl (hb hby at_3) rfl (XS.bipush X0.here hx rfl (hb hby at_4) (iremM X0 hx rfl (hb hby at_6) rfl (by decide) (XS.istore X0.here hx rfl (hb hby at_7) rfl (l' := #[.val (.int p1), .val (.int p2), .val (.long p3), .second, .val (.int ((p1 &&& (2147483647 : Int32)) % (6 : Int32))), .unset, .unset, .unset, .unset, .unset, .unset, .unset]) rfl k_)))))) ?_
  show Run _ _ _ _ (s₁.setTop (mkF m 9 #[.val (.int p1), .val (.int p2), .val (.long p3), .second, .val (.int ((p1 &&& (2147483647 : Int32)) % (6 : Int32))), .unset, .unset, .unset, .unset, .unset, .unset, .unset] []))
  rcases own_six p1 with hk | hk | hk | hk | hk | hk
  · rw [hk]
    show Run _ _ _ _ (s₁.setTop (mkF m 9 #[.val (.int p1), .val (.int p2), .val (.long p3), .second, .val (.int (0 : Int32)), .unset, .unset, .unset, .unset, .unset, .unset, .unset] []))
    refine Run.step (fun t_ k_ => XS.iload X0.here hx rfl (hb hby at_9) rfl (XS.ifNo X0.here hx rfl (hb hby at_11) rfl (XT.i0_ne_f (by decide : (0 : Int32) = (0 : Int32))) k_)) ?_
    show Run _ _ _ _ (s₁.setTop (mkF m 14 #[.val (.int p1), .val (.int p2), .val (.long p3), .second, .val (.int (0 : Int32)), .unset, .unset, .unset, .unset, .unset, .unset, .unset] []))
    obtain ⟨T235, X235, e235, st235⟩ := getS2 X0 hx hZ hown (host := "") (Or.inl w1) Via.refl e0 (S_BZIP2.ext O0.2) (g := (mkF m 14 #[.val (.int p1), .val (.int p2), .val (.long p3), .second, .val (.int (0 : Int32)), .unset, .unset, .unset, .unset, .unset, .unset, .unset] [])) rfl (hb hby at_14)
    refine Run.step st235 ?_
    show Run _ _ _ _ (T235.setTop (mkF m 17 #[.val (.int p1), .val (.int p2), .val (.long p3), .second, .val (.int (0 : Int32)), .unset, .unset, .unset, .unset, .unset, .unset, .unset] [(.ref o_BZIP2)]))
    refine Run.step (fun t_ k_ => XS.astore X235.here hx rfl (hb hby at_17) rfl rfl (l' := #[.val (.int p1), .val (.int p2), .val (.long p3), .second, .val (.int (0 : Int32)), .val (.ref o_BZIP2), .unset, .unset, .unset, .unset, .unset, .unset]) rfl (XS.goto X235.here hx rfl (pc0 := 19) (pc' := 83) rfl (hb hby at_19) (by decide) (by decide) (XS.iload X235.here hx rfl (hb hby at_83) rfl (XS.iconst X235.here hx rfl (hb hby at_85) (XS.icmpYes X235.here hx rfl (pc0 := 86) (pc' := 95) rfl (hb hby at_86) rfl (XT.ii_lt_t (by decide : (0 : Int32) < (4 : Int32))) (by decide) (by decide) (XS.iconst X235.here hx rfl (hb hby at_95) k_)))))) ?_
    show Run _ _ _ _ (T235.setTop (mkF m 96 #[.val (.int p1), .val (.int p2), .val (.long p3), .second, .val (.int (0 : Int32)), .val (.ref o_BZIP2), .unset, .unset, .unset, .unset, .unset, .unset] [(.int (0 : Int32))]))
    refine Run.step (fun t_ k_ => XS.istore X235.here hx rfl (hb hby at_96) rfl (l' := #[.val (.int p1), .val (.int p2), .val (.long p3), .second, .val (.int (0 : Int32)), .val (.ref o_BZIP2), .val (.int (0 : Int32)), .unset, .unset, .unset, .unset, .unset]) rfl (XS.iload X235.here hx rfl (hb hby at_98) rfl (XS.ifNo X235.here hx rfl (hb hby at_100) rfl (XT.i0_ne_f (by decide : (0 : Int32) = (0 : Int32))) (XS.iconst X235.here hx rfl (hb hby at_103) (XS.istore X235.here hx rfl (hb hby at_104) rfl (l' := #[.val (.int p1), .val (.int p2), .val (.long p3), .second, .val (.int (0 : Int32)), .val (.ref o_BZIP2), .val (.int (0 : Int32)), .val (.int (3 : Int32)), .unset, .unset, .unset, .unset]) rfl (XS.goto X235.here hx rfl (pc0 := 106) (pc' := 137) rfl (hb hby at_106) (by decide) (by decide) k_)))))) ?_
    show Run _ _ _ _ (T235.setTop (mkF m 137 #[.val (.int p1), .val (.int p2), .val (.long p3), .second, .val (.int (0 : Int32)), .val (.ref o_BZIP2), .val (.int (0 : Int32)), .val (.int (3 : Int32)), .unset, .unset, .unset, .unset] []))
    refine Run.step (fun t_ k_ => XS.iload X235.here hx rfl (hb hby at_137) rfl (XS.iloadN X235.here hx rfl (hb hby at_139) rfl (XS.bipush X235.here hx rfl (hb hby at_140) (XS.iand X235.here hx rfl (hb hby at_142) rfl (XS.iadd X235.here hx rfl (hb hby at_143) rfl (XS.istore X235.here hx rfl (hb hby at_144) rfl (l' := #[.val (.int p1), .val (.int p2), .val (.long p3), .second, .val (.int (0 : Int32)), .val (.ref o_BZIP2), .val (.int (0 : Int32)), .val (.int (3 : Int32)), .val (.int ((0 : Int32) + (p2 &&& (7 : Int32)))), .unset, .unset, .unset]) rfl k_)))))) ?_
    show Run _ _ _ _ (T235.setTop (mkF m 146 #[.val (.int p1), .val (.int p2), .val (.long p3), .second, .val (.int (0 : Int32)), .val (.ref o_BZIP2), .val (.int (0 : Int32)), .val (.int (3 : Int32)), .val (.int ((0 : Int32) + (p2 &&& (7 : Int32)))), .unset, .unset, .unset] []))
    refine Run.step (fun t_ k_ => XS.iloadN X235.here hx rfl (hb hby at_146) rfl (XS.iconst X235.here hx rfl (hb hby at_147) (XS.iushr X235.here hx rfl (hb hby at_148) rfl (XS.bipush X235.here hx rfl (hb hby at_149) (XS.iand X235.here hx rfl (hb hby at_151) rfl (XS.istore X235.here hx rfl (hb hby at_152) rfl (l' := #[.val (.int p1), .val (.int p2), .val (.long p3), .second, .val (.int (0 : Int32)), .val (.ref o_BZIP2), .val (.int (0 : Int32)), .val (.int (3 : Int32)), .val (.int ((0 : Int32) + (p2 &&& (7 : Int32)))), .val (.int (((p2.toUInt32 >>> ((3 : Int32) &&& 31).toUInt32).toInt32) &&& (63 : Int32))), .unset, .unset]) rfl k_)))))) ?_
    show Run _ _ _ _ (T235.setTop (mkF m 154 #[.val (.int p1), .val (.int p2), .val (.long p3), .second, .val (.int (0 : Int32)), .val (.ref o_BZIP2), .val (.int (0 : Int32)), .val (.int (3 : Int32)), .val (.int ((0 : Int32) + (p2 &&& (7 : Int32)))), .val (.int (((p2.toUInt32 >>> ((3 : Int32) &&& 31).toUInt32).toInt32) &&& (63 : Int32))), .unset, .unset] []))
    obtain ⟨nn, hnn⟩ : ∃ z, z = ((0 : Int32) + (p2 &&& (7 : Int32))) := ⟨_, rfl⟩
    rw [← hnn]
    have nn0 : ¬ nn < 0 := by rw [hnn]; exact (own_n0 p2).1
    have nn1 : nn.toNatClampNeg ≤ 7 := by rw [hnn]; exact (own_n0 p2).2
    obtain ⟨sl, hsl⟩ : ∃ z, z = (((p2.toUInt32 >>> ((3 : Int32) &&& 31).toUInt32).toInt32) &&& (63 : Int32)) := ⟨_, rfl⟩
    rw [← hsl]
    show Run _ _ _ _ (T235.setTop (mkF m 154 #[.val (.int p1), .val (.int p2), .val (.long p3), .second, .val (.int (0 : Int32)), .val (.ref o_BZIP2), .val (.int (0 : Int32)), .val (.int (3 : Int32)), .val (.int nn), .val (.int sl), .unset, .unset] []))
    refine Run.step (fun t_ k_ => XS.iload X235.here hx rfl (hb hby at_154) rfl k_) ?_
    show Run _ _ _ _ (T235.setTop (mkF m 156 #[.val (.int p1), .val (.int p2), .val (.long p3), .second, .val (.int (0 : Int32)), .val (.ref o_BZIP2), .val (.int (0 : Int32)), .val (.int (3 : Int32)), .val (.int nn), .val (.int sl), .unset, .unset] [(.int nn)]))
    obtain ⟨T236, h236, k236, X236, e236, E236, A236, st236⟩ := newP (aty := .byte) X235 hx hZ w4 e235 (g := (mkF m 156 #[.val (.int p1), .val (.int p2), .val (.long p3), .second, .val (.int (0 : Int32)), .val (.ref o_BZIP2), .val (.int (0 : Int32)), .val (.int (3 : Int32)), .val (.int nn), .val (.int sl), .unset, .unset] [(.int nn)])) rfl (hb hby at_156) rfl nn0 (cap := 7) nn1 (by decide) (by decide) (by decide)
    obtain ⟨b236, g236⟩ : ∃ z, z = h0.size := ⟨_, rfl⟩
    rw [← g236] at A236 st236
    refine Run.step st236 ?_
    have g_b236 : n0 ≤ b236 := Nat.le_trans Z0 (Nat.le_of_eq g236.symm)
    have z237 := Nat.le_trans Z0 E236.1
    have O238 := O0.ext E236
    have f239 : Arv Z h236 b236 k236 .byte nn [] (.int (0 : Int32)) := Arv.pad (Arv.new A236 nn0) (pad_rep [] (.int (0 : Int32)) 0)
    show Run _ _ _ _ (T236.setTop (mkF m 158 #[.val (.int p1), .val (.int p2), .val (.long p3), .second, .val (.int (0 : Int32)), .val (.ref o_BZIP2), .val (.int (0 : Int32)), .val (.int (3 : Int32)), .val (.int nn), .val (.int sl), .unset, .unset] [(.ref b236)]))
    refine Run.step (fun t_ k_ => XS.astore X236.here hx rfl (hb hby at_158) rfl rfl (l' := #[.val (.int p1), .val (.int p2), .val (.long p3), .second, .val (.int (0 : Int32)), .val (.ref o_BZIP2), .val (.int (0 : Int32)), .val (.int (3 : Int32)), .val (.int nn), .val (.int sl), .val (.ref b236), .unset]) rfl k_) ?_
    show Run _ _ _ _ (T236.setTop (mkF m 160 #[.val (.int p1), .val (.int p2), .val (.long p3), .second, .val (.int (0 : Int32)), .val (.ref o_BZIP2), .val (.int (0 : Int32)), .val (.int (3 : Int32)), .val (.int nn), .val (.int sl), .val (.ref b236), .unset] []))
    have fB := Bv.new f239
    refine Run.step (fun t_ k_ => XS.aload X236.here hx rfl (hb hby at_160) rfl rfl (XS.iload X236.here hx rfl (hb hby at_162) rfl (XS.iload X236.here hx rfl (hb hby at_164) rfl (XS.iconst X236.here hx rfl (hb hby at_166) (XS.iload X236.here hx rfl (hb hby at_167) rfl (XS.lloadN X236.here hx rfl (hb hby at_169) rfl k_)))))) ?_
    show Run _ _ _ _ (T236.setTop (mkF m 170 #[.val (.int p1), .val (.int p2), .val (.long p3), .second, .val (.int (0 : Int32)), .val (.ref o_BZIP2), .val (.int (0 : Int32)), .val (.int (3 : Int32)), .val (.int nn), .val (.int sl), .val (.ref b236), .unset] [(.long p3), (.int sl), (.int (0 : Int32)), (.int (0 : Int32)), (.int (0 : Int32)), (.ref b236)]))
    obtain ⟨_, _, ⟨T240, L240, k240, n240⟩, -, X240, ⟨Lc240, hQ240, l240, y240, z240⟩, st240⟩ := Jvm.LawKit.callS X236 hx (y := (⟨"cleave/io/PackedFormatHoldsMagicPinLaw", "pick", "(IIIJ)B"⟩ : MethodName)) hown (mvT hZ w5) (mvT hZ w6) (mvT hZ w7) (mvT hZ w8) (by decide) (backOf (W := 2) (rm1 l Z a0 hw [] (0 : Int32) (0 : Int32) sl p3 h236 n0 z237) hZ w8 w7 (by decide) (by decide)) (g := (mkF m 170 #[.val (.int p1), .val (.int p2), .val (.long p3), .second, .val (.int (0 : Int32)), .val (.ref o_BZIP2), .val (.int (0 : Int32)), .val (.int (3 : Int32)), .val (.int nn), .val (.int sl), .val (.ref b236), .unset] [(.long p3), (.int sl), (.int (0 : Int32)), (.int (0 : Int32)), (.int (0 : Int32)), (.ref b236)])) rfl (by rw [hml]; rfl) (argsL := [(.int (0 : Int32)), (.int (0 : Int32)), (.int sl), (.long p3)]) (rest := [(.int (0 : Int32)), (.ref b236)]) (lenOf pd__28IIIJ_29B rfl) rfl (by show 2 * 0 + _ ≤ _; exact Nat.le_of_eq rfl) (hb hby at_170) (fun _ _ => ⟨rfl, e236, (by decide : 1 + 0 ≤ _), (by decide : 7 + 0 ≤ _)⟩)
    dsimp only [Pt.U, Pt.locs, Pt.cells, Pt.slots] at X240 l240 y240 z240 st240 hQ240
    subst l240 y240 z240
    refine Run.step (st240) ?_
    obtain ⟨rfl, N240q, e240q⟩ := hQ240
    have N240 := Fr.app N0 N240q
    show Run _ _ _ _ (T240.setTop (mkF m 173 #[.val (.int p1), .val (.int p2), .val (.long p3), .second, .val (.int (0 : Int32)), .val (.ref o_BZIP2), .val (.int (0 : Int32)), .val (.int (3 : Int32)), .val (.int nn), .val (.int sl), .val (.ref b236), .unset] [(.int (own_pick (0 : Int32) (0 : Int32) sl p3)), (.int (0 : Int32)), (.ref b236)]))
    obtain ⟨b0, hb0⟩ : ∃ z, z = (own_pick (0 : Int32) (0 : Int32) sl p3) := ⟨_, rfl⟩
    rw [← hb0]
    have nb0 : nar .byte b0 = b0 := by rw [hb0]; exact own_pickb _ _ _ _
    show Run _ _ _ _ (T240.setTop (mkF m 173 #[.val (.int p1), .val (.int p2), .val (.long p3), .second, .val (.int (0 : Int32)), .val (.ref o_BZIP2), .val (.int (0 : Int32)), .val (.int (3 : Int32)), .val (.int nn), .val (.int sl), .val (.ref b236), .unset] [(.int b0), (.int (0 : Int32)), (.ref b236)]))
    obtain ⟨_, _, ⟨T241, L241, k241, n241⟩, -, X241, ⟨Lc241, hQ241, l241, y241, z241⟩, st241⟩ := Jvm.LawKit.callS X240 hx (y := (⟨"cleave/io/PackedFormatHoldsMagicPinLaw", "put", "([BIB)V"⟩ : MethodName)) hown (mvT hZ w9) (mvT hZ w10) (mvT hZ w7) (mvT hZ w11) (by decide) (backOf (W := 0) (rm2 l Z a0 hw [] b236 (0 : Int32) b0 nn (fun _ => 0) h236 n0 z237 fB (by decide) nb0 g_b236) hZ w11 w7 (by decide) (by decide)) (g := (mkF m 173 #[.val (.int p1), .val (.int p2), .val (.long p3), .second, .val (.int (0 : Int32)), .val (.ref o_BZIP2), .val (.int (0 : Int32)), .val (.int (3 : Int32)), .val (.int nn), .val (.int sl), .val (.ref b236), .unset] [(.int b0), (.int (0 : Int32)), (.ref b236)])) rfl (by rw [hml]; rfl) (argsL := [(.ref b236), (.int (0 : Int32)), (.int b0)]) (rest := []) (lenOf pd__28_5bBIB_29V rfl) rfl (by show 2 * 0 + _ ≤ _; exact Nat.le_of_eq rfl) (hb hby at_173) (fun _ _ => ⟨rfl, e240q, (by decide : 1 + 0 ≤ _), (by decide : 7 + 0 ≤ _)⟩)
    dsimp only [Pt.U, Pt.locs, Pt.cells, Pt.slots] at X241 l241 y241 z241 st241 hQ241
    subst l241 y241 z241
    refine Run.step (st241) ?_
    obtain ⟨rfl, N241q, K241q, fv241⟩ := hQ241
    have N241 := Fr.app N240 N241q
    have z243 := Nat.le_trans z237 K241q.1
    have O244 := O238.keep K241q (allS g_b236 all0)
    obtain ⟨gg241, hg241⟩ : ∃ z, z = own_up (fun _ => 0) (0 : Int32).toNatClampNeg b0 := ⟨_, rfl⟩
    rw [← hg241] at fv241
    show Run _ _ _ _ (T241.setTop (mkF m 176 #[.val (.int p1), .val (.int p2), .val (.long p3), .second, .val (.int (0 : Int32)), .val (.ref o_BZIP2), .val (.int (0 : Int32)), .val (.int (3 : Int32)), .val (.int nn), .val (.int sl), .val (.ref b236), .unset] []))
    refine Run.step (fun t_ k_ => XS.aload X241.here hx rfl (hb hby at_176) rfl rfl (XS.iload X241.here hx rfl (hb hby at_178) rfl (XS.iconst X241.here hx rfl (hb hby at_180) (XS.iadd X241.here hx rfl (hb hby at_181) rfl (XS.iload X241.here hx rfl (hb hby at_182) rfl (XS.iconst X241.here hx rfl (hb hby at_184) k_)))))) ?_
    show Run _ _ _ _ (T241.setTop (mkF m 185 #[.val (.int p1), .val (.int p2), .val (.long p3), .second, .val (.int (0 : Int32)), .val (.ref o_BZIP2), .val (.int (0 : Int32)), .val (.int (3 : Int32)), .val (.int nn), .val (.int sl), .val (.ref b236), .unset] [(.int (1 : Int32)), (.int (0 : Int32)), (.int (1 : Int32)), (.ref b236)]))
    refine Run.step (fun t_ k_ => XS.iload X241.here hx rfl (hb hby at_185) rfl (XS.lloadN X241.here hx rfl (hb hby at_187) rfl k_)) ?_
    show Run _ _ _ _ (T241.setTop (mkF m 188 #[.val (.int p1), .val (.int p2), .val (.long p3), .second, .val (.int (0 : Int32)), .val (.ref o_BZIP2), .val (.int (0 : Int32)), .val (.int (3 : Int32)), .val (.int nn), .val (.int sl), .val (.ref b236), .unset] [(.long p3), (.int sl), (.int (1 : Int32)), (.int (0 : Int32)), (.int (1 : Int32)), (.ref b236)]))
    obtain ⟨_, _, ⟨T245, L245, k245, n245⟩, -, X245, ⟨Lc245, hQ245, l245, y245, z245⟩, st245⟩ := Jvm.LawKit.callS X241 hx (y := (⟨"cleave/io/PackedFormatHoldsMagicPinLaw", "pick", "(IIIJ)B"⟩ : MethodName)) hown (mvT hZ w5) (mvT hZ w6) (mvT hZ w7) (mvT hZ w8) (by decide) (backOf (W := 2) (rm1 l Z a0 hw [] (0 : Int32) (1 : Int32) sl p3 T241.heap n0 z243) hZ w8 w7 (by decide) (by decide)) (g := (mkF m 188 #[.val (.int p1), .val (.int p2), .val (.long p3), .second, .val (.int (0 : Int32)), .val (.ref o_BZIP2), .val (.int (0 : Int32)), .val (.int (3 : Int32)), .val (.int nn), .val (.int sl), .val (.ref b236), .unset] [(.long p3), (.int sl), (.int (1 : Int32)), (.int (0 : Int32)), (.int (1 : Int32)), (.ref b236)])) rfl (by rw [hml]; rfl) (argsL := [(.int (0 : Int32)), (.int (1 : Int32)), (.int sl), (.long p3)]) (rest := [(.int (1 : Int32)), (.ref b236)]) (lenOf pd__28IIIJ_29B rfl) rfl (by show 2 * 0 + _ ≤ _; exact Nat.le_of_eq rfl) (hb hby at_188) (fun _ _ => ⟨rfl, rfl, (by decide : 1 + 0 ≤ _), (by decide : 7 + 0 ≤ _)⟩)
    dsimp only [Pt.U, Pt.locs, Pt.cells, Pt.slots] at X245 l245 y245 z245 st245 hQ245
    subst l245 y245 z245
    refine Run.step (st245) ?_
    obtain ⟨rfl, N245q, e245q⟩ := hQ245
    have N245 := Fr.app N241 N245q
    show Run _ _ _ _ (T245.setTop (mkF m 191 #[.val (.int p1), .val (.int p2), .val (.long p3), .second, .val (.int (0 : Int32)), .val (.ref o_BZIP2), .val (.int (0 : Int32)), .val (.int (3 : Int32)), .val (.int nn), .val (.int sl), .val (.ref b236), .unset] [(.int (own_pick (0 : Int32) (1 : Int32) sl p3)), (.int (1 : Int32)), (.ref b236)]))
    obtain ⟨b1, hb1⟩ : ∃ z, z = (own_pick (0 : Int32) (1 : Int32) sl p3) := ⟨_, rfl⟩
    rw [← hb1]
    have nb1 : nar .byte b1 = b1 := by rw [hb1]; exact own_pickb _ _ _ _
    show Run _ _ _ _ (T245.setTop (mkF m 191 #[.val (.int p1), .val (.int p2), .val (.long p3), .second, .val (.int (0 : Int32)), .val (.ref o_BZIP2), .val (.int (0 : Int32)), .val (.int (3 : Int32)), .val (.int nn), .val (.int sl), .val (.ref b236), .unset] [(.int b1), (.int (1 : Int32)), (.ref b236)]))
    obtain ⟨_, _, ⟨T246, L246, k246, n246⟩, -, X246, ⟨Lc246, hQ246, l246, y246, z246⟩, st246⟩ := Jvm.LawKit.callS X245 hx (y := (⟨"cleave/io/PackedFormatHoldsMagicPinLaw", "put", "([BIB)V"⟩ : MethodName)) hown (mvT hZ w9) (mvT hZ w10) (mvT hZ w7) (mvT hZ w11) (by decide) (backOf (W := 0) (rm2 l Z a0 hw [] b236 (1 : Int32) b1 nn gg241 T241.heap n0 z243 fv241 (by decide) nb1 g_b236) hZ w11 w7 (by decide) (by decide)) (g := (mkF m 191 #[.val (.int p1), .val (.int p2), .val (.long p3), .second, .val (.int (0 : Int32)), .val (.ref o_BZIP2), .val (.int (0 : Int32)), .val (.int (3 : Int32)), .val (.int nn), .val (.int sl), .val (.ref b236), .unset] [(.int b1), (.int (1 : Int32)), (.ref b236)])) rfl (by rw [hml]; rfl) (argsL := [(.ref b236), (.int (1 : Int32)), (.int b1)]) (rest := []) (lenOf pd__28_5bBIB_29V rfl) rfl (by show 2 * 0 + _ ≤ _; exact Nat.le_of_eq rfl) (hb hby at_191) (fun _ _ => ⟨rfl, e245q, (by decide : 1 + 0 ≤ _), (by decide : 7 + 0 ≤ _)⟩)
    dsimp only [Pt.U, Pt.locs, Pt.cells, Pt.slots] at X246 l246 y246 z246 st246 hQ246
    subst l246 y246 z246
    refine Run.step (st246) ?_
    obtain ⟨rfl, N246q, K246q, fv246⟩ := hQ246
    have N246 := Fr.app N245 N246q
    have z248 := Nat.le_trans z243 K246q.1
    have O249 := O244.keep K246q (allS g_b236 all0)
    obtain ⟨gg246, hg246⟩ : ∃ z, z = own_up gg241 (1 : Int32).toNatClampNeg b1 := ⟨_, rfl⟩
    rw [← hg246] at fv246
    show Run _ _ _ _ (T246.setTop (mkF m 194 #[.val (.int p1), .val (.int p2), .val (.long p3), .second, .val (.int (0 : Int32)), .val (.ref o_BZIP2), .val (.int (0 : Int32)), .val (.int (3 : Int32)), .val (.int nn), .val (.int sl), .val (.ref b236), .unset] []))
    refine Run.step (fun t_ k_ => XS.aload X246.here hx rfl (hb hby at_194) rfl rfl (XS.iload X246.here hx rfl (hb hby at_196) rfl (XS.iconst X246.here hx rfl (hb hby at_198) (XS.iadd X246.here hx rfl (hb hby at_199) rfl (XS.iload X246.here hx rfl (hb hby at_200) rfl (XS.iconst X246.here hx rfl (hb hby at_202) k_)))))) ?_
    show Run _ _ _ _ (T246.setTop (mkF m 203 #[.val (.int p1), .val (.int p2), .val (.long p3), .second, .val (.int (0 : Int32)), .val (.ref o_BZIP2), .val (.int (0 : Int32)), .val (.int (3 : Int32)), .val (.int nn), .val (.int sl), .val (.ref b236), .unset] [(.int (2 : Int32)), (.int (0 : Int32)), (.int (2 : Int32)), (.ref b236)]))
    refine Run.step (fun t_ k_ => XS.iload X246.here hx rfl (hb hby at_203) rfl (XS.lloadN X246.here hx rfl (hb hby at_205) rfl k_)) ?_
    show Run _ _ _ _ (T246.setTop (mkF m 206 #[.val (.int p1), .val (.int p2), .val (.long p3), .second, .val (.int (0 : Int32)), .val (.ref o_BZIP2), .val (.int (0 : Int32)), .val (.int (3 : Int32)), .val (.int nn), .val (.int sl), .val (.ref b236), .unset] [(.long p3), (.int sl), (.int (2 : Int32)), (.int (0 : Int32)), (.int (2 : Int32)), (.ref b236)]))
    obtain ⟨_, _, ⟨T250, L250, k250, n250⟩, -, X250, ⟨Lc250, hQ250, l250, y250, z250⟩, st250⟩ := Jvm.LawKit.callS X246 hx (y := (⟨"cleave/io/PackedFormatHoldsMagicPinLaw", "pick", "(IIIJ)B"⟩ : MethodName)) hown (mvT hZ w5) (mvT hZ w6) (mvT hZ w7) (mvT hZ w8) (by decide) (backOf (W := 2) (rm1 l Z a0 hw [] (0 : Int32) (2 : Int32) sl p3 T246.heap n0 z248) hZ w8 w7 (by decide) (by decide)) (g := (mkF m 206 #[.val (.int p1), .val (.int p2), .val (.long p3), .second, .val (.int (0 : Int32)), .val (.ref o_BZIP2), .val (.int (0 : Int32)), .val (.int (3 : Int32)), .val (.int nn), .val (.int sl), .val (.ref b236), .unset] [(.long p3), (.int sl), (.int (2 : Int32)), (.int (0 : Int32)), (.int (2 : Int32)), (.ref b236)])) rfl (by rw [hml]; rfl) (argsL := [(.int (0 : Int32)), (.int (2 : Int32)), (.int sl), (.long p3)]) (rest := [(.int (2 : Int32)), (.ref b236)]) (lenOf pd__28IIIJ_29B rfl) rfl (by show 2 * 0 + _ ≤ _; exact Nat.le_of_eq rfl) (hb hby at_206) (fun _ _ => ⟨rfl, rfl, (by decide : 1 + 0 ≤ _), (by decide : 7 + 0 ≤ _)⟩)
    dsimp only [Pt.U, Pt.locs, Pt.cells, Pt.slots] at X250 l250 y250 z250 st250 hQ250
    subst l250 y250 z250
    refine Run.step (st250) ?_
    obtain ⟨rfl, N250q, e250q⟩ := hQ250
    have N250 := Fr.app N246 N250q
    show Run _ _ _ _ (T250.setTop (mkF m 209 #[.val (.int p1), .val (.int p2), .val (.long p3), .second, .val (.int (0 : Int32)), .val (.ref o_BZIP2), .val (.int (0 : Int32)), .val (.int (3 : Int32)), .val (.int nn), .val (.int sl), .val (.ref b236), .unset] [(.int (own_pick (0 : Int32) (2 : Int32) sl p3)), (.int (2 : Int32)), (.ref b236)]))
    obtain ⟨b2, hb2⟩ : ∃ z, z = (own_pick (0 : Int32) (2 : Int32) sl p3) := ⟨_, rfl⟩
    rw [← hb2]
    have nb2 : nar .byte b2 = b2 := by rw [hb2]; exact own_pickb _ _ _ _
    show Run _ _ _ _ (T250.setTop (mkF m 209 #[.val (.int p1), .val (.int p2), .val (.long p3), .second, .val (.int (0 : Int32)), .val (.ref o_BZIP2), .val (.int (0 : Int32)), .val (.int (3 : Int32)), .val (.int nn), .val (.int sl), .val (.ref b236), .unset] [(.int b2), (.int (2 : Int32)), (.ref b236)]))
    obtain ⟨_, _, ⟨T251, L251, k251, n251⟩, -, X251, ⟨Lc251, hQ251, l251, y251, z251⟩, st251⟩ := Jvm.LawKit.callS X250 hx (y := (⟨"cleave/io/PackedFormatHoldsMagicPinLaw", "put", "([BIB)V"⟩ : MethodName)) hown (mvT hZ w9) (mvT hZ w10) (mvT hZ w7) (mvT hZ w11) (by decide) (backOf (W := 0) (rm2 l Z a0 hw [] b236 (2 : Int32) b2 nn gg246 T246.heap n0 z248 fv246 (by decide) nb2 g_b236) hZ w11 w7 (by decide) (by decide)) (g := (mkF m 209 #[.val (.int p1), .val (.int p2), .val (.long p3), .second, .val (.int (0 : Int32)), .val (.ref o_BZIP2), .val (.int (0 : Int32)), .val (.int (3 : Int32)), .val (.int nn), .val (.int sl), .val (.ref b236), .unset] [(.int b2), (.int (2 : Int32)), (.ref b236)])) rfl (by rw [hml]; rfl) (argsL := [(.ref b236), (.int (2 : Int32)), (.int b2)]) (rest := []) (lenOf pd__28_5bBIB_29V rfl) rfl (by show 2 * 0 + _ ≤ _; exact Nat.le_of_eq rfl) (hb hby at_209) (fun _ _ => ⟨rfl, e250q, (by decide : 1 + 0 ≤ _), (by decide : 7 + 0 ≤ _)⟩)
    dsimp only [Pt.U, Pt.locs, Pt.cells, Pt.slots] at X251 l251 y251 z251 st251 hQ251
    subst l251 y251 z251
    refine Run.step (st251) ?_
    obtain ⟨rfl, N251q, K251q, fv251⟩ := hQ251
    have N251 := Fr.app N250 N251q
    have z253 := Nat.le_trans z248 K251q.1
    have O254 := O249.keep K251q (allS g_b236 all0)
    obtain ⟨gg251, hg251⟩ : ∃ z, z = own_up gg246 (2 : Int32).toNatClampNeg b2 := ⟨_, rfl⟩
    rw [← hg251] at fv251
    show Run _ _ _ _ (T251.setTop (mkF m 212 #[.val (.int p1), .val (.int p2), .val (.long p3), .second, .val (.int (0 : Int32)), .val (.ref o_BZIP2), .val (.int (0 : Int32)), .val (.int (3 : Int32)), .val (.int nn), .val (.int sl), .val (.ref b236), .unset] []))
    refine Run.step (fun t_ k_ => XS.aload X251.here hx rfl (hb hby at_212) rfl rfl (XS.iload X251.here hx rfl (hb hby at_214) rfl (XS.iconst X251.here hx rfl (hb hby at_216) (XS.iadd X251.here hx rfl (hb hby at_217) rfl (XS.iload X251.here hx rfl (hb hby at_218) rfl (XS.iconst X251.here hx rfl (hb hby at_220) k_)))))) ?_
    show Run _ _ _ _ (T251.setTop (mkF m 221 #[.val (.int p1), .val (.int p2), .val (.long p3), .second, .val (.int (0 : Int32)), .val (.ref o_BZIP2), .val (.int (0 : Int32)), .val (.int (3 : Int32)), .val (.int nn), .val (.int sl), .val (.ref b236), .unset] [(.int (3 : Int32)), (.int (0 : Int32)), (.int (3 : Int32)), (.ref b236)]))
    refine Run.step (fun t_ k_ => XS.iload X251.here hx rfl (hb hby at_221) rfl (XS.lloadN X251.here hx rfl (hb hby at_223) rfl k_)) ?_
    show Run _ _ _ _ (T251.setTop (mkF m 224 #[.val (.int p1), .val (.int p2), .val (.long p3), .second, .val (.int (0 : Int32)), .val (.ref o_BZIP2), .val (.int (0 : Int32)), .val (.int (3 : Int32)), .val (.int nn), .val (.int sl), .val (.ref b236), .unset] [(.long p3), (.int sl), (.int (3 : Int32)), (.int (0 : Int32)), (.int (3 : Int32)), (.ref b236)]))
    obtain ⟨_, _, ⟨T255, L255, k255, n255⟩, -, X255, ⟨Lc255, hQ255, l255, y255, z255⟩, st255⟩ := Jvm.LawKit.callS X251 hx (y := (⟨"cleave/io/PackedFormatHoldsMagicPinLaw", "pick", "(IIIJ)B"⟩ : MethodName)) hown (mvT hZ w5) (mvT hZ w6) (mvT hZ w7) (mvT hZ w8) (by decide) (backOf (W := 2) (rm1 l Z a0 hw [] (0 : Int32) (3 : Int32) sl p3 T251.heap n0 z253) hZ w8 w7 (by decide) (by decide)) (g := (mkF m 224 #[.val (.int p1), .val (.int p2), .val (.long p3), .second, .val (.int (0 : Int32)), .val (.ref o_BZIP2), .val (.int (0 : Int32)), .val (.int (3 : Int32)), .val (.int nn), .val (.int sl), .val (.ref b236), .unset] [(.long p3), (.int sl), (.int (3 : Int32)), (.int (0 : Int32)), (.int (3 : Int32)), (.ref b236)])) rfl (by rw [hml]; rfl) (argsL := [(.int (0 : Int32)), (.int (3 : Int32)), (.int sl), (.long p3)]) (rest := [(.int (3 : Int32)), (.ref b236)]) (lenOf pd__28IIIJ_29B rfl) rfl (by show 2 * 0 + _ ≤ _; exact Nat.le_of_eq rfl) (hb hby at_224) (fun _ _ => ⟨rfl, rfl, (by decide : 1 + 0 ≤ _), (by decide : 7 + 0 ≤ _)⟩)
    dsimp only [Pt.U, Pt.locs, Pt.cells, Pt.slots] at X255 l255 y255 z255 st255 hQ255
    subst l255 y255 z255
    refine Run.step (st255) ?_
    obtain ⟨rfl, N255q, e255q⟩ := hQ255
    have N255 := Fr.app N251 N255q
    show Run _ _ _ _ (T255.setTop (mkF m 227 #[.val (.int p1), .val (.int p2), .val (.long p3), .second, .val (.int (0 : Int32)), .val (.ref o_BZIP2), .val (.int (0 : Int32)), .val (.int (3 : Int32)), .val (.int nn), .val (.int sl), .val (.ref b236), .unset] [(.int (own_pick (0 : Int32) (3 : Int32) sl p3)), (.int (3 : Int32)), (.ref b236)]))
    obtain ⟨b3, hb3⟩ : ∃ z, z = (own_pick (0 : Int32) (3 : Int32) sl p3) := ⟨_, rfl⟩
    rw [← hb3]
    have nb3 : nar .byte b3 = b3 := by rw [hb3]; exact own_pickb _ _ _ _
    show Run _ _ _ _ (T255.setTop (mkF m 227 #[.val (.int p1), .val (.int p2), .val (.long p3), .second, .val (.int (0 : Int32)), .val (.ref o_BZIP2), .val (.int (0 : Int32)), .val (.int (3 : Int32)), .val (.int nn), .val (.int sl), .val (.ref b236), .unset] [(.int b3), (.int (3 : Int32)), (.ref b236)]))
    obtain ⟨_, _, ⟨T256, L256, k256, n256⟩, -, X256, ⟨Lc256, hQ256, l256, y256, z256⟩, st256⟩ := Jvm.LawKit.callS X255 hx (y := (⟨"cleave/io/PackedFormatHoldsMagicPinLaw", "put", "([BIB)V"⟩ : MethodName)) hown (mvT hZ w9) (mvT hZ w10) (mvT hZ w7) (mvT hZ w11) (by decide) (backOf (W := 0) (rm2 l Z a0 hw [] b236 (3 : Int32) b3 nn gg251 T251.heap n0 z253 fv251 (by decide) nb3 g_b236) hZ w11 w7 (by decide) (by decide)) (g := (mkF m 227 #[.val (.int p1), .val (.int p2), .val (.long p3), .second, .val (.int (0 : Int32)), .val (.ref o_BZIP2), .val (.int (0 : Int32)), .val (.int (3 : Int32)), .val (.int nn), .val (.int sl), .val (.ref b236), .unset] [(.int b3), (.int (3 : Int32)), (.ref b236)])) rfl (by rw [hml]; rfl) (argsL := [(.ref b236), (.int (3 : Int32)), (.int b3)]) (rest := []) (lenOf pd__28_5bBIB_29V rfl) rfl (by show 2 * 0 + _ ≤ _; exact Nat.le_of_eq rfl) (hb hby at_227) (fun _ _ => ⟨rfl, e255q, (by decide : 1 + 0 ≤ _), (by decide : 7 + 0 ≤ _)⟩)
    dsimp only [Pt.U, Pt.locs, Pt.cells, Pt.slots] at X256 l256 y256 z256 st256 hQ256
    subst l256 y256 z256
    refine Run.step (st256) ?_
    obtain ⟨rfl, N256q, K256q, fv256⟩ := hQ256
    have N256 := Fr.app N255 N256q
    have z258 := Nat.le_trans z253 K256q.1
    have O259 := O254.keep K256q (allS g_b236 all0)
    obtain ⟨gg256, hg256⟩ : ∃ z, z = own_up gg251 (3 : Int32).toNatClampNeg b3 := ⟨_, rfl⟩
    rw [← hg256] at fv256
    show Run _ _ _ _ (T256.setTop (mkF m 230 #[.val (.int p1), .val (.int p2), .val (.long p3), .second, .val (.int (0 : Int32)), .val (.ref o_BZIP2), .val (.int (0 : Int32)), .val (.int (3 : Int32)), .val (.int nn), .val (.int sl), .val (.ref b236), .unset] []))
    refine Run.step (fun t_ k_ => XS.aload X256.here hx rfl (hb hby at_230) rfl rfl (XS.iload X256.here hx rfl (hb hby at_232) rfl (XS.iconst X256.here hx rfl (hb hby at_234) (XS.iadd X256.here hx rfl (hb hby at_235) rfl (XS.iload X256.here hx rfl (hb hby at_236) rfl (XS.iconst X256.here hx rfl (hb hby at_238) k_)))))) ?_
    show Run _ _ _ _ (T256.setTop (mkF m 239 #[.val (.int p1), .val (.int p2), .val (.long p3), .second, .val (.int (0 : Int32)), .val (.ref o_BZIP2), .val (.int (0 : Int32)), .val (.int (3 : Int32)), .val (.int nn), .val (.int sl), .val (.ref b236), .unset] [(.int (4 : Int32)), (.int (0 : Int32)), (.int (4 : Int32)), (.ref b236)]))
    refine Run.step (fun t_ k_ => XS.iload X256.here hx rfl (hb hby at_239) rfl (XS.lloadN X256.here hx rfl (hb hby at_241) rfl k_)) ?_
    show Run _ _ _ _ (T256.setTop (mkF m 242 #[.val (.int p1), .val (.int p2), .val (.long p3), .second, .val (.int (0 : Int32)), .val (.ref o_BZIP2), .val (.int (0 : Int32)), .val (.int (3 : Int32)), .val (.int nn), .val (.int sl), .val (.ref b236), .unset] [(.long p3), (.int sl), (.int (4 : Int32)), (.int (0 : Int32)), (.int (4 : Int32)), (.ref b236)]))
    obtain ⟨_, _, ⟨T260, L260, k260, n260⟩, -, X260, ⟨Lc260, hQ260, l260, y260, z260⟩, st260⟩ := Jvm.LawKit.callS X256 hx (y := (⟨"cleave/io/PackedFormatHoldsMagicPinLaw", "pick", "(IIIJ)B"⟩ : MethodName)) hown (mvT hZ w5) (mvT hZ w6) (mvT hZ w7) (mvT hZ w8) (by decide) (backOf (W := 2) (rm1 l Z a0 hw [] (0 : Int32) (4 : Int32) sl p3 T256.heap n0 z258) hZ w8 w7 (by decide) (by decide)) (g := (mkF m 242 #[.val (.int p1), .val (.int p2), .val (.long p3), .second, .val (.int (0 : Int32)), .val (.ref o_BZIP2), .val (.int (0 : Int32)), .val (.int (3 : Int32)), .val (.int nn), .val (.int sl), .val (.ref b236), .unset] [(.long p3), (.int sl), (.int (4 : Int32)), (.int (0 : Int32)), (.int (4 : Int32)), (.ref b236)])) rfl (by rw [hml]; rfl) (argsL := [(.int (0 : Int32)), (.int (4 : Int32)), (.int sl), (.long p3)]) (rest := [(.int (4 : Int32)), (.ref b236)]) (lenOf pd__28IIIJ_29B rfl) rfl (by show 2 * 0 + _ ≤ _; exact Nat.le_of_eq rfl) (hb hby at_242) (fun _ _ => ⟨rfl, rfl, (by decide : 1 + 0 ≤ _), (by decide : 7 + 0 ≤ _)⟩)
    dsimp only [Pt.U, Pt.locs, Pt.cells, Pt.slots] at X260 l260 y260 z260 st260 hQ260
    subst l260 y260 z260
    refine Run.step (st260) ?_
    obtain ⟨rfl, N260q, e260q⟩ := hQ260
    have N260 := Fr.app N256 N260q
    show Run _ _ _ _ (T260.setTop (mkF m 245 #[.val (.int p1), .val (.int p2), .val (.long p3), .second, .val (.int (0 : Int32)), .val (.ref o_BZIP2), .val (.int (0 : Int32)), .val (.int (3 : Int32)), .val (.int nn), .val (.int sl), .val (.ref b236), .unset] [(.int (own_pick (0 : Int32) (4 : Int32) sl p3)), (.int (4 : Int32)), (.ref b236)]))
    obtain ⟨b4, hb4⟩ : ∃ z, z = (own_pick (0 : Int32) (4 : Int32) sl p3) := ⟨_, rfl⟩
    rw [← hb4]
    have nb4 : nar .byte b4 = b4 := by rw [hb4]; exact own_pickb _ _ _ _
    show Run _ _ _ _ (T260.setTop (mkF m 245 #[.val (.int p1), .val (.int p2), .val (.long p3), .second, .val (.int (0 : Int32)), .val (.ref o_BZIP2), .val (.int (0 : Int32)), .val (.int (3 : Int32)), .val (.int nn), .val (.int sl), .val (.ref b236), .unset] [(.int b4), (.int (4 : Int32)), (.ref b236)]))
    obtain ⟨_, _, ⟨T261, L261, k261, n261⟩, -, X261, ⟨Lc261, hQ261, l261, y261, z261⟩, st261⟩ := Jvm.LawKit.callS X260 hx (y := (⟨"cleave/io/PackedFormatHoldsMagicPinLaw", "put", "([BIB)V"⟩ : MethodName)) hown (mvT hZ w9) (mvT hZ w10) (mvT hZ w7) (mvT hZ w11) (by decide) (backOf (W := 0) (rm2 l Z a0 hw [] b236 (4 : Int32) b4 nn gg256 T256.heap n0 z258 fv256 (by decide) nb4 g_b236) hZ w11 w7 (by decide) (by decide)) (g := (mkF m 245 #[.val (.int p1), .val (.int p2), .val (.long p3), .second, .val (.int (0 : Int32)), .val (.ref o_BZIP2), .val (.int (0 : Int32)), .val (.int (3 : Int32)), .val (.int nn), .val (.int sl), .val (.ref b236), .unset] [(.int b4), (.int (4 : Int32)), (.ref b236)])) rfl (by rw [hml]; rfl) (argsL := [(.ref b236), (.int (4 : Int32)), (.int b4)]) (rest := []) (lenOf pd__28_5bBIB_29V rfl) rfl (by show 2 * 0 + _ ≤ _; exact Nat.le_of_eq rfl) (hb hby at_245) (fun _ _ => ⟨rfl, e260q, (by decide : 1 + 0 ≤ _), (by decide : 7 + 0 ≤ _)⟩)
    dsimp only [Pt.U, Pt.locs, Pt.cells, Pt.slots] at X261 l261 y261 z261 st261 hQ261
    subst l261 y261 z261
    refine Run.step (st261) ?_
    obtain ⟨rfl, N261q, K261q, fv261⟩ := hQ261
    have N261 := Fr.app N260 N261q
    have z263 := Nat.le_trans z258 K261q.1
    have O264 := O259.keep K261q (allS g_b236 all0)
    obtain ⟨gg261, hg261⟩ : ∃ z, z = own_up gg256 (4 : Int32).toNatClampNeg b4 := ⟨_, rfl⟩
    rw [← hg261] at fv261
    show Run _ _ _ _ (T261.setTop (mkF m 248 #[.val (.int p1), .val (.int p2), .val (.long p3), .second, .val (.int (0 : Int32)), .val (.ref o_BZIP2), .val (.int (0 : Int32)), .val (.int (3 : Int32)), .val (.int nn), .val (.int sl), .val (.ref b236), .unset] []))
    refine Run.step (fun t_ k_ => XS.aload X261.here hx rfl (hb hby at_248) rfl rfl (XS.iload X261.here hx rfl (hb hby at_250) rfl (XS.iconst X261.here hx rfl (hb hby at_252) (XS.iadd X261.here hx rfl (hb hby at_253) rfl (XS.iload X261.here hx rfl (hb hby at_254) rfl (XS.iconst X261.here hx rfl (hb hby at_256) k_)))))) ?_
    show Run _ _ _ _ (T261.setTop (mkF m 257 #[.val (.int p1), .val (.int p2), .val (.long p3), .second, .val (.int (0 : Int32)), .val (.ref o_BZIP2), .val (.int (0 : Int32)), .val (.int (3 : Int32)), .val (.int nn), .val (.int sl), .val (.ref b236), .unset] [(.int (5 : Int32)), (.int (0 : Int32)), (.int (5 : Int32)), (.ref b236)]))
    refine Run.step (fun t_ k_ => XS.iload X261.here hx rfl (hb hby at_257) rfl (XS.lloadN X261.here hx rfl (hb hby at_259) rfl k_)) ?_
    show Run _ _ _ _ (T261.setTop (mkF m 260 #[.val (.int p1), .val (.int p2), .val (.long p3), .second, .val (.int (0 : Int32)), .val (.ref o_BZIP2), .val (.int (0 : Int32)), .val (.int (3 : Int32)), .val (.int nn), .val (.int sl), .val (.ref b236), .unset] [(.long p3), (.int sl), (.int (5 : Int32)), (.int (0 : Int32)), (.int (5 : Int32)), (.ref b236)]))
    obtain ⟨_, _, ⟨T265, L265, k265, n265⟩, -, X265, ⟨Lc265, hQ265, l265, y265, z265⟩, st265⟩ := Jvm.LawKit.callS X261 hx (y := (⟨"cleave/io/PackedFormatHoldsMagicPinLaw", "pick", "(IIIJ)B"⟩ : MethodName)) hown (mvT hZ w5) (mvT hZ w6) (mvT hZ w7) (mvT hZ w8) (by decide) (backOf (W := 2) (rm1 l Z a0 hw [] (0 : Int32) (5 : Int32) sl p3 T261.heap n0 z263) hZ w8 w7 (by decide) (by decide)) (g := (mkF m 260 #[.val (.int p1), .val (.int p2), .val (.long p3), .second, .val (.int (0 : Int32)), .val (.ref o_BZIP2), .val (.int (0 : Int32)), .val (.int (3 : Int32)), .val (.int nn), .val (.int sl), .val (.ref b236), .unset] [(.long p3), (.int sl), (.int (5 : Int32)), (.int (0 : Int32)), (.int (5 : Int32)), (.ref b236)])) rfl (by rw [hml]; rfl) (argsL := [(.int (0 : Int32)), (.int (5 : Int32)), (.int sl), (.long p3)]) (rest := [(.int (5 : Int32)), (.ref b236)]) (lenOf pd__28IIIJ_29B rfl) rfl (by show 2 * 0 + _ ≤ _; exact Nat.le_of_eq rfl) (hb hby at_260) (fun _ _ => ⟨rfl, rfl, (by decide : 1 + 0 ≤ _), (by decide : 7 + 0 ≤ _)⟩)
    dsimp only [Pt.U, Pt.locs, Pt.cells, Pt.slots] at X265 l265 y265 z265 st265 hQ265
    subst l265 y265 z265
    refine Run.step (st265) ?_
    obtain ⟨rfl, N265q, e265q⟩ := hQ265
    have N265 := Fr.app N261 N265q
    show Run _ _ _ _ (T265.setTop (mkF m 263 #[.val (.int p1), .val (.int p2), .val (.long p3), .second, .val (.int (0 : Int32)), .val (.ref o_BZIP2), .val (.int (0 : Int32)), .val (.int (3 : Int32)), .val (.int nn), .val (.int sl), .val (.ref b236), .unset] [(.int (own_pick (0 : Int32) (5 : Int32) sl p3)), (.int (5 : Int32)), (.ref b236)]))
    obtain ⟨b5, hb5⟩ : ∃ z, z = (own_pick (0 : Int32) (5 : Int32) sl p3) := ⟨_, rfl⟩
    rw [← hb5]
    have nb5 : nar .byte b5 = b5 := by rw [hb5]; exact own_pickb _ _ _ _
    show Run _ _ _ _ (T265.setTop (mkF m 263 #[.val (.int p1), .val (.int p2), .val (.long p3), .second, .val (.int (0 : Int32)), .val (.ref o_BZIP2), .val (.int (0 : Int32)), .val (.int (3 : Int32)), .val (.int nn), .val (.int sl), .val (.ref b236), .unset] [(.int b5), (.int (5 : Int32)), (.ref b236)]))
    obtain ⟨_, _, ⟨T266, L266, k266, n266⟩, -, X266, ⟨Lc266, hQ266, l266, y266, z266⟩, st266⟩ := Jvm.LawKit.callS X265 hx (y := (⟨"cleave/io/PackedFormatHoldsMagicPinLaw", "put", "([BIB)V"⟩ : MethodName)) hown (mvT hZ w9) (mvT hZ w10) (mvT hZ w7) (mvT hZ w11) (by decide) (backOf (W := 0) (rm2 l Z a0 hw [] b236 (5 : Int32) b5 nn gg261 T261.heap n0 z263 fv261 (by decide) nb5 g_b236) hZ w11 w7 (by decide) (by decide)) (g := (mkF m 263 #[.val (.int p1), .val (.int p2), .val (.long p3), .second, .val (.int (0 : Int32)), .val (.ref o_BZIP2), .val (.int (0 : Int32)), .val (.int (3 : Int32)), .val (.int nn), .val (.int sl), .val (.ref b236), .unset] [(.int b5), (.int (5 : Int32)), (.ref b236)])) rfl (by rw [hml]; rfl) (argsL := [(.ref b236), (.int (5 : Int32)), (.int b5)]) (rest := []) (lenOf pd__28_5bBIB_29V rfl) rfl (by show 2 * 0 + _ ≤ _; exact Nat.le_of_eq rfl) (hb hby at_263) (fun _ _ => ⟨rfl, e265q, (by decide : 1 + 0 ≤ _), (by decide : 7 + 0 ≤ _)⟩)
    dsimp only [Pt.U, Pt.locs, Pt.cells, Pt.slots] at X266 l266 y266 z266 st266 hQ266
    subst l266 y266 z266
    refine Run.step (st266) ?_
    obtain ⟨rfl, N266q, K266q, fv266⟩ := hQ266
    have N266 := Fr.app N265 N266q
    have z268 := Nat.le_trans z263 K266q.1
    have O269 := O264.keep K266q (allS g_b236 all0)
    obtain ⟨gg266, hg266⟩ : ∃ z, z = own_up gg261 (5 : Int32).toNatClampNeg b5 := ⟨_, rfl⟩
    rw [← hg266] at fv266
    show Run _ _ _ _ (T266.setTop (mkF m 266 #[.val (.int p1), .val (.int p2), .val (.long p3), .second, .val (.int (0 : Int32)), .val (.ref o_BZIP2), .val (.int (0 : Int32)), .val (.int (3 : Int32)), .val (.int nn), .val (.int sl), .val (.ref b236), .unset] []))
    have v0 : gg266 0 = b0 := by rw [hg266, hg261, hg256, hg251, hg246, hg241]; rfl
    have v1 : gg266 1 = b1 := by rw [hg266, hg261, hg256, hg251, hg246, hg241]; rfl
    have v2 : gg266 2 = b2 := by rw [hg266, hg261, hg256, hg251, hg246, hg241]; rfl
    have v3 : gg266 3 = b3 := by rw [hg266, hg261, hg256, hg251, hg246, hg241]; rfl
    have v4 : gg266 4 = b4 := by rw [hg266, hg261, hg256, hg251, hg246, hg241]; rfl
    have v5 : gg266 5 = b5 := by rw [hg266, hg261, hg256, hg251, hg246, hg241]; rfl
    refine Run.step (fun t_ k_ => XS.iload X266.here hx rfl (hb hby at_266) rfl (XS.iload X266.here hx rfl (hb hby at_268) rfl (XS.iload X266.here hx rfl (hb hby at_270) rfl (XS.iadd X266.here hx rfl (hb hby at_272) rfl k_)))) ?_
    show Run _ _ _ _ (T266.setTop (mkF m 273 #[.val (.int p1), .val (.int p2), .val (.long p3), .second, .val (.int (0 : Int32)), .val (.ref o_BZIP2), .val (.int (0 : Int32)), .val (.int (3 : Int32)), .val (.int nn), .val (.int sl), .val (.ref b236), .unset] [(.int (3 : Int32)), (.int nn)]))
    have J270 : ∀ (TJ270 : State) (LJ270 : List Loc) (XJ270 : Stand p l e room_1 s m #[(.int p1), (.int p2), (.long p3)] below meth c TJ270 LJ270 1 7) (eJ270 : TJ270.heap = T266.heap) (NJ270 : Fr n0 LJ270) (wt : Int32), (wt = if nn < (3 : Int32) then 0 else (if b0 = (66 : Int32) then (if b1 = (90 : Int32) then (if b2 = (104 : Int32) then (1) else 0) else 0) else 0)) → Run p.tables e below (PQ s below 16 640 (Q0 Z p1 p2 p3 o_BZIP2 mg_BZIP2 km_BZIP2 o_XZ mg_XZ km_XZ o_ZSTD mg_ZSTD km_ZSTD o_ZIP mg_ZIP km_ZIP o_TAR mg_TAR km_TAR o_GZIP_TAR mg_GZIP_TAR km_GZIP_TAR h0 n0)) (TJ270.setTop (mkF m 372 #[.val (.int p1), .val (.int p2), .val (.long p3), .second, .val (.int (0 : Int32)), .val (.ref o_BZIP2), .val (.int (0 : Int32)), .val (.int (3 : Int32)), .val (.int nn), .val (.int sl), .val (.ref b236), .unset] [(.int wt)])) := by
      intro TJ270 LJ270 XJ270 eJ270 NJ270 wt hv270
      refine Run.step (fun t_ k_ => XS.istore XJ270.here hx rfl (hb hby at_372) rfl (l' := #[.val (.int p1), .val (.int p2), .val (.long p3), .second, .val (.int (0 : Int32)), .val (.ref o_BZIP2), .val (.int (0 : Int32)), .val (.int (3 : Int32)), .val (.int nn), .val (.int sl), .val (.ref b236), .val (.int wt)]) rfl (XS.aload XJ270.here hx rfl (hb hby at_374) rfl rfl (XS.aload XJ270.here hx rfl (hb hby at_376) rfl rfl k_))) ?_
      show Run _ _ _ _ (TJ270.setTop (mkF m 378 #[.val (.int p1), .val (.int p2), .val (.long p3), .second, .val (.int (0 : Int32)), .val (.ref o_BZIP2), .val (.int (0 : Int32)), .val (.int (3 : Int32)), .val (.int nn), .val (.int sl), .val (.ref b236), .val (.int wt)] [(.ref b236), (.ref o_BZIP2)]))
      obtain ⟨cq271, kq271, q271a, q271b, q271c⟩ := isOf hZ eJ270 (E_BZIP2.ext O269.2)
      obtain ⟨_, _, ⟨T271, L271, k271, n271⟩, -, X271, ⟨Lc271, hQ271, l271, y271, z271⟩, st271⟩ := XJ270.virtualBack hx (y := (⟨"cleave/io/PackedFormat", "holdsMagic", "([B)Z"⟩ : MethodName)) (z := (⟨"cleave/io/PackedFormat", "holdsMagic", "([B)Z"⟩ : MethodName)) hown (mvT hZ w18) (mvT hZ w19) (notFace_of_selects (args := #[]) (mvT hZ w21)) (mvT hZ w21) (mvT hZ w20) (by decide) (backOf (W := 0) (rm5_BZIP2 l Z a0 hw [] o_BZIP2 b236 mg_BZIP2 km_BZIP2 nn gg266 T266.heap n0 z268 (F1_BZIP2.ext O269.2) (F2_BZIP2.ext O269.2) (VM_BZIP2.ext O269.2) fv266) hZ w22 w2 (by decide) (by decide)) q271a q271c (g := (mkF m 378 #[.val (.int p1), .val (.int p2), .val (.long p3), .second, .val (.int (0 : Int32)), .val (.ref o_BZIP2), .val (.int (0 : Int32)), .val (.int (3 : Int32)), .val (.int nn), .val (.int sl), .val (.ref b236), .val (.int wt)] [(.ref b236), (.ref o_BZIP2)])) rfl (by rw [hml]; rfl) (Steps.refl _) (argsL := [(.ref b236)]) (rest := []) (lenOf pd__28_5bB_29Z rfl) rfl (by show 2 * 0 + _ ≤ _; exact Nat.le_of_eq rfl) (hb hby at_378) (fun _ _ => ⟨rfl, eJ270, (by decide : 1 + 0 ≤ _), (by decide : 7 + 0 ≤ _)⟩)
      dsimp only [Pt.U, Pt.locs, Pt.cells, Pt.slots] at X271 l271 y271 z271 st271 hQ271
      subst l271 y271 z271
      refine Run.step (fun t k => st271.trans k) ?_
      obtain ⟨rfl, N271q, e271q⟩ := hQ271
      have N271 := Fr.app NJ270 N271q
      show Run _ _ _ _ (T271.setTop (mkF m 381 #[.val (.int p1), .val (.int p2), .val (.long p3), .second, .val (.int (0 : Int32)), .val (.ref o_BZIP2), .val (.int (0 : Int32)), .val (.int (3 : Int32)), .val (.int nn), .val (.int sl), .val (.ref b236), .val (.int wt)] [(.int (if nn < (3 : Int32) then 0 else (if gg266 0 = (66 : Int32) then (if gg266 1 = (90 : Int32) then (if gg266 2 = (104 : Int32) then (1) else 0) else 0) else 0)))]))
      refine Run.step (fun t_ k_ => XS.iload X271.here hx rfl (hb hby at_381) rfl (XS.icmpNo X271.here hx rfl (hb hby at_383) rfl (XT.ii_ne_f ((by rw [hv270, v0, v1, v2]) : (if nn < (3 : Int32) then 0 else (if gg266 0 = (66 : Int32) then (if gg266 1 = (90 : Int32) then (if gg266 2 = (104 : Int32) then (1) else 0) else 0) else 0)) = wt)) (XS.iconst X271.here hx rfl (hb hby at_386) (XS.goto X271.here hx rfl (pc0 := 387) (pc' := 391) rfl (hb hby at_387) (by decide) (by decide) k_)))) ?_
      show Run _ _ _ _ (T271.setTop (mkF m 391 #[.val (.int p1), .val (.int p2), .val (.long p3), .second, .val (.int (0 : Int32)), .val (.ref o_BZIP2), .val (.int (0 : Int32)), .val (.int (3 : Int32)), .val (.int nn), .val (.int sl), .val (.ref b236), .val (.int wt)] [(.int (1 : Int32))]))
      exact finZ X271 hx (BodyLoose.notSynchronized Bd) Bd.returns (hb hby at_391) (by decide) (by decide) (by decide) e271q ⟨rfl, N271⟩
    by_cases c273 : nn < (3 : Int32)
    · skip
      refine Run.step (fun t_ k_ => XS.icmpYes X266.here hx rfl (pc0 := 273) (pc' := 371) rfl (hb hby at_273) rfl (XT.ii_lt_t c273) (by decide) (by decide) (XS.iconst X266.here hx rfl (hb hby at_371) k_)) ?_
      show Run _ _ _ _ (T266.setTop (mkF m 372 #[.val (.int p1), .val (.int p2), .val (.long p3), .second, .val (.int (0 : Int32)), .val (.ref o_BZIP2), .val (.int (0 : Int32)), .val (.int (3 : Int32)), .val (.int nn), .val (.int sl), .val (.ref b236), .unset] [(.int (0 : Int32))]))
      exact J270 _ _ X266 rfl N266 (0 : Int32) (if_pos c273).symm
    · skip
      refine Run.step (fun t_ k_ => XS.icmpNo X266.here hx rfl (hb hby at_273) rfl (XT.ii_lt_f c273) (XS.iload X266.here hx rfl (hb hby at_276) rfl (XS.iconst X266.here hx rfl (hb hby at_278) (XS.iload X266.here hx rfl (hb hby at_279) rfl (XS.lloadN X266.here hx rfl (hb hby at_281) rfl k_))))) ?_
      show Run _ _ _ _ (T266.setTop (mkF m 282 #[.val (.int p1), .val (.int p2), .val (.long p3), .second, .val (.int (0 : Int32)), .val (.ref o_BZIP2), .val (.int (0 : Int32)), .val (.int (3 : Int32)), .val (.int nn), .val (.int sl), .val (.ref b236), .unset] [(.long p3), (.int sl), (.int (0 : Int32)), (.int (0 : Int32))]))
      obtain ⟨_, _, ⟨T272, L272, k272, n272⟩, -, X272, ⟨Lc272, hQ272, l272, y272, z272⟩, st272⟩ := Jvm.LawKit.callS X266 hx (y := (⟨"cleave/io/PackedFormatHoldsMagicPinLaw", "matches", "(IIIJ)Z"⟩ : MethodName)) hown (mvT hZ w12) (mvT hZ w13) (mvT hZ w7) (mvT hZ w14) (by decide) (backOf (W := 0) (rm3 l Z a0 hw [] (0 : Int32) (0 : Int32) sl p3 T266.heap n0 z268) hZ w14 w7 (by decide) (by decide)) (g := (mkF m 282 #[.val (.int p1), .val (.int p2), .val (.long p3), .second, .val (.int (0 : Int32)), .val (.ref o_BZIP2), .val (.int (0 : Int32)), .val (.int (3 : Int32)), .val (.int nn), .val (.int sl), .val (.ref b236), .unset] [(.long p3), (.int sl), (.int (0 : Int32)), (.int (0 : Int32))])) rfl (by rw [hml]; rfl) (argsL := [(.int (0 : Int32)), (.int (0 : Int32)), (.int sl), (.long p3)]) (rest := []) (lenOf pd__28IIIJ_29Z rfl) rfl (by show 2 * 0 + _ ≤ _; exact Nat.le_of_eq rfl) (hb hby at_282) (fun _ _ => ⟨rfl, rfl, (by decide : 1 + 0 ≤ _), (by decide : 7 + 0 ≤ _)⟩)
      dsimp only [Pt.U, Pt.locs, Pt.cells, Pt.slots] at X272 l272 y272 z272 st272 hQ272
      subst l272 y272 z272
      refine Run.step (st272) ?_
      obtain ⟨rfl, N272q, e272q⟩ := hQ272
      have N272 := Fr.app N266 N272q
      show Run _ _ _ _ (T272.setTop (mkF m 285 #[.val (.int p1), .val (.int p2), .val (.long p3), .second, .val (.int (0 : Int32)), .val (.ref o_BZIP2), .val (.int (0 : Int32)), .val (.int (3 : Int32)), .val (.int nn), .val (.int sl), .val (.ref b236), .unset] [(.int (if own_pick (0 : Int32) (0 : Int32) sl p3 = (own_expect (0 : Int32) (0 : Int32)).toInt8.toInt32 then 1 else 0))]))
      have E0 : b0 = (66 : Int32) ↔ ¬ ((if own_pick (0 : Int32) (0 : Int32) sl p3 = (own_expect (0 : Int32) (0 : Int32)).toInt8.toInt32 then 1 else 0) = (0 : Int32)) := by
        rw [show ((if own_pick (0 : Int32) (0 : Int32) sl p3 = (own_expect (0 : Int32) (0 : Int32)).toInt8.toInt32 then 1 else 0)) = (if own_pick (0 : Int32) (0 : Int32) sl p3 = (66 : Int32) then (1 : Int32) else 0) from rfl, ← hb0]
        by_cases z : b0 = (66 : Int32)
        · rw [if_pos z]; exact ⟨fun _ => by decide, fun _ => z⟩
        · rw [if_neg z]; exact ⟨fun q => absurd q z, fun q => absurd rfl q⟩
      by_cases c285 : (if own_pick (0 : Int32) (0 : Int32) sl p3 = (own_expect (0 : Int32) (0 : Int32)).toInt8.toInt32 then 1 else 0) = (0 : Int32)
      · have d285 := fun q => E0.mp q c285
        refine Run.step (fun t_ k_ => XS.ifYes X272.here hx rfl (pc0 := 285) (pc' := 371) rfl (hb hby at_285) rfl (XT.i0_eq_t c285) (by decide) (by decide) (XS.iconst X272.here hx rfl (hb hby at_371) k_)) ?_
        show Run _ _ _ _ (T272.setTop (mkF m 372 #[.val (.int p1), .val (.int p2), .val (.long p3), .second, .val (.int (0 : Int32)), .val (.ref o_BZIP2), .val (.int (0 : Int32)), .val (.int (3 : Int32)), .val (.int nn), .val (.int sl), .val (.ref b236), .unset] [(.int (0 : Int32))]))
        exact J270 _ _ X272 e272q N272 (0 : Int32) ((if_neg c273).trans (if_neg d285)).symm
      · have d285 := E0.mpr c285
        refine Run.step (fun t_ k_ => XS.ifNo X272.here hx rfl (hb hby at_285) rfl (XT.i0_eq_f c285) (XS.iload X272.here hx rfl (hb hby at_288) rfl (XS.iconst X272.here hx rfl (hb hby at_290) (XS.iload X272.here hx rfl (hb hby at_291) rfl (XS.lloadN X272.here hx rfl (hb hby at_293) rfl k_))))) ?_
        show Run _ _ _ _ (T272.setTop (mkF m 294 #[.val (.int p1), .val (.int p2), .val (.long p3), .second, .val (.int (0 : Int32)), .val (.ref o_BZIP2), .val (.int (0 : Int32)), .val (.int (3 : Int32)), .val (.int nn), .val (.int sl), .val (.ref b236), .unset] [(.long p3), (.int sl), (.int (1 : Int32)), (.int (0 : Int32))]))
        obtain ⟨_, _, ⟨T273, L273, k273, n273⟩, -, X273, ⟨Lc273, hQ273, l273, y273, z273⟩, st273⟩ := Jvm.LawKit.callS X272 hx (y := (⟨"cleave/io/PackedFormatHoldsMagicPinLaw", "matches", "(IIIJ)Z"⟩ : MethodName)) hown (mvT hZ w12) (mvT hZ w13) (mvT hZ w7) (mvT hZ w14) (by decide) (backOf (W := 0) (rm3 l Z a0 hw [] (0 : Int32) (1 : Int32) sl p3 T266.heap n0 z268) hZ w14 w7 (by decide) (by decide)) (g := (mkF m 294 #[.val (.int p1), .val (.int p2), .val (.long p3), .second, .val (.int (0 : Int32)), .val (.ref o_BZIP2), .val (.int (0 : Int32)), .val (.int (3 : Int32)), .val (.int nn), .val (.int sl), .val (.ref b236), .unset] [(.long p3), (.int sl), (.int (1 : Int32)), (.int (0 : Int32))])) rfl (by rw [hml]; rfl) (argsL := [(.int (0 : Int32)), (.int (1 : Int32)), (.int sl), (.long p3)]) (rest := []) (lenOf pd__28IIIJ_29Z rfl) rfl (by show 2 * 0 + _ ≤ _; exact Nat.le_of_eq rfl) (hb hby at_294) (fun _ _ => ⟨rfl, e272q, (by decide : 1 + 0 ≤ _), (by decide : 7 + 0 ≤ _)⟩)
        dsimp only [Pt.U, Pt.locs, Pt.cells, Pt.slots] at X273 l273 y273 z273 st273 hQ273
        subst l273 y273 z273
        refine Run.step (st273) ?_
        obtain ⟨rfl, N273q, e273q⟩ := hQ273
        have N273 := Fr.app N272 N273q
        show Run _ _ _ _ (T273.setTop (mkF m 297 #[.val (.int p1), .val (.int p2), .val (.long p3), .second, .val (.int (0 : Int32)), .val (.ref o_BZIP2), .val (.int (0 : Int32)), .val (.int (3 : Int32)), .val (.int nn), .val (.int sl), .val (.ref b236), .unset] [(.int (if own_pick (0 : Int32) (1 : Int32) sl p3 = (own_expect (0 : Int32) (1 : Int32)).toInt8.toInt32 then 1 else 0))]))
        have E1 : b1 = (90 : Int32) ↔ ¬ ((if own_pick (0 : Int32) (1 : Int32) sl p3 = (own_expect (0 : Int32) (1 : Int32)).toInt8.toInt32 then 1 else 0) = (0 : Int32)) := by
          rw [show ((if own_pick (0 : Int32) (1 : Int32) sl p3 = (own_expect (0 : Int32) (1 : Int32)).toInt8.toInt32 then 1 else 0)) = (if own_pick (0 : Int32) (1 : Int32) sl p3 = (90 : Int32) then (1 : Int32) else 0) from rfl, ← hb1]
          by_cases z : b1 = (90 : Int32)
          · rw [if_pos z]; exact ⟨fun _ => by decide, fun _ => z⟩
          · rw [if_neg z]; exact ⟨fun q => absurd q z, fun q => absurd rfl q⟩
        by_cases c297 : (if own_pick (0 : Int32) (1 : Int32) sl p3 = (own_expect (0 : Int32) (1 : Int32)).toInt8.toInt32 then 1 else 0) = (0 : Int32)
        · have d297 := fun q => E1.mp q c297
          refine Run.step (fun t_ k_ => XS.ifYes X273.here hx rfl (pc0 := 297) (pc' := 371) rfl (hb hby at_297) rfl (XT.i0_eq_t c297) (by decide) (by decide) (XS.iconst X273.here hx rfl (hb hby at_371) k_)) ?_
          show Run _ _ _ _ (T273.setTop (mkF m 372 #[.val (.int p1), .val (.int p2), .val (.long p3), .second, .val (.int (0 : Int32)), .val (.ref o_BZIP2), .val (.int (0 : Int32)), .val (.int (3 : Int32)), .val (.int nn), .val (.int sl), .val (.ref b236), .unset] [(.int (0 : Int32))]))
          exact J270 _ _ X273 e273q N273 (0 : Int32) ((if_neg c273).trans ((if_pos d285).trans (if_neg d297))).symm
        · have d297 := E1.mpr c297
          refine Run.step (fun t_ k_ => XS.ifNo X273.here hx rfl (hb hby at_297) rfl (XT.i0_eq_f c297) (XS.iload X273.here hx rfl (hb hby at_300) rfl (XS.iconst X273.here hx rfl (hb hby at_302) (XS.iload X273.here hx rfl (hb hby at_303) rfl (XS.lloadN X273.here hx rfl (hb hby at_305) rfl k_))))) ?_
          show Run _ _ _ _ (T273.setTop (mkF m 306 #[.val (.int p1), .val (.int p2), .val (.long p3), .second, .val (.int (0 : Int32)), .val (.ref o_BZIP2), .val (.int (0 : Int32)), .val (.int (3 : Int32)), .val (.int nn), .val (.int sl), .val (.ref b236), .unset] [(.long p3), (.int sl), (.int (2 : Int32)), (.int (0 : Int32))]))
          obtain ⟨_, _, ⟨T274, L274, k274, n274⟩, -, X274, ⟨Lc274, hQ274, l274, y274, z274⟩, st274⟩ := Jvm.LawKit.callS X273 hx (y := (⟨"cleave/io/PackedFormatHoldsMagicPinLaw", "matches", "(IIIJ)Z"⟩ : MethodName)) hown (mvT hZ w12) (mvT hZ w13) (mvT hZ w7) (mvT hZ w14) (by decide) (backOf (W := 0) (rm3 l Z a0 hw [] (0 : Int32) (2 : Int32) sl p3 T266.heap n0 z268) hZ w14 w7 (by decide) (by decide)) (g := (mkF m 306 #[.val (.int p1), .val (.int p2), .val (.long p3), .second, .val (.int (0 : Int32)), .val (.ref o_BZIP2), .val (.int (0 : Int32)), .val (.int (3 : Int32)), .val (.int nn), .val (.int sl), .val (.ref b236), .unset] [(.long p3), (.int sl), (.int (2 : Int32)), (.int (0 : Int32))])) rfl (by rw [hml]; rfl) (argsL := [(.int (0 : Int32)), (.int (2 : Int32)), (.int sl), (.long p3)]) (rest := []) (lenOf pd__28IIIJ_29Z rfl) rfl (by show 2 * 0 + _ ≤ _; exact Nat.le_of_eq rfl) (hb hby at_306) (fun _ _ => ⟨rfl, e273q, (by decide : 1 + 0 ≤ _), (by decide : 7 + 0 ≤ _)⟩)
          dsimp only [Pt.U, Pt.locs, Pt.cells, Pt.slots] at X274 l274 y274 z274 st274 hQ274
          subst l274 y274 z274
          refine Run.step (st274) ?_
          obtain ⟨rfl, N274q, e274q⟩ := hQ274
          have N274 := Fr.app N273 N274q
          show Run _ _ _ _ (T274.setTop (mkF m 309 #[.val (.int p1), .val (.int p2), .val (.long p3), .second, .val (.int (0 : Int32)), .val (.ref o_BZIP2), .val (.int (0 : Int32)), .val (.int (3 : Int32)), .val (.int nn), .val (.int sl), .val (.ref b236), .unset] [(.int (if own_pick (0 : Int32) (2 : Int32) sl p3 = (own_expect (0 : Int32) (2 : Int32)).toInt8.toInt32 then 1 else 0))]))
          have E2 : b2 = (104 : Int32) ↔ ¬ ((if own_pick (0 : Int32) (2 : Int32) sl p3 = (own_expect (0 : Int32) (2 : Int32)).toInt8.toInt32 then 1 else 0) = (0 : Int32)) := by
            rw [show ((if own_pick (0 : Int32) (2 : Int32) sl p3 = (own_expect (0 : Int32) (2 : Int32)).toInt8.toInt32 then 1 else 0)) = (if own_pick (0 : Int32) (2 : Int32) sl p3 = (104 : Int32) then (1 : Int32) else 0) from rfl, ← hb2]
            by_cases z : b2 = (104 : Int32)
            · rw [if_pos z]; exact ⟨fun _ => by decide, fun _ => z⟩
            · rw [if_neg z]; exact ⟨fun q => absurd q z, fun q => absurd rfl q⟩
          by_cases c309 : (if own_pick (0 : Int32) (2 : Int32) sl p3 = (own_expect (0 : Int32) (2 : Int32)).toInt8.toInt32 then 1 else 0) = (0 : Int32)
          · have d309 := fun q => E2.mp q c309
            refine Run.step (fun t_ k_ => XS.ifYes X274.here hx rfl (pc0 := 309) (pc' := 371) rfl (hb hby at_309) rfl (XT.i0_eq_t c309) (by decide) (by decide) (XS.iconst X274.here hx rfl (hb hby at_371) k_)) ?_
            show Run _ _ _ _ (T274.setTop (mkF m 372 #[.val (.int p1), .val (.int p2), .val (.long p3), .second, .val (.int (0 : Int32)), .val (.ref o_BZIP2), .val (.int (0 : Int32)), .val (.int (3 : Int32)), .val (.int nn), .val (.int sl), .val (.ref b236), .unset] [(.int (0 : Int32))]))
            exact J270 _ _ X274 e274q N274 (0 : Int32) ((if_neg c273).trans ((if_pos d285).trans ((if_pos d297).trans (if_neg d309)))).symm
          · have d309 := E2.mpr c309
            refine Run.step (fun t_ k_ => XS.ifNo X274.here hx rfl (hb hby at_309) rfl (XT.i0_eq_f c309) (XS.iload X274.here hx rfl (hb hby at_312) rfl (XS.iconst X274.here hx rfl (hb hby at_314) (XS.icmpYes X274.here hx rfl (pc0 := 315) (pc' := 330) rfl (hb hby at_315) rfl (XT.ii_lt_t (by decide : (3 : Int32) < (4 : Int32))) (by decide) (by decide) (XS.iload X274.here hx rfl (hb hby at_330) rfl (XS.iconst X274.here hx rfl (hb hby at_332) k_)))))) ?_
            show Run _ _ _ _ (T274.setTop (mkF m 333 #[.val (.int p1), .val (.int p2), .val (.long p3), .second, .val (.int (0 : Int32)), .val (.ref o_BZIP2), .val (.int (0 : Int32)), .val (.int (3 : Int32)), .val (.int nn), .val (.int sl), .val (.ref b236), .unset] [(.int (5 : Int32)), (.int (3 : Int32))]))
            refine Run.step (fun t_ k_ => XS.icmpYes X274.here hx rfl (pc0 := 333) (pc' := 348) rfl (hb hby at_333) rfl (XT.ii_lt_t (by decide : (3 : Int32) < (5 : Int32))) (by decide) (by decide) (XS.iload X274.here hx rfl (hb hby at_348) rfl (XS.bipush X274.here hx rfl (hb hby at_350) (XS.icmpYes X274.here hx rfl (pc0 := 352) (pc' := 367) rfl (hb hby at_352) rfl (XT.ii_lt_t (by decide : (3 : Int32) < (6 : Int32))) (by decide) (by decide) (XS.iconst X274.here hx rfl (hb hby at_367) (XS.goto X274.here hx rfl (pc0 := 368) (pc' := 372) rfl (hb hby at_368) (by decide) (by decide) k_)))))) ?_
            show Run _ _ _ _ (T274.setTop (mkF m 372 #[.val (.int p1), .val (.int p2), .val (.long p3), .second, .val (.int (0 : Int32)), .val (.ref o_BZIP2), .val (.int (0 : Int32)), .val (.int (3 : Int32)), .val (.int nn), .val (.int sl), .val (.ref b236), .unset] [(.int (1 : Int32))]))
            exact J270 _ _ X274 e274q N274 (1 : Int32) ((if_neg c273).trans ((if_pos d285).trans ((if_pos d297).trans (if_pos d309)))).symm
  · rw [hk]
    show Run _ _ _ _ (s₁.setTop (mkF m 9 #[.val (.int p1), .val (.int p2), .val (.long p3), .second, .val (.int (1 : Int32)), .unset, .unset, .unset, .unset, .unset, .unset, .unset] []))
    refine Run.step (fun t_ k_ => XS.iload X0.here hx rfl (hb hby at_9) rfl (XS.ifYes X0.here hx rfl (pc0 := 11) (pc' := 22) rfl (hb hby at_11) rfl (XT.i0_ne_t (by decide : ¬ ((1 : Int32) = (0 : Int32)))) (by decide) (by decide) (XS.iload X0.here hx rfl (hb hby at_22) rfl (XS.iconst X0.here hx rfl (hb hby at_24) (XS.icmpNo X0.here hx rfl (hb hby at_25) rfl (XT.ii_ne_f (by decide : (1 : Int32) = (1 : Int32))) k_))))) ?_
    show Run _ _ _ _ (s₁.setTop (mkF m 28 #[.val (.int p1), .val (.int p2), .val (.long p3), .second, .val (.int (1 : Int32)), .unset, .unset, .unset, .unset, .unset, .unset, .unset] []))
    obtain ⟨T275, X275, e275, st275⟩ := getS2 X0 hx hZ hown (host := "") (Or.inl w27) Via.refl e0 (S_XZ.ext O0.2) (g := (mkF m 28 #[.val (.int p1), .val (.int p2), .val (.long p3), .second, .val (.int (1 : Int32)), .unset, .unset, .unset, .unset, .unset, .unset, .unset] [])) rfl (hb hby at_28)
    refine Run.step st275 ?_
    show Run _ _ _ _ (T275.setTop (mkF m 31 #[.val (.int p1), .val (.int p2), .val (.long p3), .second, .val (.int (1 : Int32)), .unset, .unset, .unset, .unset, .unset, .unset, .unset] [(.ref o_XZ)]))
    refine Run.step (fun t_ k_ => XS.astore X275.here hx rfl (hb hby at_31) rfl rfl (l' := #[.val (.int p1), .val (.int p2), .val (.long p3), .second, .val (.int (1 : Int32)), .val (.ref o_XZ), .unset, .unset, .unset, .unset, .unset, .unset]) rfl (XS.goto X275.here hx rfl (pc0 := 33) (pc' := 83) rfl (hb hby at_33) (by decide) (by decide) (XS.iload X275.here hx rfl (hb hby at_83) rfl (XS.iconst X275.here hx rfl (hb hby at_85) (XS.icmpYes X275.here hx rfl (pc0 := 86) (pc' := 95) rfl (hb hby at_86) rfl (XT.ii_lt_t (by decide : (1 : Int32) < (4 : Int32))) (by decide) (by decide) (XS.iconst X275.here hx rfl (hb hby at_95) k_)))))) ?_
    show Run _ _ _ _ (T275.setTop (mkF m 96 #[.val (.int p1), .val (.int p2), .val (.long p3), .second, .val (.int (1 : Int32)), .val (.ref o_XZ), .unset, .unset, .unset, .unset, .unset, .unset] [(.int (0 : Int32))]))
    refine Run.step (fun t_ k_ => XS.istore X275.here hx rfl (hb hby at_96) rfl (l' := #[.val (.int p1), .val (.int p2), .val (.long p3), .second, .val (.int (1 : Int32)), .val (.ref o_XZ), .val (.int (0 : Int32)), .unset, .unset, .unset, .unset, .unset]) rfl (XS.iload X275.here hx rfl (hb hby at_98) rfl (XS.ifYes X275.here hx rfl (pc0 := 100) (pc' := 109) rfl (hb hby at_100) rfl (XT.i0_ne_t (by decide : ¬ ((1 : Int32) = (0 : Int32)))) (by decide) (by decide) (XS.iload X275.here hx rfl (hb hby at_109) rfl (XS.iconst X275.here hx rfl (hb hby at_111) (XS.icmpNo X275.here hx rfl (hb hby at_112) rfl (XT.ii_ne_f (by decide : (1 : Int32) = (1 : Int32))) k_)))))) ?_
    show Run _ _ _ _ (T275.setTop (mkF m 115 #[.val (.int p1), .val (.int p2), .val (.long p3), .second, .val (.int (1 : Int32)), .val (.ref o_XZ), .val (.int (0 : Int32)), .unset, .unset, .unset, .unset, .unset] []))
    refine Run.step (fun t_ k_ => XS.bipush X275.here hx rfl (hb hby at_115) (XS.istore X275.here hx rfl (hb hby at_117) rfl (l' := #[.val (.int p1), .val (.int p2), .val (.long p3), .second, .val (.int (1 : Int32)), .val (.ref o_XZ), .val (.int (0 : Int32)), .val (.int (6 : Int32)), .unset, .unset, .unset, .unset]) rfl (XS.goto X275.here hx rfl (pc0 := 119) (pc' := 137) rfl (hb hby at_119) (by decide) (by decide) (XS.iload X275.here hx rfl (hb hby at_137) rfl (XS.iloadN X275.here hx rfl (hb hby at_139) rfl (XS.bipush X275.here hx rfl (hb hby at_140) k_)))))) ?_
    show Run _ _ _ _ (T275.setTop (mkF m 142 #[.val (.int p1), .val (.int p2), .val (.long p3), .second, .val (.int (1 : Int32)), .val (.ref o_XZ), .val (.int (0 : Int32)), .val (.int (6 : Int32)), .unset, .unset, .unset, .unset] [(.int (7 : Int32)), (.int p2), (.int (0 : Int32))]))
    refine Run.step (fun t_ k_ => XS.iand X275.here hx rfl (hb hby at_142) rfl (XS.iadd X275.here hx rfl (hb hby at_143) rfl (XS.istore X275.here hx rfl (hb hby at_144) rfl (l' := #[.val (.int p1), .val (.int p2), .val (.long p3), .second, .val (.int (1 : Int32)), .val (.ref o_XZ), .val (.int (0 : Int32)), .val (.int (6 : Int32)), .val (.int ((0 : Int32) + (p2 &&& (7 : Int32)))), .unset, .unset, .unset]) rfl (XS.iloadN X275.here hx rfl (hb hby at_146) rfl (XS.iconst X275.here hx rfl (hb hby at_147) (XS.iushr X275.here hx rfl (hb hby at_148) rfl k_)))))) ?_
    show Run _ _ _ _ (T275.setTop (mkF m 149 #[.val (.int p1), .val (.int p2), .val (.long p3), .second, .val (.int (1 : Int32)), .val (.ref o_XZ), .val (.int (0 : Int32)), .val (.int (6 : Int32)), .val (.int ((0 : Int32) + (p2 &&& (7 : Int32)))), .unset, .unset, .unset] [(.int ((p2.toUInt32 >>> ((3 : Int32) &&& 31).toUInt32).toInt32))]))
    refine Run.step (fun t_ k_ => XS.bipush X275.here hx rfl (hb hby at_149) (XS.iand X275.here hx rfl (hb hby at_151) rfl (XS.istore X275.here hx rfl (hb hby at_152) rfl (l' := #[.val (.int p1), .val (.int p2), .val (.long p3), .second, .val (.int (1 : Int32)), .val (.ref o_XZ), .val (.int (0 : Int32)), .val (.int (6 : Int32)), .val (.int ((0 : Int32) + (p2 &&& (7 : Int32)))), .val (.int (((p2.toUInt32 >>> ((3 : Int32) &&& 31).toUInt32).toInt32) &&& (63 : Int32))), .unset, .unset]) rfl k_))) ?_
    show Run _ _ _ _ (T275.setTop (mkF m 154 #[.val (.int p1), .val (.int p2), .val (.long p3), .second, .val (.int (1 : Int32)), .val (.ref o_XZ), .val (.int (0 : Int32)), .val (.int (6 : Int32)), .val (.int ((0 : Int32) + (p2 &&& (7 : Int32)))), .val (.int (((p2.toUInt32 >>> ((3 : Int32) &&& 31).toUInt32).toInt32) &&& (63 : Int32))), .unset, .unset] []))
    obtain ⟨nn, hnn⟩ : ∃ z, z = ((0 : Int32) + (p2 &&& (7 : Int32))) := ⟨_, rfl⟩
    rw [← hnn]
    have nn0 : ¬ nn < 0 := by rw [hnn]; exact (own_n0 p2).1
    have nn1 : nn.toNatClampNeg ≤ 7 := by rw [hnn]; exact (own_n0 p2).2
    obtain ⟨sl, hsl⟩ : ∃ z, z = (((p2.toUInt32 >>> ((3 : Int32) &&& 31).toUInt32).toInt32) &&& (63 : Int32)) := ⟨_, rfl⟩
    rw [← hsl]
    show Run _ _ _ _ (T275.setTop (mkF m 154 #[.val (.int p1), .val (.int p2), .val (.long p3), .second, .val (.int (1 : Int32)), .val (.ref o_XZ), .val (.int (0 : Int32)), .val (.int (6 : Int32)), .val (.int nn), .val (.int sl), .unset, .unset] []))
    refine Run.step (fun t_ k_ => XS.iload X275.here hx rfl (hb hby at_154) rfl k_) ?_
    show Run _ _ _ _ (T275.setTop (mkF m 156 #[.val (.int p1), .val (.int p2), .val (.long p3), .second, .val (.int (1 : Int32)), .val (.ref o_XZ), .val (.int (0 : Int32)), .val (.int (6 : Int32)), .val (.int nn), .val (.int sl), .unset, .unset] [(.int nn)]))
    obtain ⟨T276, h276, k276, X276, e276, E276, A276, st276⟩ := newP (aty := .byte) X275 hx hZ w4 e275 (g := (mkF m 156 #[.val (.int p1), .val (.int p2), .val (.long p3), .second, .val (.int (1 : Int32)), .val (.ref o_XZ), .val (.int (0 : Int32)), .val (.int (6 : Int32)), .val (.int nn), .val (.int sl), .unset, .unset] [(.int nn)])) rfl (hb hby at_156) rfl nn0 (cap := 7) nn1 (by decide) (by decide) (by decide)
    obtain ⟨b276, g276⟩ : ∃ z, z = h0.size := ⟨_, rfl⟩
    rw [← g276] at A276 st276
    refine Run.step st276 ?_
    have g_b276 : n0 ≤ b276 := Nat.le_trans Z0 (Nat.le_of_eq g276.symm)
    have z277 := Nat.le_trans Z0 E276.1
    have O278 := O0.ext E276
    have f279 : Arv Z h276 b276 k276 .byte nn [] (.int (0 : Int32)) := Arv.pad (Arv.new A276 nn0) (pad_rep [] (.int (0 : Int32)) 0)
    show Run _ _ _ _ (T276.setTop (mkF m 158 #[.val (.int p1), .val (.int p2), .val (.long p3), .second, .val (.int (1 : Int32)), .val (.ref o_XZ), .val (.int (0 : Int32)), .val (.int (6 : Int32)), .val (.int nn), .val (.int sl), .unset, .unset] [(.ref b276)]))
    refine Run.step (fun t_ k_ => XS.astore X276.here hx rfl (hb hby at_158) rfl rfl (l' := #[.val (.int p1), .val (.int p2), .val (.long p3), .second, .val (.int (1 : Int32)), .val (.ref o_XZ), .val (.int (0 : Int32)), .val (.int (6 : Int32)), .val (.int nn), .val (.int sl), .val (.ref b276), .unset]) rfl k_) ?_
    show Run _ _ _ _ (T276.setTop (mkF m 160 #[.val (.int p1), .val (.int p2), .val (.long p3), .second, .val (.int (1 : Int32)), .val (.ref o_XZ), .val (.int (0 : Int32)), .val (.int (6 : Int32)), .val (.int nn), .val (.int sl), .val (.ref b276), .unset] []))
    have fB := Bv.new f279
    refine Run.step (fun t_ k_ => XS.aload X276.here hx rfl (hb hby at_160) rfl rfl (XS.iload X276.here hx rfl (hb hby at_162) rfl (XS.iload X276.here hx rfl (hb hby at_164) rfl (XS.iconst X276.here hx rfl (hb hby at_166) (XS.iload X276.here hx rfl (hb hby at_167) rfl (XS.lloadN X276.here hx rfl (hb hby at_169) rfl k_)))))) ?_
    show Run _ _ _ _ (T276.setTop (mkF m 170 #[.val (.int p1), .val (.int p2), .val (.long p3), .second, .val (.int (1 : Int32)), .val (.ref o_XZ), .val (.int (0 : Int32)), .val (.int (6 : Int32)), .val (.int nn), .val (.int sl), .val (.ref b276), .unset] [(.long p3), (.int sl), (.int (0 : Int32)), (.int (1 : Int32)), (.int (0 : Int32)), (.ref b276)]))
    obtain ⟨_, _, ⟨T280, L280, k280, n280⟩, -, X280, ⟨Lc280, hQ280, l280, y280, z280⟩, st280⟩ := Jvm.LawKit.callS X276 hx (y := (⟨"cleave/io/PackedFormatHoldsMagicPinLaw", "pick", "(IIIJ)B"⟩ : MethodName)) hown (mvT hZ w5) (mvT hZ w6) (mvT hZ w7) (mvT hZ w8) (by decide) (backOf (W := 2) (rm1 l Z a0 hw [] (1 : Int32) (0 : Int32) sl p3 h276 n0 z277) hZ w8 w7 (by decide) (by decide)) (g := (mkF m 170 #[.val (.int p1), .val (.int p2), .val (.long p3), .second, .val (.int (1 : Int32)), .val (.ref o_XZ), .val (.int (0 : Int32)), .val (.int (6 : Int32)), .val (.int nn), .val (.int sl), .val (.ref b276), .unset] [(.long p3), (.int sl), (.int (0 : Int32)), (.int (1 : Int32)), (.int (0 : Int32)), (.ref b276)])) rfl (by rw [hml]; rfl) (argsL := [(.int (1 : Int32)), (.int (0 : Int32)), (.int sl), (.long p3)]) (rest := [(.int (0 : Int32)), (.ref b276)]) (lenOf pd__28IIIJ_29B rfl) rfl (by show 2 * 0 + _ ≤ _; exact Nat.le_of_eq rfl) (hb hby at_170) (fun _ _ => ⟨rfl, e276, (by decide : 1 + 0 ≤ _), (by decide : 7 + 0 ≤ _)⟩)
    dsimp only [Pt.U, Pt.locs, Pt.cells, Pt.slots] at X280 l280 y280 z280 st280 hQ280
    subst l280 y280 z280
    refine Run.step (st280) ?_
    obtain ⟨rfl, N280q, e280q⟩ := hQ280
    have N280 := Fr.app N0 N280q
    show Run _ _ _ _ (T280.setTop (mkF m 173 #[.val (.int p1), .val (.int p2), .val (.long p3), .second, .val (.int (1 : Int32)), .val (.ref o_XZ), .val (.int (0 : Int32)), .val (.int (6 : Int32)), .val (.int nn), .val (.int sl), .val (.ref b276), .unset] [(.int (own_pick (1 : Int32) (0 : Int32) sl p3)), (.int (0 : Int32)), (.ref b276)]))
    obtain ⟨b0, hb0⟩ : ∃ z, z = (own_pick (1 : Int32) (0 : Int32) sl p3) := ⟨_, rfl⟩
    rw [← hb0]
    have nb0 : nar .byte b0 = b0 := by rw [hb0]; exact own_pickb _ _ _ _
    show Run _ _ _ _ (T280.setTop (mkF m 173 #[.val (.int p1), .val (.int p2), .val (.long p3), .second, .val (.int (1 : Int32)), .val (.ref o_XZ), .val (.int (0 : Int32)), .val (.int (6 : Int32)), .val (.int nn), .val (.int sl), .val (.ref b276), .unset] [(.int b0), (.int (0 : Int32)), (.ref b276)]))
    obtain ⟨_, _, ⟨T281, L281, k281, n281⟩, -, X281, ⟨Lc281, hQ281, l281, y281, z281⟩, st281⟩ := Jvm.LawKit.callS X280 hx (y := (⟨"cleave/io/PackedFormatHoldsMagicPinLaw", "put", "([BIB)V"⟩ : MethodName)) hown (mvT hZ w9) (mvT hZ w10) (mvT hZ w7) (mvT hZ w11) (by decide) (backOf (W := 0) (rm2 l Z a0 hw [] b276 (0 : Int32) b0 nn (fun _ => 0) h276 n0 z277 fB (by decide) nb0 g_b276) hZ w11 w7 (by decide) (by decide)) (g := (mkF m 173 #[.val (.int p1), .val (.int p2), .val (.long p3), .second, .val (.int (1 : Int32)), .val (.ref o_XZ), .val (.int (0 : Int32)), .val (.int (6 : Int32)), .val (.int nn), .val (.int sl), .val (.ref b276), .unset] [(.int b0), (.int (0 : Int32)), (.ref b276)])) rfl (by rw [hml]; rfl) (argsL := [(.ref b276), (.int (0 : Int32)), (.int b0)]) (rest := []) (lenOf pd__28_5bBIB_29V rfl) rfl (by show 2 * 0 + _ ≤ _; exact Nat.le_of_eq rfl) (hb hby at_173) (fun _ _ => ⟨rfl, e280q, (by decide : 1 + 0 ≤ _), (by decide : 7 + 0 ≤ _)⟩)
    dsimp only [Pt.U, Pt.locs, Pt.cells, Pt.slots] at X281 l281 y281 z281 st281 hQ281
    subst l281 y281 z281
    refine Run.step (st281) ?_
    obtain ⟨rfl, N281q, K281q, fv281⟩ := hQ281
    have N281 := Fr.app N280 N281q
    have z283 := Nat.le_trans z277 K281q.1
    have O284 := O278.keep K281q (allS g_b276 all0)
    obtain ⟨gg281, hg281⟩ : ∃ z, z = own_up (fun _ => 0) (0 : Int32).toNatClampNeg b0 := ⟨_, rfl⟩
    rw [← hg281] at fv281
    show Run _ _ _ _ (T281.setTop (mkF m 176 #[.val (.int p1), .val (.int p2), .val (.long p3), .second, .val (.int (1 : Int32)), .val (.ref o_XZ), .val (.int (0 : Int32)), .val (.int (6 : Int32)), .val (.int nn), .val (.int sl), .val (.ref b276), .unset] []))
    refine Run.step (fun t_ k_ => XS.aload X281.here hx rfl (hb hby at_176) rfl rfl (XS.iload X281.here hx rfl (hb hby at_178) rfl (XS.iconst X281.here hx rfl (hb hby at_180) (XS.iadd X281.here hx rfl (hb hby at_181) rfl (XS.iload X281.here hx rfl (hb hby at_182) rfl (XS.iconst X281.here hx rfl (hb hby at_184) k_)))))) ?_
    show Run _ _ _ _ (T281.setTop (mkF m 185 #[.val (.int p1), .val (.int p2), .val (.long p3), .second, .val (.int (1 : Int32)), .val (.ref o_XZ), .val (.int (0 : Int32)), .val (.int (6 : Int32)), .val (.int nn), .val (.int sl), .val (.ref b276), .unset] [(.int (1 : Int32)), (.int (1 : Int32)), (.int (1 : Int32)), (.ref b276)]))
    refine Run.step (fun t_ k_ => XS.iload X281.here hx rfl (hb hby at_185) rfl (XS.lloadN X281.here hx rfl (hb hby at_187) rfl k_)) ?_
    show Run _ _ _ _ (T281.setTop (mkF m 188 #[.val (.int p1), .val (.int p2), .val (.long p3), .second, .val (.int (1 : Int32)), .val (.ref o_XZ), .val (.int (0 : Int32)), .val (.int (6 : Int32)), .val (.int nn), .val (.int sl), .val (.ref b276), .unset] [(.long p3), (.int sl), (.int (1 : Int32)), (.int (1 : Int32)), (.int (1 : Int32)), (.ref b276)]))
    obtain ⟨_, _, ⟨T285, L285, k285, n285⟩, -, X285, ⟨Lc285, hQ285, l285, y285, z285⟩, st285⟩ := Jvm.LawKit.callS X281 hx (y := (⟨"cleave/io/PackedFormatHoldsMagicPinLaw", "pick", "(IIIJ)B"⟩ : MethodName)) hown (mvT hZ w5) (mvT hZ w6) (mvT hZ w7) (mvT hZ w8) (by decide) (backOf (W := 2) (rm1 l Z a0 hw [] (1 : Int32) (1 : Int32) sl p3 T281.heap n0 z283) hZ w8 w7 (by decide) (by decide)) (g := (mkF m 188 #[.val (.int p1), .val (.int p2), .val (.long p3), .second, .val (.int (1 : Int32)), .val (.ref o_XZ), .val (.int (0 : Int32)), .val (.int (6 : Int32)), .val (.int nn), .val (.int sl), .val (.ref b276), .unset] [(.long p3), (.int sl), (.int (1 : Int32)), (.int (1 : Int32)), (.int (1 : Int32)), (.ref b276)])) rfl (by rw [hml]; rfl) (argsL := [(.int (1 : Int32)), (.int (1 : Int32)), (.int sl), (.long p3)]) (rest := [(.int (1 : Int32)), (.ref b276)]) (lenOf pd__28IIIJ_29B rfl) rfl (by show 2 * 0 + _ ≤ _; exact Nat.le_of_eq rfl) (hb hby at_188) (fun _ _ => ⟨rfl, rfl, (by decide : 1 + 0 ≤ _), (by decide : 7 + 0 ≤ _)⟩)
    dsimp only [Pt.U, Pt.locs, Pt.cells, Pt.slots] at X285 l285 y285 z285 st285 hQ285
    subst l285 y285 z285
    refine Run.step (st285) ?_
    obtain ⟨rfl, N285q, e285q⟩ := hQ285
    have N285 := Fr.app N281 N285q
    show Run _ _ _ _ (T285.setTop (mkF m 191 #[.val (.int p1), .val (.int p2), .val (.long p3), .second, .val (.int (1 : Int32)), .val (.ref o_XZ), .val (.int (0 : Int32)), .val (.int (6 : Int32)), .val (.int nn), .val (.int sl), .val (.ref b276), .unset] [(.int (own_pick (1 : Int32) (1 : Int32) sl p3)), (.int (1 : Int32)), (.ref b276)]))
    obtain ⟨b1, hb1⟩ : ∃ z, z = (own_pick (1 : Int32) (1 : Int32) sl p3) := ⟨_, rfl⟩
    rw [← hb1]
    have nb1 : nar .byte b1 = b1 := by rw [hb1]; exact own_pickb _ _ _ _
    show Run _ _ _ _ (T285.setTop (mkF m 191 #[.val (.int p1), .val (.int p2), .val (.long p3), .second, .val (.int (1 : Int32)), .val (.ref o_XZ), .val (.int (0 : Int32)), .val (.int (6 : Int32)), .val (.int nn), .val (.int sl), .val (.ref b276), .unset] [(.int b1), (.int (1 : Int32)), (.ref b276)]))
    obtain ⟨_, _, ⟨T286, L286, k286, n286⟩, -, X286, ⟨Lc286, hQ286, l286, y286, z286⟩, st286⟩ := Jvm.LawKit.callS X285 hx (y := (⟨"cleave/io/PackedFormatHoldsMagicPinLaw", "put", "([BIB)V"⟩ : MethodName)) hown (mvT hZ w9) (mvT hZ w10) (mvT hZ w7) (mvT hZ w11) (by decide) (backOf (W := 0) (rm2 l Z a0 hw [] b276 (1 : Int32) b1 nn gg281 T281.heap n0 z283 fv281 (by decide) nb1 g_b276) hZ w11 w7 (by decide) (by decide)) (g := (mkF m 191 #[.val (.int p1), .val (.int p2), .val (.long p3), .second, .val (.int (1 : Int32)), .val (.ref o_XZ), .val (.int (0 : Int32)), .val (.int (6 : Int32)), .val (.int nn), .val (.int sl), .val (.ref b276), .unset] [(.int b1), (.int (1 : Int32)), (.ref b276)])) rfl (by rw [hml]; rfl) (argsL := [(.ref b276), (.int (1 : Int32)), (.int b1)]) (rest := []) (lenOf pd__28_5bBIB_29V rfl) rfl (by show 2 * 0 + _ ≤ _; exact Nat.le_of_eq rfl) (hb hby at_191) (fun _ _ => ⟨rfl, e285q, (by decide : 1 + 0 ≤ _), (by decide : 7 + 0 ≤ _)⟩)
    dsimp only [Pt.U, Pt.locs, Pt.cells, Pt.slots] at X286 l286 y286 z286 st286 hQ286
    subst l286 y286 z286
    refine Run.step (st286) ?_
    obtain ⟨rfl, N286q, K286q, fv286⟩ := hQ286
    have N286 := Fr.app N285 N286q
    have z288 := Nat.le_trans z283 K286q.1
    have O289 := O284.keep K286q (allS g_b276 all0)
    obtain ⟨gg286, hg286⟩ : ∃ z, z = own_up gg281 (1 : Int32).toNatClampNeg b1 := ⟨_, rfl⟩
    rw [← hg286] at fv286
    show Run _ _ _ _ (T286.setTop (mkF m 194 #[.val (.int p1), .val (.int p2), .val (.long p3), .second, .val (.int (1 : Int32)), .val (.ref o_XZ), .val (.int (0 : Int32)), .val (.int (6 : Int32)), .val (.int nn), .val (.int sl), .val (.ref b276), .unset] []))
    refine Run.step (fun t_ k_ => XS.aload X286.here hx rfl (hb hby at_194) rfl rfl (XS.iload X286.here hx rfl (hb hby at_196) rfl (XS.iconst X286.here hx rfl (hb hby at_198) (XS.iadd X286.here hx rfl (hb hby at_199) rfl (XS.iload X286.here hx rfl (hb hby at_200) rfl (XS.iconst X286.here hx rfl (hb hby at_202) k_)))))) ?_
    show Run _ _ _ _ (T286.setTop (mkF m 203 #[.val (.int p1), .val (.int p2), .val (.long p3), .second, .val (.int (1 : Int32)), .val (.ref o_XZ), .val (.int (0 : Int32)), .val (.int (6 : Int32)), .val (.int nn), .val (.int sl), .val (.ref b276), .unset] [(.int (2 : Int32)), (.int (1 : Int32)), (.int (2 : Int32)), (.ref b276)]))
    refine Run.step (fun t_ k_ => XS.iload X286.here hx rfl (hb hby at_203) rfl (XS.lloadN X286.here hx rfl (hb hby at_205) rfl k_)) ?_
    show Run _ _ _ _ (T286.setTop (mkF m 206 #[.val (.int p1), .val (.int p2), .val (.long p3), .second, .val (.int (1 : Int32)), .val (.ref o_XZ), .val (.int (0 : Int32)), .val (.int (6 : Int32)), .val (.int nn), .val (.int sl), .val (.ref b276), .unset] [(.long p3), (.int sl), (.int (2 : Int32)), (.int (1 : Int32)), (.int (2 : Int32)), (.ref b276)]))
    obtain ⟨_, _, ⟨T290, L290, k290, n290⟩, -, X290, ⟨Lc290, hQ290, l290, y290, z290⟩, st290⟩ := Jvm.LawKit.callS X286 hx (y := (⟨"cleave/io/PackedFormatHoldsMagicPinLaw", "pick", "(IIIJ)B"⟩ : MethodName)) hown (mvT hZ w5) (mvT hZ w6) (mvT hZ w7) (mvT hZ w8) (by decide) (backOf (W := 2) (rm1 l Z a0 hw [] (1 : Int32) (2 : Int32) sl p3 T286.heap n0 z288) hZ w8 w7 (by decide) (by decide)) (g := (mkF m 206 #[.val (.int p1), .val (.int p2), .val (.long p3), .second, .val (.int (1 : Int32)), .val (.ref o_XZ), .val (.int (0 : Int32)), .val (.int (6 : Int32)), .val (.int nn), .val (.int sl), .val (.ref b276), .unset] [(.long p3), (.int sl), (.int (2 : Int32)), (.int (1 : Int32)), (.int (2 : Int32)), (.ref b276)])) rfl (by rw [hml]; rfl) (argsL := [(.int (1 : Int32)), (.int (2 : Int32)), (.int sl), (.long p3)]) (rest := [(.int (2 : Int32)), (.ref b276)]) (lenOf pd__28IIIJ_29B rfl) rfl (by show 2 * 0 + _ ≤ _; exact Nat.le_of_eq rfl) (hb hby at_206) (fun _ _ => ⟨rfl, rfl, (by decide : 1 + 0 ≤ _), (by decide : 7 + 0 ≤ _)⟩)
    dsimp only [Pt.U, Pt.locs, Pt.cells, Pt.slots] at X290 l290 y290 z290 st290 hQ290
    subst l290 y290 z290
    refine Run.step (st290) ?_
    obtain ⟨rfl, N290q, e290q⟩ := hQ290
    have N290 := Fr.app N286 N290q
    show Run _ _ _ _ (T290.setTop (mkF m 209 #[.val (.int p1), .val (.int p2), .val (.long p3), .second, .val (.int (1 : Int32)), .val (.ref o_XZ), .val (.int (0 : Int32)), .val (.int (6 : Int32)), .val (.int nn), .val (.int sl), .val (.ref b276), .unset] [(.int (own_pick (1 : Int32) (2 : Int32) sl p3)), (.int (2 : Int32)), (.ref b276)]))
    obtain ⟨b2, hb2⟩ : ∃ z, z = (own_pick (1 : Int32) (2 : Int32) sl p3) := ⟨_, rfl⟩
    rw [← hb2]
    have nb2 : nar .byte b2 = b2 := by rw [hb2]; exact own_pickb _ _ _ _
    show Run _ _ _ _ (T290.setTop (mkF m 209 #[.val (.int p1), .val (.int p2), .val (.long p3), .second, .val (.int (1 : Int32)), .val (.ref o_XZ), .val (.int (0 : Int32)), .val (.int (6 : Int32)), .val (.int nn), .val (.int sl), .val (.ref b276), .unset] [(.int b2), (.int (2 : Int32)), (.ref b276)]))
    obtain ⟨_, _, ⟨T291, L291, k291, n291⟩, -, X291, ⟨Lc291, hQ291, l291, y291, z291⟩, st291⟩ := Jvm.LawKit.callS X290 hx (y := (⟨"cleave/io/PackedFormatHoldsMagicPinLaw", "put", "([BIB)V"⟩ : MethodName)) hown (mvT hZ w9) (mvT hZ w10) (mvT hZ w7) (mvT hZ w11) (by decide) (backOf (W := 0) (rm2 l Z a0 hw [] b276 (2 : Int32) b2 nn gg286 T286.heap n0 z288 fv286 (by decide) nb2 g_b276) hZ w11 w7 (by decide) (by decide)) (g := (mkF m 209 #[.val (.int p1), .val (.int p2), .val (.long p3), .second, .val (.int (1 : Int32)), .val (.ref o_XZ), .val (.int (0 : Int32)), .val (.int (6 : Int32)), .val (.int nn), .val (.int sl), .val (.ref b276), .unset] [(.int b2), (.int (2 : Int32)), (.ref b276)])) rfl (by rw [hml]; rfl) (argsL := [(.ref b276), (.int (2 : Int32)), (.int b2)]) (rest := []) (lenOf pd__28_5bBIB_29V rfl) rfl (by show 2 * 0 + _ ≤ _; exact Nat.le_of_eq rfl) (hb hby at_209) (fun _ _ => ⟨rfl, e290q, (by decide : 1 + 0 ≤ _), (by decide : 7 + 0 ≤ _)⟩)
    dsimp only [Pt.U, Pt.locs, Pt.cells, Pt.slots] at X291 l291 y291 z291 st291 hQ291
    subst l291 y291 z291
    refine Run.step (st291) ?_
    obtain ⟨rfl, N291q, K291q, fv291⟩ := hQ291
    have N291 := Fr.app N290 N291q
    have z293 := Nat.le_trans z288 K291q.1
    have O294 := O289.keep K291q (allS g_b276 all0)
    obtain ⟨gg291, hg291⟩ : ∃ z, z = own_up gg286 (2 : Int32).toNatClampNeg b2 := ⟨_, rfl⟩
    rw [← hg291] at fv291
    show Run _ _ _ _ (T291.setTop (mkF m 212 #[.val (.int p1), .val (.int p2), .val (.long p3), .second, .val (.int (1 : Int32)), .val (.ref o_XZ), .val (.int (0 : Int32)), .val (.int (6 : Int32)), .val (.int nn), .val (.int sl), .val (.ref b276), .unset] []))
    refine Run.step (fun t_ k_ => XS.aload X291.here hx rfl (hb hby at_212) rfl rfl (XS.iload X291.here hx rfl (hb hby at_214) rfl (XS.iconst X291.here hx rfl (hb hby at_216) (XS.iadd X291.here hx rfl (hb hby at_217) rfl (XS.iload X291.here hx rfl (hb hby at_218) rfl (XS.iconst X291.here hx rfl (hb hby at_220) k_)))))) ?_
    show Run _ _ _ _ (T291.setTop (mkF m 221 #[.val (.int p1), .val (.int p2), .val (.long p3), .second, .val (.int (1 : Int32)), .val (.ref o_XZ), .val (.int (0 : Int32)), .val (.int (6 : Int32)), .val (.int nn), .val (.int sl), .val (.ref b276), .unset] [(.int (3 : Int32)), (.int (1 : Int32)), (.int (3 : Int32)), (.ref b276)]))
    refine Run.step (fun t_ k_ => XS.iload X291.here hx rfl (hb hby at_221) rfl (XS.lloadN X291.here hx rfl (hb hby at_223) rfl k_)) ?_
    show Run _ _ _ _ (T291.setTop (mkF m 224 #[.val (.int p1), .val (.int p2), .val (.long p3), .second, .val (.int (1 : Int32)), .val (.ref o_XZ), .val (.int (0 : Int32)), .val (.int (6 : Int32)), .val (.int nn), .val (.int sl), .val (.ref b276), .unset] [(.long p3), (.int sl), (.int (3 : Int32)), (.int (1 : Int32)), (.int (3 : Int32)), (.ref b276)]))
    obtain ⟨_, _, ⟨T295, L295, k295, n295⟩, -, X295, ⟨Lc295, hQ295, l295, y295, z295⟩, st295⟩ := Jvm.LawKit.callS X291 hx (y := (⟨"cleave/io/PackedFormatHoldsMagicPinLaw", "pick", "(IIIJ)B"⟩ : MethodName)) hown (mvT hZ w5) (mvT hZ w6) (mvT hZ w7) (mvT hZ w8) (by decide) (backOf (W := 2) (rm1 l Z a0 hw [] (1 : Int32) (3 : Int32) sl p3 T291.heap n0 z293) hZ w8 w7 (by decide) (by decide)) (g := (mkF m 224 #[.val (.int p1), .val (.int p2), .val (.long p3), .second, .val (.int (1 : Int32)), .val (.ref o_XZ), .val (.int (0 : Int32)), .val (.int (6 : Int32)), .val (.int nn), .val (.int sl), .val (.ref b276), .unset] [(.long p3), (.int sl), (.int (3 : Int32)), (.int (1 : Int32)), (.int (3 : Int32)), (.ref b276)])) rfl (by rw [hml]; rfl) (argsL := [(.int (1 : Int32)), (.int (3 : Int32)), (.int sl), (.long p3)]) (rest := [(.int (3 : Int32)), (.ref b276)]) (lenOf pd__28IIIJ_29B rfl) rfl (by show 2 * 0 + _ ≤ _; exact Nat.le_of_eq rfl) (hb hby at_224) (fun _ _ => ⟨rfl, rfl, (by decide : 1 + 0 ≤ _), (by decide : 7 + 0 ≤ _)⟩)
    dsimp only [Pt.U, Pt.locs, Pt.cells, Pt.slots] at X295 l295 y295 z295 st295 hQ295
    subst l295 y295 z295
    refine Run.step (st295) ?_
    obtain ⟨rfl, N295q, e295q⟩ := hQ295
    have N295 := Fr.app N291 N295q
    show Run _ _ _ _ (T295.setTop (mkF m 227 #[.val (.int p1), .val (.int p2), .val (.long p3), .second, .val (.int (1 : Int32)), .val (.ref o_XZ), .val (.int (0 : Int32)), .val (.int (6 : Int32)), .val (.int nn), .val (.int sl), .val (.ref b276), .unset] [(.int (own_pick (1 : Int32) (3 : Int32) sl p3)), (.int (3 : Int32)), (.ref b276)]))
    obtain ⟨b3, hb3⟩ : ∃ z, z = (own_pick (1 : Int32) (3 : Int32) sl p3) := ⟨_, rfl⟩
    rw [← hb3]
    have nb3 : nar .byte b3 = b3 := by rw [hb3]; exact own_pickb _ _ _ _
    show Run _ _ _ _ (T295.setTop (mkF m 227 #[.val (.int p1), .val (.int p2), .val (.long p3), .second, .val (.int (1 : Int32)), .val (.ref o_XZ), .val (.int (0 : Int32)), .val (.int (6 : Int32)), .val (.int nn), .val (.int sl), .val (.ref b276), .unset] [(.int b3), (.int (3 : Int32)), (.ref b276)]))
    obtain ⟨_, _, ⟨T296, L296, k296, n296⟩, -, X296, ⟨Lc296, hQ296, l296, y296, z296⟩, st296⟩ := Jvm.LawKit.callS X295 hx (y := (⟨"cleave/io/PackedFormatHoldsMagicPinLaw", "put", "([BIB)V"⟩ : MethodName)) hown (mvT hZ w9) (mvT hZ w10) (mvT hZ w7) (mvT hZ w11) (by decide) (backOf (W := 0) (rm2 l Z a0 hw [] b276 (3 : Int32) b3 nn gg291 T291.heap n0 z293 fv291 (by decide) nb3 g_b276) hZ w11 w7 (by decide) (by decide)) (g := (mkF m 227 #[.val (.int p1), .val (.int p2), .val (.long p3), .second, .val (.int (1 : Int32)), .val (.ref o_XZ), .val (.int (0 : Int32)), .val (.int (6 : Int32)), .val (.int nn), .val (.int sl), .val (.ref b276), .unset] [(.int b3), (.int (3 : Int32)), (.ref b276)])) rfl (by rw [hml]; rfl) (argsL := [(.ref b276), (.int (3 : Int32)), (.int b3)]) (rest := []) (lenOf pd__28_5bBIB_29V rfl) rfl (by show 2 * 0 + _ ≤ _; exact Nat.le_of_eq rfl) (hb hby at_227) (fun _ _ => ⟨rfl, e295q, (by decide : 1 + 0 ≤ _), (by decide : 7 + 0 ≤ _)⟩)
    dsimp only [Pt.U, Pt.locs, Pt.cells, Pt.slots] at X296 l296 y296 z296 st296 hQ296
    subst l296 y296 z296
    refine Run.step (st296) ?_
    obtain ⟨rfl, N296q, K296q, fv296⟩ := hQ296
    have N296 := Fr.app N295 N296q
    have z298 := Nat.le_trans z293 K296q.1
    have O299 := O294.keep K296q (allS g_b276 all0)
    obtain ⟨gg296, hg296⟩ : ∃ z, z = own_up gg291 (3 : Int32).toNatClampNeg b3 := ⟨_, rfl⟩
    rw [← hg296] at fv296
    show Run _ _ _ _ (T296.setTop (mkF m 230 #[.val (.int p1), .val (.int p2), .val (.long p3), .second, .val (.int (1 : Int32)), .val (.ref o_XZ), .val (.int (0 : Int32)), .val (.int (6 : Int32)), .val (.int nn), .val (.int sl), .val (.ref b276), .unset] []))
    refine Run.step (fun t_ k_ => XS.aload X296.here hx rfl (hb hby at_230) rfl rfl (XS.iload X296.here hx rfl (hb hby at_232) rfl (XS.iconst X296.here hx rfl (hb hby at_234) (XS.iadd X296.here hx rfl (hb hby at_235) rfl (XS.iload X296.here hx rfl (hb hby at_236) rfl (XS.iconst X296.here hx rfl (hb hby at_238) k_)))))) ?_
    show Run _ _ _ _ (T296.setTop (mkF m 239 #[.val (.int p1), .val (.int p2), .val (.long p3), .second, .val (.int (1 : Int32)), .val (.ref o_XZ), .val (.int (0 : Int32)), .val (.int (6 : Int32)), .val (.int nn), .val (.int sl), .val (.ref b276), .unset] [(.int (4 : Int32)), (.int (1 : Int32)), (.int (4 : Int32)), (.ref b276)]))
    refine Run.step (fun t_ k_ => XS.iload X296.here hx rfl (hb hby at_239) rfl (XS.lloadN X296.here hx rfl (hb hby at_241) rfl k_)) ?_
    show Run _ _ _ _ (T296.setTop (mkF m 242 #[.val (.int p1), .val (.int p2), .val (.long p3), .second, .val (.int (1 : Int32)), .val (.ref o_XZ), .val (.int (0 : Int32)), .val (.int (6 : Int32)), .val (.int nn), .val (.int sl), .val (.ref b276), .unset] [(.long p3), (.int sl), (.int (4 : Int32)), (.int (1 : Int32)), (.int (4 : Int32)), (.ref b276)]))
    obtain ⟨_, _, ⟨T300, L300, k300, n300⟩, -, X300, ⟨Lc300, hQ300, l300, y300, z300⟩, st300⟩ := Jvm.LawKit.callS X296 hx (y := (⟨"cleave/io/PackedFormatHoldsMagicPinLaw", "pick", "(IIIJ)B"⟩ : MethodName)) hown (mvT hZ w5) (mvT hZ w6) (mvT hZ w7) (mvT hZ w8) (by decide) (backOf (W := 2) (rm1 l Z a0 hw [] (1 : Int32) (4 : Int32) sl p3 T296.heap n0 z298) hZ w8 w7 (by decide) (by decide)) (g := (mkF m 242 #[.val (.int p1), .val (.int p2), .val (.long p3), .second, .val (.int (1 : Int32)), .val (.ref o_XZ), .val (.int (0 : Int32)), .val (.int (6 : Int32)), .val (.int nn), .val (.int sl), .val (.ref b276), .unset] [(.long p3), (.int sl), (.int (4 : Int32)), (.int (1 : Int32)), (.int (4 : Int32)), (.ref b276)])) rfl (by rw [hml]; rfl) (argsL := [(.int (1 : Int32)), (.int (4 : Int32)), (.int sl), (.long p3)]) (rest := [(.int (4 : Int32)), (.ref b276)]) (lenOf pd__28IIIJ_29B rfl) rfl (by show 2 * 0 + _ ≤ _; exact Nat.le_of_eq rfl) (hb hby at_242) (fun _ _ => ⟨rfl, rfl, (by decide : 1 + 0 ≤ _), (by decide : 7 + 0 ≤ _)⟩)
    dsimp only [Pt.U, Pt.locs, Pt.cells, Pt.slots] at X300 l300 y300 z300 st300 hQ300
    subst l300 y300 z300
    refine Run.step (st300) ?_
    obtain ⟨rfl, N300q, e300q⟩ := hQ300
    have N300 := Fr.app N296 N300q
    show Run _ _ _ _ (T300.setTop (mkF m 245 #[.val (.int p1), .val (.int p2), .val (.long p3), .second, .val (.int (1 : Int32)), .val (.ref o_XZ), .val (.int (0 : Int32)), .val (.int (6 : Int32)), .val (.int nn), .val (.int sl), .val (.ref b276), .unset] [(.int (own_pick (1 : Int32) (4 : Int32) sl p3)), (.int (4 : Int32)), (.ref b276)]))
    obtain ⟨b4, hb4⟩ : ∃ z, z = (own_pick (1 : Int32) (4 : Int32) sl p3) := ⟨_, rfl⟩
    rw [← hb4]
    have nb4 : nar .byte b4 = b4 := by rw [hb4]; exact own_pickb _ _ _ _
    show Run _ _ _ _ (T300.setTop (mkF m 245 #[.val (.int p1), .val (.int p2), .val (.long p3), .second, .val (.int (1 : Int32)), .val (.ref o_XZ), .val (.int (0 : Int32)), .val (.int (6 : Int32)), .val (.int nn), .val (.int sl), .val (.ref b276), .unset] [(.int b4), (.int (4 : Int32)), (.ref b276)]))
    obtain ⟨_, _, ⟨T301, L301, k301, n301⟩, -, X301, ⟨Lc301, hQ301, l301, y301, z301⟩, st301⟩ := Jvm.LawKit.callS X300 hx (y := (⟨"cleave/io/PackedFormatHoldsMagicPinLaw", "put", "([BIB)V"⟩ : MethodName)) hown (mvT hZ w9) (mvT hZ w10) (mvT hZ w7) (mvT hZ w11) (by decide) (backOf (W := 0) (rm2 l Z a0 hw [] b276 (4 : Int32) b4 nn gg296 T296.heap n0 z298 fv296 (by decide) nb4 g_b276) hZ w11 w7 (by decide) (by decide)) (g := (mkF m 245 #[.val (.int p1), .val (.int p2), .val (.long p3), .second, .val (.int (1 : Int32)), .val (.ref o_XZ), .val (.int (0 : Int32)), .val (.int (6 : Int32)), .val (.int nn), .val (.int sl), .val (.ref b276), .unset] [(.int b4), (.int (4 : Int32)), (.ref b276)])) rfl (by rw [hml]; rfl) (argsL := [(.ref b276), (.int (4 : Int32)), (.int b4)]) (rest := []) (lenOf pd__28_5bBIB_29V rfl) rfl (by show 2 * 0 + _ ≤ _; exact Nat.le_of_eq rfl) (hb hby at_245) (fun _ _ => ⟨rfl, e300q, (by decide : 1 + 0 ≤ _), (by decide : 7 + 0 ≤ _)⟩)
    dsimp only [Pt.U, Pt.locs, Pt.cells, Pt.slots] at X301 l301 y301 z301 st301 hQ301
    subst l301 y301 z301
    refine Run.step (st301) ?_
    obtain ⟨rfl, N301q, K301q, fv301⟩ := hQ301
    have N301 := Fr.app N300 N301q
    have z303 := Nat.le_trans z298 K301q.1
    have O304 := O299.keep K301q (allS g_b276 all0)
    obtain ⟨gg301, hg301⟩ : ∃ z, z = own_up gg296 (4 : Int32).toNatClampNeg b4 := ⟨_, rfl⟩
    rw [← hg301] at fv301
    show Run _ _ _ _ (T301.setTop (mkF m 248 #[.val (.int p1), .val (.int p2), .val (.long p3), .second, .val (.int (1 : Int32)), .val (.ref o_XZ), .val (.int (0 : Int32)), .val (.int (6 : Int32)), .val (.int nn), .val (.int sl), .val (.ref b276), .unset] []))
    refine Run.step (fun t_ k_ => XS.aload X301.here hx rfl (hb hby at_248) rfl rfl (XS.iload X301.here hx rfl (hb hby at_250) rfl (XS.iconst X301.here hx rfl (hb hby at_252) (XS.iadd X301.here hx rfl (hb hby at_253) rfl (XS.iload X301.here hx rfl (hb hby at_254) rfl (XS.iconst X301.here hx rfl (hb hby at_256) k_)))))) ?_
    show Run _ _ _ _ (T301.setTop (mkF m 257 #[.val (.int p1), .val (.int p2), .val (.long p3), .second, .val (.int (1 : Int32)), .val (.ref o_XZ), .val (.int (0 : Int32)), .val (.int (6 : Int32)), .val (.int nn), .val (.int sl), .val (.ref b276), .unset] [(.int (5 : Int32)), (.int (1 : Int32)), (.int (5 : Int32)), (.ref b276)]))
    refine Run.step (fun t_ k_ => XS.iload X301.here hx rfl (hb hby at_257) rfl (XS.lloadN X301.here hx rfl (hb hby at_259) rfl k_)) ?_
    show Run _ _ _ _ (T301.setTop (mkF m 260 #[.val (.int p1), .val (.int p2), .val (.long p3), .second, .val (.int (1 : Int32)), .val (.ref o_XZ), .val (.int (0 : Int32)), .val (.int (6 : Int32)), .val (.int nn), .val (.int sl), .val (.ref b276), .unset] [(.long p3), (.int sl), (.int (5 : Int32)), (.int (1 : Int32)), (.int (5 : Int32)), (.ref b276)]))
    obtain ⟨_, _, ⟨T305, L305, k305, n305⟩, -, X305, ⟨Lc305, hQ305, l305, y305, z305⟩, st305⟩ := Jvm.LawKit.callS X301 hx (y := (⟨"cleave/io/PackedFormatHoldsMagicPinLaw", "pick", "(IIIJ)B"⟩ : MethodName)) hown (mvT hZ w5) (mvT hZ w6) (mvT hZ w7) (mvT hZ w8) (by decide) (backOf (W := 2) (rm1 l Z a0 hw [] (1 : Int32) (5 : Int32) sl p3 T301.heap n0 z303) hZ w8 w7 (by decide) (by decide)) (g := (mkF m 260 #[.val (.int p1), .val (.int p2), .val (.long p3), .second, .val (.int (1 : Int32)), .val (.ref o_XZ), .val (.int (0 : Int32)), .val (.int (6 : Int32)), .val (.int nn), .val (.int sl), .val (.ref b276), .unset] [(.long p3), (.int sl), (.int (5 : Int32)), (.int (1 : Int32)), (.int (5 : Int32)), (.ref b276)])) rfl (by rw [hml]; rfl) (argsL := [(.int (1 : Int32)), (.int (5 : Int32)), (.int sl), (.long p3)]) (rest := [(.int (5 : Int32)), (.ref b276)]) (lenOf pd__28IIIJ_29B rfl) rfl (by show 2 * 0 + _ ≤ _; exact Nat.le_of_eq rfl) (hb hby at_260) (fun _ _ => ⟨rfl, rfl, (by decide : 1 + 0 ≤ _), (by decide : 7 + 0 ≤ _)⟩)
    dsimp only [Pt.U, Pt.locs, Pt.cells, Pt.slots] at X305 l305 y305 z305 st305 hQ305
    subst l305 y305 z305
    refine Run.step (st305) ?_
    obtain ⟨rfl, N305q, e305q⟩ := hQ305
    have N305 := Fr.app N301 N305q
    show Run _ _ _ _ (T305.setTop (mkF m 263 #[.val (.int p1), .val (.int p2), .val (.long p3), .second, .val (.int (1 : Int32)), .val (.ref o_XZ), .val (.int (0 : Int32)), .val (.int (6 : Int32)), .val (.int nn), .val (.int sl), .val (.ref b276), .unset] [(.int (own_pick (1 : Int32) (5 : Int32) sl p3)), (.int (5 : Int32)), (.ref b276)]))
    obtain ⟨b5, hb5⟩ : ∃ z, z = (own_pick (1 : Int32) (5 : Int32) sl p3) := ⟨_, rfl⟩
    rw [← hb5]
    have nb5 : nar .byte b5 = b5 := by rw [hb5]; exact own_pickb _ _ _ _
    show Run _ _ _ _ (T305.setTop (mkF m 263 #[.val (.int p1), .val (.int p2), .val (.long p3), .second, .val (.int (1 : Int32)), .val (.ref o_XZ), .val (.int (0 : Int32)), .val (.int (6 : Int32)), .val (.int nn), .val (.int sl), .val (.ref b276), .unset] [(.int b5), (.int (5 : Int32)), (.ref b276)]))
    obtain ⟨_, _, ⟨T306, L306, k306, n306⟩, -, X306, ⟨Lc306, hQ306, l306, y306, z306⟩, st306⟩ := Jvm.LawKit.callS X305 hx (y := (⟨"cleave/io/PackedFormatHoldsMagicPinLaw", "put", "([BIB)V"⟩ : MethodName)) hown (mvT hZ w9) (mvT hZ w10) (mvT hZ w7) (mvT hZ w11) (by decide) (backOf (W := 0) (rm2 l Z a0 hw [] b276 (5 : Int32) b5 nn gg301 T301.heap n0 z303 fv301 (by decide) nb5 g_b276) hZ w11 w7 (by decide) (by decide)) (g := (mkF m 263 #[.val (.int p1), .val (.int p2), .val (.long p3), .second, .val (.int (1 : Int32)), .val (.ref o_XZ), .val (.int (0 : Int32)), .val (.int (6 : Int32)), .val (.int nn), .val (.int sl), .val (.ref b276), .unset] [(.int b5), (.int (5 : Int32)), (.ref b276)])) rfl (by rw [hml]; rfl) (argsL := [(.ref b276), (.int (5 : Int32)), (.int b5)]) (rest := []) (lenOf pd__28_5bBIB_29V rfl) rfl (by show 2 * 0 + _ ≤ _; exact Nat.le_of_eq rfl) (hb hby at_263) (fun _ _ => ⟨rfl, e305q, (by decide : 1 + 0 ≤ _), (by decide : 7 + 0 ≤ _)⟩)
    dsimp only [Pt.U, Pt.locs, Pt.cells, Pt.slots] at X306 l306 y306 z306 st306 hQ306
    subst l306 y306 z306
    refine Run.step (st306) ?_
    obtain ⟨rfl, N306q, K306q, fv306⟩ := hQ306
    have N306 := Fr.app N305 N306q
    have z308 := Nat.le_trans z303 K306q.1
    have O309 := O304.keep K306q (allS g_b276 all0)
    obtain ⟨gg306, hg306⟩ : ∃ z, z = own_up gg301 (5 : Int32).toNatClampNeg b5 := ⟨_, rfl⟩
    rw [← hg306] at fv306
    show Run _ _ _ _ (T306.setTop (mkF m 266 #[.val (.int p1), .val (.int p2), .val (.long p3), .second, .val (.int (1 : Int32)), .val (.ref o_XZ), .val (.int (0 : Int32)), .val (.int (6 : Int32)), .val (.int nn), .val (.int sl), .val (.ref b276), .unset] []))
    have v0 : gg306 0 = b0 := by rw [hg306, hg301, hg296, hg291, hg286, hg281]; rfl
    have v1 : gg306 1 = b1 := by rw [hg306, hg301, hg296, hg291, hg286, hg281]; rfl
    have v2 : gg306 2 = b2 := by rw [hg306, hg301, hg296, hg291, hg286, hg281]; rfl
    have v3 : gg306 3 = b3 := by rw [hg306, hg301, hg296, hg291, hg286, hg281]; rfl
    have v4 : gg306 4 = b4 := by rw [hg306, hg301, hg296, hg291, hg286, hg281]; rfl
    have v5 : gg306 5 = b5 := by rw [hg306, hg301, hg296, hg291, hg286, hg281]; rfl
    refine Run.step (fun t_ k_ => XS.iload X306.here hx rfl (hb hby at_266) rfl (XS.iload X306.here hx rfl (hb hby at_268) rfl (XS.iload X306.here hx rfl (hb hby at_270) rfl (XS.iadd X306.here hx rfl (hb hby at_272) rfl k_)))) ?_
    show Run _ _ _ _ (T306.setTop (mkF m 273 #[.val (.int p1), .val (.int p2), .val (.long p3), .second, .val (.int (1 : Int32)), .val (.ref o_XZ), .val (.int (0 : Int32)), .val (.int (6 : Int32)), .val (.int nn), .val (.int sl), .val (.ref b276), .unset] [(.int (6 : Int32)), (.int nn)]))
    have J310 : ∀ (TJ310 : State) (LJ310 : List Loc) (XJ310 : Stand p l e room_1 s m #[(.int p1), (.int p2), (.long p3)] below meth c TJ310 LJ310 1 7) (eJ310 : TJ310.heap = T306.heap) (NJ310 : Fr n0 LJ310) (wt : Int32), (wt = if nn < (6 : Int32) then 0 else (if b0 = (-3 : Int32) then (if b1 = (55 : Int32) then (if b2 = (122 : Int32) then (if b3 = (88 : Int32) then (if b4 = (90 : Int32) then (if b5 = (0 : Int32) then (1) else 0) else 0) else 0) else 0) else 0) else 0)) → Run p.tables e below (PQ s below 16 640 (Q0 Z p1 p2 p3 o_BZIP2 mg_BZIP2 km_BZIP2 o_XZ mg_XZ km_XZ o_ZSTD mg_ZSTD km_ZSTD o_ZIP mg_ZIP km_ZIP o_TAR mg_TAR km_TAR o_GZIP_TAR mg_GZIP_TAR km_GZIP_TAR h0 n0)) (TJ310.setTop (mkF m 372 #[.val (.int p1), .val (.int p2), .val (.long p3), .second, .val (.int (1 : Int32)), .val (.ref o_XZ), .val (.int (0 : Int32)), .val (.int (6 : Int32)), .val (.int nn), .val (.int sl), .val (.ref b276), .unset] [(.int wt)])) := by
      intro TJ310 LJ310 XJ310 eJ310 NJ310 wt hv310
      refine Run.step (fun t_ k_ => XS.istore XJ310.here hx rfl (hb hby at_372) rfl (l' := #[.val (.int p1), .val (.int p2), .val (.long p3), .second, .val (.int (1 : Int32)), .val (.ref o_XZ), .val (.int (0 : Int32)), .val (.int (6 : Int32)), .val (.int nn), .val (.int sl), .val (.ref b276), .val (.int wt)]) rfl (XS.aload XJ310.here hx rfl (hb hby at_374) rfl rfl (XS.aload XJ310.here hx rfl (hb hby at_376) rfl rfl k_))) ?_
      show Run _ _ _ _ (TJ310.setTop (mkF m 378 #[.val (.int p1), .val (.int p2), .val (.long p3), .second, .val (.int (1 : Int32)), .val (.ref o_XZ), .val (.int (0 : Int32)), .val (.int (6 : Int32)), .val (.int nn), .val (.int sl), .val (.ref b276), .val (.int wt)] [(.ref b276), (.ref o_XZ)]))
      obtain ⟨cq311, kq311, q311a, q311b, q311c⟩ := isOf hZ eJ310 (E_XZ.ext O309.2)
      obtain ⟨_, _, ⟨T311, L311, k311, n311⟩, -, X311, ⟨Lc311, hQ311, l311, y311, z311⟩, st311⟩ := XJ310.virtualBack hx (y := (⟨"cleave/io/PackedFormat", "holdsMagic", "([B)Z"⟩ : MethodName)) (z := (⟨"cleave/io/PackedFormat", "holdsMagic", "([B)Z"⟩ : MethodName)) hown (mvT hZ w18) (mvT hZ w19) (notFace_of_selects (args := #[]) (mvT hZ w29)) (mvT hZ w29) (mvT hZ w20) (by decide) (backOf (W := 0) (rm5_XZ l Z a0 hw [] o_XZ b276 mg_XZ km_XZ nn gg306 T306.heap n0 z308 (F1_XZ.ext O309.2) (F2_XZ.ext O309.2) (VM_XZ.ext O309.2) fv306) hZ w22 w2 (by decide) (by decide)) q311a q311c (g := (mkF m 378 #[.val (.int p1), .val (.int p2), .val (.long p3), .second, .val (.int (1 : Int32)), .val (.ref o_XZ), .val (.int (0 : Int32)), .val (.int (6 : Int32)), .val (.int nn), .val (.int sl), .val (.ref b276), .val (.int wt)] [(.ref b276), (.ref o_XZ)])) rfl (by rw [hml]; rfl) (Steps.refl _) (argsL := [(.ref b276)]) (rest := []) (lenOf pd__28_5bB_29Z rfl) rfl (by show 2 * 0 + _ ≤ _; exact Nat.le_of_eq rfl) (hb hby at_378) (fun _ _ => ⟨rfl, eJ310, (by decide : 1 + 0 ≤ _), (by decide : 7 + 0 ≤ _)⟩)
      dsimp only [Pt.U, Pt.locs, Pt.cells, Pt.slots] at X311 l311 y311 z311 st311 hQ311
      subst l311 y311 z311
      refine Run.step (fun t k => st311.trans k) ?_
      obtain ⟨rfl, N311q, e311q⟩ := hQ311
      have N311 := Fr.app NJ310 N311q
      show Run _ _ _ _ (T311.setTop (mkF m 381 #[.val (.int p1), .val (.int p2), .val (.long p3), .second, .val (.int (1 : Int32)), .val (.ref o_XZ), .val (.int (0 : Int32)), .val (.int (6 : Int32)), .val (.int nn), .val (.int sl), .val (.ref b276), .val (.int wt)] [(.int (if nn < (6 : Int32) then 0 else (if gg306 0 = (-3 : Int32) then (if gg306 1 = (55 : Int32) then (if gg306 2 = (122 : Int32) then (if gg306 3 = (88 : Int32) then (if gg306 4 = (90 : Int32) then (if gg306 5 = (0 : Int32) then (1) else 0) else 0) else 0) else 0) else 0) else 0)))]))
      refine Run.step (fun t_ k_ => XS.iload X311.here hx rfl (hb hby at_381) rfl (XS.icmpNo X311.here hx rfl (hb hby at_383) rfl (XT.ii_ne_f ((by rw [hv310, v0, v1, v2, v3, v4, v5]) : (if nn < (6 : Int32) then 0 else (if gg306 0 = (-3 : Int32) then (if gg306 1 = (55 : Int32) then (if gg306 2 = (122 : Int32) then (if gg306 3 = (88 : Int32) then (if gg306 4 = (90 : Int32) then (if gg306 5 = (0 : Int32) then (1) else 0) else 0) else 0) else 0) else 0) else 0)) = wt)) (XS.iconst X311.here hx rfl (hb hby at_386) (XS.goto X311.here hx rfl (pc0 := 387) (pc' := 391) rfl (hb hby at_387) (by decide) (by decide) k_)))) ?_
      show Run _ _ _ _ (T311.setTop (mkF m 391 #[.val (.int p1), .val (.int p2), .val (.long p3), .second, .val (.int (1 : Int32)), .val (.ref o_XZ), .val (.int (0 : Int32)), .val (.int (6 : Int32)), .val (.int nn), .val (.int sl), .val (.ref b276), .val (.int wt)] [(.int (1 : Int32))]))
      exact finZ X311 hx (BodyLoose.notSynchronized Bd) Bd.returns (hb hby at_391) (by decide) (by decide) (by decide) e311q ⟨rfl, N311⟩
    by_cases c273 : nn < (6 : Int32)
    · skip
      refine Run.step (fun t_ k_ => XS.icmpYes X306.here hx rfl (pc0 := 273) (pc' := 371) rfl (hb hby at_273) rfl (XT.ii_lt_t c273) (by decide) (by decide) (XS.iconst X306.here hx rfl (hb hby at_371) k_)) ?_
      show Run _ _ _ _ (T306.setTop (mkF m 372 #[.val (.int p1), .val (.int p2), .val (.long p3), .second, .val (.int (1 : Int32)), .val (.ref o_XZ), .val (.int (0 : Int32)), .val (.int (6 : Int32)), .val (.int nn), .val (.int sl), .val (.ref b276), .unset] [(.int (0 : Int32))]))
      exact J310 _ _ X306 rfl N306 (0 : Int32) (if_pos c273).symm
    · skip
      refine Run.step (fun t_ k_ => XS.icmpNo X306.here hx rfl (hb hby at_273) rfl (XT.ii_lt_f c273) (XS.iload X306.here hx rfl (hb hby at_276) rfl (XS.iconst X306.here hx rfl (hb hby at_278) (XS.iload X306.here hx rfl (hb hby at_279) rfl (XS.lloadN X306.here hx rfl (hb hby at_281) rfl k_))))) ?_
      show Run _ _ _ _ (T306.setTop (mkF m 282 #[.val (.int p1), .val (.int p2), .val (.long p3), .second, .val (.int (1 : Int32)), .val (.ref o_XZ), .val (.int (0 : Int32)), .val (.int (6 : Int32)), .val (.int nn), .val (.int sl), .val (.ref b276), .unset] [(.long p3), (.int sl), (.int (0 : Int32)), (.int (1 : Int32))]))
      obtain ⟨_, _, ⟨T312, L312, k312, n312⟩, -, X312, ⟨Lc312, hQ312, l312, y312, z312⟩, st312⟩ := Jvm.LawKit.callS X306 hx (y := (⟨"cleave/io/PackedFormatHoldsMagicPinLaw", "matches", "(IIIJ)Z"⟩ : MethodName)) hown (mvT hZ w12) (mvT hZ w13) (mvT hZ w7) (mvT hZ w14) (by decide) (backOf (W := 0) (rm3 l Z a0 hw [] (1 : Int32) (0 : Int32) sl p3 T306.heap n0 z308) hZ w14 w7 (by decide) (by decide)) (g := (mkF m 282 #[.val (.int p1), .val (.int p2), .val (.long p3), .second, .val (.int (1 : Int32)), .val (.ref o_XZ), .val (.int (0 : Int32)), .val (.int (6 : Int32)), .val (.int nn), .val (.int sl), .val (.ref b276), .unset] [(.long p3), (.int sl), (.int (0 : Int32)), (.int (1 : Int32))])) rfl (by rw [hml]; rfl) (argsL := [(.int (1 : Int32)), (.int (0 : Int32)), (.int sl), (.long p3)]) (rest := []) (lenOf pd__28IIIJ_29Z rfl) rfl (by show 2 * 0 + _ ≤ _; exact Nat.le_of_eq rfl) (hb hby at_282) (fun _ _ => ⟨rfl, rfl, (by decide : 1 + 0 ≤ _), (by decide : 7 + 0 ≤ _)⟩)
      dsimp only [Pt.U, Pt.locs, Pt.cells, Pt.slots] at X312 l312 y312 z312 st312 hQ312
      subst l312 y312 z312
      refine Run.step (st312) ?_
      obtain ⟨rfl, N312q, e312q⟩ := hQ312
      have N312 := Fr.app N306 N312q
      show Run _ _ _ _ (T312.setTop (mkF m 285 #[.val (.int p1), .val (.int p2), .val (.long p3), .second, .val (.int (1 : Int32)), .val (.ref o_XZ), .val (.int (0 : Int32)), .val (.int (6 : Int32)), .val (.int nn), .val (.int sl), .val (.ref b276), .unset] [(.int (if own_pick (1 : Int32) (0 : Int32) sl p3 = (own_expect (1 : Int32) (0 : Int32)).toInt8.toInt32 then 1 else 0))]))
      have E0 : b0 = (-3 : Int32) ↔ ¬ ((if own_pick (1 : Int32) (0 : Int32) sl p3 = (own_expect (1 : Int32) (0 : Int32)).toInt8.toInt32 then 1 else 0) = (0 : Int32)) := by
        rw [show ((if own_pick (1 : Int32) (0 : Int32) sl p3 = (own_expect (1 : Int32) (0 : Int32)).toInt8.toInt32 then 1 else 0)) = (if own_pick (1 : Int32) (0 : Int32) sl p3 = (-3 : Int32) then (1 : Int32) else 0) from rfl, ← hb0]
        by_cases z : b0 = (-3 : Int32)
        · rw [if_pos z]; exact ⟨fun _ => by decide, fun _ => z⟩
        · rw [if_neg z]; exact ⟨fun q => absurd q z, fun q => absurd rfl q⟩
      by_cases c285 : (if own_pick (1 : Int32) (0 : Int32) sl p3 = (own_expect (1 : Int32) (0 : Int32)).toInt8.toInt32 then 1 else 0) = (0 : Int32)
      · have d285 := fun q => E0.mp q c285
        refine Run.step (fun t_ k_ => XS.ifYes X312.here hx rfl (pc0 := 285) (pc' := 371) rfl (hb hby at_285) rfl (XT.i0_eq_t c285) (by decide) (by decide) (XS.iconst X312.here hx rfl (hb hby at_371) k_)) ?_
        show Run _ _ _ _ (T312.setTop (mkF m 372 #[.val (.int p1), .val (.int p2), .val (.long p3), .second, .val (.int (1 : Int32)), .val (.ref o_XZ), .val (.int (0 : Int32)), .val (.int (6 : Int32)), .val (.int nn), .val (.int sl), .val (.ref b276), .unset] [(.int (0 : Int32))]))
        exact J310 _ _ X312 e312q N312 (0 : Int32) ((if_neg c273).trans (if_neg d285)).symm
      · have d285 := E0.mpr c285
        refine Run.step (fun t_ k_ => XS.ifNo X312.here hx rfl (hb hby at_285) rfl (XT.i0_eq_f c285) (XS.iload X312.here hx rfl (hb hby at_288) rfl (XS.iconst X312.here hx rfl (hb hby at_290) (XS.iload X312.here hx rfl (hb hby at_291) rfl (XS.lloadN X312.here hx rfl (hb hby at_293) rfl k_))))) ?_
        show Run _ _ _ _ (T312.setTop (mkF m 294 #[.val (.int p1), .val (.int p2), .val (.long p3), .second, .val (.int (1 : Int32)), .val (.ref o_XZ), .val (.int (0 : Int32)), .val (.int (6 : Int32)), .val (.int nn), .val (.int sl), .val (.ref b276), .unset] [(.long p3), (.int sl), (.int (1 : Int32)), (.int (1 : Int32))]))
        obtain ⟨_, _, ⟨T313, L313, k313, n313⟩, -, X313, ⟨Lc313, hQ313, l313, y313, z313⟩, st313⟩ := Jvm.LawKit.callS X312 hx (y := (⟨"cleave/io/PackedFormatHoldsMagicPinLaw", "matches", "(IIIJ)Z"⟩ : MethodName)) hown (mvT hZ w12) (mvT hZ w13) (mvT hZ w7) (mvT hZ w14) (by decide) (backOf (W := 0) (rm3 l Z a0 hw [] (1 : Int32) (1 : Int32) sl p3 T306.heap n0 z308) hZ w14 w7 (by decide) (by decide)) (g := (mkF m 294 #[.val (.int p1), .val (.int p2), .val (.long p3), .second, .val (.int (1 : Int32)), .val (.ref o_XZ), .val (.int (0 : Int32)), .val (.int (6 : Int32)), .val (.int nn), .val (.int sl), .val (.ref b276), .unset] [(.long p3), (.int sl), (.int (1 : Int32)), (.int (1 : Int32))])) rfl (by rw [hml]; rfl) (argsL := [(.int (1 : Int32)), (.int (1 : Int32)), (.int sl), (.long p3)]) (rest := []) (lenOf pd__28IIIJ_29Z rfl) rfl (by show 2 * 0 + _ ≤ _; exact Nat.le_of_eq rfl) (hb hby at_294) (fun _ _ => ⟨rfl, e312q, (by decide : 1 + 0 ≤ _), (by decide : 7 + 0 ≤ _)⟩)
        dsimp only [Pt.U, Pt.locs, Pt.cells, Pt.slots] at X313 l313 y313 z313 st313 hQ313
        subst l313 y313 z313
        refine Run.step (st313) ?_
        obtain ⟨rfl, N313q, e313q⟩ := hQ313
        have N313 := Fr.app N312 N313q
        show Run _ _ _ _ (T313.setTop (mkF m 297 #[.val (.int p1), .val (.int p2), .val (.long p3), .second, .val (.int (1 : Int32)), .val (.ref o_XZ), .val (.int (0 : Int32)), .val (.int (6 : Int32)), .val (.int nn), .val (.int sl), .val (.ref b276), .unset] [(.int (if own_pick (1 : Int32) (1 : Int32) sl p3 = (own_expect (1 : Int32) (1 : Int32)).toInt8.toInt32 then 1 else 0))]))
        have E1 : b1 = (55 : Int32) ↔ ¬ ((if own_pick (1 : Int32) (1 : Int32) sl p3 = (own_expect (1 : Int32) (1 : Int32)).toInt8.toInt32 then 1 else 0) = (0 : Int32)) := by
          rw [show ((if own_pick (1 : Int32) (1 : Int32) sl p3 = (own_expect (1 : Int32) (1 : Int32)).toInt8.toInt32 then 1 else 0)) = (if own_pick (1 : Int32) (1 : Int32) sl p3 = (55 : Int32) then (1 : Int32) else 0) from rfl, ← hb1]
          by_cases z : b1 = (55 : Int32)
          · rw [if_pos z]; exact ⟨fun _ => by decide, fun _ => z⟩
          · rw [if_neg z]; exact ⟨fun q => absurd q z, fun q => absurd rfl q⟩
        by_cases c297 : (if own_pick (1 : Int32) (1 : Int32) sl p3 = (own_expect (1 : Int32) (1 : Int32)).toInt8.toInt32 then 1 else 0) = (0 : Int32)
        · have d297 := fun q => E1.mp q c297
          refine Run.step (fun t_ k_ => XS.ifYes X313.here hx rfl (pc0 := 297) (pc' := 371) rfl (hb hby at_297) rfl (XT.i0_eq_t c297) (by decide) (by decide) (XS.iconst X313.here hx rfl (hb hby at_371) k_)) ?_
          show Run _ _ _ _ (T313.setTop (mkF m 372 #[.val (.int p1), .val (.int p2), .val (.long p3), .second, .val (.int (1 : Int32)), .val (.ref o_XZ), .val (.int (0 : Int32)), .val (.int (6 : Int32)), .val (.int nn), .val (.int sl), .val (.ref b276), .unset] [(.int (0 : Int32))]))
          exact J310 _ _ X313 e313q N313 (0 : Int32) ((if_neg c273).trans ((if_pos d285).trans (if_neg d297))).symm
        · have d297 := E1.mpr c297
          refine Run.step (fun t_ k_ => XS.ifNo X313.here hx rfl (hb hby at_297) rfl (XT.i0_eq_f c297) (XS.iload X313.here hx rfl (hb hby at_300) rfl (XS.iconst X313.here hx rfl (hb hby at_302) (XS.iload X313.here hx rfl (hb hby at_303) rfl (XS.lloadN X313.here hx rfl (hb hby at_305) rfl k_))))) ?_
          show Run _ _ _ _ (T313.setTop (mkF m 306 #[.val (.int p1), .val (.int p2), .val (.long p3), .second, .val (.int (1 : Int32)), .val (.ref o_XZ), .val (.int (0 : Int32)), .val (.int (6 : Int32)), .val (.int nn), .val (.int sl), .val (.ref b276), .unset] [(.long p3), (.int sl), (.int (2 : Int32)), (.int (1 : Int32))]))
          obtain ⟨_, _, ⟨T314, L314, k314, n314⟩, -, X314, ⟨Lc314, hQ314, l314, y314, z314⟩, st314⟩ := Jvm.LawKit.callS X313 hx (y := (⟨"cleave/io/PackedFormatHoldsMagicPinLaw", "matches", "(IIIJ)Z"⟩ : MethodName)) hown (mvT hZ w12) (mvT hZ w13) (mvT hZ w7) (mvT hZ w14) (by decide) (backOf (W := 0) (rm3 l Z a0 hw [] (1 : Int32) (2 : Int32) sl p3 T306.heap n0 z308) hZ w14 w7 (by decide) (by decide)) (g := (mkF m 306 #[.val (.int p1), .val (.int p2), .val (.long p3), .second, .val (.int (1 : Int32)), .val (.ref o_XZ), .val (.int (0 : Int32)), .val (.int (6 : Int32)), .val (.int nn), .val (.int sl), .val (.ref b276), .unset] [(.long p3), (.int sl), (.int (2 : Int32)), (.int (1 : Int32))])) rfl (by rw [hml]; rfl) (argsL := [(.int (1 : Int32)), (.int (2 : Int32)), (.int sl), (.long p3)]) (rest := []) (lenOf pd__28IIIJ_29Z rfl) rfl (by show 2 * 0 + _ ≤ _; exact Nat.le_of_eq rfl) (hb hby at_306) (fun _ _ => ⟨rfl, e313q, (by decide : 1 + 0 ≤ _), (by decide : 7 + 0 ≤ _)⟩)
          dsimp only [Pt.U, Pt.locs, Pt.cells, Pt.slots] at X314 l314 y314 z314 st314 hQ314
          subst l314 y314 z314
          refine Run.step (st314) ?_
          obtain ⟨rfl, N314q, e314q⟩ := hQ314
          have N314 := Fr.app N313 N314q
          show Run _ _ _ _ (T314.setTop (mkF m 309 #[.val (.int p1), .val (.int p2), .val (.long p3), .second, .val (.int (1 : Int32)), .val (.ref o_XZ), .val (.int (0 : Int32)), .val (.int (6 : Int32)), .val (.int nn), .val (.int sl), .val (.ref b276), .unset] [(.int (if own_pick (1 : Int32) (2 : Int32) sl p3 = (own_expect (1 : Int32) (2 : Int32)).toInt8.toInt32 then 1 else 0))]))
          have E2 : b2 = (122 : Int32) ↔ ¬ ((if own_pick (1 : Int32) (2 : Int32) sl p3 = (own_expect (1 : Int32) (2 : Int32)).toInt8.toInt32 then 1 else 0) = (0 : Int32)) := by
            rw [show ((if own_pick (1 : Int32) (2 : Int32) sl p3 = (own_expect (1 : Int32) (2 : Int32)).toInt8.toInt32 then 1 else 0)) = (if own_pick (1 : Int32) (2 : Int32) sl p3 = (122 : Int32) then (1 : Int32) else 0) from rfl, ← hb2]
            by_cases z : b2 = (122 : Int32)
            · rw [if_pos z]; exact ⟨fun _ => by decide, fun _ => z⟩
            · rw [if_neg z]; exact ⟨fun q => absurd q z, fun q => absurd rfl q⟩
          by_cases c309 : (if own_pick (1 : Int32) (2 : Int32) sl p3 = (own_expect (1 : Int32) (2 : Int32)).toInt8.toInt32 then 1 else 0) = (0 : Int32)
          · have d309 := fun q => E2.mp q c309
            refine Run.step (fun t_ k_ => XS.ifYes X314.here hx rfl (pc0 := 309) (pc' := 371) rfl (hb hby at_309) rfl (XT.i0_eq_t c309) (by decide) (by decide) (XS.iconst X314.here hx rfl (hb hby at_371) k_)) ?_
            show Run _ _ _ _ (T314.setTop (mkF m 372 #[.val (.int p1), .val (.int p2), .val (.long p3), .second, .val (.int (1 : Int32)), .val (.ref o_XZ), .val (.int (0 : Int32)), .val (.int (6 : Int32)), .val (.int nn), .val (.int sl), .val (.ref b276), .unset] [(.int (0 : Int32))]))
            exact J310 _ _ X314 e314q N314 (0 : Int32) ((if_neg c273).trans ((if_pos d285).trans ((if_pos d297).trans (if_neg d309)))).symm
          · have d309 := E2.mpr c309
            refine Run.step (fun t_ k_ => XS.ifNo X314.here hx rfl (hb hby at_309) rfl (XT.i0_eq_f c309) (XS.iload X314.here hx rfl (hb hby at_312) rfl (XS.iconst X314.here hx rfl (hb hby at_314) (XS.icmpNo X314.here hx rfl (hb hby at_315) rfl (XT.ii_lt_f (by decide : ¬ ((6 : Int32) < (4 : Int32)))) (XS.iload X314.here hx rfl (hb hby at_318) rfl (XS.iconst X314.here hx rfl (hb hby at_320) k_)))))) ?_
            show Run _ _ _ _ (T314.setTop (mkF m 321 #[.val (.int p1), .val (.int p2), .val (.long p3), .second, .val (.int (1 : Int32)), .val (.ref o_XZ), .val (.int (0 : Int32)), .val (.int (6 : Int32)), .val (.int nn), .val (.int sl), .val (.ref b276), .unset] [(.int (3 : Int32)), (.int (1 : Int32))]))
            refine Run.step (fun t_ k_ => XS.iload X314.here hx rfl (hb hby at_321) rfl (XS.lloadN X314.here hx rfl (hb hby at_323) rfl k_)) ?_
            show Run _ _ _ _ (T314.setTop (mkF m 324 #[.val (.int p1), .val (.int p2), .val (.long p3), .second, .val (.int (1 : Int32)), .val (.ref o_XZ), .val (.int (0 : Int32)), .val (.int (6 : Int32)), .val (.int nn), .val (.int sl), .val (.ref b276), .unset] [(.long p3), (.int sl), (.int (3 : Int32)), (.int (1 : Int32))]))
            obtain ⟨_, _, ⟨T315, L315, k315, n315⟩, -, X315, ⟨Lc315, hQ315, l315, y315, z315⟩, st315⟩ := Jvm.LawKit.callS X314 hx (y := (⟨"cleave/io/PackedFormatHoldsMagicPinLaw", "matches", "(IIIJ)Z"⟩ : MethodName)) hown (mvT hZ w12) (mvT hZ w13) (mvT hZ w7) (mvT hZ w14) (by decide) (backOf (W := 0) (rm3 l Z a0 hw [] (1 : Int32) (3 : Int32) sl p3 T306.heap n0 z308) hZ w14 w7 (by decide) (by decide)) (g := (mkF m 324 #[.val (.int p1), .val (.int p2), .val (.long p3), .second, .val (.int (1 : Int32)), .val (.ref o_XZ), .val (.int (0 : Int32)), .val (.int (6 : Int32)), .val (.int nn), .val (.int sl), .val (.ref b276), .unset] [(.long p3), (.int sl), (.int (3 : Int32)), (.int (1 : Int32))])) rfl (by rw [hml]; rfl) (argsL := [(.int (1 : Int32)), (.int (3 : Int32)), (.int sl), (.long p3)]) (rest := []) (lenOf pd__28IIIJ_29Z rfl) rfl (by show 2 * 0 + _ ≤ _; exact Nat.le_of_eq rfl) (hb hby at_324) (fun _ _ => ⟨rfl, e314q, (by decide : 1 + 0 ≤ _), (by decide : 7 + 0 ≤ _)⟩)
            dsimp only [Pt.U, Pt.locs, Pt.cells, Pt.slots] at X315 l315 y315 z315 st315 hQ315
            subst l315 y315 z315
            refine Run.step (st315) ?_
            obtain ⟨rfl, N315q, e315q⟩ := hQ315
            have N315 := Fr.app N314 N315q
            show Run _ _ _ _ (T315.setTop (mkF m 327 #[.val (.int p1), .val (.int p2), .val (.long p3), .second, .val (.int (1 : Int32)), .val (.ref o_XZ), .val (.int (0 : Int32)), .val (.int (6 : Int32)), .val (.int nn), .val (.int sl), .val (.ref b276), .unset] [(.int (if own_pick (1 : Int32) (3 : Int32) sl p3 = (own_expect (1 : Int32) (3 : Int32)).toInt8.toInt32 then 1 else 0))]))
            have E3 : b3 = (88 : Int32) ↔ ¬ ((if own_pick (1 : Int32) (3 : Int32) sl p3 = (own_expect (1 : Int32) (3 : Int32)).toInt8.toInt32 then 1 else 0) = (0 : Int32)) := by
              rw [show ((if own_pick (1 : Int32) (3 : Int32) sl p3 = (own_expect (1 : Int32) (3 : Int32)).toInt8.toInt32 then 1 else 0)) = (if own_pick (1 : Int32) (3 : Int32) sl p3 = (88 : Int32) then (1 : Int32) else 0) from rfl, ← hb3]
              by_cases z : b3 = (88 : Int32)
              · rw [if_pos z]; exact ⟨fun _ => by decide, fun _ => z⟩
              · rw [if_neg z]; exact ⟨fun q => absurd q z, fun q => absurd rfl q⟩
            by_cases c327 : (if own_pick (1 : Int32) (3 : Int32) sl p3 = (own_expect (1 : Int32) (3 : Int32)).toInt8.toInt32 then 1 else 0) = (0 : Int32)
            · have d327 := fun q => E3.mp q c327
              refine Run.step (fun t_ k_ => XS.ifYes X315.here hx rfl (pc0 := 327) (pc' := 371) rfl (hb hby at_327) rfl (XT.i0_eq_t c327) (by decide) (by decide) (XS.iconst X315.here hx rfl (hb hby at_371) k_)) ?_
              show Run _ _ _ _ (T315.setTop (mkF m 372 #[.val (.int p1), .val (.int p2), .val (.long p3), .second, .val (.int (1 : Int32)), .val (.ref o_XZ), .val (.int (0 : Int32)), .val (.int (6 : Int32)), .val (.int nn), .val (.int sl), .val (.ref b276), .unset] [(.int (0 : Int32))]))
              exact J310 _ _ X315 e315q N315 (0 : Int32) ((if_neg c273).trans ((if_pos d285).trans ((if_pos d297).trans ((if_pos d309).trans (if_neg d327))))).symm
            · have d327 := E3.mpr c327
              refine Run.step (fun t_ k_ => XS.ifNo X315.here hx rfl (hb hby at_327) rfl (XT.i0_eq_f c327) (XS.iload X315.here hx rfl (hb hby at_330) rfl (XS.iconst X315.here hx rfl (hb hby at_332) (XS.icmpNo X315.here hx rfl (hb hby at_333) rfl (XT.ii_lt_f (by decide : ¬ ((6 : Int32) < (5 : Int32)))) (XS.iload X315.here hx rfl (hb hby at_336) rfl (XS.iconst X315.here hx rfl (hb hby at_338) k_)))))) ?_
              show Run _ _ _ _ (T315.setTop (mkF m 339 #[.val (.int p1), .val (.int p2), .val (.long p3), .second, .val (.int (1 : Int32)), .val (.ref o_XZ), .val (.int (0 : Int32)), .val (.int (6 : Int32)), .val (.int nn), .val (.int sl), .val (.ref b276), .unset] [(.int (4 : Int32)), (.int (1 : Int32))]))
              refine Run.step (fun t_ k_ => XS.iload X315.here hx rfl (hb hby at_339) rfl (XS.lloadN X315.here hx rfl (hb hby at_341) rfl k_)) ?_
              show Run _ _ _ _ (T315.setTop (mkF m 342 #[.val (.int p1), .val (.int p2), .val (.long p3), .second, .val (.int (1 : Int32)), .val (.ref o_XZ), .val (.int (0 : Int32)), .val (.int (6 : Int32)), .val (.int nn), .val (.int sl), .val (.ref b276), .unset] [(.long p3), (.int sl), (.int (4 : Int32)), (.int (1 : Int32))]))
              obtain ⟨_, _, ⟨T316, L316, k316, n316⟩, -, X316, ⟨Lc316, hQ316, l316, y316, z316⟩, st316⟩ := Jvm.LawKit.callS X315 hx (y := (⟨"cleave/io/PackedFormatHoldsMagicPinLaw", "matches", "(IIIJ)Z"⟩ : MethodName)) hown (mvT hZ w12) (mvT hZ w13) (mvT hZ w7) (mvT hZ w14) (by decide) (backOf (W := 0) (rm3 l Z a0 hw [] (1 : Int32) (4 : Int32) sl p3 T306.heap n0 z308) hZ w14 w7 (by decide) (by decide)) (g := (mkF m 342 #[.val (.int p1), .val (.int p2), .val (.long p3), .second, .val (.int (1 : Int32)), .val (.ref o_XZ), .val (.int (0 : Int32)), .val (.int (6 : Int32)), .val (.int nn), .val (.int sl), .val (.ref b276), .unset] [(.long p3), (.int sl), (.int (4 : Int32)), (.int (1 : Int32))])) rfl (by rw [hml]; rfl) (argsL := [(.int (1 : Int32)), (.int (4 : Int32)), (.int sl), (.long p3)]) (rest := []) (lenOf pd__28IIIJ_29Z rfl) rfl (by show 2 * 0 + _ ≤ _; exact Nat.le_of_eq rfl) (hb hby at_342) (fun _ _ => ⟨rfl, e315q, (by decide : 1 + 0 ≤ _), (by decide : 7 + 0 ≤ _)⟩)
              dsimp only [Pt.U, Pt.locs, Pt.cells, Pt.slots] at X316 l316 y316 z316 st316 hQ316
              subst l316 y316 z316
              refine Run.step (st316) ?_
              obtain ⟨rfl, N316q, e316q⟩ := hQ316
              have N316 := Fr.app N315 N316q
              show Run _ _ _ _ (T316.setTop (mkF m 345 #[.val (.int p1), .val (.int p2), .val (.long p3), .second, .val (.int (1 : Int32)), .val (.ref o_XZ), .val (.int (0 : Int32)), .val (.int (6 : Int32)), .val (.int nn), .val (.int sl), .val (.ref b276), .unset] [(.int (if own_pick (1 : Int32) (4 : Int32) sl p3 = (own_expect (1 : Int32) (4 : Int32)).toInt8.toInt32 then 1 else 0))]))
              have E4 : b4 = (90 : Int32) ↔ ¬ ((if own_pick (1 : Int32) (4 : Int32) sl p3 = (own_expect (1 : Int32) (4 : Int32)).toInt8.toInt32 then 1 else 0) = (0 : Int32)) := by
                rw [show ((if own_pick (1 : Int32) (4 : Int32) sl p3 = (own_expect (1 : Int32) (4 : Int32)).toInt8.toInt32 then 1 else 0)) = (if own_pick (1 : Int32) (4 : Int32) sl p3 = (90 : Int32) then (1 : Int32) else 0) from rfl, ← hb4]
                by_cases z : b4 = (90 : Int32)
                · rw [if_pos z]; exact ⟨fun _ => by decide, fun _ => z⟩
                · rw [if_neg z]; exact ⟨fun q => absurd q z, fun q => absurd rfl q⟩
              by_cases c345 : (if own_pick (1 : Int32) (4 : Int32) sl p3 = (own_expect (1 : Int32) (4 : Int32)).toInt8.toInt32 then 1 else 0) = (0 : Int32)
              · have d345 := fun q => E4.mp q c345
                refine Run.step (fun t_ k_ => XS.ifYes X316.here hx rfl (pc0 := 345) (pc' := 371) rfl (hb hby at_345) rfl (XT.i0_eq_t c345) (by decide) (by decide) (XS.iconst X316.here hx rfl (hb hby at_371) k_)) ?_
                show Run _ _ _ _ (T316.setTop (mkF m 372 #[.val (.int p1), .val (.int p2), .val (.long p3), .second, .val (.int (1 : Int32)), .val (.ref o_XZ), .val (.int (0 : Int32)), .val (.int (6 : Int32)), .val (.int nn), .val (.int sl), .val (.ref b276), .unset] [(.int (0 : Int32))]))
                exact J310 _ _ X316 e316q N316 (0 : Int32) ((if_neg c273).trans ((if_pos d285).trans ((if_pos d297).trans ((if_pos d309).trans ((if_pos d327).trans (if_neg d345)))))).symm
              · have d345 := E4.mpr c345
                refine Run.step (fun t_ k_ => XS.ifNo X316.here hx rfl (hb hby at_345) rfl (XT.i0_eq_f c345) (XS.iload X316.here hx rfl (hb hby at_348) rfl (XS.bipush X316.here hx rfl (hb hby at_350) (XS.icmpNo X316.here hx rfl (hb hby at_352) rfl (XT.ii_lt_f (by decide : ¬ ((6 : Int32) < (6 : Int32)))) (XS.iload X316.here hx rfl (hb hby at_355) rfl (XS.iconst X316.here hx rfl (hb hby at_357) k_)))))) ?_
                show Run _ _ _ _ (T316.setTop (mkF m 358 #[.val (.int p1), .val (.int p2), .val (.long p3), .second, .val (.int (1 : Int32)), .val (.ref o_XZ), .val (.int (0 : Int32)), .val (.int (6 : Int32)), .val (.int nn), .val (.int sl), .val (.ref b276), .unset] [(.int (5 : Int32)), (.int (1 : Int32))]))
                refine Run.step (fun t_ k_ => XS.iload X316.here hx rfl (hb hby at_358) rfl (XS.lloadN X316.here hx rfl (hb hby at_360) rfl k_)) ?_
                show Run _ _ _ _ (T316.setTop (mkF m 361 #[.val (.int p1), .val (.int p2), .val (.long p3), .second, .val (.int (1 : Int32)), .val (.ref o_XZ), .val (.int (0 : Int32)), .val (.int (6 : Int32)), .val (.int nn), .val (.int sl), .val (.ref b276), .unset] [(.long p3), (.int sl), (.int (5 : Int32)), (.int (1 : Int32))]))
                obtain ⟨_, _, ⟨T317, L317, k317, n317⟩, -, X317, ⟨Lc317, hQ317, l317, y317, z317⟩, st317⟩ := Jvm.LawKit.callS X316 hx (y := (⟨"cleave/io/PackedFormatHoldsMagicPinLaw", "matches", "(IIIJ)Z"⟩ : MethodName)) hown (mvT hZ w12) (mvT hZ w13) (mvT hZ w7) (mvT hZ w14) (by decide) (backOf (W := 0) (rm3 l Z a0 hw [] (1 : Int32) (5 : Int32) sl p3 T306.heap n0 z308) hZ w14 w7 (by decide) (by decide)) (g := (mkF m 361 #[.val (.int p1), .val (.int p2), .val (.long p3), .second, .val (.int (1 : Int32)), .val (.ref o_XZ), .val (.int (0 : Int32)), .val (.int (6 : Int32)), .val (.int nn), .val (.int sl), .val (.ref b276), .unset] [(.long p3), (.int sl), (.int (5 : Int32)), (.int (1 : Int32))])) rfl (by rw [hml]; rfl) (argsL := [(.int (1 : Int32)), (.int (5 : Int32)), (.int sl), (.long p3)]) (rest := []) (lenOf pd__28IIIJ_29Z rfl) rfl (by show 2 * 0 + _ ≤ _; exact Nat.le_of_eq rfl) (hb hby at_361) (fun _ _ => ⟨rfl, e316q, (by decide : 1 + 0 ≤ _), (by decide : 7 + 0 ≤ _)⟩)
                dsimp only [Pt.U, Pt.locs, Pt.cells, Pt.slots] at X317 l317 y317 z317 st317 hQ317
                subst l317 y317 z317
                refine Run.step (st317) ?_
                obtain ⟨rfl, N317q, e317q⟩ := hQ317
                have N317 := Fr.app N316 N317q
                show Run _ _ _ _ (T317.setTop (mkF m 364 #[.val (.int p1), .val (.int p2), .val (.long p3), .second, .val (.int (1 : Int32)), .val (.ref o_XZ), .val (.int (0 : Int32)), .val (.int (6 : Int32)), .val (.int nn), .val (.int sl), .val (.ref b276), .unset] [(.int (if own_pick (1 : Int32) (5 : Int32) sl p3 = (own_expect (1 : Int32) (5 : Int32)).toInt8.toInt32 then 1 else 0))]))
                have E5 : b5 = (0 : Int32) ↔ ¬ ((if own_pick (1 : Int32) (5 : Int32) sl p3 = (own_expect (1 : Int32) (5 : Int32)).toInt8.toInt32 then 1 else 0) = (0 : Int32)) := by
                  rw [show ((if own_pick (1 : Int32) (5 : Int32) sl p3 = (own_expect (1 : Int32) (5 : Int32)).toInt8.toInt32 then 1 else 0)) = (if own_pick (1 : Int32) (5 : Int32) sl p3 = (0 : Int32) then (1 : Int32) else 0) from rfl, ← hb5]
                  by_cases z : b5 = (0 : Int32)
                  · rw [if_pos z]; exact ⟨fun _ => by decide, fun _ => z⟩
                  · rw [if_neg z]; exact ⟨fun q => absurd q z, fun q => absurd rfl q⟩
                by_cases c364 : (if own_pick (1 : Int32) (5 : Int32) sl p3 = (own_expect (1 : Int32) (5 : Int32)).toInt8.toInt32 then 1 else 0) = (0 : Int32)
                · have d364 := fun q => E5.mp q c364
                  refine Run.step (fun t_ k_ => XS.ifYes X317.here hx rfl (pc0 := 364) (pc' := 371) rfl (hb hby at_364) rfl (XT.i0_eq_t c364) (by decide) (by decide) (XS.iconst X317.here hx rfl (hb hby at_371) k_)) ?_
                  show Run _ _ _ _ (T317.setTop (mkF m 372 #[.val (.int p1), .val (.int p2), .val (.long p3), .second, .val (.int (1 : Int32)), .val (.ref o_XZ), .val (.int (0 : Int32)), .val (.int (6 : Int32)), .val (.int nn), .val (.int sl), .val (.ref b276), .unset] [(.int (0 : Int32))]))
                  exact J310 _ _ X317 e317q N317 (0 : Int32) ((if_neg c273).trans ((if_pos d285).trans ((if_pos d297).trans ((if_pos d309).trans ((if_pos d327).trans ((if_pos d345).trans (if_neg d364))))))).symm
                · have d364 := E5.mpr c364
                  refine Run.step (fun t_ k_ => XS.ifNo X317.here hx rfl (hb hby at_364) rfl (XT.i0_eq_f c364) (XS.iconst X317.here hx rfl (hb hby at_367) (XS.goto X317.here hx rfl (pc0 := 368) (pc' := 372) rfl (hb hby at_368) (by decide) (by decide) k_))) ?_
                  show Run _ _ _ _ (T317.setTop (mkF m 372 #[.val (.int p1), .val (.int p2), .val (.long p3), .second, .val (.int (1 : Int32)), .val (.ref o_XZ), .val (.int (0 : Int32)), .val (.int (6 : Int32)), .val (.int nn), .val (.int sl), .val (.ref b276), .unset] [(.int (1 : Int32))]))
                  exact J310 _ _ X317 e317q N317 (1 : Int32) ((if_neg c273).trans ((if_pos d285).trans ((if_pos d297).trans ((if_pos d309).trans ((if_pos d327).trans ((if_pos d345).trans (if_pos d364))))))).symm
  · rw [hk]
    show Run _ _ _ _ (s₁.setTop (mkF m 9 #[.val (.int p1), .val (.int p2), .val (.long p3), .second, .val (.int (2 : Int32)), .unset, .unset, .unset, .unset, .unset, .unset, .unset] []))
    refine Run.step (fun t_ k_ => XS.iload X0.here hx rfl (hb hby at_9) rfl (XS.ifYes X0.here hx rfl (pc0 := 11) (pc' := 22) rfl (hb hby at_11) rfl (XT.i0_ne_t (by decide : ¬ ((2 : Int32) = (0 : Int32)))) (by decide) (by decide) (XS.iload X0.here hx rfl (hb hby at_22) rfl (XS.iconst X0.here hx rfl (hb hby at_24) (XS.icmpYes X0.here hx rfl (pc0 := 25) (pc' := 36) rfl (hb hby at_25) rfl (XT.ii_ne_t (by decide : ¬ ((2 : Int32) = (1 : Int32)))) (by decide) (by decide) (XS.iload X0.here hx rfl (hb hby at_36) rfl k_)))))) ?_
    show Run _ _ _ _ (s₁.setTop (mkF m 38 #[.val (.int p1), .val (.int p2), .val (.long p3), .second, .val (.int (2 : Int32)), .unset, .unset, .unset, .unset, .unset, .unset, .unset] [(.int (2 : Int32))]))
    refine Run.step (fun t_ k_ => XS.iconst X0.here hx rfl (hb hby at_38) (XS.icmpNo X0.here hx rfl (hb hby at_39) rfl (XT.ii_ne_f (by decide : (2 : Int32) = (2 : Int32))) k_)) ?_
    show Run _ _ _ _ (s₁.setTop (mkF m 42 #[.val (.int p1), .val (.int p2), .val (.long p3), .second, .val (.int (2 : Int32)), .unset, .unset, .unset, .unset, .unset, .unset, .unset] []))
    obtain ⟨T318, X318, e318, st318⟩ := getS2 X0 hx hZ hown (host := "") (Or.inl w42) Via.refl e0 (S_ZSTD.ext O0.2) (g := (mkF m 42 #[.val (.int p1), .val (.int p2), .val (.long p3), .second, .val (.int (2 : Int32)), .unset, .unset, .unset, .unset, .unset, .unset, .unset] [])) rfl (hb hby at_42)
    refine Run.step st318 ?_
    show Run _ _ _ _ (T318.setTop (mkF m 45 #[.val (.int p1), .val (.int p2), .val (.long p3), .second, .val (.int (2 : Int32)), .unset, .unset, .unset, .unset, .unset, .unset, .unset] [(.ref o_ZSTD)]))
    refine Run.step (fun t_ k_ => XS.astore X318.here hx rfl (hb hby at_45) rfl rfl (l' := #[.val (.int p1), .val (.int p2), .val (.long p3), .second, .val (.int (2 : Int32)), .val (.ref o_ZSTD), .unset, .unset, .unset, .unset, .unset, .unset]) rfl (XS.goto X318.here hx rfl (pc0 := 47) (pc' := 83) rfl (hb hby at_47) (by decide) (by decide) (XS.iload X318.here hx rfl (hb hby at_83) rfl (XS.iconst X318.here hx rfl (hb hby at_85) (XS.icmpYes X318.here hx rfl (pc0 := 86) (pc' := 95) rfl (hb hby at_86) rfl (XT.ii_lt_t (by decide : (2 : Int32) < (4 : Int32))) (by decide) (by decide) (XS.iconst X318.here hx rfl (hb hby at_95) k_)))))) ?_
    show Run _ _ _ _ (T318.setTop (mkF m 96 #[.val (.int p1), .val (.int p2), .val (.long p3), .second, .val (.int (2 : Int32)), .val (.ref o_ZSTD), .unset, .unset, .unset, .unset, .unset, .unset] [(.int (0 : Int32))]))
    refine Run.step (fun t_ k_ => XS.istore X318.here hx rfl (hb hby at_96) rfl (l' := #[.val (.int p1), .val (.int p2), .val (.long p3), .second, .val (.int (2 : Int32)), .val (.ref o_ZSTD), .val (.int (0 : Int32)), .unset, .unset, .unset, .unset, .unset]) rfl (XS.iload X318.here hx rfl (hb hby at_98) rfl (XS.ifYes X318.here hx rfl (pc0 := 100) (pc' := 109) rfl (hb hby at_100) rfl (XT.i0_ne_t (by decide : ¬ ((2 : Int32) = (0 : Int32)))) (by decide) (by decide) (XS.iload X318.here hx rfl (hb hby at_109) rfl (XS.iconst X318.here hx rfl (hb hby at_111) (XS.icmpYes X318.here hx rfl (pc0 := 112) (pc' := 122) rfl (hb hby at_112) rfl (XT.ii_ne_t (by decide : ¬ ((2 : Int32) = (1 : Int32)))) (by decide) (by decide) k_)))))) ?_
    show Run _ _ _ _ (T318.setTop (mkF m 122 #[.val (.int p1), .val (.int p2), .val (.long p3), .second, .val (.int (2 : Int32)), .val (.ref o_ZSTD), .val (.int (0 : Int32)), .unset, .unset, .unset, .unset, .unset] []))
    refine Run.step (fun t_ k_ => XS.iload X318.here hx rfl (hb hby at_122) rfl (XS.iconst X318.here hx rfl (hb hby at_124) (XS.icmpYes X318.here hx rfl (pc0 := 125) (pc' := 134) rfl (hb hby at_125) rfl (XT.ii_lt_t (by decide : (2 : Int32) < (4 : Int32))) (by decide) (by decide) (XS.iconst X318.here hx rfl (hb hby at_134) (XS.istore X318.here hx rfl (hb hby at_135) rfl (l' := #[.val (.int p1), .val (.int p2), .val (.long p3), .second, .val (.int (2 : Int32)), .val (.ref o_ZSTD), .val (.int (0 : Int32)), .val (.int (4 : Int32)), .unset, .unset, .unset, .unset]) rfl (XS.iload X318.here hx rfl (hb hby at_137) rfl k_)))))) ?_
    show Run _ _ _ _ (T318.setTop (mkF m 139 #[.val (.int p1), .val (.int p2), .val (.long p3), .second, .val (.int (2 : Int32)), .val (.ref o_ZSTD), .val (.int (0 : Int32)), .val (.int (4 : Int32)), .unset, .unset, .unset, .unset] [(.int (0 : Int32))]))
    refine Run.step (fun t_ k_ => XS.iloadN X318.here hx rfl (hb hby at_139) rfl (XS.bipush X318.here hx rfl (hb hby at_140) (XS.iand X318.here hx rfl (hb hby at_142) rfl (XS.iadd X318.here hx rfl (hb hby at_143) rfl (XS.istore X318.here hx rfl (hb hby at_144) rfl (l' := #[.val (.int p1), .val (.int p2), .val (.long p3), .second, .val (.int (2 : Int32)), .val (.ref o_ZSTD), .val (.int (0 : Int32)), .val (.int (4 : Int32)), .val (.int ((0 : Int32) + (p2 &&& (7 : Int32)))), .unset, .unset, .unset]) rfl (XS.iloadN X318.here hx rfl (hb hby at_146) rfl k_)))))) ?_
    show Run _ _ _ _ (T318.setTop (mkF m 147 #[.val (.int p1), .val (.int p2), .val (.long p3), .second, .val (.int (2 : Int32)), .val (.ref o_ZSTD), .val (.int (0 : Int32)), .val (.int (4 : Int32)), .val (.int ((0 : Int32) + (p2 &&& (7 : Int32)))), .unset, .unset, .unset] [(.int p2)]))
    refine Run.step (fun t_ k_ => XS.iconst X318.here hx rfl (hb hby at_147) (XS.iushr X318.here hx rfl (hb hby at_148) rfl (XS.bipush X318.here hx rfl (hb hby at_149) (XS.iand X318.here hx rfl (hb hby at_151) rfl (XS.istore X318.here hx rfl (hb hby at_152) rfl (l' := #[.val (.int p1), .val (.int p2), .val (.long p3), .second, .val (.int (2 : Int32)), .val (.ref o_ZSTD), .val (.int (0 : Int32)), .val (.int (4 : Int32)), .val (.int ((0 : Int32) + (p2 &&& (7 : Int32)))), .val (.int (((p2.toUInt32 >>> ((3 : Int32) &&& 31).toUInt32).toInt32) &&& (63 : Int32))), .unset, .unset]) rfl k_))))) ?_
    show Run _ _ _ _ (T318.setTop (mkF m 154 #[.val (.int p1), .val (.int p2), .val (.long p3), .second, .val (.int (2 : Int32)), .val (.ref o_ZSTD), .val (.int (0 : Int32)), .val (.int (4 : Int32)), .val (.int ((0 : Int32) + (p2 &&& (7 : Int32)))), .val (.int (((p2.toUInt32 >>> ((3 : Int32) &&& 31).toUInt32).toInt32) &&& (63 : Int32))), .unset, .unset] []))
    obtain ⟨nn, hnn⟩ : ∃ z, z = ((0 : Int32) + (p2 &&& (7 : Int32))) := ⟨_, rfl⟩
    rw [← hnn]
    have nn0 : ¬ nn < 0 := by rw [hnn]; exact (own_n0 p2).1
    have nn1 : nn.toNatClampNeg ≤ 7 := by rw [hnn]; exact (own_n0 p2).2
    obtain ⟨sl, hsl⟩ : ∃ z, z = (((p2.toUInt32 >>> ((3 : Int32) &&& 31).toUInt32).toInt32) &&& (63 : Int32)) := ⟨_, rfl⟩
    rw [← hsl]
    show Run _ _ _ _ (T318.setTop (mkF m 154 #[.val (.int p1), .val (.int p2), .val (.long p3), .second, .val (.int (2 : Int32)), .val (.ref o_ZSTD), .val (.int (0 : Int32)), .val (.int (4 : Int32)), .val (.int nn), .val (.int sl), .unset, .unset] []))
    refine Run.step (fun t_ k_ => XS.iload X318.here hx rfl (hb hby at_154) rfl k_) ?_
    show Run _ _ _ _ (T318.setTop (mkF m 156 #[.val (.int p1), .val (.int p2), .val (.long p3), .second, .val (.int (2 : Int32)), .val (.ref o_ZSTD), .val (.int (0 : Int32)), .val (.int (4 : Int32)), .val (.int nn), .val (.int sl), .unset, .unset] [(.int nn)]))
    obtain ⟨T319, h319, k319, X319, e319, E319, A319, st319⟩ := newP (aty := .byte) X318 hx hZ w4 e318 (g := (mkF m 156 #[.val (.int p1), .val (.int p2), .val (.long p3), .second, .val (.int (2 : Int32)), .val (.ref o_ZSTD), .val (.int (0 : Int32)), .val (.int (4 : Int32)), .val (.int nn), .val (.int sl), .unset, .unset] [(.int nn)])) rfl (hb hby at_156) rfl nn0 (cap := 7) nn1 (by decide) (by decide) (by decide)
    obtain ⟨b319, g319⟩ : ∃ z, z = h0.size := ⟨_, rfl⟩
    rw [← g319] at A319 st319
    refine Run.step st319 ?_
    have g_b319 : n0 ≤ b319 := Nat.le_trans Z0 (Nat.le_of_eq g319.symm)
    have z320 := Nat.le_trans Z0 E319.1
    have O321 := O0.ext E319
    have f322 : Arv Z h319 b319 k319 .byte nn [] (.int (0 : Int32)) := Arv.pad (Arv.new A319 nn0) (pad_rep [] (.int (0 : Int32)) 0)
    show Run _ _ _ _ (T319.setTop (mkF m 158 #[.val (.int p1), .val (.int p2), .val (.long p3), .second, .val (.int (2 : Int32)), .val (.ref o_ZSTD), .val (.int (0 : Int32)), .val (.int (4 : Int32)), .val (.int nn), .val (.int sl), .unset, .unset] [(.ref b319)]))
    refine Run.step (fun t_ k_ => XS.astore X319.here hx rfl (hb hby at_158) rfl rfl (l' := #[.val (.int p1), .val (.int p2), .val (.long p3), .second, .val (.int (2 : Int32)), .val (.ref o_ZSTD), .val (.int (0 : Int32)), .val (.int (4 : Int32)), .val (.int nn), .val (.int sl), .val (.ref b319), .unset]) rfl k_) ?_
    show Run _ _ _ _ (T319.setTop (mkF m 160 #[.val (.int p1), .val (.int p2), .val (.long p3), .second, .val (.int (2 : Int32)), .val (.ref o_ZSTD), .val (.int (0 : Int32)), .val (.int (4 : Int32)), .val (.int nn), .val (.int sl), .val (.ref b319), .unset] []))
    have fB := Bv.new f322
    refine Run.step (fun t_ k_ => XS.aload X319.here hx rfl (hb hby at_160) rfl rfl (XS.iload X319.here hx rfl (hb hby at_162) rfl (XS.iload X319.here hx rfl (hb hby at_164) rfl (XS.iconst X319.here hx rfl (hb hby at_166) (XS.iload X319.here hx rfl (hb hby at_167) rfl (XS.lloadN X319.here hx rfl (hb hby at_169) rfl k_)))))) ?_
    show Run _ _ _ _ (T319.setTop (mkF m 170 #[.val (.int p1), .val (.int p2), .val (.long p3), .second, .val (.int (2 : Int32)), .val (.ref o_ZSTD), .val (.int (0 : Int32)), .val (.int (4 : Int32)), .val (.int nn), .val (.int sl), .val (.ref b319), .unset] [(.long p3), (.int sl), (.int (0 : Int32)), (.int (2 : Int32)), (.int (0 : Int32)), (.ref b319)]))
    obtain ⟨_, _, ⟨T323, L323, k323, n323⟩, -, X323, ⟨Lc323, hQ323, l323, y323, z323⟩, st323⟩ := Jvm.LawKit.callS X319 hx (y := (⟨"cleave/io/PackedFormatHoldsMagicPinLaw", "pick", "(IIIJ)B"⟩ : MethodName)) hown (mvT hZ w5) (mvT hZ w6) (mvT hZ w7) (mvT hZ w8) (by decide) (backOf (W := 2) (rm1 l Z a0 hw [] (2 : Int32) (0 : Int32) sl p3 h319 n0 z320) hZ w8 w7 (by decide) (by decide)) (g := (mkF m 170 #[.val (.int p1), .val (.int p2), .val (.long p3), .second, .val (.int (2 : Int32)), .val (.ref o_ZSTD), .val (.int (0 : Int32)), .val (.int (4 : Int32)), .val (.int nn), .val (.int sl), .val (.ref b319), .unset] [(.long p3), (.int sl), (.int (0 : Int32)), (.int (2 : Int32)), (.int (0 : Int32)), (.ref b319)])) rfl (by rw [hml]; rfl) (argsL := [(.int (2 : Int32)), (.int (0 : Int32)), (.int sl), (.long p3)]) (rest := [(.int (0 : Int32)), (.ref b319)]) (lenOf pd__28IIIJ_29B rfl) rfl (by show 2 * 0 + _ ≤ _; exact Nat.le_of_eq rfl) (hb hby at_170) (fun _ _ => ⟨rfl, e319, (by decide : 1 + 0 ≤ _), (by decide : 7 + 0 ≤ _)⟩)
    dsimp only [Pt.U, Pt.locs, Pt.cells, Pt.slots] at X323 l323 y323 z323 st323 hQ323
    subst l323 y323 z323
    refine Run.step (st323) ?_
    obtain ⟨rfl, N323q, e323q⟩ := hQ323
    have N323 := Fr.app N0 N323q
    show Run _ _ _ _ (T323.setTop (mkF m 173 #[.val (.int p1), .val (.int p2), .val (.long p3), .second, .val (.int (2 : Int32)), .val (.ref o_ZSTD), .val (.int (0 : Int32)), .val (.int (4 : Int32)), .val (.int nn), .val (.int sl), .val (.ref b319), .unset] [(.int (own_pick (2 : Int32) (0 : Int32) sl p3)), (.int (0 : Int32)), (.ref b319)]))
    obtain ⟨b0, hb0⟩ : ∃ z, z = (own_pick (2 : Int32) (0 : Int32) sl p3) := ⟨_, rfl⟩
    rw [← hb0]
    have nb0 : nar .byte b0 = b0 := by rw [hb0]; exact own_pickb _ _ _ _
    show Run _ _ _ _ (T323.setTop (mkF m 173 #[.val (.int p1), .val (.int p2), .val (.long p3), .second, .val (.int (2 : Int32)), .val (.ref o_ZSTD), .val (.int (0 : Int32)), .val (.int (4 : Int32)), .val (.int nn), .val (.int sl), .val (.ref b319), .unset] [(.int b0), (.int (0 : Int32)), (.ref b319)]))
    obtain ⟨_, _, ⟨T324, L324, k324, n324⟩, -, X324, ⟨Lc324, hQ324, l324, y324, z324⟩, st324⟩ := Jvm.LawKit.callS X323 hx (y := (⟨"cleave/io/PackedFormatHoldsMagicPinLaw", "put", "([BIB)V"⟩ : MethodName)) hown (mvT hZ w9) (mvT hZ w10) (mvT hZ w7) (mvT hZ w11) (by decide) (backOf (W := 0) (rm2 l Z a0 hw [] b319 (0 : Int32) b0 nn (fun _ => 0) h319 n0 z320 fB (by decide) nb0 g_b319) hZ w11 w7 (by decide) (by decide)) (g := (mkF m 173 #[.val (.int p1), .val (.int p2), .val (.long p3), .second, .val (.int (2 : Int32)), .val (.ref o_ZSTD), .val (.int (0 : Int32)), .val (.int (4 : Int32)), .val (.int nn), .val (.int sl), .val (.ref b319), .unset] [(.int b0), (.int (0 : Int32)), (.ref b319)])) rfl (by rw [hml]; rfl) (argsL := [(.ref b319), (.int (0 : Int32)), (.int b0)]) (rest := []) (lenOf pd__28_5bBIB_29V rfl) rfl (by show 2 * 0 + _ ≤ _; exact Nat.le_of_eq rfl) (hb hby at_173) (fun _ _ => ⟨rfl, e323q, (by decide : 1 + 0 ≤ _), (by decide : 7 + 0 ≤ _)⟩)
    dsimp only [Pt.U, Pt.locs, Pt.cells, Pt.slots] at X324 l324 y324 z324 st324 hQ324
    subst l324 y324 z324
    refine Run.step (st324) ?_
    obtain ⟨rfl, N324q, K324q, fv324⟩ := hQ324
    have N324 := Fr.app N323 N324q
    have z326 := Nat.le_trans z320 K324q.1
    have O327 := O321.keep K324q (allS g_b319 all0)
    obtain ⟨gg324, hg324⟩ : ∃ z, z = own_up (fun _ => 0) (0 : Int32).toNatClampNeg b0 := ⟨_, rfl⟩
    rw [← hg324] at fv324
    show Run _ _ _ _ (T324.setTop (mkF m 176 #[.val (.int p1), .val (.int p2), .val (.long p3), .second, .val (.int (2 : Int32)), .val (.ref o_ZSTD), .val (.int (0 : Int32)), .val (.int (4 : Int32)), .val (.int nn), .val (.int sl), .val (.ref b319), .unset] []))
    refine Run.step (fun t_ k_ => XS.aload X324.here hx rfl (hb hby at_176) rfl rfl (XS.iload X324.here hx rfl (hb hby at_178) rfl (XS.iconst X324.here hx rfl (hb hby at_180) (XS.iadd X324.here hx rfl (hb hby at_181) rfl (XS.iload X324.here hx rfl (hb hby at_182) rfl (XS.iconst X324.here hx rfl (hb hby at_184) k_)))))) ?_
    show Run _ _ _ _ (T324.setTop (mkF m 185 #[.val (.int p1), .val (.int p2), .val (.long p3), .second, .val (.int (2 : Int32)), .val (.ref o_ZSTD), .val (.int (0 : Int32)), .val (.int (4 : Int32)), .val (.int nn), .val (.int sl), .val (.ref b319), .unset] [(.int (1 : Int32)), (.int (2 : Int32)), (.int (1 : Int32)), (.ref b319)]))
    refine Run.step (fun t_ k_ => XS.iload X324.here hx rfl (hb hby at_185) rfl (XS.lloadN X324.here hx rfl (hb hby at_187) rfl k_)) ?_
    show Run _ _ _ _ (T324.setTop (mkF m 188 #[.val (.int p1), .val (.int p2), .val (.long p3), .second, .val (.int (2 : Int32)), .val (.ref o_ZSTD), .val (.int (0 : Int32)), .val (.int (4 : Int32)), .val (.int nn), .val (.int sl), .val (.ref b319), .unset] [(.long p3), (.int sl), (.int (1 : Int32)), (.int (2 : Int32)), (.int (1 : Int32)), (.ref b319)]))
    obtain ⟨_, _, ⟨T328, L328, k328, n328⟩, -, X328, ⟨Lc328, hQ328, l328, y328, z328⟩, st328⟩ := Jvm.LawKit.callS X324 hx (y := (⟨"cleave/io/PackedFormatHoldsMagicPinLaw", "pick", "(IIIJ)B"⟩ : MethodName)) hown (mvT hZ w5) (mvT hZ w6) (mvT hZ w7) (mvT hZ w8) (by decide) (backOf (W := 2) (rm1 l Z a0 hw [] (2 : Int32) (1 : Int32) sl p3 T324.heap n0 z326) hZ w8 w7 (by decide) (by decide)) (g := (mkF m 188 #[.val (.int p1), .val (.int p2), .val (.long p3), .second, .val (.int (2 : Int32)), .val (.ref o_ZSTD), .val (.int (0 : Int32)), .val (.int (4 : Int32)), .val (.int nn), .val (.int sl), .val (.ref b319), .unset] [(.long p3), (.int sl), (.int (1 : Int32)), (.int (2 : Int32)), (.int (1 : Int32)), (.ref b319)])) rfl (by rw [hml]; rfl) (argsL := [(.int (2 : Int32)), (.int (1 : Int32)), (.int sl), (.long p3)]) (rest := [(.int (1 : Int32)), (.ref b319)]) (lenOf pd__28IIIJ_29B rfl) rfl (by show 2 * 0 + _ ≤ _; exact Nat.le_of_eq rfl) (hb hby at_188) (fun _ _ => ⟨rfl, rfl, (by decide : 1 + 0 ≤ _), (by decide : 7 + 0 ≤ _)⟩)
    dsimp only [Pt.U, Pt.locs, Pt.cells, Pt.slots] at X328 l328 y328 z328 st328 hQ328
    subst l328 y328 z328
    refine Run.step (st328) ?_
    obtain ⟨rfl, N328q, e328q⟩ := hQ328
    have N328 := Fr.app N324 N328q
    show Run _ _ _ _ (T328.setTop (mkF m 191 #[.val (.int p1), .val (.int p2), .val (.long p3), .second, .val (.int (2 : Int32)), .val (.ref o_ZSTD), .val (.int (0 : Int32)), .val (.int (4 : Int32)), .val (.int nn), .val (.int sl), .val (.ref b319), .unset] [(.int (own_pick (2 : Int32) (1 : Int32) sl p3)), (.int (1 : Int32)), (.ref b319)]))
    obtain ⟨b1, hb1⟩ : ∃ z, z = (own_pick (2 : Int32) (1 : Int32) sl p3) := ⟨_, rfl⟩
    rw [← hb1]
    have nb1 : nar .byte b1 = b1 := by rw [hb1]; exact own_pickb _ _ _ _
    show Run _ _ _ _ (T328.setTop (mkF m 191 #[.val (.int p1), .val (.int p2), .val (.long p3), .second, .val (.int (2 : Int32)), .val (.ref o_ZSTD), .val (.int (0 : Int32)), .val (.int (4 : Int32)), .val (.int nn), .val (.int sl), .val (.ref b319), .unset] [(.int b1), (.int (1 : Int32)), (.ref b319)]))
    obtain ⟨_, _, ⟨T329, L329, k329, n329⟩, -, X329, ⟨Lc329, hQ329, l329, y329, z329⟩, st329⟩ := Jvm.LawKit.callS X328 hx (y := (⟨"cleave/io/PackedFormatHoldsMagicPinLaw", "put", "([BIB)V"⟩ : MethodName)) hown (mvT hZ w9) (mvT hZ w10) (mvT hZ w7) (mvT hZ w11) (by decide) (backOf (W := 0) (rm2 l Z a0 hw [] b319 (1 : Int32) b1 nn gg324 T324.heap n0 z326 fv324 (by decide) nb1 g_b319) hZ w11 w7 (by decide) (by decide)) (g := (mkF m 191 #[.val (.int p1), .val (.int p2), .val (.long p3), .second, .val (.int (2 : Int32)), .val (.ref o_ZSTD), .val (.int (0 : Int32)), .val (.int (4 : Int32)), .val (.int nn), .val (.int sl), .val (.ref b319), .unset] [(.int b1), (.int (1 : Int32)), (.ref b319)])) rfl (by rw [hml]; rfl) (argsL := [(.ref b319), (.int (1 : Int32)), (.int b1)]) (rest := []) (lenOf pd__28_5bBIB_29V rfl) rfl (by show 2 * 0 + _ ≤ _; exact Nat.le_of_eq rfl) (hb hby at_191) (fun _ _ => ⟨rfl, e328q, (by decide : 1 + 0 ≤ _), (by decide : 7 + 0 ≤ _)⟩)
    dsimp only [Pt.U, Pt.locs, Pt.cells, Pt.slots] at X329 l329 y329 z329 st329 hQ329
    subst l329 y329 z329
    refine Run.step (st329) ?_
    obtain ⟨rfl, N329q, K329q, fv329⟩ := hQ329
    have N329 := Fr.app N328 N329q
    have z331 := Nat.le_trans z326 K329q.1
    have O332 := O327.keep K329q (allS g_b319 all0)
    obtain ⟨gg329, hg329⟩ : ∃ z, z = own_up gg324 (1 : Int32).toNatClampNeg b1 := ⟨_, rfl⟩
    rw [← hg329] at fv329
    show Run _ _ _ _ (T329.setTop (mkF m 194 #[.val (.int p1), .val (.int p2), .val (.long p3), .second, .val (.int (2 : Int32)), .val (.ref o_ZSTD), .val (.int (0 : Int32)), .val (.int (4 : Int32)), .val (.int nn), .val (.int sl), .val (.ref b319), .unset] []))
    refine Run.step (fun t_ k_ => XS.aload X329.here hx rfl (hb hby at_194) rfl rfl (XS.iload X329.here hx rfl (hb hby at_196) rfl (XS.iconst X329.here hx rfl (hb hby at_198) (XS.iadd X329.here hx rfl (hb hby at_199) rfl (XS.iload X329.here hx rfl (hb hby at_200) rfl (XS.iconst X329.here hx rfl (hb hby at_202) k_)))))) ?_
    show Run _ _ _ _ (T329.setTop (mkF m 203 #[.val (.int p1), .val (.int p2), .val (.long p3), .second, .val (.int (2 : Int32)), .val (.ref o_ZSTD), .val (.int (0 : Int32)), .val (.int (4 : Int32)), .val (.int nn), .val (.int sl), .val (.ref b319), .unset] [(.int (2 : Int32)), (.int (2 : Int32)), (.int (2 : Int32)), (.ref b319)]))
    refine Run.step (fun t_ k_ => XS.iload X329.here hx rfl (hb hby at_203) rfl (XS.lloadN X329.here hx rfl (hb hby at_205) rfl k_)) ?_
    show Run _ _ _ _ (T329.setTop (mkF m 206 #[.val (.int p1), .val (.int p2), .val (.long p3), .second, .val (.int (2 : Int32)), .val (.ref o_ZSTD), .val (.int (0 : Int32)), .val (.int (4 : Int32)), .val (.int nn), .val (.int sl), .val (.ref b319), .unset] [(.long p3), (.int sl), (.int (2 : Int32)), (.int (2 : Int32)), (.int (2 : Int32)), (.ref b319)]))
    obtain ⟨_, _, ⟨T333, L333, k333, n333⟩, -, X333, ⟨Lc333, hQ333, l333, y333, z333⟩, st333⟩ := Jvm.LawKit.callS X329 hx (y := (⟨"cleave/io/PackedFormatHoldsMagicPinLaw", "pick", "(IIIJ)B"⟩ : MethodName)) hown (mvT hZ w5) (mvT hZ w6) (mvT hZ w7) (mvT hZ w8) (by decide) (backOf (W := 2) (rm1 l Z a0 hw [] (2 : Int32) (2 : Int32) sl p3 T329.heap n0 z331) hZ w8 w7 (by decide) (by decide)) (g := (mkF m 206 #[.val (.int p1), .val (.int p2), .val (.long p3), .second, .val (.int (2 : Int32)), .val (.ref o_ZSTD), .val (.int (0 : Int32)), .val (.int (4 : Int32)), .val (.int nn), .val (.int sl), .val (.ref b319), .unset] [(.long p3), (.int sl), (.int (2 : Int32)), (.int (2 : Int32)), (.int (2 : Int32)), (.ref b319)])) rfl (by rw [hml]; rfl) (argsL := [(.int (2 : Int32)), (.int (2 : Int32)), (.int sl), (.long p3)]) (rest := [(.int (2 : Int32)), (.ref b319)]) (lenOf pd__28IIIJ_29B rfl) rfl (by show 2 * 0 + _ ≤ _; exact Nat.le_of_eq rfl) (hb hby at_206) (fun _ _ => ⟨rfl, rfl, (by decide : 1 + 0 ≤ _), (by decide : 7 + 0 ≤ _)⟩)
    dsimp only [Pt.U, Pt.locs, Pt.cells, Pt.slots] at X333 l333 y333 z333 st333 hQ333
    subst l333 y333 z333
    refine Run.step (st333) ?_
    obtain ⟨rfl, N333q, e333q⟩ := hQ333
    have N333 := Fr.app N329 N333q
    show Run _ _ _ _ (T333.setTop (mkF m 209 #[.val (.int p1), .val (.int p2), .val (.long p3), .second, .val (.int (2 : Int32)), .val (.ref o_ZSTD), .val (.int (0 : Int32)), .val (.int (4 : Int32)), .val (.int nn), .val (.int sl), .val (.ref b319), .unset] [(.int (own_pick (2 : Int32) (2 : Int32) sl p3)), (.int (2 : Int32)), (.ref b319)]))
    obtain ⟨b2, hb2⟩ : ∃ z, z = (own_pick (2 : Int32) (2 : Int32) sl p3) := ⟨_, rfl⟩
    rw [← hb2]
    have nb2 : nar .byte b2 = b2 := by rw [hb2]; exact own_pickb _ _ _ _
    show Run _ _ _ _ (T333.setTop (mkF m 209 #[.val (.int p1), .val (.int p2), .val (.long p3), .second, .val (.int (2 : Int32)), .val (.ref o_ZSTD), .val (.int (0 : Int32)), .val (.int (4 : Int32)), .val (.int nn), .val (.int sl), .val (.ref b319), .unset] [(.int b2), (.int (2 : Int32)), (.ref b319)]))
    obtain ⟨_, _, ⟨T334, L334, k334, n334⟩, -, X334, ⟨Lc334, hQ334, l334, y334, z334⟩, st334⟩ := Jvm.LawKit.callS X333 hx (y := (⟨"cleave/io/PackedFormatHoldsMagicPinLaw", "put", "([BIB)V"⟩ : MethodName)) hown (mvT hZ w9) (mvT hZ w10) (mvT hZ w7) (mvT hZ w11) (by decide) (backOf (W := 0) (rm2 l Z a0 hw [] b319 (2 : Int32) b2 nn gg329 T329.heap n0 z331 fv329 (by decide) nb2 g_b319) hZ w11 w7 (by decide) (by decide)) (g := (mkF m 209 #[.val (.int p1), .val (.int p2), .val (.long p3), .second, .val (.int (2 : Int32)), .val (.ref o_ZSTD), .val (.int (0 : Int32)), .val (.int (4 : Int32)), .val (.int nn), .val (.int sl), .val (.ref b319), .unset] [(.int b2), (.int (2 : Int32)), (.ref b319)])) rfl (by rw [hml]; rfl) (argsL := [(.ref b319), (.int (2 : Int32)), (.int b2)]) (rest := []) (lenOf pd__28_5bBIB_29V rfl) rfl (by show 2 * 0 + _ ≤ _; exact Nat.le_of_eq rfl) (hb hby at_209) (fun _ _ => ⟨rfl, e333q, (by decide : 1 + 0 ≤ _), (by decide : 7 + 0 ≤ _)⟩)
    dsimp only [Pt.U, Pt.locs, Pt.cells, Pt.slots] at X334 l334 y334 z334 st334 hQ334
    subst l334 y334 z334
    refine Run.step (st334) ?_
    obtain ⟨rfl, N334q, K334q, fv334⟩ := hQ334
    have N334 := Fr.app N333 N334q
    have z336 := Nat.le_trans z331 K334q.1
    have O337 := O332.keep K334q (allS g_b319 all0)
    obtain ⟨gg334, hg334⟩ : ∃ z, z = own_up gg329 (2 : Int32).toNatClampNeg b2 := ⟨_, rfl⟩
    rw [← hg334] at fv334
    show Run _ _ _ _ (T334.setTop (mkF m 212 #[.val (.int p1), .val (.int p2), .val (.long p3), .second, .val (.int (2 : Int32)), .val (.ref o_ZSTD), .val (.int (0 : Int32)), .val (.int (4 : Int32)), .val (.int nn), .val (.int sl), .val (.ref b319), .unset] []))
    refine Run.step (fun t_ k_ => XS.aload X334.here hx rfl (hb hby at_212) rfl rfl (XS.iload X334.here hx rfl (hb hby at_214) rfl (XS.iconst X334.here hx rfl (hb hby at_216) (XS.iadd X334.here hx rfl (hb hby at_217) rfl (XS.iload X334.here hx rfl (hb hby at_218) rfl (XS.iconst X334.here hx rfl (hb hby at_220) k_)))))) ?_
    show Run _ _ _ _ (T334.setTop (mkF m 221 #[.val (.int p1), .val (.int p2), .val (.long p3), .second, .val (.int (2 : Int32)), .val (.ref o_ZSTD), .val (.int (0 : Int32)), .val (.int (4 : Int32)), .val (.int nn), .val (.int sl), .val (.ref b319), .unset] [(.int (3 : Int32)), (.int (2 : Int32)), (.int (3 : Int32)), (.ref b319)]))
    refine Run.step (fun t_ k_ => XS.iload X334.here hx rfl (hb hby at_221) rfl (XS.lloadN X334.here hx rfl (hb hby at_223) rfl k_)) ?_
    show Run _ _ _ _ (T334.setTop (mkF m 224 #[.val (.int p1), .val (.int p2), .val (.long p3), .second, .val (.int (2 : Int32)), .val (.ref o_ZSTD), .val (.int (0 : Int32)), .val (.int (4 : Int32)), .val (.int nn), .val (.int sl), .val (.ref b319), .unset] [(.long p3), (.int sl), (.int (3 : Int32)), (.int (2 : Int32)), (.int (3 : Int32)), (.ref b319)]))
    obtain ⟨_, _, ⟨T338, L338, k338, n338⟩, -, X338, ⟨Lc338, hQ338, l338, y338, z338⟩, st338⟩ := Jvm.LawKit.callS X334 hx (y := (⟨"cleave/io/PackedFormatHoldsMagicPinLaw", "pick", "(IIIJ)B"⟩ : MethodName)) hown (mvT hZ w5) (mvT hZ w6) (mvT hZ w7) (mvT hZ w8) (by decide) (backOf (W := 2) (rm1 l Z a0 hw [] (2 : Int32) (3 : Int32) sl p3 T334.heap n0 z336) hZ w8 w7 (by decide) (by decide)) (g := (mkF m 224 #[.val (.int p1), .val (.int p2), .val (.long p3), .second, .val (.int (2 : Int32)), .val (.ref o_ZSTD), .val (.int (0 : Int32)), .val (.int (4 : Int32)), .val (.int nn), .val (.int sl), .val (.ref b319), .unset] [(.long p3), (.int sl), (.int (3 : Int32)), (.int (2 : Int32)), (.int (3 : Int32)), (.ref b319)])) rfl (by rw [hml]; rfl) (argsL := [(.int (2 : Int32)), (.int (3 : Int32)), (.int sl), (.long p3)]) (rest := [(.int (3 : Int32)), (.ref b319)]) (lenOf pd__28IIIJ_29B rfl) rfl (by show 2 * 0 + _ ≤ _; exact Nat.le_of_eq rfl) (hb hby at_224) (fun _ _ => ⟨rfl, rfl, (by decide : 1 + 0 ≤ _), (by decide : 7 + 0 ≤ _)⟩)
    dsimp only [Pt.U, Pt.locs, Pt.cells, Pt.slots] at X338 l338 y338 z338 st338 hQ338
    subst l338 y338 z338
    refine Run.step (st338) ?_
    obtain ⟨rfl, N338q, e338q⟩ := hQ338
    have N338 := Fr.app N334 N338q
    show Run _ _ _ _ (T338.setTop (mkF m 227 #[.val (.int p1), .val (.int p2), .val (.long p3), .second, .val (.int (2 : Int32)), .val (.ref o_ZSTD), .val (.int (0 : Int32)), .val (.int (4 : Int32)), .val (.int nn), .val (.int sl), .val (.ref b319), .unset] [(.int (own_pick (2 : Int32) (3 : Int32) sl p3)), (.int (3 : Int32)), (.ref b319)]))
    obtain ⟨b3, hb3⟩ : ∃ z, z = (own_pick (2 : Int32) (3 : Int32) sl p3) := ⟨_, rfl⟩
    rw [← hb3]
    have nb3 : nar .byte b3 = b3 := by rw [hb3]; exact own_pickb _ _ _ _
    show Run _ _ _ _ (T338.setTop (mkF m 227 #[.val (.int p1), .val (.int p2), .val (.long p3), .second, .val (.int (2 : Int32)), .val (.ref o_ZSTD), .val (.int (0 : Int32)), .val (.int (4 : Int32)), .val (.int nn), .val (.int sl), .val (.ref b319), .unset] [(.int b3), (.int (3 : Int32)), (.ref b319)]))
    obtain ⟨_, _, ⟨T339, L339, k339, n339⟩, -, X339, ⟨Lc339, hQ339, l339, y339, z339⟩, st339⟩ := Jvm.LawKit.callS X338 hx (y := (⟨"cleave/io/PackedFormatHoldsMagicPinLaw", "put", "([BIB)V"⟩ : MethodName)) hown (mvT hZ w9) (mvT hZ w10) (mvT hZ w7) (mvT hZ w11) (by decide) (backOf (W := 0) (rm2 l Z a0 hw [] b319 (3 : Int32) b3 nn gg334 T334.heap n0 z336 fv334 (by decide) nb3 g_b319) hZ w11 w7 (by decide) (by decide)) (g := (mkF m 227 #[.val (.int p1), .val (.int p2), .val (.long p3), .second, .val (.int (2 : Int32)), .val (.ref o_ZSTD), .val (.int (0 : Int32)), .val (.int (4 : Int32)), .val (.int nn), .val (.int sl), .val (.ref b319), .unset] [(.int b3), (.int (3 : Int32)), (.ref b319)])) rfl (by rw [hml]; rfl) (argsL := [(.ref b319), (.int (3 : Int32)), (.int b3)]) (rest := []) (lenOf pd__28_5bBIB_29V rfl) rfl (by show 2 * 0 + _ ≤ _; exact Nat.le_of_eq rfl) (hb hby at_227) (fun _ _ => ⟨rfl, e338q, (by decide : 1 + 0 ≤ _), (by decide : 7 + 0 ≤ _)⟩)
    dsimp only [Pt.U, Pt.locs, Pt.cells, Pt.slots] at X339 l339 y339 z339 st339 hQ339
    subst l339 y339 z339
    refine Run.step (st339) ?_
    obtain ⟨rfl, N339q, K339q, fv339⟩ := hQ339
    have N339 := Fr.app N338 N339q
    have z341 := Nat.le_trans z336 K339q.1
    have O342 := O337.keep K339q (allS g_b319 all0)
    obtain ⟨gg339, hg339⟩ : ∃ z, z = own_up gg334 (3 : Int32).toNatClampNeg b3 := ⟨_, rfl⟩
    rw [← hg339] at fv339
    show Run _ _ _ _ (T339.setTop (mkF m 230 #[.val (.int p1), .val (.int p2), .val (.long p3), .second, .val (.int (2 : Int32)), .val (.ref o_ZSTD), .val (.int (0 : Int32)), .val (.int (4 : Int32)), .val (.int nn), .val (.int sl), .val (.ref b319), .unset] []))
    refine Run.step (fun t_ k_ => XS.aload X339.here hx rfl (hb hby at_230) rfl rfl (XS.iload X339.here hx rfl (hb hby at_232) rfl (XS.iconst X339.here hx rfl (hb hby at_234) (XS.iadd X339.here hx rfl (hb hby at_235) rfl (XS.iload X339.here hx rfl (hb hby at_236) rfl (XS.iconst X339.here hx rfl (hb hby at_238) k_)))))) ?_
    show Run _ _ _ _ (T339.setTop (mkF m 239 #[.val (.int p1), .val (.int p2), .val (.long p3), .second, .val (.int (2 : Int32)), .val (.ref o_ZSTD), .val (.int (0 : Int32)), .val (.int (4 : Int32)), .val (.int nn), .val (.int sl), .val (.ref b319), .unset] [(.int (4 : Int32)), (.int (2 : Int32)), (.int (4 : Int32)), (.ref b319)]))
    refine Run.step (fun t_ k_ => XS.iload X339.here hx rfl (hb hby at_239) rfl (XS.lloadN X339.here hx rfl (hb hby at_241) rfl k_)) ?_
    show Run _ _ _ _ (T339.setTop (mkF m 242 #[.val (.int p1), .val (.int p2), .val (.long p3), .second, .val (.int (2 : Int32)), .val (.ref o_ZSTD), .val (.int (0 : Int32)), .val (.int (4 : Int32)), .val (.int nn), .val (.int sl), .val (.ref b319), .unset] [(.long p3), (.int sl), (.int (4 : Int32)), (.int (2 : Int32)), (.int (4 : Int32)), (.ref b319)]))
    obtain ⟨_, _, ⟨T343, L343, k343, n343⟩, -, X343, ⟨Lc343, hQ343, l343, y343, z343⟩, st343⟩ := Jvm.LawKit.callS X339 hx (y := (⟨"cleave/io/PackedFormatHoldsMagicPinLaw", "pick", "(IIIJ)B"⟩ : MethodName)) hown (mvT hZ w5) (mvT hZ w6) (mvT hZ w7) (mvT hZ w8) (by decide) (backOf (W := 2) (rm1 l Z a0 hw [] (2 : Int32) (4 : Int32) sl p3 T339.heap n0 z341) hZ w8 w7 (by decide) (by decide)) (g := (mkF m 242 #[.val (.int p1), .val (.int p2), .val (.long p3), .second, .val (.int (2 : Int32)), .val (.ref o_ZSTD), .val (.int (0 : Int32)), .val (.int (4 : Int32)), .val (.int nn), .val (.int sl), .val (.ref b319), .unset] [(.long p3), (.int sl), (.int (4 : Int32)), (.int (2 : Int32)), (.int (4 : Int32)), (.ref b319)])) rfl (by rw [hml]; rfl) (argsL := [(.int (2 : Int32)), (.int (4 : Int32)), (.int sl), (.long p3)]) (rest := [(.int (4 : Int32)), (.ref b319)]) (lenOf pd__28IIIJ_29B rfl) rfl (by show 2 * 0 + _ ≤ _; exact Nat.le_of_eq rfl) (hb hby at_242) (fun _ _ => ⟨rfl, rfl, (by decide : 1 + 0 ≤ _), (by decide : 7 + 0 ≤ _)⟩)
    dsimp only [Pt.U, Pt.locs, Pt.cells, Pt.slots] at X343 l343 y343 z343 st343 hQ343
    subst l343 y343 z343
    refine Run.step (st343) ?_
    obtain ⟨rfl, N343q, e343q⟩ := hQ343
    have N343 := Fr.app N339 N343q
    show Run _ _ _ _ (T343.setTop (mkF m 245 #[.val (.int p1), .val (.int p2), .val (.long p3), .second, .val (.int (2 : Int32)), .val (.ref o_ZSTD), .val (.int (0 : Int32)), .val (.int (4 : Int32)), .val (.int nn), .val (.int sl), .val (.ref b319), .unset] [(.int (own_pick (2 : Int32) (4 : Int32) sl p3)), (.int (4 : Int32)), (.ref b319)]))
    obtain ⟨b4, hb4⟩ : ∃ z, z = (own_pick (2 : Int32) (4 : Int32) sl p3) := ⟨_, rfl⟩
    rw [← hb4]
    have nb4 : nar .byte b4 = b4 := by rw [hb4]; exact own_pickb _ _ _ _
    show Run _ _ _ _ (T343.setTop (mkF m 245 #[.val (.int p1), .val (.int p2), .val (.long p3), .second, .val (.int (2 : Int32)), .val (.ref o_ZSTD), .val (.int (0 : Int32)), .val (.int (4 : Int32)), .val (.int nn), .val (.int sl), .val (.ref b319), .unset] [(.int b4), (.int (4 : Int32)), (.ref b319)]))
    obtain ⟨_, _, ⟨T344, L344, k344, n344⟩, -, X344, ⟨Lc344, hQ344, l344, y344, z344⟩, st344⟩ := Jvm.LawKit.callS X343 hx (y := (⟨"cleave/io/PackedFormatHoldsMagicPinLaw", "put", "([BIB)V"⟩ : MethodName)) hown (mvT hZ w9) (mvT hZ w10) (mvT hZ w7) (mvT hZ w11) (by decide) (backOf (W := 0) (rm2 l Z a0 hw [] b319 (4 : Int32) b4 nn gg339 T339.heap n0 z341 fv339 (by decide) nb4 g_b319) hZ w11 w7 (by decide) (by decide)) (g := (mkF m 245 #[.val (.int p1), .val (.int p2), .val (.long p3), .second, .val (.int (2 : Int32)), .val (.ref o_ZSTD), .val (.int (0 : Int32)), .val (.int (4 : Int32)), .val (.int nn), .val (.int sl), .val (.ref b319), .unset] [(.int b4), (.int (4 : Int32)), (.ref b319)])) rfl (by rw [hml]; rfl) (argsL := [(.ref b319), (.int (4 : Int32)), (.int b4)]) (rest := []) (lenOf pd__28_5bBIB_29V rfl) rfl (by show 2 * 0 + _ ≤ _; exact Nat.le_of_eq rfl) (hb hby at_245) (fun _ _ => ⟨rfl, e343q, (by decide : 1 + 0 ≤ _), (by decide : 7 + 0 ≤ _)⟩)
    dsimp only [Pt.U, Pt.locs, Pt.cells, Pt.slots] at X344 l344 y344 z344 st344 hQ344
    subst l344 y344 z344
    refine Run.step (st344) ?_
    obtain ⟨rfl, N344q, K344q, fv344⟩ := hQ344
    have N344 := Fr.app N343 N344q
    have z346 := Nat.le_trans z341 K344q.1
    have O347 := O342.keep K344q (allS g_b319 all0)
    obtain ⟨gg344, hg344⟩ : ∃ z, z = own_up gg339 (4 : Int32).toNatClampNeg b4 := ⟨_, rfl⟩
    rw [← hg344] at fv344
    show Run _ _ _ _ (T344.setTop (mkF m 248 #[.val (.int p1), .val (.int p2), .val (.long p3), .second, .val (.int (2 : Int32)), .val (.ref o_ZSTD), .val (.int (0 : Int32)), .val (.int (4 : Int32)), .val (.int nn), .val (.int sl), .val (.ref b319), .unset] []))
    refine Run.step (fun t_ k_ => XS.aload X344.here hx rfl (hb hby at_248) rfl rfl (XS.iload X344.here hx rfl (hb hby at_250) rfl (XS.iconst X344.here hx rfl (hb hby at_252) (XS.iadd X344.here hx rfl (hb hby at_253) rfl (XS.iload X344.here hx rfl (hb hby at_254) rfl (XS.iconst X344.here hx rfl (hb hby at_256) k_)))))) ?_
    show Run _ _ _ _ (T344.setTop (mkF m 257 #[.val (.int p1), .val (.int p2), .val (.long p3), .second, .val (.int (2 : Int32)), .val (.ref o_ZSTD), .val (.int (0 : Int32)), .val (.int (4 : Int32)), .val (.int nn), .val (.int sl), .val (.ref b319), .unset] [(.int (5 : Int32)), (.int (2 : Int32)), (.int (5 : Int32)), (.ref b319)]))
    refine Run.step (fun t_ k_ => XS.iload X344.here hx rfl (hb hby at_257) rfl (XS.lloadN X344.here hx rfl (hb hby at_259) rfl k_)) ?_
    show Run _ _ _ _ (T344.setTop (mkF m 260 #[.val (.int p1), .val (.int p2), .val (.long p3), .second, .val (.int (2 : Int32)), .val (.ref o_ZSTD), .val (.int (0 : Int32)), .val (.int (4 : Int32)), .val (.int nn), .val (.int sl), .val (.ref b319), .unset] [(.long p3), (.int sl), (.int (5 : Int32)), (.int (2 : Int32)), (.int (5 : Int32)), (.ref b319)]))
    obtain ⟨_, _, ⟨T348, L348, k348, n348⟩, -, X348, ⟨Lc348, hQ348, l348, y348, z348⟩, st348⟩ := Jvm.LawKit.callS X344 hx (y := (⟨"cleave/io/PackedFormatHoldsMagicPinLaw", "pick", "(IIIJ)B"⟩ : MethodName)) hown (mvT hZ w5) (mvT hZ w6) (mvT hZ w7) (mvT hZ w8) (by decide) (backOf (W := 2) (rm1 l Z a0 hw [] (2 : Int32) (5 : Int32) sl p3 T344.heap n0 z346) hZ w8 w7 (by decide) (by decide)) (g := (mkF m 260 #[.val (.int p1), .val (.int p2), .val (.long p3), .second, .val (.int (2 : Int32)), .val (.ref o_ZSTD), .val (.int (0 : Int32)), .val (.int (4 : Int32)), .val (.int nn), .val (.int sl), .val (.ref b319), .unset] [(.long p3), (.int sl), (.int (5 : Int32)), (.int (2 : Int32)), (.int (5 : Int32)), (.ref b319)])) rfl (by rw [hml]; rfl) (argsL := [(.int (2 : Int32)), (.int (5 : Int32)), (.int sl), (.long p3)]) (rest := [(.int (5 : Int32)), (.ref b319)]) (lenOf pd__28IIIJ_29B rfl) rfl (by show 2 * 0 + _ ≤ _; exact Nat.le_of_eq rfl) (hb hby at_260) (fun _ _ => ⟨rfl, rfl, (by decide : 1 + 0 ≤ _), (by decide : 7 + 0 ≤ _)⟩)
    dsimp only [Pt.U, Pt.locs, Pt.cells, Pt.slots] at X348 l348 y348 z348 st348 hQ348
    subst l348 y348 z348
    refine Run.step (st348) ?_
    obtain ⟨rfl, N348q, e348q⟩ := hQ348
    have N348 := Fr.app N344 N348q
    show Run _ _ _ _ (T348.setTop (mkF m 263 #[.val (.int p1), .val (.int p2), .val (.long p3), .second, .val (.int (2 : Int32)), .val (.ref o_ZSTD), .val (.int (0 : Int32)), .val (.int (4 : Int32)), .val (.int nn), .val (.int sl), .val (.ref b319), .unset] [(.int (own_pick (2 : Int32) (5 : Int32) sl p3)), (.int (5 : Int32)), (.ref b319)]))
    obtain ⟨b5, hb5⟩ : ∃ z, z = (own_pick (2 : Int32) (5 : Int32) sl p3) := ⟨_, rfl⟩
    rw [← hb5]
    have nb5 : nar .byte b5 = b5 := by rw [hb5]; exact own_pickb _ _ _ _
    show Run _ _ _ _ (T348.setTop (mkF m 263 #[.val (.int p1), .val (.int p2), .val (.long p3), .second, .val (.int (2 : Int32)), .val (.ref o_ZSTD), .val (.int (0 : Int32)), .val (.int (4 : Int32)), .val (.int nn), .val (.int sl), .val (.ref b319), .unset] [(.int b5), (.int (5 : Int32)), (.ref b319)]))
    obtain ⟨_, _, ⟨T349, L349, k349, n349⟩, -, X349, ⟨Lc349, hQ349, l349, y349, z349⟩, st349⟩ := Jvm.LawKit.callS X348 hx (y := (⟨"cleave/io/PackedFormatHoldsMagicPinLaw", "put", "([BIB)V"⟩ : MethodName)) hown (mvT hZ w9) (mvT hZ w10) (mvT hZ w7) (mvT hZ w11) (by decide) (backOf (W := 0) (rm2 l Z a0 hw [] b319 (5 : Int32) b5 nn gg344 T344.heap n0 z346 fv344 (by decide) nb5 g_b319) hZ w11 w7 (by decide) (by decide)) (g := (mkF m 263 #[.val (.int p1), .val (.int p2), .val (.long p3), .second, .val (.int (2 : Int32)), .val (.ref o_ZSTD), .val (.int (0 : Int32)), .val (.int (4 : Int32)), .val (.int nn), .val (.int sl), .val (.ref b319), .unset] [(.int b5), (.int (5 : Int32)), (.ref b319)])) rfl (by rw [hml]; rfl) (argsL := [(.ref b319), (.int (5 : Int32)), (.int b5)]) (rest := []) (lenOf pd__28_5bBIB_29V rfl) rfl (by show 2 * 0 + _ ≤ _; exact Nat.le_of_eq rfl) (hb hby at_263) (fun _ _ => ⟨rfl, e348q, (by decide : 1 + 0 ≤ _), (by decide : 7 + 0 ≤ _)⟩)
    dsimp only [Pt.U, Pt.locs, Pt.cells, Pt.slots] at X349 l349 y349 z349 st349 hQ349
    subst l349 y349 z349
    refine Run.step (st349) ?_
    obtain ⟨rfl, N349q, K349q, fv349⟩ := hQ349
    have N349 := Fr.app N348 N349q
    have z351 := Nat.le_trans z346 K349q.1
    have O352 := O347.keep K349q (allS g_b319 all0)
    obtain ⟨gg349, hg349⟩ : ∃ z, z = own_up gg344 (5 : Int32).toNatClampNeg b5 := ⟨_, rfl⟩
    rw [← hg349] at fv349
    show Run _ _ _ _ (T349.setTop (mkF m 266 #[.val (.int p1), .val (.int p2), .val (.long p3), .second, .val (.int (2 : Int32)), .val (.ref o_ZSTD), .val (.int (0 : Int32)), .val (.int (4 : Int32)), .val (.int nn), .val (.int sl), .val (.ref b319), .unset] []))
    have v0 : gg349 0 = b0 := by rw [hg349, hg344, hg339, hg334, hg329, hg324]; rfl
    have v1 : gg349 1 = b1 := by rw [hg349, hg344, hg339, hg334, hg329, hg324]; rfl
    have v2 : gg349 2 = b2 := by rw [hg349, hg344, hg339, hg334, hg329, hg324]; rfl
    have v3 : gg349 3 = b3 := by rw [hg349, hg344, hg339, hg334, hg329, hg324]; rfl
    have v4 : gg349 4 = b4 := by rw [hg349, hg344, hg339, hg334, hg329, hg324]; rfl
    have v5 : gg349 5 = b5 := by rw [hg349, hg344, hg339, hg334, hg329, hg324]; rfl
    refine Run.step (fun t_ k_ => XS.iload X349.here hx rfl (hb hby at_266) rfl (XS.iload X349.here hx rfl (hb hby at_268) rfl (XS.iload X349.here hx rfl (hb hby at_270) rfl (XS.iadd X349.here hx rfl (hb hby at_272) rfl k_)))) ?_
    show Run _ _ _ _ (T349.setTop (mkF m 273 #[.val (.int p1), .val (.int p2), .val (.long p3), .second, .val (.int (2 : Int32)), .val (.ref o_ZSTD), .val (.int (0 : Int32)), .val (.int (4 : Int32)), .val (.int nn), .val (.int sl), .val (.ref b319), .unset] [(.int (4 : Int32)), (.int nn)]))
    have J353 : ∀ (TJ353 : State) (LJ353 : List Loc) (XJ353 : Stand p l e room_1 s m #[(.int p1), (.int p2), (.long p3)] below meth c TJ353 LJ353 1 7) (eJ353 : TJ353.heap = T349.heap) (NJ353 : Fr n0 LJ353) (wt : Int32), (wt = if nn < (4 : Int32) then 0 else (if b0 = (40 : Int32) then (if b1 = (-75 : Int32) then (if b2 = (47 : Int32) then (if b3 = (-3 : Int32) then (1) else 0) else 0) else 0) else 0)) → Run p.tables e below (PQ s below 16 640 (Q0 Z p1 p2 p3 o_BZIP2 mg_BZIP2 km_BZIP2 o_XZ mg_XZ km_XZ o_ZSTD mg_ZSTD km_ZSTD o_ZIP mg_ZIP km_ZIP o_TAR mg_TAR km_TAR o_GZIP_TAR mg_GZIP_TAR km_GZIP_TAR h0 n0)) (TJ353.setTop (mkF m 372 #[.val (.int p1), .val (.int p2), .val (.long p3), .second, .val (.int (2 : Int32)), .val (.ref o_ZSTD), .val (.int (0 : Int32)), .val (.int (4 : Int32)), .val (.int nn), .val (.int sl), .val (.ref b319), .unset] [(.int wt)])) := by
      intro TJ353 LJ353 XJ353 eJ353 NJ353 wt hv353
      refine Run.step (fun t_ k_ => XS.istore XJ353.here hx rfl (hb hby at_372) rfl (l' := #[.val (.int p1), .val (.int p2), .val (.long p3), .second, .val (.int (2 : Int32)), .val (.ref o_ZSTD), .val (.int (0 : Int32)), .val (.int (4 : Int32)), .val (.int nn), .val (.int sl), .val (.ref b319), .val (.int wt)]) rfl (XS.aload XJ353.here hx rfl (hb hby at_374) rfl rfl (XS.aload XJ353.here hx rfl (hb hby at_376) rfl rfl k_))) ?_
      show Run _ _ _ _ (TJ353.setTop (mkF m 378 #[.val (.int p1), .val (.int p2), .val (.long p3), .second, .val (.int (2 : Int32)), .val (.ref o_ZSTD), .val (.int (0 : Int32)), .val (.int (4 : Int32)), .val (.int nn), .val (.int sl), .val (.ref b319), .val (.int wt)] [(.ref b319), (.ref o_ZSTD)]))
      obtain ⟨cq354, kq354, q354a, q354b, q354c⟩ := isOf hZ eJ353 (E_ZSTD.ext O352.2)
      obtain ⟨_, _, ⟨T354, L354, k354, n354⟩, -, X354, ⟨Lc354, hQ354, l354, y354, z354⟩, st354⟩ := XJ353.virtualBack hx (y := (⟨"cleave/io/PackedFormat", "holdsMagic", "([B)Z"⟩ : MethodName)) (z := (⟨"cleave/io/PackedFormat", "holdsMagic", "([B)Z"⟩ : MethodName)) hown (mvT hZ w18) (mvT hZ w19) (notFace_of_selects (args := #[]) (mvT hZ w29)) (mvT hZ w29) (mvT hZ w20) (by decide) (backOf (W := 0) (rm5_ZSTD l Z a0 hw [] o_ZSTD b319 mg_ZSTD km_ZSTD nn gg349 T349.heap n0 z351 (F1_ZSTD.ext O352.2) (F2_ZSTD.ext O352.2) (VM_ZSTD.ext O352.2) fv349) hZ w22 w2 (by decide) (by decide)) q354a q354c (g := (mkF m 378 #[.val (.int p1), .val (.int p2), .val (.long p3), .second, .val (.int (2 : Int32)), .val (.ref o_ZSTD), .val (.int (0 : Int32)), .val (.int (4 : Int32)), .val (.int nn), .val (.int sl), .val (.ref b319), .val (.int wt)] [(.ref b319), (.ref o_ZSTD)])) rfl (by rw [hml]; rfl) (Steps.refl _) (argsL := [(.ref b319)]) (rest := []) (lenOf pd__28_5bB_29Z rfl) rfl (by show 2 * 0 + _ ≤ _; exact Nat.le_of_eq rfl) (hb hby at_378) (fun _ _ => ⟨rfl, eJ353, (by decide : 1 + 0 ≤ _), (by decide : 7 + 0 ≤ _)⟩)
      dsimp only [Pt.U, Pt.locs, Pt.cells, Pt.slots] at X354 l354 y354 z354 st354 hQ354
      subst l354 y354 z354
      refine Run.step (fun t k => st354.trans k) ?_
      obtain ⟨rfl, N354q, e354q⟩ := hQ354
      have N354 := Fr.app NJ353 N354q
      show Run _ _ _ _ (T354.setTop (mkF m 381 #[.val (.int p1), .val (.int p2), .val (.long p3), .second, .val (.int (2 : Int32)), .val (.ref o_ZSTD), .val (.int (0 : Int32)), .val (.int (4 : Int32)), .val (.int nn), .val (.int sl), .val (.ref b319), .val (.int wt)] [(.int (if nn < (4 : Int32) then 0 else (if gg349 0 = (40 : Int32) then (if gg349 1 = (-75 : Int32) then (if gg349 2 = (47 : Int32) then (if gg349 3 = (-3 : Int32) then (1) else 0) else 0) else 0) else 0)))]))
      refine Run.step (fun t_ k_ => XS.iload X354.here hx rfl (hb hby at_381) rfl (XS.icmpNo X354.here hx rfl (hb hby at_383) rfl (XT.ii_ne_f ((by rw [hv353, v0, v1, v2, v3]) : (if nn < (4 : Int32) then 0 else (if gg349 0 = (40 : Int32) then (if gg349 1 = (-75 : Int32) then (if gg349 2 = (47 : Int32) then (if gg349 3 = (-3 : Int32) then (1) else 0) else 0) else 0) else 0)) = wt)) (XS.iconst X354.here hx rfl (hb hby at_386) (XS.goto X354.here hx rfl (pc0 := 387) (pc' := 391) rfl (hb hby at_387) (by decide) (by decide) k_)))) ?_
      show Run _ _ _ _ (T354.setTop (mkF m 391 #[.val (.int p1), .val (.int p2), .val (.long p3), .second, .val (.int (2 : Int32)), .val (.ref o_ZSTD), .val (.int (0 : Int32)), .val (.int (4 : Int32)), .val (.int nn), .val (.int sl), .val (.ref b319), .val (.int wt)] [(.int (1 : Int32))]))
      exact finZ X354 hx (BodyLoose.notSynchronized Bd) Bd.returns (hb hby at_391) (by decide) (by decide) (by decide) e354q ⟨rfl, N354⟩
    by_cases c273 : nn < (4 : Int32)
    · skip
      refine Run.step (fun t_ k_ => XS.icmpYes X349.here hx rfl (pc0 := 273) (pc' := 371) rfl (hb hby at_273) rfl (XT.ii_lt_t c273) (by decide) (by decide) (XS.iconst X349.here hx rfl (hb hby at_371) k_)) ?_
      show Run _ _ _ _ (T349.setTop (mkF m 372 #[.val (.int p1), .val (.int p2), .val (.long p3), .second, .val (.int (2 : Int32)), .val (.ref o_ZSTD), .val (.int (0 : Int32)), .val (.int (4 : Int32)), .val (.int nn), .val (.int sl), .val (.ref b319), .unset] [(.int (0 : Int32))]))
      exact J353 _ _ X349 rfl N349 (0 : Int32) (if_pos c273).symm
    · skip
      refine Run.step (fun t_ k_ => XS.icmpNo X349.here hx rfl (hb hby at_273) rfl (XT.ii_lt_f c273) (XS.iload X349.here hx rfl (hb hby at_276) rfl (XS.iconst X349.here hx rfl (hb hby at_278) (XS.iload X349.here hx rfl (hb hby at_279) rfl (XS.lloadN X349.here hx rfl (hb hby at_281) rfl k_))))) ?_
      show Run _ _ _ _ (T349.setTop (mkF m 282 #[.val (.int p1), .val (.int p2), .val (.long p3), .second, .val (.int (2 : Int32)), .val (.ref o_ZSTD), .val (.int (0 : Int32)), .val (.int (4 : Int32)), .val (.int nn), .val (.int sl), .val (.ref b319), .unset] [(.long p3), (.int sl), (.int (0 : Int32)), (.int (2 : Int32))]))
      obtain ⟨_, _, ⟨T355, L355, k355, n355⟩, -, X355, ⟨Lc355, hQ355, l355, y355, z355⟩, st355⟩ := Jvm.LawKit.callS X349 hx (y := (⟨"cleave/io/PackedFormatHoldsMagicPinLaw", "matches", "(IIIJ)Z"⟩ : MethodName)) hown (mvT hZ w12) (mvT hZ w13) (mvT hZ w7) (mvT hZ w14) (by decide) (backOf (W := 0) (rm3 l Z a0 hw [] (2 : Int32) (0 : Int32) sl p3 T349.heap n0 z351) hZ w14 w7 (by decide) (by decide)) (g := (mkF m 282 #[.val (.int p1), .val (.int p2), .val (.long p3), .second, .val (.int (2 : Int32)), .val (.ref o_ZSTD), .val (.int (0 : Int32)), .val (.int (4 : Int32)), .val (.int nn), .val (.int sl), .val (.ref b319), .unset] [(.long p3), (.int sl), (.int (0 : Int32)), (.int (2 : Int32))])) rfl (by rw [hml]; rfl) (argsL := [(.int (2 : Int32)), (.int (0 : Int32)), (.int sl), (.long p3)]) (rest := []) (lenOf pd__28IIIJ_29Z rfl) rfl (by show 2 * 0 + _ ≤ _; exact Nat.le_of_eq rfl) (hb hby at_282) (fun _ _ => ⟨rfl, rfl, (by decide : 1 + 0 ≤ _), (by decide : 7 + 0 ≤ _)⟩)
      dsimp only [Pt.U, Pt.locs, Pt.cells, Pt.slots] at X355 l355 y355 z355 st355 hQ355
      subst l355 y355 z355
      refine Run.step (st355) ?_
      obtain ⟨rfl, N355q, e355q⟩ := hQ355
      have N355 := Fr.app N349 N355q
      show Run _ _ _ _ (T355.setTop (mkF m 285 #[.val (.int p1), .val (.int p2), .val (.long p3), .second, .val (.int (2 : Int32)), .val (.ref o_ZSTD), .val (.int (0 : Int32)), .val (.int (4 : Int32)), .val (.int nn), .val (.int sl), .val (.ref b319), .unset] [(.int (if own_pick (2 : Int32) (0 : Int32) sl p3 = (own_expect (2 : Int32) (0 : Int32)).toInt8.toInt32 then 1 else 0))]))
      have E0 : b0 = (40 : Int32) ↔ ¬ ((if own_pick (2 : Int32) (0 : Int32) sl p3 = (own_expect (2 : Int32) (0 : Int32)).toInt8.toInt32 then 1 else 0) = (0 : Int32)) := by
        rw [show ((if own_pick (2 : Int32) (0 : Int32) sl p3 = (own_expect (2 : Int32) (0 : Int32)).toInt8.toInt32 then 1 else 0)) = (if own_pick (2 : Int32) (0 : Int32) sl p3 = (40 : Int32) then (1 : Int32) else 0) from rfl, ← hb0]
        by_cases z : b0 = (40 : Int32)
        · rw [if_pos z]; exact ⟨fun _ => by decide, fun _ => z⟩
        · rw [if_neg z]; exact ⟨fun q => absurd q z, fun q => absurd rfl q⟩
      by_cases c285 : (if own_pick (2 : Int32) (0 : Int32) sl p3 = (own_expect (2 : Int32) (0 : Int32)).toInt8.toInt32 then 1 else 0) = (0 : Int32)
      · have d285 := fun q => E0.mp q c285
        refine Run.step (fun t_ k_ => XS.ifYes X355.here hx rfl (pc0 := 285) (pc' := 371) rfl (hb hby at_285) rfl (XT.i0_eq_t c285) (by decide) (by decide) (XS.iconst X355.here hx rfl (hb hby at_371) k_)) ?_
        show Run _ _ _ _ (T355.setTop (mkF m 372 #[.val (.int p1), .val (.int p2), .val (.long p3), .second, .val (.int (2 : Int32)), .val (.ref o_ZSTD), .val (.int (0 : Int32)), .val (.int (4 : Int32)), .val (.int nn), .val (.int sl), .val (.ref b319), .unset] [(.int (0 : Int32))]))
        exact J353 _ _ X355 e355q N355 (0 : Int32) ((if_neg c273).trans (if_neg d285)).symm
      · have d285 := E0.mpr c285
        refine Run.step (fun t_ k_ => XS.ifNo X355.here hx rfl (hb hby at_285) rfl (XT.i0_eq_f c285) (XS.iload X355.here hx rfl (hb hby at_288) rfl (XS.iconst X355.here hx rfl (hb hby at_290) (XS.iload X355.here hx rfl (hb hby at_291) rfl (XS.lloadN X355.here hx rfl (hb hby at_293) rfl k_))))) ?_
        show Run _ _ _ _ (T355.setTop (mkF m 294 #[.val (.int p1), .val (.int p2), .val (.long p3), .second, .val (.int (2 : Int32)), .val (.ref o_ZSTD), .val (.int (0 : Int32)), .val (.int (4 : Int32)), .val (.int nn), .val (.int sl), .val (.ref b319), .unset] [(.long p3), (.int sl), (.int (1 : Int32)), (.int (2 : Int32))]))
        obtain ⟨_, _, ⟨T356, L356, k356, n356⟩, -, X356, ⟨Lc356, hQ356, l356, y356, z356⟩, st356⟩ := Jvm.LawKit.callS X355 hx (y := (⟨"cleave/io/PackedFormatHoldsMagicPinLaw", "matches", "(IIIJ)Z"⟩ : MethodName)) hown (mvT hZ w12) (mvT hZ w13) (mvT hZ w7) (mvT hZ w14) (by decide) (backOf (W := 0) (rm3 l Z a0 hw [] (2 : Int32) (1 : Int32) sl p3 T349.heap n0 z351) hZ w14 w7 (by decide) (by decide)) (g := (mkF m 294 #[.val (.int p1), .val (.int p2), .val (.long p3), .second, .val (.int (2 : Int32)), .val (.ref o_ZSTD), .val (.int (0 : Int32)), .val (.int (4 : Int32)), .val (.int nn), .val (.int sl), .val (.ref b319), .unset] [(.long p3), (.int sl), (.int (1 : Int32)), (.int (2 : Int32))])) rfl (by rw [hml]; rfl) (argsL := [(.int (2 : Int32)), (.int (1 : Int32)), (.int sl), (.long p3)]) (rest := []) (lenOf pd__28IIIJ_29Z rfl) rfl (by show 2 * 0 + _ ≤ _; exact Nat.le_of_eq rfl) (hb hby at_294) (fun _ _ => ⟨rfl, e355q, (by decide : 1 + 0 ≤ _), (by decide : 7 + 0 ≤ _)⟩)
        dsimp only [Pt.U, Pt.locs, Pt.cells, Pt.slots] at X356 l356 y356 z356 st356 hQ356
        subst l356 y356 z356
        refine Run.step (st356) ?_
        obtain ⟨rfl, N356q, e356q⟩ := hQ356
        have N356 := Fr.app N355 N356q
        show Run _ _ _ _ (T356.setTop (mkF m 297 #[.val (.int p1), .val (.int p2), .val (.long p3), .second, .val (.int (2 : Int32)), .val (.ref o_ZSTD), .val (.int (0 : Int32)), .val (.int (4 : Int32)), .val (.int nn), .val (.int sl), .val (.ref b319), .unset] [(.int (if own_pick (2 : Int32) (1 : Int32) sl p3 = (own_expect (2 : Int32) (1 : Int32)).toInt8.toInt32 then 1 else 0))]))
        have E1 : b1 = (-75 : Int32) ↔ ¬ ((if own_pick (2 : Int32) (1 : Int32) sl p3 = (own_expect (2 : Int32) (1 : Int32)).toInt8.toInt32 then 1 else 0) = (0 : Int32)) := by
          rw [show ((if own_pick (2 : Int32) (1 : Int32) sl p3 = (own_expect (2 : Int32) (1 : Int32)).toInt8.toInt32 then 1 else 0)) = (if own_pick (2 : Int32) (1 : Int32) sl p3 = (-75 : Int32) then (1 : Int32) else 0) from rfl, ← hb1]
          by_cases z : b1 = (-75 : Int32)
          · rw [if_pos z]; exact ⟨fun _ => by decide, fun _ => z⟩
          · rw [if_neg z]; exact ⟨fun q => absurd q z, fun q => absurd rfl q⟩
        by_cases c297 : (if own_pick (2 : Int32) (1 : Int32) sl p3 = (own_expect (2 : Int32) (1 : Int32)).toInt8.toInt32 then 1 else 0) = (0 : Int32)
        · have d297 := fun q => E1.mp q c297
          refine Run.step (fun t_ k_ => XS.ifYes X356.here hx rfl (pc0 := 297) (pc' := 371) rfl (hb hby at_297) rfl (XT.i0_eq_t c297) (by decide) (by decide) (XS.iconst X356.here hx rfl (hb hby at_371) k_)) ?_
          show Run _ _ _ _ (T356.setTop (mkF m 372 #[.val (.int p1), .val (.int p2), .val (.long p3), .second, .val (.int (2 : Int32)), .val (.ref o_ZSTD), .val (.int (0 : Int32)), .val (.int (4 : Int32)), .val (.int nn), .val (.int sl), .val (.ref b319), .unset] [(.int (0 : Int32))]))
          exact J353 _ _ X356 e356q N356 (0 : Int32) ((if_neg c273).trans ((if_pos d285).trans (if_neg d297))).symm
        · have d297 := E1.mpr c297
          refine Run.step (fun t_ k_ => XS.ifNo X356.here hx rfl (hb hby at_297) rfl (XT.i0_eq_f c297) (XS.iload X356.here hx rfl (hb hby at_300) rfl (XS.iconst X356.here hx rfl (hb hby at_302) (XS.iload X356.here hx rfl (hb hby at_303) rfl (XS.lloadN X356.here hx rfl (hb hby at_305) rfl k_))))) ?_
          show Run _ _ _ _ (T356.setTop (mkF m 306 #[.val (.int p1), .val (.int p2), .val (.long p3), .second, .val (.int (2 : Int32)), .val (.ref o_ZSTD), .val (.int (0 : Int32)), .val (.int (4 : Int32)), .val (.int nn), .val (.int sl), .val (.ref b319), .unset] [(.long p3), (.int sl), (.int (2 : Int32)), (.int (2 : Int32))]))
          obtain ⟨_, _, ⟨T357, L357, k357, n357⟩, -, X357, ⟨Lc357, hQ357, l357, y357, z357⟩, st357⟩ := Jvm.LawKit.callS X356 hx (y := (⟨"cleave/io/PackedFormatHoldsMagicPinLaw", "matches", "(IIIJ)Z"⟩ : MethodName)) hown (mvT hZ w12) (mvT hZ w13) (mvT hZ w7) (mvT hZ w14) (by decide) (backOf (W := 0) (rm3 l Z a0 hw [] (2 : Int32) (2 : Int32) sl p3 T349.heap n0 z351) hZ w14 w7 (by decide) (by decide)) (g := (mkF m 306 #[.val (.int p1), .val (.int p2), .val (.long p3), .second, .val (.int (2 : Int32)), .val (.ref o_ZSTD), .val (.int (0 : Int32)), .val (.int (4 : Int32)), .val (.int nn), .val (.int sl), .val (.ref b319), .unset] [(.long p3), (.int sl), (.int (2 : Int32)), (.int (2 : Int32))])) rfl (by rw [hml]; rfl) (argsL := [(.int (2 : Int32)), (.int (2 : Int32)), (.int sl), (.long p3)]) (rest := []) (lenOf pd__28IIIJ_29Z rfl) rfl (by show 2 * 0 + _ ≤ _; exact Nat.le_of_eq rfl) (hb hby at_306) (fun _ _ => ⟨rfl, e356q, (by decide : 1 + 0 ≤ _), (by decide : 7 + 0 ≤ _)⟩)
          dsimp only [Pt.U, Pt.locs, Pt.cells, Pt.slots] at X357 l357 y357 z357 st357 hQ357
          subst l357 y357 z357
          refine Run.step (st357) ?_
          obtain ⟨rfl, N357q, e357q⟩ := hQ357
          have N357 := Fr.app N356 N357q
          show Run _ _ _ _ (T357.setTop (mkF m 309 #[.val (.int p1), .val (.int p2), .val (.long p3), .second, .val (.int (2 : Int32)), .val (.ref o_ZSTD), .val (.int (0 : Int32)), .val (.int (4 : Int32)), .val (.int nn), .val (.int sl), .val (.ref b319), .unset] [(.int (if own_pick (2 : Int32) (2 : Int32) sl p3 = (own_expect (2 : Int32) (2 : Int32)).toInt8.toInt32 then 1 else 0))]))
          have E2 : b2 = (47 : Int32) ↔ ¬ ((if own_pick (2 : Int32) (2 : Int32) sl p3 = (own_expect (2 : Int32) (2 : Int32)).toInt8.toInt32 then 1 else 0) = (0 : Int32)) := by
            rw [show ((if own_pick (2 : Int32) (2 : Int32) sl p3 = (own_expect (2 : Int32) (2 : Int32)).toInt8.toInt32 then 1 else 0)) = (if own_pick (2 : Int32) (2 : Int32) sl p3 = (47 : Int32) then (1 : Int32) else 0) from rfl, ← hb2]
            by_cases z : b2 = (47 : Int32)
            · rw [if_pos z]; exact ⟨fun _ => by decide, fun _ => z⟩
            · rw [if_neg z]; exact ⟨fun q => absurd q z, fun q => absurd rfl q⟩
          by_cases c309 : (if own_pick (2 : Int32) (2 : Int32) sl p3 = (own_expect (2 : Int32) (2 : Int32)).toInt8.toInt32 then 1 else 0) = (0 : Int32)
          · have d309 := fun q => E2.mp q c309
            refine Run.step (fun t_ k_ => XS.ifYes X357.here hx rfl (pc0 := 309) (pc' := 371) rfl (hb hby at_309) rfl (XT.i0_eq_t c309) (by decide) (by decide) (XS.iconst X357.here hx rfl (hb hby at_371) k_)) ?_
            show Run _ _ _ _ (T357.setTop (mkF m 372 #[.val (.int p1), .val (.int p2), .val (.long p3), .second, .val (.int (2 : Int32)), .val (.ref o_ZSTD), .val (.int (0 : Int32)), .val (.int (4 : Int32)), .val (.int nn), .val (.int sl), .val (.ref b319), .unset] [(.int (0 : Int32))]))
            exact J353 _ _ X357 e357q N357 (0 : Int32) ((if_neg c273).trans ((if_pos d285).trans ((if_pos d297).trans (if_neg d309)))).symm
          · have d309 := E2.mpr c309
            refine Run.step (fun t_ k_ => XS.ifNo X357.here hx rfl (hb hby at_309) rfl (XT.i0_eq_f c309) (XS.iload X357.here hx rfl (hb hby at_312) rfl (XS.iconst X357.here hx rfl (hb hby at_314) (XS.icmpNo X357.here hx rfl (hb hby at_315) rfl (XT.ii_lt_f (by decide : ¬ ((4 : Int32) < (4 : Int32)))) (XS.iload X357.here hx rfl (hb hby at_318) rfl (XS.iconst X357.here hx rfl (hb hby at_320) k_)))))) ?_
            show Run _ _ _ _ (T357.setTop (mkF m 321 #[.val (.int p1), .val (.int p2), .val (.long p3), .second, .val (.int (2 : Int32)), .val (.ref o_ZSTD), .val (.int (0 : Int32)), .val (.int (4 : Int32)), .val (.int nn), .val (.int sl), .val (.ref b319), .unset] [(.int (3 : Int32)), (.int (2 : Int32))]))
            refine Run.step (fun t_ k_ => XS.iload X357.here hx rfl (hb hby at_321) rfl (XS.lloadN X357.here hx rfl (hb hby at_323) rfl k_)) ?_
            show Run _ _ _ _ (T357.setTop (mkF m 324 #[.val (.int p1), .val (.int p2), .val (.long p3), .second, .val (.int (2 : Int32)), .val (.ref o_ZSTD), .val (.int (0 : Int32)), .val (.int (4 : Int32)), .val (.int nn), .val (.int sl), .val (.ref b319), .unset] [(.long p3), (.int sl), (.int (3 : Int32)), (.int (2 : Int32))]))
            obtain ⟨_, _, ⟨T358, L358, k358, n358⟩, -, X358, ⟨Lc358, hQ358, l358, y358, z358⟩, st358⟩ := Jvm.LawKit.callS X357 hx (y := (⟨"cleave/io/PackedFormatHoldsMagicPinLaw", "matches", "(IIIJ)Z"⟩ : MethodName)) hown (mvT hZ w12) (mvT hZ w13) (mvT hZ w7) (mvT hZ w14) (by decide) (backOf (W := 0) (rm3 l Z a0 hw [] (2 : Int32) (3 : Int32) sl p3 T349.heap n0 z351) hZ w14 w7 (by decide) (by decide)) (g := (mkF m 324 #[.val (.int p1), .val (.int p2), .val (.long p3), .second, .val (.int (2 : Int32)), .val (.ref o_ZSTD), .val (.int (0 : Int32)), .val (.int (4 : Int32)), .val (.int nn), .val (.int sl), .val (.ref b319), .unset] [(.long p3), (.int sl), (.int (3 : Int32)), (.int (2 : Int32))])) rfl (by rw [hml]; rfl) (argsL := [(.int (2 : Int32)), (.int (3 : Int32)), (.int sl), (.long p3)]) (rest := []) (lenOf pd__28IIIJ_29Z rfl) rfl (by show 2 * 0 + _ ≤ _; exact Nat.le_of_eq rfl) (hb hby at_324) (fun _ _ => ⟨rfl, e357q, (by decide : 1 + 0 ≤ _), (by decide : 7 + 0 ≤ _)⟩)
            dsimp only [Pt.U, Pt.locs, Pt.cells, Pt.slots] at X358 l358 y358 z358 st358 hQ358
            subst l358 y358 z358
            refine Run.step (st358) ?_
            obtain ⟨rfl, N358q, e358q⟩ := hQ358
            have N358 := Fr.app N357 N358q
            show Run _ _ _ _ (T358.setTop (mkF m 327 #[.val (.int p1), .val (.int p2), .val (.long p3), .second, .val (.int (2 : Int32)), .val (.ref o_ZSTD), .val (.int (0 : Int32)), .val (.int (4 : Int32)), .val (.int nn), .val (.int sl), .val (.ref b319), .unset] [(.int (if own_pick (2 : Int32) (3 : Int32) sl p3 = (own_expect (2 : Int32) (3 : Int32)).toInt8.toInt32 then 1 else 0))]))
            have E3 : b3 = (-3 : Int32) ↔ ¬ ((if own_pick (2 : Int32) (3 : Int32) sl p3 = (own_expect (2 : Int32) (3 : Int32)).toInt8.toInt32 then 1 else 0) = (0 : Int32)) := by
              rw [show ((if own_pick (2 : Int32) (3 : Int32) sl p3 = (own_expect (2 : Int32) (3 : Int32)).toInt8.toInt32 then 1 else 0)) = (if own_pick (2 : Int32) (3 : Int32) sl p3 = (-3 : Int32) then (1 : Int32) else 0) from rfl, ← hb3]
              by_cases z : b3 = (-3 : Int32)
              · rw [if_pos z]; exact ⟨fun _ => by decide, fun _ => z⟩
              · rw [if_neg z]; exact ⟨fun q => absurd q z, fun q => absurd rfl q⟩
            by_cases c327 : (if own_pick (2 : Int32) (3 : Int32) sl p3 = (own_expect (2 : Int32) (3 : Int32)).toInt8.toInt32 then 1 else 0) = (0 : Int32)
            · have d327 := fun q => E3.mp q c327
              refine Run.step (fun t_ k_ => XS.ifYes X358.here hx rfl (pc0 := 327) (pc' := 371) rfl (hb hby at_327) rfl (XT.i0_eq_t c327) (by decide) (by decide) (XS.iconst X358.here hx rfl (hb hby at_371) k_)) ?_
              show Run _ _ _ _ (T358.setTop (mkF m 372 #[.val (.int p1), .val (.int p2), .val (.long p3), .second, .val (.int (2 : Int32)), .val (.ref o_ZSTD), .val (.int (0 : Int32)), .val (.int (4 : Int32)), .val (.int nn), .val (.int sl), .val (.ref b319), .unset] [(.int (0 : Int32))]))
              exact J353 _ _ X358 e358q N358 (0 : Int32) ((if_neg c273).trans ((if_pos d285).trans ((if_pos d297).trans ((if_pos d309).trans (if_neg d327))))).symm
            · have d327 := E3.mpr c327
              refine Run.step (fun t_ k_ => XS.ifNo X358.here hx rfl (hb hby at_327) rfl (XT.i0_eq_f c327) (XS.iload X358.here hx rfl (hb hby at_330) rfl (XS.iconst X358.here hx rfl (hb hby at_332) (XS.icmpYes X358.here hx rfl (pc0 := 333) (pc' := 348) rfl (hb hby at_333) rfl (XT.ii_lt_t (by decide : (4 : Int32) < (5 : Int32))) (by decide) (by decide) (XS.iload X358.here hx rfl (hb hby at_348) rfl (XS.bipush X358.here hx rfl (hb hby at_350) k_)))))) ?_
              show Run _ _ _ _ (T358.setTop (mkF m 352 #[.val (.int p1), .val (.int p2), .val (.long p3), .second, .val (.int (2 : Int32)), .val (.ref o_ZSTD), .val (.int (0 : Int32)), .val (.int (4 : Int32)), .val (.int nn), .val (.int sl), .val (.ref b319), .unset] [(.int (6 : Int32)), (.int (4 : Int32))]))
              refine Run.step (fun t_ k_ => XS.icmpYes X358.here hx rfl (pc0 := 352) (pc' := 367) rfl (hb hby at_352) rfl (XT.ii_lt_t (by decide : (4 : Int32) < (6 : Int32))) (by decide) (by decide) (XS.iconst X358.here hx rfl (hb hby at_367) (XS.goto X358.here hx rfl (pc0 := 368) (pc' := 372) rfl (hb hby at_368) (by decide) (by decide) k_))) ?_
              show Run _ _ _ _ (T358.setTop (mkF m 372 #[.val (.int p1), .val (.int p2), .val (.long p3), .second, .val (.int (2 : Int32)), .val (.ref o_ZSTD), .val (.int (0 : Int32)), .val (.int (4 : Int32)), .val (.int nn), .val (.int sl), .val (.ref b319), .unset] [(.int (1 : Int32))]))
              exact J353 _ _ X358 e358q N358 (1 : Int32) ((if_neg c273).trans ((if_pos d285).trans ((if_pos d297).trans ((if_pos d309).trans (if_pos d327))))).symm
  · rw [hk]
    show Run _ _ _ _ (s₁.setTop (mkF m 9 #[.val (.int p1), .val (.int p2), .val (.long p3), .second, .val (.int (3 : Int32)), .unset, .unset, .unset, .unset, .unset, .unset, .unset] []))
    refine Run.step (fun t_ k_ => XS.iload X0.here hx rfl (hb hby at_9) rfl (XS.ifYes X0.here hx rfl (pc0 := 11) (pc' := 22) rfl (hb hby at_11) rfl (XT.i0_ne_t (by decide : ¬ ((3 : Int32) = (0 : Int32)))) (by decide) (by decide) (XS.iload X0.here hx rfl (hb hby at_22) rfl (XS.iconst X0.here hx rfl (hb hby at_24) (XS.icmpYes X0.here hx rfl (pc0 := 25) (pc' := 36) rfl (hb hby at_25) rfl (XT.ii_ne_t (by decide : ¬ ((3 : Int32) = (1 : Int32)))) (by decide) (by decide) (XS.iload X0.here hx rfl (hb hby at_36) rfl k_)))))) ?_
    show Run _ _ _ _ (s₁.setTop (mkF m 38 #[.val (.int p1), .val (.int p2), .val (.long p3), .second, .val (.int (3 : Int32)), .unset, .unset, .unset, .unset, .unset, .unset, .unset] [(.int (3 : Int32))]))
    refine Run.step (fun t_ k_ => XS.iconst X0.here hx rfl (hb hby at_38) (XS.icmpYes X0.here hx rfl (pc0 := 39) (pc' := 50) rfl (hb hby at_39) rfl (XT.ii_ne_t (by decide : ¬ ((3 : Int32) = (2 : Int32)))) (by decide) (by decide) (XS.iload X0.here hx rfl (hb hby at_50) rfl (XS.iconst X0.here hx rfl (hb hby at_52) (XS.icmpNo X0.here hx rfl (hb hby at_53) rfl (XT.ii_ne_f (by decide : (3 : Int32) = (3 : Int32))) k_))))) ?_
    show Run _ _ _ _ (s₁.setTop (mkF m 56 #[.val (.int p1), .val (.int p2), .val (.long p3), .second, .val (.int (3 : Int32)), .unset, .unset, .unset, .unset, .unset, .unset, .unset] []))
    obtain ⟨T359, X359, e359, st359⟩ := getS2 X0 hx hZ hown (host := "") (Or.inl w44) Via.refl e0 (S_ZIP.ext O0.2) (g := (mkF m 56 #[.val (.int p1), .val (.int p2), .val (.long p3), .second, .val (.int (3 : Int32)), .unset, .unset, .unset, .unset, .unset, .unset, .unset] [])) rfl (hb hby at_56)
    refine Run.step st359 ?_
    show Run _ _ _ _ (T359.setTop (mkF m 59 #[.val (.int p1), .val (.int p2), .val (.long p3), .second, .val (.int (3 : Int32)), .unset, .unset, .unset, .unset, .unset, .unset, .unset] [(.ref o_ZIP)]))
    refine Run.step (fun t_ k_ => XS.astore X359.here hx rfl (hb hby at_59) rfl rfl (l' := #[.val (.int p1), .val (.int p2), .val (.long p3), .second, .val (.int (3 : Int32)), .val (.ref o_ZIP), .unset, .unset, .unset, .unset, .unset, .unset]) rfl (XS.goto X359.here hx rfl (pc0 := 61) (pc' := 83) rfl (hb hby at_61) (by decide) (by decide) (XS.iload X359.here hx rfl (hb hby at_83) rfl (XS.iconst X359.here hx rfl (hb hby at_85) (XS.icmpYes X359.here hx rfl (pc0 := 86) (pc' := 95) rfl (hb hby at_86) rfl (XT.ii_lt_t (by decide : (3 : Int32) < (4 : Int32))) (by decide) (by decide) (XS.iconst X359.here hx rfl (hb hby at_95) k_)))))) ?_
    show Run _ _ _ _ (T359.setTop (mkF m 96 #[.val (.int p1), .val (.int p2), .val (.long p3), .second, .val (.int (3 : Int32)), .val (.ref o_ZIP), .unset, .unset, .unset, .unset, .unset, .unset] [(.int (0 : Int32))]))
    refine Run.step (fun t_ k_ => XS.istore X359.here hx rfl (hb hby at_96) rfl (l' := #[.val (.int p1), .val (.int p2), .val (.long p3), .second, .val (.int (3 : Int32)), .val (.ref o_ZIP), .val (.int (0 : Int32)), .unset, .unset, .unset, .unset, .unset]) rfl (XS.iload X359.here hx rfl (hb hby at_98) rfl (XS.ifYes X359.here hx rfl (pc0 := 100) (pc' := 109) rfl (hb hby at_100) rfl (XT.i0_ne_t (by decide : ¬ ((3 : Int32) = (0 : Int32)))) (by decide) (by decide) (XS.iload X359.here hx rfl (hb hby at_109) rfl (XS.iconst X359.here hx rfl (hb hby at_111) (XS.icmpYes X359.here hx rfl (pc0 := 112) (pc' := 122) rfl (hb hby at_112) rfl (XT.ii_ne_t (by decide : ¬ ((3 : Int32) = (1 : Int32)))) (by decide) (by decide) k_)))))) ?_
    show Run _ _ _ _ (T359.setTop (mkF m 122 #[.val (.int p1), .val (.int p2), .val (.long p3), .second, .val (.int (3 : Int32)), .val (.ref o_ZIP), .val (.int (0 : Int32)), .unset, .unset, .unset, .unset, .unset] []))
    refine Run.step (fun t_ k_ => XS.iload X359.here hx rfl (hb hby at_122) rfl (XS.iconst X359.here hx rfl (hb hby at_124) (XS.icmpYes X359.here hx rfl (pc0 := 125) (pc' := 134) rfl (hb hby at_125) rfl (XT.ii_lt_t (by decide : (3 : Int32) < (4 : Int32))) (by decide) (by decide) (XS.iconst X359.here hx rfl (hb hby at_134) (XS.istore X359.here hx rfl (hb hby at_135) rfl (l' := #[.val (.int p1), .val (.int p2), .val (.long p3), .second, .val (.int (3 : Int32)), .val (.ref o_ZIP), .val (.int (0 : Int32)), .val (.int (4 : Int32)), .unset, .unset, .unset, .unset]) rfl (XS.iload X359.here hx rfl (hb hby at_137) rfl k_)))))) ?_
    show Run _ _ _ _ (T359.setTop (mkF m 139 #[.val (.int p1), .val (.int p2), .val (.long p3), .second, .val (.int (3 : Int32)), .val (.ref o_ZIP), .val (.int (0 : Int32)), .val (.int (4 : Int32)), .unset, .unset, .unset, .unset] [(.int (0 : Int32))]))
    refine Run.step (fun t_ k_ => XS.iloadN X359.here hx rfl (hb hby at_139) rfl (XS.bipush X359.here hx rfl (hb hby at_140) (XS.iand X359.here hx rfl (hb hby at_142) rfl (XS.iadd X359.here hx rfl (hb hby at_143) rfl (XS.istore X359.here hx rfl (hb hby at_144) rfl (l' := #[.val (.int p1), .val (.int p2), .val (.long p3), .second, .val (.int (3 : Int32)), .val (.ref o_ZIP), .val (.int (0 : Int32)), .val (.int (4 : Int32)), .val (.int ((0 : Int32) + (p2 &&& (7 : Int32)))), .unset, .unset, .unset]) rfl (XS.iloadN X359.here hx rfl (hb hby at_146) rfl k_)))))) ?_
    show Run _ _ _ _ (T359.setTop (mkF m 147 #[.val (.int p1), .val (.int p2), .val (.long p3), .second, .val (.int (3 : Int32)), .val (.ref o_ZIP), .val (.int (0 : Int32)), .val (.int (4 : Int32)), .val (.int ((0 : Int32) + (p2 &&& (7 : Int32)))), .unset, .unset, .unset] [(.int p2)]))
    refine Run.step (fun t_ k_ => XS.iconst X359.here hx rfl (hb hby at_147) (XS.iushr X359.here hx rfl (hb hby at_148) rfl (XS.bipush X359.here hx rfl (hb hby at_149) (XS.iand X359.here hx rfl (hb hby at_151) rfl (XS.istore X359.here hx rfl (hb hby at_152) rfl (l' := #[.val (.int p1), .val (.int p2), .val (.long p3), .second, .val (.int (3 : Int32)), .val (.ref o_ZIP), .val (.int (0 : Int32)), .val (.int (4 : Int32)), .val (.int ((0 : Int32) + (p2 &&& (7 : Int32)))), .val (.int (((p2.toUInt32 >>> ((3 : Int32) &&& 31).toUInt32).toInt32) &&& (63 : Int32))), .unset, .unset]) rfl k_))))) ?_
    show Run _ _ _ _ (T359.setTop (mkF m 154 #[.val (.int p1), .val (.int p2), .val (.long p3), .second, .val (.int (3 : Int32)), .val (.ref o_ZIP), .val (.int (0 : Int32)), .val (.int (4 : Int32)), .val (.int ((0 : Int32) + (p2 &&& (7 : Int32)))), .val (.int (((p2.toUInt32 >>> ((3 : Int32) &&& 31).toUInt32).toInt32) &&& (63 : Int32))), .unset, .unset] []))
    obtain ⟨nn, hnn⟩ : ∃ z, z = ((0 : Int32) + (p2 &&& (7 : Int32))) := ⟨_, rfl⟩
    rw [← hnn]
    have nn0 : ¬ nn < 0 := by rw [hnn]; exact (own_n0 p2).1
    have nn1 : nn.toNatClampNeg ≤ 7 := by rw [hnn]; exact (own_n0 p2).2
    obtain ⟨sl, hsl⟩ : ∃ z, z = (((p2.toUInt32 >>> ((3 : Int32) &&& 31).toUInt32).toInt32) &&& (63 : Int32)) := ⟨_, rfl⟩
    rw [← hsl]
    show Run _ _ _ _ (T359.setTop (mkF m 154 #[.val (.int p1), .val (.int p2), .val (.long p3), .second, .val (.int (3 : Int32)), .val (.ref o_ZIP), .val (.int (0 : Int32)), .val (.int (4 : Int32)), .val (.int nn), .val (.int sl), .unset, .unset] []))
    refine Run.step (fun t_ k_ => XS.iload X359.here hx rfl (hb hby at_154) rfl k_) ?_
    show Run _ _ _ _ (T359.setTop (mkF m 156 #[.val (.int p1), .val (.int p2), .val (.long p3), .second, .val (.int (3 : Int32)), .val (.ref o_ZIP), .val (.int (0 : Int32)), .val (.int (4 : Int32)), .val (.int nn), .val (.int sl), .unset, .unset] [(.int nn)]))
    obtain ⟨T360, h360, k360, X360, e360, E360, A360, st360⟩ := newP (aty := .byte) X359 hx hZ w4 e359 (g := (mkF m 156 #[.val (.int p1), .val (.int p2), .val (.long p3), .second, .val (.int (3 : Int32)), .val (.ref o_ZIP), .val (.int (0 : Int32)), .val (.int (4 : Int32)), .val (.int nn), .val (.int sl), .unset, .unset] [(.int nn)])) rfl (hb hby at_156) rfl nn0 (cap := 7) nn1 (by decide) (by decide) (by decide)
    obtain ⟨b360, g360⟩ : ∃ z, z = h0.size := ⟨_, rfl⟩
    rw [← g360] at A360 st360
    refine Run.step st360 ?_
    have g_b360 : n0 ≤ b360 := Nat.le_trans Z0 (Nat.le_of_eq g360.symm)
    have z361 := Nat.le_trans Z0 E360.1
    have O362 := O0.ext E360
    have f363 : Arv Z h360 b360 k360 .byte nn [] (.int (0 : Int32)) := Arv.pad (Arv.new A360 nn0) (pad_rep [] (.int (0 : Int32)) 0)
    show Run _ _ _ _ (T360.setTop (mkF m 158 #[.val (.int p1), .val (.int p2), .val (.long p3), .second, .val (.int (3 : Int32)), .val (.ref o_ZIP), .val (.int (0 : Int32)), .val (.int (4 : Int32)), .val (.int nn), .val (.int sl), .unset, .unset] [(.ref b360)]))
    refine Run.step (fun t_ k_ => XS.astore X360.here hx rfl (hb hby at_158) rfl rfl (l' := #[.val (.int p1), .val (.int p2), .val (.long p3), .second, .val (.int (3 : Int32)), .val (.ref o_ZIP), .val (.int (0 : Int32)), .val (.int (4 : Int32)), .val (.int nn), .val (.int sl), .val (.ref b360), .unset]) rfl k_) ?_
    show Run _ _ _ _ (T360.setTop (mkF m 160 #[.val (.int p1), .val (.int p2), .val (.long p3), .second, .val (.int (3 : Int32)), .val (.ref o_ZIP), .val (.int (0 : Int32)), .val (.int (4 : Int32)), .val (.int nn), .val (.int sl), .val (.ref b360), .unset] []))
    have fB := Bv.new f363
    refine Run.step (fun t_ k_ => XS.aload X360.here hx rfl (hb hby at_160) rfl rfl (XS.iload X360.here hx rfl (hb hby at_162) rfl (XS.iload X360.here hx rfl (hb hby at_164) rfl (XS.iconst X360.here hx rfl (hb hby at_166) (XS.iload X360.here hx rfl (hb hby at_167) rfl (XS.lloadN X360.here hx rfl (hb hby at_169) rfl k_)))))) ?_
    show Run _ _ _ _ (T360.setTop (mkF m 170 #[.val (.int p1), .val (.int p2), .val (.long p3), .second, .val (.int (3 : Int32)), .val (.ref o_ZIP), .val (.int (0 : Int32)), .val (.int (4 : Int32)), .val (.int nn), .val (.int sl), .val (.ref b360), .unset] [(.long p3), (.int sl), (.int (0 : Int32)), (.int (3 : Int32)), (.int (0 : Int32)), (.ref b360)]))
    obtain ⟨_, _, ⟨T364, L364, k364, n364⟩, -, X364, ⟨Lc364, hQ364, l364, y364, z364⟩, st364⟩ := Jvm.LawKit.callS X360 hx (y := (⟨"cleave/io/PackedFormatHoldsMagicPinLaw", "pick", "(IIIJ)B"⟩ : MethodName)) hown (mvT hZ w5) (mvT hZ w6) (mvT hZ w7) (mvT hZ w8) (by decide) (backOf (W := 2) (rm1 l Z a0 hw [] (3 : Int32) (0 : Int32) sl p3 h360 n0 z361) hZ w8 w7 (by decide) (by decide)) (g := (mkF m 170 #[.val (.int p1), .val (.int p2), .val (.long p3), .second, .val (.int (3 : Int32)), .val (.ref o_ZIP), .val (.int (0 : Int32)), .val (.int (4 : Int32)), .val (.int nn), .val (.int sl), .val (.ref b360), .unset] [(.long p3), (.int sl), (.int (0 : Int32)), (.int (3 : Int32)), (.int (0 : Int32)), (.ref b360)])) rfl (by rw [hml]; rfl) (argsL := [(.int (3 : Int32)), (.int (0 : Int32)), (.int sl), (.long p3)]) (rest := [(.int (0 : Int32)), (.ref b360)]) (lenOf pd__28IIIJ_29B rfl) rfl (by show 2 * 0 + _ ≤ _; exact Nat.le_of_eq rfl) (hb hby at_170) (fun _ _ => ⟨rfl, e360, (by decide : 1 + 0 ≤ _), (by decide : 7 + 0 ≤ _)⟩)
    dsimp only [Pt.U, Pt.locs, Pt.cells, Pt.slots] at X364 l364 y364 z364 st364 hQ364
    subst l364 y364 z364
    refine Run.step (st364) ?_
    obtain ⟨rfl, N364q, e364q⟩ := hQ364
    have N364 := Fr.app N0 N364q
    show Run _ _ _ _ (T364.setTop (mkF m 173 #[.val (.int p1), .val (.int p2), .val (.long p3), .second, .val (.int (3 : Int32)), .val (.ref o_ZIP), .val (.int (0 : Int32)), .val (.int (4 : Int32)), .val (.int nn), .val (.int sl), .val (.ref b360), .unset] [(.int (own_pick (3 : Int32) (0 : Int32) sl p3)), (.int (0 : Int32)), (.ref b360)]))
    obtain ⟨b0, hb0⟩ : ∃ z, z = (own_pick (3 : Int32) (0 : Int32) sl p3) := ⟨_, rfl⟩
    rw [← hb0]
    have nb0 : nar .byte b0 = b0 := by rw [hb0]; exact own_pickb _ _ _ _
    show Run _ _ _ _ (T364.setTop (mkF m 173 #[.val (.int p1), .val (.int p2), .val (.long p3), .second, .val (.int (3 : Int32)), .val (.ref o_ZIP), .val (.int (0 : Int32)), .val (.int (4 : Int32)), .val (.int nn), .val (.int sl), .val (.ref b360), .unset] [(.int b0), (.int (0 : Int32)), (.ref b360)]))
    obtain ⟨_, _, ⟨T365, L365, k365, n365⟩, -, X365, ⟨Lc365, hQ365, l365, y365, z365⟩, st365⟩ := Jvm.LawKit.callS X364 hx (y := (⟨"cleave/io/PackedFormatHoldsMagicPinLaw", "put", "([BIB)V"⟩ : MethodName)) hown (mvT hZ w9) (mvT hZ w10) (mvT hZ w7) (mvT hZ w11) (by decide) (backOf (W := 0) (rm2 l Z a0 hw [] b360 (0 : Int32) b0 nn (fun _ => 0) h360 n0 z361 fB (by decide) nb0 g_b360) hZ w11 w7 (by decide) (by decide)) (g := (mkF m 173 #[.val (.int p1), .val (.int p2), .val (.long p3), .second, .val (.int (3 : Int32)), .val (.ref o_ZIP), .val (.int (0 : Int32)), .val (.int (4 : Int32)), .val (.int nn), .val (.int sl), .val (.ref b360), .unset] [(.int b0), (.int (0 : Int32)), (.ref b360)])) rfl (by rw [hml]; rfl) (argsL := [(.ref b360), (.int (0 : Int32)), (.int b0)]) (rest := []) (lenOf pd__28_5bBIB_29V rfl) rfl (by show 2 * 0 + _ ≤ _; exact Nat.le_of_eq rfl) (hb hby at_173) (fun _ _ => ⟨rfl, e364q, (by decide : 1 + 0 ≤ _), (by decide : 7 + 0 ≤ _)⟩)
    dsimp only [Pt.U, Pt.locs, Pt.cells, Pt.slots] at X365 l365 y365 z365 st365 hQ365
    subst l365 y365 z365
    refine Run.step (st365) ?_
    obtain ⟨rfl, N365q, K365q, fv365⟩ := hQ365
    have N365 := Fr.app N364 N365q
    have z367 := Nat.le_trans z361 K365q.1
    have O368 := O362.keep K365q (allS g_b360 all0)
    obtain ⟨gg365, hg365⟩ : ∃ z, z = own_up (fun _ => 0) (0 : Int32).toNatClampNeg b0 := ⟨_, rfl⟩
    rw [← hg365] at fv365
    show Run _ _ _ _ (T365.setTop (mkF m 176 #[.val (.int p1), .val (.int p2), .val (.long p3), .second, .val (.int (3 : Int32)), .val (.ref o_ZIP), .val (.int (0 : Int32)), .val (.int (4 : Int32)), .val (.int nn), .val (.int sl), .val (.ref b360), .unset] []))
    refine Run.step (fun t_ k_ => XS.aload X365.here hx rfl (hb hby at_176) rfl rfl (XS.iload X365.here hx rfl (hb hby at_178) rfl (XS.iconst X365.here hx rfl (hb hby at_180) (XS.iadd X365.here hx rfl (hb hby at_181) rfl (XS.iload X365.here hx rfl (hb hby at_182) rfl (XS.iconst X365.here hx rfl (hb hby at_184) k_)))))) ?_
    show Run _ _ _ _ (T365.setTop (mkF m 185 #[.val (.int p1), .val (.int p2), .val (.long p3), .second, .val (.int (3 : Int32)), .val (.ref o_ZIP), .val (.int (0 : Int32)), .val (.int (4 : Int32)), .val (.int nn), .val (.int sl), .val (.ref b360), .unset] [(.int (1 : Int32)), (.int (3 : Int32)), (.int (1 : Int32)), (.ref b360)]))
    refine Run.step (fun t_ k_ => XS.iload X365.here hx rfl (hb hby at_185) rfl (XS.lloadN X365.here hx rfl (hb hby at_187) rfl k_)) ?_
    show Run _ _ _ _ (T365.setTop (mkF m 188 #[.val (.int p1), .val (.int p2), .val (.long p3), .second, .val (.int (3 : Int32)), .val (.ref o_ZIP), .val (.int (0 : Int32)), .val (.int (4 : Int32)), .val (.int nn), .val (.int sl), .val (.ref b360), .unset] [(.long p3), (.int sl), (.int (1 : Int32)), (.int (3 : Int32)), (.int (1 : Int32)), (.ref b360)]))
    obtain ⟨_, _, ⟨T369, L369, k369, n369⟩, -, X369, ⟨Lc369, hQ369, l369, y369, z369⟩, st369⟩ := Jvm.LawKit.callS X365 hx (y := (⟨"cleave/io/PackedFormatHoldsMagicPinLaw", "pick", "(IIIJ)B"⟩ : MethodName)) hown (mvT hZ w5) (mvT hZ w6) (mvT hZ w7) (mvT hZ w8) (by decide) (backOf (W := 2) (rm1 l Z a0 hw [] (3 : Int32) (1 : Int32) sl p3 T365.heap n0 z367) hZ w8 w7 (by decide) (by decide)) (g := (mkF m 188 #[.val (.int p1), .val (.int p2), .val (.long p3), .second, .val (.int (3 : Int32)), .val (.ref o_ZIP), .val (.int (0 : Int32)), .val (.int (4 : Int32)), .val (.int nn), .val (.int sl), .val (.ref b360), .unset] [(.long p3), (.int sl), (.int (1 : Int32)), (.int (3 : Int32)), (.int (1 : Int32)), (.ref b360)])) rfl (by rw [hml]; rfl) (argsL := [(.int (3 : Int32)), (.int (1 : Int32)), (.int sl), (.long p3)]) (rest := [(.int (1 : Int32)), (.ref b360)]) (lenOf pd__28IIIJ_29B rfl) rfl (by show 2 * 0 + _ ≤ _; exact Nat.le_of_eq rfl) (hb hby at_188) (fun _ _ => ⟨rfl, rfl, (by decide : 1 + 0 ≤ _), (by decide : 7 + 0 ≤ _)⟩)
    dsimp only [Pt.U, Pt.locs, Pt.cells, Pt.slots] at X369 l369 y369 z369 st369 hQ369
    subst l369 y369 z369
    refine Run.step (st369) ?_
    obtain ⟨rfl, N369q, e369q⟩ := hQ369
    have N369 := Fr.app N365 N369q
    show Run _ _ _ _ (T369.setTop (mkF m 191 #[.val (.int p1), .val (.int p2), .val (.long p3), .second, .val (.int (3 : Int32)), .val (.ref o_ZIP), .val (.int (0 : Int32)), .val (.int (4 : Int32)), .val (.int nn), .val (.int sl), .val (.ref b360), .unset] [(.int (own_pick (3 : Int32) (1 : Int32) sl p3)), (.int (1 : Int32)), (.ref b360)]))
    obtain ⟨b1, hb1⟩ : ∃ z, z = (own_pick (3 : Int32) (1 : Int32) sl p3) := ⟨_, rfl⟩
    rw [← hb1]
    have nb1 : nar .byte b1 = b1 := by rw [hb1]; exact own_pickb _ _ _ _
    show Run _ _ _ _ (T369.setTop (mkF m 191 #[.val (.int p1), .val (.int p2), .val (.long p3), .second, .val (.int (3 : Int32)), .val (.ref o_ZIP), .val (.int (0 : Int32)), .val (.int (4 : Int32)), .val (.int nn), .val (.int sl), .val (.ref b360), .unset] [(.int b1), (.int (1 : Int32)), (.ref b360)]))
    obtain ⟨_, _, ⟨T370, L370, k370, n370⟩, -, X370, ⟨Lc370, hQ370, l370, y370, z370⟩, st370⟩ := Jvm.LawKit.callS X369 hx (y := (⟨"cleave/io/PackedFormatHoldsMagicPinLaw", "put", "([BIB)V"⟩ : MethodName)) hown (mvT hZ w9) (mvT hZ w10) (mvT hZ w7) (mvT hZ w11) (by decide) (backOf (W := 0) (rm2 l Z a0 hw [] b360 (1 : Int32) b1 nn gg365 T365.heap n0 z367 fv365 (by decide) nb1 g_b360) hZ w11 w7 (by decide) (by decide)) (g := (mkF m 191 #[.val (.int p1), .val (.int p2), .val (.long p3), .second, .val (.int (3 : Int32)), .val (.ref o_ZIP), .val (.int (0 : Int32)), .val (.int (4 : Int32)), .val (.int nn), .val (.int sl), .val (.ref b360), .unset] [(.int b1), (.int (1 : Int32)), (.ref b360)])) rfl (by rw [hml]; rfl) (argsL := [(.ref b360), (.int (1 : Int32)), (.int b1)]) (rest := []) (lenOf pd__28_5bBIB_29V rfl) rfl (by show 2 * 0 + _ ≤ _; exact Nat.le_of_eq rfl) (hb hby at_191) (fun _ _ => ⟨rfl, e369q, (by decide : 1 + 0 ≤ _), (by decide : 7 + 0 ≤ _)⟩)
    dsimp only [Pt.U, Pt.locs, Pt.cells, Pt.slots] at X370 l370 y370 z370 st370 hQ370
    subst l370 y370 z370
    refine Run.step (st370) ?_
    obtain ⟨rfl, N370q, K370q, fv370⟩ := hQ370
    have N370 := Fr.app N369 N370q
    have z372 := Nat.le_trans z367 K370q.1
    have O373 := O368.keep K370q (allS g_b360 all0)
    obtain ⟨gg370, hg370⟩ : ∃ z, z = own_up gg365 (1 : Int32).toNatClampNeg b1 := ⟨_, rfl⟩
    rw [← hg370] at fv370
    show Run _ _ _ _ (T370.setTop (mkF m 194 #[.val (.int p1), .val (.int p2), .val (.long p3), .second, .val (.int (3 : Int32)), .val (.ref o_ZIP), .val (.int (0 : Int32)), .val (.int (4 : Int32)), .val (.int nn), .val (.int sl), .val (.ref b360), .unset] []))
    refine Run.step (fun t_ k_ => XS.aload X370.here hx rfl (hb hby at_194) rfl rfl (XS.iload X370.here hx rfl (hb hby at_196) rfl (XS.iconst X370.here hx rfl (hb hby at_198) (XS.iadd X370.here hx rfl (hb hby at_199) rfl (XS.iload X370.here hx rfl (hb hby at_200) rfl (XS.iconst X370.here hx rfl (hb hby at_202) k_)))))) ?_
    show Run _ _ _ _ (T370.setTop (mkF m 203 #[.val (.int p1), .val (.int p2), .val (.long p3), .second, .val (.int (3 : Int32)), .val (.ref o_ZIP), .val (.int (0 : Int32)), .val (.int (4 : Int32)), .val (.int nn), .val (.int sl), .val (.ref b360), .unset] [(.int (2 : Int32)), (.int (3 : Int32)), (.int (2 : Int32)), (.ref b360)]))
    refine Run.step (fun t_ k_ => XS.iload X370.here hx rfl (hb hby at_203) rfl (XS.lloadN X370.here hx rfl (hb hby at_205) rfl k_)) ?_
    show Run _ _ _ _ (T370.setTop (mkF m 206 #[.val (.int p1), .val (.int p2), .val (.long p3), .second, .val (.int (3 : Int32)), .val (.ref o_ZIP), .val (.int (0 : Int32)), .val (.int (4 : Int32)), .val (.int nn), .val (.int sl), .val (.ref b360), .unset] [(.long p3), (.int sl), (.int (2 : Int32)), (.int (3 : Int32)), (.int (2 : Int32)), (.ref b360)]))
    obtain ⟨_, _, ⟨T374, L374, k374, n374⟩, -, X374, ⟨Lc374, hQ374, l374, y374, z374⟩, st374⟩ := Jvm.LawKit.callS X370 hx (y := (⟨"cleave/io/PackedFormatHoldsMagicPinLaw", "pick", "(IIIJ)B"⟩ : MethodName)) hown (mvT hZ w5) (mvT hZ w6) (mvT hZ w7) (mvT hZ w8) (by decide) (backOf (W := 2) (rm1 l Z a0 hw [] (3 : Int32) (2 : Int32) sl p3 T370.heap n0 z372) hZ w8 w7 (by decide) (by decide)) (g := (mkF m 206 #[.val (.int p1), .val (.int p2), .val (.long p3), .second, .val (.int (3 : Int32)), .val (.ref o_ZIP), .val (.int (0 : Int32)), .val (.int (4 : Int32)), .val (.int nn), .val (.int sl), .val (.ref b360), .unset] [(.long p3), (.int sl), (.int (2 : Int32)), (.int (3 : Int32)), (.int (2 : Int32)), (.ref b360)])) rfl (by rw [hml]; rfl) (argsL := [(.int (3 : Int32)), (.int (2 : Int32)), (.int sl), (.long p3)]) (rest := [(.int (2 : Int32)), (.ref b360)]) (lenOf pd__28IIIJ_29B rfl) rfl (by show 2 * 0 + _ ≤ _; exact Nat.le_of_eq rfl) (hb hby at_206) (fun _ _ => ⟨rfl, rfl, (by decide : 1 + 0 ≤ _), (by decide : 7 + 0 ≤ _)⟩)
    dsimp only [Pt.U, Pt.locs, Pt.cells, Pt.slots] at X374 l374 y374 z374 st374 hQ374
    subst l374 y374 z374
    refine Run.step (st374) ?_
    obtain ⟨rfl, N374q, e374q⟩ := hQ374
    have N374 := Fr.app N370 N374q
    show Run _ _ _ _ (T374.setTop (mkF m 209 #[.val (.int p1), .val (.int p2), .val (.long p3), .second, .val (.int (3 : Int32)), .val (.ref o_ZIP), .val (.int (0 : Int32)), .val (.int (4 : Int32)), .val (.int nn), .val (.int sl), .val (.ref b360), .unset] [(.int (own_pick (3 : Int32) (2 : Int32) sl p3)), (.int (2 : Int32)), (.ref b360)]))
    obtain ⟨b2, hb2⟩ : ∃ z, z = (own_pick (3 : Int32) (2 : Int32) sl p3) := ⟨_, rfl⟩
    rw [← hb2]
    have nb2 : nar .byte b2 = b2 := by rw [hb2]; exact own_pickb _ _ _ _
    show Run _ _ _ _ (T374.setTop (mkF m 209 #[.val (.int p1), .val (.int p2), .val (.long p3), .second, .val (.int (3 : Int32)), .val (.ref o_ZIP), .val (.int (0 : Int32)), .val (.int (4 : Int32)), .val (.int nn), .val (.int sl), .val (.ref b360), .unset] [(.int b2), (.int (2 : Int32)), (.ref b360)]))
    obtain ⟨_, _, ⟨T375, L375, k375, n375⟩, -, X375, ⟨Lc375, hQ375, l375, y375, z375⟩, st375⟩ := Jvm.LawKit.callS X374 hx (y := (⟨"cleave/io/PackedFormatHoldsMagicPinLaw", "put", "([BIB)V"⟩ : MethodName)) hown (mvT hZ w9) (mvT hZ w10) (mvT hZ w7) (mvT hZ w11) (by decide) (backOf (W := 0) (rm2 l Z a0 hw [] b360 (2 : Int32) b2 nn gg370 T370.heap n0 z372 fv370 (by decide) nb2 g_b360) hZ w11 w7 (by decide) (by decide)) (g := (mkF m 209 #[.val (.int p1), .val (.int p2), .val (.long p3), .second, .val (.int (3 : Int32)), .val (.ref o_ZIP), .val (.int (0 : Int32)), .val (.int (4 : Int32)), .val (.int nn), .val (.int sl), .val (.ref b360), .unset] [(.int b2), (.int (2 : Int32)), (.ref b360)])) rfl (by rw [hml]; rfl) (argsL := [(.ref b360), (.int (2 : Int32)), (.int b2)]) (rest := []) (lenOf pd__28_5bBIB_29V rfl) rfl (by show 2 * 0 + _ ≤ _; exact Nat.le_of_eq rfl) (hb hby at_209) (fun _ _ => ⟨rfl, e374q, (by decide : 1 + 0 ≤ _), (by decide : 7 + 0 ≤ _)⟩)
    dsimp only [Pt.U, Pt.locs, Pt.cells, Pt.slots] at X375 l375 y375 z375 st375 hQ375
    subst l375 y375 z375
    refine Run.step (st375) ?_
    obtain ⟨rfl, N375q, K375q, fv375⟩ := hQ375
    have N375 := Fr.app N374 N375q
    have z377 := Nat.le_trans z372 K375q.1
    have O378 := O373.keep K375q (allS g_b360 all0)
    obtain ⟨gg375, hg375⟩ : ∃ z, z = own_up gg370 (2 : Int32).toNatClampNeg b2 := ⟨_, rfl⟩
    rw [← hg375] at fv375
    show Run _ _ _ _ (T375.setTop (mkF m 212 #[.val (.int p1), .val (.int p2), .val (.long p3), .second, .val (.int (3 : Int32)), .val (.ref o_ZIP), .val (.int (0 : Int32)), .val (.int (4 : Int32)), .val (.int nn), .val (.int sl), .val (.ref b360), .unset] []))
    refine Run.step (fun t_ k_ => XS.aload X375.here hx rfl (hb hby at_212) rfl rfl (XS.iload X375.here hx rfl (hb hby at_214) rfl (XS.iconst X375.here hx rfl (hb hby at_216) (XS.iadd X375.here hx rfl (hb hby at_217) rfl (XS.iload X375.here hx rfl (hb hby at_218) rfl (XS.iconst X375.here hx rfl (hb hby at_220) k_)))))) ?_
    show Run _ _ _ _ (T375.setTop (mkF m 221 #[.val (.int p1), .val (.int p2), .val (.long p3), .second, .val (.int (3 : Int32)), .val (.ref o_ZIP), .val (.int (0 : Int32)), .val (.int (4 : Int32)), .val (.int nn), .val (.int sl), .val (.ref b360), .unset] [(.int (3 : Int32)), (.int (3 : Int32)), (.int (3 : Int32)), (.ref b360)]))
    refine Run.step (fun t_ k_ => XS.iload X375.here hx rfl (hb hby at_221) rfl (XS.lloadN X375.here hx rfl (hb hby at_223) rfl k_)) ?_
    show Run _ _ _ _ (T375.setTop (mkF m 224 #[.val (.int p1), .val (.int p2), .val (.long p3), .second, .val (.int (3 : Int32)), .val (.ref o_ZIP), .val (.int (0 : Int32)), .val (.int (4 : Int32)), .val (.int nn), .val (.int sl), .val (.ref b360), .unset] [(.long p3), (.int sl), (.int (3 : Int32)), (.int (3 : Int32)), (.int (3 : Int32)), (.ref b360)]))
    obtain ⟨_, _, ⟨T379, L379, k379, n379⟩, -, X379, ⟨Lc379, hQ379, l379, y379, z379⟩, st379⟩ := Jvm.LawKit.callS X375 hx (y := (⟨"cleave/io/PackedFormatHoldsMagicPinLaw", "pick", "(IIIJ)B"⟩ : MethodName)) hown (mvT hZ w5) (mvT hZ w6) (mvT hZ w7) (mvT hZ w8) (by decide) (backOf (W := 2) (rm1 l Z a0 hw [] (3 : Int32) (3 : Int32) sl p3 T375.heap n0 z377) hZ w8 w7 (by decide) (by decide)) (g := (mkF m 224 #[.val (.int p1), .val (.int p2), .val (.long p3), .second, .val (.int (3 : Int32)), .val (.ref o_ZIP), .val (.int (0 : Int32)), .val (.int (4 : Int32)), .val (.int nn), .val (.int sl), .val (.ref b360), .unset] [(.long p3), (.int sl), (.int (3 : Int32)), (.int (3 : Int32)), (.int (3 : Int32)), (.ref b360)])) rfl (by rw [hml]; rfl) (argsL := [(.int (3 : Int32)), (.int (3 : Int32)), (.int sl), (.long p3)]) (rest := [(.int (3 : Int32)), (.ref b360)]) (lenOf pd__28IIIJ_29B rfl) rfl (by show 2 * 0 + _ ≤ _; exact Nat.le_of_eq rfl) (hb hby at_224) (fun _ _ => ⟨rfl, rfl, (by decide : 1 + 0 ≤ _), (by decide : 7 + 0 ≤ _)⟩)
    dsimp only [Pt.U, Pt.locs, Pt.cells, Pt.slots] at X379 l379 y379 z379 st379 hQ379
    subst l379 y379 z379
    refine Run.step (st379) ?_
    obtain ⟨rfl, N379q, e379q⟩ := hQ379
    have N379 := Fr.app N375 N379q
    show Run _ _ _ _ (T379.setTop (mkF m 227 #[.val (.int p1), .val (.int p2), .val (.long p3), .second, .val (.int (3 : Int32)), .val (.ref o_ZIP), .val (.int (0 : Int32)), .val (.int (4 : Int32)), .val (.int nn), .val (.int sl), .val (.ref b360), .unset] [(.int (own_pick (3 : Int32) (3 : Int32) sl p3)), (.int (3 : Int32)), (.ref b360)]))
    obtain ⟨b3, hb3⟩ : ∃ z, z = (own_pick (3 : Int32) (3 : Int32) sl p3) := ⟨_, rfl⟩
    rw [← hb3]
    have nb3 : nar .byte b3 = b3 := by rw [hb3]; exact own_pickb _ _ _ _
    show Run _ _ _ _ (T379.setTop (mkF m 227 #[.val (.int p1), .val (.int p2), .val (.long p3), .second, .val (.int (3 : Int32)), .val (.ref o_ZIP), .val (.int (0 : Int32)), .val (.int (4 : Int32)), .val (.int nn), .val (.int sl), .val (.ref b360), .unset] [(.int b3), (.int (3 : Int32)), (.ref b360)]))
    obtain ⟨_, _, ⟨T380, L380, k380, n380⟩, -, X380, ⟨Lc380, hQ380, l380, y380, z380⟩, st380⟩ := Jvm.LawKit.callS X379 hx (y := (⟨"cleave/io/PackedFormatHoldsMagicPinLaw", "put", "([BIB)V"⟩ : MethodName)) hown (mvT hZ w9) (mvT hZ w10) (mvT hZ w7) (mvT hZ w11) (by decide) (backOf (W := 0) (rm2 l Z a0 hw [] b360 (3 : Int32) b3 nn gg375 T375.heap n0 z377 fv375 (by decide) nb3 g_b360) hZ w11 w7 (by decide) (by decide)) (g := (mkF m 227 #[.val (.int p1), .val (.int p2), .val (.long p3), .second, .val (.int (3 : Int32)), .val (.ref o_ZIP), .val (.int (0 : Int32)), .val (.int (4 : Int32)), .val (.int nn), .val (.int sl), .val (.ref b360), .unset] [(.int b3), (.int (3 : Int32)), (.ref b360)])) rfl (by rw [hml]; rfl) (argsL := [(.ref b360), (.int (3 : Int32)), (.int b3)]) (rest := []) (lenOf pd__28_5bBIB_29V rfl) rfl (by show 2 * 0 + _ ≤ _; exact Nat.le_of_eq rfl) (hb hby at_227) (fun _ _ => ⟨rfl, e379q, (by decide : 1 + 0 ≤ _), (by decide : 7 + 0 ≤ _)⟩)
    dsimp only [Pt.U, Pt.locs, Pt.cells, Pt.slots] at X380 l380 y380 z380 st380 hQ380
    subst l380 y380 z380
    refine Run.step (st380) ?_
    obtain ⟨rfl, N380q, K380q, fv380⟩ := hQ380
    have N380 := Fr.app N379 N380q
    have z382 := Nat.le_trans z377 K380q.1
    have O383 := O378.keep K380q (allS g_b360 all0)
    obtain ⟨gg380, hg380⟩ : ∃ z, z = own_up gg375 (3 : Int32).toNatClampNeg b3 := ⟨_, rfl⟩
    rw [← hg380] at fv380
    show Run _ _ _ _ (T380.setTop (mkF m 230 #[.val (.int p1), .val (.int p2), .val (.long p3), .second, .val (.int (3 : Int32)), .val (.ref o_ZIP), .val (.int (0 : Int32)), .val (.int (4 : Int32)), .val (.int nn), .val (.int sl), .val (.ref b360), .unset] []))
    refine Run.step (fun t_ k_ => XS.aload X380.here hx rfl (hb hby at_230) rfl rfl (XS.iload X380.here hx rfl (hb hby at_232) rfl (XS.iconst X380.here hx rfl (hb hby at_234) (XS.iadd X380.here hx rfl (hb hby at_235) rfl (XS.iload X380.here hx rfl (hb hby at_236) rfl (XS.iconst X380.here hx rfl (hb hby at_238) k_)))))) ?_
    show Run _ _ _ _ (T380.setTop (mkF m 239 #[.val (.int p1), .val (.int p2), .val (.long p3), .second, .val (.int (3 : Int32)), .val (.ref o_ZIP), .val (.int (0 : Int32)), .val (.int (4 : Int32)), .val (.int nn), .val (.int sl), .val (.ref b360), .unset] [(.int (4 : Int32)), (.int (3 : Int32)), (.int (4 : Int32)), (.ref b360)]))
    refine Run.step (fun t_ k_ => XS.iload X380.here hx rfl (hb hby at_239) rfl (XS.lloadN X380.here hx rfl (hb hby at_241) rfl k_)) ?_
    show Run _ _ _ _ (T380.setTop (mkF m 242 #[.val (.int p1), .val (.int p2), .val (.long p3), .second, .val (.int (3 : Int32)), .val (.ref o_ZIP), .val (.int (0 : Int32)), .val (.int (4 : Int32)), .val (.int nn), .val (.int sl), .val (.ref b360), .unset] [(.long p3), (.int sl), (.int (4 : Int32)), (.int (3 : Int32)), (.int (4 : Int32)), (.ref b360)]))
    obtain ⟨_, _, ⟨T384, L384, k384, n384⟩, -, X384, ⟨Lc384, hQ384, l384, y384, z384⟩, st384⟩ := Jvm.LawKit.callS X380 hx (y := (⟨"cleave/io/PackedFormatHoldsMagicPinLaw", "pick", "(IIIJ)B"⟩ : MethodName)) hown (mvT hZ w5) (mvT hZ w6) (mvT hZ w7) (mvT hZ w8) (by decide) (backOf (W := 2) (rm1 l Z a0 hw [] (3 : Int32) (4 : Int32) sl p3 T380.heap n0 z382) hZ w8 w7 (by decide) (by decide)) (g := (mkF m 242 #[.val (.int p1), .val (.int p2), .val (.long p3), .second, .val (.int (3 : Int32)), .val (.ref o_ZIP), .val (.int (0 : Int32)), .val (.int (4 : Int32)), .val (.int nn), .val (.int sl), .val (.ref b360), .unset] [(.long p3), (.int sl), (.int (4 : Int32)), (.int (3 : Int32)), (.int (4 : Int32)), (.ref b360)])) rfl (by rw [hml]; rfl) (argsL := [(.int (3 : Int32)), (.int (4 : Int32)), (.int sl), (.long p3)]) (rest := [(.int (4 : Int32)), (.ref b360)]) (lenOf pd__28IIIJ_29B rfl) rfl (by show 2 * 0 + _ ≤ _; exact Nat.le_of_eq rfl) (hb hby at_242) (fun _ _ => ⟨rfl, rfl, (by decide : 1 + 0 ≤ _), (by decide : 7 + 0 ≤ _)⟩)
    dsimp only [Pt.U, Pt.locs, Pt.cells, Pt.slots] at X384 l384 y384 z384 st384 hQ384
    subst l384 y384 z384
    refine Run.step (st384) ?_
    obtain ⟨rfl, N384q, e384q⟩ := hQ384
    have N384 := Fr.app N380 N384q
    show Run _ _ _ _ (T384.setTop (mkF m 245 #[.val (.int p1), .val (.int p2), .val (.long p3), .second, .val (.int (3 : Int32)), .val (.ref o_ZIP), .val (.int (0 : Int32)), .val (.int (4 : Int32)), .val (.int nn), .val (.int sl), .val (.ref b360), .unset] [(.int (own_pick (3 : Int32) (4 : Int32) sl p3)), (.int (4 : Int32)), (.ref b360)]))
    obtain ⟨b4, hb4⟩ : ∃ z, z = (own_pick (3 : Int32) (4 : Int32) sl p3) := ⟨_, rfl⟩
    rw [← hb4]
    have nb4 : nar .byte b4 = b4 := by rw [hb4]; exact own_pickb _ _ _ _
    show Run _ _ _ _ (T384.setTop (mkF m 245 #[.val (.int p1), .val (.int p2), .val (.long p3), .second, .val (.int (3 : Int32)), .val (.ref o_ZIP), .val (.int (0 : Int32)), .val (.int (4 : Int32)), .val (.int nn), .val (.int sl), .val (.ref b360), .unset] [(.int b4), (.int (4 : Int32)), (.ref b360)]))
    obtain ⟨_, _, ⟨T385, L385, k385, n385⟩, -, X385, ⟨Lc385, hQ385, l385, y385, z385⟩, st385⟩ := Jvm.LawKit.callS X384 hx (y := (⟨"cleave/io/PackedFormatHoldsMagicPinLaw", "put", "([BIB)V"⟩ : MethodName)) hown (mvT hZ w9) (mvT hZ w10) (mvT hZ w7) (mvT hZ w11) (by decide) (backOf (W := 0) (rm2 l Z a0 hw [] b360 (4 : Int32) b4 nn gg380 T380.heap n0 z382 fv380 (by decide) nb4 g_b360) hZ w11 w7 (by decide) (by decide)) (g := (mkF m 245 #[.val (.int p1), .val (.int p2), .val (.long p3), .second, .val (.int (3 : Int32)), .val (.ref o_ZIP), .val (.int (0 : Int32)), .val (.int (4 : Int32)), .val (.int nn), .val (.int sl), .val (.ref b360), .unset] [(.int b4), (.int (4 : Int32)), (.ref b360)])) rfl (by rw [hml]; rfl) (argsL := [(.ref b360), (.int (4 : Int32)), (.int b4)]) (rest := []) (lenOf pd__28_5bBIB_29V rfl) rfl (by show 2 * 0 + _ ≤ _; exact Nat.le_of_eq rfl) (hb hby at_245) (fun _ _ => ⟨rfl, e384q, (by decide : 1 + 0 ≤ _), (by decide : 7 + 0 ≤ _)⟩)
    dsimp only [Pt.U, Pt.locs, Pt.cells, Pt.slots] at X385 l385 y385 z385 st385 hQ385
    subst l385 y385 z385
    refine Run.step (st385) ?_
    obtain ⟨rfl, N385q, K385q, fv385⟩ := hQ385
    have N385 := Fr.app N384 N385q
    have z387 := Nat.le_trans z382 K385q.1
    have O388 := O383.keep K385q (allS g_b360 all0)
    obtain ⟨gg385, hg385⟩ : ∃ z, z = own_up gg380 (4 : Int32).toNatClampNeg b4 := ⟨_, rfl⟩
    rw [← hg385] at fv385
    show Run _ _ _ _ (T385.setTop (mkF m 248 #[.val (.int p1), .val (.int p2), .val (.long p3), .second, .val (.int (3 : Int32)), .val (.ref o_ZIP), .val (.int (0 : Int32)), .val (.int (4 : Int32)), .val (.int nn), .val (.int sl), .val (.ref b360), .unset] []))
    refine Run.step (fun t_ k_ => XS.aload X385.here hx rfl (hb hby at_248) rfl rfl (XS.iload X385.here hx rfl (hb hby at_250) rfl (XS.iconst X385.here hx rfl (hb hby at_252) (XS.iadd X385.here hx rfl (hb hby at_253) rfl (XS.iload X385.here hx rfl (hb hby at_254) rfl (XS.iconst X385.here hx rfl (hb hby at_256) k_)))))) ?_
    show Run _ _ _ _ (T385.setTop (mkF m 257 #[.val (.int p1), .val (.int p2), .val (.long p3), .second, .val (.int (3 : Int32)), .val (.ref o_ZIP), .val (.int (0 : Int32)), .val (.int (4 : Int32)), .val (.int nn), .val (.int sl), .val (.ref b360), .unset] [(.int (5 : Int32)), (.int (3 : Int32)), (.int (5 : Int32)), (.ref b360)]))
    refine Run.step (fun t_ k_ => XS.iload X385.here hx rfl (hb hby at_257) rfl (XS.lloadN X385.here hx rfl (hb hby at_259) rfl k_)) ?_
    show Run _ _ _ _ (T385.setTop (mkF m 260 #[.val (.int p1), .val (.int p2), .val (.long p3), .second, .val (.int (3 : Int32)), .val (.ref o_ZIP), .val (.int (0 : Int32)), .val (.int (4 : Int32)), .val (.int nn), .val (.int sl), .val (.ref b360), .unset] [(.long p3), (.int sl), (.int (5 : Int32)), (.int (3 : Int32)), (.int (5 : Int32)), (.ref b360)]))
    obtain ⟨_, _, ⟨T389, L389, k389, n389⟩, -, X389, ⟨Lc389, hQ389, l389, y389, z389⟩, st389⟩ := Jvm.LawKit.callS X385 hx (y := (⟨"cleave/io/PackedFormatHoldsMagicPinLaw", "pick", "(IIIJ)B"⟩ : MethodName)) hown (mvT hZ w5) (mvT hZ w6) (mvT hZ w7) (mvT hZ w8) (by decide) (backOf (W := 2) (rm1 l Z a0 hw [] (3 : Int32) (5 : Int32) sl p3 T385.heap n0 z387) hZ w8 w7 (by decide) (by decide)) (g := (mkF m 260 #[.val (.int p1), .val (.int p2), .val (.long p3), .second, .val (.int (3 : Int32)), .val (.ref o_ZIP), .val (.int (0 : Int32)), .val (.int (4 : Int32)), .val (.int nn), .val (.int sl), .val (.ref b360), .unset] [(.long p3), (.int sl), (.int (5 : Int32)), (.int (3 : Int32)), (.int (5 : Int32)), (.ref b360)])) rfl (by rw [hml]; rfl) (argsL := [(.int (3 : Int32)), (.int (5 : Int32)), (.int sl), (.long p3)]) (rest := [(.int (5 : Int32)), (.ref b360)]) (lenOf pd__28IIIJ_29B rfl) rfl (by show 2 * 0 + _ ≤ _; exact Nat.le_of_eq rfl) (hb hby at_260) (fun _ _ => ⟨rfl, rfl, (by decide : 1 + 0 ≤ _), (by decide : 7 + 0 ≤ _)⟩)
    dsimp only [Pt.U, Pt.locs, Pt.cells, Pt.slots] at X389 l389 y389 z389 st389 hQ389
    subst l389 y389 z389
    refine Run.step (st389) ?_
    obtain ⟨rfl, N389q, e389q⟩ := hQ389
    have N389 := Fr.app N385 N389q
    show Run _ _ _ _ (T389.setTop (mkF m 263 #[.val (.int p1), .val (.int p2), .val (.long p3), .second, .val (.int (3 : Int32)), .val (.ref o_ZIP), .val (.int (0 : Int32)), .val (.int (4 : Int32)), .val (.int nn), .val (.int sl), .val (.ref b360), .unset] [(.int (own_pick (3 : Int32) (5 : Int32) sl p3)), (.int (5 : Int32)), (.ref b360)]))
    obtain ⟨b5, hb5⟩ : ∃ z, z = (own_pick (3 : Int32) (5 : Int32) sl p3) := ⟨_, rfl⟩
    rw [← hb5]
    have nb5 : nar .byte b5 = b5 := by rw [hb5]; exact own_pickb _ _ _ _
    show Run _ _ _ _ (T389.setTop (mkF m 263 #[.val (.int p1), .val (.int p2), .val (.long p3), .second, .val (.int (3 : Int32)), .val (.ref o_ZIP), .val (.int (0 : Int32)), .val (.int (4 : Int32)), .val (.int nn), .val (.int sl), .val (.ref b360), .unset] [(.int b5), (.int (5 : Int32)), (.ref b360)]))
    obtain ⟨_, _, ⟨T390, L390, k390, n390⟩, -, X390, ⟨Lc390, hQ390, l390, y390, z390⟩, st390⟩ := Jvm.LawKit.callS X389 hx (y := (⟨"cleave/io/PackedFormatHoldsMagicPinLaw", "put", "([BIB)V"⟩ : MethodName)) hown (mvT hZ w9) (mvT hZ w10) (mvT hZ w7) (mvT hZ w11) (by decide) (backOf (W := 0) (rm2 l Z a0 hw [] b360 (5 : Int32) b5 nn gg385 T385.heap n0 z387 fv385 (by decide) nb5 g_b360) hZ w11 w7 (by decide) (by decide)) (g := (mkF m 263 #[.val (.int p1), .val (.int p2), .val (.long p3), .second, .val (.int (3 : Int32)), .val (.ref o_ZIP), .val (.int (0 : Int32)), .val (.int (4 : Int32)), .val (.int nn), .val (.int sl), .val (.ref b360), .unset] [(.int b5), (.int (5 : Int32)), (.ref b360)])) rfl (by rw [hml]; rfl) (argsL := [(.ref b360), (.int (5 : Int32)), (.int b5)]) (rest := []) (lenOf pd__28_5bBIB_29V rfl) rfl (by show 2 * 0 + _ ≤ _; exact Nat.le_of_eq rfl) (hb hby at_263) (fun _ _ => ⟨rfl, e389q, (by decide : 1 + 0 ≤ _), (by decide : 7 + 0 ≤ _)⟩)
    dsimp only [Pt.U, Pt.locs, Pt.cells, Pt.slots] at X390 l390 y390 z390 st390 hQ390
    subst l390 y390 z390
    refine Run.step (st390) ?_
    obtain ⟨rfl, N390q, K390q, fv390⟩ := hQ390
    have N390 := Fr.app N389 N390q
    have z392 := Nat.le_trans z387 K390q.1
    have O393 := O388.keep K390q (allS g_b360 all0)
    obtain ⟨gg390, hg390⟩ : ∃ z, z = own_up gg385 (5 : Int32).toNatClampNeg b5 := ⟨_, rfl⟩
    rw [← hg390] at fv390
    show Run _ _ _ _ (T390.setTop (mkF m 266 #[.val (.int p1), .val (.int p2), .val (.long p3), .second, .val (.int (3 : Int32)), .val (.ref o_ZIP), .val (.int (0 : Int32)), .val (.int (4 : Int32)), .val (.int nn), .val (.int sl), .val (.ref b360), .unset] []))
    have v0 : gg390 0 = b0 := by rw [hg390, hg385, hg380, hg375, hg370, hg365]; rfl
    have v1 : gg390 1 = b1 := by rw [hg390, hg385, hg380, hg375, hg370, hg365]; rfl
    have v2 : gg390 2 = b2 := by rw [hg390, hg385, hg380, hg375, hg370, hg365]; rfl
    have v3 : gg390 3 = b3 := by rw [hg390, hg385, hg380, hg375, hg370, hg365]; rfl
    have v4 : gg390 4 = b4 := by rw [hg390, hg385, hg380, hg375, hg370, hg365]; rfl
    have v5 : gg390 5 = b5 := by rw [hg390, hg385, hg380, hg375, hg370, hg365]; rfl
    refine Run.step (fun t_ k_ => XS.iload X390.here hx rfl (hb hby at_266) rfl (XS.iload X390.here hx rfl (hb hby at_268) rfl (XS.iload X390.here hx rfl (hb hby at_270) rfl (XS.iadd X390.here hx rfl (hb hby at_272) rfl k_)))) ?_
    show Run _ _ _ _ (T390.setTop (mkF m 273 #[.val (.int p1), .val (.int p2), .val (.long p3), .second, .val (.int (3 : Int32)), .val (.ref o_ZIP), .val (.int (0 : Int32)), .val (.int (4 : Int32)), .val (.int nn), .val (.int sl), .val (.ref b360), .unset] [(.int (4 : Int32)), (.int nn)]))
    have J394 : ∀ (TJ394 : State) (LJ394 : List Loc) (XJ394 : Stand p l e room_1 s m #[(.int p1), (.int p2), (.long p3)] below meth c TJ394 LJ394 1 7) (eJ394 : TJ394.heap = T390.heap) (NJ394 : Fr n0 LJ394) (wt : Int32), (wt = if nn < (4 : Int32) then 0 else (if b0 = (80 : Int32) then (if b1 = (75 : Int32) then (if b2 = (3 : Int32) then (if b3 = (4 : Int32) then (1) else 0) else 0) else 0) else 0)) → Run p.tables e below (PQ s below 16 640 (Q0 Z p1 p2 p3 o_BZIP2 mg_BZIP2 km_BZIP2 o_XZ mg_XZ km_XZ o_ZSTD mg_ZSTD km_ZSTD o_ZIP mg_ZIP km_ZIP o_TAR mg_TAR km_TAR o_GZIP_TAR mg_GZIP_TAR km_GZIP_TAR h0 n0)) (TJ394.setTop (mkF m 372 #[.val (.int p1), .val (.int p2), .val (.long p3), .second, .val (.int (3 : Int32)), .val (.ref o_ZIP), .val (.int (0 : Int32)), .val (.int (4 : Int32)), .val (.int nn), .val (.int sl), .val (.ref b360), .unset] [(.int wt)])) := by
      intro TJ394 LJ394 XJ394 eJ394 NJ394 wt hv394
      refine Run.step (fun t_ k_ => XS.istore XJ394.here hx rfl (hb hby at_372) rfl (l' := #[.val (.int p1), .val (.int p2), .val (.long p3), .second, .val (.int (3 : Int32)), .val (.ref o_ZIP), .val (.int (0 : Int32)), .val (.int (4 : Int32)), .val (.int nn), .val (.int sl), .val (.ref b360), .val (.int wt)]) rfl (XS.aload XJ394.here hx rfl (hb hby at_374) rfl rfl (XS.aload XJ394.here hx rfl (hb hby at_376) rfl rfl k_))) ?_
      show Run _ _ _ _ (TJ394.setTop (mkF m 378 #[.val (.int p1), .val (.int p2), .val (.long p3), .second, .val (.int (3 : Int32)), .val (.ref o_ZIP), .val (.int (0 : Int32)), .val (.int (4 : Int32)), .val (.int nn), .val (.int sl), .val (.ref b360), .val (.int wt)] [(.ref b360), (.ref o_ZIP)]))
      obtain ⟨cq395, kq395, q395a, q395b, q395c⟩ := isOf hZ eJ394 (E_ZIP.ext O393.2)
      obtain ⟨_, _, ⟨T395, L395, k395, n395⟩, -, X395, ⟨Lc395, hQ395, l395, y395, z395⟩, st395⟩ := XJ394.virtualBack hx (y := (⟨"cleave/io/PackedFormat", "holdsMagic", "([B)Z"⟩ : MethodName)) (z := (⟨"cleave/io/PackedFormat", "holdsMagic", "([B)Z"⟩ : MethodName)) hown (mvT hZ w18) (mvT hZ w19) (notFace_of_selects (args := #[]) (mvT hZ w29)) (mvT hZ w29) (mvT hZ w20) (by decide) (backOf (W := 0) (rm5_ZIP l Z a0 hw [] o_ZIP b360 mg_ZIP km_ZIP nn gg390 T390.heap n0 z392 (F1_ZIP.ext O393.2) (F2_ZIP.ext O393.2) (VM_ZIP.ext O393.2) fv390) hZ w22 w2 (by decide) (by decide)) q395a q395c (g := (mkF m 378 #[.val (.int p1), .val (.int p2), .val (.long p3), .second, .val (.int (3 : Int32)), .val (.ref o_ZIP), .val (.int (0 : Int32)), .val (.int (4 : Int32)), .val (.int nn), .val (.int sl), .val (.ref b360), .val (.int wt)] [(.ref b360), (.ref o_ZIP)])) rfl (by rw [hml]; rfl) (Steps.refl _) (argsL := [(.ref b360)]) (rest := []) (lenOf pd__28_5bB_29Z rfl) rfl (by show 2 * 0 + _ ≤ _; exact Nat.le_of_eq rfl) (hb hby at_378) (fun _ _ => ⟨rfl, eJ394, (by decide : 1 + 0 ≤ _), (by decide : 7 + 0 ≤ _)⟩)
      dsimp only [Pt.U, Pt.locs, Pt.cells, Pt.slots] at X395 l395 y395 z395 st395 hQ395
      subst l395 y395 z395
      refine Run.step (fun t k => st395.trans k) ?_
      obtain ⟨rfl, N395q, e395q⟩ := hQ395
      have N395 := Fr.app NJ394 N395q
      show Run _ _ _ _ (T395.setTop (mkF m 381 #[.val (.int p1), .val (.int p2), .val (.long p3), .second, .val (.int (3 : Int32)), .val (.ref o_ZIP), .val (.int (0 : Int32)), .val (.int (4 : Int32)), .val (.int nn), .val (.int sl), .val (.ref b360), .val (.int wt)] [(.int (if nn < (4 : Int32) then 0 else (if gg390 0 = (80 : Int32) then (if gg390 1 = (75 : Int32) then (if gg390 2 = (3 : Int32) then (if gg390 3 = (4 : Int32) then (1) else 0) else 0) else 0) else 0)))]))
      refine Run.step (fun t_ k_ => XS.iload X395.here hx rfl (hb hby at_381) rfl (XS.icmpNo X395.here hx rfl (hb hby at_383) rfl (XT.ii_ne_f ((by rw [hv394, v0, v1, v2, v3]) : (if nn < (4 : Int32) then 0 else (if gg390 0 = (80 : Int32) then (if gg390 1 = (75 : Int32) then (if gg390 2 = (3 : Int32) then (if gg390 3 = (4 : Int32) then (1) else 0) else 0) else 0) else 0)) = wt)) (XS.iconst X395.here hx rfl (hb hby at_386) (XS.goto X395.here hx rfl (pc0 := 387) (pc' := 391) rfl (hb hby at_387) (by decide) (by decide) k_)))) ?_
      show Run _ _ _ _ (T395.setTop (mkF m 391 #[.val (.int p1), .val (.int p2), .val (.long p3), .second, .val (.int (3 : Int32)), .val (.ref o_ZIP), .val (.int (0 : Int32)), .val (.int (4 : Int32)), .val (.int nn), .val (.int sl), .val (.ref b360), .val (.int wt)] [(.int (1 : Int32))]))
      exact finZ X395 hx (BodyLoose.notSynchronized Bd) Bd.returns (hb hby at_391) (by decide) (by decide) (by decide) e395q ⟨rfl, N395⟩
    by_cases c273 : nn < (4 : Int32)
    · skip
      refine Run.step (fun t_ k_ => XS.icmpYes X390.here hx rfl (pc0 := 273) (pc' := 371) rfl (hb hby at_273) rfl (XT.ii_lt_t c273) (by decide) (by decide) (XS.iconst X390.here hx rfl (hb hby at_371) k_)) ?_
      show Run _ _ _ _ (T390.setTop (mkF m 372 #[.val (.int p1), .val (.int p2), .val (.long p3), .second, .val (.int (3 : Int32)), .val (.ref o_ZIP), .val (.int (0 : Int32)), .val (.int (4 : Int32)), .val (.int nn), .val (.int sl), .val (.ref b360), .unset] [(.int (0 : Int32))]))
      exact J394 _ _ X390 rfl N390 (0 : Int32) (if_pos c273).symm
    · skip
      refine Run.step (fun t_ k_ => XS.icmpNo X390.here hx rfl (hb hby at_273) rfl (XT.ii_lt_f c273) (XS.iload X390.here hx rfl (hb hby at_276) rfl (XS.iconst X390.here hx rfl (hb hby at_278) (XS.iload X390.here hx rfl (hb hby at_279) rfl (XS.lloadN X390.here hx rfl (hb hby at_281) rfl k_))))) ?_
      show Run _ _ _ _ (T390.setTop (mkF m 282 #[.val (.int p1), .val (.int p2), .val (.long p3), .second, .val (.int (3 : Int32)), .val (.ref o_ZIP), .val (.int (0 : Int32)), .val (.int (4 : Int32)), .val (.int nn), .val (.int sl), .val (.ref b360), .unset] [(.long p3), (.int sl), (.int (0 : Int32)), (.int (3 : Int32))]))
      obtain ⟨_, _, ⟨T396, L396, k396, n396⟩, -, X396, ⟨Lc396, hQ396, l396, y396, z396⟩, st396⟩ := Jvm.LawKit.callS X390 hx (y := (⟨"cleave/io/PackedFormatHoldsMagicPinLaw", "matches", "(IIIJ)Z"⟩ : MethodName)) hown (mvT hZ w12) (mvT hZ w13) (mvT hZ w7) (mvT hZ w14) (by decide) (backOf (W := 0) (rm3 l Z a0 hw [] (3 : Int32) (0 : Int32) sl p3 T390.heap n0 z392) hZ w14 w7 (by decide) (by decide)) (g := (mkF m 282 #[.val (.int p1), .val (.int p2), .val (.long p3), .second, .val (.int (3 : Int32)), .val (.ref o_ZIP), .val (.int (0 : Int32)), .val (.int (4 : Int32)), .val (.int nn), .val (.int sl), .val (.ref b360), .unset] [(.long p3), (.int sl), (.int (0 : Int32)), (.int (3 : Int32))])) rfl (by rw [hml]; rfl) (argsL := [(.int (3 : Int32)), (.int (0 : Int32)), (.int sl), (.long p3)]) (rest := []) (lenOf pd__28IIIJ_29Z rfl) rfl (by show 2 * 0 + _ ≤ _; exact Nat.le_of_eq rfl) (hb hby at_282) (fun _ _ => ⟨rfl, rfl, (by decide : 1 + 0 ≤ _), (by decide : 7 + 0 ≤ _)⟩)
      dsimp only [Pt.U, Pt.locs, Pt.cells, Pt.slots] at X396 l396 y396 z396 st396 hQ396
      subst l396 y396 z396
      refine Run.step (st396) ?_
      obtain ⟨rfl, N396q, e396q⟩ := hQ396
      have N396 := Fr.app N390 N396q
      show Run _ _ _ _ (T396.setTop (mkF m 285 #[.val (.int p1), .val (.int p2), .val (.long p3), .second, .val (.int (3 : Int32)), .val (.ref o_ZIP), .val (.int (0 : Int32)), .val (.int (4 : Int32)), .val (.int nn), .val (.int sl), .val (.ref b360), .unset] [(.int (if own_pick (3 : Int32) (0 : Int32) sl p3 = (own_expect (3 : Int32) (0 : Int32)).toInt8.toInt32 then 1 else 0))]))
      have E0 : b0 = (80 : Int32) ↔ ¬ ((if own_pick (3 : Int32) (0 : Int32) sl p3 = (own_expect (3 : Int32) (0 : Int32)).toInt8.toInt32 then 1 else 0) = (0 : Int32)) := by
        rw [show ((if own_pick (3 : Int32) (0 : Int32) sl p3 = (own_expect (3 : Int32) (0 : Int32)).toInt8.toInt32 then 1 else 0)) = (if own_pick (3 : Int32) (0 : Int32) sl p3 = (80 : Int32) then (1 : Int32) else 0) from rfl, ← hb0]
        by_cases z : b0 = (80 : Int32)
        · rw [if_pos z]; exact ⟨fun _ => by decide, fun _ => z⟩
        · rw [if_neg z]; exact ⟨fun q => absurd q z, fun q => absurd rfl q⟩
      by_cases c285 : (if own_pick (3 : Int32) (0 : Int32) sl p3 = (own_expect (3 : Int32) (0 : Int32)).toInt8.toInt32 then 1 else 0) = (0 : Int32)
      · have d285 := fun q => E0.mp q c285
        refine Run.step (fun t_ k_ => XS.ifYes X396.here hx rfl (pc0 := 285) (pc' := 371) rfl (hb hby at_285) rfl (XT.i0_eq_t c285) (by decide) (by decide) (XS.iconst X396.here hx rfl (hb hby at_371) k_)) ?_
        show Run _ _ _ _ (T396.setTop (mkF m 372 #[.val (.int p1), .val (.int p2), .val (.long p3), .second, .val (.int (3 : Int32)), .val (.ref o_ZIP), .val (.int (0 : Int32)), .val (.int (4 : Int32)), .val (.int nn), .val (.int sl), .val (.ref b360), .unset] [(.int (0 : Int32))]))
        exact J394 _ _ X396 e396q N396 (0 : Int32) ((if_neg c273).trans (if_neg d285)).symm
      · have d285 := E0.mpr c285
        refine Run.step (fun t_ k_ => XS.ifNo X396.here hx rfl (hb hby at_285) rfl (XT.i0_eq_f c285) (XS.iload X396.here hx rfl (hb hby at_288) rfl (XS.iconst X396.here hx rfl (hb hby at_290) (XS.iload X396.here hx rfl (hb hby at_291) rfl (XS.lloadN X396.here hx rfl (hb hby at_293) rfl k_))))) ?_
        show Run _ _ _ _ (T396.setTop (mkF m 294 #[.val (.int p1), .val (.int p2), .val (.long p3), .second, .val (.int (3 : Int32)), .val (.ref o_ZIP), .val (.int (0 : Int32)), .val (.int (4 : Int32)), .val (.int nn), .val (.int sl), .val (.ref b360), .unset] [(.long p3), (.int sl), (.int (1 : Int32)), (.int (3 : Int32))]))
        obtain ⟨_, _, ⟨T397, L397, k397, n397⟩, -, X397, ⟨Lc397, hQ397, l397, y397, z397⟩, st397⟩ := Jvm.LawKit.callS X396 hx (y := (⟨"cleave/io/PackedFormatHoldsMagicPinLaw", "matches", "(IIIJ)Z"⟩ : MethodName)) hown (mvT hZ w12) (mvT hZ w13) (mvT hZ w7) (mvT hZ w14) (by decide) (backOf (W := 0) (rm3 l Z a0 hw [] (3 : Int32) (1 : Int32) sl p3 T390.heap n0 z392) hZ w14 w7 (by decide) (by decide)) (g := (mkF m 294 #[.val (.int p1), .val (.int p2), .val (.long p3), .second, .val (.int (3 : Int32)), .val (.ref o_ZIP), .val (.int (0 : Int32)), .val (.int (4 : Int32)), .val (.int nn), .val (.int sl), .val (.ref b360), .unset] [(.long p3), (.int sl), (.int (1 : Int32)), (.int (3 : Int32))])) rfl (by rw [hml]; rfl) (argsL := [(.int (3 : Int32)), (.int (1 : Int32)), (.int sl), (.long p3)]) (rest := []) (lenOf pd__28IIIJ_29Z rfl) rfl (by show 2 * 0 + _ ≤ _; exact Nat.le_of_eq rfl) (hb hby at_294) (fun _ _ => ⟨rfl, e396q, (by decide : 1 + 0 ≤ _), (by decide : 7 + 0 ≤ _)⟩)
        dsimp only [Pt.U, Pt.locs, Pt.cells, Pt.slots] at X397 l397 y397 z397 st397 hQ397
        subst l397 y397 z397
        refine Run.step (st397) ?_
        obtain ⟨rfl, N397q, e397q⟩ := hQ397
        have N397 := Fr.app N396 N397q
        show Run _ _ _ _ (T397.setTop (mkF m 297 #[.val (.int p1), .val (.int p2), .val (.long p3), .second, .val (.int (3 : Int32)), .val (.ref o_ZIP), .val (.int (0 : Int32)), .val (.int (4 : Int32)), .val (.int nn), .val (.int sl), .val (.ref b360), .unset] [(.int (if own_pick (3 : Int32) (1 : Int32) sl p3 = (own_expect (3 : Int32) (1 : Int32)).toInt8.toInt32 then 1 else 0))]))
        have E1 : b1 = (75 : Int32) ↔ ¬ ((if own_pick (3 : Int32) (1 : Int32) sl p3 = (own_expect (3 : Int32) (1 : Int32)).toInt8.toInt32 then 1 else 0) = (0 : Int32)) := by
          rw [show ((if own_pick (3 : Int32) (1 : Int32) sl p3 = (own_expect (3 : Int32) (1 : Int32)).toInt8.toInt32 then 1 else 0)) = (if own_pick (3 : Int32) (1 : Int32) sl p3 = (75 : Int32) then (1 : Int32) else 0) from rfl, ← hb1]
          by_cases z : b1 = (75 : Int32)
          · rw [if_pos z]; exact ⟨fun _ => by decide, fun _ => z⟩
          · rw [if_neg z]; exact ⟨fun q => absurd q z, fun q => absurd rfl q⟩
        by_cases c297 : (if own_pick (3 : Int32) (1 : Int32) sl p3 = (own_expect (3 : Int32) (1 : Int32)).toInt8.toInt32 then 1 else 0) = (0 : Int32)
        · have d297 := fun q => E1.mp q c297
          refine Run.step (fun t_ k_ => XS.ifYes X397.here hx rfl (pc0 := 297) (pc' := 371) rfl (hb hby at_297) rfl (XT.i0_eq_t c297) (by decide) (by decide) (XS.iconst X397.here hx rfl (hb hby at_371) k_)) ?_
          show Run _ _ _ _ (T397.setTop (mkF m 372 #[.val (.int p1), .val (.int p2), .val (.long p3), .second, .val (.int (3 : Int32)), .val (.ref o_ZIP), .val (.int (0 : Int32)), .val (.int (4 : Int32)), .val (.int nn), .val (.int sl), .val (.ref b360), .unset] [(.int (0 : Int32))]))
          exact J394 _ _ X397 e397q N397 (0 : Int32) ((if_neg c273).trans ((if_pos d285).trans (if_neg d297))).symm
        · have d297 := E1.mpr c297
          refine Run.step (fun t_ k_ => XS.ifNo X397.here hx rfl (hb hby at_297) rfl (XT.i0_eq_f c297) (XS.iload X397.here hx rfl (hb hby at_300) rfl (XS.iconst X397.here hx rfl (hb hby at_302) (XS.iload X397.here hx rfl (hb hby at_303) rfl (XS.lloadN X397.here hx rfl (hb hby at_305) rfl k_))))) ?_
          show Run _ _ _ _ (T397.setTop (mkF m 306 #[.val (.int p1), .val (.int p2), .val (.long p3), .second, .val (.int (3 : Int32)), .val (.ref o_ZIP), .val (.int (0 : Int32)), .val (.int (4 : Int32)), .val (.int nn), .val (.int sl), .val (.ref b360), .unset] [(.long p3), (.int sl), (.int (2 : Int32)), (.int (3 : Int32))]))
          obtain ⟨_, _, ⟨T398, L398, k398, n398⟩, -, X398, ⟨Lc398, hQ398, l398, y398, z398⟩, st398⟩ := Jvm.LawKit.callS X397 hx (y := (⟨"cleave/io/PackedFormatHoldsMagicPinLaw", "matches", "(IIIJ)Z"⟩ : MethodName)) hown (mvT hZ w12) (mvT hZ w13) (mvT hZ w7) (mvT hZ w14) (by decide) (backOf (W := 0) (rm3 l Z a0 hw [] (3 : Int32) (2 : Int32) sl p3 T390.heap n0 z392) hZ w14 w7 (by decide) (by decide)) (g := (mkF m 306 #[.val (.int p1), .val (.int p2), .val (.long p3), .second, .val (.int (3 : Int32)), .val (.ref o_ZIP), .val (.int (0 : Int32)), .val (.int (4 : Int32)), .val (.int nn), .val (.int sl), .val (.ref b360), .unset] [(.long p3), (.int sl), (.int (2 : Int32)), (.int (3 : Int32))])) rfl (by rw [hml]; rfl) (argsL := [(.int (3 : Int32)), (.int (2 : Int32)), (.int sl), (.long p3)]) (rest := []) (lenOf pd__28IIIJ_29Z rfl) rfl (by show 2 * 0 + _ ≤ _; exact Nat.le_of_eq rfl) (hb hby at_306) (fun _ _ => ⟨rfl, e397q, (by decide : 1 + 0 ≤ _), (by decide : 7 + 0 ≤ _)⟩)
          dsimp only [Pt.U, Pt.locs, Pt.cells, Pt.slots] at X398 l398 y398 z398 st398 hQ398
          subst l398 y398 z398
          refine Run.step (st398) ?_
          obtain ⟨rfl, N398q, e398q⟩ := hQ398
          have N398 := Fr.app N397 N398q
          show Run _ _ _ _ (T398.setTop (mkF m 309 #[.val (.int p1), .val (.int p2), .val (.long p3), .second, .val (.int (3 : Int32)), .val (.ref o_ZIP), .val (.int (0 : Int32)), .val (.int (4 : Int32)), .val (.int nn), .val (.int sl), .val (.ref b360), .unset] [(.int (if own_pick (3 : Int32) (2 : Int32) sl p3 = (own_expect (3 : Int32) (2 : Int32)).toInt8.toInt32 then 1 else 0))]))
          have E2 : b2 = (3 : Int32) ↔ ¬ ((if own_pick (3 : Int32) (2 : Int32) sl p3 = (own_expect (3 : Int32) (2 : Int32)).toInt8.toInt32 then 1 else 0) = (0 : Int32)) := by
            rw [show ((if own_pick (3 : Int32) (2 : Int32) sl p3 = (own_expect (3 : Int32) (2 : Int32)).toInt8.toInt32 then 1 else 0)) = (if own_pick (3 : Int32) (2 : Int32) sl p3 = (3 : Int32) then (1 : Int32) else 0) from rfl, ← hb2]
            by_cases z : b2 = (3 : Int32)
            · rw [if_pos z]; exact ⟨fun _ => by decide, fun _ => z⟩
            · rw [if_neg z]; exact ⟨fun q => absurd q z, fun q => absurd rfl q⟩
          by_cases c309 : (if own_pick (3 : Int32) (2 : Int32) sl p3 = (own_expect (3 : Int32) (2 : Int32)).toInt8.toInt32 then 1 else 0) = (0 : Int32)
          · have d309 := fun q => E2.mp q c309
            refine Run.step (fun t_ k_ => XS.ifYes X398.here hx rfl (pc0 := 309) (pc' := 371) rfl (hb hby at_309) rfl (XT.i0_eq_t c309) (by decide) (by decide) (XS.iconst X398.here hx rfl (hb hby at_371) k_)) ?_
            show Run _ _ _ _ (T398.setTop (mkF m 372 #[.val (.int p1), .val (.int p2), .val (.long p3), .second, .val (.int (3 : Int32)), .val (.ref o_ZIP), .val (.int (0 : Int32)), .val (.int (4 : Int32)), .val (.int nn), .val (.int sl), .val (.ref b360), .unset] [(.int (0 : Int32))]))
            exact J394 _ _ X398 e398q N398 (0 : Int32) ((if_neg c273).trans ((if_pos d285).trans ((if_pos d297).trans (if_neg d309)))).symm
          · have d309 := E2.mpr c309
            refine Run.step (fun t_ k_ => XS.ifNo X398.here hx rfl (hb hby at_309) rfl (XT.i0_eq_f c309) (XS.iload X398.here hx rfl (hb hby at_312) rfl (XS.iconst X398.here hx rfl (hb hby at_314) (XS.icmpNo X398.here hx rfl (hb hby at_315) rfl (XT.ii_lt_f (by decide : ¬ ((4 : Int32) < (4 : Int32)))) (XS.iload X398.here hx rfl (hb hby at_318) rfl (XS.iconst X398.here hx rfl (hb hby at_320) k_)))))) ?_
            show Run _ _ _ _ (T398.setTop (mkF m 321 #[.val (.int p1), .val (.int p2), .val (.long p3), .second, .val (.int (3 : Int32)), .val (.ref o_ZIP), .val (.int (0 : Int32)), .val (.int (4 : Int32)), .val (.int nn), .val (.int sl), .val (.ref b360), .unset] [(.int (3 : Int32)), (.int (3 : Int32))]))
            refine Run.step (fun t_ k_ => XS.iload X398.here hx rfl (hb hby at_321) rfl (XS.lloadN X398.here hx rfl (hb hby at_323) rfl k_)) ?_
            show Run _ _ _ _ (T398.setTop (mkF m 324 #[.val (.int p1), .val (.int p2), .val (.long p3), .second, .val (.int (3 : Int32)), .val (.ref o_ZIP), .val (.int (0 : Int32)), .val (.int (4 : Int32)), .val (.int nn), .val (.int sl), .val (.ref b360), .unset] [(.long p3), (.int sl), (.int (3 : Int32)), (.int (3 : Int32))]))
            obtain ⟨_, _, ⟨T399, L399, k399, n399⟩, -, X399, ⟨Lc399, hQ399, l399, y399, z399⟩, st399⟩ := Jvm.LawKit.callS X398 hx (y := (⟨"cleave/io/PackedFormatHoldsMagicPinLaw", "matches", "(IIIJ)Z"⟩ : MethodName)) hown (mvT hZ w12) (mvT hZ w13) (mvT hZ w7) (mvT hZ w14) (by decide) (backOf (W := 0) (rm3 l Z a0 hw [] (3 : Int32) (3 : Int32) sl p3 T390.heap n0 z392) hZ w14 w7 (by decide) (by decide)) (g := (mkF m 324 #[.val (.int p1), .val (.int p2), .val (.long p3), .second, .val (.int (3 : Int32)), .val (.ref o_ZIP), .val (.int (0 : Int32)), .val (.int (4 : Int32)), .val (.int nn), .val (.int sl), .val (.ref b360), .unset] [(.long p3), (.int sl), (.int (3 : Int32)), (.int (3 : Int32))])) rfl (by rw [hml]; rfl) (argsL := [(.int (3 : Int32)), (.int (3 : Int32)), (.int sl), (.long p3)]) (rest := []) (lenOf pd__28IIIJ_29Z rfl) rfl (by show 2 * 0 + _ ≤ _; exact Nat.le_of_eq rfl) (hb hby at_324) (fun _ _ => ⟨rfl, e398q, (by decide : 1 + 0 ≤ _), (by decide : 7 + 0 ≤ _)⟩)
            dsimp only [Pt.U, Pt.locs, Pt.cells, Pt.slots] at X399 l399 y399 z399 st399 hQ399
            subst l399 y399 z399
            refine Run.step (st399) ?_
            obtain ⟨rfl, N399q, e399q⟩ := hQ399
            have N399 := Fr.app N398 N399q
            show Run _ _ _ _ (T399.setTop (mkF m 327 #[.val (.int p1), .val (.int p2), .val (.long p3), .second, .val (.int (3 : Int32)), .val (.ref o_ZIP), .val (.int (0 : Int32)), .val (.int (4 : Int32)), .val (.int nn), .val (.int sl), .val (.ref b360), .unset] [(.int (if own_pick (3 : Int32) (3 : Int32) sl p3 = (own_expect (3 : Int32) (3 : Int32)).toInt8.toInt32 then 1 else 0))]))
            have E3 : b3 = (4 : Int32) ↔ ¬ ((if own_pick (3 : Int32) (3 : Int32) sl p3 = (own_expect (3 : Int32) (3 : Int32)).toInt8.toInt32 then 1 else 0) = (0 : Int32)) := by
              rw [show ((if own_pick (3 : Int32) (3 : Int32) sl p3 = (own_expect (3 : Int32) (3 : Int32)).toInt8.toInt32 then 1 else 0)) = (if own_pick (3 : Int32) (3 : Int32) sl p3 = (4 : Int32) then (1 : Int32) else 0) from rfl, ← hb3]
              by_cases z : b3 = (4 : Int32)
              · rw [if_pos z]; exact ⟨fun _ => by decide, fun _ => z⟩
              · rw [if_neg z]; exact ⟨fun q => absurd q z, fun q => absurd rfl q⟩
            by_cases c327 : (if own_pick (3 : Int32) (3 : Int32) sl p3 = (own_expect (3 : Int32) (3 : Int32)).toInt8.toInt32 then 1 else 0) = (0 : Int32)
            · have d327 := fun q => E3.mp q c327
              refine Run.step (fun t_ k_ => XS.ifYes X399.here hx rfl (pc0 := 327) (pc' := 371) rfl (hb hby at_327) rfl (XT.i0_eq_t c327) (by decide) (by decide) (XS.iconst X399.here hx rfl (hb hby at_371) k_)) ?_
              show Run _ _ _ _ (T399.setTop (mkF m 372 #[.val (.int p1), .val (.int p2), .val (.long p3), .second, .val (.int (3 : Int32)), .val (.ref o_ZIP), .val (.int (0 : Int32)), .val (.int (4 : Int32)), .val (.int nn), .val (.int sl), .val (.ref b360), .unset] [(.int (0 : Int32))]))
              exact J394 _ _ X399 e399q N399 (0 : Int32) ((if_neg c273).trans ((if_pos d285).trans ((if_pos d297).trans ((if_pos d309).trans (if_neg d327))))).symm
            · have d327 := E3.mpr c327
              refine Run.step (fun t_ k_ => XS.ifNo X399.here hx rfl (hb hby at_327) rfl (XT.i0_eq_f c327) (XS.iload X399.here hx rfl (hb hby at_330) rfl (XS.iconst X399.here hx rfl (hb hby at_332) (XS.icmpYes X399.here hx rfl (pc0 := 333) (pc' := 348) rfl (hb hby at_333) rfl (XT.ii_lt_t (by decide : (4 : Int32) < (5 : Int32))) (by decide) (by decide) (XS.iload X399.here hx rfl (hb hby at_348) rfl (XS.bipush X399.here hx rfl (hb hby at_350) k_)))))) ?_
              show Run _ _ _ _ (T399.setTop (mkF m 352 #[.val (.int p1), .val (.int p2), .val (.long p3), .second, .val (.int (3 : Int32)), .val (.ref o_ZIP), .val (.int (0 : Int32)), .val (.int (4 : Int32)), .val (.int nn), .val (.int sl), .val (.ref b360), .unset] [(.int (6 : Int32)), (.int (4 : Int32))]))
              refine Run.step (fun t_ k_ => XS.icmpYes X399.here hx rfl (pc0 := 352) (pc' := 367) rfl (hb hby at_352) rfl (XT.ii_lt_t (by decide : (4 : Int32) < (6 : Int32))) (by decide) (by decide) (XS.iconst X399.here hx rfl (hb hby at_367) (XS.goto X399.here hx rfl (pc0 := 368) (pc' := 372) rfl (hb hby at_368) (by decide) (by decide) k_))) ?_
              show Run _ _ _ _ (T399.setTop (mkF m 372 #[.val (.int p1), .val (.int p2), .val (.long p3), .second, .val (.int (3 : Int32)), .val (.ref o_ZIP), .val (.int (0 : Int32)), .val (.int (4 : Int32)), .val (.int nn), .val (.int sl), .val (.ref b360), .unset] [(.int (1 : Int32))]))
              exact J394 _ _ X399 e399q N399 (1 : Int32) ((if_neg c273).trans ((if_pos d285).trans ((if_pos d297).trans ((if_pos d309).trans (if_pos d327))))).symm
  · rw [hk]
    show Run _ _ _ _ (s₁.setTop (mkF m 9 #[.val (.int p1), .val (.int p2), .val (.long p3), .second, .val (.int (4 : Int32)), .unset, .unset, .unset, .unset, .unset, .unset, .unset] []))
    refine Run.step (fun t_ k_ => XS.iload X0.here hx rfl (hb hby at_9) rfl (XS.ifYes X0.here hx rfl (pc0 := 11) (pc' := 22) rfl (hb hby at_11) rfl (XT.i0_ne_t (by decide : ¬ ((4 : Int32) = (0 : Int32)))) (by decide) (by decide) (XS.iload X0.here hx rfl (hb hby at_22) rfl (XS.iconst X0.here hx rfl (hb hby at_24) (XS.icmpYes X0.here hx rfl (pc0 := 25) (pc' := 36) rfl (hb hby at_25) rfl (XT.ii_ne_t (by decide : ¬ ((4 : Int32) = (1 : Int32)))) (by decide) (by decide) (XS.iload X0.here hx rfl (hb hby at_36) rfl k_)))))) ?_
    show Run _ _ _ _ (s₁.setTop (mkF m 38 #[.val (.int p1), .val (.int p2), .val (.long p3), .second, .val (.int (4 : Int32)), .unset, .unset, .unset, .unset, .unset, .unset, .unset] [(.int (4 : Int32))]))
    refine Run.step (fun t_ k_ => XS.iconst X0.here hx rfl (hb hby at_38) (XS.icmpYes X0.here hx rfl (pc0 := 39) (pc' := 50) rfl (hb hby at_39) rfl (XT.ii_ne_t (by decide : ¬ ((4 : Int32) = (2 : Int32)))) (by decide) (by decide) (XS.iload X0.here hx rfl (hb hby at_50) rfl (XS.iconst X0.here hx rfl (hb hby at_52) (XS.icmpYes X0.here hx rfl (pc0 := 53) (pc' := 64) rfl (hb hby at_53) rfl (XT.ii_ne_t (by decide : ¬ ((4 : Int32) = (3 : Int32)))) (by decide) (by decide) (XS.iload X0.here hx rfl (hb hby at_64) rfl k_)))))) ?_
    show Run _ _ _ _ (s₁.setTop (mkF m 66 #[.val (.int p1), .val (.int p2), .val (.long p3), .second, .val (.int (4 : Int32)), .unset, .unset, .unset, .unset, .unset, .unset, .unset] [(.int (4 : Int32))]))
    refine Run.step (fun t_ k_ => XS.iconst X0.here hx rfl (hb hby at_66) (XS.icmpNo X0.here hx rfl (hb hby at_67) rfl (XT.ii_ne_f (by decide : (4 : Int32) = (4 : Int32))) k_)) ?_
    show Run _ _ _ _ (s₁.setTop (mkF m 70 #[.val (.int p1), .val (.int p2), .val (.long p3), .second, .val (.int (4 : Int32)), .unset, .unset, .unset, .unset, .unset, .unset, .unset] []))
    obtain ⟨T400, X400, e400, st400⟩ := getS2 X0 hx hZ hown (host := "") (Or.inl w32) Via.refl e0 (S_TAR.ext O0.2) (g := (mkF m 70 #[.val (.int p1), .val (.int p2), .val (.long p3), .second, .val (.int (4 : Int32)), .unset, .unset, .unset, .unset, .unset, .unset, .unset] [])) rfl (hb hby at_70)
    refine Run.step st400 ?_
    show Run _ _ _ _ (T400.setTop (mkF m 73 #[.val (.int p1), .val (.int p2), .val (.long p3), .second, .val (.int (4 : Int32)), .unset, .unset, .unset, .unset, .unset, .unset, .unset] [(.ref o_TAR)]))
    refine Run.step (fun t_ k_ => XS.astore X400.here hx rfl (hb hby at_73) rfl rfl (l' := #[.val (.int p1), .val (.int p2), .val (.long p3), .second, .val (.int (4 : Int32)), .val (.ref o_TAR), .unset, .unset, .unset, .unset, .unset, .unset]) rfl (XS.goto X400.here hx rfl (pc0 := 75) (pc' := 83) rfl (hb hby at_75) (by decide) (by decide) (XS.iload X400.here hx rfl (hb hby at_83) rfl (XS.iconst X400.here hx rfl (hb hby at_85) (XS.icmpNo X400.here hx rfl (hb hby at_86) rfl (XT.ii_lt_f (by decide : ¬ ((4 : Int32) < (4 : Int32)))) (XS.sipush X400.here hx rfl (hb hby at_89) k_)))))) ?_
    show Run _ _ _ _ (T400.setTop (mkF m 92 #[.val (.int p1), .val (.int p2), .val (.long p3), .second, .val (.int (4 : Int32)), .val (.ref o_TAR), .unset, .unset, .unset, .unset, .unset, .unset] [(.int (257 : Int32))]))
    refine Run.step (fun t_ k_ => XS.goto X400.here hx rfl (pc0 := 92) (pc' := 96) rfl (hb hby at_92) (by decide) (by decide) (XS.istore X400.here hx rfl (hb hby at_96) rfl (l' := #[.val (.int p1), .val (.int p2), .val (.long p3), .second, .val (.int (4 : Int32)), .val (.ref o_TAR), .val (.int (257 : Int32)), .unset, .unset, .unset, .unset, .unset]) rfl (XS.iload X400.here hx rfl (hb hby at_98) rfl (XS.ifYes X400.here hx rfl (pc0 := 100) (pc' := 109) rfl (hb hby at_100) rfl (XT.i0_ne_t (by decide : ¬ ((4 : Int32) = (0 : Int32)))) (by decide) (by decide) (XS.iload X400.here hx rfl (hb hby at_109) rfl (XS.iconst X400.here hx rfl (hb hby at_111) k_)))))) ?_
    show Run _ _ _ _ (T400.setTop (mkF m 112 #[.val (.int p1), .val (.int p2), .val (.long p3), .second, .val (.int (4 : Int32)), .val (.ref o_TAR), .val (.int (257 : Int32)), .unset, .unset, .unset, .unset, .unset] [(.int (1 : Int32)), (.int (4 : Int32))]))
    refine Run.step (fun t_ k_ => XS.icmpYes X400.here hx rfl (pc0 := 112) (pc' := 122) rfl (hb hby at_112) rfl (XT.ii_ne_t (by decide : ¬ ((4 : Int32) = (1 : Int32)))) (by decide) (by decide) (XS.iload X400.here hx rfl (hb hby at_122) rfl (XS.iconst X400.here hx rfl (hb hby at_124) (XS.icmpNo X400.here hx rfl (hb hby at_125) rfl (XT.ii_lt_f (by decide : ¬ ((4 : Int32) < (4 : Int32)))) (XS.iconst X400.here hx rfl (hb hby at_128) (XS.istore X400.here hx rfl (hb hby at_129) rfl (l' := #[.val (.int p1), .val (.int p2), .val (.long p3), .second, .val (.int (4 : Int32)), .val (.ref o_TAR), .val (.int (257 : Int32)), .val (.int (5 : Int32)), .unset, .unset, .unset, .unset]) rfl k_)))))) ?_
    show Run _ _ _ _ (T400.setTop (mkF m 131 #[.val (.int p1), .val (.int p2), .val (.long p3), .second, .val (.int (4 : Int32)), .val (.ref o_TAR), .val (.int (257 : Int32)), .val (.int (5 : Int32)), .unset, .unset, .unset, .unset] []))
    refine Run.step (fun t_ k_ => XS.goto X400.here hx rfl (pc0 := 131) (pc' := 137) rfl (hb hby at_131) (by decide) (by decide) (XS.iload X400.here hx rfl (hb hby at_137) rfl (XS.iloadN X400.here hx rfl (hb hby at_139) rfl (XS.bipush X400.here hx rfl (hb hby at_140) (XS.iand X400.here hx rfl (hb hby at_142) rfl (XS.iadd X400.here hx rfl (hb hby at_143) rfl k_)))))) ?_
    show Run _ _ _ _ (T400.setTop (mkF m 144 #[.val (.int p1), .val (.int p2), .val (.long p3), .second, .val (.int (4 : Int32)), .val (.ref o_TAR), .val (.int (257 : Int32)), .val (.int (5 : Int32)), .unset, .unset, .unset, .unset] [(.int ((257 : Int32) + (p2 &&& (7 : Int32))))]))
    refine Run.step (fun t_ k_ => XS.istore X400.here hx rfl (hb hby at_144) rfl (l' := #[.val (.int p1), .val (.int p2), .val (.long p3), .second, .val (.int (4 : Int32)), .val (.ref o_TAR), .val (.int (257 : Int32)), .val (.int (5 : Int32)), .val (.int ((257 : Int32) + (p2 &&& (7 : Int32)))), .unset, .unset, .unset]) rfl (XS.iloadN X400.here hx rfl (hb hby at_146) rfl (XS.iconst X400.here hx rfl (hb hby at_147) (XS.iushr X400.here hx rfl (hb hby at_148) rfl (XS.bipush X400.here hx rfl (hb hby at_149) (XS.iand X400.here hx rfl (hb hby at_151) rfl k_)))))) ?_
    show Run _ _ _ _ (T400.setTop (mkF m 152 #[.val (.int p1), .val (.int p2), .val (.long p3), .second, .val (.int (4 : Int32)), .val (.ref o_TAR), .val (.int (257 : Int32)), .val (.int (5 : Int32)), .val (.int ((257 : Int32) + (p2 &&& (7 : Int32)))), .unset, .unset, .unset] [(.int (((p2.toUInt32 >>> ((3 : Int32) &&& 31).toUInt32).toInt32) &&& (63 : Int32)))]))
    refine Run.step (fun t_ k_ => XS.istore X400.here hx rfl (hb hby at_152) rfl (l' := #[.val (.int p1), .val (.int p2), .val (.long p3), .second, .val (.int (4 : Int32)), .val (.ref o_TAR), .val (.int (257 : Int32)), .val (.int (5 : Int32)), .val (.int ((257 : Int32) + (p2 &&& (7 : Int32)))), .val (.int (((p2.toUInt32 >>> ((3 : Int32) &&& 31).toUInt32).toInt32) &&& (63 : Int32))), .unset, .unset]) rfl k_) ?_
    show Run _ _ _ _ (T400.setTop (mkF m 154 #[.val (.int p1), .val (.int p2), .val (.long p3), .second, .val (.int (4 : Int32)), .val (.ref o_TAR), .val (.int (257 : Int32)), .val (.int (5 : Int32)), .val (.int ((257 : Int32) + (p2 &&& (7 : Int32)))), .val (.int (((p2.toUInt32 >>> ((3 : Int32) &&& 31).toUInt32).toInt32) &&& (63 : Int32))), .unset, .unset] []))
    obtain ⟨nn, hnn⟩ : ∃ z, z = ((257 : Int32) + (p2 &&& (7 : Int32))) := ⟨_, rfl⟩
    rw [← hnn]
    have nn0 : ¬ nn < 0 := by rw [hnn]; exact (own_n257 p2).1
    have nn1 : nn.toNatClampNeg ≤ 264 := by rw [hnn]; exact (own_n257 p2).2
    obtain ⟨sl, hsl⟩ : ∃ z, z = (((p2.toUInt32 >>> ((3 : Int32) &&& 31).toUInt32).toInt32) &&& (63 : Int32)) := ⟨_, rfl⟩
    rw [← hsl]
    show Run _ _ _ _ (T400.setTop (mkF m 154 #[.val (.int p1), .val (.int p2), .val (.long p3), .second, .val (.int (4 : Int32)), .val (.ref o_TAR), .val (.int (257 : Int32)), .val (.int (5 : Int32)), .val (.int nn), .val (.int sl), .unset, .unset] []))
    refine Run.step (fun t_ k_ => XS.iload X400.here hx rfl (hb hby at_154) rfl k_) ?_
    show Run _ _ _ _ (T400.setTop (mkF m 156 #[.val (.int p1), .val (.int p2), .val (.long p3), .second, .val (.int (4 : Int32)), .val (.ref o_TAR), .val (.int (257 : Int32)), .val (.int (5 : Int32)), .val (.int nn), .val (.int sl), .unset, .unset] [(.int nn)]))
    obtain ⟨T401, h401, k401, X401, e401, E401, A401, st401⟩ := newP (aty := .byte) X400 hx hZ w4 e400 (g := (mkF m 156 #[.val (.int p1), .val (.int p2), .val (.long p3), .second, .val (.int (4 : Int32)), .val (.ref o_TAR), .val (.int (257 : Int32)), .val (.int (5 : Int32)), .val (.int nn), .val (.int sl), .unset, .unset] [(.int nn)])) rfl (hb hby at_156) rfl nn0 (cap := 264) nn1 (by decide) (by decide) (by decide)
    obtain ⟨b401, g401⟩ : ∃ z, z = h0.size := ⟨_, rfl⟩
    rw [← g401] at A401 st401
    refine Run.step st401 ?_
    have g_b401 : n0 ≤ b401 := Nat.le_trans Z0 (Nat.le_of_eq g401.symm)
    have z402 := Nat.le_trans Z0 E401.1
    have O403 := O0.ext E401
    have f404 : Arv Z h401 b401 k401 .byte nn [] (.int (0 : Int32)) := Arv.pad (Arv.new A401 nn0) (pad_rep [] (.int (0 : Int32)) 0)
    show Run _ _ _ _ (T401.setTop (mkF m 158 #[.val (.int p1), .val (.int p2), .val (.long p3), .second, .val (.int (4 : Int32)), .val (.ref o_TAR), .val (.int (257 : Int32)), .val (.int (5 : Int32)), .val (.int nn), .val (.int sl), .unset, .unset] [(.ref b401)]))
    refine Run.step (fun t_ k_ => XS.astore X401.here hx rfl (hb hby at_158) rfl rfl (l' := #[.val (.int p1), .val (.int p2), .val (.long p3), .second, .val (.int (4 : Int32)), .val (.ref o_TAR), .val (.int (257 : Int32)), .val (.int (5 : Int32)), .val (.int nn), .val (.int sl), .val (.ref b401), .unset]) rfl k_) ?_
    show Run _ _ _ _ (T401.setTop (mkF m 160 #[.val (.int p1), .val (.int p2), .val (.long p3), .second, .val (.int (4 : Int32)), .val (.ref o_TAR), .val (.int (257 : Int32)), .val (.int (5 : Int32)), .val (.int nn), .val (.int sl), .val (.ref b401), .unset] []))
    have fB := Bv.new f404
    refine Run.step (fun t_ k_ => XS.aload X401.here hx rfl (hb hby at_160) rfl rfl (XS.iload X401.here hx rfl (hb hby at_162) rfl (XS.iload X401.here hx rfl (hb hby at_164) rfl (XS.iconst X401.here hx rfl (hb hby at_166) (XS.iload X401.here hx rfl (hb hby at_167) rfl (XS.lloadN X401.here hx rfl (hb hby at_169) rfl k_)))))) ?_
    show Run _ _ _ _ (T401.setTop (mkF m 170 #[.val (.int p1), .val (.int p2), .val (.long p3), .second, .val (.int (4 : Int32)), .val (.ref o_TAR), .val (.int (257 : Int32)), .val (.int (5 : Int32)), .val (.int nn), .val (.int sl), .val (.ref b401), .unset] [(.long p3), (.int sl), (.int (0 : Int32)), (.int (4 : Int32)), (.int (257 : Int32)), (.ref b401)]))
    obtain ⟨_, _, ⟨T405, L405, k405, n405⟩, -, X405, ⟨Lc405, hQ405, l405, y405, z405⟩, st405⟩ := Jvm.LawKit.callS X401 hx (y := (⟨"cleave/io/PackedFormatHoldsMagicPinLaw", "pick", "(IIIJ)B"⟩ : MethodName)) hown (mvT hZ w5) (mvT hZ w6) (mvT hZ w7) (mvT hZ w8) (by decide) (backOf (W := 2) (rm1 l Z a0 hw [] (4 : Int32) (0 : Int32) sl p3 h401 n0 z402) hZ w8 w7 (by decide) (by decide)) (g := (mkF m 170 #[.val (.int p1), .val (.int p2), .val (.long p3), .second, .val (.int (4 : Int32)), .val (.ref o_TAR), .val (.int (257 : Int32)), .val (.int (5 : Int32)), .val (.int nn), .val (.int sl), .val (.ref b401), .unset] [(.long p3), (.int sl), (.int (0 : Int32)), (.int (4 : Int32)), (.int (257 : Int32)), (.ref b401)])) rfl (by rw [hml]; rfl) (argsL := [(.int (4 : Int32)), (.int (0 : Int32)), (.int sl), (.long p3)]) (rest := [(.int (257 : Int32)), (.ref b401)]) (lenOf pd__28IIIJ_29B rfl) rfl (by show 2 * 0 + _ ≤ _; exact Nat.le_of_eq rfl) (hb hby at_170) (fun _ _ => ⟨rfl, e401, (by decide : 1 + 0 ≤ _), (by decide : 264 + 0 ≤ _)⟩)
    dsimp only [Pt.U, Pt.locs, Pt.cells, Pt.slots] at X405 l405 y405 z405 st405 hQ405
    subst l405 y405 z405
    refine Run.step (st405) ?_
    obtain ⟨rfl, N405q, e405q⟩ := hQ405
    have N405 := Fr.app N0 N405q
    show Run _ _ _ _ (T405.setTop (mkF m 173 #[.val (.int p1), .val (.int p2), .val (.long p3), .second, .val (.int (4 : Int32)), .val (.ref o_TAR), .val (.int (257 : Int32)), .val (.int (5 : Int32)), .val (.int nn), .val (.int sl), .val (.ref b401), .unset] [(.int (own_pick (4 : Int32) (0 : Int32) sl p3)), (.int (257 : Int32)), (.ref b401)]))
    obtain ⟨b0, hb0⟩ : ∃ z, z = (own_pick (4 : Int32) (0 : Int32) sl p3) := ⟨_, rfl⟩
    rw [← hb0]
    have nb0 : nar .byte b0 = b0 := by rw [hb0]; exact own_pickb _ _ _ _
    show Run _ _ _ _ (T405.setTop (mkF m 173 #[.val (.int p1), .val (.int p2), .val (.long p3), .second, .val (.int (4 : Int32)), .val (.ref o_TAR), .val (.int (257 : Int32)), .val (.int (5 : Int32)), .val (.int nn), .val (.int sl), .val (.ref b401), .unset] [(.int b0), (.int (257 : Int32)), (.ref b401)]))
    obtain ⟨_, _, ⟨T406, L406, k406, n406⟩, -, X406, ⟨Lc406, hQ406, l406, y406, z406⟩, st406⟩ := Jvm.LawKit.callS X405 hx (y := (⟨"cleave/io/PackedFormatHoldsMagicPinLaw", "put", "([BIB)V"⟩ : MethodName)) hown (mvT hZ w9) (mvT hZ w10) (mvT hZ w7) (mvT hZ w11) (by decide) (backOf (W := 0) (rm2 l Z a0 hw [] b401 (257 : Int32) b0 nn (fun _ => 0) h401 n0 z402 fB (by decide) nb0 g_b401) hZ w11 w7 (by decide) (by decide)) (g := (mkF m 173 #[.val (.int p1), .val (.int p2), .val (.long p3), .second, .val (.int (4 : Int32)), .val (.ref o_TAR), .val (.int (257 : Int32)), .val (.int (5 : Int32)), .val (.int nn), .val (.int sl), .val (.ref b401), .unset] [(.int b0), (.int (257 : Int32)), (.ref b401)])) rfl (by rw [hml]; rfl) (argsL := [(.ref b401), (.int (257 : Int32)), (.int b0)]) (rest := []) (lenOf pd__28_5bBIB_29V rfl) rfl (by show 2 * 0 + _ ≤ _; exact Nat.le_of_eq rfl) (hb hby at_173) (fun _ _ => ⟨rfl, e405q, (by decide : 1 + 0 ≤ _), (by decide : 264 + 0 ≤ _)⟩)
    dsimp only [Pt.U, Pt.locs, Pt.cells, Pt.slots] at X406 l406 y406 z406 st406 hQ406
    subst l406 y406 z406
    refine Run.step (st406) ?_
    obtain ⟨rfl, N406q, K406q, fv406⟩ := hQ406
    have N406 := Fr.app N405 N406q
    have z408 := Nat.le_trans z402 K406q.1
    have O409 := O403.keep K406q (allS g_b401 all0)
    obtain ⟨gg406, hg406⟩ : ∃ z, z = own_up (fun _ => 0) (257 : Int32).toNatClampNeg b0 := ⟨_, rfl⟩
    rw [← hg406] at fv406
    show Run _ _ _ _ (T406.setTop (mkF m 176 #[.val (.int p1), .val (.int p2), .val (.long p3), .second, .val (.int (4 : Int32)), .val (.ref o_TAR), .val (.int (257 : Int32)), .val (.int (5 : Int32)), .val (.int nn), .val (.int sl), .val (.ref b401), .unset] []))
    refine Run.step (fun t_ k_ => XS.aload X406.here hx rfl (hb hby at_176) rfl rfl (XS.iload X406.here hx rfl (hb hby at_178) rfl (XS.iconst X406.here hx rfl (hb hby at_180) (XS.iadd X406.here hx rfl (hb hby at_181) rfl (XS.iload X406.here hx rfl (hb hby at_182) rfl (XS.iconst X406.here hx rfl (hb hby at_184) k_)))))) ?_
    show Run _ _ _ _ (T406.setTop (mkF m 185 #[.val (.int p1), .val (.int p2), .val (.long p3), .second, .val (.int (4 : Int32)), .val (.ref o_TAR), .val (.int (257 : Int32)), .val (.int (5 : Int32)), .val (.int nn), .val (.int sl), .val (.ref b401), .unset] [(.int (1 : Int32)), (.int (4 : Int32)), (.int (258 : Int32)), (.ref b401)]))
    refine Run.step (fun t_ k_ => XS.iload X406.here hx rfl (hb hby at_185) rfl (XS.lloadN X406.here hx rfl (hb hby at_187) rfl k_)) ?_
    show Run _ _ _ _ (T406.setTop (mkF m 188 #[.val (.int p1), .val (.int p2), .val (.long p3), .second, .val (.int (4 : Int32)), .val (.ref o_TAR), .val (.int (257 : Int32)), .val (.int (5 : Int32)), .val (.int nn), .val (.int sl), .val (.ref b401), .unset] [(.long p3), (.int sl), (.int (1 : Int32)), (.int (4 : Int32)), (.int (258 : Int32)), (.ref b401)]))
    obtain ⟨_, _, ⟨T410, L410, k410, n410⟩, -, X410, ⟨Lc410, hQ410, l410, y410, z410⟩, st410⟩ := Jvm.LawKit.callS X406 hx (y := (⟨"cleave/io/PackedFormatHoldsMagicPinLaw", "pick", "(IIIJ)B"⟩ : MethodName)) hown (mvT hZ w5) (mvT hZ w6) (mvT hZ w7) (mvT hZ w8) (by decide) (backOf (W := 2) (rm1 l Z a0 hw [] (4 : Int32) (1 : Int32) sl p3 T406.heap n0 z408) hZ w8 w7 (by decide) (by decide)) (g := (mkF m 188 #[.val (.int p1), .val (.int p2), .val (.long p3), .second, .val (.int (4 : Int32)), .val (.ref o_TAR), .val (.int (257 : Int32)), .val (.int (5 : Int32)), .val (.int nn), .val (.int sl), .val (.ref b401), .unset] [(.long p3), (.int sl), (.int (1 : Int32)), (.int (4 : Int32)), (.int (258 : Int32)), (.ref b401)])) rfl (by rw [hml]; rfl) (argsL := [(.int (4 : Int32)), (.int (1 : Int32)), (.int sl), (.long p3)]) (rest := [(.int (258 : Int32)), (.ref b401)]) (lenOf pd__28IIIJ_29B rfl) rfl (by show 2 * 0 + _ ≤ _; exact Nat.le_of_eq rfl) (hb hby at_188) (fun _ _ => ⟨rfl, rfl, (by decide : 1 + 0 ≤ _), (by decide : 264 + 0 ≤ _)⟩)
    dsimp only [Pt.U, Pt.locs, Pt.cells, Pt.slots] at X410 l410 y410 z410 st410 hQ410
    subst l410 y410 z410
    refine Run.step (st410) ?_
    obtain ⟨rfl, N410q, e410q⟩ := hQ410
    have N410 := Fr.app N406 N410q
    show Run _ _ _ _ (T410.setTop (mkF m 191 #[.val (.int p1), .val (.int p2), .val (.long p3), .second, .val (.int (4 : Int32)), .val (.ref o_TAR), .val (.int (257 : Int32)), .val (.int (5 : Int32)), .val (.int nn), .val (.int sl), .val (.ref b401), .unset] [(.int (own_pick (4 : Int32) (1 : Int32) sl p3)), (.int (258 : Int32)), (.ref b401)]))
    obtain ⟨b1, hb1⟩ : ∃ z, z = (own_pick (4 : Int32) (1 : Int32) sl p3) := ⟨_, rfl⟩
    rw [← hb1]
    have nb1 : nar .byte b1 = b1 := by rw [hb1]; exact own_pickb _ _ _ _
    show Run _ _ _ _ (T410.setTop (mkF m 191 #[.val (.int p1), .val (.int p2), .val (.long p3), .second, .val (.int (4 : Int32)), .val (.ref o_TAR), .val (.int (257 : Int32)), .val (.int (5 : Int32)), .val (.int nn), .val (.int sl), .val (.ref b401), .unset] [(.int b1), (.int (258 : Int32)), (.ref b401)]))
    obtain ⟨_, _, ⟨T411, L411, k411, n411⟩, -, X411, ⟨Lc411, hQ411, l411, y411, z411⟩, st411⟩ := Jvm.LawKit.callS X410 hx (y := (⟨"cleave/io/PackedFormatHoldsMagicPinLaw", "put", "([BIB)V"⟩ : MethodName)) hown (mvT hZ w9) (mvT hZ w10) (mvT hZ w7) (mvT hZ w11) (by decide) (backOf (W := 0) (rm2 l Z a0 hw [] b401 (258 : Int32) b1 nn gg406 T406.heap n0 z408 fv406 (by decide) nb1 g_b401) hZ w11 w7 (by decide) (by decide)) (g := (mkF m 191 #[.val (.int p1), .val (.int p2), .val (.long p3), .second, .val (.int (4 : Int32)), .val (.ref o_TAR), .val (.int (257 : Int32)), .val (.int (5 : Int32)), .val (.int nn), .val (.int sl), .val (.ref b401), .unset] [(.int b1), (.int (258 : Int32)), (.ref b401)])) rfl (by rw [hml]; rfl) (argsL := [(.ref b401), (.int (258 : Int32)), (.int b1)]) (rest := []) (lenOf pd__28_5bBIB_29V rfl) rfl (by show 2 * 0 + _ ≤ _; exact Nat.le_of_eq rfl) (hb hby at_191) (fun _ _ => ⟨rfl, e410q, (by decide : 1 + 0 ≤ _), (by decide : 264 + 0 ≤ _)⟩)
    dsimp only [Pt.U, Pt.locs, Pt.cells, Pt.slots] at X411 l411 y411 z411 st411 hQ411
    subst l411 y411 z411
    refine Run.step (st411) ?_
    obtain ⟨rfl, N411q, K411q, fv411⟩ := hQ411
    have N411 := Fr.app N410 N411q
    have z413 := Nat.le_trans z408 K411q.1
    have O414 := O409.keep K411q (allS g_b401 all0)
    obtain ⟨gg411, hg411⟩ : ∃ z, z = own_up gg406 (258 : Int32).toNatClampNeg b1 := ⟨_, rfl⟩
    rw [← hg411] at fv411
    show Run _ _ _ _ (T411.setTop (mkF m 194 #[.val (.int p1), .val (.int p2), .val (.long p3), .second, .val (.int (4 : Int32)), .val (.ref o_TAR), .val (.int (257 : Int32)), .val (.int (5 : Int32)), .val (.int nn), .val (.int sl), .val (.ref b401), .unset] []))
    refine Run.step (fun t_ k_ => XS.aload X411.here hx rfl (hb hby at_194) rfl rfl (XS.iload X411.here hx rfl (hb hby at_196) rfl (XS.iconst X411.here hx rfl (hb hby at_198) (XS.iadd X411.here hx rfl (hb hby at_199) rfl (XS.iload X411.here hx rfl (hb hby at_200) rfl (XS.iconst X411.here hx rfl (hb hby at_202) k_)))))) ?_
    show Run _ _ _ _ (T411.setTop (mkF m 203 #[.val (.int p1), .val (.int p2), .val (.long p3), .second, .val (.int (4 : Int32)), .val (.ref o_TAR), .val (.int (257 : Int32)), .val (.int (5 : Int32)), .val (.int nn), .val (.int sl), .val (.ref b401), .unset] [(.int (2 : Int32)), (.int (4 : Int32)), (.int (259 : Int32)), (.ref b401)]))
    refine Run.step (fun t_ k_ => XS.iload X411.here hx rfl (hb hby at_203) rfl (XS.lloadN X411.here hx rfl (hb hby at_205) rfl k_)) ?_
    show Run _ _ _ _ (T411.setTop (mkF m 206 #[.val (.int p1), .val (.int p2), .val (.long p3), .second, .val (.int (4 : Int32)), .val (.ref o_TAR), .val (.int (257 : Int32)), .val (.int (5 : Int32)), .val (.int nn), .val (.int sl), .val (.ref b401), .unset] [(.long p3), (.int sl), (.int (2 : Int32)), (.int (4 : Int32)), (.int (259 : Int32)), (.ref b401)]))
    obtain ⟨_, _, ⟨T415, L415, k415, n415⟩, -, X415, ⟨Lc415, hQ415, l415, y415, z415⟩, st415⟩ := Jvm.LawKit.callS X411 hx (y := (⟨"cleave/io/PackedFormatHoldsMagicPinLaw", "pick", "(IIIJ)B"⟩ : MethodName)) hown (mvT hZ w5) (mvT hZ w6) (mvT hZ w7) (mvT hZ w8) (by decide) (backOf (W := 2) (rm1 l Z a0 hw [] (4 : Int32) (2 : Int32) sl p3 T411.heap n0 z413) hZ w8 w7 (by decide) (by decide)) (g := (mkF m 206 #[.val (.int p1), .val (.int p2), .val (.long p3), .second, .val (.int (4 : Int32)), .val (.ref o_TAR), .val (.int (257 : Int32)), .val (.int (5 : Int32)), .val (.int nn), .val (.int sl), .val (.ref b401), .unset] [(.long p3), (.int sl), (.int (2 : Int32)), (.int (4 : Int32)), (.int (259 : Int32)), (.ref b401)])) rfl (by rw [hml]; rfl) (argsL := [(.int (4 : Int32)), (.int (2 : Int32)), (.int sl), (.long p3)]) (rest := [(.int (259 : Int32)), (.ref b401)]) (lenOf pd__28IIIJ_29B rfl) rfl (by show 2 * 0 + _ ≤ _; exact Nat.le_of_eq rfl) (hb hby at_206) (fun _ _ => ⟨rfl, rfl, (by decide : 1 + 0 ≤ _), (by decide : 264 + 0 ≤ _)⟩)
    dsimp only [Pt.U, Pt.locs, Pt.cells, Pt.slots] at X415 l415 y415 z415 st415 hQ415
    subst l415 y415 z415
    refine Run.step (st415) ?_
    obtain ⟨rfl, N415q, e415q⟩ := hQ415
    have N415 := Fr.app N411 N415q
    show Run _ _ _ _ (T415.setTop (mkF m 209 #[.val (.int p1), .val (.int p2), .val (.long p3), .second, .val (.int (4 : Int32)), .val (.ref o_TAR), .val (.int (257 : Int32)), .val (.int (5 : Int32)), .val (.int nn), .val (.int sl), .val (.ref b401), .unset] [(.int (own_pick (4 : Int32) (2 : Int32) sl p3)), (.int (259 : Int32)), (.ref b401)]))
    obtain ⟨b2, hb2⟩ : ∃ z, z = (own_pick (4 : Int32) (2 : Int32) sl p3) := ⟨_, rfl⟩
    rw [← hb2]
    have nb2 : nar .byte b2 = b2 := by rw [hb2]; exact own_pickb _ _ _ _
    show Run _ _ _ _ (T415.setTop (mkF m 209 #[.val (.int p1), .val (.int p2), .val (.long p3), .second, .val (.int (4 : Int32)), .val (.ref o_TAR), .val (.int (257 : Int32)), .val (.int (5 : Int32)), .val (.int nn), .val (.int sl), .val (.ref b401), .unset] [(.int b2), (.int (259 : Int32)), (.ref b401)]))
    obtain ⟨_, _, ⟨T416, L416, k416, n416⟩, -, X416, ⟨Lc416, hQ416, l416, y416, z416⟩, st416⟩ := Jvm.LawKit.callS X415 hx (y := (⟨"cleave/io/PackedFormatHoldsMagicPinLaw", "put", "([BIB)V"⟩ : MethodName)) hown (mvT hZ w9) (mvT hZ w10) (mvT hZ w7) (mvT hZ w11) (by decide) (backOf (W := 0) (rm2 l Z a0 hw [] b401 (259 : Int32) b2 nn gg411 T411.heap n0 z413 fv411 (by decide) nb2 g_b401) hZ w11 w7 (by decide) (by decide)) (g := (mkF m 209 #[.val (.int p1), .val (.int p2), .val (.long p3), .second, .val (.int (4 : Int32)), .val (.ref o_TAR), .val (.int (257 : Int32)), .val (.int (5 : Int32)), .val (.int nn), .val (.int sl), .val (.ref b401), .unset] [(.int b2), (.int (259 : Int32)), (.ref b401)])) rfl (by rw [hml]; rfl) (argsL := [(.ref b401), (.int (259 : Int32)), (.int b2)]) (rest := []) (lenOf pd__28_5bBIB_29V rfl) rfl (by show 2 * 0 + _ ≤ _; exact Nat.le_of_eq rfl) (hb hby at_209) (fun _ _ => ⟨rfl, e415q, (by decide : 1 + 0 ≤ _), (by decide : 264 + 0 ≤ _)⟩)
    dsimp only [Pt.U, Pt.locs, Pt.cells, Pt.slots] at X416 l416 y416 z416 st416 hQ416
    subst l416 y416 z416
    refine Run.step (st416) ?_
    obtain ⟨rfl, N416q, K416q, fv416⟩ := hQ416
    have N416 := Fr.app N415 N416q
    have z418 := Nat.le_trans z413 K416q.1
    have O419 := O414.keep K416q (allS g_b401 all0)
    obtain ⟨gg416, hg416⟩ : ∃ z, z = own_up gg411 (259 : Int32).toNatClampNeg b2 := ⟨_, rfl⟩
    rw [← hg416] at fv416
    show Run _ _ _ _ (T416.setTop (mkF m 212 #[.val (.int p1), .val (.int p2), .val (.long p3), .second, .val (.int (4 : Int32)), .val (.ref o_TAR), .val (.int (257 : Int32)), .val (.int (5 : Int32)), .val (.int nn), .val (.int sl), .val (.ref b401), .unset] []))
    refine Run.step (fun t_ k_ => XS.aload X416.here hx rfl (hb hby at_212) rfl rfl (XS.iload X416.here hx rfl (hb hby at_214) rfl (XS.iconst X416.here hx rfl (hb hby at_216) (XS.iadd X416.here hx rfl (hb hby at_217) rfl (XS.iload X416.here hx rfl (hb hby at_218) rfl (XS.iconst X416.here hx rfl (hb hby at_220) k_)))))) ?_
    show Run _ _ _ _ (T416.setTop (mkF m 221 #[.val (.int p1), .val (.int p2), .val (.long p3), .second, .val (.int (4 : Int32)), .val (.ref o_TAR), .val (.int (257 : Int32)), .val (.int (5 : Int32)), .val (.int nn), .val (.int sl), .val (.ref b401), .unset] [(.int (3 : Int32)), (.int (4 : Int32)), (.int (260 : Int32)), (.ref b401)]))
    refine Run.step (fun t_ k_ => XS.iload X416.here hx rfl (hb hby at_221) rfl (XS.lloadN X416.here hx rfl (hb hby at_223) rfl k_)) ?_
    show Run _ _ _ _ (T416.setTop (mkF m 224 #[.val (.int p1), .val (.int p2), .val (.long p3), .second, .val (.int (4 : Int32)), .val (.ref o_TAR), .val (.int (257 : Int32)), .val (.int (5 : Int32)), .val (.int nn), .val (.int sl), .val (.ref b401), .unset] [(.long p3), (.int sl), (.int (3 : Int32)), (.int (4 : Int32)), (.int (260 : Int32)), (.ref b401)]))
    obtain ⟨_, _, ⟨T420, L420, k420, n420⟩, -, X420, ⟨Lc420, hQ420, l420, y420, z420⟩, st420⟩ := Jvm.LawKit.callS X416 hx (y := (⟨"cleave/io/PackedFormatHoldsMagicPinLaw", "pick", "(IIIJ)B"⟩ : MethodName)) hown (mvT hZ w5) (mvT hZ w6) (mvT hZ w7) (mvT hZ w8) (by decide) (backOf (W := 2) (rm1 l Z a0 hw [] (4 : Int32) (3 : Int32) sl p3 T416.heap n0 z418) hZ w8 w7 (by decide) (by decide)) (g := (mkF m 224 #[.val (.int p1), .val (.int p2), .val (.long p3), .second, .val (.int (4 : Int32)), .val (.ref o_TAR), .val (.int (257 : Int32)), .val (.int (5 : Int32)), .val (.int nn), .val (.int sl), .val (.ref b401), .unset] [(.long p3), (.int sl), (.int (3 : Int32)), (.int (4 : Int32)), (.int (260 : Int32)), (.ref b401)])) rfl (by rw [hml]; rfl) (argsL := [(.int (4 : Int32)), (.int (3 : Int32)), (.int sl), (.long p3)]) (rest := [(.int (260 : Int32)), (.ref b401)]) (lenOf pd__28IIIJ_29B rfl) rfl (by show 2 * 0 + _ ≤ _; exact Nat.le_of_eq rfl) (hb hby at_224) (fun _ _ => ⟨rfl, rfl, (by decide : 1 + 0 ≤ _), (by decide : 264 + 0 ≤ _)⟩)
    dsimp only [Pt.U, Pt.locs, Pt.cells, Pt.slots] at X420 l420 y420 z420 st420 hQ420
    subst l420 y420 z420
    refine Run.step (st420) ?_
    obtain ⟨rfl, N420q, e420q⟩ := hQ420
    have N420 := Fr.app N416 N420q
    show Run _ _ _ _ (T420.setTop (mkF m 227 #[.val (.int p1), .val (.int p2), .val (.long p3), .second, .val (.int (4 : Int32)), .val (.ref o_TAR), .val (.int (257 : Int32)), .val (.int (5 : Int32)), .val (.int nn), .val (.int sl), .val (.ref b401), .unset] [(.int (own_pick (4 : Int32) (3 : Int32) sl p3)), (.int (260 : Int32)), (.ref b401)]))
    obtain ⟨b3, hb3⟩ : ∃ z, z = (own_pick (4 : Int32) (3 : Int32) sl p3) := ⟨_, rfl⟩
    rw [← hb3]
    have nb3 : nar .byte b3 = b3 := by rw [hb3]; exact own_pickb _ _ _ _
    show Run _ _ _ _ (T420.setTop (mkF m 227 #[.val (.int p1), .val (.int p2), .val (.long p3), .second, .val (.int (4 : Int32)), .val (.ref o_TAR), .val (.int (257 : Int32)), .val (.int (5 : Int32)), .val (.int nn), .val (.int sl), .val (.ref b401), .unset] [(.int b3), (.int (260 : Int32)), (.ref b401)]))
    obtain ⟨_, _, ⟨T421, L421, k421, n421⟩, -, X421, ⟨Lc421, hQ421, l421, y421, z421⟩, st421⟩ := Jvm.LawKit.callS X420 hx (y := (⟨"cleave/io/PackedFormatHoldsMagicPinLaw", "put", "([BIB)V"⟩ : MethodName)) hown (mvT hZ w9) (mvT hZ w10) (mvT hZ w7) (mvT hZ w11) (by decide) (backOf (W := 0) (rm2 l Z a0 hw [] b401 (260 : Int32) b3 nn gg416 T416.heap n0 z418 fv416 (by decide) nb3 g_b401) hZ w11 w7 (by decide) (by decide)) (g := (mkF m 227 #[.val (.int p1), .val (.int p2), .val (.long p3), .second, .val (.int (4 : Int32)), .val (.ref o_TAR), .val (.int (257 : Int32)), .val (.int (5 : Int32)), .val (.int nn), .val (.int sl), .val (.ref b401), .unset] [(.int b3), (.int (260 : Int32)), (.ref b401)])) rfl (by rw [hml]; rfl) (argsL := [(.ref b401), (.int (260 : Int32)), (.int b3)]) (rest := []) (lenOf pd__28_5bBIB_29V rfl) rfl (by show 2 * 0 + _ ≤ _; exact Nat.le_of_eq rfl) (hb hby at_227) (fun _ _ => ⟨rfl, e420q, (by decide : 1 + 0 ≤ _), (by decide : 264 + 0 ≤ _)⟩)
    dsimp only [Pt.U, Pt.locs, Pt.cells, Pt.slots] at X421 l421 y421 z421 st421 hQ421
    subst l421 y421 z421
    refine Run.step (st421) ?_
    obtain ⟨rfl, N421q, K421q, fv421⟩ := hQ421
    have N421 := Fr.app N420 N421q
    have z423 := Nat.le_trans z418 K421q.1
    have O424 := O419.keep K421q (allS g_b401 all0)
    obtain ⟨gg421, hg421⟩ : ∃ z, z = own_up gg416 (260 : Int32).toNatClampNeg b3 := ⟨_, rfl⟩
    rw [← hg421] at fv421
    show Run _ _ _ _ (T421.setTop (mkF m 230 #[.val (.int p1), .val (.int p2), .val (.long p3), .second, .val (.int (4 : Int32)), .val (.ref o_TAR), .val (.int (257 : Int32)), .val (.int (5 : Int32)), .val (.int nn), .val (.int sl), .val (.ref b401), .unset] []))
    refine Run.step (fun t_ k_ => XS.aload X421.here hx rfl (hb hby at_230) rfl rfl (XS.iload X421.here hx rfl (hb hby at_232) rfl (XS.iconst X421.here hx rfl (hb hby at_234) (XS.iadd X421.here hx rfl (hb hby at_235) rfl (XS.iload X421.here hx rfl (hb hby at_236) rfl (XS.iconst X421.here hx rfl (hb hby at_238) k_)))))) ?_
    show Run _ _ _ _ (T421.setTop (mkF m 239 #[.val (.int p1), .val (.int p2), .val (.long p3), .second, .val (.int (4 : Int32)), .val (.ref o_TAR), .val (.int (257 : Int32)), .val (.int (5 : Int32)), .val (.int nn), .val (.int sl), .val (.ref b401), .unset] [(.int (4 : Int32)), (.int (4 : Int32)), (.int (261 : Int32)), (.ref b401)]))
    refine Run.step (fun t_ k_ => XS.iload X421.here hx rfl (hb hby at_239) rfl (XS.lloadN X421.here hx rfl (hb hby at_241) rfl k_)) ?_
    show Run _ _ _ _ (T421.setTop (mkF m 242 #[.val (.int p1), .val (.int p2), .val (.long p3), .second, .val (.int (4 : Int32)), .val (.ref o_TAR), .val (.int (257 : Int32)), .val (.int (5 : Int32)), .val (.int nn), .val (.int sl), .val (.ref b401), .unset] [(.long p3), (.int sl), (.int (4 : Int32)), (.int (4 : Int32)), (.int (261 : Int32)), (.ref b401)]))
    obtain ⟨_, _, ⟨T425, L425, k425, n425⟩, -, X425, ⟨Lc425, hQ425, l425, y425, z425⟩, st425⟩ := Jvm.LawKit.callS X421 hx (y := (⟨"cleave/io/PackedFormatHoldsMagicPinLaw", "pick", "(IIIJ)B"⟩ : MethodName)) hown (mvT hZ w5) (mvT hZ w6) (mvT hZ w7) (mvT hZ w8) (by decide) (backOf (W := 2) (rm1 l Z a0 hw [] (4 : Int32) (4 : Int32) sl p3 T421.heap n0 z423) hZ w8 w7 (by decide) (by decide)) (g := (mkF m 242 #[.val (.int p1), .val (.int p2), .val (.long p3), .second, .val (.int (4 : Int32)), .val (.ref o_TAR), .val (.int (257 : Int32)), .val (.int (5 : Int32)), .val (.int nn), .val (.int sl), .val (.ref b401), .unset] [(.long p3), (.int sl), (.int (4 : Int32)), (.int (4 : Int32)), (.int (261 : Int32)), (.ref b401)])) rfl (by rw [hml]; rfl) (argsL := [(.int (4 : Int32)), (.int (4 : Int32)), (.int sl), (.long p3)]) (rest := [(.int (261 : Int32)), (.ref b401)]) (lenOf pd__28IIIJ_29B rfl) rfl (by show 2 * 0 + _ ≤ _; exact Nat.le_of_eq rfl) (hb hby at_242) (fun _ _ => ⟨rfl, rfl, (by decide : 1 + 0 ≤ _), (by decide : 264 + 0 ≤ _)⟩)
    dsimp only [Pt.U, Pt.locs, Pt.cells, Pt.slots] at X425 l425 y425 z425 st425 hQ425
    subst l425 y425 z425
    refine Run.step (st425) ?_
    obtain ⟨rfl, N425q, e425q⟩ := hQ425
    have N425 := Fr.app N421 N425q
    show Run _ _ _ _ (T425.setTop (mkF m 245 #[.val (.int p1), .val (.int p2), .val (.long p3), .second, .val (.int (4 : Int32)), .val (.ref o_TAR), .val (.int (257 : Int32)), .val (.int (5 : Int32)), .val (.int nn), .val (.int sl), .val (.ref b401), .unset] [(.int (own_pick (4 : Int32) (4 : Int32) sl p3)), (.int (261 : Int32)), (.ref b401)]))
    obtain ⟨b4, hb4⟩ : ∃ z, z = (own_pick (4 : Int32) (4 : Int32) sl p3) := ⟨_, rfl⟩
    rw [← hb4]
    have nb4 : nar .byte b4 = b4 := by rw [hb4]; exact own_pickb _ _ _ _
    show Run _ _ _ _ (T425.setTop (mkF m 245 #[.val (.int p1), .val (.int p2), .val (.long p3), .second, .val (.int (4 : Int32)), .val (.ref o_TAR), .val (.int (257 : Int32)), .val (.int (5 : Int32)), .val (.int nn), .val (.int sl), .val (.ref b401), .unset] [(.int b4), (.int (261 : Int32)), (.ref b401)]))
    obtain ⟨_, _, ⟨T426, L426, k426, n426⟩, -, X426, ⟨Lc426, hQ426, l426, y426, z426⟩, st426⟩ := Jvm.LawKit.callS X425 hx (y := (⟨"cleave/io/PackedFormatHoldsMagicPinLaw", "put", "([BIB)V"⟩ : MethodName)) hown (mvT hZ w9) (mvT hZ w10) (mvT hZ w7) (mvT hZ w11) (by decide) (backOf (W := 0) (rm2 l Z a0 hw [] b401 (261 : Int32) b4 nn gg421 T421.heap n0 z423 fv421 (by decide) nb4 g_b401) hZ w11 w7 (by decide) (by decide)) (g := (mkF m 245 #[.val (.int p1), .val (.int p2), .val (.long p3), .second, .val (.int (4 : Int32)), .val (.ref o_TAR), .val (.int (257 : Int32)), .val (.int (5 : Int32)), .val (.int nn), .val (.int sl), .val (.ref b401), .unset] [(.int b4), (.int (261 : Int32)), (.ref b401)])) rfl (by rw [hml]; rfl) (argsL := [(.ref b401), (.int (261 : Int32)), (.int b4)]) (rest := []) (lenOf pd__28_5bBIB_29V rfl) rfl (by show 2 * 0 + _ ≤ _; exact Nat.le_of_eq rfl) (hb hby at_245) (fun _ _ => ⟨rfl, e425q, (by decide : 1 + 0 ≤ _), (by decide : 264 + 0 ≤ _)⟩)
    dsimp only [Pt.U, Pt.locs, Pt.cells, Pt.slots] at X426 l426 y426 z426 st426 hQ426
    subst l426 y426 z426
    refine Run.step (st426) ?_
    obtain ⟨rfl, N426q, K426q, fv426⟩ := hQ426
    have N426 := Fr.app N425 N426q
    have z428 := Nat.le_trans z423 K426q.1
    have O429 := O424.keep K426q (allS g_b401 all0)
    obtain ⟨gg426, hg426⟩ : ∃ z, z = own_up gg421 (261 : Int32).toNatClampNeg b4 := ⟨_, rfl⟩
    rw [← hg426] at fv426
    show Run _ _ _ _ (T426.setTop (mkF m 248 #[.val (.int p1), .val (.int p2), .val (.long p3), .second, .val (.int (4 : Int32)), .val (.ref o_TAR), .val (.int (257 : Int32)), .val (.int (5 : Int32)), .val (.int nn), .val (.int sl), .val (.ref b401), .unset] []))
    refine Run.step (fun t_ k_ => XS.aload X426.here hx rfl (hb hby at_248) rfl rfl (XS.iload X426.here hx rfl (hb hby at_250) rfl (XS.iconst X426.here hx rfl (hb hby at_252) (XS.iadd X426.here hx rfl (hb hby at_253) rfl (XS.iload X426.here hx rfl (hb hby at_254) rfl (XS.iconst X426.here hx rfl (hb hby at_256) k_)))))) ?_
    show Run _ _ _ _ (T426.setTop (mkF m 257 #[.val (.int p1), .val (.int p2), .val (.long p3), .second, .val (.int (4 : Int32)), .val (.ref o_TAR), .val (.int (257 : Int32)), .val (.int (5 : Int32)), .val (.int nn), .val (.int sl), .val (.ref b401), .unset] [(.int (5 : Int32)), (.int (4 : Int32)), (.int (262 : Int32)), (.ref b401)]))
    refine Run.step (fun t_ k_ => XS.iload X426.here hx rfl (hb hby at_257) rfl (XS.lloadN X426.here hx rfl (hb hby at_259) rfl k_)) ?_
    show Run _ _ _ _ (T426.setTop (mkF m 260 #[.val (.int p1), .val (.int p2), .val (.long p3), .second, .val (.int (4 : Int32)), .val (.ref o_TAR), .val (.int (257 : Int32)), .val (.int (5 : Int32)), .val (.int nn), .val (.int sl), .val (.ref b401), .unset] [(.long p3), (.int sl), (.int (5 : Int32)), (.int (4 : Int32)), (.int (262 : Int32)), (.ref b401)]))
    obtain ⟨_, _, ⟨T430, L430, k430, n430⟩, -, X430, ⟨Lc430, hQ430, l430, y430, z430⟩, st430⟩ := Jvm.LawKit.callS X426 hx (y := (⟨"cleave/io/PackedFormatHoldsMagicPinLaw", "pick", "(IIIJ)B"⟩ : MethodName)) hown (mvT hZ w5) (mvT hZ w6) (mvT hZ w7) (mvT hZ w8) (by decide) (backOf (W := 2) (rm1 l Z a0 hw [] (4 : Int32) (5 : Int32) sl p3 T426.heap n0 z428) hZ w8 w7 (by decide) (by decide)) (g := (mkF m 260 #[.val (.int p1), .val (.int p2), .val (.long p3), .second, .val (.int (4 : Int32)), .val (.ref o_TAR), .val (.int (257 : Int32)), .val (.int (5 : Int32)), .val (.int nn), .val (.int sl), .val (.ref b401), .unset] [(.long p3), (.int sl), (.int (5 : Int32)), (.int (4 : Int32)), (.int (262 : Int32)), (.ref b401)])) rfl (by rw [hml]; rfl) (argsL := [(.int (4 : Int32)), (.int (5 : Int32)), (.int sl), (.long p3)]) (rest := [(.int (262 : Int32)), (.ref b401)]) (lenOf pd__28IIIJ_29B rfl) rfl (by show 2 * 0 + _ ≤ _; exact Nat.le_of_eq rfl) (hb hby at_260) (fun _ _ => ⟨rfl, rfl, (by decide : 1 + 0 ≤ _), (by decide : 264 + 0 ≤ _)⟩)
    dsimp only [Pt.U, Pt.locs, Pt.cells, Pt.slots] at X430 l430 y430 z430 st430 hQ430
    subst l430 y430 z430
    refine Run.step (st430) ?_
    obtain ⟨rfl, N430q, e430q⟩ := hQ430
    have N430 := Fr.app N426 N430q
    show Run _ _ _ _ (T430.setTop (mkF m 263 #[.val (.int p1), .val (.int p2), .val (.long p3), .second, .val (.int (4 : Int32)), .val (.ref o_TAR), .val (.int (257 : Int32)), .val (.int (5 : Int32)), .val (.int nn), .val (.int sl), .val (.ref b401), .unset] [(.int (own_pick (4 : Int32) (5 : Int32) sl p3)), (.int (262 : Int32)), (.ref b401)]))
    obtain ⟨b5, hb5⟩ : ∃ z, z = (own_pick (4 : Int32) (5 : Int32) sl p3) := ⟨_, rfl⟩
    rw [← hb5]
    have nb5 : nar .byte b5 = b5 := by rw [hb5]; exact own_pickb _ _ _ _
    show Run _ _ _ _ (T430.setTop (mkF m 263 #[.val (.int p1), .val (.int p2), .val (.long p3), .second, .val (.int (4 : Int32)), .val (.ref o_TAR), .val (.int (257 : Int32)), .val (.int (5 : Int32)), .val (.int nn), .val (.int sl), .val (.ref b401), .unset] [(.int b5), (.int (262 : Int32)), (.ref b401)]))
    obtain ⟨_, _, ⟨T431, L431, k431, n431⟩, -, X431, ⟨Lc431, hQ431, l431, y431, z431⟩, st431⟩ := Jvm.LawKit.callS X430 hx (y := (⟨"cleave/io/PackedFormatHoldsMagicPinLaw", "put", "([BIB)V"⟩ : MethodName)) hown (mvT hZ w9) (mvT hZ w10) (mvT hZ w7) (mvT hZ w11) (by decide) (backOf (W := 0) (rm2 l Z a0 hw [] b401 (262 : Int32) b5 nn gg426 T426.heap n0 z428 fv426 (by decide) nb5 g_b401) hZ w11 w7 (by decide) (by decide)) (g := (mkF m 263 #[.val (.int p1), .val (.int p2), .val (.long p3), .second, .val (.int (4 : Int32)), .val (.ref o_TAR), .val (.int (257 : Int32)), .val (.int (5 : Int32)), .val (.int nn), .val (.int sl), .val (.ref b401), .unset] [(.int b5), (.int (262 : Int32)), (.ref b401)])) rfl (by rw [hml]; rfl) (argsL := [(.ref b401), (.int (262 : Int32)), (.int b5)]) (rest := []) (lenOf pd__28_5bBIB_29V rfl) rfl (by show 2 * 0 + _ ≤ _; exact Nat.le_of_eq rfl) (hb hby at_263) (fun _ _ => ⟨rfl, e430q, (by decide : 1 + 0 ≤ _), (by decide : 264 + 0 ≤ _)⟩)
    dsimp only [Pt.U, Pt.locs, Pt.cells, Pt.slots] at X431 l431 y431 z431 st431 hQ431
    subst l431 y431 z431
    refine Run.step (st431) ?_
    obtain ⟨rfl, N431q, K431q, fv431⟩ := hQ431
    have N431 := Fr.app N430 N431q
    have z433 := Nat.le_trans z428 K431q.1
    have O434 := O429.keep K431q (allS g_b401 all0)
    obtain ⟨gg431, hg431⟩ : ∃ z, z = own_up gg426 (262 : Int32).toNatClampNeg b5 := ⟨_, rfl⟩
    rw [← hg431] at fv431
    show Run _ _ _ _ (T431.setTop (mkF m 266 #[.val (.int p1), .val (.int p2), .val (.long p3), .second, .val (.int (4 : Int32)), .val (.ref o_TAR), .val (.int (257 : Int32)), .val (.int (5 : Int32)), .val (.int nn), .val (.int sl), .val (.ref b401), .unset] []))
    have v0 : gg431 257 = b0 := by rw [hg431, hg426, hg421, hg416, hg411, hg406]; rfl
    have v1 : gg431 258 = b1 := by rw [hg431, hg426, hg421, hg416, hg411, hg406]; rfl
    have v2 : gg431 259 = b2 := by rw [hg431, hg426, hg421, hg416, hg411, hg406]; rfl
    have v3 : gg431 260 = b3 := by rw [hg431, hg426, hg421, hg416, hg411, hg406]; rfl
    have v4 : gg431 261 = b4 := by rw [hg431, hg426, hg421, hg416, hg411, hg406]; rfl
    have v5 : gg431 262 = b5 := by rw [hg431, hg426, hg421, hg416, hg411, hg406]; rfl
    refine Run.step (fun t_ k_ => XS.iload X431.here hx rfl (hb hby at_266) rfl (XS.iload X431.here hx rfl (hb hby at_268) rfl (XS.iload X431.here hx rfl (hb hby at_270) rfl (XS.iadd X431.here hx rfl (hb hby at_272) rfl k_)))) ?_
    show Run _ _ _ _ (T431.setTop (mkF m 273 #[.val (.int p1), .val (.int p2), .val (.long p3), .second, .val (.int (4 : Int32)), .val (.ref o_TAR), .val (.int (257 : Int32)), .val (.int (5 : Int32)), .val (.int nn), .val (.int sl), .val (.ref b401), .unset] [(.int (262 : Int32)), (.int nn)]))
    have J435 : ∀ (TJ435 : State) (LJ435 : List Loc) (XJ435 : Stand p l e room_1 s m #[(.int p1), (.int p2), (.long p3)] below meth c TJ435 LJ435 1 264) (eJ435 : TJ435.heap = T431.heap) (NJ435 : Fr n0 LJ435) (wt : Int32), (wt = if nn < (262 : Int32) then 0 else (if b0 = (117 : Int32) then (if b1 = (115 : Int32) then (if b2 = (116 : Int32) then (if b3 = (97 : Int32) then (if b4 = (114 : Int32) then (1) else 0) else 0) else 0) else 0) else 0)) → Run p.tables e below (PQ s below 16 640 (Q0 Z p1 p2 p3 o_BZIP2 mg_BZIP2 km_BZIP2 o_XZ mg_XZ km_XZ o_ZSTD mg_ZSTD km_ZSTD o_ZIP mg_ZIP km_ZIP o_TAR mg_TAR km_TAR o_GZIP_TAR mg_GZIP_TAR km_GZIP_TAR h0 n0)) (TJ435.setTop (mkF m 372 #[.val (.int p1), .val (.int p2), .val (.long p3), .second, .val (.int (4 : Int32)), .val (.ref o_TAR), .val (.int (257 : Int32)), .val (.int (5 : Int32)), .val (.int nn), .val (.int sl), .val (.ref b401), .unset] [(.int wt)])) := by
      intro TJ435 LJ435 XJ435 eJ435 NJ435 wt hv435
      refine Run.step (fun t_ k_ => XS.istore XJ435.here hx rfl (hb hby at_372) rfl (l' := #[.val (.int p1), .val (.int p2), .val (.long p3), .second, .val (.int (4 : Int32)), .val (.ref o_TAR), .val (.int (257 : Int32)), .val (.int (5 : Int32)), .val (.int nn), .val (.int sl), .val (.ref b401), .val (.int wt)]) rfl (XS.aload XJ435.here hx rfl (hb hby at_374) rfl rfl (XS.aload XJ435.here hx rfl (hb hby at_376) rfl rfl k_))) ?_
      show Run _ _ _ _ (TJ435.setTop (mkF m 378 #[.val (.int p1), .val (.int p2), .val (.long p3), .second, .val (.int (4 : Int32)), .val (.ref o_TAR), .val (.int (257 : Int32)), .val (.int (5 : Int32)), .val (.int nn), .val (.int sl), .val (.ref b401), .val (.int wt)] [(.ref b401), (.ref o_TAR)]))
      obtain ⟨cq436, kq436, q436a, q436b, q436c⟩ := isOf hZ eJ435 (E_TAR.ext O434.2)
      obtain ⟨_, _, ⟨T436, L436, k436, n436⟩, -, X436, ⟨Lc436, hQ436, l436, y436, z436⟩, st436⟩ := XJ435.virtualBack hx (y := (⟨"cleave/io/PackedFormat", "holdsMagic", "([B)Z"⟩ : MethodName)) (z := (⟨"cleave/io/PackedFormat", "holdsMagic", "([B)Z"⟩ : MethodName)) hown (mvT hZ w18) (mvT hZ w19) (notFace_of_selects (args := #[]) (mvT hZ w34)) (mvT hZ w34) (mvT hZ w20) (by decide) (backOf (W := 0) (rm5_TAR l Z a0 hw [] o_TAR b401 mg_TAR km_TAR nn gg431 T431.heap n0 z433 (F1_TAR.ext O434.2) (F2_TAR.ext O434.2) (VM_TAR.ext O434.2) fv431) hZ w22 w2 (by decide) (by decide)) q436a q436c (g := (mkF m 378 #[.val (.int p1), .val (.int p2), .val (.long p3), .second, .val (.int (4 : Int32)), .val (.ref o_TAR), .val (.int (257 : Int32)), .val (.int (5 : Int32)), .val (.int nn), .val (.int sl), .val (.ref b401), .val (.int wt)] [(.ref b401), (.ref o_TAR)])) rfl (by rw [hml]; rfl) (Steps.refl _) (argsL := [(.ref b401)]) (rest := []) (lenOf pd__28_5bB_29Z rfl) rfl (by show 2 * 0 + _ ≤ _; exact Nat.le_of_eq rfl) (hb hby at_378) (fun _ _ => ⟨rfl, eJ435, (by decide : 1 + 0 ≤ _), (by decide : 264 + 0 ≤ _)⟩)
      dsimp only [Pt.U, Pt.locs, Pt.cells, Pt.slots] at X436 l436 y436 z436 st436 hQ436
      subst l436 y436 z436
      refine Run.step (fun t k => st436.trans k) ?_
      obtain ⟨rfl, N436q, e436q⟩ := hQ436
      have N436 := Fr.app NJ435 N436q
      show Run _ _ _ _ (T436.setTop (mkF m 381 #[.val (.int p1), .val (.int p2), .val (.long p3), .second, .val (.int (4 : Int32)), .val (.ref o_TAR), .val (.int (257 : Int32)), .val (.int (5 : Int32)), .val (.int nn), .val (.int sl), .val (.ref b401), .val (.int wt)] [(.int (if nn < (262 : Int32) then 0 else (if gg431 257 = (117 : Int32) then (if gg431 258 = (115 : Int32) then (if gg431 259 = (116 : Int32) then (if gg431 260 = (97 : Int32) then (if gg431 261 = (114 : Int32) then (1) else 0) else 0) else 0) else 0) else 0)))]))
      refine Run.step (fun t_ k_ => XS.iload X436.here hx rfl (hb hby at_381) rfl (XS.icmpNo X436.here hx rfl (hb hby at_383) rfl (XT.ii_ne_f ((by rw [hv435, v0, v1, v2, v3, v4]) : (if nn < (262 : Int32) then 0 else (if gg431 257 = (117 : Int32) then (if gg431 258 = (115 : Int32) then (if gg431 259 = (116 : Int32) then (if gg431 260 = (97 : Int32) then (if gg431 261 = (114 : Int32) then (1) else 0) else 0) else 0) else 0) else 0)) = wt)) (XS.iconst X436.here hx rfl (hb hby at_386) (XS.goto X436.here hx rfl (pc0 := 387) (pc' := 391) rfl (hb hby at_387) (by decide) (by decide) k_)))) ?_
      show Run _ _ _ _ (T436.setTop (mkF m 391 #[.val (.int p1), .val (.int p2), .val (.long p3), .second, .val (.int (4 : Int32)), .val (.ref o_TAR), .val (.int (257 : Int32)), .val (.int (5 : Int32)), .val (.int nn), .val (.int sl), .val (.ref b401), .val (.int wt)] [(.int (1 : Int32))]))
      exact finZ X436 hx (BodyLoose.notSynchronized Bd) Bd.returns (hb hby at_391) (by decide) (by decide) (by decide) e436q ⟨rfl, N436⟩
    by_cases c273 : nn < (262 : Int32)
    · skip
      refine Run.step (fun t_ k_ => XS.icmpYes X431.here hx rfl (pc0 := 273) (pc' := 371) rfl (hb hby at_273) rfl (XT.ii_lt_t c273) (by decide) (by decide) (XS.iconst X431.here hx rfl (hb hby at_371) k_)) ?_
      show Run _ _ _ _ (T431.setTop (mkF m 372 #[.val (.int p1), .val (.int p2), .val (.long p3), .second, .val (.int (4 : Int32)), .val (.ref o_TAR), .val (.int (257 : Int32)), .val (.int (5 : Int32)), .val (.int nn), .val (.int sl), .val (.ref b401), .unset] [(.int (0 : Int32))]))
      exact J435 _ _ X431 rfl N431 (0 : Int32) (if_pos c273).symm
    · skip
      refine Run.step (fun t_ k_ => XS.icmpNo X431.here hx rfl (hb hby at_273) rfl (XT.ii_lt_f c273) (XS.iload X431.here hx rfl (hb hby at_276) rfl (XS.iconst X431.here hx rfl (hb hby at_278) (XS.iload X431.here hx rfl (hb hby at_279) rfl (XS.lloadN X431.here hx rfl (hb hby at_281) rfl k_))))) ?_
      show Run _ _ _ _ (T431.setTop (mkF m 282 #[.val (.int p1), .val (.int p2), .val (.long p3), .second, .val (.int (4 : Int32)), .val (.ref o_TAR), .val (.int (257 : Int32)), .val (.int (5 : Int32)), .val (.int nn), .val (.int sl), .val (.ref b401), .unset] [(.long p3), (.int sl), (.int (0 : Int32)), (.int (4 : Int32))]))
      obtain ⟨_, _, ⟨T437, L437, k437, n437⟩, -, X437, ⟨Lc437, hQ437, l437, y437, z437⟩, st437⟩ := Jvm.LawKit.callS X431 hx (y := (⟨"cleave/io/PackedFormatHoldsMagicPinLaw", "matches", "(IIIJ)Z"⟩ : MethodName)) hown (mvT hZ w12) (mvT hZ w13) (mvT hZ w7) (mvT hZ w14) (by decide) (backOf (W := 0) (rm3 l Z a0 hw [] (4 : Int32) (0 : Int32) sl p3 T431.heap n0 z433) hZ w14 w7 (by decide) (by decide)) (g := (mkF m 282 #[.val (.int p1), .val (.int p2), .val (.long p3), .second, .val (.int (4 : Int32)), .val (.ref o_TAR), .val (.int (257 : Int32)), .val (.int (5 : Int32)), .val (.int nn), .val (.int sl), .val (.ref b401), .unset] [(.long p3), (.int sl), (.int (0 : Int32)), (.int (4 : Int32))])) rfl (by rw [hml]; rfl) (argsL := [(.int (4 : Int32)), (.int (0 : Int32)), (.int sl), (.long p3)]) (rest := []) (lenOf pd__28IIIJ_29Z rfl) rfl (by show 2 * 0 + _ ≤ _; exact Nat.le_of_eq rfl) (hb hby at_282) (fun _ _ => ⟨rfl, rfl, (by decide : 1 + 0 ≤ _), (by decide : 264 + 0 ≤ _)⟩)
      dsimp only [Pt.U, Pt.locs, Pt.cells, Pt.slots] at X437 l437 y437 z437 st437 hQ437
      subst l437 y437 z437
      refine Run.step (st437) ?_
      obtain ⟨rfl, N437q, e437q⟩ := hQ437
      have N437 := Fr.app N431 N437q
      show Run _ _ _ _ (T437.setTop (mkF m 285 #[.val (.int p1), .val (.int p2), .val (.long p3), .second, .val (.int (4 : Int32)), .val (.ref o_TAR), .val (.int (257 : Int32)), .val (.int (5 : Int32)), .val (.int nn), .val (.int sl), .val (.ref b401), .unset] [(.int (if own_pick (4 : Int32) (0 : Int32) sl p3 = (own_expect (4 : Int32) (0 : Int32)).toInt8.toInt32 then 1 else 0))]))
      have E0 : b0 = (117 : Int32) ↔ ¬ ((if own_pick (4 : Int32) (0 : Int32) sl p3 = (own_expect (4 : Int32) (0 : Int32)).toInt8.toInt32 then 1 else 0) = (0 : Int32)) := by
        rw [show ((if own_pick (4 : Int32) (0 : Int32) sl p3 = (own_expect (4 : Int32) (0 : Int32)).toInt8.toInt32 then 1 else 0)) = (if own_pick (4 : Int32) (0 : Int32) sl p3 = (117 : Int32) then (1 : Int32) else 0) from rfl, ← hb0]
        by_cases z : b0 = (117 : Int32)
        · rw [if_pos z]; exact ⟨fun _ => by decide, fun _ => z⟩
        · rw [if_neg z]; exact ⟨fun q => absurd q z, fun q => absurd rfl q⟩
      by_cases c285 : (if own_pick (4 : Int32) (0 : Int32) sl p3 = (own_expect (4 : Int32) (0 : Int32)).toInt8.toInt32 then 1 else 0) = (0 : Int32)
      · have d285 := fun q => E0.mp q c285
        refine Run.step (fun t_ k_ => XS.ifYes X437.here hx rfl (pc0 := 285) (pc' := 371) rfl (hb hby at_285) rfl (XT.i0_eq_t c285) (by decide) (by decide) (XS.iconst X437.here hx rfl (hb hby at_371) k_)) ?_
        show Run _ _ _ _ (T437.setTop (mkF m 372 #[.val (.int p1), .val (.int p2), .val (.long p3), .second, .val (.int (4 : Int32)), .val (.ref o_TAR), .val (.int (257 : Int32)), .val (.int (5 : Int32)), .val (.int nn), .val (.int sl), .val (.ref b401), .unset] [(.int (0 : Int32))]))
        exact J435 _ _ X437 e437q N437 (0 : Int32) ((if_neg c273).trans (if_neg d285)).symm
      · have d285 := E0.mpr c285
        refine Run.step (fun t_ k_ => XS.ifNo X437.here hx rfl (hb hby at_285) rfl (XT.i0_eq_f c285) (XS.iload X437.here hx rfl (hb hby at_288) rfl (XS.iconst X437.here hx rfl (hb hby at_290) (XS.iload X437.here hx rfl (hb hby at_291) rfl (XS.lloadN X437.here hx rfl (hb hby at_293) rfl k_))))) ?_
        show Run _ _ _ _ (T437.setTop (mkF m 294 #[.val (.int p1), .val (.int p2), .val (.long p3), .second, .val (.int (4 : Int32)), .val (.ref o_TAR), .val (.int (257 : Int32)), .val (.int (5 : Int32)), .val (.int nn), .val (.int sl), .val (.ref b401), .unset] [(.long p3), (.int sl), (.int (1 : Int32)), (.int (4 : Int32))]))
        obtain ⟨_, _, ⟨T438, L438, k438, n438⟩, -, X438, ⟨Lc438, hQ438, l438, y438, z438⟩, st438⟩ := Jvm.LawKit.callS X437 hx (y := (⟨"cleave/io/PackedFormatHoldsMagicPinLaw", "matches", "(IIIJ)Z"⟩ : MethodName)) hown (mvT hZ w12) (mvT hZ w13) (mvT hZ w7) (mvT hZ w14) (by decide) (backOf (W := 0) (rm3 l Z a0 hw [] (4 : Int32) (1 : Int32) sl p3 T431.heap n0 z433) hZ w14 w7 (by decide) (by decide)) (g := (mkF m 294 #[.val (.int p1), .val (.int p2), .val (.long p3), .second, .val (.int (4 : Int32)), .val (.ref o_TAR), .val (.int (257 : Int32)), .val (.int (5 : Int32)), .val (.int nn), .val (.int sl), .val (.ref b401), .unset] [(.long p3), (.int sl), (.int (1 : Int32)), (.int (4 : Int32))])) rfl (by rw [hml]; rfl) (argsL := [(.int (4 : Int32)), (.int (1 : Int32)), (.int sl), (.long p3)]) (rest := []) (lenOf pd__28IIIJ_29Z rfl) rfl (by show 2 * 0 + _ ≤ _; exact Nat.le_of_eq rfl) (hb hby at_294) (fun _ _ => ⟨rfl, e437q, (by decide : 1 + 0 ≤ _), (by decide : 264 + 0 ≤ _)⟩)
        dsimp only [Pt.U, Pt.locs, Pt.cells, Pt.slots] at X438 l438 y438 z438 st438 hQ438
        subst l438 y438 z438
        refine Run.step (st438) ?_
        obtain ⟨rfl, N438q, e438q⟩ := hQ438
        have N438 := Fr.app N437 N438q
        show Run _ _ _ _ (T438.setTop (mkF m 297 #[.val (.int p1), .val (.int p2), .val (.long p3), .second, .val (.int (4 : Int32)), .val (.ref o_TAR), .val (.int (257 : Int32)), .val (.int (5 : Int32)), .val (.int nn), .val (.int sl), .val (.ref b401), .unset] [(.int (if own_pick (4 : Int32) (1 : Int32) sl p3 = (own_expect (4 : Int32) (1 : Int32)).toInt8.toInt32 then 1 else 0))]))
        have E1 : b1 = (115 : Int32) ↔ ¬ ((if own_pick (4 : Int32) (1 : Int32) sl p3 = (own_expect (4 : Int32) (1 : Int32)).toInt8.toInt32 then 1 else 0) = (0 : Int32)) := by
          rw [show ((if own_pick (4 : Int32) (1 : Int32) sl p3 = (own_expect (4 : Int32) (1 : Int32)).toInt8.toInt32 then 1 else 0)) = (if own_pick (4 : Int32) (1 : Int32) sl p3 = (115 : Int32) then (1 : Int32) else 0) from rfl, ← hb1]
          by_cases z : b1 = (115 : Int32)
          · rw [if_pos z]; exact ⟨fun _ => by decide, fun _ => z⟩
          · rw [if_neg z]; exact ⟨fun q => absurd q z, fun q => absurd rfl q⟩
        by_cases c297 : (if own_pick (4 : Int32) (1 : Int32) sl p3 = (own_expect (4 : Int32) (1 : Int32)).toInt8.toInt32 then 1 else 0) = (0 : Int32)
        · have d297 := fun q => E1.mp q c297
          refine Run.step (fun t_ k_ => XS.ifYes X438.here hx rfl (pc0 := 297) (pc' := 371) rfl (hb hby at_297) rfl (XT.i0_eq_t c297) (by decide) (by decide) (XS.iconst X438.here hx rfl (hb hby at_371) k_)) ?_
          show Run _ _ _ _ (T438.setTop (mkF m 372 #[.val (.int p1), .val (.int p2), .val (.long p3), .second, .val (.int (4 : Int32)), .val (.ref o_TAR), .val (.int (257 : Int32)), .val (.int (5 : Int32)), .val (.int nn), .val (.int sl), .val (.ref b401), .unset] [(.int (0 : Int32))]))
          exact J435 _ _ X438 e438q N438 (0 : Int32) ((if_neg c273).trans ((if_pos d285).trans (if_neg d297))).symm
        · have d297 := E1.mpr c297
          refine Run.step (fun t_ k_ => XS.ifNo X438.here hx rfl (hb hby at_297) rfl (XT.i0_eq_f c297) (XS.iload X438.here hx rfl (hb hby at_300) rfl (XS.iconst X438.here hx rfl (hb hby at_302) (XS.iload X438.here hx rfl (hb hby at_303) rfl (XS.lloadN X438.here hx rfl (hb hby at_305) rfl k_))))) ?_
          show Run _ _ _ _ (T438.setTop (mkF m 306 #[.val (.int p1), .val (.int p2), .val (.long p3), .second, .val (.int (4 : Int32)), .val (.ref o_TAR), .val (.int (257 : Int32)), .val (.int (5 : Int32)), .val (.int nn), .val (.int sl), .val (.ref b401), .unset] [(.long p3), (.int sl), (.int (2 : Int32)), (.int (4 : Int32))]))
          obtain ⟨_, _, ⟨T439, L439, k439, n439⟩, -, X439, ⟨Lc439, hQ439, l439, y439, z439⟩, st439⟩ := Jvm.LawKit.callS X438 hx (y := (⟨"cleave/io/PackedFormatHoldsMagicPinLaw", "matches", "(IIIJ)Z"⟩ : MethodName)) hown (mvT hZ w12) (mvT hZ w13) (mvT hZ w7) (mvT hZ w14) (by decide) (backOf (W := 0) (rm3 l Z a0 hw [] (4 : Int32) (2 : Int32) sl p3 T431.heap n0 z433) hZ w14 w7 (by decide) (by decide)) (g := (mkF m 306 #[.val (.int p1), .val (.int p2), .val (.long p3), .second, .val (.int (4 : Int32)), .val (.ref o_TAR), .val (.int (257 : Int32)), .val (.int (5 : Int32)), .val (.int nn), .val (.int sl), .val (.ref b401), .unset] [(.long p3), (.int sl), (.int (2 : Int32)), (.int (4 : Int32))])) rfl (by rw [hml]; rfl) (argsL := [(.int (4 : Int32)), (.int (2 : Int32)), (.int sl), (.long p3)]) (rest := []) (lenOf pd__28IIIJ_29Z rfl) rfl (by show 2 * 0 + _ ≤ _; exact Nat.le_of_eq rfl) (hb hby at_306) (fun _ _ => ⟨rfl, e438q, (by decide : 1 + 0 ≤ _), (by decide : 264 + 0 ≤ _)⟩)
          dsimp only [Pt.U, Pt.locs, Pt.cells, Pt.slots] at X439 l439 y439 z439 st439 hQ439
          subst l439 y439 z439
          refine Run.step (st439) ?_
          obtain ⟨rfl, N439q, e439q⟩ := hQ439
          have N439 := Fr.app N438 N439q
          show Run _ _ _ _ (T439.setTop (mkF m 309 #[.val (.int p1), .val (.int p2), .val (.long p3), .second, .val (.int (4 : Int32)), .val (.ref o_TAR), .val (.int (257 : Int32)), .val (.int (5 : Int32)), .val (.int nn), .val (.int sl), .val (.ref b401), .unset] [(.int (if own_pick (4 : Int32) (2 : Int32) sl p3 = (own_expect (4 : Int32) (2 : Int32)).toInt8.toInt32 then 1 else 0))]))
          have E2 : b2 = (116 : Int32) ↔ ¬ ((if own_pick (4 : Int32) (2 : Int32) sl p3 = (own_expect (4 : Int32) (2 : Int32)).toInt8.toInt32 then 1 else 0) = (0 : Int32)) := by
            rw [show ((if own_pick (4 : Int32) (2 : Int32) sl p3 = (own_expect (4 : Int32) (2 : Int32)).toInt8.toInt32 then 1 else 0)) = (if own_pick (4 : Int32) (2 : Int32) sl p3 = (116 : Int32) then (1 : Int32) else 0) from rfl, ← hb2]
            by_cases z : b2 = (116 : Int32)
            · rw [if_pos z]; exact ⟨fun _ => by decide, fun _ => z⟩
            · rw [if_neg z]; exact ⟨fun q => absurd q z, fun q => absurd rfl q⟩
          by_cases c309 : (if own_pick (4 : Int32) (2 : Int32) sl p3 = (own_expect (4 : Int32) (2 : Int32)).toInt8.toInt32 then 1 else 0) = (0 : Int32)
          · have d309 := fun q => E2.mp q c309
            refine Run.step (fun t_ k_ => XS.ifYes X439.here hx rfl (pc0 := 309) (pc' := 371) rfl (hb hby at_309) rfl (XT.i0_eq_t c309) (by decide) (by decide) (XS.iconst X439.here hx rfl (hb hby at_371) k_)) ?_
            show Run _ _ _ _ (T439.setTop (mkF m 372 #[.val (.int p1), .val (.int p2), .val (.long p3), .second, .val (.int (4 : Int32)), .val (.ref o_TAR), .val (.int (257 : Int32)), .val (.int (5 : Int32)), .val (.int nn), .val (.int sl), .val (.ref b401), .unset] [(.int (0 : Int32))]))
            exact J435 _ _ X439 e439q N439 (0 : Int32) ((if_neg c273).trans ((if_pos d285).trans ((if_pos d297).trans (if_neg d309)))).symm
          · have d309 := E2.mpr c309
            refine Run.step (fun t_ k_ => XS.ifNo X439.here hx rfl (hb hby at_309) rfl (XT.i0_eq_f c309) (XS.iload X439.here hx rfl (hb hby at_312) rfl (XS.iconst X439.here hx rfl (hb hby at_314) (XS.icmpNo X439.here hx rfl (hb hby at_315) rfl (XT.ii_lt_f (by decide : ¬ ((5 : Int32) < (4 : Int32)))) (XS.iload X439.here hx rfl (hb hby at_318) rfl (XS.iconst X439.here hx rfl (hb hby at_320) k_)))))) ?_
            show Run _ _ _ _ (T439.setTop (mkF m 321 #[.val (.int p1), .val (.int p2), .val (.long p3), .second, .val (.int (4 : Int32)), .val (.ref o_TAR), .val (.int (257 : Int32)), .val (.int (5 : Int32)), .val (.int nn), .val (.int sl), .val (.ref b401), .unset] [(.int (3 : Int32)), (.int (4 : Int32))]))
            refine Run.step (fun t_ k_ => XS.iload X439.here hx rfl (hb hby at_321) rfl (XS.lloadN X439.here hx rfl (hb hby at_323) rfl k_)) ?_
            show Run _ _ _ _ (T439.setTop (mkF m 324 #[.val (.int p1), .val (.int p2), .val (.long p3), .second, .val (.int (4 : Int32)), .val (.ref o_TAR), .val (.int (257 : Int32)), .val (.int (5 : Int32)), .val (.int nn), .val (.int sl), .val (.ref b401), .unset] [(.long p3), (.int sl), (.int (3 : Int32)), (.int (4 : Int32))]))
            obtain ⟨_, _, ⟨T440, L440, k440, n440⟩, -, X440, ⟨Lc440, hQ440, l440, y440, z440⟩, st440⟩ := Jvm.LawKit.callS X439 hx (y := (⟨"cleave/io/PackedFormatHoldsMagicPinLaw", "matches", "(IIIJ)Z"⟩ : MethodName)) hown (mvT hZ w12) (mvT hZ w13) (mvT hZ w7) (mvT hZ w14) (by decide) (backOf (W := 0) (rm3 l Z a0 hw [] (4 : Int32) (3 : Int32) sl p3 T431.heap n0 z433) hZ w14 w7 (by decide) (by decide)) (g := (mkF m 324 #[.val (.int p1), .val (.int p2), .val (.long p3), .second, .val (.int (4 : Int32)), .val (.ref o_TAR), .val (.int (257 : Int32)), .val (.int (5 : Int32)), .val (.int nn), .val (.int sl), .val (.ref b401), .unset] [(.long p3), (.int sl), (.int (3 : Int32)), (.int (4 : Int32))])) rfl (by rw [hml]; rfl) (argsL := [(.int (4 : Int32)), (.int (3 : Int32)), (.int sl), (.long p3)]) (rest := []) (lenOf pd__28IIIJ_29Z rfl) rfl (by show 2 * 0 + _ ≤ _; exact Nat.le_of_eq rfl) (hb hby at_324) (fun _ _ => ⟨rfl, e439q, (by decide : 1 + 0 ≤ _), (by decide : 264 + 0 ≤ _)⟩)
            dsimp only [Pt.U, Pt.locs, Pt.cells, Pt.slots] at X440 l440 y440 z440 st440 hQ440
            subst l440 y440 z440
            refine Run.step (st440) ?_
            obtain ⟨rfl, N440q, e440q⟩ := hQ440
            have N440 := Fr.app N439 N440q
            show Run _ _ _ _ (T440.setTop (mkF m 327 #[.val (.int p1), .val (.int p2), .val (.long p3), .second, .val (.int (4 : Int32)), .val (.ref o_TAR), .val (.int (257 : Int32)), .val (.int (5 : Int32)), .val (.int nn), .val (.int sl), .val (.ref b401), .unset] [(.int (if own_pick (4 : Int32) (3 : Int32) sl p3 = (own_expect (4 : Int32) (3 : Int32)).toInt8.toInt32 then 1 else 0))]))
            have E3 : b3 = (97 : Int32) ↔ ¬ ((if own_pick (4 : Int32) (3 : Int32) sl p3 = (own_expect (4 : Int32) (3 : Int32)).toInt8.toInt32 then 1 else 0) = (0 : Int32)) := by
              rw [show ((if own_pick (4 : Int32) (3 : Int32) sl p3 = (own_expect (4 : Int32) (3 : Int32)).toInt8.toInt32 then 1 else 0)) = (if own_pick (4 : Int32) (3 : Int32) sl p3 = (97 : Int32) then (1 : Int32) else 0) from rfl, ← hb3]
              by_cases z : b3 = (97 : Int32)
              · rw [if_pos z]; exact ⟨fun _ => by decide, fun _ => z⟩
              · rw [if_neg z]; exact ⟨fun q => absurd q z, fun q => absurd rfl q⟩
            by_cases c327 : (if own_pick (4 : Int32) (3 : Int32) sl p3 = (own_expect (4 : Int32) (3 : Int32)).toInt8.toInt32 then 1 else 0) = (0 : Int32)
            · have d327 := fun q => E3.mp q c327
              refine Run.step (fun t_ k_ => XS.ifYes X440.here hx rfl (pc0 := 327) (pc' := 371) rfl (hb hby at_327) rfl (XT.i0_eq_t c327) (by decide) (by decide) (XS.iconst X440.here hx rfl (hb hby at_371) k_)) ?_
              show Run _ _ _ _ (T440.setTop (mkF m 372 #[.val (.int p1), .val (.int p2), .val (.long p3), .second, .val (.int (4 : Int32)), .val (.ref o_TAR), .val (.int (257 : Int32)), .val (.int (5 : Int32)), .val (.int nn), .val (.int sl), .val (.ref b401), .unset] [(.int (0 : Int32))]))
              exact J435 _ _ X440 e440q N440 (0 : Int32) ((if_neg c273).trans ((if_pos d285).trans ((if_pos d297).trans ((if_pos d309).trans (if_neg d327))))).symm
            · have d327 := E3.mpr c327
              refine Run.step (fun t_ k_ => XS.ifNo X440.here hx rfl (hb hby at_327) rfl (XT.i0_eq_f c327) (XS.iload X440.here hx rfl (hb hby at_330) rfl (XS.iconst X440.here hx rfl (hb hby at_332) (XS.icmpNo X440.here hx rfl (hb hby at_333) rfl (XT.ii_lt_f (by decide : ¬ ((5 : Int32) < (5 : Int32)))) (XS.iload X440.here hx rfl (hb hby at_336) rfl (XS.iconst X440.here hx rfl (hb hby at_338) k_)))))) ?_
              show Run _ _ _ _ (T440.setTop (mkF m 339 #[.val (.int p1), .val (.int p2), .val (.long p3), .second, .val (.int (4 : Int32)), .val (.ref o_TAR), .val (.int (257 : Int32)), .val (.int (5 : Int32)), .val (.int nn), .val (.int sl), .val (.ref b401), .unset] [(.int (4 : Int32)), (.int (4 : Int32))]))
              refine Run.step (fun t_ k_ => XS.iload X440.here hx rfl (hb hby at_339) rfl (XS.lloadN X440.here hx rfl (hb hby at_341) rfl k_)) ?_
              show Run _ _ _ _ (T440.setTop (mkF m 342 #[.val (.int p1), .val (.int p2), .val (.long p3), .second, .val (.int (4 : Int32)), .val (.ref o_TAR), .val (.int (257 : Int32)), .val (.int (5 : Int32)), .val (.int nn), .val (.int sl), .val (.ref b401), .unset] [(.long p3), (.int sl), (.int (4 : Int32)), (.int (4 : Int32))]))
              obtain ⟨_, _, ⟨T441, L441, k441, n441⟩, -, X441, ⟨Lc441, hQ441, l441, y441, z441⟩, st441⟩ := Jvm.LawKit.callS X440 hx (y := (⟨"cleave/io/PackedFormatHoldsMagicPinLaw", "matches", "(IIIJ)Z"⟩ : MethodName)) hown (mvT hZ w12) (mvT hZ w13) (mvT hZ w7) (mvT hZ w14) (by decide) (backOf (W := 0) (rm3 l Z a0 hw [] (4 : Int32) (4 : Int32) sl p3 T431.heap n0 z433) hZ w14 w7 (by decide) (by decide)) (g := (mkF m 342 #[.val (.int p1), .val (.int p2), .val (.long p3), .second, .val (.int (4 : Int32)), .val (.ref o_TAR), .val (.int (257 : Int32)), .val (.int (5 : Int32)), .val (.int nn), .val (.int sl), .val (.ref b401), .unset] [(.long p3), (.int sl), (.int (4 : Int32)), (.int (4 : Int32))])) rfl (by rw [hml]; rfl) (argsL := [(.int (4 : Int32)), (.int (4 : Int32)), (.int sl), (.long p3)]) (rest := []) (lenOf pd__28IIIJ_29Z rfl) rfl (by show 2 * 0 + _ ≤ _; exact Nat.le_of_eq rfl) (hb hby at_342) (fun _ _ => ⟨rfl, e440q, (by decide : 1 + 0 ≤ _), (by decide : 264 + 0 ≤ _)⟩)
              dsimp only [Pt.U, Pt.locs, Pt.cells, Pt.slots] at X441 l441 y441 z441 st441 hQ441
              subst l441 y441 z441
              refine Run.step (st441) ?_
              obtain ⟨rfl, N441q, e441q⟩ := hQ441
              have N441 := Fr.app N440 N441q
              show Run _ _ _ _ (T441.setTop (mkF m 345 #[.val (.int p1), .val (.int p2), .val (.long p3), .second, .val (.int (4 : Int32)), .val (.ref o_TAR), .val (.int (257 : Int32)), .val (.int (5 : Int32)), .val (.int nn), .val (.int sl), .val (.ref b401), .unset] [(.int (if own_pick (4 : Int32) (4 : Int32) sl p3 = (own_expect (4 : Int32) (4 : Int32)).toInt8.toInt32 then 1 else 0))]))
              have E4 : b4 = (114 : Int32) ↔ ¬ ((if own_pick (4 : Int32) (4 : Int32) sl p3 = (own_expect (4 : Int32) (4 : Int32)).toInt8.toInt32 then 1 else 0) = (0 : Int32)) := by
                rw [show ((if own_pick (4 : Int32) (4 : Int32) sl p3 = (own_expect (4 : Int32) (4 : Int32)).toInt8.toInt32 then 1 else 0)) = (if own_pick (4 : Int32) (4 : Int32) sl p3 = (114 : Int32) then (1 : Int32) else 0) from rfl, ← hb4]
                by_cases z : b4 = (114 : Int32)
                · rw [if_pos z]; exact ⟨fun _ => by decide, fun _ => z⟩
                · rw [if_neg z]; exact ⟨fun q => absurd q z, fun q => absurd rfl q⟩
              by_cases c345 : (if own_pick (4 : Int32) (4 : Int32) sl p3 = (own_expect (4 : Int32) (4 : Int32)).toInt8.toInt32 then 1 else 0) = (0 : Int32)
              · have d345 := fun q => E4.mp q c345
                refine Run.step (fun t_ k_ => XS.ifYes X441.here hx rfl (pc0 := 345) (pc' := 371) rfl (hb hby at_345) rfl (XT.i0_eq_t c345) (by decide) (by decide) (XS.iconst X441.here hx rfl (hb hby at_371) k_)) ?_
                show Run _ _ _ _ (T441.setTop (mkF m 372 #[.val (.int p1), .val (.int p2), .val (.long p3), .second, .val (.int (4 : Int32)), .val (.ref o_TAR), .val (.int (257 : Int32)), .val (.int (5 : Int32)), .val (.int nn), .val (.int sl), .val (.ref b401), .unset] [(.int (0 : Int32))]))
                exact J435 _ _ X441 e441q N441 (0 : Int32) ((if_neg c273).trans ((if_pos d285).trans ((if_pos d297).trans ((if_pos d309).trans ((if_pos d327).trans (if_neg d345)))))).symm
              · have d345 := E4.mpr c345
                refine Run.step (fun t_ k_ => XS.ifNo X441.here hx rfl (hb hby at_345) rfl (XT.i0_eq_f c345) (XS.iload X441.here hx rfl (hb hby at_348) rfl (XS.bipush X441.here hx rfl (hb hby at_350) (XS.icmpYes X441.here hx rfl (pc0 := 352) (pc' := 367) rfl (hb hby at_352) rfl (XT.ii_lt_t (by decide : (5 : Int32) < (6 : Int32))) (by decide) (by decide) (XS.iconst X441.here hx rfl (hb hby at_367) (XS.goto X441.here hx rfl (pc0 := 368) (pc' := 372) rfl (hb hby at_368) (by decide) (by decide) k_)))))) ?_
                show Run _ _ _ _ (T441.setTop (mkF m 372 #[.val (.int p1), .val (.int p2), .val (.long p3), .second, .val (.int (4 : Int32)), .val (.ref o_TAR), .val (.int (257 : Int32)), .val (.int (5 : Int32)), .val (.int nn), .val (.int sl), .val (.ref b401), .unset] [(.int (1 : Int32))]))
                exact J435 _ _ X441 e441q N441 (1 : Int32) ((if_neg c273).trans ((if_pos d285).trans ((if_pos d297).trans ((if_pos d309).trans ((if_pos d327).trans (if_pos d345)))))).symm
  · rw [hk]
    show Run _ _ _ _ (s₁.setTop (mkF m 9 #[.val (.int p1), .val (.int p2), .val (.long p3), .second, .val (.int (5 : Int32)), .unset, .unset, .unset, .unset, .unset, .unset, .unset] []))
    refine Run.step (fun t_ k_ => XS.iload X0.here hx rfl (hb hby at_9) rfl (XS.ifYes X0.here hx rfl (pc0 := 11) (pc' := 22) rfl (hb hby at_11) rfl (XT.i0_ne_t (by decide : ¬ ((5 : Int32) = (0 : Int32)))) (by decide) (by decide) (XS.iload X0.here hx rfl (hb hby at_22) rfl (XS.iconst X0.here hx rfl (hb hby at_24) (XS.icmpYes X0.here hx rfl (pc0 := 25) (pc' := 36) rfl (hb hby at_25) rfl (XT.ii_ne_t (by decide : ¬ ((5 : Int32) = (1 : Int32)))) (by decide) (by decide) (XS.iload X0.here hx rfl (hb hby at_36) rfl k_)))))) ?_
    show Run _ _ _ _ (s₁.setTop (mkF m 38 #[.val (.int p1), .val (.int p2), .val (.long p3), .second, .val (.int (5 : Int32)), .unset, .unset, .unset, .unset, .unset, .unset, .unset] [(.int (5 : Int32))]))
    refine Run.step (fun t_ k_ => XS.iconst X0.here hx rfl (hb hby at_38) (XS.icmpYes X0.here hx rfl (pc0 := 39) (pc' := 50) rfl (hb hby at_39) rfl (XT.ii_ne_t (by decide : ¬ ((5 : Int32) = (2 : Int32)))) (by decide) (by decide) (XS.iload X0.here hx rfl (hb hby at_50) rfl (XS.iconst X0.here hx rfl (hb hby at_52) (XS.icmpYes X0.here hx rfl (pc0 := 53) (pc' := 64) rfl (hb hby at_53) rfl (XT.ii_ne_t (by decide : ¬ ((5 : Int32) = (3 : Int32)))) (by decide) (by decide) (XS.iload X0.here hx rfl (hb hby at_64) rfl k_)))))) ?_
    show Run _ _ _ _ (s₁.setTop (mkF m 66 #[.val (.int p1), .val (.int p2), .val (.long p3), .second, .val (.int (5 : Int32)), .unset, .unset, .unset, .unset, .unset, .unset, .unset] [(.int (5 : Int32))]))
    refine Run.step (fun t_ k_ => XS.iconst X0.here hx rfl (hb hby at_66) (XS.icmpYes X0.here hx rfl (pc0 := 67) (pc' := 78) rfl (hb hby at_67) rfl (XT.ii_ne_t (by decide : ¬ ((5 : Int32) = (4 : Int32)))) (by decide) (by decide) k_)) ?_
    show Run _ _ _ _ (s₁.setTop (mkF m 78 #[.val (.int p1), .val (.int p2), .val (.long p3), .second, .val (.int (5 : Int32)), .unset, .unset, .unset, .unset, .unset, .unset, .unset] []))
    obtain ⟨T442, X442, e442, st442⟩ := getS2 X0 hx hZ hown (host := "") (Or.inl w37) Via.refl e0 (S_GZIP_TAR.ext O0.2) (g := (mkF m 78 #[.val (.int p1), .val (.int p2), .val (.long p3), .second, .val (.int (5 : Int32)), .unset, .unset, .unset, .unset, .unset, .unset, .unset] [])) rfl (hb hby at_78)
    refine Run.step st442 ?_
    show Run _ _ _ _ (T442.setTop (mkF m 81 #[.val (.int p1), .val (.int p2), .val (.long p3), .second, .val (.int (5 : Int32)), .unset, .unset, .unset, .unset, .unset, .unset, .unset] [(.ref o_GZIP_TAR)]))
    refine Run.step (fun t_ k_ => XS.astore X442.here hx rfl (hb hby at_81) rfl rfl (l' := #[.val (.int p1), .val (.int p2), .val (.long p3), .second, .val (.int (5 : Int32)), .val (.ref o_GZIP_TAR), .unset, .unset, .unset, .unset, .unset, .unset]) rfl (XS.iload X442.here hx rfl (hb hby at_83) rfl (XS.iconst X442.here hx rfl (hb hby at_85) (XS.icmpNo X442.here hx rfl (hb hby at_86) rfl (XT.ii_lt_f (by decide : ¬ ((5 : Int32) < (4 : Int32)))) (XS.sipush X442.here hx rfl (hb hby at_89) (XS.goto X442.here hx rfl (pc0 := 92) (pc' := 96) rfl (hb hby at_92) (by decide) (by decide) k_)))))) ?_
    show Run _ _ _ _ (T442.setTop (mkF m 96 #[.val (.int p1), .val (.int p2), .val (.long p3), .second, .val (.int (5 : Int32)), .val (.ref o_GZIP_TAR), .unset, .unset, .unset, .unset, .unset, .unset] [(.int (257 : Int32))]))
    refine Run.step (fun t_ k_ => XS.istore X442.here hx rfl (hb hby at_96) rfl (l' := #[.val (.int p1), .val (.int p2), .val (.long p3), .second, .val (.int (5 : Int32)), .val (.ref o_GZIP_TAR), .val (.int (257 : Int32)), .unset, .unset, .unset, .unset, .unset]) rfl (XS.iload X442.here hx rfl (hb hby at_98) rfl (XS.ifYes X442.here hx rfl (pc0 := 100) (pc' := 109) rfl (hb hby at_100) rfl (XT.i0_ne_t (by decide : ¬ ((5 : Int32) = (0 : Int32)))) (by decide) (by decide) (XS.iload X442.here hx rfl (hb hby at_109) rfl (XS.iconst X442.here hx rfl (hb hby at_111) (XS.icmpYes X442.here hx rfl (pc0 := 112) (pc' := 122) rfl (hb hby at_112) rfl (XT.ii_ne_t (by decide : ¬ ((5 : Int32) = (1 : Int32)))) (by decide) (by decide) k_)))))) ?_
    show Run _ _ _ _ (T442.setTop (mkF m 122 #[.val (.int p1), .val (.int p2), .val (.long p3), .second, .val (.int (5 : Int32)), .val (.ref o_GZIP_TAR), .val (.int (257 : Int32)), .unset, .unset, .unset, .unset, .unset] []))
    refine Run.step (fun t_ k_ => XS.iload X442.here hx rfl (hb hby at_122) rfl (XS.iconst X442.here hx rfl (hb hby at_124) (XS.icmpNo X442.here hx rfl (hb hby at_125) rfl (XT.ii_lt_f (by decide : ¬ ((5 : Int32) < (4 : Int32)))) (XS.iconst X442.here hx rfl (hb hby at_128) (XS.istore X442.here hx rfl (hb hby at_129) rfl (l' := #[.val (.int p1), .val (.int p2), .val (.long p3), .second, .val (.int (5 : Int32)), .val (.ref o_GZIP_TAR), .val (.int (257 : Int32)), .val (.int (5 : Int32)), .unset, .unset, .unset, .unset]) rfl (XS.goto X442.here hx rfl (pc0 := 131) (pc' := 137) rfl (hb hby at_131) (by decide) (by decide) k_)))))) ?_
    show Run _ _ _ _ (T442.setTop (mkF m 137 #[.val (.int p1), .val (.int p2), .val (.long p3), .second, .val (.int (5 : Int32)), .val (.ref o_GZIP_TAR), .val (.int (257 : Int32)), .val (.int (5 : Int32)), .unset, .unset, .unset, .unset] []))
    refine Run.step (fun t_ k_ => XS.iload X442.here hx rfl (hb hby at_137) rfl (XS.iloadN X442.here hx rfl (hb hby at_139) rfl (XS.bipush X442.here hx rfl (hb hby at_140) (XS.iand X442.here hx rfl (hb hby at_142) rfl (XS.iadd X442.here hx rfl (hb hby at_143) rfl (XS.istore X442.here hx rfl (hb hby at_144) rfl (l' := #[.val (.int p1), .val (.int p2), .val (.long p3), .second, .val (.int (5 : Int32)), .val (.ref o_GZIP_TAR), .val (.int (257 : Int32)), .val (.int (5 : Int32)), .val (.int ((257 : Int32) + (p2 &&& (7 : Int32)))), .unset, .unset, .unset]) rfl k_)))))) ?_
    show Run _ _ _ _ (T442.setTop (mkF m 146 #[.val (.int p1), .val (.int p2), .val (.long p3), .second, .val (.int (5 : Int32)), .val (.ref o_GZIP_TAR), .val (.int (257 : Int32)), .val (.int (5 : Int32)), .val (.int ((257 : Int32) + (p2 &&& (7 : Int32)))), .unset, .unset, .unset] []))
    refine Run.step (fun t_ k_ => XS.iloadN X442.here hx rfl (hb hby at_146) rfl (XS.iconst X442.here hx rfl (hb hby at_147) (XS.iushr X442.here hx rfl (hb hby at_148) rfl (XS.bipush X442.here hx rfl (hb hby at_149) (XS.iand X442.here hx rfl (hb hby at_151) rfl (XS.istore X442.here hx rfl (hb hby at_152) rfl (l' := #[.val (.int p1), .val (.int p2), .val (.long p3), .second, .val (.int (5 : Int32)), .val (.ref o_GZIP_TAR), .val (.int (257 : Int32)), .val (.int (5 : Int32)), .val (.int ((257 : Int32) + (p2 &&& (7 : Int32)))), .val (.int (((p2.toUInt32 >>> ((3 : Int32) &&& 31).toUInt32).toInt32) &&& (63 : Int32))), .unset, .unset]) rfl k_)))))) ?_
    show Run _ _ _ _ (T442.setTop (mkF m 154 #[.val (.int p1), .val (.int p2), .val (.long p3), .second, .val (.int (5 : Int32)), .val (.ref o_GZIP_TAR), .val (.int (257 : Int32)), .val (.int (5 : Int32)), .val (.int ((257 : Int32) + (p2 &&& (7 : Int32)))), .val (.int (((p2.toUInt32 >>> ((3 : Int32) &&& 31).toUInt32).toInt32) &&& (63 : Int32))), .unset, .unset] []))
    obtain ⟨nn, hnn⟩ : ∃ z, z = ((257 : Int32) + (p2 &&& (7 : Int32))) := ⟨_, rfl⟩
    rw [← hnn]
    have nn0 : ¬ nn < 0 := by rw [hnn]; exact (own_n257 p2).1
    have nn1 : nn.toNatClampNeg ≤ 264 := by rw [hnn]; exact (own_n257 p2).2
    obtain ⟨sl, hsl⟩ : ∃ z, z = (((p2.toUInt32 >>> ((3 : Int32) &&& 31).toUInt32).toInt32) &&& (63 : Int32)) := ⟨_, rfl⟩
    rw [← hsl]
    show Run _ _ _ _ (T442.setTop (mkF m 154 #[.val (.int p1), .val (.int p2), .val (.long p3), .second, .val (.int (5 : Int32)), .val (.ref o_GZIP_TAR), .val (.int (257 : Int32)), .val (.int (5 : Int32)), .val (.int nn), .val (.int sl), .unset, .unset] []))
    refine Run.step (fun t_ k_ => XS.iload X442.here hx rfl (hb hby at_154) rfl k_) ?_
    show Run _ _ _ _ (T442.setTop (mkF m 156 #[.val (.int p1), .val (.int p2), .val (.long p3), .second, .val (.int (5 : Int32)), .val (.ref o_GZIP_TAR), .val (.int (257 : Int32)), .val (.int (5 : Int32)), .val (.int nn), .val (.int sl), .unset, .unset] [(.int nn)]))
    obtain ⟨T443, h443, k443, X443, e443, E443, A443, st443⟩ := newP (aty := .byte) X442 hx hZ w4 e442 (g := (mkF m 156 #[.val (.int p1), .val (.int p2), .val (.long p3), .second, .val (.int (5 : Int32)), .val (.ref o_GZIP_TAR), .val (.int (257 : Int32)), .val (.int (5 : Int32)), .val (.int nn), .val (.int sl), .unset, .unset] [(.int nn)])) rfl (hb hby at_156) rfl nn0 (cap := 264) nn1 (by decide) (by decide) (by decide)
    obtain ⟨b443, g443⟩ : ∃ z, z = h0.size := ⟨_, rfl⟩
    rw [← g443] at A443 st443
    refine Run.step st443 ?_
    have g_b443 : n0 ≤ b443 := Nat.le_trans Z0 (Nat.le_of_eq g443.symm)
    have z444 := Nat.le_trans Z0 E443.1
    have O445 := O0.ext E443
    have f446 : Arv Z h443 b443 k443 .byte nn [] (.int (0 : Int32)) := Arv.pad (Arv.new A443 nn0) (pad_rep [] (.int (0 : Int32)) 0)
    show Run _ _ _ _ (T443.setTop (mkF m 158 #[.val (.int p1), .val (.int p2), .val (.long p3), .second, .val (.int (5 : Int32)), .val (.ref o_GZIP_TAR), .val (.int (257 : Int32)), .val (.int (5 : Int32)), .val (.int nn), .val (.int sl), .unset, .unset] [(.ref b443)]))
    refine Run.step (fun t_ k_ => XS.astore X443.here hx rfl (hb hby at_158) rfl rfl (l' := #[.val (.int p1), .val (.int p2), .val (.long p3), .second, .val (.int (5 : Int32)), .val (.ref o_GZIP_TAR), .val (.int (257 : Int32)), .val (.int (5 : Int32)), .val (.int nn), .val (.int sl), .val (.ref b443), .unset]) rfl k_) ?_
    show Run _ _ _ _ (T443.setTop (mkF m 160 #[.val (.int p1), .val (.int p2), .val (.long p3), .second, .val (.int (5 : Int32)), .val (.ref o_GZIP_TAR), .val (.int (257 : Int32)), .val (.int (5 : Int32)), .val (.int nn), .val (.int sl), .val (.ref b443), .unset] []))
    have fB := Bv.new f446
    refine Run.step (fun t_ k_ => XS.aload X443.here hx rfl (hb hby at_160) rfl rfl (XS.iload X443.here hx rfl (hb hby at_162) rfl (XS.iload X443.here hx rfl (hb hby at_164) rfl (XS.iconst X443.here hx rfl (hb hby at_166) (XS.iload X443.here hx rfl (hb hby at_167) rfl (XS.lloadN X443.here hx rfl (hb hby at_169) rfl k_)))))) ?_
    show Run _ _ _ _ (T443.setTop (mkF m 170 #[.val (.int p1), .val (.int p2), .val (.long p3), .second, .val (.int (5 : Int32)), .val (.ref o_GZIP_TAR), .val (.int (257 : Int32)), .val (.int (5 : Int32)), .val (.int nn), .val (.int sl), .val (.ref b443), .unset] [(.long p3), (.int sl), (.int (0 : Int32)), (.int (5 : Int32)), (.int (257 : Int32)), (.ref b443)]))
    obtain ⟨_, _, ⟨T447, L447, k447, n447⟩, -, X447, ⟨Lc447, hQ447, l447, y447, z447⟩, st447⟩ := Jvm.LawKit.callS X443 hx (y := (⟨"cleave/io/PackedFormatHoldsMagicPinLaw", "pick", "(IIIJ)B"⟩ : MethodName)) hown (mvT hZ w5) (mvT hZ w6) (mvT hZ w7) (mvT hZ w8) (by decide) (backOf (W := 2) (rm1 l Z a0 hw [] (5 : Int32) (0 : Int32) sl p3 h443 n0 z444) hZ w8 w7 (by decide) (by decide)) (g := (mkF m 170 #[.val (.int p1), .val (.int p2), .val (.long p3), .second, .val (.int (5 : Int32)), .val (.ref o_GZIP_TAR), .val (.int (257 : Int32)), .val (.int (5 : Int32)), .val (.int nn), .val (.int sl), .val (.ref b443), .unset] [(.long p3), (.int sl), (.int (0 : Int32)), (.int (5 : Int32)), (.int (257 : Int32)), (.ref b443)])) rfl (by rw [hml]; rfl) (argsL := [(.int (5 : Int32)), (.int (0 : Int32)), (.int sl), (.long p3)]) (rest := [(.int (257 : Int32)), (.ref b443)]) (lenOf pd__28IIIJ_29B rfl) rfl (by show 2 * 0 + _ ≤ _; exact Nat.le_of_eq rfl) (hb hby at_170) (fun _ _ => ⟨rfl, e443, (by decide : 1 + 0 ≤ _), (by decide : 264 + 0 ≤ _)⟩)
    dsimp only [Pt.U, Pt.locs, Pt.cells, Pt.slots] at X447 l447 y447 z447 st447 hQ447
    subst l447 y447 z447
    refine Run.step (st447) ?_
    obtain ⟨rfl, N447q, e447q⟩ := hQ447
    have N447 := Fr.app N0 N447q
    show Run _ _ _ _ (T447.setTop (mkF m 173 #[.val (.int p1), .val (.int p2), .val (.long p3), .second, .val (.int (5 : Int32)), .val (.ref o_GZIP_TAR), .val (.int (257 : Int32)), .val (.int (5 : Int32)), .val (.int nn), .val (.int sl), .val (.ref b443), .unset] [(.int (own_pick (5 : Int32) (0 : Int32) sl p3)), (.int (257 : Int32)), (.ref b443)]))
    obtain ⟨b0, hb0⟩ : ∃ z, z = (own_pick (5 : Int32) (0 : Int32) sl p3) := ⟨_, rfl⟩
    rw [← hb0]
    have nb0 : nar .byte b0 = b0 := by rw [hb0]; exact own_pickb _ _ _ _
    show Run _ _ _ _ (T447.setTop (mkF m 173 #[.val (.int p1), .val (.int p2), .val (.long p3), .second, .val (.int (5 : Int32)), .val (.ref o_GZIP_TAR), .val (.int (257 : Int32)), .val (.int (5 : Int32)), .val (.int nn), .val (.int sl), .val (.ref b443), .unset] [(.int b0), (.int (257 : Int32)), (.ref b443)]))
    obtain ⟨_, _, ⟨T448, L448, k448, n448⟩, -, X448, ⟨Lc448, hQ448, l448, y448, z448⟩, st448⟩ := Jvm.LawKit.callS X447 hx (y := (⟨"cleave/io/PackedFormatHoldsMagicPinLaw", "put", "([BIB)V"⟩ : MethodName)) hown (mvT hZ w9) (mvT hZ w10) (mvT hZ w7) (mvT hZ w11) (by decide) (backOf (W := 0) (rm2 l Z a0 hw [] b443 (257 : Int32) b0 nn (fun _ => 0) h443 n0 z444 fB (by decide) nb0 g_b443) hZ w11 w7 (by decide) (by decide)) (g := (mkF m 173 #[.val (.int p1), .val (.int p2), .val (.long p3), .second, .val (.int (5 : Int32)), .val (.ref o_GZIP_TAR), .val (.int (257 : Int32)), .val (.int (5 : Int32)), .val (.int nn), .val (.int sl), .val (.ref b443), .unset] [(.int b0), (.int (257 : Int32)), (.ref b443)])) rfl (by rw [hml]; rfl) (argsL := [(.ref b443), (.int (257 : Int32)), (.int b0)]) (rest := []) (lenOf pd__28_5bBIB_29V rfl) rfl (by show 2 * 0 + _ ≤ _; exact Nat.le_of_eq rfl) (hb hby at_173) (fun _ _ => ⟨rfl, e447q, (by decide : 1 + 0 ≤ _), (by decide : 264 + 0 ≤ _)⟩)
    dsimp only [Pt.U, Pt.locs, Pt.cells, Pt.slots] at X448 l448 y448 z448 st448 hQ448
    subst l448 y448 z448
    refine Run.step (st448) ?_
    obtain ⟨rfl, N448q, K448q, fv448⟩ := hQ448
    have N448 := Fr.app N447 N448q
    have z450 := Nat.le_trans z444 K448q.1
    have O451 := O445.keep K448q (allS g_b443 all0)
    obtain ⟨gg448, hg448⟩ : ∃ z, z = own_up (fun _ => 0) (257 : Int32).toNatClampNeg b0 := ⟨_, rfl⟩
    rw [← hg448] at fv448
    show Run _ _ _ _ (T448.setTop (mkF m 176 #[.val (.int p1), .val (.int p2), .val (.long p3), .second, .val (.int (5 : Int32)), .val (.ref o_GZIP_TAR), .val (.int (257 : Int32)), .val (.int (5 : Int32)), .val (.int nn), .val (.int sl), .val (.ref b443), .unset] []))
    refine Run.step (fun t_ k_ => XS.aload X448.here hx rfl (hb hby at_176) rfl rfl (XS.iload X448.here hx rfl (hb hby at_178) rfl (XS.iconst X448.here hx rfl (hb hby at_180) (XS.iadd X448.here hx rfl (hb hby at_181) rfl (XS.iload X448.here hx rfl (hb hby at_182) rfl (XS.iconst X448.here hx rfl (hb hby at_184) k_)))))) ?_
    show Run _ _ _ _ (T448.setTop (mkF m 185 #[.val (.int p1), .val (.int p2), .val (.long p3), .second, .val (.int (5 : Int32)), .val (.ref o_GZIP_TAR), .val (.int (257 : Int32)), .val (.int (5 : Int32)), .val (.int nn), .val (.int sl), .val (.ref b443), .unset] [(.int (1 : Int32)), (.int (5 : Int32)), (.int (258 : Int32)), (.ref b443)]))
    refine Run.step (fun t_ k_ => XS.iload X448.here hx rfl (hb hby at_185) rfl (XS.lloadN X448.here hx rfl (hb hby at_187) rfl k_)) ?_
    show Run _ _ _ _ (T448.setTop (mkF m 188 #[.val (.int p1), .val (.int p2), .val (.long p3), .second, .val (.int (5 : Int32)), .val (.ref o_GZIP_TAR), .val (.int (257 : Int32)), .val (.int (5 : Int32)), .val (.int nn), .val (.int sl), .val (.ref b443), .unset] [(.long p3), (.int sl), (.int (1 : Int32)), (.int (5 : Int32)), (.int (258 : Int32)), (.ref b443)]))
    obtain ⟨_, _, ⟨T452, L452, k452, n452⟩, -, X452, ⟨Lc452, hQ452, l452, y452, z452⟩, st452⟩ := Jvm.LawKit.callS X448 hx (y := (⟨"cleave/io/PackedFormatHoldsMagicPinLaw", "pick", "(IIIJ)B"⟩ : MethodName)) hown (mvT hZ w5) (mvT hZ w6) (mvT hZ w7) (mvT hZ w8) (by decide) (backOf (W := 2) (rm1 l Z a0 hw [] (5 : Int32) (1 : Int32) sl p3 T448.heap n0 z450) hZ w8 w7 (by decide) (by decide)) (g := (mkF m 188 #[.val (.int p1), .val (.int p2), .val (.long p3), .second, .val (.int (5 : Int32)), .val (.ref o_GZIP_TAR), .val (.int (257 : Int32)), .val (.int (5 : Int32)), .val (.int nn), .val (.int sl), .val (.ref b443), .unset] [(.long p3), (.int sl), (.int (1 : Int32)), (.int (5 : Int32)), (.int (258 : Int32)), (.ref b443)])) rfl (by rw [hml]; rfl) (argsL := [(.int (5 : Int32)), (.int (1 : Int32)), (.int sl), (.long p3)]) (rest := [(.int (258 : Int32)), (.ref b443)]) (lenOf pd__28IIIJ_29B rfl) rfl (by show 2 * 0 + _ ≤ _; exact Nat.le_of_eq rfl) (hb hby at_188) (fun _ _ => ⟨rfl, rfl, (by decide : 1 + 0 ≤ _), (by decide : 264 + 0 ≤ _)⟩)
    dsimp only [Pt.U, Pt.locs, Pt.cells, Pt.slots] at X452 l452 y452 z452 st452 hQ452
    subst l452 y452 z452
    refine Run.step (st452) ?_
    obtain ⟨rfl, N452q, e452q⟩ := hQ452
    have N452 := Fr.app N448 N452q
    show Run _ _ _ _ (T452.setTop (mkF m 191 #[.val (.int p1), .val (.int p2), .val (.long p3), .second, .val (.int (5 : Int32)), .val (.ref o_GZIP_TAR), .val (.int (257 : Int32)), .val (.int (5 : Int32)), .val (.int nn), .val (.int sl), .val (.ref b443), .unset] [(.int (own_pick (5 : Int32) (1 : Int32) sl p3)), (.int (258 : Int32)), (.ref b443)]))
    obtain ⟨b1, hb1⟩ : ∃ z, z = (own_pick (5 : Int32) (1 : Int32) sl p3) := ⟨_, rfl⟩
    rw [← hb1]
    have nb1 : nar .byte b1 = b1 := by rw [hb1]; exact own_pickb _ _ _ _
    show Run _ _ _ _ (T452.setTop (mkF m 191 #[.val (.int p1), .val (.int p2), .val (.long p3), .second, .val (.int (5 : Int32)), .val (.ref o_GZIP_TAR), .val (.int (257 : Int32)), .val (.int (5 : Int32)), .val (.int nn), .val (.int sl), .val (.ref b443), .unset] [(.int b1), (.int (258 : Int32)), (.ref b443)]))
    obtain ⟨_, _, ⟨T453, L453, k453, n453⟩, -, X453, ⟨Lc453, hQ453, l453, y453, z453⟩, st453⟩ := Jvm.LawKit.callS X452 hx (y := (⟨"cleave/io/PackedFormatHoldsMagicPinLaw", "put", "([BIB)V"⟩ : MethodName)) hown (mvT hZ w9) (mvT hZ w10) (mvT hZ w7) (mvT hZ w11) (by decide) (backOf (W := 0) (rm2 l Z a0 hw [] b443 (258 : Int32) b1 nn gg448 T448.heap n0 z450 fv448 (by decide) nb1 g_b443) hZ w11 w7 (by decide) (by decide)) (g := (mkF m 191 #[.val (.int p1), .val (.int p2), .val (.long p3), .second, .val (.int (5 : Int32)), .val (.ref o_GZIP_TAR), .val (.int (257 : Int32)), .val (.int (5 : Int32)), .val (.int nn), .val (.int sl), .val (.ref b443), .unset] [(.int b1), (.int (258 : Int32)), (.ref b443)])) rfl (by rw [hml]; rfl) (argsL := [(.ref b443), (.int (258 : Int32)), (.int b1)]) (rest := []) (lenOf pd__28_5bBIB_29V rfl) rfl (by show 2 * 0 + _ ≤ _; exact Nat.le_of_eq rfl) (hb hby at_191) (fun _ _ => ⟨rfl, e452q, (by decide : 1 + 0 ≤ _), (by decide : 264 + 0 ≤ _)⟩)
    dsimp only [Pt.U, Pt.locs, Pt.cells, Pt.slots] at X453 l453 y453 z453 st453 hQ453
    subst l453 y453 z453
    refine Run.step (st453) ?_
    obtain ⟨rfl, N453q, K453q, fv453⟩ := hQ453
    have N453 := Fr.app N452 N453q
    have z455 := Nat.le_trans z450 K453q.1
    have O456 := O451.keep K453q (allS g_b443 all0)
    obtain ⟨gg453, hg453⟩ : ∃ z, z = own_up gg448 (258 : Int32).toNatClampNeg b1 := ⟨_, rfl⟩
    rw [← hg453] at fv453
    show Run _ _ _ _ (T453.setTop (mkF m 194 #[.val (.int p1), .val (.int p2), .val (.long p3), .second, .val (.int (5 : Int32)), .val (.ref o_GZIP_TAR), .val (.int (257 : Int32)), .val (.int (5 : Int32)), .val (.int nn), .val (.int sl), .val (.ref b443), .unset] []))
    refine Run.step (fun t_ k_ => XS.aload X453.here hx rfl (hb hby at_194) rfl rfl (XS.iload X453.here hx rfl (hb hby at_196) rfl (XS.iconst X453.here hx rfl (hb hby at_198) (XS.iadd X453.here hx rfl (hb hby at_199) rfl (XS.iload X453.here hx rfl (hb hby at_200) rfl (XS.iconst X453.here hx rfl (hb hby at_202) k_)))))) ?_
    show Run _ _ _ _ (T453.setTop (mkF m 203 #[.val (.int p1), .val (.int p2), .val (.long p3), .second, .val (.int (5 : Int32)), .val (.ref o_GZIP_TAR), .val (.int (257 : Int32)), .val (.int (5 : Int32)), .val (.int nn), .val (.int sl), .val (.ref b443), .unset] [(.int (2 : Int32)), (.int (5 : Int32)), (.int (259 : Int32)), (.ref b443)]))
    refine Run.step (fun t_ k_ => XS.iload X453.here hx rfl (hb hby at_203) rfl (XS.lloadN X453.here hx rfl (hb hby at_205) rfl k_)) ?_
    show Run _ _ _ _ (T453.setTop (mkF m 206 #[.val (.int p1), .val (.int p2), .val (.long p3), .second, .val (.int (5 : Int32)), .val (.ref o_GZIP_TAR), .val (.int (257 : Int32)), .val (.int (5 : Int32)), .val (.int nn), .val (.int sl), .val (.ref b443), .unset] [(.long p3), (.int sl), (.int (2 : Int32)), (.int (5 : Int32)), (.int (259 : Int32)), (.ref b443)]))
    obtain ⟨_, _, ⟨T457, L457, k457, n457⟩, -, X457, ⟨Lc457, hQ457, l457, y457, z457⟩, st457⟩ := Jvm.LawKit.callS X453 hx (y := (⟨"cleave/io/PackedFormatHoldsMagicPinLaw", "pick", "(IIIJ)B"⟩ : MethodName)) hown (mvT hZ w5) (mvT hZ w6) (mvT hZ w7) (mvT hZ w8) (by decide) (backOf (W := 2) (rm1 l Z a0 hw [] (5 : Int32) (2 : Int32) sl p3 T453.heap n0 z455) hZ w8 w7 (by decide) (by decide)) (g := (mkF m 206 #[.val (.int p1), .val (.int p2), .val (.long p3), .second, .val (.int (5 : Int32)), .val (.ref o_GZIP_TAR), .val (.int (257 : Int32)), .val (.int (5 : Int32)), .val (.int nn), .val (.int sl), .val (.ref b443), .unset] [(.long p3), (.int sl), (.int (2 : Int32)), (.int (5 : Int32)), (.int (259 : Int32)), (.ref b443)])) rfl (by rw [hml]; rfl) (argsL := [(.int (5 : Int32)), (.int (2 : Int32)), (.int sl), (.long p3)]) (rest := [(.int (259 : Int32)), (.ref b443)]) (lenOf pd__28IIIJ_29B rfl) rfl (by show 2 * 0 + _ ≤ _; exact Nat.le_of_eq rfl) (hb hby at_206) (fun _ _ => ⟨rfl, rfl, (by decide : 1 + 0 ≤ _), (by decide : 264 + 0 ≤ _)⟩)
    dsimp only [Pt.U, Pt.locs, Pt.cells, Pt.slots] at X457 l457 y457 z457 st457 hQ457
    subst l457 y457 z457
    refine Run.step (st457) ?_
    obtain ⟨rfl, N457q, e457q⟩ := hQ457
    have N457 := Fr.app N453 N457q
    show Run _ _ _ _ (T457.setTop (mkF m 209 #[.val (.int p1), .val (.int p2), .val (.long p3), .second, .val (.int (5 : Int32)), .val (.ref o_GZIP_TAR), .val (.int (257 : Int32)), .val (.int (5 : Int32)), .val (.int nn), .val (.int sl), .val (.ref b443), .unset] [(.int (own_pick (5 : Int32) (2 : Int32) sl p3)), (.int (259 : Int32)), (.ref b443)]))
    obtain ⟨b2, hb2⟩ : ∃ z, z = (own_pick (5 : Int32) (2 : Int32) sl p3) := ⟨_, rfl⟩
    rw [← hb2]
    have nb2 : nar .byte b2 = b2 := by rw [hb2]; exact own_pickb _ _ _ _
    show Run _ _ _ _ (T457.setTop (mkF m 209 #[.val (.int p1), .val (.int p2), .val (.long p3), .second, .val (.int (5 : Int32)), .val (.ref o_GZIP_TAR), .val (.int (257 : Int32)), .val (.int (5 : Int32)), .val (.int nn), .val (.int sl), .val (.ref b443), .unset] [(.int b2), (.int (259 : Int32)), (.ref b443)]))
    obtain ⟨_, _, ⟨T458, L458, k458, n458⟩, -, X458, ⟨Lc458, hQ458, l458, y458, z458⟩, st458⟩ := Jvm.LawKit.callS X457 hx (y := (⟨"cleave/io/PackedFormatHoldsMagicPinLaw", "put", "([BIB)V"⟩ : MethodName)) hown (mvT hZ w9) (mvT hZ w10) (mvT hZ w7) (mvT hZ w11) (by decide) (backOf (W := 0) (rm2 l Z a0 hw [] b443 (259 : Int32) b2 nn gg453 T453.heap n0 z455 fv453 (by decide) nb2 g_b443) hZ w11 w7 (by decide) (by decide)) (g := (mkF m 209 #[.val (.int p1), .val (.int p2), .val (.long p3), .second, .val (.int (5 : Int32)), .val (.ref o_GZIP_TAR), .val (.int (257 : Int32)), .val (.int (5 : Int32)), .val (.int nn), .val (.int sl), .val (.ref b443), .unset] [(.int b2), (.int (259 : Int32)), (.ref b443)])) rfl (by rw [hml]; rfl) (argsL := [(.ref b443), (.int (259 : Int32)), (.int b2)]) (rest := []) (lenOf pd__28_5bBIB_29V rfl) rfl (by show 2 * 0 + _ ≤ _; exact Nat.le_of_eq rfl) (hb hby at_209) (fun _ _ => ⟨rfl, e457q, (by decide : 1 + 0 ≤ _), (by decide : 264 + 0 ≤ _)⟩)
    dsimp only [Pt.U, Pt.locs, Pt.cells, Pt.slots] at X458 l458 y458 z458 st458 hQ458
    subst l458 y458 z458
    refine Run.step (st458) ?_
    obtain ⟨rfl, N458q, K458q, fv458⟩ := hQ458
    have N458 := Fr.app N457 N458q
    have z460 := Nat.le_trans z455 K458q.1
    have O461 := O456.keep K458q (allS g_b443 all0)
    obtain ⟨gg458, hg458⟩ : ∃ z, z = own_up gg453 (259 : Int32).toNatClampNeg b2 := ⟨_, rfl⟩
    rw [← hg458] at fv458
    show Run _ _ _ _ (T458.setTop (mkF m 212 #[.val (.int p1), .val (.int p2), .val (.long p3), .second, .val (.int (5 : Int32)), .val (.ref o_GZIP_TAR), .val (.int (257 : Int32)), .val (.int (5 : Int32)), .val (.int nn), .val (.int sl), .val (.ref b443), .unset] []))
    refine Run.step (fun t_ k_ => XS.aload X458.here hx rfl (hb hby at_212) rfl rfl (XS.iload X458.here hx rfl (hb hby at_214) rfl (XS.iconst X458.here hx rfl (hb hby at_216) (XS.iadd X458.here hx rfl (hb hby at_217) rfl (XS.iload X458.here hx rfl (hb hby at_218) rfl (XS.iconst X458.here hx rfl (hb hby at_220) k_)))))) ?_
    show Run _ _ _ _ (T458.setTop (mkF m 221 #[.val (.int p1), .val (.int p2), .val (.long p3), .second, .val (.int (5 : Int32)), .val (.ref o_GZIP_TAR), .val (.int (257 : Int32)), .val (.int (5 : Int32)), .val (.int nn), .val (.int sl), .val (.ref b443), .unset] [(.int (3 : Int32)), (.int (5 : Int32)), (.int (260 : Int32)), (.ref b443)]))
    refine Run.step (fun t_ k_ => XS.iload X458.here hx rfl (hb hby at_221) rfl (XS.lloadN X458.here hx rfl (hb hby at_223) rfl k_)) ?_
    show Run _ _ _ _ (T458.setTop (mkF m 224 #[.val (.int p1), .val (.int p2), .val (.long p3), .second, .val (.int (5 : Int32)), .val (.ref o_GZIP_TAR), .val (.int (257 : Int32)), .val (.int (5 : Int32)), .val (.int nn), .val (.int sl), .val (.ref b443), .unset] [(.long p3), (.int sl), (.int (3 : Int32)), (.int (5 : Int32)), (.int (260 : Int32)), (.ref b443)]))
    obtain ⟨_, _, ⟨T462, L462, k462, n462⟩, -, X462, ⟨Lc462, hQ462, l462, y462, z462⟩, st462⟩ := Jvm.LawKit.callS X458 hx (y := (⟨"cleave/io/PackedFormatHoldsMagicPinLaw", "pick", "(IIIJ)B"⟩ : MethodName)) hown (mvT hZ w5) (mvT hZ w6) (mvT hZ w7) (mvT hZ w8) (by decide) (backOf (W := 2) (rm1 l Z a0 hw [] (5 : Int32) (3 : Int32) sl p3 T458.heap n0 z460) hZ w8 w7 (by decide) (by decide)) (g := (mkF m 224 #[.val (.int p1), .val (.int p2), .val (.long p3), .second, .val (.int (5 : Int32)), .val (.ref o_GZIP_TAR), .val (.int (257 : Int32)), .val (.int (5 : Int32)), .val (.int nn), .val (.int sl), .val (.ref b443), .unset] [(.long p3), (.int sl), (.int (3 : Int32)), (.int (5 : Int32)), (.int (260 : Int32)), (.ref b443)])) rfl (by rw [hml]; rfl) (argsL := [(.int (5 : Int32)), (.int (3 : Int32)), (.int sl), (.long p3)]) (rest := [(.int (260 : Int32)), (.ref b443)]) (lenOf pd__28IIIJ_29B rfl) rfl (by show 2 * 0 + _ ≤ _; exact Nat.le_of_eq rfl) (hb hby at_224) (fun _ _ => ⟨rfl, rfl, (by decide : 1 + 0 ≤ _), (by decide : 264 + 0 ≤ _)⟩)
    dsimp only [Pt.U, Pt.locs, Pt.cells, Pt.slots] at X462 l462 y462 z462 st462 hQ462
    subst l462 y462 z462
    refine Run.step (st462) ?_
    obtain ⟨rfl, N462q, e462q⟩ := hQ462
    have N462 := Fr.app N458 N462q
    show Run _ _ _ _ (T462.setTop (mkF m 227 #[.val (.int p1), .val (.int p2), .val (.long p3), .second, .val (.int (5 : Int32)), .val (.ref o_GZIP_TAR), .val (.int (257 : Int32)), .val (.int (5 : Int32)), .val (.int nn), .val (.int sl), .val (.ref b443), .unset] [(.int (own_pick (5 : Int32) (3 : Int32) sl p3)), (.int (260 : Int32)), (.ref b443)]))
    obtain ⟨b3, hb3⟩ : ∃ z, z = (own_pick (5 : Int32) (3 : Int32) sl p3) := ⟨_, rfl⟩
    rw [← hb3]
    have nb3 : nar .byte b3 = b3 := by rw [hb3]; exact own_pickb _ _ _ _
    show Run _ _ _ _ (T462.setTop (mkF m 227 #[.val (.int p1), .val (.int p2), .val (.long p3), .second, .val (.int (5 : Int32)), .val (.ref o_GZIP_TAR), .val (.int (257 : Int32)), .val (.int (5 : Int32)), .val (.int nn), .val (.int sl), .val (.ref b443), .unset] [(.int b3), (.int (260 : Int32)), (.ref b443)]))
    obtain ⟨_, _, ⟨T463, L463, k463, n463⟩, -, X463, ⟨Lc463, hQ463, l463, y463, z463⟩, st463⟩ := Jvm.LawKit.callS X462 hx (y := (⟨"cleave/io/PackedFormatHoldsMagicPinLaw", "put", "([BIB)V"⟩ : MethodName)) hown (mvT hZ w9) (mvT hZ w10) (mvT hZ w7) (mvT hZ w11) (by decide) (backOf (W := 0) (rm2 l Z a0 hw [] b443 (260 : Int32) b3 nn gg458 T458.heap n0 z460 fv458 (by decide) nb3 g_b443) hZ w11 w7 (by decide) (by decide)) (g := (mkF m 227 #[.val (.int p1), .val (.int p2), .val (.long p3), .second, .val (.int (5 : Int32)), .val (.ref o_GZIP_TAR), .val (.int (257 : Int32)), .val (.int (5 : Int32)), .val (.int nn), .val (.int sl), .val (.ref b443), .unset] [(.int b3), (.int (260 : Int32)), (.ref b443)])) rfl (by rw [hml]; rfl) (argsL := [(.ref b443), (.int (260 : Int32)), (.int b3)]) (rest := []) (lenOf pd__28_5bBIB_29V rfl) rfl (by show 2 * 0 + _ ≤ _; exact Nat.le_of_eq rfl) (hb hby at_227) (fun _ _ => ⟨rfl, e462q, (by decide : 1 + 0 ≤ _), (by decide : 264 + 0 ≤ _)⟩)
    dsimp only [Pt.U, Pt.locs, Pt.cells, Pt.slots] at X463 l463 y463 z463 st463 hQ463
    subst l463 y463 z463
    refine Run.step (st463) ?_
    obtain ⟨rfl, N463q, K463q, fv463⟩ := hQ463
    have N463 := Fr.app N462 N463q
    have z465 := Nat.le_trans z460 K463q.1
    have O466 := O461.keep K463q (allS g_b443 all0)
    obtain ⟨gg463, hg463⟩ : ∃ z, z = own_up gg458 (260 : Int32).toNatClampNeg b3 := ⟨_, rfl⟩
    rw [← hg463] at fv463
    show Run _ _ _ _ (T463.setTop (mkF m 230 #[.val (.int p1), .val (.int p2), .val (.long p3), .second, .val (.int (5 : Int32)), .val (.ref o_GZIP_TAR), .val (.int (257 : Int32)), .val (.int (5 : Int32)), .val (.int nn), .val (.int sl), .val (.ref b443), .unset] []))
    refine Run.step (fun t_ k_ => XS.aload X463.here hx rfl (hb hby at_230) rfl rfl (XS.iload X463.here hx rfl (hb hby at_232) rfl (XS.iconst X463.here hx rfl (hb hby at_234) (XS.iadd X463.here hx rfl (hb hby at_235) rfl (XS.iload X463.here hx rfl (hb hby at_236) rfl (XS.iconst X463.here hx rfl (hb hby at_238) k_)))))) ?_
    show Run _ _ _ _ (T463.setTop (mkF m 239 #[.val (.int p1), .val (.int p2), .val (.long p3), .second, .val (.int (5 : Int32)), .val (.ref o_GZIP_TAR), .val (.int (257 : Int32)), .val (.int (5 : Int32)), .val (.int nn), .val (.int sl), .val (.ref b443), .unset] [(.int (4 : Int32)), (.int (5 : Int32)), (.int (261 : Int32)), (.ref b443)]))
    refine Run.step (fun t_ k_ => XS.iload X463.here hx rfl (hb hby at_239) rfl (XS.lloadN X463.here hx rfl (hb hby at_241) rfl k_)) ?_
    show Run _ _ _ _ (T463.setTop (mkF m 242 #[.val (.int p1), .val (.int p2), .val (.long p3), .second, .val (.int (5 : Int32)), .val (.ref o_GZIP_TAR), .val (.int (257 : Int32)), .val (.int (5 : Int32)), .val (.int nn), .val (.int sl), .val (.ref b443), .unset] [(.long p3), (.int sl), (.int (4 : Int32)), (.int (5 : Int32)), (.int (261 : Int32)), (.ref b443)]))
    obtain ⟨_, _, ⟨T467, L467, k467, n467⟩, -, X467, ⟨Lc467, hQ467, l467, y467, z467⟩, st467⟩ := Jvm.LawKit.callS X463 hx (y := (⟨"cleave/io/PackedFormatHoldsMagicPinLaw", "pick", "(IIIJ)B"⟩ : MethodName)) hown (mvT hZ w5) (mvT hZ w6) (mvT hZ w7) (mvT hZ w8) (by decide) (backOf (W := 2) (rm1 l Z a0 hw [] (5 : Int32) (4 : Int32) sl p3 T463.heap n0 z465) hZ w8 w7 (by decide) (by decide)) (g := (mkF m 242 #[.val (.int p1), .val (.int p2), .val (.long p3), .second, .val (.int (5 : Int32)), .val (.ref o_GZIP_TAR), .val (.int (257 : Int32)), .val (.int (5 : Int32)), .val (.int nn), .val (.int sl), .val (.ref b443), .unset] [(.long p3), (.int sl), (.int (4 : Int32)), (.int (5 : Int32)), (.int (261 : Int32)), (.ref b443)])) rfl (by rw [hml]; rfl) (argsL := [(.int (5 : Int32)), (.int (4 : Int32)), (.int sl), (.long p3)]) (rest := [(.int (261 : Int32)), (.ref b443)]) (lenOf pd__28IIIJ_29B rfl) rfl (by show 2 * 0 + _ ≤ _; exact Nat.le_of_eq rfl) (hb hby at_242) (fun _ _ => ⟨rfl, rfl, (by decide : 1 + 0 ≤ _), (by decide : 264 + 0 ≤ _)⟩)
    dsimp only [Pt.U, Pt.locs, Pt.cells, Pt.slots] at X467 l467 y467 z467 st467 hQ467
    subst l467 y467 z467
    refine Run.step (st467) ?_
    obtain ⟨rfl, N467q, e467q⟩ := hQ467
    have N467 := Fr.app N463 N467q
    show Run _ _ _ _ (T467.setTop (mkF m 245 #[.val (.int p1), .val (.int p2), .val (.long p3), .second, .val (.int (5 : Int32)), .val (.ref o_GZIP_TAR), .val (.int (257 : Int32)), .val (.int (5 : Int32)), .val (.int nn), .val (.int sl), .val (.ref b443), .unset] [(.int (own_pick (5 : Int32) (4 : Int32) sl p3)), (.int (261 : Int32)), (.ref b443)]))
    obtain ⟨b4, hb4⟩ : ∃ z, z = (own_pick (5 : Int32) (4 : Int32) sl p3) := ⟨_, rfl⟩
    rw [← hb4]
    have nb4 : nar .byte b4 = b4 := by rw [hb4]; exact own_pickb _ _ _ _
    show Run _ _ _ _ (T467.setTop (mkF m 245 #[.val (.int p1), .val (.int p2), .val (.long p3), .second, .val (.int (5 : Int32)), .val (.ref o_GZIP_TAR), .val (.int (257 : Int32)), .val (.int (5 : Int32)), .val (.int nn), .val (.int sl), .val (.ref b443), .unset] [(.int b4), (.int (261 : Int32)), (.ref b443)]))
    obtain ⟨_, _, ⟨T468, L468, k468, n468⟩, -, X468, ⟨Lc468, hQ468, l468, y468, z468⟩, st468⟩ := Jvm.LawKit.callS X467 hx (y := (⟨"cleave/io/PackedFormatHoldsMagicPinLaw", "put", "([BIB)V"⟩ : MethodName)) hown (mvT hZ w9) (mvT hZ w10) (mvT hZ w7) (mvT hZ w11) (by decide) (backOf (W := 0) (rm2 l Z a0 hw [] b443 (261 : Int32) b4 nn gg463 T463.heap n0 z465 fv463 (by decide) nb4 g_b443) hZ w11 w7 (by decide) (by decide)) (g := (mkF m 245 #[.val (.int p1), .val (.int p2), .val (.long p3), .second, .val (.int (5 : Int32)), .val (.ref o_GZIP_TAR), .val (.int (257 : Int32)), .val (.int (5 : Int32)), .val (.int nn), .val (.int sl), .val (.ref b443), .unset] [(.int b4), (.int (261 : Int32)), (.ref b443)])) rfl (by rw [hml]; rfl) (argsL := [(.ref b443), (.int (261 : Int32)), (.int b4)]) (rest := []) (lenOf pd__28_5bBIB_29V rfl) rfl (by show 2 * 0 + _ ≤ _; exact Nat.le_of_eq rfl) (hb hby at_245) (fun _ _ => ⟨rfl, e467q, (by decide : 1 + 0 ≤ _), (by decide : 264 + 0 ≤ _)⟩)
    dsimp only [Pt.U, Pt.locs, Pt.cells, Pt.slots] at X468 l468 y468 z468 st468 hQ468
    subst l468 y468 z468
    refine Run.step (st468) ?_
    obtain ⟨rfl, N468q, K468q, fv468⟩ := hQ468
    have N468 := Fr.app N467 N468q
    have z470 := Nat.le_trans z465 K468q.1
    have O471 := O466.keep K468q (allS g_b443 all0)
    obtain ⟨gg468, hg468⟩ : ∃ z, z = own_up gg463 (261 : Int32).toNatClampNeg b4 := ⟨_, rfl⟩
    rw [← hg468] at fv468
    show Run _ _ _ _ (T468.setTop (mkF m 248 #[.val (.int p1), .val (.int p2), .val (.long p3), .second, .val (.int (5 : Int32)), .val (.ref o_GZIP_TAR), .val (.int (257 : Int32)), .val (.int (5 : Int32)), .val (.int nn), .val (.int sl), .val (.ref b443), .unset] []))
    refine Run.step (fun t_ k_ => XS.aload X468.here hx rfl (hb hby at_248) rfl rfl (XS.iload X468.here hx rfl (hb hby at_250) rfl (XS.iconst X468.here hx rfl (hb hby at_252) (XS.iadd X468.here hx rfl (hb hby at_253) rfl (XS.iload X468.here hx rfl (hb hby at_254) rfl (XS.iconst X468.here hx rfl (hb hby at_256) k_)))))) ?_
    show Run _ _ _ _ (T468.setTop (mkF m 257 #[.val (.int p1), .val (.int p2), .val (.long p3), .second, .val (.int (5 : Int32)), .val (.ref o_GZIP_TAR), .val (.int (257 : Int32)), .val (.int (5 : Int32)), .val (.int nn), .val (.int sl), .val (.ref b443), .unset] [(.int (5 : Int32)), (.int (5 : Int32)), (.int (262 : Int32)), (.ref b443)]))
    refine Run.step (fun t_ k_ => XS.iload X468.here hx rfl (hb hby at_257) rfl (XS.lloadN X468.here hx rfl (hb hby at_259) rfl k_)) ?_
    show Run _ _ _ _ (T468.setTop (mkF m 260 #[.val (.int p1), .val (.int p2), .val (.long p3), .second, .val (.int (5 : Int32)), .val (.ref o_GZIP_TAR), .val (.int (257 : Int32)), .val (.int (5 : Int32)), .val (.int nn), .val (.int sl), .val (.ref b443), .unset] [(.long p3), (.int sl), (.int (5 : Int32)), (.int (5 : Int32)), (.int (262 : Int32)), (.ref b443)]))
    obtain ⟨_, _, ⟨T472, L472, k472, n472⟩, -, X472, ⟨Lc472, hQ472, l472, y472, z472⟩, st472⟩ := Jvm.LawKit.callS X468 hx (y := (⟨"cleave/io/PackedFormatHoldsMagicPinLaw", "pick", "(IIIJ)B"⟩ : MethodName)) hown (mvT hZ w5) (mvT hZ w6) (mvT hZ w7) (mvT hZ w8) (by decide) (backOf (W := 2) (rm1 l Z a0 hw [] (5 : Int32) (5 : Int32) sl p3 T468.heap n0 z470) hZ w8 w7 (by decide) (by decide)) (g := (mkF m 260 #[.val (.int p1), .val (.int p2), .val (.long p3), .second, .val (.int (5 : Int32)), .val (.ref o_GZIP_TAR), .val (.int (257 : Int32)), .val (.int (5 : Int32)), .val (.int nn), .val (.int sl), .val (.ref b443), .unset] [(.long p3), (.int sl), (.int (5 : Int32)), (.int (5 : Int32)), (.int (262 : Int32)), (.ref b443)])) rfl (by rw [hml]; rfl) (argsL := [(.int (5 : Int32)), (.int (5 : Int32)), (.int sl), (.long p3)]) (rest := [(.int (262 : Int32)), (.ref b443)]) (lenOf pd__28IIIJ_29B rfl) rfl (by show 2 * 0 + _ ≤ _; exact Nat.le_of_eq rfl) (hb hby at_260) (fun _ _ => ⟨rfl, rfl, (by decide : 1 + 0 ≤ _), (by decide : 264 + 0 ≤ _)⟩)
    dsimp only [Pt.U, Pt.locs, Pt.cells, Pt.slots] at X472 l472 y472 z472 st472 hQ472
    subst l472 y472 z472
    refine Run.step (st472) ?_
    obtain ⟨rfl, N472q, e472q⟩ := hQ472
    have N472 := Fr.app N468 N472q
    show Run _ _ _ _ (T472.setTop (mkF m 263 #[.val (.int p1), .val (.int p2), .val (.long p3), .second, .val (.int (5 : Int32)), .val (.ref o_GZIP_TAR), .val (.int (257 : Int32)), .val (.int (5 : Int32)), .val (.int nn), .val (.int sl), .val (.ref b443), .unset] [(.int (own_pick (5 : Int32) (5 : Int32) sl p3)), (.int (262 : Int32)), (.ref b443)]))
    obtain ⟨b5, hb5⟩ : ∃ z, z = (own_pick (5 : Int32) (5 : Int32) sl p3) := ⟨_, rfl⟩
    rw [← hb5]
    have nb5 : nar .byte b5 = b5 := by rw [hb5]; exact own_pickb _ _ _ _
    show Run _ _ _ _ (T472.setTop (mkF m 263 #[.val (.int p1), .val (.int p2), .val (.long p3), .second, .val (.int (5 : Int32)), .val (.ref o_GZIP_TAR), .val (.int (257 : Int32)), .val (.int (5 : Int32)), .val (.int nn), .val (.int sl), .val (.ref b443), .unset] [(.int b5), (.int (262 : Int32)), (.ref b443)]))
    obtain ⟨_, _, ⟨T473, L473, k473, n473⟩, -, X473, ⟨Lc473, hQ473, l473, y473, z473⟩, st473⟩ := Jvm.LawKit.callS X472 hx (y := (⟨"cleave/io/PackedFormatHoldsMagicPinLaw", "put", "([BIB)V"⟩ : MethodName)) hown (mvT hZ w9) (mvT hZ w10) (mvT hZ w7) (mvT hZ w11) (by decide) (backOf (W := 0) (rm2 l Z a0 hw [] b443 (262 : Int32) b5 nn gg468 T468.heap n0 z470 fv468 (by decide) nb5 g_b443) hZ w11 w7 (by decide) (by decide)) (g := (mkF m 263 #[.val (.int p1), .val (.int p2), .val (.long p3), .second, .val (.int (5 : Int32)), .val (.ref o_GZIP_TAR), .val (.int (257 : Int32)), .val (.int (5 : Int32)), .val (.int nn), .val (.int sl), .val (.ref b443), .unset] [(.int b5), (.int (262 : Int32)), (.ref b443)])) rfl (by rw [hml]; rfl) (argsL := [(.ref b443), (.int (262 : Int32)), (.int b5)]) (rest := []) (lenOf pd__28_5bBIB_29V rfl) rfl (by show 2 * 0 + _ ≤ _; exact Nat.le_of_eq rfl) (hb hby at_263) (fun _ _ => ⟨rfl, e472q, (by decide : 1 + 0 ≤ _), (by decide : 264 + 0 ≤ _)⟩)
    dsimp only [Pt.U, Pt.locs, Pt.cells, Pt.slots] at X473 l473 y473 z473 st473 hQ473
    subst l473 y473 z473
    refine Run.step (st473) ?_
    obtain ⟨rfl, N473q, K473q, fv473⟩ := hQ473
    have N473 := Fr.app N472 N473q
    have z475 := Nat.le_trans z470 K473q.1
    have O476 := O471.keep K473q (allS g_b443 all0)
    obtain ⟨gg473, hg473⟩ : ∃ z, z = own_up gg468 (262 : Int32).toNatClampNeg b5 := ⟨_, rfl⟩
    rw [← hg473] at fv473
    show Run _ _ _ _ (T473.setTop (mkF m 266 #[.val (.int p1), .val (.int p2), .val (.long p3), .second, .val (.int (5 : Int32)), .val (.ref o_GZIP_TAR), .val (.int (257 : Int32)), .val (.int (5 : Int32)), .val (.int nn), .val (.int sl), .val (.ref b443), .unset] []))
    have v0 : gg473 257 = b0 := by rw [hg473, hg468, hg463, hg458, hg453, hg448]; rfl
    have v1 : gg473 258 = b1 := by rw [hg473, hg468, hg463, hg458, hg453, hg448]; rfl
    have v2 : gg473 259 = b2 := by rw [hg473, hg468, hg463, hg458, hg453, hg448]; rfl
    have v3 : gg473 260 = b3 := by rw [hg473, hg468, hg463, hg458, hg453, hg448]; rfl
    have v4 : gg473 261 = b4 := by rw [hg473, hg468, hg463, hg458, hg453, hg448]; rfl
    have v5 : gg473 262 = b5 := by rw [hg473, hg468, hg463, hg458, hg453, hg448]; rfl
    refine Run.step (fun t_ k_ => XS.iload X473.here hx rfl (hb hby at_266) rfl (XS.iload X473.here hx rfl (hb hby at_268) rfl (XS.iload X473.here hx rfl (hb hby at_270) rfl (XS.iadd X473.here hx rfl (hb hby at_272) rfl k_)))) ?_
    show Run _ _ _ _ (T473.setTop (mkF m 273 #[.val (.int p1), .val (.int p2), .val (.long p3), .second, .val (.int (5 : Int32)), .val (.ref o_GZIP_TAR), .val (.int (257 : Int32)), .val (.int (5 : Int32)), .val (.int nn), .val (.int sl), .val (.ref b443), .unset] [(.int (262 : Int32)), (.int nn)]))
    have J477 : ∀ (TJ477 : State) (LJ477 : List Loc) (XJ477 : Stand p l e room_1 s m #[(.int p1), (.int p2), (.long p3)] below meth c TJ477 LJ477 1 264) (eJ477 : TJ477.heap = T473.heap) (NJ477 : Fr n0 LJ477) (wt : Int32), (wt = if nn < (262 : Int32) then 0 else (if b0 = (117 : Int32) then (if b1 = (115 : Int32) then (if b2 = (116 : Int32) then (if b3 = (97 : Int32) then (if b4 = (114 : Int32) then (1) else 0) else 0) else 0) else 0) else 0)) → Run p.tables e below (PQ s below 16 640 (Q0 Z p1 p2 p3 o_BZIP2 mg_BZIP2 km_BZIP2 o_XZ mg_XZ km_XZ o_ZSTD mg_ZSTD km_ZSTD o_ZIP mg_ZIP km_ZIP o_TAR mg_TAR km_TAR o_GZIP_TAR mg_GZIP_TAR km_GZIP_TAR h0 n0)) (TJ477.setTop (mkF m 372 #[.val (.int p1), .val (.int p2), .val (.long p3), .second, .val (.int (5 : Int32)), .val (.ref o_GZIP_TAR), .val (.int (257 : Int32)), .val (.int (5 : Int32)), .val (.int nn), .val (.int sl), .val (.ref b443), .unset] [(.int wt)])) := by
      intro TJ477 LJ477 XJ477 eJ477 NJ477 wt hv477
      refine Run.step (fun t_ k_ => XS.istore XJ477.here hx rfl (hb hby at_372) rfl (l' := #[.val (.int p1), .val (.int p2), .val (.long p3), .second, .val (.int (5 : Int32)), .val (.ref o_GZIP_TAR), .val (.int (257 : Int32)), .val (.int (5 : Int32)), .val (.int nn), .val (.int sl), .val (.ref b443), .val (.int wt)]) rfl (XS.aload XJ477.here hx rfl (hb hby at_374) rfl rfl (XS.aload XJ477.here hx rfl (hb hby at_376) rfl rfl k_))) ?_
      show Run _ _ _ _ (TJ477.setTop (mkF m 378 #[.val (.int p1), .val (.int p2), .val (.long p3), .second, .val (.int (5 : Int32)), .val (.ref o_GZIP_TAR), .val (.int (257 : Int32)), .val (.int (5 : Int32)), .val (.int nn), .val (.int sl), .val (.ref b443), .val (.int wt)] [(.ref b443), (.ref o_GZIP_TAR)]))
      obtain ⟨cq478, kq478, q478a, q478b, q478c⟩ := isOf hZ eJ477 (E_GZIP_TAR.ext O476.2)
      obtain ⟨_, _, ⟨T478, L478, k478, n478⟩, -, X478, ⟨Lc478, hQ478, l478, y478, z478⟩, st478⟩ := XJ477.virtualBack hx (y := (⟨"cleave/io/PackedFormat", "holdsMagic", "([B)Z"⟩ : MethodName)) (z := (⟨"cleave/io/PackedFormat", "holdsMagic", "([B)Z"⟩ : MethodName)) hown (mvT hZ w18) (mvT hZ w19) (notFace_of_selects (args := #[]) (mvT hZ w39)) (mvT hZ w39) (mvT hZ w20) (by decide) (backOf (W := 0) (rm5_TAR l Z a0 hw [] o_GZIP_TAR b443 mg_GZIP_TAR km_GZIP_TAR nn gg473 T473.heap n0 z475 (F1_GZIP_TAR.ext O476.2) (F2_GZIP_TAR.ext O476.2) (VM_GZIP_TAR.ext O476.2) fv473) hZ w22 w2 (by decide) (by decide)) q478a q478c (g := (mkF m 378 #[.val (.int p1), .val (.int p2), .val (.long p3), .second, .val (.int (5 : Int32)), .val (.ref o_GZIP_TAR), .val (.int (257 : Int32)), .val (.int (5 : Int32)), .val (.int nn), .val (.int sl), .val (.ref b443), .val (.int wt)] [(.ref b443), (.ref o_GZIP_TAR)])) rfl (by rw [hml]; rfl) (Steps.refl _) (argsL := [(.ref b443)]) (rest := []) (lenOf pd__28_5bB_29Z rfl) rfl (by show 2 * 0 + _ ≤ _; exact Nat.le_of_eq rfl) (hb hby at_378) (fun _ _ => ⟨rfl, eJ477, (by decide : 1 + 0 ≤ _), (by decide : 264 + 0 ≤ _)⟩)
      dsimp only [Pt.U, Pt.locs, Pt.cells, Pt.slots] at X478 l478 y478 z478 st478 hQ478
      subst l478 y478 z478
      refine Run.step (fun t k => st478.trans k) ?_
      obtain ⟨rfl, N478q, e478q⟩ := hQ478
      have N478 := Fr.app NJ477 N478q
      show Run _ _ _ _ (T478.setTop (mkF m 381 #[.val (.int p1), .val (.int p2), .val (.long p3), .second, .val (.int (5 : Int32)), .val (.ref o_GZIP_TAR), .val (.int (257 : Int32)), .val (.int (5 : Int32)), .val (.int nn), .val (.int sl), .val (.ref b443), .val (.int wt)] [(.int (if nn < (262 : Int32) then 0 else (if gg473 257 = (117 : Int32) then (if gg473 258 = (115 : Int32) then (if gg473 259 = (116 : Int32) then (if gg473 260 = (97 : Int32) then (if gg473 261 = (114 : Int32) then (1) else 0) else 0) else 0) else 0) else 0)))]))
      refine Run.step (fun t_ k_ => XS.iload X478.here hx rfl (hb hby at_381) rfl (XS.icmpNo X478.here hx rfl (hb hby at_383) rfl (XT.ii_ne_f ((by rw [hv477, v0, v1, v2, v3, v4]) : (if nn < (262 : Int32) then 0 else (if gg473 257 = (117 : Int32) then (if gg473 258 = (115 : Int32) then (if gg473 259 = (116 : Int32) then (if gg473 260 = (97 : Int32) then (if gg473 261 = (114 : Int32) then (1) else 0) else 0) else 0) else 0) else 0)) = wt)) (XS.iconst X478.here hx rfl (hb hby at_386) (XS.goto X478.here hx rfl (pc0 := 387) (pc' := 391) rfl (hb hby at_387) (by decide) (by decide) k_)))) ?_
      show Run _ _ _ _ (T478.setTop (mkF m 391 #[.val (.int p1), .val (.int p2), .val (.long p3), .second, .val (.int (5 : Int32)), .val (.ref o_GZIP_TAR), .val (.int (257 : Int32)), .val (.int (5 : Int32)), .val (.int nn), .val (.int sl), .val (.ref b443), .val (.int wt)] [(.int (1 : Int32))]))
      exact finZ X478 hx (BodyLoose.notSynchronized Bd) Bd.returns (hb hby at_391) (by decide) (by decide) (by decide) e478q ⟨rfl, N478⟩
    by_cases c273 : nn < (262 : Int32)
    · skip
      refine Run.step (fun t_ k_ => XS.icmpYes X473.here hx rfl (pc0 := 273) (pc' := 371) rfl (hb hby at_273) rfl (XT.ii_lt_t c273) (by decide) (by decide) (XS.iconst X473.here hx rfl (hb hby at_371) k_)) ?_
      show Run _ _ _ _ (T473.setTop (mkF m 372 #[.val (.int p1), .val (.int p2), .val (.long p3), .second, .val (.int (5 : Int32)), .val (.ref o_GZIP_TAR), .val (.int (257 : Int32)), .val (.int (5 : Int32)), .val (.int nn), .val (.int sl), .val (.ref b443), .unset] [(.int (0 : Int32))]))
      exact J477 _ _ X473 rfl N473 (0 : Int32) (if_pos c273).symm
    · skip
      refine Run.step (fun t_ k_ => XS.icmpNo X473.here hx rfl (hb hby at_273) rfl (XT.ii_lt_f c273) (XS.iload X473.here hx rfl (hb hby at_276) rfl (XS.iconst X473.here hx rfl (hb hby at_278) (XS.iload X473.here hx rfl (hb hby at_279) rfl (XS.lloadN X473.here hx rfl (hb hby at_281) rfl k_))))) ?_
      show Run _ _ _ _ (T473.setTop (mkF m 282 #[.val (.int p1), .val (.int p2), .val (.long p3), .second, .val (.int (5 : Int32)), .val (.ref o_GZIP_TAR), .val (.int (257 : Int32)), .val (.int (5 : Int32)), .val (.int nn), .val (.int sl), .val (.ref b443), .unset] [(.long p3), (.int sl), (.int (0 : Int32)), (.int (5 : Int32))]))
      obtain ⟨_, _, ⟨T479, L479, k479, n479⟩, -, X479, ⟨Lc479, hQ479, l479, y479, z479⟩, st479⟩ := Jvm.LawKit.callS X473 hx (y := (⟨"cleave/io/PackedFormatHoldsMagicPinLaw", "matches", "(IIIJ)Z"⟩ : MethodName)) hown (mvT hZ w12) (mvT hZ w13) (mvT hZ w7) (mvT hZ w14) (by decide) (backOf (W := 0) (rm3 l Z a0 hw [] (5 : Int32) (0 : Int32) sl p3 T473.heap n0 z475) hZ w14 w7 (by decide) (by decide)) (g := (mkF m 282 #[.val (.int p1), .val (.int p2), .val (.long p3), .second, .val (.int (5 : Int32)), .val (.ref o_GZIP_TAR), .val (.int (257 : Int32)), .val (.int (5 : Int32)), .val (.int nn), .val (.int sl), .val (.ref b443), .unset] [(.long p3), (.int sl), (.int (0 : Int32)), (.int (5 : Int32))])) rfl (by rw [hml]; rfl) (argsL := [(.int (5 : Int32)), (.int (0 : Int32)), (.int sl), (.long p3)]) (rest := []) (lenOf pd__28IIIJ_29Z rfl) rfl (by show 2 * 0 + _ ≤ _; exact Nat.le_of_eq rfl) (hb hby at_282) (fun _ _ => ⟨rfl, rfl, (by decide : 1 + 0 ≤ _), (by decide : 264 + 0 ≤ _)⟩)
      dsimp only [Pt.U, Pt.locs, Pt.cells, Pt.slots] at X479 l479 y479 z479 st479 hQ479
      subst l479 y479 z479
      refine Run.step (st479) ?_
      obtain ⟨rfl, N479q, e479q⟩ := hQ479
      have N479 := Fr.app N473 N479q
      show Run _ _ _ _ (T479.setTop (mkF m 285 #[.val (.int p1), .val (.int p2), .val (.long p3), .second, .val (.int (5 : Int32)), .val (.ref o_GZIP_TAR), .val (.int (257 : Int32)), .val (.int (5 : Int32)), .val (.int nn), .val (.int sl), .val (.ref b443), .unset] [(.int (if own_pick (5 : Int32) (0 : Int32) sl p3 = (own_expect (5 : Int32) (0 : Int32)).toInt8.toInt32 then 1 else 0))]))
      have E0 : b0 = (117 : Int32) ↔ ¬ ((if own_pick (5 : Int32) (0 : Int32) sl p3 = (own_expect (5 : Int32) (0 : Int32)).toInt8.toInt32 then 1 else 0) = (0 : Int32)) := by
        rw [show ((if own_pick (5 : Int32) (0 : Int32) sl p3 = (own_expect (5 : Int32) (0 : Int32)).toInt8.toInt32 then 1 else 0)) = (if own_pick (5 : Int32) (0 : Int32) sl p3 = (117 : Int32) then (1 : Int32) else 0) from rfl, ← hb0]
        by_cases z : b0 = (117 : Int32)
        · rw [if_pos z]; exact ⟨fun _ => by decide, fun _ => z⟩
        · rw [if_neg z]; exact ⟨fun q => absurd q z, fun q => absurd rfl q⟩
      by_cases c285 : (if own_pick (5 : Int32) (0 : Int32) sl p3 = (own_expect (5 : Int32) (0 : Int32)).toInt8.toInt32 then 1 else 0) = (0 : Int32)
      · have d285 := fun q => E0.mp q c285
        refine Run.step (fun t_ k_ => XS.ifYes X479.here hx rfl (pc0 := 285) (pc' := 371) rfl (hb hby at_285) rfl (XT.i0_eq_t c285) (by decide) (by decide) (XS.iconst X479.here hx rfl (hb hby at_371) k_)) ?_
        show Run _ _ _ _ (T479.setTop (mkF m 372 #[.val (.int p1), .val (.int p2), .val (.long p3), .second, .val (.int (5 : Int32)), .val (.ref o_GZIP_TAR), .val (.int (257 : Int32)), .val (.int (5 : Int32)), .val (.int nn), .val (.int sl), .val (.ref b443), .unset] [(.int (0 : Int32))]))
        exact J477 _ _ X479 e479q N479 (0 : Int32) ((if_neg c273).trans (if_neg d285)).symm
      · have d285 := E0.mpr c285
        refine Run.step (fun t_ k_ => XS.ifNo X479.here hx rfl (hb hby at_285) rfl (XT.i0_eq_f c285) (XS.iload X479.here hx rfl (hb hby at_288) rfl (XS.iconst X479.here hx rfl (hb hby at_290) (XS.iload X479.here hx rfl (hb hby at_291) rfl (XS.lloadN X479.here hx rfl (hb hby at_293) rfl k_))))) ?_
        show Run _ _ _ _ (T479.setTop (mkF m 294 #[.val (.int p1), .val (.int p2), .val (.long p3), .second, .val (.int (5 : Int32)), .val (.ref o_GZIP_TAR), .val (.int (257 : Int32)), .val (.int (5 : Int32)), .val (.int nn), .val (.int sl), .val (.ref b443), .unset] [(.long p3), (.int sl), (.int (1 : Int32)), (.int (5 : Int32))]))
        obtain ⟨_, _, ⟨T480, L480, k480, n480⟩, -, X480, ⟨Lc480, hQ480, l480, y480, z480⟩, st480⟩ := Jvm.LawKit.callS X479 hx (y := (⟨"cleave/io/PackedFormatHoldsMagicPinLaw", "matches", "(IIIJ)Z"⟩ : MethodName)) hown (mvT hZ w12) (mvT hZ w13) (mvT hZ w7) (mvT hZ w14) (by decide) (backOf (W := 0) (rm3 l Z a0 hw [] (5 : Int32) (1 : Int32) sl p3 T473.heap n0 z475) hZ w14 w7 (by decide) (by decide)) (g := (mkF m 294 #[.val (.int p1), .val (.int p2), .val (.long p3), .second, .val (.int (5 : Int32)), .val (.ref o_GZIP_TAR), .val (.int (257 : Int32)), .val (.int (5 : Int32)), .val (.int nn), .val (.int sl), .val (.ref b443), .unset] [(.long p3), (.int sl), (.int (1 : Int32)), (.int (5 : Int32))])) rfl (by rw [hml]; rfl) (argsL := [(.int (5 : Int32)), (.int (1 : Int32)), (.int sl), (.long p3)]) (rest := []) (lenOf pd__28IIIJ_29Z rfl) rfl (by show 2 * 0 + _ ≤ _; exact Nat.le_of_eq rfl) (hb hby at_294) (fun _ _ => ⟨rfl, e479q, (by decide : 1 + 0 ≤ _), (by decide : 264 + 0 ≤ _)⟩)
        dsimp only [Pt.U, Pt.locs, Pt.cells, Pt.slots] at X480 l480 y480 z480 st480 hQ480
        subst l480 y480 z480
        refine Run.step (st480) ?_
        obtain ⟨rfl, N480q, e480q⟩ := hQ480
        have N480 := Fr.app N479 N480q
        show Run _ _ _ _ (T480.setTop (mkF m 297 #[.val (.int p1), .val (.int p2), .val (.long p3), .second, .val (.int (5 : Int32)), .val (.ref o_GZIP_TAR), .val (.int (257 : Int32)), .val (.int (5 : Int32)), .val (.int nn), .val (.int sl), .val (.ref b443), .unset] [(.int (if own_pick (5 : Int32) (1 : Int32) sl p3 = (own_expect (5 : Int32) (1 : Int32)).toInt8.toInt32 then 1 else 0))]))
        have E1 : b1 = (115 : Int32) ↔ ¬ ((if own_pick (5 : Int32) (1 : Int32) sl p3 = (own_expect (5 : Int32) (1 : Int32)).toInt8.toInt32 then 1 else 0) = (0 : Int32)) := by
          rw [show ((if own_pick (5 : Int32) (1 : Int32) sl p3 = (own_expect (5 : Int32) (1 : Int32)).toInt8.toInt32 then 1 else 0)) = (if own_pick (5 : Int32) (1 : Int32) sl p3 = (115 : Int32) then (1 : Int32) else 0) from rfl, ← hb1]
          by_cases z : b1 = (115 : Int32)
          · rw [if_pos z]; exact ⟨fun _ => by decide, fun _ => z⟩
          · rw [if_neg z]; exact ⟨fun q => absurd q z, fun q => absurd rfl q⟩
        by_cases c297 : (if own_pick (5 : Int32) (1 : Int32) sl p3 = (own_expect (5 : Int32) (1 : Int32)).toInt8.toInt32 then 1 else 0) = (0 : Int32)
        · have d297 := fun q => E1.mp q c297
          refine Run.step (fun t_ k_ => XS.ifYes X480.here hx rfl (pc0 := 297) (pc' := 371) rfl (hb hby at_297) rfl (XT.i0_eq_t c297) (by decide) (by decide) (XS.iconst X480.here hx rfl (hb hby at_371) k_)) ?_
          show Run _ _ _ _ (T480.setTop (mkF m 372 #[.val (.int p1), .val (.int p2), .val (.long p3), .second, .val (.int (5 : Int32)), .val (.ref o_GZIP_TAR), .val (.int (257 : Int32)), .val (.int (5 : Int32)), .val (.int nn), .val (.int sl), .val (.ref b443), .unset] [(.int (0 : Int32))]))
          exact J477 _ _ X480 e480q N480 (0 : Int32) ((if_neg c273).trans ((if_pos d285).trans (if_neg d297))).symm
        · have d297 := E1.mpr c297
          refine Run.step (fun t_ k_ => XS.ifNo X480.here hx rfl (hb hby at_297) rfl (XT.i0_eq_f c297) (XS.iload X480.here hx rfl (hb hby at_300) rfl (XS.iconst X480.here hx rfl (hb hby at_302) (XS.iload X480.here hx rfl (hb hby at_303) rfl (XS.lloadN X480.here hx rfl (hb hby at_305) rfl k_))))) ?_
          show Run _ _ _ _ (T480.setTop (mkF m 306 #[.val (.int p1), .val (.int p2), .val (.long p3), .second, .val (.int (5 : Int32)), .val (.ref o_GZIP_TAR), .val (.int (257 : Int32)), .val (.int (5 : Int32)), .val (.int nn), .val (.int sl), .val (.ref b443), .unset] [(.long p3), (.int sl), (.int (2 : Int32)), (.int (5 : Int32))]))
          obtain ⟨_, _, ⟨T481, L481, k481, n481⟩, -, X481, ⟨Lc481, hQ481, l481, y481, z481⟩, st481⟩ := Jvm.LawKit.callS X480 hx (y := (⟨"cleave/io/PackedFormatHoldsMagicPinLaw", "matches", "(IIIJ)Z"⟩ : MethodName)) hown (mvT hZ w12) (mvT hZ w13) (mvT hZ w7) (mvT hZ w14) (by decide) (backOf (W := 0) (rm3 l Z a0 hw [] (5 : Int32) (2 : Int32) sl p3 T473.heap n0 z475) hZ w14 w7 (by decide) (by decide)) (g := (mkF m 306 #[.val (.int p1), .val (.int p2), .val (.long p3), .second, .val (.int (5 : Int32)), .val (.ref o_GZIP_TAR), .val (.int (257 : Int32)), .val (.int (5 : Int32)), .val (.int nn), .val (.int sl), .val (.ref b443), .unset] [(.long p3), (.int sl), (.int (2 : Int32)), (.int (5 : Int32))])) rfl (by rw [hml]; rfl) (argsL := [(.int (5 : Int32)), (.int (2 : Int32)), (.int sl), (.long p3)]) (rest := []) (lenOf pd__28IIIJ_29Z rfl) rfl (by show 2 * 0 + _ ≤ _; exact Nat.le_of_eq rfl) (hb hby at_306) (fun _ _ => ⟨rfl, e480q, (by decide : 1 + 0 ≤ _), (by decide : 264 + 0 ≤ _)⟩)
          dsimp only [Pt.U, Pt.locs, Pt.cells, Pt.slots] at X481 l481 y481 z481 st481 hQ481
          subst l481 y481 z481
          refine Run.step (st481) ?_
          obtain ⟨rfl, N481q, e481q⟩ := hQ481
          have N481 := Fr.app N480 N481q
          show Run _ _ _ _ (T481.setTop (mkF m 309 #[.val (.int p1), .val (.int p2), .val (.long p3), .second, .val (.int (5 : Int32)), .val (.ref o_GZIP_TAR), .val (.int (257 : Int32)), .val (.int (5 : Int32)), .val (.int nn), .val (.int sl), .val (.ref b443), .unset] [(.int (if own_pick (5 : Int32) (2 : Int32) sl p3 = (own_expect (5 : Int32) (2 : Int32)).toInt8.toInt32 then 1 else 0))]))
          have E2 : b2 = (116 : Int32) ↔ ¬ ((if own_pick (5 : Int32) (2 : Int32) sl p3 = (own_expect (5 : Int32) (2 : Int32)).toInt8.toInt32 then 1 else 0) = (0 : Int32)) := by
            rw [show ((if own_pick (5 : Int32) (2 : Int32) sl p3 = (own_expect (5 : Int32) (2 : Int32)).toInt8.toInt32 then 1 else 0)) = (if own_pick (5 : Int32) (2 : Int32) sl p3 = (116 : Int32) then (1 : Int32) else 0) from rfl, ← hb2]
            by_cases z : b2 = (116 : Int32)
            · rw [if_pos z]; exact ⟨fun _ => by decide, fun _ => z⟩
            · rw [if_neg z]; exact ⟨fun q => absurd q z, fun q => absurd rfl q⟩
          by_cases c309 : (if own_pick (5 : Int32) (2 : Int32) sl p3 = (own_expect (5 : Int32) (2 : Int32)).toInt8.toInt32 then 1 else 0) = (0 : Int32)
          · have d309 := fun q => E2.mp q c309
            refine Run.step (fun t_ k_ => XS.ifYes X481.here hx rfl (pc0 := 309) (pc' := 371) rfl (hb hby at_309) rfl (XT.i0_eq_t c309) (by decide) (by decide) (XS.iconst X481.here hx rfl (hb hby at_371) k_)) ?_
            show Run _ _ _ _ (T481.setTop (mkF m 372 #[.val (.int p1), .val (.int p2), .val (.long p3), .second, .val (.int (5 : Int32)), .val (.ref o_GZIP_TAR), .val (.int (257 : Int32)), .val (.int (5 : Int32)), .val (.int nn), .val (.int sl), .val (.ref b443), .unset] [(.int (0 : Int32))]))
            exact J477 _ _ X481 e481q N481 (0 : Int32) ((if_neg c273).trans ((if_pos d285).trans ((if_pos d297).trans (if_neg d309)))).symm
          · have d309 := E2.mpr c309
            refine Run.step (fun t_ k_ => XS.ifNo X481.here hx rfl (hb hby at_309) rfl (XT.i0_eq_f c309) (XS.iload X481.here hx rfl (hb hby at_312) rfl (XS.iconst X481.here hx rfl (hb hby at_314) (XS.icmpNo X481.here hx rfl (hb hby at_315) rfl (XT.ii_lt_f (by decide : ¬ ((5 : Int32) < (4 : Int32)))) (XS.iload X481.here hx rfl (hb hby at_318) rfl (XS.iconst X481.here hx rfl (hb hby at_320) k_)))))) ?_
            show Run _ _ _ _ (T481.setTop (mkF m 321 #[.val (.int p1), .val (.int p2), .val (.long p3), .second, .val (.int (5 : Int32)), .val (.ref o_GZIP_TAR), .val (.int (257 : Int32)), .val (.int (5 : Int32)), .val (.int nn), .val (.int sl), .val (.ref b443), .unset] [(.int (3 : Int32)), (.int (5 : Int32))]))
            refine Run.step (fun t_ k_ => XS.iload X481.here hx rfl (hb hby at_321) rfl (XS.lloadN X481.here hx rfl (hb hby at_323) rfl k_)) ?_
            show Run _ _ _ _ (T481.setTop (mkF m 324 #[.val (.int p1), .val (.int p2), .val (.long p3), .second, .val (.int (5 : Int32)), .val (.ref o_GZIP_TAR), .val (.int (257 : Int32)), .val (.int (5 : Int32)), .val (.int nn), .val (.int sl), .val (.ref b443), .unset] [(.long p3), (.int sl), (.int (3 : Int32)), (.int (5 : Int32))]))
            obtain ⟨_, _, ⟨T482, L482, k482, n482⟩, -, X482, ⟨Lc482, hQ482, l482, y482, z482⟩, st482⟩ := Jvm.LawKit.callS X481 hx (y := (⟨"cleave/io/PackedFormatHoldsMagicPinLaw", "matches", "(IIIJ)Z"⟩ : MethodName)) hown (mvT hZ w12) (mvT hZ w13) (mvT hZ w7) (mvT hZ w14) (by decide) (backOf (W := 0) (rm3 l Z a0 hw [] (5 : Int32) (3 : Int32) sl p3 T473.heap n0 z475) hZ w14 w7 (by decide) (by decide)) (g := (mkF m 324 #[.val (.int p1), .val (.int p2), .val (.long p3), .second, .val (.int (5 : Int32)), .val (.ref o_GZIP_TAR), .val (.int (257 : Int32)), .val (.int (5 : Int32)), .val (.int nn), .val (.int sl), .val (.ref b443), .unset] [(.long p3), (.int sl), (.int (3 : Int32)), (.int (5 : Int32))])) rfl (by rw [hml]; rfl) (argsL := [(.int (5 : Int32)), (.int (3 : Int32)), (.int sl), (.long p3)]) (rest := []) (lenOf pd__28IIIJ_29Z rfl) rfl (by show 2 * 0 + _ ≤ _; exact Nat.le_of_eq rfl) (hb hby at_324) (fun _ _ => ⟨rfl, e481q, (by decide : 1 + 0 ≤ _), (by decide : 264 + 0 ≤ _)⟩)
            dsimp only [Pt.U, Pt.locs, Pt.cells, Pt.slots] at X482 l482 y482 z482 st482 hQ482
            subst l482 y482 z482
            refine Run.step (st482) ?_
            obtain ⟨rfl, N482q, e482q⟩ := hQ482
            have N482 := Fr.app N481 N482q
            show Run _ _ _ _ (T482.setTop (mkF m 327 #[.val (.int p1), .val (.int p2), .val (.long p3), .second, .val (.int (5 : Int32)), .val (.ref o_GZIP_TAR), .val (.int (257 : Int32)), .val (.int (5 : Int32)), .val (.int nn), .val (.int sl), .val (.ref b443), .unset] [(.int (if own_pick (5 : Int32) (3 : Int32) sl p3 = (own_expect (5 : Int32) (3 : Int32)).toInt8.toInt32 then 1 else 0))]))
            have E3 : b3 = (97 : Int32) ↔ ¬ ((if own_pick (5 : Int32) (3 : Int32) sl p3 = (own_expect (5 : Int32) (3 : Int32)).toInt8.toInt32 then 1 else 0) = (0 : Int32)) := by
              rw [show ((if own_pick (5 : Int32) (3 : Int32) sl p3 = (own_expect (5 : Int32) (3 : Int32)).toInt8.toInt32 then 1 else 0)) = (if own_pick (5 : Int32) (3 : Int32) sl p3 = (97 : Int32) then (1 : Int32) else 0) from rfl, ← hb3]
              by_cases z : b3 = (97 : Int32)
              · rw [if_pos z]; exact ⟨fun _ => by decide, fun _ => z⟩
              · rw [if_neg z]; exact ⟨fun q => absurd q z, fun q => absurd rfl q⟩
            by_cases c327 : (if own_pick (5 : Int32) (3 : Int32) sl p3 = (own_expect (5 : Int32) (3 : Int32)).toInt8.toInt32 then 1 else 0) = (0 : Int32)
            · have d327 := fun q => E3.mp q c327
              refine Run.step (fun t_ k_ => XS.ifYes X482.here hx rfl (pc0 := 327) (pc' := 371) rfl (hb hby at_327) rfl (XT.i0_eq_t c327) (by decide) (by decide) (XS.iconst X482.here hx rfl (hb hby at_371) k_)) ?_
              show Run _ _ _ _ (T482.setTop (mkF m 372 #[.val (.int p1), .val (.int p2), .val (.long p3), .second, .val (.int (5 : Int32)), .val (.ref o_GZIP_TAR), .val (.int (257 : Int32)), .val (.int (5 : Int32)), .val (.int nn), .val (.int sl), .val (.ref b443), .unset] [(.int (0 : Int32))]))
              exact J477 _ _ X482 e482q N482 (0 : Int32) ((if_neg c273).trans ((if_pos d285).trans ((if_pos d297).trans ((if_pos d309).trans (if_neg d327))))).symm
            · have d327 := E3.mpr c327
              refine Run.step (fun t_ k_ => XS.ifNo X482.here hx rfl (hb hby at_327) rfl (XT.i0_eq_f c327) (XS.iload X482.here hx rfl (hb hby at_330) rfl (XS.iconst X482.here hx rfl (hb hby at_332) (XS.icmpNo X482.here hx rfl (hb hby at_333) rfl (XT.ii_lt_f (by decide : ¬ ((5 : Int32) < (5 : Int32)))) (XS.iload X482.here hx rfl (hb hby at_336) rfl (XS.iconst X482.here hx rfl (hb hby at_338) k_)))))) ?_
              show Run _ _ _ _ (T482.setTop (mkF m 339 #[.val (.int p1), .val (.int p2), .val (.long p3), .second, .val (.int (5 : Int32)), .val (.ref o_GZIP_TAR), .val (.int (257 : Int32)), .val (.int (5 : Int32)), .val (.int nn), .val (.int sl), .val (.ref b443), .unset] [(.int (4 : Int32)), (.int (5 : Int32))]))
              refine Run.step (fun t_ k_ => XS.iload X482.here hx rfl (hb hby at_339) rfl (XS.lloadN X482.here hx rfl (hb hby at_341) rfl k_)) ?_
              show Run _ _ _ _ (T482.setTop (mkF m 342 #[.val (.int p1), .val (.int p2), .val (.long p3), .second, .val (.int (5 : Int32)), .val (.ref o_GZIP_TAR), .val (.int (257 : Int32)), .val (.int (5 : Int32)), .val (.int nn), .val (.int sl), .val (.ref b443), .unset] [(.long p3), (.int sl), (.int (4 : Int32)), (.int (5 : Int32))]))
              obtain ⟨_, _, ⟨T483, L483, k483, n483⟩, -, X483, ⟨Lc483, hQ483, l483, y483, z483⟩, st483⟩ := Jvm.LawKit.callS X482 hx (y := (⟨"cleave/io/PackedFormatHoldsMagicPinLaw", "matches", "(IIIJ)Z"⟩ : MethodName)) hown (mvT hZ w12) (mvT hZ w13) (mvT hZ w7) (mvT hZ w14) (by decide) (backOf (W := 0) (rm3 l Z a0 hw [] (5 : Int32) (4 : Int32) sl p3 T473.heap n0 z475) hZ w14 w7 (by decide) (by decide)) (g := (mkF m 342 #[.val (.int p1), .val (.int p2), .val (.long p3), .second, .val (.int (5 : Int32)), .val (.ref o_GZIP_TAR), .val (.int (257 : Int32)), .val (.int (5 : Int32)), .val (.int nn), .val (.int sl), .val (.ref b443), .unset] [(.long p3), (.int sl), (.int (4 : Int32)), (.int (5 : Int32))])) rfl (by rw [hml]; rfl) (argsL := [(.int (5 : Int32)), (.int (4 : Int32)), (.int sl), (.long p3)]) (rest := []) (lenOf pd__28IIIJ_29Z rfl) rfl (by show 2 * 0 + _ ≤ _; exact Nat.le_of_eq rfl) (hb hby at_342) (fun _ _ => ⟨rfl, e482q, (by decide : 1 + 0 ≤ _), (by decide : 264 + 0 ≤ _)⟩)
              dsimp only [Pt.U, Pt.locs, Pt.cells, Pt.slots] at X483 l483 y483 z483 st483 hQ483
              subst l483 y483 z483
              refine Run.step (st483) ?_
              obtain ⟨rfl, N483q, e483q⟩ := hQ483
              have N483 := Fr.app N482 N483q
              show Run _ _ _ _ (T483.setTop (mkF m 345 #[.val (.int p1), .val (.int p2), .val (.long p3), .second, .val (.int (5 : Int32)), .val (.ref o_GZIP_TAR), .val (.int (257 : Int32)), .val (.int (5 : Int32)), .val (.int nn), .val (.int sl), .val (.ref b443), .unset] [(.int (if own_pick (5 : Int32) (4 : Int32) sl p3 = (own_expect (5 : Int32) (4 : Int32)).toInt8.toInt32 then 1 else 0))]))
              have E4 : b4 = (114 : Int32) ↔ ¬ ((if own_pick (5 : Int32) (4 : Int32) sl p3 = (own_expect (5 : Int32) (4 : Int32)).toInt8.toInt32 then 1 else 0) = (0 : Int32)) := by
                rw [show ((if own_pick (5 : Int32) (4 : Int32) sl p3 = (own_expect (5 : Int32) (4 : Int32)).toInt8.toInt32 then 1 else 0)) = (if own_pick (5 : Int32) (4 : Int32) sl p3 = (114 : Int32) then (1 : Int32) else 0) from rfl, ← hb4]
                by_cases z : b4 = (114 : Int32)
                · rw [if_pos z]; exact ⟨fun _ => by decide, fun _ => z⟩
                · rw [if_neg z]; exact ⟨fun q => absurd q z, fun q => absurd rfl q⟩
              by_cases c345 : (if own_pick (5 : Int32) (4 : Int32) sl p3 = (own_expect (5 : Int32) (4 : Int32)).toInt8.toInt32 then 1 else 0) = (0 : Int32)
              · have d345 := fun q => E4.mp q c345
                refine Run.step (fun t_ k_ => XS.ifYes X483.here hx rfl (pc0 := 345) (pc' := 371) rfl (hb hby at_345) rfl (XT.i0_eq_t c345) (by decide) (by decide) (XS.iconst X483.here hx rfl (hb hby at_371) k_)) ?_
                show Run _ _ _ _ (T483.setTop (mkF m 372 #[.val (.int p1), .val (.int p2), .val (.long p3), .second, .val (.int (5 : Int32)), .val (.ref o_GZIP_TAR), .val (.int (257 : Int32)), .val (.int (5 : Int32)), .val (.int nn), .val (.int sl), .val (.ref b443), .unset] [(.int (0 : Int32))]))
                exact J477 _ _ X483 e483q N483 (0 : Int32) ((if_neg c273).trans ((if_pos d285).trans ((if_pos d297).trans ((if_pos d309).trans ((if_pos d327).trans (if_neg d345)))))).symm
              · have d345 := E4.mpr c345
                refine Run.step (fun t_ k_ => XS.ifNo X483.here hx rfl (hb hby at_345) rfl (XT.i0_eq_f c345) (XS.iload X483.here hx rfl (hb hby at_348) rfl (XS.bipush X483.here hx rfl (hb hby at_350) (XS.icmpYes X483.here hx rfl (pc0 := 352) (pc' := 367) rfl (hb hby at_352) rfl (XT.ii_lt_t (by decide : (5 : Int32) < (6 : Int32))) (by decide) (by decide) (XS.iconst X483.here hx rfl (hb hby at_367) (XS.goto X483.here hx rfl (pc0 := 368) (pc' := 372) rfl (hb hby at_368) (by decide) (by decide) k_)))))) ?_
                show Run _ _ _ _ (T483.setTop (mkF m 372 #[.val (.int p1), .val (.int p2), .val (.long p3), .second, .val (.int (5 : Int32)), .val (.ref o_GZIP_TAR), .val (.int (257 : Int32)), .val (.int (5 : Int32)), .val (.int nn), .val (.int sl), .val (.ref b443), .unset] [(.int (1 : Int32))]))
                exact J477 _ _ X483 e483q N483 (1 : Int32) ((if_neg c273).trans ((if_pos d285).trans ((if_pos d297).trans ((if_pos d309).trans ((if_pos d327).trans (if_pos d345)))))).symm
set_option maxRecDepth 65536 in
set_option maxHeartbeats 40000000 in
theorem comes_1 {Post : Tables → Env → Array Value → State → Outcome → State → Prop} (hpost : ∀ tb e args s v u, (limb_1_1.after args s (.returned v) u = true ∧ limb_1_2.after args s (.returned v) u = true ∧ True) → FrameEnd s (.returned v) u (Jvm.fieldLocs frame_1_writes args s ++ Jvm.arrayLocs frame_1_arrays args s ++ Jvm.staticLocs frame_1_statics s) 16 640 → Post tb e args s (.returned v) u) :
    ArmFor flags0 classFile x code maxLocals ret World_1 tables_1 room_1 Calls_1 rest_1 Pre_1 Post := by
  intro l hfl _ _ p e ha hc hk s m args below hf hA hF happ hP
  obtain ⟨hcalls, hrest, hpre⟩ := hP
  obtain ⟨-, -, -, hnamed, -, -, -, hat⟩ := (Spec.applies_iff hf).mp happ
  obtain ⟨hg, hn⟩ := and_e (Cond.before_iff.mp (show (Jvm.Cond.and given_1 narrow_1).before args s = true from hpre))
  obtain ⟨h1, h2⟩ := and_e hg
  obtain ⟨w0, w1, w2, rfl⟩ : ∃ w0 w1 w2 : Value, args = #[w0, w1, w2] := by
    have hs : args.size = 3 := by simpa [Cond.value, given_1] using h1
    obtain ⟨L⟩ := args
    match L, hs with
    | [w0, w1, w2], _ => exact ⟨w0, w1, w2, rfl⟩
  have hw := fun d (hd : d ∈ tables_1) => atoms_spec (ws := Jvm.Cond.code x code maxLocals ret :: tables_1) hat d (List.mem_cons_of_mem _ hd)
  have hfit : Fit s := fun {y c} hc i hi => by
    obtain ⟨ha, rfl⟩ := Array.getElem?_eq_some_iff.mp hc
    have q := List.all_eq_true.mp ((Array.all_eq_true_iff_forall_mem.mp hF) _ (Array.getElem_mem ha)) i (List.mem_range.mpr hi)
    simpa [Array.getElem?_eq_getElem hi] using q
  obtain ⟨a0, t0⟩ := and_e h2
  obtain ⟨i0, q0⟩ := is_v a0
  obtain rfl : w0 = (.int i0) := Option.some.inj q0
  obtain ⟨a1, t1⟩ := and_e t0
  obtain ⟨i1, q1⟩ := is_v a1
  obtain rfl : w1 = (.int i1) := Option.some.inj q1
  obtain ⟨i2, q2⟩ := isL_v t1
  obtain rfl : w2 = (.long i2) := Option.some.inj q2
  obtain ⟨n0, m0⟩ := and_e hn
  obtain ⟨n1, m1⟩ := and_e m0
  obtain ⟨n2, m2⟩ := and_e m1
  obtain ⟨n3, m3⟩ := and_e m2
  obtain ⟨n4, m4⟩ := and_e m3
  obtain ⟨n5, m5⟩ := and_e m4
  obtain ⟨n6, m6⟩ := and_e m5
  obtain ⟨n7, m7⟩ := and_e m6
  obtain ⟨n8, m8⟩ := and_e m7
  obtain ⟨n9, m9⟩ := and_e m8
  obtain ⟨n10, m10⟩ := and_e m9
  obtain ⟨n11, m11⟩ := and_e m10
  obtain ⟨n12, m12⟩ := and_e m11
  obtain ⟨n13, m13⟩ := and_e m12
  obtain ⟨n14, m14⟩ := and_e m13
  obtain ⟨n15, m15⟩ := and_e m14
  obtain ⟨n16, m16⟩ := and_e m15
  obtain ⟨n17, m17⟩ := and_e m16
  obtain ⟨n18, m18⟩ := and_e m17
  obtain ⟨n19, m19⟩ := and_e m18
  obtain ⟨n20, m20⟩ := and_e m19
  obtain ⟨n21, m21⟩ := and_e m20
  obtain ⟨n22, m22⟩ := and_e m21
  obtain ⟨n23, m23⟩ := and_e m22
  obtain ⟨n24, m24⟩ := and_e m23
  obtain ⟨n25, m25⟩ := and_e m24
  obtain ⟨n26, m26⟩ := and_e m25
  obtain ⟨n27, m27⟩ := and_e m26
  obtain ⟨n28, m28⟩ := and_e m27
  obtain ⟨n29, m29⟩ := and_e m28
  obtain ⟨n30, m30⟩ := and_e m29
  obtain ⟨n31, m31⟩ := and_e m30
  obtain ⟨n32, m32⟩ := and_e m31
  obtain ⟨n33, m33⟩ := and_e m32
  obtain ⟨n34, m34⟩ := and_e m33
  obtain ⟨n35, m35⟩ := and_e m34
  obtain ⟨n36, m36⟩ := and_e m35
  obtain ⟨n37, m37⟩ := and_e m36
  obtain ⟨n38, m38⟩ := and_e m37
  obtain ⟨n39, m39⟩ := and_e m38
  obtain ⟨n40, m40⟩ := and_e m39
  obtain ⟨n41, m41⟩ := and_e m40
  obtain ⟨n42, m42⟩ := and_e m41
  obtain ⟨n43, m43⟩ := and_e m42
  obtain ⟨n44, m44⟩ := and_e m43
  obtain ⟨n45, m45⟩ := and_e m44
  obtain ⟨n46, m46⟩ := and_e m45
  obtain ⟨n47, m47⟩ := and_e m46
  obtain ⟨n48, m48⟩ := and_e m47
  obtain ⟨n49, m49⟩ := and_e m48
  obtain ⟨o_BZIP2, ev_BZIP2⟩ := exa_v n0
  have E_BZIP2 := Exa.start ev_BZIP2 n0
  have S_BZIP2 := Sta.start ev_BZIP2 (Or.inr ⟨(hw _ (List.mem_of_getElem? (i := 2) rfl)), (hw _ (List.mem_of_getElem? (i := 3) rfl))⟩)
  obtain ⟨o_BZIP2_magic, ev_BZIP2_magic⟩ := arr_v n2
  obtain ⟨cl_BZIP2_magic, A_BZIP2_magic⟩ := Arr.start ev_BZIP2_magic n2
  obtain ⟨o_XZ, ev_XZ⟩ := exa_v n5
  have E_XZ := Exa.start ev_XZ n5
  have S_XZ := Sta.start ev_XZ (Or.inr ⟨(hw _ (List.mem_of_getElem? (i := 2) rfl)), (hw _ (List.mem_of_getElem? (i := 28) rfl))⟩)
  obtain ⟨o_XZ_magic, ev_XZ_magic⟩ := arr_v n7
  obtain ⟨cl_XZ_magic, A_XZ_magic⟩ := Arr.start ev_XZ_magic n7
  obtain ⟨o_TAR, ev_TAR⟩ := exa_v n9
  have E_TAR := Exa.start ev_TAR n9
  have S_TAR := Sta.start ev_TAR (Or.inr ⟨(hw _ (List.mem_of_getElem? (i := 2) rfl)), (hw _ (List.mem_of_getElem? (i := 33) rfl))⟩)
  obtain ⟨o_TAR_magic, ev_TAR_magic⟩ := arr_v n11
  obtain ⟨cl_TAR_magic, A_TAR_magic⟩ := Arr.start ev_TAR_magic n11
  obtain ⟨o_GZIP_TAR, ev_GZIP_TAR⟩ := exa_v n13
  have E_GZIP_TAR := Exa.start ev_GZIP_TAR n13
  have S_GZIP_TAR := Sta.start ev_GZIP_TAR (Or.inr ⟨(hw _ (List.mem_of_getElem? (i := 2) rfl)), (hw _ (List.mem_of_getElem? (i := 38) rfl))⟩)
  obtain ⟨o_GZIP_TAR_magic, ev_GZIP_TAR_magic⟩ := arr_v n15
  obtain ⟨cl_GZIP_TAR_magic, A_GZIP_TAR_magic⟩ := Arr.start ev_GZIP_TAR_magic n15
  obtain ⟨o_ZSTD, ev_ZSTD⟩ := exa_v n17
  have E_ZSTD := Exa.start ev_ZSTD n17
  have S_ZSTD := Sta.start ev_ZSTD (Or.inr ⟨(hw _ (List.mem_of_getElem? (i := 2) rfl)), (hw _ (List.mem_of_getElem? (i := 43) rfl))⟩)
  obtain ⟨o_ZSTD_magic, ev_ZSTD_magic⟩ := arr_v n19
  obtain ⟨cl_ZSTD_magic, A_ZSTD_magic⟩ := Arr.start ev_ZSTD_magic n19
  obtain ⟨o_ZIP, ev_ZIP⟩ := exa_v n25
  have E_ZIP := Exa.start ev_ZIP n25
  have S_ZIP := Sta.start ev_ZIP (Or.inr ⟨(hw _ (List.mem_of_getElem? (i := 2) rfl)), (hw _ (List.mem_of_getElem? (i := 45) rfl))⟩)
  obtain ⟨o_ZIP_magic, ev_ZIP_magic⟩ := arr_v n27
  obtain ⟨cl_ZIP_magic, A_ZIP_magic⟩ := Arr.start ev_ZIP_magic n27
  have F_BZIP2_offset := Fld.start ((fld_at ev_BZIP2).symm.trans (own_eqi n1))
  have F_BZIP2_magic := Fld.start ((fld_at ev_BZIP2).symm.trans ev_BZIP2_magic)
  have G_BZIP2_magic := own_len A_BZIP2_magic ev_BZIP2_magic (own_eqi n3)
  have V_BZIP2_magic_0 := (elem_in (own_eqi n4) ev_BZIP2_magic (Term.int_eval _) A_BZIP2_magic.1).2
  have F_XZ_offset := Fld.start ((fld_at ev_XZ).symm.trans (own_eqi n6))
  have F_XZ_magic := Fld.start ((fld_at ev_XZ).symm.trans ev_XZ_magic)
  have G_XZ_magic := own_len A_XZ_magic ev_XZ_magic (own_eqi n8)
  have F_TAR_offset := Fld.start ((fld_at ev_TAR).symm.trans (own_eqi n10))
  have F_TAR_magic := Fld.start ((fld_at ev_TAR).symm.trans ev_TAR_magic)
  have G_TAR_magic := own_len A_TAR_magic ev_TAR_magic (own_eqi n12)
  have F_GZIP_TAR_offset := Fld.start ((fld_at ev_GZIP_TAR).symm.trans (own_eqi n14))
  have F_GZIP_TAR_magic := Fld.start ((fld_at ev_GZIP_TAR).symm.trans ev_GZIP_TAR_magic)
  have G_GZIP_TAR_magic := own_len A_GZIP_TAR_magic ev_GZIP_TAR_magic (own_eqi n16)
  have F_ZSTD_offset := Fld.start ((fld_at ev_ZSTD).symm.trans (own_eqi n18))
  have F_ZSTD_magic := Fld.start ((fld_at ev_ZSTD).symm.trans ev_ZSTD_magic)
  have G_ZSTD_magic := own_len A_ZSTD_magic ev_ZSTD_magic (own_eqi n20)
  have V_ZSTD_magic_0 := (elem_in (own_eqi n21) ev_ZSTD_magic (Term.int_eval _) A_ZSTD_magic.1).2
  have V_ZSTD_magic_1 := (elem_in (own_eqi n22) ev_ZSTD_magic (Term.int_eval _) A_ZSTD_magic.1).2
  have V_ZSTD_magic_2 := (elem_in (own_eqi n23) ev_ZSTD_magic (Term.int_eval _) A_ZSTD_magic.1).2
  have V_ZSTD_magic_3 := (elem_in (own_eqi n24) ev_ZSTD_magic (Term.int_eval _) A_ZSTD_magic.1).2
  have F_ZIP_offset := Fld.start ((fld_at ev_ZIP).symm.trans (own_eqi n26))
  have F_ZIP_magic := Fld.start ((fld_at ev_ZIP).symm.trans ev_ZIP_magic)
  have G_ZIP_magic := own_len A_ZIP_magic ev_ZIP_magic (own_eqi n28)
  have V_BZIP2_magic_1 := (elem_in (own_eqi n29) ev_BZIP2_magic (Term.int_eval _) A_BZIP2_magic.1).2
  have V_ZIP_magic_0 := (elem_in (own_eqi n30) ev_ZIP_magic (Term.int_eval _) A_ZIP_magic.1).2
  have V_ZIP_magic_1 := (elem_in (own_eqi n31) ev_ZIP_magic (Term.int_eval _) A_ZIP_magic.1).2
  have V_ZIP_magic_2 := (elem_in (own_eqi n32) ev_ZIP_magic (Term.int_eval _) A_ZIP_magic.1).2
  have V_BZIP2_magic_2 := (elem_in (own_eqi n33) ev_BZIP2_magic (Term.int_eval _) A_BZIP2_magic.1).2
  have V_ZIP_magic_3 := (elem_in (own_eqi n34) ev_ZIP_magic (Term.int_eval _) A_ZIP_magic.1).2
  have V_XZ_magic_0 := (elem_in (own_eqi n35) ev_XZ_magic (Term.int_eval _) A_XZ_magic.1).2
  have V_XZ_magic_1 := (elem_in (own_eqi n36) ev_XZ_magic (Term.int_eval _) A_XZ_magic.1).2
  have V_XZ_magic_2 := (elem_in (own_eqi n37) ev_XZ_magic (Term.int_eval _) A_XZ_magic.1).2
  have V_XZ_magic_3 := (elem_in (own_eqi n38) ev_XZ_magic (Term.int_eval _) A_XZ_magic.1).2
  have V_XZ_magic_4 := (elem_in (own_eqi n39) ev_XZ_magic (Term.int_eval _) A_XZ_magic.1).2
  have V_XZ_magic_5 := (elem_in (own_eqi n40) ev_XZ_magic (Term.int_eval _) A_XZ_magic.1).2
  have V_TAR_magic_0 := (elem_in (own_eqi n41) ev_TAR_magic (Term.int_eval _) A_TAR_magic.1).2
  have V_TAR_magic_1 := (elem_in (own_eqi n42) ev_TAR_magic (Term.int_eval _) A_TAR_magic.1).2
  have V_TAR_magic_2 := (elem_in (own_eqi n43) ev_TAR_magic (Term.int_eval _) A_TAR_magic.1).2
  have V_TAR_magic_3 := (elem_in (own_eqi n44) ev_TAR_magic (Term.int_eval _) A_TAR_magic.1).2
  have V_TAR_magic_4 := (elem_in (own_eqi n45) ev_TAR_magic (Term.int_eval _) A_TAR_magic.1).2
  have V_GZIP_TAR_magic_0 := (elem_in (own_eqi n46) ev_GZIP_TAR_magic (Term.int_eval _) A_GZIP_TAR_magic.1).2
  have V_GZIP_TAR_magic_1 := (elem_in (own_eqi n47) ev_GZIP_TAR_magic (Term.int_eval _) A_GZIP_TAR_magic.1).2
  have V_GZIP_TAR_magic_2 := (elem_in (own_eqi n48) ev_GZIP_TAR_magic (Term.int_eval _) A_GZIP_TAR_magic.1).2
  have V_GZIP_TAR_magic_3 := (elem_in (own_eqi n49) ev_GZIP_TAR_magic (Term.int_eval _) A_GZIP_TAR_magic.1).2
  have V_GZIP_TAR_magic_4 := (elem_in (own_eqi m49) ev_GZIP_TAR_magic (Term.int_eval _) A_GZIP_TAR_magic.1).2
  have VM_BZIP2 : Arv s s.heap o_BZIP2_magic cl_BZIP2_magic.cls .byte (3 : Int32) [(.int (66 : Int32)), (.int (90 : Int32)), (.int (104 : Int32))] (.int (0 : Int32)) := Arv.start hfit A_BZIP2_magic G_BZIP2_magic.1 G_BZIP2_magic.2 (by decide) rfl ⟨V_BZIP2_magic_0, V_BZIP2_magic_1, V_BZIP2_magic_2, trivial⟩
  have VM_XZ : Arv s s.heap o_XZ_magic cl_XZ_magic.cls .byte (6 : Int32) [(.int (-3 : Int32)), (.int (55 : Int32)), (.int (122 : Int32)), (.int (88 : Int32)), (.int (90 : Int32)), (.int (0 : Int32))] (.int (0 : Int32)) := Arv.start hfit A_XZ_magic G_XZ_magic.1 G_XZ_magic.2 (by decide) rfl ⟨V_XZ_magic_0, V_XZ_magic_1, V_XZ_magic_2, V_XZ_magic_3, V_XZ_magic_4, V_XZ_magic_5, trivial⟩
  have VM_ZSTD : Arv s s.heap o_ZSTD_magic cl_ZSTD_magic.cls .byte (4 : Int32) [(.int (40 : Int32)), (.int (-75 : Int32)), (.int (47 : Int32)), (.int (-3 : Int32))] (.int (0 : Int32)) := Arv.start hfit A_ZSTD_magic G_ZSTD_magic.1 G_ZSTD_magic.2 (by decide) rfl ⟨V_ZSTD_magic_0, V_ZSTD_magic_1, V_ZSTD_magic_2, V_ZSTD_magic_3, trivial⟩
  have VM_ZIP : Arv s s.heap o_ZIP_magic cl_ZIP_magic.cls .byte (4 : Int32) [(.int (80 : Int32)), (.int (75 : Int32)), (.int (3 : Int32)), (.int (4 : Int32))] (.int (0 : Int32)) := Arv.start hfit A_ZIP_magic G_ZIP_magic.1 G_ZIP_magic.2 (by decide) rfl ⟨V_ZIP_magic_0, V_ZIP_magic_1, V_ZIP_magic_2, V_ZIP_magic_3, trivial⟩
  have VM_TAR : Arv s s.heap o_TAR_magic cl_TAR_magic.cls .byte (5 : Int32) [(.int (117 : Int32)), (.int (115 : Int32)), (.int (116 : Int32)), (.int (97 : Int32)), (.int (114 : Int32))] (.int (0 : Int32)) := Arv.start hfit A_TAR_magic G_TAR_magic.1 G_TAR_magic.2 (by decide) rfl ⟨V_TAR_magic_0, V_TAR_magic_1, V_TAR_magic_2, V_TAR_magic_3, V_TAR_magic_4, trivial⟩
  have VM_GZIP_TAR : Arv s s.heap o_GZIP_TAR_magic cl_GZIP_TAR_magic.cls .byte (5 : Int32) [(.int (117 : Int32)), (.int (115 : Int32)), (.int (116 : Int32)), (.int (97 : Int32)), (.int (114 : Int32))] (.int (0 : Int32)) := Arv.start hfit A_GZIP_TAR_magic G_GZIP_TAR_magic.1 G_GZIP_TAR_magic.2 (by decide) rfl ⟨V_GZIP_TAR_magic_0, V_GZIP_TAR_magic_1, V_GZIP_TAR_magic_2, V_GZIP_TAR_magic_3, V_GZIP_TAR_magic_4, trivial⟩
  obtain ⟨n, o, g1, g2, g3, _, L, rfl, ⟨rfl, N⟩, hq⟩ := rm0 l s _ hw tables_1 i0 i1 i2 o_BZIP2 o_BZIP2_magic cl_BZIP2_magic.cls o_XZ o_XZ_magic cl_XZ_magic.cls o_ZSTD o_ZSTD_magic cl_ZSTD_magic.cls o_ZIP o_ZIP_magic cl_ZIP_magic.cls o_TAR o_TAR_magic cl_TAR_magic.cls o_GZIP_TAR o_GZIP_TAR_magic cl_GZIP_TAR_magic.cls s.heap s.heap.size (Nat.le_refl _) (Old.start s) S_BZIP2 E_BZIP2 F_BZIP2_offset F_BZIP2_magic VM_BZIP2 S_XZ E_XZ F_XZ_offset F_XZ_magic VM_XZ S_ZSTD E_ZSTD F_ZSTD_offset F_ZSTD_magic VM_ZSTD S_ZIP E_ZIP F_ZIP_offset F_ZIP_magic VM_ZIP S_TAR E_TAR F_TAR_offset F_TAR_magic VM_TAR S_GZIP_TAR E_GZIP_TAR F_GZIP_TAR_offset F_GZIP_TAR_magic VM_GZIP_TAR p e ha hc hk s m _ below hf ((Spec.applies_iff_loose hf).mp happ).1 ⟨rfl, State.Warmed39.refl s, rfl⟩ trivial
  refine ⟨n, _, g1, g2, g3, hpost _ _ _ _ _ _ ⟨Cond.after_iff.mpr rfl, Cond.after_iff.mpr (eq_i res_at (Term.int_eval (1)) rfl), trivial⟩ ⟨hq.1, hq.2.1, (hq.2.2.sift fun y hy => Or.inr (N y hy)).mono (by decide) (by decide)⟩⟩
theorem main_1_1 : Claimed_1_1 := comes_1 fun _ _ _ _ _ _ h hF => ⟨h.1, hF⟩
theorem main_1_2 : Claimed_1_2 := comes_1 fun _ _ _ _ _ _ h hF => ⟨h.2.1, hF⟩
end Jvm.Pilot.@@N@@
namespace Jvm.Pilot.@@N@@
open Jvm Jvm.ClassFile Sem Op Lib Jvm.Free Jvm.Stand Jvm.Pilot.@@N@@.Jvm.D
/-! MADE BY PROGRAM (witnessworld.py) out of the Statement's table words and the real class files: 15 classes; the members and pool entries that the words name. The judged class is class 1, her method 5. -/
namespace start1
open Jvm.ClassFile
def u (s : String) : CpInfo := .utf8 (stringToUtf16 s)
/-- a pool by its gaps: so many unusable entries, then the entry; so many at the end -/
def gap : Nat → List CpInfo → List CpInfo
  | 0, r => r
  | n + 1, r => .unusable :: gap n r
def poolList (es : List (Nat × CpInfo)) (last : Nat) : List CpInfo := es.foldr (fun e r => gap e.1 (e.2 :: r)) (gap last [])
def pool (es : List (Nat × CpInfo)) (last : Nat) : Array CpInfo := ⟨poolList es last⟩
def fileOf (pool : Array CpInfo) (this : Nat) (attrs : Array Attribute := #[]) (ms : Array MethodInfo := #[]) (fl : Nat := 33) (sup : Nat := 0) (ifs : Array Nat := #[]) (fds : Array FieldInfo := #[]) : ClassFile where
  minorVersion := 0
  majorVersion := 65
  constantPool := pool
  accessFlags := fl
  thisClass := this
  superClass := sup
  interfaces := ifs
  fields := fds
  methods := ms
  attributes := attrs
def plain (name : String) (sup : Option ClassId) : Class where
  name := name
  kind := .ordinary
  loader := none
  accessFlags := 33
  super := sup
  interfaces := #[]
  cf := none
  fields := #[]
  methods := #[]
  instanceTypes := #[]
  staticTypes := #[]
  resolved := #[]
  callSites := []
  init := .initialized
  statics := none
  mirror := none

def pool0 : Array CpInfo := pool [(5, u "<init>"), (0, u "()V"), (1, .class_ 10), (1, u "java/lang/Object")] 113

def k0m0 : Method := { name := "<init>", desc := "()V", sig := { parameters := [], returnType := none }, accessFlags := 1, code := none }
/-- java/lang/Object -/
def k0 : Class := { plain "java/lang/Object" none with
  accessFlags := 33
  interfaces := #[]
  cf := some (fileOf pool0 8 #[] #[{ accessFlags := 1, nameIndex := 5, descriptorIndex := 6, attributes := #[] }] 33 0 #[] #[])
  fields := #[]
  methods := #[k0m0]
  instanceTypes := #[]
  staticTypes := #[]
  resolved := Array.replicate 124 none
  statics := none }

def pool1 : Array CpInfo := pool [(2, .class_ 4), (1, u "java/lang/Object"), (0, u "<init>"), (0, u "()V"), (0, .methodref 8 9), (0, .class_ 10), (0, .nameAndType 11 12), (0, u "cleave/io/PackedFormatHoldsMagicPinLaw"), (0, u "expected"), (0, u "(II)I"), (0, .methodref 8 14), (0, .nameAndType 15 16), (0, u "pick"), (0, u "(IIIJ)B"), (0, .integer 2147483647), (0, .fieldref 19 20), (0, .class_ 21), (0, .nameAndType 22 23), (0, u "cleave/io/PackedFormat"), (0, u "BZIP2"), (0, u "Lcleave/io/PackedFormat;"), (0, .fieldref 19 25), (0, .nameAndType 26 23), (0, u "XZ"), (0, .fieldref 19 28), (0, .nameAndType 29 23), (0, u "ZSTD"), (0, .fieldref 19 31), (0, .nameAndType 32 23), (0, u "ZIP"), (0, .fieldref 19 34), (0, .nameAndType 35 23), (0, u "TAR"), (0, .fieldref 19 37), (0, .nameAndType 38 23), (0, u "GZIP_TAR"), (0, .methodref 8 40), (0, .nameAndType 41 42), (0, u "put"), (0, u "([BIB)V"), (0, .methodref 8 44), (0, .nameAndType 45 46), (0, u "matches"), (0, u "(IIIJ)Z"), (0, .methodref 19 48), (0, .nameAndType 49 50), (0, u "holdsMagic"), (0, u "([B)Z"), (3, u "law"), (0, u "(IIJ)Z")] 4

def k1m0 : Method := { name := "<init>", desc := "()V", sig := { parameters := [], returnType := none }, accessFlags := 1, code := none }
def k1c1 : Code := { maxStack := 2, maxLocals := 2, code := method_2_code, exceptionTable := #[], attributes := #[] }
def k1m1 : Method := { name := "expected", desc := "(II)I", sig := { parameters := [.int, .int], returnType := some .int }, accessFlags := 10, code := some k1c1 }
def k1c2 : Code := { maxStack := 4, maxLocals := 5, code := method_3_code, exceptionTable := #[], attributes := #[] }
def k1m2 : Method := { name := "pick", desc := "(IIIJ)B", sig := { parameters := [.int, .int, .int, .long], returnType := some .byte }, accessFlags := 10, code := some k1c2 }
def k1c3 : Code := { maxStack := 5, maxLocals := 5, code := method_4_code, exceptionTable := #[], attributes := #[] }
def k1m3 : Method := { name := "matches", desc := "(IIIJ)Z", sig := { parameters := [.int, .int, .int, .long], returnType := some .boolean }, accessFlags := 10, code := some k1c3 }
def k1c4 : Code := { maxStack := 3, maxLocals := 3, code := method_5_code, exceptionTable := #[], attributes := #[] }
def k1m4 : Method := { name := "put", desc := "([BIB)V", sig := { parameters := [(.array .byte), .int, .byte], returnType := none }, accessFlags := 10, code := some k1c4 }
def k1c5 : Code := { maxStack := 7, maxLocals := 12, code := code, exceptionTable := #[], attributes := #[] }
def k1m5 : Method := { name := "law", desc := "(IIJ)Z", sig := { parameters := [.int, .int, .long], returnType := some .boolean }, accessFlags := 9, code := some k1c5 }
/-- cleave/io/PackedFormatHoldsMagicPinLaw -/
def k1 : Class := { plain "cleave/io/PackedFormatHoldsMagicPinLaw" (some 0) with
  accessFlags := 49
  interfaces := #[]
  cf := some (fileOf pool1 8 #[] #[{ accessFlags := 1, nameIndex := 5, descriptorIndex := 6, attributes := #[] }, { accessFlags := 10, nameIndex := 11, descriptorIndex := 12, attributes := #[] }, { accessFlags := 10, nameIndex := 15, descriptorIndex := 16, attributes := #[] }, { accessFlags := 10, nameIndex := 45, descriptorIndex := 46, attributes := #[] }, { accessFlags := 10, nameIndex := 41, descriptorIndex := 42, attributes := #[] }, { accessFlags := 9, nameIndex := 54, descriptorIndex := 55, attributes := #[] }] 49 2 #[] #[])
  fields := #[]
  methods := #[k1m0, k1m1, k1m2, k1m3, k1m4, k1m5]
  instanceTypes := #[]
  staticTypes := #[]
  resolved := Array.replicate 60 none
  statics := none }

def pool2 : Array CpInfo := pool [(1, .class_ 2), (0, u "java/lang/constant/Constable"), (0, .class_ 4), (0, u "java/lang/Object")] 6

/-- java/lang/constant/Constable -/
def k2 : Class := { plain "java/lang/constant/Constable" (some 0) with
  accessFlags := 1537
  interfaces := #[]
  cf := some (fileOf pool2 1 #[] #[] 1537 3 #[] #[])
  fields := #[]
  methods := #[]
  instanceTypes := #[]
  staticTypes := #[]
  resolved := Array.replicate 11 none
  statics := none }

def pool3 : Array CpInfo := pool [(1, .class_ 2), (0, u "java/lang/Comparable"), (0, .class_ 4), (0, u "java/lang/Object")] 7

/-- java/lang/Comparable -/
def k3 : Class := { plain "java/lang/Comparable" (some 0) with
  accessFlags := 1537
  interfaces := #[]
  cf := some (fileOf pool3 1 #[] #[] 1537 3 #[] #[])
  fields := #[]
  methods := #[]
  instanceTypes := #[]
  staticTypes := #[]
  resolved := Array.replicate 12 none
  statics := none }

def pool4 : Array CpInfo := pool [(1, .class_ 2), (0, u "java/io/Serializable"), (0, .class_ 4), (0, u "java/lang/Object")] 2

/-- java/io/Serializable -/
def k4 : Class := { plain "java/io/Serializable" (some 0) with
  accessFlags := 1537
  interfaces := #[]
  cf := some (fileOf pool4 1 #[] #[] 1537 3 #[] #[])
  fields := #[]
  methods := #[]
  instanceTypes := #[]
  staticTypes := #[]
  resolved := Array.replicate 7 none
  statics := none }

def pool5 : Array CpInfo := pool [(2, .class_ 4), (1, u "java/lang/Enum"), (0, u "name"), (0, u "Ljava/lang/String;"), (2, u "ordinal"), (0, u "I"), (1, .class_ 14), (1, u "java/lang/Object"), (4, u "hash"), (86, .class_ 108), (1, u "java/lang/Enum$EnumDesc"), (2, .class_ 112), (0, u "java/lang/constant/Constable"), (0, .class_ 114), (0, u "java/lang/Comparable"), (0, .class_ 116), (0, u "java/io/Serializable")] 87

/-- java/lang/Enum -/
def k5 : Class := { plain "java/lang/Enum" (some 0) with
  accessFlags := 1057
  interfaces := #[2, 3, 4]
  cf := some (fileOf pool5 2 #[.nestMembers #[106]] #[] 1057 12 #[111, 113, 115] #[{ accessFlags := 18, nameIndex := 5, descriptorIndex := 6, attributes := #[] }, { accessFlags := 18, nameIndex := 9, descriptorIndex := 10, attributes := #[] }, { accessFlags := 2, nameIndex := 19, descriptorIndex := 10, attributes := #[] }])
  fields := #[{ name := "name", type := (.object "java/lang/String"), accessFlags := 18, slot := 0, constantValue := 0 }, { name := "ordinal", type := .int, accessFlags := 18, slot := 1, constantValue := 0 }, { name := "hash", type := .int, accessFlags := 2, slot := 2, constantValue := 0 }]
  methods := #[]
  instanceTypes := #[(.object "java/lang/String"), .int, .int]
  staticTypes := #[]
  resolved := Array.replicate 204 none
  statics := none }

def pool6 : Array CpInfo := pool [(1, .class_ 2), (0, u "cleave/io/PackedFormat"), (2, u "BZIP2"), (0, u "Lcleave/io/PackedFormat;"), (2, u "XZ"), (2, u "ZSTD"), (2, u "ZIP"), (2, u "TAR"), (2, u "GZIP_TAR"), (2, u "$VALUES"), (0, u "[Lcleave/io/PackedFormat;"), (6, .class_ 34), (1, u "java/lang/Enum"), (8, u "description"), (0, u "Ljava/lang/String;"), (2, u "fileCommand"), (2, u "pipeCommand"), (2, u "inGzip"), (0, u "Z"), (0, .fieldref 1 56), (0, .nameAndType 57 58), (0, u "offset"), (0, u "I"), (0, .fieldref 1 60), (0, .nameAndType 61 62), (0, u "magic"), (0, u "[B"), (7, u "([B)Z"), (12, u "holdsMagic"), (0, .class_ 85), (0, u "cleave/io/PackedFormat$1"), (26, .class_ 113), (0, u "cleave/io/PackedFormat$2"), (8, .class_ 123), (0, u "cleave/io/PackedFormat$3"), (11, u "HEAD_LENGTH")] 27

def k6c0 : Code := { maxStack := 3, maxLocals := 4, code := prog_34_method_10_code, exceptionTable := #[], attributes := #[] }
def k6m0 : Method := { name := "holdsMagic", desc := "([B)Z", sig := { parameters := [(.array .byte)], returnType := some .boolean }, accessFlags := 16, code := some k6c0 }
/-- cleave/io/PackedFormat -/
def k6 : Class := { plain "cleave/io/PackedFormat" (some 5) with
  accessFlags := 16417
  interfaces := #[]
  cf := some (fileOf pool6 1 #[.nestMembers #[122, 112, 84]] #[{ accessFlags := 16, nameIndex := 83, descriptorIndex := 70, attributes := #[] }] 16417 32 #[] #[{ accessFlags := 16409, nameIndex := 5, descriptorIndex := 6, attributes := #[] }, { accessFlags := 16409, nameIndex := 9, descriptorIndex := 6, attributes := #[] }, { accessFlags := 16409, nameIndex := 12, descriptorIndex := 6, attributes := #[] }, { accessFlags := 16409, nameIndex := 15, descriptorIndex := 6, attributes := #[] }, { accessFlags := 16409, nameIndex := 18, descriptorIndex := 6, attributes := #[] }, { accessFlags := 16409, nameIndex := 21, descriptorIndex := 6, attributes := #[] }, { accessFlags := 24, nameIndex := 135, descriptorIndex := 58, attributes := #[] }, { accessFlags := 18, nameIndex := 43, descriptorIndex := 44, attributes := #[] }, { accessFlags := 18, nameIndex := 47, descriptorIndex := 44, attributes := #[] }, { accessFlags := 18, nameIndex := 50, descriptorIndex := 44, attributes := #[] }, { accessFlags := 18, nameIndex := 53, descriptorIndex := 54, attributes := #[] }, { accessFlags := 18, nameIndex := 57, descriptorIndex := 58, attributes := #[] }, { accessFlags := 18, nameIndex := 61, descriptorIndex := 62, attributes := #[] }, { accessFlags := 4122, nameIndex := 24, descriptorIndex := 25, attributes := #[] }])
  fields := #[{ name := "BZIP2", type := (.object "cleave/io/PackedFormat"), accessFlags := 16409, slot := 0, constantValue := 0 }, { name := "XZ", type := (.object "cleave/io/PackedFormat"), accessFlags := 16409, slot := 1, constantValue := 0 }, { name := "ZSTD", type := (.object "cleave/io/PackedFormat"), accessFlags := 16409, slot := 2, constantValue := 0 }, { name := "ZIP", type := (.object "cleave/io/PackedFormat"), accessFlags := 16409, slot := 3, constantValue := 0 }, { name := "TAR", type := (.object "cleave/io/PackedFormat"), accessFlags := 16409, slot := 4, constantValue := 0 }, { name := "GZIP_TAR", type := (.object "cleave/io/PackedFormat"), accessFlags := 16409, slot := 5, constantValue := 0 }, { name := "HEAD_LENGTH", type := .int, accessFlags := 24, slot := 6, constantValue := 0 }, { name := "description", type := (.object "java/lang/String"), accessFlags := 18, slot := 3, constantValue := 0 }, { name := "fileCommand", type := (.object "java/lang/String"), accessFlags := 18, slot := 4, constantValue := 0 }, { name := "pipeCommand", type := (.object "java/lang/String"), accessFlags := 18, slot := 5, constantValue := 0 }, { name := "inGzip", type := .boolean, accessFlags := 18, slot := 6, constantValue := 0 }, { name := "offset", type := .int, accessFlags := 18, slot := 7, constantValue := 0 }, { name := "magic", type := (.array .byte), accessFlags := 18, slot := 8, constantValue := 0 }, { name := "$VALUES", type := (.array (.object "cleave/io/PackedFormat")), accessFlags := 4122, slot := 7, constantValue := 0 }]
  methods := #[k6m0]
  instanceTypes := #[(.object "java/lang/String"), .int, .int, (.object "java/lang/String"), (.object "java/lang/String"), (.object "java/lang/String"), .boolean, .int, (.array .byte)]
  staticTypes := #[(.object "cleave/io/PackedFormat"), (.object "cleave/io/PackedFormat"), (.object "cleave/io/PackedFormat"), (.object "cleave/io/PackedFormat"), (.object "cleave/io/PackedFormat"), (.object "cleave/io/PackedFormat"), .int, (.array (.object "cleave/io/PackedFormat"))]
  resolved := Array.replicate 163 none
  statics := some 0 }

def pool7 : Array CpInfo := pool [(2, .class_ 4), (1, u "cleave/io/PackedFormat"), (6, .class_ 12), (0, u "cleave/io/PackedFormat$1")] 9

/-- cleave/io/PackedFormat$1 -/
def k7 : Class := { plain "cleave/io/PackedFormat$1" (some 6) with
  accessFlags := 16432
  interfaces := #[]
  cf := some (fileOf pool7 11 #[.nestHost 2] #[] 16432 2 #[] #[])
  fields := #[]
  methods := #[]
  instanceTypes := #[(.object "java/lang/String"), .int, .int, (.object "java/lang/String"), (.object "java/lang/String"), (.object "java/lang/String"), .boolean, .int, (.array .byte)]
  staticTypes := #[]
  resolved := Array.replicate 22 none
  statics := none }

def pool8 : Array CpInfo := pool [(2, .class_ 4), (1, u "cleave/io/PackedFormat"), (3, .class_ 10), (1, u "cleave/io/PackedFormat$2")] 11

/-- cleave/io/PackedFormat$2 -/
def k8 : Class := { plain "cleave/io/PackedFormat$2" (some 6) with
  accessFlags := 16432
  interfaces := #[]
  cf := some (fileOf pool8 8 #[.nestHost 2] #[] 16432 2 #[] #[])
  fields := #[]
  methods := #[]
  instanceTypes := #[(.object "java/lang/String"), .int, .int, (.object "java/lang/String"), (.object "java/lang/String"), (.object "java/lang/String"), .boolean, .int, (.array .byte)]
  staticTypes := #[]
  resolved := Array.replicate 22 none
  statics := none }

def pool9 : Array CpInfo := pool [(2, .class_ 4), (1, u "cleave/io/PackedFormat"), (3, .class_ 10), (1, u "cleave/io/PackedFormat$3")] 11

/-- cleave/io/PackedFormat$3 -/
def k9 : Class := { plain "cleave/io/PackedFormat$3" (some 6) with
  accessFlags := 16432
  interfaces := #[]
  cf := some (fileOf pool9 8 #[.nestHost 2] #[] 16432 2 #[] #[])
  fields := #[]
  methods := #[]
  instanceTypes := #[(.object "java/lang/String"), .int, .int, (.object "java/lang/String"), (.object "java/lang/String"), (.object "java/lang/String"), .boolean, .int, (.array .byte)]
  staticTypes := #[]
  resolved := Array.replicate 22 none
  statics := none }

def pool10 : Array CpInfo := pool [(1, u "java/lang/Cloneable"), (0, .class_ 1), (0, u "java/lang/Object"), (0, .class_ 3)] 3

/-- java/lang/Cloneable -/
def k10 : Class := { plain "java/lang/Cloneable" (some 0) with
  accessFlags := 1537
  interfaces := #[]
  cf := some (fileOf pool10 2 #[] #[] 1537 4 #[] #[])
  fields := #[]
  methods := #[]
  instanceTypes := #[]
  staticTypes := #[]
  resolved := Array.replicate 8 none
  statics := none }

/-- the primitive byte -/
def k11 : Class := { plain "byte" none with kind := .primitive 'B', accessFlags := 0x411 }
/-- [B -/
def k12 : Class := { plain "[B" (some 0) with kind := .array 11 .byte, interfaces := #[10, 4], accessFlags := 1041 }

/-- the primitive int -/
def k13 : Class := { plain "int" none with kind := .primitive 'I', accessFlags := 0x411 }
/-- [I -/
def k14 : Class := { plain "[I" (some 0) with kind := .array 13 .int, interfaces := #[10, 4], accessFlags := 1041 }

def heap : Heap := #[{ cls := 6, slots := #[.ref 7, .ref 8, .ref 9, .ref 10, .ref 11, .ref 12, .int 0, .null], vm := .statics 6 },
  { cls := 12, slots := #[.int (66), .int (90), .int (104)], vm := .none },
  { cls := 12, slots := #[.int (-3), .int (55), .int (122), .int (88), .int (90), .int (0)], vm := .none },
  { cls := 12, slots := #[.int (40), .int (-75), .int (47), .int (-3)], vm := .none },
  { cls := 12, slots := #[.int (80), .int (75), .int (3), .int (4)], vm := .none },
  { cls := 12, slots := #[.int (117), .int (115), .int (116), .int (97), .int (114)], vm := .none },
  { cls := 12, slots := #[.int (117), .int (115), .int (116), .int (97), .int (114)], vm := .none },
  { cls := 7, slots := #[.null, .int 0, .int 0, .null, .null, .null, .int 0, .int 0, .ref 1], vm := .none },
  { cls := 6, slots := #[.null, .int 1, .int 0, .null, .null, .null, .int 0, .int 0, .ref 2], vm := .none },
  { cls := 6, slots := #[.null, .int 2, .int 0, .null, .null, .null, .int 0, .int 0, .ref 3], vm := .none },
  { cls := 6, slots := #[.null, .int 3, .int 0, .null, .null, .null, .int 0, .int 0, .ref 4], vm := .none },
  { cls := 8, slots := #[.null, .int 4, .int 0, .null, .null, .null, .int 0, .int 257, .ref 5], vm := .none },
  { cls := 9, slots := #[.null, .int 5, .int 0, .null, .null, .null, .int 0, .int 257, .ref 6], vm := .none }]
def classes : Array Class := #[k0, k1, k2, k3, k4, k5, k6, k7, k8, k9, k10, k11, k12, k13, k14]
def interned : List (Array UInt16 × Addr) := []
def slotsUsed : Nat := 89
def theMethod : MethodId := ⟨1, 5⟩
def args0 : Array Value := #[.int 3, .int 1, .long 5]
def aboutOver (below : List Frame) : State where
  vm := { classes := classes, interned := interned.toArray }
  heap := heap
  slotsUsed := slotsUsed
  threads := #[{ frames := .invoking theMethod args0 :: below }]
def below0 : List Frame := [.native { method := ⟨0, 0⟩, args := #[] }]
def about1 : State := aboutOver below0
def p0 : Program := .bare "" "" ""
def e0 : Env := launch0.env 0 0 0
theorem w_frames : about1.frames = Frame.invoking theMethod args0 :: below0 := rfl
set_option maxRecDepth 65536 in
theorem w_args : argsFit about1.vm theMethod args0 = true := by decide +kernel
set_option maxRecDepth 65536 in
theorem w_heap : heapFits about1 = true := by decide +kernel
set_option maxRecDepth 65536 in
theorem w_runnable : about1.curStatus? = some .runnable := by decide +kernel
set_option maxRecDepth 65536 in
theorem w_alone : about1.alone = true := by decide +kernel
set_option maxRecDepth 65536 in
theorem w_named : about1.methodNamed? x = some theMethod := by decide +kernel
set_option maxRecDepth 65536 in
theorem w_hears : about1.hears theMethod below0 = true := by decide +kernel
set_option maxRecDepth 65536 in
theorem w_ripe : about1.ripe theMethod args0 below0 = true := by decide +kernel
theorem w_running : about1.status = .running := rfl
set_option maxRecDepth 65536 in
theorem w_room : about1.hasRoom e0.platform room_1 = true :=
  launch0.hasRoom_least _ room_1 (by decide +kernel) (by decide +kernel) (by decide +kernel) (by decide +kernel) (by decide +kernel) (by decide +kernel)
theorem allAtoms_all (ts : List Jvm.Cond) (a : Array Jvm.Value) (st : Jvm.State) : (allAtoms ts).before a st = ts.all (fun c => c.before a st) := by
  induction ts with
  | nil => rfl
  | cons c t ih =>
    show (Jvm.Cond.and c (allAtoms t)).before a st = _
    rw [Jvm.Cond.before_and, ih, List.all_cons]
def words1 : List Jvm.Cond := Jvm.Cond.code x code maxLocals ret :: tables_1
/-- a 'code' word, met by the world's own term for the bytes: nothing is compared byte by byte -/
theorem code_word {y : MethodName} {bytes : ByteArray} {mx : Nat} {rt : Option FieldType} {a : Array Value} {s : State} {m : MethodId} {meth : Method} {c : Code} (h1 : s.methodNamed? y = some m) (h2 : s.vm.method? m = some meth) (h3 : meth.code = some c) (h4 : c.code = bytes)
    (h5 : (c.maxLocals == mx && c.exceptionTable.isEmpty && decide (c.maxStack ≤ mostOperands) && decide (meth.sig.returnType = rt) && !meth.locks && decide (parseMethodDescriptor y.desc = some meth.sig)) = true) : (Jvm.Cond.code y bytes mx rt).before a s = true := by
  simp only [Bool.and_eq_true, beq_iff_eq, Bool.not_eq_true', decide_eq_true_eq] at h5
  obtain ⟨⟨⟨⟨⟨g1, g2⟩, g3⟩, g4⟩, g5⟩, g6⟩ := h5
  simp [Cond.before, Cond.holds, Cond.value, h1, h2, h3, h4, g1, g2, g3, g4, g5, g6]
def isCode : Jvm.Cond → Bool
  | .code _ _ _ _ => true
  | _ => false
theorem all_split {L : List Jvm.Cond} {P : Jvm.Cond → Bool} (h1 : L.all (fun c => isCode c || P c) = true) (h2 : ∀ c ∈ L.filter isCode, P c = true) : L.all P = true := by
  refine List.all_eq_true.mpr fun c hc => ?_
  have h := List.all_eq_true.mp h1 c hc
  rcases Bool.eq_false_or_eq_true (isCode c) with hi | hi
  · exact h2 c (List.mem_filter.mpr ⟨hc, hi⟩)
  · simpa [hi] using h
set_option maxRecDepth 65536 in
theorem w_c0 : (Jvm.Cond.code x code maxLocals ret).before args0 about1 = true := code_word (m := ⟨1, 5⟩) (meth := k1m5) (c := k1c5) (by decide +kernel) rfl rfl rfl (by decide +kernel)
set_option maxRecDepth 65536 in
theorem w_c1 : (Jvm.Cond.code ({ cls := "cleave/io/PackedFormatHoldsMagicPinLaw", name := "pick", desc := "(IIIJ)B" } : Jvm.MethodName) method_3_code (5 : Nat) (Option.some Jvm.ClassFile.FieldType.byte)).before args0 about1 = true := code_word (m := ⟨1, 2⟩) (meth := k1m2) (c := k1c2) (by decide +kernel) rfl rfl rfl (by decide +kernel)
set_option maxRecDepth 65536 in
theorem w_c2 : (Jvm.Cond.code ({ cls := "cleave/io/PackedFormatHoldsMagicPinLaw", name := "put", desc := "([BIB)V" } : Jvm.MethodName) method_5_code (3 : Nat) (Option.none : Option Jvm.ClassFile.FieldType)).before args0 about1 = true := code_word (m := ⟨1, 4⟩) (meth := k1m4) (c := k1c4) (by decide +kernel) rfl rfl rfl (by decide +kernel)
set_option maxRecDepth 65536 in
theorem w_c3 : (Jvm.Cond.code ({ cls := "cleave/io/PackedFormatHoldsMagicPinLaw", name := "matches", desc := "(IIIJ)Z" } : Jvm.MethodName) method_4_code (5 : Nat) (Option.some Jvm.ClassFile.FieldType.boolean)).before args0 about1 = true := code_word (m := ⟨1, 3⟩) (meth := k1m3) (c := k1c3) (by decide +kernel) rfl rfl rfl (by decide +kernel)
set_option maxRecDepth 65536 in
theorem w_c4 : (Jvm.Cond.code ({ cls := "cleave/io/PackedFormatHoldsMagicPinLaw", name := "expected", desc := "(II)I" } : Jvm.MethodName) method_2_code (2 : Nat) (Option.some Jvm.ClassFile.FieldType.int)).before args0 about1 = true := code_word (m := ⟨1, 1⟩) (meth := k1m1) (c := k1c1) (by decide +kernel) rfl rfl rfl (by decide +kernel)
set_option maxRecDepth 65536 in
theorem w_c5 : (Jvm.Cond.code ({ cls := "cleave/io/PackedFormat", name := "holdsMagic", desc := "([B)Z" } : Jvm.MethodName) prog_34_method_10_code (4 : Nat) (Option.some Jvm.ClassFile.FieldType.boolean)).before args0 about1 = true := code_word (m := ⟨6, 0⟩) (meth := k6m0) (c := k6c0) (by decide +kernel) rfl rfl rfl (by decide +kernel)
def codes1 : List Jvm.Cond := [Jvm.Cond.code x code maxLocals ret, Jvm.Cond.code ({ cls := "cleave/io/PackedFormatHoldsMagicPinLaw", name := "pick", desc := "(IIIJ)B" } : Jvm.MethodName) method_3_code (5 : Nat) (Option.some Jvm.ClassFile.FieldType.byte), Jvm.Cond.code ({ cls := "cleave/io/PackedFormatHoldsMagicPinLaw", name := "put", desc := "([BIB)V" } : Jvm.MethodName) method_5_code (3 : Nat) (Option.none : Option Jvm.ClassFile.FieldType), Jvm.Cond.code ({ cls := "cleave/io/PackedFormatHoldsMagicPinLaw", name := "matches", desc := "(IIIJ)Z" } : Jvm.MethodName) method_4_code (5 : Nat) (Option.some Jvm.ClassFile.FieldType.boolean), Jvm.Cond.code ({ cls := "cleave/io/PackedFormatHoldsMagicPinLaw", name := "expected", desc := "(II)I" } : Jvm.MethodName) method_2_code (2 : Nat) (Option.some Jvm.ClassFile.FieldType.int), Jvm.Cond.code ({ cls := "cleave/io/PackedFormat", name := "holdsMagic", desc := "([B)Z" } : Jvm.MethodName) prog_34_method_10_code (4 : Nat) (Option.some Jvm.ClassFile.FieldType.boolean)]
set_option maxRecDepth 65536 in
theorem codes_eq : words1.filter isCode = codes1 := rfl
theorem w_codes : ∀ c ∈ words1.filter isCode, c.before args0 about1 = true := by
  rw [codes_eq]
  intro c hc
  simp only [codes1, List.mem_cons, List.not_mem_nil, or_false] at hc
  rcases hc with rfl | rfl | rfl | rfl | rfl | rfl
  · exact w_c0
  · exact w_c1
  · exact w_c2
  · exact w_c3
  · exact w_c4
  · exact w_c5
set_option maxRecDepth 65536 in
theorem w_t1 : (words1.take 24).all (fun c => isCode c || c.before args0 about1) = true := by decide +kernel
set_option maxRecDepth 65536 in
theorem w_t2 : (words1.drop 24).all (fun c => isCode c || c.before args0 about1) = true := by decide +kernel
theorem w_tables : (allAtoms (Jvm.Cond.code x code maxLocals ret :: tables_1)).before args0 about1 = true := by
  rw [allAtoms_all]
  show words1.all (fun c => c.before args0 about1) = true
  refine all_split ?_ w_codes
  rw [← List.take_append_drop 24 words1, List.all_append, w_t1, w_t2]
  rfl
set_option maxRecDepth 65536 in
theorem w_case : (Jvm.Cond.and given_1 narrow_1).before args0 about1 = true := by decide +kernel
theorem w_applies : (headSpec (Jvm.Cond.code x code maxLocals ret :: tables_1) room_1).applies x e0.platform about1 = true :=
  (Spec.applies_iff w_frames).mpr ⟨w_running, w_runnable, w_alone, w_named, w_hears, w_ripe, w_room, w_tables⟩
theorem atStart : AtStart classFile x code maxLocals ret World_1 tables_1 room_1 Calls_1 rest_1 Pre_1 launch0 p0 e0 about1 theMethod args0 below0 :=
  ⟨lists_1, trivial, launch0.admits_env _ _ _, launch0.least_env, fairChoices_fair.cas, fairChoices_fair.clock, w_frames, w_args, w_heap, w_applies, trivial, trivial, w_case⟩
end start1
theorem witness_1 : WitnessClaimed_1 := ⟨start1.p0, start1.e0, start1.about1, start1.theMethod, start1.args0, start1.below0, start1.atStart⟩
end Jvm.Pilot.@@N@@
