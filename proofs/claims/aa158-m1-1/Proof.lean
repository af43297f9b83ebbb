import JvmDerived
import JvmDerived.Pilot.@@N@@Statement
import JvmDerived.Pilot.@@N@@Code
set_option linter.unusedVariables false
set_option linter.unusedSimpArgs false
namespace Jvm.OwnW
open Sem ClassFile Op Lib Jvm.Stand Jvm.Free Jvm.LawKit Jvm.RoadKit
section Walks
variable {p : Program} {l : Launch} {e : Env} {R : Room} {s : State} {m : MethodId} {args : Array Value} {below : List Frame} {meth : Method} {c : Code} {T : State} {locs : List Loc} {cells slots : Nat}
/-- from A on the run comes to an end of which P holds -/
def Run (tb : Tables) (e : Env) (below : List Frame) (P : State → Outcome → Prop) (A : State) : Prop := ∃ s₂ o, Steps tb e below A s₂ ∧ P s₂ o
theorem Run.step {tb : Tables} {P : State → Outcome → Prop} {A B : State} (k : ∀ t, Steps tb e below B t → Steps tb e below A t) (h : Run tb e below P B) : Run tb e below P A := by
  obtain ⟨s₂, o, a, b⟩ := h
  exact ⟨s₂, o, k _ a, b⟩
/-- what a body's contract says at the end -/
def PQ (s : State) (below : List Frame) (rc rs : Nat) (Q : Option Value → Heap → List Loc → Prop) (s₂ : State) (o : Outcome) : Prop := s₂.status = .running ∧ Ended s₂ below o ∧ ∃ v L, o = .returned v ∧ Q v s₂.heap L ∧ FrameEnd s o s₂ L rc rs
theorem fin (X : Stand p l e R s m args below meth c T locs cells slots) {A : State} {Q : Option Value → Heap → List Loc → Prop} {rc rs : Nat} {v : Option Value} {h : Heap} (hl : meth.locks = false) (hv : meth.sig.returnType = none → v = none) (hc : cells ≤ rc) (hs : slots ≤ rs) (eT : T.heap = h) (hQ : Q v h locs)
    (st : ∀ fs, (∀ (f : JFrame) (acts : List Action), f.method = m → f.locked = none → f.entered = [] → (doReturn e (T.setTop f) acts v).1 = T.setFrames fs) → Steps p.tables e below A (T.setFrames fs)) : Run p.tables e below (PQ s below rc rs Q) A := by
  obtain ⟨fs, hr, hrun, hended, hW, hsame⟩ := X.leave (v := v) hv hl
  refine ⟨_, _, st fs hr, hrun, hended, _, _, rfl, ?_, ⟨_, rfl⟩, hW, hsame.mono hc hs⟩
  show Q v T.heap locs
  rw [eT]
  exact hQ
theorem finV (X : Stand p l e R s m args below meth c T locs cells slots) (hx : p.tables.exec = Jvm.exec) (hl : meth.locks = false) {Q : Option Value → Heap → List Loc → Prop} {rc rs pc : Nat} {Ls : Array Slot} {h : Heap} (hret : meth.sig.returnType = none) (hd : decode c.code pc = .ok (.return_, 1)) (hc : cells ≤ rc) (hs : slots ≤ rs) (eT : T.heap = h) (hQ : Q none h locs) : Run p.tables e below (PQ s below rc rs Q) (T.setTop (mkF m pc Ls [])) :=
  fin X hl (fun _ => rfl) hc hs eT hQ fun fs hr => X.returnOut hx hret hd hr
theorem finI (X : Stand p l e R s m args below meth c T locs cells slots) (hx : p.tables.exec = Jvm.exec) (hl : meth.locks = false) {Q : Option Value → Heap → List Loc → Prop} {rc rs pc : Nat} {Ls : Array Slot} {z : Int32} {rest : List Value} {h : Heap} (hret : meth.sig.returnType = some .int) (hd : decode c.code pc = .ok (.ireturn, 1)) (hc : cells ≤ rc) (hs : slots ≤ rs) (eT : T.heap = h) (hQ : Q (some (.int z)) h locs) : Run p.tables e below (PQ s below rc rs Q) (T.setTop (mkF m pc Ls (.int z :: rest))) :=
  fin X hl (fun q => by rw [hret] at q; cases q) hc hs eT hQ fun fs hr => retOut X hx hret rfl (Or.inl ⟨rfl, Or.inl rfl, _, rfl⟩) hd hr
theorem finZ (X : Stand p l e R s m args below meth c T locs cells slots) (hx : p.tables.exec = Jvm.exec) (hl : meth.locks = false) {Q : Option Value → Heap → List Loc → Prop} {rc rs pc : Nat} {Ls : Array Slot} {z : Int32} {rest : List Value} {h : Heap} (hret : meth.sig.returnType = some .boolean) (hd : decode c.code pc = .ok (.ireturn, 1)) (hz : z = 0 ∨ z = 1) (hc : cells ≤ rc) (hs : slots ≤ rs) (eT : T.heap = h) (hQ : Q (some (.int z)) h locs) : Run p.tables e below (PQ s below rc rs Q) (T.setTop (mkF m pc Ls (.int z :: rest))) :=
  fin X hl (fun q => by rw [hret] at q; cases q) hc hs eT hQ fun fs hr => retOut X hx hret (by rcases hz with rfl | rfl <;> rfl) (Or.inl ⟨rfl, Or.inr (Or.inl rfl), _, rfl⟩) hd hr
theorem finB (X : Stand p l e R s m args below meth c T locs cells slots) (hx : p.tables.exec = Jvm.exec) (hl : meth.locks = false) {Q : Option Value → Heap → List Loc → Prop} {rc rs pc : Nat} {Ls : Array Slot} {z : Int32} {rest : List Value} {h : Heap} (hret : meth.sig.returnType = some .byte) (hd : decode c.code pc = .ok (.ireturn, 1)) (hz : narrow .byte (.int z) = .int z) (hc : cells ≤ rc) (hs : slots ≤ rs) (eT : T.heap = h) (hQ : Q (some (.int z)) h locs) : Run p.tables e below (PQ s below rc rs Q) (T.setTop (mkF m pc Ls (.int z :: rest))) :=
  fin X hl (fun q => by rw [hret] at q; cases q) hc hs eT hQ fun fs hr => retOut X hx hret hz (Or.inl ⟨rfl, Or.inr (Or.inr (Or.inl rfl)), _, rfl⟩) hd hr
theorem finJ (X : Stand p l e R s m args below meth c T locs cells slots) (hx : p.tables.exec = Jvm.exec) (hl : meth.locks = false) {Q : Option Value → Heap → List Loc → Prop} {rc rs pc : Nat} {Ls : Array Slot} {z : Int64} {rest : List Value} {h : Heap} (hret : meth.sig.returnType = some .long) (hd : decode c.code pc = .ok (.lreturn, 1)) (hc : cells ≤ rc) (hs : slots ≤ rs) (eT : T.heap = h) (hQ : Q (some (.long z)) h locs) : Run p.tables e below (PQ s below rc rs Q) (T.setTop (mkF m pc Ls (.long z :: rest))) :=
  fin X hl (fun q => by rw [hret] at q; cases q) hc hs eT hQ fun fs hr => retOut X hx hret rfl (Or.inr (Or.inl ⟨rfl, rfl, _, rfl⟩)) hd hr
theorem finA (X : Stand p l e R s m args below meth c T locs cells slots) (hx : p.tables.exec = Jvm.exec) (hl : meth.locks = false) {Q : Option Value → Heap → List Loc → Prop} {rc rs pc : Nat} {Ls : Array Slot} {w : Value} {t : FieldType} {rest : List Value} {h : Heap} (hret : meth.sig.returnType = some t) (hd : decode c.code pc = .ok (.areturn, 1)) (ht : t.isReference = true) (hw : w.isRef = true) (hc : cells ≤ rc) (hs : slots ≤ rs) (eT : T.heap = h) (hQ : Q (some w) h locs) : Run p.tables e below (PQ s below rc rs Q) (T.setTop (mkF m pc Ls (w :: rest))) :=
  fin X hl (fun q => by rw [hret] at q; cases q) hc hs eT hQ fun fs hr => retOut X hx hret (by cases t <;> first | rfl | (cases w <;> first | rfl | cases ht)) (Or.inr (Or.inr (Or.inr (Or.inr ⟨rfl, ht, hw⟩)))) hd hr
/-- the same for a body that may load String constants -/
def PW (s : State) (below : List Frame) (rc rs : Nat) (Q : Option Value → Heap → List Loc → Prop) (s₂ : State) (o : Outcome) : Prop := s₂.status = .running ∧ Ended s₂ below o ∧ ∃ v L, o = .returned v ∧ Q v s₂.heap L ∧ ReturnedEndW s o s₂ L rc rs
theorem finW {vm : Vm} {n : Nat} (X : Stand p l e R (s.setVm vm) m args below meth c T locs cells slots) {A : State} {Q : Option Value → Heap → List Loc → Prop} {rc rs : Nat} {v : Option Value} {h : Heap} (hS : s.Since vm n) (hk : n ≤ h.size) (hl : meth.locks = false) (hv : meth.sig.returnType = none → v = none) (hc : cells ≤ rc) (hs : slots ≤ rs) (eT : T.heap = h) (hQ : Q v h locs)
    (st : ∀ fs, (∀ (f : JFrame) (acts : List Action), f.method = m → f.locked = none → f.entered = [] → (doReturn e (T.setTop f) acts v).1 = T.setFrames fs) → Steps p.tables e below A (T.setFrames fs)) : Run p.tables e below (PW s below rc rs Q) A := by
  obtain ⟨fs, hr, hrun, hended, hE⟩ := X.leaveW hS (by rw [eT]; exact hk) (v := v) hv hl
  refine ⟨_, _, st fs hr, hrun, hended, _, _, rfl, ?_, hE.1, hE.2.1, hE.2.2.1, hE.2.2.2.mono hc hs⟩
  show Q v T.heap locs
  rw [eT]
  exact hQ
theorem finVW {vm : Vm} {n : Nat} (X : Stand p l e R (s.setVm vm) m args below meth c T locs cells slots) (hx : p.tables.exec = Jvm.exec) {h : Heap} (hS : s.Since vm n) (hk : n ≤ h.size) (hl : meth.locks = false) {Q : Option Value → Heap → List Loc → Prop} {rc rs pc : Nat} {Ls : Array Slot} (hret : meth.sig.returnType = none) (hd : decode c.code pc = .ok (.return_, 1)) (hc : cells ≤ rc) (hs : slots ≤ rs) (eT : T.heap = h) (hQ : Q none h locs) : Run p.tables e below (PW s below rc rs Q) (T.setTop (mkF m pc Ls [])) :=
  finW X hS hk hl (fun _ => rfl) hc hs eT hQ fun fs hr => X.returnOut hx hret hd hr
theorem finIW {vm : Vm} {n : Nat} (X : Stand p l e R (s.setVm vm) m args below meth c T locs cells slots) (hx : p.tables.exec = Jvm.exec) {h : Heap} (hS : s.Since vm n) (hk : n ≤ h.size) (hl : meth.locks = false) {Q : Option Value → Heap → List Loc → Prop} {rc rs pc : Nat} {Ls : Array Slot} {z : Int32} {rest : List Value} (hret : meth.sig.returnType = some .int) (hd : decode c.code pc = .ok (.ireturn, 1)) (hc : cells ≤ rc) (hs : slots ≤ rs) (eT : T.heap = h) (hQ : Q (some (.int z)) h locs) : Run p.tables e below (PW s below rc rs Q) (T.setTop (mkF m pc Ls (.int z :: rest))) :=
  finW X hS hk hl (fun q => by rw [hret] at q; cases q) hc hs eT hQ fun fs hr => retOut X hx hret rfl (Or.inl ⟨rfl, Or.inl rfl, _, rfl⟩) hd hr
theorem finZW {vm : Vm} {n : Nat} (X : Stand p l e R (s.setVm vm) m args below meth c T locs cells slots) (hx : p.tables.exec = Jvm.exec) {h : Heap} (hS : s.Since vm n) (hk : n ≤ h.size) (hl : meth.locks = false) {Q : Option Value → Heap → List Loc → Prop} {rc rs pc : Nat} {Ls : Array Slot} {z : Int32} {rest : List Value} (hret : meth.sig.returnType = some .boolean) (hd : decode c.code pc = .ok (.ireturn, 1)) (hz : z = 0 ∨ z = 1) (hc : cells ≤ rc) (hs : slots ≤ rs) (eT : T.heap = h) (hQ : Q (some (.int z)) h locs) : Run p.tables e below (PW s below rc rs Q) (T.setTop (mkF m pc Ls (.int z :: rest))) :=
  finW X hS hk hl (fun q => by rw [hret] at q; cases q) hc hs eT hQ fun fs hr => retOut X hx hret (by rcases hz with rfl | rfl <;> rfl) (Or.inl ⟨rfl, Or.inr (Or.inl rfl), _, rfl⟩) hd hr
theorem finBW {vm : Vm} {n : Nat} (X : Stand p l e R (s.setVm vm) m args below meth c T locs cells slots) (hx : p.tables.exec = Jvm.exec) {h : Heap} (hS : s.Since vm n) (hk : n ≤ h.size) (hl : meth.locks = false) {Q : Option Value → Heap → List Loc → Prop} {rc rs pc : Nat} {Ls : Array Slot} {z : Int32} {rest : List Value} (hret : meth.sig.returnType = some .byte) (hd : decode c.code pc = .ok (.ireturn, 1)) (hz : narrow .byte (.int z) = .int z) (hc : cells ≤ rc) (hs : slots ≤ rs) (eT : T.heap = h) (hQ : Q (some (.int z)) h locs) : Run p.tables e below (PW s below rc rs Q) (T.setTop (mkF m pc Ls (.int z :: rest))) :=
  finW X hS hk hl (fun q => by rw [hret] at q; cases q) hc hs eT hQ fun fs hr => retOut X hx hret hz (Or.inl ⟨rfl, Or.inr (Or.inr (Or.inl rfl)), _, rfl⟩) hd hr
theorem finJW {vm : Vm} {n : Nat} (X : Stand p l e R (s.setVm vm) m args below meth c T locs cells slots) (hx : p.tables.exec = Jvm.exec) {h : Heap} (hS : s.Since vm n) (hk : n ≤ h.size) (hl : meth.locks = false) {Q : Option Value → Heap → List Loc → Prop} {rc rs pc : Nat} {Ls : Array Slot} {z : Int64} {rest : List Value} (hret : meth.sig.returnType = some .long) (hd : decode c.code pc = .ok (.lreturn, 1)) (hc : cells ≤ rc) (hs : slots ≤ rs) (eT : T.heap = h) (hQ : Q (some (.long z)) h locs) : Run p.tables e below (PW s below rc rs Q) (T.setTop (mkF m pc Ls (.long z :: rest))) :=
  finW X hS hk hl (fun q => by rw [hret] at q; cases q) hc hs eT hQ fun fs hr => retOut X hx hret rfl (Or.inr (Or.inl ⟨rfl, rfl, _, rfl⟩)) hd hr
theorem finAW {vm : Vm} {n : Nat} (X : Stand p l e R (s.setVm vm) m args below meth c T locs cells slots) (hx : p.tables.exec = Jvm.exec) {h : Heap} (hS : s.Since vm n) (hk : n ≤ h.size) (hl : meth.locks = false) {Q : Option Value → Heap → List Loc → Prop} {rc rs pc : Nat} {Ls : Array Slot} {w : Value} {t : FieldType} {rest : List Value} (hret : meth.sig.returnType = some t) (hd : decode c.code pc = .ok (.areturn, 1)) (ht : t.isReference = true) (hw : w.isRef = true) (hc : cells ≤ rc) (hs : slots ≤ rs) (eT : T.heap = h) (hQ : Q (some w) h locs) : Run p.tables e below (PW s below rc rs Q) (T.setTop (mkF m pc Ls (w :: rest))) :=
  finW X hS hk hl (fun q => by rw [hret] at q; cases q) hc hs eT hQ fun fs hr => retOut X hx hret (by cases t <;> first | rfl | (cases w <;> first | rfl | cases ht)) (Or.inr (Or.inr (Or.inr (Or.inr ⟨rfl, ht, hw⟩)))) hd hr
theorem own_lrem {g : JFrame} {target : State} (X : Stand p l e R s m args below meth c T locs cells slots) (hx : p.tables.exec = Jvm.exec) (hg : g.method = m) {x y : Int64} {rest : List Value} (hd : decode c.code g.pc = .ok (.lrem, 1)) (hs : g.stack = .long y :: .long x :: rest) (hy : y ≠ 0)
    (hr : Steps p.tables e below (T.setTop { g with pc := g.pc + 1, stack := .long (x % y) :: rest }) target) : Steps p.tables e below (T.setTop g) target :=
  XS.lrem X.here hx hg hd hs hy (by rw [lrem_mod]; exact hr)
end Walks
end Jvm.OwnW
namespace Jvm.Pilot.@@N@@
open Jvm Jvm.ClassFile Sem Op Lib Jvm.Free Jvm.Stand Jvm.LawKit Jvm.RoadKit Jvm.OwnW Bundle Jvm.Pilot.@@N@@.Jvm.D
theorem own_eq {args : Array Value} {first s : State} {o : Option Outcome} {idx : List Nat} {a b : Term} (h : (Cond.eq a b).value args first o s idx = some true) : ∃ x, a.eval args first o idx s = some x ∧ b.eval args first o idx s = some x := by
  obtain ⟨x, y, hx, hy, k1, k2⟩ := cmp_v (Or.inl h)
  refine ⟨x, hx, ?_⟩
  rw [hy]
  simp only [Cond.value, hx, hy] at h
  cases x <;> cases y <;> simp at h <;> simp [h]
theorem own_eqr {args : Array Value} {first s : State} {o : Option Outcome} {idx : List Nat} {a b : Term} {v : Value} (h : (Cond.eq a b).value args first o s idx = some true) (hb : b.eval args first o idx s = some v) : a.eval args first o idx s = some v := by
  obtain ⟨x, h1, h2⟩ := own_eq h
  rw [h1, ← h2, hb]
theorem own_eqi {args : Array Value} {first s : State} {o : Option Outcome} {idx : List Nat} {a : Term} {n : Int32} (h : (Cond.eq a (Term.int n)).value args first o s idx = some true) : a.eval args first o idx s = some (.int n) := own_eqr h (Term.int_eval _)
theorem own_len {args : Array Value} {s : State} {t : Term} {b : Addr} {cl : Cell} {ty : FieldType} {n : Int32} (A : Arr s s.heap b cl ty) (ev : t.eval args s none [] s = some (.ref b)) (h : (Term.length t).eval args s none [] s = some (.int n)) : cl.slots.size < 2 ^ 31 ∧ cl.slots.size.toInt32 = n := by
  have ha := Arr.fin (Vm.Alike.refl _) A
  by_cases q : cl.slots.size < 2 ^ 31
  · have e := len_f ev ha q
    rw [h] at e
    cases e
    exact ⟨q, rfl⟩
  · simp [Term.eval, ev, ha, q] at h
def own_st (k : Nat) : Int32 := ([499, 500, 400, 504, 404, 409, 403, 429, 400, 409, 400, 501, 500, 503, 500, 401, 200] : List Int32).getD k 0
def own_ix (q : Int32) : Nat := if q = 400 then 2 else if q = 401 then 15 else if q = 403 then 6 else if q = 404 then 4 else if q = 409 then 9 else if q = 429 then 7 else if q = 499 then 0 else if q = 501 then 11 else if q = 503 then 13 else if q = 504 then 3 else 1
theorem own_ix_lt (q : Int32) : own_ix q < 16 := by
  by_cases h400 : q = 400
  · rw [show own_ix q = 2 from if_pos h400]; decide
  by_cases h401 : q = 401
  · rw [show own_ix q = 15 from (if_neg h400).trans (if_pos h401)]; decide
  by_cases h403 : q = 403
  · rw [show own_ix q = 6 from (if_neg h400).trans ((if_neg h401).trans (if_pos h403))]; decide
  by_cases h404 : q = 404
  · rw [show own_ix q = 4 from (if_neg h400).trans ((if_neg h401).trans ((if_neg h403).trans (if_pos h404)))]; decide
  by_cases h409 : q = 409
  · rw [show own_ix q = 9 from (if_neg h400).trans ((if_neg h401).trans ((if_neg h403).trans ((if_neg h404).trans (if_pos h409))))]; decide
  by_cases h429 : q = 429
  · rw [show own_ix q = 7 from (if_neg h400).trans ((if_neg h401).trans ((if_neg h403).trans ((if_neg h404).trans ((if_neg h409).trans (if_pos h429)))))]; decide
  by_cases h499 : q = 499
  · rw [show own_ix q = 0 from (if_neg h400).trans ((if_neg h401).trans ((if_neg h403).trans ((if_neg h404).trans ((if_neg h409).trans ((if_neg h429).trans (if_pos h499))))))]; decide
  by_cases h501 : q = 501
  · rw [show own_ix q = 11 from (if_neg h400).trans ((if_neg h401).trans ((if_neg h403).trans ((if_neg h404).trans ((if_neg h409).trans ((if_neg h429).trans ((if_neg h499).trans (if_pos h501)))))))]; decide
  by_cases h503 : q = 503
  · rw [show own_ix q = 13 from (if_neg h400).trans ((if_neg h401).trans ((if_neg h403).trans ((if_neg h404).trans ((if_neg h409).trans ((if_neg h429).trans ((if_neg h499).trans ((if_neg h501).trans (if_pos h503))))))))]; decide
  by_cases h504 : q = 504
  · rw [show own_ix q = 3 from (if_neg h400).trans ((if_neg h401).trans ((if_neg h403).trans ((if_neg h404).trans ((if_neg h409).trans ((if_neg h429).trans ((if_neg h499).trans ((if_neg h501).trans ((if_neg h503).trans (if_pos h504)))))))))]; decide
  rw [show own_ix q = 1 from (if_neg h400).trans ((if_neg h401).trans ((if_neg h403).trans ((if_neg h404).trans ((if_neg h409).trans ((if_neg h429).trans ((if_neg h499).trans ((if_neg h501).trans ((if_neg h503).trans (if_neg h504)))))))))]; decide
theorem own_ix_st (q : Int32) : own_ix q = 1 ∨ own_st (own_ix q) = q := by
  by_cases h400 : q = 400
  · rw [show own_ix q = 2 from if_pos h400, h400]; exact Or.inr (by decide)
  by_cases h401 : q = 401
  · rw [show own_ix q = 15 from (if_neg h400).trans (if_pos h401), h401]; exact Or.inr (by decide)
  by_cases h403 : q = 403
  · rw [show own_ix q = 6 from (if_neg h400).trans ((if_neg h401).trans (if_pos h403)), h403]; exact Or.inr (by decide)
  by_cases h404 : q = 404
  · rw [show own_ix q = 4 from (if_neg h400).trans ((if_neg h401).trans ((if_neg h403).trans (if_pos h404))), h404]; exact Or.inr (by decide)
  by_cases h409 : q = 409
  · rw [show own_ix q = 9 from (if_neg h400).trans ((if_neg h401).trans ((if_neg h403).trans ((if_neg h404).trans (if_pos h409)))), h409]; exact Or.inr (by decide)
  by_cases h429 : q = 429
  · rw [show own_ix q = 7 from (if_neg h400).trans ((if_neg h401).trans ((if_neg h403).trans ((if_neg h404).trans ((if_neg h409).trans (if_pos h429))))), h429]; exact Or.inr (by decide)
  by_cases h499 : q = 499
  · rw [show own_ix q = 0 from (if_neg h400).trans ((if_neg h401).trans ((if_neg h403).trans ((if_neg h404).trans ((if_neg h409).trans ((if_neg h429).trans (if_pos h499)))))), h499]; exact Or.inr (by decide)
  by_cases h501 : q = 501
  · rw [show own_ix q = 11 from (if_neg h400).trans ((if_neg h401).trans ((if_neg h403).trans ((if_neg h404).trans ((if_neg h409).trans ((if_neg h429).trans ((if_neg h499).trans (if_pos h501))))))), h501]; exact Or.inr (by decide)
  by_cases h503 : q = 503
  · rw [show own_ix q = 13 from (if_neg h400).trans ((if_neg h401).trans ((if_neg h403).trans ((if_neg h404).trans ((if_neg h409).trans ((if_neg h429).trans ((if_neg h499).trans ((if_neg h501).trans (if_pos h503)))))))), h503]; exact Or.inr (by decide)
  by_cases h504 : q = 504
  · rw [show own_ix q = 3 from (if_neg h400).trans ((if_neg h401).trans ((if_neg h403).trans ((if_neg h404).trans ((if_neg h409).trans ((if_neg h429).trans ((if_neg h499).trans ((if_neg h501).trans ((if_neg h503).trans (if_pos h504))))))))), h504]; exact Or.inr (by decide)
  exact Or.inl ((if_neg h400).trans ((if_neg h401).trans ((if_neg h403).trans ((if_neg h404).trans ((if_neg h409).trans ((if_neg h429).trans ((if_neg h499).trans ((if_neg h501).trans ((if_neg h503).trans (if_neg h504))))))))))
theorem own_st16 : ∀ k, k < 16 → own_st k ≠ own_st 16 := by decide
theorem own_back : ∀ k, k < 16 → own_st (own_ix (own_st k)) = own_st k := by decide
theorem own_mask (x : Int32) : ∃ n : Nat, n < 16 ∧ (x &&& (2147483647 : Int32)) % (16 : Int32) = Int32.ofNat n := by
  have h := c_and x 2147483647 (by decide)
  have r := (c_irem (x &&& 2147483647) 16 16 (by decide)).1 h.1
  refine ⟨((x &&& (2147483647 : Int32)).toInt % 16).toNat, by omega, Int32.toInt_inj.mp ?_⟩
  rw [r, Int32.toInt_ofNat_of_lt (by omega)]
  omega
def own_vs (o : Nat → Addr) : List Value := [.ref (o 0), .ref (o 1), .ref (o 2), .ref (o 3), .ref (o 4), .ref (o 5), .ref (o 6), .ref (o 7), .ref (o 8), .ref (o 9), .ref (o 10), .ref (o 11), .ref (o 12), .ref (o 13), .ref (o 14), .ref (o 15)]
theorem own_pick (o : Nat → Addr) : ∀ n : Nat, n < 16 → (own_vs o).getD (Int32.ofNat n).toNatClampNeg .null = .ref (o n) ∧ ¬ (Int32.ofNat n) < 0 ∧ (Int32.ofNat n) < 16 := by
  intro n h
  match n, h with
  | 0, _ => exact ⟨rfl, by decide, by decide⟩
  | 1, _ => exact ⟨rfl, by decide, by decide⟩
  | 2, _ => exact ⟨rfl, by decide, by decide⟩
  | 3, _ => exact ⟨rfl, by decide, by decide⟩
  | 4, _ => exact ⟨rfl, by decide, by decide⟩
  | 5, _ => exact ⟨rfl, by decide, by decide⟩
  | 6, _ => exact ⟨rfl, by decide, by decide⟩
  | 7, _ => exact ⟨rfl, by decide, by decide⟩
  | 8, _ => exact ⟨rfl, by decide, by decide⟩
  | 9, _ => exact ⟨rfl, by decide, by decide⟩
  | 10, _ => exact ⟨rfl, by decide, by decide⟩
  | 11, _ => exact ⟨rfl, by decide, by decide⟩
  | 12, _ => exact ⟨rfl, by decide, by decide⟩
  | 13, _ => exact ⟨rfl, by decide, by decide⟩
  | 14, _ => exact ⟨rfl, by decide, by decide⟩
  | 15, _ => exact ⟨rfl, by decide, by decide⟩
  | k + 16, h => exact absurd h (by omega)
theorem pn_faultwise_status_Code : plainName "faultwise/status/Code" = true := by first | (simp [plainName, overriddenIn]; done) | decide +kernel
theorem d1_0 : decode prog_39_method_8_code 0 = .ok (.iload_n 0, 1) := by decide +kernel
theorem d1_1 : decode prog_39_method_8_code 1 = .ok (.lookupswitch 151 #[(400, 91), (401, 97), (403, 103), (404, 109), (409, 115), (429, 121), (499, 127), (501, 133), (503, 139), (504, 145)], 91) := by decide +kernel
theorem d1_92 : decode prog_39_method_8_code 92 = .ok (.getstatic 13, 3) := by decide +kernel
theorem d1_95 : decode prog_39_method_8_code 95 = .ok (.goto 60, 3) := by decide +kernel
theorem d1_155 : decode prog_39_method_8_code 155 = .ok (.areturn, 1) := by decide +kernel
theorem d1_98 : decode prog_39_method_8_code 98 = .ok (.getstatic 52, 3) := by decide +kernel
theorem d1_101 : decode prog_39_method_8_code 101 = .ok (.goto 54, 3) := by decide +kernel
theorem d1_104 : decode prog_39_method_8_code 104 = .ok (.getstatic 25, 3) := by decide +kernel
theorem d1_107 : decode prog_39_method_8_code 107 = .ok (.goto 48, 3) := by decide +kernel
theorem d1_110 : decode prog_39_method_8_code 110 = .ok (.getstatic 19, 3) := by decide +kernel
theorem d1_113 : decode prog_39_method_8_code 113 = .ok (.goto 42, 3) := by decide +kernel
theorem d1_116 : decode prog_39_method_8_code 116 = .ok (.getstatic 34, 3) := by decide +kernel
theorem d1_119 : decode prog_39_method_8_code 119 = .ok (.goto 36, 3) := by decide +kernel
theorem d1_122 : decode prog_39_method_8_code 122 = .ok (.getstatic 28, 3) := by decide +kernel
theorem d1_125 : decode prog_39_method_8_code 125 = .ok (.goto 30, 3) := by decide +kernel
theorem d1_128 : decode prog_39_method_8_code 128 = .ok (.getstatic 7, 3) := by decide +kernel
theorem d1_131 : decode prog_39_method_8_code 131 = .ok (.goto 24, 3) := by decide +kernel
theorem d1_134 : decode prog_39_method_8_code 134 = .ok (.getstatic 40, 3) := by decide +kernel
theorem d1_137 : decode prog_39_method_8_code 137 = .ok (.goto 18, 3) := by decide +kernel
theorem d1_140 : decode prog_39_method_8_code 140 = .ok (.getstatic 46, 3) := by decide +kernel
theorem d1_143 : decode prog_39_method_8_code 143 = .ok (.goto 12, 3) := by decide +kernel
theorem d1_146 : decode prog_39_method_8_code 146 = .ok (.getstatic 16, 3) := by decide +kernel
theorem d1_149 : decode prog_39_method_8_code 149 = .ok (.goto 6, 3) := by decide +kernel
theorem d1_152 : decode prog_39_method_8_code 152 = .ok (.getstatic 10, 3) := by decide +kernel
theorem ef_1 (m : MethodId) (x0 : Int32) : entryFrame m #[(.int x0)] 1 = mkF m 0 #[.val (.int x0)] [] := by first | (simp [entryFrame, mkF, argsToLocals, Value.category, maxLocals]; done) | rfl
def Q1 (Z : State) (q : Int32) (ob : Nat → Addr) (h0 : Heap) (n0 : Nat) (v : Option Value) (h : Heap) (L : List Loc) : Prop := v = some (.ref (ob (own_ix q))) ∧ Fr n0 L ∧ h = h0
set_option maxRecDepth 65536 in
set_option maxHeartbeats 40000000 in
theorem rm1 (l : Launch) (Z : State) (a0 : Array Value) (hw : ∀ d ∈ tables_1, d.before a0 Z = true) (ws : List Jvm.Cond) (q : Int32) (ob : Nat → Addr) (h0 : Heap) (n0 : Nat) (Z0 : n0 ≤ h0.size) (S_CANCELLED : Sta Z h0 "faultwise/status/Code" "CANCELLED" "Lfaultwise/status/Code;" (.ref (ob 0))) (S_UNKNOWN : Sta Z h0 "faultwise/status/Code" "UNKNOWN" "Lfaultwise/status/Code;" (.ref (ob 1))) (S_INVALID_ARGUMENT : Sta Z h0 "faultwise/status/Code" "INVALID_ARGUMENT" "Lfaultwise/status/Code;" (.ref (ob 2))) (S_DEADLINE_EXCEEDED : Sta Z h0 "faultwise/status/Code" "DEADLINE_EXCEEDED" "Lfaultwise/status/Code;" (.ref (ob 3))) (S_NOT_FOUND : Sta Z h0 "faultwise/status/Code" "NOT_FOUND" "Lfaultwise/status/Code;" (.ref (ob 4))) (S_PERMISSION_DENIED : Sta Z h0 "faultwise/status/Code" "PERMISSION_DENIED" "Lfaultwise/status/Code;" (.ref (ob 6))) (S_RESOURCE_EXHAUSTED : Sta Z h0 "faultwise/status/Code" "RESOURCE_EXHAUSTED" "Lfaultwise/status/Code;" (.ref (ob 7))) (S_ABORTED : Sta Z h0 "faultwise/status/Code" "ABORTED" "Lfaultwise/status/Code;" (.ref (ob 9))) (S_UNIMPLEMENTED : Sta Z h0 "faultwise/status/Code" "UNIMPLEMENTED" "Lfaultwise/status/Code;" (.ref (ob 11))) (S_UNAVAILABLE : Sta Z h0 "faultwise/status/Code" "UNAVAILABLE" "Lfaultwise/status/Code;" (.ref (ob 13))) (S_UNAUTHENTICATED : Sta Z h0 "faultwise/status/Code" "UNAUTHENTICATED" "Lfaultwise/status/Code;" (.ref (ob 15))) :
    MetFree l (⟨"faultwise/status/Code", "forHttpStatus", "(I)Lfaultwise/status/Code;"⟩ : MethodName) (head1 (Jvm.Cond.code (⟨"faultwise/status/Code", "forHttpStatus", "(I)Lfaultwise/status/Code;"⟩ : MethodName) prog_39_method_8_code 1 (some (.object "faultwise/status/Code")) :: ws) ({ frames := 0, cells := 0, slots := 0, locals := 0 } : Room)) (fun a U => a = #[(.int q)] ∧ Z.Warmed39 U.vm ∧ U.heap = h0) (fun _ _ _ _ _ => True) (fun _ U o U' => ∃ v L, o = .returned v ∧ Q1 Z q ob h0 n0 v U'.heap L ∧ FrameEnd U o U' L ({ frames := 0, cells := 0, slots := 0, locals := 0 } : Room).cells ({ frames := 0, cells := 0, slots := 0, locals := 0 } : Room).slots) := by
  refine MetFree.of_bodySF (plainFor_of_name pn_faultwise_status_Code) hisR ?_
  intro p e s m args below meth c s₁ Bd hml0 hP hK
  obtain ⟨rfl, hZ, hh⟩ := hP
  have hx := Bd.exec
  have hby := Bd.bytes
  have w39 := hw _ (List.mem_of_getElem? (i := 39) rfl)
  have w50 := hw _ (List.mem_of_getElem? (i := 50) rfl)
  have w51 := hw _ (List.mem_of_getElem? (i := 51) rfl)
  have w52 := hw _ (List.mem_of_getElem? (i := 52) rfl)
  have w53 := hw _ (List.mem_of_getElem? (i := 53) rfl)
  have w54 := hw _ (List.mem_of_getElem? (i := 54) rfl)
  have w55 := hw _ (List.mem_of_getElem? (i := 55) rfl)
  have w56 := hw _ (List.mem_of_getElem? (i := 56) rfl)
  have w57 := hw _ (List.mem_of_getElem? (i := 57) rfl)
  have w58 := hw _ (List.mem_of_getElem? (i := 58) rfl)
  have w59 := hw _ (List.mem_of_getElem? (i := 59) rfl)
  have hml : c.maxLocals = 1 := hml0
  have hown : s.vm.findClass "faultwise/status/Code" = some m.cls := findClass_of_methodNamed Bd.named
  have hnm := (name_of_methodNamed Bd.named Bd.method).1
  have X0 : Stand p l e ({ frames := 0, cells := 0, slots := 0, locals := 0 } : Room) s m #[(.int q)] below meth c s₁ [] 0 0 := Stand.of_body Bd
  have e0 : s₁.heap = h0 := by rw [← hh, Bd.state]; rfl
  have N0 := Fr.nil n0
  show Run p.tables e below (PQ s below 0 0 (Q1 Z q ob h0 n0)) (s₁.setTop (entryFrame m #[(.int q)] 1))
  refine Run.step (fun t k => castTop (ef_1 m q) k) ?_
  show Run _ _ _ _ (s₁.setTop (mkF m 0 #[.val (.int q)] []))
  refine Run.step (fun t_ k_ => XS.iloadN X0.here hx rfl (hb hby d1_0) rfl k_) ?_
  show Run _ _ _ _ (s₁.setTop (mkF m 1 #[.val (.int q)] [(.int q)]))
  by_cases c1_400 : q = (400 : Int32)
  · have _hx := hx
    refine Run.step (fun t_ k_ => X0.lookupswitchHit hx (g := (mkF m 1 #[.val (.int q)] [(.int q)])) rfl rfl (hb hby d1_1) (by decide) (a := 400) (off := 91) (by rw [c1_400]; rfl) (by show (0 : Int) ≤ ((1 : Nat) : Int) + (91 : Int); decide) _ k_) ?_
    show Run _ _ _ _ (s₁.setTop (mkF m 92 #[.val (.int q)] []))
    obtain ⟨T1, X1, e1, st1⟩ := getS2 X0 hx hZ hown (host := "") (Or.inl w57) Via.refl e0 S_INVALID_ARGUMENT (g := (mkF m 92 #[.val (.int q)] [])) rfl (hb hby d1_92)
    refine Run.step st1 ?_
    show Run _ _ _ _ (T1.setTop (mkF m 95 #[.val (.int q)] [(.ref (ob 2))]))
    refine Run.step (fun t_ k_ => XS.goto X1.here hx rfl (pc0 := 95) (pc' := 155) rfl (hb hby d1_95) (by decide) (by decide) k_) ?_
    show Run _ _ _ _ (T1.setTop (mkF m 155 #[.val (.int q)] [(.ref (ob 2))]))
    exact finA X1 hx (BodyLoose.notSynchronized Bd) Bd.returns (hb hby d1_155) rfl rfl (by decide) (by decide) e1 ⟨congrArg (fun z => some (Value.ref (ob z))) (show own_ix q = 2 from if_pos c1_400).symm, N0, rfl⟩
  by_cases c1_401 : q = (401 : Int32)
  · have _hx := hx
    refine Run.step (fun t_ k_ => X0.lookupswitchHit hx (g := (mkF m 1 #[.val (.int q)] [(.int q)])) rfl rfl (hb hby d1_1) (by decide) (a := 401) (off := 97) (by rw [c1_401]; rfl) (by show (0 : Int) ≤ ((1 : Nat) : Int) + (97 : Int); decide) _ k_) ?_
    show Run _ _ _ _ (s₁.setTop (mkF m 98 #[.val (.int q)] []))
    obtain ⟨T2, X2, e2, st2⟩ := getS2 X0 hx hZ hown (host := "") (Or.inl w54) Via.refl e0 S_UNAUTHENTICATED (g := (mkF m 98 #[.val (.int q)] [])) rfl (hb hby d1_98)
    refine Run.step st2 ?_
    show Run _ _ _ _ (T2.setTop (mkF m 101 #[.val (.int q)] [(.ref (ob 15))]))
    refine Run.step (fun t_ k_ => XS.goto X2.here hx rfl (pc0 := 101) (pc' := 155) rfl (hb hby d1_101) (by decide) (by decide) k_) ?_
    show Run _ _ _ _ (T2.setTop (mkF m 155 #[.val (.int q)] [(.ref (ob 15))]))
    exact finA X2 hx (BodyLoose.notSynchronized Bd) Bd.returns (hb hby d1_155) rfl rfl (by decide) (by decide) e2 ⟨congrArg (fun z => some (Value.ref (ob z))) (show own_ix q = 15 from (if_neg c1_400).trans (if_pos c1_401)).symm, N0, rfl⟩
  by_cases c1_403 : q = (403 : Int32)
  · have _hx := hx
    refine Run.step (fun t_ k_ => X0.lookupswitchHit hx (g := (mkF m 1 #[.val (.int q)] [(.int q)])) rfl rfl (hb hby d1_1) (by decide) (a := 403) (off := 103) (by rw [c1_403]; rfl) (by show (0 : Int) ≤ ((1 : Nat) : Int) + (103 : Int); decide) _ k_) ?_
    show Run _ _ _ _ (s₁.setTop (mkF m 104 #[.val (.int q)] []))
    obtain ⟨T3, X3, e3, st3⟩ := getS2 X0 hx hZ hown (host := "") (Or.inl w58) Via.refl e0 S_PERMISSION_DENIED (g := (mkF m 104 #[.val (.int q)] [])) rfl (hb hby d1_104)
    refine Run.step st3 ?_
    show Run _ _ _ _ (T3.setTop (mkF m 107 #[.val (.int q)] [(.ref (ob 6))]))
    refine Run.step (fun t_ k_ => XS.goto X3.here hx rfl (pc0 := 107) (pc' := 155) rfl (hb hby d1_107) (by decide) (by decide) k_) ?_
    show Run _ _ _ _ (T3.setTop (mkF m 155 #[.val (.int q)] [(.ref (ob 6))]))
    exact finA X3 hx (BodyLoose.notSynchronized Bd) Bd.returns (hb hby d1_155) rfl rfl (by decide) (by decide) e3 ⟨congrArg (fun z => some (Value.ref (ob z))) (show own_ix q = 6 from (if_neg c1_400).trans ((if_neg c1_401).trans (if_pos c1_403))).symm, N0, rfl⟩
  by_cases c1_404 : q = (404 : Int32)
  · have _hx := hx
    refine Run.step (fun t_ k_ => X0.lookupswitchHit hx (g := (mkF m 1 #[.val (.int q)] [(.int q)])) rfl rfl (hb hby d1_1) (by decide) (a := 404) (off := 109) (by rw [c1_404]; rfl) (by show (0 : Int) ≤ ((1 : Nat) : Int) + (109 : Int); decide) _ k_) ?_
    show Run _ _ _ _ (s₁.setTop (mkF m 110 #[.val (.int q)] []))
    obtain ⟨T4, X4, e4, st4⟩ := getS2 X0 hx hZ hown (host := "") (Or.inl w51) Via.refl e0 S_NOT_FOUND (g := (mkF m 110 #[.val (.int q)] [])) rfl (hb hby d1_110)
    refine Run.step st4 ?_
    show Run _ _ _ _ (T4.setTop (mkF m 113 #[.val (.int q)] [(.ref (ob 4))]))
    refine Run.step (fun t_ k_ => XS.goto X4.here hx rfl (pc0 := 113) (pc' := 155) rfl (hb hby d1_113) (by decide) (by decide) k_) ?_
    show Run _ _ _ _ (T4.setTop (mkF m 155 #[.val (.int q)] [(.ref (ob 4))]))
    exact finA X4 hx (BodyLoose.notSynchronized Bd) Bd.returns (hb hby d1_155) rfl rfl (by decide) (by decide) e4 ⟨congrArg (fun z => some (Value.ref (ob z))) (show own_ix q = 4 from (if_neg c1_400).trans ((if_neg c1_401).trans ((if_neg c1_403).trans (if_pos c1_404)))).symm, N0, rfl⟩
  by_cases c1_409 : q = (409 : Int32)
  · have _hx := hx
    refine Run.step (fun t_ k_ => X0.lookupswitchHit hx (g := (mkF m 1 #[.val (.int q)] [(.int q)])) rfl rfl (hb hby d1_1) (by decide) (a := 409) (off := 115) (by rw [c1_409]; rfl) (by show (0 : Int) ≤ ((1 : Nat) : Int) + (115 : Int); decide) _ k_) ?_
    show Run _ _ _ _ (s₁.setTop (mkF m 116 #[.val (.int q)] []))
    obtain ⟨T5, X5, e5, st5⟩ := getS2 X0 hx hZ hown (host := "") (Or.inl w55) Via.refl e0 S_ABORTED (g := (mkF m 116 #[.val (.int q)] [])) rfl (hb hby d1_116)
    refine Run.step st5 ?_
    show Run _ _ _ _ (T5.setTop (mkF m 119 #[.val (.int q)] [(.ref (ob 9))]))
    refine Run.step (fun t_ k_ => XS.goto X5.here hx rfl (pc0 := 119) (pc' := 155) rfl (hb hby d1_119) (by decide) (by decide) k_) ?_
    show Run _ _ _ _ (T5.setTop (mkF m 155 #[.val (.int q)] [(.ref (ob 9))]))
    exact finA X5 hx (BodyLoose.notSynchronized Bd) Bd.returns (hb hby d1_155) rfl rfl (by decide) (by decide) e5 ⟨congrArg (fun z => some (Value.ref (ob z))) (show own_ix q = 9 from (if_neg c1_400).trans ((if_neg c1_401).trans ((if_neg c1_403).trans ((if_neg c1_404).trans (if_pos c1_409))))).symm, N0, rfl⟩
  by_cases c1_429 : q = (429 : Int32)
  · have _hx := hx
    refine Run.step (fun t_ k_ => X0.lookupswitchHit hx (g := (mkF m 1 #[.val (.int q)] [(.int q)])) rfl rfl (hb hby d1_1) (by decide) (a := 429) (off := 121) (by rw [c1_429]; rfl) (by show (0 : Int) ≤ ((1 : Nat) : Int) + (121 : Int); decide) _ k_) ?_
    show Run _ _ _ _ (s₁.setTop (mkF m 122 #[.val (.int q)] []))
    obtain ⟨T6, X6, e6, st6⟩ := getS2 X0 hx hZ hown (host := "") (Or.inl w56) Via.refl e0 S_RESOURCE_EXHAUSTED (g := (mkF m 122 #[.val (.int q)] [])) rfl (hb hby d1_122)
    refine Run.step st6 ?_
    show Run _ _ _ _ (T6.setTop (mkF m 125 #[.val (.int q)] [(.ref (ob 7))]))
    refine Run.step (fun t_ k_ => XS.goto X6.here hx rfl (pc0 := 125) (pc' := 155) rfl (hb hby d1_125) (by decide) (by decide) k_) ?_
    show Run _ _ _ _ (T6.setTop (mkF m 155 #[.val (.int q)] [(.ref (ob 7))]))
    exact finA X6 hx (BodyLoose.notSynchronized Bd) Bd.returns (hb hby d1_155) rfl rfl (by decide) (by decide) e6 ⟨congrArg (fun z => some (Value.ref (ob z))) (show own_ix q = 7 from (if_neg c1_400).trans ((if_neg c1_401).trans ((if_neg c1_403).trans ((if_neg c1_404).trans ((if_neg c1_409).trans (if_pos c1_429)))))).symm, N0, rfl⟩
  by_cases c1_499 : q = (499 : Int32)
  · have _hx := hx
    refine Run.step (fun t_ k_ => X0.lookupswitchHit hx (g := (mkF m 1 #[.val (.int q)] [(.int q)])) rfl rfl (hb hby d1_1) (by decide) (a := 499) (off := 127) (by rw [c1_499]; rfl) (by show (0 : Int) ≤ ((1 : Nat) : Int) + (127 : Int); decide) _ k_) ?_
    show Run _ _ _ _ (s₁.setTop (mkF m 128 #[.val (.int q)] []))
    obtain ⟨T7, X7, e7, st7⟩ := getS2 X0 hx hZ hown (host := "") (Or.inl w52) Via.refl e0 S_CANCELLED (g := (mkF m 128 #[.val (.int q)] [])) rfl (hb hby d1_128)
    refine Run.step st7 ?_
    show Run _ _ _ _ (T7.setTop (mkF m 131 #[.val (.int q)] [(.ref (ob 0))]))
    refine Run.step (fun t_ k_ => XS.goto X7.here hx rfl (pc0 := 131) (pc' := 155) rfl (hb hby d1_131) (by decide) (by decide) k_) ?_
    show Run _ _ _ _ (T7.setTop (mkF m 155 #[.val (.int q)] [(.ref (ob 0))]))
    exact finA X7 hx (BodyLoose.notSynchronized Bd) Bd.returns (hb hby d1_155) rfl rfl (by decide) (by decide) e7 ⟨congrArg (fun z => some (Value.ref (ob z))) (show own_ix q = 0 from (if_neg c1_400).trans ((if_neg c1_401).trans ((if_neg c1_403).trans ((if_neg c1_404).trans ((if_neg c1_409).trans ((if_neg c1_429).trans (if_pos c1_499))))))).symm, N0, rfl⟩
  by_cases c1_501 : q = (501 : Int32)
  · have _hx := hx
    refine Run.step (fun t_ k_ => X0.lookupswitchHit hx (g := (mkF m 1 #[.val (.int q)] [(.int q)])) rfl rfl (hb hby d1_1) (by decide) (a := 501) (off := 133) (by rw [c1_501]; rfl) (by show (0 : Int) ≤ ((1 : Nat) : Int) + (133 : Int); decide) _ k_) ?_
    show Run _ _ _ _ (s₁.setTop (mkF m 134 #[.val (.int q)] []))
    obtain ⟨T8, X8, e8, st8⟩ := getS2 X0 hx hZ hown (host := "") (Or.inl w59) Via.refl e0 S_UNIMPLEMENTED (g := (mkF m 134 #[.val (.int q)] [])) rfl (hb hby d1_134)
    refine Run.step st8 ?_
    show Run _ _ _ _ (T8.setTop (mkF m 137 #[.val (.int q)] [(.ref (ob 11))]))
    refine Run.step (fun t_ k_ => XS.goto X8.here hx rfl (pc0 := 137) (pc' := 155) rfl (hb hby d1_137) (by decide) (by decide) k_) ?_
    show Run _ _ _ _ (T8.setTop (mkF m 155 #[.val (.int q)] [(.ref (ob 11))]))
    exact finA X8 hx (BodyLoose.notSynchronized Bd) Bd.returns (hb hby d1_155) rfl rfl (by decide) (by decide) e8 ⟨congrArg (fun z => some (Value.ref (ob z))) (show own_ix q = 11 from (if_neg c1_400).trans ((if_neg c1_401).trans ((if_neg c1_403).trans ((if_neg c1_404).trans ((if_neg c1_409).trans ((if_neg c1_429).trans ((if_neg c1_499).trans (if_pos c1_501)))))))).symm, N0, rfl⟩
  by_cases c1_503 : q = (503 : Int32)
  · have _hx := hx
    refine Run.step (fun t_ k_ => X0.lookupswitchHit hx (g := (mkF m 1 #[.val (.int q)] [(.int q)])) rfl rfl (hb hby d1_1) (by decide) (a := 503) (off := 139) (by rw [c1_503]; rfl) (by show (0 : Int) ≤ ((1 : Nat) : Int) + (139 : Int); decide) _ k_) ?_
    show Run _ _ _ _ (s₁.setTop (mkF m 140 #[.val (.int q)] []))
    obtain ⟨T9, X9, e9, st9⟩ := getS2 X0 hx hZ hown (host := "") (Or.inl w53) Via.refl e0 S_UNAVAILABLE (g := (mkF m 140 #[.val (.int q)] [])) rfl (hb hby d1_140)
    refine Run.step st9 ?_
    show Run _ _ _ _ (T9.setTop (mkF m 143 #[.val (.int q)] [(.ref (ob 13))]))
    refine Run.step (fun t_ k_ => XS.goto X9.here hx rfl (pc0 := 143) (pc' := 155) rfl (hb hby d1_143) (by decide) (by decide) k_) ?_
    show Run _ _ _ _ (T9.setTop (mkF m 155 #[.val (.int q)] [(.ref (ob 13))]))
    exact finA X9 hx (BodyLoose.notSynchronized Bd) Bd.returns (hb hby d1_155) rfl rfl (by decide) (by decide) e9 ⟨congrArg (fun z => some (Value.ref (ob z))) (show own_ix q = 13 from (if_neg c1_400).trans ((if_neg c1_401).trans ((if_neg c1_403).trans ((if_neg c1_404).trans ((if_neg c1_409).trans ((if_neg c1_429).trans ((if_neg c1_499).trans ((if_neg c1_501).trans (if_pos c1_503))))))))).symm, N0, rfl⟩
  by_cases c1_504 : q = (504 : Int32)
  · have _hx := hx
    refine Run.step (fun t_ k_ => X0.lookupswitchHit hx (g := (mkF m 1 #[.val (.int q)] [(.int q)])) rfl rfl (hb hby d1_1) (by decide) (a := 504) (off := 145) (by rw [c1_504]; rfl) (by show (0 : Int) ≤ ((1 : Nat) : Int) + (145 : Int); decide) _ k_) ?_
    show Run _ _ _ _ (s₁.setTop (mkF m 146 #[.val (.int q)] []))
    obtain ⟨T10, X10, e10, st10⟩ := getS2 X0 hx hZ hown (host := "") (Or.inl w50) Via.refl e0 S_DEADLINE_EXCEEDED (g := (mkF m 146 #[.val (.int q)] [])) rfl (hb hby d1_146)
    refine Run.step st10 ?_
    show Run _ _ _ _ (T10.setTop (mkF m 149 #[.val (.int q)] [(.ref (ob 3))]))
    refine Run.step (fun t_ k_ => XS.goto X10.here hx rfl (pc0 := 149) (pc' := 155) rfl (hb hby d1_149) (by decide) (by decide) k_) ?_
    show Run _ _ _ _ (T10.setTop (mkF m 155 #[.val (.int q)] [(.ref (ob 3))]))
    exact finA X10 hx (BodyLoose.notSynchronized Bd) Bd.returns (hb hby d1_155) rfl rfl (by decide) (by decide) e10 ⟨congrArg (fun z => some (Value.ref (ob z))) (show own_ix q = 3 from (if_neg c1_400).trans ((if_neg c1_401).trans ((if_neg c1_403).trans ((if_neg c1_404).trans ((if_neg c1_409).trans ((if_neg c1_429).trans ((if_neg c1_499).trans ((if_neg c1_501).trans ((if_neg c1_503).trans (if_pos c1_504)))))))))).symm, N0, rfl⟩
  have fm1 := find_miss (ps := #[(400, 91), (401, 97), (403, 103), (404, 109), (409, 115), (429, 121), (499, 127), (501, 133), (503, 139), (504, 145)]) (v := q.toInt) (by
    intro z hz
    simp only [List.mem_cons, List.not_mem_nil, or_false] at hz
    rcases hz with rfl | rfl | rfl | rfl | rfl | rfl | rfl | rfl | rfl | rfl
    · exact fun q => c1_400 (Int32.toInt_inj.mp q.symm)
    · exact fun q => c1_401 (Int32.toInt_inj.mp q.symm)
    · exact fun q => c1_403 (Int32.toInt_inj.mp q.symm)
    · exact fun q => c1_404 (Int32.toInt_inj.mp q.symm)
    · exact fun q => c1_409 (Int32.toInt_inj.mp q.symm)
    · exact fun q => c1_429 (Int32.toInt_inj.mp q.symm)
    · exact fun q => c1_499 (Int32.toInt_inj.mp q.symm)
    · exact fun q => c1_501 (Int32.toInt_inj.mp q.symm)
    · exact fun q => c1_503 (Int32.toInt_inj.mp q.symm)
    · exact fun q => c1_504 (Int32.toInt_inj.mp q.symm))
  refine Run.step (fun t_ k_ => X0.lookupswitchMiss hx (g := (mkF m 1 #[.val (.int q)] [(.int q)])) rfl rfl (hb hby d1_1) (by decide) fm1 (by show (0 : Int) ≤ ((1 : Nat) : Int) + (151 : Int); decide) _ k_) ?_
  show Run _ _ _ _ (s₁.setTop (mkF m 152 #[.val (.int q)] []))
  obtain ⟨T11, X11, e11, st11⟩ := getS2 X0 hx hZ hown (host := "") (Or.inl w39) Via.refl e0 S_UNKNOWN (g := (mkF m 152 #[.val (.int q)] [])) rfl (hb hby d1_152)
  refine Run.step st11 ?_
  show Run _ _ _ _ (T11.setTop (mkF m 155 #[.val (.int q)] [(.ref (ob 1))]))
  exact finA X11 hx (BodyLoose.notSynchronized Bd) Bd.returns (hb hby d1_155) rfl rfl (by decide) (by decide) e11 ⟨congrArg (fun z => some (Value.ref (ob z))) (show own_ix q = 1 from (if_neg c1_400).trans ((if_neg c1_401).trans ((if_neg c1_403).trans ((if_neg c1_404).trans ((if_neg c1_409).trans ((if_neg c1_429).trans ((if_neg c1_499).trans ((if_neg c1_501).trans ((if_neg c1_503).trans (if_neg c1_504)))))))))).symm, N0, rfl⟩
theorem d2_0 : decode prog_39_method_5_code 0 = .ok (.aload_n 0, 1) := by decide +kernel
theorem d2_1 : decode prog_39_method_5_code 1 = .ok (.getfield 78, 3) := by decide +kernel
theorem d2_4 : decode prog_39_method_5_code 4 = .ok (.ireturn, 1) := by decide +kernel
theorem ef_2 (m : MethodId) (x0 : Addr) : entryFrame m #[(.ref x0)] 1 = mkF m 0 #[.val (.ref x0)] [] := by first | (simp [entryFrame, mkF, argsToLocals, Value.category, maxLocals]; done) | rfl
def Q2 (Z : State) (a1 : Addr) (q : Int32) (h0 : Heap) (n0 : Nat) (v : Option Value) (h : Heap) (L : List Loc) : Prop := v = some (.int q) ∧ Fr n0 L ∧ h = h0
set_option maxRecDepth 65536 in
set_option maxHeartbeats 40000000 in
theorem rm2 (l : Launch) (Z : State) (a0 : Array Value) (hw : ∀ d ∈ tables_1, d.before a0 Z = true) (ws : List Jvm.Cond) (a1 : Addr) (q : Int32) (h0 : Heap) (n0 : Nat) (Z0 : n0 ≤ h0.size) (F1 : Fld Z h0 a1 "faultwise/status/Code" "httpStatus" "I" (.int q)) :
    MetFree l (⟨"faultwise/status/Code", "httpStatus", "()I"⟩ : MethodName) (head1 (Jvm.Cond.code (⟨"faultwise/status/Code", "httpStatus", "()I"⟩ : MethodName) prog_39_method_5_code 1 (some .int) :: ws) ({ frames := 0, cells := 0, slots := 0, locals := 0 } : Room)) (fun a U => a = #[(.ref a1)] ∧ Z.Warmed39 U.vm ∧ U.heap = h0) (fun _ _ _ _ _ => True) (fun _ U o U' => ∃ v L, o = .returned v ∧ Q2 Z a1 q h0 n0 v U'.heap L ∧ FrameEnd U o U' L ({ frames := 0, cells := 0, slots := 0, locals := 0 } : Room).cells ({ frames := 0, cells := 0, slots := 0, locals := 0 } : Room).slots) := by
  refine MetFree.of_bodySF (plainFor_of_name pn_faultwise_status_Code) hisR ?_
  intro p e s m args below meth c s₁ Bd hml0 hP hK
  obtain ⟨rfl, hZ, hh⟩ := hP
  have hx := Bd.exec
  have hby := Bd.bytes
  have w48 := hw _ (List.mem_of_getElem? (i := 48) rfl)
  have hml : c.maxLocals = 1 := hml0
  have hown : s.vm.findClass "faultwise/status/Code" = some m.cls := findClass_of_methodNamed Bd.named
  have hnm := (name_of_methodNamed Bd.named Bd.method).1
  have X0 : Stand p l e ({ frames := 0, cells := 0, slots := 0, locals := 0 } : Room) s m #[(.ref a1)] below meth c s₁ [] 0 0 := Stand.of_body Bd
  have e0 : s₁.heap = h0 := by rw [← hh, Bd.state]; rfl
  have N0 := Fr.nil n0
  show Run p.tables e below (PQ s below 0 0 (Q2 Z a1 q h0 n0)) (s₁.setTop (entryFrame m #[(.ref a1)] 1))
  refine Run.step (fun t k => castTop (ef_2 m a1) k) ?_
  show Run _ _ _ _ (s₁.setTop (mkF m 0 #[.val (.ref a1)] []))
  refine Run.step (fun t_ k_ => XS.aloadN X0.here hx rfl (hb hby d2_0) rfl rfl k_) ?_
  show Run _ _ _ _ (s₁.setTop (mkF m 1 #[.val (.ref a1)] [(.ref a1)]))
  obtain ⟨T12, X12, e12, st12⟩ := getF X0 hx hZ hown (host := "") (Or.inl w48) Via.refl e0 F1 (g := (mkF m 1 #[.val (.ref a1)] [(.ref a1)])) rfl rfl (hb hby d2_1)
  refine Run.step st12 ?_
  show Run _ _ _ _ (T12.setTop (mkF m 4 #[.val (.ref a1)] [(.int q)]))
  exact finI X12 hx (BodyLoose.notSynchronized Bd) Bd.returns (hb hby d2_4) (by decide) (by decide) e12 ⟨rfl, N0, rfl⟩
theorem pn_faultwise_status_CodeForHttpStatusPinLaw : plainName "faultwise/status/CodeForHttpStatusPinLaw" = true := by first | (simp [plainName, overriddenIn]; done) | decide +kernel
theorem pd__28I_29Lfaultwise_2fstatus_2fCode_3b : parseMethodDescriptor "(I)Lfaultwise/status/Code;" = some ⟨[.int], some (.object "faultwise/status/Code")⟩ := by decide +kernel
theorem pd__28_29I : parseMethodDescriptor "()I" = some ⟨[], some .int⟩ := by decide +kernel
theorem ef_0 (m : MethodId) (x0 : Int32) (x1 : Int32) : entryFrame m #[(.int x0), (.int x1)] maxLocals = mkF m 0 #[.val (.int x0), .val (.int x1), .unset, .unset, .unset, .unset, .unset] [] := by first | (simp [entryFrame, mkF, argsToLocals, Value.category, maxLocals]; done) | rfl
def Q0 (Z : State) (p1 : Int32) (p2 : Int32) (ob : Nat → Addr) (h0 : Heap) (n0 : Nat) (v : Option Value) (h : Heap) (L : List Loc) : Prop := v = some (.int 1) ∧ Fr n0 L
set_option maxRecDepth 65536 in
set_option maxHeartbeats 40000000 in
theorem rm0 (l : Launch) (Z : State) (a0 : Array Value) (hw : ∀ d ∈ tables_1, d.before a0 Z = true) (ws : List Jvm.Cond) (p1 : Int32) (p2 : Int32) (ob : Nat → Addr) (h0 : Heap) (n0 : Nat) (Z0 : n0 ≤ h0.size) (O0 : Old Z n0 h0) (hE : ∀ k : Nat, k < 17 → Exa Z Z.heap (ob k) "faultwise/status/Code" ∧ Fld Z Z.heap (ob k) "faultwise/status/Code" "httpStatus" "I" (.int (own_st k))) (S_CANCELLED : Sta Z Z.heap "faultwise/status/Code" "CANCELLED" "Lfaultwise/status/Code;" (.ref (ob 0))) (S_UNKNOWN : Sta Z Z.heap "faultwise/status/Code" "UNKNOWN" "Lfaultwise/status/Code;" (.ref (ob 1))) (S_INVALID_ARGUMENT : Sta Z Z.heap "faultwise/status/Code" "INVALID_ARGUMENT" "Lfaultwise/status/Code;" (.ref (ob 2))) (S_DEADLINE_EXCEEDED : Sta Z Z.heap "faultwise/status/Code" "DEADLINE_EXCEEDED" "Lfaultwise/status/Code;" (.ref (ob 3))) (S_NOT_FOUND : Sta Z Z.heap "faultwise/status/Code" "NOT_FOUND" "Lfaultwise/status/Code;" (.ref (ob 4))) (S_ALREADY_EXISTS : Sta Z Z.heap "faultwise/status/Code" "ALREADY_EXISTS" "Lfaultwise/status/Code;" (.ref (ob 5))) (S_PERMISSION_DENIED : Sta Z Z.heap "faultwise/status/Code" "PERMISSION_DENIED" "Lfaultwise/status/Code;" (.ref (ob 6))) (S_RESOURCE_EXHAUSTED : Sta Z Z.heap "faultwise/status/Code" "RESOURCE_EXHAUSTED" "Lfaultwise/status/Code;" (.ref (ob 7))) (S_FAILED_PRECONDITION : Sta Z Z.heap "faultwise/status/Code" "FAILED_PRECONDITION" "Lfaultwise/status/Code;" (.ref (ob 8))) (S_ABORTED : Sta Z Z.heap "faultwise/status/Code" "ABORTED" "Lfaultwise/status/Code;" (.ref (ob 9))) (S_OUT_OF_RANGE : Sta Z Z.heap "faultwise/status/Code" "OUT_OF_RANGE" "Lfaultwise/status/Code;" (.ref (ob 10))) (S_UNIMPLEMENTED : Sta Z Z.heap "faultwise/status/Code" "UNIMPLEMENTED" "Lfaultwise/status/Code;" (.ref (ob 11))) (S_INTERNAL : Sta Z Z.heap "faultwise/status/Code" "INTERNAL" "Lfaultwise/status/Code;" (.ref (ob 12))) (S_UNAVAILABLE : Sta Z Z.heap "faultwise/status/Code" "UNAVAILABLE" "Lfaultwise/status/Code;" (.ref (ob 13))) (S_DATA_LOSS : Sta Z Z.heap "faultwise/status/Code" "DATA_LOSS" "Lfaultwise/status/Code;" (.ref (ob 14))) (S_UNAUTHENTICATED : Sta Z Z.heap "faultwise/status/Code" "UNAUTHENTICATED" "Lfaultwise/status/Code;" (.ref (ob 15))) (S_OK : Sta Z Z.heap "faultwise/status/Code" "OK" "Lfaultwise/status/Code;" (.ref (ob 16))) :
    MetFree l x (head1 (Jvm.Cond.code x code maxLocals ret :: ws) room_1) (fun a U => a = #[(.int p1), (.int p2)] ∧ Z.Warmed39 U.vm ∧ U.heap = h0) (fun _ _ _ _ _ => True) (fun _ U o U' => ∃ v L, o = .returned v ∧ Q0 Z p1 p2 ob h0 n0 v U'.heap L ∧ FrameEnd U o U' L 16 128) := by
  refine MetFree.of_bodySF (plainFor_of_name pn_faultwise_status_CodeForHttpStatusPinLaw) hisR ?_
  intro p e s m args below meth c s₁ Bd hml0 hP hK
  obtain ⟨rfl, hZ, hh⟩ := hP
  have hx := Bd.exec
  have hby := Bd.bytes
  have w0 := hw _ (List.mem_of_getElem? (i := 0) rfl)
  have w1 := hw _ (List.mem_of_getElem? (i := 1) rfl)
  have w2 := hw _ (List.mem_of_getElem? (i := 2) rfl)
  have w3 := hw _ (List.mem_of_getElem? (i := 3) rfl)
  have w6 := hw _ (List.mem_of_getElem? (i := 6) rfl)
  have w8 := hw _ (List.mem_of_getElem? (i := 8) rfl)
  have w10 := hw _ (List.mem_of_getElem? (i := 10) rfl)
  have w12 := hw _ (List.mem_of_getElem? (i := 12) rfl)
  have w14 := hw _ (List.mem_of_getElem? (i := 14) rfl)
  have w16 := hw _ (List.mem_of_getElem? (i := 16) rfl)
  have w18 := hw _ (List.mem_of_getElem? (i := 18) rfl)
  have w20 := hw _ (List.mem_of_getElem? (i := 20) rfl)
  have w22 := hw _ (List.mem_of_getElem? (i := 22) rfl)
  have w24 := hw _ (List.mem_of_getElem? (i := 24) rfl)
  have w26 := hw _ (List.mem_of_getElem? (i := 26) rfl)
  have w28 := hw _ (List.mem_of_getElem? (i := 28) rfl)
  have w30 := hw _ (List.mem_of_getElem? (i := 30) rfl)
  have w32 := hw _ (List.mem_of_getElem? (i := 32) rfl)
  have w34 := hw _ (List.mem_of_getElem? (i := 34) rfl)
  have w36 := hw _ (List.mem_of_getElem? (i := 36) rfl)
  have w37 := hw _ (List.mem_of_getElem? (i := 37) rfl)
  have w38 := hw _ (List.mem_of_getElem? (i := 38) rfl)
  have w40 := hw _ (List.mem_of_getElem? (i := 40) rfl)
  have w42 := hw _ (List.mem_of_getElem? (i := 42) rfl)
  have w43 := hw _ (List.mem_of_getElem? (i := 43) rfl)
  have w44 := hw _ (List.mem_of_getElem? (i := 44) rfl)
  have w45 := hw _ (List.mem_of_getElem? (i := 45) rfl)
  have w46 := hw _ (List.mem_of_getElem? (i := 46) rfl)
  have w47 := hw _ (List.mem_of_getElem? (i := 47) rfl)
  have hml : c.maxLocals = 7 := hml0
  have hown : s.vm.findClass "faultwise/status/CodeForHttpStatusPinLaw" = some m.cls := findClass_of_methodNamed Bd.named
  have hnm := (name_of_methodNamed Bd.named Bd.method).1
  have X0 : Stand p l e room_1 s m #[(.int p1), (.int p2)] below meth c s₁ [] 0 0 := Stand.of_body Bd
  have e0 : s₁.heap = h0 := by rw [← hh, Bd.state]; rfl
  have N0 := Fr.nil n0
  show Run p.tables e below (PQ s below 16 128 (Q0 Z p1 p2 ob h0 n0)) (s₁.setTop (entryFrame m #[(.int p1), (.int p2)] maxLocals))
  refine Run.step (fun t k => castTop (ef_0 m p1 p2) k) ?_
  show Run _ _ _ _ (s₁.setTop (mkF m 0 #[.val (.int p1), .val (.int p2), .unset, .unset, .unset, .unset, .unset] []))
  refine Run.step (fun t_ k_ => XS.bipush X0.here hx rfl (hb hby at_0) k_) ?_
  show Run _ _ _ _ (s₁.setTop (mkF m 2 #[.val (.int p1), .val (.int p2), .unset, .unset, .unset, .unset, .unset] [(.int (16 : Int32))]))
  obtain ⟨T13, h13, k13, X13, e13, E13, A13, V13, st13⟩ := newR X0 hx hZ hown w0 w1 e0 (g := (mkF m 2 #[.val (.int p1), .val (.int p2), .unset, .unset, .unset, .unset, .unset] [(.int (16 : Int32))])) rfl (hb hby at_2) rfl (by decide) (cap := 16) (by decide) (by decide) (by decide) (by decide)
  obtain ⟨b13, g13⟩ : ∃ z, z = h0.size := ⟨_, rfl⟩
  rw [← g13] at A13 st13
  refine Run.step st13 ?_
  have g_b13 : n0 ≤ b13 := Nat.le_trans Z0 (Nat.le_of_eq g13.symm)
  have z14 := Nat.le_trans Z0 E13.1
  have O15 := O0.ext E13
  have f16 : Arv Z h13 b13 k13 (.object "faultwise/status/Code") (16 : Int32) [.null, .null, .null, .null, .null, .null, .null, .null, .null, .null, .null, .null, .null, .null, .null, .null] .null := Arv.pad (Arv.new A13 (by decide)) (pad_rep [] .null 16)
  show Run _ _ _ _ (T13.setTop (mkF m 5 #[.val (.int p1), .val (.int p2), .unset, .unset, .unset, .unset, .unset] [(.ref b13)]))
  refine Run.step (fun t_ k_ => XS.dup X13.here hx rfl (hb hby at_5) rfl rfl k_) ?_
  show Run _ _ _ _ (T13.setTop (mkF m 6 #[.val (.int p1), .val (.int p2), .unset, .unset, .unset, .unset, .unset] [(.ref b13), (.ref b13)]))
  refine Run.step (fun t_ k_ => XS.iconst X13.here hx rfl (hb hby at_6) k_) ?_
  show Run _ _ _ _ (T13.setTop (mkF m 7 #[.val (.int p1), .val (.int p2), .unset, .unset, .unset, .unset, .unset] [(.int (0 : Int32)), (.ref b13), (.ref b13)]))
  obtain ⟨T17, X17, e17, st17⟩ := getS2 X13 hx hZ hown (host := "") (Or.inl w2) Via.refl e13 (S_CANCELLED.ext O15.2) (g := (mkF m 7 #[.val (.int p1), .val (.int p2), .unset, .unset, .unset, .unset, .unset] [(.int (0 : Int32)), (.ref b13), (.ref b13)])) rfl (hb hby at_7)
  refine Run.step st17 ?_
  show Run _ _ _ _ (T17.setTop (mkF m 10 #[.val (.int p1), .val (.int p2), .unset, .unset, .unset, .unset, .unset] [(.ref (ob 0)), (.int (0 : Int32)), (.ref b13), (.ref b13)]))
  obtain ⟨cl18, Ar18, q18, S18, M18, H18, U18⟩ := id f16
  have hin19 : ¬ ((0 : Int32) < 0 ∨ cl18.slots.size ≤ ((0 : Int32)).toNatClampNeg) := inb_of S18 ⟨by decide, by decide⟩
  obtain ⟨T19, h19, X19, e19, W19, st19⟩ := stR X17 hx hZ e17 Ar18 (j := (0 : Int32)) hin19 rfl (Sto.ofV Ar18 q18 V13 (Ins.self ((hE 0 (by decide)).1.ext O15.2))) (g := (mkF m 10 #[.val (.int p1), .val (.int p2), .unset, .unset, .unset, .unset, .unset] [(.ref (ob 0)), (.int (0 : Int32)), (.ref b13), (.ref b13)])) rfl rfl (hb hby at_10)
  refine Run.step st19 ?_
  have f20 : Arv Z h19 b13 k13 (.object "faultwise/status/Code") (16 : Int32) [(.ref (ob 0)), .null, .null, .null, .null, .null, .null, .null, .null, .null, .null, .null, .null, .null, .null, .null] .null := Arv.set Ar18 q18 S18 M18 H18 U18 rfl W19 0 rfl (Nat.le_of_ble_eq_true rfl)
  have z22 := Nat.le_trans z14 (Keep.of_wr W19).1
  have O23 := O15.wr W19 g_b13
  have N24 := Fr.snoc X19 N0 g_b13
  show Run _ _ _ _ (T19.setTop (mkF m 11 #[.val (.int p1), .val (.int p2), .unset, .unset, .unset, .unset, .unset] [(.ref b13)]))
  refine Run.step (fun t_ k_ => XS.dup X19.here hx rfl (hb hby at_11) rfl rfl k_) ?_
  show Run _ _ _ _ (T19.setTop (mkF m 12 #[.val (.int p1), .val (.int p2), .unset, .unset, .unset, .unset, .unset] [(.ref b13), (.ref b13)]))
  refine Run.step (fun t_ k_ => XS.iconst X19.here hx rfl (hb hby at_12) k_) ?_
  show Run _ _ _ _ (T19.setTop (mkF m 13 #[.val (.int p1), .val (.int p2), .unset, .unset, .unset, .unset, .unset] [(.int (1 : Int32)), (.ref b13), (.ref b13)]))
  obtain ⟨T25, X25, e25, st25⟩ := getS2 X19 hx hZ hown (host := "") (Or.inl w6) Via.refl e19 (S_UNKNOWN.ext O23.2) (g := (mkF m 13 #[.val (.int p1), .val (.int p2), .unset, .unset, .unset, .unset, .unset] [(.int (1 : Int32)), (.ref b13), (.ref b13)])) rfl (hb hby at_13)
  refine Run.step st25 ?_
  show Run _ _ _ _ (T25.setTop (mkF m 16 #[.val (.int p1), .val (.int p2), .unset, .unset, .unset, .unset, .unset] [(.ref (ob 1)), (.int (1 : Int32)), (.ref b13), (.ref b13)]))
  obtain ⟨cl26, Ar26, q26, S26, M26, H26, U26⟩ := id f20
  have hin27 : ¬ ((1 : Int32) < 0 ∨ cl26.slots.size ≤ ((1 : Int32)).toNatClampNeg) := inb_of S26 ⟨by decide, by decide⟩
  obtain ⟨T27, h27, X27, e27, W27, st27⟩ := stR X25 hx hZ e25 Ar26 (j := (1 : Int32)) hin27 rfl (Sto.ofV Ar26 q26 V13 (Ins.self ((hE 1 (by decide)).1.ext O23.2))) (g := (mkF m 16 #[.val (.int p1), .val (.int p2), .unset, .unset, .unset, .unset, .unset] [(.ref (ob 1)), (.int (1 : Int32)), (.ref b13), (.ref b13)])) rfl rfl (hb hby at_16)
  refine Run.step st27 ?_
  have f28 : Arv Z h27 b13 k13 (.object "faultwise/status/Code") (16 : Int32) [(.ref (ob 0)), (.ref (ob 1)), .null, .null, .null, .null, .null, .null, .null, .null, .null, .null, .null, .null, .null, .null] .null := Arv.set Ar26 q26 S26 M26 H26 U26 rfl W27 1 rfl (Nat.le_of_ble_eq_true rfl)
  have z30 := Nat.le_trans z22 (Keep.of_wr W27).1
  have O31 := O23.wr W27 g_b13
  have N32 := Fr.snoc X27 N24 g_b13
  show Run _ _ _ _ (T27.setTop (mkF m 17 #[.val (.int p1), .val (.int p2), .unset, .unset, .unset, .unset, .unset] [(.ref b13)]))
  refine Run.step (fun t_ k_ => XS.dup X27.here hx rfl (hb hby at_17) rfl rfl k_) ?_
  show Run _ _ _ _ (T27.setTop (mkF m 18 #[.val (.int p1), .val (.int p2), .unset, .unset, .unset, .unset, .unset] [(.ref b13), (.ref b13)]))
  refine Run.step (fun t_ k_ => XS.iconst X27.here hx rfl (hb hby at_18) k_) ?_
  show Run _ _ _ _ (T27.setTop (mkF m 19 #[.val (.int p1), .val (.int p2), .unset, .unset, .unset, .unset, .unset] [(.int (2 : Int32)), (.ref b13), (.ref b13)]))
  obtain ⟨T33, X33, e33, st33⟩ := getS2 X27 hx hZ hown (host := "") (Or.inl w8) Via.refl e27 (S_INVALID_ARGUMENT.ext O31.2) (g := (mkF m 19 #[.val (.int p1), .val (.int p2), .unset, .unset, .unset, .unset, .unset] [(.int (2 : Int32)), (.ref b13), (.ref b13)])) rfl (hb hby at_19)
  refine Run.step st33 ?_
  show Run _ _ _ _ (T33.setTop (mkF m 22 #[.val (.int p1), .val (.int p2), .unset, .unset, .unset, .unset, .unset] [(.ref (ob 2)), (.int (2 : Int32)), (.ref b13), (.ref b13)]))
  obtain ⟨cl34, Ar34, q34, S34, M34, H34, U34⟩ := id f28
  have hin35 : ¬ ((2 : Int32) < 0 ∨ cl34.slots.size ≤ ((2 : Int32)).toNatClampNeg) := inb_of S34 ⟨by decide, by decide⟩
  obtain ⟨T35, h35, X35, e35, W35, st35⟩ := stR X33 hx hZ e33 Ar34 (j := (2 : Int32)) hin35 rfl (Sto.ofV Ar34 q34 V13 (Ins.self ((hE 2 (by decide)).1.ext O31.2))) (g := (mkF m 22 #[.val (.int p1), .val (.int p2), .unset, .unset, .unset, .unset, .unset] [(.ref (ob 2)), (.int (2 : Int32)), (.ref b13), (.ref b13)])) rfl rfl (hb hby at_22)
  refine Run.step st35 ?_
  have f36 : Arv Z h35 b13 k13 (.object "faultwise/status/Code") (16 : Int32) [(.ref (ob 0)), (.ref (ob 1)), (.ref (ob 2)), .null, .null, .null, .null, .null, .null, .null, .null, .null, .null, .null, .null, .null] .null := Arv.set Ar34 q34 S34 M34 H34 U34 rfl W35 2 rfl (Nat.le_of_ble_eq_true rfl)
  have z38 := Nat.le_trans z30 (Keep.of_wr W35).1
  have O39 := O31.wr W35 g_b13
  have N40 := Fr.snoc X35 N32 g_b13
  show Run _ _ _ _ (T35.setTop (mkF m 23 #[.val (.int p1), .val (.int p2), .unset, .unset, .unset, .unset, .unset] [(.ref b13)]))
  refine Run.step (fun t_ k_ => XS.dup X35.here hx rfl (hb hby at_23) rfl rfl k_) ?_
  show Run _ _ _ _ (T35.setTop (mkF m 24 #[.val (.int p1), .val (.int p2), .unset, .unset, .unset, .unset, .unset] [(.ref b13), (.ref b13)]))
  refine Run.step (fun t_ k_ => XS.iconst X35.here hx rfl (hb hby at_24) k_) ?_
  show Run _ _ _ _ (T35.setTop (mkF m 25 #[.val (.int p1), .val (.int p2), .unset, .unset, .unset, .unset, .unset] [(.int (3 : Int32)), (.ref b13), (.ref b13)]))
  obtain ⟨T41, X41, e41, st41⟩ := getS2 X35 hx hZ hown (host := "") (Or.inl w10) Via.refl e35 (S_DEADLINE_EXCEEDED.ext O39.2) (g := (mkF m 25 #[.val (.int p1), .val (.int p2), .unset, .unset, .unset, .unset, .unset] [(.int (3 : Int32)), (.ref b13), (.ref b13)])) rfl (hb hby at_25)
  refine Run.step st41 ?_
  show Run _ _ _ _ (T41.setTop (mkF m 28 #[.val (.int p1), .val (.int p2), .unset, .unset, .unset, .unset, .unset] [(.ref (ob 3)), (.int (3 : Int32)), (.ref b13), (.ref b13)]))
  obtain ⟨cl42, Ar42, q42, S42, M42, H42, U42⟩ := id f36
  have hin43 : ¬ ((3 : Int32) < 0 ∨ cl42.slots.size ≤ ((3 : Int32)).toNatClampNeg) := inb_of S42 ⟨by decide, by decide⟩
  obtain ⟨T43, h43, X43, e43, W43, st43⟩ := stR X41 hx hZ e41 Ar42 (j := (3 : Int32)) hin43 rfl (Sto.ofV Ar42 q42 V13 (Ins.self ((hE 3 (by decide)).1.ext O39.2))) (g := (mkF m 28 #[.val (.int p1), .val (.int p2), .unset, .unset, .unset, .unset, .unset] [(.ref (ob 3)), (.int (3 : Int32)), (.ref b13), (.ref b13)])) rfl rfl (hb hby at_28)
  refine Run.step st43 ?_
  have f44 : Arv Z h43 b13 k13 (.object "faultwise/status/Code") (16 : Int32) [(.ref (ob 0)), (.ref (ob 1)), (.ref (ob 2)), (.ref (ob 3)), .null, .null, .null, .null, .null, .null, .null, .null, .null, .null, .null, .null] .null := Arv.set Ar42 q42 S42 M42 H42 U42 rfl W43 3 rfl (Nat.le_of_ble_eq_true rfl)
  have z46 := Nat.le_trans z38 (Keep.of_wr W43).1
  have O47 := O39.wr W43 g_b13
  have N48 := Fr.snoc X43 N40 g_b13
  show Run _ _ _ _ (T43.setTop (mkF m 29 #[.val (.int p1), .val (.int p2), .unset, .unset, .unset, .unset, .unset] [(.ref b13)]))
  refine Run.step (fun t_ k_ => XS.dup X43.here hx rfl (hb hby at_29) rfl rfl k_) ?_
  show Run _ _ _ _ (T43.setTop (mkF m 30 #[.val (.int p1), .val (.int p2), .unset, .unset, .unset, .unset, .unset] [(.ref b13), (.ref b13)]))
  refine Run.step (fun t_ k_ => XS.iconst X43.here hx rfl (hb hby at_30) k_) ?_
  show Run _ _ _ _ (T43.setTop (mkF m 31 #[.val (.int p1), .val (.int p2), .unset, .unset, .unset, .unset, .unset] [(.int (4 : Int32)), (.ref b13), (.ref b13)]))
  obtain ⟨T49, X49, e49, st49⟩ := getS2 X43 hx hZ hown (host := "") (Or.inl w12) Via.refl e43 (S_NOT_FOUND.ext O47.2) (g := (mkF m 31 #[.val (.int p1), .val (.int p2), .unset, .unset, .unset, .unset, .unset] [(.int (4 : Int32)), (.ref b13), (.ref b13)])) rfl (hb hby at_31)
  refine Run.step st49 ?_
  show Run _ _ _ _ (T49.setTop (mkF m 34 #[.val (.int p1), .val (.int p2), .unset, .unset, .unset, .unset, .unset] [(.ref (ob 4)), (.int (4 : Int32)), (.ref b13), (.ref b13)]))
  obtain ⟨cl50, Ar50, q50, S50, M50, H50, U50⟩ := id f44
  have hin51 : ¬ ((4 : Int32) < 0 ∨ cl50.slots.size ≤ ((4 : Int32)).toNatClampNeg) := inb_of S50 ⟨by decide, by decide⟩
  obtain ⟨T51, h51, X51, e51, W51, st51⟩ := stR X49 hx hZ e49 Ar50 (j := (4 : Int32)) hin51 rfl (Sto.ofV Ar50 q50 V13 (Ins.self ((hE 4 (by decide)).1.ext O47.2))) (g := (mkF m 34 #[.val (.int p1), .val (.int p2), .unset, .unset, .unset, .unset, .unset] [(.ref (ob 4)), (.int (4 : Int32)), (.ref b13), (.ref b13)])) rfl rfl (hb hby at_34)
  refine Run.step st51 ?_
  have f52 : Arv Z h51 b13 k13 (.object "faultwise/status/Code") (16 : Int32) [(.ref (ob 0)), (.ref (ob 1)), (.ref (ob 2)), (.ref (ob 3)), (.ref (ob 4)), .null, .null, .null, .null, .null, .null, .null, .null, .null, .null, .null] .null := Arv.set Ar50 q50 S50 M50 H50 U50 rfl W51 4 rfl (Nat.le_of_ble_eq_true rfl)
  have z54 := Nat.le_trans z46 (Keep.of_wr W51).1
  have O55 := O47.wr W51 g_b13
  have N56 := Fr.snoc X51 N48 g_b13
  show Run _ _ _ _ (T51.setTop (mkF m 35 #[.val (.int p1), .val (.int p2), .unset, .unset, .unset, .unset, .unset] [(.ref b13)]))
  refine Run.step (fun t_ k_ => XS.dup X51.here hx rfl (hb hby at_35) rfl rfl k_) ?_
  show Run _ _ _ _ (T51.setTop (mkF m 36 #[.val (.int p1), .val (.int p2), .unset, .unset, .unset, .unset, .unset] [(.ref b13), (.ref b13)]))
  refine Run.step (fun t_ k_ => XS.iconst X51.here hx rfl (hb hby at_36) k_) ?_
  show Run _ _ _ _ (T51.setTop (mkF m 37 #[.val (.int p1), .val (.int p2), .unset, .unset, .unset, .unset, .unset] [(.int (5 : Int32)), (.ref b13), (.ref b13)]))
  obtain ⟨T57, X57, e57, st57⟩ := getS2 X51 hx hZ hown (host := "") (Or.inl w14) Via.refl e51 (S_ALREADY_EXISTS.ext O55.2) (g := (mkF m 37 #[.val (.int p1), .val (.int p2), .unset, .unset, .unset, .unset, .unset] [(.int (5 : Int32)), (.ref b13), (.ref b13)])) rfl (hb hby at_37)
  refine Run.step st57 ?_
  show Run _ _ _ _ (T57.setTop (mkF m 40 #[.val (.int p1), .val (.int p2), .unset, .unset, .unset, .unset, .unset] [(.ref (ob 5)), (.int (5 : Int32)), (.ref b13), (.ref b13)]))
  obtain ⟨cl58, Ar58, q58, S58, M58, H58, U58⟩ := id f52
  have hin59 : ¬ ((5 : Int32) < 0 ∨ cl58.slots.size ≤ ((5 : Int32)).toNatClampNeg) := inb_of S58 ⟨by decide, by decide⟩
  obtain ⟨T59, h59, X59, e59, W59, st59⟩ := stR X57 hx hZ e57 Ar58 (j := (5 : Int32)) hin59 rfl (Sto.ofV Ar58 q58 V13 (Ins.self ((hE 5 (by decide)).1.ext O55.2))) (g := (mkF m 40 #[.val (.int p1), .val (.int p2), .unset, .unset, .unset, .unset, .unset] [(.ref (ob 5)), (.int (5 : Int32)), (.ref b13), (.ref b13)])) rfl rfl (hb hby at_40)
  refine Run.step st59 ?_
  have f60 : Arv Z h59 b13 k13 (.object "faultwise/status/Code") (16 : Int32) [(.ref (ob 0)), (.ref (ob 1)), (.ref (ob 2)), (.ref (ob 3)), (.ref (ob 4)), (.ref (ob 5)), .null, .null, .null, .null, .null, .null, .null, .null, .null, .null] .null := Arv.set Ar58 q58 S58 M58 H58 U58 rfl W59 5 rfl (Nat.le_of_ble_eq_true rfl)
  have z62 := Nat.le_trans z54 (Keep.of_wr W59).1
  have O63 := O55.wr W59 g_b13
  have N64 := Fr.snoc X59 N56 g_b13
  show Run _ _ _ _ (T59.setTop (mkF m 41 #[.val (.int p1), .val (.int p2), .unset, .unset, .unset, .unset, .unset] [(.ref b13)]))
  refine Run.step (fun t_ k_ => XS.dup X59.here hx rfl (hb hby at_41) rfl rfl k_) ?_
  show Run _ _ _ _ (T59.setTop (mkF m 42 #[.val (.int p1), .val (.int p2), .unset, .unset, .unset, .unset, .unset] [(.ref b13), (.ref b13)]))
  refine Run.step (fun t_ k_ => XS.bipush X59.here hx rfl (hb hby at_42) k_) ?_
  show Run _ _ _ _ (T59.setTop (mkF m 44 #[.val (.int p1), .val (.int p2), .unset, .unset, .unset, .unset, .unset] [(.int (6 : Int32)), (.ref b13), (.ref b13)]))
  obtain ⟨T65, X65, e65, st65⟩ := getS2 X59 hx hZ hown (host := "") (Or.inl w16) Via.refl e59 (S_PERMISSION_DENIED.ext O63.2) (g := (mkF m 44 #[.val (.int p1), .val (.int p2), .unset, .unset, .unset, .unset, .unset] [(.int (6 : Int32)), (.ref b13), (.ref b13)])) rfl (hb hby at_44)
  refine Run.step st65 ?_
  show Run _ _ _ _ (T65.setTop (mkF m 47 #[.val (.int p1), .val (.int p2), .unset, .unset, .unset, .unset, .unset] [(.ref (ob 6)), (.int (6 : Int32)), (.ref b13), (.ref b13)]))
  obtain ⟨cl66, Ar66, q66, S66, M66, H66, U66⟩ := id f60
  have hin67 : ¬ ((6 : Int32) < 0 ∨ cl66.slots.size ≤ ((6 : Int32)).toNatClampNeg) := inb_of S66 ⟨by decide, by decide⟩
  obtain ⟨T67, h67, X67, e67, W67, st67⟩ := stR X65 hx hZ e65 Ar66 (j := (6 : Int32)) hin67 rfl (Sto.ofV Ar66 q66 V13 (Ins.self ((hE 6 (by decide)).1.ext O63.2))) (g := (mkF m 47 #[.val (.int p1), .val (.int p2), .unset, .unset, .unset, .unset, .unset] [(.ref (ob 6)), (.int (6 : Int32)), (.ref b13), (.ref b13)])) rfl rfl (hb hby at_47)
  refine Run.step st67 ?_
  have f68 : Arv Z h67 b13 k13 (.object "faultwise/status/Code") (16 : Int32) [(.ref (ob 0)), (.ref (ob 1)), (.ref (ob 2)), (.ref (ob 3)), (.ref (ob 4)), (.ref (ob 5)), (.ref (ob 6)), .null, .null, .null, .null, .null, .null, .null, .null, .null] .null := Arv.set Ar66 q66 S66 M66 H66 U66 rfl W67 6 rfl (Nat.le_of_ble_eq_true rfl)
  have z70 := Nat.le_trans z62 (Keep.of_wr W67).1
  have O71 := O63.wr W67 g_b13
  have N72 := Fr.snoc X67 N64 g_b13
  show Run _ _ _ _ (T67.setTop (mkF m 48 #[.val (.int p1), .val (.int p2), .unset, .unset, .unset, .unset, .unset] [(.ref b13)]))
  refine Run.step (fun t_ k_ => XS.dup X67.here hx rfl (hb hby at_48) rfl rfl k_) ?_
  show Run _ _ _ _ (T67.setTop (mkF m 49 #[.val (.int p1), .val (.int p2), .unset, .unset, .unset, .unset, .unset] [(.ref b13), (.ref b13)]))
  refine Run.step (fun t_ k_ => XS.bipush X67.here hx rfl (hb hby at_49) k_) ?_
  show Run _ _ _ _ (T67.setTop (mkF m 51 #[.val (.int p1), .val (.int p2), .unset, .unset, .unset, .unset, .unset] [(.int (7 : Int32)), (.ref b13), (.ref b13)]))
  obtain ⟨T73, X73, e73, st73⟩ := getS2 X67 hx hZ hown (host := "") (Or.inl w18) Via.refl e67 (S_RESOURCE_EXHAUSTED.ext O71.2) (g := (mkF m 51 #[.val (.int p1), .val (.int p2), .unset, .unset, .unset, .unset, .unset] [(.int (7 : Int32)), (.ref b13), (.ref b13)])) rfl (hb hby at_51)
  refine Run.step st73 ?_
  show Run _ _ _ _ (T73.setTop (mkF m 54 #[.val (.int p1), .val (.int p2), .unset, .unset, .unset, .unset, .unset] [(.ref (ob 7)), (.int (7 : Int32)), (.ref b13), (.ref b13)]))
  obtain ⟨cl74, Ar74, q74, S74, M74, H74, U74⟩ := id f68
  have hin75 : ¬ ((7 : Int32) < 0 ∨ cl74.slots.size ≤ ((7 : Int32)).toNatClampNeg) := inb_of S74 ⟨by decide, by decide⟩
  obtain ⟨T75, h75, X75, e75, W75, st75⟩ := stR X73 hx hZ e73 Ar74 (j := (7 : Int32)) hin75 rfl (Sto.ofV Ar74 q74 V13 (Ins.self ((hE 7 (by decide)).1.ext O71.2))) (g := (mkF m 54 #[.val (.int p1), .val (.int p2), .unset, .unset, .unset, .unset, .unset] [(.ref (ob 7)), (.int (7 : Int32)), (.ref b13), (.ref b13)])) rfl rfl (hb hby at_54)
  refine Run.step st75 ?_
  have f76 : Arv Z h75 b13 k13 (.object "faultwise/status/Code") (16 : Int32) [(.ref (ob 0)), (.ref (ob 1)), (.ref (ob 2)), (.ref (ob 3)), (.ref (ob 4)), (.ref (ob 5)), (.ref (ob 6)), (.ref (ob 7)), .null, .null, .null, .null, .null, .null, .null, .null] .null := Arv.set Ar74 q74 S74 M74 H74 U74 rfl W75 7 rfl (Nat.le_of_ble_eq_true rfl)
  have z78 := Nat.le_trans z70 (Keep.of_wr W75).1
  have O79 := O71.wr W75 g_b13
  have N80 := Fr.snoc X75 N72 g_b13
  show Run _ _ _ _ (T75.setTop (mkF m 55 #[.val (.int p1), .val (.int p2), .unset, .unset, .unset, .unset, .unset] [(.ref b13)]))
  refine Run.step (fun t_ k_ => XS.dup X75.here hx rfl (hb hby at_55) rfl rfl k_) ?_
  show Run _ _ _ _ (T75.setTop (mkF m 56 #[.val (.int p1), .val (.int p2), .unset, .unset, .unset, .unset, .unset] [(.ref b13), (.ref b13)]))
  refine Run.step (fun t_ k_ => XS.bipush X75.here hx rfl (hb hby at_56) k_) ?_
  show Run _ _ _ _ (T75.setTop (mkF m 58 #[.val (.int p1), .val (.int p2), .unset, .unset, .unset, .unset, .unset] [(.int (8 : Int32)), (.ref b13), (.ref b13)]))
  obtain ⟨T81, X81, e81, st81⟩ := getS2 X75 hx hZ hown (host := "") (Or.inl w20) Via.refl e75 (S_FAILED_PRECONDITION.ext O79.2) (g := (mkF m 58 #[.val (.int p1), .val (.int p2), .unset, .unset, .unset, .unset, .unset] [(.int (8 : Int32)), (.ref b13), (.ref b13)])) rfl (hb hby at_58)
  refine Run.step st81 ?_
  show Run _ _ _ _ (T81.setTop (mkF m 61 #[.val (.int p1), .val (.int p2), .unset, .unset, .unset, .unset, .unset] [(.ref (ob 8)), (.int (8 : Int32)), (.ref b13), (.ref b13)]))
  obtain ⟨cl82, Ar82, q82, S82, M82, H82, U82⟩ := id f76
  have hin83 : ¬ ((8 : Int32) < 0 ∨ cl82.slots.size ≤ ((8 : Int32)).toNatClampNeg) := inb_of S82 ⟨by decide, by decide⟩
  obtain ⟨T83, h83, X83, e83, W83, st83⟩ := stR X81 hx hZ e81 Ar82 (j := (8 : Int32)) hin83 rfl (Sto.ofV Ar82 q82 V13 (Ins.self ((hE 8 (by decide)).1.ext O79.2))) (g := (mkF m 61 #[.val (.int p1), .val (.int p2), .unset, .unset, .unset, .unset, .unset] [(.ref (ob 8)), (.int (8 : Int32)), (.ref b13), (.ref b13)])) rfl rfl (hb hby at_61)
  refine Run.step st83 ?_
  have f84 : Arv Z h83 b13 k13 (.object "faultwise/status/Code") (16 : Int32) [(.ref (ob 0)), (.ref (ob 1)), (.ref (ob 2)), (.ref (ob 3)), (.ref (ob 4)), (.ref (ob 5)), (.ref (ob 6)), (.ref (ob 7)), (.ref (ob 8)), .null, .null, .null, .null, .null, .null, .null] .null := Arv.set Ar82 q82 S82 M82 H82 U82 rfl W83 8 rfl (Nat.le_of_ble_eq_true rfl)
  have z86 := Nat.le_trans z78 (Keep.of_wr W83).1
  have O87 := O79.wr W83 g_b13
  have N88 := Fr.snoc X83 N80 g_b13
  show Run _ _ _ _ (T83.setTop (mkF m 62 #[.val (.int p1), .val (.int p2), .unset, .unset, .unset, .unset, .unset] [(.ref b13)]))
  refine Run.step (fun t_ k_ => XS.dup X83.here hx rfl (hb hby at_62) rfl rfl k_) ?_
  show Run _ _ _ _ (T83.setTop (mkF m 63 #[.val (.int p1), .val (.int p2), .unset, .unset, .unset, .unset, .unset] [(.ref b13), (.ref b13)]))
  refine Run.step (fun t_ k_ => XS.bipush X83.here hx rfl (hb hby at_63) k_) ?_
  show Run _ _ _ _ (T83.setTop (mkF m 65 #[.val (.int p1), .val (.int p2), .unset, .unset, .unset, .unset, .unset] [(.int (9 : Int32)), (.ref b13), (.ref b13)]))
  obtain ⟨T89, X89, e89, st89⟩ := getS2 X83 hx hZ hown (host := "") (Or.inl w22) Via.refl e83 (S_ABORTED.ext O87.2) (g := (mkF m 65 #[.val (.int p1), .val (.int p2), .unset, .unset, .unset, .unset, .unset] [(.int (9 : Int32)), (.ref b13), (.ref b13)])) rfl (hb hby at_65)
  refine Run.step st89 ?_
  show Run _ _ _ _ (T89.setTop (mkF m 68 #[.val (.int p1), .val (.int p2), .unset, .unset, .unset, .unset, .unset] [(.ref (ob 9)), (.int (9 : Int32)), (.ref b13), (.ref b13)]))
  obtain ⟨cl90, Ar90, q90, S90, M90, H90, U90⟩ := id f84
  have hin91 : ¬ ((9 : Int32) < 0 ∨ cl90.slots.size ≤ ((9 : Int32)).toNatClampNeg) := inb_of S90 ⟨by decide, by decide⟩
  obtain ⟨T91, h91, X91, e91, W91, st91⟩ := stR X89 hx hZ e89 Ar90 (j := (9 : Int32)) hin91 rfl (Sto.ofV Ar90 q90 V13 (Ins.self ((hE 9 (by decide)).1.ext O87.2))) (g := (mkF m 68 #[.val (.int p1), .val (.int p2), .unset, .unset, .unset, .unset, .unset] [(.ref (ob 9)), (.int (9 : Int32)), (.ref b13), (.ref b13)])) rfl rfl (hb hby at_68)
  refine Run.step st91 ?_
  have f92 : Arv Z h91 b13 k13 (.object "faultwise/status/Code") (16 : Int32) [(.ref (ob 0)), (.ref (ob 1)), (.ref (ob 2)), (.ref (ob 3)), (.ref (ob 4)), (.ref (ob 5)), (.ref (ob 6)), (.ref (ob 7)), (.ref (ob 8)), (.ref (ob 9)), .null, .null, .null, .null, .null, .null] .null := Arv.set Ar90 q90 S90 M90 H90 U90 rfl W91 9 rfl (Nat.le_of_ble_eq_true rfl)
  have z94 := Nat.le_trans z86 (Keep.of_wr W91).1
  have O95 := O87.wr W91 g_b13
  have N96 := Fr.snoc X91 N88 g_b13
  show Run _ _ _ _ (T91.setTop (mkF m 69 #[.val (.int p1), .val (.int p2), .unset, .unset, .unset, .unset, .unset] [(.ref b13)]))
  refine Run.step (fun t_ k_ => XS.dup X91.here hx rfl (hb hby at_69) rfl rfl k_) ?_
  show Run _ _ _ _ (T91.setTop (mkF m 70 #[.val (.int p1), .val (.int p2), .unset, .unset, .unset, .unset, .unset] [(.ref b13), (.ref b13)]))
  refine Run.step (fun t_ k_ => XS.bipush X91.here hx rfl (hb hby at_70) k_) ?_
  show Run _ _ _ _ (T91.setTop (mkF m 72 #[.val (.int p1), .val (.int p2), .unset, .unset, .unset, .unset, .unset] [(.int (10 : Int32)), (.ref b13), (.ref b13)]))
  obtain ⟨T97, X97, e97, st97⟩ := getS2 X91 hx hZ hown (host := "") (Or.inl w24) Via.refl e91 (S_OUT_OF_RANGE.ext O95.2) (g := (mkF m 72 #[.val (.int p1), .val (.int p2), .unset, .unset, .unset, .unset, .unset] [(.int (10 : Int32)), (.ref b13), (.ref b13)])) rfl (hb hby at_72)
  refine Run.step st97 ?_
  show Run _ _ _ _ (T97.setTop (mkF m 75 #[.val (.int p1), .val (.int p2), .unset, .unset, .unset, .unset, .unset] [(.ref (ob 10)), (.int (10 : Int32)), (.ref b13), (.ref b13)]))
  obtain ⟨cl98, Ar98, q98, S98, M98, H98, U98⟩ := id f92
  have hin99 : ¬ ((10 : Int32) < 0 ∨ cl98.slots.size ≤ ((10 : Int32)).toNatClampNeg) := inb_of S98 ⟨by decide, by decide⟩
  obtain ⟨T99, h99, X99, e99, W99, st99⟩ := stR X97 hx hZ e97 Ar98 (j := (10 : Int32)) hin99 rfl (Sto.ofV Ar98 q98 V13 (Ins.self ((hE 10 (by decide)).1.ext O95.2))) (g := (mkF m 75 #[.val (.int p1), .val (.int p2), .unset, .unset, .unset, .unset, .unset] [(.ref (ob 10)), (.int (10 : Int32)), (.ref b13), (.ref b13)])) rfl rfl (hb hby at_75)
  refine Run.step st99 ?_
  have f100 : Arv Z h99 b13 k13 (.object "faultwise/status/Code") (16 : Int32) [(.ref (ob 0)), (.ref (ob 1)), (.ref (ob 2)), (.ref (ob 3)), (.ref (ob 4)), (.ref (ob 5)), (.ref (ob 6)), (.ref (ob 7)), (.ref (ob 8)), (.ref (ob 9)), (.ref (ob 10)), .null, .null, .null, .null, .null] .null := Arv.set Ar98 q98 S98 M98 H98 U98 rfl W99 10 rfl (Nat.le_of_ble_eq_true rfl)
  have z102 := Nat.le_trans z94 (Keep.of_wr W99).1
  have O103 := O95.wr W99 g_b13
  have N104 := Fr.snoc X99 N96 g_b13
  show Run _ _ _ _ (T99.setTop (mkF m 76 #[.val (.int p1), .val (.int p2), .unset, .unset, .unset, .unset, .unset] [(.ref b13)]))
  refine Run.step (fun t_ k_ => XS.dup X99.here hx rfl (hb hby at_76) rfl rfl k_) ?_
  show Run _ _ _ _ (T99.setTop (mkF m 77 #[.val (.int p1), .val (.int p2), .unset, .unset, .unset, .unset, .unset] [(.ref b13), (.ref b13)]))
  refine Run.step (fun t_ k_ => XS.bipush X99.here hx rfl (hb hby at_77) k_) ?_
  show Run _ _ _ _ (T99.setTop (mkF m 79 #[.val (.int p1), .val (.int p2), .unset, .unset, .unset, .unset, .unset] [(.int (11 : Int32)), (.ref b13), (.ref b13)]))
  obtain ⟨T105, X105, e105, st105⟩ := getS2 X99 hx hZ hown (host := "") (Or.inl w26) Via.refl e99 (S_UNIMPLEMENTED.ext O103.2) (g := (mkF m 79 #[.val (.int p1), .val (.int p2), .unset, .unset, .unset, .unset, .unset] [(.int (11 : Int32)), (.ref b13), (.ref b13)])) rfl (hb hby at_79)
  refine Run.step st105 ?_
  show Run _ _ _ _ (T105.setTop (mkF m 82 #[.val (.int p1), .val (.int p2), .unset, .unset, .unset, .unset, .unset] [(.ref (ob 11)), (.int (11 : Int32)), (.ref b13), (.ref b13)]))
  obtain ⟨cl106, Ar106, q106, S106, M106, H106, U106⟩ := id f100
  have hin107 : ¬ ((11 : Int32) < 0 ∨ cl106.slots.size ≤ ((11 : Int32)).toNatClampNeg) := inb_of S106 ⟨by decide, by decide⟩
  obtain ⟨T107, h107, X107, e107, W107, st107⟩ := stR X105 hx hZ e105 Ar106 (j := (11 : Int32)) hin107 rfl (Sto.ofV Ar106 q106 V13 (Ins.self ((hE 11 (by decide)).1.ext O103.2))) (g := (mkF m 82 #[.val (.int p1), .val (.int p2), .unset, .unset, .unset, .unset, .unset] [(.ref (ob 11)), (.int (11 : Int32)), (.ref b13), (.ref b13)])) rfl rfl (hb hby at_82)
  refine Run.step st107 ?_
  have f108 : Arv Z h107 b13 k13 (.object "faultwise/status/Code") (16 : Int32) [(.ref (ob 0)), (.ref (ob 1)), (.ref (ob 2)), (.ref (ob 3)), (.ref (ob 4)), (.ref (ob 5)), (.ref (ob 6)), (.ref (ob 7)), (.ref (ob 8)), (.ref (ob 9)), (.ref (ob 10)), (.ref (ob 11)), .null, .null, .null, .null] .null := Arv.set Ar106 q106 S106 M106 H106 U106 rfl W107 11 rfl (Nat.le_of_ble_eq_true rfl)
  have z110 := Nat.le_trans z102 (Keep.of_wr W107).1
  have O111 := O103.wr W107 g_b13
  have N112 := Fr.snoc X107 N104 g_b13
  show Run _ _ _ _ (T107.setTop (mkF m 83 #[.val (.int p1), .val (.int p2), .unset, .unset, .unset, .unset, .unset] [(.ref b13)]))
  refine Run.step (fun t_ k_ => XS.dup X107.here hx rfl (hb hby at_83) rfl rfl k_) ?_
  show Run _ _ _ _ (T107.setTop (mkF m 84 #[.val (.int p1), .val (.int p2), .unset, .unset, .unset, .unset, .unset] [(.ref b13), (.ref b13)]))
  refine Run.step (fun t_ k_ => XS.bipush X107.here hx rfl (hb hby at_84) k_) ?_
  show Run _ _ _ _ (T107.setTop (mkF m 86 #[.val (.int p1), .val (.int p2), .unset, .unset, .unset, .unset, .unset] [(.int (12 : Int32)), (.ref b13), (.ref b13)]))
  obtain ⟨T113, X113, e113, st113⟩ := getS2 X107 hx hZ hown (host := "") (Or.inl w28) Via.refl e107 (S_INTERNAL.ext O111.2) (g := (mkF m 86 #[.val (.int p1), .val (.int p2), .unset, .unset, .unset, .unset, .unset] [(.int (12 : Int32)), (.ref b13), (.ref b13)])) rfl (hb hby at_86)
  refine Run.step st113 ?_
  show Run _ _ _ _ (T113.setTop (mkF m 89 #[.val (.int p1), .val (.int p2), .unset, .unset, .unset, .unset, .unset] [(.ref (ob 12)), (.int (12 : Int32)), (.ref b13), (.ref b13)]))
  obtain ⟨cl114, Ar114, q114, S114, M114, H114, U114⟩ := id f108
  have hin115 : ¬ ((12 : Int32) < 0 ∨ cl114.slots.size ≤ ((12 : Int32)).toNatClampNeg) := inb_of S114 ⟨by decide, by decide⟩
  obtain ⟨T115, h115, X115, e115, W115, st115⟩ := stR X113 hx hZ e113 Ar114 (j := (12 : Int32)) hin115 rfl (Sto.ofV Ar114 q114 V13 (Ins.self ((hE 12 (by decide)).1.ext O111.2))) (g := (mkF m 89 #[.val (.int p1), .val (.int p2), .unset, .unset, .unset, .unset, .unset] [(.ref (ob 12)), (.int (12 : Int32)), (.ref b13), (.ref b13)])) rfl rfl (hb hby at_89)
  refine Run.step st115 ?_
  have f116 : Arv Z h115 b13 k13 (.object "faultwise/status/Code") (16 : Int32) [(.ref (ob 0)), (.ref (ob 1)), (.ref (ob 2)), (.ref (ob 3)), (.ref (ob 4)), (.ref (ob 5)), (.ref (ob 6)), (.ref (ob 7)), (.ref (ob 8)), (.ref (ob 9)), (.ref (ob 10)), (.ref (ob 11)), (.ref (ob 12)), .null, .null, .null] .null := Arv.set Ar114 q114 S114 M114 H114 U114 rfl W115 12 rfl (Nat.le_of_ble_eq_true rfl)
  have z118 := Nat.le_trans z110 (Keep.of_wr W115).1
  have O119 := O111.wr W115 g_b13
  have N120 := Fr.snoc X115 N112 g_b13
  show Run _ _ _ _ (T115.setTop (mkF m 90 #[.val (.int p1), .val (.int p2), .unset, .unset, .unset, .unset, .unset] [(.ref b13)]))
  refine Run.step (fun t_ k_ => XS.dup X115.here hx rfl (hb hby at_90) rfl rfl k_) ?_
  show Run _ _ _ _ (T115.setTop (mkF m 91 #[.val (.int p1), .val (.int p2), .unset, .unset, .unset, .unset, .unset] [(.ref b13), (.ref b13)]))
  refine Run.step (fun t_ k_ => XS.bipush X115.here hx rfl (hb hby at_91) k_) ?_
  show Run _ _ _ _ (T115.setTop (mkF m 93 #[.val (.int p1), .val (.int p2), .unset, .unset, .unset, .unset, .unset] [(.int (13 : Int32)), (.ref b13), (.ref b13)]))
  obtain ⟨T121, X121, e121, st121⟩ := getS2 X115 hx hZ hown (host := "") (Or.inl w30) Via.refl e115 (S_UNAVAILABLE.ext O119.2) (g := (mkF m 93 #[.val (.int p1), .val (.int p2), .unset, .unset, .unset, .unset, .unset] [(.int (13 : Int32)), (.ref b13), (.ref b13)])) rfl (hb hby at_93)
  refine Run.step st121 ?_
  show Run _ _ _ _ (T121.setTop (mkF m 96 #[.val (.int p1), .val (.int p2), .unset, .unset, .unset, .unset, .unset] [(.ref (ob 13)), (.int (13 : Int32)), (.ref b13), (.ref b13)]))
  obtain ⟨cl122, Ar122, q122, S122, M122, H122, U122⟩ := id f116
  have hin123 : ¬ ((13 : Int32) < 0 ∨ cl122.slots.size ≤ ((13 : Int32)).toNatClampNeg) := inb_of S122 ⟨by decide, by decide⟩
  obtain ⟨T123, h123, X123, e123, W123, st123⟩ := stR X121 hx hZ e121 Ar122 (j := (13 : Int32)) hin123 rfl (Sto.ofV Ar122 q122 V13 (Ins.self ((hE 13 (by decide)).1.ext O119.2))) (g := (mkF m 96 #[.val (.int p1), .val (.int p2), .unset, .unset, .unset, .unset, .unset] [(.ref (ob 13)), (.int (13 : Int32)), (.ref b13), (.ref b13)])) rfl rfl (hb hby at_96)
  refine Run.step st123 ?_
  have f124 : Arv Z h123 b13 k13 (.object "faultwise/status/Code") (16 : Int32) [(.ref (ob 0)), (.ref (ob 1)), (.ref (ob 2)), (.ref (ob 3)), (.ref (ob 4)), (.ref (ob 5)), (.ref (ob 6)), (.ref (ob 7)), (.ref (ob 8)), (.ref (ob 9)), (.ref (ob 10)), (.ref (ob 11)), (.ref (ob 12)), (.ref (ob 13)), .null, .null] .null := Arv.set Ar122 q122 S122 M122 H122 U122 rfl W123 13 rfl (Nat.le_of_ble_eq_true rfl)
  have z126 := Nat.le_trans z118 (Keep.of_wr W123).1
  have O127 := O119.wr W123 g_b13
  have N128 := Fr.snoc X123 N120 g_b13
  show Run _ _ _ _ (T123.setTop (mkF m 97 #[.val (.int p1), .val (.int p2), .unset, .unset, .unset, .unset, .unset] [(.ref b13)]))
  refine Run.step (fun t_ k_ => XS.dup X123.here hx rfl (hb hby at_97) rfl rfl k_) ?_
  show Run _ _ _ _ (T123.setTop (mkF m 98 #[.val (.int p1), .val (.int p2), .unset, .unset, .unset, .unset, .unset] [(.ref b13), (.ref b13)]))
  refine Run.step (fun t_ k_ => XS.bipush X123.here hx rfl (hb hby at_98) k_) ?_
  show Run _ _ _ _ (T123.setTop (mkF m 100 #[.val (.int p1), .val (.int p2), .unset, .unset, .unset, .unset, .unset] [(.int (14 : Int32)), (.ref b13), (.ref b13)]))
  obtain ⟨T129, X129, e129, st129⟩ := getS2 X123 hx hZ hown (host := "") (Or.inl w32) Via.refl e123 (S_DATA_LOSS.ext O127.2) (g := (mkF m 100 #[.val (.int p1), .val (.int p2), .unset, .unset, .unset, .unset, .unset] [(.int (14 : Int32)), (.ref b13), (.ref b13)])) rfl (hb hby at_100)
  refine Run.step st129 ?_
  show Run _ _ _ _ (T129.setTop (mkF m 103 #[.val (.int p1), .val (.int p2), .unset, .unset, .unset, .unset, .unset] [(.ref (ob 14)), (.int (14 : Int32)), (.ref b13), (.ref b13)]))
  obtain ⟨cl130, Ar130, q130, S130, M130, H130, U130⟩ := id f124
  have hin131 : ¬ ((14 : Int32) < 0 ∨ cl130.slots.size ≤ ((14 : Int32)).toNatClampNeg) := inb_of S130 ⟨by decide, by decide⟩
  obtain ⟨T131, h131, X131, e131, W131, st131⟩ := stR X129 hx hZ e129 Ar130 (j := (14 : Int32)) hin131 rfl (Sto.ofV Ar130 q130 V13 (Ins.self ((hE 14 (by decide)).1.ext O127.2))) (g := (mkF m 103 #[.val (.int p1), .val (.int p2), .unset, .unset, .unset, .unset, .unset] [(.ref (ob 14)), (.int (14 : Int32)), (.ref b13), (.ref b13)])) rfl rfl (hb hby at_103)
  refine Run.step st131 ?_
  have f132 : Arv Z h131 b13 k13 (.object "faultwise/status/Code") (16 : Int32) [(.ref (ob 0)), (.ref (ob 1)), (.ref (ob 2)), (.ref (ob 3)), (.ref (ob 4)), (.ref (ob 5)), (.ref (ob 6)), (.ref (ob 7)), (.ref (ob 8)), (.ref (ob 9)), (.ref (ob 10)), (.ref (ob 11)), (.ref (ob 12)), (.ref (ob 13)), (.ref (ob 14)), .null] .null := Arv.set Ar130 q130 S130 M130 H130 U130 rfl W131 14 rfl (Nat.le_of_ble_eq_true rfl)
  have z134 := Nat.le_trans z126 (Keep.of_wr W131).1
  have O135 := O127.wr W131 g_b13
  have N136 := Fr.snoc X131 N128 g_b13
  show Run _ _ _ _ (T131.setTop (mkF m 104 #[.val (.int p1), .val (.int p2), .unset, .unset, .unset, .unset, .unset] [(.ref b13)]))
  refine Run.step (fun t_ k_ => XS.dup X131.here hx rfl (hb hby at_104) rfl rfl k_) ?_
  show Run _ _ _ _ (T131.setTop (mkF m 105 #[.val (.int p1), .val (.int p2), .unset, .unset, .unset, .unset, .unset] [(.ref b13), (.ref b13)]))
  refine Run.step (fun t_ k_ => XS.bipush X131.here hx rfl (hb hby at_105) k_) ?_
  show Run _ _ _ _ (T131.setTop (mkF m 107 #[.val (.int p1), .val (.int p2), .unset, .unset, .unset, .unset, .unset] [(.int (15 : Int32)), (.ref b13), (.ref b13)]))
  obtain ⟨T137, X137, e137, st137⟩ := getS2 X131 hx hZ hown (host := "") (Or.inl w34) Via.refl e131 (S_UNAUTHENTICATED.ext O135.2) (g := (mkF m 107 #[.val (.int p1), .val (.int p2), .unset, .unset, .unset, .unset, .unset] [(.int (15 : Int32)), (.ref b13), (.ref b13)])) rfl (hb hby at_107)
  refine Run.step st137 ?_
  show Run _ _ _ _ (T137.setTop (mkF m 110 #[.val (.int p1), .val (.int p2), .unset, .unset, .unset, .unset, .unset] [(.ref (ob 15)), (.int (15 : Int32)), (.ref b13), (.ref b13)]))
  obtain ⟨cl138, Ar138, q138, S138, M138, H138, U138⟩ := id f132
  have hin139 : ¬ ((15 : Int32) < 0 ∨ cl138.slots.size ≤ ((15 : Int32)).toNatClampNeg) := inb_of S138 ⟨by decide, by decide⟩
  obtain ⟨T139, h139, X139, e139, W139, st139⟩ := stR X137 hx hZ e137 Ar138 (j := (15 : Int32)) hin139 rfl (Sto.ofV Ar138 q138 V13 (Ins.self ((hE 15 (by decide)).1.ext O135.2))) (g := (mkF m 110 #[.val (.int p1), .val (.int p2), .unset, .unset, .unset, .unset, .unset] [(.ref (ob 15)), (.int (15 : Int32)), (.ref b13), (.ref b13)])) rfl rfl (hb hby at_110)
  refine Run.step st139 ?_
  have f140 : Arv Z h139 b13 k13 (.object "faultwise/status/Code") (16 : Int32) [(.ref (ob 0)), (.ref (ob 1)), (.ref (ob 2)), (.ref (ob 3)), (.ref (ob 4)), (.ref (ob 5)), (.ref (ob 6)), (.ref (ob 7)), (.ref (ob 8)), (.ref (ob 9)), (.ref (ob 10)), (.ref (ob 11)), (.ref (ob 12)), (.ref (ob 13)), (.ref (ob 14)), (.ref (ob 15))] .null := Arv.set Ar138 q138 S138 M138 H138 U138 rfl W139 15 rfl (Nat.le_of_ble_eq_true rfl)
  have z142 := Nat.le_trans z134 (Keep.of_wr W139).1
  have O143 := O135.wr W139 g_b13
  have N144 := Fr.snoc X139 N136 g_b13
  show Run _ _ _ _ (T139.setTop (mkF m 111 #[.val (.int p1), .val (.int p2), .unset, .unset, .unset, .unset, .unset] [(.ref b13)]))
  refine Run.step (fun t_ k_ => XS.astoreN X139.here hx rfl (hb hby at_111) rfl rfl (l' := #[.val (.int p1), .val (.int p2), .val (.ref b13), .unset, .unset, .unset, .unset]) rfl k_) ?_
  show Run _ _ _ _ (T139.setTop (mkF m 112 #[.val (.int p1), .val (.int p2), .val (.ref b13), .unset, .unset, .unset, .unset] []))
  refine Run.step (fun t_ k_ => XS.iloadN X139.here hx rfl (hb hby at_112) rfl k_) ?_
  show Run _ _ _ _ (T139.setTop (mkF m 113 #[.val (.int p1), .val (.int p2), .val (.ref b13), .unset, .unset, .unset, .unset] [(.int p1)]))
  obtain ⟨_, _, ⟨T145, L145, k145, n145⟩, -, X145, ⟨Lc145, hQ145, l145, y145, z145⟩, st145⟩ := Jvm.LawKit.callS X139 hx (y := (⟨"faultwise/status/Code", "forHttpStatus", "(I)Lfaultwise/status/Code;"⟩ : MethodName)) hown (mvT hZ w36) (mvT hZ w37) (mvT hZ w3) (mvT hZ w38) (by decide) (backOf (W := 0) (rm1 l Z a0 hw [] p1 ob h139 n0 z142 (S_CANCELLED.ext O143.2) (S_UNKNOWN.ext O143.2) (S_INVALID_ARGUMENT.ext O143.2) (S_DEADLINE_EXCEEDED.ext O143.2) (S_NOT_FOUND.ext O143.2) (S_PERMISSION_DENIED.ext O143.2) (S_RESOURCE_EXHAUSTED.ext O143.2) (S_ABORTED.ext O143.2) (S_UNIMPLEMENTED.ext O143.2) (S_UNAVAILABLE.ext O143.2) (S_UNAUTHENTICATED.ext O143.2)) hZ w38 w3 (by decide) (by decide)) (g := (mkF m 113 #[.val (.int p1), .val (.int p2), .val (.ref b13), .unset, .unset, .unset, .unset] [(.int p1)])) rfl (by rw [hml]; rfl) (argsL := [(.int p1)]) (rest := []) (lenOf pd__28I_29Lfaultwise_2fstatus_2fCode_3b rfl) rfl (by show 2 * 0 + _ ≤ _; exact Nat.le_of_eq rfl) (hb hby at_113) (fun _ _ => ⟨rfl, e139, (by decide : 1 + 0 ≤ _), (by decide : 16 + 0 ≤ _)⟩)
  dsimp only [Pt.U, Pt.locs, Pt.cells, Pt.slots] at X145 l145 y145 z145 st145 hQ145
  subst l145 y145 z145
  refine Run.step (st145) ?_
  obtain ⟨rfl, N145q, e145q⟩ := hQ145
  have N145 := Fr.app N144 N145q
  show Run _ _ _ _ (T145.setTop (mkF m 116 #[.val (.int p1), .val (.int p2), .val (.ref b13), .unset, .unset, .unset, .unset] [(.ref (ob (own_ix p1)))]))
  refine Run.step (fun t_ k_ => XS.astoreN X145.here hx rfl (hb hby at_116) rfl rfl (l' := #[.val (.int p1), .val (.int p2), .val (.ref b13), .val (.ref (ob (own_ix p1))), .unset, .unset, .unset]) rfl k_) ?_
  show Run _ _ _ _ (T145.setTop (mkF m 117 #[.val (.int p1), .val (.int p2), .val (.ref b13), .val (.ref (ob (own_ix p1))), .unset, .unset, .unset] []))
  have lt1 : own_ix p1 < 17 := Nat.lt_trans (own_ix_lt p1) (by decide)
  have ne1 : ob (own_ix p1) ≠ ob 16 := Fld.ne (hE _ lt1).2 (hE 16 (by decide)).2 (fun q => own_st16 _ (own_ix_lt p1) (Value.int.inj q))
  refine Run.step (fun t_ k_ => XS.aloadN X145.here hx rfl (hb hby at_117) rfl rfl k_) ?_
  show Run _ _ _ _ (T145.setTop (mkF m 118 #[.val (.int p1), .val (.int p2), .val (.ref b13), .val (.ref (ob (own_ix p1))), .unset, .unset, .unset] [(.ref (ob (own_ix p1)))]))
  refine Run.step (fun t_ k_ => XS.ifnullNo X145.here hx rfl (hb hby at_118) rfl k_) ?_
  show Run _ _ _ _ (T145.setTop (mkF m 121 #[.val (.int p1), .val (.int p2), .val (.ref b13), .val (.ref (ob (own_ix p1))), .unset, .unset, .unset] []))
  refine Run.step (fun t_ k_ => XS.aloadN X145.here hx rfl (hb hby at_121) rfl rfl k_) ?_
  show Run _ _ _ _ (T145.setTop (mkF m 122 #[.val (.int p1), .val (.int p2), .val (.ref b13), .val (.ref (ob (own_ix p1))), .unset, .unset, .unset] [(.ref (ob (own_ix p1)))]))
  obtain ⟨T146, X146, e146, st146⟩ := getS2 X145 hx hZ hown (host := "") (Or.inl w40) Via.refl e145q (S_OK.ext O143.2) (g := (mkF m 122 #[.val (.int p1), .val (.int p2), .val (.ref b13), .val (.ref (ob (own_ix p1))), .unset, .unset, .unset] [(.ref (ob (own_ix p1)))])) rfl (hb hby at_122)
  refine Run.step st146 ?_
  show Run _ _ _ _ (T146.setTop (mkF m 125 #[.val (.int p1), .val (.int p2), .val (.ref b13), .val (.ref (ob (own_ix p1))), .unset, .unset, .unset] [(.ref (ob 16)), (.ref (ob (own_ix p1)))]))
  refine Run.step (fun t_ k_ => Jvm.RoadKit.acmp (g := (mkF m 125 #[.val (.int p1), .val (.int p2), .val (.ref b13), .val (.ref (ob (own_ix p1))), .unset, .unset, .unset] [(.ref (ob 16)), (.ref (ob (own_ix p1)))])) X146 hx rfl rfl rfl (pc0 := 125) (pc' := 130) (same := false) rfl (hb hby at_125) rfl (decide_eq_false (fun q => ne1 (Value.ref.inj q))) (by decide) (by decide) k_) ?_
  show Run _ _ _ _ (T146.setTop (mkF m 130 #[.val (.int p1), .val (.int p2), .val (.ref b13), .val (.ref (ob (own_ix p1))), .unset, .unset, .unset] []))
  refine Run.step (fun t_ k_ => XS.aloadN X146.here hx rfl (hb hby at_130) rfl rfl k_) ?_
  show Run _ _ _ _ (T146.setTop (mkF m 131 #[.val (.int p1), .val (.int p2), .val (.ref b13), .val (.ref (ob (own_ix p1))), .unset, .unset, .unset] [(.ref (ob (own_ix p1)))]))
  obtain ⟨T147, X147, e147, st147⟩ := getS2 X146 hx hZ hown (host := "") (Or.inl w6) Via.refl e146 (S_UNKNOWN.ext O143.2) (g := (mkF m 131 #[.val (.int p1), .val (.int p2), .val (.ref b13), .val (.ref (ob (own_ix p1))), .unset, .unset, .unset] [(.ref (ob (own_ix p1)))])) rfl (hb hby at_131)
  refine Run.step st147 ?_
  show Run _ _ _ _ (T147.setTop (mkF m 134 #[.val (.int p1), .val (.int p2), .val (.ref b13), .val (.ref (ob (own_ix p1))), .unset, .unset, .unset] [(.ref (ob 1)), (.ref (ob (own_ix p1)))]))
  have J148 : ∀ (TJ148 : State) (LJ148 : List Loc) (XJ148 : Stand p l e room_1 s m #[(.int p1), (.int p2)] below meth c TJ148 LJ148 1 16) (eJ148 : TJ148.heap = h139) (NJ148 : Fr n0 LJ148) , (True) → Run p.tables e below (PQ s below 16 128 (Q0 Z p1 p2 ob h0 n0)) (TJ148.setTop (mkF m 147 #[.val (.int p1), .val (.int p2), .val (.ref b13), .val (.ref (ob (own_ix p1))), .unset, .unset, .unset] [])) := by
    intro TJ148 LJ148 XJ148 eJ148 NJ148  hv148
    refine Run.step (fun t_ k_ => XS.iloadN XJ148.here hx rfl (hb hby at_147) rfl k_) ?_
    show Run _ _ _ _ (TJ148.setTop (mkF m 148 #[.val (.int p1), .val (.int p2), .val (.ref b13), .val (.ref (ob (own_ix p1))), .unset, .unset, .unset] [(.int p1)]))
    refine Run.step (fun t_ k_ => XS.sipush XJ148.here hx rfl (hb hby at_148) k_) ?_
    show Run _ _ _ _ (TJ148.setTop (mkF m 151 #[.val (.int p1), .val (.int p2), .val (.ref b13), .val (.ref (ob (own_ix p1))), .unset, .unset, .unset] [(.int (400 : Int32)), (.int p1)]))
    have J149 : ∀ (TJ149 : State) (LJ149 : List Loc) (XJ149 : Stand p l e room_1 s m #[(.int p1), (.int p2)] below meth c TJ149 LJ149 1 16) (eJ149 : TJ149.heap = h139) (NJ149 : Fr n0 LJ149) , (True) → Run p.tables e below (PQ s below 16 128 (Q0 Z p1 p2 ob h0 n0)) (TJ149.setTop (mkF m 163 #[.val (.int p1), .val (.int p2), .val (.ref b13), .val (.ref (ob (own_ix p1))), .unset, .unset, .unset] [])) := by
      intro TJ149 LJ149 XJ149 eJ149 NJ149  hv149
      refine Run.step (fun t_ k_ => XS.iloadN XJ149.here hx rfl (hb hby at_163) rfl k_) ?_
      show Run _ _ _ _ (TJ149.setTop (mkF m 164 #[.val (.int p1), .val (.int p2), .val (.ref b13), .val (.ref (ob (own_ix p1))), .unset, .unset, .unset] [(.int p1)]))
      refine Run.step (fun t_ k_ => XS.sipush XJ149.here hx rfl (hb hby at_164) k_) ?_
      show Run _ _ _ _ (TJ149.setTop (mkF m 167 #[.val (.int p1), .val (.int p2), .val (.ref b13), .val (.ref (ob (own_ix p1))), .unset, .unset, .unset] [(.int (409 : Int32)), (.int p1)]))
      have J150 : ∀ (TJ150 : State) (LJ150 : List Loc) (XJ150 : Stand p l e room_1 s m #[(.int p1), (.int p2)] below meth c TJ150 LJ150 1 16) (eJ150 : TJ150.heap = h139) (NJ150 : Fr n0 LJ150) , (True) → Run p.tables e below (PQ s below 16 128 (Q0 Z p1 p2 ob h0 n0)) (TJ150.setTop (mkF m 179 #[.val (.int p1), .val (.int p2), .val (.ref b13), .val (.ref (ob (own_ix p1))), .unset, .unset, .unset] [])) := by
        intro TJ150 LJ150 XJ150 eJ150 NJ150  hv150
        refine Run.step (fun t_ k_ => XS.iloadN XJ150.here hx rfl (hb hby at_179) rfl k_) ?_
        show Run _ _ _ _ (TJ150.setTop (mkF m 180 #[.val (.int p1), .val (.int p2), .val (.ref b13), .val (.ref (ob (own_ix p1))), .unset, .unset, .unset] [(.int p1)]))
        refine Run.step (fun t_ k_ => XS.sipush XJ150.here hx rfl (hb hby at_180) k_) ?_
        show Run _ _ _ _ (TJ150.setTop (mkF m 183 #[.val (.int p1), .val (.int p2), .val (.ref b13), .val (.ref (ob (own_ix p1))), .unset, .unset, .unset] [(.int (500 : Int32)), (.int p1)]))
        have J151 : ∀ (TJ151 : State) (LJ151 : List Loc) (XJ151 : Stand p l e room_1 s m #[(.int p1), (.int p2)] below meth c TJ151 LJ151 1 16) (eJ151 : TJ151.heap = h139) (NJ151 : Fr n0 LJ151) , (True) → Run p.tables e below (PQ s below 16 128 (Q0 Z p1 p2 ob h0 n0)) (TJ151.setTop (mkF m 195 #[.val (.int p1), .val (.int p2), .val (.ref b13), .val (.ref (ob (own_ix p1))), .unset, .unset, .unset] [])) := by
          intro TJ151 LJ151 XJ151 eJ151 NJ151  hv151
          obtain ⟨n, hn1, hn2⟩ := own_mask p2
          have lt2 : n < 17 := Nat.lt_trans hn1 (by decide)
          refine Run.step (fun t_ k_ => XS.aloadN XJ151.here hx rfl (hb hby at_195) rfl rfl k_) ?_
          show Run _ _ _ _ (TJ151.setTop (mkF m 196 #[.val (.int p1), .val (.int p2), .val (.ref b13), .val (.ref (ob (own_ix p1))), .unset, .unset, .unset] [(.ref b13)]))
          refine Run.step (fun t_ k_ => XS.iloadN XJ151.here hx rfl (hb hby at_196) rfl k_) ?_
          show Run _ _ _ _ (TJ151.setTop (mkF m 197 #[.val (.int p1), .val (.int p2), .val (.ref b13), .val (.ref (ob (own_ix p1))), .unset, .unset, .unset] [(.int p2), (.ref b13)]))
          refine Run.step (fun t_ k_ => XJ151.ldcInt hx hown (mvT hZ w42) (g := (mkF m 197 #[.val (.int p1), .val (.int p2), .val (.ref b13), .val (.ref (ob (own_ix p1))), .unset, .unset, .unset] [(.int p2), (.ref b13)])) rfl (hb hby at_197) _ k_) ?_
          show Run _ _ _ _ (TJ151.setTop (mkF m 199 #[.val (.int p1), .val (.int p2), .val (.ref b13), .val (.ref (ob (own_ix p1))), .unset, .unset, .unset] [(.int (2147483647 : Int32)), (.int p2), (.ref b13)]))
          refine Run.step (fun t_ k_ => XS.iand XJ151.here hx rfl (hb hby at_199) rfl k_) ?_
          show Run _ _ _ _ (TJ151.setTop (mkF m 200 #[.val (.int p1), .val (.int p2), .val (.ref b13), .val (.ref (ob (own_ix p1))), .unset, .unset, .unset] [(.int (p2 &&& (2147483647 : Int32))), (.ref b13)]))
          refine Run.step (fun t_ k_ => XS.bipush XJ151.here hx rfl (hb hby at_200) k_) ?_
          show Run _ _ _ _ (TJ151.setTop (mkF m 202 #[.val (.int p1), .val (.int p2), .val (.ref b13), .val (.ref (ob (own_ix p1))), .unset, .unset, .unset] [(.int (16 : Int32)), (.int (p2 &&& (2147483647 : Int32))), (.ref b13)]))
          refine Run.step (fun t_ k_ => iremM XJ151 hx rfl (hb hby at_202) rfl (by decide) k_) ?_
          show Run _ _ _ _ (TJ151.setTop (mkF m 203 #[.val (.int p1), .val (.int p2), .val (.ref b13), .val (.ref (ob (own_ix p1))), .unset, .unset, .unset] [(.int ((p2 &&& (2147483647 : Int32)) % (16 : Int32))), (.ref b13)]))
          obtain ⟨cl152, Ar152, q152, S152, M152, H152, U152⟩ := id f140
          have hin153 : ¬ (((p2 &&& (2147483647 : Int32)) % (16 : Int32)) < 0 ∨ cl152.slots.size ≤ (((p2 &&& (2147483647 : Int32)) % (16 : Int32))).toNatClampNeg) := inb_of S152 (by rw [hn2]; exact (own_pick ob n hn1).2)
          have hat153 : cl152.slots[(((p2 &&& (2147483647 : Int32)) % (16 : Int32))).toNatClampNeg]? = some (.ref (ob n)) := H152.at hin153 (by rw [hn2]; exact (own_pick ob n hn1).1)
          refine Run.step (fun t_ k_ => XJ151.aaload hx (j := ((p2 &&& (2147483647 : Int32)) % (16 : Int32))) (v := (.ref (ob n))) (by rw [eJ151]; exact Ar152.1) (State.isArrayOf_alike hZ.alike Ar152.2.1) rfl Ar152.2.2 hin153 hat153 (g := (mkF m 203 #[.val (.int p1), .val (.int p2), .val (.ref b13), .val (.ref (ob (own_ix p1))), .unset, .unset, .unset] [(.int ((p2 &&& (2147483647 : Int32)) % (16 : Int32))), (.ref b13)])) rfl rfl (hb hby at_203) _ k_) ?_
          show Run _ _ _ _ (TJ151.setTop (mkF m 204 #[.val (.int p1), .val (.int p2), .val (.ref b13), .val (.ref (ob (own_ix p1))), .unset, .unset, .unset] [(.ref (ob n))]))
          refine Run.step (fun t_ k_ => XS.astore XJ151.here hx rfl (hb hby at_204) rfl rfl (l' := #[.val (.int p1), .val (.int p2), .val (.ref b13), .val (.ref (ob (own_ix p1))), .val (.ref (ob n)), .unset, .unset]) rfl k_) ?_
          show Run _ _ _ _ (TJ151.setTop (mkF m 206 #[.val (.int p1), .val (.int p2), .val (.ref b13), .val (.ref (ob (own_ix p1))), .val (.ref (ob n)), .unset, .unset] []))
          refine Run.step (fun t_ k_ => XS.aload XJ151.here hx rfl (hb hby at_206) rfl rfl k_) ?_
          show Run _ _ _ _ (TJ151.setTop (mkF m 208 #[.val (.int p1), .val (.int p2), .val (.ref b13), .val (.ref (ob (own_ix p1))), .val (.ref (ob n)), .unset, .unset] [(.ref (ob n))]))
          obtain ⟨cq154, kq154, q154a, q154b, q154c⟩ := isOf hZ eJ151 ((hE n lt2).1.ext O143.2)
          obtain ⟨_, _, ⟨T154, L154, k154, n154⟩, -, X154, ⟨Lc154, hQ154, l154, y154, z154⟩, st154⟩ := XJ151.virtualBack hx (y := (⟨"faultwise/status/Code", "httpStatus", "()I"⟩ : MethodName)) (z := (⟨"faultwise/status/Code", "httpStatus", "()I"⟩ : MethodName)) hown (mvT hZ w43) (mvT hZ w44) (notFace_of_selects (args := #[]) (mvT hZ w46)) (mvT hZ w46) (mvT hZ w45) (by decide) (backOf (W := 0) (rm2 l Z a0 hw [] (ob n) (own_st n) h139 n0 z142 ((hE n lt2).2.ext O143.2)) hZ w47 w3 (by decide) (by decide)) q154a q154c (g := (mkF m 208 #[.val (.int p1), .val (.int p2), .val (.ref b13), .val (.ref (ob (own_ix p1))), .val (.ref (ob n)), .unset, .unset] [(.ref (ob n))])) rfl (by rw [hml]; rfl) (Steps.refl _) (argsL := []) (rest := []) (lenOf pd__28_29I rfl) rfl (by show 2 * 0 + _ ≤ _; exact Nat.le_of_eq rfl) (hb hby at_208) (fun _ _ => ⟨rfl, eJ151, (by decide : 1 + 0 ≤ _), (by decide : 16 + 0 ≤ _)⟩)
          dsimp only [Pt.U, Pt.locs, Pt.cells, Pt.slots] at X154 l154 y154 z154 st154 hQ154
          subst l154 y154 z154
          refine Run.step (fun t k => st154.trans k) ?_
          obtain ⟨rfl, N154q, e154q⟩ := hQ154
          have N154 := Fr.app NJ151 N154q
          show Run _ _ _ _ (T154.setTop (mkF m 211 #[.val (.int p1), .val (.int p2), .val (.ref b13), .val (.ref (ob (own_ix p1))), .val (.ref (ob n)), .unset, .unset] [(.int (own_st n))]))
          refine Run.step (fun t_ k_ => XS.istore X154.here hx rfl (hb hby at_211) rfl (l' := #[.val (.int p1), .val (.int p2), .val (.ref b13), .val (.ref (ob (own_ix p1))), .val (.ref (ob n)), .val (.int (own_st n)), .unset]) rfl k_) ?_
          show Run _ _ _ _ (T154.setTop (mkF m 213 #[.val (.int p1), .val (.int p2), .val (.ref b13), .val (.ref (ob (own_ix p1))), .val (.ref (ob n)), .val (.int (own_st n)), .unset] []))
          refine Run.step (fun t_ k_ => XS.iload X154.here hx rfl (hb hby at_213) rfl k_) ?_
          show Run _ _ _ _ (T154.setTop (mkF m 215 #[.val (.int p1), .val (.int p2), .val (.ref b13), .val (.ref (ob (own_ix p1))), .val (.ref (ob n)), .val (.int (own_st n)), .unset] [(.int (own_st n))]))
          obtain ⟨_, _, ⟨T155, L155, k155, n155⟩, -, X155, ⟨Lc155, hQ155, l155, y155, z155⟩, st155⟩ := Jvm.LawKit.callS X154 hx (y := (⟨"faultwise/status/Code", "forHttpStatus", "(I)Lfaultwise/status/Code;"⟩ : MethodName)) hown (mvT hZ w36) (mvT hZ w37) (mvT hZ w3) (mvT hZ w38) (by decide) (backOf (W := 0) (rm1 l Z a0 hw [] (own_st n) ob h139 n0 z142 (S_CANCELLED.ext O143.2) (S_UNKNOWN.ext O143.2) (S_INVALID_ARGUMENT.ext O143.2) (S_DEADLINE_EXCEEDED.ext O143.2) (S_NOT_FOUND.ext O143.2) (S_PERMISSION_DENIED.ext O143.2) (S_RESOURCE_EXHAUSTED.ext O143.2) (S_ABORTED.ext O143.2) (S_UNIMPLEMENTED.ext O143.2) (S_UNAVAILABLE.ext O143.2) (S_UNAUTHENTICATED.ext O143.2)) hZ w38 w3 (by decide) (by decide)) (g := (mkF m 215 #[.val (.int p1), .val (.int p2), .val (.ref b13), .val (.ref (ob (own_ix p1))), .val (.ref (ob n)), .val (.int (own_st n)), .unset] [(.int (own_st n))])) rfl (by rw [hml]; rfl) (argsL := [(.int (own_st n))]) (rest := []) (lenOf pd__28I_29Lfaultwise_2fstatus_2fCode_3b rfl) rfl (by show 2 * 0 + _ ≤ _; exact Nat.le_of_eq rfl) (hb hby at_215) (fun _ _ => ⟨rfl, e154q, (by decide : 1 + 0 ≤ _), (by decide : 16 + 0 ≤ _)⟩)
          dsimp only [Pt.U, Pt.locs, Pt.cells, Pt.slots] at X155 l155 y155 z155 st155 hQ155
          subst l155 y155 z155
          refine Run.step (st155) ?_
          obtain ⟨rfl, N155q, e155q⟩ := hQ155
          have N155 := Fr.app N154 N155q
          show Run _ _ _ _ (T155.setTop (mkF m 218 #[.val (.int p1), .val (.int p2), .val (.ref b13), .val (.ref (ob (own_ix p1))), .val (.ref (ob n)), .val (.int (own_st n)), .unset] [(.ref (ob (own_ix (own_st n))))]))
          refine Run.step (fun t_ k_ => XS.astore X155.here hx rfl (hb hby at_218) rfl rfl (l' := #[.val (.int p1), .val (.int p2), .val (.ref b13), .val (.ref (ob (own_ix p1))), .val (.ref (ob n)), .val (.int (own_st n)), .val (.ref (ob (own_ix (own_st n))))]) rfl k_) ?_
          show Run _ _ _ _ (T155.setTop (mkF m 220 #[.val (.int p1), .val (.int p2), .val (.ref b13), .val (.ref (ob (own_ix p1))), .val (.ref (ob n)), .val (.int (own_st n)), .val (.ref (ob (own_ix (own_st n))))] []))
          have lt3 : own_ix (own_st n) < 17 := Nat.lt_trans (own_ix_lt _) (by decide)
          refine Run.step (fun t_ k_ => XS.aload X155.here hx rfl (hb hby at_220) rfl rfl k_) ?_
          show Run _ _ _ _ (T155.setTop (mkF m 222 #[.val (.int p1), .val (.int p2), .val (.ref b13), .val (.ref (ob (own_ix p1))), .val (.ref (ob n)), .val (.int (own_st n)), .val (.ref (ob (own_ix (own_st n))))] [(.ref (ob (own_ix (own_st n))))]))
          refine Run.step (fun t_ k_ => XS.ifnullNo X155.here hx rfl (hb hby at_222) rfl k_) ?_
          show Run _ _ _ _ (T155.setTop (mkF m 225 #[.val (.int p1), .val (.int p2), .val (.ref b13), .val (.ref (ob (own_ix p1))), .val (.ref (ob n)), .val (.int (own_st n)), .val (.ref (ob (own_ix (own_st n))))] []))
          refine Run.step (fun t_ k_ => XS.aload X155.here hx rfl (hb hby at_225) rfl rfl k_) ?_
          show Run _ _ _ _ (T155.setTop (mkF m 227 #[.val (.int p1), .val (.int p2), .val (.ref b13), .val (.ref (ob (own_ix p1))), .val (.ref (ob n)), .val (.int (own_st n)), .val (.ref (ob (own_ix (own_st n))))] [(.ref (ob (own_ix (own_st n))))]))
          obtain ⟨cq156, kq156, q156a, q156b, q156c⟩ := isOf hZ e155q ((hE (own_ix (own_st n)) lt3).1.ext O143.2)
          obtain ⟨_, _, ⟨T156, L156, k156, n156⟩, -, X156, ⟨Lc156, hQ156, l156, y156, z156⟩, st156⟩ := X155.virtualBack hx (y := (⟨"faultwise/status/Code", "httpStatus", "()I"⟩ : MethodName)) (z := (⟨"faultwise/status/Code", "httpStatus", "()I"⟩ : MethodName)) hown (mvT hZ w43) (mvT hZ w44) (notFace_of_selects (args := #[]) (mvT hZ w46)) (mvT hZ w46) (mvT hZ w45) (by decide) (backOf (W := 0) (rm2 l Z a0 hw [] (ob (own_ix (own_st n))) (own_st (own_ix (own_st n))) h139 n0 z142 ((hE (own_ix (own_st n)) lt3).2.ext O143.2)) hZ w47 w3 (by decide) (by decide)) q156a q156c (g := (mkF m 227 #[.val (.int p1), .val (.int p2), .val (.ref b13), .val (.ref (ob (own_ix p1))), .val (.ref (ob n)), .val (.int (own_st n)), .val (.ref (ob (own_ix (own_st n))))] [(.ref (ob (own_ix (own_st n))))])) rfl (by rw [hml]; rfl) (Steps.refl _) (argsL := []) (rest := []) (lenOf pd__28_29I rfl) rfl (by show 2 * 0 + _ ≤ _; exact Nat.le_of_eq rfl) (hb hby at_227) (fun _ _ => ⟨rfl, e155q, (by decide : 1 + 0 ≤ _), (by decide : 16 + 0 ≤ _)⟩)
          dsimp only [Pt.U, Pt.locs, Pt.cells, Pt.slots] at X156 l156 y156 z156 st156 hQ156
          subst l156 y156 z156
          refine Run.step (fun t k => st156.trans k) ?_
          obtain ⟨rfl, N156q, e156q⟩ := hQ156
          have N156 := Fr.app N155 N156q
          show Run _ _ _ _ (T156.setTop (mkF m 230 #[.val (.int p1), .val (.int p2), .val (.ref b13), .val (.ref (ob (own_ix p1))), .val (.ref (ob n)), .val (.int (own_st n)), .val (.ref (ob (own_ix (own_st n))))] [(.int (own_st (own_ix (own_st n))))]))
          refine Run.step (fun t_ k_ => XS.iload X156.here hx rfl (hb hby at_230) rfl k_) ?_
          show Run _ _ _ _ (T156.setTop (mkF m 232 #[.val (.int p1), .val (.int p2), .val (.ref b13), .val (.ref (ob (own_ix p1))), .val (.ref (ob n)), .val (.int (own_st n)), .val (.ref (ob (own_ix (own_st n))))] [(.int (own_st n)), (.int (own_st (own_ix (own_st n))))]))
          refine Run.step (fun t_ k_ => XS.icmpNo X156.here hx rfl (hb hby at_232) rfl (XT.ii_ne_f ((own_back n hn1) : (own_st (own_ix (own_st n))) = (own_st n))) k_) ?_
          show Run _ _ _ _ (T156.setTop (mkF m 235 #[.val (.int p1), .val (.int p2), .val (.ref b13), .val (.ref (ob (own_ix p1))), .val (.ref (ob n)), .val (.int (own_st n)), .val (.ref (ob (own_ix (own_st n))))] []))
          refine Run.step (fun t_ k_ => XS.iconst X156.here hx rfl (hb hby at_235) k_) ?_
          show Run _ _ _ _ (T156.setTop (mkF m 236 #[.val (.int p1), .val (.int p2), .val (.ref b13), .val (.ref (ob (own_ix p1))), .val (.ref (ob n)), .val (.int (own_st n)), .val (.ref (ob (own_ix (own_st n))))] [(.int (1 : Int32))]))
          refine Run.step (fun t_ k_ => XS.goto X156.here hx rfl (pc0 := 236) (pc' := 240) rfl (hb hby at_236) (by decide) (by decide) k_) ?_
          show Run _ _ _ _ (T156.setTop (mkF m 240 #[.val (.int p1), .val (.int p2), .val (.ref b13), .val (.ref (ob (own_ix p1))), .val (.ref (ob n)), .val (.int (own_st n)), .val (.ref (ob (own_ix (own_st n))))] [(.int (1 : Int32))]))
          exact finZ X156 hx (BodyLoose.notSynchronized Bd) Bd.returns (hb hby at_240) (by decide) (by decide) (by decide) e156q ⟨rfl, N156⟩
        by_cases c183 : p1 = (500 : Int32)
        · skip
          refine Run.step (fun t_ k_ => XS.icmpNo XJ150.here hx rfl (hb hby at_183) rfl (XT.ii_ne_f c183) k_) ?_
          show Run _ _ _ _ (TJ150.setTop (mkF m 186 #[.val (.int p1), .val (.int p2), .val (.ref b13), .val (.ref (ob (own_ix p1))), .unset, .unset, .unset] []))
          refine Run.step (fun t_ k_ => XS.aloadN XJ150.here hx rfl (hb hby at_186) rfl rfl k_) ?_
          show Run _ _ _ _ (TJ150.setTop (mkF m 187 #[.val (.int p1), .val (.int p2), .val (.ref b13), .val (.ref (ob (own_ix p1))), .unset, .unset, .unset] [(.ref (ob (own_ix p1)))]))
          obtain ⟨T157, X157, e157, st157⟩ := getS2 XJ150 hx hZ hown (host := "") (Or.inl w6) Via.refl eJ150 (S_UNKNOWN.ext O143.2) (g := (mkF m 187 #[.val (.int p1), .val (.int p2), .val (.ref b13), .val (.ref (ob (own_ix p1))), .unset, .unset, .unset] [(.ref (ob (own_ix p1)))])) rfl (hb hby at_187)
          refine Run.step st157 ?_
          show Run _ _ _ _ (T157.setTop (mkF m 190 #[.val (.int p1), .val (.int p2), .val (.ref b13), .val (.ref (ob (own_ix p1))), .unset, .unset, .unset] [(.ref (ob 1)), (.ref (ob (own_ix p1)))]))
          refine Run.step (fun t_ k_ => Jvm.RoadKit.acmp (g := (mkF m 190 #[.val (.int p1), .val (.int p2), .val (.ref b13), .val (.ref (ob (own_ix p1))), .unset, .unset, .unset] [(.ref (ob 1)), (.ref (ob (own_ix p1)))])) X157 hx rfl rfl rfl (pc0 := 190) (pc' := 195) (same := true) rfl (hb hby at_190) rfl (decide_eq_true (by rw [c183]; rfl)) (by decide) (by decide) k_) ?_
          show Run _ _ _ _ (T157.setTop (mkF m 195 #[.val (.int p1), .val (.int p2), .val (.ref b13), .val (.ref (ob (own_ix p1))), .unset, .unset, .unset] []))
          exact J151 _ _ X157 e157 NJ150  trivial
        · skip
          refine Run.step (fun t_ k_ => XS.icmpYes XJ150.here hx rfl (pc0 := 183) (pc' := 195) rfl (hb hby at_183) rfl (XT.ii_ne_t c183) (by decide) (by decide) k_) ?_
          show Run _ _ _ _ (TJ150.setTop (mkF m 195 #[.val (.int p1), .val (.int p2), .val (.ref b13), .val (.ref (ob (own_ix p1))), .unset, .unset, .unset] []))
          exact J151 _ _ XJ150 eJ150 NJ150  trivial
      by_cases c167 : p1 = (409 : Int32)
      · skip
        refine Run.step (fun t_ k_ => XS.icmpNo XJ149.here hx rfl (hb hby at_167) rfl (XT.ii_ne_f c167) k_) ?_
        show Run _ _ _ _ (TJ149.setTop (mkF m 170 #[.val (.int p1), .val (.int p2), .val (.ref b13), .val (.ref (ob (own_ix p1))), .unset, .unset, .unset] []))
        refine Run.step (fun t_ k_ => XS.aloadN XJ149.here hx rfl (hb hby at_170) rfl rfl k_) ?_
        show Run _ _ _ _ (TJ149.setTop (mkF m 171 #[.val (.int p1), .val (.int p2), .val (.ref b13), .val (.ref (ob (own_ix p1))), .unset, .unset, .unset] [(.ref (ob (own_ix p1)))]))
        obtain ⟨T158, X158, e158, st158⟩ := getS2 XJ149 hx hZ hown (host := "") (Or.inl w22) Via.refl eJ149 (S_ABORTED.ext O143.2) (g := (mkF m 171 #[.val (.int p1), .val (.int p2), .val (.ref b13), .val (.ref (ob (own_ix p1))), .unset, .unset, .unset] [(.ref (ob (own_ix p1)))])) rfl (hb hby at_171)
        refine Run.step st158 ?_
        show Run _ _ _ _ (T158.setTop (mkF m 174 #[.val (.int p1), .val (.int p2), .val (.ref b13), .val (.ref (ob (own_ix p1))), .unset, .unset, .unset] [(.ref (ob 9)), (.ref (ob (own_ix p1)))]))
        refine Run.step (fun t_ k_ => Jvm.RoadKit.acmp (g := (mkF m 174 #[.val (.int p1), .val (.int p2), .val (.ref b13), .val (.ref (ob (own_ix p1))), .unset, .unset, .unset] [(.ref (ob 9)), (.ref (ob (own_ix p1)))])) X158 hx rfl rfl rfl (pc0 := 174) (pc' := 179) (same := true) rfl (hb hby at_174) rfl (decide_eq_true (by rw [c167]; rfl)) (by decide) (by decide) k_) ?_
        show Run _ _ _ _ (T158.setTop (mkF m 179 #[.val (.int p1), .val (.int p2), .val (.ref b13), .val (.ref (ob (own_ix p1))), .unset, .unset, .unset] []))
        exact J150 _ _ X158 e158 NJ149  trivial
      · skip
        refine Run.step (fun t_ k_ => XS.icmpYes XJ149.here hx rfl (pc0 := 167) (pc' := 179) rfl (hb hby at_167) rfl (XT.ii_ne_t c167) (by decide) (by decide) k_) ?_
        show Run _ _ _ _ (TJ149.setTop (mkF m 179 #[.val (.int p1), .val (.int p2), .val (.ref b13), .val (.ref (ob (own_ix p1))), .unset, .unset, .unset] []))
        exact J150 _ _ XJ149 eJ149 NJ149  trivial
    by_cases c151 : p1 = (400 : Int32)
    · skip
      refine Run.step (fun t_ k_ => XS.icmpNo XJ148.here hx rfl (hb hby at_151) rfl (XT.ii_ne_f c151) k_) ?_
      show Run _ _ _ _ (TJ148.setTop (mkF m 154 #[.val (.int p1), .val (.int p2), .val (.ref b13), .val (.ref (ob (own_ix p1))), .unset, .unset, .unset] []))
      refine Run.step (fun t_ k_ => XS.aloadN XJ148.here hx rfl (hb hby at_154) rfl rfl k_) ?_
      show Run _ _ _ _ (TJ148.setTop (mkF m 155 #[.val (.int p1), .val (.int p2), .val (.ref b13), .val (.ref (ob (own_ix p1))), .unset, .unset, .unset] [(.ref (ob (own_ix p1)))]))
      obtain ⟨T159, X159, e159, st159⟩ := getS2 XJ148 hx hZ hown (host := "") (Or.inl w8) Via.refl eJ148 (S_INVALID_ARGUMENT.ext O143.2) (g := (mkF m 155 #[.val (.int p1), .val (.int p2), .val (.ref b13), .val (.ref (ob (own_ix p1))), .unset, .unset, .unset] [(.ref (ob (own_ix p1)))])) rfl (hb hby at_155)
      refine Run.step st159 ?_
      show Run _ _ _ _ (T159.setTop (mkF m 158 #[.val (.int p1), .val (.int p2), .val (.ref b13), .val (.ref (ob (own_ix p1))), .unset, .unset, .unset] [(.ref (ob 2)), (.ref (ob (own_ix p1)))]))
      refine Run.step (fun t_ k_ => Jvm.RoadKit.acmp (g := (mkF m 158 #[.val (.int p1), .val (.int p2), .val (.ref b13), .val (.ref (ob (own_ix p1))), .unset, .unset, .unset] [(.ref (ob 2)), (.ref (ob (own_ix p1)))])) X159 hx rfl rfl rfl (pc0 := 158) (pc' := 163) (same := true) rfl (hb hby at_158) rfl (decide_eq_true (by rw [c151]; rfl)) (by decide) (by decide) k_) ?_
      show Run _ _ _ _ (T159.setTop (mkF m 163 #[.val (.int p1), .val (.int p2), .val (.ref b13), .val (.ref (ob (own_ix p1))), .unset, .unset, .unset] []))
      exact J149 _ _ X159 e159 NJ148  trivial
    · skip
      refine Run.step (fun t_ k_ => XS.icmpYes XJ148.here hx rfl (pc0 := 151) (pc' := 163) rfl (hb hby at_151) rfl (XT.ii_ne_t c151) (by decide) (by decide) k_) ?_
      show Run _ _ _ _ (TJ148.setTop (mkF m 163 #[.val (.int p1), .val (.int p2), .val (.ref b13), .val (.ref (ob (own_ix p1))), .unset, .unset, .unset] []))
      exact J149 _ _ XJ148 eJ148 NJ148  trivial
  by_cases c134 : (ob (own_ix p1)) = (ob 1)
  · have _hx := hx
    refine Run.step (fun t_ k_ => Jvm.RoadKit.acmp (g := (mkF m 134 #[.val (.int p1), .val (.int p2), .val (.ref b13), .val (.ref (ob (own_ix p1))), .unset, .unset, .unset] [(.ref (ob 1)), (.ref (ob (own_ix p1)))])) X147 hx rfl rfl rfl (pc0 := 134) (pc' := 147) (same := true) rfl (hb hby at_134) rfl (decide_eq_true (congrArg Value.ref c134)) (by decide) (by decide) k_) ?_
    show Run _ _ _ _ (T147.setTop (mkF m 147 #[.val (.int p1), .val (.int p2), .val (.ref b13), .val (.ref (ob (own_ix p1))), .unset, .unset, .unset] []))
    exact J148 _ _ X147 e147 N145  trivial
  · have _hx := hx
    refine Run.step (fun t_ k_ => Jvm.RoadKit.acmp (g := (mkF m 134 #[.val (.int p1), .val (.int p2), .val (.ref b13), .val (.ref (ob (own_ix p1))), .unset, .unset, .unset] [(.ref (ob 1)), (.ref (ob (own_ix p1)))])) X147 hx rfl rfl rfl (pc0 := 134) (pc' := 137) (same := false) rfl (hb hby at_134) rfl (decide_eq_false fun q => c134 (Value.ref.inj q)) (by decide) (by decide) k_) ?_
    show Run _ _ _ _ (T147.setTop (mkF m 137 #[.val (.int p1), .val (.int p2), .val (.ref b13), .val (.ref (ob (own_ix p1))), .unset, .unset, .unset] []))
    refine Run.step (fun t_ k_ => XS.aloadN X147.here hx rfl (hb hby at_137) rfl rfl k_) ?_
    show Run _ _ _ _ (T147.setTop (mkF m 138 #[.val (.int p1), .val (.int p2), .val (.ref b13), .val (.ref (ob (own_ix p1))), .unset, .unset, .unset] [(.ref (ob (own_ix p1)))]))
    obtain ⟨cq160, kq160, q160a, q160b, q160c⟩ := isOf hZ e147 ((hE (own_ix p1) lt1).1.ext O143.2)
    obtain ⟨_, _, ⟨T160, L160, k160, n160⟩, -, X160, ⟨Lc160, hQ160, l160, y160, z160⟩, st160⟩ := X147.virtualBack hx (y := (⟨"faultwise/status/Code", "httpStatus", "()I"⟩ : MethodName)) (z := (⟨"faultwise/status/Code", "httpStatus", "()I"⟩ : MethodName)) hown (mvT hZ w43) (mvT hZ w44) (notFace_of_selects (args := #[]) (mvT hZ w46)) (mvT hZ w46) (mvT hZ w45) (by decide) (backOf (W := 0) (rm2 l Z a0 hw [] (ob (own_ix p1)) (own_st (own_ix p1)) h139 n0 z142 ((hE (own_ix p1) lt1).2.ext O143.2)) hZ w47 w3 (by decide) (by decide)) q160a q160c (g := (mkF m 138 #[.val (.int p1), .val (.int p2), .val (.ref b13), .val (.ref (ob (own_ix p1))), .unset, .unset, .unset] [(.ref (ob (own_ix p1)))])) rfl (by rw [hml]; rfl) (Steps.refl _) (argsL := []) (rest := []) (lenOf pd__28_29I rfl) rfl (by show 2 * 0 + _ ≤ _; exact Nat.le_of_eq rfl) (hb hby at_138) (fun _ _ => ⟨rfl, e147, (by decide : 1 + 0 ≤ _), (by decide : 16 + 0 ≤ _)⟩)
    dsimp only [Pt.U, Pt.locs, Pt.cells, Pt.slots] at X160 l160 y160 z160 st160 hQ160
    subst l160 y160 z160
    refine Run.step (fun t k => st160.trans k) ?_
    obtain ⟨rfl, N160q, e160q⟩ := hQ160
    have N160 := Fr.app N145 N160q
    show Run _ _ _ _ (T160.setTop (mkF m 141 #[.val (.int p1), .val (.int p2), .val (.ref b13), .val (.ref (ob (own_ix p1))), .unset, .unset, .unset] [(.int (own_st (own_ix p1)))]))
    refine Run.step (fun t_ k_ => XS.iloadN X160.here hx rfl (hb hby at_141) rfl k_) ?_
    show Run _ _ _ _ (T160.setTop (mkF m 142 #[.val (.int p1), .val (.int p2), .val (.ref b13), .val (.ref (ob (own_ix p1))), .unset, .unset, .unset] [(.int p1), (.int (own_st (own_ix p1)))]))
    refine Run.step (fun t_ k_ => XS.icmpYes X160.here hx rfl (pc0 := 142) (pc' := 147) rfl (hb hby at_142) rfl (XT.ii_eq_t ((by rcases own_ix_st p1 with q | q; exact absurd (by rw [q]) c134; exact q) : (own_st (own_ix p1)) = p1)) (by decide) (by decide) k_) ?_
    show Run _ _ _ _ (T160.setTop (mkF m 147 #[.val (.int p1), .val (.int p2), .val (.ref b13), .val (.ref (ob (own_ix p1))), .unset, .unset, .unset] []))
    exact J148 _ _ X160 e160q N160  trivial
set_option maxRecDepth 65536 in
set_option maxHeartbeats 40000000 in
theorem comes_1 {Post : Tables → Env → Array Value → State → Outcome → State → Prop} (hpost : ∀ tb e args s v u, (limb_1_1.after args s (.returned v) u = true ∧ limb_1_2.after args s (.returned v) u = true ∧ True) → FrameEnd s (.returned v) u (Jvm.fieldLocs frame_1_writes args s ++ Jvm.arrayLocs frame_1_arrays args s ++ Jvm.staticLocs frame_1_statics s) 16 128 → Post tb e args s (.returned v) u) :
    ArmFor flags0 classFile x code maxLocals ret World_1 tables_1 room_1 Calls_1 rest_1 Pre_1 Post := by
  intro l hfl _ _ p e ha hc hk s m args below hf hA hF happ hP
  obtain ⟨hcalls, hrest, hpre⟩ := hP
  obtain ⟨-, -, -, hnamed, -, -, -, hat⟩ := (Spec.applies_iff hf).mp happ
  obtain ⟨hg, hn⟩ := and_e (Cond.before_iff.mp (show (Jvm.Cond.and given_1 narrow_1).before args s = true from hpre))
  obtain ⟨h1, h2⟩ := and_e hg
  obtain ⟨w0, w1, rfl⟩ : ∃ w0 w1 : Value, args = #[w0, w1] := by
    have hs : args.size = 2 := by simpa [Cond.value, given_1] using h1
    obtain ⟨L⟩ := args
    match L, hs with
    | [w0, w1], _ => exact ⟨w0, w1, rfl⟩
  have hw := fun d (hd : d ∈ tables_1) => atoms_spec (ws := Jvm.Cond.code x code maxLocals ret :: tables_1) hat d (List.mem_cons_of_mem _ hd)
  have hfit : Fit s := fun {y c} hc i hi => by
    obtain ⟨ha, rfl⟩ := Array.getElem?_eq_some_iff.mp hc
    have q := List.all_eq_true.mp ((Array.all_eq_true_iff_forall_mem.mp hF) _ (Array.getElem_mem ha)) i (List.mem_range.mpr hi)
    simpa [Array.getElem?_eq_getElem hi] using q
  obtain ⟨a0, t0⟩ := and_e h2
  obtain ⟨i0, q0⟩ := is_v a0
  obtain rfl : w0 = (.int i0) := Option.some.inj q0
  obtain ⟨i1, q1⟩ := is_v t0
  obtain rfl : w1 = (.int i1) := Option.some.inj q1
  obtain ⟨n0, m0⟩ := and_e hn
  obtain ⟨n1, m1⟩ := and_e m0
  obtain ⟨n2, m2⟩ := and_e m1
  obtain ⟨n3, m3⟩ := and_e m2
  obtain ⟨n4, m4⟩ := and_e m3
  obtain ⟨n5, m5⟩ := and_e m4
  obtain ⟨n6, m6⟩ := and_e m5
  obtain ⟨n7, m7⟩ := and_e m6
  obtain ⟨n8, m8⟩ := and_e m7
  obtain ⟨n9, m9⟩ := and_e m8
  obtain ⟨n10, m10⟩ := and_e m9
  obtain ⟨n11, m11⟩ := and_e m10
  obtain ⟨n12, m12⟩ := and_e m11
  obtain ⟨n13, m13⟩ := and_e m12
  obtain ⟨n14, m14⟩ := and_e m13
  obtain ⟨n15, m15⟩ := and_e m14
  obtain ⟨n16, m16⟩ := and_e m15
  obtain ⟨n17, m17⟩ := and_e m16
  obtain ⟨n18, m18⟩ := and_e m17
  obtain ⟨n19, m19⟩ := and_e m18
  obtain ⟨n20, m20⟩ := and_e m19
  obtain ⟨n21, m21⟩ := and_e m20
  obtain ⟨n22, m22⟩ := and_e m21
  obtain ⟨n23, m23⟩ := and_e m22
  obtain ⟨n24, m24⟩ := and_e m23
  obtain ⟨n25, m25⟩ := and_e m24
  obtain ⟨n26, m26⟩ := and_e m25
  obtain ⟨n27, m27⟩ := and_e m26
  obtain ⟨n28, m28⟩ := and_e m27
  obtain ⟨n29, m29⟩ := and_e m28
  obtain ⟨n30, m30⟩ := and_e m29
  obtain ⟨n31, m31⟩ := and_e m30
  obtain ⟨n32, m32⟩ := and_e m31
  obtain ⟨n33, m33⟩ := and_e m32
  obtain ⟨n34, m34⟩ := and_e m33
  obtain ⟨o_CANCELLED, ev_CANCELLED⟩ := exa_v n0
  have E_CANCELLED := Exa.start ev_CANCELLED n0
  have S_CANCELLED := Sta.start ev_CANCELLED (Or.inr ⟨(hw _ (List.mem_of_getElem? (i := 3) rfl)), (hw _ (List.mem_of_getElem? (i := 4) rfl))⟩)
  obtain ⟨o_UNKNOWN, ev_UNKNOWN⟩ := exa_v n1
  have E_UNKNOWN := Exa.start ev_UNKNOWN n1
  have S_UNKNOWN := Sta.start ev_UNKNOWN (Or.inr ⟨(hw _ (List.mem_of_getElem? (i := 3) rfl)), (hw _ (List.mem_of_getElem? (i := 7) rfl))⟩)
  obtain ⟨o_INVALID_ARGUMENT, ev_INVALID_ARGUMENT⟩ := exa_v n2
  have E_INVALID_ARGUMENT := Exa.start ev_INVALID_ARGUMENT n2
  have S_INVALID_ARGUMENT := Sta.start ev_INVALID_ARGUMENT (Or.inr ⟨(hw _ (List.mem_of_getElem? (i := 3) rfl)), (hw _ (List.mem_of_getElem? (i := 9) rfl))⟩)
  obtain ⟨o_DEADLINE_EXCEEDED, ev_DEADLINE_EXCEEDED⟩ := exa_v n3
  have E_DEADLINE_EXCEEDED := Exa.start ev_DEADLINE_EXCEEDED n3
  have S_DEADLINE_EXCEEDED := Sta.start ev_DEADLINE_EXCEEDED (Or.inr ⟨(hw _ (List.mem_of_getElem? (i := 3) rfl)), (hw _ (List.mem_of_getElem? (i := 11) rfl))⟩)
  obtain ⟨o_NOT_FOUND, ev_NOT_FOUND⟩ := exa_v n4
  have E_NOT_FOUND := Exa.start ev_NOT_FOUND n4
  have S_NOT_FOUND := Sta.start ev_NOT_FOUND (Or.inr ⟨(hw _ (List.mem_of_getElem? (i := 3) rfl)), (hw _ (List.mem_of_getElem? (i := 13) rfl))⟩)
  obtain ⟨o_ALREADY_EXISTS, ev_ALREADY_EXISTS⟩ := exa_v n5
  have E_ALREADY_EXISTS := Exa.start ev_ALREADY_EXISTS n5
  have S_ALREADY_EXISTS := Sta.start ev_ALREADY_EXISTS (Or.inr ⟨(hw _ (List.mem_of_getElem? (i := 3) rfl)), (hw _ (List.mem_of_getElem? (i := 15) rfl))⟩)
  obtain ⟨o_PERMISSION_DENIED, ev_PERMISSION_DENIED⟩ := exa_v n6
  have E_PERMISSION_DENIED := Exa.start ev_PERMISSION_DENIED n6
  have S_PERMISSION_DENIED := Sta.start ev_PERMISSION_DENIED (Or.inr ⟨(hw _ (List.mem_of_getElem? (i := 3) rfl)), (hw _ (List.mem_of_getElem? (i := 17) rfl))⟩)
  obtain ⟨o_RESOURCE_EXHAUSTED, ev_RESOURCE_EXHAUSTED⟩ := exa_v n7
  have E_RESOURCE_EXHAUSTED := Exa.start ev_RESOURCE_EXHAUSTED n7
  have S_RESOURCE_EXHAUSTED := Sta.start ev_RESOURCE_EXHAUSTED (Or.inr ⟨(hw _ (List.mem_of_getElem? (i := 3) rfl)), (hw _ (List.mem_of_getElem? (i := 19) rfl))⟩)
  obtain ⟨o_FAILED_PRECONDITION, ev_FAILED_PRECONDITION⟩ := exa_v n8
  have E_FAILED_PRECONDITION := Exa.start ev_FAILED_PRECONDITION n8
  have S_FAILED_PRECONDITION := Sta.start ev_FAILED_PRECONDITION (Or.inr ⟨(hw _ (List.mem_of_getElem? (i := 3) rfl)), (hw _ (List.mem_of_getElem? (i := 21) rfl))⟩)
  obtain ⟨o_ABORTED, ev_ABORTED⟩ := exa_v n9
  have E_ABORTED := Exa.start ev_ABORTED n9
  have S_ABORTED := Sta.start ev_ABORTED (Or.inr ⟨(hw _ (List.mem_of_getElem? (i := 3) rfl)), (hw _ (List.mem_of_getElem? (i := 23) rfl))⟩)
  obtain ⟨o_OUT_OF_RANGE, ev_OUT_OF_RANGE⟩ := exa_v n10
  have E_OUT_OF_RANGE := Exa.start ev_OUT_OF_RANGE n10
  have S_OUT_OF_RANGE := Sta.start ev_OUT_OF_RANGE (Or.inr ⟨(hw _ (List.mem_of_getElem? (i := 3) rfl)), (hw _ (List.mem_of_getElem? (i := 25) rfl))⟩)
  obtain ⟨o_UNIMPLEMENTED, ev_UNIMPLEMENTED⟩ := exa_v n11
  have E_UNIMPLEMENTED := Exa.start ev_UNIMPLEMENTED n11
  have S_UNIMPLEMENTED := Sta.start ev_UNIMPLEMENTED (Or.inr ⟨(hw _ (List.mem_of_getElem? (i := 3) rfl)), (hw _ (List.mem_of_getElem? (i := 27) rfl))⟩)
  obtain ⟨o_INTERNAL, ev_INTERNAL⟩ := exa_v n12
  have E_INTERNAL := Exa.start ev_INTERNAL n12
  have S_INTERNAL := Sta.start ev_INTERNAL (Or.inr ⟨(hw _ (List.mem_of_getElem? (i := 3) rfl)), (hw _ (List.mem_of_getElem? (i := 29) rfl))⟩)
  obtain ⟨o_UNAVAILABLE, ev_UNAVAILABLE⟩ := exa_v n13
  have E_UNAVAILABLE := Exa.start ev_UNAVAILABLE n13
  have S_UNAVAILABLE := Sta.start ev_UNAVAILABLE (Or.inr ⟨(hw _ (List.mem_of_getElem? (i := 3) rfl)), (hw _ (List.mem_of_getElem? (i := 31) rfl))⟩)
  obtain ⟨o_DATA_LOSS, ev_DATA_LOSS⟩ := exa_v n14
  have E_DATA_LOSS := Exa.start ev_DATA_LOSS n14
  have S_DATA_LOSS := Sta.start ev_DATA_LOSS (Or.inr ⟨(hw _ (List.mem_of_getElem? (i := 3) rfl)), (hw _ (List.mem_of_getElem? (i := 33) rfl))⟩)
  obtain ⟨o_UNAUTHENTICATED, ev_UNAUTHENTICATED⟩ := exa_v n15
  have E_UNAUTHENTICATED := Exa.start ev_UNAUTHENTICATED n15
  have S_UNAUTHENTICATED := Sta.start ev_UNAUTHENTICATED (Or.inr ⟨(hw _ (List.mem_of_getElem? (i := 3) rfl)), (hw _ (List.mem_of_getElem? (i := 35) rfl))⟩)
  obtain ⟨o_OK, ev_OK⟩ := exa_v n16
  have E_OK := Exa.start ev_OK n16
  have S_OK := Sta.start ev_OK (Or.inr ⟨(hw _ (List.mem_of_getElem? (i := 3) rfl)), (hw _ (List.mem_of_getElem? (i := 41) rfl))⟩)
  have F_UNKNOWN_ordinal := Fld.start ((fld_at ev_UNKNOWN).symm.trans (own_eqi n17))
  have F_OK_ordinal := Fld.start ((fld_at ev_OK).symm.trans (own_eqi n18))
  have F_DEADLINE_EXCEEDED_httpStatus := Fld.start ((fld_at ev_DEADLINE_EXCEEDED).symm.trans (own_eqi n19))
  have F_UNKNOWN_httpStatus := Fld.start ((fld_at ev_UNKNOWN).symm.trans (own_eqi n20))
  have F_NOT_FOUND_httpStatus := Fld.start ((fld_at ev_NOT_FOUND).symm.trans (own_eqi n21))
  have F_CANCELLED_httpStatus := Fld.start ((fld_at ev_CANCELLED).symm.trans (own_eqi n22))
  have F_UNAVAILABLE_httpStatus := Fld.start ((fld_at ev_UNAVAILABLE).symm.trans (own_eqi n23))
  have F_UNAUTHENTICATED_httpStatus := Fld.start ((fld_at ev_UNAUTHENTICATED).symm.trans (own_eqi n24))
  have F_ALREADY_EXISTS_httpStatus := Fld.start ((fld_at ev_ALREADY_EXISTS).symm.trans (own_eqi n25))
  have F_ABORTED_httpStatus := Fld.start ((fld_at ev_ABORTED).symm.trans (own_eqi n26))
  have F_DATA_LOSS_httpStatus := Fld.start ((fld_at ev_DATA_LOSS).symm.trans (own_eqi n27))
  have F_RESOURCE_EXHAUSTED_httpStatus := Fld.start ((fld_at ev_RESOURCE_EXHAUSTED).symm.trans (own_eqi n28))
  have F_INVALID_ARGUMENT_httpStatus := Fld.start ((fld_at ev_INVALID_ARGUMENT).symm.trans (own_eqi n29))
  have F_INTERNAL_httpStatus := Fld.start ((fld_at ev_INTERNAL).symm.trans (own_eqi n30))
  have F_OUT_OF_RANGE_httpStatus := Fld.start ((fld_at ev_OUT_OF_RANGE).symm.trans (own_eqi n31))
  have F_FAILED_PRECONDITION_httpStatus := Fld.start ((fld_at ev_FAILED_PRECONDITION).symm.trans (own_eqi n32))
  have F_PERMISSION_DENIED_httpStatus := Fld.start ((fld_at ev_PERMISSION_DENIED).symm.trans (own_eqi n33))
  have F_UNIMPLEMENTED_httpStatus := Fld.start ((fld_at ev_UNIMPLEMENTED).symm.trans (own_eqi n34))
  have F_OK_httpStatus := Fld.start ((fld_at ev_OK).symm.trans (own_eqi m34))
  have hE : ∀ k : Nat, k < 17 → Exa s s.heap ([o_CANCELLED, o_UNKNOWN, o_INVALID_ARGUMENT, o_DEADLINE_EXCEEDED, o_NOT_FOUND, o_ALREADY_EXISTS, o_PERMISSION_DENIED, o_RESOURCE_EXHAUSTED, o_FAILED_PRECONDITION, o_ABORTED, o_OUT_OF_RANGE, o_UNIMPLEMENTED, o_INTERNAL, o_UNAVAILABLE, o_DATA_LOSS, o_UNAUTHENTICATED, o_OK].getD k 0) "faultwise/status/Code" ∧ Fld s s.heap ([o_CANCELLED, o_UNKNOWN, o_INVALID_ARGUMENT, o_DEADLINE_EXCEEDED, o_NOT_FOUND, o_ALREADY_EXISTS, o_PERMISSION_DENIED, o_RESOURCE_EXHAUSTED, o_FAILED_PRECONDITION, o_ABORTED, o_OUT_OF_RANGE, o_UNIMPLEMENTED, o_INTERNAL, o_UNAVAILABLE, o_DATA_LOSS, o_UNAUTHENTICATED, o_OK].getD k 0) "faultwise/status/Code" "httpStatus" "I" (.int (own_st k)) := by
    intro k h1
    match k, h1 with
    | 0, _ => exact ⟨E_CANCELLED, F_CANCELLED_httpStatus⟩
    | 1, _ => exact ⟨E_UNKNOWN, F_UNKNOWN_httpStatus⟩
    | 2, _ => exact ⟨E_INVALID_ARGUMENT, F_INVALID_ARGUMENT_httpStatus⟩
    | 3, _ => exact ⟨E_DEADLINE_EXCEEDED, F_DEADLINE_EXCEEDED_httpStatus⟩
    | 4, _ => exact ⟨E_NOT_FOUND, F_NOT_FOUND_httpStatus⟩
    | 5, _ => exact ⟨E_ALREADY_EXISTS, F_ALREADY_EXISTS_httpStatus⟩
    | 6, _ => exact ⟨E_PERMISSION_DENIED, F_PERMISSION_DENIED_httpStatus⟩
    | 7, _ => exact ⟨E_RESOURCE_EXHAUSTED, F_RESOURCE_EXHAUSTED_httpStatus⟩
    | 8, _ => exact ⟨E_FAILED_PRECONDITION, F_FAILED_PRECONDITION_httpStatus⟩
    | 9, _ => exact ⟨E_ABORTED, F_ABORTED_httpStatus⟩
    | 10, _ => exact ⟨E_OUT_OF_RANGE, F_OUT_OF_RANGE_httpStatus⟩
    | 11, _ => exact ⟨E_UNIMPLEMENTED, F_UNIMPLEMENTED_httpStatus⟩
    | 12, _ => exact ⟨E_INTERNAL, F_INTERNAL_httpStatus⟩
    | 13, _ => exact ⟨E_UNAVAILABLE, F_UNAVAILABLE_httpStatus⟩
    | 14, _ => exact ⟨E_DATA_LOSS, F_DATA_LOSS_httpStatus⟩
    | 15, _ => exact ⟨E_UNAUTHENTICATED, F_UNAUTHENTICATED_httpStatus⟩
    | 16, _ => exact ⟨E_OK, F_OK_httpStatus⟩
    | k + 17, h => exact absurd h (by omega)
  obtain ⟨n, o, g1, g2, g3, _, L, rfl, ⟨rfl, N⟩, hq⟩ := rm0 l s _ hw tables_1 i0 i1 (fun k => [o_CANCELLED, o_UNKNOWN, o_INVALID_ARGUMENT, o_DEADLINE_EXCEEDED, o_NOT_FOUND, o_ALREADY_EXISTS, o_PERMISSION_DENIED, o_RESOURCE_EXHAUSTED, o_FAILED_PRECONDITION, o_ABORTED, o_OUT_OF_RANGE, o_UNIMPLEMENTED, o_INTERNAL, o_UNAVAILABLE, o_DATA_LOSS, o_UNAUTHENTICATED, o_OK].getD k 0) s.heap s.heap.size (Nat.le_refl _) (Old.start s) hE S_CANCELLED S_UNKNOWN S_INVALID_ARGUMENT S_DEADLINE_EXCEEDED S_NOT_FOUND S_ALREADY_EXISTS S_PERMISSION_DENIED S_RESOURCE_EXHAUSTED S_FAILED_PRECONDITION S_ABORTED S_OUT_OF_RANGE S_UNIMPLEMENTED S_INTERNAL S_UNAVAILABLE S_DATA_LOSS S_UNAUTHENTICATED S_OK p e ha hc hk s m _ below hf ((Spec.applies_iff_loose hf).mp happ).1 ⟨rfl, State.Warmed39.refl s, rfl⟩ trivial
  refine ⟨n, _, g1, g2, g3, hpost _ _ _ _ _ _ ⟨Cond.after_iff.mpr rfl, Cond.after_iff.mpr (eq_i res_at (Term.int_eval (1)) rfl), trivial⟩ ⟨hq.1, hq.2.1, (hq.2.2.sift fun y hy => Or.inr (N y hy)).mono (by decide) (by decide)⟩⟩
theorem main_1_1 : Claimed_1_1 := comes_1 fun _ _ _ _ _ _ h hF => ⟨h.1, hF⟩
theorem main_1_2 : Claimed_1_2 := comes_1 fun _ _ _ _ _ _ h hF => ⟨h.2.1, hF⟩
end Jvm.Pilot.@@N@@
namespace Jvm.Pilot.@@N@@
open Jvm Jvm.ClassFile Sem Op Lib Jvm.Free Jvm.Stand Jvm.Pilot.@@N@@.Jvm.D
/-! MADE BY PROGRAM (witnessworld.py) out of the Statement's table words and the real class files: 13 classes; the members and pool entries that the words name. The judged class is class 1, her method 1. -/
namespace start1
open Jvm.ClassFile
def u (s : String) : CpInfo := .utf8 (stringToUtf16 s)
/-- a pool by its gaps: so many unusable entries, then the entry; so many at the end -/
def gap : Nat → List CpInfo → List CpInfo
  | 0, r => r
  | n + 1, r => .unusable :: gap n r
def poolList (es : List (Nat × CpInfo)) (last : Nat) : List CpInfo := es.foldr (fun e r => gap e.1 (e.2 :: r)) (gap last [])
def pool (es : List (Nat × CpInfo)) (last : Nat) : Array CpInfo := ⟨poolList es last⟩
def fileOf (pool : Array CpInfo) (this : Nat) (attrs : Array Attribute := #[]) (ms : Array MethodInfo := #[]) (fl : Nat := 33) (sup : Nat := 0) (ifs : Array Nat := #[]) (fds : Array FieldInfo := #[]) : ClassFile where
  minorVersion := 0
  majorVersion := 65
  constantPool := pool
  accessFlags := fl
  thisClass := this
  superClass := sup
  interfaces := ifs
  fields := fds
  methods := ms
  attributes := attrs
def plain (name : String) (sup : Option ClassId) : Class where
  name := name
  kind := .ordinary
  loader := none
  accessFlags := 33
  super := sup
  interfaces := #[]
  cf := none
  fields := #[]
  methods := #[]
  instanceTypes := #[]
  staticTypes := #[]
  resolved := #[]
  callSites := []
  init := .initialized
  statics := none
  mirror := none

def pool0 : Array CpInfo := pool [(5, u "<init>"), (0, u "()V"), (1, .class_ 10), (1, u "java/lang/Object")] 113

def k0m0 : Method := { name := "<init>", desc := "()V", sig := { parameters := [], returnType := none }, accessFlags := 1, code := none }
/-- java/lang/Object -/
def k0 : Class := { plain "java/lang/Object" none with
  accessFlags := 33
  interfaces := #[]
  cf := some (fileOf pool0 8 #[] #[{ accessFlags := 1, nameIndex := 5, descriptorIndex := 6, attributes := #[] }] 33 0 #[] #[])
  fields := #[]
  methods := #[k0m0]
  instanceTypes := #[]
  staticTypes := #[]
  resolved := Array.replicate 124 none
  statics := none }

def pool1 : Array CpInfo := pool [(2, .class_ 4), (1, u "java/lang/Object"), (0, u "<init>"), (0, u "()V"), (0, .class_ 8), (0, u "faultwise/status/Code"), (0, .fieldref 7 10), (0, .nameAndType 11 12), (0, u "CANCELLED"), (0, u "Lfaultwise/status/Code;"), (0, .fieldref 7 14), (0, .nameAndType 15 12), (0, u "UNKNOWN"), (0, .fieldref 7 17), (0, .nameAndType 18 12), (0, u "INVALID_ARGUMENT"), (0, .fieldref 7 20), (0, .nameAndType 21 12), (0, u "DEADLINE_EXCEEDED"), (0, .fieldref 7 23), (0, .nameAndType 24 12), (0, u "NOT_FOUND"), (0, .fieldref 7 26), (0, .nameAndType 27 12), (0, u "ALREADY_EXISTS"), (0, .fieldref 7 29), (0, .nameAndType 30 12), (0, u "PERMISSION_DENIED"), (0, .fieldref 7 32), (0, .nameAndType 33 12), (0, u "RESOURCE_EXHAUSTED"), (0, .fieldref 7 35), (0, .nameAndType 36 12), (0, u "FAILED_PRECONDITION"), (0, .fieldref 7 38), (0, .nameAndType 39 12), (0, u "ABORTED"), (0, .fieldref 7 41), (0, .nameAndType 42 12), (0, u "OUT_OF_RANGE"), (0, .fieldref 7 44), (0, .nameAndType 45 12), (0, u "UNIMPLEMENTED"), (0, .fieldref 7 47), (0, .nameAndType 48 12), (0, u "INTERNAL"), (0, .fieldref 7 50), (0, .nameAndType 51 12), (0, u "UNAVAILABLE"), (0, .fieldref 7 53), (0, .nameAndType 54 12), (0, u "DATA_LOSS"), (0, .fieldref 7 56), (0, .nameAndType 57 12), (0, u "UNAUTHENTICATED"), (0, .methodref 7 59), (0, .nameAndType 60 61), (0, u "forHttpStatus"), (0, u "(I)Lfaultwise/status/Code;"), (0, .fieldref 7 63), (0, .nameAndType 64 12), (0, u "OK"), (0, .methodref 7 66), (0, .nameAndType 67 68), (0, u "httpStatus"), (0, u "()I"), (0, .integer 2147483647), (0, .class_ 71), (0, u "faultwise/status/CodeForHttpStatusPinLaw"), (2, u "law"), (0, u "(II)Z")] 5

def k1m0 : Method := { name := "<init>", desc := "()V", sig := { parameters := [], returnType := none }, accessFlags := 1, code := none }
def k1c1 : Code := { maxStack := 4, maxLocals := 7, code := code, exceptionTable := #[], attributes := #[] }
def k1m1 : Method := { name := "law", desc := "(II)Z", sig := { parameters := [.int, .int], returnType := some .boolean }, accessFlags := 9, code := some k1c1 }
/-- faultwise/status/CodeForHttpStatusPinLaw -/
def k1 : Class := { plain "faultwise/status/CodeForHttpStatusPinLaw" (some 0) with
  accessFlags := 49
  interfaces := #[]
  cf := some (fileOf pool1 70 #[] #[{ accessFlags := 1, nameIndex := 5, descriptorIndex := 6, attributes := #[] }, { accessFlags := 9, nameIndex := 74, descriptorIndex := 75, attributes := #[] }] 49 2 #[] #[])
  fields := #[]
  methods := #[k1m0, k1m1]
  instanceTypes := #[]
  staticTypes := #[]
  resolved := Array.replicate 81 none
  statics := none }

def pool2 : Array CpInfo := pool [(1, .class_ 2), (0, u "java/lang/constant/Constable"), (0, .class_ 4), (0, u "java/lang/Object")] 6

/-- java/lang/constant/Constable -/
def k2 : Class := { plain "java/lang/constant/Constable" (some 0) with
  accessFlags := 1537
  interfaces := #[]
  cf := some (fileOf pool2 1 #[] #[] 1537 3 #[] #[])
  fields := #[]
  methods := #[]
  instanceTypes := #[]
  staticTypes := #[]
  resolved := Array.replicate 11 none
  statics := none }

def pool3 : Array CpInfo := pool [(1, .class_ 2), (0, u "java/lang/Comparable"), (0, .class_ 4), (0, u "java/lang/Object")] 7

/-- java/lang/Comparable -/
def k3 : Class := { plain "java/lang/Comparable" (some 0) with
  accessFlags := 1537
  interfaces := #[]
  cf := some (fileOf pool3 1 #[] #[] 1537 3 #[] #[])
  fields := #[]
  methods := #[]
  instanceTypes := #[]
  staticTypes := #[]
  resolved := Array.replicate 12 none
  statics := none }

def pool4 : Array CpInfo := pool [(1, .class_ 2), (0, u "java/io/Serializable"), (0, .class_ 4), (0, u "java/lang/Object")] 2

/-- java/io/Serializable -/
def k4 : Class := { plain "java/io/Serializable" (some 0) with
  accessFlags := 1537
  interfaces := #[]
  cf := some (fileOf pool4 1 #[] #[] 1537 3 #[] #[])
  fields := #[]
  methods := #[]
  instanceTypes := #[]
  staticTypes := #[]
  resolved := Array.replicate 7 none
  statics := none }

def pool5 : Array CpInfo := pool [(2, .class_ 4), (1, u "java/lang/Enum"), (0, u "name"), (0, u "Ljava/lang/String;"), (2, u "ordinal"), (0, u "I"), (1, .class_ 14), (1, u "java/lang/Object"), (4, u "hash"), (86, .class_ 108), (1, u "java/lang/Enum$EnumDesc"), (2, .class_ 112), (0, u "java/lang/constant/Constable"), (0, .class_ 114), (0, u "java/lang/Comparable"), (0, .class_ 116), (0, u "java/io/Serializable")] 87

/-- java/lang/Enum -/
def k5 : Class := { plain "java/lang/Enum" (some 0) with
  accessFlags := 1057
  interfaces := #[2, 3, 4]
  cf := some (fileOf pool5 2 #[.nestMembers #[106]] #[] 1057 12 #[111, 113, 115] #[{ accessFlags := 18, nameIndex := 5, descriptorIndex := 6, attributes := #[] }, { accessFlags := 18, nameIndex := 9, descriptorIndex := 10, attributes := #[] }, { accessFlags := 2, nameIndex := 19, descriptorIndex := 10, attributes := #[] }])
  fields := #[{ name := "name", type := (.object "java/lang/String"), accessFlags := 18, slot := 0, constantValue := 0 }, { name := "ordinal", type := .int, accessFlags := 18, slot := 1, constantValue := 0 }, { name := "hash", type := .int, accessFlags := 2, slot := 2, constantValue := 0 }]
  methods := #[]
  instanceTypes := #[(.object "java/lang/String"), .int, .int]
  staticTypes := #[]
  resolved := Array.replicate 204 none
  statics := none }

def pool6 : Array CpInfo := pool [(1, .class_ 2), (0, u "faultwise/status/Code"), (2, u "OK"), (0, u "Lfaultwise/status/Code;"), (0, .fieldref 1 8), (0, .nameAndType 9 6), (0, u "CANCELLED"), (0, .fieldref 1 11), (0, .nameAndType 12 6), (0, u "UNKNOWN"), (0, .fieldref 1 14), (0, .nameAndType 15 6), (0, u "INVALID_ARGUMENT"), (0, .fieldref 1 17), (0, .nameAndType 18 6), (0, u "DEADLINE_EXCEEDED"), (0, .fieldref 1 20), (0, .nameAndType 21 6), (0, u "NOT_FOUND"), (2, u "ALREADY_EXISTS"), (0, .fieldref 1 26), (0, .nameAndType 27 6), (0, u "PERMISSION_DENIED"), (0, .fieldref 1 29), (0, .nameAndType 30 6), (0, u "RESOURCE_EXHAUSTED"), (2, u "FAILED_PRECONDITION"), (0, .fieldref 1 35), (0, .nameAndType 36 6), (0, u "ABORTED"), (2, u "OUT_OF_RANGE"), (0, .fieldref 1 41), (0, .nameAndType 42 6), (0, u "UNIMPLEMENTED"), (2, u "INTERNAL"), (0, .fieldref 1 47), (0, .nameAndType 48 6), (0, u "UNAVAILABLE"), (2, u "DATA_LOSS"), (0, .fieldref 1 53), (0, .nameAndType 54 6), (0, u "UNAUTHENTICATED"), (2, u "$VALUES"), (0, u "[Lfaultwise/status/Code;"), (6, .class_ 67), (1, u "java/lang/Enum"), (8, u "number"), (0, u "I"), (0, .fieldref 1 79), (0, .nameAndType 80 77), (0, u "httpStatus"), (2, u "BY_NUMBER"), (12, u "BY_NAME"), (0, u "Ljava/util/Map;"), (56, u "()I"), (7, u "forHttpStatus"), (0, u "(I)Lfaultwise/status/Code;")] 4

def k6c0 : Code := { maxStack := 1, maxLocals := 1, code := prog_39_method_5_code, exceptionTable := #[], attributes := #[] }
def k6m0 : Method := { name := "httpStatus", desc := "()I", sig := { parameters := [], returnType := some .int }, accessFlags := 1, code := some k6c0 }
def k6c1 : Code := { maxStack := 1, maxLocals := 1, code := prog_39_method_8_code, exceptionTable := #[], attributes := #[] }
def k6m1 : Method := { name := "forHttpStatus", desc := "(I)Lfaultwise/status/Code;", sig := { parameters := [.int], returnType := some (.object "faultwise/status/Code") }, accessFlags := 9, code := some k6c1 }
/-- faultwise/status/Code -/
def k6 : Class := { plain "faultwise/status/Code" (some 5) with
  accessFlags := 16433
  interfaces := #[]
  cf := some (fileOf pool6 1 #[] #[{ accessFlags := 1, nameIndex := 80, descriptorIndex := 154, attributes := #[] }, { accessFlags := 9, nameIndex := 162, descriptorIndex := 163, attributes := #[] }] 16433 65 #[] #[{ accessFlags := 16409, nameIndex := 5, descriptorIndex := 6, attributes := #[] }, { accessFlags := 16409, nameIndex := 9, descriptorIndex := 6, attributes := #[] }, { accessFlags := 16409, nameIndex := 12, descriptorIndex := 6, attributes := #[] }, { accessFlags := 16409, nameIndex := 15, descriptorIndex := 6, attributes := #[] }, { accessFlags := 16409, nameIndex := 18, descriptorIndex := 6, attributes := #[] }, { accessFlags := 16409, nameIndex := 21, descriptorIndex := 6, attributes := #[] }, { accessFlags := 16409, nameIndex := 24, descriptorIndex := 6, attributes := #[] }, { accessFlags := 16409, nameIndex := 27, descriptorIndex := 6, attributes := #[] }, { accessFlags := 16409, nameIndex := 30, descriptorIndex := 6, attributes := #[] }, { accessFlags := 16409, nameIndex := 33, descriptorIndex := 6, attributes := #[] }, { accessFlags := 16409, nameIndex := 36, descriptorIndex := 6, attributes := #[] }, { accessFlags := 16409, nameIndex := 39, descriptorIndex := 6, attributes := #[] }, { accessFlags := 16409, nameIndex := 42, descriptorIndex := 6, attributes := #[] }, { accessFlags := 16409, nameIndex := 45, descriptorIndex := 6, attributes := #[] }, { accessFlags := 16409, nameIndex := 48, descriptorIndex := 6, attributes := #[] }, { accessFlags := 16409, nameIndex := 51, descriptorIndex := 6, attributes := #[] }, { accessFlags := 16409, nameIndex := 54, descriptorIndex := 6, attributes := #[] }, { accessFlags := 26, nameIndex := 83, descriptorIndex := 58, attributes := #[] }, { accessFlags := 26, nameIndex := 96, descriptorIndex := 97, attributes := #[] }, { accessFlags := 18, nameIndex := 76, descriptorIndex := 77, attributes := #[] }, { accessFlags := 18, nameIndex := 80, descriptorIndex := 77, attributes := #[] }, { accessFlags := 4122, nameIndex := 57, descriptorIndex := 58, attributes := #[] }])
  fields := #[{ name := "OK", type := (.object "faultwise/status/Code"), accessFlags := 16409, slot := 0, constantValue := 0 }, { name := "CANCELLED", type := (.object "faultwise/status/Code"), accessFlags := 16409, slot := 1, constantValue := 0 }, { name := "UNKNOWN", type := (.object "faultwise/status/Code"), accessFlags := 16409, slot := 2, constantValue := 0 }, { name := "INVALID_ARGUMENT", type := (.object "faultwise/status/Code"), accessFlags := 16409, slot := 3, constantValue := 0 }, { name := "DEADLINE_EXCEEDED", type := (.object "faultwise/status/Code"), accessFlags := 16409, slot := 4, constantValue := 0 }, { name := "NOT_FOUND", type := (.object "faultwise/status/Code"), accessFlags := 16409, slot := 5, constantValue := 0 }, { name := "ALREADY_EXISTS", type := (.object "faultwise/status/Code"), accessFlags := 16409, slot := 6, constantValue := 0 }, { name := "PERMISSION_DENIED", type := (.object "faultwise/status/Code"), accessFlags := 16409, slot := 7, constantValue := 0 }, { name := "RESOURCE_EXHAUSTED", type := (.object "faultwise/status/Code"), accessFlags := 16409, slot := 8, constantValue := 0 }, { name := "FAILED_PRECONDITION", type := (.object "faultwise/status/Code"), accessFlags := 16409, slot := 9, constantValue := 0 }, { name := "ABORTED", type := (.object "faultwise/status/Code"), accessFlags := 16409, slot := 10, constantValue := 0 }, { name := "OUT_OF_RANGE", type := (.object "faultwise/status/Code"), accessFlags := 16409, slot := 11, constantValue := 0 }, { name := "UNIMPLEMENTED", type := (.object "faultwise/status/Code"), accessFlags := 16409, slot := 12, constantValue := 0 }, { name := "INTERNAL", type := (.object "faultwise/status/Code"), accessFlags := 16409, slot := 13, constantValue := 0 }, { name := "UNAVAILABLE", type := (.object "faultwise/status/Code"), accessFlags := 16409, slot := 14, constantValue := 0 }, { name := "DATA_LOSS", type := (.object "faultwise/status/Code"), accessFlags := 16409, slot := 15, constantValue := 0 }, { name := "UNAUTHENTICATED", type := (.object "faultwise/status/Code"), accessFlags := 16409, slot := 16, constantValue := 0 }, { name := "BY_NUMBER", type := (.array (.object "faultwise/status/Code")), accessFlags := 26, slot := 17, constantValue := 0 }, { name := "BY_NAME", type := (.object "java/util/Map"), accessFlags := 26, slot := 18, constantValue := 0 }, { name := "number", type := .int, accessFlags := 18, slot := 3, constantValue := 0 }, { name := "httpStatus", type := .int, accessFlags := 18, slot := 4, constantValue := 0 }, { name := "$VALUES", type := (.array (.object "faultwise/status/Code")), accessFlags := 4122, slot := 19, constantValue := 0 }]
  methods := #[k6m0, k6m1]
  instanceTypes := #[(.object "java/lang/String"), .int, .int, .int, .int]
  staticTypes := #[(.object "faultwise/status/Code"), (.object "faultwise/status/Code"), (.object "faultwise/status/Code"), (.object "faultwise/status/Code"), (.object "faultwise/status/Code"), (.object "faultwise/status/Code"), (.object "faultwise/status/Code"), (.object "faultwise/status/Code"), (.object "faultwise/status/Code"), (.object "faultwise/status/Code"), (.object "faultwise/status/Code"), (.object "faultwise/status/Code"), (.object "faultwise/status/Code"), (.object "faultwise/status/Code"), (.object "faultwise/status/Code"), (.object "faultwise/status/Code"), (.object "faultwise/status/Code"), (.array (.object "faultwise/status/Code")), (.object "java/util/Map"), (.array (.object "faultwise/status/Code"))]
  resolved := Array.replicate 168 none
  statics := some 0 }

def pool7 : Array CpInfo := pool [(1, u "java/lang/Cloneable"), (0, .class_ 1), (0, u "java/lang/Object"), (0, .class_ 3)] 3

/-- java/lang/Cloneable -/
def k7 : Class := { plain "java/lang/Cloneable" (some 0) with
  accessFlags := 1537
  interfaces := #[]
  cf := some (fileOf pool7 2 #[] #[] 1537 4 #[] #[])
  fields := #[]
  methods := #[]
  instanceTypes := #[]
  staticTypes := #[]
  resolved := Array.replicate 8 none
  statics := none }

/-- the primitive byte -/
def k8 : Class := { plain "byte" none with kind := .primitive 'B', accessFlags := 0x411 }
/-- [B -/
def k9 : Class := { plain "[B" (some 0) with kind := .array 8 .byte, interfaces := #[7, 4], accessFlags := 1041 }

/-- the primitive int -/
def k10 : Class := { plain "int" none with kind := .primitive 'I', accessFlags := 0x411 }
/-- [I -/
def k11 : Class := { plain "[I" (some 0) with kind := .array 10 .int, interfaces := #[7, 4], accessFlags := 1041 }

/-- [Lfaultwise/status/Code; -/
def k12 : Class := { plain "[Lfaultwise/status/Code;" (some 0) with kind := .array 6 (.object "faultwise/status/Code"), interfaces := #[7, 4], accessFlags := 1041 }

def heap : Heap := #[{ cls := 6, slots := #[.ref 17, .ref 1, .ref 2, .ref 3, .ref 4, .ref 5, .ref 6, .ref 7, .ref 8, .ref 9, .ref 10, .ref 11, .ref 12, .ref 13, .ref 14, .ref 15, .ref 16, .null, .null, .null], vm := .statics 6 },
  { cls := 6, slots := #[.null, .int 1, .int 0, .int 0, .int 499], vm := .none },
  { cls := 6, slots := #[.null, .int 2, .int 0, .int 0, .int 500], vm := .none },
  { cls := 6, slots := #[.null, .int 1, .int 0, .int 0, .int 400], vm := .none },
  { cls := 6, slots := #[.null, .int 1, .int 0, .int 0, .int 504], vm := .none },
  { cls := 6, slots := #[.null, .int 1, .int 0, .int 0, .int 404], vm := .none },
  { cls := 6, slots := #[.null, .int 1, .int 0, .int 0, .int 409], vm := .none },
  { cls := 6, slots := #[.null, .int 1, .int 0, .int 0, .int 403], vm := .none },
  { cls := 6, slots := #[.null, .int 1, .int 0, .int 0, .int 429], vm := .none },
  { cls := 6, slots := #[.null, .int 1, .int 0, .int 0, .int 400], vm := .none },
  { cls := 6, slots := #[.null, .int 1, .int 0, .int 0, .int 409], vm := .none },
  { cls := 6, slots := #[.null, .int 1, .int 0, .int 0, .int 400], vm := .none },
  { cls := 6, slots := #[.null, .int 1, .int 0, .int 0, .int 501], vm := .none },
  { cls := 6, slots := #[.null, .int 1, .int 0, .int 0, .int 500], vm := .none },
  { cls := 6, slots := #[.null, .int 1, .int 0, .int 0, .int 503], vm := .none },
  { cls := 6, slots := #[.null, .int 1, .int 0, .int 0, .int 500], vm := .none },
  { cls := 6, slots := #[.null, .int 1, .int 0, .int 0, .int 401], vm := .none },
  { cls := 6, slots := #[.null, .int 0, .int 0, .int 0, .int 200], vm := .none }]
def classes : Array Class := #[k0, k1, k2, k3, k4, k5, k6, k7, k8, k9, k10, k11, k12]
def interned : List (Array UInt16 × Addr) := []
def slotsUsed : Nat := 105
def theMethod : MethodId := ⟨1, 1⟩
def args0 : Array Value := #[.int 400, .int 3]
def aboutOver (below : List Frame) : State where
  vm := { classes := classes, interned := interned.toArray }
  heap := heap
  slotsUsed := slotsUsed
  threads := #[{ frames := .invoking theMethod args0 :: below }]
def below0 : List Frame := [.native { method := ⟨0, 0⟩, args := #[] }]
def about1 : State := aboutOver below0
def p0 : Program := .bare "" "" ""
def e0 : Env := launch0.env 0 0 0
theorem w_frames : about1.frames = Frame.invoking theMethod args0 :: below0 := rfl
set_option maxRecDepth 65536 in
theorem w_args : argsFit about1.vm theMethod args0 = true := by decide +kernel
set_option maxRecDepth 65536 in
theorem w_heap : heapFits about1 = true := by decide +kernel
set_option maxRecDepth 65536 in
theorem w_runnable : about1.curStatus? = some .runnable := by decide +kernel
set_option maxRecDepth 65536 in
theorem w_alone : about1.alone = true := by decide +kernel
set_option maxRecDepth 65536 in
theorem w_named : about1.methodNamed? x = some theMethod := by decide +kernel
set_option maxRecDepth 65536 in
theorem w_hears : about1.hears theMethod below0 = true := by decide +kernel
set_option maxRecDepth 65536 in
theorem w_ripe : about1.ripe theMethod args0 below0 = true := by decide +kernel
theorem w_running : about1.status = .running := rfl
set_option maxRecDepth 65536 in
theorem w_room : about1.hasRoom e0.platform room_1 = true :=
  launch0.hasRoom_least _ room_1 (by decide +kernel) (by decide +kernel) (by decide +kernel) (by decide +kernel) (by decide +kernel) (by decide +kernel)
theorem allAtoms_all (ts : List Jvm.Cond) (a : Array Jvm.Value) (st : Jvm.State) : (allAtoms ts).before a st = ts.all (fun c => c.before a st) := by
  induction ts with
  | nil => rfl
  | cons c t ih =>
    show (Jvm.Cond.and c (allAtoms t)).before a st = _
    rw [Jvm.Cond.before_and, ih, List.all_cons]
def words1 : List Jvm.Cond := Jvm.Cond.code x code maxLocals ret :: tables_1
/-- a 'code' word, met by the world's own term for the bytes: nothing is compared byte by byte -/
theorem code_word {y : MethodName} {bytes : ByteArray} {mx : Nat} {rt : Option FieldType} {a : Array Value} {s : State} {m : MethodId} {meth : Method} {c : Code} (h1 : s.methodNamed? y = some m) (h2 : s.vm.method? m = some meth) (h3 : meth.code = some c) (h4 : c.code = bytes)
    (h5 : (c.maxLocals == mx && c.exceptionTable.isEmpty && decide (c.maxStack ≤ mostOperands) && decide (meth.sig.returnType = rt) && !meth.locks && decide (parseMethodDescriptor y.desc = some meth.sig)) = true) : (Jvm.Cond.code y bytes mx rt).before a s = true := by
  simp only [Bool.and_eq_true, beq_iff_eq, Bool.not_eq_true', decide_eq_true_eq] at h5
  obtain ⟨⟨⟨⟨⟨g1, g2⟩, g3⟩, g4⟩, g5⟩, g6⟩ := h5
  simp [Cond.before, Cond.holds, Cond.value, h1, h2, h3, h4, g1, g2, g3, g4, g5, g6]
def isCode : Jvm.Cond → Bool
  | .code _ _ _ _ => true
  | _ => false
theorem all_split {L : List Jvm.Cond} {P : Jvm.Cond → Bool} (h1 : L.all (fun c => isCode c || P c) = true) (h2 : ∀ c ∈ L.filter isCode, P c = true) : L.all P = true := by
  refine List.all_eq_true.mpr fun c hc => ?_
  have h := List.all_eq_true.mp h1 c hc
  rcases Bool.eq_false_or_eq_true (isCode c) with hi | hi
  · exact h2 c (List.mem_filter.mpr ⟨hc, hi⟩)
  · simpa [hi] using h
set_option maxRecDepth 65536 in
theorem w_c0 : (Jvm.Cond.code x code maxLocals ret).before args0 about1 = true := code_word (m := ⟨1, 1⟩) (meth := k1m1) (c := k1c1) (by decide +kernel) rfl rfl rfl (by decide +kernel)
set_option maxRecDepth 65536 in
theorem w_c1 : (Jvm.Cond.code ({ cls := "faultwise/status/Code", name := "forHttpStatus", desc := "(I)Lfaultwise/status/Code;" } : Jvm.MethodName) prog_39_method_8_code (1 : Nat) (Option.some (Jvm.ClassFile.FieldType.object "faultwise/status/Code"))).before args0 about1 = true := code_word (m := ⟨6, 1⟩) (meth := k6m1) (c := k6c1) (by decide +kernel) rfl rfl rfl (by decide +kernel)
set_option maxRecDepth 65536 in
theorem w_c2 : (Jvm.Cond.code ({ cls := "faultwise/status/Code", name := "httpStatus", desc := "()I" } : Jvm.MethodName) prog_39_method_5_code (1 : Nat) (Option.some Jvm.ClassFile.FieldType.int)).before args0 about1 = true := code_word (m := ⟨6, 0⟩) (meth := k6m0) (c := k6c0) (by decide +kernel) rfl rfl rfl (by decide +kernel)
def codes1 : List Jvm.Cond := [Jvm.Cond.code x code maxLocals ret, Jvm.Cond.code ({ cls := "faultwise/status/Code", name := "forHttpStatus", desc := "(I)Lfaultwise/status/Code;" } : Jvm.MethodName) prog_39_method_8_code (1 : Nat) (Option.some (Jvm.ClassFile.FieldType.object "faultwise/status/Code")), Jvm.Cond.code ({ cls := "faultwise/status/Code", name := "httpStatus", desc := "()I" } : Jvm.MethodName) prog_39_method_5_code (1 : Nat) (Option.some Jvm.ClassFile.FieldType.int)]
set_option maxRecDepth 65536 in
theorem codes_eq : words1.filter isCode = codes1 := rfl
theorem w_codes : ∀ c ∈ words1.filter isCode, c.before args0 about1 = true := by
  rw [codes_eq]
  intro c hc
  simp only [codes1, List.mem_cons, List.not_mem_nil, or_false] at hc
  rcases hc with rfl | rfl | rfl
  · exact w_c0
  · exact w_c1
  · exact w_c2
set_option maxRecDepth 65536 in
theorem w_t1 : (words1.take 24).all (fun c => isCode c || c.before args0 about1) = true := by decide +kernel
set_option maxRecDepth 65536 in
theorem w_t2 : ((words1.drop 24).take 24).all (fun c => isCode c || c.before args0 about1) = true := by decide +kernel
set_option maxRecDepth 65536 in
theorem w_t3 : ((words1.drop 24).drop 24).all (fun c => isCode c || c.before args0 about1) = true := by decide +kernel
theorem w_tables : (allAtoms (Jvm.Cond.code x code maxLocals ret :: tables_1)).before args0 about1 = true := by
  rw [allAtoms_all]
  show words1.all (fun c => c.before args0 about1) = true
  refine all_split ?_ w_codes
  rw [← List.take_append_drop 24 words1, List.all_append, w_t1, ← List.take_append_drop 24 (words1.drop 24), List.all_append, w_t2, w_t3]
  rfl
set_option maxRecDepth 65536 in
theorem w_case : (Jvm.Cond.and given_1 narrow_1).before args0 about1 = true := by decide +kernel
theorem w_applies : (headSpec (Jvm.Cond.code x code maxLocals ret :: tables_1) room_1).applies x e0.platform about1 = true :=
  (Spec.applies_iff w_frames).mpr ⟨w_running, w_runnable, w_alone, w_named, w_hears, w_ripe, w_room, w_tables⟩
theorem atStart : AtStart classFile x code maxLocals ret World_1 tables_1 room_1 Calls_1 rest_1 Pre_1 launch0 p0 e0 about1 theMethod args0 below0 :=
  ⟨lists_1, trivial, launch0.admits_env _ _ _, launch0.least_env, fairChoices_fair.cas, fairChoices_fair.clock, w_frames, w_args, w_heap, w_applies, trivial, trivial, w_case⟩
end start1
theorem witness_1 : WitnessClaimed_1 := ⟨start1.p0, start1.e0, start1.about1, start1.theMethod, start1.args0, start1.below0, start1.atStart⟩
end Jvm.Pilot.@@N@@
