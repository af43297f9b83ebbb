import JvmDerived
import JvmDerived.Pilot.@@N@@Statement
import JvmDerived.Pilot.@@N@@Code
set_option linter.unusedVariables false
set_option linter.unusedSimpArgs false
namespace Jvm.OwnW
open Sem ClassFile Op Lib Jvm.Stand Jvm.Free Jvm.LawKit Jvm.RoadKit
section Walks
variable {p : Program} {l : Launch} {e : Env} {R : Room} {s : State} {m : MethodId} {args : Array Value} {below : List Frame} {meth : Method} {c : Code} {T : State} {locs : List Loc} {cells slots : Nat}
/-- from A on the run comes to an end of which P holds -/
def Run (tb : Tables) (e : Env) (below : List Frame) (P : State → Outcome → Prop) (A : State) : Prop := ∃ s₂ o, Steps tb e below A s₂ ∧ P s₂ o
theorem Run.step {tb : Tables} {P : State → Outcome → Prop} {A B : State} (k : ∀ t, Steps tb e below B t → Steps tb e below A t) (h : Run tb e below P B) : Run tb e below P A := by
  obtain ⟨s₂, o, a, b⟩ := h
  exact ⟨s₂, o, k _ a, b⟩
/-- what a body's contract says at the end -/
def PQ (s : State) (below : List Frame) (rc rs : Nat) (Q : Option Value → Heap → List Loc → Prop) (s₂ : State) (o : Outcome) : Prop := s₂.status = .running ∧ Ended s₂ below o ∧ ∃ v L, o = .returned v ∧ Q v s₂.heap L ∧ FrameEnd s o s₂ L rc rs
theorem fin (X : Stand p l e R s m args below meth c T locs cells slots) {A : State} {Q : Option Value → Heap → List Loc → Prop} {rc rs : Nat} {v : Option Value} {h : Heap} (hl : meth.locks = false) (hv : meth.sig.returnType = none → v = none) (hc : cells ≤ rc) (hs : slots ≤ rs) (eT : T.heap = h) (hQ : Q v h locs)
    (st : ∀ fs, (∀ (f : JFrame) (acts : List Action), f.method = m → f.locked = none → f.entered = [] → (doReturn e (T.setTop f) acts v).1 = T.setFrames fs) → Steps p.tables e below A (T.setFrames fs)) : Run p.tables e below (PQ s below rc rs Q) A := by
  obtain ⟨fs, hr, hrun, hended, hW, hsame⟩ := X.leave (v := v) hv hl
  refine ⟨_, _, st fs hr, hrun, hended, _, _, rfl, ?_, ⟨_, rfl⟩, hW, hsame.mono hc hs⟩
  show Q v T.heap locs
  rw [eT]
  exact hQ
theorem finV (X : Stand p l e R s m args below meth c T locs cells slots) (hx : p.tables.exec = Jvm.exec) (hl : meth.locks = false) {Q : Option Value → Heap → List Loc → Prop} {rc rs pc : Nat} {Ls : Array Slot} {h : Heap} (hret : meth.sig.returnType = none) (hd : decode c.code pc = .ok (.return_, 1)) (hc : cells ≤ rc) (hs : slots ≤ rs) (eT : T.heap = h) (hQ : Q none h locs) : Run p.tables e below (PQ s below rc rs Q) (T.setTop (mkF m pc Ls [])) :=
  fin X hl (fun _ => rfl) hc hs eT hQ fun fs hr => X.returnOut hx hret hd hr
theorem finI (X : Stand p l e R s m args below meth c T locs cells slots) (hx : p.tables.exec = Jvm.exec) (hl : meth.locks = false) {Q : Option Value → Heap → List Loc → Prop} {rc rs pc : Nat} {Ls : Array Slot} {z : Int32} {rest : List Value} {h : Heap} (hret : meth.sig.returnType = some .int) (hd : decode c.code pc = .ok (.ireturn, 1)) (hc : cells ≤ rc) (hs : slots ≤ rs) (eT : T.heap = h) (hQ : Q (some (.int z)) h locs) : Run p.tables e below (PQ s below rc rs Q) (T.setTop (mkF m pc Ls (.int z :: rest))) :=
  fin X hl (fun q => by rw [hret] at q; cases q) hc hs eT hQ fun fs hr => retOut X hx hret rfl (Or.inl ⟨rfl, Or.inl rfl, _, rfl⟩) hd hr
theorem finZ (X : Stand p l e R s m args below meth c T locs cells slots) (hx : p.tables.exec = Jvm.exec) (hl : meth.locks = false) {Q : Option Value → Heap → List Loc → Prop} {rc rs pc : Nat} {Ls : Array Slot} {z : Int32} {rest : List Value} {h : Heap} (hret : meth.sig.returnType = some .boolean) (hd : decode c.code pc = .ok (.ireturn, 1)) (hz : z = 0 ∨ z = 1) (hc : cells ≤ rc) (hs : slots ≤ rs) (eT : T.heap = h) (hQ : Q (some (.int z)) h locs) : Run p.tables e below (PQ s below rc rs Q) (T.setTop (mkF m pc Ls (.int z :: rest))) :=
  fin X hl (fun q => by rw [hret] at q; cases q) hc hs eT hQ fun fs hr => retOut X hx hret (by rcases hz with rfl | rfl <;> rfl) (Or.inl ⟨rfl, Or.inr (Or.inl rfl), _, rfl⟩) hd hr
theorem finB (X : Stand p l e R s m args below meth c T locs cells slots) (hx : p.tables.exec = Jvm.exec) (hl : meth.locks = false) {Q : Option Value → Heap → List Loc → Prop} {rc rs pc : Nat} {Ls : Array Slot} {z : Int32} {rest : List Value} {h : Heap} (hret : meth.sig.returnType = some .byte) (hd : decode c.code pc = .ok (.ireturn, 1)) (hz : narrow .byte (.int z) = .int z) (hc : cells ≤ rc) (hs : slots ≤ rs) (eT : T.heap = h) (hQ : Q (some (.int z)) h locs) : Run p.tables e below (PQ s below rc rs Q) (T.setTop (mkF m pc Ls (.int z :: rest))) :=
  fin X hl (fun q => by rw [hret] at q; cases q) hc hs eT hQ fun fs hr => retOut X hx hret hz (Or.inl ⟨rfl, Or.inr (Or.inr (Or.inl rfl)), _, rfl⟩) hd hr
theorem finJ (X : Stand p l e R s m args below meth c T locs cells slots) (hx : p.tables.exec = Jvm.exec) (hl : meth.locks = false) {Q : Option Value → Heap → List Loc → Prop} {rc rs pc : Nat} {Ls : Array Slot} {z : Int64} {rest : List Value} {h : Heap} (hret : meth.sig.returnType = some .long) (hd : decode c.code pc = .ok (.lreturn, 1)) (hc : cells ≤ rc) (hs : slots ≤ rs) (eT : T.heap = h) (hQ : Q (some (.long z)) h locs) : Run p.tables e below (PQ s below rc rs Q) (T.setTop (mkF m pc Ls (.long z :: rest))) :=
  fin X hl (fun q => by rw [hret] at q; cases q) hc hs eT hQ fun fs hr => retOut X hx hret rfl (Or.inr (Or.inl ⟨rfl, rfl, _, rfl⟩)) hd hr
theorem finA (X : Stand p l e R s m args below meth c T locs cells slots) (hx : p.tables.exec = Jvm.exec) (hl : meth.locks = false) {Q : Option Value → Heap → List Loc → Prop} {rc rs pc : Nat} {Ls : Array Slot} {w : Value} {t : FieldType} {rest : List Value} {h : Heap} (hret : meth.sig.returnType = some t) (hd : decode c.code pc = .ok (.areturn, 1)) (ht : t.isReference = true) (hw : w.isRef = true) (hc : cells ≤ rc) (hs : slots ≤ rs) (eT : T.heap = h) (hQ : Q (some w) h locs) : Run p.tables e below (PQ s below rc rs Q) (T.setTop (mkF m pc Ls (w :: rest))) :=
  fin X hl (fun q => by rw [hret] at q; cases q) hc hs eT hQ fun fs hr => retOut X hx hret (by cases t <;> first | rfl | (cases w <;> first | rfl | cases ht)) (Or.inr (Or.inr (Or.inr (Or.inr ⟨rfl, ht, hw⟩)))) hd hr
/-- the same for a body that may load String constants -/
def PW (s : State) (below : List Frame) (rc rs : Nat) (Q : Option Value → Heap → List Loc → Prop) (s₂ : State) (o : Outcome) : Prop := s₂.status = .running ∧ Ended s₂ below o ∧ ∃ v L, o = .returned v ∧ Q v s₂.heap L ∧ ReturnedEndW s o s₂ L rc rs
theorem finW {vm : Vm} {n : Nat} (X : Stand p l e R (s.setVm vm) m args below meth c T locs cells slots) {A : State} {Q : Option Value → Heap → List Loc → Prop} {rc rs : Nat} {v : Option Value} {h : Heap} (hS : s.Since vm n) (hk : n ≤ h.size) (hl : meth.locks = false) (hv : meth.sig.returnType = none → v = none) (hc : cells ≤ rc) (hs : slots ≤ rs) (eT : T.heap = h) (hQ : Q v h locs)
    (st : ∀ fs, (∀ (f : JFrame) (acts : List Action), f.method = m → f.locked = none → f.entered = [] → (doReturn e (T.setTop f) acts v).1 = T.setFrames fs) → Steps p.tables e below A (T.setFrames fs)) : Run p.tables e below (PW s below rc rs Q) A := by
  obtain ⟨fs, hr, hrun, hended, hE⟩ := X.leaveW hS (by rw [eT]; exact hk) (v := v) hv hl
  refine ⟨_, _, st fs hr, hrun, hended, _, _, rfl, ?_, hE.1, hE.2.1, hE.2.2.1, hE.2.2.2.mono hc hs⟩
  show Q v T.heap locs
  rw [eT]
  exact hQ
theorem finVW {vm : Vm} {n : Nat} (X : Stand p l e R (s.setVm vm) m args below meth c T locs cells slots) (hx : p.tables.exec = Jvm.exec) {h : Heap} (hS : s.Since vm n) (hk : n ≤ h.size) (hl : meth.locks = false) {Q : Option Value → Heap → List Loc → Prop} {rc rs pc : Nat} {Ls : Array Slot} (hret : meth.sig.returnType = none) (hd : decode c.code pc = .ok (.return_, 1)) (hc : cells ≤ rc) (hs : slots ≤ rs) (eT : T.heap = h) (hQ : Q none h locs) : Run p.tables e below (PW s below rc rs Q) (T.setTop (mkF m pc Ls [])) :=
  finW X hS hk hl (fun _ => rfl) hc hs eT hQ fun fs hr => X.returnOut hx hret hd hr
theorem finIW {vm : Vm} {n : Nat} (X : Stand p l e R (s.setVm vm) m args below meth c T locs cells slots) (hx : p.tables.exec = Jvm.exec) {h : Heap} (hS : s.Since vm n) (hk : n ≤ h.size) (hl : meth.locks = false) {Q : Option Value → Heap → List Loc → Prop} {rc rs pc : Nat} {Ls : Array Slot} {z : Int32} {rest : List Value} (hret : meth.sig.returnType = some .int) (hd : decode c.code pc = .ok (.ireturn, 1)) (hc : cells ≤ rc) (hs : slots ≤ rs) (eT : T.heap = h) (hQ : Q (some (.int z)) h locs) : Run p.tables e below (PW s below rc rs Q) (T.setTop (mkF m pc Ls (.int z :: rest))) :=
  finW X hS hk hl (fun q => by rw [hret] at q; cases q) hc hs eT hQ fun fs hr => retOut X hx hret rfl (Or.inl ⟨rfl, Or.inl rfl, _, rfl⟩) hd hr
theorem finZW {vm : Vm} {n : Nat} (X : Stand p l e R (s.setVm vm) m args below meth c T locs cells slots) (hx : p.tables.exec = Jvm.exec) {h : Heap} (hS : s.Since vm n) (hk : n ≤ h.size) (hl : meth.locks = false) {Q : Option Value → Heap → List Loc → Prop} {rc rs pc : Nat} {Ls : Array Slot} {z : Int32} {rest : List Value} (hret : meth.sig.returnType = some .boolean) (hd : decode c.code pc = .ok (.ireturn, 1)) (hz : z = 0 ∨ z = 1) (hc : cells ≤ rc) (hs : slots ≤ rs) (eT : T.heap = h) (hQ : Q (some (.int z)) h locs) : Run p.tables e below (PW s below rc rs Q) (T.setTop (mkF m pc Ls (.int z :: rest))) :=
  finW X hS hk hl (fun q => by rw [hret] at q; cases q) hc hs eT hQ fun fs hr => retOut X hx hret (by rcases hz with rfl | rfl <;> rfl) (Or.inl ⟨rfl, Or.inr (Or.inl rfl), _, rfl⟩) hd hr
theorem finBW {vm : Vm} {n : Nat} (X : Stand p l e R (s.setVm vm) m args below meth c T locs cells slots) (hx : p.tables.exec = Jvm.exec) {h : Heap} (hS : s.Since vm n) (hk : n ≤ h.size) (hl : meth.locks = false) {Q : Option Value → Heap → List Loc → Prop} {rc rs pc : Nat} {Ls : Array Slot} {z : Int32} {rest : List Value} (hret : meth.sig.returnType = some .byte) (hd : decode c.code pc = .ok (.ireturn, 1)) (hz : narrow .byte (.int z) = .int z) (hc : cells ≤ rc) (hs : slots ≤ rs) (eT : T.heap = h) (hQ : Q (some (.int z)) h locs) : Run p.tables e below (PW s below rc rs Q) (T.setTop (mkF m pc Ls (.int z :: rest))) :=
  finW X hS hk hl (fun q => by rw [hret] at q; cases q) hc hs eT hQ fun fs hr => retOut X hx hret hz (Or.inl ⟨rfl, Or.inr (Or.inr (Or.inl rfl)), _, rfl⟩) hd hr
theorem finJW {vm : Vm} {n : Nat} (X : Stand p l e R (s.setVm vm) m args below meth c T locs cells slots) (hx : p.tables.exec = Jvm.exec) {h : Heap} (hS : s.Since vm n) (hk : n ≤ h.size) (hl : meth.locks = false) {Q : Option Value → Heap → List Loc → Prop} {rc rs pc : Nat} {Ls : Array Slot} {z : Int64} {rest : List Value} (hret : meth.sig.returnType = some .long) (hd : decode c.code pc = .ok (.lreturn, 1)) (hc : cells ≤ rc) (hs : slots ≤ rs) (eT : T.heap = h) (hQ : Q (some (.long z)) h locs) : Run p.tables e below (PW s below rc rs Q) (T.setTop (mkF m pc Ls (.long z :: rest))) :=
  finW X hS hk hl (fun q => by rw [hret] at q; cases q) hc hs eT hQ fun fs hr => retOut X hx hret rfl (Or.inr (Or.inl ⟨rfl, rfl, _, rfl⟩)) hd hr
theorem finAW {vm : Vm} {n : Nat} (X : Stand p l e R (s.setVm vm) m args below meth c T locs cells slots) (hx : p.tables.exec = Jvm.exec) {h : Heap} (hS : s.Since vm n) (hk : n ≤ h.size) (hl : meth.locks = false) {Q : Option Value → Heap → List Loc → Prop} {rc rs pc : Nat} {Ls : Array Slot} {w : Value} {t : FieldType} {rest : List Value} (hret : meth.sig.returnType = some t) (hd : decode c.code pc = .ok (.areturn, 1)) (ht : t.isReference = true) (hw : w.isRef = true) (hc : cells ≤ rc) (hs : slots ≤ rs) (eT : T.heap = h) (hQ : Q (some w) h locs) : Run p.tables e below (PW s below rc rs Q) (T.setTop (mkF m pc Ls (w :: rest))) :=
  finW X hS hk hl (fun q => by rw [hret] at q; cases q) hc hs eT hQ fun fs hr => retOut X hx hret (by cases t <;> first | rfl | (cases w <;> first | rfl | cases ht)) (Or.inr (Or.inr (Or.inr (Or.inr ⟨rfl, ht, hw⟩)))) hd hr
theorem own_lrem {g : JFrame} {target : State} (X : Stand p l e R s m args below meth c T locs cells slots) (hx : p.tables.exec = Jvm.exec) (hg : g.method = m) {x y : Int64} {rest : List Value} (hd : decode c.code g.pc = .ok (.lrem, 1)) (hs : g.stack = .long y :: .long x :: rest) (hy : y ≠ 0)
    (hr : Steps p.tables e below (T.setTop { g with pc := g.pc + 1, stack := .long (x % y) :: rest }) target) : Steps p.tables e below (T.setTop g) target :=
  XS.lrem X.here hx hg hd hs hy (by rw [lrem_mod]; exact hr)
end Walks
end Jvm.OwnW
namespace Jvm.Pilot.@@N@@
open Jvm Jvm.ClassFile Sem Op Lib Jvm.Free Jvm.Stand Jvm.LawKit Jvm.RoadKit Jvm.OwnW Bundle Jvm.Pilot.@@N@@.Jvm.D
def own_cmp (x y : Int64) : Int32 := if x < y then -1 else if x = y then 0 else 1
def own_ord (a b c d : Int64) : Int32 := if own_cmp a c = 0 then own_cmp b d else own_cmp a c
def own_want (a b c d : Int64) : Int32 := if a < c then -1 else if c < a then 1 else if b < d then -1 else if d < b then 1 else 0
def own_sign (x : Int32) : Int32 := if 0 < x then 1 else if x < 0 then -1 else 0
theorem own_cmp0 (x y : Int64) : own_cmp x y = 0 ↔ x = y := by
  unfold own_cmp
  by_cases h : x < y
  · rw [if_pos h]
    exact ⟨fun q => absurd q (by decide), fun q => absurd h (by rw [q]; exact Int64.lt_irrefl)⟩
  · rw [if_neg h]
    by_cases h2 : x = y
    · rw [if_pos h2]; exact ⟨fun _ => h2, fun _ => rfl⟩
    · rw [if_neg h2]; exact ⟨fun q => absurd q (by decide), fun q => absurd q h2⟩
theorem own_signcmp (x y : Int64) : own_sign (own_cmp x y) = if x < y then -1 else if y < x then 1 else 0 := by
  have h1 := @Int64.lt_iff_toInt_lt x y
  have h2 := @Int64.lt_iff_toInt_lt y x
  have h3 : x = y ↔ x.toInt = y.toInt := Int64.toInt_inj.symm
  unfold own_cmp
  by_cases a : x < y
  · rw [if_pos a, if_pos a]; decide
  · rw [if_neg a, if_neg a]
    by_cases b : x = y
    · rw [if_pos b, if_neg (by rw [h2]; rw [h3] at b; omega)]; decide
    · rw [if_neg b, if_pos (by rw [h1] at a; rw [h3] at b; rw [h2]; omega)]; decide
theorem own_law (a b c d : Int64) : own_sign (own_ord a b c d) = own_want a b c d := by
  unfold own_ord own_want
  by_cases h : own_cmp a c = 0
  · rw [if_pos h, own_signcmp]
    have e := (own_cmp0 a c).mp h
    subst e
    rw [if_neg Int64.lt_irrefl, if_neg Int64.lt_irrefl]
  · rw [if_neg h, own_signcmp]
    by_cases x : a < c
    · rw [if_pos x, if_pos x]
    · have y : c < a := by
        have h1 := @Int64.lt_iff_toInt_lt a c
        have h2 := @Int64.lt_iff_toInt_lt c a
        have h3 : a = c ↔ a.toInt = c.toInt := Int64.toInt_inj.symm
        have z : ¬ a = c := fun q => h ((own_cmp0 a c).mpr q)
        rw [h1] at x; rw [h3] at z; rw [h2]; omega
      rw [if_neg x, if_neg x, if_pos y, if_pos y]
theorem pn_java_lang_Record : plainName "java/lang/Record" = true := by first | (simp [plainName, overriddenIn]; done) | decide +kernel
theorem d2_0 : decode jdk_30_method_1_code 0 = .ok (.aload_n 0, 1) := by decide +kernel
theorem d2_1 : decode jdk_30_method_1_code 1 = .ok (.invokespecial 1, 3) := by decide +kernel
theorem d2_4 : decode jdk_30_method_1_code 4 = .ok (.return_, 1) := by decide +kernel
theorem ef_2 (m : MethodId) (x0 : Addr) : entryFrame m #[(.ref x0)] 1 = mkF m 0 #[.val (.ref x0)] [] := by first | (simp [entryFrame, mkF, argsToLocals, Value.category, maxLocals]; done) | rfl
def Q2 (Z : State) (a1 : Addr) (h0 : Heap) (n0 : Nat) (v : Option Value) (h : Heap) (L : List Loc) : Prop := v = none ∧ Fr n0 L ∧ h = h0
set_option maxRecDepth 65536 in
set_option maxHeartbeats 40000000 in
theorem rm2 (l : Launch) (Z : State) (a0 : Array Value) (hw : ∀ d ∈ tables_1, d.before a0 Z = true) (ws : List Jvm.Cond) (a1 : Addr) (h0 : Heap) (n0 : Nat) (Z0 : n0 ≤ h0.size)  :
    MetFree l (⟨"java/lang/Record", "<init>", "()V"⟩ : MethodName) (head1 (Jvm.Cond.code (⟨"java/lang/Record", "<init>", "()V"⟩ : MethodName) jdk_30_method_1_code 1 none :: ws) ({ frames := 1, cells := 0, slots := 0, locals := 12 } : Room)) (fun a U => a = #[(.ref a1)] ∧ Z.Warmed39 U.vm ∧ U.heap = h0) (fun _ _ _ _ _ => True) (fun _ U o U' => ∃ v L, o = .returned v ∧ Q2 Z a1 h0 n0 v U'.heap L ∧ FrameEnd U o U' L ({ frames := 1, cells := 0, slots := 0, locals := 12 } : Room).cells ({ frames := 1, cells := 0, slots := 0, locals := 12 } : Room).slots) := by
  refine MetFree.of_bodySF (plainFor_of_name pn_java_lang_Record) hisR ?_
  intro p e s m args below meth c s₁ Bd hml0 hP hK
  obtain ⟨rfl, hZ, hh⟩ := hP
  have hx := Bd.exec
  have hby := Bd.bytes
  have w11 := hw _ (List.mem_of_getElem? (i := 11) rfl)
  have w12 := hw _ (List.mem_of_getElem? (i := 12) rfl)
  have w13 := hw _ (List.mem_of_getElem? (i := 13) rfl)
  have hml : c.maxLocals = 1 := hml0
  have hown : s.vm.findClass "java/lang/Record" = some m.cls := findClass_of_methodNamed Bd.named
  have hnm := (name_of_methodNamed Bd.named Bd.method).1
  have X0 : Stand p l e ({ frames := 1, cells := 0, slots := 0, locals := 12 } : Room) s m #[(.ref a1)] below meth c s₁ [] 0 0 := Stand.of_body Bd
  have e0 : s₁.heap = h0 := by rw [← hh, Bd.state]; rfl
  have N0 := Fr.nil n0
  show Run p.tables e below (PQ s below 0 0 (Q2 Z a1 h0 n0)) (s₁.setTop (entryFrame m #[(.ref a1)] 1))
  refine Run.step (fun t k => castTop (ef_2 m a1) k) ?_
  show Run _ _ _ _ (s₁.setTop (mkF m 0 #[.val (.ref a1)] []))
  refine Run.step (fun t k => XS.aloadN X0.here hx rfl (hb hby d2_0) rfl rfl k) ?_
  show Run _ _ _ _ (s₁.setTop (mkF m 1 #[.val (.ref a1)] [(.ref a1)]))
  obtain ⟨T1, X1, e1, st1⟩ := initO X0 hx hZ hown w11 w12 w13 e0 (g := (mkF m 1 #[.val (.ref a1)] [(.ref a1)])) rfl (by rw [hml]; rfl) rfl (hb hby d2_1) (by decide) (W := 0) (by show 2 * 0 + _ ≤ _; exact Nat.le_of_eq rfl) (by decide)
  refine Run.step st1 ?_
  show Run _ _ _ _ (T1.setTop (mkF m 4 #[.val (.ref a1)] []))
  exact finV X1 hx (BodyLoose.notSynchronized Bd) Bd.returns (hb hby d2_4) (by decide) (by decide) e1 ⟨rfl, N0, rfl⟩
theorem pn_com_example_ringwell_ringwell_Ballot : plainName "com/example/ringwell/ringwell/Ballot" = true := by first | (simp [plainName, overriddenIn]; done) | decide +kernel
theorem d1_0 : decode prog_14_method_1_code 0 = .ok (.aload_n 0, 1) := by decide +kernel
theorem d1_1 : decode prog_14_method_1_code 1 = .ok (.invokespecial 3, 3) := by decide +kernel
theorem pd__28_29V : parseMethodDescriptor "()V" = some ⟨[], none⟩ := by decide +kernel
theorem d1_4 : decode prog_14_method_1_code 4 = .ok (.aload_n 0, 1) := by decide +kernel
theorem d1_5 : decode prog_14_method_1_code 5 = .ok (.lload_n 1, 1) := by decide +kernel
theorem d1_6 : decode prog_14_method_1_code 6 = .ok (.putfield 9, 3) := by decide +kernel
theorem d1_9 : decode prog_14_method_1_code 9 = .ok (.aload_n 0, 1) := by decide +kernel
theorem d1_10 : decode prog_14_method_1_code 10 = .ok (.lload_n 3, 1) := by decide +kernel
theorem d1_11 : decode prog_14_method_1_code 11 = .ok (.putfield 15, 3) := by decide +kernel
theorem d1_14 : decode prog_14_method_1_code 14 = .ok (.return_, 1) := by decide +kernel
theorem ef_1 (m : MethodId) (x0 : Addr) (x1 : Int64) (x2 : Int64) : entryFrame m #[(.ref x0), (.long x1), (.long x2)] 5 = mkF m 0 #[.val (.ref x0), .val (.long x1), .second, .val (.long x2), .second] [] := by first | (simp [entryFrame, mkF, argsToLocals, Value.category, maxLocals]; done) | rfl
def Q1 (Z : State) (a1 : Addr) (q2 : Int64) (q3 : Int64) (h0 : Heap) (n0 : Nat) (v : Option Value) (h : Heap) (L : List Loc) : Prop := v = none ∧ Fr n0 L ∧ Keep h0 h [a1] ∧ Fld Z h a1 "com/example/ringwell/ringwell/Ballot" "round" "J" (.long q2) ∧ Fld Z h a1 "com/example/ringwell/ringwell/Ballot" "tiebreak" "J" (.long q3)
set_option maxRecDepth 65536 in
set_option maxHeartbeats 40000000 in
theorem rm1 (l : Launch) (Z : State) (a0 : Array Value) (hw : ∀ d ∈ tables_1, d.before a0 Z = true) (ws : List Jvm.Cond) (a1 : Addr) (q2 : Int64) (q3 : Int64) (h0 : Heap) (n0 : Nat) (Z0 : n0 ≤ h0.size) (F1 : Fld Z h0 a1 "com/example/ringwell/ringwell/Ballot" "round" "J" (.long (0 : Int64))) (F2 : Fld Z h0 a1 "com/example/ringwell/ringwell/Ballot" "tiebreak" "J" (.long (0 : Int64))) (E1 : Exa Z h0 a1 "com/example/ringwell/ringwell/Ballot") (g1 : n0 ≤ a1) :
    MetFree l (⟨"com/example/ringwell/ringwell/Ballot", "<init>", "(JJ)V"⟩ : MethodName) (head1 (Jvm.Cond.code (⟨"com/example/ringwell/ringwell/Ballot", "<init>", "(JJ)V"⟩ : MethodName) prog_14_method_1_code 5 none :: ws) ({ frames := 2, cells := 0, slots := 0, locals := 24 } : Room)) (fun a U => a = #[(.ref a1), (.long q2), (.long q3)] ∧ Z.Warmed39 U.vm ∧ U.heap = h0) (fun _ _ _ _ _ => True) (fun _ U o U' => ∃ v L, o = .returned v ∧ Q1 Z a1 q2 q3 h0 n0 v U'.heap L ∧ FrameEnd U o U' L ({ frames := 2, cells := 0, slots := 0, locals := 24 } : Room).cells ({ frames := 2, cells := 0, slots := 0, locals := 24 } : Room).slots) := by
  refine MetFree.of_bodySF (plainFor_of_name pn_com_example_ringwell_ringwell_Ballot) hisR ?_
  intro p e s m args below meth c s₁ Bd hml0 hP hK
  obtain ⟨rfl, hZ, hh⟩ := hP
  have hx := Bd.exec
  have hby := Bd.bytes
  have w1 := hw _ (List.mem_of_getElem? (i := 1) rfl)
  have w6 := hw _ (List.mem_of_getElem? (i := 6) rfl)
  have w7 := hw _ (List.mem_of_getElem? (i := 7) rfl)
  have w9 := hw _ (List.mem_of_getElem? (i := 9) rfl)
  have w10 := hw _ (List.mem_of_getElem? (i := 10) rfl)
  have w14 := hw _ (List.mem_of_getElem? (i := 14) rfl)
  have w15 := hw _ (List.mem_of_getElem? (i := 15) rfl)
  have w16 := hw _ (List.mem_of_getElem? (i := 16) rfl)
  have w17 := hw _ (List.mem_of_getElem? (i := 17) rfl)
  have hml : c.maxLocals = 5 := hml0
  have hown : s.vm.findClass "com/example/ringwell/ringwell/Ballot" = some m.cls := findClass_of_methodNamed Bd.named
  have hnm := (name_of_methodNamed Bd.named Bd.method).1
  have X0 : Stand p l e ({ frames := 2, cells := 0, slots := 0, locals := 24 } : Room) s m #[(.ref a1), (.long q2), (.long q3)] below meth c s₁ [] 0 0 := Stand.of_body Bd
  have e0 : s₁.heap = h0 := by rw [← hh, Bd.state]; rfl
  have N0 := Fr.nil n0
  show Run p.tables e below (PQ s below 0 0 (Q1 Z a1 q2 q3 h0 n0)) (s₁.setTop (entryFrame m #[(.ref a1), (.long q2), (.long q3)] 5))
  refine Run.step (fun t k => castTop (ef_1 m a1 q2 q3) k) ?_
  show Run _ _ _ _ (s₁.setTop (mkF m 0 #[.val (.ref a1), .val (.long q2), .second, .val (.long q3), .second] []))
  refine Run.step (fun t k => XS.aloadN X0.here hx rfl (hb hby d1_0) rfl rfl k) ?_
  show Run _ _ _ _ (s₁.setTop (mkF m 1 #[.val (.ref a1), .val (.long q2), .second, .val (.long q3), .second] [(.ref a1)]))
  obtain ⟨_, _, ⟨T2, L2, k2, n2⟩, -, X2, ⟨Lc2, hQ2, l2, y2, z2⟩, st2⟩ := X0.specialBack hx (y := (⟨"java/lang/Record", "<init>", "()V"⟩ : MethodName)) rfl hown (mvT hZ w6) (mvT hZ w7) (mvT hZ w10) (by decide) (backOf (W := 0) (rm2 l Z a0 hw [] a1 h0 n0 Z0) hZ w10 w9 (by decide) (by decide)) (g := (mkF m 1 #[.val (.ref a1), .val (.long q2), .second, .val (.long q3), .second] [(.ref a1)])) rfl (by rw [hml]; rfl) (Steps.refl _) (a := a1) (argsL := []) (rest := []) (lenOf pd__28_29V rfl) rfl (by show 2 * 0 + _ ≤ _; exact Nat.le_of_eq rfl) (hb hby d1_1) (fun _ _ => ⟨rfl, e0, (by decide : 0 + 0 ≤ _), (by decide : 0 + 0 ≤ _)⟩)
  dsimp only [Pt.U, Pt.locs, Pt.cells, Pt.slots] at X2 l2 y2 z2 st2 hQ2
  subst l2 y2 z2
  refine Run.step (fun t k => st2.trans k) ?_
  obtain ⟨rfl, N2q, e2q⟩ := hQ2
  have N2 := Fr.app N0 N2q
  show Run _ _ _ _ (T2.setTop (mkF m 4 #[.val (.ref a1), .val (.long q2), .second, .val (.long q3), .second] []))
  refine Run.step (fun t k => XS.aloadN X2.here hx rfl (hb hby d1_4) rfl rfl k) ?_
  show Run _ _ _ _ (T2.setTop (mkF m 5 #[.val (.ref a1), .val (.long q2), .second, .val (.long q3), .second] [(.ref a1)]))
  refine Run.step (fun t k => XS.lloadN X2.here hx rfl (hb hby d1_5) rfl k) ?_
  show Run _ _ _ _ (T2.setTop (mkF m 6 #[.val (.ref a1), .val (.long q2), .second, .val (.long q3), .second] [(.long q2), (.ref a1)]))
  obtain ⟨T3, h3, X3, e3, W3, st3⟩ := putF X2 hx hZ hown (host := "") (Or.inl w14) Via.refl e2q F1 E1 (Or.inr ⟨w15, rfl, hnm⟩) w1 (ty := .long) (by decide) rfl rfl (g := (mkF m 6 #[.val (.ref a1), .val (.long q2), .second, .val (.long q3), .second] [(.long q2), (.ref a1)])) rfl rfl (hb hby d1_6)
  refine Run.step st3 ?_
  have f4 := F1.same W3
  have f5 := F2.other W3 (Or.inr (slot_ne (Or.inr w17) (Or.inr w15) (by decide) (t := .long) (t' := .long) (by decide) (by decide)))
  have f6 := E1.wr W3
  have z7 := Nat.le_trans Z0 (Keep.of_wr W3).1
  have K8 := (Keep.refl h0 [a1]).wr W3 (Or.inl (List.mem_of_getElem? (i := 0) rfl))
  have N9 := Fr.snoc X3 N2 g1
  show Run _ _ _ _ (T3.setTop (mkF m 9 #[.val (.ref a1), .val (.long q2), .second, .val (.long q3), .second] []))
  refine Run.step (fun t k => XS.aloadN X3.here hx rfl (hb hby d1_9) rfl rfl k) ?_
  show Run _ _ _ _ (T3.setTop (mkF m 10 #[.val (.ref a1), .val (.long q2), .second, .val (.long q3), .second] [(.ref a1)]))
  refine Run.step (fun t k => XS.lloadN X3.here hx rfl (hb hby d1_10) rfl k) ?_
  show Run _ _ _ _ (T3.setTop (mkF m 11 #[.val (.ref a1), .val (.long q2), .second, .val (.long q3), .second] [(.long q3), (.ref a1)]))
  obtain ⟨T10, h10, X10, e10, W10, st10⟩ := putF X3 hx hZ hown (host := "") (Or.inl w16) Via.refl e3 f5 f6 (Or.inr ⟨w17, rfl, hnm⟩) w1 (ty := .long) (by decide) rfl rfl (g := (mkF m 11 #[.val (.ref a1), .val (.long q2), .second, .val (.long q3), .second] [(.long q3), (.ref a1)])) rfl rfl (hb hby d1_11)
  refine Run.step st10 ?_
  have f11 := f4.other W10 (Or.inr (slot_ne (Or.inr w15) (Or.inr w17) (by decide) (t := .long) (t' := .long) (by decide) (by decide)))
  have f12 := f5.same W10
  have f13 := f6.wr W10
  have z14 := Nat.le_trans z7 (Keep.of_wr W10).1
  have K15 := K8.wr W10 (Or.inl (List.mem_of_getElem? (i := 0) rfl))
  have N16 := Fr.snoc X10 N9 g1
  show Run _ _ _ _ (T10.setTop (mkF m 14 #[.val (.ref a1), .val (.long q2), .second, .val (.long q3), .second] []))
  exact finV X10 hx (BodyLoose.notSynchronized Bd) Bd.returns (hb hby d1_14) (by decide) (by decide) e10 ⟨rfl, N16, K15, f11, f12⟩
theorem pn_java_lang_Long : plainName "java/lang/Long" = true := by first | (simp [plainName, overriddenIn]; done) | decide +kernel
theorem d5_0 : decode jdk_35_method_42_code 0 = .ok (.lload_n 0, 1) := by decide +kernel
theorem d5_1 : decode jdk_35_method_42_code 1 = .ok (.lload_n 2, 1) := by decide +kernel
theorem d5_2 : decode jdk_35_method_42_code 2 = .ok (.lcmp, 1) := by decide +kernel
theorem d5_3 : decode jdk_35_method_42_code 3 = .ok (.ifCond .ge 7, 3) := by decide +kernel
theorem d5_6 : decode jdk_35_method_42_code 6 = .ok (.iconst (-1), 1) := by decide +kernel
theorem d5_7 : decode jdk_35_method_42_code 7 = .ok (.goto 14, 3) := by decide +kernel
theorem d5_21 : decode jdk_35_method_42_code 21 = .ok (.ireturn, 1) := by decide +kernel
theorem d5_10 : decode jdk_35_method_42_code 10 = .ok (.lload_n 0, 1) := by decide +kernel
theorem d5_11 : decode jdk_35_method_42_code 11 = .ok (.lload_n 2, 1) := by decide +kernel
theorem d5_12 : decode jdk_35_method_42_code 12 = .ok (.lcmp, 1) := by decide +kernel
theorem d5_13 : decode jdk_35_method_42_code 13 = .ok (.ifCond .ne 7, 3) := by decide +kernel
theorem d5_16 : decode jdk_35_method_42_code 16 = .ok (.iconst 0, 1) := by decide +kernel
theorem d5_17 : decode jdk_35_method_42_code 17 = .ok (.goto 4, 3) := by decide +kernel
theorem d5_20 : decode jdk_35_method_42_code 20 = .ok (.iconst 1, 1) := by decide +kernel
theorem ef_5 (m : MethodId) (x0 : Int64) (x1 : Int64) : entryFrame m #[(.long x0), (.long x1)] 4 = mkF m 0 #[.val (.long x0), .second, .val (.long x1), .second] [] := by first | (simp [entryFrame, mkF, argsToLocals, Value.category, maxLocals]; done) | rfl
def Q5 (Z : State) (x : Int64) (y : Int64) (h0 : Heap) (n0 : Nat) (v : Option Value) (h : Heap) (L : List Loc) : Prop := v = some (.int (own_cmp x y)) ∧ Fr n0 L ∧ h = h0
set_option maxRecDepth 65536 in
set_option maxHeartbeats 40000000 in
theorem rm5 (l : Launch) (Z : State) (a0 : Array Value) (hw : ∀ d ∈ tables_1, d.before a0 Z = true) (ws : List Jvm.Cond) (x : Int64) (y : Int64) (h0 : Heap) (n0 : Nat) (Z0 : n0 ≤ h0.size)  :
    MetFree l (⟨"java/lang/Long", "compare", "(JJ)I"⟩ : MethodName) (head1 (Jvm.Cond.code (⟨"java/lang/Long", "compare", "(JJ)I"⟩ : MethodName) jdk_35_method_42_code 4 (some .int) :: ws) ({ frames := 0, cells := 0, slots := 0, locals := 0 } : Room)) (fun a U => a = #[(.long x), (.long y)] ∧ Z.Warmed39 U.vm ∧ U.heap = h0) (fun _ _ _ _ _ => True) (fun _ U o U' => ∃ v L, o = .returned v ∧ Q5 Z x y h0 n0 v U'.heap L ∧ FrameEnd U o U' L ({ frames := 0, cells := 0, slots := 0, locals := 0 } : Room).cells ({ frames := 0, cells := 0, slots := 0, locals := 0 } : Room).slots) := by
  refine MetFree.of_bodySF (plainFor_of_name pn_java_lang_Long) hisR ?_
  intro p e s m args below meth c s₁ Bd hml0 hP hK
  obtain ⟨rfl, hZ, hh⟩ := hP
  have hx := Bd.exec
  have hby := Bd.bytes
  have hml : c.maxLocals = 4 := hml0
  have hown : s.vm.findClass "java/lang/Long" = some m.cls := findClass_of_methodNamed Bd.named
  have hnm := (name_of_methodNamed Bd.named Bd.method).1
  have X0 : Stand p l e ({ frames := 0, cells := 0, slots := 0, locals := 0 } : Room) s m #[(.long x), (.long y)] below meth c s₁ [] 0 0 := Stand.of_body Bd
  have e0 : s₁.heap = h0 := by rw [← hh, Bd.state]; rfl
  have N0 := Fr.nil n0
  show Run p.tables e below (PQ s below 0 0 (Q5 Z x y h0 n0)) (s₁.setTop (entryFrame m #[(.long x), (.long y)] 4))
  refine Run.step (fun t k => castTop (ef_5 m x y) k) ?_
  show Run _ _ _ _ (s₁.setTop (mkF m 0 #[.val (.long x), .second, .val (.long y), .second] []))
  refine Run.step (fun t k => XS.lloadN X0.here hx rfl (hb hby d5_0) rfl k) ?_
  show Run _ _ _ _ (s₁.setTop (mkF m 1 #[.val (.long x), .second, .val (.long y), .second] [(.long x)]))
  refine Run.step (fun t k => XS.lloadN X0.here hx rfl (hb hby d5_1) rfl k) ?_
  show Run _ _ _ _ (s₁.setTop (mkF m 2 #[.val (.long x), .second, .val (.long y), .second] [(.long y), (.long x)]))
  refine Run.step (fun t k => XS.lcmp X0.here hx rfl (hb hby d5_2) rfl k) ?_
  show Run _ _ _ _ (s₁.setTop (mkF m 3 #[.val (.long x), .second, .val (.long y), .second] [(.int (lcmpW x y))]))
  by_cases c3 : x < y
  · skip
    refine Run.step (fun t k => XS.ifNo X0.here hx rfl (hb hby d5_3) rfl (XT.ll_ge_f c3) k) ?_
    show Run _ _ _ _ (s₁.setTop (mkF m 6 #[.val (.long x), .second, .val (.long y), .second] []))
    refine Run.step (fun t k => XS.iconst X0.here hx rfl (hb hby d5_6) k) ?_
    show Run _ _ _ _ (s₁.setTop (mkF m 7 #[.val (.long x), .second, .val (.long y), .second] [(.int (-1 : Int32))]))
    refine Run.step (fun t k => XS.goto X0.here hx rfl (pc0 := 7) (pc' := 21) rfl (hb hby d5_7) (by decide) (by decide) k) ?_
    show Run _ _ _ _ (s₁.setTop (mkF m 21 #[.val (.long x), .second, .val (.long y), .second] [(.int (-1 : Int32))]))
    exact finI X0 hx (BodyLoose.notSynchronized Bd) Bd.returns (hb hby d5_21) (by decide) (by decide) e0 ⟨by simp [own_cmp, c3], N0, rfl⟩
  · skip
    refine Run.step (fun t k => XS.ifYes X0.here hx rfl (pc0 := 3) (pc' := 10) rfl (hb hby d5_3) rfl (XT.ll_ge_t c3) (by decide) (by decide) k) ?_
    show Run _ _ _ _ (s₁.setTop (mkF m 10 #[.val (.long x), .second, .val (.long y), .second] []))
    refine Run.step (fun t k => XS.lloadN X0.here hx rfl (hb hby d5_10) rfl k) ?_
    show Run _ _ _ _ (s₁.setTop (mkF m 11 #[.val (.long x), .second, .val (.long y), .second] [(.long x)]))
    refine Run.step (fun t k => XS.lloadN X0.here hx rfl (hb hby d5_11) rfl k) ?_
    show Run _ _ _ _ (s₁.setTop (mkF m 12 #[.val (.long x), .second, .val (.long y), .second] [(.long y), (.long x)]))
    refine Run.step (fun t k => XS.lcmp X0.here hx rfl (hb hby d5_12) rfl k) ?_
    show Run _ _ _ _ (s₁.setTop (mkF m 13 #[.val (.long x), .second, .val (.long y), .second] [(.int (lcmpW x y))]))
    by_cases c13 : x = y
    · skip
      refine Run.step (fun t k => XS.ifNo X0.here hx rfl (hb hby d5_13) rfl (XT.ll_ne_f c13) k) ?_
      show Run _ _ _ _ (s₁.setTop (mkF m 16 #[.val (.long x), .second, .val (.long y), .second] []))
      refine Run.step (fun t k => XS.iconst X0.here hx rfl (hb hby d5_16) k) ?_
      show Run _ _ _ _ (s₁.setTop (mkF m 17 #[.val (.long x), .second, .val (.long y), .second] [(.int (0 : Int32))]))
      refine Run.step (fun t k => XS.goto X0.here hx rfl (pc0 := 17) (pc' := 21) rfl (hb hby d5_17) (by decide) (by decide) k) ?_
      show Run _ _ _ _ (s₁.setTop (mkF m 21 #[.val (.long x), .second, .val (.long y), .second] [(.int (0 : Int32))]))
      exact finI X0 hx (BodyLoose.notSynchronized Bd) Bd.returns (hb hby d5_21) (by decide) (by decide) e0 ⟨by simp [own_cmp, c3, c13], N0, rfl⟩
    · skip
      refine Run.step (fun t k => XS.ifYes X0.here hx rfl (pc0 := 13) (pc' := 20) rfl (hb hby d5_13) rfl (XT.ll_ne_t c13) (by decide) (by decide) k) ?_
      show Run _ _ _ _ (s₁.setTop (mkF m 20 #[.val (.long x), .second, .val (.long y), .second] []))
      refine Run.step (fun t k => XS.iconst X0.here hx rfl (hb hby d5_20) k) ?_
      show Run _ _ _ _ (s₁.setTop (mkF m 21 #[.val (.long x), .second, .val (.long y), .second] [(.int (1 : Int32))]))
      exact finI X0 hx (BodyLoose.notSynchronized Bd) Bd.returns (hb hby d5_21) (by decide) (by decide) e0 ⟨by simp [own_cmp, c3, c13], N0, rfl⟩
theorem d4_0 : decode prog_14_method_2_code 0 = .ok (.aload_n 0, 1) := by decide +kernel
theorem d4_1 : decode prog_14_method_2_code 1 = .ok (.getfield 9, 3) := by decide +kernel
theorem d4_4 : decode prog_14_method_2_code 4 = .ok (.aload_n 1, 1) := by decide +kernel
theorem d4_5 : decode prog_14_method_2_code 5 = .ok (.getfield 9, 3) := by decide +kernel
theorem d4_8 : decode prog_14_method_2_code 8 = .ok (.invokestatic 18, 3) := by decide +kernel
theorem pd__28JJ_29I : parseMethodDescriptor "(JJ)I" = some ⟨[.long, .long], some .int⟩ := by decide +kernel
theorem d4_11 : decode prog_14_method_2_code 11 = .ok (.istore_n 2, 1) := by decide +kernel
theorem d4_12 : decode prog_14_method_2_code 12 = .ok (.iload_n 2, 1) := by decide +kernel
theorem d4_13 : decode prog_14_method_2_code 13 = .ok (.ifCond .eq 7, 3) := by decide +kernel
theorem d4_20 : decode prog_14_method_2_code 20 = .ok (.aload_n 0, 1) := by decide +kernel
theorem d4_21 : decode prog_14_method_2_code 21 = .ok (.getfield 15, 3) := by decide +kernel
theorem d4_24 : decode prog_14_method_2_code 24 = .ok (.aload_n 1, 1) := by decide +kernel
theorem d4_25 : decode prog_14_method_2_code 25 = .ok (.getfield 15, 3) := by decide +kernel
theorem d4_28 : decode prog_14_method_2_code 28 = .ok (.invokestatic 18, 3) := by decide +kernel
theorem d4_31 : decode prog_14_method_2_code 31 = .ok (.ireturn, 1) := by decide +kernel
theorem d4_16 : decode prog_14_method_2_code 16 = .ok (.iload_n 2, 1) := by decide +kernel
theorem d4_17 : decode prog_14_method_2_code 17 = .ok (.goto 14, 3) := by decide +kernel
theorem ef_4 (m : MethodId) (x0 : Addr) (x1 : Addr) : entryFrame m #[(.ref x0), (.ref x1)] 3 = mkF m 0 #[.val (.ref x0), .val (.ref x1), .unset] [] := by first | (simp [entryFrame, mkF, argsToLocals, Value.category, maxLocals]; done) | rfl
def Q4 (Z : State) (a1 : Addr) (a2 : Addr) (r1 : Int64) (t1 : Int64) (r2 : Int64) (t2 : Int64) (h0 : Heap) (n0 : Nat) (v : Option Value) (h : Heap) (L : List Loc) : Prop := v = some (.int (own_ord r1 t1 r2 t2)) ∧ Fr n0 L ∧ h = h0
set_option maxRecDepth 65536 in
set_option maxHeartbeats 40000000 in
theorem rm4 (l : Launch) (Z : State) (a0 : Array Value) (hw : ∀ d ∈ tables_1, d.before a0 Z = true) (ws : List Jvm.Cond) (a1 : Addr) (a2 : Addr) (r1 : Int64) (t1 : Int64) (r2 : Int64) (t2 : Int64) (h0 : Heap) (n0 : Nat) (Z0 : n0 ≤ h0.size) (F1 : Fld Z h0 a1 "com/example/ringwell/ringwell/Ballot" "round" "J" (.long r1)) (F2 : Fld Z h0 a1 "com/example/ringwell/ringwell/Ballot" "tiebreak" "J" (.long t1)) (F3 : Fld Z h0 a2 "com/example/ringwell/ringwell/Ballot" "round" "J" (.long r2)) (F4 : Fld Z h0 a2 "com/example/ringwell/ringwell/Ballot" "tiebreak" "J" (.long t2)) :
    MetFree l (⟨"com/example/ringwell/ringwell/Ballot", "compareTo", "(Lcom/example/ringwell/ringwell/Ballot;)I"⟩ : MethodName) (head1 (Jvm.Cond.code (⟨"com/example/ringwell/ringwell/Ballot", "compareTo", "(Lcom/example/ringwell/ringwell/Ballot;)I"⟩ : MethodName) prog_14_method_2_code 3 (some .int) :: ws) ({ frames := 1, cells := 0, slots := 0, locals := 15 } : Room)) (fun a U => a = #[(.ref a1), (.ref a2)] ∧ Z.Warmed39 U.vm ∧ U.heap = h0) (fun _ _ _ _ _ => True) (fun _ U o U' => ∃ v L, o = .returned v ∧ Q4 Z a1 a2 r1 t1 r2 t2 h0 n0 v U'.heap L ∧ FrameEnd U o U' L ({ frames := 1, cells := 0, slots := 0, locals := 15 } : Room).cells ({ frames := 1, cells := 0, slots := 0, locals := 15 } : Room).slots) := by
  refine MetFree.of_bodySF (plainFor_of_name pn_com_example_ringwell_ringwell_Ballot) hisR ?_
  intro p e s m args below meth c s₁ Bd hml0 hP hK
  obtain ⟨rfl, hZ, hh⟩ := hP
  have hx := Bd.exec
  have hby := Bd.bytes
  have w14 := hw _ (List.mem_of_getElem? (i := 14) rfl)
  have w16 := hw _ (List.mem_of_getElem? (i := 16) rfl)
  have w23 := hw _ (List.mem_of_getElem? (i := 23) rfl)
  have w24 := hw _ (List.mem_of_getElem? (i := 24) rfl)
  have w25 := hw _ (List.mem_of_getElem? (i := 25) rfl)
  have w26 := hw _ (List.mem_of_getElem? (i := 26) rfl)
  have hml : c.maxLocals = 3 := hml0
  have hown : s.vm.findClass "com/example/ringwell/ringwell/Ballot" = some m.cls := findClass_of_methodNamed Bd.named
  have hnm := (name_of_methodNamed Bd.named Bd.method).1
  have X0 : Stand p l e ({ frames := 1, cells := 0, slots := 0, locals := 15 } : Room) s m #[(.ref a1), (.ref a2)] below meth c s₁ [] 0 0 := Stand.of_body Bd
  have e0 : s₁.heap = h0 := by rw [← hh, Bd.state]; rfl
  have N0 := Fr.nil n0
  show Run p.tables e below (PQ s below 0 0 (Q4 Z a1 a2 r1 t1 r2 t2 h0 n0)) (s₁.setTop (entryFrame m #[(.ref a1), (.ref a2)] 3))
  refine Run.step (fun t k => castTop (ef_4 m a1 a2) k) ?_
  show Run _ _ _ _ (s₁.setTop (mkF m 0 #[.val (.ref a1), .val (.ref a2), .unset] []))
  refine Run.step (fun t k => XS.aloadN X0.here hx rfl (hb hby d4_0) rfl rfl k) ?_
  show Run _ _ _ _ (s₁.setTop (mkF m 1 #[.val (.ref a1), .val (.ref a2), .unset] [(.ref a1)]))
  obtain ⟨T17, X17, e17, st17⟩ := getF X0 hx hZ hown (host := "") (Or.inl w14) Via.refl e0 F1 (g := (mkF m 1 #[.val (.ref a1), .val (.ref a2), .unset] [(.ref a1)])) rfl rfl (hb hby d4_1)
  refine Run.step st17 ?_
  show Run _ _ _ _ (T17.setTop (mkF m 4 #[.val (.ref a1), .val (.ref a2), .unset] [(.long r1)]))
  refine Run.step (fun t k => XS.aloadN X17.here hx rfl (hb hby d4_4) rfl rfl k) ?_
  show Run _ _ _ _ (T17.setTop (mkF m 5 #[.val (.ref a1), .val (.ref a2), .unset] [(.ref a2), (.long r1)]))
  obtain ⟨T18, X18, e18, st18⟩ := getF X17 hx hZ hown (host := "") (Or.inl w14) Via.refl e17 F3 (g := (mkF m 5 #[.val (.ref a1), .val (.ref a2), .unset] [(.ref a2), (.long r1)])) rfl rfl (hb hby d4_5)
  refine Run.step st18 ?_
  show Run _ _ _ _ (T18.setTop (mkF m 8 #[.val (.ref a1), .val (.ref a2), .unset] [(.long r2), (.long r1)]))
  obtain ⟨_, _, ⟨T19, L19, k19, n19⟩, -, X19, ⟨Lc19, hQ19, l19, y19, z19⟩, st19⟩ := Jvm.LawKit.callS X18 hx (y := (⟨"java/lang/Long", "compare", "(JJ)I"⟩ : MethodName)) hown (mvT hZ w23) (mvT hZ w24) (mvT hZ w25) (mvT hZ w26) (by decide) (backOf (W := 0) (rm5 l Z a0 hw [] r1 r2 h0 n0 Z0) hZ w26 w25 (by decide) (by decide)) (g := (mkF m 8 #[.val (.ref a1), .val (.ref a2), .unset] [(.long r2), (.long r1)])) rfl (by rw [hml]; rfl) (argsL := [(.long r1), (.long r2)]) (rest := []) (lenOf pd__28JJ_29I rfl) rfl (by show 2 * 0 + _ ≤ _; exact Nat.le_of_eq rfl) (hb hby d4_8) (fun _ _ => ⟨rfl, e18, (by decide : 0 + 0 ≤ _), (by decide : 0 + 0 ≤ _)⟩)
  dsimp only [Pt.U, Pt.locs, Pt.cells, Pt.slots] at X19 l19 y19 z19 st19 hQ19
  subst l19 y19 z19
  refine Run.step (st19) ?_
  obtain ⟨rfl, N19q, e19q⟩ := hQ19
  have N19 := Fr.app N0 N19q
  show Run _ _ _ _ (T19.setTop (mkF m 11 #[.val (.ref a1), .val (.ref a2), .unset] [(.int (own_cmp r1 r2))]))
  refine Run.step (fun t k => XS.istoreN X19.here hx rfl (hb hby d4_11) rfl (l' := #[.val (.ref a1), .val (.ref a2), .val (.int (own_cmp r1 r2))]) rfl k) ?_
  show Run _ _ _ _ (T19.setTop (mkF m 12 #[.val (.ref a1), .val (.ref a2), .val (.int (own_cmp r1 r2))] []))
  refine Run.step (fun t k => XS.iloadN X19.here hx rfl (hb hby d4_12) rfl k) ?_
  show Run _ _ _ _ (T19.setTop (mkF m 13 #[.val (.ref a1), .val (.ref a2), .val (.int (own_cmp r1 r2))] [(.int (own_cmp r1 r2))]))
  by_cases c13 : (own_cmp r1 r2) = (0 : Int32)
  · skip
    refine Run.step (fun t k => XS.ifYes X19.here hx rfl (pc0 := 13) (pc' := 20) rfl (hb hby d4_13) rfl (XT.i0_eq_t c13) (by decide) (by decide) k) ?_
    show Run _ _ _ _ (T19.setTop (mkF m 20 #[.val (.ref a1), .val (.ref a2), .val (.int (own_cmp r1 r2))] []))
    refine Run.step (fun t k => XS.aloadN X19.here hx rfl (hb hby d4_20) rfl rfl k) ?_
    show Run _ _ _ _ (T19.setTop (mkF m 21 #[.val (.ref a1), .val (.ref a2), .val (.int (own_cmp r1 r2))] [(.ref a1)]))
    obtain ⟨T20, X20, e20, st20⟩ := getF X19 hx hZ hown (host := "") (Or.inl w16) Via.refl e19q F2 (g := (mkF m 21 #[.val (.ref a1), .val (.ref a2), .val (.int (own_cmp r1 r2))] [(.ref a1)])) rfl rfl (hb hby d4_21)
    refine Run.step st20 ?_
    show Run _ _ _ _ (T20.setTop (mkF m 24 #[.val (.ref a1), .val (.ref a2), .val (.int (own_cmp r1 r2))] [(.long t1)]))
    refine Run.step (fun t k => XS.aloadN X20.here hx rfl (hb hby d4_24) rfl rfl k) ?_
    show Run _ _ _ _ (T20.setTop (mkF m 25 #[.val (.ref a1), .val (.ref a2), .val (.int (own_cmp r1 r2))] [(.ref a2), (.long t1)]))
    obtain ⟨T21, X21, e21, st21⟩ := getF X20 hx hZ hown (host := "") (Or.inl w16) Via.refl e20 F4 (g := (mkF m 25 #[.val (.ref a1), .val (.ref a2), .val (.int (own_cmp r1 r2))] [(.ref a2), (.long t1)])) rfl rfl (hb hby d4_25)
    refine Run.step st21 ?_
    show Run _ _ _ _ (T21.setTop (mkF m 28 #[.val (.ref a1), .val (.ref a2), .val (.int (own_cmp r1 r2))] [(.long t2), (.long t1)]))
    obtain ⟨_, _, ⟨T22, L22, k22, n22⟩, -, X22, ⟨Lc22, hQ22, l22, y22, z22⟩, st22⟩ := Jvm.LawKit.callS X21 hx (y := (⟨"java/lang/Long", "compare", "(JJ)I"⟩ : MethodName)) hown (mvT hZ w23) (mvT hZ w24) (mvT hZ w25) (mvT hZ w26) (by decide) (backOf (W := 0) (rm5 l Z a0 hw [] t1 t2 h0 n0 Z0) hZ w26 w25 (by decide) (by decide)) (g := (mkF m 28 #[.val (.ref a1), .val (.ref a2), .val (.int (own_cmp r1 r2))] [(.long t2), (.long t1)])) rfl (by rw [hml]; rfl) (argsL := [(.long t1), (.long t2)]) (rest := []) (lenOf pd__28JJ_29I rfl) rfl (by show 2 * 0 + _ ≤ _; exact Nat.le_of_eq rfl) (hb hby d4_28) (fun _ _ => ⟨rfl, e21, (by decide : 0 + 0 ≤ _), (by decide : 0 + 0 ≤ _)⟩)
    dsimp only [Pt.U, Pt.locs, Pt.cells, Pt.slots] at X22 l22 y22 z22 st22 hQ22
    subst l22 y22 z22
    refine Run.step (st22) ?_
    obtain ⟨rfl, N22q, e22q⟩ := hQ22
    have N22 := Fr.app N19 N22q
    show Run _ _ _ _ (T22.setTop (mkF m 31 #[.val (.ref a1), .val (.ref a2), .val (.int (own_cmp r1 r2))] [(.int (own_cmp t1 t2))]))
    exact finI X22 hx (BodyLoose.notSynchronized Bd) Bd.returns (hb hby d4_31) (by decide) (by decide) e22q ⟨by simp [own_ord, c13], N22, rfl⟩
  · skip
    refine Run.step (fun t k => XS.ifNo X19.here hx rfl (hb hby d4_13) rfl (XT.i0_eq_f c13) k) ?_
    show Run _ _ _ _ (T19.setTop (mkF m 16 #[.val (.ref a1), .val (.ref a2), .val (.int (own_cmp r1 r2))] []))
    refine Run.step (fun t k => XS.iloadN X19.here hx rfl (hb hby d4_16) rfl k) ?_
    show Run _ _ _ _ (T19.setTop (mkF m 17 #[.val (.ref a1), .val (.ref a2), .val (.int (own_cmp r1 r2))] [(.int (own_cmp r1 r2))]))
    refine Run.step (fun t k => XS.goto X19.here hx rfl (pc0 := 17) (pc' := 31) rfl (hb hby d4_17) (by decide) (by decide) k) ?_
    show Run _ _ _ _ (T19.setTop (mkF m 31 #[.val (.ref a1), .val (.ref a2), .val (.int (own_cmp r1 r2))] [(.int (own_cmp r1 r2))]))
    exact finI X19 hx (BodyLoose.notSynchronized Bd) Bd.returns (hb hby d4_31) (by decide) (by decide) e19q ⟨by simp [own_ord, c13], N19, rfl⟩
theorem pn_com_example_ringwell_ringwell_BallotCompareToPinLaw : plainName "com/example/ringwell/ringwell/BallotCompareToPinLaw" = true := by first | (simp [plainName, overriddenIn]; done) | decide +kernel
theorem pd__28JJ_29V : parseMethodDescriptor "(JJ)V" = some ⟨[.long, .long], none⟩ := by decide +kernel
theorem pd__28Lcom_2fexample_2fringwell_2fringwell_2fBallot_3b_29I : parseMethodDescriptor "(Lcom/example/ringwell/ringwell/Ballot;)I" = some ⟨[(.object "com/example/ringwell/ringwell/Ballot")], some .int⟩ := by decide +kernel
theorem ef_0 (m : MethodId) (x0 : Int64) (x1 : Int64) (x2 : Int64) (x3 : Int64) (x4 : Int32) : entryFrame m #[(.long x0), (.long x1), (.long x2), (.long x3), (.int x4)] maxLocals = mkF m 0 #[.val (.long x0), .second, .val (.long x1), .second, .val (.long x2), .second, .val (.long x3), .second, .val (.int x4), .unset, .unset, .unset, .unset, .unset, .unset, .unset, .unset, .unset] [] := by first | (simp [entryFrame, mkF, argsToLocals, Value.category, maxLocals]; done) | rfl
def Q0 (Z : State) (p1 : Int64) (p2 : Int64) (p3 : Int64) (p4 : Int64) (p5 : Int32) (h0 : Heap) (n0 : Nat) (v : Option Value) (h : Heap) (L : List Loc) : Prop := v = some (.int 1) ∧ Fr n0 L
set_option maxRecDepth 65536 in
set_option maxHeartbeats 40000000 in
theorem rm0 (l : Launch) (Z : State) (a0 : Array Value) (hw : ∀ d ∈ tables_1, d.before a0 Z = true) (ws : List Jvm.Cond) (p1 : Int64) (p2 : Int64) (p3 : Int64) (p4 : Int64) (p5 : Int32) (h0 : Heap) (n0 : Nat) (Z0 : n0 ≤ h0.size)  :
    MetFree l x (head1 (Jvm.Cond.code x code maxLocals ret :: ws) room_1) (fun a U => a = #[(.long p1), (.long p2), (.long p3), (.long p4), (.int p5)] ∧ Z.Warmed39 U.vm ∧ U.heap = h0) (fun _ _ _ _ _ => True) (fun _ U o U' => ∃ v L, o = .returned v ∧ Q0 Z p1 p2 p3 p4 p5 h0 n0 v U'.heap L ∧ FrameEnd U o U' L 16 128) := by
  refine MetFree.of_bodySF (plainFor_of_name pn_com_example_ringwell_ringwell_BallotCompareToPinLaw) hisR ?_
  intro p e s m args below meth c s₁ Bd hml0 hP hK
  obtain ⟨rfl, hZ, hh⟩ := hP
  have hx := Bd.exec
  have hby := Bd.bytes
  have w0 := hw _ (List.mem_of_getElem? (i := 0) rfl)
  have w1 := hw _ (List.mem_of_getElem? (i := 1) rfl)
  have w2 := hw _ (List.mem_of_getElem? (i := 2) rfl)
  have w3 := hw _ (List.mem_of_getElem? (i := 3) rfl)
  have w4 := hw _ (List.mem_of_getElem? (i := 4) rfl)
  have w5 := hw _ (List.mem_of_getElem? (i := 5) rfl)
  have w15 := hw _ (List.mem_of_getElem? (i := 15) rfl)
  have w17 := hw _ (List.mem_of_getElem? (i := 17) rfl)
  have w18 := hw _ (List.mem_of_getElem? (i := 18) rfl)
  have w19 := hw _ (List.mem_of_getElem? (i := 19) rfl)
  have w20 := hw _ (List.mem_of_getElem? (i := 20) rfl)
  have w21 := hw _ (List.mem_of_getElem? (i := 21) rfl)
  have w22 := hw _ (List.mem_of_getElem? (i := 22) rfl)
  have hml : c.maxLocals = 18 := hml0
  have hown : s.vm.findClass "com/example/ringwell/ringwell/BallotCompareToPinLaw" = some m.cls := findClass_of_methodNamed Bd.named
  have hnm := (name_of_methodNamed Bd.named Bd.method).1
  have X0 : Stand p l e room_1 s m #[(.long p1), (.long p2), (.long p3), (.long p4), (.int p5)] below meth c s₁ [] 0 0 := Stand.of_body Bd
  have e0 : s₁.heap = h0 := by rw [← hh, Bd.state]; rfl
  have N0 := Fr.nil n0
  show Run p.tables e below (PQ s below 16 128 (Q0 Z p1 p2 p3 p4 p5 h0 n0)) (s₁.setTop (entryFrame m #[(.long p1), (.long p2), (.long p3), (.long p4), (.int p5)] maxLocals))
  refine Run.step (fun t k => castTop (ef_0 m p1 p2 p3 p4 p5) k) ?_
  show Run _ _ _ _ (s₁.setTop (mkF m 0 #[.val (.long p1), .second, .val (.long p2), .second, .val (.long p3), .second, .val (.long p4), .second, .val (.int p5), .unset, .unset, .unset, .unset, .unset, .unset, .unset, .unset, .unset] []))
  refine Run.step (fun t k => XS.iload X0.here hx rfl (hb hby at_0) rfl k) ?_
  show Run _ _ _ _ (s₁.setTop (mkF m 2 #[.val (.long p1), .second, .val (.long p2), .second, .val (.long p3), .second, .val (.long p4), .second, .val (.int p5), .unset, .unset, .unset, .unset, .unset, .unset, .unset, .unset, .unset] [(.int p5)]))
  refine Run.step (fun t k => XS.iconst X0.here hx rfl (hb hby at_2) k) ?_
  show Run _ _ _ _ (s₁.setTop (mkF m 3 #[.val (.long p1), .second, .val (.long p2), .second, .val (.long p3), .second, .val (.long p4), .second, .val (.int p5), .unset, .unset, .unset, .unset, .unset, .unset, .unset, .unset, .unset] [(.int (1 : Int32)), (.int p5)]))
  refine Run.step (fun t k => XS.iand X0.here hx rfl (hb hby at_3) rfl k) ?_
  show Run _ _ _ _ (s₁.setTop (mkF m 4 #[.val (.long p1), .second, .val (.long p2), .second, .val (.long p3), .second, .val (.long p4), .second, .val (.int p5), .unset, .unset, .unset, .unset, .unset, .unset, .unset, .unset, .unset] [(.int (p5 &&& (1 : Int32)))]))
  have J23 : ∀ (TJ23 : State) (LJ23 : List Loc) (XJ23 : Stand p l e room_1 s m #[(.long p1), (.long p2), (.long p3), (.long p4), (.int p5)] below meth c TJ23 LJ23 0 0) (eJ23 : TJ23.heap = h0) (NJ23 : Fr n0 LJ23) (rr : Int64), True → Run p.tables e below (PQ s below 16 128 (Q0 Z p1 p2 p3 p4 p5 h0 n0)) (TJ23.setTop (mkF m 13 #[.val (.long p1), .second, .val (.long p2), .second, .val (.long p3), .second, .val (.long p4), .second, .val (.int p5), .unset, .unset, .unset, .unset, .unset, .unset, .unset, .unset, .unset] [(.long rr)])) := by
    intro TJ23 LJ23 XJ23 eJ23 NJ23 rr hv23
    refine Run.step (fun t k => XS.lstore XJ23.here hx rfl (hb hby at_13) rfl (l' := #[.val (.long p1), .second, .val (.long p2), .second, .val (.long p3), .second, .val (.long p4), .second, .val (.int p5), .val (.long rr), .second, .unset, .unset, .unset, .unset, .unset, .unset, .unset]) rfl k) ?_
    show Run _ _ _ _ (TJ23.setTop (mkF m 15 #[.val (.long p1), .second, .val (.long p2), .second, .val (.long p3), .second, .val (.long p4), .second, .val (.int p5), .val (.long rr), .second, .unset, .unset, .unset, .unset, .unset, .unset, .unset] []))
    refine Run.step (fun t k => XS.iload XJ23.here hx rfl (hb hby at_15) rfl k) ?_
    show Run _ _ _ _ (TJ23.setTop (mkF m 17 #[.val (.long p1), .second, .val (.long p2), .second, .val (.long p3), .second, .val (.long p4), .second, .val (.int p5), .val (.long rr), .second, .unset, .unset, .unset, .unset, .unset, .unset, .unset] [(.int p5)]))
    refine Run.step (fun t k => XS.iconst XJ23.here hx rfl (hb hby at_17) k) ?_
    show Run _ _ _ _ (TJ23.setTop (mkF m 18 #[.val (.long p1), .second, .val (.long p2), .second, .val (.long p3), .second, .val (.long p4), .second, .val (.int p5), .val (.long rr), .second, .unset, .unset, .unset, .unset, .unset, .unset, .unset] [(.int (2 : Int32)), (.int p5)]))
    refine Run.step (fun t k => XS.iand XJ23.here hx rfl (hb hby at_18) rfl k) ?_
    show Run _ _ _ _ (TJ23.setTop (mkF m 19 #[.val (.long p1), .second, .val (.long p2), .second, .val (.long p3), .second, .val (.long p4), .second, .val (.int p5), .val (.long rr), .second, .unset, .unset, .unset, .unset, .unset, .unset, .unset] [(.int (p5 &&& (2 : Int32)))]))
    have J24 : ∀ (TJ24 : State) (LJ24 : List Loc) (XJ24 : Stand p l e room_1 s m #[(.long p1), (.long p2), (.long p3), (.long p4), (.int p5)] below meth c TJ24 LJ24 0 0) (eJ24 : TJ24.heap = h0) (NJ24 : Fr n0 LJ24) (tt : Int64), True → Run p.tables e below (PQ s below 16 128 (Q0 Z p1 p2 p3 p4 p5 h0 n0)) (TJ24.setTop (mkF m 28 #[.val (.long p1), .second, .val (.long p2), .second, .val (.long p3), .second, .val (.long p4), .second, .val (.int p5), .val (.long rr), .second, .unset, .unset, .unset, .unset, .unset, .unset, .unset] [(.long tt)])) := by
      intro TJ24 LJ24 XJ24 eJ24 NJ24 tt hv24
      refine Run.step (fun t k => XS.lstore XJ24.here hx rfl (hb hby at_28) rfl (l' := #[.val (.long p1), .second, .val (.long p2), .second, .val (.long p3), .second, .val (.long p4), .second, .val (.int p5), .val (.long rr), .second, .val (.long tt), .second, .unset, .unset, .unset, .unset, .unset]) rfl k) ?_
      show Run _ _ _ _ (TJ24.setTop (mkF m 30 #[.val (.long p1), .second, .val (.long p2), .second, .val (.long p3), .second, .val (.long p4), .second, .val (.int p5), .val (.long rr), .second, .val (.long tt), .second, .unset, .unset, .unset, .unset, .unset] []))
      obtain ⟨T25, h25, X25, e25, E25, A25, D25, -, st25⟩ := newO XJ24 hx hZ hown w0 w1 w2 eJ24 (g := (mkF m 30 #[.val (.long p1), .second, .val (.long p2), .second, .val (.long p3), .second, .val (.long p4), .second, .val (.int p5), .val (.long rr), .second, .val (.long tt), .second, .unset, .unset, .unset, .unset, .unset] [])) rfl (hb hby at_30) (by decide) (by decide)
      obtain ⟨b25, g25⟩ : ∃ z, z = h0.size := ⟨_, rfl⟩
      rw [← g25] at A25 D25 st25
      refine Run.step st25 ?_
      have g_b25 : n0 ≤ b25 := Nat.le_trans Z0 (Nat.le_of_eq g25.symm)
      have z26 := Nat.le_trans Z0 E25.1
      have f27 : Fld Z h25 b25 "com/example/ringwell/ringwell/Ballot" "round" "J" (.long (0 : Int64)) := D25 (Or.inr w15) (ty := .long) (by decide)
      have f28 : Fld Z h25 b25 "com/example/ringwell/ringwell/Ballot" "tiebreak" "J" (.long (0 : Int64)) := D25 (Or.inr w17) (ty := .long) (by decide)
      show Run _ _ _ _ (T25.setTop (mkF m 33 #[.val (.long p1), .second, .val (.long p2), .second, .val (.long p3), .second, .val (.long p4), .second, .val (.int p5), .val (.long rr), .second, .val (.long tt), .second, .unset, .unset, .unset, .unset, .unset] [(.ref b25)]))
      refine Run.step (fun t k => XS.dup X25.here hx rfl (hb hby at_33) rfl rfl k) ?_
      show Run _ _ _ _ (T25.setTop (mkF m 34 #[.val (.long p1), .second, .val (.long p2), .second, .val (.long p3), .second, .val (.long p4), .second, .val (.int p5), .val (.long rr), .second, .val (.long tt), .second, .unset, .unset, .unset, .unset, .unset] [(.ref b25), (.ref b25)]))
      refine Run.step (fun t k => XS.lloadN X25.here hx rfl (hb hby at_34) rfl k) ?_
      show Run _ _ _ _ (T25.setTop (mkF m 35 #[.val (.long p1), .second, .val (.long p2), .second, .val (.long p3), .second, .val (.long p4), .second, .val (.int p5), .val (.long rr), .second, .val (.long tt), .second, .unset, .unset, .unset, .unset, .unset] [(.long p1), (.ref b25), (.ref b25)]))
      refine Run.step (fun t k => XS.lloadN X25.here hx rfl (hb hby at_35) rfl k) ?_
      show Run _ _ _ _ (T25.setTop (mkF m 36 #[.val (.long p1), .second, .val (.long p2), .second, .val (.long p3), .second, .val (.long p4), .second, .val (.int p5), .val (.long rr), .second, .val (.long tt), .second, .unset, .unset, .unset, .unset, .unset] [(.long p2), (.long p1), (.ref b25), (.ref b25)]))
      obtain ⟨_, _, ⟨T29, L29, k29, n29⟩, -, X29, ⟨Lc29, hQ29, l29, y29, z29⟩, st29⟩ := X25.specialBack hx (y := (⟨"com/example/ringwell/ringwell/Ballot", "<init>", "(JJ)V"⟩ : MethodName)) rfl hown (mvT hZ w3) (mvT hZ w4) (mvT hZ w5) (by decide) (backOf (W := 1) (rm1 l Z a0 hw [] b25 p1 p2 h25 n0 z26 f27 f28 A25 g_b25) hZ w5 w2 (by decide) (by decide)) (g := (mkF m 36 #[.val (.long p1), .second, .val (.long p2), .second, .val (.long p3), .second, .val (.long p4), .second, .val (.int p5), .val (.long rr), .second, .val (.long tt), .second, .unset, .unset, .unset, .unset, .unset] [(.long p2), (.long p1), (.ref b25), (.ref b25)])) rfl (by rw [hml]; rfl) (Steps.refl _) (a := b25) (argsL := [(.long p1), (.long p2)]) (rest := [(.ref b25)]) (lenOf pd__28JJ_29V rfl) rfl (by show 2 * 0 + _ ≤ _; exact Nat.le_of_eq rfl) (hb hby at_36) (fun _ _ => ⟨rfl, e25, (by decide : 1 + 0 ≤ _), (by decide : 2 + 0 ≤ _)⟩)
      dsimp only [Pt.U, Pt.locs, Pt.cells, Pt.slots] at X29 l29 y29 z29 st29 hQ29
      subst l29 y29 z29
      refine Run.step (fun t k => st29.trans k) ?_
      obtain ⟨rfl, N29q, K29q, fr29, ft29⟩ := hQ29
      have N29 := Fr.app NJ24 N29q
      have f30 := A25.keep K29q
      have z33 := Nat.le_trans z26 K29q.1
      show Run _ _ _ _ (T29.setTop (mkF m 39 #[.val (.long p1), .second, .val (.long p2), .second, .val (.long p3), .second, .val (.long p4), .second, .val (.int p5), .val (.long rr), .second, .val (.long tt), .second, .unset, .unset, .unset, .unset, .unset] [(.ref b25)]))
      refine Run.step (fun t k => XS.astore X29.here hx rfl (hb hby at_39) rfl rfl (l' := #[.val (.long p1), .second, .val (.long p2), .second, .val (.long p3), .second, .val (.long p4), .second, .val (.int p5), .val (.long rr), .second, .val (.long tt), .second, .val (.ref b25), .unset, .unset, .unset, .unset]) rfl k) ?_
      show Run _ _ _ _ (T29.setTop (mkF m 41 #[.val (.long p1), .second, .val (.long p2), .second, .val (.long p3), .second, .val (.long p4), .second, .val (.int p5), .val (.long rr), .second, .val (.long tt), .second, .val (.ref b25), .unset, .unset, .unset, .unset] []))
      obtain ⟨T34, h34, X34, e34, E34, A34, D34, -, st34⟩ := newO X29 hx hZ hown w0 w1 w2 rfl (g := (mkF m 41 #[.val (.long p1), .second, .val (.long p2), .second, .val (.long p3), .second, .val (.long p4), .second, .val (.int p5), .val (.long rr), .second, .val (.long tt), .second, .val (.ref b25), .unset, .unset, .unset, .unset] [])) rfl (hb hby at_41) (by decide) (by decide)
      obtain ⟨b34, g34⟩ : ∃ z, z = T29.heap.size := ⟨_, rfl⟩
      rw [← g34] at A34 D34 st34
      refine Run.step st34 ?_
      have ne35 : b25 ≠ b34 := Nat.ne_of_lt (Nat.lt_of_lt_of_le f30.lt (Nat.le_of_eq g34.symm))
      have g_b34 : n0 ≤ b34 := Nat.le_trans z33 (Nat.le_of_eq g34.symm)
      have f36 := f30.ext E34
      have f37 := fr29.ext E34
      have f38 := ft29.ext E34
      have z39 := Nat.le_trans z33 E34.1
      have f40 : Fld Z h34 b34 "com/example/ringwell/ringwell/Ballot" "round" "J" (.long (0 : Int64)) := D34 (Or.inr w15) (ty := .long) (by decide)
      have f41 : Fld Z h34 b34 "com/example/ringwell/ringwell/Ballot" "tiebreak" "J" (.long (0 : Int64)) := D34 (Or.inr w17) (ty := .long) (by decide)
      show Run _ _ _ _ (T34.setTop (mkF m 44 #[.val (.long p1), .second, .val (.long p2), .second, .val (.long p3), .second, .val (.long p4), .second, .val (.int p5), .val (.long rr), .second, .val (.long tt), .second, .val (.ref b25), .unset, .unset, .unset, .unset] [(.ref b34)]))
      refine Run.step (fun t k => XS.dup X34.here hx rfl (hb hby at_44) rfl rfl k) ?_
      show Run _ _ _ _ (T34.setTop (mkF m 45 #[.val (.long p1), .second, .val (.long p2), .second, .val (.long p3), .second, .val (.long p4), .second, .val (.int p5), .val (.long rr), .second, .val (.long tt), .second, .val (.ref b25), .unset, .unset, .unset, .unset] [(.ref b34), (.ref b34)]))
      refine Run.step (fun t k => XS.lload X34.here hx rfl (hb hby at_45) rfl k) ?_
      show Run _ _ _ _ (T34.setTop (mkF m 47 #[.val (.long p1), .second, .val (.long p2), .second, .val (.long p3), .second, .val (.long p4), .second, .val (.int p5), .val (.long rr), .second, .val (.long tt), .second, .val (.ref b25), .unset, .unset, .unset, .unset] [(.long rr), (.ref b34), (.ref b34)]))
      refine Run.step (fun t k => XS.lload X34.here hx rfl (hb hby at_47) rfl k) ?_
      show Run _ _ _ _ (T34.setTop (mkF m 49 #[.val (.long p1), .second, .val (.long p2), .second, .val (.long p3), .second, .val (.long p4), .second, .val (.int p5), .val (.long rr), .second, .val (.long tt), .second, .val (.ref b25), .unset, .unset, .unset, .unset] [(.long tt), (.long rr), (.ref b34), (.ref b34)]))
      obtain ⟨_, _, ⟨T42, L42, k42, n42⟩, -, X42, ⟨Lc42, hQ42, l42, y42, z42⟩, st42⟩ := X34.specialBack hx (y := (⟨"com/example/ringwell/ringwell/Ballot", "<init>", "(JJ)V"⟩ : MethodName)) rfl hown (mvT hZ w3) (mvT hZ w4) (mvT hZ w5) (by decide) (backOf (W := 1) (rm1 l Z a0 hw [] b34 rr tt h34 n0 z39 f40 f41 A34 g_b34) hZ w5 w2 (by decide) (by decide)) (g := (mkF m 49 #[.val (.long p1), .second, .val (.long p2), .second, .val (.long p3), .second, .val (.long p4), .second, .val (.int p5), .val (.long rr), .second, .val (.long tt), .second, .val (.ref b25), .unset, .unset, .unset, .unset] [(.long tt), (.long rr), (.ref b34), (.ref b34)])) rfl (by rw [hml]; rfl) (Steps.refl _) (a := b34) (argsL := [(.long rr), (.long tt)]) (rest := [(.ref b34)]) (lenOf pd__28JJ_29V rfl) rfl (by show 2 * 0 + _ ≤ _; exact Nat.le_of_eq rfl) (hb hby at_49) (fun _ _ => ⟨rfl, e34, (by decide : 2 + 0 ≤ _), (by decide : 4 + 0 ≤ _)⟩)
      dsimp only [Pt.U, Pt.locs, Pt.cells, Pt.slots] at X42 l42 y42 z42 st42 hQ42
      subst l42 y42 z42
      refine Run.step (fun t k => st42.trans k) ?_
      obtain ⟨rfl, N42q, K42q, fr42, ft42⟩ := hQ42
      have N42 := Fr.app N29 N42q
      have f43 := f36.keep K42q
      have f44 := f37.keep K42q (ninS ne35 nin0)
      have f45 := f38.keep K42q (ninS ne35 nin0)
      have f46 := A34.keep K42q
      have z49 := Nat.le_trans z39 K42q.1
      show Run _ _ _ _ (T42.setTop (mkF m 52 #[.val (.long p1), .second, .val (.long p2), .second, .val (.long p3), .second, .val (.long p4), .second, .val (.int p5), .val (.long rr), .second, .val (.long tt), .second, .val (.ref b25), .unset, .unset, .unset, .unset] [(.ref b34)]))
      refine Run.step (fun t k => XS.astore X42.here hx rfl (hb hby at_52) rfl rfl (l' := #[.val (.long p1), .second, .val (.long p2), .second, .val (.long p3), .second, .val (.long p4), .second, .val (.int p5), .val (.long rr), .second, .val (.long tt), .second, .val (.ref b25), .val (.ref b34), .unset, .unset, .unset]) rfl k) ?_
      show Run _ _ _ _ (T42.setTop (mkF m 54 #[.val (.long p1), .second, .val (.long p2), .second, .val (.long p3), .second, .val (.long p4), .second, .val (.int p5), .val (.long rr), .second, .val (.long tt), .second, .val (.ref b25), .val (.ref b34), .unset, .unset, .unset] []))
      refine Run.step (fun t k => XS.aload X42.here hx rfl (hb hby at_54) rfl rfl k) ?_
      show Run _ _ _ _ (T42.setTop (mkF m 56 #[.val (.long p1), .second, .val (.long p2), .second, .val (.long p3), .second, .val (.long p4), .second, .val (.int p5), .val (.long rr), .second, .val (.long tt), .second, .val (.ref b25), .val (.ref b34), .unset, .unset, .unset] [(.ref b25)]))
      refine Run.step (fun t k => XS.aload X42.here hx rfl (hb hby at_56) rfl rfl k) ?_
      show Run _ _ _ _ (T42.setTop (mkF m 58 #[.val (.long p1), .second, .val (.long p2), .second, .val (.long p3), .second, .val (.long p4), .second, .val (.int p5), .val (.long rr), .second, .val (.long tt), .second, .val (.ref b25), .val (.ref b34), .unset, .unset, .unset] [(.ref b34), (.ref b25)]))
      obtain ⟨cq50, kq50, q50a, q50b, q50c⟩ := isOf hZ rfl f43
      obtain ⟨_, _, ⟨T50, L50, k50, n50⟩, -, X50, ⟨Lc50, hQ50, l50, y50, z50⟩, st50⟩ := X42.virtualBack hx (y := (⟨"com/example/ringwell/ringwell/Ballot", "compareTo", "(Lcom/example/ringwell/ringwell/Ballot;)I"⟩ : MethodName)) (z := (⟨"com/example/ringwell/ringwell/Ballot", "compareTo", "(Lcom/example/ringwell/ringwell/Ballot;)I"⟩ : MethodName)) hown (mvT hZ w18) (mvT hZ w19) (notFace_of_selects (args := #[]) (mvT hZ w21)) (mvT hZ w21) (mvT hZ w20) (by decide) (backOf (W := 0) (rm4 l Z a0 hw [] b25 b34 p1 p2 rr tt T42.heap n0 z49 f44 f45 fr42 ft42) hZ w22 w2 (by decide) (by decide)) q50a q50c (g := (mkF m 58 #[.val (.long p1), .second, .val (.long p2), .second, .val (.long p3), .second, .val (.long p4), .second, .val (.int p5), .val (.long rr), .second, .val (.long tt), .second, .val (.ref b25), .val (.ref b34), .unset, .unset, .unset] [(.ref b34), (.ref b25)])) rfl (by rw [hml]; rfl) (Steps.refl _) (argsL := [(.ref b34)]) (rest := []) (lenOf pd__28Lcom_2fexample_2fringwell_2fringwell_2fBallot_3b_29I rfl) rfl (by show 2 * 0 + _ ≤ _; exact Nat.le_of_eq rfl) (hb hby at_58) (fun _ _ => ⟨rfl, rfl, (by decide : 2 + 0 ≤ _), (by decide : 4 + 0 ≤ _)⟩)
      dsimp only [Pt.U, Pt.locs, Pt.cells, Pt.slots] at X50 l50 y50 z50 st50 hQ50
      subst l50 y50 z50
      refine Run.step (fun t k => st50.trans k) ?_
      obtain ⟨rfl, N50q, e50q⟩ := hQ50
      have N50 := Fr.app N42 N50q
      show Run _ _ _ _ (T50.setTop (mkF m 61 #[.val (.long p1), .second, .val (.long p2), .second, .val (.long p3), .second, .val (.long p4), .second, .val (.int p5), .val (.long rr), .second, .val (.long tt), .second, .val (.ref b25), .val (.ref b34), .unset, .unset, .unset] [(.int (own_ord p1 p2 rr tt))]))
      refine Run.step (fun t k => XS.istore X50.here hx rfl (hb hby at_61) rfl (l' := #[.val (.long p1), .second, .val (.long p2), .second, .val (.long p3), .second, .val (.long p4), .second, .val (.int p5), .val (.long rr), .second, .val (.long tt), .second, .val (.ref b25), .val (.ref b34), .val (.int (own_ord p1 p2 rr tt)), .unset, .unset]) rfl k) ?_
      show Run _ _ _ _ (T50.setTop (mkF m 63 #[.val (.long p1), .second, .val (.long p2), .second, .val (.long p3), .second, .val (.long p4), .second, .val (.int p5), .val (.long rr), .second, .val (.long tt), .second, .val (.ref b25), .val (.ref b34), .val (.int (own_ord p1 p2 rr tt)), .unset, .unset] []))
      refine Run.step (fun t k => XS.lloadN X50.here hx rfl (hb hby at_63) rfl k) ?_
      show Run _ _ _ _ (T50.setTop (mkF m 64 #[.val (.long p1), .second, .val (.long p2), .second, .val (.long p3), .second, .val (.long p4), .second, .val (.int p5), .val (.long rr), .second, .val (.long tt), .second, .val (.ref b25), .val (.ref b34), .val (.int (own_ord p1 p2 rr tt)), .unset, .unset] [(.long p1)]))
      refine Run.step (fun t k => XS.lload X50.here hx rfl (hb hby at_64) rfl k) ?_
      show Run _ _ _ _ (T50.setTop (mkF m 66 #[.val (.long p1), .second, .val (.long p2), .second, .val (.long p3), .second, .val (.long p4), .second, .val (.int p5), .val (.long rr), .second, .val (.long tt), .second, .val (.ref b25), .val (.ref b34), .val (.int (own_ord p1 p2 rr tt)), .unset, .unset] [(.long rr), (.long p1)]))
      refine Run.step (fun t k => XS.lcmp X50.here hx rfl (hb hby at_66) rfl k) ?_
      show Run _ _ _ _ (T50.setTop (mkF m 67 #[.val (.long p1), .second, .val (.long p2), .second, .val (.long p3), .second, .val (.long p4), .second, .val (.int p5), .val (.long rr), .second, .val (.long tt), .second, .val (.ref b25), .val (.ref b34), .val (.int (own_ord p1 p2 rr tt)), .unset, .unset] [(.int (lcmpW p1 rr))]))
      have J51 : ∀ (TJ51 : State) (LJ51 : List Loc) (XJ51 : Stand p l e room_1 s m #[(.long p1), (.long p2), (.long p3), (.long p4), (.int p5)] below meth c TJ51 LJ51 2 4) (eJ51 : TJ51.heap = T42.heap) (NJ51 : Fr n0 LJ51) (want : Int32), want = own_want p1 p2 rr tt → Run p.tables e below (PQ s below 16 128 (Q0 Z p1 p2 p3 p4 p5 h0 n0)) (TJ51.setTop (mkF m 118 #[.val (.long p1), .second, .val (.long p2), .second, .val (.long p3), .second, .val (.long p4), .second, .val (.int p5), .val (.long rr), .second, .val (.long tt), .second, .val (.ref b25), .val (.ref b34), .val (.int (own_ord p1 p2 rr tt)), .val (.int want), .unset] [])) := by
        intro TJ51 LJ51 XJ51 eJ51 NJ51 want hv51
        refine Run.step (fun t k => XS.iload XJ51.here hx rfl (hb hby at_118) rfl k) ?_
        show Run _ _ _ _ (TJ51.setTop (mkF m 120 #[.val (.long p1), .second, .val (.long p2), .second, .val (.long p3), .second, .val (.long p4), .second, .val (.int p5), .val (.long rr), .second, .val (.long tt), .second, .val (.ref b25), .val (.ref b34), .val (.int (own_ord p1 p2 rr tt)), .val (.int want), .unset] [(.int (own_ord p1 p2 rr tt))]))
        have J52 : ∀ (TJ52 : State) (LJ52 : List Loc) (XJ52 : Stand p l e room_1 s m #[(.long p1), (.long p2), (.long p3), (.long p4), (.int p5)] below meth c TJ52 LJ52 2 4) (eJ52 : TJ52.heap = T42.heap) (NJ52 : Fr n0 LJ52) (sg : Int32), sg = own_sign (own_ord p1 p2 rr tt) → Run p.tables e below (PQ s below 16 128 (Q0 Z p1 p2 p3 p4 p5 h0 n0)) (TJ52.setTop (mkF m 137 #[.val (.long p1), .second, .val (.long p2), .second, .val (.long p3), .second, .val (.long p4), .second, .val (.int p5), .val (.long rr), .second, .val (.long tt), .second, .val (.ref b25), .val (.ref b34), .val (.int (own_ord p1 p2 rr tt)), .val (.int want), .unset] [(.int sg)])) := by
          intro TJ52 LJ52 XJ52 eJ52 NJ52 sg hv52
          refine Run.step (fun t k => XS.istore XJ52.here hx rfl (hb hby at_137) rfl (l' := #[.val (.long p1), .second, .val (.long p2), .second, .val (.long p3), .second, .val (.long p4), .second, .val (.int p5), .val (.long rr), .second, .val (.long tt), .second, .val (.ref b25), .val (.ref b34), .val (.int (own_ord p1 p2 rr tt)), .val (.int want), .val (.int sg)]) rfl k) ?_
          show Run _ _ _ _ (TJ52.setTop (mkF m 139 #[.val (.long p1), .second, .val (.long p2), .second, .val (.long p3), .second, .val (.long p4), .second, .val (.int p5), .val (.long rr), .second, .val (.long tt), .second, .val (.ref b25), .val (.ref b34), .val (.int (own_ord p1 p2 rr tt)), .val (.int want), .val (.int sg)] []))
          refine Run.step (fun t k => XS.iload XJ52.here hx rfl (hb hby at_139) rfl k) ?_
          show Run _ _ _ _ (TJ52.setTop (mkF m 141 #[.val (.long p1), .second, .val (.long p2), .second, .val (.long p3), .second, .val (.long p4), .second, .val (.int p5), .val (.long rr), .second, .val (.long tt), .second, .val (.ref b25), .val (.ref b34), .val (.int (own_ord p1 p2 rr tt)), .val (.int want), .val (.int sg)] [(.int sg)]))
          refine Run.step (fun t k => XS.iload XJ52.here hx rfl (hb hby at_141) rfl k) ?_
          show Run _ _ _ _ (TJ52.setTop (mkF m 143 #[.val (.long p1), .second, .val (.long p2), .second, .val (.long p3), .second, .val (.long p4), .second, .val (.int p5), .val (.long rr), .second, .val (.long tt), .second, .val (.ref b25), .val (.ref b34), .val (.int (own_ord p1 p2 rr tt)), .val (.int want), .val (.int sg)] [(.int want), (.int sg)]))
          refine Run.step (fun t k => XS.icmpNo XJ52.here hx rfl (hb hby at_143) rfl (XT.ii_ne_f ((by rw [hv52, hv51]; exact own_law _ _ _ _) : sg = want)) k) ?_
          show Run _ _ _ _ (TJ52.setTop (mkF m 146 #[.val (.long p1), .second, .val (.long p2), .second, .val (.long p3), .second, .val (.long p4), .second, .val (.int p5), .val (.long rr), .second, .val (.long tt), .second, .val (.ref b25), .val (.ref b34), .val (.int (own_ord p1 p2 rr tt)), .val (.int want), .val (.int sg)] []))
          refine Run.step (fun t k => XS.iconst XJ52.here hx rfl (hb hby at_146) k) ?_
          show Run _ _ _ _ (TJ52.setTop (mkF m 147 #[.val (.long p1), .second, .val (.long p2), .second, .val (.long p3), .second, .val (.long p4), .second, .val (.int p5), .val (.long rr), .second, .val (.long tt), .second, .val (.ref b25), .val (.ref b34), .val (.int (own_ord p1 p2 rr tt)), .val (.int want), .val (.int sg)] [(.int (1 : Int32))]))
          refine Run.step (fun t k => XS.goto XJ52.here hx rfl (pc0 := 147) (pc' := 151) rfl (hb hby at_147) (by decide) (by decide) k) ?_
          show Run _ _ _ _ (TJ52.setTop (mkF m 151 #[.val (.long p1), .second, .val (.long p2), .second, .val (.long p3), .second, .val (.long p4), .second, .val (.int p5), .val (.long rr), .second, .val (.long tt), .second, .val (.ref b25), .val (.ref b34), .val (.int (own_ord p1 p2 rr tt)), .val (.int want), .val (.int sg)] [(.int (1 : Int32))]))
          exact finZ XJ52 hx (BodyLoose.notSynchronized Bd) Bd.returns (hb hby at_151) (by decide) (by decide) (by decide) eJ52 ⟨rfl, NJ52⟩
        by_cases c120 : (0 : Int32) < (own_ord p1 p2 rr tt)
        · skip
          refine Run.step (fun t k => XS.ifNo XJ51.here hx rfl (hb hby at_120) rfl (XT.i0_le_f c120) k) ?_
          show Run _ _ _ _ (TJ51.setTop (mkF m 123 #[.val (.long p1), .second, .val (.long p2), .second, .val (.long p3), .second, .val (.long p4), .second, .val (.int p5), .val (.long rr), .second, .val (.long tt), .second, .val (.ref b25), .val (.ref b34), .val (.int (own_ord p1 p2 rr tt)), .val (.int want), .unset] []))
          refine Run.step (fun t k => XS.iconst XJ51.here hx rfl (hb hby at_123) k) ?_
          show Run _ _ _ _ (TJ51.setTop (mkF m 124 #[.val (.long p1), .second, .val (.long p2), .second, .val (.long p3), .second, .val (.long p4), .second, .val (.int p5), .val (.long rr), .second, .val (.long tt), .second, .val (.ref b25), .val (.ref b34), .val (.int (own_ord p1 p2 rr tt)), .val (.int want), .unset] [(.int (1 : Int32))]))
          refine Run.step (fun t k => XS.goto XJ51.here hx rfl (pc0 := 124) (pc' := 137) rfl (hb hby at_124) (by decide) (by decide) k) ?_
          show Run _ _ _ _ (TJ51.setTop (mkF m 137 #[.val (.long p1), .second, .val (.long p2), .second, .val (.long p3), .second, .val (.long p4), .second, .val (.int p5), .val (.long rr), .second, .val (.long tt), .second, .val (.ref b25), .val (.ref b34), .val (.int (own_ord p1 p2 rr tt)), .val (.int want), .unset] [(.int (1 : Int32))]))
          exact J52 _ _ XJ51 eJ51 NJ51 (1 : Int32) (by simp [own_sign, c120])
        · skip
          refine Run.step (fun t k => XS.ifYes XJ51.here hx rfl (pc0 := 120) (pc' := 127) rfl (hb hby at_120) rfl (XT.i0_le_t c120) (by decide) (by decide) k) ?_
          show Run _ _ _ _ (TJ51.setTop (mkF m 127 #[.val (.long p1), .second, .val (.long p2), .second, .val (.long p3), .second, .val (.long p4), .second, .val (.int p5), .val (.long rr), .second, .val (.long tt), .second, .val (.ref b25), .val (.ref b34), .val (.int (own_ord p1 p2 rr tt)), .val (.int want), .unset] []))
          refine Run.step (fun t k => XS.iload XJ51.here hx rfl (hb hby at_127) rfl k) ?_
          show Run _ _ _ _ (TJ51.setTop (mkF m 129 #[.val (.long p1), .second, .val (.long p2), .second, .val (.long p3), .second, .val (.long p4), .second, .val (.int p5), .val (.long rr), .second, .val (.long tt), .second, .val (.ref b25), .val (.ref b34), .val (.int (own_ord p1 p2 rr tt)), .val (.int want), .unset] [(.int (own_ord p1 p2 rr tt))]))
          by_cases c129 : (own_ord p1 p2 rr tt) < (0 : Int32)
          · skip
            refine Run.step (fun t k => XS.ifNo XJ51.here hx rfl (hb hby at_129) rfl (XT.i0_ge_f c129) k) ?_
            show Run _ _ _ _ (TJ51.setTop (mkF m 132 #[.val (.long p1), .second, .val (.long p2), .second, .val (.long p3), .second, .val (.long p4), .second, .val (.int p5), .val (.long rr), .second, .val (.long tt), .second, .val (.ref b25), .val (.ref b34), .val (.int (own_ord p1 p2 rr tt)), .val (.int want), .unset] []))
            refine Run.step (fun t k => XS.iconst XJ51.here hx rfl (hb hby at_132) k) ?_
            show Run _ _ _ _ (TJ51.setTop (mkF m 133 #[.val (.long p1), .second, .val (.long p2), .second, .val (.long p3), .second, .val (.long p4), .second, .val (.int p5), .val (.long rr), .second, .val (.long tt), .second, .val (.ref b25), .val (.ref b34), .val (.int (own_ord p1 p2 rr tt)), .val (.int want), .unset] [(.int (-1 : Int32))]))
            refine Run.step (fun t k => XS.goto XJ51.here hx rfl (pc0 := 133) (pc' := 137) rfl (hb hby at_133) (by decide) (by decide) k) ?_
            show Run _ _ _ _ (TJ51.setTop (mkF m 137 #[.val (.long p1), .second, .val (.long p2), .second, .val (.long p3), .second, .val (.long p4), .second, .val (.int p5), .val (.long rr), .second, .val (.long tt), .second, .val (.ref b25), .val (.ref b34), .val (.int (own_ord p1 p2 rr tt)), .val (.int want), .unset] [(.int (-1 : Int32))]))
            exact J52 _ _ XJ51 eJ51 NJ51 (-1 : Int32) (by simp [own_sign, c120, c129])
          · skip
            refine Run.step (fun t k => XS.ifYes XJ51.here hx rfl (pc0 := 129) (pc' := 136) rfl (hb hby at_129) rfl (XT.i0_ge_t c129) (by decide) (by decide) k) ?_
            show Run _ _ _ _ (TJ51.setTop (mkF m 136 #[.val (.long p1), .second, .val (.long p2), .second, .val (.long p3), .second, .val (.long p4), .second, .val (.int p5), .val (.long rr), .second, .val (.long tt), .second, .val (.ref b25), .val (.ref b34), .val (.int (own_ord p1 p2 rr tt)), .val (.int want), .unset] []))
            refine Run.step (fun t k => XS.iconst XJ51.here hx rfl (hb hby at_136) k) ?_
            show Run _ _ _ _ (TJ51.setTop (mkF m 137 #[.val (.long p1), .second, .val (.long p2), .second, .val (.long p3), .second, .val (.long p4), .second, .val (.int p5), .val (.long rr), .second, .val (.long tt), .second, .val (.ref b25), .val (.ref b34), .val (.int (own_ord p1 p2 rr tt)), .val (.int want), .unset] [(.int (0 : Int32))]))
            exact J52 _ _ XJ51 eJ51 NJ51 (0 : Int32) (by simp [own_sign, c120, c129])
      by_cases c67 : p1 < rr
      · skip
        refine Run.step (fun t k => XS.ifNo X50.here hx rfl (hb hby at_67) rfl (XT.ll_ge_f c67) k) ?_
        show Run _ _ _ _ (T50.setTop (mkF m 70 #[.val (.long p1), .second, .val (.long p2), .second, .val (.long p3), .second, .val (.long p4), .second, .val (.int p5), .val (.long rr), .second, .val (.long tt), .second, .val (.ref b25), .val (.ref b34), .val (.int (own_ord p1 p2 rr tt)), .unset, .unset] []))
        refine Run.step (fun t k => XS.iconst X50.here hx rfl (hb hby at_70) k) ?_
        show Run _ _ _ _ (T50.setTop (mkF m 71 #[.val (.long p1), .second, .val (.long p2), .second, .val (.long p3), .second, .val (.long p4), .second, .val (.int p5), .val (.long rr), .second, .val (.long tt), .second, .val (.ref b25), .val (.ref b34), .val (.int (own_ord p1 p2 rr tt)), .unset, .unset] [(.int (-1 : Int32))]))
        refine Run.step (fun t k => XS.istore X50.here hx rfl (hb hby at_71) rfl (l' := #[.val (.long p1), .second, .val (.long p2), .second, .val (.long p3), .second, .val (.long p4), .second, .val (.int p5), .val (.long rr), .second, .val (.long tt), .second, .val (.ref b25), .val (.ref b34), .val (.int (own_ord p1 p2 rr tt)), .val (.int (-1 : Int32)), .unset]) rfl k) ?_
        show Run _ _ _ _ (T50.setTop (mkF m 73 #[.val (.long p1), .second, .val (.long p2), .second, .val (.long p3), .second, .val (.long p4), .second, .val (.int p5), .val (.long rr), .second, .val (.long tt), .second, .val (.ref b25), .val (.ref b34), .val (.int (own_ord p1 p2 rr tt)), .val (.int (-1 : Int32)), .unset] []))
        refine Run.step (fun t k => XS.goto X50.here hx rfl (pc0 := 73) (pc' := 118) rfl (hb hby at_73) (by decide) (by decide) k) ?_
        show Run _ _ _ _ (T50.setTop (mkF m 118 #[.val (.long p1), .second, .val (.long p2), .second, .val (.long p3), .second, .val (.long p4), .second, .val (.int p5), .val (.long rr), .second, .val (.long tt), .second, .val (.ref b25), .val (.ref b34), .val (.int (own_ord p1 p2 rr tt)), .val (.int (-1 : Int32)), .unset] []))
        exact J51 _ _ X50 e50q N50 (-1 : Int32) (by simp [own_want, c67])
      · skip
        refine Run.step (fun t k => XS.ifYes X50.here hx rfl (pc0 := 67) (pc' := 76) rfl (hb hby at_67) rfl (XT.ll_ge_t c67) (by decide) (by decide) k) ?_
        show Run _ _ _ _ (T50.setTop (mkF m 76 #[.val (.long p1), .second, .val (.long p2), .second, .val (.long p3), .second, .val (.long p4), .second, .val (.int p5), .val (.long rr), .second, .val (.long tt), .second, .val (.ref b25), .val (.ref b34), .val (.int (own_ord p1 p2 rr tt)), .unset, .unset] []))
        refine Run.step (fun t k => XS.lloadN X50.here hx rfl (hb hby at_76) rfl k) ?_
        show Run _ _ _ _ (T50.setTop (mkF m 77 #[.val (.long p1), .second, .val (.long p2), .second, .val (.long p3), .second, .val (.long p4), .second, .val (.int p5), .val (.long rr), .second, .val (.long tt), .second, .val (.ref b25), .val (.ref b34), .val (.int (own_ord p1 p2 rr tt)), .unset, .unset] [(.long p1)]))
        refine Run.step (fun t k => XS.lload X50.here hx rfl (hb hby at_77) rfl k) ?_
        show Run _ _ _ _ (T50.setTop (mkF m 79 #[.val (.long p1), .second, .val (.long p2), .second, .val (.long p3), .second, .val (.long p4), .second, .val (.int p5), .val (.long rr), .second, .val (.long tt), .second, .val (.ref b25), .val (.ref b34), .val (.int (own_ord p1 p2 rr tt)), .unset, .unset] [(.long rr), (.long p1)]))
        refine Run.step (fun t k => XS.lcmp X50.here hx rfl (hb hby at_79) rfl k) ?_
        show Run _ _ _ _ (T50.setTop (mkF m 80 #[.val (.long p1), .second, .val (.long p2), .second, .val (.long p3), .second, .val (.long p4), .second, .val (.int p5), .val (.long rr), .second, .val (.long tt), .second, .val (.ref b25), .val (.ref b34), .val (.int (own_ord p1 p2 rr tt)), .unset, .unset] [(.int (lcmpW p1 rr))]))
        by_cases c80 : rr < p1
        · skip
          refine Run.step (fun t k => XS.ifNo X50.here hx rfl (hb hby at_80) rfl (XT.ll_le_f c80) k) ?_
          show Run _ _ _ _ (T50.setTop (mkF m 83 #[.val (.long p1), .second, .val (.long p2), .second, .val (.long p3), .second, .val (.long p4), .second, .val (.int p5), .val (.long rr), .second, .val (.long tt), .second, .val (.ref b25), .val (.ref b34), .val (.int (own_ord p1 p2 rr tt)), .unset, .unset] []))
          refine Run.step (fun t k => XS.iconst X50.here hx rfl (hb hby at_83) k) ?_
          show Run _ _ _ _ (T50.setTop (mkF m 84 #[.val (.long p1), .second, .val (.long p2), .second, .val (.long p3), .second, .val (.long p4), .second, .val (.int p5), .val (.long rr), .second, .val (.long tt), .second, .val (.ref b25), .val (.ref b34), .val (.int (own_ord p1 p2 rr tt)), .unset, .unset] [(.int (1 : Int32))]))
          refine Run.step (fun t k => XS.istore X50.here hx rfl (hb hby at_84) rfl (l' := #[.val (.long p1), .second, .val (.long p2), .second, .val (.long p3), .second, .val (.long p4), .second, .val (.int p5), .val (.long rr), .second, .val (.long tt), .second, .val (.ref b25), .val (.ref b34), .val (.int (own_ord p1 p2 rr tt)), .val (.int (1 : Int32)), .unset]) rfl k) ?_
          show Run _ _ _ _ (T50.setTop (mkF m 86 #[.val (.long p1), .second, .val (.long p2), .second, .val (.long p3), .second, .val (.long p4), .second, .val (.int p5), .val (.long rr), .second, .val (.long tt), .second, .val (.ref b25), .val (.ref b34), .val (.int (own_ord p1 p2 rr tt)), .val (.int (1 : Int32)), .unset] []))
          refine Run.step (fun t k => XS.goto X50.here hx rfl (pc0 := 86) (pc' := 118) rfl (hb hby at_86) (by decide) (by decide) k) ?_
          show Run _ _ _ _ (T50.setTop (mkF m 118 #[.val (.long p1), .second, .val (.long p2), .second, .val (.long p3), .second, .val (.long p4), .second, .val (.int p5), .val (.long rr), .second, .val (.long tt), .second, .val (.ref b25), .val (.ref b34), .val (.int (own_ord p1 p2 rr tt)), .val (.int (1 : Int32)), .unset] []))
          exact J51 _ _ X50 e50q N50 (1 : Int32) (by simp [own_want, c67, c80])
        · skip
          refine Run.step (fun t k => XS.ifYes X50.here hx rfl (pc0 := 80) (pc' := 89) rfl (hb hby at_80) rfl (XT.ll_le_t c80) (by decide) (by decide) k) ?_
          show Run _ _ _ _ (T50.setTop (mkF m 89 #[.val (.long p1), .second, .val (.long p2), .second, .val (.long p3), .second, .val (.long p4), .second, .val (.int p5), .val (.long rr), .second, .val (.long tt), .second, .val (.ref b25), .val (.ref b34), .val (.int (own_ord p1 p2 rr tt)), .unset, .unset] []))
          refine Run.step (fun t k => XS.lloadN X50.here hx rfl (hb hby at_89) rfl k) ?_
          show Run _ _ _ _ (T50.setTop (mkF m 90 #[.val (.long p1), .second, .val (.long p2), .second, .val (.long p3), .second, .val (.long p4), .second, .val (.int p5), .val (.long rr), .second, .val (.long tt), .second, .val (.ref b25), .val (.ref b34), .val (.int (own_ord p1 p2 rr tt)), .unset, .unset] [(.long p2)]))
          refine Run.step (fun t k => XS.lload X50.here hx rfl (hb hby at_90) rfl k) ?_
          show Run _ _ _ _ (T50.setTop (mkF m 92 #[.val (.long p1), .second, .val (.long p2), .second, .val (.long p3), .second, .val (.long p4), .second, .val (.int p5), .val (.long rr), .second, .val (.long tt), .second, .val (.ref b25), .val (.ref b34), .val (.int (own_ord p1 p2 rr tt)), .unset, .unset] [(.long tt), (.long p2)]))
          refine Run.step (fun t k => XS.lcmp X50.here hx rfl (hb hby at_92) rfl k) ?_
          show Run _ _ _ _ (T50.setTop (mkF m 93 #[.val (.long p1), .second, .val (.long p2), .second, .val (.long p3), .second, .val (.long p4), .second, .val (.int p5), .val (.long rr), .second, .val (.long tt), .second, .val (.ref b25), .val (.ref b34), .val (.int (own_ord p1 p2 rr tt)), .unset, .unset] [(.int (lcmpW p2 tt))]))
          by_cases c93 : p2 < tt
          · skip
            refine Run.step (fun t k => XS.ifNo X50.here hx rfl (hb hby at_93) rfl (XT.ll_ge_f c93) k) ?_
            show Run _ _ _ _ (T50.setTop (mkF m 96 #[.val (.long p1), .second, .val (.long p2), .second, .val (.long p3), .second, .val (.long p4), .second, .val (.int p5), .val (.long rr), .second, .val (.long tt), .second, .val (.ref b25), .val (.ref b34), .val (.int (own_ord p1 p2 rr tt)), .unset, .unset] []))
            refine Run.step (fun t k => XS.iconst X50.here hx rfl (hb hby at_96) k) ?_
            show Run _ _ _ _ (T50.setTop (mkF m 97 #[.val (.long p1), .second, .val (.long p2), .second, .val (.long p3), .second, .val (.long p4), .second, .val (.int p5), .val (.long rr), .second, .val (.long tt), .second, .val (.ref b25), .val (.ref b34), .val (.int (own_ord p1 p2 rr tt)), .unset, .unset] [(.int (-1 : Int32))]))
            refine Run.step (fun t k => XS.istore X50.here hx rfl (hb hby at_97) rfl (l' := #[.val (.long p1), .second, .val (.long p2), .second, .val (.long p3), .second, .val (.long p4), .second, .val (.int p5), .val (.long rr), .second, .val (.long tt), .second, .val (.ref b25), .val (.ref b34), .val (.int (own_ord p1 p2 rr tt)), .val (.int (-1 : Int32)), .unset]) rfl k) ?_
            show Run _ _ _ _ (T50.setTop (mkF m 99 #[.val (.long p1), .second, .val (.long p2), .second, .val (.long p3), .second, .val (.long p4), .second, .val (.int p5), .val (.long rr), .second, .val (.long tt), .second, .val (.ref b25), .val (.ref b34), .val (.int (own_ord p1 p2 rr tt)), .val (.int (-1 : Int32)), .unset] []))
            refine Run.step (fun t k => XS.goto X50.here hx rfl (pc0 := 99) (pc' := 118) rfl (hb hby at_99) (by decide) (by decide) k) ?_
            show Run _ _ _ _ (T50.setTop (mkF m 118 #[.val (.long p1), .second, .val (.long p2), .second, .val (.long p3), .second, .val (.long p4), .second, .val (.int p5), .val (.long rr), .second, .val (.long tt), .second, .val (.ref b25), .val (.ref b34), .val (.int (own_ord p1 p2 rr tt)), .val (.int (-1 : Int32)), .unset] []))
            exact J51 _ _ X50 e50q N50 (-1 : Int32) (by simp [own_want, c67, c80, c93])
          · skip
            refine Run.step (fun t k => XS.ifYes X50.here hx rfl (pc0 := 93) (pc' := 102) rfl (hb hby at_93) rfl (XT.ll_ge_t c93) (by decide) (by decide) k) ?_
            show Run _ _ _ _ (T50.setTop (mkF m 102 #[.val (.long p1), .second, .val (.long p2), .second, .val (.long p3), .second, .val (.long p4), .second, .val (.int p5), .val (.long rr), .second, .val (.long tt), .second, .val (.ref b25), .val (.ref b34), .val (.int (own_ord p1 p2 rr tt)), .unset, .unset] []))
            refine Run.step (fun t k => XS.lloadN X50.here hx rfl (hb hby at_102) rfl k) ?_
            show Run _ _ _ _ (T50.setTop (mkF m 103 #[.val (.long p1), .second, .val (.long p2), .second, .val (.long p3), .second, .val (.long p4), .second, .val (.int p5), .val (.long rr), .second, .val (.long tt), .second, .val (.ref b25), .val (.ref b34), .val (.int (own_ord p1 p2 rr tt)), .unset, .unset] [(.long p2)]))
            refine Run.step (fun t k => XS.lload X50.here hx rfl (hb hby at_103) rfl k) ?_
            show Run _ _ _ _ (T50.setTop (mkF m 105 #[.val (.long p1), .second, .val (.long p2), .second, .val (.long p3), .second, .val (.long p4), .second, .val (.int p5), .val (.long rr), .second, .val (.long tt), .second, .val (.ref b25), .val (.ref b34), .val (.int (own_ord p1 p2 rr tt)), .unset, .unset] [(.long tt), (.long p2)]))
            refine Run.step (fun t k => XS.lcmp X50.here hx rfl (hb hby at_105) rfl k) ?_
            show Run _ _ _ _ (T50.setTop (mkF m 106 #[.val (.long p1), .second, .val (.long p2), .second, .val (.long p3), .second, .val (.long p4), .second, .val (.int p5), .val (.long rr), .second, .val (.long tt), .second, .val (.ref b25), .val (.ref b34), .val (.int (own_ord p1 p2 rr tt)), .unset, .unset] [(.int (lcmpW p2 tt))]))
            by_cases c106 : tt < p2
            · skip
              refine Run.step (fun t k => XS.ifNo X50.here hx rfl (hb hby at_106) rfl (XT.ll_le_f c106) k) ?_
              show Run _ _ _ _ (T50.setTop (mkF m 109 #[.val (.long p1), .second, .val (.long p2), .second, .val (.long p3), .second, .val (.long p4), .second, .val (.int p5), .val (.long rr), .second, .val (.long tt), .second, .val (.ref b25), .val (.ref b34), .val (.int (own_ord p1 p2 rr tt)), .unset, .unset] []))
              refine Run.step (fun t k => XS.iconst X50.here hx rfl (hb hby at_109) k) ?_
              show Run _ _ _ _ (T50.setTop (mkF m 110 #[.val (.long p1), .second, .val (.long p2), .second, .val (.long p3), .second, .val (.long p4), .second, .val (.int p5), .val (.long rr), .second, .val (.long tt), .second, .val (.ref b25), .val (.ref b34), .val (.int (own_ord p1 p2 rr tt)), .unset, .unset] [(.int (1 : Int32))]))
              refine Run.step (fun t k => XS.istore X50.here hx rfl (hb hby at_110) rfl (l' := #[.val (.long p1), .second, .val (.long p2), .second, .val (.long p3), .second, .val (.long p4), .second, .val (.int p5), .val (.long rr), .second, .val (.long tt), .second, .val (.ref b25), .val (.ref b34), .val (.int (own_ord p1 p2 rr tt)), .val (.int (1 : Int32)), .unset]) rfl k) ?_
              show Run _ _ _ _ (T50.setTop (mkF m 112 #[.val (.long p1), .second, .val (.long p2), .second, .val (.long p3), .second, .val (.long p4), .second, .val (.int p5), .val (.long rr), .second, .val (.long tt), .second, .val (.ref b25), .val (.ref b34), .val (.int (own_ord p1 p2 rr tt)), .val (.int (1 : Int32)), .unset] []))
              refine Run.step (fun t k => XS.goto X50.here hx rfl (pc0 := 112) (pc' := 118) rfl (hb hby at_112) (by decide) (by decide) k) ?_
              show Run _ _ _ _ (T50.setTop (mkF m 118 #[.val (.long p1), .second, .val (.long p2), .second, .val (.long p3), .second, .val (.long p4), .second, .val (.int p5), .val (.long rr), .second, .val (.long tt), .second, .val (.ref b25), .val (.ref b34), .val (.int (own_ord p1 p2 rr tt)), .val (.int (1 : Int32)), .unset] []))
              exact J51 _ _ X50 e50q N50 (1 : Int32) (by simp [own_want, c67, c80, c93, c106])
            · skip
              refine Run.step (fun t k => XS.ifYes X50.here hx rfl (pc0 := 106) (pc' := 115) rfl (hb hby at_106) rfl (XT.ll_le_t c106) (by decide) (by decide) k) ?_
              show Run _ _ _ _ (T50.setTop (mkF m 115 #[.val (.long p1), .second, .val (.long p2), .second, .val (.long p3), .second, .val (.long p4), .second, .val (.int p5), .val (.long rr), .second, .val (.long tt), .second, .val (.ref b25), .val (.ref b34), .val (.int (own_ord p1 p2 rr tt)), .unset, .unset] []))
              refine Run.step (fun t k => XS.iconst X50.here hx rfl (hb hby at_115) k) ?_
              show Run _ _ _ _ (T50.setTop (mkF m 116 #[.val (.long p1), .second, .val (.long p2), .second, .val (.long p3), .second, .val (.long p4), .second, .val (.int p5), .val (.long rr), .second, .val (.long tt), .second, .val (.ref b25), .val (.ref b34), .val (.int (own_ord p1 p2 rr tt)), .unset, .unset] [(.int (0 : Int32))]))
              refine Run.step (fun t k => XS.istore X50.here hx rfl (hb hby at_116) rfl (l' := #[.val (.long p1), .second, .val (.long p2), .second, .val (.long p3), .second, .val (.long p4), .second, .val (.int p5), .val (.long rr), .second, .val (.long tt), .second, .val (.ref b25), .val (.ref b34), .val (.int (own_ord p1 p2 rr tt)), .val (.int (0 : Int32)), .unset]) rfl k) ?_
              show Run _ _ _ _ (T50.setTop (mkF m 118 #[.val (.long p1), .second, .val (.long p2), .second, .val (.long p3), .second, .val (.long p4), .second, .val (.int p5), .val (.long rr), .second, .val (.long tt), .second, .val (.ref b25), .val (.ref b34), .val (.int (own_ord p1 p2 rr tt)), .val (.int (0 : Int32)), .unset] []))
              exact J51 _ _ X50 e50q N50 (0 : Int32) (by simp [own_want, c67, c80, c93, c106])
    by_cases c19 : (p5 &&& (2 : Int32)) = (0 : Int32)
    · skip
      refine Run.step (fun t k => XS.ifYes XJ23.here hx rfl (pc0 := 19) (pc' := 26) rfl (hb hby at_19) rfl (XT.i0_eq_t c19) (by decide) (by decide) k) ?_
      show Run _ _ _ _ (TJ23.setTop (mkF m 26 #[.val (.long p1), .second, .val (.long p2), .second, .val (.long p3), .second, .val (.long p4), .second, .val (.int p5), .val (.long rr), .second, .unset, .unset, .unset, .unset, .unset, .unset, .unset] []))
      refine Run.step (fun t k => XS.lload XJ23.here hx rfl (hb hby at_26) rfl k) ?_
      show Run _ _ _ _ (TJ23.setTop (mkF m 28 #[.val (.long p1), .second, .val (.long p2), .second, .val (.long p3), .second, .val (.long p4), .second, .val (.int p5), .val (.long rr), .second, .unset, .unset, .unset, .unset, .unset, .unset, .unset] [(.long p4)]))
      exact J24 _ _ XJ23 eJ23 NJ23 p4 trivial
    · skip
      refine Run.step (fun t k => XS.ifNo XJ23.here hx rfl (hb hby at_19) rfl (XT.i0_eq_f c19) k) ?_
      show Run _ _ _ _ (TJ23.setTop (mkF m 22 #[.val (.long p1), .second, .val (.long p2), .second, .val (.long p3), .second, .val (.long p4), .second, .val (.int p5), .val (.long rr), .second, .unset, .unset, .unset, .unset, .unset, .unset, .unset] []))
      refine Run.step (fun t k => XS.lloadN XJ23.here hx rfl (hb hby at_22) rfl k) ?_
      show Run _ _ _ _ (TJ23.setTop (mkF m 23 #[.val (.long p1), .second, .val (.long p2), .second, .val (.long p3), .second, .val (.long p4), .second, .val (.int p5), .val (.long rr), .second, .unset, .unset, .unset, .unset, .unset, .unset, .unset] [(.long p2)]))
      refine Run.step (fun t k => XS.goto XJ23.here hx rfl (pc0 := 23) (pc' := 28) rfl (hb hby at_23) (by decide) (by decide) k) ?_
      show Run _ _ _ _ (TJ23.setTop (mkF m 28 #[.val (.long p1), .second, .val (.long p2), .second, .val (.long p3), .second, .val (.long p4), .second, .val (.int p5), .val (.long rr), .second, .unset, .unset, .unset, .unset, .unset, .unset, .unset] [(.long p2)]))
      exact J24 _ _ XJ23 eJ23 NJ23 p2 trivial
  by_cases c4 : (p5 &&& (1 : Int32)) = (0 : Int32)
  · skip
    refine Run.step (fun t k => XS.ifYes X0.here hx rfl (pc0 := 4) (pc' := 11) rfl (hb hby at_4) rfl (XT.i0_eq_t c4) (by decide) (by decide) k) ?_
    show Run _ _ _ _ (s₁.setTop (mkF m 11 #[.val (.long p1), .second, .val (.long p2), .second, .val (.long p3), .second, .val (.long p4), .second, .val (.int p5), .unset, .unset, .unset, .unset, .unset, .unset, .unset, .unset, .unset] []))
    refine Run.step (fun t k => XS.lload X0.here hx rfl (hb hby at_11) rfl k) ?_
    show Run _ _ _ _ (s₁.setTop (mkF m 13 #[.val (.long p1), .second, .val (.long p2), .second, .val (.long p3), .second, .val (.long p4), .second, .val (.int p5), .unset, .unset, .unset, .unset, .unset, .unset, .unset, .unset, .unset] [(.long p3)]))
    exact J23 _ _ X0 e0 N0 p3 trivial
  · skip
    refine Run.step (fun t k => XS.ifNo X0.here hx rfl (hb hby at_4) rfl (XT.i0_eq_f c4) k) ?_
    show Run _ _ _ _ (s₁.setTop (mkF m 7 #[.val (.long p1), .second, .val (.long p2), .second, .val (.long p3), .second, .val (.long p4), .second, .val (.int p5), .unset, .unset, .unset, .unset, .unset, .unset, .unset, .unset, .unset] []))
    refine Run.step (fun t k => XS.lloadN X0.here hx rfl (hb hby at_7) rfl k) ?_
    show Run _ _ _ _ (s₁.setTop (mkF m 8 #[.val (.long p1), .second, .val (.long p2), .second, .val (.long p3), .second, .val (.long p4), .second, .val (.int p5), .unset, .unset, .unset, .unset, .unset, .unset, .unset, .unset, .unset] [(.long p1)]))
    refine Run.step (fun t k => XS.goto X0.here hx rfl (pc0 := 8) (pc' := 13) rfl (hb hby at_8) (by decide) (by decide) k) ?_
    show Run _ _ _ _ (s₁.setTop (mkF m 13 #[.val (.long p1), .second, .val (.long p2), .second, .val (.long p3), .second, .val (.long p4), .second, .val (.int p5), .unset, .unset, .unset, .unset, .unset, .unset, .unset, .unset, .unset] [(.long p1)]))
    exact J23 _ _ X0 e0 N0 p1 trivial
set_option maxRecDepth 65536 in
set_option maxHeartbeats 40000000 in
theorem comes_1 {Post : Tables → Env → Array Value → State → Outcome → State → Prop} (hpost : ∀ tb e args s v u, (limb_1_1.after args s (.returned v) u = true ∧ limb_1_2.after args s (.returned v) u = true ∧ True) → FrameEnd s (.returned v) u (Jvm.fieldLocs frame_1_writes args s ++ Jvm.arrayLocs frame_1_arrays args s ++ Jvm.staticLocs frame_1_statics s) 16 128 → Post tb e args s (.returned v) u) :
    ArmFor flags0 classFile x code maxLocals ret World_1 tables_1 room_1 Calls_1 rest_1 Pre_1 Post := by
  intro l hfl _ _ p e ha hc hk s m args below hf hA hF happ hP
  obtain ⟨hcalls, hrest, hpre⟩ := hP
  obtain ⟨-, -, -, hnamed, -, -, -, hat⟩ := (Spec.applies_iff hf).mp happ
  obtain ⟨hg, hn⟩ := and_e (Cond.before_iff.mp (show (Jvm.Cond.and given_1 narrow_1).before args s = true from hpre))
  obtain ⟨h1, h2⟩ := and_e hg
  obtain ⟨w0, w1, w2, w3, w4, rfl⟩ : ∃ w0 w1 w2 w3 w4 : Value, args = #[w0, w1, w2, w3, w4] := by
    have hs : args.size = 5 := by simpa [Cond.value, given_1] using h1
    obtain ⟨L⟩ := args
    match L, hs with
    | [w0, w1, w2, w3, w4], _ => exact ⟨w0, w1, w2, w3, w4, rfl⟩
  have hw := fun d (hd : d ∈ tables_1) => atoms_spec (ws := Jvm.Cond.code x code maxLocals ret :: tables_1) hat d (List.mem_cons_of_mem _ hd)
  have hfit : Fit s := fun {y c} hc i hi => by
    obtain ⟨ha, rfl⟩ := Array.getElem?_eq_some_iff.mp hc
    have q := List.all_eq_true.mp ((Array.all_eq_true_iff_forall_mem.mp hF) _ (Array.getElem_mem ha)) i (List.mem_range.mpr hi)
    simpa [Array.getElem?_eq_getElem hi] using q
  obtain ⟨a0, t0⟩ := and_e h2
  obtain ⟨i0, q0⟩ := isL_v a0
  obtain rfl : w0 = (.long i0) := Option.some.inj q0
  obtain ⟨a1, t1⟩ := and_e t0
  obtain ⟨i1, q1⟩ := isL_v a1
  obtain rfl : w1 = (.long i1) := Option.some.inj q1
  obtain ⟨a2, t2⟩ := and_e t1
  obtain ⟨i2, q2⟩ := isL_v a2
  obtain rfl : w2 = (.long i2) := Option.some.inj q2
  obtain ⟨a3, t3⟩ := and_e t2
  obtain ⟨i3, q3⟩ := isL_v a3
  obtain rfl : w3 = (.long i3) := Option.some.inj q3
  obtain ⟨i4, q4⟩ := is_v t3
  obtain rfl : w4 = (.int i4) := Option.some.inj q4
  obtain ⟨n, o, g1, g2, g3, _, L, rfl, ⟨rfl, N⟩, hq⟩ := rm0 l s _ hw tables_1 i0 i1 i2 i3 i4 s.heap s.heap.size (Nat.le_refl _) p e ha hc hk s m _ below hf ((Spec.applies_iff_loose hf).mp happ).1 ⟨rfl, State.Warmed39.refl s, rfl⟩ trivial
  refine ⟨n, _, g1, g2, g3, hpost _ _ _ _ _ _ ⟨Cond.after_iff.mpr rfl, Cond.after_iff.mpr (eq_i res_at (Term.int_eval (1)) rfl), trivial⟩ ⟨hq.1, hq.2.1, (hq.2.2.sift fun y hy => Or.inr (N y hy)).mono (by decide) (by decide)⟩⟩
theorem main_1_1 : Claimed_1_1 := comes_1 fun _ _ _ _ _ _ h hF => ⟨h.1, hF⟩
theorem main_1_2 : Claimed_1_2 := comes_1 fun _ _ _ _ _ _ h hF => ⟨h.2.1, hF⟩
end Jvm.Pilot.@@N@@
namespace Jvm.Pilot.@@N@@
open Jvm Jvm.ClassFile Sem Op Lib Jvm.Free Jvm.Stand Jvm.Pilot.@@N@@.Jvm.D
/-! MADE BY PROGRAM (witnessworld.py) out of the Statement's table words and the real class files: 15 classes; the members and pool entries that the words name. The judged class is class 1, her method 1. -/
namespace start1
open Jvm.ClassFile
def u (s : String) : CpInfo := .utf8 (stringToUtf16 s)
/-- a pool by its gaps: so many unusable entries, then the entry; so many at the end -/
def gap : Nat → List CpInfo → List CpInfo
  | 0, r => r
  | n + 1, r => .unusable :: gap n r
def poolList (es : List (Nat × CpInfo)) (last : Nat) : List CpInfo := es.foldr (fun e r => gap e.1 (e.2 :: r)) (gap last [])
def pool (es : List (Nat × CpInfo)) (last : Nat) : Array CpInfo := ⟨poolList es last⟩
def fileOf (pool : Array CpInfo) (this : Nat) (attrs : Array Attribute := #[]) (ms : Array MethodInfo := #[]) (fl : Nat := 33) (sup : Nat := 0) (ifs : Array Nat := #[]) (fds : Array FieldInfo := #[]) : ClassFile where
  minorVersion := 0
  majorVersion := 65
  constantPool := pool
  accessFlags := fl
  thisClass := this
  superClass := sup
  interfaces := ifs
  fields := fds
  methods := ms
  attributes := attrs
def plain (name : String) (sup : Option ClassId) : Class where
  name := name
  kind := .ordinary
  loader := none
  accessFlags := 33
  super := sup
  interfaces := #[]
  cf := none
  fields := #[]
  methods := #[]
  instanceTypes := #[]
  staticTypes := #[]
  resolved := #[]
  callSites := []
  init := .initialized
  statics := none
  mirror := none

def pool0 : Array CpInfo := pool [(5, u "<init>"), (0, u "()V"), (1, .class_ 10), (1, u "java/lang/Object")] 113

def k0c0 : Code := { maxStack := 0, maxLocals := 1, code := object_method_1_code, exceptionTable := #[], attributes := #[] }
def k0m0 : Method := { name := "<init>", desc := "()V", sig := { parameters := [], returnType := none }, accessFlags := 1, code := some k0c0 }
/-- java/lang/Object -/
def k0 : Class := { plain "java/lang/Object" none with
  accessFlags := 33
  interfaces := #[]
  cf := some (fileOf pool0 8 #[] #[{ accessFlags := 1, nameIndex := 5, descriptorIndex := 6, attributes := #[] }] 33 0 #[] #[])
  fields := #[]
  methods := #[k0m0]
  instanceTypes := #[]
  staticTypes := #[]
  resolved := Array.replicate 124 none
  statics := none }

def pool1 : Array CpInfo := pool [(2, .class_ 4), (1, u "java/lang/Object"), (0, u "<init>"), (0, u "()V"), (0, .class_ 8), (0, u "com/example/ringwell/ringwell/Ballot"), (0, .methodref 7 10), (0, .nameAndType 5 11), (0, u "(JJ)V"), (0, .methodref 7 13), (0, .nameAndType 14 15), (0, u "compareTo"), (0, u "(Lcom/example/ringwell/ringwell/Ballot;)I"), (0, .class_ 17), (0, u "com/example/ringwell/ringwell/BallotCompareToPinLaw"), (2, u "law"), (0, u "(JJJJI)Z")] 3

def k1m0 : Method := { name := "<init>", desc := "()V", sig := { parameters := [], returnType := none }, accessFlags := 1, code := none }
def k1c1 : Code := { maxStack := 6, maxLocals := 18, code := code, exceptionTable := #[], attributes := #[] }
def k1m1 : Method := { name := "law", desc := "(JJJJI)Z", sig := { parameters := [.long, .long, .long, .long, .int], returnType := some .boolean }, accessFlags := 9, code := some k1c1 }
/-- com/example/ringwell/ringwell/BallotCompareToPinLaw -/
def k1 : Class := { plain "com/example/ringwell/ringwell/BallotCompareToPinLaw" (some 0) with
  accessFlags := 49
  interfaces := #[]
  cf := some (fileOf pool1 16 #[] #[{ accessFlags := 1, nameIndex := 5, descriptorIndex := 6, attributes := #[] }, { accessFlags := 9, nameIndex := 20, descriptorIndex := 21, attributes := #[] }] 49 2 #[] #[])
  fields := #[]
  methods := #[k1m0, k1m1]
  instanceTypes := #[]
  staticTypes := #[]
  resolved := Array.replicate 25 none
  statics := none }

def pool2 : Array CpInfo := pool [(1, .methodref 2 3), (0, .class_ 4), (0, .nameAndType 5 6), (0, u "java/lang/Object"), (0, u "<init>"), (0, u "()V"), (0, .class_ 8), (0, u "java/lang/Record")] 13

def k2c0 : Code := { maxStack := 1, maxLocals := 1, code := jdk_30_method_1_code, exceptionTable := #[], attributes := #[] }
def k2m0 : Method := { name := "<init>", desc := "()V", sig := { parameters := [], returnType := none }, accessFlags := 4, code := some k2c0 }
/-- java/lang/Record -/
def k2 : Class := { plain "java/lang/Record" (some 0) with
  accessFlags := 1057
  interfaces := #[]
  cf := some (fileOf pool2 7 #[] #[{ accessFlags := 4, nameIndex := 5, descriptorIndex := 6, attributes := #[] }] 1057 2 #[] #[])
  fields := #[]
  methods := #[k2m0]
  instanceTypes := #[]
  staticTypes := #[]
  resolved := Array.replicate 22 none
  statics := none }

def pool3 : Array CpInfo := pool [(1, .class_ 2), (0, u "java/lang/Comparable"), (0, .class_ 4), (0, u "java/lang/Object")] 7

/-- java/lang/Comparable -/
def k3 : Class := { plain "java/lang/Comparable" (some 0) with
  accessFlags := 1537
  interfaces := #[]
  cf := some (fileOf pool3 1 #[] #[] 1537 3 #[] #[])
  fields := #[]
  methods := #[]
  instanceTypes := #[]
  staticTypes := #[]
  resolved := Array.replicate 12 none
  statics := none }

def pool4 : Array CpInfo := pool [(1, .class_ 2), (0, u "java/lang/Long"), (0, .methodref 4 5), (0, .class_ 6), (0, .nameAndType 7 8), (0, u "java/lang/Record"), (0, u "<init>"), (0, u "()V"), (0, .fieldref 10 11), (0, .class_ 12), (0, .nameAndType 13 14), (0, u "com/example/ringwell/ringwell/Ballot"), (0, u "round"), (0, u "J"), (0, .fieldref 10 16), (0, .nameAndType 17 14), (0, u "tiebreak"), (0, .methodref 1 19), (0, .nameAndType 20 21), (0, u "compare"), (0, u "(JJ)I"), (8, u "(JJ)V"), (2, u "compareTo"), (0, u "(Lcom/example/ringwell/ringwell/Ballot;)I"), (30, u "NONE"), (0, u "Lcom/example/ringwell/ringwell/Ballot;"), (0, .class_ 68), (0, u "java/lang/Comparable"), (0, u "BYTES"), (0, u "I")] 42

def k4c0 : Code := { maxStack := 3, maxLocals := 5, code := prog_14_method_1_code, exceptionTable := #[], attributes := #[] }
def k4m0 : Method := { name := "<init>", desc := "(JJ)V", sig := { parameters := [.long, .long], returnType := none }, accessFlags := 0, code := some k4c0 }
def k4c1 : Code := { maxStack := 4, maxLocals := 3, code := prog_14_method_2_code, exceptionTable := #[], attributes := #[] }
def k4m1 : Method := { name := "compareTo", desc := "(Lcom/example/ringwell/ringwell/Ballot;)I", sig := { parameters := [(.object "com/example/ringwell/ringwell/Ballot")], returnType := some .int }, accessFlags := 1, code := some k4c1 }
/-- com/example/ringwell/ringwell/Ballot -/
def k4 : Class := { plain "com/example/ringwell/ringwell/Ballot" (some 2) with
  accessFlags := 48
  interfaces := #[3]
  cf := some (fileOf pool4 10 #[] #[{ accessFlags := 0, nameIndex := 7, descriptorIndex := 30, attributes := #[] }, { accessFlags := 1, nameIndex := 33, descriptorIndex := 34, attributes := #[] }] 48 4 #[67] #[{ accessFlags := 18, nameIndex := 13, descriptorIndex := 14, attributes := #[] }, { accessFlags := 18, nameIndex := 17, descriptorIndex := 14, attributes := #[] }, { accessFlags := 24, nameIndex := 65, descriptorIndex := 66, attributes := #[] }, { accessFlags := 24, nameIndex := 69, descriptorIndex := 70, attributes := #[] }])
  fields := #[{ name := "round", type := .long, accessFlags := 18, slot := 0, constantValue := 0 }, { name := "tiebreak", type := .long, accessFlags := 18, slot := 1, constantValue := 0 }, { name := "NONE", type := (.object "com/example/ringwell/ringwell/Ballot"), accessFlags := 24, slot := 0, constantValue := 0 }, { name := "BYTES", type := .int, accessFlags := 24, slot := 1, constantValue := 0 }]
  methods := #[k4m0, k4m1]
  instanceTypes := #[.long, .long]
  staticTypes := #[(.object "com/example/ringwell/ringwell/Ballot"), .int]
  resolved := Array.replicate 113 none
  statics := none }

def pool5 : Array CpInfo := pool [(1, .class_ 2), (0, u "java/io/Serializable"), (0, .class_ 4), (0, u "java/lang/Object")] 2

/-- java/io/Serializable -/
def k5 : Class := { plain "java/io/Serializable" (some 0) with
  accessFlags := 1537
  interfaces := #[]
  cf := some (fileOf pool5 1 #[] #[] 1537 3 #[] #[])
  fields := #[]
  methods := #[]
  instanceTypes := #[]
  staticTypes := #[]
  resolved := Array.replicate 7 none
  statics := none }

def pool6 : Array CpInfo := pool [(2, .class_ 4), (1, u "java/lang/Object"), (0, u "<init>"), (0, u "()V"), (1, .class_ 10), (1, u "java/lang/Number"), (2, .class_ 14), (0, u "java/io/Serializable"), (0, u "serialVersionUID"), (0, u "J")] 20

def k6m0 : Method := { name := "<init>", desc := "()V", sig := { parameters := [], returnType := none }, accessFlags := 1, code := none }
/-- java/lang/Number -/
def k6 : Class := { plain "java/lang/Number" (some 0) with
  accessFlags := 1057
  interfaces := #[5]
  cf := some (fileOf pool6 8 #[] #[{ accessFlags := 1, nameIndex := 5, descriptorIndex := 6, attributes := #[] }] 1057 2 #[13] #[{ accessFlags := 26, nameIndex := 15, descriptorIndex := 16, attributes := #[] }])
  fields := #[{ name := "serialVersionUID", type := .long, accessFlags := 26, slot := 0, constantValue := 0 }]
  methods := #[k6m0]
  instanceTypes := #[]
  staticTypes := #[.long]
  resolved := Array.replicate 37 none
  statics := none }

def pool7 : Array CpInfo := pool [(1, .class_ 2), (0, u "java/lang/constant/Constable"), (0, .class_ 4), (0, u "java/lang/Object")] 6

/-- java/lang/constant/Constable -/
def k7 : Class := { plain "java/lang/constant/Constable" (some 0) with
  accessFlags := 1537
  interfaces := #[]
  cf := some (fileOf pool7 1 #[] #[] 1537 3 #[] #[])
  fields := #[]
  methods := #[]
  instanceTypes := #[]
  staticTypes := #[]
  resolved := Array.replicate 11 none
  statics := none }

def pool8 : Array CpInfo := pool [(1, .class_ 2), (0, u "java/lang/constant/ConstantDesc"), (0, .class_ 4), (0, u "java/lang/Object")] 32

/-- java/lang/constant/ConstantDesc -/
def k8 : Class := { plain "java/lang/constant/ConstantDesc" (some 0) with
  accessFlags := 1537
  interfaces := #[]
  cf := some (fileOf pool8 1 #[] #[] 1537 3 #[] #[])
  fields := #[]
  methods := #[]
  instanceTypes := #[]
  staticTypes := #[]
  resolved := Array.replicate 37 none
  statics := none }

def pool9 : Array CpInfo := pool [(1, .class_ 2), (0, u "java/lang/Long"), (232, .class_ 237), (1, u "java/lang/Long$LongCache"), (33, .class_ 272), (0, u "java/lang/Number"), (2, u "value"), (0, u "J"), (27, u "compare"), (0, u "(JJ)I"), (55, u "TYPE"), (0, u "Ljava/lang/Class;"), (0, .class_ 364), (0, u "java/lang/Comparable"), (0, .class_ 366), (0, u "java/lang/constant/Constable"), (0, .class_ 368), (0, u "java/lang/constant/ConstantDesc"), (0, u "MIN_VALUE"), (1, u "MAX_VALUE"), (4, u "SIZE"), (0, u "I"), (1, u "BYTES"), (1, u "serialVersionUID")] 142

def k9c0 : Code := { maxStack := 4, maxLocals := 4, code := jdk_35_method_42_code, exceptionTable := #[], attributes := #[] }
def k9m0 : Method := { name := "compare", desc := "(JJ)I", sig := { parameters := [.long, .long], returnType := some .int }, accessFlags := 9, code := some k9c0 }
/-- java/lang/Long -/
def k9 : Class := { plain "java/lang/Long" (some 6) with
  accessFlags := 49
  interfaces := #[3, 7, 8]
  cf := some (fileOf pool9 1 #[.nestMembers #[235]] #[{ accessFlags := 9, nameIndex := 304, descriptorIndex := 305, attributes := #[] }] 49 271 #[363, 365, 367] #[{ accessFlags := 25, nameIndex := 369, descriptorIndex := 276, attributes := #[] }, { accessFlags := 25, nameIndex := 371, descriptorIndex := 276, attributes := #[] }, { accessFlags := 25, nameIndex := 361, descriptorIndex := 362, attributes := #[] }, { accessFlags := 18, nameIndex := 275, descriptorIndex := 276, attributes := #[] }, { accessFlags := 25, nameIndex := 376, descriptorIndex := 377, attributes := #[] }, { accessFlags := 25, nameIndex := 379, descriptorIndex := 377, attributes := #[] }, { accessFlags := 26, nameIndex := 381, descriptorIndex := 276, attributes := #[] }])
  fields := #[{ name := "MIN_VALUE", type := .long, accessFlags := 25, slot := 0, constantValue := 0 }, { name := "MAX_VALUE", type := .long, accessFlags := 25, slot := 1, constantValue := 0 }, { name := "TYPE", type := (.object "java/lang/Class"), accessFlags := 25, slot := 2, constantValue := 0 }, { name := "value", type := .long, accessFlags := 18, slot := 0, constantValue := 0 }, { name := "SIZE", type := .int, accessFlags := 25, slot := 3, constantValue := 0 }, { name := "BYTES", type := .int, accessFlags := 25, slot := 4, constantValue := 0 }, { name := "serialVersionUID", type := .long, accessFlags := 26, slot := 5, constantValue := 0 }]
  methods := #[k9m0]
  instanceTypes := #[.long]
  staticTypes := #[.long, .long, (.object "java/lang/Class"), .int, .int, .long]
  resolved := Array.replicate 524 none
  statics := none }

def pool10 : Array CpInfo := pool [(1, u "java/lang/Cloneable"), (0, .class_ 1), (0, u "java/lang/Object"), (0, .class_ 3)] 3

/-- java/lang/Cloneable -/
def k10 : Class := { plain "java/lang/Cloneable" (some 0) with
  accessFlags := 1537
  interfaces := #[]
  cf := some (fileOf pool10 2 #[] #[] 1537 4 #[] #[])
  fields := #[]
  methods := #[]
  instanceTypes := #[]
  staticTypes := #[]
  resolved := Array.replicate 8 none
  statics := none }

/-- the primitive byte -/
def k11 : Class := { plain "byte" none with kind := .primitive 'B', accessFlags := 0x411 }
/-- [B -/
def k12 : Class := { plain "[B" (some 0) with kind := .array 11 .byte, interfaces := #[10, 5], accessFlags := 1041 }

/-- the primitive int -/
def k13 : Class := { plain "int" none with kind := .primitive 'I', accessFlags := 0x411 }
/-- [I -/
def k14 : Class := { plain "[I" (some 0) with kind := .array 13 .int, interfaces := #[10, 5], accessFlags := 1041 }

def heap : Heap := #[]
def classes : Array Class := #[k0, k1, k2, k3, k4, k5, k6, k7, k8, k9, k10, k11, k12, k13, k14]
def interned : List (Array UInt16 × Addr) := []
def slotsUsed : Nat := 0
def theMethod : MethodId := ⟨1, 1⟩
def args0 : Array Value := #[.long 1, .long 2, .long 3, .long 4, .int 0]
def aboutOver (below : List Frame) : State where
  vm := { classes := classes, interned := interned.toArray }
  heap := heap
  slotsUsed := slotsUsed
  threads := #[{ frames := .invoking theMethod args0 :: below }]
def below0 : List Frame := [.native { method := ⟨0, 0⟩, args := #[] }]
def about1 : State := aboutOver below0
def p0 : Program := .bare "" "" ""
def e0 : Env := launch0.env 0 0 0
theorem w_frames : about1.frames = Frame.invoking theMethod args0 :: below0 := rfl
set_option maxRecDepth 65536 in
theorem w_args : argsFit about1.vm theMethod args0 = true := by decide +kernel
set_option maxRecDepth 65536 in
theorem w_heap : heapFits about1 = true := by decide +kernel
set_option maxRecDepth 65536 in
theorem w_runnable : about1.curStatus? = some .runnable := by decide +kernel
set_option maxRecDepth 65536 in
theorem w_alone : about1.alone = true := by decide +kernel
set_option maxRecDepth 65536 in
theorem w_named : about1.methodNamed? x = some theMethod := by decide +kernel
set_option maxRecDepth 65536 in
theorem w_hears : about1.hears theMethod below0 = true := by decide +kernel
set_option maxRecDepth 65536 in
theorem w_ripe : about1.ripe theMethod args0 below0 = true := by decide +kernel
theorem w_running : about1.status = .running := rfl
set_option maxRecDepth 65536 in
theorem w_room : about1.hasRoom e0.platform room_1 = true :=
  launch0.hasRoom_least _ room_1 (by decide +kernel) (by decide +kernel) (by decide +kernel) (by decide +kernel) (by decide +kernel) (by decide +kernel)
theorem allAtoms_all (ts : List Jvm.Cond) (a : Array Jvm.Value) (st : Jvm.State) : (allAtoms ts).before a st = ts.all (fun c => c.before a st) := by
  induction ts with
  | nil => rfl
  | cons c t ih =>
    show (Jvm.Cond.and c (allAtoms t)).before a st = _
    rw [Jvm.Cond.before_and, ih, List.all_cons]
def words1 : List Jvm.Cond := Jvm.Cond.code x code maxLocals ret :: tables_1
/-- a 'code' word, met by the world's own term for the bytes: nothing is compared byte by byte -/
theorem code_word {y : MethodName} {bytes : ByteArray} {mx : Nat} {rt : Option FieldType} {a : Array Value} {s : State} {m : MethodId} {meth : Method} {c : Code} (h1 : s.methodNamed? y = some m) (h2 : s.vm.method? m = some meth) (h3 : meth.code = some c) (h4 : c.code = bytes)
    (h5 : (c.maxLocals == mx && c.exceptionTable.isEmpty && decide (c.maxStack ≤ mostOperands) && decide (meth.sig.returnType = rt) && !meth.locks && decide (parseMethodDescriptor y.desc = some meth.sig)) = true) : (Jvm.Cond.code y bytes mx rt).before a s = true := by
  simp only [Bool.and_eq_true, beq_iff_eq, Bool.not_eq_true', decide_eq_true_eq] at h5
  obtain ⟨⟨⟨⟨⟨g1, g2⟩, g3⟩, g4⟩, g5⟩, g6⟩ := h5
  simp [Cond.before, Cond.holds, Cond.value, h1, h2, h3, h4, g1, g2, g3, g4, g5, g6]
def isCode : Jvm.Cond → Bool
  | .code _ _ _ _ => true
  | _ => false
theorem all_split {L : List Jvm.Cond} {P : Jvm.Cond → Bool} (h1 : L.all (fun c => isCode c || P c) = true) (h2 : ∀ c ∈ L.filter isCode, P c = true) : L.all P = true := by
  refine List.all_eq_true.mpr fun c hc => ?_
  have h := List.all_eq_true.mp h1 c hc
  rcases Bool.eq_false_or_eq_true (isCode c) with hi | hi
  · exact h2 c (List.mem_filter.mpr ⟨hc, hi⟩)
  · simpa [hi] using h
set_option maxRecDepth 65536 in
theorem w_c0 : (Jvm.Cond.code x code maxLocals ret).before args0 about1 = true := code_word (m := ⟨1, 1⟩) (meth := k1m1) (c := k1c1) (by decide +kernel) rfl rfl rfl (by decide +kernel)
set_option maxRecDepth 65536 in
theorem w_c1 : (Jvm.Cond.code ({ cls := "com/example/ringwell/ringwell/Ballot", name := "<init>", desc := "(JJ)V" } : Jvm.MethodName) prog_14_method_1_code (5 : Nat) (Option.none : Option Jvm.ClassFile.FieldType)).before args0 about1 = true := code_word (m := ⟨4, 0⟩) (meth := k4m0) (c := k4c0) (by decide +kernel) rfl rfl rfl (by decide +kernel)
set_option maxRecDepth 65536 in
theorem w_c2 : (Jvm.Cond.code ({ cls := "java/lang/Record", name := "<init>", desc := "()V" } : Jvm.MethodName) jdk_30_method_1_code (1 : Nat) (Option.none : Option Jvm.ClassFile.FieldType)).before args0 about1 = true := code_word (m := ⟨2, 0⟩) (meth := k2m0) (c := k2c0) (by decide +kernel) rfl rfl rfl (by decide +kernel)
set_option maxRecDepth 65536 in
theorem w_c3 : (Jvm.Cond.code ({ cls := "java/lang/Object", name := "<init>", desc := "()V" } : Jvm.MethodName) object_method_1_code (1 : Nat) (Option.none : Option Jvm.ClassFile.FieldType)).before args0 about1 = true := code_word (m := ⟨0, 0⟩) (meth := k0m0) (c := k0c0) (by decide +kernel) rfl rfl rfl (by decide +kernel)
set_option maxRecDepth 65536 in
theorem w_c4 : (Jvm.Cond.code ({ cls := "com/example/ringwell/ringwell/Ballot", name := "compareTo", desc := "(Lcom/example/ringwell/ringwell/Ballot;)I" } : Jvm.MethodName) prog_14_method_2_code (3 : Nat) (Option.some Jvm.ClassFile.FieldType.int)).before args0 about1 = true := code_word (m := ⟨4, 1⟩) (meth := k4m1) (c := k4c1) (by decide +kernel) rfl rfl rfl (by decide +kernel)
set_option maxRecDepth 65536 in
theorem w_c5 : (Jvm.Cond.code ({ cls := "java/lang/Long", name := "compare", desc := "(JJ)I" } : Jvm.MethodName) jdk_35_method_42_code (4 : Nat) (Option.some Jvm.ClassFile.FieldType.int)).before args0 about1 = true := code_word (m := ⟨9, 0⟩) (meth := k9m0) (c := k9c0) (by decide +kernel) rfl rfl rfl (by decide +kernel)
def codes1 : List Jvm.Cond := [Jvm.Cond.code x code maxLocals ret, Jvm.Cond.code ({ cls := "com/example/ringwell/ringwell/Ballot", name := "<init>", desc := "(JJ)V" } : Jvm.MethodName) prog_14_method_1_code (5 : Nat) (Option.none : Option Jvm.ClassFile.FieldType), Jvm.Cond.code ({ cls := "java/lang/Record", name := "<init>", desc := "()V" } : Jvm.MethodName) jdk_30_method_1_code (1 : Nat) (Option.none : Option Jvm.ClassFile.FieldType), Jvm.Cond.code ({ cls := "java/lang/Object", name := "<init>", desc := "()V" } : Jvm.MethodName) object_method_1_code (1 : Nat) (Option.none : Option Jvm.ClassFile.FieldType), Jvm.Cond.code ({ cls := "com/example/ringwell/ringwell/Ballot", name := "compareTo", desc := "(Lcom/example/ringwell/ringwell/Ballot;)I" } : Jvm.MethodName) prog_14_method_2_code (3 : Nat) (Option.some Jvm.ClassFile.FieldType.int), Jvm.Cond.code ({ cls := "java/lang/Long", name := "compare", desc := "(JJ)I" } : Jvm.MethodName) jdk_35_method_42_code (4 : Nat) (Option.some Jvm.ClassFile.FieldType.int)]
set_option maxRecDepth 65536 in
theorem codes_eq : words1.filter isCode = codes1 := rfl
theorem w_codes : ∀ c ∈ words1.filter isCode, c.before args0 about1 = true := by
  rw [codes_eq]
  intro c hc
  simp only [codes1, List.mem_cons, List.not_mem_nil, or_false] at hc
  rcases hc with rfl | rfl | rfl | rfl | rfl | rfl
  · exact w_c0
  · exact w_c1
  · exact w_c2
  · exact w_c3
  · exact w_c4
  · exact w_c5
set_option maxRecDepth 65536 in
theorem w_t1 : (words1.take 24).all (fun c => isCode c || c.before args0 about1) = true := by decide +kernel
set_option maxRecDepth 65536 in
theorem w_t2 : (words1.drop 24).all (fun c => isCode c || c.before args0 about1) = true := by decide +kernel
theorem w_tables : (allAtoms (Jvm.Cond.code x code maxLocals ret :: tables_1)).before args0 about1 = true := by
  rw [allAtoms_all]
  show words1.all (fun c => c.before args0 about1) = true
  refine all_split ?_ w_codes
  rw [← List.take_append_drop 24 words1, List.all_append, w_t1, w_t2]
  rfl
set_option maxRecDepth 65536 in
theorem w_case : (Jvm.Cond.and given_1 narrow_1).before args0 about1 = true := by decide +kernel
theorem w_applies : (headSpec (Jvm.Cond.code x code maxLocals ret :: tables_1) room_1).applies x e0.platform about1 = true :=
  (Spec.applies_iff w_frames).mpr ⟨w_running, w_runnable, w_alone, w_named, w_hears, w_ripe, w_room, w_tables⟩
theorem atStart : AtStart classFile x code maxLocals ret World_1 tables_1 room_1 Calls_1 rest_1 Pre_1 launch0 p0 e0 about1 theMethod args0 below0 :=
  ⟨lists_1, trivial, launch0.admits_env _ _ _, launch0.least_env, fairChoices_fair.cas, fairChoices_fair.clock, w_frames, w_args, w_heap, w_applies, trivial, trivial, w_case⟩
end start1
theorem witness_1 : WitnessClaimed_1 := ⟨start1.p0, start1.e0, start1.about1, start1.theMethod, start1.args0, start1.below0, start1.atStart⟩
end Jvm.Pilot.@@N@@
