import JvmDerived
import JvmDerived.Pilot.@@N@@Statement
import JvmDerived.Pilot.@@N@@Code
set_option linter.unusedVariables false
set_option linter.unusedSimpArgs false
namespace Jvm.OwnW
open Sem ClassFile Op Lib Jvm.Stand Jvm.Free Jvm.LawKit Jvm.RoadKit
section Walks
variable {p : Program} {l : Launch} {e : Env} {R : Room} {s : State} {m : MethodId} {args : Array Value} {below : List Frame} {meth : Method} {c : Code} {T : State} {locs : List Loc} {cells slots : Nat}
/-- from A on the run comes to an end of which P holds -/
def Run (tb : Tables) (e : Env) (below : List Frame) (P : State → Outcome → Prop) (A : State) : Prop := ∃ s₂ o, Steps tb e below A s₂ ∧ P s₂ o
theorem Run.step {tb : Tables} {P : State → Outcome → Prop} {A B : State} (k : ∀ t, Steps tb e below B t → Steps tb e below A t) (h : Run tb e below P B) : Run tb e below P A := by
  obtain ⟨s₂, o, a, b⟩ := h
  exact ⟨s₂, o, k _ a, b⟩
/-- what a body's contract says at the end -/
def PQ (s : State) (below : List Frame) (rc rs : Nat) (Q : Option Value → Heap → List Loc → Prop) (s₂ : State) (o : Outcome) : Prop := s₂.status = .running ∧ Ended s₂ below o ∧ ∃ v L, o = .returned v ∧ Q v s₂.heap L ∧ FrameEnd s o s₂ L rc rs
theorem fin (X : Stand p l e R s m args below meth c T locs cells slots) {A : State} {Q : Option Value → Heap → List Loc → Prop} {rc rs : Nat} {v : Option Value} {h : Heap} (hl : meth.locks = false) (hv : meth.sig.returnType = none → v = none) (hc : cells ≤ rc) (hs : slots ≤ rs) (eT : T.heap = h) (hQ : Q v h locs)
    (st : ∀ fs, (∀ (f : JFrame) (acts : List Action), f.method = m → f.locked = none → f.entered = [] → (doReturn e (T.setTop f) acts v).1 = T.setFrames fs) → Steps p.tables e below A (T.setFrames fs)) : Run p.tables e below (PQ s below rc rs Q) A := by
  obtain ⟨fs, hr, hrun, hended, hW, hsame⟩ := X.leave (v := v) hv hl
  refine ⟨_, _, st fs hr, hrun, hended, _, _, rfl, ?_, ⟨_, rfl⟩, hW, hsame.mono hc hs⟩
  show Q v T.heap locs
  rw [eT]
  exact hQ
theorem finV (X : Stand p l e R s m args below meth c T locs cells slots) (hx : p.tables.exec = Jvm.exec) (hl : meth.locks = false) {Q : Option Value → Heap → List Loc → Prop} {rc rs pc : Nat} {Ls : Array Slot} {h : Heap} (hret : meth.sig.returnType = none) (hd : decode c.code pc = .ok (.return_, 1)) (hc : cells ≤ rc) (hs : slots ≤ rs) (eT : T.heap = h) (hQ : Q none h locs) : Run p.tables e below (PQ s below rc rs Q) (T.setTop (mkF m pc Ls [])) :=
  fin X hl (fun _ => rfl) hc hs eT hQ fun fs hr => X.returnOut hx hret hd hr
theorem finI (X : Stand p l e R s m args below meth c T locs cells slots) (hx : p.tables.exec = Jvm.exec) (hl : meth.locks = false) {Q : Option Value → Heap → List Loc → Prop} {rc rs pc : Nat} {Ls : Array Slot} {z : Int32} {rest : List Value} {h : Heap} (hret : meth.sig.returnType = some .int) (hd : decode c.code pc = .ok (.ireturn, 1)) (hc : cells ≤ rc) (hs : slots ≤ rs) (eT : T.heap = h) (hQ : Q (some (.int z)) h locs) : Run p.tables e below (PQ s below rc rs Q) (T.setTop (mkF m pc Ls (.int z :: rest))) :=
  fin X hl (fun q => by rw [hret] at q; cases q) hc hs eT hQ fun fs hr => retOut X hx hret rfl (Or.inl ⟨rfl, Or.inl rfl, _, rfl⟩) hd hr
theorem finZ (X : Stand p l e R s m args below meth c T locs cells slots) (hx : p.tables.exec = Jvm.exec) (hl : meth.locks = false) {Q : Option Value → Heap → List Loc → Prop} {rc rs pc : Nat} {Ls : Array Slot} {z : Int32} {rest : List Value} {h : Heap} (hret : meth.sig.returnType = some .boolean) (hd : decode c.code pc = .ok (.ireturn, 1)) (hz : z = 0 ∨ z = 1) (hc : cells ≤ rc) (hs : slots ≤ rs) (eT : T.heap = h) (hQ : Q (some (.int z)) h locs) : Run p.tables e below (PQ s below rc rs Q) (T.setTop (mkF m pc Ls (.int z :: rest))) :=
  fin X hl (fun q => by rw [hret] at q; cases q) hc hs eT hQ fun fs hr => retOut X hx hret (by rcases hz with rfl | rfl <;> rfl) (Or.inl ⟨rfl, Or.inr (Or.inl rfl), _, rfl⟩) hd hr
theorem finB (X : Stand p l e R s m args below meth c T locs cells slots) (hx : p.tables.exec = Jvm.exec) (hl : meth.locks = false) {Q : Option Value → Heap → List Loc → Prop} {rc rs pc : Nat} {Ls : Array Slot} {z : Int32} {rest : List Value} {h : Heap} (hret : meth.sig.returnType = some .byte) (hd : decode c.code pc = .ok (.ireturn, 1)) (hz : narrow .byte (.int z) = .int z) (hc : cells ≤ rc) (hs : slots ≤ rs) (eT : T.heap = h) (hQ : Q (some (.int z)) h locs) : Run p.tables e below (PQ s below rc rs Q) (T.setTop (mkF m pc Ls (.int z :: rest))) :=
  fin X hl (fun q => by rw [hret] at q; cases q) hc hs eT hQ fun fs hr => retOut X hx hret hz (Or.inl ⟨rfl, Or.inr (Or.inr (Or.inl rfl)), _, rfl⟩) hd hr
theorem finJ (X : Stand p l e R s m args below meth c T locs cells slots) (hx : p.tables.exec = Jvm.exec) (hl : meth.locks = false) {Q : Option Value → Heap → List Loc → Prop} {rc rs pc : Nat} {Ls : Array Slot} {z : Int64} {rest : List Value} {h : Heap} (hret : meth.sig.returnType = some .long) (hd : decode c.code pc = .ok (.lreturn, 1)) (hc : cells ≤ rc) (hs : slots ≤ rs) (eT : T.heap = h) (hQ : Q (some (.long z)) h locs) : Run p.tables e below (PQ s below rc rs Q) (T.setTop (mkF m pc Ls (.long z :: rest))) :=
  fin X hl (fun q => by rw [hret] at q; cases q) hc hs eT hQ fun fs hr => retOut X hx hret rfl (Or.inr (Or.inl ⟨rfl, rfl, _, rfl⟩)) hd hr
theorem finA (X : Stand p l e R s m args below meth c T locs cells slots) (hx : p.tables.exec = Jvm.exec) (hl : meth.locks = false) {Q : Option Value → Heap → List Loc → Prop} {rc rs pc : Nat} {Ls : Array Slot} {w : Value} {t : FieldType} {rest : List Value} {h : Heap} (hret : meth.sig.returnType = some t) (hd : decode c.code pc = .ok (.areturn, 1)) (ht : t.isReference = true) (hw : w.isRef = true) (hc : cells ≤ rc) (hs : slots ≤ rs) (eT : T.heap = h) (hQ : Q (some w) h locs) : Run p.tables e below (PQ s below rc rs Q) (T.setTop (mkF m pc Ls (w :: rest))) :=
  fin X hl (fun q => by rw [hret] at q; cases q) hc hs eT hQ fun fs hr => retOut X hx hret (by cases t <;> first | rfl | (cases w <;> first | rfl | cases ht)) (Or.inr (Or.inr (Or.inr (Or.inr ⟨rfl, ht, hw⟩)))) hd hr
/-- the same for a body that may load String constants -/
def PW (s : State) (below : List Frame) (rc rs : Nat) (Q : Option Value → Heap → List Loc → Prop) (s₂ : State) (o : Outcome) : Prop := s₂.status = .running ∧ Ended s₂ below o ∧ ∃ v L, o = .returned v ∧ Q v s₂.heap L ∧ ReturnedEndW s o s₂ L rc rs
theorem finW {vm : Vm} {n : Nat} (X : Stand p l e R (s.setVm vm) m args below meth c T locs cells slots) {A : State} {Q : Option Value → Heap → List Loc → Prop} {rc rs : Nat} {v : Option Value} {h : Heap} (hS : s.Since vm n) (hk : n ≤ h.size) (hl : meth.locks = false) (hv : meth.sig.returnType = none → v = none) (hc : cells ≤ rc) (hs : slots ≤ rs) (eT : T.heap = h) (hQ : Q v h locs)
    (st : ∀ fs, (∀ (f : JFrame) (acts : List Action), f.method = m → f.locked = none → f.entered = [] → (doReturn e (T.setTop f) acts v).1 = T.setFrames fs) → Steps p.tables e below A (T.setFrames fs)) : Run p.tables e below (PW s below rc rs Q) A := by
  obtain ⟨fs, hr, hrun, hended, hE⟩ := X.leaveW hS (by rw [eT]; exact hk) (v := v) hv hl
  refine ⟨_, _, st fs hr, hrun, hended, _, _, rfl, ?_, hE.1, hE.2.1, hE.2.2.1, hE.2.2.2.mono hc hs⟩
  show Q v T.heap locs
  rw [eT]
  exact hQ
theorem finVW {vm : Vm} {n : Nat} (X : Stand p l e R (s.setVm vm) m args below meth c T locs cells slots) (hx : p.tables.exec = Jvm.exec) {h : Heap} (hS : s.Since vm n) (hk : n ≤ h.size) (hl : meth.locks = false) {Q : Option Value → Heap → List Loc → Prop} {rc rs pc : Nat} {Ls : Array Slot} (hret : meth.sig.returnType = none) (hd : decode c.code pc = .ok (.return_, 1)) (hc : cells ≤ rc) (hs : slots ≤ rs) (eT : T.heap = h) (hQ : Q none h locs) : Run p.tables e below (PW s below rc rs Q) (T.setTop (mkF m pc Ls [])) :=
  finW X hS hk hl (fun _ => rfl) hc hs eT hQ fun fs hr => X.returnOut hx hret hd hr
theorem finIW {vm : Vm} {n : Nat} (X : Stand p l e R (s.setVm vm) m args below meth c T locs cells slots) (hx : p.tables.exec = Jvm.exec) {h : Heap} (hS : s.Since vm n) (hk : n ≤ h.size) (hl : meth.locks = false) {Q : Option Value → Heap → List Loc → Prop} {rc rs pc : Nat} {Ls : Array Slot} {z : Int32} {rest : List Value} (hret : meth.sig.returnType = some .int) (hd : decode c.code pc = .ok (.ireturn, 1)) (hc : cells ≤ rc) (hs : slots ≤ rs) (eT : T.heap = h) (hQ : Q (some (.int z)) h locs) : Run p.tables e below (PW s below rc rs Q) (T.setTop (mkF m pc Ls (.int z :: rest))) :=
  finW X hS hk hl (fun q => by rw [hret] at q; cases q) hc hs eT hQ fun fs hr => retOut X hx hret rfl (Or.inl ⟨rfl, Or.inl rfl, _, rfl⟩) hd hr
theorem finZW {vm : Vm} {n : Nat} (X : Stand p l e R (s.setVm vm) m args below meth c T locs cells slots) (hx : p.tables.exec = Jvm.exec) {h : Heap} (hS : s.Since vm n) (hk : n ≤ h.size) (hl : meth.locks = false) {Q : Option Value → Heap → List Loc → Prop} {rc rs pc : Nat} {Ls : Array Slot} {z : Int32} {rest : List Value} (hret : meth.sig.returnType = some .boolean) (hd : decode c.code pc = .ok (.ireturn, 1)) (hz : z = 0 ∨ z = 1) (hc : cells ≤ rc) (hs : slots ≤ rs) (eT : T.heap = h) (hQ : Q (some (.int z)) h locs) : Run p.tables e below (PW s below rc rs Q) (T.setTop (mkF m pc Ls (.int z :: rest))) :=
  finW X hS hk hl (fun q => by rw [hret] at q; cases q) hc hs eT hQ fun fs hr => retOut X hx hret (by rcases hz with rfl | rfl <;> rfl) (Or.inl ⟨rfl, Or.inr (Or.inl rfl), _, rfl⟩) hd hr
theorem finBW {vm : Vm} {n : Nat} (X : Stand p l e R (s.setVm vm) m args below meth c T locs cells slots) (hx : p.tables.exec = Jvm.exec) {h : Heap} (hS : s.Since vm n) (hk : n ≤ h.size) (hl : meth.locks = false) {Q : Option Value → Heap → List Loc → Prop} {rc rs pc : Nat} {Ls : Array Slot} {z : Int32} {rest : List Value} (hret : meth.sig.returnType = some .byte) (hd : decode c.code pc = .ok (.ireturn, 1)) (hz : narrow .byte (.int z) = .int z) (hc : cells ≤ rc) (hs : slots ≤ rs) (eT : T.heap = h) (hQ : Q (some (.int z)) h locs) : Run p.tables e below (PW s below rc rs Q) (T.setTop (mkF m pc Ls (.int z :: rest))) :=
  finW X hS hk hl (fun q => by rw [hret] at q; cases q) hc hs eT hQ fun fs hr => retOut X hx hret hz (Or.inl ⟨rfl, Or.inr (Or.inr (Or.inl rfl)), _, rfl⟩) hd hr
theorem finJW {vm : Vm} {n : Nat} (X : Stand p l e R (s.setVm vm) m args below meth c T locs cells slots) (hx : p.tables.exec = Jvm.exec) {h : Heap} (hS : s.Since vm n) (hk : n ≤ h.size) (hl : meth.locks = false) {Q : Option Value → Heap → List Loc → Prop} {rc rs pc : Nat} {Ls : Array Slot} {z : Int64} {rest : List Value} (hret : meth.sig.returnType = some .long) (hd : decode c.code pc = .ok (.lreturn, 1)) (hc : cells ≤ rc) (hs : slots ≤ rs) (eT : T.heap = h) (hQ : Q (some (.long z)) h locs) : Run p.tables e below (PW s below rc rs Q) (T.setTop (mkF m pc Ls (.long z :: rest))) :=
  finW X hS hk hl (fun q => by rw [hret] at q; cases q) hc hs eT hQ fun fs hr => retOut X hx hret rfl (Or.inr (Or.inl ⟨rfl, rfl, _, rfl⟩)) hd hr
theorem finAW {vm : Vm} {n : Nat} (X : Stand p l e R (s.setVm vm) m args below meth c T locs cells slots) (hx : p.tables.exec = Jvm.exec) {h : Heap} (hS : s.Since vm n) (hk : n ≤ h.size) (hl : meth.locks = false) {Q : Option Value → Heap → List Loc → Prop} {rc rs pc : Nat} {Ls : Array Slot} {w : Value} {t : FieldType} {rest : List Value} (hret : meth.sig.returnType = some t) (hd : decode c.code pc = .ok (.areturn, 1)) (ht : t.isReference = true) (hw : w.isRef = true) (hc : cells ≤ rc) (hs : slots ≤ rs) (eT : T.heap = h) (hQ : Q (some w) h locs) : Run p.tables e below (PW s below rc rs Q) (T.setTop (mkF m pc Ls (w :: rest))) :=
  finW X hS hk hl (fun q => by rw [hret] at q; cases q) hc hs eT hQ fun fs hr => retOut X hx hret (by cases t <;> first | rfl | (cases w <;> first | rfl | cases ht)) (Or.inr (Or.inr (Or.inr (Or.inr ⟨rfl, ht, hw⟩)))) hd hr
theorem own_lrem {g : JFrame} {target : State} (X : Stand p l e R s m args below meth c T locs cells slots) (hx : p.tables.exec = Jvm.exec) (hg : g.method = m) {x y : Int64} {rest : List Value} (hd : decode c.code g.pc = .ok (.lrem, 1)) (hs : g.stack = .long y :: .long x :: rest) (hy : y ≠ 0)
    (hr : Steps p.tables e below (T.setTop { g with pc := g.pc + 1, stack := .long (x % y) :: rest }) target) : Steps p.tables e below (T.setTop g) target :=
  XS.lrem X.here hx hg hd hs hy (by rw [lrem_mod]; exact hr)
end Walks
end Jvm.OwnW
namespace Jvm.Pilot.@@N@@
open Jvm Jvm.ClassFile Sem Op Lib Jvm.Free Jvm.Stand Jvm.LawKit Jvm.RoadKit Jvm.OwnW Bundle Jvm.Pilot.@@N@@.Jvm.D
theorem own_wS {a0 : Array Value} {Z : State} (hw : ∀ d ∈ tables_1, d.before a0 Z = true) : ∀ a ∈ Bundle.stringAtoms, a.before a0 Z = true := by
  intro a ha
  simp only [Bundle.stringAtoms, List.mem_cons, List.not_mem_nil, or_false] at ha
  rcases ha with rfl | rfl | rfl | rfl | rfl | rfl | rfl
  · exact hw _ (List.mem_of_getElem? (i := 14) rfl)
  · exact hw _ (List.mem_of_getElem? (i := 15) rfl)
  · exact hw _ (List.mem_of_getElem? (i := 1) rfl)
  · exact hw _ (List.mem_of_getElem? (i := 16) rfl)
  · exact hw _ (List.mem_of_getElem? (i := 17) rfl)
  · exact hw _ (List.mem_of_getElem? (i := 18) rfl)
  · exact hw _ (List.mem_of_getElem? (i := 19) rfl)
theorem own_status (x : Int32) : ¬ ((100 : Int32) + ((x &&& (2147483647 : Int32)) % (500 : Int32))) < 100 ∧ ¬ (599 : Int32) < ((100 : Int32) + ((x &&& (2147483647 : Int32)) % (500 : Int32))) := by
  have h := c_and x 2147483647 (by decide)
  have r := (c_irem (x &&& 2147483647) 500 500 (by decide)).1 h.1
  have a := c_iadd 100 ((x &&& 2147483647) % 500)
  have g := rng32 (100 + ((x &&& 2147483647) % 500))
  have e1 : (100 : Int32).toInt = 100 := by decide
  have e2 : (599 : Int32).toInt = 599 := by decide
  rw [e1] at a
  refine ⟨fun q => ?_, fun q => ?_⟩
  · have := Int32.lt_iff_toInt_lt.mp q
    omega
  · have := Int32.lt_iff_toInt_lt.mp q
    omega
theorem own_div (s : Int32) (h1 : ¬ s < 100) (h2 : ¬ (599 : Int32) < s) : s / (100 : Int32) = 2 ↔ ¬ s < 200 ∧ ¬ (299 : Int32) < s := by
  have e1 : (100 : Int32).toInt = 100 := by decide
  have e2 : (599 : Int32).toInt = 599 := by decide
  have e3 : (2 : Int32).toInt = 2 := by decide
  have e4 : (200 : Int32).toInt = 200 := by decide
  have e5 : (299 : Int32).toInt = 299 := by decide
  rw [Int32.lt_iff_toInt_lt, e1] at h1
  rw [Int32.lt_iff_toInt_lt, e2] at h2
  have d := (c_idiv s 100 100 e1 (by decide)).1 (by omega)
  rw [← Int32.toInt_inj, Int32.lt_iff_toInt_lt, Int32.lt_iff_toInt_lt, d, e3, e4, e5]
  omega
theorem pn_java_util_Objects : plainName "java/util/Objects" = true := by first | (simp [plainName, overriddenIn]; done) | decide +kernel
theorem d3_0 : decode jdk_31_method_11_code 0 = .ok (.aload_n 0, 1) := by decide +kernel
theorem d3_1 : decode jdk_31_method_11_code 1 = .ok (.ifnonnull 12, 3) := by decide +kernel
theorem d3_13 : decode jdk_31_method_11_code 13 = .ok (.aload_n 0, 1) := by decide +kernel
theorem d3_14 : decode jdk_31_method_11_code 14 = .ok (.areturn, 1) := by decide +kernel
theorem ef_3 (m : MethodId) (x0 : Addr) (x1 : Addr) : entryFrame m #[(.ref x0), (.ref x1)] 2 = mkF m 0 #[.val (.ref x0), .val (.ref x1)] [] := by first | (simp [entryFrame, mkF, argsToLocals, Value.category, maxLocals]; done) | rfl
def Q3 (Z : State) (a1 : Addr) (a2 : Addr) (h0 : Heap) (n0 : Nat) (v : Option Value) (h : Heap) (L : List Loc) : Prop := v = some (.ref a1) ∧ Fr n0 L ∧ h = h0
set_option maxRecDepth 65536 in
set_option maxHeartbeats 40000000 in
theorem rm3 (l : Launch) (Z : State) (a0 : Array Value) (hw : ∀ d ∈ tables_1, d.before a0 Z = true) (ws : List Jvm.Cond) (a1 : Addr) (a2 : Addr) (h0 : Heap) (n0 : Nat) (Z0 : n0 ≤ h0.size)  :
    MetFree l (⟨"java/util/Objects", "requireNonNull", "(Ljava/lang/Object;Ljava/lang/String;)Ljava/lang/Object;"⟩ : MethodName) (head1 (Jvm.Cond.code (⟨"java/util/Objects", "requireNonNull", "(Ljava/lang/Object;Ljava/lang/String;)Ljava/lang/Object;"⟩ : MethodName) jdk_31_method_11_code 2 (some (.object "java/lang/Object")) :: ws) ({ frames := 0, cells := 0, slots := 0, locals := 0 } : Room)) (fun a U => a = #[(.ref a1), (.ref a2)] ∧ Z.Warmed39 U.vm ∧ U.heap = h0) (fun _ _ _ _ _ => True) (fun _ U o U' => ∃ v L, o = .returned v ∧ Q3 Z a1 a2 h0 n0 v U'.heap L ∧ FrameEnd U o U' L ({ frames := 0, cells := 0, slots := 0, locals := 0 } : Room).cells ({ frames := 0, cells := 0, slots := 0, locals := 0 } : Room).slots) := by
  refine MetFree.of_bodySF (plainFor_of_name pn_java_util_Objects) hisR ?_
  intro p e s m args below meth c s₁ Bd hml0 hP hK
  obtain ⟨rfl, hZ, hh⟩ := hP
  have hx := Bd.exec
  have hby := Bd.bytes
  have hml : c.maxLocals = 2 := hml0
  have hown : s.vm.findClass "java/util/Objects" = some m.cls := findClass_of_methodNamed Bd.named
  have hnm := (name_of_methodNamed Bd.named Bd.method).1
  have X0 : Stand p l e ({ frames := 0, cells := 0, slots := 0, locals := 0 } : Room) s m #[(.ref a1), (.ref a2)] below meth c s₁ [] 0 0 := Stand.of_body Bd
  have e0 : s₁.heap = h0 := by rw [← hh, Bd.state]; rfl
  have N0 := Fr.nil n0
  show Run p.tables e below (PQ s below 0 0 (Q3 Z a1 a2 h0 n0)) (s₁.setTop (entryFrame m #[(.ref a1), (.ref a2)] 2))
  refine Run.step (fun t k => castTop (ef_3 m a1 a2) k) ?_
  show Run _ _ _ _ (s₁.setTop (mkF m 0 #[.val (.ref a1), .val (.ref a2)] []))
  refine Run.step (fun t_ k_ => XS.aloadN X0.here hx rfl (hb hby d3_0) rfl rfl k_) ?_
  show Run _ _ _ _ (s₁.setTop (mkF m 1 #[.val (.ref a1), .val (.ref a2)] [(.ref a1)]))
  refine Run.step (fun t_ k_ => XS.ifnonnullYes X0.here hx rfl (pc0 := 1) (pc' := 13) rfl (hb hby d3_1) rfl (by decide) (by decide) k_) ?_
  show Run _ _ _ _ (s₁.setTop (mkF m 13 #[.val (.ref a1), .val (.ref a2)] []))
  refine Run.step (fun t_ k_ => XS.aloadN X0.here hx rfl (hb hby d3_13) rfl rfl k_) ?_
  show Run _ _ _ _ (s₁.setTop (mkF m 14 #[.val (.ref a1), .val (.ref a2)] [(.ref a1)]))
  exact finA X0 hx (BodyLoose.notSynchronized Bd) Bd.returns (hb hby d3_14) rfl rfl (by decide) (by decide) e0 ⟨rfl, N0, rfl⟩
theorem pn_faultwise_retry_Answer : plainName "faultwise/retry/Answer" = true := by first | (simp [plainName, overriddenIn]; done) | decide +kernel
theorem d1_0 : decode prog_28_method_1_code 0 = .ok (.aload_n 0, 1) := by decide +kernel
theorem d1_1 : decode prog_28_method_1_code 1 = .ok (.invokespecial 1, 3) := by decide +kernel
theorem d1_4 : decode prog_28_method_1_code 4 = .ok (.iload_n 1, 1) := by decide +kernel
theorem d1_5 : decode prog_28_method_1_code 5 = .ok (.bipush 100, 2) := by decide +kernel
theorem d1_7 : decode prog_28_method_1_code 7 = .ok (.if_icmp .lt 10, 3) := by decide +kernel
theorem d1_10 : decode prog_28_method_1_code 10 = .ok (.iload_n 1, 1) := by decide +kernel
theorem d1_11 : decode prog_28_method_1_code 11 = .ok (.sipush 599, 3) := by decide +kernel
theorem d1_14 : decode prog_28_method_1_code 14 = .ok (.if_icmp .le 17, 3) := by decide +kernel
theorem d1_31 : decode prog_28_method_1_code 31 = .ok (.aload_n 0, 1) := by decide +kernel
theorem d1_32 : decode prog_28_method_1_code 32 = .ok (.iload_n 1, 1) := by decide +kernel
theorem d1_33 : decode prog_28_method_1_code 33 = .ok (.putfield 16, 3) := by decide +kernel
theorem d1_36 : decode prog_28_method_1_code 36 = .ok (.aload_n 0, 1) := by decide +kernel
theorem d1_37 : decode prog_28_method_1_code 37 = .ok (.aload_n 2, 1) := by decide +kernel
theorem d1_38 : decode prog_28_method_1_code 38 = .ok (.ldc 22, 2) := by decide +kernel
theorem d1_40 : decode prog_28_method_1_code 40 = .ok (.invokestatic 24, 3) := by decide +kernel
theorem pd__28Ljava_2flang_2fObject_3bLjava_2flang_2fString_3b_29Ljava_2flang_2fObject_3b : parseMethodDescriptor "(Ljava/lang/Object;Ljava/lang/String;)Ljava/lang/Object;" = some ⟨[(.object "java/lang/Object"), (.object "java/lang/String")], some (.object "java/lang/Object")⟩ := by decide +kernel
theorem d1_43 : decode prog_28_method_1_code 43 = .ok (.checkcast 30, 3) := by decide +kernel
theorem d1_46 : decode prog_28_method_1_code 46 = .ok (.invokevirtual 32, 3) := by decide +kernel
theorem d1_49 : decode prog_28_method_1_code 49 = .ok (.checkcast 30, 3) := by decide +kernel
theorem d1_52 : decode prog_28_method_1_code 52 = .ok (.putfield 36, 3) := by decide +kernel
theorem d1_55 : decode prog_28_method_1_code 55 = .ok (.return_, 1) := by decide +kernel
theorem ef_1 (m : MethodId) (x0 : Addr) (x1 : Int32) (x2 : Addr) : entryFrame m #[(.ref x0), (.int x1), (.ref x2)] 3 = mkF m 0 #[.val (.ref x0), .val (.int x1), .val (.ref x2)] [] := by first | (simp [entryFrame, mkF, argsToLocals, Value.category, maxLocals]; done) | rfl
def Q1 (Z : State) (a1 : Addr) (q : Int32) (a2 : Addr) (k : ClassId) (y : Int32) (h0 : Heap) (n0 : Nat) (v : Option Value) (h : Heap) (L : List Loc) : Prop := v = none ∧ Fr n0 L ∧ Keep h0 h [a1] ∧ Fld Z h a1 "faultwise/retry/Answer" "status" "I" (.int q)
set_option maxRecDepth 65536 in
set_option maxHeartbeats 40000000 in
theorem rm1 (l : Launch) (Z : State) (a0 : Array Value) (hw : ∀ d ∈ tables_1, d.before a0 Z = true) (ws : List Jvm.Cond) (a1 : Addr) (q : Int32) (a2 : Addr) (k : ClassId) (y : Int32) (h0 : Heap) (n0 : Nat) (Z0 : n0 ≤ h0.size) (hlo : ¬ q < 100) (hhi : ¬ (599 : Int32) < q) (F1 : Fld Z h0 a1 "faultwise/retry/Answer" "status" "I" (.int (0 : Int32))) (F2 : Fld Z h0 a1 "faultwise/retry/Answer" "body" "[B" .null) (E1 : Exa Z h0 a1 "faultwise/retry/Answer") (g1 : n0 ≤ a1) (V2 : Arv Z h0 a2 k .byte (1 : Int32) [(.int y)] (.int (0 : Int32))) (E2 : Exa Z h0 a2 "[B") (ne : a2 ≠ a1) :
    MetFree l (⟨"faultwise/retry/Answer", "<init>", "(I[B)V"⟩ : MethodName) (head1 (Jvm.Cond.code (⟨"faultwise/retry/Answer", "<init>", "(I[B)V"⟩ : MethodName) prog_28_method_1_code 3 none :: ws) ({ frames := 1, cells := 3, slots := 21, locals := 15 } : Room)) (fun a U => a = #[(.ref a1), (.int q), (.ref a2)] ∧ Z.Warmed39 U.vm ∧ U.heap = h0) (fun _ _ _ _ _ => True) (fun _ U o U' => ∃ v L, o = .returned v ∧ Q1 Z a1 q a2 k y h0 n0 v U'.heap L ∧ ReturnedEndW U o U' L ({ frames := 1, cells := 3, slots := 21, locals := 15 } : Room).cells ({ frames := 1, cells := 3, slots := 21, locals := 15 } : Room).slots) := by
  refine MetFree.of_bodySF (plainFor_of_name pn_faultwise_retry_Answer) hisR ?_
  intro p e s m args below meth c s₁ Bd hml0 hP hK
  obtain ⟨rfl, hZ, hh⟩ := hP
  have hx := Bd.exec
  have hby := Bd.bytes
  have w3 := hw _ (List.mem_of_getElem? (i := 3) rfl)
  have w8 := hw _ (List.mem_of_getElem? (i := 8) rfl)
  have w9 := hw _ (List.mem_of_getElem? (i := 9) rfl)
  have w10 := hw _ (List.mem_of_getElem? (i := 10) rfl)
  have w11 := hw _ (List.mem_of_getElem? (i := 11) rfl)
  have w12 := hw _ (List.mem_of_getElem? (i := 12) rfl)
  have w13 := hw _ (List.mem_of_getElem? (i := 13) rfl)
  have w20 := hw _ (List.mem_of_getElem? (i := 20) rfl)
  have w21 := hw _ (List.mem_of_getElem? (i := 21) rfl)
  have w22 := hw _ (List.mem_of_getElem? (i := 22) rfl)
  have w23 := hw _ (List.mem_of_getElem? (i := 23) rfl)
  have w24 := hw _ (List.mem_of_getElem? (i := 24) rfl)
  have w26 := hw _ (List.mem_of_getElem? (i := 26) rfl)
  have w27 := hw _ (List.mem_of_getElem? (i := 27) rfl)
  have w29 := hw _ (List.mem_of_getElem? (i := 29) rfl)
  have w30 := hw _ (List.mem_of_getElem? (i := 30) rfl)
  have w31 := hw _ (List.mem_of_getElem? (i := 31) rfl)
  have w32 := hw _ (List.mem_of_getElem? (i := 32) rfl)
  have w33 := hw _ (List.mem_of_getElem? (i := 33) rfl)
  have w34 := hw _ (List.mem_of_getElem? (i := 34) rfl)
  have hml : c.maxLocals = 3 := hml0
  have hown : s.vm.findClass "faultwise/retry/Answer" = some m.cls := findClass_of_methodNamed Bd.named
  have hnm := (name_of_methodNamed Bd.named Bd.method).1
  have hS0 : s.Since s.vm 0 := (State.WarmedH.refl s).since 0
  have X0 : Stand p l e ({ frames := 1, cells := 3, slots := 21, locals := 15 } : Room) (s.setVm s.vm) m #[(.ref a1), (.int q), (.ref a2)] below meth c s₁ [] 0 0 := Stand.of_body Bd
  have e0 : s₁.heap = h0 := by rw [← hh, Bd.state]; rfl
  have N0 := Fr.nil n0
  show Run p.tables e below (PW s below 3 21 (Q1 Z a1 q a2 k y h0 n0)) (s₁.setTop (entryFrame m #[(.ref a1), (.int q), (.ref a2)] 3))
  refine Run.step (fun t k => castTop (ef_1 m a1 q a2) k) ?_
  show Run _ _ _ _ (s₁.setTop (mkF m 0 #[.val (.ref a1), .val (.int q), .val (.ref a2)] []))
  refine Run.step (fun t_ k_ => XS.aloadN X0.here hx rfl (hb hby d1_0) rfl rfl k_) ?_
  show Run _ _ _ _ (s₁.setTop (mkF m 1 #[.val (.ref a1), .val (.int q), .val (.ref a2)] [(.ref a1)]))
  obtain ⟨T1, X1, e1, st1⟩ := initO X0 hx hZ hown w8 w9 w10 e0 (g := (mkF m 1 #[.val (.ref a1), .val (.int q), .val (.ref a2)] [(.ref a1)])) rfl (by rw [hml]; rfl) rfl (hb hby d1_1) (by decide) (W := 0) (by show 2 * 0 + _ ≤ _; exact Nat.le_of_eq rfl) (by decide)
  refine Run.step st1 ?_
  show Run _ _ _ _ (T1.setTop (mkF m 4 #[.val (.ref a1), .val (.int q), .val (.ref a2)] []))
  refine Run.step (fun t_ k_ => XS.iloadN X1.here hx rfl (hb hby d1_4) rfl k_) ?_
  show Run _ _ _ _ (T1.setTop (mkF m 5 #[.val (.ref a1), .val (.int q), .val (.ref a2)] [(.int q)]))
  refine Run.step (fun t_ k_ => XS.bipush X1.here hx rfl (hb hby d1_5) k_) ?_
  show Run _ _ _ _ (T1.setTop (mkF m 7 #[.val (.ref a1), .val (.int q), .val (.ref a2)] [(.int (100 : Int32)), (.int q)]))
  refine Run.step (fun t_ k_ => XS.icmpNo X1.here hx rfl (hb hby d1_7) rfl (XT.ii_lt_f (hlo : ¬ (q < (100 : Int32)))) k_) ?_
  show Run _ _ _ _ (T1.setTop (mkF m 10 #[.val (.ref a1), .val (.int q), .val (.ref a2)] []))
  refine Run.step (fun t_ k_ => XS.iloadN X1.here hx rfl (hb hby d1_10) rfl k_) ?_
  show Run _ _ _ _ (T1.setTop (mkF m 11 #[.val (.ref a1), .val (.int q), .val (.ref a2)] [(.int q)]))
  refine Run.step (fun t_ k_ => XS.sipush X1.here hx rfl (hb hby d1_11) k_) ?_
  show Run _ _ _ _ (T1.setTop (mkF m 14 #[.val (.ref a1), .val (.int q), .val (.ref a2)] [(.int (599 : Int32)), (.int q)]))
  refine Run.step (fun t_ k_ => XS.icmpYes X1.here hx rfl (pc0 := 14) (pc' := 31) rfl (hb hby d1_14) rfl (XT.ii_le_t (hhi : ¬ ((599 : Int32) < q))) (by decide) (by decide) k_) ?_
  show Run _ _ _ _ (T1.setTop (mkF m 31 #[.val (.ref a1), .val (.int q), .val (.ref a2)] []))
  refine Run.step (fun t_ k_ => XS.aloadN X1.here hx rfl (hb hby d1_31) rfl rfl k_) ?_
  show Run _ _ _ _ (T1.setTop (mkF m 32 #[.val (.ref a1), .val (.int q), .val (.ref a2)] [(.ref a1)]))
  refine Run.step (fun t_ k_ => XS.iloadN X1.here hx rfl (hb hby d1_32) rfl k_) ?_
  show Run _ _ _ _ (T1.setTop (mkF m 33 #[.val (.ref a1), .val (.int q), .val (.ref a2)] [(.int q), (.ref a1)]))
  obtain ⟨T2, h2, X2, e2, W2, st2⟩ := putF X1 hx hZ hown (host := "") (Or.inl w11) Via.refl e1 F1 E1 (Or.inr ⟨w12, rfl, hnm⟩) w3 (ty := .int) (by decide) rfl rfl (g := (mkF m 33 #[.val (.ref a1), .val (.int q), .val (.ref a2)] [(.int q), (.ref a1)])) rfl rfl (hb hby d1_33)
  refine Run.step st2 ?_
  have f3 := F1.same W2
  have f4 := F2.other W2 (Or.inr (slot_ne (Or.inr w34) (Or.inr w12) (by decide) (t := (.array .byte)) (t' := .int) (by decide) (by decide)))
  have f5 := E1.wr W2
  have f6 := V2.other W2 ne
  have f7 := E2.wr W2
  have z8 := Nat.le_trans Z0 (Keep.of_wr W2).1
  have y9 := Nat.le_trans (Nat.zero_le _) (Keep.of_wr W2).1
  have K10 := (Keep.refl h0 [a1]).wr W2 (Or.inl (List.mem_of_getElem? (i := 0) rfl))
  have N11 := Fr.snoc X2 N0 g1
  show Run _ _ _ _ (T2.setTop (mkF m 36 #[.val (.ref a1), .val (.int q), .val (.ref a2)] []))
  refine Run.step (fun t_ k_ => XS.aloadN X2.here hx rfl (hb hby d1_36) rfl rfl k_) ?_
  show Run _ _ _ _ (T2.setTop (mkF m 37 #[.val (.ref a1), .val (.int q), .val (.ref a2)] [(.ref a1)]))
  refine Run.step (fun t_ k_ => XS.aloadN X2.here hx rfl (hb hby d1_37) rfl rfl k_) ?_
  show Run _ _ _ _ (T2.setTop (mkF m 38 #[.val (.ref a1), .val (.int q), .val (.ref a2)] [(.ref a2), (.ref a1)]))
  obtain ⟨a12, T12, h12, k12, X12, e12, E12, hS12, hk12, hZ, hown, st12⟩ := ldcS (s := s) X2 hx hZ hown w13 (own_wS hw) e2 hS0 y9 (g := (mkF m 38 #[.val (.ref a1), .val (.int q), .val (.ref a2)] [(.ref a2), (.ref a1)])) rfl (hb hby d1_38) (n := 16) (by decide) (by decide) (by decide) (by decide)
  refine Run.step st12 ?_
  have f13 := f3.ext E12
  have f14 := f4.ext E12
  have f15 := f5.ext E12
  have f16 := f6.ext E12
  have f17 := f7.ext E12
  have z18 := Nat.le_trans z8 E12.1
  have K19 := K10.ext E12
  show Run _ _ _ _ (T12.setTop (mkF m 40 #[.val (.ref a1), .val (.int q), .val (.ref a2)] [(.ref a12), (.ref a2), (.ref a1)]))
  obtain ⟨_, _, ⟨T20, L20, k20, n20⟩, -, X20, ⟨Lc20, hQ20, l20, y20, z20⟩, st20⟩ := Jvm.LawKit.callS X12 hx (y := (⟨"java/util/Objects", "requireNonNull", "(Ljava/lang/Object;Ljava/lang/String;)Ljava/lang/Object;"⟩ : MethodName)) hown (mvT hZ w20) (mvT hZ w21) (mvT hZ w22) (mvT hZ w23) (by decide) (backOf (W := 1) (rm3 l Z a0 hw [] a2 a12 h12 n0 z18) hZ w23 w22 (by decide) (by decide)) (g := (mkF m 40 #[.val (.ref a1), .val (.int q), .val (.ref a2)] [(.ref a12), (.ref a2), (.ref a1)])) rfl (by rw [hml]; rfl) (argsL := [(.ref a2), (.ref a12)]) (rest := [(.ref a1)]) (lenOf pd__28Ljava_2flang_2fObject_3bLjava_2flang_2fString_3b_29Ljava_2flang_2fObject_3b rfl) rfl (by show 2 * 0 + _ ≤ _; exact Nat.le_of_eq rfl) (hb hby d1_40) (fun _ _ => ⟨rfl, e12, (by decide : 2 + 0 ≤ _), (by decide : 20 + 0 ≤ _)⟩)
  dsimp only [Pt.U, Pt.locs, Pt.cells, Pt.slots] at X20 l20 y20 z20 st20 hQ20
  subst l20 y20 z20
  refine Run.step (st20) ?_
  obtain ⟨rfl, N20q, e20q⟩ := hQ20
  have N20 := Fr.app N11 N20q
  show Run _ _ _ _ (T20.setTop (mkF m 43 #[.val (.ref a1), .val (.int q), .val (.ref a2)] [(.ref a2), (.ref a1)]))
  obtain ⟨T21, X21, e21, st21⟩ := castY X20 hx hZ hown w24 e20q (Ins.self f17) (g := (mkF m 43 #[.val (.ref a1), .val (.int q), .val (.ref a2)] [(.ref a2), (.ref a1)])) rfl rfl (hb hby d1_43)
  refine Run.step st21 ?_
  show Run _ _ _ _ (T21.setTop (mkF m 46 #[.val (.ref a1), .val (.int q), .val (.ref a2)] [(.ref a2), (.ref a1)]))
  obtain ⟨T23, h23, X23, e23, E23, B23, A23, st23⟩ := cloneH X21 hx hZ hown w26 w27 w31 w29 w30 w32 e21 (Arv.arh f16) f17 (g := (mkF m 46 #[.val (.ref a1), .val (.int q), .val (.ref a2)] [(.ref a2), (.ref a1)])) rfl (by rw [hml]; rfl) rfl (hb hby d1_46) (by decide) (W := 1) (cap := 1) (by show 2 * 0 + _ ≤ _; exact Nat.le_of_eq rfl) (by decide) (by decide) (by decide) (by decide)
  obtain ⟨b23, g23⟩ : ∃ z, z = h12.size := ⟨_, rfl⟩
  rw [← g23] at A23 B23 st23
  refine Run.step st23 ?_
  have ne24 : a1 ≠ b23 := Nat.ne_of_lt (Nat.lt_of_lt_of_le f13.lt (Nat.le_of_eq g23.symm))
  have ne25 : a2 ≠ b23 := Nat.ne_of_lt (Nat.lt_of_lt_of_le f16.lt (Nat.le_of_eq g23.symm))
  have g_b23 : n0 ≤ b23 := Nat.le_trans z18 (Nat.le_of_eq g23.symm)
  have sz_b23 : h0.size ≤ b23 := Nat.le_trans K19.1 (Nat.le_of_eq g23.symm)
  have f26 := f13.ext E23
  have f27 := f14.ext E23
  have f28 := f15.ext E23
  have f29 := f16.ext E23
  have f30 := f17.ext E23
  have z31 := Nat.le_trans z18 E23.1
  have y32 := Nat.le_trans hk12 E23.1
  have K33 := K19.ext E23
  show Run _ _ _ _ (T23.setTop (mkF m 49 #[.val (.ref a1), .val (.int q), .val (.ref a2)] [(.ref b23), (.ref a1)]))
  obtain ⟨T34, X34, e34, st34⟩ := castY X23 hx hZ hown w24 e23 (Ins.self A23) (g := (mkF m 49 #[.val (.ref a1), .val (.int q), .val (.ref a2)] [(.ref b23), (.ref a1)])) rfl rfl (hb hby d1_49)
  refine Run.step st34 ?_
  show Run _ _ _ _ (T34.setTop (mkF m 52 #[.val (.ref a1), .val (.int q), .val (.ref a2)] [(.ref b23), (.ref a1)]))
  obtain ⟨T35, h35, X35, e35, W35, st35⟩ := putF X34 hx hZ hown (host := "") (Or.inl w33) Via.refl e34 f27 f28 (Or.inr ⟨w34, rfl, hnm⟩) w3 (ty := (.array .byte)) (by decide) rfl rfl (g := (mkF m 52 #[.val (.ref a1), .val (.int q), .val (.ref a2)] [(.ref b23), (.ref a1)])) rfl rfl (hb hby d1_52)
  refine Run.step st35 ?_
  have f36 := f26.other W35 (Or.inr (slot_ne (Or.inr w12) (Or.inr w34) (by decide) (t := .int) (t' := (.array .byte)) (by decide) (by decide)))
  have f37 := f27.same W35
  have f38 := f28.wr W35
  have f39 := f29.other W35 ne
  have f40 := f30.wr W35
  have f41 := A23.wr W35
  have z42 := Nat.le_trans z31 (Keep.of_wr W35).1
  have y43 := Nat.le_trans y32 (Keep.of_wr W35).1
  have K44 := K33.wr W35 (Or.inl (List.mem_of_getElem? (i := 0) rfl))
  have N45 := Fr.snoc X35 N20 g1
  show Run _ _ _ _ (T35.setTop (mkF m 55 #[.val (.ref a1), .val (.int q), .val (.ref a2)] []))
  exact finVW X35 hx hS12 y43 (BodyLoose.notSynchronized Bd) Bd.returns (hb hby d1_55) (by decide) (by decide) e35 ⟨rfl, N45, K44, f36⟩
theorem d4_0 : decode prog_28_method_4_code 0 = .ok (.aload_n 0, 1) := by decide +kernel
theorem d4_1 : decode prog_28_method_4_code 1 = .ok (.getfield 16, 3) := by decide +kernel
theorem d4_4 : decode prog_28_method_4_code 4 = .ok (.bipush 100, 2) := by decide +kernel
theorem d4_6 : decode prog_28_method_4_code 6 = .ok (.idiv, 1) := by decide +kernel
theorem d4_7 : decode prog_28_method_4_code 7 = .ok (.iconst 2, 1) := by decide +kernel
theorem d4_8 : decode prog_28_method_4_code 8 = .ok (.if_icmp .ne 7, 3) := by decide +kernel
theorem d4_11 : decode prog_28_method_4_code 11 = .ok (.iconst 1, 1) := by decide +kernel
theorem d4_12 : decode prog_28_method_4_code 12 = .ok (.goto 4, 3) := by decide +kernel
theorem d4_16 : decode prog_28_method_4_code 16 = .ok (.ireturn, 1) := by decide +kernel
theorem d4_15 : decode prog_28_method_4_code 15 = .ok (.iconst 0, 1) := by decide +kernel
theorem ef_4 (m : MethodId) (x0 : Addr) : entryFrame m #[(.ref x0)] 1 = mkF m 0 #[.val (.ref x0)] [] := by first | (simp [entryFrame, mkF, argsToLocals, Value.category, maxLocals]; done) | rfl
def Q4 (Z : State) (a1 : Addr) (q : Int32) (h0 : Heap) (n0 : Nat) (v : Option Value) (h : Heap) (L : List Loc) : Prop := v = some (.int (if q / (100 : Int32) = (2 : Int32) then 1 else 0)) ∧ Fr n0 L ∧ h = h0
set_option maxRecDepth 65536 in
set_option maxHeartbeats 40000000 in
theorem rm4 (l : Launch) (Z : State) (a0 : Array Value) (hw : ∀ d ∈ tables_1, d.before a0 Z = true) (ws : List Jvm.Cond) (a1 : Addr) (q : Int32) (h0 : Heap) (n0 : Nat) (Z0 : n0 ≤ h0.size) (F1 : Fld Z h0 a1 "faultwise/retry/Answer" "status" "I" (.int q)) :
    MetFree l (⟨"faultwise/retry/Answer", "isSuccess", "()Z"⟩ : MethodName) (head1 (Jvm.Cond.code (⟨"faultwise/retry/Answer", "isSuccess", "()Z"⟩ : MethodName) prog_28_method_4_code 1 (some .boolean) :: ws) ({ frames := 0, cells := 0, slots := 0, locals := 0 } : Room)) (fun a U => a = #[(.ref a1)] ∧ Z.Warmed39 U.vm ∧ U.heap = h0) (fun _ _ _ _ _ => True) (fun _ U o U' => ∃ v L, o = .returned v ∧ Q4 Z a1 q h0 n0 v U'.heap L ∧ FrameEnd U o U' L ({ frames := 0, cells := 0, slots := 0, locals := 0 } : Room).cells ({ frames := 0, cells := 0, slots := 0, locals := 0 } : Room).slots) := by
  refine MetFree.of_bodySF (plainFor_of_name pn_faultwise_retry_Answer) hisR ?_
  intro p e s m args below meth c s₁ Bd hml0 hP hK
  obtain ⟨rfl, hZ, hh⟩ := hP
  have hx := Bd.exec
  have hby := Bd.bytes
  have w11 := hw _ (List.mem_of_getElem? (i := 11) rfl)
  have hml : c.maxLocals = 1 := hml0
  have hown : s.vm.findClass "faultwise/retry/Answer" = some m.cls := findClass_of_methodNamed Bd.named
  have hnm := (name_of_methodNamed Bd.named Bd.method).1
  have X0 : Stand p l e ({ frames := 0, cells := 0, slots := 0, locals := 0 } : Room) s m #[(.ref a1)] below meth c s₁ [] 0 0 := Stand.of_body Bd
  have e0 : s₁.heap = h0 := by rw [← hh, Bd.state]; rfl
  have N0 := Fr.nil n0
  show Run p.tables e below (PQ s below 0 0 (Q4 Z a1 q h0 n0)) (s₁.setTop (entryFrame m #[(.ref a1)] 1))
  refine Run.step (fun t k => castTop (ef_4 m a1) k) ?_
  show Run _ _ _ _ (s₁.setTop (mkF m 0 #[.val (.ref a1)] []))
  refine Run.step (fun t_ k_ => XS.aloadN X0.here hx rfl (hb hby d4_0) rfl rfl k_) ?_
  show Run _ _ _ _ (s₁.setTop (mkF m 1 #[.val (.ref a1)] [(.ref a1)]))
  obtain ⟨T46, X46, e46, st46⟩ := getF X0 hx hZ hown (host := "") (Or.inl w11) Via.refl e0 F1 (g := (mkF m 1 #[.val (.ref a1)] [(.ref a1)])) rfl rfl (hb hby d4_1)
  refine Run.step st46 ?_
  show Run _ _ _ _ (T46.setTop (mkF m 4 #[.val (.ref a1)] [(.int q)]))
  refine Run.step (fun t_ k_ => XS.bipush X46.here hx rfl (hb hby d4_4) k_) ?_
  show Run _ _ _ _ (T46.setTop (mkF m 6 #[.val (.ref a1)] [(.int (100 : Int32)), (.int q)]))
  refine Run.step (fun t_ k_ => XS.idiv X46.here hx rfl (hb hby d4_6) rfl (by decide) k_) ?_
  show Run _ _ _ _ (T46.setTop (mkF m 7 #[.val (.ref a1)] [(.int (q / (100 : Int32)))]))
  refine Run.step (fun t_ k_ => XS.iconst X46.here hx rfl (hb hby d4_7) k_) ?_
  show Run _ _ _ _ (T46.setTop (mkF m 8 #[.val (.ref a1)] [(.int (2 : Int32)), (.int (q / (100 : Int32)))]))
  by_cases c8 : (q / (100 : Int32)) = (2 : Int32)
  · skip
    refine Run.step (fun t_ k_ => XS.icmpNo X46.here hx rfl (hb hby d4_8) rfl (XT.ii_ne_f c8) k_) ?_
    show Run _ _ _ _ (T46.setTop (mkF m 11 #[.val (.ref a1)] []))
    refine Run.step (fun t_ k_ => XS.iconst X46.here hx rfl (hb hby d4_11) k_) ?_
    show Run _ _ _ _ (T46.setTop (mkF m 12 #[.val (.ref a1)] [(.int (1 : Int32))]))
    refine Run.step (fun t_ k_ => XS.goto X46.here hx rfl (pc0 := 12) (pc' := 16) rfl (hb hby d4_12) (by decide) (by decide) k_) ?_
    show Run _ _ _ _ (T46.setTop (mkF m 16 #[.val (.ref a1)] [(.int (1 : Int32))]))
    exact finZ X46 hx (BodyLoose.notSynchronized Bd) Bd.returns (hb hby d4_16) (by decide) (by decide) (by decide) e46 ⟨congrArg (fun z => some (Value.int z)) (if_pos c8).symm, N0, rfl⟩
  · skip
    refine Run.step (fun t_ k_ => XS.icmpYes X46.here hx rfl (pc0 := 8) (pc' := 15) rfl (hb hby d4_8) rfl (XT.ii_ne_t c8) (by decide) (by decide) k_) ?_
    show Run _ _ _ _ (T46.setTop (mkF m 15 #[.val (.ref a1)] []))
    refine Run.step (fun t_ k_ => XS.iconst X46.here hx rfl (hb hby d4_15) k_) ?_
    show Run _ _ _ _ (T46.setTop (mkF m 16 #[.val (.ref a1)] [(.int (0 : Int32))]))
    exact finZ X46 hx (BodyLoose.notSynchronized Bd) Bd.returns (hb hby d4_16) (by decide) (by decide) (by decide) e46 ⟨congrArg (fun z => some (Value.int z)) (if_neg c8).symm, N0, rfl⟩
theorem pn_faultwise_retry_AnswerIsSuccessPinLaw : plainName "faultwise/retry/AnswerIsSuccessPinLaw" = true := by first | (simp [plainName, overriddenIn]; done) | decide +kernel
theorem pd__28I_5bB_29V : parseMethodDescriptor "(I[B)V" = some ⟨[.int, (.array .byte)], none⟩ := by decide +kernel
theorem pd__28_29Z : parseMethodDescriptor "()Z" = some ⟨[], some .boolean⟩ := by decide +kernel
theorem ef_0 (m : MethodId) (x0 : Int32) (x1 : Int32) : entryFrame m #[(.int x0), (.int x1)] maxLocals = mkF m 0 #[.val (.int x0), .val (.int x1), .unset, .unset, .unset, .unset] [] := by first | (simp [entryFrame, mkF, argsToLocals, Value.category, maxLocals]; done) | rfl
def Q0 (Z : State) (p1 : Int32) (p2 : Int32) (h0 : Heap) (n0 : Nat) (v : Option Value) (h : Heap) (L : List Loc) : Prop := v = some (.int 1) ∧ Fr n0 L
set_option maxRecDepth 65536 in
set_option maxHeartbeats 40000000 in
theorem rm0 (l : Launch) (Z : State) (a0 : Array Value) (hw : ∀ d ∈ tables_1, d.before a0 Z = true) (ws : List Jvm.Cond) (p1 : Int32) (p2 : Int32) (h0 : Heap) (n0 : Nat) (Z0 : n0 ≤ h0.size)  :
    MetFree l x (head1 (Jvm.Cond.code x code maxLocals ret :: ws) room_1) (fun a U => a = #[(.int p1), (.int p2)] ∧ Z.Warmed39 U.vm ∧ U.heap = h0) (fun _ _ _ _ _ => True) (fun _ U o U' => ∃ v L, o = .returned v ∧ Q0 Z p1 p2 h0 n0 v U'.heap L ∧ ReturnedEndW U o U' L 16 1152) := by
  refine MetFree.of_bodySF (plainFor_of_name pn_faultwise_retry_AnswerIsSuccessPinLaw) hisR ?_
  intro p e s m args below meth c s₁ Bd hml0 hP hK
  obtain ⟨rfl, hZ, hh⟩ := hP
  have hx := Bd.exec
  have hby := Bd.bytes
  have w0 := hw _ (List.mem_of_getElem? (i := 0) rfl)
  have w1 := hw _ (List.mem_of_getElem? (i := 1) rfl)
  have w2 := hw _ (List.mem_of_getElem? (i := 2) rfl)
  have w3 := hw _ (List.mem_of_getElem? (i := 3) rfl)
  have w4 := hw _ (List.mem_of_getElem? (i := 4) rfl)
  have w5 := hw _ (List.mem_of_getElem? (i := 5) rfl)
  have w6 := hw _ (List.mem_of_getElem? (i := 6) rfl)
  have w7 := hw _ (List.mem_of_getElem? (i := 7) rfl)
  have w12 := hw _ (List.mem_of_getElem? (i := 12) rfl)
  have w34 := hw _ (List.mem_of_getElem? (i := 34) rfl)
  have w35 := hw _ (List.mem_of_getElem? (i := 35) rfl)
  have w36 := hw _ (List.mem_of_getElem? (i := 36) rfl)
  have w37 := hw _ (List.mem_of_getElem? (i := 37) rfl)
  have w38 := hw _ (List.mem_of_getElem? (i := 38) rfl)
  have w39 := hw _ (List.mem_of_getElem? (i := 39) rfl)
  have hml : c.maxLocals = 6 := hml0
  have hown : s.vm.findClass "faultwise/retry/AnswerIsSuccessPinLaw" = some m.cls := findClass_of_methodNamed Bd.named
  have hnm := (name_of_methodNamed Bd.named Bd.method).1
  have hS0 : s.Since s.vm 0 := (State.WarmedH.refl s).since 0
  have X0 : Stand p l e room_1 (s.setVm s.vm) m #[(.int p1), (.int p2)] below meth c s₁ [] 0 0 := Stand.of_body Bd
  have e0 : s₁.heap = h0 := by rw [← hh, Bd.state]; rfl
  have N0 := Fr.nil n0
  show Run p.tables e below (PW s below 16 1152 (Q0 Z p1 p2 h0 n0)) (s₁.setTop (entryFrame m #[(.int p1), (.int p2)] maxLocals))
  refine Run.step (fun t k => castTop (ef_0 m p1 p2) k) ?_
  show Run _ _ _ _ (s₁.setTop (mkF m 0 #[.val (.int p1), .val (.int p2), .unset, .unset, .unset, .unset] []))
  refine Run.step (fun t_ k_ => XS.bipush X0.here hx rfl (hb hby at_0) k_) ?_
  show Run _ _ _ _ (s₁.setTop (mkF m 2 #[.val (.int p1), .val (.int p2), .unset, .unset, .unset, .unset] [(.int (100 : Int32))]))
  refine Run.step (fun t_ k_ => XS.iloadN X0.here hx rfl (hb hby at_2) rfl k_) ?_
  show Run _ _ _ _ (s₁.setTop (mkF m 3 #[.val (.int p1), .val (.int p2), .unset, .unset, .unset, .unset] [(.int p1), (.int (100 : Int32))]))
  refine Run.step (fun t_ k_ => X0.ldcInt hx hown (mvT hZ w0) (g := (mkF m 3 #[.val (.int p1), .val (.int p2), .unset, .unset, .unset, .unset] [(.int p1), (.int (100 : Int32))])) rfl (hb hby at_3) _ k_) ?_
  show Run _ _ _ _ (s₁.setTop (mkF m 5 #[.val (.int p1), .val (.int p2), .unset, .unset, .unset, .unset] [(.int (2147483647 : Int32)), (.int p1), (.int (100 : Int32))]))
  refine Run.step (fun t_ k_ => XS.iand X0.here hx rfl (hb hby at_5) rfl k_) ?_
  show Run _ _ _ _ (s₁.setTop (mkF m 6 #[.val (.int p1), .val (.int p2), .unset, .unset, .unset, .unset] [(.int (p1 &&& (2147483647 : Int32))), (.int (100 : Int32))]))
  refine Run.step (fun t_ k_ => XS.sipush X0.here hx rfl (hb hby at_6) k_) ?_
  show Run _ _ _ _ (s₁.setTop (mkF m 9 #[.val (.int p1), .val (.int p2), .unset, .unset, .unset, .unset] [(.int (500 : Int32)), (.int (p1 &&& (2147483647 : Int32))), (.int (100 : Int32))]))
  refine Run.step (fun t_ k_ => iremM X0 hx rfl (hb hby at_9) rfl (by decide) k_) ?_
  show Run _ _ _ _ (s₁.setTop (mkF m 10 #[.val (.int p1), .val (.int p2), .unset, .unset, .unset, .unset] [(.int ((p1 &&& (2147483647 : Int32)) % (500 : Int32))), (.int (100 : Int32))]))
  refine Run.step (fun t_ k_ => XS.iadd X0.here hx rfl (hb hby at_10) rfl k_) ?_
  show Run _ _ _ _ (s₁.setTop (mkF m 11 #[.val (.int p1), .val (.int p2), .unset, .unset, .unset, .unset] [(.int ((100 : Int32) + ((p1 &&& (2147483647 : Int32)) % (500 : Int32))))]))
  refine Run.step (fun t_ k_ => XS.istoreN X0.here hx rfl (hb hby at_11) rfl (l' := #[.val (.int p1), .val (.int p2), .val (.int ((100 : Int32) + ((p1 &&& (2147483647 : Int32)) % (500 : Int32)))), .unset, .unset, .unset]) rfl k_) ?_
  show Run _ _ _ _ (s₁.setTop (mkF m 12 #[.val (.int p1), .val (.int p2), .val (.int ((100 : Int32) + ((p1 &&& (2147483647 : Int32)) % (500 : Int32)))), .unset, .unset, .unset] []))
  obtain ⟨sv, hsv⟩ : ∃ z, z = ((100 : Int32) + ((p1 &&& (2147483647 : Int32)) % (500 : Int32))) := ⟨_, rfl⟩
  rw [← hsv]
  have hlo : ¬ sv < 100 := by rw [hsv]; exact (own_status p1).1
  have hhi : ¬ (599 : Int32) < sv := by rw [hsv]; exact (own_status p1).2
  show Run _ _ _ _ (s₁.setTop (mkF m 12 #[.val (.int p1), .val (.int p2), .val (.int sv), .unset, .unset, .unset] []))
  refine Run.step (fun t_ k_ => XS.iconst X0.here hx rfl (hb hby at_12) k_) ?_
  show Run _ _ _ _ (s₁.setTop (mkF m 13 #[.val (.int p1), .val (.int p2), .val (.int sv), .unset, .unset, .unset] [(.int (1 : Int32))]))
  obtain ⟨T47, h47, k47, X47, e47, E47, A47, B47, st47⟩ := newPE (aty := .byte) X0 hx hZ w1 e0 (g := (mkF m 13 #[.val (.int p1), .val (.int p2), .val (.int sv), .unset, .unset, .unset] [(.int (1 : Int32))])) rfl (hb hby at_13) rfl (by decide) (cap := 1) (by decide) (by decide) (by decide) (by decide) (ad := "[B") (by decide)
  obtain ⟨b47, g47⟩ : ∃ z, z = h0.size := ⟨_, rfl⟩
  rw [← g47] at A47 B47 st47
  refine Run.step st47 ?_
  have g_b47 : n0 ≤ b47 := Nat.le_trans Z0 (Nat.le_of_eq g47.symm)
  have z48 := Nat.le_trans Z0 E47.1
  have y49 := Nat.le_trans (Nat.zero_le _) E47.1
  have f50 : Arv Z h47 b47 k47 .byte (1 : Int32) [(.int (0 : Int32))] (.int (0 : Int32)) := Arv.pad (Arv.new A47 (by decide)) (pad_rep [] (.int (0 : Int32)) 1)
  show Run _ _ _ _ (T47.setTop (mkF m 15 #[.val (.int p1), .val (.int p2), .val (.int sv), .unset, .unset, .unset] [(.ref b47)]))
  refine Run.step (fun t_ k_ => XS.dup X47.here hx rfl (hb hby at_15) rfl rfl k_) ?_
  show Run _ _ _ _ (T47.setTop (mkF m 16 #[.val (.int p1), .val (.int p2), .val (.int sv), .unset, .unset, .unset] [(.ref b47), (.ref b47)]))
  refine Run.step (fun t_ k_ => XS.iconst X47.here hx rfl (hb hby at_16) k_) ?_
  show Run _ _ _ _ (T47.setTop (mkF m 17 #[.val (.int p1), .val (.int p2), .val (.int sv), .unset, .unset, .unset] [(.int (0 : Int32)), (.ref b47), (.ref b47)]))
  refine Run.step (fun t_ k_ => XS.iloadN X47.here hx rfl (hb hby at_17) rfl k_) ?_
  show Run _ _ _ _ (T47.setTop (mkF m 18 #[.val (.int p1), .val (.int p2), .val (.int sv), .unset, .unset, .unset] [(.int p2), (.int (0 : Int32)), (.ref b47), (.ref b47)]))
  refine Run.step (fun t_ k_ => XS.i2b X47.here hx rfl (hb hby at_18) rfl k_) ?_
  show Run _ _ _ _ (T47.setTop (mkF m 19 #[.val (.int p1), .val (.int p2), .val (.int sv), .unset, .unset, .unset] [(.int (p2.toInt8.toInt32)), (.int (0 : Int32)), (.ref b47), (.ref b47)]))
  obtain ⟨cl51, Ar51, q51, S51, M51, H51, U51⟩ := id f50
  have hin52 : ¬ ((0 : Int32) < 0 ∨ cl51.slots.size ≤ ((0 : Int32)).toNatClampNeg) := inb_of S51 ⟨by decide, by decide⟩
  obtain ⟨T52, h52, X52, e52, W52, st52⟩ := stB X47 hx hZ e47 Ar51 (j := (0 : Int32)) hin52 (g := (mkF m 19 #[.val (.int p1), .val (.int p2), .val (.int sv), .unset, .unset, .unset] [(.int (p2.toInt8.toInt32)), (.int (0 : Int32)), (.ref b47), (.ref b47)])) rfl rfl (hb hby at_19)
  refine Run.step st52 ?_
  have f53 : Arv Z h52 b47 k47 .byte (1 : Int32) [(.int (nar .byte (p2.toInt8.toInt32)))] (.int (0 : Int32)) := Arv.set Ar51 q51 S51 M51 H51 U51 (fits_nar_byte _) W52 0 rfl (Nat.le_of_ble_eq_true rfl)
  have f54 := B47.wr W52
  have z56 := Nat.le_trans z48 (Keep.of_wr W52).1
  have y57 := Nat.le_trans y49 (Keep.of_wr W52).1
  have N58 := Fr.snoc X52 N0 g_b47
  show Run _ _ _ _ (T52.setTop (mkF m 20 #[.val (.int p1), .val (.int p2), .val (.int sv), .unset, .unset, .unset] [(.ref b47)]))
  refine Run.step (fun t_ k_ => XS.astoreN X52.here hx rfl (hb hby at_20) rfl rfl (l' := #[.val (.int p1), .val (.int p2), .val (.int sv), .val (.ref b47), .unset, .unset]) rfl k_) ?_
  show Run _ _ _ _ (T52.setTop (mkF m 21 #[.val (.int p1), .val (.int p2), .val (.int sv), .val (.ref b47), .unset, .unset] []))
  obtain ⟨T59, h59, X59, e59, E59, A59, D59, -, st59⟩ := newO X52 hx hZ hown w2 w3 w4 e52 (g := (mkF m 21 #[.val (.int p1), .val (.int p2), .val (.int sv), .val (.ref b47), .unset, .unset] [])) rfl (hb hby at_21) (by decide) (by decide)
  obtain ⟨b59, g59⟩ : ∃ z, z = h52.size := ⟨_, rfl⟩
  rw [← g59] at A59 D59 st59
  refine Run.step st59 ?_
  have ne60 : b47 ≠ b59 := Nat.ne_of_lt (Nat.lt_of_lt_of_le f54.lt (Nat.le_of_eq g59.symm))
  have g_b59 : n0 ≤ b59 := Nat.le_trans z56 (Nat.le_of_eq g59.symm)
  have f61 := f54.ext E59
  have f62 := f53.ext E59
  have z63 := Nat.le_trans z56 E59.1
  have y64 := Nat.le_trans y57 E59.1
  have f65 : Fld Z h59 b59 "faultwise/retry/Answer" "status" "I" (.int (0 : Int32)) := D59 (Or.inr w12) (ty := .int) (by decide)
  have f66 : Fld Z h59 b59 "faultwise/retry/Answer" "body" "[B" .null := D59 (Or.inr w34) (ty := (.array .byte)) (by decide)
  show Run _ _ _ _ (T59.setTop (mkF m 24 #[.val (.int p1), .val (.int p2), .val (.int sv), .val (.ref b47), .unset, .unset] [(.ref b59)]))
  refine Run.step (fun t_ k_ => XS.dup X59.here hx rfl (hb hby at_24) rfl rfl k_) ?_
  show Run _ _ _ _ (T59.setTop (mkF m 25 #[.val (.int p1), .val (.int p2), .val (.int sv), .val (.ref b47), .unset, .unset] [(.ref b59), (.ref b59)]))
  refine Run.step (fun t_ k_ => XS.iloadN X59.here hx rfl (hb hby at_25) rfl k_) ?_
  show Run _ _ _ _ (T59.setTop (mkF m 26 #[.val (.int p1), .val (.int p2), .val (.int sv), .val (.ref b47), .unset, .unset] [(.int sv), (.ref b59), (.ref b59)]))
  refine Run.step (fun t_ k_ => XS.aloadN X59.here hx rfl (hb hby at_26) rfl rfl k_) ?_
  show Run _ _ _ _ (T59.setTop (mkF m 27 #[.val (.int p1), .val (.int p2), .val (.int sv), .val (.ref b47), .unset, .unset] [(.ref b47), (.int sv), (.ref b59), (.ref b59)]))
  obtain ⟨_, _, ⟨T67, L67, k67, n67⟩, -, X67, hS67, hg67, ⟨Lc67, hQ67, l67, y67, z67⟩, st67⟩ := X59.specialBackS hx (y := (⟨"faultwise/retry/Answer", "<init>", "(I[B)V"⟩ : MethodName)) rfl hown (mvT hZ w5) (mvT hZ w6) (mvT hZ w7) (by decide) (backOfS (W := 1) (rm1 l Z a0 hw [] b59 sv b47 k47 (nar .byte (p2.toInt8.toInt32)) h59 n0 z63 hlo hhi f65 f66 A59 g_b59 f62 f61 ne60) hZ w7 w4 (by decide) (by decide)) (g := (mkF m 27 #[.val (.int p1), .val (.int p2), .val (.int sv), .val (.ref b47), .unset, .unset] [(.ref b47), (.int sv), (.ref b59), (.ref b59)])) rfl (by rw [hml]; rfl) (Steps.refl _) (a := b59) (argsL := [(.int sv), (.ref b47)]) (rest := [(.ref b59)]) (lenOf pd__28I_5bB_29V rfl) rfl (by show 2 * 0 + _ ≤ _; exact Nat.le_of_eq rfl) (hb hby at_27) (fun _ _ => ⟨rfl, e59, (by decide : 2 + 3 ≤ _), (by decide : 3 + 21 ≤ _)⟩)
  dsimp only [Pt.U, Pt.locs, Pt.cells, Pt.slots] at X67 l67 y67 z67 st67 hQ67 hS67 hg67
  subst l67 y67 z67
  refine Run.step (fun t k => st67.trans k) ?_
  obtain ⟨X67, hS67, hZ, hown⟩ := rebS (s := s) hS0 (by rw [e59]; exact y64) X67 hS67 hg67 hZ hown
  obtain ⟨rfl, N67q, K67q, fr67⟩ := hQ67
  have N67 := Fr.app N58 N67q
  have f68 := f61.keep K67q
  have f69 := f62.keep K67q (ninS ne60 nin0)
  have f70 := A59.keep K67q
  have z73 := Nat.le_trans z63 K67q.1
  show Run _ _ _ _ (T67.setTop (mkF m 30 #[.val (.int p1), .val (.int p2), .val (.int sv), .val (.ref b47), .unset, .unset] [(.ref b59)]))
  refine Run.step (fun t_ k_ => XS.astore X67.here hx rfl (hb hby at_30) rfl rfl (l' := #[.val (.int p1), .val (.int p2), .val (.int sv), .val (.ref b47), .val (.ref b59), .unset]) rfl k_) ?_
  show Run _ _ _ _ (T67.setTop (mkF m 32 #[.val (.int p1), .val (.int p2), .val (.int sv), .val (.ref b47), .val (.ref b59), .unset] []))
  refine Run.step (fun t_ k_ => XS.iloadN X67.here hx rfl (hb hby at_32) rfl k_) ?_
  show Run _ _ _ _ (T67.setTop (mkF m 33 #[.val (.int p1), .val (.int p2), .val (.int sv), .val (.ref b47), .val (.ref b59), .unset] [(.int sv)]))
  refine Run.step (fun t_ k_ => XS.sipush X67.here hx rfl (hb hby at_33) k_) ?_
  show Run _ _ _ _ (T67.setTop (mkF m 36 #[.val (.int p1), .val (.int p2), .val (.int sv), .val (.ref b47), .val (.ref b59), .unset] [(.int (200 : Int32)), (.int sv)]))
  by_cases c36 : sv < (200 : Int32)
  · skip
    refine Run.step (fun t_ k_ => XS.icmpYes X67.here hx rfl (pc0 := 36) (pc' := 50) rfl (hb hby at_36) rfl (XT.ii_lt_t c36) (by decide) (by decide) k_) ?_
    show Run _ _ _ _ (T67.setTop (mkF m 50 #[.val (.int p1), .val (.int p2), .val (.int sv), .val (.ref b47), .val (.ref b59), .unset] []))
    refine Run.step (fun t_ k_ => XS.iconst X67.here hx rfl (hb hby at_50) k_) ?_
    show Run _ _ _ _ (T67.setTop (mkF m 51 #[.val (.int p1), .val (.int p2), .val (.int sv), .val (.ref b47), .val (.ref b59), .unset] [(.int (0 : Int32))]))
    refine Run.step (fun t_ k_ => XS.istore X67.here hx rfl (hb hby at_51) rfl (l' := #[.val (.int p1), .val (.int p2), .val (.int sv), .val (.ref b47), .val (.ref b59), .val (.int (0 : Int32))]) rfl k_) ?_
    show Run _ _ _ _ (T67.setTop (mkF m 53 #[.val (.int p1), .val (.int p2), .val (.int sv), .val (.ref b47), .val (.ref b59), .val (.int (0 : Int32))] []))
    refine Run.step (fun t_ k_ => XS.aload X67.here hx rfl (hb hby at_53) rfl rfl k_) ?_
    show Run _ _ _ _ (T67.setTop (mkF m 55 #[.val (.int p1), .val (.int p2), .val (.int sv), .val (.ref b47), .val (.ref b59), .val (.int (0 : Int32))] [(.ref b59)]))
    obtain ⟨cq74, kq74, q74a, q74b, q74c⟩ := isOf hZ rfl f70
    obtain ⟨_, _, ⟨T74, L74, k74, n74⟩, -, X74, ⟨Lc74, hQ74, l74, y74, z74⟩, st74⟩ := X67.virtualBack hx (y := (⟨"faultwise/retry/Answer", "isSuccess", "()Z"⟩ : MethodName)) (z := (⟨"faultwise/retry/Answer", "isSuccess", "()Z"⟩ : MethodName)) hown (mvT hZ w35) (mvT hZ w36) (notFace_of_selects (args := #[]) (mvT hZ w38)) (mvT hZ w38) (mvT hZ w37) (by decide) (backOf (W := 0) (rm4 l Z a0 hw [] b59 sv T67.heap n0 z73 fr67) hZ w39 w4 (by decide) (by decide)) q74a q74c (g := (mkF m 55 #[.val (.int p1), .val (.int p2), .val (.int sv), .val (.ref b47), .val (.ref b59), .val (.int (0 : Int32))] [(.ref b59)])) rfl (by rw [hml]; rfl) (Steps.refl _) (argsL := []) (rest := []) (lenOf pd__28_29Z rfl) rfl (by show 2 * 0 + _ ≤ _; exact Nat.le_of_eq rfl) (hb hby at_55) (fun _ _ => ⟨rfl, rfl, (by decide : 5 + 0 ≤ _), (by decide : 24 + 0 ≤ _)⟩)
    dsimp only [Pt.U, Pt.locs, Pt.cells, Pt.slots] at X74 l74 y74 z74 st74 hQ74
    subst l74 y74 z74
    refine Run.step (fun t k => st74.trans k) ?_
    obtain ⟨rfl, N74q, e74q⟩ := hQ74
    have N74 := Fr.app N67 N74q
    show Run _ _ _ _ (T74.setTop (mkF m 58 #[.val (.int p1), .val (.int p2), .val (.int sv), .val (.ref b47), .val (.ref b59), .val (.int (0 : Int32))] [(.int (if sv / (100 : Int32) = (2 : Int32) then 1 else 0))]))
    refine Run.step (fun t_ k_ => XS.iload X74.here hx rfl (hb hby at_58) rfl k_) ?_
    show Run _ _ _ _ (T74.setTop (mkF m 60 #[.val (.int p1), .val (.int p2), .val (.int sv), .val (.ref b47), .val (.ref b59), .val (.int (0 : Int32))] [(.int (0 : Int32)), (.int (if sv / (100 : Int32) = (2 : Int32) then 1 else 0))]))
    refine Run.step (fun t_ k_ => XS.icmpNo X74.here hx rfl (hb hby at_60) rfl (XT.ii_ne_f ((if_neg (fun q => ((own_div sv hlo hhi).mp q).1 c36)) : (if sv / (100 : Int32) = (2 : Int32) then 1 else 0) = (0 : Int32))) k_) ?_
    show Run _ _ _ _ (T74.setTop (mkF m 63 #[.val (.int p1), .val (.int p2), .val (.int sv), .val (.ref b47), .val (.ref b59), .val (.int (0 : Int32))] []))
    refine Run.step (fun t_ k_ => XS.iconst X74.here hx rfl (hb hby at_63) k_) ?_
    show Run _ _ _ _ (T74.setTop (mkF m 64 #[.val (.int p1), .val (.int p2), .val (.int sv), .val (.ref b47), .val (.ref b59), .val (.int (0 : Int32))] [(.int (1 : Int32))]))
    refine Run.step (fun t_ k_ => XS.goto X74.here hx rfl (pc0 := 64) (pc' := 68) rfl (hb hby at_64) (by decide) (by decide) k_) ?_
    show Run _ _ _ _ (T74.setTop (mkF m 68 #[.val (.int p1), .val (.int p2), .val (.int sv), .val (.ref b47), .val (.ref b59), .val (.int (0 : Int32))] [(.int (1 : Int32))]))
    exact finZW X74 hx hS67 (Nat.le_refl _) (BodyLoose.notSynchronized Bd) Bd.returns (hb hby at_68) (by decide) (by decide) (by decide) e74q ⟨rfl, N74⟩
  · skip
    refine Run.step (fun t_ k_ => XS.icmpNo X67.here hx rfl (hb hby at_36) rfl (XT.ii_lt_f c36) k_) ?_
    show Run _ _ _ _ (T67.setTop (mkF m 39 #[.val (.int p1), .val (.int p2), .val (.int sv), .val (.ref b47), .val (.ref b59), .unset] []))
    refine Run.step (fun t_ k_ => XS.iloadN X67.here hx rfl (hb hby at_39) rfl k_) ?_
    show Run _ _ _ _ (T67.setTop (mkF m 40 #[.val (.int p1), .val (.int p2), .val (.int sv), .val (.ref b47), .val (.ref b59), .unset] [(.int sv)]))
    refine Run.step (fun t_ k_ => XS.sipush X67.here hx rfl (hb hby at_40) k_) ?_
    show Run _ _ _ _ (T67.setTop (mkF m 43 #[.val (.int p1), .val (.int p2), .val (.int sv), .val (.ref b47), .val (.ref b59), .unset] [(.int (299 : Int32)), (.int sv)]))
    by_cases c43 : (299 : Int32) < sv
    · skip
      refine Run.step (fun t_ k_ => XS.icmpYes X67.here hx rfl (pc0 := 43) (pc' := 50) rfl (hb hby at_43) rfl (XT.ii_gt_t c43) (by decide) (by decide) k_) ?_
      show Run _ _ _ _ (T67.setTop (mkF m 50 #[.val (.int p1), .val (.int p2), .val (.int sv), .val (.ref b47), .val (.ref b59), .unset] []))
      refine Run.step (fun t_ k_ => XS.iconst X67.here hx rfl (hb hby at_50) k_) ?_
      show Run _ _ _ _ (T67.setTop (mkF m 51 #[.val (.int p1), .val (.int p2), .val (.int sv), .val (.ref b47), .val (.ref b59), .unset] [(.int (0 : Int32))]))
      refine Run.step (fun t_ k_ => XS.istore X67.here hx rfl (hb hby at_51) rfl (l' := #[.val (.int p1), .val (.int p2), .val (.int sv), .val (.ref b47), .val (.ref b59), .val (.int (0 : Int32))]) rfl k_) ?_
      show Run _ _ _ _ (T67.setTop (mkF m 53 #[.val (.int p1), .val (.int p2), .val (.int sv), .val (.ref b47), .val (.ref b59), .val (.int (0 : Int32))] []))
      refine Run.step (fun t_ k_ => XS.aload X67.here hx rfl (hb hby at_53) rfl rfl k_) ?_
      show Run _ _ _ _ (T67.setTop (mkF m 55 #[.val (.int p1), .val (.int p2), .val (.int sv), .val (.ref b47), .val (.ref b59), .val (.int (0 : Int32))] [(.ref b59)]))
      obtain ⟨cq75, kq75, q75a, q75b, q75c⟩ := isOf hZ rfl f70
      obtain ⟨_, _, ⟨T75, L75, k75, n75⟩, -, X75, ⟨Lc75, hQ75, l75, y75, z75⟩, st75⟩ := X67.virtualBack hx (y := (⟨"faultwise/retry/Answer", "isSuccess", "()Z"⟩ : MethodName)) (z := (⟨"faultwise/retry/Answer", "isSuccess", "()Z"⟩ : MethodName)) hown (mvT hZ w35) (mvT hZ w36) (notFace_of_selects (args := #[]) (mvT hZ w38)) (mvT hZ w38) (mvT hZ w37) (by decide) (backOf (W := 0) (rm4 l Z a0 hw [] b59 sv T67.heap n0 z73 fr67) hZ w39 w4 (by decide) (by decide)) q75a q75c (g := (mkF m 55 #[.val (.int p1), .val (.int p2), .val (.int sv), .val (.ref b47), .val (.ref b59), .val (.int (0 : Int32))] [(.ref b59)])) rfl (by rw [hml]; rfl) (Steps.refl _) (argsL := []) (rest := []) (lenOf pd__28_29Z rfl) rfl (by show 2 * 0 + _ ≤ _; exact Nat.le_of_eq rfl) (hb hby at_55) (fun _ _ => ⟨rfl, rfl, (by decide : 5 + 0 ≤ _), (by decide : 24 + 0 ≤ _)⟩)
      dsimp only [Pt.U, Pt.locs, Pt.cells, Pt.slots] at X75 l75 y75 z75 st75 hQ75
      subst l75 y75 z75
      refine Run.step (fun t k => st75.trans k) ?_
      obtain ⟨rfl, N75q, e75q⟩ := hQ75
      have N75 := Fr.app N67 N75q
      show Run _ _ _ _ (T75.setTop (mkF m 58 #[.val (.int p1), .val (.int p2), .val (.int sv), .val (.ref b47), .val (.ref b59), .val (.int (0 : Int32))] [(.int (if sv / (100 : Int32) = (2 : Int32) then 1 else 0))]))
      refine Run.step (fun t_ k_ => XS.iload X75.here hx rfl (hb hby at_58) rfl k_) ?_
      show Run _ _ _ _ (T75.setTop (mkF m 60 #[.val (.int p1), .val (.int p2), .val (.int sv), .val (.ref b47), .val (.ref b59), .val (.int (0 : Int32))] [(.int (0 : Int32)), (.int (if sv / (100 : Int32) = (2 : Int32) then 1 else 0))]))
      refine Run.step (fun t_ k_ => XS.icmpNo X75.here hx rfl (hb hby at_60) rfl (XT.ii_ne_f ((if_neg (fun q => ((own_div sv hlo hhi).mp q).2 c43)) : (if sv / (100 : Int32) = (2 : Int32) then 1 else 0) = (0 : Int32))) k_) ?_
      show Run _ _ _ _ (T75.setTop (mkF m 63 #[.val (.int p1), .val (.int p2), .val (.int sv), .val (.ref b47), .val (.ref b59), .val (.int (0 : Int32))] []))
      refine Run.step (fun t_ k_ => XS.iconst X75.here hx rfl (hb hby at_63) k_) ?_
      show Run _ _ _ _ (T75.setTop (mkF m 64 #[.val (.int p1), .val (.int p2), .val (.int sv), .val (.ref b47), .val (.ref b59), .val (.int (0 : Int32))] [(.int (1 : Int32))]))
      refine Run.step (fun t_ k_ => XS.goto X75.here hx rfl (pc0 := 64) (pc' := 68) rfl (hb hby at_64) (by decide) (by decide) k_) ?_
      show Run _ _ _ _ (T75.setTop (mkF m 68 #[.val (.int p1), .val (.int p2), .val (.int sv), .val (.ref b47), .val (.ref b59), .val (.int (0 : Int32))] [(.int (1 : Int32))]))
      exact finZW X75 hx hS67 (Nat.le_refl _) (BodyLoose.notSynchronized Bd) Bd.returns (hb hby at_68) (by decide) (by decide) (by decide) e75q ⟨rfl, N75⟩
    · skip
      refine Run.step (fun t_ k_ => XS.icmpNo X67.here hx rfl (hb hby at_43) rfl (XT.ii_gt_f c43) k_) ?_
      show Run _ _ _ _ (T67.setTop (mkF m 46 #[.val (.int p1), .val (.int p2), .val (.int sv), .val (.ref b47), .val (.ref b59), .unset] []))
      refine Run.step (fun t_ k_ => XS.iconst X67.here hx rfl (hb hby at_46) k_) ?_
      show Run _ _ _ _ (T67.setTop (mkF m 47 #[.val (.int p1), .val (.int p2), .val (.int sv), .val (.ref b47), .val (.ref b59), .unset] [(.int (1 : Int32))]))
      refine Run.step (fun t_ k_ => XS.goto X67.here hx rfl (pc0 := 47) (pc' := 51) rfl (hb hby at_47) (by decide) (by decide) k_) ?_
      show Run _ _ _ _ (T67.setTop (mkF m 51 #[.val (.int p1), .val (.int p2), .val (.int sv), .val (.ref b47), .val (.ref b59), .unset] [(.int (1 : Int32))]))
      refine Run.step (fun t_ k_ => XS.istore X67.here hx rfl (hb hby at_51) rfl (l' := #[.val (.int p1), .val (.int p2), .val (.int sv), .val (.ref b47), .val (.ref b59), .val (.int (1 : Int32))]) rfl k_) ?_
      show Run _ _ _ _ (T67.setTop (mkF m 53 #[.val (.int p1), .val (.int p2), .val (.int sv), .val (.ref b47), .val (.ref b59), .val (.int (1 : Int32))] []))
      refine Run.step (fun t_ k_ => XS.aload X67.here hx rfl (hb hby at_53) rfl rfl k_) ?_
      show Run _ _ _ _ (T67.setTop (mkF m 55 #[.val (.int p1), .val (.int p2), .val (.int sv), .val (.ref b47), .val (.ref b59), .val (.int (1 : Int32))] [(.ref b59)]))
      obtain ⟨cq76, kq76, q76a, q76b, q76c⟩ := isOf hZ rfl f70
      obtain ⟨_, _, ⟨T76, L76, k76, n76⟩, -, X76, ⟨Lc76, hQ76, l76, y76, z76⟩, st76⟩ := X67.virtualBack hx (y := (⟨"faultwise/retry/Answer", "isSuccess", "()Z"⟩ : MethodName)) (z := (⟨"faultwise/retry/Answer", "isSuccess", "()Z"⟩ : MethodName)) hown (mvT hZ w35) (mvT hZ w36) (notFace_of_selects (args := #[]) (mvT hZ w38)) (mvT hZ w38) (mvT hZ w37) (by decide) (backOf (W := 0) (rm4 l Z a0 hw [] b59 sv T67.heap n0 z73 fr67) hZ w39 w4 (by decide) (by decide)) q76a q76c (g := (mkF m 55 #[.val (.int p1), .val (.int p2), .val (.int sv), .val (.ref b47), .val (.ref b59), .val (.int (1 : Int32))] [(.ref b59)])) rfl (by rw [hml]; rfl) (Steps.refl _) (argsL := []) (rest := []) (lenOf pd__28_29Z rfl) rfl (by show 2 * 0 + _ ≤ _; exact Nat.le_of_eq rfl) (hb hby at_55) (fun _ _ => ⟨rfl, rfl, (by decide : 5 + 0 ≤ _), (by decide : 24 + 0 ≤ _)⟩)
      dsimp only [Pt.U, Pt.locs, Pt.cells, Pt.slots] at X76 l76 y76 z76 st76 hQ76
      subst l76 y76 z76
      refine Run.step (fun t k => st76.trans k) ?_
      obtain ⟨rfl, N76q, e76q⟩ := hQ76
      have N76 := Fr.app N67 N76q
      show Run _ _ _ _ (T76.setTop (mkF m 58 #[.val (.int p1), .val (.int p2), .val (.int sv), .val (.ref b47), .val (.ref b59), .val (.int (1 : Int32))] [(.int (if sv / (100 : Int32) = (2 : Int32) then 1 else 0))]))
      refine Run.step (fun t_ k_ => XS.iload X76.here hx rfl (hb hby at_58) rfl k_) ?_
      show Run _ _ _ _ (T76.setTop (mkF m 60 #[.val (.int p1), .val (.int p2), .val (.int sv), .val (.ref b47), .val (.ref b59), .val (.int (1 : Int32))] [(.int (1 : Int32)), (.int (if sv / (100 : Int32) = (2 : Int32) then 1 else 0))]))
      refine Run.step (fun t_ k_ => XS.icmpNo X76.here hx rfl (hb hby at_60) rfl (XT.ii_ne_f ((if_pos ((own_div sv hlo hhi).mpr ⟨c36, c43⟩)) : (if sv / (100 : Int32) = (2 : Int32) then 1 else 0) = (1 : Int32))) k_) ?_
      show Run _ _ _ _ (T76.setTop (mkF m 63 #[.val (.int p1), .val (.int p2), .val (.int sv), .val (.ref b47), .val (.ref b59), .val (.int (1 : Int32))] []))
      refine Run.step (fun t_ k_ => XS.iconst X76.here hx rfl (hb hby at_63) k_) ?_
      show Run _ _ _ _ (T76.setTop (mkF m 64 #[.val (.int p1), .val (.int p2), .val (.int sv), .val (.ref b47), .val (.ref b59), .val (.int (1 : Int32))] [(.int (1 : Int32))]))
      refine Run.step (fun t_ k_ => XS.goto X76.here hx rfl (pc0 := 64) (pc' := 68) rfl (hb hby at_64) (by decide) (by decide) k_) ?_
      show Run _ _ _ _ (T76.setTop (mkF m 68 #[.val (.int p1), .val (.int p2), .val (.int sv), .val (.ref b47), .val (.ref b59), .val (.int (1 : Int32))] [(.int (1 : Int32))]))
      exact finZW X76 hx hS67 (Nat.le_refl _) (BodyLoose.notSynchronized Bd) Bd.returns (hb hby at_68) (by decide) (by decide) (by decide) e76q ⟨rfl, N76⟩
set_option maxRecDepth 65536 in
set_option maxHeartbeats 40000000 in
theorem comes_1 {Post : Tables → Env → Array Value → State → Outcome → State → Prop} (hpost : ∀ tb e args s v u, (limb_1_1.after args s (.returned v) u = true ∧ limb_1_2.after args s (.returned v) u = true ∧ True) → ReturnedEndW s (.returned v) u (Jvm.fieldLocs frame_1_writes args s ++ Jvm.arrayLocs frame_1_arrays args s ++ Jvm.staticLocs frame_1_statics s) 16 1152 → Post tb e args s (.returned v) u) :
    ArmFor flags0 classFile x code maxLocals ret World_1 tables_1 room_1 Calls_1 rest_1 Pre_1 Post := by
  intro l hfl _ _ p e ha hc hk s m args below hf hA hF happ hP
  obtain ⟨hcalls, hrest, hpre⟩ := hP
  obtain ⟨-, -, -, hnamed, -, -, -, hat⟩ := (Spec.applies_iff hf).mp happ
  obtain ⟨hg, hn⟩ := and_e (Cond.before_iff.mp (show (Jvm.Cond.and given_1 narrow_1).before args s = true from hpre))
  obtain ⟨h1, h2⟩ := and_e hg
  obtain ⟨w0, w1, rfl⟩ : ∃ w0 w1 : Value, args = #[w0, w1] := by
    have hs : args.size = 2 := by simpa [Cond.value, given_1] using h1
    obtain ⟨L⟩ := args
    match L, hs with
    | [w0, w1], _ => exact ⟨w0, w1, rfl⟩
  have hw := fun d (hd : d ∈ tables_1) => atoms_spec (ws := Jvm.Cond.code x code maxLocals ret :: tables_1) hat d (List.mem_cons_of_mem _ hd)
  have hfit : Fit s := fun {y c} hc i hi => by
    obtain ⟨ha, rfl⟩ := Array.getElem?_eq_some_iff.mp hc
    have q := List.all_eq_true.mp ((Array.all_eq_true_iff_forall_mem.mp hF) _ (Array.getElem_mem ha)) i (List.mem_range.mpr hi)
    simpa [Array.getElem?_eq_getElem hi] using q
  obtain ⟨a0, t0⟩ := and_e h2
  obtain ⟨i0, q0⟩ := is_v a0
  obtain rfl : w0 = (.int i0) := Option.some.inj q0
  obtain ⟨i1, q1⟩ := is_v t0
  obtain rfl : w1 = (.int i1) := Option.some.inj q1
  obtain ⟨n, o, g1, g2, g3, _, L, rfl, ⟨rfl, N⟩, hq⟩ := rm0 l s _ hw tables_1 i0 i1 s.heap s.heap.size (Nat.le_refl _) p e ha hc hk s m _ below hf ((Spec.applies_iff_loose hf).mp happ).1 ⟨rfl, State.Warmed39.refl s, rfl⟩ trivial
  refine ⟨n, _, g1, g2, g3, hpost _ _ _ _ _ _ ⟨Cond.after_iff.mpr rfl, Cond.after_iff.mpr (eq_i res_at (Term.int_eval (1)) rfl), trivial⟩ ⟨hq.1, hq.2.1, hq.2.2.1, (hq.2.2.2.sift fun y hy => Or.inr (N y hy)).mono (by decide) (by decide)⟩⟩
theorem main_1_1 : Claimed_1_1 := comes_1 fun _ _ _ _ _ _ h hF => ⟨h.1, hF⟩
theorem main_1_2 : Claimed_1_2 := comes_1 fun _ _ _ _ _ _ h hF => ⟨h.2.1, hF⟩
end Jvm.Pilot.@@N@@
namespace Jvm.Pilot.@@N@@
open Jvm Jvm.ClassFile Sem Op Lib Jvm.Free Jvm.Stand Jvm.Pilot.@@N@@.Jvm.D
/-! MADE BY PROGRAM (witnessworld.py) out of the Statement's table words and the real class files: 15 classes; the members and pool entries that the words name. The judged class is class 1, her method 1. -/
namespace start1
open Jvm.ClassFile
def u (s : String) : CpInfo := .utf8 (stringToUtf16 s)
/-- a pool by its gaps: so many unusable entries, then the entry; so many at the end -/
def gap : Nat → List CpInfo → List CpInfo
  | 0, r => r
  | n + 1, r => .unusable :: gap n r
def poolList (es : List (Nat × CpInfo)) (last : Nat) : List CpInfo := es.foldr (fun e r => gap e.1 (e.2 :: r)) (gap last [])
def pool (es : List (Nat × CpInfo)) (last : Nat) : Array CpInfo := ⟨poolList es last⟩
def fileOf (pool : Array CpInfo) (this : Nat) (attrs : Array Attribute := #[]) (ms : Array MethodInfo := #[]) (fl : Nat := 33) (sup : Nat := 0) (ifs : Array Nat := #[]) (fds : Array FieldInfo := #[]) : ClassFile where
  minorVersion := 0
  majorVersion := 65
  constantPool := pool
  accessFlags := fl
  thisClass := this
  superClass := sup
  interfaces := ifs
  fields := fds
  methods := ms
  attributes := attrs
def plain (name : String) (sup : Option ClassId) : Class where
  name := name
  kind := .ordinary
  loader := none
  accessFlags := 33
  super := sup
  interfaces := #[]
  cf := none
  fields := #[]
  methods := #[]
  instanceTypes := #[]
  staticTypes := #[]
  resolved := #[]
  callSites := []
  init := .initialized
  statics := none
  mirror := none

def pool0 : Array CpInfo := pool [(5, u "<init>"), (0, u "()V"), (1, .class_ 10), (1, u "java/lang/Object"), (85, u "clone"), (0, u "()Ljava/lang/Object;")] 26

def k0c0 : Code := { maxStack := 0, maxLocals := 1, code := object_method_1_code, exceptionTable := #[], attributes := #[] }
def k0m0 : Method := { name := "<init>", desc := "()V", sig := { parameters := [], returnType := none }, accessFlags := 1, code := some k0c0 }
def k0m1 : Method := { name := "clone", desc := "()Ljava/lang/Object;", sig := { parameters := [], returnType := some (.object "java/lang/Object") }, accessFlags := 260, code := none }
/-- java/lang/Object -/
def k0 : Class := { plain "java/lang/Object" none with
  accessFlags := 33
  interfaces := #[]
  cf := some (fileOf pool0 8 #[] #[{ accessFlags := 1, nameIndex := 5, descriptorIndex := 6, attributes := #[] }, { accessFlags := 260, nameIndex := 96, descriptorIndex := 97, attributes := #[] }] 33 0 #[] #[])
  fields := #[]
  methods := #[k0m0, k0m1]
  instanceTypes := #[]
  staticTypes := #[]
  resolved := Array.replicate 124 none
  statics := none }

def pool1 : Array CpInfo := pool [(2, .class_ 4), (1, u "java/lang/Object"), (0, u "<init>"), (0, u "()V"), (0, .integer 2147483647), (0, .class_ 9), (0, u "faultwise/retry/Answer"), (0, .methodref 8 11), (0, .nameAndType 5 12), (0, u "(I[B)V"), (0, .methodref 8 14), (0, .nameAndType 15 16), (0, u "isSuccess"), (0, u "()Z"), (0, .class_ 18), (0, u "faultwise/retry/AnswerIsSuccessPinLaw"), (2, u "law"), (0, u "(II)Z")] 5

def k1m0 : Method := { name := "<init>", desc := "()V", sig := { parameters := [], returnType := none }, accessFlags := 1, code := none }
def k1c1 : Code := { maxStack := 4, maxLocals := 6, code := code, exceptionTable := #[], attributes := #[] }
def k1m1 : Method := { name := "law", desc := "(II)Z", sig := { parameters := [.int, .int], returnType := some .boolean }, accessFlags := 9, code := some k1c1 }
/-- faultwise/retry/AnswerIsSuccessPinLaw -/
def k1 : Class := { plain "faultwise/retry/AnswerIsSuccessPinLaw" (some 0) with
  accessFlags := 49
  interfaces := #[]
  cf := some (fileOf pool1 17 #[] #[{ accessFlags := 1, nameIndex := 5, descriptorIndex := 6, attributes := #[] }, { accessFlags := 9, nameIndex := 21, descriptorIndex := 22, attributes := #[] }] 49 2 #[] #[])
  fields := #[]
  methods := #[k1m0, k1m1]
  instanceTypes := #[]
  staticTypes := #[]
  resolved := Array.replicate 28 none
  statics := none }

def pool2 : Array CpInfo := pool [(1, .methodref 2 3), (0, .class_ 4), (0, .nameAndType 5 6), (0, u "java/lang/Object"), (0, u "<init>"), (0, u "()V"), (9, .fieldref 17 18), (0, .class_ 19), (0, .nameAndType 20 21), (0, u "faultwise/retry/Answer"), (0, u "status"), (0, u "I"), (0, .string 23), (0, u "body"), (0, .methodref 25 26), (0, .class_ 27), (0, .nameAndType 28 29), (0, u "java/util/Objects"), (0, u "requireNonNull"), (0, u "(Ljava/lang/Object;Ljava/lang/String;)Ljava/lang/Object;"), (0, .class_ 31), (0, u "[B"), (0, .methodref 30 33), (0, .nameAndType 34 35), (0, u "clone"), (0, u "()Ljava/lang/Object;"), (0, .fieldref 17 37), (0, .nameAndType 23 31), (0, u "(I[B)V"), (5, u "isSuccess"), (0, u "()Z")] 18

def k2c0 : Code := { maxStack := 3, maxLocals := 3, code := prog_28_method_1_code, exceptionTable := #[], attributes := #[] }
def k2m0 : Method := { name := "<init>", desc := "(I[B)V", sig := { parameters := [.int, (.array .byte)], returnType := none }, accessFlags := 1, code := some k2c0 }
def k2c1 : Code := { maxStack := 2, maxLocals := 1, code := prog_28_method_4_code, exceptionTable := #[], attributes := #[] }
def k2m1 : Method := { name := "isSuccess", desc := "()Z", sig := { parameters := [], returnType := some .boolean }, accessFlags := 1, code := some k2c1 }
/-- faultwise/retry/Answer -/
def k2 : Class := { plain "faultwise/retry/Answer" (some 0) with
  accessFlags := 49
  interfaces := #[]
  cf := some (fileOf pool2 17 #[] #[{ accessFlags := 1, nameIndex := 5, descriptorIndex := 38, attributes := #[] }, { accessFlags := 1, nameIndex := 44, descriptorIndex := 45, attributes := #[] }] 49 2 #[] #[{ accessFlags := 18, nameIndex := 20, descriptorIndex := 21, attributes := #[] }, { accessFlags := 18, nameIndex := 23, descriptorIndex := 31, attributes := #[] }])
  fields := #[{ name := "status", type := .int, accessFlags := 18, slot := 0, constantValue := 0 }, { name := "body", type := (.array .byte), accessFlags := 18, slot := 1, constantValue := 0 }]
  methods := #[k2m0, k2m1]
  instanceTypes := #[.int, (.array .byte)]
  staticTypes := #[]
  resolved := Array.replicate 64 none
  statics := none }

def pool3 : Array CpInfo := pool [(1, .class_ 2), (0, u "java/io/Serializable"), (0, .class_ 4), (0, u "java/lang/Object")] 2

/-- java/io/Serializable -/
def k3 : Class := { plain "java/io/Serializable" (some 0) with
  accessFlags := 1537
  interfaces := #[]
  cf := some (fileOf pool3 1 #[] #[] 1537 3 #[] #[])
  fields := #[]
  methods := #[]
  instanceTypes := #[]
  staticTypes := #[]
  resolved := Array.replicate 7 none
  statics := none }

def pool4 : Array CpInfo := pool [(1, .class_ 2), (0, u "java/lang/Comparable"), (0, .class_ 4), (0, u "java/lang/Object")] 7

/-- java/lang/Comparable -/
def k4 : Class := { plain "java/lang/Comparable" (some 0) with
  accessFlags := 1537
  interfaces := #[]
  cf := some (fileOf pool4 1 #[] #[] 1537 3 #[] #[])
  fields := #[]
  methods := #[]
  instanceTypes := #[]
  staticTypes := #[]
  resolved := Array.replicate 12 none
  statics := none }

def pool5 : Array CpInfo := pool [(2, .class_ 4), (1, u "java/lang/CharSequence"), (42, .class_ 48), (0, u "java/lang/CharSequence$1CodePointIterator"), (10, .class_ 60), (0, u "java/lang/CharSequence$1CharIterator"), (5, .class_ 67), (0, u "java/lang/Object")] 63

/-- java/lang/CharSequence -/
def k5 : Class := { plain "java/lang/CharSequence" (some 0) with
  accessFlags := 1537
  interfaces := #[]
  cf := some (fileOf pool5 2 #[.nestMembers #[47, 59]] #[] 1537 66 #[] #[])
  fields := #[]
  methods := #[]
  instanceTypes := #[]
  staticTypes := #[]
  resolved := Array.replicate 131 none
  statics := none }

def pool6 : Array CpInfo := pool [(1, .class_ 2), (0, u "java/lang/constant/Constable"), (0, .class_ 4), (0, u "java/lang/Object")] 6

/-- java/lang/constant/Constable -/
def k6 : Class := { plain "java/lang/constant/Constable" (some 0) with
  accessFlags := 1537
  interfaces := #[]
  cf := some (fileOf pool6 1 #[] #[] 1537 3 #[] #[])
  fields := #[]
  methods := #[]
  instanceTypes := #[]
  staticTypes := #[]
  resolved := Array.replicate 11 none
  statics := none }

def pool7 : Array CpInfo := pool [(1, .class_ 2), (0, u "java/lang/constant/ConstantDesc"), (0, .class_ 4), (0, u "java/lang/Object")] 32

/-- java/lang/constant/ConstantDesc -/
def k7 : Class := { plain "java/lang/constant/ConstantDesc" (some 0) with
  accessFlags := 1537
  interfaces := #[]
  cf := some (fileOf pool7 1 #[] #[] 1537 3 #[] #[])
  fields := #[]
  methods := #[]
  instanceTypes := #[]
  staticTypes := #[]
  resolved := Array.replicate 37 none
  statics := none }

def pool8 : Array CpInfo := pool [(2, .class_ 4), (1, u "java/lang/Object"), (0, u "<init>"), (0, u "()V"), (3, .class_ 12), (1, u "java/lang/String"), (0, u "value"), (0, u "[B"), (2, u "coder"), (0, u "B"), (2, u "hash"), (0, u "I"), (2, u "hashIsZero"), (0, u "Z"), (13, u "COMPACT_STRINGS"), (534, .class_ 576), (0, u "java/lang/CharSequence"), (22, u "CASE_INSENSITIVE_ORDER"), (0, u "Ljava/util/Comparator;"), (500, u "serialPersistentFields"), (0, u "[Ljava/io/ObjectStreamField;"), (0, .class_ 1104), (0, u "java/lang/String$CaseInsensitiveComparator"), (1, .class_ 1107), (0, u "java/io/Serializable"), (0, .class_ 1109), (0, u "java/lang/Comparable"), (0, .class_ 1111), (0, u "java/lang/constant/Constable"), (0, .class_ 1113), (0, u "java/lang/constant/ConstantDesc"), (2, u "serialVersionUID"), (0, u "J"), (3, u "REPL"), (0, u "C"), (2, u "LATIN1"), (1, u "UTF16")] 323

def k8m0 : Method := { name := "<init>", desc := "()V", sig := { parameters := [], returnType := none }, accessFlags := 1, code := none }
/-- java/lang/String -/
def k8 : Class := { plain "java/lang/String" (some 0) with
  accessFlags := 49
  interfaces := #[3, 4, 5, 6, 7]
  cf := some (fileOf pool8 10 #[.nestMembers #[1103]] #[{ accessFlags := 1, nameIndex := 5, descriptorIndex := 6, attributes := #[] }] 49 2 #[1106, 1108, 575, 1110, 1112] #[{ accessFlags := 18, nameIndex := 13, descriptorIndex := 14, attributes := #[] }, { accessFlags := 18, nameIndex := 17, descriptorIndex := 18, attributes := #[] }, { accessFlags := 2, nameIndex := 21, descriptorIndex := 22, attributes := #[] }, { accessFlags := 2, nameIndex := 25, descriptorIndex := 26, attributes := #[] }, { accessFlags := 26, nameIndex := 1116, descriptorIndex := 1117, attributes := #[] }, { accessFlags := 24, nameIndex := 40, descriptorIndex := 26, attributes := #[] }, { accessFlags := 26, nameIndex := 1101, descriptorIndex := 1102, attributes := #[] }, { accessFlags := 26, nameIndex := 1121, descriptorIndex := 1122, attributes := #[] }, { accessFlags := 25, nameIndex := 599, descriptorIndex := 600, attributes := #[] }, { accessFlags := 24, nameIndex := 1125, descriptorIndex := 18, attributes := #[] }, { accessFlags := 24, nameIndex := 1127, descriptorIndex := 18, attributes := #[] }])
  fields := #[{ name := "value", type := (.array .byte), accessFlags := 18, slot := 0, constantValue := 0 }, { name := "coder", type := .byte, accessFlags := 18, slot := 1, constantValue := 0 }, { name := "hash", type := .int, accessFlags := 2, slot := 2, constantValue := 0 }, { name := "hashIsZero", type := .boolean, accessFlags := 2, slot := 3, constantValue := 0 }, { name := "serialVersionUID", type := .long, accessFlags := 26, slot := 0, constantValue := 0 }, { name := "COMPACT_STRINGS", type := .boolean, accessFlags := 24, slot := 1, constantValue := 0 }, { name := "serialPersistentFields", type := (.array (.object "java/io/ObjectStreamField")), accessFlags := 26, slot := 2, constantValue := 0 }, { name := "REPL", type := .char, accessFlags := 26, slot := 3, constantValue := 0 }, { name := "CASE_INSENSITIVE_ORDER", type := (.object "java/util/Comparator"), accessFlags := 25, slot := 4, constantValue := 0 }, { name := "LATIN1", type := .byte, accessFlags := 24, slot := 5, constantValue := 0 }, { name := "UTF16", type := .byte, accessFlags := 24, slot := 6, constantValue := 0 }]
  methods := #[k8m0]
  instanceTypes := #[(.array .byte), .byte, .int, .boolean]
  staticTypes := #[.long, .boolean, (.array (.object "java/io/ObjectStreamField")), .char, (.object "java/util/Comparator"), .byte, .byte]
  resolved := Array.replicate 1451 none
  statics := none }

def pool9 : Array CpInfo := pool [(2, .class_ 4), (1, u "java/lang/Object"), (0, u "<init>"), (0, u "()V"), (35, .class_ 44), (1, u "java/util/Objects"), (0, u "requireNonNull"), (48, u "(Ljava/lang/Object;Ljava/lang/String;)Ljava/lang/Object;")] 89

def k9m0 : Method := { name := "<init>", desc := "()V", sig := { parameters := [], returnType := none }, accessFlags := 2, code := none }
def k9c1 : Code := { maxStack := 3, maxLocals := 2, code := jdk_31_method_11_code, exceptionTable := #[], attributes := #[] }
def k9m1 : Method := { name := "requireNonNull", desc := "(Ljava/lang/Object;Ljava/lang/String;)Ljava/lang/Object;", sig := { parameters := [(.object "java/lang/Object"), (.object "java/lang/String")], returnType := some (.object "java/lang/Object") }, accessFlags := 9, code := some k9c1 }
/-- java/util/Objects -/
def k9 : Class := { plain "java/util/Objects" (some 0) with
  accessFlags := 49
  interfaces := #[]
  cf := some (fileOf pool9 42 #[] #[{ accessFlags := 2, nameIndex := 5, descriptorIndex := 6, attributes := #[] }, { accessFlags := 9, nameIndex := 45, descriptorIndex := 94, attributes := #[] }] 49 2 #[] #[])
  fields := #[]
  methods := #[k9m0, k9m1]
  instanceTypes := #[]
  staticTypes := #[]
  resolved := Array.replicate 184 none
  statics := none }

def pool10 : Array CpInfo := pool [(1, .class_ 2), (0, u "java/lang/Cloneable"), (0, .class_ 4), (0, u "java/lang/Object")] 2

/-- java/lang/Cloneable -/
def k10 : Class := { plain "java/lang/Cloneable" (some 0) with
  accessFlags := 1537
  interfaces := #[]
  cf := some (fileOf pool10 1 #[] #[] 1537 3 #[] #[])
  fields := #[]
  methods := #[]
  instanceTypes := #[]
  staticTypes := #[]
  resolved := Array.replicate 7 none
  statics := none }

/-- the primitive byte -/
def k11 : Class := { plain "byte" none with kind := .primitive 'B', accessFlags := 0x411 }
/-- [B -/
def k12 : Class := { plain "[B" (some 0) with kind := .array 11 .byte, interfaces := #[10, 3], accessFlags := 1041 }

/-- the primitive int -/
def k13 : Class := { plain "int" none with kind := .primitive 'I', accessFlags := 0x411 }
/-- [I -/
def k14 : Class := { plain "[I" (some 0) with kind := .array 13 .int, interfaces := #[10, 3], accessFlags := 1041 }

def heap : Heap := #[]
def classes : Array Class := #[k0, k1, k2, k3, k4, k5, k6, k7, k8, k9, k10, k11, k12, k13, k14]
def interned : List (Array UInt16 × Addr) := []
def slotsUsed : Nat := 0
def theMethod : MethodId := ⟨1, 1⟩
def args0 : Array Value := #[.int 5, .int 7]
def aboutOver (below : List Frame) : State where
  vm := { classes := classes, interned := interned.toArray }
  heap := heap
  slotsUsed := slotsUsed
  threads := #[{ frames := .invoking theMethod args0 :: below }]
def below0 : List Frame := [.native { method := ⟨0, 0⟩, args := #[] }]
def about1 : State := aboutOver below0
def p0 : Program := .bare "" "" ""
def e0 : Env := launch0.env 0 0 0
theorem w_frames : about1.frames = Frame.invoking theMethod args0 :: below0 := rfl
set_option maxRecDepth 65536 in
theorem w_args : argsFit about1.vm theMethod args0 = true := by decide +kernel
set_option maxRecDepth 65536 in
theorem w_heap : heapFits about1 = true := by decide +kernel
set_option maxRecDepth 65536 in
theorem w_runnable : about1.curStatus? = some .runnable := by decide +kernel
set_option maxRecDepth 65536 in
theorem w_alone : about1.alone = true := by decide +kernel
set_option maxRecDepth 65536 in
theorem w_named : about1.methodNamed? x = some theMethod := by decide +kernel
set_option maxRecDepth 65536 in
theorem w_hears : about1.hears theMethod below0 = true := by decide +kernel
set_option maxRecDepth 65536 in
theorem w_ripe : about1.ripe theMethod args0 below0 = true := by decide +kernel
theorem w_running : about1.status = .running := rfl
set_option maxRecDepth 65536 in
theorem w_room : about1.hasRoom e0.platform room_1 = true :=
  launch0.hasRoom_least _ room_1 (by decide +kernel) (by decide +kernel) (by decide +kernel) (by decide +kernel) (by decide +kernel) (by decide +kernel)
theorem allAtoms_all (ts : List Jvm.Cond) (a : Array Jvm.Value) (st : Jvm.State) : (allAtoms ts).before a st = ts.all (fun c => c.before a st) := by
  induction ts with
  | nil => rfl
  | cons c t ih =>
    show (Jvm.Cond.and c (allAtoms t)).before a st = _
    rw [Jvm.Cond.before_and, ih, List.all_cons]
def words1 : List Jvm.Cond := Jvm.Cond.code x code maxLocals ret :: tables_1
/-- a 'code' word, met by the world's own term for the bytes: nothing is compared byte by byte -/
theorem code_word {y : MethodName} {bytes : ByteArray} {mx : Nat} {rt : Option FieldType} {a : Array Value} {s : State} {m : MethodId} {meth : Method} {c : Code} (h1 : s.methodNamed? y = some m) (h2 : s.vm.method? m = some meth) (h3 : meth.code = some c) (h4 : c.code = bytes)
    (h5 : (c.maxLocals == mx && c.exceptionTable.isEmpty && decide (c.maxStack ≤ mostOperands) && decide (meth.sig.returnType = rt) && !meth.locks && decide (parseMethodDescriptor y.desc = some meth.sig)) = true) : (Jvm.Cond.code y bytes mx rt).before a s = true := by
  simp only [Bool.and_eq_true, beq_iff_eq, Bool.not_eq_true', decide_eq_true_eq] at h5
  obtain ⟨⟨⟨⟨⟨g1, g2⟩, g3⟩, g4⟩, g5⟩, g6⟩ := h5
  simp [Cond.before, Cond.holds, Cond.value, h1, h2, h3, h4, g1, g2, g3, g4, g5, g6]
def isCode : Jvm.Cond → Bool
  | .code _ _ _ _ => true
  | _ => false
theorem all_split {L : List Jvm.Cond} {P : Jvm.Cond → Bool} (h1 : L.all (fun c => isCode c || P c) = true) (h2 : ∀ c ∈ L.filter isCode, P c = true) : L.all P = true := by
  refine List.all_eq_true.mpr fun c hc => ?_
  have h := List.all_eq_true.mp h1 c hc
  rcases Bool.eq_false_or_eq_true (isCode c) with hi | hi
  · exact h2 c (List.mem_filter.mpr ⟨hc, hi⟩)
  · simpa [hi] using h
set_option maxRecDepth 65536 in
theorem w_c0 : (Jvm.Cond.code x code maxLocals ret).before args0 about1 = true := code_word (m := ⟨1, 1⟩) (meth := k1m1) (c := k1c1) (by decide +kernel) rfl rfl rfl (by decide +kernel)
set_option maxRecDepth 65536 in
theorem w_c1 : (Jvm.Cond.code ({ cls := "faultwise/retry/Answer", name := "<init>", desc := "(I[B)V" } : Jvm.MethodName) prog_28_method_1_code (3 : Nat) (Option.none : Option Jvm.ClassFile.FieldType)).before args0 about1 = true := code_word (m := ⟨2, 0⟩) (meth := k2m0) (c := k2c0) (by decide +kernel) rfl rfl rfl (by decide +kernel)
set_option maxRecDepth 65536 in
theorem w_c2 : (Jvm.Cond.code ({ cls := "java/lang/Object", name := "<init>", desc := "()V" } : Jvm.MethodName) object_method_1_code (1 : Nat) (Option.none : Option Jvm.ClassFile.FieldType)).before args0 about1 = true := code_word (m := ⟨0, 0⟩) (meth := k0m0) (c := k0c0) (by decide +kernel) rfl rfl rfl (by decide +kernel)
set_option maxRecDepth 65536 in
theorem w_c3 : (Jvm.Cond.code ({ cls := "java/util/Objects", name := "requireNonNull", desc := "(Ljava/lang/Object;Ljava/lang/String;)Ljava/lang/Object;" } : Jvm.MethodName) jdk_31_method_11_code (2 : Nat) (Option.some (Jvm.ClassFile.FieldType.object "java/lang/Object"))).before args0 about1 = true := code_word (m := ⟨9, 1⟩) (meth := k9m1) (c := k9c1) (by decide +kernel) rfl rfl rfl (by decide +kernel)
set_option maxRecDepth 65536 in
theorem w_c4 : (Jvm.Cond.code ({ cls := "faultwise/retry/Answer", name := "isSuccess", desc := "()Z" } : Jvm.MethodName) prog_28_method_4_code (1 : Nat) (Option.some Jvm.ClassFile.FieldType.boolean)).before args0 about1 = true := code_word (m := ⟨2, 1⟩) (meth := k2m1) (c := k2c1) (by decide +kernel) rfl rfl rfl (by decide +kernel)
def codes1 : List Jvm.Cond := [Jvm.Cond.code x code maxLocals ret, Jvm.Cond.code ({ cls := "faultwise/retry/Answer", name := "<init>", desc := "(I[B)V" } : Jvm.MethodName) prog_28_method_1_code (3 : Nat) (Option.none : Option Jvm.ClassFile.FieldType), Jvm.Cond.code ({ cls := "java/lang/Object", name := "<init>", desc := "()V" } : Jvm.MethodName) object_method_1_code (1 : Nat) (Option.none : Option Jvm.ClassFile.FieldType), Jvm.Cond.code ({ cls := "java/util/Objects", name := "requireNonNull", desc := "(Ljava/lang/Object;Ljava/lang/String;)Ljava/lang/Object;" } : Jvm.MethodName) jdk_31_method_11_code (2 : Nat) (Option.some (Jvm.ClassFile.FieldType.object "java/lang/Object")), Jvm.Cond.code ({ cls := "faultwise/retry/Answer", name := "isSuccess", desc := "()Z" } : Jvm.MethodName) prog_28_method_4_code (1 : Nat) (Option.some Jvm.ClassFile.FieldType.boolean)]
set_option maxRecDepth 65536 in
theorem codes_eq : words1.filter isCode = codes1 := rfl
theorem w_codes : ∀ c ∈ words1.filter isCode, c.before args0 about1 = true := by
  rw [codes_eq]
  intro c hc
  simp only [codes1, List.mem_cons, List.not_mem_nil, or_false] at hc
  rcases hc with rfl | rfl | rfl | rfl | rfl
  · exact w_c0
  · exact w_c1
  · exact w_c2
  · exact w_c3
  · exact w_c4
set_option maxRecDepth 65536 in
theorem w_t1 : (words1.take 24).all (fun c => isCode c || c.before args0 about1) = true := by decide +kernel
set_option maxRecDepth 65536 in
theorem w_t2 : (words1.drop 24).all (fun c => isCode c || c.before args0 about1) = true := by decide +kernel
theorem w_tables : (allAtoms (Jvm.Cond.code x code maxLocals ret :: tables_1)).before args0 about1 = true := by
  rw [allAtoms_all]
  show words1.all (fun c => c.before args0 about1) = true
  refine all_split ?_ w_codes
  rw [← List.take_append_drop 24 words1, List.all_append, w_t1, w_t2]
  rfl
set_option maxRecDepth 65536 in
theorem w_case : (Jvm.Cond.and given_1 narrow_1).before args0 about1 = true := by decide +kernel
theorem w_applies : (headSpec (Jvm.Cond.code x code maxLocals ret :: tables_1) room_1).applies x e0.platform about1 = true :=
  (Spec.applies_iff w_frames).mpr ⟨w_running, w_runnable, w_alone, w_named, w_hears, w_ripe, w_room, w_tables⟩
theorem atStart : AtStart classFile x code maxLocals ret World_1 tables_1 room_1 Calls_1 rest_1 Pre_1 launch0 p0 e0 about1 theMethod args0 below0 :=
  ⟨lists_1, trivial, launch0.admits_env _ _ _, launch0.least_env, fairChoices_fair.cas, fairChoices_fair.clock, w_frames, w_args, w_heap, w_applies, trivial, trivial, w_case⟩
end start1
theorem witness_1 : WitnessClaimed_1 := ⟨start1.p0, start1.e0, start1.about1, start1.theMethod, start1.args0, start1.below0, start1.atStart⟩
end Jvm.Pilot.@@N@@
