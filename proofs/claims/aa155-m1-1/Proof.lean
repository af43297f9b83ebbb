import JvmDerived
import JvmDerived.Pilot.@@N@@Statement
import JvmDerived.Pilot.@@N@@Code
set_option linter.unusedVariables false
set_option linter.unusedSimpArgs false
namespace Jvm.OwnW
open Sem ClassFile Op Lib Jvm.Stand Jvm.Free Jvm.LawKit Jvm.RoadKit
section Walks
variable {p : Program} {l : Launch} {e : Env} {R : Room} {s : State} {m : MethodId} {args : Array Value} {below : List Frame} {meth : Method} {c : Code} {T : State} {locs : List Loc} {cells slots : Nat}
/-- from A on the run comes to an end of which P holds -/
def Run (tb : Tables) (e : Env) (below : List Frame) (P : State → Outcome → Prop) (A : State) : Prop := ∃ s₂ o, Steps tb e below A s₂ ∧ P s₂ o
theorem Run.step {tb : Tables} {P : State → Outcome → Prop} {A B : State} (k : ∀ t, Steps tb e below B t → Steps tb e below A t) (h : Run tb e below P B) : Run tb e below P A := by
  obtain ⟨s₂, o, a, b⟩ := h
  exact ⟨s₂, o, k _ a, b⟩
/-- what a body's contract says at the end -/
def PQ (s : State) (below : List Frame) (rc rs : Nat) (Q : Option Value → Heap → List Loc → Prop) (s₂ : State) (o : Outcome) : Prop := s₂.status = .running ∧ Ended s₂ below o ∧ ∃ v L, o = .returned v ∧ Q v s₂.heap L ∧ FrameEnd s o s₂ L rc rs
theorem fin (X : Stand p l e R s m args below meth c T locs cells slots) {A : State} {Q : Option Value → Heap → List Loc → Prop} {rc rs : Nat} {v : Option Value} {h : Heap} (hl : meth.locks = false) (hv : meth.sig.returnType = none → v = none) (hc : cells ≤ rc) (hs : slots ≤ rs) (eT : T.heap = h) (hQ : Q v h locs)
    (st : ∀ fs, (∀ (f : JFrame) (acts : List Action), f.method = m → f.locked = none → f.entered = [] → (doReturn e (T.setTop f) acts v).1 = T.setFrames fs) → Steps p.tables e below A (T.setFrames fs)) : Run p.tables e below (PQ s below rc rs Q) A := by
  obtain ⟨fs, hr, hrun, hended, hW, hsame⟩ := X.leave (v := v) hv hl
  refine ⟨_, _, st fs hr, hrun, hended, _, _, rfl, ?_, ⟨_, rfl⟩, hW, hsame.mono hc hs⟩
  show Q v T.heap locs
  rw [eT]
  exact hQ
theorem finV (X : Stand p l e R s m args below meth c T locs cells slots) (hx : p.tables.exec = Jvm.exec) (hl : meth.locks = false) {Q : Option Value → Heap → List Loc → Prop} {rc rs pc : Nat} {Ls : Array Slot} {h : Heap} (hret : meth.sig.returnType = none) (hd : decode c.code pc = .ok (.return_, 1)) (hc : cells ≤ rc) (hs : slots ≤ rs) (eT : T.heap = h) (hQ : Q none h locs) : Run p.tables e below (PQ s below rc rs Q) (T.setTop (mkF m pc Ls [])) :=
  fin X hl (fun _ => rfl) hc hs eT hQ fun fs hr => X.returnOut hx hret hd hr
theorem finI (X : Stand p l e R s m args below meth c T locs cells slots) (hx : p.tables.exec = Jvm.exec) (hl : meth.locks = false) {Q : Option Value → Heap → List Loc → Prop} {rc rs pc : Nat} {Ls : Array Slot} {z : Int32} {rest : List Value} {h : Heap} (hret : meth.sig.returnType = some .int) (hd : decode c.code pc = .ok (.ireturn, 1)) (hc : cells ≤ rc) (hs : slots ≤ rs) (eT : T.heap = h) (hQ : Q (some (.int z)) h locs) : Run p.tables e below (PQ s below rc rs Q) (T.setTop (mkF m pc Ls (.int z :: rest))) :=
  fin X hl (fun q => by rw [hret] at q; cases q) hc hs eT hQ fun fs hr => retOut X hx hret rfl (Or.inl ⟨rfl, Or.inl rfl, _, rfl⟩) hd hr
theorem finZ (X : Stand p l e R s m args below meth c T locs cells slots) (hx : p.tables.exec = Jvm.exec) (hl : meth.locks = false) {Q : Option Value → Heap → List Loc → Prop} {rc rs pc : Nat} {Ls : Array Slot} {z : Int32} {rest : List Value} {h : Heap} (hret : meth.sig.returnType = some .boolean) (hd : decode c.code pc = .ok (.ireturn, 1)) (hz : z = 0 ∨ z = 1) (hc : cells ≤ rc) (hs : slots ≤ rs) (eT : T.heap = h) (hQ : Q (some (.int z)) h locs) : Run p.tables e below (PQ s below rc rs Q) (T.setTop (mkF m pc Ls (.int z :: rest))) :=
  fin X hl (fun q => by rw [hret] at q; cases q) hc hs eT hQ fun fs hr => retOut X hx hret (by rcases hz with rfl | rfl <;> rfl) (Or.inl ⟨rfl, Or.inr (Or.inl rfl), _, rfl⟩) hd hr
theorem finB (X : Stand p l e R s m args below meth c T locs cells slots) (hx : p.tables.exec = Jvm.exec) (hl : meth.locks = false) {Q : Option Value → Heap → List Loc → Prop} {rc rs pc : Nat} {Ls : Array Slot} {z : Int32} {rest : List Value} {h : Heap} (hret : meth.sig.returnType = some .byte) (hd : decode c.code pc = .ok (.ireturn, 1)) (hz : narrow .byte (.int z) = .int z) (hc : cells ≤ rc) (hs : slots ≤ rs) (eT : T.heap = h) (hQ : Q (some (.int z)) h locs) : Run p.tables e below (PQ s below rc rs Q) (T.setTop (mkF m pc Ls (.int z :: rest))) :=
  fin X hl (fun q => by rw [hret] at q; cases q) hc hs eT hQ fun fs hr => retOut X hx hret hz (Or.inl ⟨rfl, Or.inr (Or.inr (Or.inl rfl)), _, rfl⟩) hd hr
theorem finJ (X : Stand p l e R s m args below meth c T locs cells slots) (hx : p.tables.exec = Jvm.exec) (hl : meth.locks = false) {Q : Option Value → Heap → List Loc → Prop} {rc rs pc : Nat} {Ls : Array Slot} {z : Int64} {rest : List Value} {h : Heap} (hret : meth.sig.returnType = some .long) (hd : decode c.code pc = .ok (.lreturn, 1)) (hc : cells ≤ rc) (hs : slots ≤ rs) (eT : T.heap = h) (hQ : Q (some (.long z)) h locs) : Run p.tables e below (PQ s below rc rs Q) (T.setTop (mkF m pc Ls (.long z :: rest))) :=
  fin X hl (fun q => by rw [hret] at q; cases q) hc hs eT hQ fun fs hr => retOut X hx hret rfl (Or.inr (Or.inl ⟨rfl, rfl, _, rfl⟩)) hd hr
theorem finA (X : Stand p l e R s m args below meth c T locs cells slots) (hx : p.tables.exec = Jvm.exec) (hl : meth.locks = false) {Q : Option Value → Heap → List Loc → Prop} {rc rs pc : Nat} {Ls : Array Slot} {w : Value} {t : FieldType} {rest : List Value} {h : Heap} (hret : meth.sig.returnType = some t) (hd : decode c.code pc = .ok (.areturn, 1)) (ht : t.isReference = true) (hw : w.isRef = true) (hc : cells ≤ rc) (hs : slots ≤ rs) (eT : T.heap = h) (hQ : Q (some w) h locs) : Run p.tables e below (PQ s below rc rs Q) (T.setTop (mkF m pc Ls (w :: rest))) :=
  fin X hl (fun q => by rw [hret] at q; cases q) hc hs eT hQ fun fs hr => retOut X hx hret (by cases t <;> first | rfl | (cases w <;> first | rfl | cases ht)) (Or.inr (Or.inr (Or.inr (Or.inr ⟨rfl, ht, hw⟩)))) hd hr
/-- the same for a body that may load String constants -/
def PW (s : State) (below : List Frame) (rc rs : Nat) (Q : Option Value → Heap → List Loc → Prop) (s₂ : State) (o : Outcome) : Prop := s₂.status = .running ∧ Ended s₂ below o ∧ ∃ v L, o = .returned v ∧ Q v s₂.heap L ∧ ReturnedEndW s o s₂ L rc rs
theorem finW {vm : Vm} {n : Nat} (X : Stand p l e R (s.setVm vm) m args below meth c T locs cells slots) {A : State} {Q : Option Value → Heap → List Loc → Prop} {rc rs : Nat} {v : Option Value} {h : Heap} (hS : s.Since vm n) (hk : n ≤ h.size) (hl : meth.locks = false) (hv : meth.sig.returnType = none → v = none) (hc : cells ≤ rc) (hs : slots ≤ rs) (eT : T.heap = h) (hQ : Q v h locs)
    (st : ∀ fs, (∀ (f : JFrame) (acts : List Action), f.method = m → f.locked = none → f.entered = [] → (doReturn e (T.setTop f) acts v).1 = T.setFrames fs) → Steps p.tables e below A (T.setFrames fs)) : Run p.tables e below (PW s below rc rs Q) A := by
  obtain ⟨fs, hr, hrun, hended, hE⟩ := X.leaveW hS (by rw [eT]; exact hk) (v := v) hv hl
  refine ⟨_, _, st fs hr, hrun, hended, _, _, rfl, ?_, hE.1, hE.2.1, hE.2.2.1, hE.2.2.2.mono hc hs⟩
  show Q v T.heap locs
  rw [eT]
  exact hQ
theorem finVW {vm : Vm} {n : Nat} (X : Stand p l e R (s.setVm vm) m args below meth c T locs cells slots) (hx : p.tables.exec = Jvm.exec) {h : Heap} (hS : s.Since vm n) (hk : n ≤ h.size) (hl : meth.locks = false) {Q : Option Value → Heap → List Loc → Prop} {rc rs pc : Nat} {Ls : Array Slot} (hret : meth.sig.returnType = none) (hd : decode c.code pc = .ok (.return_, 1)) (hc : cells ≤ rc) (hs : slots ≤ rs) (eT : T.heap = h) (hQ : Q none h locs) : Run p.tables e below (PW s below rc rs Q) (T.setTop (mkF m pc Ls [])) :=
  finW X hS hk hl (fun _ => rfl) hc hs eT hQ fun fs hr => X.returnOut hx hret hd hr
theorem finIW {vm : Vm} {n : Nat} (X : Stand p l e R (s.setVm vm) m args below meth c T locs cells slots) (hx : p.tables.exec = Jvm.exec) {h : Heap} (hS : s.Since vm n) (hk : n ≤ h.size) (hl : meth.locks = false) {Q : Option Value → Heap → List Loc → Prop} {rc rs pc : Nat} {Ls : Array Slot} {z : Int32} {rest : List Value} (hret : meth.sig.returnType = some .int) (hd : decode c.code pc = .ok (.ireturn, 1)) (hc : cells ≤ rc) (hs : slots ≤ rs) (eT : T.heap = h) (hQ : Q (some (.int z)) h locs) : Run p.tables e below (PW s below rc rs Q) (T.setTop (mkF m pc Ls (.int z :: rest))) :=
  finW X hS hk hl (fun q => by rw [hret] at q; cases q) hc hs eT hQ fun fs hr => retOut X hx hret rfl (Or.inl ⟨rfl, Or.inl rfl, _, rfl⟩) hd hr
theorem finZW {vm : Vm} {n : Nat} (X : Stand p l e R (s.setVm vm) m args below meth c T locs cells slots) (hx : p.tables.exec = Jvm.exec) {h : Heap} (hS : s.Since vm n) (hk : n ≤ h.size) (hl : meth.locks = false) {Q : Option Value → Heap → List Loc → Prop} {rc rs pc : Nat} {Ls : Array Slot} {z : Int32} {rest : List Value} (hret : meth.sig.returnType = some .boolean) (hd : decode c.code pc = .ok (.ireturn, 1)) (hz : z = 0 ∨ z = 1) (hc : cells ≤ rc) (hs : slots ≤ rs) (eT : T.heap = h) (hQ : Q (some (.int z)) h locs) : Run p.tables e below (PW s below rc rs Q) (T.setTop (mkF m pc Ls (.int z :: rest))) :=
  finW X hS hk hl (fun q => by rw [hret] at q; cases q) hc hs eT hQ fun fs hr => retOut X hx hret (by rcases hz with rfl | rfl <;> rfl) (Or.inl ⟨rfl, Or.inr (Or.inl rfl), _, rfl⟩) hd hr
theorem finBW {vm : Vm} {n : Nat} (X : Stand p l e R (s.setVm vm) m args below meth c T locs cells slots) (hx : p.tables.exec = Jvm.exec) {h : Heap} (hS : s.Since vm n) (hk : n ≤ h.size) (hl : meth.locks = false) {Q : Option Value → Heap → List Loc → Prop} {rc rs pc : Nat} {Ls : Array Slot} {z : Int32} {rest : List Value} (hret : meth.sig.returnType = some .byte) (hd : decode c.code pc = .ok (.ireturn, 1)) (hz : narrow .byte (.int z) = .int z) (hc : cells ≤ rc) (hs : slots ≤ rs) (eT : T.heap = h) (hQ : Q (some (.int z)) h locs) : Run p.tables e below (PW s below rc rs Q) (T.setTop (mkF m pc Ls (.int z :: rest))) :=
  finW X hS hk hl (fun q => by rw [hret] at q; cases q) hc hs eT hQ fun fs hr => retOut X hx hret hz (Or.inl ⟨rfl, Or.inr (Or.inr (Or.inl rfl)), _, rfl⟩) hd hr
theorem finJW {vm : Vm} {n : Nat} (X : Stand p l e R (s.setVm vm) m args below meth c T locs cells slots) (hx : p.tables.exec = Jvm.exec) {h : Heap} (hS : s.Since vm n) (hk : n ≤ h.size) (hl : meth.locks = false) {Q : Option Value → Heap → List Loc → Prop} {rc rs pc : Nat} {Ls : Array Slot} {z : Int64} {rest : List Value} (hret : meth.sig.returnType = some .long) (hd : decode c.code pc = .ok (.lreturn, 1)) (hc : cells ≤ rc) (hs : slots ≤ rs) (eT : T.heap = h) (hQ : Q (some (.long z)) h locs) : Run p.tables e below (PW s below rc rs Q) (T.setTop (mkF m pc Ls (.long z :: rest))) :=
  finW X hS hk hl (fun q => by rw [hret] at q; cases q) hc hs eT hQ fun fs hr => retOut X hx hret rfl (Or.inr (Or.inl ⟨rfl, rfl, _, rfl⟩)) hd hr
theorem finAW {vm : Vm} {n : Nat} (X : Stand p l e R (s.setVm vm) m args below meth c T locs cells slots) (hx : p.tables.exec = Jvm.exec) {h : Heap} (hS : s.Since vm n) (hk : n ≤ h.size) (hl : meth.locks = false) {Q : Option Value → Heap → List Loc → Prop} {rc rs pc : Nat} {Ls : Array Slot} {w : Value} {t : FieldType} {rest : List Value} (hret : meth.sig.returnType = some t) (hd : decode c.code pc = .ok (.areturn, 1)) (ht : t.isReference = true) (hw : w.isRef = true) (hc : cells ≤ rc) (hs : slots ≤ rs) (eT : T.heap = h) (hQ : Q (some w) h locs) : Run p.tables e below (PW s below rc rs Q) (T.setTop (mkF m pc Ls (w :: rest))) :=
  finW X hS hk hl (fun q => by rw [hret] at q; cases q) hc hs eT hQ fun fs hr => retOut X hx hret (by cases t <;> first | rfl | (cases w <;> first | rfl | cases ht)) (Or.inr (Or.inr (Or.inr (Or.inr ⟨rfl, ht, hw⟩)))) hd hr
theorem own_lrem {g : JFrame} {target : State} (X : Stand p l e R s m args below meth c T locs cells slots) (hx : p.tables.exec = Jvm.exec) (hg : g.method = m) {x y : Int64} {rest : List Value} (hd : decode c.code g.pc = .ok (.lrem, 1)) (hs : g.stack = .long y :: .long x :: rest) (hy : y ≠ 0)
    (hr : Steps p.tables e below (T.setTop { g with pc := g.pc + 1, stack := .long (x % y) :: rest }) target) : Steps p.tables e below (T.setTop g) target :=
  XS.lrem X.here hx hg hd hs hy (by rw [lrem_mod]; exact hr)
end Walks
end Jvm.OwnW
namespace Jvm.Pilot.@@N@@
open Jvm Jvm.ClassFile Sem Op Lib Jvm.Free Jvm.Stand Jvm.LawKit Jvm.RoadKit Jvm.OwnW Bundle Jvm.Pilot.@@N@@.Jvm.D
def Rf (r : Value) : Prop := r = .null ∨ ∃ a, r = .ref a
theorem Rf.is {r : Value} (h : Rf r) : r.isRef = true := by rcases h with rfl | ⟨a, rfl⟩ <;> rfl
theorem Rf.cat {r : Value} (h : Rf r) : r.category = 1 := by rcases h with rfl | ⟨a, rfl⟩ <;> rfl
theorem Rf.nar {r : Value} (h : Rf r) : narrow (.array .byte) r = r := by rcases h with rfl | ⟨a, rfl⟩ <;> rfl
theorem Rf.fit {r : Value} (h : Rf r) : fits (.array .byte) r = true := by rcases h with rfl | ⟨a, rfl⟩ <;> rfl
theorem own_and3 (x : Int32) : ¬ (x &&& (3 : Int32)) < 0 ∧ (x &&& (3 : Int32)).toNatClampNeg ≤ 3 := by
  have h := c_and x 3 (by decide)
  have e : (3 : Int32).toInt = 3 := by decide
  rw [e] at h
  refine ⟨fun q => ?_, ?_⟩
  · have := Int32.lt_iff_toInt_lt.mp q
    have e0 : (0 : Int32).toInt = 0 := by decide
    omega
  · show (x &&& (3 : Int32)).toInt.toNat ≤ 3
    omega
theorem pn_java_lang_Record : plainName "java/lang/Record" = true := by first | (simp [plainName, overriddenIn]; done) | decide +kernel
theorem d2_0 : decode jdk_30_method_1_code 0 = .ok (.aload_n 0, 1) := by decide +kernel
theorem d2_1 : decode jdk_30_method_1_code 1 = .ok (.invokespecial 1, 3) := by decide +kernel
theorem d2_4 : decode jdk_30_method_1_code 4 = .ok (.return_, 1) := by decide +kernel
theorem ef_2 (m : MethodId) (x0 : Addr) : entryFrame m #[(.ref x0)] 1 = mkF m 0 #[.val (.ref x0)] [] := by first | (simp [entryFrame, mkF, argsToLocals, Value.category, maxLocals]; done) | rfl
def Q2 (Z : State) (a1 : Addr) (h0 : Heap) (n0 : Nat) (v : Option Value) (h : Heap) (L : List Loc) : Prop := v = none ∧ Fr n0 L ∧ h = h0
set_option maxRecDepth 65536 in
set_option maxHeartbeats 40000000 in
theorem rm2 (l : Launch) (Z : State) (a0 : Array Value) (hw : ∀ d ∈ tables_1, d.before a0 Z = true) (ws : List Jvm.Cond) (a1 : Addr) (h0 : Heap) (n0 : Nat) (Z0 : n0 ≤ h0.size)  :
    MetFree l (⟨"java/lang/Record", "<init>", "()V"⟩ : MethodName) (head1 (Jvm.Cond.code (⟨"java/lang/Record", "<init>", "()V"⟩ : MethodName) jdk_30_method_1_code 1 none :: ws) ({ frames := 1, cells := 0, slots := 0, locals := 12 } : Room)) (fun a U => a = #[(.ref a1)] ∧ Z.Warmed39 U.vm ∧ U.heap = h0) (fun _ _ _ _ _ => True) (fun _ U o U' => ∃ v L, o = .returned v ∧ Q2 Z a1 h0 n0 v U'.heap L ∧ FrameEnd U o U' L ({ frames := 1, cells := 0, slots := 0, locals := 12 } : Room).cells ({ frames := 1, cells := 0, slots := 0, locals := 12 } : Room).slots) := by
  refine MetFree.of_bodySF (plainFor_of_name pn_java_lang_Record) hisR ?_
  intro p e s m args below meth c s₁ Bd hml0 hP hK
  obtain ⟨rfl, hZ, hh⟩ := hP
  have hx := Bd.exec
  have hby := Bd.bytes
  have w11 := hw _ (List.mem_of_getElem? (i := 11) rfl)
  have w12 := hw _ (List.mem_of_getElem? (i := 12) rfl)
  have w13 := hw _ (List.mem_of_getElem? (i := 13) rfl)
  have hml : c.maxLocals = 1 := hml0
  have hown : s.vm.findClass "java/lang/Record" = some m.cls := findClass_of_methodNamed Bd.named
  have hnm := (name_of_methodNamed Bd.named Bd.method).1
  have X0 : Stand p l e ({ frames := 1, cells := 0, slots := 0, locals := 12 } : Room) s m #[(.ref a1)] below meth c s₁ [] 0 0 := Stand.of_body Bd
  have e0 : s₁.heap = h0 := by rw [← hh, Bd.state]; rfl
  have N0 := Fr.nil n0
  show Run p.tables e below (PQ s below 0 0 (Q2 Z a1 h0 n0)) (s₁.setTop (entryFrame m #[(.ref a1)] 1))
  refine Run.step (fun t k => castTop (ef_2 m a1) k) ?_
  show Run _ _ _ _ (s₁.setTop (mkF m 0 #[.val (.ref a1)] []))
  refine Run.step (fun t_ k_ => XS.aloadN X0.here hx rfl (hb hby d2_0) rfl rfl k_) ?_
  show Run _ _ _ _ (s₁.setTop (mkF m 1 #[.val (.ref a1)] [(.ref a1)]))
  obtain ⟨T1, X1, e1, st1⟩ := initO X0 hx hZ hown w11 w12 w13 e0 (g := (mkF m 1 #[.val (.ref a1)] [(.ref a1)])) rfl (by rw [hml]; rfl) rfl (hb hby d2_1) (by decide) (W := 0) (by show 2 * 0 + _ ≤ _; exact Nat.le_of_eq rfl) (by decide)
  refine Run.step st1 ?_
  show Run _ _ _ _ (T1.setTop (mkF m 4 #[.val (.ref a1)] []))
  exact finV X1 hx (BodyLoose.notSynchronized Bd) Bd.returns (hb hby d2_4) (by decide) (by decide) e1 ⟨rfl, N0, rfl⟩
theorem pn_com_example_ringwell_ringwell_RingwellClient_Versioned : plainName "com/example/ringwell/ringwell/RingwellClient$Versioned" = true := by first | (simp [plainName, overriddenIn]; done) | decide +kernel
theorem d1_0 : decode prog_119_method_1_code 0 = .ok (.aload_n 0, 1) := by decide +kernel
theorem d1_1 : decode prog_119_method_1_code 1 = .ok (.invokespecial 1, 3) := by decide +kernel
theorem pd__28_29V : parseMethodDescriptor "()V" = some ⟨[], none⟩ := by decide +kernel
theorem d1_4 : decode prog_119_method_1_code 4 = .ok (.aload_n 0, 1) := by decide +kernel
theorem d1_5 : decode prog_119_method_1_code 5 = .ok (.aload_n 1, 1) := by decide +kernel
theorem d1_6 : decode prog_119_method_1_code 6 = .ok (.putfield 7, 3) := by decide +kernel
theorem d1_9 : decode prog_119_method_1_code 9 = .ok (.aload_n 0, 1) := by decide +kernel
theorem d1_10 : decode prog_119_method_1_code 10 = .ok (.lload_n 2, 1) := by decide +kernel
theorem d1_11 : decode prog_119_method_1_code 11 = .ok (.putfield 13, 3) := by decide +kernel
theorem d1_14 : decode prog_119_method_1_code 14 = .ok (.return_, 1) := by decide +kernel
theorem ef_1 (m : MethodId) (x0 : Addr) (x1 : Value) (hx1 : x1.category = 1) (x2 : Int64) : entryFrame m #[(.ref x0), x1, (.long x2)] 4 = mkF m 0 #[.val (.ref x0), .val x1, .val (.long x2), .second] [] := by cases x1 <;> first | (simp [entryFrame, mkF, argsToLocals, Value.category, maxLocals]; done) | rfl | (simp [Value.category] at hx1)
def Q1 (Z : State) (a1 : Addr) (r : Value) (q3 : Int64) (h0 : Heap) (n0 : Nat) (v : Option Value) (h : Heap) (L : List Loc) : Prop := v = none ∧ Fr n0 L ∧ Keep h0 h [a1] ∧ Fld Z h a1 "com/example/ringwell/ringwell/RingwellClient$Versioned" "value" "[B" r ∧ Fld Z h a1 "com/example/ringwell/ringwell/RingwellClient$Versioned" "version" "J" (.long q3)
set_option maxRecDepth 65536 in
set_option maxHeartbeats 40000000 in
theorem rm1 (l : Launch) (Z : State) (a0 : Array Value) (hw : ∀ d ∈ tables_1, d.before a0 Z = true) (ws : List Jvm.Cond) (a1 : Addr) (r : Value) (q3 : Int64) (h0 : Heap) (n0 : Nat) (Z0 : n0 ≤ h0.size) (hr : Rf r) (F1 : Fld Z h0 a1 "com/example/ringwell/ringwell/RingwellClient$Versioned" "value" "[B" .null) (F2 : Fld Z h0 a1 "com/example/ringwell/ringwell/RingwellClient$Versioned" "version" "J" (.long (0 : Int64))) (E1 : Exa Z h0 a1 "com/example/ringwell/ringwell/RingwellClient$Versioned") (g1 : n0 ≤ a1) :
    MetFree l (⟨"com/example/ringwell/ringwell/RingwellClient$Versioned", "<init>", "([BJ)V"⟩ : MethodName) (head1 (Jvm.Cond.code (⟨"com/example/ringwell/ringwell/RingwellClient$Versioned", "<init>", "([BJ)V"⟩ : MethodName) prog_119_method_1_code 4 none :: ws) ({ frames := 2, cells := 0, slots := 0, locals := 24 } : Room)) (fun a U => a = #[(.ref a1), r, (.long q3)] ∧ Z.Warmed39 U.vm ∧ U.heap = h0) (fun _ _ _ _ _ => True) (fun _ U o U' => ∃ v L, o = .returned v ∧ Q1 Z a1 r q3 h0 n0 v U'.heap L ∧ FrameEnd U o U' L ({ frames := 2, cells := 0, slots := 0, locals := 24 } : Room).cells ({ frames := 2, cells := 0, slots := 0, locals := 24 } : Room).slots) := by
  refine MetFree.of_bodySF (plainFor_of_name pn_com_example_ringwell_ringwell_RingwellClient_Versioned) hisR ?_
  intro p e s m args below meth c s₁ Bd hml0 hP hK
  obtain ⟨rfl, hZ, hh⟩ := hP
  have hx := Bd.exec
  have hby := Bd.bytes
  have w1 := hw _ (List.mem_of_getElem? (i := 1) rfl)
  have w6 := hw _ (List.mem_of_getElem? (i := 6) rfl)
  have w7 := hw _ (List.mem_of_getElem? (i := 7) rfl)
  have w9 := hw _ (List.mem_of_getElem? (i := 9) rfl)
  have w10 := hw _ (List.mem_of_getElem? (i := 10) rfl)
  have w14 := hw _ (List.mem_of_getElem? (i := 14) rfl)
  have w15 := hw _ (List.mem_of_getElem? (i := 15) rfl)
  have w16 := hw _ (List.mem_of_getElem? (i := 16) rfl)
  have w17 := hw _ (List.mem_of_getElem? (i := 17) rfl)
  have hml : c.maxLocals = 4 := hml0
  have hown : s.vm.findClass "com/example/ringwell/ringwell/RingwellClient$Versioned" = some m.cls := findClass_of_methodNamed Bd.named
  have hnm := (name_of_methodNamed Bd.named Bd.method).1
  have X0 : Stand p l e ({ frames := 2, cells := 0, slots := 0, locals := 24 } : Room) s m #[(.ref a1), r, (.long q3)] below meth c s₁ [] 0 0 := Stand.of_body Bd
  have e0 : s₁.heap = h0 := by rw [← hh, Bd.state]; rfl
  have N0 := Fr.nil n0
  show Run p.tables e below (PQ s below 0 0 (Q1 Z a1 r q3 h0 n0)) (s₁.setTop (entryFrame m #[(.ref a1), r, (.long q3)] 4))
  refine Run.step (fun t k => castTop (ef_1 m a1 r hr.cat q3) k) ?_
  show Run _ _ _ _ (s₁.setTop (mkF m 0 #[.val (.ref a1), .val r, .val (.long q3), .second] []))
  refine Run.step (fun t_ k_ => XS.aloadN X0.here hx rfl (hb hby d1_0) rfl rfl k_) ?_
  show Run _ _ _ _ (s₁.setTop (mkF m 1 #[.val (.ref a1), .val r, .val (.long q3), .second] [(.ref a1)]))
  obtain ⟨_, _, ⟨T2, L2, k2, n2⟩, -, X2, ⟨Lc2, hQ2, l2, y2, z2⟩, st2⟩ := X0.specialBack hx (y := (⟨"java/lang/Record", "<init>", "()V"⟩ : MethodName)) rfl hown (mvT hZ w6) (mvT hZ w7) (mvT hZ w10) (by decide) (backOf (W := 0) (rm2 l Z a0 hw [] a1 h0 n0 Z0) hZ w10 w9 (by decide) (by decide)) (g := (mkF m 1 #[.val (.ref a1), .val r, .val (.long q3), .second] [(.ref a1)])) rfl (by rw [hml]; rfl) (Steps.refl _) (a := a1) (argsL := []) (rest := []) (lenOf pd__28_29V rfl) rfl (by show 2 * 0 + _ ≤ _; exact Nat.le_of_eq rfl) (hb hby d1_1) (fun _ _ => ⟨rfl, e0, (by decide : 0 + 0 ≤ _), (by decide : 0 + 0 ≤ _)⟩)
  dsimp only [Pt.U, Pt.locs, Pt.cells, Pt.slots] at X2 l2 y2 z2 st2 hQ2
  subst l2 y2 z2
  refine Run.step (fun t k => st2.trans k) ?_
  obtain ⟨rfl, N2q, e2q⟩ := hQ2
  have N2 := Fr.app N0 N2q
  show Run _ _ _ _ (T2.setTop (mkF m 4 #[.val (.ref a1), .val r, .val (.long q3), .second] []))
  refine Run.step (fun t_ k_ => XS.aloadN X2.here hx rfl (hb hby d1_4) rfl rfl k_) ?_
  show Run _ _ _ _ (T2.setTop (mkF m 5 #[.val (.ref a1), .val r, .val (.long q3), .second] [(.ref a1)]))
  refine Run.step (fun t_ k_ => XS.aloadN X2.here hx rfl (hb hby d1_5) rfl hr.is k_) ?_
  show Run _ _ _ _ (T2.setTop (mkF m 6 #[.val (.ref a1), .val r, .val (.long q3), .second] [r, (.ref a1)]))
  obtain ⟨T3, h3, X3, e3, W3, st3⟩ := putF X2 hx hZ hown (host := "") (Or.inl w14) Via.refl e2q F1 E1 (Or.inr ⟨w15, rfl, hnm⟩) w1 (ty := (.array .byte)) (by decide) hr.nar hr.fit (g := (mkF m 6 #[.val (.ref a1), .val r, .val (.long q3), .second] [r, (.ref a1)])) rfl rfl (hb hby d1_6)
  refine Run.step st3 ?_
  have f4 := F1.same W3
  have f5 := F2.other W3 (Or.inr (slot_ne (Or.inr w17) (Or.inr w15) (by decide) (t := .long) (t' := (.array .byte)) (by decide) (by decide)))
  have f6 := E1.wr W3
  have z7 := Nat.le_trans Z0 (Keep.of_wr W3).1
  have K8 := (Keep.refl h0 [a1]).wr W3 (Or.inl (List.mem_of_getElem? (i := 0) rfl))
  have N9 := Fr.snoc X3 N2 g1
  show Run _ _ _ _ (T3.setTop (mkF m 9 #[.val (.ref a1), .val r, .val (.long q3), .second] []))
  refine Run.step (fun t_ k_ => XS.aloadN X3.here hx rfl (hb hby d1_9) rfl rfl k_) ?_
  show Run _ _ _ _ (T3.setTop (mkF m 10 #[.val (.ref a1), .val r, .val (.long q3), .second] [(.ref a1)]))
  refine Run.step (fun t_ k_ => XS.lloadN X3.here hx rfl (hb hby d1_10) rfl k_) ?_
  show Run _ _ _ _ (T3.setTop (mkF m 11 #[.val (.ref a1), .val r, .val (.long q3), .second] [(.long q3), (.ref a1)]))
  obtain ⟨T10, h10, X10, e10, W10, st10⟩ := putF X3 hx hZ hown (host := "") (Or.inl w16) Via.refl e3 f5 f6 (Or.inr ⟨w17, rfl, hnm⟩) w1 (ty := .long) (by decide) rfl rfl (g := (mkF m 11 #[.val (.ref a1), .val r, .val (.long q3), .second] [(.long q3), (.ref a1)])) rfl rfl (hb hby d1_11)
  refine Run.step st10 ?_
  have f11 := f4.other W10 (Or.inr (slot_ne (Or.inr w15) (Or.inr w17) (by decide) (t := (.array .byte)) (t' := .long) (by decide) (by decide)))
  have f12 := f5.same W10
  have f13 := f6.wr W10
  have z14 := Nat.le_trans z7 (Keep.of_wr W10).1
  have K15 := K8.wr W10 (Or.inl (List.mem_of_getElem? (i := 0) rfl))
  have N16 := Fr.snoc X10 N9 g1
  show Run _ _ _ _ (T10.setTop (mkF m 14 #[.val (.ref a1), .val r, .val (.long q3), .second] []))
  exact finV X10 hx (BodyLoose.notSynchronized Bd) Bd.returns (hb hby d1_14) (by decide) (by decide) e10 ⟨rfl, N16, K15, f11, f12⟩
theorem d4_0 : decode prog_119_method_2_code 0 = .ok (.aload_n 0, 1) := by decide +kernel
theorem d4_1 : decode prog_119_method_2_code 1 = .ok (.getfield 7, 3) := by decide +kernel
theorem d4_4 : decode prog_119_method_2_code 4 = .ok (.ifnull 7, 3) := by decide +kernel
theorem d4_11 : decode prog_119_method_2_code 11 = .ok (.iconst 0, 1) := by decide +kernel
theorem d4_12 : decode prog_119_method_2_code 12 = .ok (.ireturn, 1) := by decide +kernel
theorem ef_4n (m : MethodId) (x0 : Addr) : entryFrame m #[(.ref x0)] 1 = mkF m 0 #[.val (.ref x0)] [] := by first | (simp [entryFrame, mkF, argsToLocals, Value.category, maxLocals]; done) | rfl
def Q4n (Z : State) (a1 : Addr) (h0 : Heap) (n0 : Nat) (v : Option Value) (h : Heap) (L : List Loc) : Prop := v = some (.int (0 : Int32)) ∧ Fr n0 L ∧ h = h0
set_option maxRecDepth 65536 in
set_option maxHeartbeats 40000000 in
theorem rm4n (l : Launch) (Z : State) (a0 : Array Value) (hw : ∀ d ∈ tables_1, d.before a0 Z = true) (ws : List Jvm.Cond) (a1 : Addr) (h0 : Heap) (n0 : Nat) (Z0 : n0 ≤ h0.size) (F1 : Fld Z h0 a1 "com/example/ringwell/ringwell/RingwellClient$Versioned" "value" "[B" .null) :
    MetFree l (⟨"com/example/ringwell/ringwell/RingwellClient$Versioned", "exists", "()Z"⟩ : MethodName) (head1 (Jvm.Cond.code (⟨"com/example/ringwell/ringwell/RingwellClient$Versioned", "exists", "()Z"⟩ : MethodName) prog_119_method_2_code 1 (some .boolean) :: ws) ({ frames := 0, cells := 0, slots := 0, locals := 0 } : Room)) (fun a U => a = #[(.ref a1)] ∧ Z.Warmed39 U.vm ∧ U.heap = h0) (fun _ _ _ _ _ => True) (fun _ U o U' => ∃ v L, o = .returned v ∧ Q4n Z a1 h0 n0 v U'.heap L ∧ FrameEnd U o U' L ({ frames := 0, cells := 0, slots := 0, locals := 0 } : Room).cells ({ frames := 0, cells := 0, slots := 0, locals := 0 } : Room).slots) := by
  refine MetFree.of_bodySF (plainFor_of_name pn_com_example_ringwell_ringwell_RingwellClient_Versioned) hisR ?_
  intro p e s m args below meth c s₁ Bd hml0 hP hK
  obtain ⟨rfl, hZ, hh⟩ := hP
  have hx := Bd.exec
  have hby := Bd.bytes
  have w14 := hw _ (List.mem_of_getElem? (i := 14) rfl)
  have hml : c.maxLocals = 1 := hml0
  have hown : s.vm.findClass "com/example/ringwell/ringwell/RingwellClient$Versioned" = some m.cls := findClass_of_methodNamed Bd.named
  have hnm := (name_of_methodNamed Bd.named Bd.method).1
  have X0 : Stand p l e ({ frames := 0, cells := 0, slots := 0, locals := 0 } : Room) s m #[(.ref a1)] below meth c s₁ [] 0 0 := Stand.of_body Bd
  have e0 : s₁.heap = h0 := by rw [← hh, Bd.state]; rfl
  have N0 := Fr.nil n0
  show Run p.tables e below (PQ s below 0 0 (Q4n Z a1 h0 n0)) (s₁.setTop (entryFrame m #[(.ref a1)] 1))
  refine Run.step (fun t k => castTop (ef_4n m a1) k) ?_
  show Run _ _ _ _ (s₁.setTop (mkF m 0 #[.val (.ref a1)] []))
  refine Run.step (fun t_ k_ => XS.aloadN X0.here hx rfl (hb hby d4_0) rfl rfl k_) ?_
  show Run _ _ _ _ (s₁.setTop (mkF m 1 #[.val (.ref a1)] [(.ref a1)]))
  obtain ⟨T17, X17, e17, st17⟩ := getF X0 hx hZ hown (host := "") (Or.inl w14) Via.refl e0 F1 (g := (mkF m 1 #[.val (.ref a1)] [(.ref a1)])) rfl rfl (hb hby d4_1)
  refine Run.step st17 ?_
  show Run _ _ _ _ (T17.setTop (mkF m 4 #[.val (.ref a1)] [.null]))
  refine Run.step (fun t_ k_ => XS.ifnullYes X17.here hx rfl (pc0 := 4) (pc' := 11) rfl (hb hby d4_4) rfl (by decide) (by decide) k_) ?_
  show Run _ _ _ _ (T17.setTop (mkF m 11 #[.val (.ref a1)] []))
  refine Run.step (fun t_ k_ => XS.iconst X17.here hx rfl (hb hby d4_11) k_) ?_
  show Run _ _ _ _ (T17.setTop (mkF m 12 #[.val (.ref a1)] [(.int (0 : Int32))]))
  exact finZ X17 hx (BodyLoose.notSynchronized Bd) Bd.returns (hb hby d4_12) (by decide) (by decide) (by decide) e17 ⟨rfl, N0, rfl⟩
theorem d4_7 : decode prog_119_method_2_code 7 = .ok (.iconst 1, 1) := by decide +kernel
theorem d4_8 : decode prog_119_method_2_code 8 = .ok (.goto 4, 3) := by decide +kernel
theorem ef_4r (m : MethodId) (x0 : Addr) : entryFrame m #[(.ref x0)] 1 = mkF m 0 #[.val (.ref x0)] [] := by first | (simp [entryFrame, mkF, argsToLocals, Value.category, maxLocals]; done) | rfl
def Q4r (Z : State) (a1 : Addr) (b : Addr) (h0 : Heap) (n0 : Nat) (v : Option Value) (h : Heap) (L : List Loc) : Prop := v = some (.int (1 : Int32)) ∧ Fr n0 L ∧ h = h0
set_option maxRecDepth 65536 in
set_option maxHeartbeats 40000000 in
theorem rm4r (l : Launch) (Z : State) (a0 : Array Value) (hw : ∀ d ∈ tables_1, d.before a0 Z = true) (ws : List Jvm.Cond) (a1 : Addr) (b : Addr) (h0 : Heap) (n0 : Nat) (Z0 : n0 ≤ h0.size) (F1 : Fld Z h0 a1 "com/example/ringwell/ringwell/RingwellClient$Versioned" "value" "[B" (.ref b)) :
    MetFree l (⟨"com/example/ringwell/ringwell/RingwellClient$Versioned", "exists", "()Z"⟩ : MethodName) (head1 (Jvm.Cond.code (⟨"com/example/ringwell/ringwell/RingwellClient$Versioned", "exists", "()Z"⟩ : MethodName) prog_119_method_2_code 1 (some .boolean) :: ws) ({ frames := 0, cells := 0, slots := 0, locals := 0 } : Room)) (fun a U => a = #[(.ref a1)] ∧ Z.Warmed39 U.vm ∧ U.heap = h0) (fun _ _ _ _ _ => True) (fun _ U o U' => ∃ v L, o = .returned v ∧ Q4r Z a1 b h0 n0 v U'.heap L ∧ FrameEnd U o U' L ({ frames := 0, cells := 0, slots := 0, locals := 0 } : Room).cells ({ frames := 0, cells := 0, slots := 0, locals := 0 } : Room).slots) := by
  refine MetFree.of_bodySF (plainFor_of_name pn_com_example_ringwell_ringwell_RingwellClient_Versioned) hisR ?_
  intro p e s m args below meth c s₁ Bd hml0 hP hK
  obtain ⟨rfl, hZ, hh⟩ := hP
  have hx := Bd.exec
  have hby := Bd.bytes
  have w14 := hw _ (List.mem_of_getElem? (i := 14) rfl)
  have hml : c.maxLocals = 1 := hml0
  have hown : s.vm.findClass "com/example/ringwell/ringwell/RingwellClient$Versioned" = some m.cls := findClass_of_methodNamed Bd.named
  have hnm := (name_of_methodNamed Bd.named Bd.method).1
  have X0 : Stand p l e ({ frames := 0, cells := 0, slots := 0, locals := 0 } : Room) s m #[(.ref a1)] below meth c s₁ [] 0 0 := Stand.of_body Bd
  have e0 : s₁.heap = h0 := by rw [← hh, Bd.state]; rfl
  have N0 := Fr.nil n0
  show Run p.tables e below (PQ s below 0 0 (Q4r Z a1 b h0 n0)) (s₁.setTop (entryFrame m #[(.ref a1)] 1))
  refine Run.step (fun t k => castTop (ef_4r m a1) k) ?_
  show Run _ _ _ _ (s₁.setTop (mkF m 0 #[.val (.ref a1)] []))
  refine Run.step (fun t_ k_ => XS.aloadN X0.here hx rfl (hb hby d4_0) rfl rfl k_) ?_
  show Run _ _ _ _ (s₁.setTop (mkF m 1 #[.val (.ref a1)] [(.ref a1)]))
  obtain ⟨T18, X18, e18, st18⟩ := getF X0 hx hZ hown (host := "") (Or.inl w14) Via.refl e0 F1 (g := (mkF m 1 #[.val (.ref a1)] [(.ref a1)])) rfl rfl (hb hby d4_1)
  refine Run.step st18 ?_
  show Run _ _ _ _ (T18.setTop (mkF m 4 #[.val (.ref a1)] [(.ref b)]))
  refine Run.step (fun t_ k_ => XS.ifnullNo X18.here hx rfl (hb hby d4_4) rfl k_) ?_
  show Run _ _ _ _ (T18.setTop (mkF m 7 #[.val (.ref a1)] []))
  refine Run.step (fun t_ k_ => XS.iconst X18.here hx rfl (hb hby d4_7) k_) ?_
  show Run _ _ _ _ (T18.setTop (mkF m 8 #[.val (.ref a1)] [(.int (1 : Int32))]))
  refine Run.step (fun t_ k_ => XS.goto X18.here hx rfl (pc0 := 8) (pc' := 12) rfl (hb hby d4_8) (by decide) (by decide) k_) ?_
  show Run _ _ _ _ (T18.setTop (mkF m 12 #[.val (.ref a1)] [(.int (1 : Int32))]))
  exact finZ X18 hx (BodyLoose.notSynchronized Bd) Bd.returns (hb hby d4_12) (by decide) (by decide) (by decide) e18 ⟨rfl, N0, rfl⟩
theorem d5_0 : decode prog_119_method_7_code 0 = .ok (.aload_n 0, 1) := by decide +kernel
theorem d5_1 : decode prog_119_method_7_code 1 = .ok (.getfield 13, 3) := by decide +kernel
theorem d5_4 : decode prog_119_method_7_code 4 = .ok (.lreturn, 1) := by decide +kernel
theorem ef_5 (m : MethodId) (x0 : Addr) : entryFrame m #[(.ref x0)] 1 = mkF m 0 #[.val (.ref x0)] [] := by first | (simp [entryFrame, mkF, argsToLocals, Value.category, maxLocals]; done) | rfl
def Q5 (Z : State) (a1 : Addr) (q : Int64) (h0 : Heap) (n0 : Nat) (v : Option Value) (h : Heap) (L : List Loc) : Prop := v = some (.long q) ∧ Fr n0 L ∧ h = h0
set_option maxRecDepth 65536 in
set_option maxHeartbeats 40000000 in
theorem rm5 (l : Launch) (Z : State) (a0 : Array Value) (hw : ∀ d ∈ tables_1, d.before a0 Z = true) (ws : List Jvm.Cond) (a1 : Addr) (q : Int64) (h0 : Heap) (n0 : Nat) (Z0 : n0 ≤ h0.size) (F1 : Fld Z h0 a1 "com/example/ringwell/ringwell/RingwellClient$Versioned" "version" "J" (.long q)) :
    MetFree l (⟨"com/example/ringwell/ringwell/RingwellClient$Versioned", "version", "()J"⟩ : MethodName) (head1 (Jvm.Cond.code (⟨"com/example/ringwell/ringwell/RingwellClient$Versioned", "version", "()J"⟩ : MethodName) prog_119_method_7_code 1 (some .long) :: ws) ({ frames := 0, cells := 0, slots := 0, locals := 0 } : Room)) (fun a U => a = #[(.ref a1)] ∧ Z.Warmed39 U.vm ∧ U.heap = h0) (fun _ _ _ _ _ => True) (fun _ U o U' => ∃ v L, o = .returned v ∧ Q5 Z a1 q h0 n0 v U'.heap L ∧ FrameEnd U o U' L ({ frames := 0, cells := 0, slots := 0, locals := 0 } : Room).cells ({ frames := 0, cells := 0, slots := 0, locals := 0 } : Room).slots) := by
  refine MetFree.of_bodySF (plainFor_of_name pn_com_example_ringwell_ringwell_RingwellClient_Versioned) hisR ?_
  intro p e s m args below meth c s₁ Bd hml0 hP hK
  obtain ⟨rfl, hZ, hh⟩ := hP
  have hx := Bd.exec
  have hby := Bd.bytes
  have w16 := hw _ (List.mem_of_getElem? (i := 16) rfl)
  have hml : c.maxLocals = 1 := hml0
  have hown : s.vm.findClass "com/example/ringwell/ringwell/RingwellClient$Versioned" = some m.cls := findClass_of_methodNamed Bd.named
  have hnm := (name_of_methodNamed Bd.named Bd.method).1
  have X0 : Stand p l e ({ frames := 0, cells := 0, slots := 0, locals := 0 } : Room) s m #[(.ref a1)] below meth c s₁ [] 0 0 := Stand.of_body Bd
  have e0 : s₁.heap = h0 := by rw [← hh, Bd.state]; rfl
  have N0 := Fr.nil n0
  show Run p.tables e below (PQ s below 0 0 (Q5 Z a1 q h0 n0)) (s₁.setTop (entryFrame m #[(.ref a1)] 1))
  refine Run.step (fun t k => castTop (ef_5 m a1) k) ?_
  show Run _ _ _ _ (s₁.setTop (mkF m 0 #[.val (.ref a1)] []))
  refine Run.step (fun t_ k_ => XS.aloadN X0.here hx rfl (hb hby d5_0) rfl rfl k_) ?_
  show Run _ _ _ _ (s₁.setTop (mkF m 1 #[.val (.ref a1)] [(.ref a1)]))
  obtain ⟨T19, X19, e19, st19⟩ := getF X0 hx hZ hown (host := "") (Or.inl w16) Via.refl e0 F1 (g := (mkF m 1 #[.val (.ref a1)] [(.ref a1)])) rfl rfl (hb hby d5_1)
  refine Run.step st19 ?_
  show Run _ _ _ _ (T19.setTop (mkF m 4 #[.val (.ref a1)] [(.long q)]))
  exact finJ X19 hx (BodyLoose.notSynchronized Bd) Bd.returns (hb hby d5_4) (by decide) (by decide) e19 ⟨rfl, N0, rfl⟩
theorem d6_0 : decode prog_119_method_6_code 0 = .ok (.aload_n 0, 1) := by decide +kernel
theorem d6_1 : decode prog_119_method_6_code 1 = .ok (.getfield 7, 3) := by decide +kernel
theorem d6_4 : decode prog_119_method_6_code 4 = .ok (.areturn, 1) := by decide +kernel
theorem ef_6 (m : MethodId) (x0 : Addr) : entryFrame m #[(.ref x0)] 1 = mkF m 0 #[.val (.ref x0)] [] := by first | (simp [entryFrame, mkF, argsToLocals, Value.category, maxLocals]; done) | rfl
def Q6 (Z : State) (a1 : Addr) (r : Value) (h0 : Heap) (n0 : Nat) (v : Option Value) (h : Heap) (L : List Loc) : Prop := v = some r ∧ Fr n0 L ∧ h = h0
set_option maxRecDepth 65536 in
set_option maxHeartbeats 40000000 in
theorem rm6 (l : Launch) (Z : State) (a0 : Array Value) (hw : ∀ d ∈ tables_1, d.before a0 Z = true) (ws : List Jvm.Cond) (a1 : Addr) (r : Value) (h0 : Heap) (n0 : Nat) (Z0 : n0 ≤ h0.size) (hr : Rf r) (F1 : Fld Z h0 a1 "com/example/ringwell/ringwell/RingwellClient$Versioned" "value" "[B" r) :
    MetFree l (⟨"com/example/ringwell/ringwell/RingwellClient$Versioned", "value", "()[B"⟩ : MethodName) (head1 (Jvm.Cond.code (⟨"com/example/ringwell/ringwell/RingwellClient$Versioned", "value", "()[B"⟩ : MethodName) prog_119_method_6_code 1 (some (.array .byte)) :: ws) ({ frames := 0, cells := 0, slots := 0, locals := 0 } : Room)) (fun a U => a = #[(.ref a1)] ∧ Z.Warmed39 U.vm ∧ U.heap = h0) (fun _ _ _ _ _ => True) (fun _ U o U' => ∃ v L, o = .returned v ∧ Q6 Z a1 r h0 n0 v U'.heap L ∧ FrameEnd U o U' L ({ frames := 0, cells := 0, slots := 0, locals := 0 } : Room).cells ({ frames := 0, cells := 0, slots := 0, locals := 0 } : Room).slots) := by
  refine MetFree.of_bodySF (plainFor_of_name pn_com_example_ringwell_ringwell_RingwellClient_Versioned) hisR ?_
  intro p e s m args below meth c s₁ Bd hml0 hP hK
  obtain ⟨rfl, hZ, hh⟩ := hP
  have hx := Bd.exec
  have hby := Bd.bytes
  have w14 := hw _ (List.mem_of_getElem? (i := 14) rfl)
  have hml : c.maxLocals = 1 := hml0
  have hown : s.vm.findClass "com/example/ringwell/ringwell/RingwellClient$Versioned" = some m.cls := findClass_of_methodNamed Bd.named
  have hnm := (name_of_methodNamed Bd.named Bd.method).1
  have X0 : Stand p l e ({ frames := 0, cells := 0, slots := 0, locals := 0 } : Room) s m #[(.ref a1)] below meth c s₁ [] 0 0 := Stand.of_body Bd
  have e0 : s₁.heap = h0 := by rw [← hh, Bd.state]; rfl
  have N0 := Fr.nil n0
  show Run p.tables e below (PQ s below 0 0 (Q6 Z a1 r h0 n0)) (s₁.setTop (entryFrame m #[(.ref a1)] 1))
  refine Run.step (fun t k => castTop (ef_6 m a1) k) ?_
  show Run _ _ _ _ (s₁.setTop (mkF m 0 #[.val (.ref a1)] []))
  refine Run.step (fun t_ k_ => XS.aloadN X0.here hx rfl (hb hby d6_0) rfl rfl k_) ?_
  show Run _ _ _ _ (s₁.setTop (mkF m 1 #[.val (.ref a1)] [(.ref a1)]))
  obtain ⟨T20, X20, e20, st20⟩ := getF X0 hx hZ hown (host := "") (Or.inl w14) Via.refl e0 F1 (g := (mkF m 1 #[.val (.ref a1)] [(.ref a1)])) rfl rfl (hb hby d6_1)
  refine Run.step st20 ?_
  show Run _ _ _ _ (T20.setTop (mkF m 4 #[.val (.ref a1)] [r]))
  exact finA X20 hx (BodyLoose.notSynchronized Bd) Bd.returns (hb hby d6_4) rfl hr.is (by decide) (by decide) e20 ⟨rfl, N0, rfl⟩
theorem pn_com_example_ringwell_ringwell_VersionedExistsPinLaw : plainName "com/example/ringwell/ringwell/VersionedExistsPinLaw" = true := by first | (simp [plainName, overriddenIn]; done) | decide +kernel
theorem pd__28_5bBJ_29V : parseMethodDescriptor "([BJ)V" = some ⟨[(.array .byte), .long], none⟩ := by decide +kernel
theorem pd__28_29Z : parseMethodDescriptor "()Z" = some ⟨[], some .boolean⟩ := by decide +kernel
theorem pd__28_29J : parseMethodDescriptor "()J" = some ⟨[], some .long⟩ := by decide +kernel
theorem pd__28_29_5bB : parseMethodDescriptor "()[B" = some ⟨[], some (.array .byte)⟩ := by decide +kernel
theorem ef_0 (m : MethodId) (x0 : Int32) (x1 : Int32) (x2 : Int64) (x3 : Int32) : entryFrame m #[(.int x0), (.int x1), (.long x2), (.int x3)] maxLocals = mkF m 0 #[.val (.int x0), .val (.int x1), .val (.long x2), .second, .val (.int x3), .unset, .unset, .unset, .unset, .unset] [] := by first | (simp [entryFrame, mkF, argsToLocals, Value.category, maxLocals]; done) | rfl
def Q0 (Z : State) (p1 : Int32) (p2 : Int32) (p3 : Int64) (p4 : Int32) (h0 : Heap) (n0 : Nat) (v : Option Value) (h : Heap) (L : List Loc) : Prop := v = some (.int 1) ∧ Fr n0 L
set_option maxRecDepth 65536 in
set_option maxHeartbeats 40000000 in
theorem rm0 (l : Launch) (Z : State) (a0 : Array Value) (hw : ∀ d ∈ tables_1, d.before a0 Z = true) (ws : List Jvm.Cond) (p1 : Int32) (p2 : Int32) (p3 : Int64) (p4 : Int32) (h0 : Heap) (n0 : Nat) (Z0 : n0 ≤ h0.size)  :
    MetFree l x (head1 (Jvm.Cond.code x code maxLocals ret :: ws) room_1) (fun a U => a = #[(.int p1), (.int p2), (.long p3), (.int p4)] ∧ Z.Warmed39 U.vm ∧ U.heap = h0) (fun _ _ _ _ _ => True) (fun _ U o U' => ∃ v L, o = .returned v ∧ Q0 Z p1 p2 p3 p4 h0 n0 v U'.heap L ∧ FrameEnd U o U' L 16 128) := by
  refine MetFree.of_bodySF (plainFor_of_name pn_com_example_ringwell_ringwell_VersionedExistsPinLaw) hisR ?_
  intro p e s m args below meth c s₁ Bd hml0 hP hK
  obtain ⟨rfl, hZ, hh⟩ := hP
  have hx := Bd.exec
  have hby := Bd.bytes
  have w0 := hw _ (List.mem_of_getElem? (i := 0) rfl)
  have w1 := hw _ (List.mem_of_getElem? (i := 1) rfl)
  have w2 := hw _ (List.mem_of_getElem? (i := 2) rfl)
  have w3 := hw _ (List.mem_of_getElem? (i := 3) rfl)
  have w4 := hw _ (List.mem_of_getElem? (i := 4) rfl)
  have w5 := hw _ (List.mem_of_getElem? (i := 5) rfl)
  have w15 := hw _ (List.mem_of_getElem? (i := 15) rfl)
  have w17 := hw _ (List.mem_of_getElem? (i := 17) rfl)
  have w18 := hw _ (List.mem_of_getElem? (i := 18) rfl)
  have w19 := hw _ (List.mem_of_getElem? (i := 19) rfl)
  have w20 := hw _ (List.mem_of_getElem? (i := 20) rfl)
  have w21 := hw _ (List.mem_of_getElem? (i := 21) rfl)
  have w22 := hw _ (List.mem_of_getElem? (i := 22) rfl)
  have w23 := hw _ (List.mem_of_getElem? (i := 23) rfl)
  have w24 := hw _ (List.mem_of_getElem? (i := 24) rfl)
  have w25 := hw _ (List.mem_of_getElem? (i := 25) rfl)
  have w26 := hw _ (List.mem_of_getElem? (i := 26) rfl)
  have w27 := hw _ (List.mem_of_getElem? (i := 27) rfl)
  have w28 := hw _ (List.mem_of_getElem? (i := 28) rfl)
  have w29 := hw _ (List.mem_of_getElem? (i := 29) rfl)
  have w30 := hw _ (List.mem_of_getElem? (i := 30) rfl)
  have w31 := hw _ (List.mem_of_getElem? (i := 31) rfl)
  have w32 := hw _ (List.mem_of_getElem? (i := 32) rfl)
  have w33 := hw _ (List.mem_of_getElem? (i := 33) rfl)
  have hml : c.maxLocals = 10 := hml0
  have hown : s.vm.findClass "com/example/ringwell/ringwell/VersionedExistsPinLaw" = some m.cls := findClass_of_methodNamed Bd.named
  have hnm := (name_of_methodNamed Bd.named Bd.method).1
  have X0 : Stand p l e room_1 s m #[(.int p1), (.int p2), (.long p3), (.int p4)] below meth c s₁ [] 0 0 := Stand.of_body Bd
  have e0 : s₁.heap = h0 := by rw [← hh, Bd.state]; rfl
  have N0 := Fr.nil n0
  show Run p.tables e below (PQ s below 16 128 (Q0 Z p1 p2 p3 p4 h0 n0)) (s₁.setTop (entryFrame m #[(.int p1), (.int p2), (.long p3), (.int p4)] maxLocals))
  refine Run.step (fun t k => castTop (ef_0 m p1 p2 p3 p4) k) ?_
  show Run _ _ _ _ (s₁.setTop (mkF m 0 #[.val (.int p1), .val (.int p2), .val (.long p3), .second, .val (.int p4), .unset, .unset, .unset, .unset, .unset] []))
  refine Run.step (fun t_ k_ => XS.iloadN X0.here hx rfl (hb hby at_0) rfl k_) ?_
  show Run _ _ _ _ (s₁.setTop (mkF m 1 #[.val (.int p1), .val (.int p2), .val (.long p3), .second, .val (.int p4), .unset, .unset, .unset, .unset, .unset] [(.int p1)]))
  refine Run.step (fun t_ k_ => XS.iconst X0.here hx rfl (hb hby at_1) k_) ?_
  show Run _ _ _ _ (s₁.setTop (mkF m 2 #[.val (.int p1), .val (.int p2), .val (.long p3), .second, .val (.int p4), .unset, .unset, .unset, .unset, .unset] [(.int (1 : Int32)), (.int p1)]))
  refine Run.step (fun t_ k_ => XS.iand X0.here hx rfl (hb hby at_2) rfl k_) ?_
  show Run _ _ _ _ (s₁.setTop (mkF m 3 #[.val (.int p1), .val (.int p2), .val (.long p3), .second, .val (.int p4), .unset, .unset, .unset, .unset, .unset] [(.int (p1 &&& (1 : Int32)))]))
  by_cases c3 : (p1 &&& (1 : Int32)) = (0 : Int32)
  · skip
    refine Run.step (fun t_ k_ => XS.ifYes X0.here hx rfl (pc0 := 3) (pc' := 10) rfl (hb hby at_3) rfl (XT.i0_eq_t c3) (by decide) (by decide) k_) ?_
    show Run _ _ _ _ (s₁.setTop (mkF m 10 #[.val (.int p1), .val (.int p2), .val (.long p3), .second, .val (.int p4), .unset, .unset, .unset, .unset, .unset] []))
    refine Run.step (fun t_ k_ => XS.iconst X0.here hx rfl (hb hby at_10) k_) ?_
    show Run _ _ _ _ (s₁.setTop (mkF m 11 #[.val (.int p1), .val (.int p2), .val (.long p3), .second, .val (.int p4), .unset, .unset, .unset, .unset, .unset] [(.int (0 : Int32))]))
    refine Run.step (fun t_ k_ => XS.istore X0.here hx rfl (hb hby at_11) rfl (l' := #[.val (.int p1), .val (.int p2), .val (.long p3), .second, .val (.int p4), .val (.int (0 : Int32)), .unset, .unset, .unset, .unset]) rfl k_) ?_
    show Run _ _ _ _ (s₁.setTop (mkF m 13 #[.val (.int p1), .val (.int p2), .val (.long p3), .second, .val (.int p4), .val (.int (0 : Int32)), .unset, .unset, .unset, .unset] []))
    refine Run.step (fun t_ k_ => XS.iloadN X0.here hx rfl (hb hby at_13) rfl k_) ?_
    show Run _ _ _ _ (s₁.setTop (mkF m 14 #[.val (.int p1), .val (.int p2), .val (.long p3), .second, .val (.int p4), .val (.int (0 : Int32)), .unset, .unset, .unset, .unset] [(.int p2)]))
    refine Run.step (fun t_ k_ => XS.iconst X0.here hx rfl (hb hby at_14) k_) ?_
    show Run _ _ _ _ (s₁.setTop (mkF m 15 #[.val (.int p1), .val (.int p2), .val (.long p3), .second, .val (.int p4), .val (.int (0 : Int32)), .unset, .unset, .unset, .unset] [(.int (3 : Int32)), (.int p2)]))
    refine Run.step (fun t_ k_ => XS.iand X0.here hx rfl (hb hby at_15) rfl k_) ?_
    show Run _ _ _ _ (s₁.setTop (mkF m 16 #[.val (.int p1), .val (.int p2), .val (.long p3), .second, .val (.int p4), .val (.int (0 : Int32)), .unset, .unset, .unset, .unset] [(.int (p2 &&& (3 : Int32)))]))
    refine Run.step (fun t_ k_ => XS.istore X0.here hx rfl (hb hby at_16) rfl (l' := #[.val (.int p1), .val (.int p2), .val (.long p3), .second, .val (.int p4), .val (.int (0 : Int32)), .val (.int (p2 &&& (3 : Int32))), .unset, .unset, .unset]) rfl k_) ?_
    show Run _ _ _ _ (s₁.setTop (mkF m 18 #[.val (.int p1), .val (.int p2), .val (.long p3), .second, .val (.int p4), .val (.int (0 : Int32)), .val (.int (p2 &&& (3 : Int32))), .unset, .unset, .unset] []))
    refine Run.step (fun t_ k_ => XS.aconstNull X0.here hx rfl (hb hby at_18) k_) ?_
    show Run _ _ _ _ (s₁.setTop (mkF m 19 #[.val (.int p1), .val (.int p2), .val (.long p3), .second, .val (.int p4), .val (.int (0 : Int32)), .val (.int (p2 &&& (3 : Int32))), .unset, .unset, .unset] [.null]))
    refine Run.step (fun t_ k_ => XS.astore X0.here hx rfl (hb hby at_19) rfl rfl (l' := #[.val (.int p1), .val (.int p2), .val (.long p3), .second, .val (.int p4), .val (.int (0 : Int32)), .val (.int (p2 &&& (3 : Int32))), .val .null, .unset, .unset]) rfl k_) ?_
    show Run _ _ _ _ (s₁.setTop (mkF m 21 #[.val (.int p1), .val (.int p2), .val (.long p3), .second, .val (.int p4), .val (.int (0 : Int32)), .val (.int (p2 &&& (3 : Int32))), .val .null, .unset, .unset] []))
    refine Run.step (fun t_ k_ => XS.iload X0.here hx rfl (hb hby at_21) rfl k_) ?_
    show Run _ _ _ _ (s₁.setTop (mkF m 23 #[.val (.int p1), .val (.int p2), .val (.long p3), .second, .val (.int p4), .val (.int (0 : Int32)), .val (.int (p2 &&& (3 : Int32))), .val .null, .unset, .unset] [(.int (0 : Int32))]))
    refine Run.step (fun t_ k_ => XS.ifYes X0.here hx rfl (pc0 := 23) (pc' := 44) rfl (hb hby at_23) rfl (XT.i0_eq_t (by decide : (0 : Int32) = (0 : Int32))) (by decide) (by decide) k_) ?_
    show Run _ _ _ _ (s₁.setTop (mkF m 44 #[.val (.int p1), .val (.int p2), .val (.long p3), .second, .val (.int p4), .val (.int (0 : Int32)), .val (.int (p2 &&& (3 : Int32))), .val .null, .unset, .unset] []))
    obtain ⟨T21, h21, X21, e21, E21, A21, D21, -, st21⟩ := newO X0 hx hZ hown w0 w1 w2 e0 (g := (mkF m 44 #[.val (.int p1), .val (.int p2), .val (.long p3), .second, .val (.int p4), .val (.int (0 : Int32)), .val (.int (p2 &&& (3 : Int32))), .val .null, .unset, .unset] [])) rfl (hb hby at_44) (by decide) (by decide)
    obtain ⟨b21, g21⟩ : ∃ z, z = h0.size := ⟨_, rfl⟩
    rw [← g21] at A21 D21 st21
    refine Run.step st21 ?_
    have g_b21 : n0 ≤ b21 := Nat.le_trans Z0 (Nat.le_of_eq g21.symm)
    have z22 := Nat.le_trans Z0 E21.1
    have f23 : Fld Z h21 b21 "com/example/ringwell/ringwell/RingwellClient$Versioned" "value" "[B" .null := D21 (Or.inr w15) (ty := (.array .byte)) (by decide)
    have f24 : Fld Z h21 b21 "com/example/ringwell/ringwell/RingwellClient$Versioned" "version" "J" (.long (0 : Int64)) := D21 (Or.inr w17) (ty := .long) (by decide)
    show Run _ _ _ _ (T21.setTop (mkF m 47 #[.val (.int p1), .val (.int p2), .val (.long p3), .second, .val (.int p4), .val (.int (0 : Int32)), .val (.int (p2 &&& (3 : Int32))), .val .null, .unset, .unset] [(.ref b21)]))
    refine Run.step (fun t_ k_ => XS.dup X21.here hx rfl (hb hby at_47) rfl rfl k_) ?_
    show Run _ _ _ _ (T21.setTop (mkF m 48 #[.val (.int p1), .val (.int p2), .val (.long p3), .second, .val (.int p4), .val (.int (0 : Int32)), .val (.int (p2 &&& (3 : Int32))), .val .null, .unset, .unset] [(.ref b21), (.ref b21)]))
    refine Run.step (fun t_ k_ => XS.aload X21.here hx rfl (hb hby at_48) rfl rfl k_) ?_
    show Run _ _ _ _ (T21.setTop (mkF m 50 #[.val (.int p1), .val (.int p2), .val (.long p3), .second, .val (.int p4), .val (.int (0 : Int32)), .val (.int (p2 &&& (3 : Int32))), .val .null, .unset, .unset] [.null, (.ref b21), (.ref b21)]))
    refine Run.step (fun t_ k_ => XS.lloadN X21.here hx rfl (hb hby at_50) rfl k_) ?_
    show Run _ _ _ _ (T21.setTop (mkF m 51 #[.val (.int p1), .val (.int p2), .val (.long p3), .second, .val (.int p4), .val (.int (0 : Int32)), .val (.int (p2 &&& (3 : Int32))), .val .null, .unset, .unset] [(.long p3), .null, (.ref b21), (.ref b21)]))
    obtain ⟨_, _, ⟨T25, L25, k25, n25⟩, -, X25, ⟨Lc25, hQ25, l25, y25, z25⟩, st25⟩ := X21.specialBack hx (y := (⟨"com/example/ringwell/ringwell/RingwellClient$Versioned", "<init>", "([BJ)V"⟩ : MethodName)) rfl hown (mvT hZ w3) (mvT hZ w4) (mvT hZ w5) (by decide) (backOf (W := 1) (rm1 l Z a0 hw [] b21 .null p3 h21 n0 z22 (Or.inl rfl) f23 f24 A21 g_b21) hZ w5 w2 (by decide) (by decide)) (g := (mkF m 51 #[.val (.int p1), .val (.int p2), .val (.long p3), .second, .val (.int p4), .val (.int (0 : Int32)), .val (.int (p2 &&& (3 : Int32))), .val .null, .unset, .unset] [(.long p3), .null, (.ref b21), (.ref b21)])) rfl (by rw [hml]; rfl) (Steps.refl _) (a := b21) (argsL := [.null, (.long p3)]) (rest := [(.ref b21)]) (lenOf pd__28_5bBJ_29V rfl) rfl (by show 2 * 0 + _ ≤ _; exact Nat.le_of_eq rfl) (hb hby at_51) (fun _ _ => ⟨rfl, e21, (by decide : 1 + 0 ≤ _), (by decide : 2 + 0 ≤ _)⟩)
    dsimp only [Pt.U, Pt.locs, Pt.cells, Pt.slots] at X25 l25 y25 z25 st25 hQ25
    subst l25 y25 z25
    refine Run.step (fun t k => st25.trans k) ?_
    obtain ⟨rfl, N25q, K25q, fr25, ft25⟩ := hQ25
    have N25 := Fr.app N0 N25q
    have f26 := A21.keep K25q
    have z29 := Nat.le_trans z22 K25q.1
    show Run _ _ _ _ (T25.setTop (mkF m 54 #[.val (.int p1), .val (.int p2), .val (.long p3), .second, .val (.int p4), .val (.int (0 : Int32)), .val (.int (p2 &&& (3 : Int32))), .val .null, .unset, .unset] [(.ref b21)]))
    refine Run.step (fun t_ k_ => XS.astore X25.here hx rfl (hb hby at_54) rfl rfl (l' := #[.val (.int p1), .val (.int p2), .val (.long p3), .second, .val (.int p4), .val (.int (0 : Int32)), .val (.int (p2 &&& (3 : Int32))), .val .null, .val (.ref b21), .unset]) rfl k_) ?_
    show Run _ _ _ _ (T25.setTop (mkF m 56 #[.val (.int p1), .val (.int p2), .val (.long p3), .second, .val (.int p4), .val (.int (0 : Int32)), .val (.int (p2 &&& (3 : Int32))), .val .null, .val (.ref b21), .unset] []))
    refine Run.step (fun t_ k_ => XS.aload X25.here hx rfl (hb hby at_56) rfl rfl k_) ?_
    show Run _ _ _ _ (T25.setTop (mkF m 58 #[.val (.int p1), .val (.int p2), .val (.long p3), .second, .val (.int p4), .val (.int (0 : Int32)), .val (.int (p2 &&& (3 : Int32))), .val .null, .val (.ref b21), .unset] [(.ref b21)]))
    obtain ⟨cq30, kq30, q30a, q30b, q30c⟩ := isOf hZ rfl f26
    obtain ⟨_, _, ⟨T30, L30, k30, n30⟩, -, X30, ⟨Lc30, hQ30, l30, y30, z30⟩, st30⟩ := X25.virtualBack hx (y := (⟨"com/example/ringwell/ringwell/RingwellClient$Versioned", "exists", "()Z"⟩ : MethodName)) (z := (⟨"com/example/ringwell/ringwell/RingwellClient$Versioned", "exists", "()Z"⟩ : MethodName)) hown (mvT hZ w18) (mvT hZ w19) (notFace_of_selects (args := #[]) (mvT hZ w21)) (mvT hZ w21) (mvT hZ w20) (by decide) (backOf (W := 0) (rm4n l Z a0 hw [] b21 T25.heap n0 z29 fr25) hZ w22 w2 (by decide) (by decide)) q30a q30c (g := (mkF m 58 #[.val (.int p1), .val (.int p2), .val (.long p3), .second, .val (.int p4), .val (.int (0 : Int32)), .val (.int (p2 &&& (3 : Int32))), .val .null, .val (.ref b21), .unset] [(.ref b21)])) rfl (by rw [hml]; rfl) (Steps.refl _) (argsL := []) (rest := []) (lenOf pd__28_29Z rfl) rfl (by show 2 * 0 + _ ≤ _; exact Nat.le_of_eq rfl) (hb hby at_58) (fun _ _ => ⟨rfl, rfl, (by decide : 1 + 0 ≤ _), (by decide : 2 + 0 ≤ _)⟩)
    dsimp only [Pt.U, Pt.locs, Pt.cells, Pt.slots] at X30 l30 y30 z30 st30 hQ30
    subst l30 y30 z30
    refine Run.step (fun t k => st30.trans k) ?_
    obtain ⟨rfl, N30q, e30q⟩ := hQ30
    have N30 := Fr.app N25 N30q
    show Run _ _ _ _ (T30.setTop (mkF m 61 #[.val (.int p1), .val (.int p2), .val (.long p3), .second, .val (.int p4), .val (.int (0 : Int32)), .val (.int (p2 &&& (3 : Int32))), .val .null, .val (.ref b21), .unset] [(.int (0 : Int32))]))
    refine Run.step (fun t_ k_ => XS.istore X30.here hx rfl (hb hby at_61) rfl (l' := #[.val (.int p1), .val (.int p2), .val (.long p3), .second, .val (.int p4), .val (.int (0 : Int32)), .val (.int (p2 &&& (3 : Int32))), .val .null, .val (.ref b21), .val (.int (0 : Int32))]) rfl k_) ?_
    show Run _ _ _ _ (T30.setTop (mkF m 63 #[.val (.int p1), .val (.int p2), .val (.long p3), .second, .val (.int p4), .val (.int (0 : Int32)), .val (.int (p2 &&& (3 : Int32))), .val .null, .val (.ref b21), .val (.int (0 : Int32))] []))
    refine Run.step (fun t_ k_ => XS.iload X30.here hx rfl (hb hby at_63) rfl k_) ?_
    show Run _ _ _ _ (T30.setTop (mkF m 65 #[.val (.int p1), .val (.int p2), .val (.long p3), .second, .val (.int p4), .val (.int (0 : Int32)), .val (.int (p2 &&& (3 : Int32))), .val .null, .val (.ref b21), .val (.int (0 : Int32))] [(.int (0 : Int32))]))
    refine Run.step (fun t_ k_ => XS.iload X30.here hx rfl (hb hby at_65) rfl k_) ?_
    show Run _ _ _ _ (T30.setTop (mkF m 67 #[.val (.int p1), .val (.int p2), .val (.long p3), .second, .val (.int p4), .val (.int (0 : Int32)), .val (.int (p2 &&& (3 : Int32))), .val .null, .val (.ref b21), .val (.int (0 : Int32))] [(.int (0 : Int32)), (.int (0 : Int32))]))
    refine Run.step (fun t_ k_ => XS.icmpNo X30.here hx rfl (hb hby at_67) rfl (XT.ii_ne_f (by decide : (0 : Int32) = (0 : Int32))) k_) ?_
    show Run _ _ _ _ (T30.setTop (mkF m 70 #[.val (.int p1), .val (.int p2), .val (.long p3), .second, .val (.int p4), .val (.int (0 : Int32)), .val (.int (p2 &&& (3 : Int32))), .val .null, .val (.ref b21), .val (.int (0 : Int32))] []))
    refine Run.step (fun t_ k_ => XS.aload X30.here hx rfl (hb hby at_70) rfl rfl k_) ?_
    show Run _ _ _ _ (T30.setTop (mkF m 72 #[.val (.int p1), .val (.int p2), .val (.long p3), .second, .val (.int p4), .val (.int (0 : Int32)), .val (.int (p2 &&& (3 : Int32))), .val .null, .val (.ref b21), .val (.int (0 : Int32))] [(.ref b21)]))
    obtain ⟨cq31, kq31, q31a, q31b, q31c⟩ := isOf hZ e30q f26
    obtain ⟨_, _, ⟨T31, L31, k31, n31⟩, -, X31, ⟨Lc31, hQ31, l31, y31, z31⟩, st31⟩ := X30.virtualBack hx (y := (⟨"com/example/ringwell/ringwell/RingwellClient$Versioned", "version", "()J"⟩ : MethodName)) (z := (⟨"com/example/ringwell/ringwell/RingwellClient$Versioned", "version", "()J"⟩ : MethodName)) hown (mvT hZ w23) (mvT hZ w24) (notFace_of_selects (args := #[]) (mvT hZ w26)) (mvT hZ w26) (mvT hZ w25) (by decide) (backOf (W := 0) (rm5 l Z a0 hw [] b21 p3 T25.heap n0 z29 ft25) hZ w27 w2 (by decide) (by decide)) q31a q31c (g := (mkF m 72 #[.val (.int p1), .val (.int p2), .val (.long p3), .second, .val (.int p4), .val (.int (0 : Int32)), .val (.int (p2 &&& (3 : Int32))), .val .null, .val (.ref b21), .val (.int (0 : Int32))] [(.ref b21)])) rfl (by rw [hml]; rfl) (Steps.refl _) (argsL := []) (rest := []) (lenOf pd__28_29J rfl) rfl (by show 2 * 0 + _ ≤ _; exact Nat.le_of_eq rfl) (hb hby at_72) (fun _ _ => ⟨rfl, e30q, (by decide : 1 + 0 ≤ _), (by decide : 2 + 0 ≤ _)⟩)
    dsimp only [Pt.U, Pt.locs, Pt.cells, Pt.slots] at X31 l31 y31 z31 st31 hQ31
    subst l31 y31 z31
    refine Run.step (fun t k => st31.trans k) ?_
    obtain ⟨rfl, N31q, e31q⟩ := hQ31
    have N31 := Fr.app N30 N31q
    show Run _ _ _ _ (T31.setTop (mkF m 75 #[.val (.int p1), .val (.int p2), .val (.long p3), .second, .val (.int p4), .val (.int (0 : Int32)), .val (.int (p2 &&& (3 : Int32))), .val .null, .val (.ref b21), .val (.int (0 : Int32))] [(.long p3)]))
    refine Run.step (fun t_ k_ => XS.lloadN X31.here hx rfl (hb hby at_75) rfl k_) ?_
    show Run _ _ _ _ (T31.setTop (mkF m 76 #[.val (.int p1), .val (.int p2), .val (.long p3), .second, .val (.int p4), .val (.int (0 : Int32)), .val (.int (p2 &&& (3 : Int32))), .val .null, .val (.ref b21), .val (.int (0 : Int32))] [(.long p3), (.long p3)]))
    refine Run.step (fun t_ k_ => XS.lcmp X31.here hx rfl (hb hby at_76) rfl k_) ?_
    show Run _ _ _ _ (T31.setTop (mkF m 77 #[.val (.int p1), .val (.int p2), .val (.long p3), .second, .val (.int p4), .val (.int (0 : Int32)), .val (.int (p2 &&& (3 : Int32))), .val .null, .val (.ref b21), .val (.int (0 : Int32))] [(.int (lcmpW p3 p3))]))
    refine Run.step (fun t_ k_ => XS.ifNo X31.here hx rfl (hb hby at_77) rfl (XT.ll_ne_f (rfl : p3 = p3)) k_) ?_
    show Run _ _ _ _ (T31.setTop (mkF m 80 #[.val (.int p1), .val (.int p2), .val (.long p3), .second, .val (.int p4), .val (.int (0 : Int32)), .val (.int (p2 &&& (3 : Int32))), .val .null, .val (.ref b21), .val (.int (0 : Int32))] []))
    refine Run.step (fun t_ k_ => XS.aload X31.here hx rfl (hb hby at_80) rfl rfl k_) ?_
    show Run _ _ _ _ (T31.setTop (mkF m 82 #[.val (.int p1), .val (.int p2), .val (.long p3), .second, .val (.int p4), .val (.int (0 : Int32)), .val (.int (p2 &&& (3 : Int32))), .val .null, .val (.ref b21), .val (.int (0 : Int32))] [(.ref b21)]))
    obtain ⟨cq32, kq32, q32a, q32b, q32c⟩ := isOf hZ e31q f26
    obtain ⟨_, _, ⟨T32, L32, k32, n32⟩, -, X32, ⟨Lc32, hQ32, l32, y32, z32⟩, st32⟩ := X31.virtualBack hx (y := (⟨"com/example/ringwell/ringwell/RingwellClient$Versioned", "value", "()[B"⟩ : MethodName)) (z := (⟨"com/example/ringwell/ringwell/RingwellClient$Versioned", "value", "()[B"⟩ : MethodName)) hown (mvT hZ w28) (mvT hZ w29) (notFace_of_selects (args := #[]) (mvT hZ w31)) (mvT hZ w31) (mvT hZ w30) (by decide) (backOf (W := 0) (rm6 l Z a0 hw [] b21 .null T25.heap n0 z29 (Or.inl rfl) fr25) hZ w32 w2 (by decide) (by decide)) q32a q32c (g := (mkF m 82 #[.val (.int p1), .val (.int p2), .val (.long p3), .second, .val (.int p4), .val (.int (0 : Int32)), .val (.int (p2 &&& (3 : Int32))), .val .null, .val (.ref b21), .val (.int (0 : Int32))] [(.ref b21)])) rfl (by rw [hml]; rfl) (Steps.refl _) (argsL := []) (rest := []) (lenOf pd__28_29_5bB rfl) rfl (by show 2 * 0 + _ ≤ _; exact Nat.le_of_eq rfl) (hb hby at_82) (fun _ _ => ⟨rfl, e31q, (by decide : 1 + 0 ≤ _), (by decide : 2 + 0 ≤ _)⟩)
    dsimp only [Pt.U, Pt.locs, Pt.cells, Pt.slots] at X32 l32 y32 z32 st32 hQ32
    subst l32 y32 z32
    refine Run.step (fun t k => st32.trans k) ?_
    obtain ⟨rfl, N32q, e32q⟩ := hQ32
    have N32 := Fr.app N31 N32q
    show Run _ _ _ _ (T32.setTop (mkF m 85 #[.val (.int p1), .val (.int p2), .val (.long p3), .second, .val (.int p4), .val (.int (0 : Int32)), .val (.int (p2 &&& (3 : Int32))), .val .null, .val (.ref b21), .val (.int (0 : Int32))] [.null]))
    refine Run.step (fun t_ k_ => XS.aload X32.here hx rfl (hb hby at_85) rfl rfl k_) ?_
    show Run _ _ _ _ (T32.setTop (mkF m 87 #[.val (.int p1), .val (.int p2), .val (.long p3), .second, .val (.int p4), .val (.int (0 : Int32)), .val (.int (p2 &&& (3 : Int32))), .val .null, .val (.ref b21), .val (.int (0 : Int32))] [.null, .null]))
    refine Run.step (fun t_ k_ => Jvm.RoadKit.acmp (g := (mkF m 87 #[.val (.int p1), .val (.int p2), .val (.long p3), .second, .val (.int p4), .val (.int (0 : Int32)), .val (.int (p2 &&& (3 : Int32))), .val .null, .val (.ref b21), .val (.int (0 : Int32))] [.null, .null])) X32 hx rfl rfl rfl (pc0 := 87) (pc' := 90) (same := true) rfl (hb hby at_87) rfl (decide_eq_true rfl) (by decide) (by decide) k_) ?_
    show Run _ _ _ _ (T32.setTop (mkF m 90 #[.val (.int p1), .val (.int p2), .val (.long p3), .second, .val (.int p4), .val (.int (0 : Int32)), .val (.int (p2 &&& (3 : Int32))), .val .null, .val (.ref b21), .val (.int (0 : Int32))] []))
    refine Run.step (fun t_ k_ => XS.iconst X32.here hx rfl (hb hby at_90) k_) ?_
    show Run _ _ _ _ (T32.setTop (mkF m 91 #[.val (.int p1), .val (.int p2), .val (.long p3), .second, .val (.int p4), .val (.int (0 : Int32)), .val (.int (p2 &&& (3 : Int32))), .val .null, .val (.ref b21), .val (.int (0 : Int32))] [(.int (1 : Int32))]))
    refine Run.step (fun t_ k_ => XS.goto X32.here hx rfl (pc0 := 91) (pc' := 95) rfl (hb hby at_91) (by decide) (by decide) k_) ?_
    show Run _ _ _ _ (T32.setTop (mkF m 95 #[.val (.int p1), .val (.int p2), .val (.long p3), .second, .val (.int p4), .val (.int (0 : Int32)), .val (.int (p2 &&& (3 : Int32))), .val .null, .val (.ref b21), .val (.int (0 : Int32))] [(.int (1 : Int32))]))
    exact finZ X32 hx (BodyLoose.notSynchronized Bd) Bd.returns (hb hby at_95) (by decide) (by decide) (by decide) e32q ⟨rfl, N32⟩
  · skip
    refine Run.step (fun t_ k_ => XS.ifNo X0.here hx rfl (hb hby at_3) rfl (XT.i0_eq_f c3) k_) ?_
    show Run _ _ _ _ (s₁.setTop (mkF m 6 #[.val (.int p1), .val (.int p2), .val (.long p3), .second, .val (.int p4), .unset, .unset, .unset, .unset, .unset] []))
    refine Run.step (fun t_ k_ => XS.iconst X0.here hx rfl (hb hby at_6) k_) ?_
    show Run _ _ _ _ (s₁.setTop (mkF m 7 #[.val (.int p1), .val (.int p2), .val (.long p3), .second, .val (.int p4), .unset, .unset, .unset, .unset, .unset] [(.int (1 : Int32))]))
    refine Run.step (fun t_ k_ => XS.goto X0.here hx rfl (pc0 := 7) (pc' := 11) rfl (hb hby at_7) (by decide) (by decide) k_) ?_
    show Run _ _ _ _ (s₁.setTop (mkF m 11 #[.val (.int p1), .val (.int p2), .val (.long p3), .second, .val (.int p4), .unset, .unset, .unset, .unset, .unset] [(.int (1 : Int32))]))
    refine Run.step (fun t_ k_ => XS.istore X0.here hx rfl (hb hby at_11) rfl (l' := #[.val (.int p1), .val (.int p2), .val (.long p3), .second, .val (.int p4), .val (.int (1 : Int32)), .unset, .unset, .unset, .unset]) rfl k_) ?_
    show Run _ _ _ _ (s₁.setTop (mkF m 13 #[.val (.int p1), .val (.int p2), .val (.long p3), .second, .val (.int p4), .val (.int (1 : Int32)), .unset, .unset, .unset, .unset] []))
    refine Run.step (fun t_ k_ => XS.iloadN X0.here hx rfl (hb hby at_13) rfl k_) ?_
    show Run _ _ _ _ (s₁.setTop (mkF m 14 #[.val (.int p1), .val (.int p2), .val (.long p3), .second, .val (.int p4), .val (.int (1 : Int32)), .unset, .unset, .unset, .unset] [(.int p2)]))
    refine Run.step (fun t_ k_ => XS.iconst X0.here hx rfl (hb hby at_14) k_) ?_
    show Run _ _ _ _ (s₁.setTop (mkF m 15 #[.val (.int p1), .val (.int p2), .val (.long p3), .second, .val (.int p4), .val (.int (1 : Int32)), .unset, .unset, .unset, .unset] [(.int (3 : Int32)), (.int p2)]))
    refine Run.step (fun t_ k_ => XS.iand X0.here hx rfl (hb hby at_15) rfl k_) ?_
    show Run _ _ _ _ (s₁.setTop (mkF m 16 #[.val (.int p1), .val (.int p2), .val (.long p3), .second, .val (.int p4), .val (.int (1 : Int32)), .unset, .unset, .unset, .unset] [(.int (p2 &&& (3 : Int32)))]))
    refine Run.step (fun t_ k_ => XS.istore X0.here hx rfl (hb hby at_16) rfl (l' := #[.val (.int p1), .val (.int p2), .val (.long p3), .second, .val (.int p4), .val (.int (1 : Int32)), .val (.int (p2 &&& (3 : Int32))), .unset, .unset, .unset]) rfl k_) ?_
    show Run _ _ _ _ (s₁.setTop (mkF m 18 #[.val (.int p1), .val (.int p2), .val (.long p3), .second, .val (.int p4), .val (.int (1 : Int32)), .val (.int (p2 &&& (3 : Int32))), .unset, .unset, .unset] []))
    refine Run.step (fun t_ k_ => XS.aconstNull X0.here hx rfl (hb hby at_18) k_) ?_
    show Run _ _ _ _ (s₁.setTop (mkF m 19 #[.val (.int p1), .val (.int p2), .val (.long p3), .second, .val (.int p4), .val (.int (1 : Int32)), .val (.int (p2 &&& (3 : Int32))), .unset, .unset, .unset] [.null]))
    refine Run.step (fun t_ k_ => XS.astore X0.here hx rfl (hb hby at_19) rfl rfl (l' := #[.val (.int p1), .val (.int p2), .val (.long p3), .second, .val (.int p4), .val (.int (1 : Int32)), .val (.int (p2 &&& (3 : Int32))), .val .null, .unset, .unset]) rfl k_) ?_
    show Run _ _ _ _ (s₁.setTop (mkF m 21 #[.val (.int p1), .val (.int p2), .val (.long p3), .second, .val (.int p4), .val (.int (1 : Int32)), .val (.int (p2 &&& (3 : Int32))), .val .null, .unset, .unset] []))
    refine Run.step (fun t_ k_ => XS.iload X0.here hx rfl (hb hby at_21) rfl k_) ?_
    show Run _ _ _ _ (s₁.setTop (mkF m 23 #[.val (.int p1), .val (.int p2), .val (.long p3), .second, .val (.int p4), .val (.int (1 : Int32)), .val (.int (p2 &&& (3 : Int32))), .val .null, .unset, .unset] [(.int (1 : Int32))]))
    refine Run.step (fun t_ k_ => XS.ifNo X0.here hx rfl (hb hby at_23) rfl (XT.i0_eq_f (by decide : ¬ ((1 : Int32) = (0 : Int32)))) k_) ?_
    show Run _ _ _ _ (s₁.setTop (mkF m 26 #[.val (.int p1), .val (.int p2), .val (.long p3), .second, .val (.int p4), .val (.int (1 : Int32)), .val (.int (p2 &&& (3 : Int32))), .val .null, .unset, .unset] []))
    refine Run.step (fun t_ k_ => XS.iload X0.here hx rfl (hb hby at_26) rfl k_) ?_
    show Run _ _ _ _ (s₁.setTop (mkF m 28 #[.val (.int p1), .val (.int p2), .val (.long p3), .second, .val (.int p4), .val (.int (1 : Int32)), .val (.int (p2 &&& (3 : Int32))), .val .null, .unset, .unset] [(.int (p2 &&& (3 : Int32)))]))
    obtain ⟨T33, h33, k33, X33, e33, E33, A33, st33⟩ := newP (aty := .byte) X0 hx hZ w33 e0 (g := (mkF m 28 #[.val (.int p1), .val (.int p2), .val (.long p3), .second, .val (.int p4), .val (.int (1 : Int32)), .val (.int (p2 &&& (3 : Int32))), .val .null, .unset, .unset] [(.int (p2 &&& (3 : Int32)))])) rfl (hb hby at_28) rfl (own_and3 p2).1 (cap := 3) (own_and3 p2).2 (by decide) (by decide) (by decide)
    obtain ⟨b33, g33⟩ : ∃ z, z = h0.size := ⟨_, rfl⟩
    rw [← g33] at A33 st33
    refine Run.step st33 ?_
    have g_b33 : n0 ≤ b33 := Nat.le_trans Z0 (Nat.le_of_eq g33.symm)
    have z34 := Nat.le_trans Z0 E33.1
    have f35 : Arv Z h33 b33 k33 .byte (p2 &&& (3 : Int32)) [] (.int (0 : Int32)) := Arv.pad (Arv.new A33 (own_and3 p2).1) (pad_rep [] (.int (0 : Int32)) 0)
    show Run _ _ _ _ (T33.setTop (mkF m 30 #[.val (.int p1), .val (.int p2), .val (.long p3), .second, .val (.int p4), .val (.int (1 : Int32)), .val (.int (p2 &&& (3 : Int32))), .val .null, .unset, .unset] [(.ref b33)]))
    refine Run.step (fun t_ k_ => XS.astore X33.here hx rfl (hb hby at_30) rfl rfl (l' := #[.val (.int p1), .val (.int p2), .val (.long p3), .second, .val (.int p4), .val (.int (1 : Int32)), .val (.int (p2 &&& (3 : Int32))), .val (.ref b33), .unset, .unset]) rfl k_) ?_
    show Run _ _ _ _ (T33.setTop (mkF m 32 #[.val (.int p1), .val (.int p2), .val (.long p3), .second, .val (.int p4), .val (.int (1 : Int32)), .val (.int (p2 &&& (3 : Int32))), .val (.ref b33), .unset, .unset] []))
    refine Run.step (fun t_ k_ => XS.iload X33.here hx rfl (hb hby at_32) rfl k_) ?_
    show Run _ _ _ _ (T33.setTop (mkF m 34 #[.val (.int p1), .val (.int p2), .val (.long p3), .second, .val (.int p4), .val (.int (1 : Int32)), .val (.int (p2 &&& (3 : Int32))), .val (.ref b33), .unset, .unset] [(.int (p2 &&& (3 : Int32)))]))
    by_cases c34 : (0 : Int32) < (p2 &&& (3 : Int32))
    · skip
      refine Run.step (fun t_ k_ => XS.ifNo X33.here hx rfl (hb hby at_34) rfl (XT.i0_le_f c34) k_) ?_
      show Run _ _ _ _ (T33.setTop (mkF m 37 #[.val (.int p1), .val (.int p2), .val (.long p3), .second, .val (.int p4), .val (.int (1 : Int32)), .val (.int (p2 &&& (3 : Int32))), .val (.ref b33), .unset, .unset] []))
      refine Run.step (fun t_ k_ => XS.aload X33.here hx rfl (hb hby at_37) rfl rfl k_) ?_
      show Run _ _ _ _ (T33.setTop (mkF m 39 #[.val (.int p1), .val (.int p2), .val (.long p3), .second, .val (.int p4), .val (.int (1 : Int32)), .val (.int (p2 &&& (3 : Int32))), .val (.ref b33), .unset, .unset] [(.ref b33)]))
      refine Run.step (fun t_ k_ => XS.iconst X33.here hx rfl (hb hby at_39) k_) ?_
      show Run _ _ _ _ (T33.setTop (mkF m 40 #[.val (.int p1), .val (.int p2), .val (.long p3), .second, .val (.int p4), .val (.int (1 : Int32)), .val (.int (p2 &&& (3 : Int32))), .val (.ref b33), .unset, .unset] [(.int (0 : Int32)), (.ref b33)]))
      refine Run.step (fun t_ k_ => XS.iload X33.here hx rfl (hb hby at_40) rfl k_) ?_
      show Run _ _ _ _ (T33.setTop (mkF m 42 #[.val (.int p1), .val (.int p2), .val (.long p3), .second, .val (.int p4), .val (.int (1 : Int32)), .val (.int (p2 &&& (3 : Int32))), .val (.ref b33), .unset, .unset] [(.int p4), (.int (0 : Int32)), (.ref b33)]))
      refine Run.step (fun t_ k_ => XS.i2b X33.here hx rfl (hb hby at_42) rfl k_) ?_
      show Run _ _ _ _ (T33.setTop (mkF m 43 #[.val (.int p1), .val (.int p2), .val (.long p3), .second, .val (.int p4), .val (.int (1 : Int32)), .val (.int (p2 &&& (3 : Int32))), .val (.ref b33), .unset, .unset] [(.int (p4.toInt8.toInt32)), (.int (0 : Int32)), (.ref b33)]))
      obtain ⟨cl36, Ar36, q36, S36, M36, H36, U36⟩ := f35
      have hin37 : ¬ ((0 : Int32) < 0 ∨ cl36.slots.size ≤ ((0 : Int32)).toNatClampNeg) := inb_of S36 ⟨by decide, c34⟩
      obtain ⟨T37, h37, X37, e37, W37, st37⟩ := stB X33 hx hZ e33 Ar36 (j := (0 : Int32)) hin37 (g := (mkF m 43 #[.val (.int p1), .val (.int p2), .val (.long p3), .second, .val (.int p4), .val (.int (1 : Int32)), .val (.int (p2 &&& (3 : Int32))), .val (.ref b33), .unset, .unset] [(.int (p4.toInt8.toInt32)), (.int (0 : Int32)), (.ref b33)])) rfl rfl (hb hby at_43)
      refine Run.step st37 ?_
      have z40 := Nat.le_trans z34 (Keep.of_wr W37).1
      have N41 := Fr.snoc X37 N0 g_b33
      show Run _ _ _ _ (T37.setTop (mkF m 44 #[.val (.int p1), .val (.int p2), .val (.long p3), .second, .val (.int p4), .val (.int (1 : Int32)), .val (.int (p2 &&& (3 : Int32))), .val (.ref b33), .unset, .unset] []))
      obtain ⟨T42, h42, X42, e42, E42, A42, D42, -, st42⟩ := newO X37 hx hZ hown w0 w1 w2 e37 (g := (mkF m 44 #[.val (.int p1), .val (.int p2), .val (.long p3), .second, .val (.int p4), .val (.int (1 : Int32)), .val (.int (p2 &&& (3 : Int32))), .val (.ref b33), .unset, .unset] [])) rfl (hb hby at_44) (by decide) (by decide)
      obtain ⟨b42, g42⟩ : ∃ z, z = h37.size := ⟨_, rfl⟩
      rw [← g42] at A42 D42 st42
      refine Run.step st42 ?_
      have g_b42 : n0 ≤ b42 := Nat.le_trans z40 (Nat.le_of_eq g42.symm)
      have z43 := Nat.le_trans z40 E42.1
      have f44 : Fld Z h42 b42 "com/example/ringwell/ringwell/RingwellClient$Versioned" "value" "[B" .null := D42 (Or.inr w15) (ty := (.array .byte)) (by decide)
      have f45 : Fld Z h42 b42 "com/example/ringwell/ringwell/RingwellClient$Versioned" "version" "J" (.long (0 : Int64)) := D42 (Or.inr w17) (ty := .long) (by decide)
      show Run _ _ _ _ (T42.setTop (mkF m 47 #[.val (.int p1), .val (.int p2), .val (.long p3), .second, .val (.int p4), .val (.int (1 : Int32)), .val (.int (p2 &&& (3 : Int32))), .val (.ref b33), .unset, .unset] [(.ref b42)]))
      refine Run.step (fun t_ k_ => XS.dup X42.here hx rfl (hb hby at_47) rfl rfl k_) ?_
      show Run _ _ _ _ (T42.setTop (mkF m 48 #[.val (.int p1), .val (.int p2), .val (.long p3), .second, .val (.int p4), .val (.int (1 : Int32)), .val (.int (p2 &&& (3 : Int32))), .val (.ref b33), .unset, .unset] [(.ref b42), (.ref b42)]))
      refine Run.step (fun t_ k_ => XS.aload X42.here hx rfl (hb hby at_48) rfl rfl k_) ?_
      show Run _ _ _ _ (T42.setTop (mkF m 50 #[.val (.int p1), .val (.int p2), .val (.long p3), .second, .val (.int p4), .val (.int (1 : Int32)), .val (.int (p2 &&& (3 : Int32))), .val (.ref b33), .unset, .unset] [(.ref b33), (.ref b42), (.ref b42)]))
      refine Run.step (fun t_ k_ => XS.lloadN X42.here hx rfl (hb hby at_50) rfl k_) ?_
      show Run _ _ _ _ (T42.setTop (mkF m 51 #[.val (.int p1), .val (.int p2), .val (.long p3), .second, .val (.int p4), .val (.int (1 : Int32)), .val (.int (p2 &&& (3 : Int32))), .val (.ref b33), .unset, .unset] [(.long p3), (.ref b33), (.ref b42), (.ref b42)]))
      obtain ⟨_, _, ⟨T46, L46, k46, n46⟩, -, X46, ⟨Lc46, hQ46, l46, y46, z46⟩, st46⟩ := X42.specialBack hx (y := (⟨"com/example/ringwell/ringwell/RingwellClient$Versioned", "<init>", "([BJ)V"⟩ : MethodName)) rfl hown (mvT hZ w3) (mvT hZ w4) (mvT hZ w5) (by decide) (backOf (W := 1) (rm1 l Z a0 hw [] b42 (.ref b33) p3 h42 n0 z43 (Or.inr ⟨_, rfl⟩) f44 f45 A42 g_b42) hZ w5 w2 (by decide) (by decide)) (g := (mkF m 51 #[.val (.int p1), .val (.int p2), .val (.long p3), .second, .val (.int p4), .val (.int (1 : Int32)), .val (.int (p2 &&& (3 : Int32))), .val (.ref b33), .unset, .unset] [(.long p3), (.ref b33), (.ref b42), (.ref b42)])) rfl (by rw [hml]; rfl) (Steps.refl _) (a := b42) (argsL := [(.ref b33), (.long p3)]) (rest := [(.ref b42)]) (lenOf pd__28_5bBJ_29V rfl) rfl (by show 2 * 0 + _ ≤ _; exact Nat.le_of_eq rfl) (hb hby at_51) (fun _ _ => ⟨rfl, e42, (by decide : 2 + 0 ≤ _), (by decide : 5 + 0 ≤ _)⟩)
      dsimp only [Pt.U, Pt.locs, Pt.cells, Pt.slots] at X46 l46 y46 z46 st46 hQ46
      subst l46 y46 z46
      refine Run.step (fun t k => st46.trans k) ?_
      obtain ⟨rfl, N46q, K46q, fr46, ft46⟩ := hQ46
      have N46 := Fr.app N41 N46q
      have f47 := A42.keep K46q
      have z50 := Nat.le_trans z43 K46q.1
      show Run _ _ _ _ (T46.setTop (mkF m 54 #[.val (.int p1), .val (.int p2), .val (.long p3), .second, .val (.int p4), .val (.int (1 : Int32)), .val (.int (p2 &&& (3 : Int32))), .val (.ref b33), .unset, .unset] [(.ref b42)]))
      refine Run.step (fun t_ k_ => XS.astore X46.here hx rfl (hb hby at_54) rfl rfl (l' := #[.val (.int p1), .val (.int p2), .val (.long p3), .second, .val (.int p4), .val (.int (1 : Int32)), .val (.int (p2 &&& (3 : Int32))), .val (.ref b33), .val (.ref b42), .unset]) rfl k_) ?_
      show Run _ _ _ _ (T46.setTop (mkF m 56 #[.val (.int p1), .val (.int p2), .val (.long p3), .second, .val (.int p4), .val (.int (1 : Int32)), .val (.int (p2 &&& (3 : Int32))), .val (.ref b33), .val (.ref b42), .unset] []))
      refine Run.step (fun t_ k_ => XS.aload X46.here hx rfl (hb hby at_56) rfl rfl k_) ?_
      show Run _ _ _ _ (T46.setTop (mkF m 58 #[.val (.int p1), .val (.int p2), .val (.long p3), .second, .val (.int p4), .val (.int (1 : Int32)), .val (.int (p2 &&& (3 : Int32))), .val (.ref b33), .val (.ref b42), .unset] [(.ref b42)]))
      obtain ⟨cq51, kq51, q51a, q51b, q51c⟩ := isOf hZ rfl f47
      obtain ⟨_, _, ⟨T51, L51, k51, n51⟩, -, X51, ⟨Lc51, hQ51, l51, y51, z51⟩, st51⟩ := X46.virtualBack hx (y := (⟨"com/example/ringwell/ringwell/RingwellClient$Versioned", "exists", "()Z"⟩ : MethodName)) (z := (⟨"com/example/ringwell/ringwell/RingwellClient$Versioned", "exists", "()Z"⟩ : MethodName)) hown (mvT hZ w18) (mvT hZ w19) (notFace_of_selects (args := #[]) (mvT hZ w21)) (mvT hZ w21) (mvT hZ w20) (by decide) (backOf (W := 0) (rm4r l Z a0 hw [] b42 b33 T46.heap n0 z50 fr46) hZ w22 w2 (by decide) (by decide)) q51a q51c (g := (mkF m 58 #[.val (.int p1), .val (.int p2), .val (.long p3), .second, .val (.int p4), .val (.int (1 : Int32)), .val (.int (p2 &&& (3 : Int32))), .val (.ref b33), .val (.ref b42), .unset] [(.ref b42)])) rfl (by rw [hml]; rfl) (Steps.refl _) (argsL := []) (rest := []) (lenOf pd__28_29Z rfl) rfl (by show 2 * 0 + _ ≤ _; exact Nat.le_of_eq rfl) (hb hby at_58) (fun _ _ => ⟨rfl, rfl, (by decide : 2 + 0 ≤ _), (by decide : 5 + 0 ≤ _)⟩)
      dsimp only [Pt.U, Pt.locs, Pt.cells, Pt.slots] at X51 l51 y51 z51 st51 hQ51
      subst l51 y51 z51
      refine Run.step (fun t k => st51.trans k) ?_
      obtain ⟨rfl, N51q, e51q⟩ := hQ51
      have N51 := Fr.app N46 N51q
      show Run _ _ _ _ (T51.setTop (mkF m 61 #[.val (.int p1), .val (.int p2), .val (.long p3), .second, .val (.int p4), .val (.int (1 : Int32)), .val (.int (p2 &&& (3 : Int32))), .val (.ref b33), .val (.ref b42), .unset] [(.int (1 : Int32))]))
      refine Run.step (fun t_ k_ => XS.istore X51.here hx rfl (hb hby at_61) rfl (l' := #[.val (.int p1), .val (.int p2), .val (.long p3), .second, .val (.int p4), .val (.int (1 : Int32)), .val (.int (p2 &&& (3 : Int32))), .val (.ref b33), .val (.ref b42), .val (.int (1 : Int32))]) rfl k_) ?_
      show Run _ _ _ _ (T51.setTop (mkF m 63 #[.val (.int p1), .val (.int p2), .val (.long p3), .second, .val (.int p4), .val (.int (1 : Int32)), .val (.int (p2 &&& (3 : Int32))), .val (.ref b33), .val (.ref b42), .val (.int (1 : Int32))] []))
      refine Run.step (fun t_ k_ => XS.iload X51.here hx rfl (hb hby at_63) rfl k_) ?_
      show Run _ _ _ _ (T51.setTop (mkF m 65 #[.val (.int p1), .val (.int p2), .val (.long p3), .second, .val (.int p4), .val (.int (1 : Int32)), .val (.int (p2 &&& (3 : Int32))), .val (.ref b33), .val (.ref b42), .val (.int (1 : Int32))] [(.int (1 : Int32))]))
      refine Run.step (fun t_ k_ => XS.iload X51.here hx rfl (hb hby at_65) rfl k_) ?_
      show Run _ _ _ _ (T51.setTop (mkF m 67 #[.val (.int p1), .val (.int p2), .val (.long p3), .second, .val (.int p4), .val (.int (1 : Int32)), .val (.int (p2 &&& (3 : Int32))), .val (.ref b33), .val (.ref b42), .val (.int (1 : Int32))] [(.int (1 : Int32)), (.int (1 : Int32))]))
      refine Run.step (fun t_ k_ => XS.icmpNo X51.here hx rfl (hb hby at_67) rfl (XT.ii_ne_f (by decide : (1 : Int32) = (1 : Int32))) k_) ?_
      show Run _ _ _ _ (T51.setTop (mkF m 70 #[.val (.int p1), .val (.int p2), .val (.long p3), .second, .val (.int p4), .val (.int (1 : Int32)), .val (.int (p2 &&& (3 : Int32))), .val (.ref b33), .val (.ref b42), .val (.int (1 : Int32))] []))
      refine Run.step (fun t_ k_ => XS.aload X51.here hx rfl (hb hby at_70) rfl rfl k_) ?_
      show Run _ _ _ _ (T51.setTop (mkF m 72 #[.val (.int p1), .val (.int p2), .val (.long p3), .second, .val (.int p4), .val (.int (1 : Int32)), .val (.int (p2 &&& (3 : Int32))), .val (.ref b33), .val (.ref b42), .val (.int (1 : Int32))] [(.ref b42)]))
      obtain ⟨cq52, kq52, q52a, q52b, q52c⟩ := isOf hZ e51q f47
      obtain ⟨_, _, ⟨T52, L52, k52, n52⟩, -, X52, ⟨Lc52, hQ52, l52, y52, z52⟩, st52⟩ := X51.virtualBack hx (y := (⟨"com/example/ringwell/ringwell/RingwellClient$Versioned", "version", "()J"⟩ : MethodName)) (z := (⟨"com/example/ringwell/ringwell/RingwellClient$Versioned", "version", "()J"⟩ : MethodName)) hown (mvT hZ w23) (mvT hZ w24) (notFace_of_selects (args := #[]) (mvT hZ w26)) (mvT hZ w26) (mvT hZ w25) (by decide) (backOf (W := 0) (rm5 l Z a0 hw [] b42 p3 T46.heap n0 z50 ft46) hZ w27 w2 (by decide) (by decide)) q52a q52c (g := (mkF m 72 #[.val (.int p1), .val (.int p2), .val (.long p3), .second, .val (.int p4), .val (.int (1 : Int32)), .val (.int (p2 &&& (3 : Int32))), .val (.ref b33), .val (.ref b42), .val (.int (1 : Int32))] [(.ref b42)])) rfl (by rw [hml]; rfl) (Steps.refl _) (argsL := []) (rest := []) (lenOf pd__28_29J rfl) rfl (by show 2 * 0 + _ ≤ _; exact Nat.le_of_eq rfl) (hb hby at_72) (fun _ _ => ⟨rfl, e51q, (by decide : 2 + 0 ≤ _), (by decide : 5 + 0 ≤ _)⟩)
      dsimp only [Pt.U, Pt.locs, Pt.cells, Pt.slots] at X52 l52 y52 z52 st52 hQ52
      subst l52 y52 z52
      refine Run.step (fun t k => st52.trans k) ?_
      obtain ⟨rfl, N52q, e52q⟩ := hQ52
      have N52 := Fr.app N51 N52q
      show Run _ _ _ _ (T52.setTop (mkF m 75 #[.val (.int p1), .val (.int p2), .val (.long p3), .second, .val (.int p4), .val (.int (1 : Int32)), .val (.int (p2 &&& (3 : Int32))), .val (.ref b33), .val (.ref b42), .val (.int (1 : Int32))] [(.long p3)]))
      refine Run.step (fun t_ k_ => XS.lloadN X52.here hx rfl (hb hby at_75) rfl k_) ?_
      show Run _ _ _ _ (T52.setTop (mkF m 76 #[.val (.int p1), .val (.int p2), .val (.long p3), .second, .val (.int p4), .val (.int (1 : Int32)), .val (.int (p2 &&& (3 : Int32))), .val (.ref b33), .val (.ref b42), .val (.int (1 : Int32))] [(.long p3), (.long p3)]))
      refine Run.step (fun t_ k_ => XS.lcmp X52.here hx rfl (hb hby at_76) rfl k_) ?_
      show Run _ _ _ _ (T52.setTop (mkF m 77 #[.val (.int p1), .val (.int p2), .val (.long p3), .second, .val (.int p4), .val (.int (1 : Int32)), .val (.int (p2 &&& (3 : Int32))), .val (.ref b33), .val (.ref b42), .val (.int (1 : Int32))] [(.int (lcmpW p3 p3))]))
      refine Run.step (fun t_ k_ => XS.ifNo X52.here hx rfl (hb hby at_77) rfl (XT.ll_ne_f (rfl : p3 = p3)) k_) ?_
      show Run _ _ _ _ (T52.setTop (mkF m 80 #[.val (.int p1), .val (.int p2), .val (.long p3), .second, .val (.int p4), .val (.int (1 : Int32)), .val (.int (p2 &&& (3 : Int32))), .val (.ref b33), .val (.ref b42), .val (.int (1 : Int32))] []))
      refine Run.step (fun t_ k_ => XS.aload X52.here hx rfl (hb hby at_80) rfl rfl k_) ?_
      show Run _ _ _ _ (T52.setTop (mkF m 82 #[.val (.int p1), .val (.int p2), .val (.long p3), .second, .val (.int p4), .val (.int (1 : Int32)), .val (.int (p2 &&& (3 : Int32))), .val (.ref b33), .val (.ref b42), .val (.int (1 : Int32))] [(.ref b42)]))
      obtain ⟨cq53, kq53, q53a, q53b, q53c⟩ := isOf hZ e52q f47
      obtain ⟨_, _, ⟨T53, L53, k53, n53⟩, -, X53, ⟨Lc53, hQ53, l53, y53, z53⟩, st53⟩ := X52.virtualBack hx (y := (⟨"com/example/ringwell/ringwell/RingwellClient$Versioned", "value", "()[B"⟩ : MethodName)) (z := (⟨"com/example/ringwell/ringwell/RingwellClient$Versioned", "value", "()[B"⟩ : MethodName)) hown (mvT hZ w28) (mvT hZ w29) (notFace_of_selects (args := #[]) (mvT hZ w31)) (mvT hZ w31) (mvT hZ w30) (by decide) (backOf (W := 0) (rm6 l Z a0 hw [] b42 (.ref b33) T46.heap n0 z50 (Or.inr ⟨_, rfl⟩) fr46) hZ w32 w2 (by decide) (by decide)) q53a q53c (g := (mkF m 82 #[.val (.int p1), .val (.int p2), .val (.long p3), .second, .val (.int p4), .val (.int (1 : Int32)), .val (.int (p2 &&& (3 : Int32))), .val (.ref b33), .val (.ref b42), .val (.int (1 : Int32))] [(.ref b42)])) rfl (by rw [hml]; rfl) (Steps.refl _) (argsL := []) (rest := []) (lenOf pd__28_29_5bB rfl) rfl (by show 2 * 0 + _ ≤ _; exact Nat.le_of_eq rfl) (hb hby at_82) (fun _ _ => ⟨rfl, e52q, (by decide : 2 + 0 ≤ _), (by decide : 5 + 0 ≤ _)⟩)
      dsimp only [Pt.U, Pt.locs, Pt.cells, Pt.slots] at X53 l53 y53 z53 st53 hQ53
      subst l53 y53 z53
      refine Run.step (fun t k => st53.trans k) ?_
      obtain ⟨rfl, N53q, e53q⟩ := hQ53
      have N53 := Fr.app N52 N53q
      show Run _ _ _ _ (T53.setTop (mkF m 85 #[.val (.int p1), .val (.int p2), .val (.long p3), .second, .val (.int p4), .val (.int (1 : Int32)), .val (.int (p2 &&& (3 : Int32))), .val (.ref b33), .val (.ref b42), .val (.int (1 : Int32))] [(.ref b33)]))
      refine Run.step (fun t_ k_ => XS.aload X53.here hx rfl (hb hby at_85) rfl rfl k_) ?_
      show Run _ _ _ _ (T53.setTop (mkF m 87 #[.val (.int p1), .val (.int p2), .val (.long p3), .second, .val (.int p4), .val (.int (1 : Int32)), .val (.int (p2 &&& (3 : Int32))), .val (.ref b33), .val (.ref b42), .val (.int (1 : Int32))] [(.ref b33), (.ref b33)]))
      refine Run.step (fun t_ k_ => Jvm.RoadKit.acmp (g := (mkF m 87 #[.val (.int p1), .val (.int p2), .val (.long p3), .second, .val (.int p4), .val (.int (1 : Int32)), .val (.int (p2 &&& (3 : Int32))), .val (.ref b33), .val (.ref b42), .val (.int (1 : Int32))] [(.ref b33), (.ref b33)])) X53 hx rfl rfl rfl (pc0 := 87) (pc' := 90) (same := true) rfl (hb hby at_87) rfl (decide_eq_true rfl) (by decide) (by decide) k_) ?_
      show Run _ _ _ _ (T53.setTop (mkF m 90 #[.val (.int p1), .val (.int p2), .val (.long p3), .second, .val (.int p4), .val (.int (1 : Int32)), .val (.int (p2 &&& (3 : Int32))), .val (.ref b33), .val (.ref b42), .val (.int (1 : Int32))] []))
      refine Run.step (fun t_ k_ => XS.iconst X53.here hx rfl (hb hby at_90) k_) ?_
      show Run _ _ _ _ (T53.setTop (mkF m 91 #[.val (.int p1), .val (.int p2), .val (.long p3), .second, .val (.int p4), .val (.int (1 : Int32)), .val (.int (p2 &&& (3 : Int32))), .val (.ref b33), .val (.ref b42), .val (.int (1 : Int32))] [(.int (1 : Int32))]))
      refine Run.step (fun t_ k_ => XS.goto X53.here hx rfl (pc0 := 91) (pc' := 95) rfl (hb hby at_91) (by decide) (by decide) k_) ?_
      show Run _ _ _ _ (T53.setTop (mkF m 95 #[.val (.int p1), .val (.int p2), .val (.long p3), .second, .val (.int p4), .val (.int (1 : Int32)), .val (.int (p2 &&& (3 : Int32))), .val (.ref b33), .val (.ref b42), .val (.int (1 : Int32))] [(.int (1 : Int32))]))
      exact finZ X53 hx (BodyLoose.notSynchronized Bd) Bd.returns (hb hby at_95) (by decide) (by decide) (by decide) e53q ⟨rfl, N53⟩
    · skip
      refine Run.step (fun t_ k_ => XS.ifYes X33.here hx rfl (pc0 := 34) (pc' := 44) rfl (hb hby at_34) rfl (XT.i0_le_t c34) (by decide) (by decide) k_) ?_
      show Run _ _ _ _ (T33.setTop (mkF m 44 #[.val (.int p1), .val (.int p2), .val (.long p3), .second, .val (.int p4), .val (.int (1 : Int32)), .val (.int (p2 &&& (3 : Int32))), .val (.ref b33), .unset, .unset] []))
      obtain ⟨T54, h54, X54, e54, E54, A54, D54, -, st54⟩ := newO X33 hx hZ hown w0 w1 w2 e33 (g := (mkF m 44 #[.val (.int p1), .val (.int p2), .val (.long p3), .second, .val (.int p4), .val (.int (1 : Int32)), .val (.int (p2 &&& (3 : Int32))), .val (.ref b33), .unset, .unset] [])) rfl (hb hby at_44) (by decide) (by decide)
      obtain ⟨b54, g54⟩ : ∃ z, z = h33.size := ⟨_, rfl⟩
      rw [← g54] at A54 D54 st54
      refine Run.step st54 ?_
      have ne55 : b33 ≠ b54 := Nat.ne_of_lt (Nat.lt_of_lt_of_le f35.lt (Nat.le_of_eq g54.symm))
      have g_b54 : n0 ≤ b54 := Nat.le_trans z34 (Nat.le_of_eq g54.symm)
      have f56 := f35.ext E54
      have z57 := Nat.le_trans z34 E54.1
      have f58 : Fld Z h54 b54 "com/example/ringwell/ringwell/RingwellClient$Versioned" "value" "[B" .null := D54 (Or.inr w15) (ty := (.array .byte)) (by decide)
      have f59 : Fld Z h54 b54 "com/example/ringwell/ringwell/RingwellClient$Versioned" "version" "J" (.long (0 : Int64)) := D54 (Or.inr w17) (ty := .long) (by decide)
      show Run _ _ _ _ (T54.setTop (mkF m 47 #[.val (.int p1), .val (.int p2), .val (.long p3), .second, .val (.int p4), .val (.int (1 : Int32)), .val (.int (p2 &&& (3 : Int32))), .val (.ref b33), .unset, .unset] [(.ref b54)]))
      refine Run.step (fun t_ k_ => XS.dup X54.here hx rfl (hb hby at_47) rfl rfl k_) ?_
      show Run _ _ _ _ (T54.setTop (mkF m 48 #[.val (.int p1), .val (.int p2), .val (.long p3), .second, .val (.int p4), .val (.int (1 : Int32)), .val (.int (p2 &&& (3 : Int32))), .val (.ref b33), .unset, .unset] [(.ref b54), (.ref b54)]))
      refine Run.step (fun t_ k_ => XS.aload X54.here hx rfl (hb hby at_48) rfl rfl k_) ?_
      show Run _ _ _ _ (T54.setTop (mkF m 50 #[.val (.int p1), .val (.int p2), .val (.long p3), .second, .val (.int p4), .val (.int (1 : Int32)), .val (.int (p2 &&& (3 : Int32))), .val (.ref b33), .unset, .unset] [(.ref b33), (.ref b54), (.ref b54)]))
      refine Run.step (fun t_ k_ => XS.lloadN X54.here hx rfl (hb hby at_50) rfl k_) ?_
      show Run _ _ _ _ (T54.setTop (mkF m 51 #[.val (.int p1), .val (.int p2), .val (.long p3), .second, .val (.int p4), .val (.int (1 : Int32)), .val (.int (p2 &&& (3 : Int32))), .val (.ref b33), .unset, .unset] [(.long p3), (.ref b33), (.ref b54), (.ref b54)]))
      obtain ⟨_, _, ⟨T60, L60, k60, n60⟩, -, X60, ⟨Lc60, hQ60, l60, y60, z60⟩, st60⟩ := X54.specialBack hx (y := (⟨"com/example/ringwell/ringwell/RingwellClient$Versioned", "<init>", "([BJ)V"⟩ : MethodName)) rfl hown (mvT hZ w3) (mvT hZ w4) (mvT hZ w5) (by decide) (backOf (W := 1) (rm1 l Z a0 hw [] b54 (.ref b33) p3 h54 n0 z57 (Or.inr ⟨_, rfl⟩) f58 f59 A54 g_b54) hZ w5 w2 (by decide) (by decide)) (g := (mkF m 51 #[.val (.int p1), .val (.int p2), .val (.long p3), .second, .val (.int p4), .val (.int (1 : Int32)), .val (.int (p2 &&& (3 : Int32))), .val (.ref b33), .unset, .unset] [(.long p3), (.ref b33), (.ref b54), (.ref b54)])) rfl (by rw [hml]; rfl) (Steps.refl _) (a := b54) (argsL := [(.ref b33), (.long p3)]) (rest := [(.ref b54)]) (lenOf pd__28_5bBJ_29V rfl) rfl (by show 2 * 0 + _ ≤ _; exact Nat.le_of_eq rfl) (hb hby at_51) (fun _ _ => ⟨rfl, e54, (by decide : 2 + 0 ≤ _), (by decide : 5 + 0 ≤ _)⟩)
      dsimp only [Pt.U, Pt.locs, Pt.cells, Pt.slots] at X60 l60 y60 z60 st60 hQ60
      subst l60 y60 z60
      refine Run.step (fun t k => st60.trans k) ?_
      obtain ⟨rfl, N60q, K60q, fr60, ft60⟩ := hQ60
      have N60 := Fr.app N0 N60q
      have f61 := f56.keep K60q (ninS ne55 nin0)
      have f62 := A54.keep K60q
      have z65 := Nat.le_trans z57 K60q.1
      show Run _ _ _ _ (T60.setTop (mkF m 54 #[.val (.int p1), .val (.int p2), .val (.long p3), .second, .val (.int p4), .val (.int (1 : Int32)), .val (.int (p2 &&& (3 : Int32))), .val (.ref b33), .unset, .unset] [(.ref b54)]))
      refine Run.step (fun t_ k_ => XS.astore X60.here hx rfl (hb hby at_54) rfl rfl (l' := #[.val (.int p1), .val (.int p2), .val (.long p3), .second, .val (.int p4), .val (.int (1 : Int32)), .val (.int (p2 &&& (3 : Int32))), .val (.ref b33), .val (.ref b54), .unset]) rfl k_) ?_
      show Run _ _ _ _ (T60.setTop (mkF m 56 #[.val (.int p1), .val (.int p2), .val (.long p3), .second, .val (.int p4), .val (.int (1 : Int32)), .val (.int (p2 &&& (3 : Int32))), .val (.ref b33), .val (.ref b54), .unset] []))
      refine Run.step (fun t_ k_ => XS.aload X60.here hx rfl (hb hby at_56) rfl rfl k_) ?_
      show Run _ _ _ _ (T60.setTop (mkF m 58 #[.val (.int p1), .val (.int p2), .val (.long p3), .second, .val (.int p4), .val (.int (1 : Int32)), .val (.int (p2 &&& (3 : Int32))), .val (.ref b33), .val (.ref b54), .unset] [(.ref b54)]))
      obtain ⟨cq66, kq66, q66a, q66b, q66c⟩ := isOf hZ rfl f62
      obtain ⟨_, _, ⟨T66, L66, k66, n66⟩, -, X66, ⟨Lc66, hQ66, l66, y66, z66⟩, st66⟩ := X60.virtualBack hx (y := (⟨"com/example/ringwell/ringwell/RingwellClient$Versioned", "exists", "()Z"⟩ : MethodName)) (z := (⟨"com/example/ringwell/ringwell/RingwellClient$Versioned", "exists", "()Z"⟩ : MethodName)) hown (mvT hZ w18) (mvT hZ w19) (notFace_of_selects (args := #[]) (mvT hZ w21)) (mvT hZ w21) (mvT hZ w20) (by decide) (backOf (W := 0) (rm4r l Z a0 hw [] b54 b33 T60.heap n0 z65 fr60) hZ w22 w2 (by decide) (by decide)) q66a q66c (g := (mkF m 58 #[.val (.int p1), .val (.int p2), .val (.long p3), .second, .val (.int p4), .val (.int (1 : Int32)), .val (.int (p2 &&& (3 : Int32))), .val (.ref b33), .val (.ref b54), .unset] [(.ref b54)])) rfl (by rw [hml]; rfl) (Steps.refl _) (argsL := []) (rest := []) (lenOf pd__28_29Z rfl) rfl (by show 2 * 0 + _ ≤ _; exact Nat.le_of_eq rfl) (hb hby at_58) (fun _ _ => ⟨rfl, rfl, (by decide : 2 + 0 ≤ _), (by decide : 5 + 0 ≤ _)⟩)
      dsimp only [Pt.U, Pt.locs, Pt.cells, Pt.slots] at X66 l66 y66 z66 st66 hQ66
      subst l66 y66 z66
      refine Run.step (fun t k => st66.trans k) ?_
      obtain ⟨rfl, N66q, e66q⟩ := hQ66
      have N66 := Fr.app N60 N66q
      show Run _ _ _ _ (T66.setTop (mkF m 61 #[.val (.int p1), .val (.int p2), .val (.long p3), .second, .val (.int p4), .val (.int (1 : Int32)), .val (.int (p2 &&& (3 : Int32))), .val (.ref b33), .val (.ref b54), .unset] [(.int (1 : Int32))]))
      refine Run.step (fun t_ k_ => XS.istore X66.here hx rfl (hb hby at_61) rfl (l' := #[.val (.int p1), .val (.int p2), .val (.long p3), .second, .val (.int p4), .val (.int (1 : Int32)), .val (.int (p2 &&& (3 : Int32))), .val (.ref b33), .val (.ref b54), .val (.int (1 : Int32))]) rfl k_) ?_
      show Run _ _ _ _ (T66.setTop (mkF m 63 #[.val (.int p1), .val (.int p2), .val (.long p3), .second, .val (.int p4), .val (.int (1 : Int32)), .val (.int (p2 &&& (3 : Int32))), .val (.ref b33), .val (.ref b54), .val (.int (1 : Int32))] []))
      refine Run.step (fun t_ k_ => XS.iload X66.here hx rfl (hb hby at_63) rfl k_) ?_
      show Run _ _ _ _ (T66.setTop (mkF m 65 #[.val (.int p1), .val (.int p2), .val (.long p3), .second, .val (.int p4), .val (.int (1 : Int32)), .val (.int (p2 &&& (3 : Int32))), .val (.ref b33), .val (.ref b54), .val (.int (1 : Int32))] [(.int (1 : Int32))]))
      refine Run.step (fun t_ k_ => XS.iload X66.here hx rfl (hb hby at_65) rfl k_) ?_
      show Run _ _ _ _ (T66.setTop (mkF m 67 #[.val (.int p1), .val (.int p2), .val (.long p3), .second, .val (.int p4), .val (.int (1 : Int32)), .val (.int (p2 &&& (3 : Int32))), .val (.ref b33), .val (.ref b54), .val (.int (1 : Int32))] [(.int (1 : Int32)), (.int (1 : Int32))]))
      refine Run.step (fun t_ k_ => XS.icmpNo X66.here hx rfl (hb hby at_67) rfl (XT.ii_ne_f (by decide : (1 : Int32) = (1 : Int32))) k_) ?_
      show Run _ _ _ _ (T66.setTop (mkF m 70 #[.val (.int p1), .val (.int p2), .val (.long p3), .second, .val (.int p4), .val (.int (1 : Int32)), .val (.int (p2 &&& (3 : Int32))), .val (.ref b33), .val (.ref b54), .val (.int (1 : Int32))] []))
      refine Run.step (fun t_ k_ => XS.aload X66.here hx rfl (hb hby at_70) rfl rfl k_) ?_
      show Run _ _ _ _ (T66.setTop (mkF m 72 #[.val (.int p1), .val (.int p2), .val (.long p3), .second, .val (.int p4), .val (.int (1 : Int32)), .val (.int (p2 &&& (3 : Int32))), .val (.ref b33), .val (.ref b54), .val (.int (1 : Int32))] [(.ref b54)]))
      obtain ⟨cq67, kq67, q67a, q67b, q67c⟩ := isOf hZ e66q f62
      obtain ⟨_, _, ⟨T67, L67, k67, n67⟩, -, X67, ⟨Lc67, hQ67, l67, y67, z67⟩, st67⟩ := X66.virtualBack hx (y := (⟨"com/example/ringwell/ringwell/RingwellClient$Versioned", "version", "()J"⟩ : MethodName)) (z := (⟨"com/example/ringwell/ringwell/RingwellClient$Versioned", "version", "()J"⟩ : MethodName)) hown (mvT hZ w23) (mvT hZ w24) (notFace_of_selects (args := #[]) (mvT hZ w26)) (mvT hZ w26) (mvT hZ w25) (by decide) (backOf (W := 0) (rm5 l Z a0 hw [] b54 p3 T60.heap n0 z65 ft60) hZ w27 w2 (by decide) (by decide)) q67a q67c (g := (mkF m 72 #[.val (.int p1), .val (.int p2), .val (.long p3), .second, .val (.int p4), .val (.int (1 : Int32)), .val (.int (p2 &&& (3 : Int32))), .val (.ref b33), .val (.ref b54), .val (.int (1 : Int32))] [(.ref b54)])) rfl (by rw [hml]; rfl) (Steps.refl _) (argsL := []) (rest := []) (lenOf pd__28_29J rfl) rfl (by show 2 * 0 + _ ≤ _; exact Nat.le_of_eq rfl) (hb hby at_72) (fun _ _ => ⟨rfl, e66q, (by decide : 2 + 0 ≤ _), (by decide : 5 + 0 ≤ _)⟩)
      dsimp only [Pt.U, Pt.locs, Pt.cells, Pt.slots] at X67 l67 y67 z67 st67 hQ67
      subst l67 y67 z67
      refine Run.step (fun t k => st67.trans k) ?_
      obtain ⟨rfl, N67q, e67q⟩ := hQ67
      have N67 := Fr.app N66 N67q
      show Run _ _ _ _ (T67.setTop (mkF m 75 #[.val (.int p1), .val (.int p2), .val (.long p3), .second, .val (.int p4), .val (.int (1 : Int32)), .val (.int (p2 &&& (3 : Int32))), .val (.ref b33), .val (.ref b54), .val (.int (1 : Int32))] [(.long p3)]))
      refine Run.step (fun t_ k_ => XS.lloadN X67.here hx rfl (hb hby at_75) rfl k_) ?_
      show Run _ _ _ _ (T67.setTop (mkF m 76 #[.val (.int p1), .val (.int p2), .val (.long p3), .second, .val (.int p4), .val (.int (1 : Int32)), .val (.int (p2 &&& (3 : Int32))), .val (.ref b33), .val (.ref b54), .val (.int (1 : Int32))] [(.long p3), (.long p3)]))
      refine Run.step (fun t_ k_ => XS.lcmp X67.here hx rfl (hb hby at_76) rfl k_) ?_
      show Run _ _ _ _ (T67.setTop (mkF m 77 #[.val (.int p1), .val (.int p2), .val (.long p3), .second, .val (.int p4), .val (.int (1 : Int32)), .val (.int (p2 &&& (3 : Int32))), .val (.ref b33), .val (.ref b54), .val (.int (1 : Int32))] [(.int (lcmpW p3 p3))]))
      refine Run.step (fun t_ k_ => XS.ifNo X67.here hx rfl (hb hby at_77) rfl (XT.ll_ne_f (rfl : p3 = p3)) k_) ?_
      show Run _ _ _ _ (T67.setTop (mkF m 80 #[.val (.int p1), .val (.int p2), .val (.long p3), .second, .val (.int p4), .val (.int (1 : Int32)), .val (.int (p2 &&& (3 : Int32))), .val (.ref b33), .val (.ref b54), .val (.int (1 : Int32))] []))
      refine Run.step (fun t_ k_ => XS.aload X67.here hx rfl (hb hby at_80) rfl rfl k_) ?_
      show Run _ _ _ _ (T67.setTop (mkF m 82 #[.val (.int p1), .val (.int p2), .val (.long p3), .second, .val (.int p4), .val (.int (1 : Int32)), .val (.int (p2 &&& (3 : Int32))), .val (.ref b33), .val (.ref b54), .val (.int (1 : Int32))] [(.ref b54)]))
      obtain ⟨cq68, kq68, q68a, q68b, q68c⟩ := isOf hZ e67q f62
      obtain ⟨_, _, ⟨T68, L68, k68, n68⟩, -, X68, ⟨Lc68, hQ68, l68, y68, z68⟩, st68⟩ := X67.virtualBack hx (y := (⟨"com/example/ringwell/ringwell/RingwellClient$Versioned", "value", "()[B"⟩ : MethodName)) (z := (⟨"com/example/ringwell/ringwell/RingwellClient$Versioned", "value", "()[B"⟩ : MethodName)) hown (mvT hZ w28) (mvT hZ w29) (notFace_of_selects (args := #[]) (mvT hZ w31)) (mvT hZ w31) (mvT hZ w30) (by decide) (backOf (W := 0) (rm6 l Z a0 hw [] b54 (.ref b33) T60.heap n0 z65 (Or.inr ⟨_, rfl⟩) fr60) hZ w32 w2 (by decide) (by decide)) q68a q68c (g := (mkF m 82 #[.val (.int p1), .val (.int p2), .val (.long p3), .second, .val (.int p4), .val (.int (1 : Int32)), .val (.int (p2 &&& (3 : Int32))), .val (.ref b33), .val (.ref b54), .val (.int (1 : Int32))] [(.ref b54)])) rfl (by rw [hml]; rfl) (Steps.refl _) (argsL := []) (rest := []) (lenOf pd__28_29_5bB rfl) rfl (by show 2 * 0 + _ ≤ _; exact Nat.le_of_eq rfl) (hb hby at_82) (fun _ _ => ⟨rfl, e67q, (by decide : 2 + 0 ≤ _), (by decide : 5 + 0 ≤ _)⟩)
      dsimp only [Pt.U, Pt.locs, Pt.cells, Pt.slots] at X68 l68 y68 z68 st68 hQ68
      subst l68 y68 z68
      refine Run.step (fun t k => st68.trans k) ?_
      obtain ⟨rfl, N68q, e68q⟩ := hQ68
      have N68 := Fr.app N67 N68q
      show Run _ _ _ _ (T68.setTop (mkF m 85 #[.val (.int p1), .val (.int p2), .val (.long p3), .second, .val (.int p4), .val (.int (1 : Int32)), .val (.int (p2 &&& (3 : Int32))), .val (.ref b33), .val (.ref b54), .val (.int (1 : Int32))] [(.ref b33)]))
      refine Run.step (fun t_ k_ => XS.aload X68.here hx rfl (hb hby at_85) rfl rfl k_) ?_
      show Run _ _ _ _ (T68.setTop (mkF m 87 #[.val (.int p1), .val (.int p2), .val (.long p3), .second, .val (.int p4), .val (.int (1 : Int32)), .val (.int (p2 &&& (3 : Int32))), .val (.ref b33), .val (.ref b54), .val (.int (1 : Int32))] [(.ref b33), (.ref b33)]))
      refine Run.step (fun t_ k_ => Jvm.RoadKit.acmp (g := (mkF m 87 #[.val (.int p1), .val (.int p2), .val (.long p3), .second, .val (.int p4), .val (.int (1 : Int32)), .val (.int (p2 &&& (3 : Int32))), .val (.ref b33), .val (.ref b54), .val (.int (1 : Int32))] [(.ref b33), (.ref b33)])) X68 hx rfl rfl rfl (pc0 := 87) (pc' := 90) (same := true) rfl (hb hby at_87) rfl (decide_eq_true rfl) (by decide) (by decide) k_) ?_
      show Run _ _ _ _ (T68.setTop (mkF m 90 #[.val (.int p1), .val (.int p2), .val (.long p3), .second, .val (.int p4), .val (.int (1 : Int32)), .val (.int (p2 &&& (3 : Int32))), .val (.ref b33), .val (.ref b54), .val (.int (1 : Int32))] []))
      refine Run.step (fun t_ k_ => XS.iconst X68.here hx rfl (hb hby at_90) k_) ?_
      show Run _ _ _ _ (T68.setTop (mkF m 91 #[.val (.int p1), .val (.int p2), .val (.long p3), .second, .val (.int p4), .val (.int (1 : Int32)), .val (.int (p2 &&& (3 : Int32))), .val (.ref b33), .val (.ref b54), .val (.int (1 : Int32))] [(.int (1 : Int32))]))
      refine Run.step (fun t_ k_ => XS.goto X68.here hx rfl (pc0 := 91) (pc' := 95) rfl (hb hby at_91) (by decide) (by decide) k_) ?_
      show Run _ _ _ _ (T68.setTop (mkF m 95 #[.val (.int p1), .val (.int p2), .val (.long p3), .second, .val (.int p4), .val (.int (1 : Int32)), .val (.int (p2 &&& (3 : Int32))), .val (.ref b33), .val (.ref b54), .val (.int (1 : Int32))] [(.int (1 : Int32))]))
      exact finZ X68 hx (BodyLoose.notSynchronized Bd) Bd.returns (hb hby at_95) (by decide) (by decide) (by decide) e68q ⟨rfl, N68⟩
set_option maxRecDepth 65536 in
set_option maxHeartbeats 40000000 in
theorem comes_1 {Post : Tables → Env → Array Value → State → Outcome → State → Prop} (hpost : ∀ tb e args s v u, (limb_1_1.after args s (.returned v) u = true ∧ limb_1_2.after args s (.returned v) u = true ∧ True) → FrameEnd s (.returned v) u (Jvm.fieldLocs frame_1_writes args s ++ Jvm.arrayLocs frame_1_arrays args s ++ Jvm.staticLocs frame_1_statics s) 16 128 → Post tb e args s (.returned v) u) :
    ArmFor flags0 classFile x code maxLocals ret World_1 tables_1 room_1 Calls_1 rest_1 Pre_1 Post := by
  intro l hfl _ _ p e ha hc hk s m args below hf hA hF happ hP
  obtain ⟨hcalls, hrest, hpre⟩ := hP
  obtain ⟨-, -, -, hnamed, -, -, -, hat⟩ := (Spec.applies_iff hf).mp happ
  obtain ⟨hg, hn⟩ := and_e (Cond.before_iff.mp (show (Jvm.Cond.and given_1 narrow_1).before args s = true from hpre))
  obtain ⟨h1, h2⟩ := and_e hg
  obtain ⟨w0, w1, w2, w3, rfl⟩ : ∃ w0 w1 w2 w3 : Value, args = #[w0, w1, w2, w3] := by
    have hs : args.size = 4 := by simpa [Cond.value, given_1] using h1
    obtain ⟨L⟩ := args
    match L, hs with
    | [w0, w1, w2, w3], _ => exact ⟨w0, w1, w2, w3, rfl⟩
  have hw := fun d (hd : d ∈ tables_1) => atoms_spec (ws := Jvm.Cond.code x code maxLocals ret :: tables_1) hat d (List.mem_cons_of_mem _ hd)
  have hfit : Fit s := fun {y c} hc i hi => by
    obtain ⟨ha, rfl⟩ := Array.getElem?_eq_some_iff.mp hc
    have q := List.all_eq_true.mp ((Array.all_eq_true_iff_forall_mem.mp hF) _ (Array.getElem_mem ha)) i (List.mem_range.mpr hi)
    simpa [Array.getElem?_eq_getElem hi] using q
  obtain ⟨a0, t0⟩ := and_e h2
  obtain ⟨i0, q0⟩ := is_v a0
  obtain rfl : w0 = (.int i0) := Option.some.inj q0
  obtain ⟨a1, t1⟩ := and_e t0
  obtain ⟨i1, q1⟩ := is_v a1
  obtain rfl : w1 = (.int i1) := Option.some.inj q1
  obtain ⟨a2, t2⟩ := and_e t1
  obtain ⟨i2, q2⟩ := isL_v a2
  obtain rfl : w2 = (.long i2) := Option.some.inj q2
  obtain ⟨i3, q3⟩ := is_v t2
  obtain rfl : w3 = (.int i3) := Option.some.inj q3
  obtain ⟨n, o, g1, g2, g3, _, L, rfl, ⟨rfl, N⟩, hq⟩ := rm0 l s _ hw tables_1 i0 i1 i2 i3 s.heap s.heap.size (Nat.le_refl _) p e ha hc hk s m _ below hf ((Spec.applies_iff_loose hf).mp happ).1 ⟨rfl, State.Warmed39.refl s, rfl⟩ trivial
  refine ⟨n, _, g1, g2, g3, hpost _ _ _ _ _ _ ⟨Cond.after_iff.mpr rfl, Cond.after_iff.mpr (eq_i res_at (Term.int_eval (1)) rfl), trivial⟩ ⟨hq.1, hq.2.1, (hq.2.2.sift fun y hy => Or.inr (N y hy)).mono (by decide) (by decide)⟩⟩
theorem main_1_1 : Claimed_1_1 := comes_1 fun _ _ _ _ _ _ h hF => ⟨h.1, hF⟩
theorem main_1_2 : Claimed_1_2 := comes_1 fun _ _ _ _ _ _ h hF => ⟨h.2.1, hF⟩
end Jvm.Pilot.@@N@@
namespace Jvm.Pilot.@@N@@
open Jvm Jvm.ClassFile Sem Op Lib Jvm.Free Jvm.Stand Jvm.Pilot.@@N@@.Jvm.D
/-! MADE BY PROGRAM (witnessworld.py) out of the Statement's table words and the real class files: 10 classes; the members and pool entries that the words name. The judged class is class 1, her method 1. -/
namespace start1
open Jvm.ClassFile
def u (s : String) : CpInfo := .utf8 (stringToUtf16 s)
/-- a pool by its gaps: so many unusable entries, then the entry; so many at the end -/
def gap : Nat → List CpInfo → List CpInfo
  | 0, r => r
  | n + 1, r => .unusable :: gap n r
def poolList (es : List (Nat × CpInfo)) (last : Nat) : List CpInfo := es.foldr (fun e r => gap e.1 (e.2 :: r)) (gap last [])
def pool (es : List (Nat × CpInfo)) (last : Nat) : Array CpInfo := ⟨poolList es last⟩
def fileOf (pool : Array CpInfo) (this : Nat) (attrs : Array Attribute := #[]) (ms : Array MethodInfo := #[]) (fl : Nat := 33) (sup : Nat := 0) (ifs : Array Nat := #[]) (fds : Array FieldInfo := #[]) : ClassFile where
  minorVersion := 0
  majorVersion := 65
  constantPool := pool
  accessFlags := fl
  thisClass := this
  superClass := sup
  interfaces := ifs
  fields := fds
  methods := ms
  attributes := attrs
def plain (name : String) (sup : Option ClassId) : Class where
  name := name
  kind := .ordinary
  loader := none
  accessFlags := 33
  super := sup
  interfaces := #[]
  cf := none
  fields := #[]
  methods := #[]
  instanceTypes := #[]
  staticTypes := #[]
  resolved := #[]
  callSites := []
  init := .initialized
  statics := none
  mirror := none

def pool0 : Array CpInfo := pool [(5, u "<init>"), (0, u "()V"), (1, .class_ 10), (1, u "java/lang/Object")] 113

def k0c0 : Code := { maxStack := 0, maxLocals := 1, code := object_method_1_code, exceptionTable := #[], attributes := #[] }
def k0m0 : Method := { name := "<init>", desc := "()V", sig := { parameters := [], returnType := none }, accessFlags := 1, code := some k0c0 }
/-- java/lang/Object -/
def k0 : Class := { plain "java/lang/Object" none with
  accessFlags := 33
  interfaces := #[]
  cf := some (fileOf pool0 8 #[] #[{ accessFlags := 1, nameIndex := 5, descriptorIndex := 6, attributes := #[] }] 33 0 #[] #[])
  fields := #[]
  methods := #[k0m0]
  instanceTypes := #[]
  staticTypes := #[]
  resolved := Array.replicate 124 none
  statics := none }

def pool1 : Array CpInfo := pool [(2, .class_ 4), (1, u "java/lang/Object"), (0, u "<init>"), (0, u "()V"), (0, .class_ 8), (0, u "com/example/ringwell/ringwell/RingwellClient$Versioned"), (0, .methodref 7 10), (0, .nameAndType 5 11), (0, u "([BJ)V"), (0, .methodref 7 13), (0, .nameAndType 14 15), (0, u "exists"), (0, u "()Z"), (0, .methodref 7 17), (0, .nameAndType 18 19), (0, u "version"), (0, u "()J"), (0, .methodref 7 21), (0, .nameAndType 22 23), (0, u "value"), (0, u "()[B"), (0, .class_ 25), (0, u "com/example/ringwell/ringwell/VersionedExistsPinLaw"), (2, u "law"), (0, u "(IIJI)Z")] 9

def k1m0 : Method := { name := "<init>", desc := "()V", sig := { parameters := [], returnType := none }, accessFlags := 1, code := none }
def k1c1 : Code := { maxStack := 5, maxLocals := 10, code := code, exceptionTable := #[], attributes := #[] }
def k1m1 : Method := { name := "law", desc := "(IIJI)Z", sig := { parameters := [.int, .int, .long, .int], returnType := some .boolean }, accessFlags := 9, code := some k1c1 }
/-- com/example/ringwell/ringwell/VersionedExistsPinLaw -/
def k1 : Class := { plain "com/example/ringwell/ringwell/VersionedExistsPinLaw" (some 0) with
  accessFlags := 49
  interfaces := #[]
  cf := some (fileOf pool1 24 #[] #[{ accessFlags := 1, nameIndex := 5, descriptorIndex := 6, attributes := #[] }, { accessFlags := 9, nameIndex := 28, descriptorIndex := 29, attributes := #[] }] 49 2 #[] #[])
  fields := #[]
  methods := #[k1m0, k1m1]
  instanceTypes := #[]
  staticTypes := #[]
  resolved := Array.replicate 39 none
  statics := none }

def pool2 : Array CpInfo := pool [(1, .methodref 2 3), (0, .class_ 4), (0, .nameAndType 5 6), (0, u "java/lang/Object"), (0, u "<init>"), (0, u "()V"), (0, .class_ 8), (0, u "java/lang/Record")] 13

def k2c0 : Code := { maxStack := 1, maxLocals := 1, code := jdk_30_method_1_code, exceptionTable := #[], attributes := #[] }
def k2m0 : Method := { name := "<init>", desc := "()V", sig := { parameters := [], returnType := none }, accessFlags := 4, code := some k2c0 }
/-- java/lang/Record -/
def k2 : Class := { plain "java/lang/Record" (some 0) with
  accessFlags := 1057
  interfaces := #[]
  cf := some (fileOf pool2 7 #[] #[{ accessFlags := 4, nameIndex := 5, descriptorIndex := 6, attributes := #[] }] 1057 2 #[] #[])
  fields := #[]
  methods := #[k2m0]
  instanceTypes := #[]
  staticTypes := #[]
  resolved := Array.replicate 22 none
  statics := none }

def pool3 : Array CpInfo := pool [(1, .methodref 2 3), (0, .class_ 4), (0, .nameAndType 5 6), (0, u "java/lang/Record"), (0, u "<init>"), (0, u "()V"), (0, .fieldref 8 9), (0, .class_ 10), (0, .nameAndType 11 12), (0, u "com/example/ringwell/ringwell/RingwellClient$Versioned"), (0, u "value"), (0, u "[B"), (0, .fieldref 8 14), (0, .nameAndType 15 16), (0, u "version"), (0, u "J"), (12, u "([BJ)V"), (3, u "exists"), (0, u "()Z"), (4, u "()[B"), (0, u "()J"), (3, .class_ 45), (0, u "com/example/ringwell/ringwell/RingwellClient")] 20

def k3c0 : Code := { maxStack := 3, maxLocals := 4, code := prog_119_method_1_code, exceptionTable := #[], attributes := #[] }
def k3m0 : Method := { name := "<init>", desc := "([BJ)V", sig := { parameters := [(.array .byte), .long], returnType := none }, accessFlags := 1, code := some k3c0 }
def k3c1 : Code := { maxStack := 1, maxLocals := 1, code := prog_119_method_2_code, exceptionTable := #[], attributes := #[] }
def k3m1 : Method := { name := "exists", desc := "()Z", sig := { parameters := [], returnType := some .boolean }, accessFlags := 1, code := some k3c1 }
def k3c2 : Code := { maxStack := 1, maxLocals := 1, code := prog_119_method_6_code, exceptionTable := #[], attributes := #[] }
def k3m2 : Method := { name := "value", desc := "()[B", sig := { parameters := [], returnType := some (.array .byte) }, accessFlags := 1, code := some k3c2 }
def k3c3 : Code := { maxStack := 2, maxLocals := 1, code := prog_119_method_7_code, exceptionTable := #[], attributes := #[] }
def k3m3 : Method := { name := "version", desc := "()J", sig := { parameters := [], returnType := some .long }, accessFlags := 1, code := some k3c3 }
/-- com/example/ringwell/ringwell/RingwellClient$Versioned -/
def k3 : Class := { plain "com/example/ringwell/ringwell/RingwellClient$Versioned" (some 2) with
  accessFlags := 49
  interfaces := #[]
  cf := some (fileOf pool3 8 #[.nestHost 44] #[{ accessFlags := 1, nameIndex := 5, descriptorIndex := 29, attributes := #[] }, { accessFlags := 1, nameIndex := 33, descriptorIndex := 34, attributes := #[] }, { accessFlags := 1, nameIndex := 11, descriptorIndex := 39, attributes := #[] }, { accessFlags := 1, nameIndex := 15, descriptorIndex := 40, attributes := #[] }] 49 2 #[] #[{ accessFlags := 18, nameIndex := 11, descriptorIndex := 12, attributes := #[] }, { accessFlags := 18, nameIndex := 15, descriptorIndex := 16, attributes := #[] }])
  fields := #[{ name := "value", type := (.array .byte), accessFlags := 18, slot := 0, constantValue := 0 }, { name := "version", type := .long, accessFlags := 18, slot := 1, constantValue := 0 }]
  methods := #[k3m0, k3m1, k3m2, k3m3]
  instanceTypes := #[(.array .byte), .long]
  staticTypes := #[]
  resolved := Array.replicate 66 none
  statics := none }

def pool4 : Array CpInfo := pool [(1, u "java/lang/Cloneable"), (0, .class_ 1), (0, u "java/lang/Object"), (0, .class_ 3)] 3

/-- java/lang/Cloneable -/
def k4 : Class := { plain "java/lang/Cloneable" (some 0) with
  accessFlags := 1537
  interfaces := #[]
  cf := some (fileOf pool4 2 #[] #[] 1537 4 #[] #[])
  fields := #[]
  methods := #[]
  instanceTypes := #[]
  staticTypes := #[]
  resolved := Array.replicate 8 none
  statics := none }

def pool5 : Array CpInfo := pool [(1, u "java/io/Serializable"), (0, .class_ 1), (0, u "java/lang/Object"), (0, .class_ 3)] 3

/-- java/io/Serializable -/
def k5 : Class := { plain "java/io/Serializable" (some 0) with
  accessFlags := 1537
  interfaces := #[]
  cf := some (fileOf pool5 2 #[] #[] 1537 4 #[] #[])
  fields := #[]
  methods := #[]
  instanceTypes := #[]
  staticTypes := #[]
  resolved := Array.replicate 8 none
  statics := none }

/-- the primitive byte -/
def k6 : Class := { plain "byte" none with kind := .primitive 'B', accessFlags := 0x411 }
/-- [B -/
def k7 : Class := { plain "[B" (some 0) with kind := .array 6 .byte, interfaces := #[4, 5], accessFlags := 1041 }

/-- the primitive int -/
def k8 : Class := { plain "int" none with kind := .primitive 'I', accessFlags := 0x411 }
/-- [I -/
def k9 : Class := { plain "[I" (some 0) with kind := .array 8 .int, interfaces := #[4, 5], accessFlags := 1041 }

def heap : Heap := #[]
def classes : Array Class := #[k0, k1, k2, k3, k4, k5, k6, k7, k8, k9]
def interned : List (Array UInt16 × Addr) := []
def slotsUsed : Nat := 0
def theMethod : MethodId := ⟨1, 1⟩
def args0 : Array Value := #[.int 5, .int 2, .long 7, .int 3]
def aboutOver (below : List Frame) : State where
  vm := { classes := classes, interned := interned.toArray }
  heap := heap
  slotsUsed := slotsUsed
  threads := #[{ frames := .invoking theMethod args0 :: below }]
def below0 : List Frame := [.native { method := ⟨0, 0⟩, args := #[] }]
def about1 : State := aboutOver below0
def p0 : Program := .bare "" "" ""
def e0 : Env := launch0.env 0 0 0
theorem w_frames : about1.frames = Frame.invoking theMethod args0 :: below0 := rfl
set_option maxRecDepth 65536 in
theorem w_args : argsFit about1.vm theMethod args0 = true := by decide +kernel
set_option maxRecDepth 65536 in
theorem w_heap : heapFits about1 = true := by decide +kernel
set_option maxRecDepth 65536 in
theorem w_runnable : about1.curStatus? = some .runnable := by decide +kernel
set_option maxRecDepth 65536 in
theorem w_alone : about1.alone = true := by decide +kernel
set_option maxRecDepth 65536 in
theorem w_named : about1.methodNamed? x = some theMethod := by decide +kernel
set_option maxRecDepth 65536 in
theorem w_hears : about1.hears theMethod below0 = true := by decide +kernel
set_option maxRecDepth 65536 in
theorem w_ripe : about1.ripe theMethod args0 below0 = true := by decide +kernel
theorem w_running : about1.status = .running := rfl
set_option maxRecDepth 65536 in
theorem w_room : about1.hasRoom e0.platform room_1 = true :=
  launch0.hasRoom_least _ room_1 (by decide +kernel) (by decide +kernel) (by decide +kernel) (by decide +kernel) (by decide +kernel) (by decide +kernel)
theorem allAtoms_all (ts : List Jvm.Cond) (a : Array Jvm.Value) (st : Jvm.State) : (allAtoms ts).before a st = ts.all (fun c => c.before a st) := by
  induction ts with
  | nil => rfl
  | cons c t ih =>
    show (Jvm.Cond.and c (allAtoms t)).before a st = _
    rw [Jvm.Cond.before_and, ih, List.all_cons]
def words1 : List Jvm.Cond := Jvm.Cond.code x code maxLocals ret :: tables_1
/-- a 'code' word, met by the world's own term for the bytes: nothing is compared byte by byte -/
theorem code_word {y : MethodName} {bytes : ByteArray} {mx : Nat} {rt : Option FieldType} {a : Array Value} {s : State} {m : MethodId} {meth : Method} {c : Code} (h1 : s.methodNamed? y = some m) (h2 : s.vm.method? m = some meth) (h3 : meth.code = some c) (h4 : c.code = bytes)
    (h5 : (c.maxLocals == mx && c.exceptionTable.isEmpty && decide (c.maxStack ≤ mostOperands) && decide (meth.sig.returnType = rt) && !meth.locks && decide (parseMethodDescriptor y.desc = some meth.sig)) = true) : (Jvm.Cond.code y bytes mx rt).before a s = true := by
  simp only [Bool.and_eq_true, beq_iff_eq, Bool.not_eq_true', decide_eq_true_eq] at h5
  obtain ⟨⟨⟨⟨⟨g1, g2⟩, g3⟩, g4⟩, g5⟩, g6⟩ := h5
  simp [Cond.before, Cond.holds, Cond.value, h1, h2, h3, h4, g1, g2, g3, g4, g5, g6]
def isCode : Jvm.Cond → Bool
  | .code _ _ _ _ => true
  | _ => false
theorem all_split {L : List Jvm.Cond} {P : Jvm.Cond → Bool} (h1 : L.all (fun c => isCode c || P c) = true) (h2 : ∀ c ∈ L.filter isCode, P c = true) : L.all P = true := by
  refine List.all_eq_true.mpr fun c hc => ?_
  have h := List.all_eq_true.mp h1 c hc
  rcases Bool.eq_false_or_eq_true (isCode c) with hi | hi
  · exact h2 c (List.mem_filter.mpr ⟨hc, hi⟩)
  · simpa [hi] using h
set_option maxRecDepth 65536 in
theorem w_c0 : (Jvm.Cond.code x code maxLocals ret).before args0 about1 = true := code_word (m := ⟨1, 1⟩) (meth := k1m1) (c := k1c1) (by decide +kernel) rfl rfl rfl (by decide +kernel)
set_option maxRecDepth 65536 in
theorem w_c1 : (Jvm.Cond.code ({ cls := "com/example/ringwell/ringwell/RingwellClient$Versioned", name := "<init>", desc := "([BJ)V" } : Jvm.MethodName) prog_119_method_1_code (4 : Nat) (Option.none : Option Jvm.ClassFile.FieldType)).before args0 about1 = true := code_word (m := ⟨3, 0⟩) (meth := k3m0) (c := k3c0) (by decide +kernel) rfl rfl rfl (by decide +kernel)
set_option maxRecDepth 65536 in
theorem w_c2 : (Jvm.Cond.code ({ cls := "java/lang/Record", name := "<init>", desc := "()V" } : Jvm.MethodName) jdk_30_method_1_code (1 : Nat) (Option.none : Option Jvm.ClassFile.FieldType)).before args0 about1 = true := code_word (m := ⟨2, 0⟩) (meth := k2m0) (c := k2c0) (by decide +kernel) rfl rfl rfl (by decide +kernel)
set_option maxRecDepth 65536 in
theorem w_c3 : (Jvm.Cond.code ({ cls := "java/lang/Object", name := "<init>", desc := "()V" } : Jvm.MethodName) object_method_1_code (1 : Nat) (Option.none : Option Jvm.ClassFile.FieldType)).before args0 about1 = true := code_word (m := ⟨0, 0⟩) (meth := k0m0) (c := k0c0) (by decide +kernel) rfl rfl rfl (by decide +kernel)
set_option maxRecDepth 65536 in
theorem w_c4 : (Jvm.Cond.code ({ cls := "com/example/ringwell/ringwell/RingwellClient$Versioned", name := "exists", desc := "()Z" } : Jvm.MethodName) prog_119_method_2_code (1 : Nat) (Option.some Jvm.ClassFile.FieldType.boolean)).before args0 about1 = true := code_word (m := ⟨3, 1⟩) (meth := k3m1) (c := k3c1) (by decide +kernel) rfl rfl rfl (by decide +kernel)
set_option maxRecDepth 65536 in
theorem w_c5 : (Jvm.Cond.code ({ cls := "com/example/ringwell/ringwell/RingwellClient$Versioned", name := "version", desc := "()J" } : Jvm.MethodName) prog_119_method_7_code (1 : Nat) (Option.some Jvm.ClassFile.FieldType.long)).before args0 about1 = true := code_word (m := ⟨3, 3⟩) (meth := k3m3) (c := k3c3) (by decide +kernel) rfl rfl rfl (by decide +kernel)
set_option maxRecDepth 65536 in
theorem w_c6 : (Jvm.Cond.code ({ cls := "com/example/ringwell/ringwell/RingwellClient$Versioned", name := "value", desc := "()[B" } : Jvm.MethodName) prog_119_method_6_code (1 : Nat) (Option.some (Jvm.ClassFile.FieldType.array Jvm.ClassFile.FieldType.byte))).before args0 about1 = true := code_word (m := ⟨3, 2⟩) (meth := k3m2) (c := k3c2) (by decide +kernel) rfl rfl rfl (by decide +kernel)
def codes1 : List Jvm.Cond := [Jvm.Cond.code x code maxLocals ret, Jvm.Cond.code ({ cls := "com/example/ringwell/ringwell/RingwellClient$Versioned", name := "<init>", desc := "([BJ)V" } : Jvm.MethodName) prog_119_method_1_code (4 : Nat) (Option.none : Option Jvm.ClassFile.FieldType), Jvm.Cond.code ({ cls := "java/lang/Record", name := "<init>", desc := "()V" } : Jvm.MethodName) jdk_30_method_1_code (1 : Nat) (Option.none : Option Jvm.ClassFile.FieldType), Jvm.Cond.code ({ cls := "java/lang/Object", name := "<init>", desc := "()V" } : Jvm.MethodName) object_method_1_code (1 : Nat) (Option.none : Option Jvm.ClassFile.FieldType), Jvm.Cond.code ({ cls := "com/example/ringwell/ringwell/RingwellClient$Versioned", name := "exists", desc := "()Z" } : Jvm.MethodName) prog_119_method_2_code (1 : Nat) (Option.some Jvm.ClassFile.FieldType.boolean), Jvm.Cond.code ({ cls := "com/example/ringwell/ringwell/RingwellClient$Versioned", name := "version", desc := "()J" } : Jvm.MethodName) prog_119_method_7_code (1 : Nat) (Option.some Jvm.ClassFile.FieldType.long), Jvm.Cond.code ({ cls := "com/example/ringwell/ringwell/RingwellClient$Versioned", name := "value", desc := "()[B" } : Jvm.MethodName) prog_119_method_6_code (1 : Nat) (Option.some (Jvm.ClassFile.FieldType.array Jvm.ClassFile.FieldType.byte))]
set_option maxRecDepth 65536 in
theorem codes_eq : words1.filter isCode = codes1 := rfl
theorem w_codes : ∀ c ∈ words1.filter isCode, c.before args0 about1 = true := by
  rw [codes_eq]
  intro c hc
  simp only [codes1, List.mem_cons, List.not_mem_nil, or_false] at hc
  rcases hc with rfl | rfl | rfl | rfl | rfl | rfl | rfl
  · exact w_c0
  · exact w_c1
  · exact w_c2
  · exact w_c3
  · exact w_c4
  · exact w_c5
  · exact w_c6
set_option maxRecDepth 65536 in
theorem w_t1 : (words1.take 24).all (fun c => isCode c || c.before args0 about1) = true := by decide +kernel
set_option maxRecDepth 65536 in
theorem w_t2 : (words1.drop 24).all (fun c => isCode c || c.before args0 about1) = true := by decide +kernel
theorem w_tables : (allAtoms (Jvm.Cond.code x code maxLocals ret :: tables_1)).before args0 about1 = true := by
  rw [allAtoms_all]
  show words1.all (fun c => c.before args0 about1) = true
  refine all_split ?_ w_codes
  rw [← List.take_append_drop 24 words1, List.all_append, w_t1, w_t2]
  rfl
set_option maxRecDepth 65536 in
theorem w_case : (Jvm.Cond.and given_1 narrow_1).before args0 about1 = true := by decide +kernel
theorem w_applies : (headSpec (Jvm.Cond.code x code maxLocals ret :: tables_1) room_1).applies x e0.platform about1 = true :=
  (Spec.applies_iff w_frames).mpr ⟨w_running, w_runnable, w_alone, w_named, w_hears, w_ripe, w_room, w_tables⟩
theorem atStart : AtStart classFile x code maxLocals ret World_1 tables_1 room_1 Calls_1 rest_1 Pre_1 launch0 p0 e0 about1 theMethod args0 below0 :=
  ⟨lists_1, trivial, launch0.admits_env _ _ _, launch0.least_env, fairChoices_fair.cas, fairChoices_fair.clock, w_frames, w_args, w_heap, w_applies, trivial, trivial, w_case⟩
end start1
theorem witness_1 : WitnessClaimed_1 := ⟨start1.p0, start1.e0, start1.about1, start1.theMethod, start1.args0, start1.below0, start1.atStart⟩
end Jvm.Pilot.@@N@@
