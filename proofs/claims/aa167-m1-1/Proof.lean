import JvmDerived
import JvmDerived.Pilot.@@N@@Statement
import JvmDerived.Pilot.@@N@@Code
set_option linter.unusedVariables false
set_option linter.unusedSimpArgs false
namespace Jvm.OwnW
open Sem ClassFile Op Lib Jvm.Stand Jvm.Free Jvm.LawKit Jvm.RoadKit
section Walks
variable {p : Program} {l : Launch} {e : Env} {R : Room} {s : State} {m : MethodId} {args : Array Value} {below : List Frame} {meth : Method} {c : Code} {T : State} {locs : List Loc} {cells slots : Nat}
/-- from A on the run comes to an end of which P holds -/
def Run (tb : Tables) (e : Env) (below : List Frame) (P : State → Outcome → Prop) (A : State) : Prop := ∃ s₂ o, Steps tb e below A s₂ ∧ P s₂ o
theorem Run.step {tb : Tables} {P : State → Outcome → Prop} {A B : State} (k : ∀ t, Steps tb e below B t → Steps tb e below A t) (h : Run tb e below P B) : Run tb e below P A := by
  obtain ⟨s₂, o, a, b⟩ := h
  exact ⟨s₂, o, k _ a, b⟩
/-- what a body's contract says at the end -/
def PQ (s : State) (below : List Frame) (rc rs : Nat) (Q : Option Value → Heap → List Loc → Prop) (s₂ : State) (o : Outcome) : Prop := s₂.status = .running ∧ Ended s₂ below o ∧ ∃ v L, o = .returned v ∧ Q v s₂.heap L ∧ FrameEnd s o s₂ L rc rs
theorem fin (X : Stand p l e R s m args below meth c T locs cells slots) {A : State} {Q : Option Value → Heap → List Loc → Prop} {rc rs : Nat} {v : Option Value} {h : Heap} (hl : meth.locks = false) (hv : meth.sig.returnType = none → v = none) (hc : cells ≤ rc) (hs : slots ≤ rs) (eT : T.heap = h) (hQ : Q v h locs)
    (st : ∀ fs, (∀ (f : JFrame) (acts : List Action), f.method = m → f.locked = none → f.entered = [] → (doReturn e (T.setTop f) acts v).1 = T.setFrames fs) → Steps p.tables e below A (T.setFrames fs)) : Run p.tables e below (PQ s below rc rs Q) A := by
  obtain ⟨fs, hr, hrun, hended, hW, hsame⟩ := X.leave (v := v) hv hl
  refine ⟨_, _, st fs hr, hrun, hended, _, _, rfl, ?_, ⟨_, rfl⟩, hW, hsame.mono hc hs⟩
  show Q v T.heap locs
  rw [eT]
  exact hQ
theorem finV (X : Stand p l e R s m args below meth c T locs cells slots) (hx : p.tables.exec = Jvm.exec) (hl : meth.locks = false) {Q : Option Value → Heap → List Loc → Prop} {rc rs pc : Nat} {Ls : Array Slot} {h : Heap} (hret : meth.sig.returnType = none) (hd : decode c.code pc = .ok (.return_, 1)) (hc : cells ≤ rc) (hs : slots ≤ rs) (eT : T.heap = h) (hQ : Q none h locs) : Run p.tables e below (PQ s below rc rs Q) (T.setTop (mkF m pc Ls [])) :=
  fin X hl (fun _ => rfl) hc hs eT hQ fun fs hr => X.returnOut hx hret hd hr
theorem finI (X : Stand p l e R s m args below meth c T locs cells slots) (hx : p.tables.exec = Jvm.exec) (hl : meth.locks = false) {Q : Option Value → Heap → List Loc → Prop} {rc rs pc : Nat} {Ls : Array Slot} {z : Int32} {rest : List Value} {h : Heap} (hret : meth.sig.returnType = some .int) (hd : decode c.code pc = .ok (.ireturn, 1)) (hc : cells ≤ rc) (hs : slots ≤ rs) (eT : T.heap = h) (hQ : Q (some (.int z)) h locs) : Run p.tables e below (PQ s below rc rs Q) (T.setTop (mkF m pc Ls (.int z :: rest))) :=
  fin X hl (fun q => by rw [hret] at q; cases q) hc hs eT hQ fun fs hr => retOut X hx hret rfl (Or.inl ⟨rfl, Or.inl rfl, _, rfl⟩) hd hr
theorem finZ (X : Stand p l e R s m args below meth c T locs cells slots) (hx : p.tables.exec = Jvm.exec) (hl : meth.locks = false) {Q : Option Value → Heap → List Loc → Prop} {rc rs pc : Nat} {Ls : Array Slot} {z : Int32} {rest : List Value} {h : Heap} (hret : meth.sig.returnType = some .boolean) (hd : decode c.code pc = .ok (.ireturn, 1)) (hz : z = 0 ∨ z = 1) (hc : cells ≤ rc) (hs : slots ≤ rs) (eT : T.heap = h) (hQ : Q (some (.int z)) h locs) : Run p.tables e below (PQ s below rc rs Q) (T.setTop (mkF m pc Ls (.int z :: rest))) :=
  fin X hl (fun q => by rw [hret] at q; cases q) hc hs eT hQ fun fs hr => retOut X hx hret (by rcases hz with rfl | rfl <;> rfl) (Or.inl ⟨rfl, Or.inr (Or.inl rfl), _, rfl⟩) hd hr
theorem finB (X : Stand p l e R s m args below meth c T locs cells slots) (hx : p.tables.exec = Jvm.exec) (hl : meth.locks = false) {Q : Option Value → Heap → List Loc → Prop} {rc rs pc : Nat} {Ls : Array Slot} {z : Int32} {rest : List Value} {h : Heap} (hret : meth.sig.returnType = some .byte) (hd : decode c.code pc = .ok (.ireturn, 1)) (hz : narrow .byte (.int z) = .int z) (hc : cells ≤ rc) (hs : slots ≤ rs) (eT : T.heap = h) (hQ : Q (some (.int z)) h locs) : Run p.tables e below (PQ s below rc rs Q) (T.setTop (mkF m pc Ls (.int z :: rest))) :=
  fin X hl (fun q => by rw [hret] at q; cases q) hc hs eT hQ fun fs hr => retOut X hx hret hz (Or.inl ⟨rfl, Or.inr (Or.inr (Or.inl rfl)), _, rfl⟩) hd hr
theorem finJ (X : Stand p l e R s m args below meth c T locs cells slots) (hx : p.tables.exec = Jvm.exec) (hl : meth.locks = false) {Q : Option Value → Heap → List Loc → Prop} {rc rs pc : Nat} {Ls : Array Slot} {z : Int64} {rest : List Value} {h : Heap} (hret : meth.sig.returnType = some .long) (hd : decode c.code pc = .ok (.lreturn, 1)) (hc : cells ≤ rc) (hs : slots ≤ rs) (eT : T.heap = h) (hQ : Q (some (.long z)) h locs) : Run p.tables e below (PQ s below rc rs Q) (T.setTop (mkF m pc Ls (.long z :: rest))) :=
  fin X hl (fun q => by rw [hret] at q; cases q) hc hs eT hQ fun fs hr => retOut X hx hret rfl (Or.inr (Or.inl ⟨rfl, rfl, _, rfl⟩)) hd hr
theorem finA (X : Stand p l e R s m args below meth c T locs cells slots) (hx : p.tables.exec = Jvm.exec) (hl : meth.locks = false) {Q : Option Value → Heap → List Loc → Prop} {rc rs pc : Nat} {Ls : Array Slot} {w : Value} {t : FieldType} {rest : List Value} {h : Heap} (hret : meth.sig.returnType = some t) (hd : decode c.code pc = .ok (.areturn, 1)) (ht : t.isReference = true) (hw : w.isRef = true) (hc : cells ≤ rc) (hs : slots ≤ rs) (eT : T.heap = h) (hQ : Q (some w) h locs) : Run p.tables e below (PQ s below rc rs Q) (T.setTop (mkF m pc Ls (w :: rest))) :=
  fin X hl (fun q => by rw [hret] at q; cases q) hc hs eT hQ fun fs hr => retOut X hx hret (by cases t <;> first | rfl | (cases w <;> first | rfl | cases ht)) (Or.inr (Or.inr (Or.inr (Or.inr ⟨rfl, ht, hw⟩)))) hd hr
/-- the same for a body that may load String constants -/
def PW (s : State) (below : List Frame) (rc rs : Nat) (Q : Option Value → Heap → List Loc → Prop) (s₂ : State) (o : Outcome) : Prop := s₂.status = .running ∧ Ended s₂ below o ∧ ∃ v L, o = .returned v ∧ Q v s₂.heap L ∧ ReturnedEndW s o s₂ L rc rs
theorem finW {vm : Vm} {n : Nat} (X : Stand p l e R (s.setVm vm) m args below meth c T locs cells slots) {A : State} {Q : Option Value → Heap → List Loc → Prop} {rc rs : Nat} {v : Option Value} {h : Heap} (hS : s.Since vm n) (hk : n ≤ h.size) (hl : meth.locks = false) (hv : meth.sig.returnType = none → v = none) (hc : cells ≤ rc) (hs : slots ≤ rs) (eT : T.heap = h) (hQ : Q v h locs)
    (st : ∀ fs, (∀ (f : JFrame) (acts : List Action), f.method = m → f.locked = none → f.entered = [] → (doReturn e (T.setTop f) acts v).1 = T.setFrames fs) → Steps p.tables e below A (T.setFrames fs)) : Run p.tables e below (PW s below rc rs Q) A := by
  obtain ⟨fs, hr, hrun, hended, hE⟩ := X.leaveW hS (by rw [eT]; exact hk) (v := v) hv hl
  refine ⟨_, _, st fs hr, hrun, hended, _, _, rfl, ?_, hE.1, hE.2.1, hE.2.2.1, hE.2.2.2.mono hc hs⟩
  show Q v T.heap locs
  rw [eT]
  exact hQ
theorem finVW {vm : Vm} {n : Nat} (X : Stand p l e R (s.setVm vm) m args below meth c T locs cells slots) (hx : p.tables.exec = Jvm.exec) {h : Heap} (hS : s.Since vm n) (hk : n ≤ h.size) (hl : meth.locks = false) {Q : Option Value → Heap → List Loc → Prop} {rc rs pc : Nat} {Ls : Array Slot} (hret : meth.sig.returnType = none) (hd : decode c.code pc = .ok (.return_, 1)) (hc : cells ≤ rc) (hs : slots ≤ rs) (eT : T.heap = h) (hQ : Q none h locs) : Run p.tables e below (PW s below rc rs Q) (T.setTop (mkF m pc Ls [])) :=
  finW X hS hk hl (fun _ => rfl) hc hs eT hQ fun fs hr => X.returnOut hx hret hd hr
theorem finIW {vm : Vm} {n : Nat} (X : Stand p l e R (s.setVm vm) m args below meth c T locs cells slots) (hx : p.tables.exec = Jvm.exec) {h : Heap} (hS : s.Since vm n) (hk : n ≤ h.size) (hl : meth.locks = false) {Q : Option Value → Heap → List Loc → Prop} {rc rs pc : Nat} {Ls : Array Slot} {z : Int32} {rest : List Value} (hret : meth.sig.returnType = some .int) (hd : decode c.code pc = .ok (.ireturn, 1)) (hc : cells ≤ rc) (hs : slots ≤ rs) (eT : T.heap = h) (hQ : Q (some (.int z)) h locs) : Run p.tables e below (PW s below rc rs Q) (T.setTop (mkF m pc Ls (.int z :: rest))) :=
  finW X hS hk hl (fun q => by rw [hret] at q; cases q) hc hs eT hQ fun fs hr => retOut X hx hret rfl (Or.inl ⟨rfl, Or.inl rfl, _, rfl⟩) hd hr
theorem finZW {vm : Vm} {n : Nat} (X : Stand p l e R (s.setVm vm) m args below meth c T locs cells slots) (hx : p.tables.exec = Jvm.exec) {h : Heap} (hS : s.Since vm n) (hk : n ≤ h.size) (hl : meth.locks = false) {Q : Option Value → Heap → List Loc → Prop} {rc rs pc : Nat} {Ls : Array Slot} {z : Int32} {rest : List Value} (hret : meth.sig.returnType = some .boolean) (hd : decode c.code pc = .ok (.ireturn, 1)) (hz : z = 0 ∨ z = 1) (hc : cells ≤ rc) (hs : slots ≤ rs) (eT : T.heap = h) (hQ : Q (some (.int z)) h locs) : Run p.tables e below (PW s below rc rs Q) (T.setTop (mkF m pc Ls (.int z :: rest))) :=
  finW X hS hk hl (fun q => by rw [hret] at q; cases q) hc hs eT hQ fun fs hr => retOut X hx hret (by rcases hz with rfl | rfl <;> rfl) (Or.inl ⟨rfl, Or.inr (Or.inl rfl), _, rfl⟩) hd hr
theorem finBW {vm : Vm} {n : Nat} (X : Stand p l e R (s.setVm vm) m args below meth c T locs cells slots) (hx : p.tables.exec = Jvm.exec) {h : Heap} (hS : s.Since vm n) (hk : n ≤ h.size) (hl : meth.locks = false) {Q : Option Value → Heap → List Loc → Prop} {rc rs pc : Nat} {Ls : Array Slot} {z : Int32} {rest : List Value} (hret : meth.sig.returnType = some .byte) (hd : decode c.code pc = .ok (.ireturn, 1)) (hz : narrow .byte (.int z) = .int z) (hc : cells ≤ rc) (hs : slots ≤ rs) (eT : T.heap = h) (hQ : Q (some (.int z)) h locs) : Run p.tables e below (PW s below rc rs Q) (T.setTop (mkF m pc Ls (.int z :: rest))) :=
  finW X hS hk hl (fun q => by rw [hret] at q; cases q) hc hs eT hQ fun fs hr => retOut X hx hret hz (Or.inl ⟨rfl, Or.inr (Or.inr (Or.inl rfl)), _, rfl⟩) hd hr
theorem finJW {vm : Vm} {n : Nat} (X : Stand p l e R (s.setVm vm) m args below meth c T locs cells slots) (hx : p.tables.exec = Jvm.exec) {h : Heap} (hS : s.Since vm n) (hk : n ≤ h.size) (hl : meth.locks = false) {Q : Option Value → Heap → List Loc → Prop} {rc rs pc : Nat} {Ls : Array Slot} {z : Int64} {rest : List Value} (hret : meth.sig.returnType = some .long) (hd : decode c.code pc = .ok (.lreturn, 1)) (hc : cells ≤ rc) (hs : slots ≤ rs) (eT : T.heap = h) (hQ : Q (some (.long z)) h locs) : Run p.tables e below (PW s below rc rs Q) (T.setTop (mkF m pc Ls (.long z :: rest))) :=
  finW X hS hk hl (fun q => by rw [hret] at q; cases q) hc hs eT hQ fun fs hr => retOut X hx hret rfl (Or.inr (Or.inl ⟨rfl, rfl, _, rfl⟩)) hd hr
theorem finAW {vm : Vm} {n : Nat} (X : Stand p l e R (s.setVm vm) m args below meth c T locs cells slots) (hx : p.tables.exec = Jvm.exec) {h : Heap} (hS : s.Since vm n) (hk : n ≤ h.size) (hl : meth.locks = false) {Q : Option Value → Heap → List Loc → Prop} {rc rs pc : Nat} {Ls : Array Slot} {w : Value} {t : FieldType} {rest : List Value} (hret : meth.sig.returnType = some t) (hd : decode c.code pc = .ok (.areturn, 1)) (ht : t.isReference = true) (hw : w.isRef = true) (hc : cells ≤ rc) (hs : slots ≤ rs) (eT : T.heap = h) (hQ : Q (some w) h locs) : Run p.tables e below (PW s below rc rs Q) (T.setTop (mkF m pc Ls (w :: rest))) :=
  finW X hS hk hl (fun q => by rw [hret] at q; cases q) hc hs eT hQ fun fs hr => retOut X hx hret (by cases t <;> first | rfl | (cases w <;> first | rfl | cases ht)) (Or.inr (Or.inr (Or.inr (Or.inr ⟨rfl, ht, hw⟩)))) hd hr
theorem own_lrem {g : JFrame} {target : State} (X : Stand p l e R s m args below meth c T locs cells slots) (hx : p.tables.exec = Jvm.exec) (hg : g.method = m) {x y : Int64} {rest : List Value} (hd : decode c.code g.pc = .ok (.lrem, 1)) (hs : g.stack = .long y :: .long x :: rest) (hy : y ≠ 0)
    (hr : Steps p.tables e below (T.setTop { g with pc := g.pc + 1, stack := .long (x % y) :: rest }) target) : Steps p.tables e below (T.setTop g) target :=
  XS.lrem X.here hx hg hd hs hy (by rw [lrem_mod]; exact hr)
end Walks
end Jvm.OwnW
namespace Jvm.Pilot.@@N@@
open Jvm Jvm.ClassFile Sem Op Lib Jvm.Free Jvm.Stand Jvm.LawKit Jvm.RoadKit Jvm.OwnW Bundle Jvm.Pilot.@@N@@.Jvm.D
theorem pn_com_example_hashspace_hashspace_server_FrameBudget : plainName "com/example/hashspace/hashspace/server/FrameBudget" = true := by first | (simp [plainName, overriddenIn]; done) | decide +kernel
theorem d1_0 : decode prog_90_method_1_code 0 = .ok (.aload_n 0, 1) := by decide +kernel
theorem d1_1 : decode prog_90_method_1_code 1 = .ok (.invokespecial 1, 3) := by decide +kernel
theorem d1_4 : decode prog_90_method_1_code 4 = .ok (.aload_n 0, 1) := by decide +kernel
theorem d1_5 : decode prog_90_method_1_code 5 = .ok (.lload_n 1, 1) := by decide +kernel
theorem d1_6 : decode prog_90_method_1_code 6 = .ok (.putfield 7, 3) := by decide +kernel
theorem d1_9 : decode prog_90_method_1_code 9 = .ok (.return_, 1) := by decide +kernel
theorem ef_1 (m : MethodId) (x0 : Addr) (x1 : Int64) : entryFrame m #[(.ref x0), (.long x1)] 3 = mkF m 0 #[.val (.ref x0), .val (.long x1), .second] [] := by first | (simp [entryFrame, mkF, argsToLocals, Value.category, maxLocals]; done) | rfl
def Q1 (Z : State) (a1 : Addr) (q2 : Int64) (h0 : Heap) (n0 : Nat) (v : Option Value) (h : Heap) (L : List Loc) : Prop := v = none ∧ Fr n0 L ∧ Keep h0 h [a1] ∧ Fld Z h a1 "com/example/hashspace/hashspace/server/FrameBudget" "limit" "J" (.long q2) ∧ Fld Z h a1 "com/example/hashspace/hashspace/server/FrameBudget" "held" "J" (.long (0 : Int64))
set_option maxRecDepth 65536 in
set_option maxHeartbeats 40000000 in
theorem rm1 (l : Launch) (Z : State) (a0 : Array Value) (hw : ∀ d ∈ tables_1, d.before a0 Z = true) (ws : List Jvm.Cond) (a1 : Addr) (q2 : Int64) (h0 : Heap) (n0 : Nat) (Z0 : n0 ≤ h0.size) (F1 : Fld Z h0 a1 "com/example/hashspace/hashspace/server/FrameBudget" "limit" "J" (.long (0 : Int64))) (F2 : Fld Z h0 a1 "com/example/hashspace/hashspace/server/FrameBudget" "held" "J" (.long (0 : Int64))) (E1 : Exa Z h0 a1 "com/example/hashspace/hashspace/server/FrameBudget") (g1 : n0 ≤ a1) :
    MetFree l (⟨"com/example/hashspace/hashspace/server/FrameBudget", "<init>", "(J)V"⟩ : MethodName) (head1 (Jvm.Cond.code (⟨"com/example/hashspace/hashspace/server/FrameBudget", "<init>", "(J)V"⟩ : MethodName) prog_90_method_1_code 3 none :: ws) ({ frames := 1, cells := 0, slots := 0, locals := 12 } : Room)) (fun a U => a = #[(.ref a1), (.long q2)] ∧ Z.Warmed39 U.vm ∧ U.heap = h0) (fun _ _ _ _ _ => True) (fun _ U o U' => ∃ v L, o = .returned v ∧ Q1 Z a1 q2 h0 n0 v U'.heap L ∧ FrameEnd U o U' L ({ frames := 1, cells := 0, slots := 0, locals := 12 } : Room).cells ({ frames := 1, cells := 0, slots := 0, locals := 12 } : Room).slots) := by
  refine MetFree.of_bodySF (plainFor_of_name pn_com_example_hashspace_hashspace_server_FrameBudget) hisR ?_
  intro p e s m args below meth c s₁ Bd hml0 hP hK
  obtain ⟨rfl, hZ, hh⟩ := hP
  have hx := Bd.exec
  have hby := Bd.bytes
  have w3 := hw _ (List.mem_of_getElem? (i := 3) rfl)
  have w8 := hw _ (List.mem_of_getElem? (i := 8) rfl)
  have w9 := hw _ (List.mem_of_getElem? (i := 9) rfl)
  have w10 := hw _ (List.mem_of_getElem? (i := 10) rfl)
  have w11 := hw _ (List.mem_of_getElem? (i := 11) rfl)
  have w12 := hw _ (List.mem_of_getElem? (i := 12) rfl)
  have w19 := hw _ (List.mem_of_getElem? (i := 19) rfl)
  have hml : c.maxLocals = 3 := hml0
  have hown : s.vm.findClass "com/example/hashspace/hashspace/server/FrameBudget" = some m.cls := findClass_of_methodNamed Bd.named
  have hnm := (name_of_methodNamed Bd.named Bd.method).1
  have X0 : Stand p l e ({ frames := 1, cells := 0, slots := 0, locals := 12 } : Room) s m #[(.ref a1), (.long q2)] below meth c s₁ [] 0 0 := Stand.of_body Bd
  have e0 : s₁.heap = h0 := by rw [← hh, Bd.state]; rfl
  have N0 := Fr.nil n0
  show Run p.tables e below (PQ s below 0 0 (Q1 Z a1 q2 h0 n0)) (s₁.setTop (entryFrame m #[(.ref a1), (.long q2)] 3))
  refine Run.step (fun t k => castTop (ef_1 m a1 q2) k) ?_
  show Run _ _ _ _ (s₁.setTop (mkF m 0 #[.val (.ref a1), .val (.long q2), .second] []))
  refine Run.step (fun t_ k_ => XS.aloadN X0.here hx rfl (hb hby d1_0) rfl rfl k_) ?_
  show Run _ _ _ _ (s₁.setTop (mkF m 1 #[.val (.ref a1), .val (.long q2), .second] [(.ref a1)]))
  obtain ⟨T1, X1, e1, st1⟩ := initO X0 hx hZ hown w8 w9 w10 e0 (g := (mkF m 1 #[.val (.ref a1), .val (.long q2), .second] [(.ref a1)])) rfl (by rw [hml]; rfl) rfl (hb hby d1_1) (by decide) (W := 0) (by show 2 * 0 + _ ≤ _; exact Nat.le_of_eq rfl) (by decide)
  refine Run.step st1 ?_
  show Run _ _ _ _ (T1.setTop (mkF m 4 #[.val (.ref a1), .val (.long q2), .second] []))
  refine Run.step (fun t_ k_ => XS.aloadN X1.here hx rfl (hb hby d1_4) rfl rfl k_) ?_
  show Run _ _ _ _ (T1.setTop (mkF m 5 #[.val (.ref a1), .val (.long q2), .second] [(.ref a1)]))
  refine Run.step (fun t_ k_ => XS.lloadN X1.here hx rfl (hb hby d1_5) rfl k_) ?_
  show Run _ _ _ _ (T1.setTop (mkF m 6 #[.val (.ref a1), .val (.long q2), .second] [(.long q2), (.ref a1)]))
  obtain ⟨T2, h2, X2, e2, W2, st2⟩ := putF X1 hx hZ hown (host := "") (Or.inl w11) Via.refl e1 F1 E1 (Or.inr ⟨w12, rfl, hnm⟩) w3 (ty := .long) (by decide) rfl rfl (g := (mkF m 6 #[.val (.ref a1), .val (.long q2), .second] [(.long q2), (.ref a1)])) rfl rfl (hb hby d1_6)
  refine Run.step st2 ?_
  have f3 := F1.same W2
  have f4 := F2.other W2 (Or.inr (slot_ne (Or.inl w19) (Or.inr w12) (by decide) (t := .long) (t' := .long) (by decide) (by decide)))
  have f5 := E1.wr W2
  have z6 := Nat.le_trans Z0 (Keep.of_wr W2).1
  have K7 := (Keep.refl h0 [a1]).wr W2 (Or.inl (List.mem_of_getElem? (i := 0) rfl))
  have N8 := Fr.snoc X2 N0 g1
  show Run _ _ _ _ (T2.setTop (mkF m 9 #[.val (.ref a1), .val (.long q2), .second] []))
  exact finV X2 hx (BodyLoose.notSynchronized Bd) Bd.returns (hb hby d1_9) (by decide) (by decide) e2 ⟨rfl, N8, K7, f3, f4⟩
theorem d3_0 : decode prog_90_method_3_code 0 = .ok (.aload_n 0, 1) := by decide +kernel
theorem d3_1 : decode prog_90_method_3_code 1 = .ok (.getfield 28, 3) := by decide +kernel
theorem d3_4 : decode prog_90_method_3_code 4 = .ok (.iload_n 1, 1) := by decide +kernel
theorem d3_5 : decode prog_90_method_3_code 5 = .ok (.i2l, 1) := by decide +kernel
theorem d3_6 : decode prog_90_method_3_code 6 = .ok (.ladd, 1) := by decide +kernel
theorem d3_7 : decode prog_90_method_3_code 7 = .ok (.aload_n 0, 1) := by decide +kernel
theorem d3_8 : decode prog_90_method_3_code 8 = .ok (.getfield 7, 3) := by decide +kernel
theorem d3_11 : decode prog_90_method_3_code 11 = .ok (.lcmp, 1) := by decide +kernel
theorem d3_12 : decode prog_90_method_3_code 12 = .ok (.ifCond .gt 7, 3) := by decide +kernel
theorem d3_15 : decode prog_90_method_3_code 15 = .ok (.iconst 1, 1) := by decide +kernel
theorem d3_16 : decode prog_90_method_3_code 16 = .ok (.goto 4, 3) := by decide +kernel
theorem d3_20 : decode prog_90_method_3_code 20 = .ok (.istore_n 2, 1) := by decide +kernel
theorem d3_21 : decode prog_90_method_3_code 21 = .ok (.iload_n 2, 1) := by decide +kernel
theorem d3_22 : decode prog_90_method_3_code 22 = .ok (.ifCond .eq 14, 3) := by decide +kernel
theorem d3_25 : decode prog_90_method_3_code 25 = .ok (.aload_n 0, 1) := by decide +kernel
theorem d3_26 : decode prog_90_method_3_code 26 = .ok (.dup, 1) := by decide +kernel
theorem d3_27 : decode prog_90_method_3_code 27 = .ok (.getfield 28, 3) := by decide +kernel
theorem d3_30 : decode prog_90_method_3_code 30 = .ok (.iload_n 1, 1) := by decide +kernel
theorem d3_31 : decode prog_90_method_3_code 31 = .ok (.i2l, 1) := by decide +kernel
theorem d3_32 : decode prog_90_method_3_code 32 = .ok (.ladd, 1) := by decide +kernel
theorem d3_33 : decode prog_90_method_3_code 33 = .ok (.putfield 28, 3) := by decide +kernel
theorem d3_36 : decode prog_90_method_3_code 36 = .ok (.iload_n 2, 1) := by decide +kernel
theorem d3_37 : decode prog_90_method_3_code 37 = .ok (.ireturn, 1) := by decide +kernel
theorem ef_3y (m : MethodId) (x0 : Addr) (x1 : Int32) : entryFrame m #[(.ref x0), (.int x1)] 3 = mkF m 0 #[.val (.ref x0), .val (.int x1), .unset] [] := by first | (simp [entryFrame, mkF, argsToLocals, Value.category, maxLocals]; done) | rfl
def Q3y (Z : State) (a1 : Addr) (q2 : Int32) (H : Int64) (M : Int64) (h0 : Heap) (n0 : Nat) (v : Option Value) (h : Heap) (L : List Loc) : Prop := v = some (.int (1 : Int32)) ∧ Fr n0 L ∧ Keep h0 h [a1] ∧ Fld Z h a1 "com/example/hashspace/hashspace/server/FrameBudget" "limit" "J" (.long M) ∧ Fld Z h a1 "com/example/hashspace/hashspace/server/FrameBudget" "held" "J" (.long (H + q2.toInt64))
set_option maxRecDepth 65536 in
set_option maxHeartbeats 40000000 in
theorem rm3y (l : Launch) (Z : State) (a0 : Array Value) (hw : ∀ d ∈ tables_1, d.before a0 Z = true) (ws : List Jvm.Cond) (a1 : Addr) (q2 : Int32) (H : Int64) (M : Int64) (h0 : Heap) (n0 : Nat) (Z0 : n0 ≤ h0.size) (hc : ¬ (M < (H + q2.toInt64))) (F1 : Fld Z h0 a1 "com/example/hashspace/hashspace/server/FrameBudget" "limit" "J" (.long M)) (F2 : Fld Z h0 a1 "com/example/hashspace/hashspace/server/FrameBudget" "held" "J" (.long H)) (E1 : Exa Z h0 a1 "com/example/hashspace/hashspace/server/FrameBudget") (g1 : n0 ≤ a1) :
    MetFree l (⟨"com/example/hashspace/hashspace/server/FrameBudget", "reserve", "(I)Z"⟩ : MethodName) (head1 (Jvm.Cond.code (⟨"com/example/hashspace/hashspace/server/FrameBudget", "reserve", "(I)Z"⟩ : MethodName) prog_90_method_3_code 3 (some .boolean) :: ws) ({ frames := 0, cells := 0, slots := 0, locals := 0 } : Room)) (fun a U => a = #[(.ref a1), (.int q2)] ∧ Z.Warmed39 U.vm ∧ U.heap = h0) (fun _ _ _ _ _ => True) (fun _ U o U' => ∃ v L, o = .returned v ∧ Q3y Z a1 q2 H M h0 n0 v U'.heap L ∧ FrameEnd U o U' L ({ frames := 0, cells := 0, slots := 0, locals := 0 } : Room).cells ({ frames := 0, cells := 0, slots := 0, locals := 0 } : Room).slots) := by
  refine MetFree.of_bodySF (plainFor_of_name pn_com_example_hashspace_hashspace_server_FrameBudget) hisR ?_
  intro p e s m args below meth c s₁ Bd hml0 hP hK
  obtain ⟨rfl, hZ, hh⟩ := hP
  have hx := Bd.exec
  have hby := Bd.bytes
  have w3 := hw _ (List.mem_of_getElem? (i := 3) rfl)
  have w11 := hw _ (List.mem_of_getElem? (i := 11) rfl)
  have w12 := hw _ (List.mem_of_getElem? (i := 12) rfl)
  have w18 := hw _ (List.mem_of_getElem? (i := 18) rfl)
  have w19 := hw _ (List.mem_of_getElem? (i := 19) rfl)
  have hml : c.maxLocals = 3 := hml0
  have hown : s.vm.findClass "com/example/hashspace/hashspace/server/FrameBudget" = some m.cls := findClass_of_methodNamed Bd.named
  have hnm := (name_of_methodNamed Bd.named Bd.method).1
  have X0 : Stand p l e ({ frames := 0, cells := 0, slots := 0, locals := 0 } : Room) s m #[(.ref a1), (.int q2)] below meth c s₁ [] 0 0 := Stand.of_body Bd
  have e0 : s₁.heap = h0 := by rw [← hh, Bd.state]; rfl
  have N0 := Fr.nil n0
  show Run p.tables e below (PQ s below 0 0 (Q3y Z a1 q2 H M h0 n0)) (s₁.setTop (entryFrame m #[(.ref a1), (.int q2)] 3))
  refine Run.step (fun t k => castTop (ef_3y m a1 q2) k) ?_
  show Run _ _ _ _ (s₁.setTop (mkF m 0 #[.val (.ref a1), .val (.int q2), .unset] []))
  refine Run.step (fun t_ k_ => XS.aloadN X0.here hx rfl (hb hby d3_0) rfl rfl k_) ?_
  show Run _ _ _ _ (s₁.setTop (mkF m 1 #[.val (.ref a1), .val (.int q2), .unset] [(.ref a1)]))
  obtain ⟨T9, X9, e9, st9⟩ := getF X0 hx hZ hown (host := "") (Or.inl w18) Via.refl e0 F2 (g := (mkF m 1 #[.val (.ref a1), .val (.int q2), .unset] [(.ref a1)])) rfl rfl (hb hby d3_1)
  refine Run.step st9 ?_
  show Run _ _ _ _ (T9.setTop (mkF m 4 #[.val (.ref a1), .val (.int q2), .unset] [(.long H)]))
  refine Run.step (fun t_ k_ => XS.iloadN X9.here hx rfl (hb hby d3_4) rfl k_) ?_
  show Run _ _ _ _ (T9.setTop (mkF m 5 #[.val (.ref a1), .val (.int q2), .unset] [(.int q2), (.long H)]))
  refine Run.step (fun t_ k_ => XS.i2l X9.here hx rfl (hb hby d3_5) rfl k_) ?_
  show Run _ _ _ _ (T9.setTop (mkF m 6 #[.val (.ref a1), .val (.int q2), .unset] [(.long (q2.toInt64)), (.long H)]))
  refine Run.step (fun t_ k_ => XS.ladd X9.here hx rfl (hb hby d3_6) rfl k_) ?_
  show Run _ _ _ _ (T9.setTop (mkF m 7 #[.val (.ref a1), .val (.int q2), .unset] [(.long (H + (q2.toInt64)))]))
  refine Run.step (fun t_ k_ => XS.aloadN X9.here hx rfl (hb hby d3_7) rfl rfl k_) ?_
  show Run _ _ _ _ (T9.setTop (mkF m 8 #[.val (.ref a1), .val (.int q2), .unset] [(.ref a1), (.long (H + (q2.toInt64)))]))
  obtain ⟨T10, X10, e10, st10⟩ := getF X9 hx hZ hown (host := "") (Or.inl w11) Via.refl e9 F1 (g := (mkF m 8 #[.val (.ref a1), .val (.int q2), .unset] [(.ref a1), (.long (H + (q2.toInt64)))])) rfl rfl (hb hby d3_8)
  refine Run.step st10 ?_
  show Run _ _ _ _ (T10.setTop (mkF m 11 #[.val (.ref a1), .val (.int q2), .unset] [(.long M), (.long (H + (q2.toInt64)))]))
  refine Run.step (fun t_ k_ => XS.lcmp X10.here hx rfl (hb hby d3_11) rfl k_) ?_
  show Run _ _ _ _ (T10.setTop (mkF m 12 #[.val (.ref a1), .val (.int q2), .unset] [(.int (lcmpW (H + (q2.toInt64)) M))]))
  refine Run.step (fun t_ k_ => XS.ifNo X10.here hx rfl (hb hby d3_12) rfl (XT.ll_gt_f (hc : ¬ (M < (H + (q2.toInt64))))) k_) ?_
  show Run _ _ _ _ (T10.setTop (mkF m 15 #[.val (.ref a1), .val (.int q2), .unset] []))
  refine Run.step (fun t_ k_ => XS.iconst X10.here hx rfl (hb hby d3_15) k_) ?_
  show Run _ _ _ _ (T10.setTop (mkF m 16 #[.val (.ref a1), .val (.int q2), .unset] [(.int (1 : Int32))]))
  refine Run.step (fun t_ k_ => XS.goto X10.here hx rfl (pc0 := 16) (pc' := 20) rfl (hb hby d3_16) (by decide) (by decide) k_) ?_
  show Run _ _ _ _ (T10.setTop (mkF m 20 #[.val (.ref a1), .val (.int q2), .unset] [(.int (1 : Int32))]))
  refine Run.step (fun t_ k_ => XS.istoreN X10.here hx rfl (hb hby d3_20) rfl (l' := #[.val (.ref a1), .val (.int q2), .val (.int (1 : Int32))]) rfl k_) ?_
  show Run _ _ _ _ (T10.setTop (mkF m 21 #[.val (.ref a1), .val (.int q2), .val (.int (1 : Int32))] []))
  refine Run.step (fun t_ k_ => XS.iloadN X10.here hx rfl (hb hby d3_21) rfl k_) ?_
  show Run _ _ _ _ (T10.setTop (mkF m 22 #[.val (.ref a1), .val (.int q2), .val (.int (1 : Int32))] [(.int (1 : Int32))]))
  refine Run.step (fun t_ k_ => XS.ifNo X10.here hx rfl (hb hby d3_22) rfl (XT.i0_eq_f (by decide : ¬ ((1 : Int32) = (0 : Int32)))) k_) ?_
  show Run _ _ _ _ (T10.setTop (mkF m 25 #[.val (.ref a1), .val (.int q2), .val (.int (1 : Int32))] []))
  refine Run.step (fun t_ k_ => XS.aloadN X10.here hx rfl (hb hby d3_25) rfl rfl k_) ?_
  show Run _ _ _ _ (T10.setTop (mkF m 26 #[.val (.ref a1), .val (.int q2), .val (.int (1 : Int32))] [(.ref a1)]))
  refine Run.step (fun t_ k_ => XS.dup X10.here hx rfl (hb hby d3_26) rfl rfl k_) ?_
  show Run _ _ _ _ (T10.setTop (mkF m 27 #[.val (.ref a1), .val (.int q2), .val (.int (1 : Int32))] [(.ref a1), (.ref a1)]))
  obtain ⟨T11, X11, e11, st11⟩ := getF X10 hx hZ hown (host := "") (Or.inl w18) Via.refl e10 F2 (g := (mkF m 27 #[.val (.ref a1), .val (.int q2), .val (.int (1 : Int32))] [(.ref a1), (.ref a1)])) rfl rfl (hb hby d3_27)
  refine Run.step st11 ?_
  show Run _ _ _ _ (T11.setTop (mkF m 30 #[.val (.ref a1), .val (.int q2), .val (.int (1 : Int32))] [(.long H), (.ref a1)]))
  refine Run.step (fun t_ k_ => XS.iloadN X11.here hx rfl (hb hby d3_30) rfl k_) ?_
  show Run _ _ _ _ (T11.setTop (mkF m 31 #[.val (.ref a1), .val (.int q2), .val (.int (1 : Int32))] [(.int q2), (.long H), (.ref a1)]))
  refine Run.step (fun t_ k_ => XS.i2l X11.here hx rfl (hb hby d3_31) rfl k_) ?_
  show Run _ _ _ _ (T11.setTop (mkF m 32 #[.val (.ref a1), .val (.int q2), .val (.int (1 : Int32))] [(.long (q2.toInt64)), (.long H), (.ref a1)]))
  refine Run.step (fun t_ k_ => XS.ladd X11.here hx rfl (hb hby d3_32) rfl k_) ?_
  show Run _ _ _ _ (T11.setTop (mkF m 33 #[.val (.ref a1), .val (.int q2), .val (.int (1 : Int32))] [(.long (H + (q2.toInt64))), (.ref a1)]))
  obtain ⟨T12, h12, X12, e12, W12, st12⟩ := putF X11 hx hZ hown (host := "") (Or.inl w18) Via.refl e11 F2 E1 (Or.inl w19) w3 (ty := .long) (by decide) rfl rfl (g := (mkF m 33 #[.val (.ref a1), .val (.int q2), .val (.int (1 : Int32))] [(.long (H + (q2.toInt64))), (.ref a1)])) rfl rfl (hb hby d3_33)
  refine Run.step st12 ?_
  have f13 := F1.other W12 (Or.inr (slot_ne (Or.inr w12) (Or.inl w19) (by decide) (t := .long) (t' := .long) (by decide) (by decide)))
  have f14 := F2.same W12
  have f15 := E1.wr W12
  have z16 := Nat.le_trans Z0 (Keep.of_wr W12).1
  have K17 := (Keep.refl h0 [a1]).wr W12 (Or.inl (List.mem_of_getElem? (i := 0) rfl))
  have N18 := Fr.snoc X12 N0 g1
  show Run _ _ _ _ (T12.setTop (mkF m 36 #[.val (.ref a1), .val (.int q2), .val (.int (1 : Int32))] []))
  refine Run.step (fun t_ k_ => XS.iloadN X12.here hx rfl (hb hby d3_36) rfl k_) ?_
  show Run _ _ _ _ (T12.setTop (mkF m 37 #[.val (.ref a1), .val (.int q2), .val (.int (1 : Int32))] [(.int (1 : Int32))]))
  exact finZ X12 hx (BodyLoose.notSynchronized Bd) Bd.returns (hb hby d3_37) (by decide) (by decide) (by decide) e12 ⟨rfl, N18, K17, f13, f14⟩
theorem d3_19 : decode prog_90_method_3_code 19 = .ok (.iconst 0, 1) := by decide +kernel
theorem ef_3n (m : MethodId) (x0 : Addr) (x1 : Int32) : entryFrame m #[(.ref x0), (.int x1)] 3 = mkF m 0 #[.val (.ref x0), .val (.int x1), .unset] [] := by first | (simp [entryFrame, mkF, argsToLocals, Value.category, maxLocals]; done) | rfl
def Q3n (Z : State) (a1 : Addr) (q2 : Int32) (H : Int64) (M : Int64) (h0 : Heap) (n0 : Nat) (v : Option Value) (h : Heap) (L : List Loc) : Prop := v = some (.int (0 : Int32)) ∧ Fr n0 L ∧ Keep h0 h [a1] ∧ Fld Z h a1 "com/example/hashspace/hashspace/server/FrameBudget" "limit" "J" (.long M) ∧ Fld Z h a1 "com/example/hashspace/hashspace/server/FrameBudget" "held" "J" (.long H)
set_option maxRecDepth 65536 in
set_option maxHeartbeats 40000000 in
theorem rm3n (l : Launch) (Z : State) (a0 : Array Value) (hw : ∀ d ∈ tables_1, d.before a0 Z = true) (ws : List Jvm.Cond) (a1 : Addr) (q2 : Int32) (H : Int64) (M : Int64) (h0 : Heap) (n0 : Nat) (Z0 : n0 ≤ h0.size) (hc : (M < (H + q2.toInt64))) (F1 : Fld Z h0 a1 "com/example/hashspace/hashspace/server/FrameBudget" "limit" "J" (.long M)) (F2 : Fld Z h0 a1 "com/example/hashspace/hashspace/server/FrameBudget" "held" "J" (.long H)) (E1 : Exa Z h0 a1 "com/example/hashspace/hashspace/server/FrameBudget") (g1 : n0 ≤ a1) :
    MetFree l (⟨"com/example/hashspace/hashspace/server/FrameBudget", "reserve", "(I)Z"⟩ : MethodName) (head1 (Jvm.Cond.code (⟨"com/example/hashspace/hashspace/server/FrameBudget", "reserve", "(I)Z"⟩ : MethodName) prog_90_method_3_code 3 (some .boolean) :: ws) ({ frames := 0, cells := 0, slots := 0, locals := 0 } : Room)) (fun a U => a = #[(.ref a1), (.int q2)] ∧ Z.Warmed39 U.vm ∧ U.heap = h0) (fun _ _ _ _ _ => True) (fun _ U o U' => ∃ v L, o = .returned v ∧ Q3n Z a1 q2 H M h0 n0 v U'.heap L ∧ FrameEnd U o U' L ({ frames := 0, cells := 0, slots := 0, locals := 0 } : Room).cells ({ frames := 0, cells := 0, slots := 0, locals := 0 } : Room).slots) := by
  refine MetFree.of_bodySF (plainFor_of_name pn_com_example_hashspace_hashspace_server_FrameBudget) hisR ?_
  intro p e s m args below meth c s₁ Bd hml0 hP hK
  obtain ⟨rfl, hZ, hh⟩ := hP
  have hx := Bd.exec
  have hby := Bd.bytes
  have w11 := hw _ (List.mem_of_getElem? (i := 11) rfl)
  have w18 := hw _ (List.mem_of_getElem? (i := 18) rfl)
  have hml : c.maxLocals = 3 := hml0
  have hown : s.vm.findClass "com/example/hashspace/hashspace/server/FrameBudget" = some m.cls := findClass_of_methodNamed Bd.named
  have hnm := (name_of_methodNamed Bd.named Bd.method).1
  have X0 : Stand p l e ({ frames := 0, cells := 0, slots := 0, locals := 0 } : Room) s m #[(.ref a1), (.int q2)] below meth c s₁ [] 0 0 := Stand.of_body Bd
  have e0 : s₁.heap = h0 := by rw [← hh, Bd.state]; rfl
  have N0 := Fr.nil n0
  show Run p.tables e below (PQ s below 0 0 (Q3n Z a1 q2 H M h0 n0)) (s₁.setTop (entryFrame m #[(.ref a1), (.int q2)] 3))
  refine Run.step (fun t k => castTop (ef_3n m a1 q2) k) ?_
  show Run _ _ _ _ (s₁.setTop (mkF m 0 #[.val (.ref a1), .val (.int q2), .unset] []))
  refine Run.step (fun t_ k_ => XS.aloadN X0.here hx rfl (hb hby d3_0) rfl rfl k_) ?_
  show Run _ _ _ _ (s₁.setTop (mkF m 1 #[.val (.ref a1), .val (.int q2), .unset] [(.ref a1)]))
  obtain ⟨T19, X19, e19, st19⟩ := getF X0 hx hZ hown (host := "") (Or.inl w18) Via.refl e0 F2 (g := (mkF m 1 #[.val (.ref a1), .val (.int q2), .unset] [(.ref a1)])) rfl rfl (hb hby d3_1)
  refine Run.step st19 ?_
  show Run _ _ _ _ (T19.setTop (mkF m 4 #[.val (.ref a1), .val (.int q2), .unset] [(.long H)]))
  refine Run.step (fun t_ k_ => XS.iloadN X19.here hx rfl (hb hby d3_4) rfl k_) ?_
  show Run _ _ _ _ (T19.setTop (mkF m 5 #[.val (.ref a1), .val (.int q2), .unset] [(.int q2), (.long H)]))
  refine Run.step (fun t_ k_ => XS.i2l X19.here hx rfl (hb hby d3_5) rfl k_) ?_
  show Run _ _ _ _ (T19.setTop (mkF m 6 #[.val (.ref a1), .val (.int q2), .unset] [(.long (q2.toInt64)), (.long H)]))
  refine Run.step (fun t_ k_ => XS.ladd X19.here hx rfl (hb hby d3_6) rfl k_) ?_
  show Run _ _ _ _ (T19.setTop (mkF m 7 #[.val (.ref a1), .val (.int q2), .unset] [(.long (H + (q2.toInt64)))]))
  refine Run.step (fun t_ k_ => XS.aloadN X19.here hx rfl (hb hby d3_7) rfl rfl k_) ?_
  show Run _ _ _ _ (T19.setTop (mkF m 8 #[.val (.ref a1), .val (.int q2), .unset] [(.ref a1), (.long (H + (q2.toInt64)))]))
  obtain ⟨T20, X20, e20, st20⟩ := getF X19 hx hZ hown (host := "") (Or.inl w11) Via.refl e19 F1 (g := (mkF m 8 #[.val (.ref a1), .val (.int q2), .unset] [(.ref a1), (.long (H + (q2.toInt64)))])) rfl rfl (hb hby d3_8)
  refine Run.step st20 ?_
  show Run _ _ _ _ (T20.setTop (mkF m 11 #[.val (.ref a1), .val (.int q2), .unset] [(.long M), (.long (H + (q2.toInt64)))]))
  refine Run.step (fun t_ k_ => XS.lcmp X20.here hx rfl (hb hby d3_11) rfl k_) ?_
  show Run _ _ _ _ (T20.setTop (mkF m 12 #[.val (.ref a1), .val (.int q2), .unset] [(.int (lcmpW (H + (q2.toInt64)) M))]))
  refine Run.step (fun t_ k_ => XS.ifYes X20.here hx rfl (pc0 := 12) (pc' := 19) rfl (hb hby d3_12) rfl (XT.ll_gt_t (hc : M < (H + (q2.toInt64)))) (by decide) (by decide) k_) ?_
  show Run _ _ _ _ (T20.setTop (mkF m 19 #[.val (.ref a1), .val (.int q2), .unset] []))
  refine Run.step (fun t_ k_ => XS.iconst X20.here hx rfl (hb hby d3_19) k_) ?_
  show Run _ _ _ _ (T20.setTop (mkF m 20 #[.val (.ref a1), .val (.int q2), .unset] [(.int (0 : Int32))]))
  refine Run.step (fun t_ k_ => XS.istoreN X20.here hx rfl (hb hby d3_20) rfl (l' := #[.val (.ref a1), .val (.int q2), .val (.int (0 : Int32))]) rfl k_) ?_
  show Run _ _ _ _ (T20.setTop (mkF m 21 #[.val (.ref a1), .val (.int q2), .val (.int (0 : Int32))] []))
  refine Run.step (fun t_ k_ => XS.iloadN X20.here hx rfl (hb hby d3_21) rfl k_) ?_
  show Run _ _ _ _ (T20.setTop (mkF m 22 #[.val (.ref a1), .val (.int q2), .val (.int (0 : Int32))] [(.int (0 : Int32))]))
  refine Run.step (fun t_ k_ => XS.ifYes X20.here hx rfl (pc0 := 22) (pc' := 36) rfl (hb hby d3_22) rfl (XT.i0_eq_t (by decide : (0 : Int32) = (0 : Int32))) (by decide) (by decide) k_) ?_
  show Run _ _ _ _ (T20.setTop (mkF m 36 #[.val (.ref a1), .val (.int q2), .val (.int (0 : Int32))] []))
  refine Run.step (fun t_ k_ => XS.iloadN X20.here hx rfl (hb hby d3_36) rfl k_) ?_
  show Run _ _ _ _ (T20.setTop (mkF m 37 #[.val (.ref a1), .val (.int q2), .val (.int (0 : Int32))] [(.int (0 : Int32))]))
  exact finZ X20 hx (BodyLoose.notSynchronized Bd) Bd.returns (hb hby d3_37) (by decide) (by decide) (by decide) e20 ⟨rfl, N0, (Keep.refl h0 [a1]), F1, F2⟩
theorem d4_0 : decode prog_90_method_5_code 0 = .ok (.aload_n 0, 1) := by decide +kernel
theorem d4_1 : decode prog_90_method_5_code 1 = .ok (.getfield 28, 3) := by decide +kernel
theorem d4_4 : decode prog_90_method_5_code 4 = .ok (.lreturn, 1) := by decide +kernel
theorem ef_4 (m : MethodId) (x0 : Addr) : entryFrame m #[(.ref x0)] 1 = mkF m 0 #[.val (.ref x0)] [] := by first | (simp [entryFrame, mkF, argsToLocals, Value.category, maxLocals]; done) | rfl
def Q4 (Z : State) (a1 : Addr) (H : Int64) (h0 : Heap) (n0 : Nat) (v : Option Value) (h : Heap) (L : List Loc) : Prop := v = some (.long H) ∧ Fr n0 L ∧ h = h0
set_option maxRecDepth 65536 in
set_option maxHeartbeats 40000000 in
theorem rm4 (l : Launch) (Z : State) (a0 : Array Value) (hw : ∀ d ∈ tables_1, d.before a0 Z = true) (ws : List Jvm.Cond) (a1 : Addr) (H : Int64) (h0 : Heap) (n0 : Nat) (Z0 : n0 ≤ h0.size) (F1 : Fld Z h0 a1 "com/example/hashspace/hashspace/server/FrameBudget" "held" "J" (.long H)) :
    MetFree l (⟨"com/example/hashspace/hashspace/server/FrameBudget", "held", "()J"⟩ : MethodName) (head1 (Jvm.Cond.code (⟨"com/example/hashspace/hashspace/server/FrameBudget", "held", "()J"⟩ : MethodName) prog_90_method_5_code 1 (some .long) :: ws) ({ frames := 0, cells := 0, slots := 0, locals := 0 } : Room)) (fun a U => a = #[(.ref a1)] ∧ Z.Warmed39 U.vm ∧ U.heap = h0) (fun _ _ _ _ _ => True) (fun _ U o U' => ∃ v L, o = .returned v ∧ Q4 Z a1 H h0 n0 v U'.heap L ∧ FrameEnd U o U' L ({ frames := 0, cells := 0, slots := 0, locals := 0 } : Room).cells ({ frames := 0, cells := 0, slots := 0, locals := 0 } : Room).slots) := by
  refine MetFree.of_bodySF (plainFor_of_name pn_com_example_hashspace_hashspace_server_FrameBudget) hisR ?_
  intro p e s m args below meth c s₁ Bd hml0 hP hK
  obtain ⟨rfl, hZ, hh⟩ := hP
  have hx := Bd.exec
  have hby := Bd.bytes
  have w18 := hw _ (List.mem_of_getElem? (i := 18) rfl)
  have hml : c.maxLocals = 1 := hml0
  have hown : s.vm.findClass "com/example/hashspace/hashspace/server/FrameBudget" = some m.cls := findClass_of_methodNamed Bd.named
  have hnm := (name_of_methodNamed Bd.named Bd.method).1
  have X0 : Stand p l e ({ frames := 0, cells := 0, slots := 0, locals := 0 } : Room) s m #[(.ref a1)] below meth c s₁ [] 0 0 := Stand.of_body Bd
  have e0 : s₁.heap = h0 := by rw [← hh, Bd.state]; rfl
  have N0 := Fr.nil n0
  show Run p.tables e below (PQ s below 0 0 (Q4 Z a1 H h0 n0)) (s₁.setTop (entryFrame m #[(.ref a1)] 1))
  refine Run.step (fun t k => castTop (ef_4 m a1) k) ?_
  show Run _ _ _ _ (s₁.setTop (mkF m 0 #[.val (.ref a1)] []))
  refine Run.step (fun t_ k_ => XS.aloadN X0.here hx rfl (hb hby d4_0) rfl rfl k_) ?_
  show Run _ _ _ _ (s₁.setTop (mkF m 1 #[.val (.ref a1)] [(.ref a1)]))
  obtain ⟨T21, X21, e21, st21⟩ := getF X0 hx hZ hown (host := "") (Or.inl w18) Via.refl e0 F1 (g := (mkF m 1 #[.val (.ref a1)] [(.ref a1)])) rfl rfl (hb hby d4_1)
  refine Run.step st21 ?_
  show Run _ _ _ _ (T21.setTop (mkF m 4 #[.val (.ref a1)] [(.long H)]))
  exact finJ X21 hx (BodyLoose.notSynchronized Bd) Bd.returns (hb hby d4_4) (by decide) (by decide) e21 ⟨rfl, N0, rfl⟩
theorem d5_0 : decode jdk_29_method_66_code 0 = .ok (.lload_n 0, 1) := by decide +kernel
theorem d5_1 : decode jdk_29_method_66_code 1 = .ok (.lload_n 2, 1) := by decide +kernel
theorem d5_2 : decode jdk_29_method_66_code 2 = .ok (.lcmp, 1) := by decide +kernel
theorem d5_3 : decode jdk_29_method_66_code 3 = .ok (.ifCond .lt 7, 3) := by decide +kernel
theorem d5_10 : decode jdk_29_method_66_code 10 = .ok (.lload_n 2, 1) := by decide +kernel
theorem d5_11 : decode jdk_29_method_66_code 11 = .ok (.lreturn, 1) := by decide +kernel
theorem d5_6 : decode jdk_29_method_66_code 6 = .ok (.lload_n 0, 1) := by decide +kernel
theorem d5_7 : decode jdk_29_method_66_code 7 = .ok (.goto 4, 3) := by decide +kernel
theorem ef_5 (m : MethodId) (x0 : Int64) (x1 : Int64) : entryFrame m #[(.long x0), (.long x1)] 4 = mkF m 0 #[.val (.long x0), .second, .val (.long x1), .second] [] := by first | (simp [entryFrame, mkF, argsToLocals, Value.category, maxLocals]; done) | rfl
def Q5 (Z : State) (x : Int64) (y : Int64) (h0 : Heap) (n0 : Nat) (v : Option Value) (h : Heap) (L : List Loc) : Prop := v = some (.long (if x < y then y else x)) ∧ Fr n0 L ∧ h = h0
set_option maxRecDepth 65536 in
set_option maxHeartbeats 40000000 in
theorem rm5 (l : Launch) (Z : State) (a0 : Array Value) (hw : ∀ d ∈ tables_1, d.before a0 Z = true) (ws : List Jvm.Cond) (x : Int64) (y : Int64) (h0 : Heap) (n0 : Nat) (Z0 : n0 ≤ h0.size)  :
    MetFree l (⟨"java/lang/Math", "max", "(JJ)J"⟩ : MethodName) (head1 (Jvm.Cond.code (⟨"java/lang/Math", "max", "(JJ)J"⟩ : MethodName) jdk_29_method_66_code 4 (some .long) :: ws) ({ frames := 0, cells := 0, slots := 0, locals := 0 } : Room)) (fun a U => a = #[(.long x), (.long y)] ∧ Z.Warmed39 U.vm ∧ U.heap = h0) (fun _ _ _ _ _ => True) (fun _ U o U' => ∃ v L, o = .returned v ∧ Q5 Z x y h0 n0 v U'.heap L ∧ FrameEnd U o U' L ({ frames := 0, cells := 0, slots := 0, locals := 0 } : Room).cells ({ frames := 0, cells := 0, slots := 0, locals := 0 } : Room).slots) := by
  refine MetFree.of_bodySF (by decide +kernel) hisR ?_
  intro p e s m args below meth c s₁ Bd hml0 hP hK
  obtain ⟨rfl, hZ, hh⟩ := hP
  have hx := Bd.exec
  have hby := Bd.bytes
  have hml : c.maxLocals = 4 := hml0
  have hown : s.vm.findClass "java/lang/Math" = some m.cls := findClass_of_methodNamed Bd.named
  have hnm := (name_of_methodNamed Bd.named Bd.method).1
  have X0 : Stand p l e ({ frames := 0, cells := 0, slots := 0, locals := 0 } : Room) s m #[(.long x), (.long y)] below meth c s₁ [] 0 0 := Stand.of_body Bd
  have e0 : s₁.heap = h0 := by rw [← hh, Bd.state]; rfl
  have N0 := Fr.nil n0
  show Run p.tables e below (PQ s below 0 0 (Q5 Z x y h0 n0)) (s₁.setTop (entryFrame m #[(.long x), (.long y)] 4))
  refine Run.step (fun t k => castTop (ef_5 m x y) k) ?_
  show Run _ _ _ _ (s₁.setTop (mkF m 0 #[.val (.long x), .second, .val (.long y), .second] []))
  refine Run.step (fun t_ k_ => XS.lloadN X0.here hx rfl (hb hby d5_0) rfl k_) ?_
  show Run _ _ _ _ (s₁.setTop (mkF m 1 #[.val (.long x), .second, .val (.long y), .second] [(.long x)]))
  refine Run.step (fun t_ k_ => XS.lloadN X0.here hx rfl (hb hby d5_1) rfl k_) ?_
  show Run _ _ _ _ (s₁.setTop (mkF m 2 #[.val (.long x), .second, .val (.long y), .second] [(.long y), (.long x)]))
  refine Run.step (fun t_ k_ => XS.lcmp X0.here hx rfl (hb hby d5_2) rfl k_) ?_
  show Run _ _ _ _ (s₁.setTop (mkF m 3 #[.val (.long x), .second, .val (.long y), .second] [(.int (lcmpW x y))]))
  by_cases c3 : x < y
  · skip
    refine Run.step (fun t_ k_ => XS.ifYes X0.here hx rfl (pc0 := 3) (pc' := 10) rfl (hb hby d5_3) rfl (XT.ll_lt_t c3) (by decide) (by decide) k_) ?_
    show Run _ _ _ _ (s₁.setTop (mkF m 10 #[.val (.long x), .second, .val (.long y), .second] []))
    refine Run.step (fun t_ k_ => XS.lloadN X0.here hx rfl (hb hby d5_10) rfl k_) ?_
    show Run _ _ _ _ (s₁.setTop (mkF m 11 #[.val (.long x), .second, .val (.long y), .second] [(.long y)]))
    exact finJ X0 hx (BodyLoose.notSynchronized Bd) Bd.returns (hb hby d5_11) (by decide) (by decide) e0 ⟨by simp [c3], N0, rfl⟩
  · skip
    refine Run.step (fun t_ k_ => XS.ifNo X0.here hx rfl (hb hby d5_3) rfl (XT.ll_lt_f c3) k_) ?_
    show Run _ _ _ _ (s₁.setTop (mkF m 6 #[.val (.long x), .second, .val (.long y), .second] []))
    refine Run.step (fun t_ k_ => XS.lloadN X0.here hx rfl (hb hby d5_6) rfl k_) ?_
    show Run _ _ _ _ (s₁.setTop (mkF m 7 #[.val (.long x), .second, .val (.long y), .second] [(.long x)]))
    refine Run.step (fun t_ k_ => XS.goto X0.here hx rfl (pc0 := 7) (pc' := 11) rfl (hb hby d5_7) (by decide) (by decide) k_) ?_
    show Run _ _ _ _ (s₁.setTop (mkF m 11 #[.val (.long x), .second, .val (.long y), .second] [(.long x)]))
    exact finJ X0 hx (BodyLoose.notSynchronized Bd) Bd.returns (hb hby d5_11) (by decide) (by decide) e0 ⟨by simp [c3], N0, rfl⟩
theorem pn_com_example_hashspace_hashspace_server_FrameBudgetReservePinLaw : plainName "com/example/hashspace/hashspace/server/FrameBudgetReservePinLaw" = true := by first | (simp [plainName, overriddenIn]; done) | decide +kernel
theorem pd__28J_29V : parseMethodDescriptor "(J)V" = some ⟨[.long], none⟩ := by decide +kernel
theorem pd__28I_29Z : parseMethodDescriptor "(I)Z" = some ⟨[.int], some .boolean⟩ := by decide +kernel
theorem pd__28_29J : parseMethodDescriptor "()J" = some ⟨[], some .long⟩ := by decide +kernel
theorem pd__28JJ_29J : parseMethodDescriptor "(JJ)J" = some ⟨[.long, .long], some .long⟩ := by decide +kernel
theorem ef_0 (m : MethodId) (x0 : Int64) (x1 : Int32) (x2 : Int32) (x3 : Int32) : entryFrame m #[(.long x0), (.int x1), (.int x2), (.int x3)] maxLocals = mkF m 0 #[.val (.long x0), .second, .val (.int x1), .val (.int x2), .val (.int x3), .unset, .unset, .unset, .unset, .unset, .unset, .unset, .unset, .unset, .unset, .unset, .unset, .unset] [] := by first | (simp [entryFrame, mkF, argsToLocals, Value.category, maxLocals]; done) | rfl
def Q0 (Z : State) (p1 : Int64) (p2 : Int32) (p3 : Int32) (p4 : Int32) (h0 : Heap) (n0 : Nat) (v : Option Value) (h : Heap) (L : List Loc) : Prop := v = some (.int 1) ∧ Fr n0 L
set_option maxRecDepth 65536 in
set_option maxHeartbeats 40000000 in
theorem rm0 (l : Launch) (Z : State) (a0 : Array Value) (hw : ∀ d ∈ tables_1, d.before a0 Z = true) (ws : List Jvm.Cond) (p1 : Int64) (p2 : Int32) (p3 : Int32) (p4 : Int32) (h0 : Heap) (n0 : Nat) (Z0 : n0 ≤ h0.size)  :
    MetFree l x (head1 (Jvm.Cond.code x code maxLocals ret :: ws) room_1) (fun a U => a = #[(.long p1), (.int p2), (.int p3), (.int p4)] ∧ Z.Warmed39 U.vm ∧ U.heap = h0) (fun _ _ _ _ _ => True) (fun _ U o U' => ∃ v L, o = .returned v ∧ Q0 Z p1 p2 p3 p4 h0 n0 v U'.heap L ∧ FrameEnd U o U' L 16 128) := by
  refine MetFree.of_bodySF (plainFor_of_name pn_com_example_hashspace_hashspace_server_FrameBudgetReservePinLaw) hisR ?_
  intro p e s m args below meth c s₁ Bd hml0 hP hK
  obtain ⟨rfl, hZ, hh⟩ := hP
  have hx := Bd.exec
  have hby := Bd.bytes
  have w0 := hw _ (List.mem_of_getElem? (i := 0) rfl)
  have w1 := hw _ (List.mem_of_getElem? (i := 1) rfl)
  have w2 := hw _ (List.mem_of_getElem? (i := 2) rfl)
  have w3 := hw _ (List.mem_of_getElem? (i := 3) rfl)
  have w4 := hw _ (List.mem_of_getElem? (i := 4) rfl)
  have w5 := hw _ (List.mem_of_getElem? (i := 5) rfl)
  have w6 := hw _ (List.mem_of_getElem? (i := 6) rfl)
  have w7 := hw _ (List.mem_of_getElem? (i := 7) rfl)
  have w12 := hw _ (List.mem_of_getElem? (i := 12) rfl)
  have w13 := hw _ (List.mem_of_getElem? (i := 13) rfl)
  have w14 := hw _ (List.mem_of_getElem? (i := 14) rfl)
  have w15 := hw _ (List.mem_of_getElem? (i := 15) rfl)
  have w16 := hw _ (List.mem_of_getElem? (i := 16) rfl)
  have w17 := hw _ (List.mem_of_getElem? (i := 17) rfl)
  have w19 := hw _ (List.mem_of_getElem? (i := 19) rfl)
  have w20 := hw _ (List.mem_of_getElem? (i := 20) rfl)
  have w21 := hw _ (List.mem_of_getElem? (i := 21) rfl)
  have w22 := hw _ (List.mem_of_getElem? (i := 22) rfl)
  have w23 := hw _ (List.mem_of_getElem? (i := 23) rfl)
  have w24 := hw _ (List.mem_of_getElem? (i := 24) rfl)
  have w25 := hw _ (List.mem_of_getElem? (i := 25) rfl)
  have w26 := hw _ (List.mem_of_getElem? (i := 26) rfl)
  have w27 := hw _ (List.mem_of_getElem? (i := 27) rfl)
  have w28 := hw _ (List.mem_of_getElem? (i := 28) rfl)
  have w29 := hw _ (List.mem_of_getElem? (i := 29) rfl)
  have hml : c.maxLocals = 18 := hml0
  have hown : s.vm.findClass "com/example/hashspace/hashspace/server/FrameBudgetReservePinLaw" = some m.cls := findClass_of_methodNamed Bd.named
  have hnm := (name_of_methodNamed Bd.named Bd.method).1
  have X0 : Stand p l e room_1 s m #[(.long p1), (.int p2), (.int p3), (.int p4)] below meth c s₁ [] 0 0 := Stand.of_body Bd
  have e0 : s₁.heap = h0 := by rw [← hh, Bd.state]; rfl
  have N0 := Fr.nil n0
  show Run p.tables e below (PQ s below 16 128 (Q0 Z p1 p2 p3 p4 h0 n0)) (s₁.setTop (entryFrame m #[(.long p1), (.int p2), (.int p3), (.int p4)] maxLocals))
  refine Run.step (fun t k => castTop (ef_0 m p1 p2 p3 p4) k) ?_
  show Run _ _ _ _ (s₁.setTop (mkF m 0 #[.val (.long p1), .second, .val (.int p2), .val (.int p3), .val (.int p4), .unset, .unset, .unset, .unset, .unset, .unset, .unset, .unset, .unset, .unset, .unset, .unset, .unset] []))
  refine Run.step (fun t_ k_ => XS.iloadN X0.here hx rfl (hb hby at_0) rfl k_) ?_
  show Run _ _ _ _ (s₁.setTop (mkF m 1 #[.val (.long p1), .second, .val (.int p2), .val (.int p3), .val (.int p4), .unset, .unset, .unset, .unset, .unset, .unset, .unset, .unset, .unset, .unset, .unset, .unset, .unset] [(.int p2)]))
  refine Run.step (fun t_ k_ => X0.ldcInt hx hown (mvT hZ w0) (g := (mkF m 1 #[.val (.long p1), .second, .val (.int p2), .val (.int p3), .val (.int p4), .unset, .unset, .unset, .unset, .unset, .unset, .unset, .unset, .unset, .unset, .unset, .unset, .unset] [(.int p2)])) rfl (hb hby at_1) _ k_) ?_
  show Run _ _ _ _ (s₁.setTop (mkF m 3 #[.val (.long p1), .second, .val (.int p2), .val (.int p3), .val (.int p4), .unset, .unset, .unset, .unset, .unset, .unset, .unset, .unset, .unset, .unset, .unset, .unset, .unset] [(.int (2147483647 : Int32)), (.int p2)]))
  refine Run.step (fun t_ k_ => XS.iand X0.here hx rfl (hb hby at_3) rfl k_) ?_
  show Run _ _ _ _ (s₁.setTop (mkF m 4 #[.val (.long p1), .second, .val (.int p2), .val (.int p3), .val (.int p4), .unset, .unset, .unset, .unset, .unset, .unset, .unset, .unset, .unset, .unset, .unset, .unset, .unset] [(.int (p2 &&& (2147483647 : Int32)))]))
  refine Run.step (fun t_ k_ => XS.istore X0.here hx rfl (hb hby at_4) rfl (l' := #[.val (.long p1), .second, .val (.int p2), .val (.int p3), .val (.int p4), .val (.int (p2 &&& (2147483647 : Int32))), .unset, .unset, .unset, .unset, .unset, .unset, .unset, .unset, .unset, .unset, .unset, .unset]) rfl k_) ?_
  show Run _ _ _ _ (s₁.setTop (mkF m 6 #[.val (.long p1), .second, .val (.int p2), .val (.int p3), .val (.int p4), .val (.int (p2 &&& (2147483647 : Int32))), .unset, .unset, .unset, .unset, .unset, .unset, .unset, .unset, .unset, .unset, .unset, .unset] []))
  refine Run.step (fun t_ k_ => XS.iloadN X0.here hx rfl (hb hby at_6) rfl k_) ?_
  show Run _ _ _ _ (s₁.setTop (mkF m 7 #[.val (.long p1), .second, .val (.int p2), .val (.int p3), .val (.int p4), .val (.int (p2 &&& (2147483647 : Int32))), .unset, .unset, .unset, .unset, .unset, .unset, .unset, .unset, .unset, .unset, .unset, .unset] [(.int p3)]))
  refine Run.step (fun t_ k_ => X0.ldcInt hx hown (mvT hZ w0) (g := (mkF m 7 #[.val (.long p1), .second, .val (.int p2), .val (.int p3), .val (.int p4), .val (.int (p2 &&& (2147483647 : Int32))), .unset, .unset, .unset, .unset, .unset, .unset, .unset, .unset, .unset, .unset, .unset, .unset] [(.int p3)])) rfl (hb hby at_7) _ k_) ?_
  show Run _ _ _ _ (s₁.setTop (mkF m 9 #[.val (.long p1), .second, .val (.int p2), .val (.int p3), .val (.int p4), .val (.int (p2 &&& (2147483647 : Int32))), .unset, .unset, .unset, .unset, .unset, .unset, .unset, .unset, .unset, .unset, .unset, .unset] [(.int (2147483647 : Int32)), (.int p3)]))
  refine Run.step (fun t_ k_ => XS.iand X0.here hx rfl (hb hby at_9) rfl k_) ?_
  show Run _ _ _ _ (s₁.setTop (mkF m 10 #[.val (.long p1), .second, .val (.int p2), .val (.int p3), .val (.int p4), .val (.int (p2 &&& (2147483647 : Int32))), .unset, .unset, .unset, .unset, .unset, .unset, .unset, .unset, .unset, .unset, .unset, .unset] [(.int (p3 &&& (2147483647 : Int32)))]))
  refine Run.step (fun t_ k_ => XS.istore X0.here hx rfl (hb hby at_10) rfl (l' := #[.val (.long p1), .second, .val (.int p2), .val (.int p3), .val (.int p4), .val (.int (p2 &&& (2147483647 : Int32))), .val (.int (p3 &&& (2147483647 : Int32))), .unset, .unset, .unset, .unset, .unset, .unset, .unset, .unset, .unset, .unset, .unset]) rfl k_) ?_
  show Run _ _ _ _ (s₁.setTop (mkF m 12 #[.val (.long p1), .second, .val (.int p2), .val (.int p3), .val (.int p4), .val (.int (p2 &&& (2147483647 : Int32))), .val (.int (p3 &&& (2147483647 : Int32))), .unset, .unset, .unset, .unset, .unset, .unset, .unset, .unset, .unset, .unset, .unset] []))
  refine Run.step (fun t_ k_ => XS.iload X0.here hx rfl (hb hby at_12) rfl k_) ?_
  show Run _ _ _ _ (s₁.setTop (mkF m 14 #[.val (.long p1), .second, .val (.int p2), .val (.int p3), .val (.int p4), .val (.int (p2 &&& (2147483647 : Int32))), .val (.int (p3 &&& (2147483647 : Int32))), .unset, .unset, .unset, .unset, .unset, .unset, .unset, .unset, .unset, .unset, .unset] [(.int p4)]))
  refine Run.step (fun t_ k_ => XS.iconst X0.here hx rfl (hb hby at_14) k_) ?_
  show Run _ _ _ _ (s₁.setTop (mkF m 15 #[.val (.long p1), .second, .val (.int p2), .val (.int p3), .val (.int p4), .val (.int (p2 &&& (2147483647 : Int32))), .val (.int (p3 &&& (2147483647 : Int32))), .unset, .unset, .unset, .unset, .unset, .unset, .unset, .unset, .unset, .unset, .unset] [(.int (1 : Int32)), (.int p4)]))
  refine Run.step (fun t_ k_ => XS.iand X0.here hx rfl (hb hby at_15) rfl k_) ?_
  show Run _ _ _ _ (s₁.setTop (mkF m 16 #[.val (.long p1), .second, .val (.int p2), .val (.int p3), .val (.int p4), .val (.int (p2 &&& (2147483647 : Int32))), .val (.int (p3 &&& (2147483647 : Int32))), .unset, .unset, .unset, .unset, .unset, .unset, .unset, .unset, .unset, .unset, .unset] [(.int (p4 &&& (1 : Int32)))]))
  have J22 : ∀ (TJ22 : State) (LJ22 : List Loc) (XJ22 : Stand p l e room_1 s m #[(.long p1), (.int p2), (.int p3), (.int p4)] below meth c TJ22 LJ22 0 0) (eJ22 : TJ22.heap = h0) (NJ22 : Fr n0 LJ22) (lm : Int64), (True) → Run p.tables e below (PQ s below 16 128 (Q0 Z p1 p2 p3 p4 h0 n0)) (TJ22.setTop (mkF m 86 #[.val (.long p1), .second, .val (.int p2), .val (.int p3), .val (.int p4), .val (.int (p2 &&& (2147483647 : Int32))), .val (.int (p3 &&& (2147483647 : Int32))), .val (.long lm), .second, .unset, .unset, .unset, .unset, .unset, .unset, .unset, .unset, .unset] [])) := by
    intro TJ22 LJ22 XJ22 eJ22 NJ22 lm hv22
    obtain ⟨T23, h23, X23, e23, E23, A23, D23, -, st23⟩ := newO XJ22 hx hZ hown w2 w3 w4 eJ22 (g := (mkF m 86 #[.val (.long p1), .second, .val (.int p2), .val (.int p3), .val (.int p4), .val (.int (p2 &&& (2147483647 : Int32))), .val (.int (p3 &&& (2147483647 : Int32))), .val (.long lm), .second, .unset, .unset, .unset, .unset, .unset, .unset, .unset, .unset, .unset] [])) rfl (hb hby at_86) (by decide) (by decide)
    obtain ⟨b23, g23⟩ : ∃ z, z = h0.size := ⟨_, rfl⟩
    rw [← g23] at A23 D23 st23
    refine Run.step st23 ?_
    have g_b23 : n0 ≤ b23 := Nat.le_trans Z0 (Nat.le_of_eq g23.symm)
    have z24 := Nat.le_trans Z0 E23.1
    have f25 : Fld Z h23 b23 "com/example/hashspace/hashspace/server/FrameBudget" "limit" "J" (.long (0 : Int64)) := D23 (Or.inr w12) (ty := .long) (by decide)
    have f26 : Fld Z h23 b23 "com/example/hashspace/hashspace/server/FrameBudget" "held" "J" (.long (0 : Int64)) := D23 (Or.inl w19) (ty := .long) (by decide)
    show Run _ _ _ _ (T23.setTop (mkF m 89 #[.val (.long p1), .second, .val (.int p2), .val (.int p3), .val (.int p4), .val (.int (p2 &&& (2147483647 : Int32))), .val (.int (p3 &&& (2147483647 : Int32))), .val (.long lm), .second, .unset, .unset, .unset, .unset, .unset, .unset, .unset, .unset, .unset] [(.ref b23)]))
    refine Run.step (fun t_ k_ => XS.dup X23.here hx rfl (hb hby at_89) rfl rfl k_) ?_
    show Run _ _ _ _ (T23.setTop (mkF m 90 #[.val (.long p1), .second, .val (.int p2), .val (.int p3), .val (.int p4), .val (.int (p2 &&& (2147483647 : Int32))), .val (.int (p3 &&& (2147483647 : Int32))), .val (.long lm), .second, .unset, .unset, .unset, .unset, .unset, .unset, .unset, .unset, .unset] [(.ref b23), (.ref b23)]))
    refine Run.step (fun t_ k_ => XS.lload X23.here hx rfl (hb hby at_90) rfl k_) ?_
    show Run _ _ _ _ (T23.setTop (mkF m 92 #[.val (.long p1), .second, .val (.int p2), .val (.int p3), .val (.int p4), .val (.int (p2 &&& (2147483647 : Int32))), .val (.int (p3 &&& (2147483647 : Int32))), .val (.long lm), .second, .unset, .unset, .unset, .unset, .unset, .unset, .unset, .unset, .unset] [(.long lm), (.ref b23), (.ref b23)]))
    obtain ⟨_, _, ⟨T27, L27, k27, n27⟩, -, X27, ⟨Lc27, hQ27, l27, y27, z27⟩, st27⟩ := X23.specialBack hx (y := (⟨"com/example/hashspace/hashspace/server/FrameBudget", "<init>", "(J)V"⟩ : MethodName)) rfl hown (mvT hZ w5) (mvT hZ w6) (mvT hZ w7) (by decide) (backOf (W := 1) (rm1 l Z a0 hw [] b23 lm h23 n0 z24 f25 f26 A23 g_b23) hZ w7 w4 (by decide) (by decide)) (g := (mkF m 92 #[.val (.long p1), .second, .val (.int p2), .val (.int p3), .val (.int p4), .val (.int (p2 &&& (2147483647 : Int32))), .val (.int (p3 &&& (2147483647 : Int32))), .val (.long lm), .second, .unset, .unset, .unset, .unset, .unset, .unset, .unset, .unset, .unset] [(.long lm), (.ref b23), (.ref b23)])) rfl (by rw [hml]; rfl) (Steps.refl _) (a := b23) (argsL := [(.long lm)]) (rest := [(.ref b23)]) (lenOf pd__28J_29V rfl) rfl (by show 2 * 0 + _ ≤ _; exact Nat.le_of_eq rfl) (hb hby at_92) (fun _ _ => ⟨rfl, e23, (by decide : 1 + 0 ≤ _), (by decide : 2 + 0 ≤ _)⟩)
    dsimp only [Pt.U, Pt.locs, Pt.cells, Pt.slots] at X27 l27 y27 z27 st27 hQ27
    subst l27 y27 z27
    refine Run.step (fun t k => st27.trans k) ?_
    obtain ⟨rfl, N27q, K27q, fr27, ft27⟩ := hQ27
    have N27 := Fr.app NJ22 N27q
    have f28 := A23.keep K27q
    have z31 := Nat.le_trans z24 K27q.1
    show Run _ _ _ _ (T27.setTop (mkF m 95 #[.val (.long p1), .second, .val (.int p2), .val (.int p3), .val (.int p4), .val (.int (p2 &&& (2147483647 : Int32))), .val (.int (p3 &&& (2147483647 : Int32))), .val (.long lm), .second, .unset, .unset, .unset, .unset, .unset, .unset, .unset, .unset, .unset] [(.ref b23)]))
    refine Run.step (fun t_ k_ => XS.astore X27.here hx rfl (hb hby at_95) rfl rfl (l' := #[.val (.long p1), .second, .val (.int p2), .val (.int p3), .val (.int p4), .val (.int (p2 &&& (2147483647 : Int32))), .val (.int (p3 &&& (2147483647 : Int32))), .val (.long lm), .second, .val (.ref b23), .unset, .unset, .unset, .unset, .unset, .unset, .unset, .unset]) rfl k_) ?_
    show Run _ _ _ _ (T27.setTop (mkF m 97 #[.val (.long p1), .second, .val (.int p2), .val (.int p3), .val (.int p4), .val (.int (p2 &&& (2147483647 : Int32))), .val (.int (p3 &&& (2147483647 : Int32))), .val (.long lm), .second, .val (.ref b23), .unset, .unset, .unset, .unset, .unset, .unset, .unset, .unset] []))
    refine Run.step (fun t_ k_ => XS.iload X27.here hx rfl (hb hby at_97) rfl k_) ?_
    show Run _ _ _ _ (T27.setTop (mkF m 99 #[.val (.long p1), .second, .val (.int p2), .val (.int p3), .val (.int p4), .val (.int (p2 &&& (2147483647 : Int32))), .val (.int (p3 &&& (2147483647 : Int32))), .val (.long lm), .second, .val (.ref b23), .unset, .unset, .unset, .unset, .unset, .unset, .unset, .unset] [(.int (p2 &&& (2147483647 : Int32)))]))
    refine Run.step (fun t_ k_ => XS.i2l X27.here hx rfl (hb hby at_99) rfl k_) ?_
    show Run _ _ _ _ (T27.setTop (mkF m 100 #[.val (.long p1), .second, .val (.int p2), .val (.int p3), .val (.int p4), .val (.int (p2 &&& (2147483647 : Int32))), .val (.int (p3 &&& (2147483647 : Int32))), .val (.long lm), .second, .val (.ref b23), .unset, .unset, .unset, .unset, .unset, .unset, .unset, .unset] [(.long ((p2 &&& (2147483647 : Int32)).toInt64))]))
    refine Run.step (fun t_ k_ => XS.lload X27.here hx rfl (hb hby at_100) rfl k_) ?_
    show Run _ _ _ _ (T27.setTop (mkF m 102 #[.val (.long p1), .second, .val (.int p2), .val (.int p3), .val (.int p4), .val (.int (p2 &&& (2147483647 : Int32))), .val (.int (p3 &&& (2147483647 : Int32))), .val (.long lm), .second, .val (.ref b23), .unset, .unset, .unset, .unset, .unset, .unset, .unset, .unset] [(.long lm), (.long ((p2 &&& (2147483647 : Int32)).toInt64))]))
    refine Run.step (fun t_ k_ => XS.lcmp X27.here hx rfl (hb hby at_102) rfl k_) ?_
    show Run _ _ _ _ (T27.setTop (mkF m 103 #[.val (.long p1), .second, .val (.int p2), .val (.int p3), .val (.int p4), .val (.int (p2 &&& (2147483647 : Int32))), .val (.int (p3 &&& (2147483647 : Int32))), .val (.long lm), .second, .val (.ref b23), .unset, .unset, .unset, .unset, .unset, .unset, .unset, .unset] [(.int (lcmpW ((p2 &&& (2147483647 : Int32)).toInt64) lm))]))
    by_cases c103 : lm < ((p2 &&& (2147483647 : Int32)).toInt64)
    · skip
      refine Run.step (fun t_ k_ => XS.ifYes X27.here hx rfl (pc0 := 103) (pc' := 110) rfl (hb hby at_103) rfl (XT.ll_gt_t c103) (by decide) (by decide) k_) ?_
      show Run _ _ _ _ (T27.setTop (mkF m 110 #[.val (.long p1), .second, .val (.int p2), .val (.int p3), .val (.int p4), .val (.int (p2 &&& (2147483647 : Int32))), .val (.int (p3 &&& (2147483647 : Int32))), .val (.long lm), .second, .val (.ref b23), .unset, .unset, .unset, .unset, .unset, .unset, .unset, .unset] []))
      refine Run.step (fun t_ k_ => XS.iconst X27.here hx rfl (hb hby at_110) k_) ?_
      show Run _ _ _ _ (T27.setTop (mkF m 111 #[.val (.long p1), .second, .val (.int p2), .val (.int p3), .val (.int p4), .val (.int (p2 &&& (2147483647 : Int32))), .val (.int (p3 &&& (2147483647 : Int32))), .val (.long lm), .second, .val (.ref b23), .unset, .unset, .unset, .unset, .unset, .unset, .unset, .unset] [(.int (0 : Int32))]))
      refine Run.step (fun t_ k_ => XS.istore X27.here hx rfl (hb hby at_111) rfl (l' := #[.val (.long p1), .second, .val (.int p2), .val (.int p3), .val (.int p4), .val (.int (p2 &&& (2147483647 : Int32))), .val (.int (p3 &&& (2147483647 : Int32))), .val (.long lm), .second, .val (.ref b23), .val (.int (0 : Int32)), .unset, .unset, .unset, .unset, .unset, .unset, .unset]) rfl k_) ?_
      show Run _ _ _ _ (T27.setTop (mkF m 113 #[.val (.long p1), .second, .val (.int p2), .val (.int p3), .val (.int p4), .val (.int (p2 &&& (2147483647 : Int32))), .val (.int (p3 &&& (2147483647 : Int32))), .val (.long lm), .second, .val (.ref b23), .val (.int (0 : Int32)), .unset, .unset, .unset, .unset, .unset, .unset, .unset] []))
      refine Run.step (fun t_ k_ => XS.iload X27.here hx rfl (hb hby at_113) rfl k_) ?_
      show Run _ _ _ _ (T27.setTop (mkF m 115 #[.val (.long p1), .second, .val (.int p2), .val (.int p3), .val (.int p4), .val (.int (p2 &&& (2147483647 : Int32))), .val (.int (p3 &&& (2147483647 : Int32))), .val (.long lm), .second, .val (.ref b23), .val (.int (0 : Int32)), .unset, .unset, .unset, .unset, .unset, .unset, .unset] [(.int (0 : Int32))]))
      refine Run.step (fun t_ k_ => XS.ifYes X27.here hx rfl (pc0 := 115) (pc' := 124) rfl (hb hby at_115) rfl (XT.i0_eq_t (by decide : (0 : Int32) = (0 : Int32))) (by decide) (by decide) k_) ?_
      show Run _ _ _ _ (T27.setTop (mkF m 124 #[.val (.long p1), .second, .val (.int p2), .val (.int p3), .val (.int p4), .val (.int (p2 &&& (2147483647 : Int32))), .val (.int (p3 &&& (2147483647 : Int32))), .val (.long lm), .second, .val (.ref b23), .val (.int (0 : Int32)), .unset, .unset, .unset, .unset, .unset, .unset, .unset] []))
      refine Run.step (fun t_ k_ => XS.lconst X27.here hx rfl (hb hby at_124) k_) ?_
      show Run _ _ _ _ (T27.setTop (mkF m 125 #[.val (.long p1), .second, .val (.int p2), .val (.int p3), .val (.int p4), .val (.int (p2 &&& (2147483647 : Int32))), .val (.int (p3 &&& (2147483647 : Int32))), .val (.long lm), .second, .val (.ref b23), .val (.int (0 : Int32)), .unset, .unset, .unset, .unset, .unset, .unset, .unset] [(.long (0 : Int64))]))
      refine Run.step (fun t_ k_ => XS.lstore X27.here hx rfl (hb hby at_125) rfl (l' := #[.val (.long p1), .second, .val (.int p2), .val (.int p3), .val (.int p4), .val (.int (p2 &&& (2147483647 : Int32))), .val (.int (p3 &&& (2147483647 : Int32))), .val (.long lm), .second, .val (.ref b23), .val (.int (0 : Int32)), .val (.long (0 : Int64)), .second, .unset, .unset, .unset, .unset, .unset]) rfl k_) ?_
      show Run _ _ _ _ (T27.setTop (mkF m 127 #[.val (.long p1), .second, .val (.int p2), .val (.int p3), .val (.int p4), .val (.int (p2 &&& (2147483647 : Int32))), .val (.int (p3 &&& (2147483647 : Int32))), .val (.long lm), .second, .val (.ref b23), .val (.int (0 : Int32)), .val (.long (0 : Int64)), .second, .unset, .unset, .unset, .unset, .unset] []))
      refine Run.step (fun t_ k_ => XS.aload X27.here hx rfl (hb hby at_127) rfl rfl k_) ?_
      show Run _ _ _ _ (T27.setTop (mkF m 129 #[.val (.long p1), .second, .val (.int p2), .val (.int p3), .val (.int p4), .val (.int (p2 &&& (2147483647 : Int32))), .val (.int (p3 &&& (2147483647 : Int32))), .val (.long lm), .second, .val (.ref b23), .val (.int (0 : Int32)), .val (.long (0 : Int64)), .second, .unset, .unset, .unset, .unset, .unset] [(.ref b23)]))
      refine Run.step (fun t_ k_ => XS.iload X27.here hx rfl (hb hby at_129) rfl k_) ?_
      show Run _ _ _ _ (T27.setTop (mkF m 131 #[.val (.long p1), .second, .val (.int p2), .val (.int p3), .val (.int p4), .val (.int (p2 &&& (2147483647 : Int32))), .val (.int (p3 &&& (2147483647 : Int32))), .val (.long lm), .second, .val (.ref b23), .val (.int (0 : Int32)), .val (.long (0 : Int64)), .second, .unset, .unset, .unset, .unset, .unset] [(.int (p2 &&& (2147483647 : Int32))), (.ref b23)]))
      obtain ⟨cq32, kq32, q32a, q32b, q32c⟩ := isOf hZ rfl f28
      obtain ⟨_, _, ⟨T32, L32, k32, n32⟩, -, X32, ⟨Lc32, hQ32, l32, y32, z32⟩, st32⟩ := X27.virtualBack hx (y := (⟨"com/example/hashspace/hashspace/server/FrameBudget", "reserve", "(I)Z"⟩ : MethodName)) (z := (⟨"com/example/hashspace/hashspace/server/FrameBudget", "reserve", "(I)Z"⟩ : MethodName)) hown (mvT hZ w13) (mvT hZ w14) (notFace_of_selects (args := #[]) (mvT hZ w16)) (mvT hZ w16) (mvT hZ w15) (by decide) (backOf (W := 0) (rm3n l Z a0 hw [] b23 (p2 &&& (2147483647 : Int32)) (0 : Int64) lm T27.heap n0 z31 (by first | exact c103 | (rw [Int64.zero_add]; exact c103)) fr27 ft27 f28 g_b23) hZ w17 w4 (by decide) (by decide)) q32a q32c (g := (mkF m 131 #[.val (.long p1), .second, .val (.int p2), .val (.int p3), .val (.int p4), .val (.int (p2 &&& (2147483647 : Int32))), .val (.int (p3 &&& (2147483647 : Int32))), .val (.long lm), .second, .val (.ref b23), .val (.int (0 : Int32)), .val (.long (0 : Int64)), .second, .unset, .unset, .unset, .unset, .unset] [(.int (p2 &&& (2147483647 : Int32))), (.ref b23)])) rfl (by rw [hml]; rfl) (Steps.refl _) (argsL := [(.int (p2 &&& (2147483647 : Int32)))]) (rest := []) (lenOf pd__28I_29Z rfl) rfl (by show 2 * 0 + _ ≤ _; exact Nat.le_of_eq rfl) (hb hby at_131) (fun _ _ => ⟨rfl, rfl, (by decide : 1 + 0 ≤ _), (by decide : 2 + 0 ≤ _)⟩)
      dsimp only [Pt.U, Pt.locs, Pt.cells, Pt.slots] at X32 l32 y32 z32 st32 hQ32
      subst l32 y32 z32
      refine Run.step (fun t k => st32.trans k) ?_
      obtain ⟨rfl, N32q, K32q, fr32, ft32⟩ := hQ32
      have N32 := Fr.app N27 N32q
      have f33 := f28.keep K32q
      have z36 := Nat.le_trans z31 K32q.1
      show Run _ _ _ _ (T32.setTop (mkF m 134 #[.val (.long p1), .second, .val (.int p2), .val (.int p3), .val (.int p4), .val (.int (p2 &&& (2147483647 : Int32))), .val (.int (p3 &&& (2147483647 : Int32))), .val (.long lm), .second, .val (.ref b23), .val (.int (0 : Int32)), .val (.long (0 : Int64)), .second, .unset, .unset, .unset, .unset, .unset] [(.int (0 : Int32))]))
      refine Run.step (fun t_ k_ => XS.istore X32.here hx rfl (hb hby at_134) rfl (l' := #[.val (.long p1), .second, .val (.int p2), .val (.int p3), .val (.int p4), .val (.int (p2 &&& (2147483647 : Int32))), .val (.int (p3 &&& (2147483647 : Int32))), .val (.long lm), .second, .val (.ref b23), .val (.int (0 : Int32)), .val (.long (0 : Int64)), .second, .val (.int (0 : Int32)), .unset, .unset, .unset, .unset]) rfl k_) ?_
      show Run _ _ _ _ (T32.setTop (mkF m 136 #[.val (.long p1), .second, .val (.int p2), .val (.int p3), .val (.int p4), .val (.int (p2 &&& (2147483647 : Int32))), .val (.int (p3 &&& (2147483647 : Int32))), .val (.long lm), .second, .val (.ref b23), .val (.int (0 : Int32)), .val (.long (0 : Int64)), .second, .val (.int (0 : Int32)), .unset, .unset, .unset, .unset] []))
      refine Run.step (fun t_ k_ => XS.iload X32.here hx rfl (hb hby at_136) rfl k_) ?_
      show Run _ _ _ _ (T32.setTop (mkF m 138 #[.val (.long p1), .second, .val (.int p2), .val (.int p3), .val (.int p4), .val (.int (p2 &&& (2147483647 : Int32))), .val (.int (p3 &&& (2147483647 : Int32))), .val (.long lm), .second, .val (.ref b23), .val (.int (0 : Int32)), .val (.long (0 : Int64)), .second, .val (.int (0 : Int32)), .unset, .unset, .unset, .unset] [(.int (0 : Int32))]))
      refine Run.step (fun t_ k_ => XS.iload X32.here hx rfl (hb hby at_138) rfl k_) ?_
      show Run _ _ _ _ (T32.setTop (mkF m 140 #[.val (.long p1), .second, .val (.int p2), .val (.int p3), .val (.int p4), .val (.int (p2 &&& (2147483647 : Int32))), .val (.int (p3 &&& (2147483647 : Int32))), .val (.long lm), .second, .val (.ref b23), .val (.int (0 : Int32)), .val (.long (0 : Int64)), .second, .val (.int (0 : Int32)), .unset, .unset, .unset, .unset] [(.int (0 : Int32)), (.int (0 : Int32))]))
      refine Run.step (fun t_ k_ => XS.icmpYes X32.here hx rfl (pc0 := 140) (pc' := 145) rfl (hb hby at_140) rfl (XT.ii_eq_t (by decide : (0 : Int32) = (0 : Int32))) (by decide) (by decide) k_) ?_
      show Run _ _ _ _ (T32.setTop (mkF m 145 #[.val (.long p1), .second, .val (.int p2), .val (.int p3), .val (.int p4), .val (.int (p2 &&& (2147483647 : Int32))), .val (.int (p3 &&& (2147483647 : Int32))), .val (.long lm), .second, .val (.ref b23), .val (.int (0 : Int32)), .val (.long (0 : Int64)), .second, .val (.int (0 : Int32)), .unset, .unset, .unset, .unset] []))
      refine Run.step (fun t_ k_ => XS.aload X32.here hx rfl (hb hby at_145) rfl rfl k_) ?_
      show Run _ _ _ _ (T32.setTop (mkF m 147 #[.val (.long p1), .second, .val (.int p2), .val (.int p3), .val (.int p4), .val (.int (p2 &&& (2147483647 : Int32))), .val (.int (p3 &&& (2147483647 : Int32))), .val (.long lm), .second, .val (.ref b23), .val (.int (0 : Int32)), .val (.long (0 : Int64)), .second, .val (.int (0 : Int32)), .unset, .unset, .unset, .unset] [(.ref b23)]))
      obtain ⟨cq37, kq37, q37a, q37b, q37c⟩ := isOf hZ rfl f33
      obtain ⟨_, _, ⟨T37, L37, k37, n37⟩, -, X37, ⟨Lc37, hQ37, l37, y37, z37⟩, st37⟩ := X32.virtualBack hx (y := (⟨"com/example/hashspace/hashspace/server/FrameBudget", "held", "()J"⟩ : MethodName)) (z := (⟨"com/example/hashspace/hashspace/server/FrameBudget", "held", "()J"⟩ : MethodName)) hown (mvT hZ w20) (mvT hZ w21) (notFace_of_selects (args := #[]) (mvT hZ w23)) (mvT hZ w23) (mvT hZ w22) (by decide) (backOf (W := 0) (rm4 l Z a0 hw [] b23 (0 : Int64) T32.heap n0 z36 ft32) hZ w24 w4 (by decide) (by decide)) q37a q37c (g := (mkF m 147 #[.val (.long p1), .second, .val (.int p2), .val (.int p3), .val (.int p4), .val (.int (p2 &&& (2147483647 : Int32))), .val (.int (p3 &&& (2147483647 : Int32))), .val (.long lm), .second, .val (.ref b23), .val (.int (0 : Int32)), .val (.long (0 : Int64)), .second, .val (.int (0 : Int32)), .unset, .unset, .unset, .unset] [(.ref b23)])) rfl (by rw [hml]; rfl) (Steps.refl _) (argsL := []) (rest := []) (lenOf pd__28_29J rfl) rfl (by show 2 * 0 + _ ≤ _; exact Nat.le_of_eq rfl) (hb hby at_147) (fun _ _ => ⟨rfl, rfl, (by decide : 1 + 0 ≤ _), (by decide : 2 + 0 ≤ _)⟩)
      dsimp only [Pt.U, Pt.locs, Pt.cells, Pt.slots] at X37 l37 y37 z37 st37 hQ37
      subst l37 y37 z37
      refine Run.step (fun t k => st37.trans k) ?_
      obtain ⟨rfl, N37q, e37q⟩ := hQ37
      have N37 := Fr.app N32 N37q
      show Run _ _ _ _ (T37.setTop (mkF m 150 #[.val (.long p1), .second, .val (.int p2), .val (.int p3), .val (.int p4), .val (.int (p2 &&& (2147483647 : Int32))), .val (.int (p3 &&& (2147483647 : Int32))), .val (.long lm), .second, .val (.ref b23), .val (.int (0 : Int32)), .val (.long (0 : Int64)), .second, .val (.int (0 : Int32)), .unset, .unset, .unset, .unset] [(.long (0 : Int64))]))
      refine Run.step (fun t_ k_ => XS.lload X37.here hx rfl (hb hby at_150) rfl k_) ?_
      show Run _ _ _ _ (T37.setTop (mkF m 152 #[.val (.long p1), .second, .val (.int p2), .val (.int p3), .val (.int p4), .val (.int (p2 &&& (2147483647 : Int32))), .val (.int (p3 &&& (2147483647 : Int32))), .val (.long lm), .second, .val (.ref b23), .val (.int (0 : Int32)), .val (.long (0 : Int64)), .second, .val (.int (0 : Int32)), .unset, .unset, .unset, .unset] [(.long (0 : Int64)), (.long (0 : Int64))]))
      refine Run.step (fun t_ k_ => XS.lcmp X37.here hx rfl (hb hby at_152) rfl k_) ?_
      show Run _ _ _ _ (T37.setTop (mkF m 153 #[.val (.long p1), .second, .val (.int p2), .val (.int p3), .val (.int p4), .val (.int (p2 &&& (2147483647 : Int32))), .val (.int (p3 &&& (2147483647 : Int32))), .val (.long lm), .second, .val (.ref b23), .val (.int (0 : Int32)), .val (.long (0 : Int64)), .second, .val (.int (0 : Int32)), .unset, .unset, .unset, .unset] [(.int (lcmpW (0 : Int64) (0 : Int64)))]))
      refine Run.step (fun t_ k_ => XS.ifYes X37.here hx rfl (pc0 := 153) (pc' := 158) rfl (hb hby at_153) rfl (XT.ll_eq_t ((by first | rfl | rw [Int64.zero_add]) : (0 : Int64) = (0 : Int64))) (by decide) (by decide) k_) ?_
      show Run _ _ _ _ (T37.setTop (mkF m 158 #[.val (.long p1), .second, .val (.int p2), .val (.int p3), .val (.int p4), .val (.int (p2 &&& (2147483647 : Int32))), .val (.int (p3 &&& (2147483647 : Int32))), .val (.long lm), .second, .val (.ref b23), .val (.int (0 : Int32)), .val (.long (0 : Int64)), .second, .val (.int (0 : Int32)), .unset, .unset, .unset, .unset] []))
      refine Run.step (fun t_ k_ => XS.lload X37.here hx rfl (hb hby at_158) rfl k_) ?_
      show Run _ _ _ _ (T37.setTop (mkF m 160 #[.val (.long p1), .second, .val (.int p2), .val (.int p3), .val (.int p4), .val (.int (p2 &&& (2147483647 : Int32))), .val (.int (p3 &&& (2147483647 : Int32))), .val (.long lm), .second, .val (.ref b23), .val (.int (0 : Int32)), .val (.long (0 : Int64)), .second, .val (.int (0 : Int32)), .unset, .unset, .unset, .unset] [(.long (0 : Int64))]))
      refine Run.step (fun t_ k_ => XS.iload X37.here hx rfl (hb hby at_160) rfl k_) ?_
      show Run _ _ _ _ (T37.setTop (mkF m 162 #[.val (.long p1), .second, .val (.int p2), .val (.int p3), .val (.int p4), .val (.int (p2 &&& (2147483647 : Int32))), .val (.int (p3 &&& (2147483647 : Int32))), .val (.long lm), .second, .val (.ref b23), .val (.int (0 : Int32)), .val (.long (0 : Int64)), .second, .val (.int (0 : Int32)), .unset, .unset, .unset, .unset] [(.int (p3 &&& (2147483647 : Int32))), (.long (0 : Int64))]))
      refine Run.step (fun t_ k_ => XS.i2l X37.here hx rfl (hb hby at_162) rfl k_) ?_
      show Run _ _ _ _ (T37.setTop (mkF m 163 #[.val (.long p1), .second, .val (.int p2), .val (.int p3), .val (.int p4), .val (.int (p2 &&& (2147483647 : Int32))), .val (.int (p3 &&& (2147483647 : Int32))), .val (.long lm), .second, .val (.ref b23), .val (.int (0 : Int32)), .val (.long (0 : Int64)), .second, .val (.int (0 : Int32)), .unset, .unset, .unset, .unset] [(.long ((p3 &&& (2147483647 : Int32)).toInt64)), (.long (0 : Int64))]))
      refine Run.step (fun t_ k_ => XS.ladd X37.here hx rfl (hb hby at_163) rfl k_) ?_
      show Run _ _ _ _ (T37.setTop (mkF m 164 #[.val (.long p1), .second, .val (.int p2), .val (.int p3), .val (.int p4), .val (.int (p2 &&& (2147483647 : Int32))), .val (.int (p3 &&& (2147483647 : Int32))), .val (.long lm), .second, .val (.ref b23), .val (.int (0 : Int32)), .val (.long (0 : Int64)), .second, .val (.int (0 : Int32)), .unset, .unset, .unset, .unset] [(.long ((0 : Int64) + ((p3 &&& (2147483647 : Int32)).toInt64)))]))
      refine Run.step (fun t_ k_ => XS.lload X37.here hx rfl (hb hby at_164) rfl k_) ?_
      show Run _ _ _ _ (T37.setTop (mkF m 166 #[.val (.long p1), .second, .val (.int p2), .val (.int p3), .val (.int p4), .val (.int (p2 &&& (2147483647 : Int32))), .val (.int (p3 &&& (2147483647 : Int32))), .val (.long lm), .second, .val (.ref b23), .val (.int (0 : Int32)), .val (.long (0 : Int64)), .second, .val (.int (0 : Int32)), .unset, .unset, .unset, .unset] [(.long lm), (.long ((0 : Int64) + ((p3 &&& (2147483647 : Int32)).toInt64)))]))
      refine Run.step (fun t_ k_ => XS.lcmp X37.here hx rfl (hb hby at_166) rfl k_) ?_
      show Run _ _ _ _ (T37.setTop (mkF m 167 #[.val (.long p1), .second, .val (.int p2), .val (.int p3), .val (.int p4), .val (.int (p2 &&& (2147483647 : Int32))), .val (.int (p3 &&& (2147483647 : Int32))), .val (.long lm), .second, .val (.ref b23), .val (.int (0 : Int32)), .val (.long (0 : Int64)), .second, .val (.int (0 : Int32)), .unset, .unset, .unset, .unset] [(.int (lcmpW ((0 : Int64) + ((p3 &&& (2147483647 : Int32)).toInt64)) lm))]))
      by_cases c167 : lm < ((0 : Int64) + ((p3 &&& (2147483647 : Int32)).toInt64))
      · skip
        refine Run.step (fun t_ k_ => XS.ifYes X37.here hx rfl (pc0 := 167) (pc' := 174) rfl (hb hby at_167) rfl (XT.ll_gt_t c167) (by decide) (by decide) k_) ?_
        show Run _ _ _ _ (T37.setTop (mkF m 174 #[.val (.long p1), .second, .val (.int p2), .val (.int p3), .val (.int p4), .val (.int (p2 &&& (2147483647 : Int32))), .val (.int (p3 &&& (2147483647 : Int32))), .val (.long lm), .second, .val (.ref b23), .val (.int (0 : Int32)), .val (.long (0 : Int64)), .second, .val (.int (0 : Int32)), .unset, .unset, .unset, .unset] []))
        refine Run.step (fun t_ k_ => XS.iconst X37.here hx rfl (hb hby at_174) k_) ?_
        show Run _ _ _ _ (T37.setTop (mkF m 175 #[.val (.long p1), .second, .val (.int p2), .val (.int p3), .val (.int p4), .val (.int (p2 &&& (2147483647 : Int32))), .val (.int (p3 &&& (2147483647 : Int32))), .val (.long lm), .second, .val (.ref b23), .val (.int (0 : Int32)), .val (.long (0 : Int64)), .second, .val (.int (0 : Int32)), .unset, .unset, .unset, .unset] [(.int (0 : Int32))]))
        refine Run.step (fun t_ k_ => XS.istore X37.here hx rfl (hb hby at_175) rfl (l' := #[.val (.long p1), .second, .val (.int p2), .val (.int p3), .val (.int p4), .val (.int (p2 &&& (2147483647 : Int32))), .val (.int (p3 &&& (2147483647 : Int32))), .val (.long lm), .second, .val (.ref b23), .val (.int (0 : Int32)), .val (.long (0 : Int64)), .second, .val (.int (0 : Int32)), .val (.int (0 : Int32)), .unset, .unset, .unset]) rfl k_) ?_
        show Run _ _ _ _ (T37.setTop (mkF m 177 #[.val (.long p1), .second, .val (.int p2), .val (.int p3), .val (.int p4), .val (.int (p2 &&& (2147483647 : Int32))), .val (.int (p3 &&& (2147483647 : Int32))), .val (.long lm), .second, .val (.ref b23), .val (.int (0 : Int32)), .val (.long (0 : Int64)), .second, .val (.int (0 : Int32)), .val (.int (0 : Int32)), .unset, .unset, .unset] []))
        refine Run.step (fun t_ k_ => XS.iload X37.here hx rfl (hb hby at_177) rfl k_) ?_
        show Run _ _ _ _ (T37.setTop (mkF m 179 #[.val (.long p1), .second, .val (.int p2), .val (.int p3), .val (.int p4), .val (.int (p2 &&& (2147483647 : Int32))), .val (.int (p3 &&& (2147483647 : Int32))), .val (.long lm), .second, .val (.ref b23), .val (.int (0 : Int32)), .val (.long (0 : Int64)), .second, .val (.int (0 : Int32)), .val (.int (0 : Int32)), .unset, .unset, .unset] [(.int (0 : Int32))]))
        refine Run.step (fun t_ k_ => XS.ifYes X37.here hx rfl (pc0 := 179) (pc' := 191) rfl (hb hby at_179) rfl (XT.i0_eq_t (by decide : (0 : Int32) = (0 : Int32))) (by decide) (by decide) k_) ?_
        show Run _ _ _ _ (T37.setTop (mkF m 191 #[.val (.long p1), .second, .val (.int p2), .val (.int p3), .val (.int p4), .val (.int (p2 &&& (2147483647 : Int32))), .val (.int (p3 &&& (2147483647 : Int32))), .val (.long lm), .second, .val (.ref b23), .val (.int (0 : Int32)), .val (.long (0 : Int64)), .second, .val (.int (0 : Int32)), .val (.int (0 : Int32)), .unset, .unset, .unset] []))
        refine Run.step (fun t_ k_ => XS.lload X37.here hx rfl (hb hby at_191) rfl k_) ?_
        show Run _ _ _ _ (T37.setTop (mkF m 193 #[.val (.long p1), .second, .val (.int p2), .val (.int p3), .val (.int p4), .val (.int (p2 &&& (2147483647 : Int32))), .val (.int (p3 &&& (2147483647 : Int32))), .val (.long lm), .second, .val (.ref b23), .val (.int (0 : Int32)), .val (.long (0 : Int64)), .second, .val (.int (0 : Int32)), .val (.int (0 : Int32)), .unset, .unset, .unset] [(.long (0 : Int64))]))
        refine Run.step (fun t_ k_ => XS.lstore X37.here hx rfl (hb hby at_193) rfl (l' := #[.val (.long p1), .second, .val (.int p2), .val (.int p3), .val (.int p4), .val (.int (p2 &&& (2147483647 : Int32))), .val (.int (p3 &&& (2147483647 : Int32))), .val (.long lm), .second, .val (.ref b23), .val (.int (0 : Int32)), .val (.long (0 : Int64)), .second, .val (.int (0 : Int32)), .val (.int (0 : Int32)), .val (.long (0 : Int64)), .second, .unset]) rfl k_) ?_
        show Run _ _ _ _ (T37.setTop (mkF m 195 #[.val (.long p1), .second, .val (.int p2), .val (.int p3), .val (.int p4), .val (.int (p2 &&& (2147483647 : Int32))), .val (.int (p3 &&& (2147483647 : Int32))), .val (.long lm), .second, .val (.ref b23), .val (.int (0 : Int32)), .val (.long (0 : Int64)), .second, .val (.int (0 : Int32)), .val (.int (0 : Int32)), .val (.long (0 : Int64)), .second, .unset] []))
        refine Run.step (fun t_ k_ => XS.aload X37.here hx rfl (hb hby at_195) rfl rfl k_) ?_
        show Run _ _ _ _ (T37.setTop (mkF m 197 #[.val (.long p1), .second, .val (.int p2), .val (.int p3), .val (.int p4), .val (.int (p2 &&& (2147483647 : Int32))), .val (.int (p3 &&& (2147483647 : Int32))), .val (.long lm), .second, .val (.ref b23), .val (.int (0 : Int32)), .val (.long (0 : Int64)), .second, .val (.int (0 : Int32)), .val (.int (0 : Int32)), .val (.long (0 : Int64)), .second, .unset] [(.ref b23)]))
        refine Run.step (fun t_ k_ => XS.iload X37.here hx rfl (hb hby at_197) rfl k_) ?_
        show Run _ _ _ _ (T37.setTop (mkF m 199 #[.val (.long p1), .second, .val (.int p2), .val (.int p3), .val (.int p4), .val (.int (p2 &&& (2147483647 : Int32))), .val (.int (p3 &&& (2147483647 : Int32))), .val (.long lm), .second, .val (.ref b23), .val (.int (0 : Int32)), .val (.long (0 : Int64)), .second, .val (.int (0 : Int32)), .val (.int (0 : Int32)), .val (.long (0 : Int64)), .second, .unset] [(.int (p3 &&& (2147483647 : Int32))), (.ref b23)]))
        obtain ⟨cq38, kq38, q38a, q38b, q38c⟩ := isOf hZ e37q f33
        obtain ⟨_, _, ⟨T38, L38, k38, n38⟩, -, X38, ⟨Lc38, hQ38, l38, y38, z38⟩, st38⟩ := X37.virtualBack hx (y := (⟨"com/example/hashspace/hashspace/server/FrameBudget", "reserve", "(I)Z"⟩ : MethodName)) (z := (⟨"com/example/hashspace/hashspace/server/FrameBudget", "reserve", "(I)Z"⟩ : MethodName)) hown (mvT hZ w13) (mvT hZ w14) (notFace_of_selects (args := #[]) (mvT hZ w16)) (mvT hZ w16) (mvT hZ w15) (by decide) (backOf (W := 0) (rm3n l Z a0 hw [] b23 (p3 &&& (2147483647 : Int32)) (0 : Int64) lm T32.heap n0 z36 (by first | exact c167 | (rw [Int64.zero_add]; exact c167)) fr32 ft32 f33 g_b23) hZ w17 w4 (by decide) (by decide)) q38a q38c (g := (mkF m 199 #[.val (.long p1), .second, .val (.int p2), .val (.int p3), .val (.int p4), .val (.int (p2 &&& (2147483647 : Int32))), .val (.int (p3 &&& (2147483647 : Int32))), .val (.long lm), .second, .val (.ref b23), .val (.int (0 : Int32)), .val (.long (0 : Int64)), .second, .val (.int (0 : Int32)), .val (.int (0 : Int32)), .val (.long (0 : Int64)), .second, .unset] [(.int (p3 &&& (2147483647 : Int32))), (.ref b23)])) rfl (by rw [hml]; rfl) (Steps.refl _) (argsL := [(.int (p3 &&& (2147483647 : Int32)))]) (rest := []) (lenOf pd__28I_29Z rfl) rfl (by show 2 * 0 + _ ≤ _; exact Nat.le_of_eq rfl) (hb hby at_199) (fun _ _ => ⟨rfl, e37q, (by decide : 1 + 0 ≤ _), (by decide : 2 + 0 ≤ _)⟩)
        dsimp only [Pt.U, Pt.locs, Pt.cells, Pt.slots] at X38 l38 y38 z38 st38 hQ38
        subst l38 y38 z38
        refine Run.step (fun t k => st38.trans k) ?_
        obtain ⟨rfl, N38q, K38q, fr38, ft38⟩ := hQ38
        have N38 := Fr.app N37 N38q
        have f39 := f33.keep K38q
        have z42 := Nat.le_trans z36 K38q.1
        show Run _ _ _ _ (T38.setTop (mkF m 202 #[.val (.long p1), .second, .val (.int p2), .val (.int p3), .val (.int p4), .val (.int (p2 &&& (2147483647 : Int32))), .val (.int (p3 &&& (2147483647 : Int32))), .val (.long lm), .second, .val (.ref b23), .val (.int (0 : Int32)), .val (.long (0 : Int64)), .second, .val (.int (0 : Int32)), .val (.int (0 : Int32)), .val (.long (0 : Int64)), .second, .unset] [(.int (0 : Int32))]))
        refine Run.step (fun t_ k_ => XS.istore X38.here hx rfl (hb hby at_202) rfl (l' := #[.val (.long p1), .second, .val (.int p2), .val (.int p3), .val (.int p4), .val (.int (p2 &&& (2147483647 : Int32))), .val (.int (p3 &&& (2147483647 : Int32))), .val (.long lm), .second, .val (.ref b23), .val (.int (0 : Int32)), .val (.long (0 : Int64)), .second, .val (.int (0 : Int32)), .val (.int (0 : Int32)), .val (.long (0 : Int64)), .second, .val (.int (0 : Int32))]) rfl k_) ?_
        show Run _ _ _ _ (T38.setTop (mkF m 204 #[.val (.long p1), .second, .val (.int p2), .val (.int p3), .val (.int p4), .val (.int (p2 &&& (2147483647 : Int32))), .val (.int (p3 &&& (2147483647 : Int32))), .val (.long lm), .second, .val (.ref b23), .val (.int (0 : Int32)), .val (.long (0 : Int64)), .second, .val (.int (0 : Int32)), .val (.int (0 : Int32)), .val (.long (0 : Int64)), .second, .val (.int (0 : Int32))] []))
        refine Run.step (fun t_ k_ => XS.iload X38.here hx rfl (hb hby at_204) rfl k_) ?_
        show Run _ _ _ _ (T38.setTop (mkF m 206 #[.val (.long p1), .second, .val (.int p2), .val (.int p3), .val (.int p4), .val (.int (p2 &&& (2147483647 : Int32))), .val (.int (p3 &&& (2147483647 : Int32))), .val (.long lm), .second, .val (.ref b23), .val (.int (0 : Int32)), .val (.long (0 : Int64)), .second, .val (.int (0 : Int32)), .val (.int (0 : Int32)), .val (.long (0 : Int64)), .second, .val (.int (0 : Int32))] [(.int (0 : Int32))]))
        refine Run.step (fun t_ k_ => XS.iload X38.here hx rfl (hb hby at_206) rfl k_) ?_
        show Run _ _ _ _ (T38.setTop (mkF m 208 #[.val (.long p1), .second, .val (.int p2), .val (.int p3), .val (.int p4), .val (.int (p2 &&& (2147483647 : Int32))), .val (.int (p3 &&& (2147483647 : Int32))), .val (.long lm), .second, .val (.ref b23), .val (.int (0 : Int32)), .val (.long (0 : Int64)), .second, .val (.int (0 : Int32)), .val (.int (0 : Int32)), .val (.long (0 : Int64)), .second, .val (.int (0 : Int32))] [(.int (0 : Int32)), (.int (0 : Int32))]))
        refine Run.step (fun t_ k_ => XS.icmpYes X38.here hx rfl (pc0 := 208) (pc' := 213) rfl (hb hby at_208) rfl (XT.ii_eq_t (by decide : (0 : Int32) = (0 : Int32))) (by decide) (by decide) k_) ?_
        show Run _ _ _ _ (T38.setTop (mkF m 213 #[.val (.long p1), .second, .val (.int p2), .val (.int p3), .val (.int p4), .val (.int (p2 &&& (2147483647 : Int32))), .val (.int (p3 &&& (2147483647 : Int32))), .val (.long lm), .second, .val (.ref b23), .val (.int (0 : Int32)), .val (.long (0 : Int64)), .second, .val (.int (0 : Int32)), .val (.int (0 : Int32)), .val (.long (0 : Int64)), .second, .val (.int (0 : Int32))] []))
        refine Run.step (fun t_ k_ => XS.aload X38.here hx rfl (hb hby at_213) rfl rfl k_) ?_
        show Run _ _ _ _ (T38.setTop (mkF m 215 #[.val (.long p1), .second, .val (.int p2), .val (.int p3), .val (.int p4), .val (.int (p2 &&& (2147483647 : Int32))), .val (.int (p3 &&& (2147483647 : Int32))), .val (.long lm), .second, .val (.ref b23), .val (.int (0 : Int32)), .val (.long (0 : Int64)), .second, .val (.int (0 : Int32)), .val (.int (0 : Int32)), .val (.long (0 : Int64)), .second, .val (.int (0 : Int32))] [(.ref b23)]))
        obtain ⟨cq43, kq43, q43a, q43b, q43c⟩ := isOf hZ rfl f39
        obtain ⟨_, _, ⟨T43, L43, k43, n43⟩, -, X43, ⟨Lc43, hQ43, l43, y43, z43⟩, st43⟩ := X38.virtualBack hx (y := (⟨"com/example/hashspace/hashspace/server/FrameBudget", "held", "()J"⟩ : MethodName)) (z := (⟨"com/example/hashspace/hashspace/server/FrameBudget", "held", "()J"⟩ : MethodName)) hown (mvT hZ w20) (mvT hZ w21) (notFace_of_selects (args := #[]) (mvT hZ w23)) (mvT hZ w23) (mvT hZ w22) (by decide) (backOf (W := 0) (rm4 l Z a0 hw [] b23 (0 : Int64) T38.heap n0 z42 ft38) hZ w24 w4 (by decide) (by decide)) q43a q43c (g := (mkF m 215 #[.val (.long p1), .second, .val (.int p2), .val (.int p3), .val (.int p4), .val (.int (p2 &&& (2147483647 : Int32))), .val (.int (p3 &&& (2147483647 : Int32))), .val (.long lm), .second, .val (.ref b23), .val (.int (0 : Int32)), .val (.long (0 : Int64)), .second, .val (.int (0 : Int32)), .val (.int (0 : Int32)), .val (.long (0 : Int64)), .second, .val (.int (0 : Int32))] [(.ref b23)])) rfl (by rw [hml]; rfl) (Steps.refl _) (argsL := []) (rest := []) (lenOf pd__28_29J rfl) rfl (by show 2 * 0 + _ ≤ _; exact Nat.le_of_eq rfl) (hb hby at_215) (fun _ _ => ⟨rfl, rfl, (by decide : 1 + 0 ≤ _), (by decide : 2 + 0 ≤ _)⟩)
        dsimp only [Pt.U, Pt.locs, Pt.cells, Pt.slots] at X43 l43 y43 z43 st43 hQ43
        subst l43 y43 z43
        refine Run.step (fun t k => st43.trans k) ?_
        obtain ⟨rfl, N43q, e43q⟩ := hQ43
        have N43 := Fr.app N38 N43q
        show Run _ _ _ _ (T43.setTop (mkF m 218 #[.val (.long p1), .second, .val (.int p2), .val (.int p3), .val (.int p4), .val (.int (p2 &&& (2147483647 : Int32))), .val (.int (p3 &&& (2147483647 : Int32))), .val (.long lm), .second, .val (.ref b23), .val (.int (0 : Int32)), .val (.long (0 : Int64)), .second, .val (.int (0 : Int32)), .val (.int (0 : Int32)), .val (.long (0 : Int64)), .second, .val (.int (0 : Int32))] [(.long (0 : Int64))]))
        refine Run.step (fun t_ k_ => XS.lload X43.here hx rfl (hb hby at_218) rfl k_) ?_
        show Run _ _ _ _ (T43.setTop (mkF m 220 #[.val (.long p1), .second, .val (.int p2), .val (.int p3), .val (.int p4), .val (.int (p2 &&& (2147483647 : Int32))), .val (.int (p3 &&& (2147483647 : Int32))), .val (.long lm), .second, .val (.ref b23), .val (.int (0 : Int32)), .val (.long (0 : Int64)), .second, .val (.int (0 : Int32)), .val (.int (0 : Int32)), .val (.long (0 : Int64)), .second, .val (.int (0 : Int32))] [(.long (0 : Int64)), (.long (0 : Int64))]))
        refine Run.step (fun t_ k_ => XS.lcmp X43.here hx rfl (hb hby at_220) rfl k_) ?_
        show Run _ _ _ _ (T43.setTop (mkF m 221 #[.val (.long p1), .second, .val (.int p2), .val (.int p3), .val (.int p4), .val (.int (p2 &&& (2147483647 : Int32))), .val (.int (p3 &&& (2147483647 : Int32))), .val (.long lm), .second, .val (.ref b23), .val (.int (0 : Int32)), .val (.long (0 : Int64)), .second, .val (.int (0 : Int32)), .val (.int (0 : Int32)), .val (.long (0 : Int64)), .second, .val (.int (0 : Int32))] [(.int (lcmpW (0 : Int64) (0 : Int64)))]))
        refine Run.step (fun t_ k_ => XS.ifNo X43.here hx rfl (hb hby at_221) rfl (XT.ll_ne_f ((by first | rfl | rw [Int64.zero_add]) : (0 : Int64) = (0 : Int64))) k_) ?_
        show Run _ _ _ _ (T43.setTop (mkF m 224 #[.val (.long p1), .second, .val (.int p2), .val (.int p3), .val (.int p4), .val (.int (p2 &&& (2147483647 : Int32))), .val (.int (p3 &&& (2147483647 : Int32))), .val (.long lm), .second, .val (.ref b23), .val (.int (0 : Int32)), .val (.long (0 : Int64)), .second, .val (.int (0 : Int32)), .val (.int (0 : Int32)), .val (.long (0 : Int64)), .second, .val (.int (0 : Int32))] []))
        refine Run.step (fun t_ k_ => XS.iconst X43.here hx rfl (hb hby at_224) k_) ?_
        show Run _ _ _ _ (T43.setTop (mkF m 225 #[.val (.long p1), .second, .val (.int p2), .val (.int p3), .val (.int p4), .val (.int (p2 &&& (2147483647 : Int32))), .val (.int (p3 &&& (2147483647 : Int32))), .val (.long lm), .second, .val (.ref b23), .val (.int (0 : Int32)), .val (.long (0 : Int64)), .second, .val (.int (0 : Int32)), .val (.int (0 : Int32)), .val (.long (0 : Int64)), .second, .val (.int (0 : Int32))] [(.int (1 : Int32))]))
        refine Run.step (fun t_ k_ => XS.goto X43.here hx rfl (pc0 := 225) (pc' := 229) rfl (hb hby at_225) (by decide) (by decide) k_) ?_
        show Run _ _ _ _ (T43.setTop (mkF m 229 #[.val (.long p1), .second, .val (.int p2), .val (.int p3), .val (.int p4), .val (.int (p2 &&& (2147483647 : Int32))), .val (.int (p3 &&& (2147483647 : Int32))), .val (.long lm), .second, .val (.ref b23), .val (.int (0 : Int32)), .val (.long (0 : Int64)), .second, .val (.int (0 : Int32)), .val (.int (0 : Int32)), .val (.long (0 : Int64)), .second, .val (.int (0 : Int32))] [(.int (1 : Int32))]))
        exact finZ X43 hx (BodyLoose.notSynchronized Bd) Bd.returns (hb hby at_229) (by decide) (by decide) (by decide) e43q ⟨rfl, N43⟩
      · skip
        refine Run.step (fun t_ k_ => XS.ifNo X37.here hx rfl (hb hby at_167) rfl (XT.ll_gt_f c167) k_) ?_
        show Run _ _ _ _ (T37.setTop (mkF m 170 #[.val (.long p1), .second, .val (.int p2), .val (.int p3), .val (.int p4), .val (.int (p2 &&& (2147483647 : Int32))), .val (.int (p3 &&& (2147483647 : Int32))), .val (.long lm), .second, .val (.ref b23), .val (.int (0 : Int32)), .val (.long (0 : Int64)), .second, .val (.int (0 : Int32)), .unset, .unset, .unset, .unset] []))
        refine Run.step (fun t_ k_ => XS.iconst X37.here hx rfl (hb hby at_170) k_) ?_
        show Run _ _ _ _ (T37.setTop (mkF m 171 #[.val (.long p1), .second, .val (.int p2), .val (.int p3), .val (.int p4), .val (.int (p2 &&& (2147483647 : Int32))), .val (.int (p3 &&& (2147483647 : Int32))), .val (.long lm), .second, .val (.ref b23), .val (.int (0 : Int32)), .val (.long (0 : Int64)), .second, .val (.int (0 : Int32)), .unset, .unset, .unset, .unset] [(.int (1 : Int32))]))
        refine Run.step (fun t_ k_ => XS.goto X37.here hx rfl (pc0 := 171) (pc' := 175) rfl (hb hby at_171) (by decide) (by decide) k_) ?_
        show Run _ _ _ _ (T37.setTop (mkF m 175 #[.val (.long p1), .second, .val (.int p2), .val (.int p3), .val (.int p4), .val (.int (p2 &&& (2147483647 : Int32))), .val (.int (p3 &&& (2147483647 : Int32))), .val (.long lm), .second, .val (.ref b23), .val (.int (0 : Int32)), .val (.long (0 : Int64)), .second, .val (.int (0 : Int32)), .unset, .unset, .unset, .unset] [(.int (1 : Int32))]))
        refine Run.step (fun t_ k_ => XS.istore X37.here hx rfl (hb hby at_175) rfl (l' := #[.val (.long p1), .second, .val (.int p2), .val (.int p3), .val (.int p4), .val (.int (p2 &&& (2147483647 : Int32))), .val (.int (p3 &&& (2147483647 : Int32))), .val (.long lm), .second, .val (.ref b23), .val (.int (0 : Int32)), .val (.long (0 : Int64)), .second, .val (.int (0 : Int32)), .val (.int (1 : Int32)), .unset, .unset, .unset]) rfl k_) ?_
        show Run _ _ _ _ (T37.setTop (mkF m 177 #[.val (.long p1), .second, .val (.int p2), .val (.int p3), .val (.int p4), .val (.int (p2 &&& (2147483647 : Int32))), .val (.int (p3 &&& (2147483647 : Int32))), .val (.long lm), .second, .val (.ref b23), .val (.int (0 : Int32)), .val (.long (0 : Int64)), .second, .val (.int (0 : Int32)), .val (.int (1 : Int32)), .unset, .unset, .unset] []))
        refine Run.step (fun t_ k_ => XS.iload X37.here hx rfl (hb hby at_177) rfl k_) ?_
        show Run _ _ _ _ (T37.setTop (mkF m 179 #[.val (.long p1), .second, .val (.int p2), .val (.int p3), .val (.int p4), .val (.int (p2 &&& (2147483647 : Int32))), .val (.int (p3 &&& (2147483647 : Int32))), .val (.long lm), .second, .val (.ref b23), .val (.int (0 : Int32)), .val (.long (0 : Int64)), .second, .val (.int (0 : Int32)), .val (.int (1 : Int32)), .unset, .unset, .unset] [(.int (1 : Int32))]))
        refine Run.step (fun t_ k_ => XS.ifNo X37.here hx rfl (hb hby at_179) rfl (XT.i0_eq_f (by decide : ¬ ((1 : Int32) = (0 : Int32)))) k_) ?_
        show Run _ _ _ _ (T37.setTop (mkF m 182 #[.val (.long p1), .second, .val (.int p2), .val (.int p3), .val (.int p4), .val (.int (p2 &&& (2147483647 : Int32))), .val (.int (p3 &&& (2147483647 : Int32))), .val (.long lm), .second, .val (.ref b23), .val (.int (0 : Int32)), .val (.long (0 : Int64)), .second, .val (.int (0 : Int32)), .val (.int (1 : Int32)), .unset, .unset, .unset] []))
        refine Run.step (fun t_ k_ => XS.lload X37.here hx rfl (hb hby at_182) rfl k_) ?_
        show Run _ _ _ _ (T37.setTop (mkF m 184 #[.val (.long p1), .second, .val (.int p2), .val (.int p3), .val (.int p4), .val (.int (p2 &&& (2147483647 : Int32))), .val (.int (p3 &&& (2147483647 : Int32))), .val (.long lm), .second, .val (.ref b23), .val (.int (0 : Int32)), .val (.long (0 : Int64)), .second, .val (.int (0 : Int32)), .val (.int (1 : Int32)), .unset, .unset, .unset] [(.long (0 : Int64))]))
        refine Run.step (fun t_ k_ => XS.iload X37.here hx rfl (hb hby at_184) rfl k_) ?_
        show Run _ _ _ _ (T37.setTop (mkF m 186 #[.val (.long p1), .second, .val (.int p2), .val (.int p3), .val (.int p4), .val (.int (p2 &&& (2147483647 : Int32))), .val (.int (p3 &&& (2147483647 : Int32))), .val (.long lm), .second, .val (.ref b23), .val (.int (0 : Int32)), .val (.long (0 : Int64)), .second, .val (.int (0 : Int32)), .val (.int (1 : Int32)), .unset, .unset, .unset] [(.int (p3 &&& (2147483647 : Int32))), (.long (0 : Int64))]))
        refine Run.step (fun t_ k_ => XS.i2l X37.here hx rfl (hb hby at_186) rfl k_) ?_
        show Run _ _ _ _ (T37.setTop (mkF m 187 #[.val (.long p1), .second, .val (.int p2), .val (.int p3), .val (.int p4), .val (.int (p2 &&& (2147483647 : Int32))), .val (.int (p3 &&& (2147483647 : Int32))), .val (.long lm), .second, .val (.ref b23), .val (.int (0 : Int32)), .val (.long (0 : Int64)), .second, .val (.int (0 : Int32)), .val (.int (1 : Int32)), .unset, .unset, .unset] [(.long ((p3 &&& (2147483647 : Int32)).toInt64)), (.long (0 : Int64))]))
        refine Run.step (fun t_ k_ => XS.ladd X37.here hx rfl (hb hby at_187) rfl k_) ?_
        show Run _ _ _ _ (T37.setTop (mkF m 188 #[.val (.long p1), .second, .val (.int p2), .val (.int p3), .val (.int p4), .val (.int (p2 &&& (2147483647 : Int32))), .val (.int (p3 &&& (2147483647 : Int32))), .val (.long lm), .second, .val (.ref b23), .val (.int (0 : Int32)), .val (.long (0 : Int64)), .second, .val (.int (0 : Int32)), .val (.int (1 : Int32)), .unset, .unset, .unset] [(.long ((0 : Int64) + ((p3 &&& (2147483647 : Int32)).toInt64)))]))
        refine Run.step (fun t_ k_ => XS.goto X37.here hx rfl (pc0 := 188) (pc' := 193) rfl (hb hby at_188) (by decide) (by decide) k_) ?_
        show Run _ _ _ _ (T37.setTop (mkF m 193 #[.val (.long p1), .second, .val (.int p2), .val (.int p3), .val (.int p4), .val (.int (p2 &&& (2147483647 : Int32))), .val (.int (p3 &&& (2147483647 : Int32))), .val (.long lm), .second, .val (.ref b23), .val (.int (0 : Int32)), .val (.long (0 : Int64)), .second, .val (.int (0 : Int32)), .val (.int (1 : Int32)), .unset, .unset, .unset] [(.long ((0 : Int64) + ((p3 &&& (2147483647 : Int32)).toInt64)))]))
        refine Run.step (fun t_ k_ => XS.lstore X37.here hx rfl (hb hby at_193) rfl (l' := #[.val (.long p1), .second, .val (.int p2), .val (.int p3), .val (.int p4), .val (.int (p2 &&& (2147483647 : Int32))), .val (.int (p3 &&& (2147483647 : Int32))), .val (.long lm), .second, .val (.ref b23), .val (.int (0 : Int32)), .val (.long (0 : Int64)), .second, .val (.int (0 : Int32)), .val (.int (1 : Int32)), .val (.long ((0 : Int64) + ((p3 &&& (2147483647 : Int32)).toInt64))), .second, .unset]) rfl k_) ?_
        show Run _ _ _ _ (T37.setTop (mkF m 195 #[.val (.long p1), .second, .val (.int p2), .val (.int p3), .val (.int p4), .val (.int (p2 &&& (2147483647 : Int32))), .val (.int (p3 &&& (2147483647 : Int32))), .val (.long lm), .second, .val (.ref b23), .val (.int (0 : Int32)), .val (.long (0 : Int64)), .second, .val (.int (0 : Int32)), .val (.int (1 : Int32)), .val (.long ((0 : Int64) + ((p3 &&& (2147483647 : Int32)).toInt64))), .second, .unset] []))
        refine Run.step (fun t_ k_ => XS.aload X37.here hx rfl (hb hby at_195) rfl rfl k_) ?_
        show Run _ _ _ _ (T37.setTop (mkF m 197 #[.val (.long p1), .second, .val (.int p2), .val (.int p3), .val (.int p4), .val (.int (p2 &&& (2147483647 : Int32))), .val (.int (p3 &&& (2147483647 : Int32))), .val (.long lm), .second, .val (.ref b23), .val (.int (0 : Int32)), .val (.long (0 : Int64)), .second, .val (.int (0 : Int32)), .val (.int (1 : Int32)), .val (.long ((0 : Int64) + ((p3 &&& (2147483647 : Int32)).toInt64))), .second, .unset] [(.ref b23)]))
        refine Run.step (fun t_ k_ => XS.iload X37.here hx rfl (hb hby at_197) rfl k_) ?_
        show Run _ _ _ _ (T37.setTop (mkF m 199 #[.val (.long p1), .second, .val (.int p2), .val (.int p3), .val (.int p4), .val (.int (p2 &&& (2147483647 : Int32))), .val (.int (p3 &&& (2147483647 : Int32))), .val (.long lm), .second, .val (.ref b23), .val (.int (0 : Int32)), .val (.long (0 : Int64)), .second, .val (.int (0 : Int32)), .val (.int (1 : Int32)), .val (.long ((0 : Int64) + ((p3 &&& (2147483647 : Int32)).toInt64))), .second, .unset] [(.int (p3 &&& (2147483647 : Int32))), (.ref b23)]))
        obtain ⟨cq44, kq44, q44a, q44b, q44c⟩ := isOf hZ e37q f33
        obtain ⟨_, _, ⟨T44, L44, k44, n44⟩, -, X44, ⟨Lc44, hQ44, l44, y44, z44⟩, st44⟩ := X37.virtualBack hx (y := (⟨"com/example/hashspace/hashspace/server/FrameBudget", "reserve", "(I)Z"⟩ : MethodName)) (z := (⟨"com/example/hashspace/hashspace/server/FrameBudget", "reserve", "(I)Z"⟩ : MethodName)) hown (mvT hZ w13) (mvT hZ w14) (notFace_of_selects (args := #[]) (mvT hZ w16)) (mvT hZ w16) (mvT hZ w15) (by decide) (backOf (W := 0) (rm3y l Z a0 hw [] b23 (p3 &&& (2147483647 : Int32)) (0 : Int64) lm T32.heap n0 z36 (by first | exact c167 | (rw [Int64.zero_add]; exact c167)) fr32 ft32 f33 g_b23) hZ w17 w4 (by decide) (by decide)) q44a q44c (g := (mkF m 199 #[.val (.long p1), .second, .val (.int p2), .val (.int p3), .val (.int p4), .val (.int (p2 &&& (2147483647 : Int32))), .val (.int (p3 &&& (2147483647 : Int32))), .val (.long lm), .second, .val (.ref b23), .val (.int (0 : Int32)), .val (.long (0 : Int64)), .second, .val (.int (0 : Int32)), .val (.int (1 : Int32)), .val (.long ((0 : Int64) + ((p3 &&& (2147483647 : Int32)).toInt64))), .second, .unset] [(.int (p3 &&& (2147483647 : Int32))), (.ref b23)])) rfl (by rw [hml]; rfl) (Steps.refl _) (argsL := [(.int (p3 &&& (2147483647 : Int32)))]) (rest := []) (lenOf pd__28I_29Z rfl) rfl (by show 2 * 0 + _ ≤ _; exact Nat.le_of_eq rfl) (hb hby at_199) (fun _ _ => ⟨rfl, e37q, (by decide : 1 + 0 ≤ _), (by decide : 2 + 0 ≤ _)⟩)
        dsimp only [Pt.U, Pt.locs, Pt.cells, Pt.slots] at X44 l44 y44 z44 st44 hQ44
        subst l44 y44 z44
        refine Run.step (fun t k => st44.trans k) ?_
        obtain ⟨rfl, N44q, K44q, fr44, ft44⟩ := hQ44
        have N44 := Fr.app N37 N44q
        have f45 := f33.keep K44q
        have z48 := Nat.le_trans z36 K44q.1
        show Run _ _ _ _ (T44.setTop (mkF m 202 #[.val (.long p1), .second, .val (.int p2), .val (.int p3), .val (.int p4), .val (.int (p2 &&& (2147483647 : Int32))), .val (.int (p3 &&& (2147483647 : Int32))), .val (.long lm), .second, .val (.ref b23), .val (.int (0 : Int32)), .val (.long (0 : Int64)), .second, .val (.int (0 : Int32)), .val (.int (1 : Int32)), .val (.long ((0 : Int64) + ((p3 &&& (2147483647 : Int32)).toInt64))), .second, .unset] [(.int (1 : Int32))]))
        refine Run.step (fun t_ k_ => XS.istore X44.here hx rfl (hb hby at_202) rfl (l' := #[.val (.long p1), .second, .val (.int p2), .val (.int p3), .val (.int p4), .val (.int (p2 &&& (2147483647 : Int32))), .val (.int (p3 &&& (2147483647 : Int32))), .val (.long lm), .second, .val (.ref b23), .val (.int (0 : Int32)), .val (.long (0 : Int64)), .second, .val (.int (0 : Int32)), .val (.int (1 : Int32)), .val (.long ((0 : Int64) + ((p3 &&& (2147483647 : Int32)).toInt64))), .second, .val (.int (1 : Int32))]) rfl k_) ?_
        show Run _ _ _ _ (T44.setTop (mkF m 204 #[.val (.long p1), .second, .val (.int p2), .val (.int p3), .val (.int p4), .val (.int (p2 &&& (2147483647 : Int32))), .val (.int (p3 &&& (2147483647 : Int32))), .val (.long lm), .second, .val (.ref b23), .val (.int (0 : Int32)), .val (.long (0 : Int64)), .second, .val (.int (0 : Int32)), .val (.int (1 : Int32)), .val (.long ((0 : Int64) + ((p3 &&& (2147483647 : Int32)).toInt64))), .second, .val (.int (1 : Int32))] []))
        refine Run.step (fun t_ k_ => XS.iload X44.here hx rfl (hb hby at_204) rfl k_) ?_
        show Run _ _ _ _ (T44.setTop (mkF m 206 #[.val (.long p1), .second, .val (.int p2), .val (.int p3), .val (.int p4), .val (.int (p2 &&& (2147483647 : Int32))), .val (.int (p3 &&& (2147483647 : Int32))), .val (.long lm), .second, .val (.ref b23), .val (.int (0 : Int32)), .val (.long (0 : Int64)), .second, .val (.int (0 : Int32)), .val (.int (1 : Int32)), .val (.long ((0 : Int64) + ((p3 &&& (2147483647 : Int32)).toInt64))), .second, .val (.int (1 : Int32))] [(.int (1 : Int32))]))
        refine Run.step (fun t_ k_ => XS.iload X44.here hx rfl (hb hby at_206) rfl k_) ?_
        show Run _ _ _ _ (T44.setTop (mkF m 208 #[.val (.long p1), .second, .val (.int p2), .val (.int p3), .val (.int p4), .val (.int (p2 &&& (2147483647 : Int32))), .val (.int (p3 &&& (2147483647 : Int32))), .val (.long lm), .second, .val (.ref b23), .val (.int (0 : Int32)), .val (.long (0 : Int64)), .second, .val (.int (0 : Int32)), .val (.int (1 : Int32)), .val (.long ((0 : Int64) + ((p3 &&& (2147483647 : Int32)).toInt64))), .second, .val (.int (1 : Int32))] [(.int (1 : Int32)), (.int (1 : Int32))]))
        refine Run.step (fun t_ k_ => XS.icmpYes X44.here hx rfl (pc0 := 208) (pc' := 213) rfl (hb hby at_208) rfl (XT.ii_eq_t (by decide : (1 : Int32) = (1 : Int32))) (by decide) (by decide) k_) ?_
        show Run _ _ _ _ (T44.setTop (mkF m 213 #[.val (.long p1), .second, .val (.int p2), .val (.int p3), .val (.int p4), .val (.int (p2 &&& (2147483647 : Int32))), .val (.int (p3 &&& (2147483647 : Int32))), .val (.long lm), .second, .val (.ref b23), .val (.int (0 : Int32)), .val (.long (0 : Int64)), .second, .val (.int (0 : Int32)), .val (.int (1 : Int32)), .val (.long ((0 : Int64) + ((p3 &&& (2147483647 : Int32)).toInt64))), .second, .val (.int (1 : Int32))] []))
        refine Run.step (fun t_ k_ => XS.aload X44.here hx rfl (hb hby at_213) rfl rfl k_) ?_
        show Run _ _ _ _ (T44.setTop (mkF m 215 #[.val (.long p1), .second, .val (.int p2), .val (.int p3), .val (.int p4), .val (.int (p2 &&& (2147483647 : Int32))), .val (.int (p3 &&& (2147483647 : Int32))), .val (.long lm), .second, .val (.ref b23), .val (.int (0 : Int32)), .val (.long (0 : Int64)), .second, .val (.int (0 : Int32)), .val (.int (1 : Int32)), .val (.long ((0 : Int64) + ((p3 &&& (2147483647 : Int32)).toInt64))), .second, .val (.int (1 : Int32))] [(.ref b23)]))
        obtain ⟨cq49, kq49, q49a, q49b, q49c⟩ := isOf hZ rfl f45
        obtain ⟨_, _, ⟨T49, L49, k49, n49⟩, -, X49, ⟨Lc49, hQ49, l49, y49, z49⟩, st49⟩ := X44.virtualBack hx (y := (⟨"com/example/hashspace/hashspace/server/FrameBudget", "held", "()J"⟩ : MethodName)) (z := (⟨"com/example/hashspace/hashspace/server/FrameBudget", "held", "()J"⟩ : MethodName)) hown (mvT hZ w20) (mvT hZ w21) (notFace_of_selects (args := #[]) (mvT hZ w23)) (mvT hZ w23) (mvT hZ w22) (by decide) (backOf (W := 0) (rm4 l Z a0 hw [] b23 ((0 : Int64) + (p3 &&& (2147483647 : Int32)).toInt64) T44.heap n0 z48 ft44) hZ w24 w4 (by decide) (by decide)) q49a q49c (g := (mkF m 215 #[.val (.long p1), .second, .val (.int p2), .val (.int p3), .val (.int p4), .val (.int (p2 &&& (2147483647 : Int32))), .val (.int (p3 &&& (2147483647 : Int32))), .val (.long lm), .second, .val (.ref b23), .val (.int (0 : Int32)), .val (.long (0 : Int64)), .second, .val (.int (0 : Int32)), .val (.int (1 : Int32)), .val (.long ((0 : Int64) + ((p3 &&& (2147483647 : Int32)).toInt64))), .second, .val (.int (1 : Int32))] [(.ref b23)])) rfl (by rw [hml]; rfl) (Steps.refl _) (argsL := []) (rest := []) (lenOf pd__28_29J rfl) rfl (by show 2 * 0 + _ ≤ _; exact Nat.le_of_eq rfl) (hb hby at_215) (fun _ _ => ⟨rfl, rfl, (by decide : 1 + 0 ≤ _), (by decide : 2 + 0 ≤ _)⟩)
        dsimp only [Pt.U, Pt.locs, Pt.cells, Pt.slots] at X49 l49 y49 z49 st49 hQ49
        subst l49 y49 z49
        refine Run.step (fun t k => st49.trans k) ?_
        obtain ⟨rfl, N49q, e49q⟩ := hQ49
        have N49 := Fr.app N44 N49q
        show Run _ _ _ _ (T49.setTop (mkF m 218 #[.val (.long p1), .second, .val (.int p2), .val (.int p3), .val (.int p4), .val (.int (p2 &&& (2147483647 : Int32))), .val (.int (p3 &&& (2147483647 : Int32))), .val (.long lm), .second, .val (.ref b23), .val (.int (0 : Int32)), .val (.long (0 : Int64)), .second, .val (.int (0 : Int32)), .val (.int (1 : Int32)), .val (.long ((0 : Int64) + ((p3 &&& (2147483647 : Int32)).toInt64))), .second, .val (.int (1 : Int32))] [(.long ((0 : Int64) + (p3 &&& (2147483647 : Int32)).toInt64))]))
        refine Run.step (fun t_ k_ => XS.lload X49.here hx rfl (hb hby at_218) rfl k_) ?_
        show Run _ _ _ _ (T49.setTop (mkF m 220 #[.val (.long p1), .second, .val (.int p2), .val (.int p3), .val (.int p4), .val (.int (p2 &&& (2147483647 : Int32))), .val (.int (p3 &&& (2147483647 : Int32))), .val (.long lm), .second, .val (.ref b23), .val (.int (0 : Int32)), .val (.long (0 : Int64)), .second, .val (.int (0 : Int32)), .val (.int (1 : Int32)), .val (.long ((0 : Int64) + ((p3 &&& (2147483647 : Int32)).toInt64))), .second, .val (.int (1 : Int32))] [(.long ((0 : Int64) + ((p3 &&& (2147483647 : Int32)).toInt64))), (.long ((0 : Int64) + (p3 &&& (2147483647 : Int32)).toInt64))]))
        refine Run.step (fun t_ k_ => XS.lcmp X49.here hx rfl (hb hby at_220) rfl k_) ?_
        show Run _ _ _ _ (T49.setTop (mkF m 221 #[.val (.long p1), .second, .val (.int p2), .val (.int p3), .val (.int p4), .val (.int (p2 &&& (2147483647 : Int32))), .val (.int (p3 &&& (2147483647 : Int32))), .val (.long lm), .second, .val (.ref b23), .val (.int (0 : Int32)), .val (.long (0 : Int64)), .second, .val (.int (0 : Int32)), .val (.int (1 : Int32)), .val (.long ((0 : Int64) + ((p3 &&& (2147483647 : Int32)).toInt64))), .second, .val (.int (1 : Int32))] [(.int (lcmpW ((0 : Int64) + (p3 &&& (2147483647 : Int32)).toInt64) ((0 : Int64) + ((p3 &&& (2147483647 : Int32)).toInt64))))]))
        refine Run.step (fun t_ k_ => XS.ifNo X49.here hx rfl (hb hby at_221) rfl (XT.ll_ne_f ((by first | rfl | rw [Int64.zero_add]) : ((0 : Int64) + (p3 &&& (2147483647 : Int32)).toInt64) = ((0 : Int64) + ((p3 &&& (2147483647 : Int32)).toInt64)))) k_) ?_
        show Run _ _ _ _ (T49.setTop (mkF m 224 #[.val (.long p1), .second, .val (.int p2), .val (.int p3), .val (.int p4), .val (.int (p2 &&& (2147483647 : Int32))), .val (.int (p3 &&& (2147483647 : Int32))), .val (.long lm), .second, .val (.ref b23), .val (.int (0 : Int32)), .val (.long (0 : Int64)), .second, .val (.int (0 : Int32)), .val (.int (1 : Int32)), .val (.long ((0 : Int64) + ((p3 &&& (2147483647 : Int32)).toInt64))), .second, .val (.int (1 : Int32))] []))
        refine Run.step (fun t_ k_ => XS.iconst X49.here hx rfl (hb hby at_224) k_) ?_
        show Run _ _ _ _ (T49.setTop (mkF m 225 #[.val (.long p1), .second, .val (.int p2), .val (.int p3), .val (.int p4), .val (.int (p2 &&& (2147483647 : Int32))), .val (.int (p3 &&& (2147483647 : Int32))), .val (.long lm), .second, .val (.ref b23), .val (.int (0 : Int32)), .val (.long (0 : Int64)), .second, .val (.int (0 : Int32)), .val (.int (1 : Int32)), .val (.long ((0 : Int64) + ((p3 &&& (2147483647 : Int32)).toInt64))), .second, .val (.int (1 : Int32))] [(.int (1 : Int32))]))
        refine Run.step (fun t_ k_ => XS.goto X49.here hx rfl (pc0 := 225) (pc' := 229) rfl (hb hby at_225) (by decide) (by decide) k_) ?_
        show Run _ _ _ _ (T49.setTop (mkF m 229 #[.val (.long p1), .second, .val (.int p2), .val (.int p3), .val (.int p4), .val (.int (p2 &&& (2147483647 : Int32))), .val (.int (p3 &&& (2147483647 : Int32))), .val (.long lm), .second, .val (.ref b23), .val (.int (0 : Int32)), .val (.long (0 : Int64)), .second, .val (.int (0 : Int32)), .val (.int (1 : Int32)), .val (.long ((0 : Int64) + ((p3 &&& (2147483647 : Int32)).toInt64))), .second, .val (.int (1 : Int32))] [(.int (1 : Int32))]))
        exact finZ X49 hx (BodyLoose.notSynchronized Bd) Bd.returns (hb hby at_229) (by decide) (by decide) (by decide) e49q ⟨rfl, N49⟩
    · skip
      refine Run.step (fun t_ k_ => XS.ifNo X27.here hx rfl (hb hby at_103) rfl (XT.ll_gt_f c103) k_) ?_
      show Run _ _ _ _ (T27.setTop (mkF m 106 #[.val (.long p1), .second, .val (.int p2), .val (.int p3), .val (.int p4), .val (.int (p2 &&& (2147483647 : Int32))), .val (.int (p3 &&& (2147483647 : Int32))), .val (.long lm), .second, .val (.ref b23), .unset, .unset, .unset, .unset, .unset, .unset, .unset, .unset] []))
      refine Run.step (fun t_ k_ => XS.iconst X27.here hx rfl (hb hby at_106) k_) ?_
      show Run _ _ _ _ (T27.setTop (mkF m 107 #[.val (.long p1), .second, .val (.int p2), .val (.int p3), .val (.int p4), .val (.int (p2 &&& (2147483647 : Int32))), .val (.int (p3 &&& (2147483647 : Int32))), .val (.long lm), .second, .val (.ref b23), .unset, .unset, .unset, .unset, .unset, .unset, .unset, .unset] [(.int (1 : Int32))]))
      refine Run.step (fun t_ k_ => XS.goto X27.here hx rfl (pc0 := 107) (pc' := 111) rfl (hb hby at_107) (by decide) (by decide) k_) ?_
      show Run _ _ _ _ (T27.setTop (mkF m 111 #[.val (.long p1), .second, .val (.int p2), .val (.int p3), .val (.int p4), .val (.int (p2 &&& (2147483647 : Int32))), .val (.int (p3 &&& (2147483647 : Int32))), .val (.long lm), .second, .val (.ref b23), .unset, .unset, .unset, .unset, .unset, .unset, .unset, .unset] [(.int (1 : Int32))]))
      refine Run.step (fun t_ k_ => XS.istore X27.here hx rfl (hb hby at_111) rfl (l' := #[.val (.long p1), .second, .val (.int p2), .val (.int p3), .val (.int p4), .val (.int (p2 &&& (2147483647 : Int32))), .val (.int (p3 &&& (2147483647 : Int32))), .val (.long lm), .second, .val (.ref b23), .val (.int (1 : Int32)), .unset, .unset, .unset, .unset, .unset, .unset, .unset]) rfl k_) ?_
      show Run _ _ _ _ (T27.setTop (mkF m 113 #[.val (.long p1), .second, .val (.int p2), .val (.int p3), .val (.int p4), .val (.int (p2 &&& (2147483647 : Int32))), .val (.int (p3 &&& (2147483647 : Int32))), .val (.long lm), .second, .val (.ref b23), .val (.int (1 : Int32)), .unset, .unset, .unset, .unset, .unset, .unset, .unset] []))
      refine Run.step (fun t_ k_ => XS.iload X27.here hx rfl (hb hby at_113) rfl k_) ?_
      show Run _ _ _ _ (T27.setTop (mkF m 115 #[.val (.long p1), .second, .val (.int p2), .val (.int p3), .val (.int p4), .val (.int (p2 &&& (2147483647 : Int32))), .val (.int (p3 &&& (2147483647 : Int32))), .val (.long lm), .second, .val (.ref b23), .val (.int (1 : Int32)), .unset, .unset, .unset, .unset, .unset, .unset, .unset] [(.int (1 : Int32))]))
      refine Run.step (fun t_ k_ => XS.ifNo X27.here hx rfl (hb hby at_115) rfl (XT.i0_eq_f (by decide : ¬ ((1 : Int32) = (0 : Int32)))) k_) ?_
      show Run _ _ _ _ (T27.setTop (mkF m 118 #[.val (.long p1), .second, .val (.int p2), .val (.int p3), .val (.int p4), .val (.int (p2 &&& (2147483647 : Int32))), .val (.int (p3 &&& (2147483647 : Int32))), .val (.long lm), .second, .val (.ref b23), .val (.int (1 : Int32)), .unset, .unset, .unset, .unset, .unset, .unset, .unset] []))
      refine Run.step (fun t_ k_ => XS.iload X27.here hx rfl (hb hby at_118) rfl k_) ?_
      show Run _ _ _ _ (T27.setTop (mkF m 120 #[.val (.long p1), .second, .val (.int p2), .val (.int p3), .val (.int p4), .val (.int (p2 &&& (2147483647 : Int32))), .val (.int (p3 &&& (2147483647 : Int32))), .val (.long lm), .second, .val (.ref b23), .val (.int (1 : Int32)), .unset, .unset, .unset, .unset, .unset, .unset, .unset] [(.int (p2 &&& (2147483647 : Int32)))]))
      refine Run.step (fun t_ k_ => XS.i2l X27.here hx rfl (hb hby at_120) rfl k_) ?_
      show Run _ _ _ _ (T27.setTop (mkF m 121 #[.val (.long p1), .second, .val (.int p2), .val (.int p3), .val (.int p4), .val (.int (p2 &&& (2147483647 : Int32))), .val (.int (p3 &&& (2147483647 : Int32))), .val (.long lm), .second, .val (.ref b23), .val (.int (1 : Int32)), .unset, .unset, .unset, .unset, .unset, .unset, .unset] [(.long ((p2 &&& (2147483647 : Int32)).toInt64))]))
      refine Run.step (fun t_ k_ => XS.goto X27.here hx rfl (pc0 := 121) (pc' := 125) rfl (hb hby at_121) (by decide) (by decide) k_) ?_
      show Run _ _ _ _ (T27.setTop (mkF m 125 #[.val (.long p1), .second, .val (.int p2), .val (.int p3), .val (.int p4), .val (.int (p2 &&& (2147483647 : Int32))), .val (.int (p3 &&& (2147483647 : Int32))), .val (.long lm), .second, .val (.ref b23), .val (.int (1 : Int32)), .unset, .unset, .unset, .unset, .unset, .unset, .unset] [(.long ((p2 &&& (2147483647 : Int32)).toInt64))]))
      refine Run.step (fun t_ k_ => XS.lstore X27.here hx rfl (hb hby at_125) rfl (l' := #[.val (.long p1), .second, .val (.int p2), .val (.int p3), .val (.int p4), .val (.int (p2 &&& (2147483647 : Int32))), .val (.int (p3 &&& (2147483647 : Int32))), .val (.long lm), .second, .val (.ref b23), .val (.int (1 : Int32)), .val (.long ((p2 &&& (2147483647 : Int32)).toInt64)), .second, .unset, .unset, .unset, .unset, .unset]) rfl k_) ?_
      show Run _ _ _ _ (T27.setTop (mkF m 127 #[.val (.long p1), .second, .val (.int p2), .val (.int p3), .val (.int p4), .val (.int (p2 &&& (2147483647 : Int32))), .val (.int (p3 &&& (2147483647 : Int32))), .val (.long lm), .second, .val (.ref b23), .val (.int (1 : Int32)), .val (.long ((p2 &&& (2147483647 : Int32)).toInt64)), .second, .unset, .unset, .unset, .unset, .unset] []))
      refine Run.step (fun t_ k_ => XS.aload X27.here hx rfl (hb hby at_127) rfl rfl k_) ?_
      show Run _ _ _ _ (T27.setTop (mkF m 129 #[.val (.long p1), .second, .val (.int p2), .val (.int p3), .val (.int p4), .val (.int (p2 &&& (2147483647 : Int32))), .val (.int (p3 &&& (2147483647 : Int32))), .val (.long lm), .second, .val (.ref b23), .val (.int (1 : Int32)), .val (.long ((p2 &&& (2147483647 : Int32)).toInt64)), .second, .unset, .unset, .unset, .unset, .unset] [(.ref b23)]))
      refine Run.step (fun t_ k_ => XS.iload X27.here hx rfl (hb hby at_129) rfl k_) ?_
      show Run _ _ _ _ (T27.setTop (mkF m 131 #[.val (.long p1), .second, .val (.int p2), .val (.int p3), .val (.int p4), .val (.int (p2 &&& (2147483647 : Int32))), .val (.int (p3 &&& (2147483647 : Int32))), .val (.long lm), .second, .val (.ref b23), .val (.int (1 : Int32)), .val (.long ((p2 &&& (2147483647 : Int32)).toInt64)), .second, .unset, .unset, .unset, .unset, .unset] [(.int (p2 &&& (2147483647 : Int32))), (.ref b23)]))
      obtain ⟨cq50, kq50, q50a, q50b, q50c⟩ := isOf hZ rfl f28
      obtain ⟨_, _, ⟨T50, L50, k50, n50⟩, -, X50, ⟨Lc50, hQ50, l50, y50, z50⟩, st50⟩ := X27.virtualBack hx (y := (⟨"com/example/hashspace/hashspace/server/FrameBudget", "reserve", "(I)Z"⟩ : MethodName)) (z := (⟨"com/example/hashspace/hashspace/server/FrameBudget", "reserve", "(I)Z"⟩ : MethodName)) hown (mvT hZ w13) (mvT hZ w14) (notFace_of_selects (args := #[]) (mvT hZ w16)) (mvT hZ w16) (mvT hZ w15) (by decide) (backOf (W := 0) (rm3y l Z a0 hw [] b23 (p2 &&& (2147483647 : Int32)) (0 : Int64) lm T27.heap n0 z31 (by first | exact c103 | (rw [Int64.zero_add]; exact c103)) fr27 ft27 f28 g_b23) hZ w17 w4 (by decide) (by decide)) q50a q50c (g := (mkF m 131 #[.val (.long p1), .second, .val (.int p2), .val (.int p3), .val (.int p4), .val (.int (p2 &&& (2147483647 : Int32))), .val (.int (p3 &&& (2147483647 : Int32))), .val (.long lm), .second, .val (.ref b23), .val (.int (1 : Int32)), .val (.long ((p2 &&& (2147483647 : Int32)).toInt64)), .second, .unset, .unset, .unset, .unset, .unset] [(.int (p2 &&& (2147483647 : Int32))), (.ref b23)])) rfl (by rw [hml]; rfl) (Steps.refl _) (argsL := [(.int (p2 &&& (2147483647 : Int32)))]) (rest := []) (lenOf pd__28I_29Z rfl) rfl (by show 2 * 0 + _ ≤ _; exact Nat.le_of_eq rfl) (hb hby at_131) (fun _ _ => ⟨rfl, rfl, (by decide : 1 + 0 ≤ _), (by decide : 2 + 0 ≤ _)⟩)
      dsimp only [Pt.U, Pt.locs, Pt.cells, Pt.slots] at X50 l50 y50 z50 st50 hQ50
      subst l50 y50 z50
      refine Run.step (fun t k => st50.trans k) ?_
      obtain ⟨rfl, N50q, K50q, fr50, ft50⟩ := hQ50
      have N50 := Fr.app N27 N50q
      have f51 := f28.keep K50q
      have z54 := Nat.le_trans z31 K50q.1
      show Run _ _ _ _ (T50.setTop (mkF m 134 #[.val (.long p1), .second, .val (.int p2), .val (.int p3), .val (.int p4), .val (.int (p2 &&& (2147483647 : Int32))), .val (.int (p3 &&& (2147483647 : Int32))), .val (.long lm), .second, .val (.ref b23), .val (.int (1 : Int32)), .val (.long ((p2 &&& (2147483647 : Int32)).toInt64)), .second, .unset, .unset, .unset, .unset, .unset] [(.int (1 : Int32))]))
      refine Run.step (fun t_ k_ => XS.istore X50.here hx rfl (hb hby at_134) rfl (l' := #[.val (.long p1), .second, .val (.int p2), .val (.int p3), .val (.int p4), .val (.int (p2 &&& (2147483647 : Int32))), .val (.int (p3 &&& (2147483647 : Int32))), .val (.long lm), .second, .val (.ref b23), .val (.int (1 : Int32)), .val (.long ((p2 &&& (2147483647 : Int32)).toInt64)), .second, .val (.int (1 : Int32)), .unset, .unset, .unset, .unset]) rfl k_) ?_
      show Run _ _ _ _ (T50.setTop (mkF m 136 #[.val (.long p1), .second, .val (.int p2), .val (.int p3), .val (.int p4), .val (.int (p2 &&& (2147483647 : Int32))), .val (.int (p3 &&& (2147483647 : Int32))), .val (.long lm), .second, .val (.ref b23), .val (.int (1 : Int32)), .val (.long ((p2 &&& (2147483647 : Int32)).toInt64)), .second, .val (.int (1 : Int32)), .unset, .unset, .unset, .unset] []))
      refine Run.step (fun t_ k_ => XS.iload X50.here hx rfl (hb hby at_136) rfl k_) ?_
      show Run _ _ _ _ (T50.setTop (mkF m 138 #[.val (.long p1), .second, .val (.int p2), .val (.int p3), .val (.int p4), .val (.int (p2 &&& (2147483647 : Int32))), .val (.int (p3 &&& (2147483647 : Int32))), .val (.long lm), .second, .val (.ref b23), .val (.int (1 : Int32)), .val (.long ((p2 &&& (2147483647 : Int32)).toInt64)), .second, .val (.int (1 : Int32)), .unset, .unset, .unset, .unset] [(.int (1 : Int32))]))
      refine Run.step (fun t_ k_ => XS.iload X50.here hx rfl (hb hby at_138) rfl k_) ?_
      show Run _ _ _ _ (T50.setTop (mkF m 140 #[.val (.long p1), .second, .val (.int p2), .val (.int p3), .val (.int p4), .val (.int (p2 &&& (2147483647 : Int32))), .val (.int (p3 &&& (2147483647 : Int32))), .val (.long lm), .second, .val (.ref b23), .val (.int (1 : Int32)), .val (.long ((p2 &&& (2147483647 : Int32)).toInt64)), .second, .val (.int (1 : Int32)), .unset, .unset, .unset, .unset] [(.int (1 : Int32)), (.int (1 : Int32))]))
      refine Run.step (fun t_ k_ => XS.icmpYes X50.here hx rfl (pc0 := 140) (pc' := 145) rfl (hb hby at_140) rfl (XT.ii_eq_t (by decide : (1 : Int32) = (1 : Int32))) (by decide) (by decide) k_) ?_
      show Run _ _ _ _ (T50.setTop (mkF m 145 #[.val (.long p1), .second, .val (.int p2), .val (.int p3), .val (.int p4), .val (.int (p2 &&& (2147483647 : Int32))), .val (.int (p3 &&& (2147483647 : Int32))), .val (.long lm), .second, .val (.ref b23), .val (.int (1 : Int32)), .val (.long ((p2 &&& (2147483647 : Int32)).toInt64)), .second, .val (.int (1 : Int32)), .unset, .unset, .unset, .unset] []))
      refine Run.step (fun t_ k_ => XS.aload X50.here hx rfl (hb hby at_145) rfl rfl k_) ?_
      show Run _ _ _ _ (T50.setTop (mkF m 147 #[.val (.long p1), .second, .val (.int p2), .val (.int p3), .val (.int p4), .val (.int (p2 &&& (2147483647 : Int32))), .val (.int (p3 &&& (2147483647 : Int32))), .val (.long lm), .second, .val (.ref b23), .val (.int (1 : Int32)), .val (.long ((p2 &&& (2147483647 : Int32)).toInt64)), .second, .val (.int (1 : Int32)), .unset, .unset, .unset, .unset] [(.ref b23)]))
      obtain ⟨cq55, kq55, q55a, q55b, q55c⟩ := isOf hZ rfl f51
      obtain ⟨_, _, ⟨T55, L55, k55, n55⟩, -, X55, ⟨Lc55, hQ55, l55, y55, z55⟩, st55⟩ := X50.virtualBack hx (y := (⟨"com/example/hashspace/hashspace/server/FrameBudget", "held", "()J"⟩ : MethodName)) (z := (⟨"com/example/hashspace/hashspace/server/FrameBudget", "held", "()J"⟩ : MethodName)) hown (mvT hZ w20) (mvT hZ w21) (notFace_of_selects (args := #[]) (mvT hZ w23)) (mvT hZ w23) (mvT hZ w22) (by decide) (backOf (W := 0) (rm4 l Z a0 hw [] b23 ((0 : Int64) + (p2 &&& (2147483647 : Int32)).toInt64) T50.heap n0 z54 ft50) hZ w24 w4 (by decide) (by decide)) q55a q55c (g := (mkF m 147 #[.val (.long p1), .second, .val (.int p2), .val (.int p3), .val (.int p4), .val (.int (p2 &&& (2147483647 : Int32))), .val (.int (p3 &&& (2147483647 : Int32))), .val (.long lm), .second, .val (.ref b23), .val (.int (1 : Int32)), .val (.long ((p2 &&& (2147483647 : Int32)).toInt64)), .second, .val (.int (1 : Int32)), .unset, .unset, .unset, .unset] [(.ref b23)])) rfl (by rw [hml]; rfl) (Steps.refl _) (argsL := []) (rest := []) (lenOf pd__28_29J rfl) rfl (by show 2 * 0 + _ ≤ _; exact Nat.le_of_eq rfl) (hb hby at_147) (fun _ _ => ⟨rfl, rfl, (by decide : 1 + 0 ≤ _), (by decide : 2 + 0 ≤ _)⟩)
      dsimp only [Pt.U, Pt.locs, Pt.cells, Pt.slots] at X55 l55 y55 z55 st55 hQ55
      subst l55 y55 z55
      refine Run.step (fun t k => st55.trans k) ?_
      obtain ⟨rfl, N55q, e55q⟩ := hQ55
      have N55 := Fr.app N50 N55q
      show Run _ _ _ _ (T55.setTop (mkF m 150 #[.val (.long p1), .second, .val (.int p2), .val (.int p3), .val (.int p4), .val (.int (p2 &&& (2147483647 : Int32))), .val (.int (p3 &&& (2147483647 : Int32))), .val (.long lm), .second, .val (.ref b23), .val (.int (1 : Int32)), .val (.long ((p2 &&& (2147483647 : Int32)).toInt64)), .second, .val (.int (1 : Int32)), .unset, .unset, .unset, .unset] [(.long ((0 : Int64) + (p2 &&& (2147483647 : Int32)).toInt64))]))
      refine Run.step (fun t_ k_ => XS.lload X55.here hx rfl (hb hby at_150) rfl k_) ?_
      show Run _ _ _ _ (T55.setTop (mkF m 152 #[.val (.long p1), .second, .val (.int p2), .val (.int p3), .val (.int p4), .val (.int (p2 &&& (2147483647 : Int32))), .val (.int (p3 &&& (2147483647 : Int32))), .val (.long lm), .second, .val (.ref b23), .val (.int (1 : Int32)), .val (.long ((p2 &&& (2147483647 : Int32)).toInt64)), .second, .val (.int (1 : Int32)), .unset, .unset, .unset, .unset] [(.long ((p2 &&& (2147483647 : Int32)).toInt64)), (.long ((0 : Int64) + (p2 &&& (2147483647 : Int32)).toInt64))]))
      refine Run.step (fun t_ k_ => XS.lcmp X55.here hx rfl (hb hby at_152) rfl k_) ?_
      show Run _ _ _ _ (T55.setTop (mkF m 153 #[.val (.long p1), .second, .val (.int p2), .val (.int p3), .val (.int p4), .val (.int (p2 &&& (2147483647 : Int32))), .val (.int (p3 &&& (2147483647 : Int32))), .val (.long lm), .second, .val (.ref b23), .val (.int (1 : Int32)), .val (.long ((p2 &&& (2147483647 : Int32)).toInt64)), .second, .val (.int (1 : Int32)), .unset, .unset, .unset, .unset] [(.int (lcmpW ((0 : Int64) + (p2 &&& (2147483647 : Int32)).toInt64) ((p2 &&& (2147483647 : Int32)).toInt64)))]))
      refine Run.step (fun t_ k_ => XS.ifYes X55.here hx rfl (pc0 := 153) (pc' := 158) rfl (hb hby at_153) rfl (XT.ll_eq_t ((by first | rfl | rw [Int64.zero_add]) : ((0 : Int64) + (p2 &&& (2147483647 : Int32)).toInt64) = ((p2 &&& (2147483647 : Int32)).toInt64))) (by decide) (by decide) k_) ?_
      show Run _ _ _ _ (T55.setTop (mkF m 158 #[.val (.long p1), .second, .val (.int p2), .val (.int p3), .val (.int p4), .val (.int (p2 &&& (2147483647 : Int32))), .val (.int (p3 &&& (2147483647 : Int32))), .val (.long lm), .second, .val (.ref b23), .val (.int (1 : Int32)), .val (.long ((p2 &&& (2147483647 : Int32)).toInt64)), .second, .val (.int (1 : Int32)), .unset, .unset, .unset, .unset] []))
      refine Run.step (fun t_ k_ => XS.lload X55.here hx rfl (hb hby at_158) rfl k_) ?_
      show Run _ _ _ _ (T55.setTop (mkF m 160 #[.val (.long p1), .second, .val (.int p2), .val (.int p3), .val (.int p4), .val (.int (p2 &&& (2147483647 : Int32))), .val (.int (p3 &&& (2147483647 : Int32))), .val (.long lm), .second, .val (.ref b23), .val (.int (1 : Int32)), .val (.long ((p2 &&& (2147483647 : Int32)).toInt64)), .second, .val (.int (1 : Int32)), .unset, .unset, .unset, .unset] [(.long ((p2 &&& (2147483647 : Int32)).toInt64))]))
      refine Run.step (fun t_ k_ => XS.iload X55.here hx rfl (hb hby at_160) rfl k_) ?_
      show Run _ _ _ _ (T55.setTop (mkF m 162 #[.val (.long p1), .second, .val (.int p2), .val (.int p3), .val (.int p4), .val (.int (p2 &&& (2147483647 : Int32))), .val (.int (p3 &&& (2147483647 : Int32))), .val (.long lm), .second, .val (.ref b23), .val (.int (1 : Int32)), .val (.long ((p2 &&& (2147483647 : Int32)).toInt64)), .second, .val (.int (1 : Int32)), .unset, .unset, .unset, .unset] [(.int (p3 &&& (2147483647 : Int32))), (.long ((p2 &&& (2147483647 : Int32)).toInt64))]))
      refine Run.step (fun t_ k_ => XS.i2l X55.here hx rfl (hb hby at_162) rfl k_) ?_
      show Run _ _ _ _ (T55.setTop (mkF m 163 #[.val (.long p1), .second, .val (.int p2), .val (.int p3), .val (.int p4), .val (.int (p2 &&& (2147483647 : Int32))), .val (.int (p3 &&& (2147483647 : Int32))), .val (.long lm), .second, .val (.ref b23), .val (.int (1 : Int32)), .val (.long ((p2 &&& (2147483647 : Int32)).toInt64)), .second, .val (.int (1 : Int32)), .unset, .unset, .unset, .unset] [(.long ((p3 &&& (2147483647 : Int32)).toInt64)), (.long ((p2 &&& (2147483647 : Int32)).toInt64))]))
      refine Run.step (fun t_ k_ => XS.ladd X55.here hx rfl (hb hby at_163) rfl k_) ?_
      show Run _ _ _ _ (T55.setTop (mkF m 164 #[.val (.long p1), .second, .val (.int p2), .val (.int p3), .val (.int p4), .val (.int (p2 &&& (2147483647 : Int32))), .val (.int (p3 &&& (2147483647 : Int32))), .val (.long lm), .second, .val (.ref b23), .val (.int (1 : Int32)), .val (.long ((p2 &&& (2147483647 : Int32)).toInt64)), .second, .val (.int (1 : Int32)), .unset, .unset, .unset, .unset] [(.long (((p2 &&& (2147483647 : Int32)).toInt64) + ((p3 &&& (2147483647 : Int32)).toInt64)))]))
      refine Run.step (fun t_ k_ => XS.lload X55.here hx rfl (hb hby at_164) rfl k_) ?_
      show Run _ _ _ _ (T55.setTop (mkF m 166 #[.val (.long p1), .second, .val (.int p2), .val (.int p3), .val (.int p4), .val (.int (p2 &&& (2147483647 : Int32))), .val (.int (p3 &&& (2147483647 : Int32))), .val (.long lm), .second, .val (.ref b23), .val (.int (1 : Int32)), .val (.long ((p2 &&& (2147483647 : Int32)).toInt64)), .second, .val (.int (1 : Int32)), .unset, .unset, .unset, .unset] [(.long lm), (.long (((p2 &&& (2147483647 : Int32)).toInt64) + ((p3 &&& (2147483647 : Int32)).toInt64)))]))
      refine Run.step (fun t_ k_ => XS.lcmp X55.here hx rfl (hb hby at_166) rfl k_) ?_
      show Run _ _ _ _ (T55.setTop (mkF m 167 #[.val (.long p1), .second, .val (.int p2), .val (.int p3), .val (.int p4), .val (.int (p2 &&& (2147483647 : Int32))), .val (.int (p3 &&& (2147483647 : Int32))), .val (.long lm), .second, .val (.ref b23), .val (.int (1 : Int32)), .val (.long ((p2 &&& (2147483647 : Int32)).toInt64)), .second, .val (.int (1 : Int32)), .unset, .unset, .unset, .unset] [(.int (lcmpW (((p2 &&& (2147483647 : Int32)).toInt64) + ((p3 &&& (2147483647 : Int32)).toInt64)) lm))]))
      by_cases c167 : lm < (((p2 &&& (2147483647 : Int32)).toInt64) + ((p3 &&& (2147483647 : Int32)).toInt64))
      · skip
        refine Run.step (fun t_ k_ => XS.ifYes X55.here hx rfl (pc0 := 167) (pc' := 174) rfl (hb hby at_167) rfl (XT.ll_gt_t c167) (by decide) (by decide) k_) ?_
        show Run _ _ _ _ (T55.setTop (mkF m 174 #[.val (.long p1), .second, .val (.int p2), .val (.int p3), .val (.int p4), .val (.int (p2 &&& (2147483647 : Int32))), .val (.int (p3 &&& (2147483647 : Int32))), .val (.long lm), .second, .val (.ref b23), .val (.int (1 : Int32)), .val (.long ((p2 &&& (2147483647 : Int32)).toInt64)), .second, .val (.int (1 : Int32)), .unset, .unset, .unset, .unset] []))
        refine Run.step (fun t_ k_ => XS.iconst X55.here hx rfl (hb hby at_174) k_) ?_
        show Run _ _ _ _ (T55.setTop (mkF m 175 #[.val (.long p1), .second, .val (.int p2), .val (.int p3), .val (.int p4), .val (.int (p2 &&& (2147483647 : Int32))), .val (.int (p3 &&& (2147483647 : Int32))), .val (.long lm), .second, .val (.ref b23), .val (.int (1 : Int32)), .val (.long ((p2 &&& (2147483647 : Int32)).toInt64)), .second, .val (.int (1 : Int32)), .unset, .unset, .unset, .unset] [(.int (0 : Int32))]))
        refine Run.step (fun t_ k_ => XS.istore X55.here hx rfl (hb hby at_175) rfl (l' := #[.val (.long p1), .second, .val (.int p2), .val (.int p3), .val (.int p4), .val (.int (p2 &&& (2147483647 : Int32))), .val (.int (p3 &&& (2147483647 : Int32))), .val (.long lm), .second, .val (.ref b23), .val (.int (1 : Int32)), .val (.long ((p2 &&& (2147483647 : Int32)).toInt64)), .second, .val (.int (1 : Int32)), .val (.int (0 : Int32)), .unset, .unset, .unset]) rfl k_) ?_
        show Run _ _ _ _ (T55.setTop (mkF m 177 #[.val (.long p1), .second, .val (.int p2), .val (.int p3), .val (.int p4), .val (.int (p2 &&& (2147483647 : Int32))), .val (.int (p3 &&& (2147483647 : Int32))), .val (.long lm), .second, .val (.ref b23), .val (.int (1 : Int32)), .val (.long ((p2 &&& (2147483647 : Int32)).toInt64)), .second, .val (.int (1 : Int32)), .val (.int (0 : Int32)), .unset, .unset, .unset] []))
        refine Run.step (fun t_ k_ => XS.iload X55.here hx rfl (hb hby at_177) rfl k_) ?_
        show Run _ _ _ _ (T55.setTop (mkF m 179 #[.val (.long p1), .second, .val (.int p2), .val (.int p3), .val (.int p4), .val (.int (p2 &&& (2147483647 : Int32))), .val (.int (p3 &&& (2147483647 : Int32))), .val (.long lm), .second, .val (.ref b23), .val (.int (1 : Int32)), .val (.long ((p2 &&& (2147483647 : Int32)).toInt64)), .second, .val (.int (1 : Int32)), .val (.int (0 : Int32)), .unset, .unset, .unset] [(.int (0 : Int32))]))
        refine Run.step (fun t_ k_ => XS.ifYes X55.here hx rfl (pc0 := 179) (pc' := 191) rfl (hb hby at_179) rfl (XT.i0_eq_t (by decide : (0 : Int32) = (0 : Int32))) (by decide) (by decide) k_) ?_
        show Run _ _ _ _ (T55.setTop (mkF m 191 #[.val (.long p1), .second, .val (.int p2), .val (.int p3), .val (.int p4), .val (.int (p2 &&& (2147483647 : Int32))), .val (.int (p3 &&& (2147483647 : Int32))), .val (.long lm), .second, .val (.ref b23), .val (.int (1 : Int32)), .val (.long ((p2 &&& (2147483647 : Int32)).toInt64)), .second, .val (.int (1 : Int32)), .val (.int (0 : Int32)), .unset, .unset, .unset] []))
        refine Run.step (fun t_ k_ => XS.lload X55.here hx rfl (hb hby at_191) rfl k_) ?_
        show Run _ _ _ _ (T55.setTop (mkF m 193 #[.val (.long p1), .second, .val (.int p2), .val (.int p3), .val (.int p4), .val (.int (p2 &&& (2147483647 : Int32))), .val (.int (p3 &&& (2147483647 : Int32))), .val (.long lm), .second, .val (.ref b23), .val (.int (1 : Int32)), .val (.long ((p2 &&& (2147483647 : Int32)).toInt64)), .second, .val (.int (1 : Int32)), .val (.int (0 : Int32)), .unset, .unset, .unset] [(.long ((p2 &&& (2147483647 : Int32)).toInt64))]))
        refine Run.step (fun t_ k_ => XS.lstore X55.here hx rfl (hb hby at_193) rfl (l' := #[.val (.long p1), .second, .val (.int p2), .val (.int p3), .val (.int p4), .val (.int (p2 &&& (2147483647 : Int32))), .val (.int (p3 &&& (2147483647 : Int32))), .val (.long lm), .second, .val (.ref b23), .val (.int (1 : Int32)), .val (.long ((p2 &&& (2147483647 : Int32)).toInt64)), .second, .val (.int (1 : Int32)), .val (.int (0 : Int32)), .val (.long ((p2 &&& (2147483647 : Int32)).toInt64)), .second, .unset]) rfl k_) ?_
        show Run _ _ _ _ (T55.setTop (mkF m 195 #[.val (.long p1), .second, .val (.int p2), .val (.int p3), .val (.int p4), .val (.int (p2 &&& (2147483647 : Int32))), .val (.int (p3 &&& (2147483647 : Int32))), .val (.long lm), .second, .val (.ref b23), .val (.int (1 : Int32)), .val (.long ((p2 &&& (2147483647 : Int32)).toInt64)), .second, .val (.int (1 : Int32)), .val (.int (0 : Int32)), .val (.long ((p2 &&& (2147483647 : Int32)).toInt64)), .second, .unset] []))
        refine Run.step (fun t_ k_ => XS.aload X55.here hx rfl (hb hby at_195) rfl rfl k_) ?_
        show Run _ _ _ _ (T55.setTop (mkF m 197 #[.val (.long p1), .second, .val (.int p2), .val (.int p3), .val (.int p4), .val (.int (p2 &&& (2147483647 : Int32))), .val (.int (p3 &&& (2147483647 : Int32))), .val (.long lm), .second, .val (.ref b23), .val (.int (1 : Int32)), .val (.long ((p2 &&& (2147483647 : Int32)).toInt64)), .second, .val (.int (1 : Int32)), .val (.int (0 : Int32)), .val (.long ((p2 &&& (2147483647 : Int32)).toInt64)), .second, .unset] [(.ref b23)]))
        refine Run.step (fun t_ k_ => XS.iload X55.here hx rfl (hb hby at_197) rfl k_) ?_
        show Run _ _ _ _ (T55.setTop (mkF m 199 #[.val (.long p1), .second, .val (.int p2), .val (.int p3), .val (.int p4), .val (.int (p2 &&& (2147483647 : Int32))), .val (.int (p3 &&& (2147483647 : Int32))), .val (.long lm), .second, .val (.ref b23), .val (.int (1 : Int32)), .val (.long ((p2 &&& (2147483647 : Int32)).toInt64)), .second, .val (.int (1 : Int32)), .val (.int (0 : Int32)), .val (.long ((p2 &&& (2147483647 : Int32)).toInt64)), .second, .unset] [(.int (p3 &&& (2147483647 : Int32))), (.ref b23)]))
        obtain ⟨cq56, kq56, q56a, q56b, q56c⟩ := isOf hZ e55q f51
        obtain ⟨_, _, ⟨T56, L56, k56, n56⟩, -, X56, ⟨Lc56, hQ56, l56, y56, z56⟩, st56⟩ := X55.virtualBack hx (y := (⟨"com/example/hashspace/hashspace/server/FrameBudget", "reserve", "(I)Z"⟩ : MethodName)) (z := (⟨"com/example/hashspace/hashspace/server/FrameBudget", "reserve", "(I)Z"⟩ : MethodName)) hown (mvT hZ w13) (mvT hZ w14) (notFace_of_selects (args := #[]) (mvT hZ w16)) (mvT hZ w16) (mvT hZ w15) (by decide) (backOf (W := 0) (rm3n l Z a0 hw [] b23 (p3 &&& (2147483647 : Int32)) ((0 : Int64) + (p2 &&& (2147483647 : Int32)).toInt64) lm T50.heap n0 z54 (by first | exact c167 | (rw [Int64.zero_add]; exact c167)) fr50 ft50 f51 g_b23) hZ w17 w4 (by decide) (by decide)) q56a q56c (g := (mkF m 199 #[.val (.long p1), .second, .val (.int p2), .val (.int p3), .val (.int p4), .val (.int (p2 &&& (2147483647 : Int32))), .val (.int (p3 &&& (2147483647 : Int32))), .val (.long lm), .second, .val (.ref b23), .val (.int (1 : Int32)), .val (.long ((p2 &&& (2147483647 : Int32)).toInt64)), .second, .val (.int (1 : Int32)), .val (.int (0 : Int32)), .val (.long ((p2 &&& (2147483647 : Int32)).toInt64)), .second, .unset] [(.int (p3 &&& (2147483647 : Int32))), (.ref b23)])) rfl (by rw [hml]; rfl) (Steps.refl _) (argsL := [(.int (p3 &&& (2147483647 : Int32)))]) (rest := []) (lenOf pd__28I_29Z rfl) rfl (by show 2 * 0 + _ ≤ _; exact Nat.le_of_eq rfl) (hb hby at_199) (fun _ _ => ⟨rfl, e55q, (by decide : 1 + 0 ≤ _), (by decide : 2 + 0 ≤ _)⟩)
        dsimp only [Pt.U, Pt.locs, Pt.cells, Pt.slots] at X56 l56 y56 z56 st56 hQ56
        subst l56 y56 z56
        refine Run.step (fun t k => st56.trans k) ?_
        obtain ⟨rfl, N56q, K56q, fr56, ft56⟩ := hQ56
        have N56 := Fr.app N55 N56q
        have f57 := f51.keep K56q
        have z60 := Nat.le_trans z54 K56q.1
        show Run _ _ _ _ (T56.setTop (mkF m 202 #[.val (.long p1), .second, .val (.int p2), .val (.int p3), .val (.int p4), .val (.int (p2 &&& (2147483647 : Int32))), .val (.int (p3 &&& (2147483647 : Int32))), .val (.long lm), .second, .val (.ref b23), .val (.int (1 : Int32)), .val (.long ((p2 &&& (2147483647 : Int32)).toInt64)), .second, .val (.int (1 : Int32)), .val (.int (0 : Int32)), .val (.long ((p2 &&& (2147483647 : Int32)).toInt64)), .second, .unset] [(.int (0 : Int32))]))
        refine Run.step (fun t_ k_ => XS.istore X56.here hx rfl (hb hby at_202) rfl (l' := #[.val (.long p1), .second, .val (.int p2), .val (.int p3), .val (.int p4), .val (.int (p2 &&& (2147483647 : Int32))), .val (.int (p3 &&& (2147483647 : Int32))), .val (.long lm), .second, .val (.ref b23), .val (.int (1 : Int32)), .val (.long ((p2 &&& (2147483647 : Int32)).toInt64)), .second, .val (.int (1 : Int32)), .val (.int (0 : Int32)), .val (.long ((p2 &&& (2147483647 : Int32)).toInt64)), .second, .val (.int (0 : Int32))]) rfl k_) ?_
        show Run _ _ _ _ (T56.setTop (mkF m 204 #[.val (.long p1), .second, .val (.int p2), .val (.int p3), .val (.int p4), .val (.int (p2 &&& (2147483647 : Int32))), .val (.int (p3 &&& (2147483647 : Int32))), .val (.long lm), .second, .val (.ref b23), .val (.int (1 : Int32)), .val (.long ((p2 &&& (2147483647 : Int32)).toInt64)), .second, .val (.int (1 : Int32)), .val (.int (0 : Int32)), .val (.long ((p2 &&& (2147483647 : Int32)).toInt64)), .second, .val (.int (0 : Int32))] []))
        refine Run.step (fun t_ k_ => XS.iload X56.here hx rfl (hb hby at_204) rfl k_) ?_
        show Run _ _ _ _ (T56.setTop (mkF m 206 #[.val (.long p1), .second, .val (.int p2), .val (.int p3), .val (.int p4), .val (.int (p2 &&& (2147483647 : Int32))), .val (.int (p3 &&& (2147483647 : Int32))), .val (.long lm), .second, .val (.ref b23), .val (.int (1 : Int32)), .val (.long ((p2 &&& (2147483647 : Int32)).toInt64)), .second, .val (.int (1 : Int32)), .val (.int (0 : Int32)), .val (.long ((p2 &&& (2147483647 : Int32)).toInt64)), .second, .val (.int (0 : Int32))] [(.int (0 : Int32))]))
        refine Run.step (fun t_ k_ => XS.iload X56.here hx rfl (hb hby at_206) rfl k_) ?_
        show Run _ _ _ _ (T56.setTop (mkF m 208 #[.val (.long p1), .second, .val (.int p2), .val (.int p3), .val (.int p4), .val (.int (p2 &&& (2147483647 : Int32))), .val (.int (p3 &&& (2147483647 : Int32))), .val (.long lm), .second, .val (.ref b23), .val (.int (1 : Int32)), .val (.long ((p2 &&& (2147483647 : Int32)).toInt64)), .second, .val (.int (1 : Int32)), .val (.int (0 : Int32)), .val (.long ((p2 &&& (2147483647 : Int32)).toInt64)), .second, .val (.int (0 : Int32))] [(.int (0 : Int32)), (.int (0 : Int32))]))
        refine Run.step (fun t_ k_ => XS.icmpYes X56.here hx rfl (pc0 := 208) (pc' := 213) rfl (hb hby at_208) rfl (XT.ii_eq_t (by decide : (0 : Int32) = (0 : Int32))) (by decide) (by decide) k_) ?_
        show Run _ _ _ _ (T56.setTop (mkF m 213 #[.val (.long p1), .second, .val (.int p2), .val (.int p3), .val (.int p4), .val (.int (p2 &&& (2147483647 : Int32))), .val (.int (p3 &&& (2147483647 : Int32))), .val (.long lm), .second, .val (.ref b23), .val (.int (1 : Int32)), .val (.long ((p2 &&& (2147483647 : Int32)).toInt64)), .second, .val (.int (1 : Int32)), .val (.int (0 : Int32)), .val (.long ((p2 &&& (2147483647 : Int32)).toInt64)), .second, .val (.int (0 : Int32))] []))
        refine Run.step (fun t_ k_ => XS.aload X56.here hx rfl (hb hby at_213) rfl rfl k_) ?_
        show Run _ _ _ _ (T56.setTop (mkF m 215 #[.val (.long p1), .second, .val (.int p2), .val (.int p3), .val (.int p4), .val (.int (p2 &&& (2147483647 : Int32))), .val (.int (p3 &&& (2147483647 : Int32))), .val (.long lm), .second, .val (.ref b23), .val (.int (1 : Int32)), .val (.long ((p2 &&& (2147483647 : Int32)).toInt64)), .second, .val (.int (1 : Int32)), .val (.int (0 : Int32)), .val (.long ((p2 &&& (2147483647 : Int32)).toInt64)), .second, .val (.int (0 : Int32))] [(.ref b23)]))
        obtain ⟨cq61, kq61, q61a, q61b, q61c⟩ := isOf hZ rfl f57
        obtain ⟨_, _, ⟨T61, L61, k61, n61⟩, -, X61, ⟨Lc61, hQ61, l61, y61, z61⟩, st61⟩ := X56.virtualBack hx (y := (⟨"com/example/hashspace/hashspace/server/FrameBudget", "held", "()J"⟩ : MethodName)) (z := (⟨"com/example/hashspace/hashspace/server/FrameBudget", "held", "()J"⟩ : MethodName)) hown (mvT hZ w20) (mvT hZ w21) (notFace_of_selects (args := #[]) (mvT hZ w23)) (mvT hZ w23) (mvT hZ w22) (by decide) (backOf (W := 0) (rm4 l Z a0 hw [] b23 ((0 : Int64) + (p2 &&& (2147483647 : Int32)).toInt64) T56.heap n0 z60 ft56) hZ w24 w4 (by decide) (by decide)) q61a q61c (g := (mkF m 215 #[.val (.long p1), .second, .val (.int p2), .val (.int p3), .val (.int p4), .val (.int (p2 &&& (2147483647 : Int32))), .val (.int (p3 &&& (2147483647 : Int32))), .val (.long lm), .second, .val (.ref b23), .val (.int (1 : Int32)), .val (.long ((p2 &&& (2147483647 : Int32)).toInt64)), .second, .val (.int (1 : Int32)), .val (.int (0 : Int32)), .val (.long ((p2 &&& (2147483647 : Int32)).toInt64)), .second, .val (.int (0 : Int32))] [(.ref b23)])) rfl (by rw [hml]; rfl) (Steps.refl _) (argsL := []) (rest := []) (lenOf pd__28_29J rfl) rfl (by show 2 * 0 + _ ≤ _; exact Nat.le_of_eq rfl) (hb hby at_215) (fun _ _ => ⟨rfl, rfl, (by decide : 1 + 0 ≤ _), (by decide : 2 + 0 ≤ _)⟩)
        dsimp only [Pt.U, Pt.locs, Pt.cells, Pt.slots] at X61 l61 y61 z61 st61 hQ61
        subst l61 y61 z61
        refine Run.step (fun t k => st61.trans k) ?_
        obtain ⟨rfl, N61q, e61q⟩ := hQ61
        have N61 := Fr.app N56 N61q
        show Run _ _ _ _ (T61.setTop (mkF m 218 #[.val (.long p1), .second, .val (.int p2), .val (.int p3), .val (.int p4), .val (.int (p2 &&& (2147483647 : Int32))), .val (.int (p3 &&& (2147483647 : Int32))), .val (.long lm), .second, .val (.ref b23), .val (.int (1 : Int32)), .val (.long ((p2 &&& (2147483647 : Int32)).toInt64)), .second, .val (.int (1 : Int32)), .val (.int (0 : Int32)), .val (.long ((p2 &&& (2147483647 : Int32)).toInt64)), .second, .val (.int (0 : Int32))] [(.long ((0 : Int64) + (p2 &&& (2147483647 : Int32)).toInt64))]))
        refine Run.step (fun t_ k_ => XS.lload X61.here hx rfl (hb hby at_218) rfl k_) ?_
        show Run _ _ _ _ (T61.setTop (mkF m 220 #[.val (.long p1), .second, .val (.int p2), .val (.int p3), .val (.int p4), .val (.int (p2 &&& (2147483647 : Int32))), .val (.int (p3 &&& (2147483647 : Int32))), .val (.long lm), .second, .val (.ref b23), .val (.int (1 : Int32)), .val (.long ((p2 &&& (2147483647 : Int32)).toInt64)), .second, .val (.int (1 : Int32)), .val (.int (0 : Int32)), .val (.long ((p2 &&& (2147483647 : Int32)).toInt64)), .second, .val (.int (0 : Int32))] [(.long ((p2 &&& (2147483647 : Int32)).toInt64)), (.long ((0 : Int64) + (p2 &&& (2147483647 : Int32)).toInt64))]))
        refine Run.step (fun t_ k_ => XS.lcmp X61.here hx rfl (hb hby at_220) rfl k_) ?_
        show Run _ _ _ _ (T61.setTop (mkF m 221 #[.val (.long p1), .second, .val (.int p2), .val (.int p3), .val (.int p4), .val (.int (p2 &&& (2147483647 : Int32))), .val (.int (p3 &&& (2147483647 : Int32))), .val (.long lm), .second, .val (.ref b23), .val (.int (1 : Int32)), .val (.long ((p2 &&& (2147483647 : Int32)).toInt64)), .second, .val (.int (1 : Int32)), .val (.int (0 : Int32)), .val (.long ((p2 &&& (2147483647 : Int32)).toInt64)), .second, .val (.int (0 : Int32))] [(.int (lcmpW ((0 : Int64) + (p2 &&& (2147483647 : Int32)).toInt64) ((p2 &&& (2147483647 : Int32)).toInt64)))]))
        refine Run.step (fun t_ k_ => XS.ifNo X61.here hx rfl (hb hby at_221) rfl (XT.ll_ne_f ((by first | rfl | rw [Int64.zero_add]) : ((0 : Int64) + (p2 &&& (2147483647 : Int32)).toInt64) = ((p2 &&& (2147483647 : Int32)).toInt64))) k_) ?_
        show Run _ _ _ _ (T61.setTop (mkF m 224 #[.val (.long p1), .second, .val (.int p2), .val (.int p3), .val (.int p4), .val (.int (p2 &&& (2147483647 : Int32))), .val (.int (p3 &&& (2147483647 : Int32))), .val (.long lm), .second, .val (.ref b23), .val (.int (1 : Int32)), .val (.long ((p2 &&& (2147483647 : Int32)).toInt64)), .second, .val (.int (1 : Int32)), .val (.int (0 : Int32)), .val (.long ((p2 &&& (2147483647 : Int32)).toInt64)), .second, .val (.int (0 : Int32))] []))
        refine Run.step (fun t_ k_ => XS.iconst X61.here hx rfl (hb hby at_224) k_) ?_
        show Run _ _ _ _ (T61.setTop (mkF m 225 #[.val (.long p1), .second, .val (.int p2), .val (.int p3), .val (.int p4), .val (.int (p2 &&& (2147483647 : Int32))), .val (.int (p3 &&& (2147483647 : Int32))), .val (.long lm), .second, .val (.ref b23), .val (.int (1 : Int32)), .val (.long ((p2 &&& (2147483647 : Int32)).toInt64)), .second, .val (.int (1 : Int32)), .val (.int (0 : Int32)), .val (.long ((p2 &&& (2147483647 : Int32)).toInt64)), .second, .val (.int (0 : Int32))] [(.int (1 : Int32))]))
        refine Run.step (fun t_ k_ => XS.goto X61.here hx rfl (pc0 := 225) (pc' := 229) rfl (hb hby at_225) (by decide) (by decide) k_) ?_
        show Run _ _ _ _ (T61.setTop (mkF m 229 #[.val (.long p1), .second, .val (.int p2), .val (.int p3), .val (.int p4), .val (.int (p2 &&& (2147483647 : Int32))), .val (.int (p3 &&& (2147483647 : Int32))), .val (.long lm), .second, .val (.ref b23), .val (.int (1 : Int32)), .val (.long ((p2 &&& (2147483647 : Int32)).toInt64)), .second, .val (.int (1 : Int32)), .val (.int (0 : Int32)), .val (.long ((p2 &&& (2147483647 : Int32)).toInt64)), .second, .val (.int (0 : Int32))] [(.int (1 : Int32))]))
        exact finZ X61 hx (BodyLoose.notSynchronized Bd) Bd.returns (hb hby at_229) (by decide) (by decide) (by decide) e61q ⟨rfl, N61⟩
      · skip
        refine Run.step (fun t_ k_ => XS.ifNo X55.here hx rfl (hb hby at_167) rfl (XT.ll_gt_f c167) k_) ?_
        show Run _ _ _ _ (T55.setTop (mkF m 170 #[.val (.long p1), .second, .val (.int p2), .val (.int p3), .val (.int p4), .val (.int (p2 &&& (2147483647 : Int32))), .val (.int (p3 &&& (2147483647 : Int32))), .val (.long lm), .second, .val (.ref b23), .val (.int (1 : Int32)), .val (.long ((p2 &&& (2147483647 : Int32)).toInt64)), .second, .val (.int (1 : Int32)), .unset, .unset, .unset, .unset] []))
        refine Run.step (fun t_ k_ => XS.iconst X55.here hx rfl (hb hby at_170) k_) ?_
        show Run _ _ _ _ (T55.setTop (mkF m 171 #[.val (.long p1), .second, .val (.int p2), .val (.int p3), .val (.int p4), .val (.int (p2 &&& (2147483647 : Int32))), .val (.int (p3 &&& (2147483647 : Int32))), .val (.long lm), .second, .val (.ref b23), .val (.int (1 : Int32)), .val (.long ((p2 &&& (2147483647 : Int32)).toInt64)), .second, .val (.int (1 : Int32)), .unset, .unset, .unset, .unset] [(.int (1 : Int32))]))
        refine Run.step (fun t_ k_ => XS.goto X55.here hx rfl (pc0 := 171) (pc' := 175) rfl (hb hby at_171) (by decide) (by decide) k_) ?_
        show Run _ _ _ _ (T55.setTop (mkF m 175 #[.val (.long p1), .second, .val (.int p2), .val (.int p3), .val (.int p4), .val (.int (p2 &&& (2147483647 : Int32))), .val (.int (p3 &&& (2147483647 : Int32))), .val (.long lm), .second, .val (.ref b23), .val (.int (1 : Int32)), .val (.long ((p2 &&& (2147483647 : Int32)).toInt64)), .second, .val (.int (1 : Int32)), .unset, .unset, .unset, .unset] [(.int (1 : Int32))]))
        refine Run.step (fun t_ k_ => XS.istore X55.here hx rfl (hb hby at_175) rfl (l' := #[.val (.long p1), .second, .val (.int p2), .val (.int p3), .val (.int p4), .val (.int (p2 &&& (2147483647 : Int32))), .val (.int (p3 &&& (2147483647 : Int32))), .val (.long lm), .second, .val (.ref b23), .val (.int (1 : Int32)), .val (.long ((p2 &&& (2147483647 : Int32)).toInt64)), .second, .val (.int (1 : Int32)), .val (.int (1 : Int32)), .unset, .unset, .unset]) rfl k_) ?_
        show Run _ _ _ _ (T55.setTop (mkF m 177 #[.val (.long p1), .second, .val (.int p2), .val (.int p3), .val (.int p4), .val (.int (p2 &&& (2147483647 : Int32))), .val (.int (p3 &&& (2147483647 : Int32))), .val (.long lm), .second, .val (.ref b23), .val (.int (1 : Int32)), .val (.long ((p2 &&& (2147483647 : Int32)).toInt64)), .second, .val (.int (1 : Int32)), .val (.int (1 : Int32)), .unset, .unset, .unset] []))
        refine Run.step (fun t_ k_ => XS.iload X55.here hx rfl (hb hby at_177) rfl k_) ?_
        show Run _ _ _ _ (T55.setTop (mkF m 179 #[.val (.long p1), .second, .val (.int p2), .val (.int p3), .val (.int p4), .val (.int (p2 &&& (2147483647 : Int32))), .val (.int (p3 &&& (2147483647 : Int32))), .val (.long lm), .second, .val (.ref b23), .val (.int (1 : Int32)), .val (.long ((p2 &&& (2147483647 : Int32)).toInt64)), .second, .val (.int (1 : Int32)), .val (.int (1 : Int32)), .unset, .unset, .unset] [(.int (1 : Int32))]))
        refine Run.step (fun t_ k_ => XS.ifNo X55.here hx rfl (hb hby at_179) rfl (XT.i0_eq_f (by decide : ¬ ((1 : Int32) = (0 : Int32)))) k_) ?_
        show Run _ _ _ _ (T55.setTop (mkF m 182 #[.val (.long p1), .second, .val (.int p2), .val (.int p3), .val (.int p4), .val (.int (p2 &&& (2147483647 : Int32))), .val (.int (p3 &&& (2147483647 : Int32))), .val (.long lm), .second, .val (.ref b23), .val (.int (1 : Int32)), .val (.long ((p2 &&& (2147483647 : Int32)).toInt64)), .second, .val (.int (1 : Int32)), .val (.int (1 : Int32)), .unset, .unset, .unset] []))
        refine Run.step (fun t_ k_ => XS.lload X55.here hx rfl (hb hby at_182) rfl k_) ?_
        show Run _ _ _ _ (T55.setTop (mkF m 184 #[.val (.long p1), .second, .val (.int p2), .val (.int p3), .val (.int p4), .val (.int (p2 &&& (2147483647 : Int32))), .val (.int (p3 &&& (2147483647 : Int32))), .val (.long lm), .second, .val (.ref b23), .val (.int (1 : Int32)), .val (.long ((p2 &&& (2147483647 : Int32)).toInt64)), .second, .val (.int (1 : Int32)), .val (.int (1 : Int32)), .unset, .unset, .unset] [(.long ((p2 &&& (2147483647 : Int32)).toInt64))]))
        refine Run.step (fun t_ k_ => XS.iload X55.here hx rfl (hb hby at_184) rfl k_) ?_
        show Run _ _ _ _ (T55.setTop (mkF m 186 #[.val (.long p1), .second, .val (.int p2), .val (.int p3), .val (.int p4), .val (.int (p2 &&& (2147483647 : Int32))), .val (.int (p3 &&& (2147483647 : Int32))), .val (.long lm), .second, .val (.ref b23), .val (.int (1 : Int32)), .val (.long ((p2 &&& (2147483647 : Int32)).toInt64)), .second, .val (.int (1 : Int32)), .val (.int (1 : Int32)), .unset, .unset, .unset] [(.int (p3 &&& (2147483647 : Int32))), (.long ((p2 &&& (2147483647 : Int32)).toInt64))]))
        refine Run.step (fun t_ k_ => XS.i2l X55.here hx rfl (hb hby at_186) rfl k_) ?_
        show Run _ _ _ _ (T55.setTop (mkF m 187 #[.val (.long p1), .second, .val (.int p2), .val (.int p3), .val (.int p4), .val (.int (p2 &&& (2147483647 : Int32))), .val (.int (p3 &&& (2147483647 : Int32))), .val (.long lm), .second, .val (.ref b23), .val (.int (1 : Int32)), .val (.long ((p2 &&& (2147483647 : Int32)).toInt64)), .second, .val (.int (1 : Int32)), .val (.int (1 : Int32)), .unset, .unset, .unset] [(.long ((p3 &&& (2147483647 : Int32)).toInt64)), (.long ((p2 &&& (2147483647 : Int32)).toInt64))]))
        refine Run.step (fun t_ k_ => XS.ladd X55.here hx rfl (hb hby at_187) rfl k_) ?_
        show Run _ _ _ _ (T55.setTop (mkF m 188 #[.val (.long p1), .second, .val (.int p2), .val (.int p3), .val (.int p4), .val (.int (p2 &&& (2147483647 : Int32))), .val (.int (p3 &&& (2147483647 : Int32))), .val (.long lm), .second, .val (.ref b23), .val (.int (1 : Int32)), .val (.long ((p2 &&& (2147483647 : Int32)).toInt64)), .second, .val (.int (1 : Int32)), .val (.int (1 : Int32)), .unset, .unset, .unset] [(.long (((p2 &&& (2147483647 : Int32)).toInt64) + ((p3 &&& (2147483647 : Int32)).toInt64)))]))
        refine Run.step (fun t_ k_ => XS.goto X55.here hx rfl (pc0 := 188) (pc' := 193) rfl (hb hby at_188) (by decide) (by decide) k_) ?_
        show Run _ _ _ _ (T55.setTop (mkF m 193 #[.val (.long p1), .second, .val (.int p2), .val (.int p3), .val (.int p4), .val (.int (p2 &&& (2147483647 : Int32))), .val (.int (p3 &&& (2147483647 : Int32))), .val (.long lm), .second, .val (.ref b23), .val (.int (1 : Int32)), .val (.long ((p2 &&& (2147483647 : Int32)).toInt64)), .second, .val (.int (1 : Int32)), .val (.int (1 : Int32)), .unset, .unset, .unset] [(.long (((p2 &&& (2147483647 : Int32)).toInt64) + ((p3 &&& (2147483647 : Int32)).toInt64)))]))
        refine Run.step (fun t_ k_ => XS.lstore X55.here hx rfl (hb hby at_193) rfl (l' := #[.val (.long p1), .second, .val (.int p2), .val (.int p3), .val (.int p4), .val (.int (p2 &&& (2147483647 : Int32))), .val (.int (p3 &&& (2147483647 : Int32))), .val (.long lm), .second, .val (.ref b23), .val (.int (1 : Int32)), .val (.long ((p2 &&& (2147483647 : Int32)).toInt64)), .second, .val (.int (1 : Int32)), .val (.int (1 : Int32)), .val (.long (((p2 &&& (2147483647 : Int32)).toInt64) + ((p3 &&& (2147483647 : Int32)).toInt64))), .second, .unset]) rfl k_) ?_
        show Run _ _ _ _ (T55.setTop (mkF m 195 #[.val (.long p1), .second, .val (.int p2), .val (.int p3), .val (.int p4), .val (.int (p2 &&& (2147483647 : Int32))), .val (.int (p3 &&& (2147483647 : Int32))), .val (.long lm), .second, .val (.ref b23), .val (.int (1 : Int32)), .val (.long ((p2 &&& (2147483647 : Int32)).toInt64)), .second, .val (.int (1 : Int32)), .val (.int (1 : Int32)), .val (.long (((p2 &&& (2147483647 : Int32)).toInt64) + ((p3 &&& (2147483647 : Int32)).toInt64))), .second, .unset] []))
        refine Run.step (fun t_ k_ => XS.aload X55.here hx rfl (hb hby at_195) rfl rfl k_) ?_
        show Run _ _ _ _ (T55.setTop (mkF m 197 #[.val (.long p1), .second, .val (.int p2), .val (.int p3), .val (.int p4), .val (.int (p2 &&& (2147483647 : Int32))), .val (.int (p3 &&& (2147483647 : Int32))), .val (.long lm), .second, .val (.ref b23), .val (.int (1 : Int32)), .val (.long ((p2 &&& (2147483647 : Int32)).toInt64)), .second, .val (.int (1 : Int32)), .val (.int (1 : Int32)), .val (.long (((p2 &&& (2147483647 : Int32)).toInt64) + ((p3 &&& (2147483647 : Int32)).toInt64))), .second, .unset] [(.ref b23)]))
        refine Run.step (fun t_ k_ => XS.iload X55.here hx rfl (hb hby at_197) rfl k_) ?_
        show Run _ _ _ _ (T55.setTop (mkF m 199 #[.val (.long p1), .second, .val (.int p2), .val (.int p3), .val (.int p4), .val (.int (p2 &&& (2147483647 : Int32))), .val (.int (p3 &&& (2147483647 : Int32))), .val (.long lm), .second, .val (.ref b23), .val (.int (1 : Int32)), .val (.long ((p2 &&& (2147483647 : Int32)).toInt64)), .second, .val (.int (1 : Int32)), .val (.int (1 : Int32)), .val (.long (((p2 &&& (2147483647 : Int32)).toInt64) + ((p3 &&& (2147483647 : Int32)).toInt64))), .second, .unset] [(.int (p3 &&& (2147483647 : Int32))), (.ref b23)]))
        obtain ⟨cq62, kq62, q62a, q62b, q62c⟩ := isOf hZ e55q f51
        obtain ⟨_, _, ⟨T62, L62, k62, n62⟩, -, X62, ⟨Lc62, hQ62, l62, y62, z62⟩, st62⟩ := X55.virtualBack hx (y := (⟨"com/example/hashspace/hashspace/server/FrameBudget", "reserve", "(I)Z"⟩ : MethodName)) (z := (⟨"com/example/hashspace/hashspace/server/FrameBudget", "reserve", "(I)Z"⟩ : MethodName)) hown (mvT hZ w13) (mvT hZ w14) (notFace_of_selects (args := #[]) (mvT hZ w16)) (mvT hZ w16) (mvT hZ w15) (by decide) (backOf (W := 0) (rm3y l Z a0 hw [] b23 (p3 &&& (2147483647 : Int32)) ((0 : Int64) + (p2 &&& (2147483647 : Int32)).toInt64) lm T50.heap n0 z54 (by first | exact c167 | (rw [Int64.zero_add]; exact c167)) fr50 ft50 f51 g_b23) hZ w17 w4 (by decide) (by decide)) q62a q62c (g := (mkF m 199 #[.val (.long p1), .second, .val (.int p2), .val (.int p3), .val (.int p4), .val (.int (p2 &&& (2147483647 : Int32))), .val (.int (p3 &&& (2147483647 : Int32))), .val (.long lm), .second, .val (.ref b23), .val (.int (1 : Int32)), .val (.long ((p2 &&& (2147483647 : Int32)).toInt64)), .second, .val (.int (1 : Int32)), .val (.int (1 : Int32)), .val (.long (((p2 &&& (2147483647 : Int32)).toInt64) + ((p3 &&& (2147483647 : Int32)).toInt64))), .second, .unset] [(.int (p3 &&& (2147483647 : Int32))), (.ref b23)])) rfl (by rw [hml]; rfl) (Steps.refl _) (argsL := [(.int (p3 &&& (2147483647 : Int32)))]) (rest := []) (lenOf pd__28I_29Z rfl) rfl (by show 2 * 0 + _ ≤ _; exact Nat.le_of_eq rfl) (hb hby at_199) (fun _ _ => ⟨rfl, e55q, (by decide : 1 + 0 ≤ _), (by decide : 2 + 0 ≤ _)⟩)
        dsimp only [Pt.U, Pt.locs, Pt.cells, Pt.slots] at X62 l62 y62 z62 st62 hQ62
        subst l62 y62 z62
        refine Run.step (fun t k => st62.trans k) ?_
        obtain ⟨rfl, N62q, K62q, fr62, ft62⟩ := hQ62
        have N62 := Fr.app N55 N62q
        have f63 := f51.keep K62q
        have z66 := Nat.le_trans z54 K62q.1
        show Run _ _ _ _ (T62.setTop (mkF m 202 #[.val (.long p1), .second, .val (.int p2), .val (.int p3), .val (.int p4), .val (.int (p2 &&& (2147483647 : Int32))), .val (.int (p3 &&& (2147483647 : Int32))), .val (.long lm), .second, .val (.ref b23), .val (.int (1 : Int32)), .val (.long ((p2 &&& (2147483647 : Int32)).toInt64)), .second, .val (.int (1 : Int32)), .val (.int (1 : Int32)), .val (.long (((p2 &&& (2147483647 : Int32)).toInt64) + ((p3 &&& (2147483647 : Int32)).toInt64))), .second, .unset] [(.int (1 : Int32))]))
        refine Run.step (fun t_ k_ => XS.istore X62.here hx rfl (hb hby at_202) rfl (l' := #[.val (.long p1), .second, .val (.int p2), .val (.int p3), .val (.int p4), .val (.int (p2 &&& (2147483647 : Int32))), .val (.int (p3 &&& (2147483647 : Int32))), .val (.long lm), .second, .val (.ref b23), .val (.int (1 : Int32)), .val (.long ((p2 &&& (2147483647 : Int32)).toInt64)), .second, .val (.int (1 : Int32)), .val (.int (1 : Int32)), .val (.long (((p2 &&& (2147483647 : Int32)).toInt64) + ((p3 &&& (2147483647 : Int32)).toInt64))), .second, .val (.int (1 : Int32))]) rfl k_) ?_
        show Run _ _ _ _ (T62.setTop (mkF m 204 #[.val (.long p1), .second, .val (.int p2), .val (.int p3), .val (.int p4), .val (.int (p2 &&& (2147483647 : Int32))), .val (.int (p3 &&& (2147483647 : Int32))), .val (.long lm), .second, .val (.ref b23), .val (.int (1 : Int32)), .val (.long ((p2 &&& (2147483647 : Int32)).toInt64)), .second, .val (.int (1 : Int32)), .val (.int (1 : Int32)), .val (.long (((p2 &&& (2147483647 : Int32)).toInt64) + ((p3 &&& (2147483647 : Int32)).toInt64))), .second, .val (.int (1 : Int32))] []))
        refine Run.step (fun t_ k_ => XS.iload X62.here hx rfl (hb hby at_204) rfl k_) ?_
        show Run _ _ _ _ (T62.setTop (mkF m 206 #[.val (.long p1), .second, .val (.int p2), .val (.int p3), .val (.int p4), .val (.int (p2 &&& (2147483647 : Int32))), .val (.int (p3 &&& (2147483647 : Int32))), .val (.long lm), .second, .val (.ref b23), .val (.int (1 : Int32)), .val (.long ((p2 &&& (2147483647 : Int32)).toInt64)), .second, .val (.int (1 : Int32)), .val (.int (1 : Int32)), .val (.long (((p2 &&& (2147483647 : Int32)).toInt64) + ((p3 &&& (2147483647 : Int32)).toInt64))), .second, .val (.int (1 : Int32))] [(.int (1 : Int32))]))
        refine Run.step (fun t_ k_ => XS.iload X62.here hx rfl (hb hby at_206) rfl k_) ?_
        show Run _ _ _ _ (T62.setTop (mkF m 208 #[.val (.long p1), .second, .val (.int p2), .val (.int p3), .val (.int p4), .val (.int (p2 &&& (2147483647 : Int32))), .val (.int (p3 &&& (2147483647 : Int32))), .val (.long lm), .second, .val (.ref b23), .val (.int (1 : Int32)), .val (.long ((p2 &&& (2147483647 : Int32)).toInt64)), .second, .val (.int (1 : Int32)), .val (.int (1 : Int32)), .val (.long (((p2 &&& (2147483647 : Int32)).toInt64) + ((p3 &&& (2147483647 : Int32)).toInt64))), .second, .val (.int (1 : Int32))] [(.int (1 : Int32)), (.int (1 : Int32))]))
        refine Run.step (fun t_ k_ => XS.icmpYes X62.here hx rfl (pc0 := 208) (pc' := 213) rfl (hb hby at_208) rfl (XT.ii_eq_t (by decide : (1 : Int32) = (1 : Int32))) (by decide) (by decide) k_) ?_
        show Run _ _ _ _ (T62.setTop (mkF m 213 #[.val (.long p1), .second, .val (.int p2), .val (.int p3), .val (.int p4), .val (.int (p2 &&& (2147483647 : Int32))), .val (.int (p3 &&& (2147483647 : Int32))), .val (.long lm), .second, .val (.ref b23), .val (.int (1 : Int32)), .val (.long ((p2 &&& (2147483647 : Int32)).toInt64)), .second, .val (.int (1 : Int32)), .val (.int (1 : Int32)), .val (.long (((p2 &&& (2147483647 : Int32)).toInt64) + ((p3 &&& (2147483647 : Int32)).toInt64))), .second, .val (.int (1 : Int32))] []))
        refine Run.step (fun t_ k_ => XS.aload X62.here hx rfl (hb hby at_213) rfl rfl k_) ?_
        show Run _ _ _ _ (T62.setTop (mkF m 215 #[.val (.long p1), .second, .val (.int p2), .val (.int p3), .val (.int p4), .val (.int (p2 &&& (2147483647 : Int32))), .val (.int (p3 &&& (2147483647 : Int32))), .val (.long lm), .second, .val (.ref b23), .val (.int (1 : Int32)), .val (.long ((p2 &&& (2147483647 : Int32)).toInt64)), .second, .val (.int (1 : Int32)), .val (.int (1 : Int32)), .val (.long (((p2 &&& (2147483647 : Int32)).toInt64) + ((p3 &&& (2147483647 : Int32)).toInt64))), .second, .val (.int (1 : Int32))] [(.ref b23)]))
        obtain ⟨cq67, kq67, q67a, q67b, q67c⟩ := isOf hZ rfl f63
        obtain ⟨_, _, ⟨T67, L67, k67, n67⟩, -, X67, ⟨Lc67, hQ67, l67, y67, z67⟩, st67⟩ := X62.virtualBack hx (y := (⟨"com/example/hashspace/hashspace/server/FrameBudget", "held", "()J"⟩ : MethodName)) (z := (⟨"com/example/hashspace/hashspace/server/FrameBudget", "held", "()J"⟩ : MethodName)) hown (mvT hZ w20) (mvT hZ w21) (notFace_of_selects (args := #[]) (mvT hZ w23)) (mvT hZ w23) (mvT hZ w22) (by decide) (backOf (W := 0) (rm4 l Z a0 hw [] b23 (((0 : Int64) + (p2 &&& (2147483647 : Int32)).toInt64) + (p3 &&& (2147483647 : Int32)).toInt64) T62.heap n0 z66 ft62) hZ w24 w4 (by decide) (by decide)) q67a q67c (g := (mkF m 215 #[.val (.long p1), .second, .val (.int p2), .val (.int p3), .val (.int p4), .val (.int (p2 &&& (2147483647 : Int32))), .val (.int (p3 &&& (2147483647 : Int32))), .val (.long lm), .second, .val (.ref b23), .val (.int (1 : Int32)), .val (.long ((p2 &&& (2147483647 : Int32)).toInt64)), .second, .val (.int (1 : Int32)), .val (.int (1 : Int32)), .val (.long (((p2 &&& (2147483647 : Int32)).toInt64) + ((p3 &&& (2147483647 : Int32)).toInt64))), .second, .val (.int (1 : Int32))] [(.ref b23)])) rfl (by rw [hml]; rfl) (Steps.refl _) (argsL := []) (rest := []) (lenOf pd__28_29J rfl) rfl (by show 2 * 0 + _ ≤ _; exact Nat.le_of_eq rfl) (hb hby at_215) (fun _ _ => ⟨rfl, rfl, (by decide : 1 + 0 ≤ _), (by decide : 2 + 0 ≤ _)⟩)
        dsimp only [Pt.U, Pt.locs, Pt.cells, Pt.slots] at X67 l67 y67 z67 st67 hQ67
        subst l67 y67 z67
        refine Run.step (fun t k => st67.trans k) ?_
        obtain ⟨rfl, N67q, e67q⟩ := hQ67
        have N67 := Fr.app N62 N67q
        show Run _ _ _ _ (T67.setTop (mkF m 218 #[.val (.long p1), .second, .val (.int p2), .val (.int p3), .val (.int p4), .val (.int (p2 &&& (2147483647 : Int32))), .val (.int (p3 &&& (2147483647 : Int32))), .val (.long lm), .second, .val (.ref b23), .val (.int (1 : Int32)), .val (.long ((p2 &&& (2147483647 : Int32)).toInt64)), .second, .val (.int (1 : Int32)), .val (.int (1 : Int32)), .val (.long (((p2 &&& (2147483647 : Int32)).toInt64) + ((p3 &&& (2147483647 : Int32)).toInt64))), .second, .val (.int (1 : Int32))] [(.long (((0 : Int64) + (p2 &&& (2147483647 : Int32)).toInt64) + (p3 &&& (2147483647 : Int32)).toInt64))]))
        refine Run.step (fun t_ k_ => XS.lload X67.here hx rfl (hb hby at_218) rfl k_) ?_
        show Run _ _ _ _ (T67.setTop (mkF m 220 #[.val (.long p1), .second, .val (.int p2), .val (.int p3), .val (.int p4), .val (.int (p2 &&& (2147483647 : Int32))), .val (.int (p3 &&& (2147483647 : Int32))), .val (.long lm), .second, .val (.ref b23), .val (.int (1 : Int32)), .val (.long ((p2 &&& (2147483647 : Int32)).toInt64)), .second, .val (.int (1 : Int32)), .val (.int (1 : Int32)), .val (.long (((p2 &&& (2147483647 : Int32)).toInt64) + ((p3 &&& (2147483647 : Int32)).toInt64))), .second, .val (.int (1 : Int32))] [(.long (((p2 &&& (2147483647 : Int32)).toInt64) + ((p3 &&& (2147483647 : Int32)).toInt64))), (.long (((0 : Int64) + (p2 &&& (2147483647 : Int32)).toInt64) + (p3 &&& (2147483647 : Int32)).toInt64))]))
        refine Run.step (fun t_ k_ => XS.lcmp X67.here hx rfl (hb hby at_220) rfl k_) ?_
        show Run _ _ _ _ (T67.setTop (mkF m 221 #[.val (.long p1), .second, .val (.int p2), .val (.int p3), .val (.int p4), .val (.int (p2 &&& (2147483647 : Int32))), .val (.int (p3 &&& (2147483647 : Int32))), .val (.long lm), .second, .val (.ref b23), .val (.int (1 : Int32)), .val (.long ((p2 &&& (2147483647 : Int32)).toInt64)), .second, .val (.int (1 : Int32)), .val (.int (1 : Int32)), .val (.long (((p2 &&& (2147483647 : Int32)).toInt64) + ((p3 &&& (2147483647 : Int32)).toInt64))), .second, .val (.int (1 : Int32))] [(.int (lcmpW (((0 : Int64) + (p2 &&& (2147483647 : Int32)).toInt64) + (p3 &&& (2147483647 : Int32)).toInt64) (((p2 &&& (2147483647 : Int32)).toInt64) + ((p3 &&& (2147483647 : Int32)).toInt64))))]))
        refine Run.step (fun t_ k_ => XS.ifNo X67.here hx rfl (hb hby at_221) rfl (XT.ll_ne_f ((by first | rfl | rw [Int64.zero_add]) : (((0 : Int64) + (p2 &&& (2147483647 : Int32)).toInt64) + (p3 &&& (2147483647 : Int32)).toInt64) = (((p2 &&& (2147483647 : Int32)).toInt64) + ((p3 &&& (2147483647 : Int32)).toInt64)))) k_) ?_
        show Run _ _ _ _ (T67.setTop (mkF m 224 #[.val (.long p1), .second, .val (.int p2), .val (.int p3), .val (.int p4), .val (.int (p2 &&& (2147483647 : Int32))), .val (.int (p3 &&& (2147483647 : Int32))), .val (.long lm), .second, .val (.ref b23), .val (.int (1 : Int32)), .val (.long ((p2 &&& (2147483647 : Int32)).toInt64)), .second, .val (.int (1 : Int32)), .val (.int (1 : Int32)), .val (.long (((p2 &&& (2147483647 : Int32)).toInt64) + ((p3 &&& (2147483647 : Int32)).toInt64))), .second, .val (.int (1 : Int32))] []))
        refine Run.step (fun t_ k_ => XS.iconst X67.here hx rfl (hb hby at_224) k_) ?_
        show Run _ _ _ _ (T67.setTop (mkF m 225 #[.val (.long p1), .second, .val (.int p2), .val (.int p3), .val (.int p4), .val (.int (p2 &&& (2147483647 : Int32))), .val (.int (p3 &&& (2147483647 : Int32))), .val (.long lm), .second, .val (.ref b23), .val (.int (1 : Int32)), .val (.long ((p2 &&& (2147483647 : Int32)).toInt64)), .second, .val (.int (1 : Int32)), .val (.int (1 : Int32)), .val (.long (((p2 &&& (2147483647 : Int32)).toInt64) + ((p3 &&& (2147483647 : Int32)).toInt64))), .second, .val (.int (1 : Int32))] [(.int (1 : Int32))]))
        refine Run.step (fun t_ k_ => XS.goto X67.here hx rfl (pc0 := 225) (pc' := 229) rfl (hb hby at_225) (by decide) (by decide) k_) ?_
        show Run _ _ _ _ (T67.setTop (mkF m 229 #[.val (.long p1), .second, .val (.int p2), .val (.int p3), .val (.int p4), .val (.int (p2 &&& (2147483647 : Int32))), .val (.int (p3 &&& (2147483647 : Int32))), .val (.long lm), .second, .val (.ref b23), .val (.int (1 : Int32)), .val (.long ((p2 &&& (2147483647 : Int32)).toInt64)), .second, .val (.int (1 : Int32)), .val (.int (1 : Int32)), .val (.long (((p2 &&& (2147483647 : Int32)).toInt64) + ((p3 &&& (2147483647 : Int32)).toInt64))), .second, .val (.int (1 : Int32))] [(.int (1 : Int32))]))
        exact finZ X67 hx (BodyLoose.notSynchronized Bd) Bd.returns (hb hby at_229) (by decide) (by decide) (by decide) e67q ⟨rfl, N67⟩
  by_cases c16 : (p4 &&& (1 : Int32)) = (0 : Int32)
  · skip
    refine Run.step (fun t_ k_ => XS.ifYes X0.here hx rfl (pc0 := 16) (pc' := 43) rfl (hb hby at_16) rfl (XT.i0_eq_t c16) (by decide) (by decide) k_) ?_
    show Run _ _ _ _ (s₁.setTop (mkF m 43 #[.val (.long p1), .second, .val (.int p2), .val (.int p3), .val (.int p4), .val (.int (p2 &&& (2147483647 : Int32))), .val (.int (p3 &&& (2147483647 : Int32))), .unset, .unset, .unset, .unset, .unset, .unset, .unset, .unset, .unset, .unset, .unset] []))
    refine Run.step (fun t_ k_ => XS.iload X0.here hx rfl (hb hby at_43) rfl k_) ?_
    show Run _ _ _ _ (s₁.setTop (mkF m 45 #[.val (.long p1), .second, .val (.int p2), .val (.int p3), .val (.int p4), .val (.int (p2 &&& (2147483647 : Int32))), .val (.int (p3 &&& (2147483647 : Int32))), .unset, .unset, .unset, .unset, .unset, .unset, .unset, .unset, .unset, .unset, .unset] [(.int p4)]))
    refine Run.step (fun t_ k_ => XS.bipush X0.here hx rfl (hb hby at_45) k_) ?_
    show Run _ _ _ _ (s₁.setTop (mkF m 47 #[.val (.long p1), .second, .val (.int p2), .val (.int p3), .val (.int p4), .val (.int (p2 &&& (2147483647 : Int32))), .val (.int (p3 &&& (2147483647 : Int32))), .unset, .unset, .unset, .unset, .unset, .unset, .unset, .unset, .unset, .unset, .unset] [(.int (8 : Int32)), (.int p4)]))
    refine Run.step (fun t_ k_ => XS.iand X0.here hx rfl (hb hby at_47) rfl k_) ?_
    show Run _ _ _ _ (s₁.setTop (mkF m 48 #[.val (.long p1), .second, .val (.int p2), .val (.int p3), .val (.int p4), .val (.int (p2 &&& (2147483647 : Int32))), .val (.int (p3 &&& (2147483647 : Int32))), .unset, .unset, .unset, .unset, .unset, .unset, .unset, .unset, .unset, .unset, .unset] [(.int (p4 &&& (8 : Int32)))]))
    by_cases c48 : (p4 &&& (8 : Int32)) = (0 : Int32)
    · skip
      refine Run.step (fun t_ k_ => XS.ifYes X0.here hx rfl (pc0 := 48) (pc' := 79) rfl (hb hby at_48) rfl (XT.i0_eq_t c48) (by decide) (by decide) k_) ?_
      show Run _ _ _ _ (s₁.setTop (mkF m 79 #[.val (.long p1), .second, .val (.int p2), .val (.int p3), .val (.int p4), .val (.int (p2 &&& (2147483647 : Int32))), .val (.int (p3 &&& (2147483647 : Int32))), .unset, .unset, .unset, .unset, .unset, .unset, .unset, .unset, .unset, .unset, .unset] []))
      refine Run.step (fun t_ k_ => XS.lloadN X0.here hx rfl (hb hby at_79) rfl k_) ?_
      show Run _ _ _ _ (s₁.setTop (mkF m 80 #[.val (.long p1), .second, .val (.int p2), .val (.int p3), .val (.int p4), .val (.int (p2 &&& (2147483647 : Int32))), .val (.int (p3 &&& (2147483647 : Int32))), .unset, .unset, .unset, .unset, .unset, .unset, .unset, .unset, .unset, .unset, .unset] [(.long p1)]))
      refine Run.step (fun t_ k_ => X0.ldc2Long hx hown (mvT hZ w1) (g := (mkF m 80 #[.val (.long p1), .second, .val (.int p2), .val (.int p3), .val (.int p4), .val (.int (p2 &&& (2147483647 : Int32))), .val (.int (p3 &&& (2147483647 : Int32))), .unset, .unset, .unset, .unset, .unset, .unset, .unset, .unset, .unset, .unset, .unset] [(.long p1)])) rfl (hb hby at_80) _ k_) ?_
      show Run _ _ _ _ (s₁.setTop (mkF m 83 #[.val (.long p1), .second, .val (.int p2), .val (.int p3), .val (.int p4), .val (.int (p2 &&& (2147483647 : Int32))), .val (.int (p3 &&& (2147483647 : Int32))), .unset, .unset, .unset, .unset, .unset, .unset, .unset, .unset, .unset, .unset, .unset] [(.long (4611686018427387903 : Int64)), (.long p1)]))
      refine Run.step (fun t_ k_ => XS.land X0.here hx rfl (hb hby at_83) rfl k_) ?_
      show Run _ _ _ _ (s₁.setTop (mkF m 84 #[.val (.long p1), .second, .val (.int p2), .val (.int p3), .val (.int p4), .val (.int (p2 &&& (2147483647 : Int32))), .val (.int (p3 &&& (2147483647 : Int32))), .unset, .unset, .unset, .unset, .unset, .unset, .unset, .unset, .unset, .unset, .unset] [(.long (p1 &&& (4611686018427387903 : Int64)))]))
      refine Run.step (fun t_ k_ => XS.lstore X0.here hx rfl (hb hby at_84) rfl (l' := #[.val (.long p1), .second, .val (.int p2), .val (.int p3), .val (.int p4), .val (.int (p2 &&& (2147483647 : Int32))), .val (.int (p3 &&& (2147483647 : Int32))), .val (.long (p1 &&& (4611686018427387903 : Int64))), .second, .unset, .unset, .unset, .unset, .unset, .unset, .unset, .unset, .unset]) rfl k_) ?_
      show Run _ _ _ _ (s₁.setTop (mkF m 86 #[.val (.long p1), .second, .val (.int p2), .val (.int p3), .val (.int p4), .val (.int (p2 &&& (2147483647 : Int32))), .val (.int (p3 &&& (2147483647 : Int32))), .val (.long (p1 &&& (4611686018427387903 : Int64))), .second, .unset, .unset, .unset, .unset, .unset, .unset, .unset, .unset, .unset] []))
      exact J22 _ _ X0 e0 N0 (p1 &&& (4611686018427387903 : Int64)) trivial
    · skip
      refine Run.step (fun t_ k_ => XS.ifNo X0.here hx rfl (hb hby at_48) rfl (XT.i0_eq_f c48) k_) ?_
      show Run _ _ _ _ (s₁.setTop (mkF m 51 #[.val (.long p1), .second, .val (.int p2), .val (.int p3), .val (.int p4), .val (.int (p2 &&& (2147483647 : Int32))), .val (.int (p3 &&& (2147483647 : Int32))), .unset, .unset, .unset, .unset, .unset, .unset, .unset, .unset, .unset, .unset, .unset] []))
      refine Run.step (fun t_ k_ => XS.lconst X0.here hx rfl (hb hby at_51) k_) ?_
      show Run _ _ _ _ (s₁.setTop (mkF m 52 #[.val (.long p1), .second, .val (.int p2), .val (.int p3), .val (.int p4), .val (.int (p2 &&& (2147483647 : Int32))), .val (.int (p3 &&& (2147483647 : Int32))), .unset, .unset, .unset, .unset, .unset, .unset, .unset, .unset, .unset, .unset, .unset] [(.long (0 : Int64))]))
      refine Run.step (fun t_ k_ => XS.iload X0.here hx rfl (hb hby at_52) rfl k_) ?_
      show Run _ _ _ _ (s₁.setTop (mkF m 54 #[.val (.long p1), .second, .val (.int p2), .val (.int p3), .val (.int p4), .val (.int (p2 &&& (2147483647 : Int32))), .val (.int (p3 &&& (2147483647 : Int32))), .unset, .unset, .unset, .unset, .unset, .unset, .unset, .unset, .unset, .unset, .unset] [(.int (p2 &&& (2147483647 : Int32))), (.long (0 : Int64))]))
      refine Run.step (fun t_ k_ => XS.i2l X0.here hx rfl (hb hby at_54) rfl k_) ?_
      show Run _ _ _ _ (s₁.setTop (mkF m 55 #[.val (.long p1), .second, .val (.int p2), .val (.int p3), .val (.int p4), .val (.int (p2 &&& (2147483647 : Int32))), .val (.int (p3 &&& (2147483647 : Int32))), .unset, .unset, .unset, .unset, .unset, .unset, .unset, .unset, .unset, .unset, .unset] [(.long ((p2 &&& (2147483647 : Int32)).toInt64)), (.long (0 : Int64))]))
      refine Run.step (fun t_ k_ => XS.iload X0.here hx rfl (hb hby at_55) rfl k_) ?_
      show Run _ _ _ _ (s₁.setTop (mkF m 57 #[.val (.long p1), .second, .val (.int p2), .val (.int p3), .val (.int p4), .val (.int (p2 &&& (2147483647 : Int32))), .val (.int (p3 &&& (2147483647 : Int32))), .unset, .unset, .unset, .unset, .unset, .unset, .unset, .unset, .unset, .unset, .unset] [(.int (p3 &&& (2147483647 : Int32))), (.long ((p2 &&& (2147483647 : Int32)).toInt64)), (.long (0 : Int64))]))
      refine Run.step (fun t_ k_ => XS.i2l X0.here hx rfl (hb hby at_57) rfl k_) ?_
      show Run _ _ _ _ (s₁.setTop (mkF m 58 #[.val (.long p1), .second, .val (.int p2), .val (.int p3), .val (.int p4), .val (.int (p2 &&& (2147483647 : Int32))), .val (.int (p3 &&& (2147483647 : Int32))), .unset, .unset, .unset, .unset, .unset, .unset, .unset, .unset, .unset, .unset, .unset] [(.long ((p3 &&& (2147483647 : Int32)).toInt64)), (.long ((p2 &&& (2147483647 : Int32)).toInt64)), (.long (0 : Int64))]))
      refine Run.step (fun t_ k_ => XS.ladd X0.here hx rfl (hb hby at_58) rfl k_) ?_
      show Run _ _ _ _ (s₁.setTop (mkF m 59 #[.val (.long p1), .second, .val (.int p2), .val (.int p3), .val (.int p4), .val (.int (p2 &&& (2147483647 : Int32))), .val (.int (p3 &&& (2147483647 : Int32))), .unset, .unset, .unset, .unset, .unset, .unset, .unset, .unset, .unset, .unset, .unset] [(.long (((p2 &&& (2147483647 : Int32)).toInt64) + ((p3 &&& (2147483647 : Int32)).toInt64))), (.long (0 : Int64))]))
      refine Run.step (fun t_ k_ => XS.iload X0.here hx rfl (hb hby at_59) rfl k_) ?_
      show Run _ _ _ _ (s₁.setTop (mkF m 61 #[.val (.long p1), .second, .val (.int p2), .val (.int p3), .val (.int p4), .val (.int (p2 &&& (2147483647 : Int32))), .val (.int (p3 &&& (2147483647 : Int32))), .unset, .unset, .unset, .unset, .unset, .unset, .unset, .unset, .unset, .unset, .unset] [(.int p4), (.long (((p2 &&& (2147483647 : Int32)).toInt64) + ((p3 &&& (2147483647 : Int32)).toInt64))), (.long (0 : Int64))]))
      refine Run.step (fun t_ k_ => XS.iconst X0.here hx rfl (hb hby at_61) k_) ?_
      show Run _ _ _ _ (s₁.setTop (mkF m 62 #[.val (.long p1), .second, .val (.int p2), .val (.int p3), .val (.int p4), .val (.int (p2 &&& (2147483647 : Int32))), .val (.int (p3 &&& (2147483647 : Int32))), .unset, .unset, .unset, .unset, .unset, .unset, .unset, .unset, .unset, .unset, .unset] [(.int (4 : Int32)), (.int p4), (.long (((p2 &&& (2147483647 : Int32)).toInt64) + ((p3 &&& (2147483647 : Int32)).toInt64))), (.long (0 : Int64))]))
      refine Run.step (fun t_ k_ => XS.ishr X0.here hx rfl (hb hby at_62) rfl k_) ?_
      show Run _ _ _ _ (s₁.setTop (mkF m 63 #[.val (.long p1), .second, .val (.int p2), .val (.int p3), .val (.int p4), .val (.int (p2 &&& (2147483647 : Int32))), .val (.int (p3 &&& (2147483647 : Int32))), .unset, .unset, .unset, .unset, .unset, .unset, .unset, .unset, .unset, .unset, .unset] [(.int (p4 >>> ((4 : Int32) &&& 31))), (.long (((p2 &&& (2147483647 : Int32)).toInt64) + ((p3 &&& (2147483647 : Int32)).toInt64))), (.long (0 : Int64))]))
      refine Run.step (fun t_ k_ => XS.iconst X0.here hx rfl (hb hby at_63) k_) ?_
      show Run _ _ _ _ (s₁.setTop (mkF m 64 #[.val (.long p1), .second, .val (.int p2), .val (.int p3), .val (.int p4), .val (.int (p2 &&& (2147483647 : Int32))), .val (.int (p3 &&& (2147483647 : Int32))), .unset, .unset, .unset, .unset, .unset, .unset, .unset, .unset, .unset, .unset, .unset] [(.int (3 : Int32)), (.int (p4 >>> ((4 : Int32) &&& 31))), (.long (((p2 &&& (2147483647 : Int32)).toInt64) + ((p3 &&& (2147483647 : Int32)).toInt64))), (.long (0 : Int64))]))
      refine Run.step (fun t_ k_ => XS.iand X0.here hx rfl (hb hby at_64) rfl k_) ?_
      show Run _ _ _ _ (s₁.setTop (mkF m 65 #[.val (.long p1), .second, .val (.int p2), .val (.int p3), .val (.int p4), .val (.int (p2 &&& (2147483647 : Int32))), .val (.int (p3 &&& (2147483647 : Int32))), .unset, .unset, .unset, .unset, .unset, .unset, .unset, .unset, .unset, .unset, .unset] [(.int ((p4 >>> ((4 : Int32) &&& 31)) &&& (3 : Int32))), (.long (((p2 &&& (2147483647 : Int32)).toInt64) + ((p3 &&& (2147483647 : Int32)).toInt64))), (.long (0 : Int64))]))
      refine Run.step (fun t_ k_ => XS.i2l X0.here hx rfl (hb hby at_65) rfl k_) ?_
      show Run _ _ _ _ (s₁.setTop (mkF m 66 #[.val (.long p1), .second, .val (.int p2), .val (.int p3), .val (.int p4), .val (.int (p2 &&& (2147483647 : Int32))), .val (.int (p3 &&& (2147483647 : Int32))), .unset, .unset, .unset, .unset, .unset, .unset, .unset, .unset, .unset, .unset, .unset] [(.long (((p4 >>> ((4 : Int32) &&& 31)) &&& (3 : Int32)).toInt64)), (.long (((p2 &&& (2147483647 : Int32)).toInt64) + ((p3 &&& (2147483647 : Int32)).toInt64))), (.long (0 : Int64))]))
      refine Run.step (fun t_ k_ => XS.ladd X0.here hx rfl (hb hby at_66) rfl k_) ?_
      show Run _ _ _ _ (s₁.setTop (mkF m 67 #[.val (.long p1), .second, .val (.int p2), .val (.int p3), .val (.int p4), .val (.int (p2 &&& (2147483647 : Int32))), .val (.int (p3 &&& (2147483647 : Int32))), .unset, .unset, .unset, .unset, .unset, .unset, .unset, .unset, .unset, .unset, .unset] [(.long ((((p2 &&& (2147483647 : Int32)).toInt64) + ((p3 &&& (2147483647 : Int32)).toInt64)) + (((p4 >>> ((4 : Int32) &&& 31)) &&& (3 : Int32)).toInt64))), (.long (0 : Int64))]))
      refine Run.step (fun t_ k_ => X0.ldc2Long hx hown (mvT hZ w25) (g := (mkF m 67 #[.val (.long p1), .second, .val (.int p2), .val (.int p3), .val (.int p4), .val (.int (p2 &&& (2147483647 : Int32))), .val (.int (p3 &&& (2147483647 : Int32))), .unset, .unset, .unset, .unset, .unset, .unset, .unset, .unset, .unset, .unset, .unset] [(.long ((((p2 &&& (2147483647 : Int32)).toInt64) + ((p3 &&& (2147483647 : Int32)).toInt64)) + (((p4 >>> ((4 : Int32) &&& 31)) &&& (3 : Int32)).toInt64))), (.long (0 : Int64))])) rfl (hb hby at_67) _ k_) ?_
      show Run _ _ _ _ (s₁.setTop (mkF m 70 #[.val (.long p1), .second, .val (.int p2), .val (.int p3), .val (.int p4), .val (.int (p2 &&& (2147483647 : Int32))), .val (.int (p3 &&& (2147483647 : Int32))), .unset, .unset, .unset, .unset, .unset, .unset, .unset, .unset, .unset, .unset, .unset] [(.long (2 : Int64)), (.long ((((p2 &&& (2147483647 : Int32)).toInt64) + ((p3 &&& (2147483647 : Int32)).toInt64)) + (((p4 >>> ((4 : Int32) &&& 31)) &&& (3 : Int32)).toInt64))), (.long (0 : Int64))]))
      refine Run.step (fun t_ k_ => XS.lsub X0.here hx rfl (hb hby at_70) rfl k_) ?_
      show Run _ _ _ _ (s₁.setTop (mkF m 71 #[.val (.long p1), .second, .val (.int p2), .val (.int p3), .val (.int p4), .val (.int (p2 &&& (2147483647 : Int32))), .val (.int (p3 &&& (2147483647 : Int32))), .unset, .unset, .unset, .unset, .unset, .unset, .unset, .unset, .unset, .unset, .unset] [(.long (((((p2 &&& (2147483647 : Int32)).toInt64) + ((p3 &&& (2147483647 : Int32)).toInt64)) + (((p4 >>> ((4 : Int32) &&& 31)) &&& (3 : Int32)).toInt64)) - (2 : Int64))), (.long (0 : Int64))]))
      obtain ⟨_, _, ⟨T68, L68, k68, n68⟩, -, X68, ⟨Lc68, hQ68, l68, y68, z68⟩, st68⟩ := Jvm.LawKit.callS X0 hx (y := (⟨"java/lang/Math", "max", "(JJ)J"⟩ : MethodName)) hown (mvT hZ w26) (mvT hZ w27) (mvT hZ w28) (mvT hZ w29) (by decide) (backOf (W := 0) (rm5 l Z a0 hw [] (0 : Int64) (((((p2 &&& (2147483647 : Int32)).toInt64) + ((p3 &&& (2147483647 : Int32)).toInt64)) + (((p4 >>> ((4 : Int32) &&& 31)) &&& (3 : Int32)).toInt64)) - (2 : Int64)) h0 n0 Z0) hZ w29 w28 (by decide) (by decide)) (g := (mkF m 71 #[.val (.long p1), .second, .val (.int p2), .val (.int p3), .val (.int p4), .val (.int (p2 &&& (2147483647 : Int32))), .val (.int (p3 &&& (2147483647 : Int32))), .unset, .unset, .unset, .unset, .unset, .unset, .unset, .unset, .unset, .unset, .unset] [(.long (((((p2 &&& (2147483647 : Int32)).toInt64) + ((p3 &&& (2147483647 : Int32)).toInt64)) + (((p4 >>> ((4 : Int32) &&& 31)) &&& (3 : Int32)).toInt64)) - (2 : Int64))), (.long (0 : Int64))])) rfl (by rw [hml]; rfl) (argsL := [(.long (0 : Int64)), (.long (((((p2 &&& (2147483647 : Int32)).toInt64) + ((p3 &&& (2147483647 : Int32)).toInt64)) + (((p4 >>> ((4 : Int32) &&& 31)) &&& (3 : Int32)).toInt64)) - (2 : Int64)))]) (rest := []) (lenOf pd__28JJ_29J rfl) rfl (by show 2 * 0 + _ ≤ _; exact Nat.le_of_eq rfl) (hb hby at_71) (fun _ _ => ⟨rfl, e0, (by decide : 0 + 0 ≤ _), (by decide : 0 + 0 ≤ _)⟩)
      dsimp only [Pt.U, Pt.locs, Pt.cells, Pt.slots] at X68 l68 y68 z68 st68 hQ68
      subst l68 y68 z68
      refine Run.step (st68) ?_
      obtain ⟨rfl, N68q, e68q⟩ := hQ68
      have N68 := Fr.app N0 N68q
      show Run _ _ _ _ (T68.setTop (mkF m 74 #[.val (.long p1), .second, .val (.int p2), .val (.int p3), .val (.int p4), .val (.int (p2 &&& (2147483647 : Int32))), .val (.int (p3 &&& (2147483647 : Int32))), .unset, .unset, .unset, .unset, .unset, .unset, .unset, .unset, .unset, .unset, .unset] [(.long (if (0 : Int64) < (((((p2 &&& (2147483647 : Int32)).toInt64) + ((p3 &&& (2147483647 : Int32)).toInt64)) + (((p4 >>> ((4 : Int32) &&& 31)) &&& (3 : Int32)).toInt64)) - (2 : Int64)) then (((((p2 &&& (2147483647 : Int32)).toInt64) + ((p3 &&& (2147483647 : Int32)).toInt64)) + (((p4 >>> ((4 : Int32) &&& 31)) &&& (3 : Int32)).toInt64)) - (2 : Int64)) else (0 : Int64)))]))
      refine Run.step (fun t_ k_ => XS.lstore X68.here hx rfl (hb hby at_74) rfl (l' := #[.val (.long p1), .second, .val (.int p2), .val (.int p3), .val (.int p4), .val (.int (p2 &&& (2147483647 : Int32))), .val (.int (p3 &&& (2147483647 : Int32))), .val (.long (if (0 : Int64) < (((((p2 &&& (2147483647 : Int32)).toInt64) + ((p3 &&& (2147483647 : Int32)).toInt64)) + (((p4 >>> ((4 : Int32) &&& 31)) &&& (3 : Int32)).toInt64)) - (2 : Int64)) then (((((p2 &&& (2147483647 : Int32)).toInt64) + ((p3 &&& (2147483647 : Int32)).toInt64)) + (((p4 >>> ((4 : Int32) &&& 31)) &&& (3 : Int32)).toInt64)) - (2 : Int64)) else (0 : Int64))), .second, .unset, .unset, .unset, .unset, .unset, .unset, .unset, .unset, .unset]) rfl k_) ?_
      show Run _ _ _ _ (T68.setTop (mkF m 76 #[.val (.long p1), .second, .val (.int p2), .val (.int p3), .val (.int p4), .val (.int (p2 &&& (2147483647 : Int32))), .val (.int (p3 &&& (2147483647 : Int32))), .val (.long (if (0 : Int64) < (((((p2 &&& (2147483647 : Int32)).toInt64) + ((p3 &&& (2147483647 : Int32)).toInt64)) + (((p4 >>> ((4 : Int32) &&& 31)) &&& (3 : Int32)).toInt64)) - (2 : Int64)) then (((((p2 &&& (2147483647 : Int32)).toInt64) + ((p3 &&& (2147483647 : Int32)).toInt64)) + (((p4 >>> ((4 : Int32) &&& 31)) &&& (3 : Int32)).toInt64)) - (2 : Int64)) else (0 : Int64))), .second, .unset, .unset, .unset, .unset, .unset, .unset, .unset, .unset, .unset] []))
      refine Run.step (fun t_ k_ => XS.goto X68.here hx rfl (pc0 := 76) (pc' := 86) rfl (hb hby at_76) (by decide) (by decide) k_) ?_
      show Run _ _ _ _ (T68.setTop (mkF m 86 #[.val (.long p1), .second, .val (.int p2), .val (.int p3), .val (.int p4), .val (.int (p2 &&& (2147483647 : Int32))), .val (.int (p3 &&& (2147483647 : Int32))), .val (.long (if (0 : Int64) < (((((p2 &&& (2147483647 : Int32)).toInt64) + ((p3 &&& (2147483647 : Int32)).toInt64)) + (((p4 >>> ((4 : Int32) &&& 31)) &&& (3 : Int32)).toInt64)) - (2 : Int64)) then (((((p2 &&& (2147483647 : Int32)).toInt64) + ((p3 &&& (2147483647 : Int32)).toInt64)) + (((p4 >>> ((4 : Int32) &&& 31)) &&& (3 : Int32)).toInt64)) - (2 : Int64)) else (0 : Int64))), .second, .unset, .unset, .unset, .unset, .unset, .unset, .unset, .unset, .unset] []))
      exact J22 _ _ X68 e68q N68 (if (0 : Int64) < (((((p2 &&& (2147483647 : Int32)).toInt64) + ((p3 &&& (2147483647 : Int32)).toInt64)) + (((p4 >>> ((4 : Int32) &&& 31)) &&& (3 : Int32)).toInt64)) - (2 : Int64)) then (((((p2 &&& (2147483647 : Int32)).toInt64) + ((p3 &&& (2147483647 : Int32)).toInt64)) + (((p4 >>> ((4 : Int32) &&& 31)) &&& (3 : Int32)).toInt64)) - (2 : Int64)) else (0 : Int64)) trivial
  · skip
    refine Run.step (fun t_ k_ => XS.ifNo X0.here hx rfl (hb hby at_16) rfl (XT.i0_eq_f c16) k_) ?_
    show Run _ _ _ _ (s₁.setTop (mkF m 19 #[.val (.long p1), .second, .val (.int p2), .val (.int p3), .val (.int p4), .val (.int (p2 &&& (2147483647 : Int32))), .val (.int (p3 &&& (2147483647 : Int32))), .unset, .unset, .unset, .unset, .unset, .unset, .unset, .unset, .unset, .unset, .unset] []))
    refine Run.step (fun t_ k_ => XS.lconst X0.here hx rfl (hb hby at_19) k_) ?_
    show Run _ _ _ _ (s₁.setTop (mkF m 20 #[.val (.long p1), .second, .val (.int p2), .val (.int p3), .val (.int p4), .val (.int (p2 &&& (2147483647 : Int32))), .val (.int (p3 &&& (2147483647 : Int32))), .unset, .unset, .unset, .unset, .unset, .unset, .unset, .unset, .unset, .unset, .unset] [(.long (0 : Int64))]))
    refine Run.step (fun t_ k_ => XS.iload X0.here hx rfl (hb hby at_20) rfl k_) ?_
    show Run _ _ _ _ (s₁.setTop (mkF m 22 #[.val (.long p1), .second, .val (.int p2), .val (.int p3), .val (.int p4), .val (.int (p2 &&& (2147483647 : Int32))), .val (.int (p3 &&& (2147483647 : Int32))), .unset, .unset, .unset, .unset, .unset, .unset, .unset, .unset, .unset, .unset, .unset] [(.int (p2 &&& (2147483647 : Int32))), (.long (0 : Int64))]))
    refine Run.step (fun t_ k_ => XS.i2l X0.here hx rfl (hb hby at_22) rfl k_) ?_
    show Run _ _ _ _ (s₁.setTop (mkF m 23 #[.val (.long p1), .second, .val (.int p2), .val (.int p3), .val (.int p4), .val (.int (p2 &&& (2147483647 : Int32))), .val (.int (p3 &&& (2147483647 : Int32))), .unset, .unset, .unset, .unset, .unset, .unset, .unset, .unset, .unset, .unset, .unset] [(.long ((p2 &&& (2147483647 : Int32)).toInt64)), (.long (0 : Int64))]))
    refine Run.step (fun t_ k_ => XS.iload X0.here hx rfl (hb hby at_23) rfl k_) ?_
    show Run _ _ _ _ (s₁.setTop (mkF m 25 #[.val (.long p1), .second, .val (.int p2), .val (.int p3), .val (.int p4), .val (.int (p2 &&& (2147483647 : Int32))), .val (.int (p3 &&& (2147483647 : Int32))), .unset, .unset, .unset, .unset, .unset, .unset, .unset, .unset, .unset, .unset, .unset] [(.int p4), (.long ((p2 &&& (2147483647 : Int32)).toInt64)), (.long (0 : Int64))]))
    refine Run.step (fun t_ k_ => XS.iconst X0.here hx rfl (hb hby at_25) k_) ?_
    show Run _ _ _ _ (s₁.setTop (mkF m 26 #[.val (.long p1), .second, .val (.int p2), .val (.int p3), .val (.int p4), .val (.int (p2 &&& (2147483647 : Int32))), .val (.int (p3 &&& (2147483647 : Int32))), .unset, .unset, .unset, .unset, .unset, .unset, .unset, .unset, .unset, .unset, .unset] [(.int (1 : Int32)), (.int p4), (.long ((p2 &&& (2147483647 : Int32)).toInt64)), (.long (0 : Int64))]))
    refine Run.step (fun t_ k_ => XS.ishr X0.here hx rfl (hb hby at_26) rfl k_) ?_
    show Run _ _ _ _ (s₁.setTop (mkF m 27 #[.val (.long p1), .second, .val (.int p2), .val (.int p3), .val (.int p4), .val (.int (p2 &&& (2147483647 : Int32))), .val (.int (p3 &&& (2147483647 : Int32))), .unset, .unset, .unset, .unset, .unset, .unset, .unset, .unset, .unset, .unset, .unset] [(.int (p4 >>> ((1 : Int32) &&& 31))), (.long ((p2 &&& (2147483647 : Int32)).toInt64)), (.long (0 : Int64))]))
    refine Run.step (fun t_ k_ => XS.iconst X0.here hx rfl (hb hby at_27) k_) ?_
    show Run _ _ _ _ (s₁.setTop (mkF m 28 #[.val (.long p1), .second, .val (.int p2), .val (.int p3), .val (.int p4), .val (.int (p2 &&& (2147483647 : Int32))), .val (.int (p3 &&& (2147483647 : Int32))), .unset, .unset, .unset, .unset, .unset, .unset, .unset, .unset, .unset, .unset, .unset] [(.int (3 : Int32)), (.int (p4 >>> ((1 : Int32) &&& 31))), (.long ((p2 &&& (2147483647 : Int32)).toInt64)), (.long (0 : Int64))]))
    refine Run.step (fun t_ k_ => XS.iand X0.here hx rfl (hb hby at_28) rfl k_) ?_
    show Run _ _ _ _ (s₁.setTop (mkF m 29 #[.val (.long p1), .second, .val (.int p2), .val (.int p3), .val (.int p4), .val (.int (p2 &&& (2147483647 : Int32))), .val (.int (p3 &&& (2147483647 : Int32))), .unset, .unset, .unset, .unset, .unset, .unset, .unset, .unset, .unset, .unset, .unset] [(.int ((p4 >>> ((1 : Int32) &&& 31)) &&& (3 : Int32))), (.long ((p2 &&& (2147483647 : Int32)).toInt64)), (.long (0 : Int64))]))
    refine Run.step (fun t_ k_ => XS.i2l X0.here hx rfl (hb hby at_29) rfl k_) ?_
    show Run _ _ _ _ (s₁.setTop (mkF m 30 #[.val (.long p1), .second, .val (.int p2), .val (.int p3), .val (.int p4), .val (.int (p2 &&& (2147483647 : Int32))), .val (.int (p3 &&& (2147483647 : Int32))), .unset, .unset, .unset, .unset, .unset, .unset, .unset, .unset, .unset, .unset, .unset] [(.long (((p4 >>> ((1 : Int32) &&& 31)) &&& (3 : Int32)).toInt64)), (.long ((p2 &&& (2147483647 : Int32)).toInt64)), (.long (0 : Int64))]))
    refine Run.step (fun t_ k_ => XS.ladd X0.here hx rfl (hb hby at_30) rfl k_) ?_
    show Run _ _ _ _ (s₁.setTop (mkF m 31 #[.val (.long p1), .second, .val (.int p2), .val (.int p3), .val (.int p4), .val (.int (p2 &&& (2147483647 : Int32))), .val (.int (p3 &&& (2147483647 : Int32))), .unset, .unset, .unset, .unset, .unset, .unset, .unset, .unset, .unset, .unset, .unset] [(.long (((p2 &&& (2147483647 : Int32)).toInt64) + (((p4 >>> ((1 : Int32) &&& 31)) &&& (3 : Int32)).toInt64))), (.long (0 : Int64))]))
    refine Run.step (fun t_ k_ => X0.ldc2Long hx hown (mvT hZ w25) (g := (mkF m 31 #[.val (.long p1), .second, .val (.int p2), .val (.int p3), .val (.int p4), .val (.int (p2 &&& (2147483647 : Int32))), .val (.int (p3 &&& (2147483647 : Int32))), .unset, .unset, .unset, .unset, .unset, .unset, .unset, .unset, .unset, .unset, .unset] [(.long (((p2 &&& (2147483647 : Int32)).toInt64) + (((p4 >>> ((1 : Int32) &&& 31)) &&& (3 : Int32)).toInt64))), (.long (0 : Int64))])) rfl (hb hby at_31) _ k_) ?_
    show Run _ _ _ _ (s₁.setTop (mkF m 34 #[.val (.long p1), .second, .val (.int p2), .val (.int p3), .val (.int p4), .val (.int (p2 &&& (2147483647 : Int32))), .val (.int (p3 &&& (2147483647 : Int32))), .unset, .unset, .unset, .unset, .unset, .unset, .unset, .unset, .unset, .unset, .unset] [(.long (2 : Int64)), (.long (((p2 &&& (2147483647 : Int32)).toInt64) + (((p4 >>> ((1 : Int32) &&& 31)) &&& (3 : Int32)).toInt64))), (.long (0 : Int64))]))
    refine Run.step (fun t_ k_ => XS.lsub X0.here hx rfl (hb hby at_34) rfl k_) ?_
    show Run _ _ _ _ (s₁.setTop (mkF m 35 #[.val (.long p1), .second, .val (.int p2), .val (.int p3), .val (.int p4), .val (.int (p2 &&& (2147483647 : Int32))), .val (.int (p3 &&& (2147483647 : Int32))), .unset, .unset, .unset, .unset, .unset, .unset, .unset, .unset, .unset, .unset, .unset] [(.long ((((p2 &&& (2147483647 : Int32)).toInt64) + (((p4 >>> ((1 : Int32) &&& 31)) &&& (3 : Int32)).toInt64)) - (2 : Int64))), (.long (0 : Int64))]))
    obtain ⟨_, _, ⟨T69, L69, k69, n69⟩, -, X69, ⟨Lc69, hQ69, l69, y69, z69⟩, st69⟩ := Jvm.LawKit.callS X0 hx (y := (⟨"java/lang/Math", "max", "(JJ)J"⟩ : MethodName)) hown (mvT hZ w26) (mvT hZ w27) (mvT hZ w28) (mvT hZ w29) (by decide) (backOf (W := 0) (rm5 l Z a0 hw [] (0 : Int64) ((((p2 &&& (2147483647 : Int32)).toInt64) + (((p4 >>> ((1 : Int32) &&& 31)) &&& (3 : Int32)).toInt64)) - (2 : Int64)) h0 n0 Z0) hZ w29 w28 (by decide) (by decide)) (g := (mkF m 35 #[.val (.long p1), .second, .val (.int p2), .val (.int p3), .val (.int p4), .val (.int (p2 &&& (2147483647 : Int32))), .val (.int (p3 &&& (2147483647 : Int32))), .unset, .unset, .unset, .unset, .unset, .unset, .unset, .unset, .unset, .unset, .unset] [(.long ((((p2 &&& (2147483647 : Int32)).toInt64) + (((p4 >>> ((1 : Int32) &&& 31)) &&& (3 : Int32)).toInt64)) - (2 : Int64))), (.long (0 : Int64))])) rfl (by rw [hml]; rfl) (argsL := [(.long (0 : Int64)), (.long ((((p2 &&& (2147483647 : Int32)).toInt64) + (((p4 >>> ((1 : Int32) &&& 31)) &&& (3 : Int32)).toInt64)) - (2 : Int64)))]) (rest := []) (lenOf pd__28JJ_29J rfl) rfl (by show 2 * 0 + _ ≤ _; exact Nat.le_of_eq rfl) (hb hby at_35) (fun _ _ => ⟨rfl, e0, (by decide : 0 + 0 ≤ _), (by decide : 0 + 0 ≤ _)⟩)
    dsimp only [Pt.U, Pt.locs, Pt.cells, Pt.slots] at X69 l69 y69 z69 st69 hQ69
    subst l69 y69 z69
    refine Run.step (st69) ?_
    obtain ⟨rfl, N69q, e69q⟩ := hQ69
    have N69 := Fr.app N0 N69q
    show Run _ _ _ _ (T69.setTop (mkF m 38 #[.val (.long p1), .second, .val (.int p2), .val (.int p3), .val (.int p4), .val (.int (p2 &&& (2147483647 : Int32))), .val (.int (p3 &&& (2147483647 : Int32))), .unset, .unset, .unset, .unset, .unset, .unset, .unset, .unset, .unset, .unset, .unset] [(.long (if (0 : Int64) < ((((p2 &&& (2147483647 : Int32)).toInt64) + (((p4 >>> ((1 : Int32) &&& 31)) &&& (3 : Int32)).toInt64)) - (2 : Int64)) then ((((p2 &&& (2147483647 : Int32)).toInt64) + (((p4 >>> ((1 : Int32) &&& 31)) &&& (3 : Int32)).toInt64)) - (2 : Int64)) else (0 : Int64)))]))
    refine Run.step (fun t_ k_ => XS.lstore X69.here hx rfl (hb hby at_38) rfl (l' := #[.val (.long p1), .second, .val (.int p2), .val (.int p3), .val (.int p4), .val (.int (p2 &&& (2147483647 : Int32))), .val (.int (p3 &&& (2147483647 : Int32))), .val (.long (if (0 : Int64) < ((((p2 &&& (2147483647 : Int32)).toInt64) + (((p4 >>> ((1 : Int32) &&& 31)) &&& (3 : Int32)).toInt64)) - (2 : Int64)) then ((((p2 &&& (2147483647 : Int32)).toInt64) + (((p4 >>> ((1 : Int32) &&& 31)) &&& (3 : Int32)).toInt64)) - (2 : Int64)) else (0 : Int64))), .second, .unset, .unset, .unset, .unset, .unset, .unset, .unset, .unset, .unset]) rfl k_) ?_
    show Run _ _ _ _ (T69.setTop (mkF m 40 #[.val (.long p1), .second, .val (.int p2), .val (.int p3), .val (.int p4), .val (.int (p2 &&& (2147483647 : Int32))), .val (.int (p3 &&& (2147483647 : Int32))), .val (.long (if (0 : Int64) < ((((p2 &&& (2147483647 : Int32)).toInt64) + (((p4 >>> ((1 : Int32) &&& 31)) &&& (3 : Int32)).toInt64)) - (2 : Int64)) then ((((p2 &&& (2147483647 : Int32)).toInt64) + (((p4 >>> ((1 : Int32) &&& 31)) &&& (3 : Int32)).toInt64)) - (2 : Int64)) else (0 : Int64))), .second, .unset, .unset, .unset, .unset, .unset, .unset, .unset, .unset, .unset] []))
    refine Run.step (fun t_ k_ => XS.goto X69.here hx rfl (pc0 := 40) (pc' := 86) rfl (hb hby at_40) (by decide) (by decide) k_) ?_
    show Run _ _ _ _ (T69.setTop (mkF m 86 #[.val (.long p1), .second, .val (.int p2), .val (.int p3), .val (.int p4), .val (.int (p2 &&& (2147483647 : Int32))), .val (.int (p3 &&& (2147483647 : Int32))), .val (.long (if (0 : Int64) < ((((p2 &&& (2147483647 : Int32)).toInt64) + (((p4 >>> ((1 : Int32) &&& 31)) &&& (3 : Int32)).toInt64)) - (2 : Int64)) then ((((p2 &&& (2147483647 : Int32)).toInt64) + (((p4 >>> ((1 : Int32) &&& 31)) &&& (3 : Int32)).toInt64)) - (2 : Int64)) else (0 : Int64))), .second, .unset, .unset, .unset, .unset, .unset, .unset, .unset, .unset, .unset] []))
    exact J22 _ _ X69 e69q N69 (if (0 : Int64) < ((((p2 &&& (2147483647 : Int32)).toInt64) + (((p4 >>> ((1 : Int32) &&& 31)) &&& (3 : Int32)).toInt64)) - (2 : Int64)) then ((((p2 &&& (2147483647 : Int32)).toInt64) + (((p4 >>> ((1 : Int32) &&& 31)) &&& (3 : Int32)).toInt64)) - (2 : Int64)) else (0 : Int64)) trivial
set_option maxRecDepth 65536 in
set_option maxHeartbeats 40000000 in
theorem comes_1 {Post : Tables → Env → Array Value → State → Outcome → State → Prop} (hpost : ∀ tb e args s v u, (limb_1_1.after args s (.returned v) u = true ∧ limb_1_2.after args s (.returned v) u = true ∧ True) → FrameEnd s (.returned v) u (Jvm.fieldLocs frame_1_writes args s ++ Jvm.arrayLocs frame_1_arrays args s ++ Jvm.staticLocs frame_1_statics s) 16 128 → Post tb e args s (.returned v) u) :
    ArmFor flags0 classFile x code maxLocals ret World_1 tables_1 room_1 Calls_1 rest_1 Pre_1 Post := by
  intro l hfl _ _ p e ha hc hk s m args below hf hA hF happ hP
  obtain ⟨hcalls, hrest, hpre⟩ := hP
  obtain ⟨-, -, -, hnamed, -, -, -, hat⟩ := (Spec.applies_iff hf).mp happ
  obtain ⟨hg, hn⟩ := and_e (Cond.before_iff.mp (show (Jvm.Cond.and given_1 narrow_1).before args s = true from hpre))
  obtain ⟨h1, h2⟩ := and_e hg
  obtain ⟨w0, w1, w2, w3, rfl⟩ : ∃ w0 w1 w2 w3 : Value, args = #[w0, w1, w2, w3] := by
    have hs : args.size = 4 := by simpa [Cond.value, given_1] using h1
    obtain ⟨L⟩ := args
    match L, hs with
    | [w0, w1, w2, w3], _ => exact ⟨w0, w1, w2, w3, rfl⟩
  have hw := fun d (hd : d ∈ tables_1) => atoms_spec (ws := Jvm.Cond.code x code maxLocals ret :: tables_1) hat d (List.mem_cons_of_mem _ hd)
  have hfit : Fit s := fun {y c} hc i hi => by
    obtain ⟨ha, rfl⟩ := Array.getElem?_eq_some_iff.mp hc
    have q := List.all_eq_true.mp ((Array.all_eq_true_iff_forall_mem.mp hF) _ (Array.getElem_mem ha)) i (List.mem_range.mpr hi)
    simpa [Array.getElem?_eq_getElem hi] using q
  obtain ⟨a0, t0⟩ := and_e h2
  obtain ⟨i0, q0⟩ := isL_v a0
  obtain rfl : w0 = (.long i0) := Option.some.inj q0
  obtain ⟨a1, t1⟩ := and_e t0
  obtain ⟨i1, q1⟩ := is_v a1
  obtain rfl : w1 = (.int i1) := Option.some.inj q1
  obtain ⟨a2, t2⟩ := and_e t1
  obtain ⟨i2, q2⟩ := is_v a2
  obtain rfl : w2 = (.int i2) := Option.some.inj q2
  obtain ⟨i3, q3⟩ := is_v t2
  obtain rfl : w3 = (.int i3) := Option.some.inj q3
  obtain ⟨n, o, g1, g2, g3, _, L, rfl, ⟨rfl, N⟩, hq⟩ := rm0 l s _ hw tables_1 i0 i1 i2 i3 s.heap s.heap.size (Nat.le_refl _) p e ha hc hk s m _ below hf ((Spec.applies_iff_loose hf).mp happ).1 ⟨rfl, State.Warmed39.refl s, rfl⟩ trivial
  refine ⟨n, _, g1, g2, g3, hpost _ _ _ _ _ _ ⟨Cond.after_iff.mpr rfl, Cond.after_iff.mpr (eq_i res_at (Term.int_eval (1)) rfl), trivial⟩ ⟨hq.1, hq.2.1, (hq.2.2.sift fun y hy => Or.inr (N y hy)).mono (by decide) (by decide)⟩⟩
theorem main_1_1 : Claimed_1_1 := comes_1 fun _ _ _ _ _ _ h hF => ⟨h.1, hF⟩
theorem main_1_2 : Claimed_1_2 := comes_1 fun _ _ _ _ _ _ h hF => ⟨h.2.1, hF⟩
end Jvm.Pilot.@@N@@
namespace Jvm.Pilot.@@N@@
open Jvm Jvm.ClassFile Sem Op Lib Jvm.Free Jvm.Stand Jvm.Pilot.@@N@@.Jvm.D
/-! MADE BY PROGRAM (witnessworld.py) out of the Statement's table words and the real class files: 10 classes; the members and pool entries that the words name. The judged class is class 1, her method 1. -/
namespace start1
open Jvm.ClassFile
def u (s : String) : CpInfo := .utf8 (stringToUtf16 s)
/-- a pool by its gaps: so many unusable entries, then the entry; so many at the end -/
def gap : Nat → List CpInfo → List CpInfo
  | 0, r => r
  | n + 1, r => .unusable :: gap n r
def poolList (es : List (Nat × CpInfo)) (last : Nat) : List CpInfo := es.foldr (fun e r => gap e.1 (e.2 :: r)) (gap last [])
def pool (es : List (Nat × CpInfo)) (last : Nat) : Array CpInfo := ⟨poolList es last⟩
def fileOf (pool : Array CpInfo) (this : Nat) (attrs : Array Attribute := #[]) (ms : Array MethodInfo := #[]) (fl : Nat := 33) (sup : Nat := 0) (ifs : Array Nat := #[]) (fds : Array FieldInfo := #[]) : ClassFile where
  minorVersion := 0
  majorVersion := 65
  constantPool := pool
  accessFlags := fl
  thisClass := this
  superClass := sup
  interfaces := ifs
  fields := fds
  methods := ms
  attributes := attrs
def plain (name : String) (sup : Option ClassId) : Class where
  name := name
  kind := .ordinary
  loader := none
  accessFlags := 33
  super := sup
  interfaces := #[]
  cf := none
  fields := #[]
  methods := #[]
  instanceTypes := #[]
  staticTypes := #[]
  resolved := #[]
  callSites := []
  init := .initialized
  statics := none
  mirror := none

def pool0 : Array CpInfo := pool [(5, u "<init>"), (0, u "()V"), (1, .class_ 10), (1, u "java/lang/Object")] 113

def k0c0 : Code := { maxStack := 0, maxLocals := 1, code := object_method_1_code, exceptionTable := #[], attributes := #[] }
def k0m0 : Method := { name := "<init>", desc := "()V", sig := { parameters := [], returnType := none }, accessFlags := 1, code := some k0c0 }
/-- java/lang/Object -/
def k0 : Class := { plain "java/lang/Object" none with
  accessFlags := 33
  interfaces := #[]
  cf := some (fileOf pool0 8 #[] #[{ accessFlags := 1, nameIndex := 5, descriptorIndex := 6, attributes := #[] }] 33 0 #[] #[])
  fields := #[]
  methods := #[k0m0]
  instanceTypes := #[]
  staticTypes := #[]
  resolved := Array.replicate 124 none
  statics := none }

def pool1 : Array CpInfo := pool [(2, .class_ 4), (1, u "java/lang/Object"), (0, u "<init>"), (0, u "()V"), (0, .integer 2147483647), (0, .long 2), (1, .methodref 11 12), (0, .class_ 13), (0, .nameAndType 14 15), (0, u "java/lang/Math"), (0, u "max"), (0, u "(JJ)J"), (0, .long 4611686018427387903), (1, .class_ 19), (0, u "com/example/hashspace/hashspace/server/FrameBudget"), (0, .methodref 18 21), (0, .nameAndType 5 22), (0, u "(J)V"), (0, .methodref 18 24), (0, .nameAndType 25 26), (0, u "reserve"), (0, u "(I)Z"), (0, .methodref 18 28), (0, .nameAndType 29 30), (0, u "held"), (0, u "()J"), (0, .class_ 32), (0, u "com/example/hashspace/hashspace/server/FrameBudgetReservePinLaw"), (2, u "law"), (0, u "(JIII)Z")] 3

def k1m0 : Method := { name := "<init>", desc := "()V", sig := { parameters := [], returnType := none }, accessFlags := 1, code := none }
def k1c1 : Code := { maxStack := 6, maxLocals := 18, code := code, exceptionTable := #[], attributes := #[] }
def k1m1 : Method := { name := "law", desc := "(JIII)Z", sig := { parameters := [.long, .int, .int, .int], returnType := some .boolean }, accessFlags := 9, code := some k1c1 }
/-- com/example/hashspace/hashspace/server/FrameBudgetReservePinLaw -/
def k1 : Class := { plain "com/example/hashspace/hashspace/server/FrameBudgetReservePinLaw" (some 0) with
  accessFlags := 49
  interfaces := #[]
  cf := some (fileOf pool1 31 #[] #[{ accessFlags := 1, nameIndex := 5, descriptorIndex := 6, attributes := #[] }, { accessFlags := 9, nameIndex := 35, descriptorIndex := 36, attributes := #[] }] 49 2 #[] #[])
  fields := #[]
  methods := #[k1m0, k1m1]
  instanceTypes := #[]
  staticTypes := #[]
  resolved := Array.replicate 40 none
  statics := none }

def pool2 : Array CpInfo := pool [(1, .methodref 2 3), (0, .class_ 4), (0, .nameAndType 5 6), (0, u "java/lang/Object"), (0, u "<init>"), (0, u "()V"), (0, .fieldref 8 9), (0, .class_ 10), (0, .nameAndType 11 12), (0, u "com/example/hashspace/hashspace/server/FrameBudget"), (0, u "limit"), (0, u "J"), (9, u "()J"), (4, u "(J)V"), (0, .fieldref 8 29), (0, .nameAndType 30 12), (0, u "held"), (0, u "HEAP_SHARE"), (0, u "I"), (6, u "reserve"), (0, u "(I)Z")] 4

def k2c0 : Code := { maxStack := 3, maxLocals := 3, code := prog_90_method_1_code, exceptionTable := #[], attributes := #[] }
def k2m0 : Method := { name := "<init>", desc := "(J)V", sig := { parameters := [.long], returnType := none }, accessFlags := 0, code := some k2c0 }
def k2c1 : Code := { maxStack := 5, maxLocals := 3, code := prog_90_method_3_code, exceptionTable := #[], attributes := #[] }
def k2m1 : Method := { name := "reserve", desc := "(I)Z", sig := { parameters := [.int], returnType := some .boolean }, accessFlags := 0, code := some k2c1 }
def k2c2 : Code := { maxStack := 2, maxLocals := 1, code := prog_90_method_5_code, exceptionTable := #[], attributes := #[] }
def k2m2 : Method := { name := "held", desc := "()J", sig := { parameters := [], returnType := some .long }, accessFlags := 0, code := some k2c2 }
/-- com/example/hashspace/hashspace/server/FrameBudget -/
def k2 : Class := { plain "com/example/hashspace/hashspace/server/FrameBudget" (some 0) with
  accessFlags := 32
  interfaces := #[]
  cf := some (fileOf pool2 8 #[] #[{ accessFlags := 0, nameIndex := 5, descriptorIndex := 27, attributes := #[] }, { accessFlags := 0, nameIndex := 39, descriptorIndex := 40, attributes := #[] }, { accessFlags := 0, nameIndex := 30, descriptorIndex := 22, attributes := #[] }] 32 2 #[] #[{ accessFlags := 26, nameIndex := 31, descriptorIndex := 32, attributes := #[] }, { accessFlags := 18, nameIndex := 11, descriptorIndex := 12, attributes := #[] }, { accessFlags := 66, nameIndex := 30, descriptorIndex := 12, attributes := #[] }])
  fields := #[{ name := "HEAP_SHARE", type := .int, accessFlags := 26, slot := 0, constantValue := 0 }, { name := "limit", type := .long, accessFlags := 18, slot := 0, constantValue := 0 }, { name := "held", type := .long, accessFlags := 66, slot := 1, constantValue := 0 }]
  methods := #[k2m0, k2m1, k2m2]
  instanceTypes := #[.long, .long]
  staticTypes := #[.int]
  resolved := Array.replicate 45 none
  statics := none }

def pool3 : Array CpInfo := pool [(1, .class_ 2), (0, u "java/lang/Math"), (1, .class_ 6), (1, u "java/lang/Object"), (0, u "<init>"), (0, u "()V"), (89, .class_ 100), (1, u "java/lang/Math$RandomNumberGeneratorHolder"), (20, u "(JJ)J"), (50, u "negativeZeroFloatBits"), (0, u "J"), (2, u "negativeZeroDoubleBits"), (21, u "max"), (46, u "$assertionsDisabled"), (0, u "Z"), (91, u "twoToTheDoubleScaleDown"), (0, u "D"), (4, u "twoToTheDoubleScaleUp"), (9, u "E"), (3, u "PI"), (2, u "TAU"), (2, u "DEGREES_TO_RADIANS"), (0, u "RADIANS_TO_DEGREES")] 94

def k3m0 : Method := { name := "<init>", desc := "()V", sig := { parameters := [], returnType := none }, accessFlags := 2, code := none }
def k3c1 : Code := { maxStack := 4, maxLocals := 4, code := jdk_29_method_66_code, exceptionTable := #[], attributes := #[] }
def k3m1 : Method := { name := "max", desc := "(JJ)J", sig := { parameters := [.long, .long], returnType := some .long }, accessFlags := 9, code := some k3c1 }
/-- java/lang/Math -/
def k3 : Class := { plain "java/lang/Math" (some 0) with
  accessFlags := 49
  interfaces := #[]
  cf := some (fileOf pool3 1 #[.nestMembers #[98]] #[{ accessFlags := 2, nameIndex := 7, descriptorIndex := 8, attributes := #[] }, { accessFlags := 9, nameIndex := 198, descriptorIndex := 121, attributes := #[] }] 49 4 #[] #[{ accessFlags := 25, nameIndex := 354, descriptorIndex := 339, attributes := #[] }, { accessFlags := 25, nameIndex := 358, descriptorIndex := 339, attributes := #[] }, { accessFlags := 25, nameIndex := 361, descriptorIndex := 339, attributes := #[] }, { accessFlags := 26, nameIndex := 364, descriptorIndex := 339, attributes := #[] }, { accessFlags := 26, nameIndex := 365, descriptorIndex := 339, attributes := #[] }, { accessFlags := 26, nameIndex := 172, descriptorIndex := 173, attributes := #[] }, { accessFlags := 26, nameIndex := 176, descriptorIndex := 173, attributes := #[] }, { accessFlags := 8, nameIndex := 344, descriptorIndex := 339, attributes := #[] }, { accessFlags := 8, nameIndex := 338, descriptorIndex := 339, attributes := #[] }, { accessFlags := 4120, nameIndex := 245, descriptorIndex := 246, attributes := #[] }])
  fields := #[{ name := "E", type := .double, accessFlags := 25, slot := 0, constantValue := 0 }, { name := "PI", type := .double, accessFlags := 25, slot := 1, constantValue := 0 }, { name := "TAU", type := .double, accessFlags := 25, slot := 2, constantValue := 0 }, { name := "DEGREES_TO_RADIANS", type := .double, accessFlags := 26, slot := 3, constantValue := 0 }, { name := "RADIANS_TO_DEGREES", type := .double, accessFlags := 26, slot := 4, constantValue := 0 }, { name := "negativeZeroFloatBits", type := .long, accessFlags := 26, slot := 5, constantValue := 0 }, { name := "negativeZeroDoubleBits", type := .long, accessFlags := 26, slot := 6, constantValue := 0 }, { name := "twoToTheDoubleScaleUp", type := .double, accessFlags := 8, slot := 7, constantValue := 0 }, { name := "twoToTheDoubleScaleDown", type := .double, accessFlags := 8, slot := 8, constantValue := 0 }, { name := "$assertionsDisabled", type := .boolean, accessFlags := 4120, slot := 9, constantValue := 0 }]
  methods := #[k3m0, k3m1]
  instanceTypes := #[]
  staticTypes := #[.double, .double, .double, .double, .double, .long, .long, .double, .double, .boolean]
  resolved := Array.replicate 460 none
  statics := none }

def pool4 : Array CpInfo := pool [(1, u "java/lang/Cloneable"), (0, .class_ 1), (0, u "java/lang/Object"), (0, .class_ 3)] 3

/-- java/lang/Cloneable -/
def k4 : Class := { plain "java/lang/Cloneable" (some 0) with
  accessFlags := 1537
  interfaces := #[]
  cf := some (fileOf pool4 2 #[] #[] 1537 4 #[] #[])
  fields := #[]
  methods := #[]
  instanceTypes := #[]
  staticTypes := #[]
  resolved := Array.replicate 8 none
  statics := none }

def pool5 : Array CpInfo := pool [(1, u "java/io/Serializable"), (0, .class_ 1), (0, u "java/lang/Object"), (0, .class_ 3)] 3

/-- java/io/Serializable -/
def k5 : Class := { plain "java/io/Serializable" (some 0) with
  accessFlags := 1537
  interfaces := #[]
  cf := some (fileOf pool5 2 #[] #[] 1537 4 #[] #[])
  fields := #[]
  methods := #[]
  instanceTypes := #[]
  staticTypes := #[]
  resolved := Array.replicate 8 none
  statics := none }

/-- the primitive byte -/
def k6 : Class := { plain "byte" none with kind := .primitive 'B', accessFlags := 0x411 }
/-- [B -/
def k7 : Class := { plain "[B" (some 0) with kind := .array 6 .byte, interfaces := #[4, 5], accessFlags := 1041 }

/-- the primitive int -/
def k8 : Class := { plain "int" none with kind := .primitive 'I', accessFlags := 0x411 }
/-- [I -/
def k9 : Class := { plain "[I" (some 0) with kind := .array 8 .int, interfaces := #[4, 5], accessFlags := 1041 }

def heap : Heap := #[]
def classes : Array Class := #[k0, k1, k2, k3, k4, k5, k6, k7, k8, k9]
def interned : List (Array UInt16 × Addr) := []
def slotsUsed : Nat := 0
def theMethod : MethodId := ⟨1, 1⟩
def args0 : Array Value := #[.long 100, .int 5, .int 7, .int 0]
def aboutOver (below : List Frame) : State where
  vm := { classes := classes, interned := interned.toArray }
  heap := heap
  slotsUsed := slotsUsed
  threads := #[{ frames := .invoking theMethod args0 :: below }]
def below0 : List Frame := [.native { method := ⟨0, 0⟩, args := #[] }]
def about1 : State := aboutOver below0
def p0 : Program := .bare "" "" ""
def e0 : Env := launch0.env 0 0 0
theorem w_frames : about1.frames = Frame.invoking theMethod args0 :: below0 := rfl
set_option maxRecDepth 65536 in
theorem w_args : argsFit about1.vm theMethod args0 = true := by decide +kernel
set_option maxRecDepth 65536 in
theorem w_heap : heapFits about1 = true := by decide +kernel
set_option maxRecDepth 65536 in
theorem w_runnable : about1.curStatus? = some .runnable := by decide +kernel
set_option maxRecDepth 65536 in
theorem w_alone : about1.alone = true := by decide +kernel
set_option maxRecDepth 65536 in
theorem w_named : about1.methodNamed? x = some theMethod := by decide +kernel
set_option maxRecDepth 65536 in
theorem w_hears : about1.hears theMethod below0 = true := by decide +kernel
set_option maxRecDepth 65536 in
theorem w_ripe : about1.ripe theMethod args0 below0 = true := by decide +kernel
theorem w_running : about1.status = .running := rfl
set_option maxRecDepth 65536 in
theorem w_room : about1.hasRoom e0.platform room_1 = true :=
  launch0.hasRoom_least _ room_1 (by decide +kernel) (by decide +kernel) (by decide +kernel) (by decide +kernel) (by decide +kernel) (by decide +kernel)
theorem allAtoms_all (ts : List Jvm.Cond) (a : Array Jvm.Value) (st : Jvm.State) : (allAtoms ts).before a st = ts.all (fun c => c.before a st) := by
  induction ts with
  | nil => rfl
  | cons c t ih =>
    show (Jvm.Cond.and c (allAtoms t)).before a st = _
    rw [Jvm.Cond.before_and, ih, List.all_cons]
def words1 : List Jvm.Cond := Jvm.Cond.code x code maxLocals ret :: tables_1
/-- a 'code' word, met by the world's own term for the bytes: nothing is compared byte by byte -/
theorem code_word {y : MethodName} {bytes : ByteArray} {mx : Nat} {rt : Option FieldType} {a : Array Value} {s : State} {m : MethodId} {meth : Method} {c : Code} (h1 : s.methodNamed? y = some m) (h2 : s.vm.method? m = some meth) (h3 : meth.code = some c) (h4 : c.code = bytes)
    (h5 : (c.maxLocals == mx && c.exceptionTable.isEmpty && decide (c.maxStack ≤ mostOperands) && decide (meth.sig.returnType = rt) && !meth.locks && decide (parseMethodDescriptor y.desc = some meth.sig)) = true) : (Jvm.Cond.code y bytes mx rt).before a s = true := by
  simp only [Bool.and_eq_true, beq_iff_eq, Bool.not_eq_true', decide_eq_true_eq] at h5
  obtain ⟨⟨⟨⟨⟨g1, g2⟩, g3⟩, g4⟩, g5⟩, g6⟩ := h5
  simp [Cond.before, Cond.holds, Cond.value, h1, h2, h3, h4, g1, g2, g3, g4, g5, g6]
def isCode : Jvm.Cond → Bool
  | .code _ _ _ _ => true
  | _ => false
theorem all_split {L : List Jvm.Cond} {P : Jvm.Cond → Bool} (h1 : L.all (fun c => isCode c || P c) = true) (h2 : ∀ c ∈ L.filter isCode, P c = true) : L.all P = true := by
  refine List.all_eq_true.mpr fun c hc => ?_
  have h := List.all_eq_true.mp h1 c hc
  rcases Bool.eq_false_or_eq_true (isCode c) with hi | hi
  · exact h2 c (List.mem_filter.mpr ⟨hc, hi⟩)
  · simpa [hi] using h
set_option maxRecDepth 65536 in
theorem w_c0 : (Jvm.Cond.code x code maxLocals ret).before args0 about1 = true := code_word (m := ⟨1, 1⟩) (meth := k1m1) (c := k1c1) (by decide +kernel) rfl rfl rfl (by decide +kernel)
set_option maxRecDepth 65536 in
theorem w_c1 : (Jvm.Cond.code ({ cls := "com/example/hashspace/hashspace/server/FrameBudget", name := "<init>", desc := "(J)V" } : Jvm.MethodName) prog_90_method_1_code (3 : Nat) (Option.none : Option Jvm.ClassFile.FieldType)).before args0 about1 = true := code_word (m := ⟨2, 0⟩) (meth := k2m0) (c := k2c0) (by decide +kernel) rfl rfl rfl (by decide +kernel)
set_option maxRecDepth 65536 in
theorem w_c2 : (Jvm.Cond.code ({ cls := "java/lang/Object", name := "<init>", desc := "()V" } : Jvm.MethodName) object_method_1_code (1 : Nat) (Option.none : Option Jvm.ClassFile.FieldType)).before args0 about1 = true := code_word (m := ⟨0, 0⟩) (meth := k0m0) (c := k0c0) (by decide +kernel) rfl rfl rfl (by decide +kernel)
set_option maxRecDepth 65536 in
theorem w_c3 : (Jvm.Cond.code ({ cls := "com/example/hashspace/hashspace/server/FrameBudget", name := "reserve", desc := "(I)Z" } : Jvm.MethodName) prog_90_method_3_code (3 : Nat) (Option.some Jvm.ClassFile.FieldType.boolean)).before args0 about1 = true := code_word (m := ⟨2, 1⟩) (meth := k2m1) (c := k2c1) (by decide +kernel) rfl rfl rfl (by decide +kernel)
set_option maxRecDepth 65536 in
theorem w_c4 : (Jvm.Cond.code ({ cls := "com/example/hashspace/hashspace/server/FrameBudget", name := "held", desc := "()J" } : Jvm.MethodName) prog_90_method_5_code (1 : Nat) (Option.some Jvm.ClassFile.FieldType.long)).before args0 about1 = true := code_word (m := ⟨2, 2⟩) (meth := k2m2) (c := k2c2) (by decide +kernel) rfl rfl rfl (by decide +kernel)
set_option maxRecDepth 65536 in
theorem w_c5 : (Jvm.Cond.code ({ cls := "java/lang/Math", name := "max", desc := "(JJ)J" } : Jvm.MethodName) jdk_29_method_66_code (4 : Nat) (Option.some Jvm.ClassFile.FieldType.long)).before args0 about1 = true := code_word (m := ⟨3, 1⟩) (meth := k3m1) (c := k3c1) (by decide +kernel) rfl rfl rfl (by decide +kernel)
def codes1 : List Jvm.Cond := [Jvm.Cond.code x code maxLocals ret, Jvm.Cond.code ({ cls := "com/example/hashspace/hashspace/server/FrameBudget", name := "<init>", desc := "(J)V" } : Jvm.MethodName) prog_90_method_1_code (3 : Nat) (Option.none : Option Jvm.ClassFile.FieldType), Jvm.Cond.code ({ cls := "java/lang/Object", name := "<init>", desc := "()V" } : Jvm.MethodName) object_method_1_code (1 : Nat) (Option.none : Option Jvm.ClassFile.FieldType), Jvm.Cond.code ({ cls := "com/example/hashspace/hashspace/server/FrameBudget", name := "reserve", desc := "(I)Z" } : Jvm.MethodName) prog_90_method_3_code (3 : Nat) (Option.some Jvm.ClassFile.FieldType.boolean), Jvm.Cond.code ({ cls := "com/example/hashspace/hashspace/server/FrameBudget", name := "held", desc := "()J" } : Jvm.MethodName) prog_90_method_5_code (1 : Nat) (Option.some Jvm.ClassFile.FieldType.long), Jvm.Cond.code ({ cls := "java/lang/Math", name := "max", desc := "(JJ)J" } : Jvm.MethodName) jdk_29_method_66_code (4 : Nat) (Option.some Jvm.ClassFile.FieldType.long)]
set_option maxRecDepth 65536 in
theorem codes_eq : words1.filter isCode = codes1 := rfl
theorem w_codes : ∀ c ∈ words1.filter isCode, c.before args0 about1 = true := by
  rw [codes_eq]
  intro c hc
  simp only [codes1, List.mem_cons, List.not_mem_nil, or_false] at hc
  rcases hc with rfl | rfl | rfl | rfl | rfl | rfl
  · exact w_c0
  · exact w_c1
  · exact w_c2
  · exact w_c3
  · exact w_c4
  · exact w_c5
set_option maxRecDepth 65536 in
theorem w_t1 : (words1.take 24).all (fun c => isCode c || c.before args0 about1) = true := by decide +kernel
set_option maxRecDepth 65536 in
theorem w_t2 : (words1.drop 24).all (fun c => isCode c || c.before args0 about1) = true := by decide +kernel
theorem w_tables : (allAtoms (Jvm.Cond.code x code maxLocals ret :: tables_1)).before args0 about1 = true := by
  rw [allAtoms_all]
  show words1.all (fun c => c.before args0 about1) = true
  refine all_split ?_ w_codes
  rw [← List.take_append_drop 24 words1, List.all_append, w_t1, w_t2]
  rfl
set_option maxRecDepth 65536 in
theorem w_case : (Jvm.Cond.and given_1 narrow_1).before args0 about1 = true := by decide +kernel
theorem w_applies : (headSpec (Jvm.Cond.code x code maxLocals ret :: tables_1) room_1).applies x e0.platform about1 = true :=
  (Spec.applies_iff w_frames).mpr ⟨w_running, w_runnable, w_alone, w_named, w_hears, w_ripe, w_room, w_tables⟩
theorem atStart : AtStart classFile x code maxLocals ret World_1 tables_1 room_1 Calls_1 rest_1 Pre_1 launch0 p0 e0 about1 theMethod args0 below0 :=
  ⟨lists_1, trivial, launch0.admits_env _ _ _, launch0.least_env, fairChoices_fair.cas, fairChoices_fair.clock, w_frames, w_args, w_heap, w_applies, trivial, trivial, w_case⟩
end start1
theorem witness_1 : WitnessClaimed_1 := ⟨start1.p0, start1.e0, start1.about1, start1.theMethod, start1.args0, start1.below0, start1.atStart⟩
end Jvm.Pilot.@@N@@
