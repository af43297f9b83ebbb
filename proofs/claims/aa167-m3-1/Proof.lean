import JvmDerived
import JvmDerived.Pilot.@@N@@Statement
import JvmDerived.Pilot.@@N@@Code
set_option linter.unusedVariables false
set_option linter.unusedSimpArgs false
namespace Jvm.OwnW
open Sem ClassFile Op Lib Jvm.Stand Jvm.Free Jvm.LawKit Jvm.RoadKit
section Walks
variable {p : Program} {l : Launch} {e : Env} {R : Room} {s : State} {m : MethodId} {args : Array Value} {below : List Frame} {meth : Method} {c : Code} {T : State} {locs : List Loc} {cells slots : Nat}
/-- from A on the run comes to an end of which P holds -/
def Run (tb : Tables) (e : Env) (below : List Frame) (P : State → Outcome → Prop) (A : State) : Prop := ∃ s₂ o, Steps tb e below A s₂ ∧ P s₂ o
theorem Run.step {tb : Tables} {P : State → Outcome → Prop} {A B : State} (k : ∀ t, Steps tb e below B t → Steps tb e below A t) (h : Run tb e below P B) : Run tb e below P A := by
  obtain ⟨s₂, o, a, b⟩ := h
  exact ⟨s₂, o, k _ a, b⟩
/-- what a body's contract says at the end -/
def PQ (s : State) (below : List Frame) (rc rs : Nat) (Q : Option Value → Heap → List Loc → Prop) (s₂ : State) (o : Outcome) : Prop := s₂.status = .running ∧ Ended s₂ below o ∧ ∃ v L, o = .returned v ∧ Q v s₂.heap L ∧ FrameEnd s o s₂ L rc rs
theorem fin (X : Stand p l e R s m args below meth c T locs cells slots) {A : State} {Q : Option Value → Heap → List Loc → Prop} {rc rs : Nat} {v : Option Value} {h : Heap} (hl : meth.locks = false) (hv : meth.sig.returnType = none → v = none) (hc : cells ≤ rc) (hs : slots ≤ rs) (eT : T.heap = h) (hQ : Q v h locs)
    (st : ∀ fs, (∀ (f : JFrame) (acts : List Action), f.method = m → f.locked = none → f.entered = [] → (doReturn e (T.setTop f) acts v).1 = T.setFrames fs) → Steps p.tables e below A (T.setFrames fs)) : Run p.tables e below (PQ s below rc rs Q) A := by
  obtain ⟨fs, hr, hrun, hended, hW, hsame⟩ := X.leave (v := v) hv hl
  refine ⟨_, _, st fs hr, hrun, hended, _, _, rfl, ?_, ⟨_, rfl⟩, hW, hsame.mono hc hs⟩
  show Q v T.heap locs
  rw [eT]
  exact hQ
theorem finV (X : Stand p l e R s m args below meth c T locs cells slots) (hx : p.tables.exec = Jvm.exec) (hl : meth.locks = false) {Q : Option Value → Heap → List Loc → Prop} {rc rs pc : Nat} {Ls : Array Slot} {h : Heap} (hret : meth.sig.returnType = none) (hd : decode c.code pc = .ok (.return_, 1)) (hc : cells ≤ rc) (hs : slots ≤ rs) (eT : T.heap = h) (hQ : Q none h locs) : Run p.tables e below (PQ s below rc rs Q) (T.setTop (mkF m pc Ls [])) :=
  fin X hl (fun _ => rfl) hc hs eT hQ fun fs hr => X.returnOut hx hret hd hr
theorem finI (X : Stand p l e R s m args below meth c T locs cells slots) (hx : p.tables.exec = Jvm.exec) (hl : meth.locks = false) {Q : Option Value → Heap → List Loc → Prop} {rc rs pc : Nat} {Ls : Array Slot} {z : Int32} {rest : List Value} {h : Heap} (hret : meth.sig.returnType = some .int) (hd : decode c.code pc = .ok (.ireturn, 1)) (hc : cells ≤ rc) (hs : slots ≤ rs) (eT : T.heap = h) (hQ : Q (some (.int z)) h locs) : Run p.tables e below (PQ s below rc rs Q) (T.setTop (mkF m pc Ls (.int z :: rest))) :=
  fin X hl (fun q => by rw [hret] at q; cases q) hc hs eT hQ fun fs hr => retOut X hx hret rfl (Or.inl ⟨rfl, Or.inl rfl, _, rfl⟩) hd hr
theorem finZ (X : Stand p l e R s m args below meth c T locs cells slots) (hx : p.tables.exec = Jvm.exec) (hl : meth.locks = false) {Q : Option Value → Heap → List Loc → Prop} {rc rs pc : Nat} {Ls : Array Slot} {z : Int32} {rest : List Value} {h : Heap} (hret : meth.sig.returnType = some .boolean) (hd : decode c.code pc = .ok (.ireturn, 1)) (hz : z = 0 ∨ z = 1) (hc : cells ≤ rc) (hs : slots ≤ rs) (eT : T.heap = h) (hQ : Q (some (.int z)) h locs) : Run p.tables e below (PQ s below rc rs Q) (T.setTop (mkF m pc Ls (.int z :: rest))) :=
  fin X hl (fun q => by rw [hret] at q; cases q) hc hs eT hQ fun fs hr => retOut X hx hret (by rcases hz with rfl | rfl <;> rfl) (Or.inl ⟨rfl, Or.inr (Or.inl rfl), _, rfl⟩) hd hr
theorem finB (X : Stand p l e R s m args below meth c T locs cells slots) (hx : p.tables.exec = Jvm.exec) (hl : meth.locks = false) {Q : Option Value → Heap → List Loc → Prop} {rc rs pc : Nat} {Ls : Array Slot} {z : Int32} {rest : List Value} {h : Heap} (hret : meth.sig.returnType = some .byte) (hd : decode c.code pc = .ok (.ireturn, 1)) (hz : narrow .byte (.int z) = .int z) (hc : cells ≤ rc) (hs : slots ≤ rs) (eT : T.heap = h) (hQ : Q (some (.int z)) h locs) : Run p.tables e below (PQ s below rc rs Q) (T.setTop (mkF m pc Ls (.int z :: rest))) :=
  fin X hl (fun q => by rw [hret] at q; cases q) hc hs eT hQ fun fs hr => retOut X hx hret hz (Or.inl ⟨rfl, Or.inr (Or.inr (Or.inl rfl)), _, rfl⟩) hd hr
theorem finJ (X : Stand p l e R s m args below meth c T locs cells slots) (hx : p.tables.exec = Jvm.exec) (hl : meth.locks = false) {Q : Option Value → Heap → List Loc → Prop} {rc rs pc : Nat} {Ls : Array Slot} {z : Int64} {rest : List Value} {h : Heap} (hret : meth.sig.returnType = some .long) (hd : decode c.code pc = .ok (.lreturn, 1)) (hc : cells ≤ rc) (hs : slots ≤ rs) (eT : T.heap = h) (hQ : Q (some (.long z)) h locs) : Run p.tables e below (PQ s below rc rs Q) (T.setTop (mkF m pc Ls (.long z :: rest))) :=
  fin X hl (fun q => by rw [hret] at q; cases q) hc hs eT hQ fun fs hr => retOut X hx hret rfl (Or.inr (Or.inl ⟨rfl, rfl, _, rfl⟩)) hd hr
theorem finA (X : Stand p l e R s m args below meth c T locs cells slots) (hx : p.tables.exec = Jvm.exec) (hl : meth.locks = false) {Q : Option Value → Heap → List Loc → Prop} {rc rs pc : Nat} {Ls : Array Slot} {w : Value} {t : FieldType} {rest : List Value} {h : Heap} (hret : meth.sig.returnType = some t) (hd : decode c.code pc = .ok (.areturn, 1)) (ht : t.isReference = true) (hw : w.isRef = true) (hc : cells ≤ rc) (hs : slots ≤ rs) (eT : T.heap = h) (hQ : Q (some w) h locs) : Run p.tables e below (PQ s below rc rs Q) (T.setTop (mkF m pc Ls (w :: rest))) :=
  fin X hl (fun q => by rw [hret] at q; cases q) hc hs eT hQ fun fs hr => retOut X hx hret (by cases t <;> first | rfl | (cases w <;> first | rfl | cases ht)) (Or.inr (Or.inr (Or.inr (Or.inr ⟨rfl, ht, hw⟩)))) hd hr
/-- the same for a body that may load String constants -/
def PW (s : State) (below : List Frame) (rc rs : Nat) (Q : Option Value → Heap → List Loc → Prop) (s₂ : State) (o : Outcome) : Prop := s₂.status = .running ∧ Ended s₂ below o ∧ ∃ v L, o = .returned v ∧ Q v s₂.heap L ∧ ReturnedEndW s o s₂ L rc rs
theorem finW {vm : Vm} {n : Nat} (X : Stand p l e R (s.setVm vm) m args below meth c T locs cells slots) {A : State} {Q : Option Value → Heap → List Loc → Prop} {rc rs : Nat} {v : Option Value} {h : Heap} (hS : s.Since vm n) (hk : n ≤ h.size) (hl : meth.locks = false) (hv : meth.sig.returnType = none → v = none) (hc : cells ≤ rc) (hs : slots ≤ rs) (eT : T.heap = h) (hQ : Q v h locs)
    (st : ∀ fs, (∀ (f : JFrame) (acts : List Action), f.method = m → f.locked = none → f.entered = [] → (doReturn e (T.setTop f) acts v).1 = T.setFrames fs) → Steps p.tables e below A (T.setFrames fs)) : Run p.tables e below (PW s below rc rs Q) A := by
  obtain ⟨fs, hr, hrun, hended, hE⟩ := X.leaveW hS (by rw [eT]; exact hk) (v := v) hv hl
  refine ⟨_, _, st fs hr, hrun, hended, _, _, rfl, ?_, hE.1, hE.2.1, hE.2.2.1, hE.2.2.2.mono hc hs⟩
  show Q v T.heap locs
  rw [eT]
  exact hQ
theorem finVW {vm : Vm} {n : Nat} (X : Stand p l e R (s.setVm vm) m args below meth c T locs cells slots) (hx : p.tables.exec = Jvm.exec) {h : Heap} (hS : s.Since vm n) (hk : n ≤ h.size) (hl : meth.locks = false) {Q : Option Value → Heap → List Loc → Prop} {rc rs pc : Nat} {Ls : Array Slot} (hret : meth.sig.returnType = none) (hd : decode c.code pc = .ok (.return_, 1)) (hc : cells ≤ rc) (hs : slots ≤ rs) (eT : T.heap = h) (hQ : Q none h locs) : Run p.tables e below (PW s below rc rs Q) (T.setTop (mkF m pc Ls [])) :=
  finW X hS hk hl (fun _ => rfl) hc hs eT hQ fun fs hr => X.returnOut hx hret hd hr
theorem finIW {vm : Vm} {n : Nat} (X : Stand p l e R (s.setVm vm) m args below meth c T locs cells slots) (hx : p.tables.exec = Jvm.exec) {h : Heap} (hS : s.Since vm n) (hk : n ≤ h.size) (hl : meth.locks = false) {Q : Option Value → Heap → List Loc → Prop} {rc rs pc : Nat} {Ls : Array Slot} {z : Int32} {rest : List Value} (hret : meth.sig.returnType = some .int) (hd : decode c.code pc = .ok (.ireturn, 1)) (hc : cells ≤ rc) (hs : slots ≤ rs) (eT : T.heap = h) (hQ : Q (some (.int z)) h locs) : Run p.tables e below (PW s below rc rs Q) (T.setTop (mkF m pc Ls (.int z :: rest))) :=
  finW X hS hk hl (fun q => by rw [hret] at q; cases q) hc hs eT hQ fun fs hr => retOut X hx hret rfl (Or.inl ⟨rfl, Or.inl rfl, _, rfl⟩) hd hr
theorem finZW {vm : Vm} {n : Nat} (X : Stand p l e R (s.setVm vm) m args below meth c T locs cells slots) (hx : p.tables.exec = Jvm.exec) {h : Heap} (hS : s.Since vm n) (hk : n ≤ h.size) (hl : meth.locks = false) {Q : Option Value → Heap → List Loc → Prop} {rc rs pc : Nat} {Ls : Array Slot} {z : Int32} {rest : List Value} (hret : meth.sig.returnType = some .boolean) (hd : decode c.code pc = .ok (.ireturn, 1)) (hz : z = 0 ∨ z = 1) (hc : cells ≤ rc) (hs : slots ≤ rs) (eT : T.heap = h) (hQ : Q (some (.int z)) h locs) : Run p.tables e below (PW s below rc rs Q) (T.setTop (mkF m pc Ls (.int z :: rest))) :=
  finW X hS hk hl (fun q => by rw [hret] at q; cases q) hc hs eT hQ fun fs hr => retOut X hx hret (by rcases hz with rfl | rfl <;> rfl) (Or.inl ⟨rfl, Or.inr (Or.inl rfl), _, rfl⟩) hd hr
theorem finBW {vm : Vm} {n : Nat} (X : Stand p l e R (s.setVm vm) m args below meth c T locs cells slots) (hx : p.tables.exec = Jvm.exec) {h : Heap} (hS : s.Since vm n) (hk : n ≤ h.size) (hl : meth.locks = false) {Q : Option Value → Heap → List Loc → Prop} {rc rs pc : Nat} {Ls : Array Slot} {z : Int32} {rest : List Value} (hret : meth.sig.returnType = some .byte) (hd : decode c.code pc = .ok (.ireturn, 1)) (hz : narrow .byte (.int z) = .int z) (hc : cells ≤ rc) (hs : slots ≤ rs) (eT : T.heap = h) (hQ : Q (some (.int z)) h locs) : Run p.tables e below (PW s below rc rs Q) (T.setTop (mkF m pc Ls (.int z :: rest))) :=
  finW X hS hk hl (fun q => by rw [hret] at q; cases q) hc hs eT hQ fun fs hr => retOut X hx hret hz (Or.inl ⟨rfl, Or.inr (Or.inr (Or.inl rfl)), _, rfl⟩) hd hr
theorem finJW {vm : Vm} {n : Nat} (X : Stand p l e R (s.setVm vm) m args below meth c T locs cells slots) (hx : p.tables.exec = Jvm.exec) {h : Heap} (hS : s.Since vm n) (hk : n ≤ h.size) (hl : meth.locks = false) {Q : Option Value → Heap → List Loc → Prop} {rc rs pc : Nat} {Ls : Array Slot} {z : Int64} {rest : List Value} (hret : meth.sig.returnType = some .long) (hd : decode c.code pc = .ok (.lreturn, 1)) (hc : cells ≤ rc) (hs : slots ≤ rs) (eT : T.heap = h) (hQ : Q (some (.long z)) h locs) : Run p.tables e below (PW s below rc rs Q) (T.setTop (mkF m pc Ls (.long z :: rest))) :=
  finW X hS hk hl (fun q => by rw [hret] at q; cases q) hc hs eT hQ fun fs hr => retOut X hx hret rfl (Or.inr (Or.inl ⟨rfl, rfl, _, rfl⟩)) hd hr
theorem finAW {vm : Vm} {n : Nat} (X : Stand p l e R (s.setVm vm) m args below meth c T locs cells slots) (hx : p.tables.exec = Jvm.exec) {h : Heap} (hS : s.Since vm n) (hk : n ≤ h.size) (hl : meth.locks = false) {Q : Option Value → Heap → List Loc → Prop} {rc rs pc : Nat} {Ls : Array Slot} {w : Value} {t : FieldType} {rest : List Value} (hret : meth.sig.returnType = some t) (hd : decode c.code pc = .ok (.areturn, 1)) (ht : t.isReference = true) (hw : w.isRef = true) (hc : cells ≤ rc) (hs : slots ≤ rs) (eT : T.heap = h) (hQ : Q (some w) h locs) : Run p.tables e below (PW s below rc rs Q) (T.setTop (mkF m pc Ls (w :: rest))) :=
  finW X hS hk hl (fun q => by rw [hret] at q; cases q) hc hs eT hQ fun fs hr => retOut X hx hret (by cases t <;> first | rfl | (cases w <;> first | rfl | cases ht)) (Or.inr (Or.inr (Or.inr (Or.inr ⟨rfl, ht, hw⟩)))) hd hr
theorem own_lrem {g : JFrame} {target : State} (X : Stand p l e R s m args below meth c T locs cells slots) (hx : p.tables.exec = Jvm.exec) (hg : g.method = m) {x y : Int64} {rest : List Value} (hd : decode c.code g.pc = .ok (.lrem, 1)) (hs : g.stack = .long y :: .long x :: rest) (hy : y ≠ 0)
    (hr : Steps p.tables e below (T.setTop { g with pc := g.pc + 1, stack := .long (x % y) :: rest }) target) : Steps p.tables e below (T.setTop g) target :=
  XS.lrem X.here hx hg hd hs hy (by rw [lrem_mod]; exact hr)
end Walks
end Jvm.OwnW
namespace Jvm.Pilot.@@N@@
open Jvm Jvm.ClassFile Sem Op Lib Jvm.Free Jvm.Stand Jvm.LawKit Jvm.RoadKit Jvm.OwnW Bundle Jvm.Pilot.@@N@@.Jvm.D
theorem own_wS {a0 : Array Value} {Z : State} (hw : ∀ d ∈ tables_1, d.before a0 Z = true) : ∀ a ∈ Bundle.stringAtoms, a.before a0 Z = true := by
  intro a ha
  simp only [Bundle.stringAtoms, List.mem_cons, List.not_mem_nil, or_false] at ha
  rcases ha with rfl | rfl | rfl | rfl | rfl | rfl | rfl
  · exact hw _ (List.mem_of_getElem? (i := 12) rfl)
  · exact hw _ (List.mem_of_getElem? (i := 13) rfl)
  · exact hw _ (List.mem_of_getElem? (i := 14) rfl)
  · exact hw _ (List.mem_of_getElem? (i := 15) rfl)
  · exact hw _ (List.mem_of_getElem? (i := 16) rfl)
  · exact hw _ (List.mem_of_getElem? (i := 17) rfl)
  · exact hw _ (List.mem_of_getElem? (i := 18) rfl)
theorem own_nb {x : Int32} (h : x = 0 ∨ x = 1) : narrow .boolean (.int x) = .int x := by rcases h with rfl | rfl <;> rfl
theorem own_fb {x : Int32} (h : x = 0 ∨ x = 1) : fits .boolean (.int x) = true := by rcases h with rfl | rfl <;> rfl
theorem own_255 (x : Int32) : ¬ (x &&& (255 : Int32)) < 0 ∧ ¬ (255 : Int32) < (x &&& (255 : Int32)) := by
  have h := c_and x 255 (by decide)
  have e : (255 : Int32).toInt = 255 := by decide
  have e0 : (0 : Int32).toInt = 0 := by decide
  refine ⟨fun q => ?_, fun q => ?_⟩
  · have := Int32.lt_iff_toInt_lt.mp q
    omega
  · have := Int32.lt_iff_toInt_lt.mp q
    omega
theorem own_short (x : Int32) : ¬ (x.toInt16.toInt32) < (-32768 : Int32) ∧ ¬ (32767 : Int32) < (x.toInt16.toInt32) := by
  have h := c_i2s x
  have e : (32767 : Int32).toInt = 32767 := by decide
  have e0 : (-32768 : Int32).toInt = -32768 := by decide
  refine ⟨fun q => ?_, fun q => ?_⟩
  · have := Int32.lt_iff_toInt_lt.mp q
    omega
  · have := Int32.lt_iff_toInt_lt.mp q
    omega
theorem own_body (x : Int32) : ¬ ((x &&& (2147483647 : Int32)) % (268435448 : Int32)) < 0 ∧ ¬ (268435447 : Int32) < ((x &&& (2147483647 : Int32)) % (268435448 : Int32)) := by
  have h := c_and x 2147483647 (by decide)
  have r := (c_irem (x &&& 2147483647) 268435448 268435448 (by decide)).1 h.1
  have e : (268435447 : Int32).toInt = 268435447 := by decide
  have e0 : (0 : Int32).toInt = 0 := by decide
  refine ⟨fun q => ?_, fun q => ?_⟩
  · have := Int32.lt_iff_toInt_lt.mp q
    omega
  · have := Int32.lt_iff_toInt_lt.mp q
    omega
theorem own_abs (f m : Int32) : (f &&& m) = m ↔ (f ||| m) = f := by
  rw [← Int32.toBitVec_inj, ← Int32.toBitVec_inj, Int32.toBitVec_and, Int32.toBitVec_or]
  constructor
  · intro h
    apply BitVec.eq_of_getLsbD_eq
    intro i hi
    have g := congrArg (fun v => v.getLsbD i) h
    simp only [BitVec.getLsbD_and, BitVec.getLsbD_or] at g ⊢
    revert g
    cases f.toBitVec.getLsbD i <;> cases m.toBitVec.getLsbD i <;> simp
  · intro h
    apply BitVec.eq_of_getLsbD_eq
    intro i hi
    have g := congrArg (fun v => v.getLsbD i) h
    simp only [BitVec.getLsbD_and, BitVec.getLsbD_or] at g ⊢
    revert g
    cases f.toBitVec.getLsbD i <;> cases m.toBitVec.getLsbD i <;> simp
theorem own_two (f a b : Int32) : (f &&& (a ||| b)) = (a ||| b) ↔ (f &&& a) = a ∧ (f &&& b) = b := by
  rw [← Int32.toBitVec_inj, ← Int32.toBitVec_inj, ← Int32.toBitVec_inj, Int32.toBitVec_and, Int32.toBitVec_and, Int32.toBitVec_and, Int32.toBitVec_or]
  constructor
  · intro h
    refine ⟨?_, ?_⟩ <;>
    · apply BitVec.eq_of_getLsbD_eq
      intro i hi
      have g := congrArg (fun v => v.getLsbD i) h
      simp only [BitVec.getLsbD_and, BitVec.getLsbD_or] at g ⊢
      revert g
      cases f.toBitVec.getLsbD i <;> cases a.toBitVec.getLsbD i <;> cases b.toBitVec.getLsbD i <;> simp
  · rintro ⟨h1, h2⟩
    apply BitVec.eq_of_getLsbD_eq
    intro i hi
    have g1 := congrArg (fun v => v.getLsbD i) h1
    have g2 := congrArg (fun v => v.getLsbD i) h2
    simp only [BitVec.getLsbD_and, BitVec.getLsbD_or] at g1 g2 ⊢
    revert g1 g2
    cases f.toBitVec.getLsbD i <;> cases a.toBitVec.getLsbD i <;> cases b.toBitVec.getLsbD i <;> simp
def own_bitP (f b : Int32) : Bool := decide ((f &&& ((1 : Int32) <<< (b &&& 31))) = ((1 : Int32) <<< (b &&& 31))) == decide ((((f.toUInt32 >>> (b &&& 31).toUInt32).toInt32) &&& (1 : Int32)) = 1)
theorem own_bits : ∀ n : Fin 256, ∀ k : Fin 8, own_bitP (Int32.ofNat n.val) (Int32.ofNat k.val) = true := by decide +kernel
theorem own_byte (x m : Int32) (M : Nat) (hM : M < 2 ^ 31) (hm : m.toInt = M) : ∃ n : Fin (M + 1), (x &&& m) = Int32.ofNat n.val := by
  have h := c_and x m (by omega)
  refine ⟨⟨(x &&& m).toInt.toNat, by omega⟩, Int32.toInt_inj.mp ?_⟩
  rw [Int32.toInt_ofNat_of_lt (by show (x &&& m).toInt.toNat < 2 ^ 31; omega)]
  show (x &&& m).toInt = ((x &&& m).toInt.toNat : Int)
  omega
theorem own_bit (p q : Int32) : ((p &&& (255 : Int32)) &&& ((1 : Int32) <<< ((q &&& (7 : Int32)) &&& 31))) = ((1 : Int32) <<< ((q &&& (7 : Int32)) &&& 31)) ↔ (((((p &&& (255 : Int32)).toUInt32 >>> ((q &&& (7 : Int32)) &&& 31).toUInt32).toInt32) &&& (1 : Int32)) = 1) := by
  obtain ⟨n, hn⟩ := own_byte p 255 255 (by decide) (by decide)
  obtain ⟨k, hk⟩ := own_byte q 7 7 (by decide) (by decide)
  rw [hn, hk]
  have h := own_bits n k
  unfold own_bitP at h
  have h' := eq_of_beq h
  exact decide_eq_decide.mp h'
theorem own_fin (f a b rf sr : Int32) (X : Prop) [Decidable X] (h1 : rf = if (f ||| a) = f then 1 else 0) (h2 : sr = if X then 1 else 0) (hX : (f &&& b) = b ↔ X) : (if (f &&& (a ||| b)) = (a ||| b) then (1 : Int32) else 0) = if rf = 0 then 0 else if sr = 0 then 0 else 1 := by
  have t := own_two f a b
  have u := own_abs f a
  by_cases x : (f ||| a) = f
  · rw [if_pos x] at h1
    have x' := u.mpr x
    by_cases y : X
    · rw [if_pos y] at h2
      rw [if_pos (t.mpr ⟨x', hX.mpr y⟩), h1, h2]; decide
    · rw [if_neg y] at h2
      rw [if_neg (fun q => y (hX.mp (t.mp q).2)), h1, h2]; decide
  · rw [if_neg x] at h1
    rw [if_neg (fun q => x (u.mp (t.mp q).1)), h1]; exact (if_pos rfl).symm
theorem pn_com_example_hashspace_hashspace_protocol_FrameHeader : plainName "com/example/hashspace/hashspace/protocol/FrameHeader" = true := by first | (simp [plainName, overriddenIn]; done) | decide +kernel
theorem d3_0 : decode prog_41_method_12_code 0 = .ok (.iload_n 1, 1) := by decide +kernel
theorem d3_1 : decode prog_41_method_12_code 1 = .ok (.iload_n 2, 1) := by decide +kernel
theorem d3_2 : decode prog_41_method_12_code 2 = .ok (.if_icmp .lt 8, 3) := by decide +kernel
theorem d3_5 : decode prog_41_method_12_code 5 = .ok (.iload_n 1, 1) := by decide +kernel
theorem d3_6 : decode prog_41_method_12_code 6 = .ok (.iload_n 3, 1) := by decide +kernel
theorem d3_7 : decode prog_41_method_12_code 7 = .ok (.if_icmp .le 20, 3) := by decide +kernel
theorem d3_27 : decode prog_41_method_12_code 27 = .ok (.return_, 1) := by decide +kernel
theorem ef_3 (m : MethodId) (x0 : Addr) (x1 : Int32) (x2 : Int32) (x3 : Int32) : entryFrame m #[(.ref x0), (.int x1), (.int x2), (.int x3)] 4 = mkF m 0 #[.val (.ref x0), .val (.int x1), .val (.int x2), .val (.int x3)] [] := by first | (simp [entryFrame, mkF, argsToLocals, Value.category, maxLocals]; done) | rfl
def Q3 (Z : State) (a1 : Addr) (x : Int32) (lo : Int32) (hi : Int32) (h0 : Heap) (n0 : Nat) (v : Option Value) (h : Heap) (L : List Loc) : Prop := v = none ∧ Fr n0 L ∧ h = h0
set_option maxRecDepth 65536 in
set_option maxHeartbeats 40000000 in
theorem rm3 (l : Launch) (Z : State) (a0 : Array Value) (hw : ∀ d ∈ tables_1, d.before a0 Z = true) (ws : List Jvm.Cond) (a1 : Addr) (x : Int32) (lo : Int32) (hi : Int32) (h0 : Heap) (n0 : Nat) (Z0 : n0 ≤ h0.size) (h1 : ¬ (x < lo)) (h2 : ¬ (hi < x)) :
    MetFree l (⟨"com/example/hashspace/hashspace/protocol/FrameHeader", "checkRange", "(Ljava/lang/String;III)V"⟩ : MethodName) (head1 (Jvm.Cond.code (⟨"com/example/hashspace/hashspace/protocol/FrameHeader", "checkRange", "(Ljava/lang/String;III)V"⟩ : MethodName) prog_41_method_12_code 4 none :: ws) ({ frames := 0, cells := 0, slots := 0, locals := 0 } : Room)) (fun a U => a = #[(.ref a1), (.int x), (.int lo), (.int hi)] ∧ Z.Warmed39 U.vm ∧ U.heap = h0) (fun _ _ _ _ _ => True) (fun _ U o U' => ∃ v L, o = .returned v ∧ Q3 Z a1 x lo hi h0 n0 v U'.heap L ∧ FrameEnd U o U' L ({ frames := 0, cells := 0, slots := 0, locals := 0 } : Room).cells ({ frames := 0, cells := 0, slots := 0, locals := 0 } : Room).slots) := by
  refine MetFree.of_bodySF (plainFor_of_name pn_com_example_hashspace_hashspace_protocol_FrameHeader) hisR ?_
  intro p e s m args below meth c s₁ Bd hml0 hP hK
  obtain ⟨rfl, hZ, hh⟩ := hP
  have hx := Bd.exec
  have hby := Bd.bytes
  have hml : c.maxLocals = 4 := hml0
  have hown : s.vm.findClass "com/example/hashspace/hashspace/protocol/FrameHeader" = some m.cls := findClass_of_methodNamed Bd.named
  have hnm := (name_of_methodNamed Bd.named Bd.method).1
  have X0 : Stand p l e ({ frames := 0, cells := 0, slots := 0, locals := 0 } : Room) s m #[(.ref a1), (.int x), (.int lo), (.int hi)] below meth c s₁ [] 0 0 := Stand.of_body Bd
  have e0 : s₁.heap = h0 := by rw [← hh, Bd.state]; rfl
  have N0 := Fr.nil n0
  show Run p.tables e below (PQ s below 0 0 (Q3 Z a1 x lo hi h0 n0)) (s₁.setTop (entryFrame m #[(.ref a1), (.int x), (.int lo), (.int hi)] 4))
  refine Run.step (fun t k => castTop (ef_3 m a1 x lo hi) k) ?_
  show Run _ _ _ _ (s₁.setTop (mkF m 0 #[.val (.ref a1), .val (.int x), .val (.int lo), .val (.int hi)] []))
  refine Run.step (fun t_ k_ => XS.iloadN X0.here hx rfl (hb hby d3_0) rfl k_) ?_
  show Run _ _ _ _ (s₁.setTop (mkF m 1 #[.val (.ref a1), .val (.int x), .val (.int lo), .val (.int hi)] [(.int x)]))
  refine Run.step (fun t_ k_ => XS.iloadN X0.here hx rfl (hb hby d3_1) rfl k_) ?_
  show Run _ _ _ _ (s₁.setTop (mkF m 2 #[.val (.ref a1), .val (.int x), .val (.int lo), .val (.int hi)] [(.int lo), (.int x)]))
  refine Run.step (fun t_ k_ => XS.icmpNo X0.here hx rfl (hb hby d3_2) rfl (XT.ii_lt_f (h1 : ¬ (x < lo))) k_) ?_
  show Run _ _ _ _ (s₁.setTop (mkF m 5 #[.val (.ref a1), .val (.int x), .val (.int lo), .val (.int hi)] []))
  refine Run.step (fun t_ k_ => XS.iloadN X0.here hx rfl (hb hby d3_5) rfl k_) ?_
  show Run _ _ _ _ (s₁.setTop (mkF m 6 #[.val (.ref a1), .val (.int x), .val (.int lo), .val (.int hi)] [(.int x)]))
  refine Run.step (fun t_ k_ => XS.iloadN X0.here hx rfl (hb hby d3_6) rfl k_) ?_
  show Run _ _ _ _ (s₁.setTop (mkF m 7 #[.val (.ref a1), .val (.int x), .val (.int lo), .val (.int hi)] [(.int hi), (.int x)]))
  refine Run.step (fun t_ k_ => XS.icmpYes X0.here hx rfl (pc0 := 7) (pc' := 27) rfl (hb hby d3_7) rfl (XT.ii_le_t (h2 : ¬ (hi < x))) (by decide) (by decide) k_) ?_
  show Run _ _ _ _ (s₁.setTop (mkF m 27 #[.val (.ref a1), .val (.int x), .val (.int lo), .val (.int hi)] []))
  exact finV X0 hx (BodyLoose.notSynchronized Bd) Bd.returns (hb hby d3_27) (by decide) (by decide) e0 ⟨rfl, N0, rfl⟩
theorem d1_0 : decode prog_41_method_1_code 0 = .ok (.aload_n 0, 1) := by decide +kernel
theorem d1_1 : decode prog_41_method_1_code 1 = .ok (.invokespecial 3, 3) := by decide +kernel
theorem d1_4 : decode prog_41_method_1_code 4 = .ok (.ldc 9, 2) := by decide +kernel
theorem d1_6 : decode prog_41_method_1_code 6 = .ok (.iload_n 2, 1) := by decide +kernel
theorem d1_7 : decode prog_41_method_1_code 7 = .ok (.iconst 0, 1) := by decide +kernel
theorem d1_8 : decode prog_41_method_1_code 8 = .ok (.sipush 255, 3) := by decide +kernel
theorem d1_11 : decode prog_41_method_1_code 11 = .ok (.invokestatic 11, 3) := by decide +kernel
theorem pd__28Ljava_2flang_2fString_3bIII_29V : parseMethodDescriptor "(Ljava/lang/String;III)V" = some ⟨[(.object "java/lang/String"), .int, .int, .int], none⟩ := by decide +kernel
theorem d1_14 : decode prog_41_method_1_code 14 = .ok (.ldc 15, 2) := by decide +kernel
theorem d1_16 : decode prog_41_method_1_code 16 = .ok (.iload_n 3, 1) := by decide +kernel
theorem d1_17 : decode prog_41_method_1_code 17 = .ok (.sipush (-32768), 3) := by decide +kernel
theorem d1_20 : decode prog_41_method_1_code 20 = .ok (.sipush 32767, 3) := by decide +kernel
theorem d1_23 : decode prog_41_method_1_code 23 = .ok (.invokestatic 11, 3) := by decide +kernel
theorem d1_26 : decode prog_41_method_1_code 26 = .ok (.ldc 19, 2) := by decide +kernel
theorem d1_28 : decode prog_41_method_1_code 28 = .ok (.iload 4, 2) := by decide +kernel
theorem d1_30 : decode prog_41_method_1_code 30 = .ok (.iconst 0, 1) := by decide +kernel
theorem d1_31 : decode prog_41_method_1_code 31 = .ok (.sipush 255, 3) := by decide +kernel
theorem d1_34 : decode prog_41_method_1_code 34 = .ok (.invokestatic 11, 3) := by decide +kernel
theorem d1_37 : decode prog_41_method_1_code 37 = .ok (.ldc 21, 2) := by decide +kernel
theorem d1_39 : decode prog_41_method_1_code 39 = .ok (.iload 5, 2) := by decide +kernel
theorem d1_41 : decode prog_41_method_1_code 41 = .ok (.iconst 0, 1) := by decide +kernel
theorem d1_42 : decode prog_41_method_1_code 42 = .ok (.ldc 23, 2) := by decide +kernel
theorem d1_44 : decode prog_41_method_1_code 44 = .ok (.invokestatic 11, 3) := by decide +kernel
theorem d1_47 : decode prog_41_method_1_code 47 = .ok (.aload_n 0, 1) := by decide +kernel
theorem d1_48 : decode prog_41_method_1_code 48 = .ok (.iload_n 1, 1) := by decide +kernel
theorem d1_49 : decode prog_41_method_1_code 49 = .ok (.putfield 24, 3) := by decide +kernel
theorem d1_52 : decode prog_41_method_1_code 52 = .ok (.aload_n 0, 1) := by decide +kernel
theorem d1_53 : decode prog_41_method_1_code 53 = .ok (.iload_n 2, 1) := by decide +kernel
theorem d1_54 : decode prog_41_method_1_code 54 = .ok (.putfield 28, 3) := by decide +kernel
theorem d1_57 : decode prog_41_method_1_code 57 = .ok (.aload_n 0, 1) := by decide +kernel
theorem d1_58 : decode prog_41_method_1_code 58 = .ok (.iload_n 3, 1) := by decide +kernel
theorem d1_59 : decode prog_41_method_1_code 59 = .ok (.putfield 31, 3) := by decide +kernel
theorem d1_62 : decode prog_41_method_1_code 62 = .ok (.aload_n 0, 1) := by decide +kernel
theorem d1_63 : decode prog_41_method_1_code 63 = .ok (.iload 4, 2) := by decide +kernel
theorem d1_65 : decode prog_41_method_1_code 65 = .ok (.putfield 33, 3) := by decide +kernel
theorem d1_68 : decode prog_41_method_1_code 68 = .ok (.aload_n 0, 1) := by decide +kernel
theorem d1_69 : decode prog_41_method_1_code 69 = .ok (.iload 5, 2) := by decide +kernel
theorem d1_71 : decode prog_41_method_1_code 71 = .ok (.putfield 35, 3) := by decide +kernel
theorem d1_74 : decode prog_41_method_1_code 74 = .ok (.return_, 1) := by decide +kernel
theorem ef_1 (m : MethodId) (x0 : Addr) (x1 : Int32) (x2 : Int32) (x3 : Int32) (x4 : Int32) (x5 : Int32) : entryFrame m #[(.ref x0), (.int x1), (.int x2), (.int x3), (.int x4), (.int x5)] 6 = mkF m 0 #[.val (.ref x0), .val (.int x1), .val (.int x2), .val (.int x3), .val (.int x4), .val (.int x5)] [] := by first | (simp [entryFrame, mkF, argsToLocals, Value.category, maxLocals]; done) | rfl
def Q1 (Z : State) (a1 : Addr) (rs : Int32) (fl : Int32) (sm : Int32) (oc : Int32) (bd : Int32) (h0 : Heap) (n0 : Nat) (v : Option Value) (h : Heap) (L : List Loc) : Prop := v = none ∧ Fr n0 L ∧ Keep h0 h [a1] ∧ Fld Z h a1 "com/example/hashspace/hashspace/protocol/FrameHeader" "flags" "I" (.int fl)
set_option maxRecDepth 65536 in
set_option maxHeartbeats 40000000 in
theorem rm1 (l : Launch) (Z : State) (a0 : Array Value) (hw : ∀ d ∈ tables_1, d.before a0 Z = true) (ws : List Jvm.Cond) (a1 : Addr) (rs : Int32) (fl : Int32) (sm : Int32) (oc : Int32) (bd : Int32) (h0 : Heap) (n0 : Nat) (Z0 : n0 ≤ h0.size) (h01 : rs = 0 ∨ rs = 1) (u1 : ¬ (fl < (0 : Int32))) (u2 : ¬ ((255 : Int32) < fl)) (u3 : ¬ (sm < (-32768 : Int32))) (u4 : ¬ ((32767 : Int32) < sm)) (u5 : ¬ (oc < (0 : Int32))) (u6 : ¬ ((255 : Int32) < oc)) (u7 : ¬ (bd < (0 : Int32))) (u8 : ¬ ((268435447 : Int32) < bd)) (F_response : Fld Z h0 a1 "com/example/hashspace/hashspace/protocol/FrameHeader" "response" "Z" (.int (0 : Int32))) (F_flags : Fld Z h0 a1 "com/example/hashspace/hashspace/protocol/FrameHeader" "flags" "I" (.int (0 : Int32))) (F_stream : Fld Z h0 a1 "com/example/hashspace/hashspace/protocol/FrameHeader" "stream" "I" (.int (0 : Int32))) (F_opcode : Fld Z h0 a1 "com/example/hashspace/hashspace/protocol/FrameHeader" "opcode" "I" (.int (0 : Int32))) (F_bodyLength : Fld Z h0 a1 "com/example/hashspace/hashspace/protocol/FrameHeader" "bodyLength" "I" (.int (0 : Int32))) (E1 : Exa Z h0 a1 "com/example/hashspace/hashspace/protocol/FrameHeader") (g1 : n0 ≤ a1) :
    MetFree l (⟨"com/example/hashspace/hashspace/protocol/FrameHeader", "<init>", "(ZIIII)V"⟩ : MethodName) (head1 (Jvm.Cond.code (⟨"com/example/hashspace/hashspace/protocol/FrameHeader", "<init>", "(ZIIII)V"⟩ : MethodName) prog_41_method_1_code 6 none :: ws) ({ frames := 1, cells := 8, slots := 128, locals := 15 } : Room)) (fun a U => a = #[(.ref a1), (.int rs), (.int fl), (.int sm), (.int oc), (.int bd)] ∧ Z.Warmed39 U.vm ∧ U.heap = h0) (fun _ _ _ _ _ => True) (fun _ U o U' => ∃ v L, o = .returned v ∧ Q1 Z a1 rs fl sm oc bd h0 n0 v U'.heap L ∧ ReturnedEndW U o U' L ({ frames := 1, cells := 8, slots := 128, locals := 15 } : Room).cells ({ frames := 1, cells := 8, slots := 128, locals := 15 } : Room).slots) := by
  refine MetFree.of_bodySF (plainFor_of_name pn_com_example_hashspace_hashspace_protocol_FrameHeader) hisR ?_
  intro p e s m args below meth c s₁ Bd hml0 hP hK
  obtain ⟨rfl, hZ, hh⟩ := hP
  have hx := Bd.exec
  have hby := Bd.bytes
  have w3 := hw _ (List.mem_of_getElem? (i := 3) rfl)
  have w4 := hw _ (List.mem_of_getElem? (i := 4) rfl)
  have w8 := hw _ (List.mem_of_getElem? (i := 8) rfl)
  have w9 := hw _ (List.mem_of_getElem? (i := 9) rfl)
  have w10 := hw _ (List.mem_of_getElem? (i := 10) rfl)
  have w11 := hw _ (List.mem_of_getElem? (i := 11) rfl)
  have w19 := hw _ (List.mem_of_getElem? (i := 19) rfl)
  have w20 := hw _ (List.mem_of_getElem? (i := 20) rfl)
  have w21 := hw _ (List.mem_of_getElem? (i := 21) rfl)
  have w22 := hw _ (List.mem_of_getElem? (i := 22) rfl)
  have w23 := hw _ (List.mem_of_getElem? (i := 23) rfl)
  have w24 := hw _ (List.mem_of_getElem? (i := 24) rfl)
  have w25 := hw _ (List.mem_of_getElem? (i := 25) rfl)
  have w26 := hw _ (List.mem_of_getElem? (i := 26) rfl)
  have w27 := hw _ (List.mem_of_getElem? (i := 27) rfl)
  have w28 := hw _ (List.mem_of_getElem? (i := 28) rfl)
  have w29 := hw _ (List.mem_of_getElem? (i := 29) rfl)
  have w30 := hw _ (List.mem_of_getElem? (i := 30) rfl)
  have w31 := hw _ (List.mem_of_getElem? (i := 31) rfl)
  have w32 := hw _ (List.mem_of_getElem? (i := 32) rfl)
  have w33 := hw _ (List.mem_of_getElem? (i := 33) rfl)
  have w34 := hw _ (List.mem_of_getElem? (i := 34) rfl)
  have w35 := hw _ (List.mem_of_getElem? (i := 35) rfl)
  have hml : c.maxLocals = 6 := hml0
  have hown : s.vm.findClass "com/example/hashspace/hashspace/protocol/FrameHeader" = some m.cls := findClass_of_methodNamed Bd.named
  have hnm := (name_of_methodNamed Bd.named Bd.method).1
  have hS0 : s.Since s.vm 0 := (State.WarmedH.refl s).since 0
  have X0 : Stand p l e ({ frames := 1, cells := 8, slots := 128, locals := 15 } : Room) (s.setVm s.vm) m #[(.ref a1), (.int rs), (.int fl), (.int sm), (.int oc), (.int bd)] below meth c s₁ [] 0 0 := Stand.of_body Bd
  have e0 : s₁.heap = h0 := by rw [← hh, Bd.state]; rfl
  have N0 := Fr.nil n0
  show Run p.tables e below (PW s below 8 128 (Q1 Z a1 rs fl sm oc bd h0 n0)) (s₁.setTop (entryFrame m #[(.ref a1), (.int rs), (.int fl), (.int sm), (.int oc), (.int bd)] 6))
  refine Run.step (fun t k => castTop (ef_1 m a1 rs fl sm oc bd) k) ?_
  show Run _ _ _ _ (s₁.setTop (mkF m 0 #[.val (.ref a1), .val (.int rs), .val (.int fl), .val (.int sm), .val (.int oc), .val (.int bd)] []))
  refine Run.step (fun t_ k_ => XS.aloadN X0.here hx rfl (hb hby d1_0) rfl rfl k_) ?_
  show Run _ _ _ _ (s₁.setTop (mkF m 1 #[.val (.ref a1), .val (.int rs), .val (.int fl), .val (.int sm), .val (.int oc), .val (.int bd)] [(.ref a1)]))
  obtain ⟨T1, X1, e1, st1⟩ := initO X0 hx hZ hown w8 w9 w10 e0 (g := (mkF m 1 #[.val (.ref a1), .val (.int rs), .val (.int fl), .val (.int sm), .val (.int oc), .val (.int bd)] [(.ref a1)])) rfl (by rw [hml]; rfl) rfl (hb hby d1_1) (by decide) (W := 0) (by show 2 * 0 + _ ≤ _; exact Nat.le_of_eq rfl) (by decide)
  refine Run.step st1 ?_
  show Run _ _ _ _ (T1.setTop (mkF m 4 #[.val (.ref a1), .val (.int rs), .val (.int fl), .val (.int sm), .val (.int oc), .val (.int bd)] []))
  obtain ⟨a2, T2, h2, k2, X2, e2, E2, hS2, hk2, hZ, hown, st2⟩ := ldcS (s := s) X1 hx hZ hown w11 (own_wS hw) e1 hS0 (Nat.zero_le _) (g := (mkF m 4 #[.val (.ref a1), .val (.int rs), .val (.int fl), .val (.int sm), .val (.int oc), .val (.int bd)] [])) rfl (hb hby d1_4) (n := 20) (by decide) (by decide) (by decide) (by decide)
  refine Run.step st2 ?_
  have f3 := F_response.ext E2
  have f4 := F_flags.ext E2
  have f5 := F_stream.ext E2
  have f6 := F_opcode.ext E2
  have f7 := F_bodyLength.ext E2
  have f8 := E1.ext E2
  have z9 := Nat.le_trans Z0 E2.1
  have K10 := (Keep.refl h0 [a1]).ext E2
  show Run _ _ _ _ (T2.setTop (mkF m 6 #[.val (.ref a1), .val (.int rs), .val (.int fl), .val (.int sm), .val (.int oc), .val (.int bd)] [(.ref a2)]))
  refine Run.step (fun t_ k_ => XS.iloadN X2.here hx rfl (hb hby d1_6) rfl k_) ?_
  show Run _ _ _ _ (T2.setTop (mkF m 7 #[.val (.ref a1), .val (.int rs), .val (.int fl), .val (.int sm), .val (.int oc), .val (.int bd)] [(.int fl), (.ref a2)]))
  refine Run.step (fun t_ k_ => XS.iconst X2.here hx rfl (hb hby d1_7) k_) ?_
  show Run _ _ _ _ (T2.setTop (mkF m 8 #[.val (.ref a1), .val (.int rs), .val (.int fl), .val (.int sm), .val (.int oc), .val (.int bd)] [(.int (0 : Int32)), (.int fl), (.ref a2)]))
  refine Run.step (fun t_ k_ => XS.sipush X2.here hx rfl (hb hby d1_8) k_) ?_
  show Run _ _ _ _ (T2.setTop (mkF m 11 #[.val (.ref a1), .val (.int rs), .val (.int fl), .val (.int sm), .val (.int oc), .val (.int bd)] [(.int (255 : Int32)), (.int (0 : Int32)), (.int fl), (.ref a2)]))
  obtain ⟨_, _, ⟨T11, L11, k11, n11⟩, -, X11, ⟨Lc11, hQ11, l11, y11, z11⟩, st11⟩ := Jvm.LawKit.callS X2 hx (y := (⟨"com/example/hashspace/hashspace/protocol/FrameHeader", "checkRange", "(Ljava/lang/String;III)V"⟩ : MethodName)) hown (mvT hZ w19) (mvT hZ w20) (mvT hZ w4) (mvT hZ w21) (by decide) (backOf (W := 0) (rm3 l Z a0 hw [] a2 fl (0 : Int32) (255 : Int32) h2 n0 z9 u1 u2) hZ w21 w4 (by decide) (by decide)) (g := (mkF m 11 #[.val (.ref a1), .val (.int rs), .val (.int fl), .val (.int sm), .val (.int oc), .val (.int bd)] [(.int (255 : Int32)), (.int (0 : Int32)), (.int fl), (.ref a2)])) rfl (by rw [hml]; rfl) (argsL := [(.ref a2), (.int fl), (.int (0 : Int32)), (.int (255 : Int32))]) (rest := []) (lenOf pd__28Ljava_2flang_2fString_3bIII_29V rfl) rfl (by show 2 * 0 + _ ≤ _; exact Nat.le_of_eq rfl) (hb hby d1_11) (fun _ _ => ⟨rfl, e2, (by decide : 2 + 0 ≤ _), (by decide : 24 + 0 ≤ _)⟩)
  dsimp only [Pt.U, Pt.locs, Pt.cells, Pt.slots] at X11 l11 y11 z11 st11 hQ11
  subst l11 y11 z11
  refine Run.step (st11) ?_
  obtain ⟨rfl, N11q, e11q⟩ := hQ11
  have N11 := Fr.app N0 N11q
  show Run _ _ _ _ (T11.setTop (mkF m 14 #[.val (.ref a1), .val (.int rs), .val (.int fl), .val (.int sm), .val (.int oc), .val (.int bd)] []))
  obtain ⟨a12, T12, h12, k12, X12, e12, E12, hS12, hk12, hZ, hown, st12⟩ := ldcS (s := s) X11 hx hZ hown w22 (own_wS hw) e11q hS2 hk2 (g := (mkF m 14 #[.val (.ref a1), .val (.int rs), .val (.int fl), .val (.int sm), .val (.int oc), .val (.int bd)] [])) rfl (hb hby d1_14) (n := 24) (by decide) (by decide) (by decide) (by decide)
  refine Run.step st12 ?_
  have f13 := f3.ext E12
  have f14 := f4.ext E12
  have f15 := f5.ext E12
  have f16 := f6.ext E12
  have f17 := f7.ext E12
  have f18 := f8.ext E12
  have z19 := Nat.le_trans z9 E12.1
  have K20 := K10.ext E12
  show Run _ _ _ _ (T12.setTop (mkF m 16 #[.val (.ref a1), .val (.int rs), .val (.int fl), .val (.int sm), .val (.int oc), .val (.int bd)] [(.ref a12)]))
  refine Run.step (fun t_ k_ => XS.iloadN X12.here hx rfl (hb hby d1_16) rfl k_) ?_
  show Run _ _ _ _ (T12.setTop (mkF m 17 #[.val (.ref a1), .val (.int rs), .val (.int fl), .val (.int sm), .val (.int oc), .val (.int bd)] [(.int sm), (.ref a12)]))
  refine Run.step (fun t_ k_ => XS.sipush X12.here hx rfl (hb hby d1_17) k_) ?_
  show Run _ _ _ _ (T12.setTop (mkF m 20 #[.val (.ref a1), .val (.int rs), .val (.int fl), .val (.int sm), .val (.int oc), .val (.int bd)] [(.int (-32768 : Int32)), (.int sm), (.ref a12)]))
  refine Run.step (fun t_ k_ => XS.sipush X12.here hx rfl (hb hby d1_20) k_) ?_
  show Run _ _ _ _ (T12.setTop (mkF m 23 #[.val (.ref a1), .val (.int rs), .val (.int fl), .val (.int sm), .val (.int oc), .val (.int bd)] [(.int (32767 : Int32)), (.int (-32768 : Int32)), (.int sm), (.ref a12)]))
  obtain ⟨_, _, ⟨T21, L21, k21, n21⟩, -, X21, ⟨Lc21, hQ21, l21, y21, z21⟩, st21⟩ := Jvm.LawKit.callS X12 hx (y := (⟨"com/example/hashspace/hashspace/protocol/FrameHeader", "checkRange", "(Ljava/lang/String;III)V"⟩ : MethodName)) hown (mvT hZ w19) (mvT hZ w20) (mvT hZ w4) (mvT hZ w21) (by decide) (backOf (W := 0) (rm3 l Z a0 hw [] a12 sm (-32768 : Int32) (32767 : Int32) h12 n0 z19 u3 u4) hZ w21 w4 (by decide) (by decide)) (g := (mkF m 23 #[.val (.ref a1), .val (.int rs), .val (.int fl), .val (.int sm), .val (.int oc), .val (.int bd)] [(.int (32767 : Int32)), (.int (-32768 : Int32)), (.int sm), (.ref a12)])) rfl (by rw [hml]; rfl) (argsL := [(.ref a12), (.int sm), (.int (-32768 : Int32)), (.int (32767 : Int32))]) (rest := []) (lenOf pd__28Ljava_2flang_2fString_3bIII_29V rfl) rfl (by show 2 * 0 + _ ≤ _; exact Nat.le_of_eq rfl) (hb hby d1_23) (fun _ _ => ⟨rfl, e12, (by decide : 4 + 0 ≤ _), (by decide : 52 + 0 ≤ _)⟩)
  dsimp only [Pt.U, Pt.locs, Pt.cells, Pt.slots] at X21 l21 y21 z21 st21 hQ21
  subst l21 y21 z21
  refine Run.step (st21) ?_
  obtain ⟨rfl, N21q, e21q⟩ := hQ21
  have N21 := Fr.app N11 N21q
  show Run _ _ _ _ (T21.setTop (mkF m 26 #[.val (.ref a1), .val (.int rs), .val (.int fl), .val (.int sm), .val (.int oc), .val (.int bd)] []))
  obtain ⟨a22, T22, h22, k22, X22, e22, E22, hS22, hk22, hZ, hown, st22⟩ := ldcS (s := s) X21 hx hZ hown w23 (own_wS hw) e21q hS12 hk12 (g := (mkF m 26 #[.val (.ref a1), .val (.int rs), .val (.int fl), .val (.int sm), .val (.int oc), .val (.int bd)] [])) rfl (hb hby d1_26) (n := 24) (by decide) (by decide) (by decide) (by decide)
  refine Run.step st22 ?_
  have f23 := f13.ext E22
  have f24 := f14.ext E22
  have f25 := f15.ext E22
  have f26 := f16.ext E22
  have f27 := f17.ext E22
  have f28 := f18.ext E22
  have z29 := Nat.le_trans z19 E22.1
  have K30 := K20.ext E22
  show Run _ _ _ _ (T22.setTop (mkF m 28 #[.val (.ref a1), .val (.int rs), .val (.int fl), .val (.int sm), .val (.int oc), .val (.int bd)] [(.ref a22)]))
  refine Run.step (fun t_ k_ => XS.iload X22.here hx rfl (hb hby d1_28) rfl k_) ?_
  show Run _ _ _ _ (T22.setTop (mkF m 30 #[.val (.ref a1), .val (.int rs), .val (.int fl), .val (.int sm), .val (.int oc), .val (.int bd)] [(.int oc), (.ref a22)]))
  refine Run.step (fun t_ k_ => XS.iconst X22.here hx rfl (hb hby d1_30) k_) ?_
  show Run _ _ _ _ (T22.setTop (mkF m 31 #[.val (.ref a1), .val (.int rs), .val (.int fl), .val (.int sm), .val (.int oc), .val (.int bd)] [(.int (0 : Int32)), (.int oc), (.ref a22)]))
  refine Run.step (fun t_ k_ => XS.sipush X22.here hx rfl (hb hby d1_31) k_) ?_
  show Run _ _ _ _ (T22.setTop (mkF m 34 #[.val (.ref a1), .val (.int rs), .val (.int fl), .val (.int sm), .val (.int oc), .val (.int bd)] [(.int (255 : Int32)), (.int (0 : Int32)), (.int oc), (.ref a22)]))
  obtain ⟨_, _, ⟨T31, L31, k31, n31⟩, -, X31, ⟨Lc31, hQ31, l31, y31, z31⟩, st31⟩ := Jvm.LawKit.callS X22 hx (y := (⟨"com/example/hashspace/hashspace/protocol/FrameHeader", "checkRange", "(Ljava/lang/String;III)V"⟩ : MethodName)) hown (mvT hZ w19) (mvT hZ w20) (mvT hZ w4) (mvT hZ w21) (by decide) (backOf (W := 0) (rm3 l Z a0 hw [] a22 oc (0 : Int32) (255 : Int32) h22 n0 z29 u5 u6) hZ w21 w4 (by decide) (by decide)) (g := (mkF m 34 #[.val (.ref a1), .val (.int rs), .val (.int fl), .val (.int sm), .val (.int oc), .val (.int bd)] [(.int (255 : Int32)), (.int (0 : Int32)), (.int oc), (.ref a22)])) rfl (by rw [hml]; rfl) (argsL := [(.ref a22), (.int oc), (.int (0 : Int32)), (.int (255 : Int32))]) (rest := []) (lenOf pd__28Ljava_2flang_2fString_3bIII_29V rfl) rfl (by show 2 * 0 + _ ≤ _; exact Nat.le_of_eq rfl) (hb hby d1_34) (fun _ _ => ⟨rfl, e22, (by decide : 6 + 0 ≤ _), (by decide : 80 + 0 ≤ _)⟩)
  dsimp only [Pt.U, Pt.locs, Pt.cells, Pt.slots] at X31 l31 y31 z31 st31 hQ31
  subst l31 y31 z31
  refine Run.step (st31) ?_
  obtain ⟨rfl, N31q, e31q⟩ := hQ31
  have N31 := Fr.app N21 N31q
  show Run _ _ _ _ (T31.setTop (mkF m 37 #[.val (.ref a1), .val (.int rs), .val (.int fl), .val (.int sm), .val (.int oc), .val (.int bd)] []))
  obtain ⟨a32, T32, h32, k32, X32, e32, E32, hS32, hk32, hZ, hown, st32⟩ := ldcS (s := s) X31 hx hZ hown w24 (own_wS hw) e31q hS22 hk22 (g := (mkF m 37 #[.val (.ref a1), .val (.int rs), .val (.int fl), .val (.int sm), .val (.int oc), .val (.int bd)] [])) rfl (hb hby d1_37) (n := 44) (by decide) (by decide) (by decide) (by decide)
  refine Run.step st32 ?_
  have f33 := f23.ext E32
  have f34 := f24.ext E32
  have f35 := f25.ext E32
  have f36 := f26.ext E32
  have f37 := f27.ext E32
  have f38 := f28.ext E32
  have z39 := Nat.le_trans z29 E32.1
  have K40 := K30.ext E32
  show Run _ _ _ _ (T32.setTop (mkF m 39 #[.val (.ref a1), .val (.int rs), .val (.int fl), .val (.int sm), .val (.int oc), .val (.int bd)] [(.ref a32)]))
  refine Run.step (fun t_ k_ => XS.iload X32.here hx rfl (hb hby d1_39) rfl k_) ?_
  show Run _ _ _ _ (T32.setTop (mkF m 41 #[.val (.ref a1), .val (.int rs), .val (.int fl), .val (.int sm), .val (.int oc), .val (.int bd)] [(.int bd), (.ref a32)]))
  refine Run.step (fun t_ k_ => XS.iconst X32.here hx rfl (hb hby d1_41) k_) ?_
  show Run _ _ _ _ (T32.setTop (mkF m 42 #[.val (.ref a1), .val (.int rs), .val (.int fl), .val (.int sm), .val (.int oc), .val (.int bd)] [(.int (0 : Int32)), (.int bd), (.ref a32)]))
  refine Run.step (fun t_ k_ => X32.ldcInt hx hown (mvT hZ w25) (g := (mkF m 42 #[.val (.ref a1), .val (.int rs), .val (.int fl), .val (.int sm), .val (.int oc), .val (.int bd)] [(.int (0 : Int32)), (.int bd), (.ref a32)])) rfl (hb hby d1_42) _ k_) ?_
  show Run _ _ _ _ (T32.setTop (mkF m 44 #[.val (.ref a1), .val (.int rs), .val (.int fl), .val (.int sm), .val (.int oc), .val (.int bd)] [(.int (268435447 : Int32)), (.int (0 : Int32)), (.int bd), (.ref a32)]))
  obtain ⟨_, _, ⟨T41, L41, k41, n41⟩, -, X41, ⟨Lc41, hQ41, l41, y41, z41⟩, st41⟩ := Jvm.LawKit.callS X32 hx (y := (⟨"com/example/hashspace/hashspace/protocol/FrameHeader", "checkRange", "(Ljava/lang/String;III)V"⟩ : MethodName)) hown (mvT hZ w19) (mvT hZ w20) (mvT hZ w4) (mvT hZ w21) (by decide) (backOf (W := 0) (rm3 l Z a0 hw [] a32 bd (0 : Int32) (268435447 : Int32) h32 n0 z39 u7 u8) hZ w21 w4 (by decide) (by decide)) (g := (mkF m 44 #[.val (.ref a1), .val (.int rs), .val (.int fl), .val (.int sm), .val (.int oc), .val (.int bd)] [(.int (268435447 : Int32)), (.int (0 : Int32)), (.int bd), (.ref a32)])) rfl (by rw [hml]; rfl) (argsL := [(.ref a32), (.int bd), (.int (0 : Int32)), (.int (268435447 : Int32))]) (rest := []) (lenOf pd__28Ljava_2flang_2fString_3bIII_29V rfl) rfl (by show 2 * 0 + _ ≤ _; exact Nat.le_of_eq rfl) (hb hby d1_44) (fun _ _ => ⟨rfl, e32, (by decide : 8 + 0 ≤ _), (by decide : 128 + 0 ≤ _)⟩)
  dsimp only [Pt.U, Pt.locs, Pt.cells, Pt.slots] at X41 l41 y41 z41 st41 hQ41
  subst l41 y41 z41
  refine Run.step (st41) ?_
  obtain ⟨rfl, N41q, e41q⟩ := hQ41
  have N41 := Fr.app N31 N41q
  show Run _ _ _ _ (T41.setTop (mkF m 47 #[.val (.ref a1), .val (.int rs), .val (.int fl), .val (.int sm), .val (.int oc), .val (.int bd)] []))
  refine Run.step (fun t_ k_ => XS.aloadN X41.here hx rfl (hb hby d1_47) rfl rfl k_) ?_
  show Run _ _ _ _ (T41.setTop (mkF m 48 #[.val (.ref a1), .val (.int rs), .val (.int fl), .val (.int sm), .val (.int oc), .val (.int bd)] [(.ref a1)]))
  refine Run.step (fun t_ k_ => XS.iloadN X41.here hx rfl (hb hby d1_48) rfl k_) ?_
  show Run _ _ _ _ (T41.setTop (mkF m 49 #[.val (.ref a1), .val (.int rs), .val (.int fl), .val (.int sm), .val (.int oc), .val (.int bd)] [(.int rs), (.ref a1)]))
  obtain ⟨T42, h42, X42, e42, W42, st42⟩ := putF X41 hx hZ hown (host := "") (Or.inl w26) Via.refl e41q f33 f38 (Or.inr ⟨w27, rfl, hnm⟩) w3 (ty := .boolean) (by decide) (own_nb h01) (own_fb h01) (g := (mkF m 49 #[.val (.ref a1), .val (.int rs), .val (.int fl), .val (.int sm), .val (.int oc), .val (.int bd)] [(.int rs), (.ref a1)])) rfl rfl (hb hby d1_49)
  refine Run.step st42 ?_
  have f43 := f33.same W42
  have f44 := f34.other W42 (Or.inr (slot_ne (Or.inr w29) (Or.inr w27) (by decide) (t := .int) (t' := .boolean) (by decide) (by decide)))
  have f45 := f35.other W42 (Or.inr (slot_ne (Or.inr w31) (Or.inr w27) (by decide) (t := .int) (t' := .boolean) (by decide) (by decide)))
  have f46 := f36.other W42 (Or.inr (slot_ne (Or.inr w33) (Or.inr w27) (by decide) (t := .int) (t' := .boolean) (by decide) (by decide)))
  have f47 := f37.other W42 (Or.inr (slot_ne (Or.inr w35) (Or.inr w27) (by decide) (t := .int) (t' := .boolean) (by decide) (by decide)))
  have f48 := f38.wr W42
  have z49 := Nat.le_trans z39 (Keep.of_wr W42).1
  have y50 := Nat.le_trans hk32 (Keep.of_wr W42).1
  have K51 := K40.wr W42 (Or.inl (List.mem_of_getElem? (i := 0) rfl))
  have N52 := Fr.snoc X42 N41 g1
  show Run _ _ _ _ (T42.setTop (mkF m 52 #[.val (.ref a1), .val (.int rs), .val (.int fl), .val (.int sm), .val (.int oc), .val (.int bd)] []))
  refine Run.step (fun t_ k_ => XS.aloadN X42.here hx rfl (hb hby d1_52) rfl rfl k_) ?_
  show Run _ _ _ _ (T42.setTop (mkF m 53 #[.val (.ref a1), .val (.int rs), .val (.int fl), .val (.int sm), .val (.int oc), .val (.int bd)] [(.ref a1)]))
  refine Run.step (fun t_ k_ => XS.iloadN X42.here hx rfl (hb hby d1_53) rfl k_) ?_
  show Run _ _ _ _ (T42.setTop (mkF m 54 #[.val (.ref a1), .val (.int rs), .val (.int fl), .val (.int sm), .val (.int oc), .val (.int bd)] [(.int fl), (.ref a1)]))
  obtain ⟨T53, h53, X53, e53, W53, st53⟩ := putF X42 hx hZ hown (host := "") (Or.inl w28) Via.refl e42 f44 f48 (Or.inr ⟨w29, rfl, hnm⟩) w3 (ty := .int) (by decide) rfl rfl (g := (mkF m 54 #[.val (.ref a1), .val (.int rs), .val (.int fl), .val (.int sm), .val (.int oc), .val (.int bd)] [(.int fl), (.ref a1)])) rfl rfl (hb hby d1_54)
  refine Run.step st53 ?_
  have f54 := f43.other W53 (Or.inr (slot_ne (Or.inr w27) (Or.inr w29) (by decide) (t := .boolean) (t' := .int) (by decide) (by decide)))
  have f55 := f44.same W53
  have f56 := f45.other W53 (Or.inr (slot_ne (Or.inr w31) (Or.inr w29) (by decide) (t := .int) (t' := .int) (by decide) (by decide)))
  have f57 := f46.other W53 (Or.inr (slot_ne (Or.inr w33) (Or.inr w29) (by decide) (t := .int) (t' := .int) (by decide) (by decide)))
  have f58 := f47.other W53 (Or.inr (slot_ne (Or.inr w35) (Or.inr w29) (by decide) (t := .int) (t' := .int) (by decide) (by decide)))
  have f59 := f48.wr W53
  have z60 := Nat.le_trans z49 (Keep.of_wr W53).1
  have y61 := Nat.le_trans y50 (Keep.of_wr W53).1
  have K62 := K51.wr W53 (Or.inl (List.mem_of_getElem? (i := 0) rfl))
  have N63 := Fr.snoc X53 N52 g1
  show Run _ _ _ _ (T53.setTop (mkF m 57 #[.val (.ref a1), .val (.int rs), .val (.int fl), .val (.int sm), .val (.int oc), .val (.int bd)] []))
  refine Run.step (fun t_ k_ => XS.aloadN X53.here hx rfl (hb hby d1_57) rfl rfl k_) ?_
  show Run _ _ _ _ (T53.setTop (mkF m 58 #[.val (.ref a1), .val (.int rs), .val (.int fl), .val (.int sm), .val (.int oc), .val (.int bd)] [(.ref a1)]))
  refine Run.step (fun t_ k_ => XS.iloadN X53.here hx rfl (hb hby d1_58) rfl k_) ?_
  show Run _ _ _ _ (T53.setTop (mkF m 59 #[.val (.ref a1), .val (.int rs), .val (.int fl), .val (.int sm), .val (.int oc), .val (.int bd)] [(.int sm), (.ref a1)]))
  obtain ⟨T64, h64, X64, e64, W64, st64⟩ := putF X53 hx hZ hown (host := "") (Or.inl w30) Via.refl e53 f56 f59 (Or.inr ⟨w31, rfl, hnm⟩) w3 (ty := .int) (by decide) rfl rfl (g := (mkF m 59 #[.val (.ref a1), .val (.int rs), .val (.int fl), .val (.int sm), .val (.int oc), .val (.int bd)] [(.int sm), (.ref a1)])) rfl rfl (hb hby d1_59)
  refine Run.step st64 ?_
  have f65 := f54.other W64 (Or.inr (slot_ne (Or.inr w27) (Or.inr w31) (by decide) (t := .boolean) (t' := .int) (by decide) (by decide)))
  have f66 := f55.other W64 (Or.inr (slot_ne (Or.inr w29) (Or.inr w31) (by decide) (t := .int) (t' := .int) (by decide) (by decide)))
  have f67 := f56.same W64
  have f68 := f57.other W64 (Or.inr (slot_ne (Or.inr w33) (Or.inr w31) (by decide) (t := .int) (t' := .int) (by decide) (by decide)))
  have f69 := f58.other W64 (Or.inr (slot_ne (Or.inr w35) (Or.inr w31) (by decide) (t := .int) (t' := .int) (by decide) (by decide)))
  have f70 := f59.wr W64
  have z71 := Nat.le_trans z60 (Keep.of_wr W64).1
  have y72 := Nat.le_trans y61 (Keep.of_wr W64).1
  have K73 := K62.wr W64 (Or.inl (List.mem_of_getElem? (i := 0) rfl))
  have N74 := Fr.snoc X64 N63 g1
  show Run _ _ _ _ (T64.setTop (mkF m 62 #[.val (.ref a1), .val (.int rs), .val (.int fl), .val (.int sm), .val (.int oc), .val (.int bd)] []))
  refine Run.step (fun t_ k_ => XS.aloadN X64.here hx rfl (hb hby d1_62) rfl rfl k_) ?_
  show Run _ _ _ _ (T64.setTop (mkF m 63 #[.val (.ref a1), .val (.int rs), .val (.int fl), .val (.int sm), .val (.int oc), .val (.int bd)] [(.ref a1)]))
  refine Run.step (fun t_ k_ => XS.iload X64.here hx rfl (hb hby d1_63) rfl k_) ?_
  show Run _ _ _ _ (T64.setTop (mkF m 65 #[.val (.ref a1), .val (.int rs), .val (.int fl), .val (.int sm), .val (.int oc), .val (.int bd)] [(.int oc), (.ref a1)]))
  obtain ⟨T75, h75, X75, e75, W75, st75⟩ := putF X64 hx hZ hown (host := "") (Or.inl w32) Via.refl e64 f68 f70 (Or.inr ⟨w33, rfl, hnm⟩) w3 (ty := .int) (by decide) rfl rfl (g := (mkF m 65 #[.val (.ref a1), .val (.int rs), .val (.int fl), .val (.int sm), .val (.int oc), .val (.int bd)] [(.int oc), (.ref a1)])) rfl rfl (hb hby d1_65)
  refine Run.step st75 ?_
  have f76 := f65.other W75 (Or.inr (slot_ne (Or.inr w27) (Or.inr w33) (by decide) (t := .boolean) (t' := .int) (by decide) (by decide)))
  have f77 := f66.other W75 (Or.inr (slot_ne (Or.inr w29) (Or.inr w33) (by decide) (t := .int) (t' := .int) (by decide) (by decide)))
  have f78 := f67.other W75 (Or.inr (slot_ne (Or.inr w31) (Or.inr w33) (by decide) (t := .int) (t' := .int) (by decide) (by decide)))
  have f79 := f68.same W75
  have f80 := f69.other W75 (Or.inr (slot_ne (Or.inr w35) (Or.inr w33) (by decide) (t := .int) (t' := .int) (by decide) (by decide)))
  have f81 := f70.wr W75
  have z82 := Nat.le_trans z71 (Keep.of_wr W75).1
  have y83 := Nat.le_trans y72 (Keep.of_wr W75).1
  have K84 := K73.wr W75 (Or.inl (List.mem_of_getElem? (i := 0) rfl))
  have N85 := Fr.snoc X75 N74 g1
  show Run _ _ _ _ (T75.setTop (mkF m 68 #[.val (.ref a1), .val (.int rs), .val (.int fl), .val (.int sm), .val (.int oc), .val (.int bd)] []))
  refine Run.step (fun t_ k_ => XS.aloadN X75.here hx rfl (hb hby d1_68) rfl rfl k_) ?_
  show Run _ _ _ _ (T75.setTop (mkF m 69 #[.val (.ref a1), .val (.int rs), .val (.int fl), .val (.int sm), .val (.int oc), .val (.int bd)] [(.ref a1)]))
  refine Run.step (fun t_ k_ => XS.iload X75.here hx rfl (hb hby d1_69) rfl k_) ?_
  show Run _ _ _ _ (T75.setTop (mkF m 71 #[.val (.ref a1), .val (.int rs), .val (.int fl), .val (.int sm), .val (.int oc), .val (.int bd)] [(.int bd), (.ref a1)]))
  obtain ⟨T86, h86, X86, e86, W86, st86⟩ := putF X75 hx hZ hown (host := "") (Or.inl w34) Via.refl e75 f80 f81 (Or.inr ⟨w35, rfl, hnm⟩) w3 (ty := .int) (by decide) rfl rfl (g := (mkF m 71 #[.val (.ref a1), .val (.int rs), .val (.int fl), .val (.int sm), .val (.int oc), .val (.int bd)] [(.int bd), (.ref a1)])) rfl rfl (hb hby d1_71)
  refine Run.step st86 ?_
  have f87 := f76.other W86 (Or.inr (slot_ne (Or.inr w27) (Or.inr w35) (by decide) (t := .boolean) (t' := .int) (by decide) (by decide)))
  have f88 := f77.other W86 (Or.inr (slot_ne (Or.inr w29) (Or.inr w35) (by decide) (t := .int) (t' := .int) (by decide) (by decide)))
  have f89 := f78.other W86 (Or.inr (slot_ne (Or.inr w31) (Or.inr w35) (by decide) (t := .int) (t' := .int) (by decide) (by decide)))
  have f90 := f79.other W86 (Or.inr (slot_ne (Or.inr w33) (Or.inr w35) (by decide) (t := .int) (t' := .int) (by decide) (by decide)))
  have f91 := f80.same W86
  have f92 := f81.wr W86
  have z93 := Nat.le_trans z82 (Keep.of_wr W86).1
  have y94 := Nat.le_trans y83 (Keep.of_wr W86).1
  have K95 := K84.wr W86 (Or.inl (List.mem_of_getElem? (i := 0) rfl))
  have N96 := Fr.snoc X86 N85 g1
  show Run _ _ _ _ (T86.setTop (mkF m 74 #[.val (.ref a1), .val (.int rs), .val (.int fl), .val (.int sm), .val (.int oc), .val (.int bd)] []))
  exact finVW X86 hx hS32 y94 (BodyLoose.notSynchronized Bd) Bd.returns (hb hby d1_74) (by decide) (by decide) e86 ⟨rfl, N96, K95, f88⟩
theorem d4_0 : decode prog_41_method_7_code 0 = .ok (.aload_n 0, 1) := by decide +kernel
theorem d4_1 : decode prog_41_method_7_code 1 = .ok (.getfield 28, 3) := by decide +kernel
theorem d4_4 : decode prog_41_method_7_code 4 = .ok (.iload_n 1, 1) := by decide +kernel
theorem d4_5 : decode prog_41_method_7_code 5 = .ok (.iand, 1) := by decide +kernel
theorem d4_6 : decode prog_41_method_7_code 6 = .ok (.iload_n 1, 1) := by decide +kernel
theorem d4_7 : decode prog_41_method_7_code 7 = .ok (.if_icmp .ne 7, 3) := by decide +kernel
theorem d4_10 : decode prog_41_method_7_code 10 = .ok (.iconst 1, 1) := by decide +kernel
theorem d4_11 : decode prog_41_method_7_code 11 = .ok (.goto 4, 3) := by decide +kernel
theorem d4_15 : decode prog_41_method_7_code 15 = .ok (.ireturn, 1) := by decide +kernel
theorem d4_14 : decode prog_41_method_7_code 14 = .ok (.iconst 0, 1) := by decide +kernel
theorem ef_4 (m : MethodId) (x0 : Addr) (x1 : Int32) : entryFrame m #[(.ref x0), (.int x1)] 2 = mkF m 0 #[.val (.ref x0), .val (.int x1)] [] := by first | (simp [entryFrame, mkF, argsToLocals, Value.category, maxLocals]; done) | rfl
def Q4 (Z : State) (a1 : Addr) (fl : Int32) (m1 : Int32) (h0 : Heap) (n0 : Nat) (v : Option Value) (h : Heap) (L : List Loc) : Prop := v = some (.int (if (fl &&& m1) = m1 then 1 else 0)) ∧ Fr n0 L ∧ h = h0
set_option maxRecDepth 65536 in
set_option maxHeartbeats 40000000 in
theorem rm4 (l : Launch) (Z : State) (a0 : Array Value) (hw : ∀ d ∈ tables_1, d.before a0 Z = true) (ws : List Jvm.Cond) (a1 : Addr) (fl : Int32) (m1 : Int32) (h0 : Heap) (n0 : Nat) (Z0 : n0 ≤ h0.size) (F1 : Fld Z h0 a1 "com/example/hashspace/hashspace/protocol/FrameHeader" "flags" "I" (.int fl)) :
    MetFree l (⟨"com/example/hashspace/hashspace/protocol/FrameHeader", "hasFlag", "(I)Z"⟩ : MethodName) (head1 (Jvm.Cond.code (⟨"com/example/hashspace/hashspace/protocol/FrameHeader", "hasFlag", "(I)Z"⟩ : MethodName) prog_41_method_7_code 2 (some .boolean) :: ws) ({ frames := 0, cells := 0, slots := 0, locals := 0 } : Room)) (fun a U => a = #[(.ref a1), (.int m1)] ∧ Z.Warmed39 U.vm ∧ U.heap = h0) (fun _ _ _ _ _ => True) (fun _ U o U' => ∃ v L, o = .returned v ∧ Q4 Z a1 fl m1 h0 n0 v U'.heap L ∧ FrameEnd U o U' L ({ frames := 0, cells := 0, slots := 0, locals := 0 } : Room).cells ({ frames := 0, cells := 0, slots := 0, locals := 0 } : Room).slots) := by
  refine MetFree.of_bodySF (plainFor_of_name pn_com_example_hashspace_hashspace_protocol_FrameHeader) hisR ?_
  intro p e s m args below meth c s₁ Bd hml0 hP hK
  obtain ⟨rfl, hZ, hh⟩ := hP
  have hx := Bd.exec
  have hby := Bd.bytes
  have w28 := hw _ (List.mem_of_getElem? (i := 28) rfl)
  have hml : c.maxLocals = 2 := hml0
  have hown : s.vm.findClass "com/example/hashspace/hashspace/protocol/FrameHeader" = some m.cls := findClass_of_methodNamed Bd.named
  have hnm := (name_of_methodNamed Bd.named Bd.method).1
  have X0 : Stand p l e ({ frames := 0, cells := 0, slots := 0, locals := 0 } : Room) s m #[(.ref a1), (.int m1)] below meth c s₁ [] 0 0 := Stand.of_body Bd
  have e0 : s₁.heap = h0 := by rw [← hh, Bd.state]; rfl
  have N0 := Fr.nil n0
  show Run p.tables e below (PQ s below 0 0 (Q4 Z a1 fl m1 h0 n0)) (s₁.setTop (entryFrame m #[(.ref a1), (.int m1)] 2))
  refine Run.step (fun t k => castTop (ef_4 m a1 m1) k) ?_
  show Run _ _ _ _ (s₁.setTop (mkF m 0 #[.val (.ref a1), .val (.int m1)] []))
  refine Run.step (fun t_ k_ => XS.aloadN X0.here hx rfl (hb hby d4_0) rfl rfl k_) ?_
  show Run _ _ _ _ (s₁.setTop (mkF m 1 #[.val (.ref a1), .val (.int m1)] [(.ref a1)]))
  obtain ⟨T97, X97, e97, st97⟩ := getF X0 hx hZ hown (host := "") (Or.inl w28) Via.refl e0 F1 (g := (mkF m 1 #[.val (.ref a1), .val (.int m1)] [(.ref a1)])) rfl rfl (hb hby d4_1)
  refine Run.step st97 ?_
  show Run _ _ _ _ (T97.setTop (mkF m 4 #[.val (.ref a1), .val (.int m1)] [(.int fl)]))
  refine Run.step (fun t_ k_ => XS.iloadN X97.here hx rfl (hb hby d4_4) rfl k_) ?_
  show Run _ _ _ _ (T97.setTop (mkF m 5 #[.val (.ref a1), .val (.int m1)] [(.int m1), (.int fl)]))
  refine Run.step (fun t_ k_ => XS.iand X97.here hx rfl (hb hby d4_5) rfl k_) ?_
  show Run _ _ _ _ (T97.setTop (mkF m 6 #[.val (.ref a1), .val (.int m1)] [(.int (fl &&& m1))]))
  refine Run.step (fun t_ k_ => XS.iloadN X97.here hx rfl (hb hby d4_6) rfl k_) ?_
  show Run _ _ _ _ (T97.setTop (mkF m 7 #[.val (.ref a1), .val (.int m1)] [(.int m1), (.int (fl &&& m1))]))
  by_cases c7 : (fl &&& m1) = m1
  · skip
    refine Run.step (fun t_ k_ => XS.icmpNo X97.here hx rfl (hb hby d4_7) rfl (XT.ii_ne_f c7) k_) ?_
    show Run _ _ _ _ (T97.setTop (mkF m 10 #[.val (.ref a1), .val (.int m1)] []))
    refine Run.step (fun t_ k_ => XS.iconst X97.here hx rfl (hb hby d4_10) k_) ?_
    show Run _ _ _ _ (T97.setTop (mkF m 11 #[.val (.ref a1), .val (.int m1)] [(.int (1 : Int32))]))
    refine Run.step (fun t_ k_ => XS.goto X97.here hx rfl (pc0 := 11) (pc' := 15) rfl (hb hby d4_11) (by decide) (by decide) k_) ?_
    show Run _ _ _ _ (T97.setTop (mkF m 15 #[.val (.ref a1), .val (.int m1)] [(.int (1 : Int32))]))
    exact finZ X97 hx (BodyLoose.notSynchronized Bd) Bd.returns (hb hby d4_15) (by decide) (by decide) (by decide) e97 ⟨congrArg (fun z => some (Value.int z)) (if_pos c7).symm, N0, rfl⟩
  · skip
    refine Run.step (fun t_ k_ => XS.icmpYes X97.here hx rfl (pc0 := 7) (pc' := 14) rfl (hb hby d4_7) rfl (XT.ii_ne_t c7) (by decide) (by decide) k_) ?_
    show Run _ _ _ _ (T97.setTop (mkF m 14 #[.val (.ref a1), .val (.int m1)] []))
    refine Run.step (fun t_ k_ => XS.iconst X97.here hx rfl (hb hby d4_14) k_) ?_
    show Run _ _ _ _ (T97.setTop (mkF m 15 #[.val (.ref a1), .val (.int m1)] [(.int (0 : Int32))]))
    exact finZ X97 hx (BodyLoose.notSynchronized Bd) Bd.returns (hb hby d4_15) (by decide) (by decide) (by decide) e97 ⟨congrArg (fun z => some (Value.int z)) (if_neg c7).symm, N0, rfl⟩
theorem pn_com_example_hashspace_hashspace_protocol_FrameHeaderHasFlagPinLaw : plainName "com/example/hashspace/hashspace/protocol/FrameHeaderHasFlagPinLaw" = true := by first | (simp [plainName, overriddenIn]; done) | decide +kernel
theorem pd__28ZIIII_29V : parseMethodDescriptor "(ZIIII)V" = some ⟨[.boolean, .int, .int, .int, .int], none⟩ := by decide +kernel
theorem pd__28I_29Z : parseMethodDescriptor "(I)Z" = some ⟨[.int], some .boolean⟩ := by decide +kernel
theorem ef_0 (m : MethodId) (x0 : Int32) (x1 : Int32) (x2 : Int32) (x3 : Int32) (x4 : Int32) (x5 : Int32) : entryFrame m #[(.int x0), (.int x1), (.int x2), (.int x3), (.int x4), (.int x5)] maxLocals = mkF m 0 #[.val (.int x0), .val (.int x1), .val (.int x2), .val (.int x3), .val (.int x4), .val (.int x5), .unset, .unset, .unset, .unset, .unset, .unset, .unset, .unset, .unset, .unset, .unset, .unset, .unset, .unset] [] := by first | (simp [entryFrame, mkF, argsToLocals, Value.category, maxLocals]; done) | rfl
def Q0 (Z : State) (p1 : Int32) (p2 : Int32) (p3 : Int32) (p4 : Int32) (p5 : Int32) (p6 : Int32) (h0 : Heap) (n0 : Nat) (v : Option Value) (h : Heap) (L : List Loc) : Prop := v = some (.int 1) ∧ Fr n0 L
set_option maxRecDepth 65536 in
set_option maxHeartbeats 40000000 in
theorem rm0 (l : Launch) (Z : State) (a0 : Array Value) (hw : ∀ d ∈ tables_1, d.before a0 Z = true) (ws : List Jvm.Cond) (p1 : Int32) (p2 : Int32) (p3 : Int32) (p4 : Int32) (p5 : Int32) (p6 : Int32) (h0 : Heap) (n0 : Nat) (Z0 : n0 ≤ h0.size)  :
    MetFree l x (head1 (Jvm.Cond.code x code maxLocals ret :: ws) room_1) (fun a U => a = #[(.int p1), (.int p2), (.int p3), (.int p4), (.int p5), (.int p6)] ∧ Z.Warmed39 U.vm ∧ U.heap = h0) (fun _ _ _ _ _ => True) (fun _ U o U' => ∃ v L, o = .returned v ∧ Q0 Z p1 p2 p3 p4 p5 p6 h0 n0 v U'.heap L ∧ ReturnedEndW U o U' L 24 4224) := by
  refine MetFree.of_bodySF (plainFor_of_name pn_com_example_hashspace_hashspace_protocol_FrameHeaderHasFlagPinLaw) hisR ?_
  intro p e s m args below meth c s₁ Bd hml0 hP hK
  obtain ⟨rfl, hZ, hh⟩ := hP
  have hx := Bd.exec
  have hby := Bd.bytes
  have w0 := hw _ (List.mem_of_getElem? (i := 0) rfl)
  have w1 := hw _ (List.mem_of_getElem? (i := 1) rfl)
  have w2 := hw _ (List.mem_of_getElem? (i := 2) rfl)
  have w3 := hw _ (List.mem_of_getElem? (i := 3) rfl)
  have w4 := hw _ (List.mem_of_getElem? (i := 4) rfl)
  have w5 := hw _ (List.mem_of_getElem? (i := 5) rfl)
  have w6 := hw _ (List.mem_of_getElem? (i := 6) rfl)
  have w7 := hw _ (List.mem_of_getElem? (i := 7) rfl)
  have w27 := hw _ (List.mem_of_getElem? (i := 27) rfl)
  have w29 := hw _ (List.mem_of_getElem? (i := 29) rfl)
  have w31 := hw _ (List.mem_of_getElem? (i := 31) rfl)
  have w33 := hw _ (List.mem_of_getElem? (i := 33) rfl)
  have w35 := hw _ (List.mem_of_getElem? (i := 35) rfl)
  have w36 := hw _ (List.mem_of_getElem? (i := 36) rfl)
  have w37 := hw _ (List.mem_of_getElem? (i := 37) rfl)
  have w38 := hw _ (List.mem_of_getElem? (i := 38) rfl)
  have w39 := hw _ (List.mem_of_getElem? (i := 39) rfl)
  have w40 := hw _ (List.mem_of_getElem? (i := 40) rfl)
  have hml : c.maxLocals = 20 := hml0
  have hown : s.vm.findClass "com/example/hashspace/hashspace/protocol/FrameHeaderHasFlagPinLaw" = some m.cls := findClass_of_methodNamed Bd.named
  have hnm := (name_of_methodNamed Bd.named Bd.method).1
  have hS0 : s.Since s.vm 0 := (State.WarmedH.refl s).since 0
  have X0 : Stand p l e room_1 (s.setVm s.vm) m #[(.int p1), (.int p2), (.int p3), (.int p4), (.int p5), (.int p6)] below meth c s₁ [] 0 0 := Stand.of_body Bd
  have e0 : s₁.heap = h0 := by rw [← hh, Bd.state]; rfl
  have N0 := Fr.nil n0
  show Run p.tables e below (PW s below 24 4224 (Q0 Z p1 p2 p3 p4 p5 p6 h0 n0)) (s₁.setTop (entryFrame m #[(.int p1), (.int p2), (.int p3), (.int p4), (.int p5), (.int p6)] maxLocals))
  refine Run.step (fun t k => castTop (ef_0 m p1 p2 p3 p4 p5 p6) k) ?_
  show Run _ _ _ _ (s₁.setTop (mkF m 0 #[.val (.int p1), .val (.int p2), .val (.int p3), .val (.int p4), .val (.int p5), .val (.int p6), .unset, .unset, .unset, .unset, .unset, .unset, .unset, .unset, .unset, .unset, .unset, .unset, .unset, .unset] []))
  refine Run.step (fun t_ k_ => XS.iloadN X0.here hx rfl (hb hby at_0) rfl k_) ?_
  show Run _ _ _ _ (s₁.setTop (mkF m 1 #[.val (.int p1), .val (.int p2), .val (.int p3), .val (.int p4), .val (.int p5), .val (.int p6), .unset, .unset, .unset, .unset, .unset, .unset, .unset, .unset, .unset, .unset, .unset, .unset, .unset, .unset] [(.int p1)]))
  refine Run.step (fun t_ k_ => XS.sipush X0.here hx rfl (hb hby at_1) k_) ?_
  show Run _ _ _ _ (s₁.setTop (mkF m 4 #[.val (.int p1), .val (.int p2), .val (.int p3), .val (.int p4), .val (.int p5), .val (.int p6), .unset, .unset, .unset, .unset, .unset, .unset, .unset, .unset, .unset, .unset, .unset, .unset, .unset, .unset] [(.int (255 : Int32)), (.int p1)]))
  refine Run.step (fun t_ k_ => XS.iand X0.here hx rfl (hb hby at_4) rfl k_) ?_
  show Run _ _ _ _ (s₁.setTop (mkF m 5 #[.val (.int p1), .val (.int p2), .val (.int p3), .val (.int p4), .val (.int p5), .val (.int p6), .unset, .unset, .unset, .unset, .unset, .unset, .unset, .unset, .unset, .unset, .unset, .unset, .unset, .unset] [(.int (p1 &&& (255 : Int32)))]))
  refine Run.step (fun t_ k_ => XS.istore X0.here hx rfl (hb hby at_5) rfl (l' := #[.val (.int p1), .val (.int p2), .val (.int p3), .val (.int p4), .val (.int p5), .val (.int p6), .val (.int (p1 &&& (255 : Int32))), .unset, .unset, .unset, .unset, .unset, .unset, .unset, .unset, .unset, .unset, .unset, .unset, .unset]) rfl k_) ?_
  show Run _ _ _ _ (s₁.setTop (mkF m 7 #[.val (.int p1), .val (.int p2), .val (.int p3), .val (.int p4), .val (.int p5), .val (.int p6), .val (.int (p1 &&& (255 : Int32))), .unset, .unset, .unset, .unset, .unset, .unset, .unset, .unset, .unset, .unset, .unset, .unset, .unset] []))
  obtain ⟨fl, hfl⟩ : ∃ z, z = (p1 &&& (255 : Int32)) := ⟨_, rfl⟩
  rw [← hfl]
  show Run _ _ _ _ (s₁.setTop (mkF m 7 #[.val (.int p1), .val (.int p2), .val (.int p3), .val (.int p4), .val (.int p5), .val (.int p6), .val (.int fl), .unset, .unset, .unset, .unset, .unset, .unset, .unset, .unset, .unset, .unset, .unset, .unset, .unset] []))
  refine Run.step (fun t_ k_ => XS.iloadN X0.here hx rfl (hb hby at_7) rfl k_) ?_
  show Run _ _ _ _ (s₁.setTop (mkF m 8 #[.val (.int p1), .val (.int p2), .val (.int p3), .val (.int p4), .val (.int p5), .val (.int p6), .val (.int fl), .unset, .unset, .unset, .unset, .unset, .unset, .unset, .unset, .unset, .unset, .unset, .unset, .unset] [(.int p3)]))
  refine Run.step (fun t_ k_ => XS.iconst X0.here hx rfl (hb hby at_8) k_) ?_
  show Run _ _ _ _ (s₁.setTop (mkF m 9 #[.val (.int p1), .val (.int p2), .val (.int p3), .val (.int p4), .val (.int p5), .val (.int p6), .val (.int fl), .unset, .unset, .unset, .unset, .unset, .unset, .unset, .unset, .unset, .unset, .unset, .unset, .unset] [(.int (3 : Int32)), (.int p3)]))
  refine Run.step (fun t_ k_ => XS.iushr X0.here hx rfl (hb hby at_9) rfl k_) ?_
  show Run _ _ _ _ (s₁.setTop (mkF m 10 #[.val (.int p1), .val (.int p2), .val (.int p3), .val (.int p4), .val (.int p5), .val (.int p6), .val (.int fl), .unset, .unset, .unset, .unset, .unset, .unset, .unset, .unset, .unset, .unset, .unset, .unset, .unset] [(.int ((p3.toUInt32 >>> ((3 : Int32) &&& 31).toUInt32).toInt32))]))
  refine Run.step (fun t_ k_ => XS.iconst X0.here hx rfl (hb hby at_10) k_) ?_
  show Run _ _ _ _ (s₁.setTop (mkF m 11 #[.val (.int p1), .val (.int p2), .val (.int p3), .val (.int p4), .val (.int p5), .val (.int p6), .val (.int fl), .unset, .unset, .unset, .unset, .unset, .unset, .unset, .unset, .unset, .unset, .unset, .unset, .unset] [(.int (1 : Int32)), (.int ((p3.toUInt32 >>> ((3 : Int32) &&& 31).toUInt32).toInt32))]))
  refine Run.step (fun t_ k_ => XS.iand X0.here hx rfl (hb hby at_11) rfl k_) ?_
  show Run _ _ _ _ (s₁.setTop (mkF m 12 #[.val (.int p1), .val (.int p2), .val (.int p3), .val (.int p4), .val (.int p5), .val (.int p6), .val (.int fl), .unset, .unset, .unset, .unset, .unset, .unset, .unset, .unset, .unset, .unset, .unset, .unset, .unset] [(.int (((p3.toUInt32 >>> ((3 : Int32) &&& 31).toUInt32).toInt32) &&& (1 : Int32)))]))
  have J98 : ∀ (TJ98 : State) (LJ98 : List Loc) (XJ98 : Stand p l e room_1 (s.setVm s.vm) m #[(.int p1), (.int p2), (.int p3), (.int p4), (.int p5), (.int p6)] below meth c TJ98 LJ98 0 0) (eJ98 : TJ98.heap = h0) (NJ98 : Fr n0 LJ98) (rs : Int32), (rs = 0 ∨ rs = 1) → Run p.tables e below (PW s below 24 4224 (Q0 Z p1 p2 p3 p4 p5 p6 h0 n0)) (TJ98.setTop (mkF m 20 #[.val (.int p1), .val (.int p2), .val (.int p3), .val (.int p4), .val (.int p5), .val (.int p6), .val (.int fl), .unset, .unset, .unset, .unset, .unset, .unset, .unset, .unset, .unset, .unset, .unset, .unset, .unset] [(.int rs)])) := by
    intro TJ98 LJ98 XJ98 eJ98 NJ98 rs hv98
    refine Run.step (fun t_ k_ => XS.istore XJ98.here hx rfl (hb hby at_20) rfl (l' := #[.val (.int p1), .val (.int p2), .val (.int p3), .val (.int p4), .val (.int p5), .val (.int p6), .val (.int fl), .val (.int rs), .unset, .unset, .unset, .unset, .unset, .unset, .unset, .unset, .unset, .unset, .unset, .unset]) rfl k_) ?_
    show Run _ _ _ _ (TJ98.setTop (mkF m 22 #[.val (.int p1), .val (.int p2), .val (.int p3), .val (.int p4), .val (.int p5), .val (.int p6), .val (.int fl), .val (.int rs), .unset, .unset, .unset, .unset, .unset, .unset, .unset, .unset, .unset, .unset, .unset, .unset] []))
    refine Run.step (fun t_ k_ => XS.iloadN XJ98.here hx rfl (hb hby at_22) rfl k_) ?_
    show Run _ _ _ _ (TJ98.setTop (mkF m 23 #[.val (.int p1), .val (.int p2), .val (.int p3), .val (.int p4), .val (.int p5), .val (.int p6), .val (.int fl), .val (.int rs), .unset, .unset, .unset, .unset, .unset, .unset, .unset, .unset, .unset, .unset, .unset, .unset] [(.int p4)]))
    refine Run.step (fun t_ k_ => XS.i2s XJ98.here hx rfl (hb hby at_23) rfl k_) ?_
    show Run _ _ _ _ (TJ98.setTop (mkF m 24 #[.val (.int p1), .val (.int p2), .val (.int p3), .val (.int p4), .val (.int p5), .val (.int p6), .val (.int fl), .val (.int rs), .unset, .unset, .unset, .unset, .unset, .unset, .unset, .unset, .unset, .unset, .unset, .unset] [(.int (p4.toInt16.toInt32))]))
    refine Run.step (fun t_ k_ => XS.istore XJ98.here hx rfl (hb hby at_24) rfl (l' := #[.val (.int p1), .val (.int p2), .val (.int p3), .val (.int p4), .val (.int p5), .val (.int p6), .val (.int fl), .val (.int rs), .val (.int (p4.toInt16.toInt32)), .unset, .unset, .unset, .unset, .unset, .unset, .unset, .unset, .unset, .unset, .unset]) rfl k_) ?_
    show Run _ _ _ _ (TJ98.setTop (mkF m 26 #[.val (.int p1), .val (.int p2), .val (.int p3), .val (.int p4), .val (.int p5), .val (.int p6), .val (.int fl), .val (.int rs), .val (.int (p4.toInt16.toInt32)), .unset, .unset, .unset, .unset, .unset, .unset, .unset, .unset, .unset, .unset, .unset] []))
    refine Run.step (fun t_ k_ => XS.iload XJ98.here hx rfl (hb hby at_26) rfl k_) ?_
    show Run _ _ _ _ (TJ98.setTop (mkF m 28 #[.val (.int p1), .val (.int p2), .val (.int p3), .val (.int p4), .val (.int p5), .val (.int p6), .val (.int fl), .val (.int rs), .val (.int (p4.toInt16.toInt32)), .unset, .unset, .unset, .unset, .unset, .unset, .unset, .unset, .unset, .unset, .unset] [(.int p5)]))
    refine Run.step (fun t_ k_ => XS.sipush XJ98.here hx rfl (hb hby at_28) k_) ?_
    show Run _ _ _ _ (TJ98.setTop (mkF m 31 #[.val (.int p1), .val (.int p2), .val (.int p3), .val (.int p4), .val (.int p5), .val (.int p6), .val (.int fl), .val (.int rs), .val (.int (p4.toInt16.toInt32)), .unset, .unset, .unset, .unset, .unset, .unset, .unset, .unset, .unset, .unset, .unset] [(.int (255 : Int32)), (.int p5)]))
    refine Run.step (fun t_ k_ => XS.iand XJ98.here hx rfl (hb hby at_31) rfl k_) ?_
    show Run _ _ _ _ (TJ98.setTop (mkF m 32 #[.val (.int p1), .val (.int p2), .val (.int p3), .val (.int p4), .val (.int p5), .val (.int p6), .val (.int fl), .val (.int rs), .val (.int (p4.toInt16.toInt32)), .unset, .unset, .unset, .unset, .unset, .unset, .unset, .unset, .unset, .unset, .unset] [(.int (p5 &&& (255 : Int32)))]))
    refine Run.step (fun t_ k_ => XS.istore XJ98.here hx rfl (hb hby at_32) rfl (l' := #[.val (.int p1), .val (.int p2), .val (.int p3), .val (.int p4), .val (.int p5), .val (.int p6), .val (.int fl), .val (.int rs), .val (.int (p4.toInt16.toInt32)), .val (.int (p5 &&& (255 : Int32))), .unset, .unset, .unset, .unset, .unset, .unset, .unset, .unset, .unset, .unset]) rfl k_) ?_
    show Run _ _ _ _ (TJ98.setTop (mkF m 34 #[.val (.int p1), .val (.int p2), .val (.int p3), .val (.int p4), .val (.int p5), .val (.int p6), .val (.int fl), .val (.int rs), .val (.int (p4.toInt16.toInt32)), .val (.int (p5 &&& (255 : Int32))), .unset, .unset, .unset, .unset, .unset, .unset, .unset, .unset, .unset, .unset] []))
    refine Run.step (fun t_ k_ => XS.iload XJ98.here hx rfl (hb hby at_34) rfl k_) ?_
    show Run _ _ _ _ (TJ98.setTop (mkF m 36 #[.val (.int p1), .val (.int p2), .val (.int p3), .val (.int p4), .val (.int p5), .val (.int p6), .val (.int fl), .val (.int rs), .val (.int (p4.toInt16.toInt32)), .val (.int (p5 &&& (255 : Int32))), .unset, .unset, .unset, .unset, .unset, .unset, .unset, .unset, .unset, .unset] [(.int p6)]))
    refine Run.step (fun t_ k_ => XJ98.ldcInt hx hown (mvT hZ w0) (g := (mkF m 36 #[.val (.int p1), .val (.int p2), .val (.int p3), .val (.int p4), .val (.int p5), .val (.int p6), .val (.int fl), .val (.int rs), .val (.int (p4.toInt16.toInt32)), .val (.int (p5 &&& (255 : Int32))), .unset, .unset, .unset, .unset, .unset, .unset, .unset, .unset, .unset, .unset] [(.int p6)])) rfl (hb hby at_36) _ k_) ?_
    show Run _ _ _ _ (TJ98.setTop (mkF m 38 #[.val (.int p1), .val (.int p2), .val (.int p3), .val (.int p4), .val (.int p5), .val (.int p6), .val (.int fl), .val (.int rs), .val (.int (p4.toInt16.toInt32)), .val (.int (p5 &&& (255 : Int32))), .unset, .unset, .unset, .unset, .unset, .unset, .unset, .unset, .unset, .unset] [(.int (2147483647 : Int32)), (.int p6)]))
    refine Run.step (fun t_ k_ => XS.iand XJ98.here hx rfl (hb hby at_38) rfl k_) ?_
    show Run _ _ _ _ (TJ98.setTop (mkF m 39 #[.val (.int p1), .val (.int p2), .val (.int p3), .val (.int p4), .val (.int p5), .val (.int p6), .val (.int fl), .val (.int rs), .val (.int (p4.toInt16.toInt32)), .val (.int (p5 &&& (255 : Int32))), .unset, .unset, .unset, .unset, .unset, .unset, .unset, .unset, .unset, .unset] [(.int (p6 &&& (2147483647 : Int32)))]))
    refine Run.step (fun t_ k_ => XJ98.ldcInt hx hown (mvT hZ w1) (g := (mkF m 39 #[.val (.int p1), .val (.int p2), .val (.int p3), .val (.int p4), .val (.int p5), .val (.int p6), .val (.int fl), .val (.int rs), .val (.int (p4.toInt16.toInt32)), .val (.int (p5 &&& (255 : Int32))), .unset, .unset, .unset, .unset, .unset, .unset, .unset, .unset, .unset, .unset] [(.int (p6 &&& (2147483647 : Int32)))])) rfl (hb hby at_39) _ k_) ?_
    show Run _ _ _ _ (TJ98.setTop (mkF m 41 #[.val (.int p1), .val (.int p2), .val (.int p3), .val (.int p4), .val (.int p5), .val (.int p6), .val (.int fl), .val (.int rs), .val (.int (p4.toInt16.toInt32)), .val (.int (p5 &&& (255 : Int32))), .unset, .unset, .unset, .unset, .unset, .unset, .unset, .unset, .unset, .unset] [(.int (268435448 : Int32)), (.int (p6 &&& (2147483647 : Int32)))]))
    refine Run.step (fun t_ k_ => iremM XJ98 hx rfl (hb hby at_41) rfl (by decide) k_) ?_
    show Run _ _ _ _ (TJ98.setTop (mkF m 42 #[.val (.int p1), .val (.int p2), .val (.int p3), .val (.int p4), .val (.int p5), .val (.int p6), .val (.int fl), .val (.int rs), .val (.int (p4.toInt16.toInt32)), .val (.int (p5 &&& (255 : Int32))), .unset, .unset, .unset, .unset, .unset, .unset, .unset, .unset, .unset, .unset] [(.int ((p6 &&& (2147483647 : Int32)) % (268435448 : Int32)))]))
    refine Run.step (fun t_ k_ => XS.istore XJ98.here hx rfl (hb hby at_42) rfl (l' := #[.val (.int p1), .val (.int p2), .val (.int p3), .val (.int p4), .val (.int p5), .val (.int p6), .val (.int fl), .val (.int rs), .val (.int (p4.toInt16.toInt32)), .val (.int (p5 &&& (255 : Int32))), .val (.int ((p6 &&& (2147483647 : Int32)) % (268435448 : Int32))), .unset, .unset, .unset, .unset, .unset, .unset, .unset, .unset, .unset]) rfl k_) ?_
    show Run _ _ _ _ (TJ98.setTop (mkF m 44 #[.val (.int p1), .val (.int p2), .val (.int p3), .val (.int p4), .val (.int p5), .val (.int p6), .val (.int fl), .val (.int rs), .val (.int (p4.toInt16.toInt32)), .val (.int (p5 &&& (255 : Int32))), .val (.int ((p6 &&& (2147483647 : Int32)) % (268435448 : Int32))), .unset, .unset, .unset, .unset, .unset, .unset, .unset, .unset, .unset] []))
    obtain ⟨T99, h99, X99, e99, E99, A99, D99, -, st99⟩ := newO XJ98 hx hZ hown w2 w3 w4 eJ98 (g := (mkF m 44 #[.val (.int p1), .val (.int p2), .val (.int p3), .val (.int p4), .val (.int p5), .val (.int p6), .val (.int fl), .val (.int rs), .val (.int (p4.toInt16.toInt32)), .val (.int (p5 &&& (255 : Int32))), .val (.int ((p6 &&& (2147483647 : Int32)) % (268435448 : Int32))), .unset, .unset, .unset, .unset, .unset, .unset, .unset, .unset, .unset] [])) rfl (hb hby at_44) (by decide) (by decide)
    obtain ⟨b99, g99⟩ : ∃ z, z = h0.size := ⟨_, rfl⟩
    rw [← g99] at A99 D99 st99
    refine Run.step st99 ?_
    have g_b99 : n0 ≤ b99 := Nat.le_trans Z0 (Nat.le_of_eq g99.symm)
    have z100 := Nat.le_trans Z0 E99.1
    have y101 := Nat.le_trans (Nat.zero_le _) E99.1
    have f102 : Fld Z h99 b99 "com/example/hashspace/hashspace/protocol/FrameHeader" "response" "Z" (.int (0 : Int32)) := D99 (Or.inr w27) (ty := .boolean) (by decide)
    have f103 : Fld Z h99 b99 "com/example/hashspace/hashspace/protocol/FrameHeader" "flags" "I" (.int (0 : Int32)) := D99 (Or.inr w29) (ty := .int) (by decide)
    have f104 : Fld Z h99 b99 "com/example/hashspace/hashspace/protocol/FrameHeader" "stream" "I" (.int (0 : Int32)) := D99 (Or.inr w31) (ty := .int) (by decide)
    have f105 : Fld Z h99 b99 "com/example/hashspace/hashspace/protocol/FrameHeader" "opcode" "I" (.int (0 : Int32)) := D99 (Or.inr w33) (ty := .int) (by decide)
    have f106 : Fld Z h99 b99 "com/example/hashspace/hashspace/protocol/FrameHeader" "bodyLength" "I" (.int (0 : Int32)) := D99 (Or.inr w35) (ty := .int) (by decide)
    show Run _ _ _ _ (T99.setTop (mkF m 47 #[.val (.int p1), .val (.int p2), .val (.int p3), .val (.int p4), .val (.int p5), .val (.int p6), .val (.int fl), .val (.int rs), .val (.int (p4.toInt16.toInt32)), .val (.int (p5 &&& (255 : Int32))), .val (.int ((p6 &&& (2147483647 : Int32)) % (268435448 : Int32))), .unset, .unset, .unset, .unset, .unset, .unset, .unset, .unset, .unset] [(.ref b99)]))
    refine Run.step (fun t_ k_ => XS.dup X99.here hx rfl (hb hby at_47) rfl rfl k_) ?_
    show Run _ _ _ _ (T99.setTop (mkF m 48 #[.val (.int p1), .val (.int p2), .val (.int p3), .val (.int p4), .val (.int p5), .val (.int p6), .val (.int fl), .val (.int rs), .val (.int (p4.toInt16.toInt32)), .val (.int (p5 &&& (255 : Int32))), .val (.int ((p6 &&& (2147483647 : Int32)) % (268435448 : Int32))), .unset, .unset, .unset, .unset, .unset, .unset, .unset, .unset, .unset] [(.ref b99), (.ref b99)]))
    refine Run.step (fun t_ k_ => XS.iload X99.here hx rfl (hb hby at_48) rfl k_) ?_
    show Run _ _ _ _ (T99.setTop (mkF m 50 #[.val (.int p1), .val (.int p2), .val (.int p3), .val (.int p4), .val (.int p5), .val (.int p6), .val (.int fl), .val (.int rs), .val (.int (p4.toInt16.toInt32)), .val (.int (p5 &&& (255 : Int32))), .val (.int ((p6 &&& (2147483647 : Int32)) % (268435448 : Int32))), .unset, .unset, .unset, .unset, .unset, .unset, .unset, .unset, .unset] [(.int rs), (.ref b99), (.ref b99)]))
    refine Run.step (fun t_ k_ => XS.iload X99.here hx rfl (hb hby at_50) rfl k_) ?_
    show Run _ _ _ _ (T99.setTop (mkF m 52 #[.val (.int p1), .val (.int p2), .val (.int p3), .val (.int p4), .val (.int p5), .val (.int p6), .val (.int fl), .val (.int rs), .val (.int (p4.toInt16.toInt32)), .val (.int (p5 &&& (255 : Int32))), .val (.int ((p6 &&& (2147483647 : Int32)) % (268435448 : Int32))), .unset, .unset, .unset, .unset, .unset, .unset, .unset, .unset, .unset] [(.int fl), (.int rs), (.ref b99), (.ref b99)]))
    refine Run.step (fun t_ k_ => XS.iload X99.here hx rfl (hb hby at_52) rfl k_) ?_
    show Run _ _ _ _ (T99.setTop (mkF m 54 #[.val (.int p1), .val (.int p2), .val (.int p3), .val (.int p4), .val (.int p5), .val (.int p6), .val (.int fl), .val (.int rs), .val (.int (p4.toInt16.toInt32)), .val (.int (p5 &&& (255 : Int32))), .val (.int ((p6 &&& (2147483647 : Int32)) % (268435448 : Int32))), .unset, .unset, .unset, .unset, .unset, .unset, .unset, .unset, .unset] [(.int (p4.toInt16.toInt32)), (.int fl), (.int rs), (.ref b99), (.ref b99)]))
    refine Run.step (fun t_ k_ => XS.iload X99.here hx rfl (hb hby at_54) rfl k_) ?_
    show Run _ _ _ _ (T99.setTop (mkF m 56 #[.val (.int p1), .val (.int p2), .val (.int p3), .val (.int p4), .val (.int p5), .val (.int p6), .val (.int fl), .val (.int rs), .val (.int (p4.toInt16.toInt32)), .val (.int (p5 &&& (255 : Int32))), .val (.int ((p6 &&& (2147483647 : Int32)) % (268435448 : Int32))), .unset, .unset, .unset, .unset, .unset, .unset, .unset, .unset, .unset] [(.int (p5 &&& (255 : Int32))), (.int (p4.toInt16.toInt32)), (.int fl), (.int rs), (.ref b99), (.ref b99)]))
    refine Run.step (fun t_ k_ => XS.iload X99.here hx rfl (hb hby at_56) rfl k_) ?_
    show Run _ _ _ _ (T99.setTop (mkF m 58 #[.val (.int p1), .val (.int p2), .val (.int p3), .val (.int p4), .val (.int p5), .val (.int p6), .val (.int fl), .val (.int rs), .val (.int (p4.toInt16.toInt32)), .val (.int (p5 &&& (255 : Int32))), .val (.int ((p6 &&& (2147483647 : Int32)) % (268435448 : Int32))), .unset, .unset, .unset, .unset, .unset, .unset, .unset, .unset, .unset] [(.int ((p6 &&& (2147483647 : Int32)) % (268435448 : Int32))), (.int (p5 &&& (255 : Int32))), (.int (p4.toInt16.toInt32)), (.int fl), (.int rs), (.ref b99), (.ref b99)]))
    obtain ⟨_, _, ⟨T107, L107, k107, n107⟩, -, X107, hS107, hg107, ⟨Lc107, hQ107, l107, y107, z107⟩, st107⟩ := X99.specialBackS hx (y := (⟨"com/example/hashspace/hashspace/protocol/FrameHeader", "<init>", "(ZIIII)V"⟩ : MethodName)) rfl hown (mvT hZ w5) (mvT hZ w6) (mvT hZ w7) (by decide) (backOfS (W := 1) (rm1 l Z a0 hw [] b99 rs fl (p4.toInt16.toInt32) (p5 &&& (255 : Int32)) ((p6 &&& (2147483647 : Int32)) % (268435448 : Int32)) h99 n0 z100 hv98 (by rw [hfl]; exact (own_255 p1).1) (by rw [hfl]; exact (own_255 p1).2) (own_short p4).1 (own_short p4).2 (own_255 p5).1 (own_255 p5).2 (own_body p6).1 (own_body p6).2 f102 f103 f104 f105 f106 A99 g_b99) hZ w7 w4 (by decide) (by decide)) (g := (mkF m 58 #[.val (.int p1), .val (.int p2), .val (.int p3), .val (.int p4), .val (.int p5), .val (.int p6), .val (.int fl), .val (.int rs), .val (.int (p4.toInt16.toInt32)), .val (.int (p5 &&& (255 : Int32))), .val (.int ((p6 &&& (2147483647 : Int32)) % (268435448 : Int32))), .unset, .unset, .unset, .unset, .unset, .unset, .unset, .unset, .unset] [(.int ((p6 &&& (2147483647 : Int32)) % (268435448 : Int32))), (.int (p5 &&& (255 : Int32))), (.int (p4.toInt16.toInt32)), (.int fl), (.int rs), (.ref b99), (.ref b99)])) rfl (by rw [hml]; rfl) (Steps.refl _) (a := b99) (argsL := [(.int rs), (.int fl), (.int (p4.toInt16.toInt32)), (.int (p5 &&& (255 : Int32))), (.int ((p6 &&& (2147483647 : Int32)) % (268435448 : Int32)))]) (rest := [(.ref b99)]) (lenOf pd__28ZIIII_29V rfl) rfl (by show 2 * 0 + _ ≤ _; exact Nat.le_of_eq rfl) (hb hby at_58) (fun _ _ => ⟨rfl, e99, (by decide : 1 + 8 ≤ _), (by decide : 5 + 128 ≤ _)⟩)
    dsimp only [Pt.U, Pt.locs, Pt.cells, Pt.slots] at X107 l107 y107 z107 st107 hQ107 hS107 hg107
    subst l107 y107 z107
    refine Run.step (fun t k => st107.trans k) ?_
    obtain ⟨X107, hS107, hZ, hown⟩ := rebS (s := s) hS0 (by rw [e99]; exact y101) X107 hS107 hg107 hZ hown
    obtain ⟨rfl, N107q, K107q, fr107⟩ := hQ107
    have N107 := Fr.app NJ98 N107q
    have f108 := A99.keep K107q
    have z114 := Nat.le_trans z100 K107q.1
    show Run _ _ _ _ (T107.setTop (mkF m 61 #[.val (.int p1), .val (.int p2), .val (.int p3), .val (.int p4), .val (.int p5), .val (.int p6), .val (.int fl), .val (.int rs), .val (.int (p4.toInt16.toInt32)), .val (.int (p5 &&& (255 : Int32))), .val (.int ((p6 &&& (2147483647 : Int32)) % (268435448 : Int32))), .unset, .unset, .unset, .unset, .unset, .unset, .unset, .unset, .unset] [(.ref b99)]))
    refine Run.step (fun t_ k_ => XS.astore X107.here hx rfl (hb hby at_61) rfl rfl (l' := #[.val (.int p1), .val (.int p2), .val (.int p3), .val (.int p4), .val (.int p5), .val (.int p6), .val (.int fl), .val (.int rs), .val (.int (p4.toInt16.toInt32)), .val (.int (p5 &&& (255 : Int32))), .val (.int ((p6 &&& (2147483647 : Int32)) % (268435448 : Int32))), .val (.ref b99), .unset, .unset, .unset, .unset, .unset, .unset, .unset, .unset]) rfl k_) ?_
    show Run _ _ _ _ (T107.setTop (mkF m 63 #[.val (.int p1), .val (.int p2), .val (.int p3), .val (.int p4), .val (.int p5), .val (.int p6), .val (.int fl), .val (.int rs), .val (.int (p4.toInt16.toInt32)), .val (.int (p5 &&& (255 : Int32))), .val (.int ((p6 &&& (2147483647 : Int32)) % (268435448 : Int32))), .val (.ref b99), .unset, .unset, .unset, .unset, .unset, .unset, .unset, .unset] []))
    refine Run.step (fun t_ k_ => XS.iloadN X107.here hx rfl (hb hby at_63) rfl k_) ?_
    show Run _ _ _ _ (T107.setTop (mkF m 64 #[.val (.int p1), .val (.int p2), .val (.int p3), .val (.int p4), .val (.int p5), .val (.int p6), .val (.int fl), .val (.int rs), .val (.int (p4.toInt16.toInt32)), .val (.int (p5 &&& (255 : Int32))), .val (.int ((p6 &&& (2147483647 : Int32)) % (268435448 : Int32))), .val (.ref b99), .unset, .unset, .unset, .unset, .unset, .unset, .unset, .unset] [(.int p3)]))
    refine Run.step (fun t_ k_ => XS.bipush X107.here hx rfl (hb hby at_64) k_) ?_
    show Run _ _ _ _ (T107.setTop (mkF m 66 #[.val (.int p1), .val (.int p2), .val (.int p3), .val (.int p4), .val (.int p5), .val (.int p6), .val (.int fl), .val (.int rs), .val (.int (p4.toInt16.toInt32)), .val (.int (p5 &&& (255 : Int32))), .val (.int ((p6 &&& (2147483647 : Int32)) % (268435448 : Int32))), .val (.ref b99), .unset, .unset, .unset, .unset, .unset, .unset, .unset, .unset] [(.int (7 : Int32)), (.int p3)]))
    refine Run.step (fun t_ k_ => XS.iand X107.here hx rfl (hb hby at_66) rfl k_) ?_
    show Run _ _ _ _ (T107.setTop (mkF m 67 #[.val (.int p1), .val (.int p2), .val (.int p3), .val (.int p4), .val (.int p5), .val (.int p6), .val (.int fl), .val (.int rs), .val (.int (p4.toInt16.toInt32)), .val (.int (p5 &&& (255 : Int32))), .val (.int ((p6 &&& (2147483647 : Int32)) % (268435448 : Int32))), .val (.ref b99), .unset, .unset, .unset, .unset, .unset, .unset, .unset, .unset] [(.int (p3 &&& (7 : Int32)))]))
    refine Run.step (fun t_ k_ => XS.istore X107.here hx rfl (hb hby at_67) rfl (l' := #[.val (.int p1), .val (.int p2), .val (.int p3), .val (.int p4), .val (.int p5), .val (.int p6), .val (.int fl), .val (.int rs), .val (.int (p4.toInt16.toInt32)), .val (.int (p5 &&& (255 : Int32))), .val (.int ((p6 &&& (2147483647 : Int32)) % (268435448 : Int32))), .val (.ref b99), .val (.int (p3 &&& (7 : Int32))), .unset, .unset, .unset, .unset, .unset, .unset, .unset]) rfl k_) ?_
    show Run _ _ _ _ (T107.setTop (mkF m 69 #[.val (.int p1), .val (.int p2), .val (.int p3), .val (.int p4), .val (.int p5), .val (.int p6), .val (.int fl), .val (.int rs), .val (.int (p4.toInt16.toInt32)), .val (.int (p5 &&& (255 : Int32))), .val (.int ((p6 &&& (2147483647 : Int32)) % (268435448 : Int32))), .val (.ref b99), .val (.int (p3 &&& (7 : Int32))), .unset, .unset, .unset, .unset, .unset, .unset, .unset] []))
    obtain ⟨bt, hbt⟩ : ∃ z, z = (p3 &&& (7 : Int32)) := ⟨_, rfl⟩
    rw [← hbt]
    show Run _ _ _ _ (T107.setTop (mkF m 69 #[.val (.int p1), .val (.int p2), .val (.int p3), .val (.int p4), .val (.int p5), .val (.int p6), .val (.int fl), .val (.int rs), .val (.int (p4.toInt16.toInt32)), .val (.int (p5 &&& (255 : Int32))), .val (.int ((p6 &&& (2147483647 : Int32)) % (268435448 : Int32))), .val (.ref b99), .val (.int bt), .unset, .unset, .unset, .unset, .unset, .unset, .unset] []))
    refine Run.step (fun t_ k_ => XS.iconst X107.here hx rfl (hb hby at_69) k_) ?_
    show Run _ _ _ _ (T107.setTop (mkF m 70 #[.val (.int p1), .val (.int p2), .val (.int p3), .val (.int p4), .val (.int p5), .val (.int p6), .val (.int fl), .val (.int rs), .val (.int (p4.toInt16.toInt32)), .val (.int (p5 &&& (255 : Int32))), .val (.int ((p6 &&& (2147483647 : Int32)) % (268435448 : Int32))), .val (.ref b99), .val (.int bt), .unset, .unset, .unset, .unset, .unset, .unset, .unset] [(.int (1 : Int32))]))
    refine Run.step (fun t_ k_ => XS.iload X107.here hx rfl (hb hby at_70) rfl k_) ?_
    show Run _ _ _ _ (T107.setTop (mkF m 72 #[.val (.int p1), .val (.int p2), .val (.int p3), .val (.int p4), .val (.int p5), .val (.int p6), .val (.int fl), .val (.int rs), .val (.int (p4.toInt16.toInt32)), .val (.int (p5 &&& (255 : Int32))), .val (.int ((p6 &&& (2147483647 : Int32)) % (268435448 : Int32))), .val (.ref b99), .val (.int bt), .unset, .unset, .unset, .unset, .unset, .unset, .unset] [(.int bt), (.int (1 : Int32))]))
    refine Run.step (fun t_ k_ => XS.ishl X107.here hx rfl (hb hby at_72) rfl k_) ?_
    show Run _ _ _ _ (T107.setTop (mkF m 73 #[.val (.int p1), .val (.int p2), .val (.int p3), .val (.int p4), .val (.int p5), .val (.int p6), .val (.int fl), .val (.int rs), .val (.int (p4.toInt16.toInt32)), .val (.int (p5 &&& (255 : Int32))), .val (.int ((p6 &&& (2147483647 : Int32)) % (268435448 : Int32))), .val (.ref b99), .val (.int bt), .unset, .unset, .unset, .unset, .unset, .unset, .unset] [(.int ((1 : Int32) <<< (bt &&& 31)))]))
    refine Run.step (fun t_ k_ => XS.istore X107.here hx rfl (hb hby at_73) rfl (l' := #[.val (.int p1), .val (.int p2), .val (.int p3), .val (.int p4), .val (.int p5), .val (.int p6), .val (.int fl), .val (.int rs), .val (.int (p4.toInt16.toInt32)), .val (.int (p5 &&& (255 : Int32))), .val (.int ((p6 &&& (2147483647 : Int32)) % (268435448 : Int32))), .val (.ref b99), .val (.int bt), .val (.int ((1 : Int32) <<< (bt &&& 31))), .unset, .unset, .unset, .unset, .unset, .unset]) rfl k_) ?_
    show Run _ _ _ _ (T107.setTop (mkF m 75 #[.val (.int p1), .val (.int p2), .val (.int p3), .val (.int p4), .val (.int p5), .val (.int p6), .val (.int fl), .val (.int rs), .val (.int (p4.toInt16.toInt32)), .val (.int (p5 &&& (255 : Int32))), .val (.int ((p6 &&& (2147483647 : Int32)) % (268435448 : Int32))), .val (.ref b99), .val (.int bt), .val (.int ((1 : Int32) <<< (bt &&& 31))), .unset, .unset, .unset, .unset, .unset, .unset] []))
    obtain ⟨sg, hsg⟩ : ∃ z, z = ((1 : Int32) <<< (bt &&& 31)) := ⟨_, rfl⟩
    rw [← hsg]
    show Run _ _ _ _ (T107.setTop (mkF m 75 #[.val (.int p1), .val (.int p2), .val (.int p3), .val (.int p4), .val (.int p5), .val (.int p6), .val (.int fl), .val (.int rs), .val (.int (p4.toInt16.toInt32)), .val (.int (p5 &&& (255 : Int32))), .val (.int ((p6 &&& (2147483647 : Int32)) % (268435448 : Int32))), .val (.ref b99), .val (.int bt), .val (.int sg), .unset, .unset, .unset, .unset, .unset, .unset] []))
    have hbit : (fl &&& sg) = sg ↔ (((fl.toUInt32 >>> (bt &&& 31).toUInt32).toInt32) &&& (1 : Int32)) = (1 : Int32) := by rw [hsg, hfl, hbt]; exact own_bit p1 p3
    refine Run.step (fun t_ k_ => XS.aload X107.here hx rfl (hb hby at_75) rfl rfl k_) ?_
    show Run _ _ _ _ (T107.setTop (mkF m 77 #[.val (.int p1), .val (.int p2), .val (.int p3), .val (.int p4), .val (.int p5), .val (.int p6), .val (.int fl), .val (.int rs), .val (.int (p4.toInt16.toInt32)), .val (.int (p5 &&& (255 : Int32))), .val (.int ((p6 &&& (2147483647 : Int32)) % (268435448 : Int32))), .val (.ref b99), .val (.int bt), .val (.int sg), .unset, .unset, .unset, .unset, .unset, .unset] [(.ref b99)]))
    refine Run.step (fun t_ k_ => XS.iloadN X107.here hx rfl (hb hby at_77) rfl k_) ?_
    show Run _ _ _ _ (T107.setTop (mkF m 78 #[.val (.int p1), .val (.int p2), .val (.int p3), .val (.int p4), .val (.int p5), .val (.int p6), .val (.int fl), .val (.int rs), .val (.int (p4.toInt16.toInt32)), .val (.int (p5 &&& (255 : Int32))), .val (.int ((p6 &&& (2147483647 : Int32)) % (268435448 : Int32))), .val (.ref b99), .val (.int bt), .val (.int sg), .unset, .unset, .unset, .unset, .unset, .unset] [(.int p2), (.ref b99)]))
    obtain ⟨cq115, kq115, q115a, q115b, q115c⟩ := isOf hZ rfl f108
    obtain ⟨_, _, ⟨T115, L115, k115, n115⟩, -, X115, ⟨Lc115, hQ115, l115, y115, z115⟩, st115⟩ := X107.virtualBack hx (y := (⟨"com/example/hashspace/hashspace/protocol/FrameHeader", "hasFlag", "(I)Z"⟩ : MethodName)) (z := (⟨"com/example/hashspace/hashspace/protocol/FrameHeader", "hasFlag", "(I)Z"⟩ : MethodName)) hown (mvT hZ w36) (mvT hZ w37) (notFace_of_selects (args := #[]) (mvT hZ w39)) (mvT hZ w39) (mvT hZ w38) (by decide) (backOf (W := 0) (rm4 l Z a0 hw [] b99 fl p2 T107.heap n0 z114 fr107) hZ w40 w4 (by decide) (by decide)) q115a q115c (g := (mkF m 78 #[.val (.int p1), .val (.int p2), .val (.int p3), .val (.int p4), .val (.int p5), .val (.int p6), .val (.int fl), .val (.int rs), .val (.int (p4.toInt16.toInt32)), .val (.int (p5 &&& (255 : Int32))), .val (.int ((p6 &&& (2147483647 : Int32)) % (268435448 : Int32))), .val (.ref b99), .val (.int bt), .val (.int sg), .unset, .unset, .unset, .unset, .unset, .unset] [(.int p2), (.ref b99)])) rfl (by rw [hml]; rfl) (Steps.refl _) (argsL := [(.int p2)]) (rest := []) (lenOf pd__28I_29Z rfl) rfl (by show 2 * 0 + _ ≤ _; exact Nat.le_of_eq rfl) (hb hby at_78) (fun _ _ => ⟨rfl, rfl, (by decide : 9 + 0 ≤ _), (by decide : 133 + 0 ≤ _)⟩)
    dsimp only [Pt.U, Pt.locs, Pt.cells, Pt.slots] at X115 l115 y115 z115 st115 hQ115
    subst l115 y115 z115
    refine Run.step (fun t k => st115.trans k) ?_
    obtain ⟨rfl, N115q, e115q⟩ := hQ115
    have N115 := Fr.app N107 N115q
    show Run _ _ _ _ (T115.setTop (mkF m 81 #[.val (.int p1), .val (.int p2), .val (.int p3), .val (.int p4), .val (.int p5), .val (.int p6), .val (.int fl), .val (.int rs), .val (.int (p4.toInt16.toInt32)), .val (.int (p5 &&& (255 : Int32))), .val (.int ((p6 &&& (2147483647 : Int32)) % (268435448 : Int32))), .val (.ref b99), .val (.int bt), .val (.int sg), .unset, .unset, .unset, .unset, .unset, .unset] [(.int (if (fl &&& p2) = p2 then 1 else 0))]))
    refine Run.step (fun t_ k_ => XS.istore X115.here hx rfl (hb hby at_81) rfl (l' := #[.val (.int p1), .val (.int p2), .val (.int p3), .val (.int p4), .val (.int p5), .val (.int p6), .val (.int fl), .val (.int rs), .val (.int (p4.toInt16.toInt32)), .val (.int (p5 &&& (255 : Int32))), .val (.int ((p6 &&& (2147483647 : Int32)) % (268435448 : Int32))), .val (.ref b99), .val (.int bt), .val (.int sg), .val (.int (if (fl &&& p2) = p2 then 1 else 0)), .unset, .unset, .unset, .unset, .unset]) rfl k_) ?_
    show Run _ _ _ _ (T115.setTop (mkF m 83 #[.val (.int p1), .val (.int p2), .val (.int p3), .val (.int p4), .val (.int p5), .val (.int p6), .val (.int fl), .val (.int rs), .val (.int (p4.toInt16.toInt32)), .val (.int (p5 &&& (255 : Int32))), .val (.int ((p6 &&& (2147483647 : Int32)) % (268435448 : Int32))), .val (.ref b99), .val (.int bt), .val (.int sg), .val (.int (if (fl &&& p2) = p2 then 1 else 0)), .unset, .unset, .unset, .unset, .unset] []))
    refine Run.step (fun t_ k_ => XS.iload X115.here hx rfl (hb hby at_83) rfl k_) ?_
    show Run _ _ _ _ (T115.setTop (mkF m 85 #[.val (.int p1), .val (.int p2), .val (.int p3), .val (.int p4), .val (.int p5), .val (.int p6), .val (.int fl), .val (.int rs), .val (.int (p4.toInt16.toInt32)), .val (.int (p5 &&& (255 : Int32))), .val (.int ((p6 &&& (2147483647 : Int32)) % (268435448 : Int32))), .val (.ref b99), .val (.int bt), .val (.int sg), .val (.int (if (fl &&& p2) = p2 then 1 else 0)), .unset, .unset, .unset, .unset, .unset] [(.int fl)]))
    refine Run.step (fun t_ k_ => XS.iloadN X115.here hx rfl (hb hby at_85) rfl k_) ?_
    show Run _ _ _ _ (T115.setTop (mkF m 86 #[.val (.int p1), .val (.int p2), .val (.int p3), .val (.int p4), .val (.int p5), .val (.int p6), .val (.int fl), .val (.int rs), .val (.int (p4.toInt16.toInt32)), .val (.int (p5 &&& (255 : Int32))), .val (.int ((p6 &&& (2147483647 : Int32)) % (268435448 : Int32))), .val (.ref b99), .val (.int bt), .val (.int sg), .val (.int (if (fl &&& p2) = p2 then 1 else 0)), .unset, .unset, .unset, .unset, .unset] [(.int p2), (.int fl)]))
    refine Run.step (fun t_ k_ => XS.ior X115.here hx rfl (hb hby at_86) rfl k_) ?_
    show Run _ _ _ _ (T115.setTop (mkF m 87 #[.val (.int p1), .val (.int p2), .val (.int p3), .val (.int p4), .val (.int p5), .val (.int p6), .val (.int fl), .val (.int rs), .val (.int (p4.toInt16.toInt32)), .val (.int (p5 &&& (255 : Int32))), .val (.int ((p6 &&& (2147483647 : Int32)) % (268435448 : Int32))), .val (.ref b99), .val (.int bt), .val (.int sg), .val (.int (if (fl &&& p2) = p2 then 1 else 0)), .unset, .unset, .unset, .unset, .unset] [(.int (fl ||| p2))]))
    refine Run.step (fun t_ k_ => XS.iload X115.here hx rfl (hb hby at_87) rfl k_) ?_
    show Run _ _ _ _ (T115.setTop (mkF m 89 #[.val (.int p1), .val (.int p2), .val (.int p3), .val (.int p4), .val (.int p5), .val (.int p6), .val (.int fl), .val (.int rs), .val (.int (p4.toInt16.toInt32)), .val (.int (p5 &&& (255 : Int32))), .val (.int ((p6 &&& (2147483647 : Int32)) % (268435448 : Int32))), .val (.ref b99), .val (.int bt), .val (.int sg), .val (.int (if (fl &&& p2) = p2 then 1 else 0)), .unset, .unset, .unset, .unset, .unset] [(.int fl), (.int (fl ||| p2))]))
    have J116 : ∀ (TJ116 : State) (LJ116 : List Loc) (XJ116 : Stand p l e room_1 (s.setVm T107.vm) m #[(.int p1), (.int p2), (.int p3), (.int p4), (.int p5), (.int p6)] below meth c TJ116 LJ116 9 133) (eJ116 : TJ116.heap = T107.heap) (NJ116 : Fr n0 LJ116) (rf : Int32), (rf = if (fl ||| p2) = fl then 1 else 0) → Run p.tables e below (PW s below 24 4224 (Q0 Z p1 p2 p3 p4 p5 p6 h0 n0)) (TJ116.setTop (mkF m 97 #[.val (.int p1), .val (.int p2), .val (.int p3), .val (.int p4), .val (.int p5), .val (.int p6), .val (.int fl), .val (.int rs), .val (.int (p4.toInt16.toInt32)), .val (.int (p5 &&& (255 : Int32))), .val (.int ((p6 &&& (2147483647 : Int32)) % (268435448 : Int32))), .val (.ref b99), .val (.int bt), .val (.int sg), .val (.int (if (fl &&& p2) = p2 then 1 else 0)), .unset, .unset, .unset, .unset, .unset] [(.int rf)])) := by
      intro TJ116 LJ116 XJ116 eJ116 NJ116 rf hv116
      refine Run.step (fun t_ k_ => XS.istore XJ116.here hx rfl (hb hby at_97) rfl (l' := #[.val (.int p1), .val (.int p2), .val (.int p3), .val (.int p4), .val (.int p5), .val (.int p6), .val (.int fl), .val (.int rs), .val (.int (p4.toInt16.toInt32)), .val (.int (p5 &&& (255 : Int32))), .val (.int ((p6 &&& (2147483647 : Int32)) % (268435448 : Int32))), .val (.ref b99), .val (.int bt), .val (.int sg), .val (.int (if (fl &&& p2) = p2 then 1 else 0)), .val (.int rf), .unset, .unset, .unset, .unset]) rfl k_) ?_
      show Run _ _ _ _ (TJ116.setTop (mkF m 99 #[.val (.int p1), .val (.int p2), .val (.int p3), .val (.int p4), .val (.int p5), .val (.int p6), .val (.int fl), .val (.int rs), .val (.int (p4.toInt16.toInt32)), .val (.int (p5 &&& (255 : Int32))), .val (.int ((p6 &&& (2147483647 : Int32)) % (268435448 : Int32))), .val (.ref b99), .val (.int bt), .val (.int sg), .val (.int (if (fl &&& p2) = p2 then 1 else 0)), .val (.int rf), .unset, .unset, .unset, .unset] []))
      refine Run.step (fun t_ k_ => XS.aload XJ116.here hx rfl (hb hby at_99) rfl rfl k_) ?_
      show Run _ _ _ _ (TJ116.setTop (mkF m 101 #[.val (.int p1), .val (.int p2), .val (.int p3), .val (.int p4), .val (.int p5), .val (.int p6), .val (.int fl), .val (.int rs), .val (.int (p4.toInt16.toInt32)), .val (.int (p5 &&& (255 : Int32))), .val (.int ((p6 &&& (2147483647 : Int32)) % (268435448 : Int32))), .val (.ref b99), .val (.int bt), .val (.int sg), .val (.int (if (fl &&& p2) = p2 then 1 else 0)), .val (.int rf), .unset, .unset, .unset, .unset] [(.ref b99)]))
      refine Run.step (fun t_ k_ => XS.iload XJ116.here hx rfl (hb hby at_101) rfl k_) ?_
      show Run _ _ _ _ (TJ116.setTop (mkF m 103 #[.val (.int p1), .val (.int p2), .val (.int p3), .val (.int p4), .val (.int p5), .val (.int p6), .val (.int fl), .val (.int rs), .val (.int (p4.toInt16.toInt32)), .val (.int (p5 &&& (255 : Int32))), .val (.int ((p6 &&& (2147483647 : Int32)) % (268435448 : Int32))), .val (.ref b99), .val (.int bt), .val (.int sg), .val (.int (if (fl &&& p2) = p2 then 1 else 0)), .val (.int rf), .unset, .unset, .unset, .unset] [(.int sg), (.ref b99)]))
      obtain ⟨cq117, kq117, q117a, q117b, q117c⟩ := isOf hZ eJ116 f108
      obtain ⟨_, _, ⟨T117, L117, k117, n117⟩, -, X117, ⟨Lc117, hQ117, l117, y117, z117⟩, st117⟩ := XJ116.virtualBack hx (y := (⟨"com/example/hashspace/hashspace/protocol/FrameHeader", "hasFlag", "(I)Z"⟩ : MethodName)) (z := (⟨"com/example/hashspace/hashspace/protocol/FrameHeader", "hasFlag", "(I)Z"⟩ : MethodName)) hown (mvT hZ w36) (mvT hZ w37) (notFace_of_selects (args := #[]) (mvT hZ w39)) (mvT hZ w39) (mvT hZ w38) (by decide) (backOf (W := 0) (rm4 l Z a0 hw [] b99 fl sg T107.heap n0 z114 fr107) hZ w40 w4 (by decide) (by decide)) q117a q117c (g := (mkF m 103 #[.val (.int p1), .val (.int p2), .val (.int p3), .val (.int p4), .val (.int p5), .val (.int p6), .val (.int fl), .val (.int rs), .val (.int (p4.toInt16.toInt32)), .val (.int (p5 &&& (255 : Int32))), .val (.int ((p6 &&& (2147483647 : Int32)) % (268435448 : Int32))), .val (.ref b99), .val (.int bt), .val (.int sg), .val (.int (if (fl &&& p2) = p2 then 1 else 0)), .val (.int rf), .unset, .unset, .unset, .unset] [(.int sg), (.ref b99)])) rfl (by rw [hml]; rfl) (Steps.refl _) (argsL := [(.int sg)]) (rest := []) (lenOf pd__28I_29Z rfl) rfl (by show 2 * 0 + _ ≤ _; exact Nat.le_of_eq rfl) (hb hby at_103) (fun _ _ => ⟨rfl, eJ116, (by decide : 9 + 0 ≤ _), (by decide : 133 + 0 ≤ _)⟩)
      dsimp only [Pt.U, Pt.locs, Pt.cells, Pt.slots] at X117 l117 y117 z117 st117 hQ117
      subst l117 y117 z117
      refine Run.step (fun t k => st117.trans k) ?_
      obtain ⟨rfl, N117q, e117q⟩ := hQ117
      have N117 := Fr.app NJ116 N117q
      show Run _ _ _ _ (T117.setTop (mkF m 106 #[.val (.int p1), .val (.int p2), .val (.int p3), .val (.int p4), .val (.int p5), .val (.int p6), .val (.int fl), .val (.int rs), .val (.int (p4.toInt16.toInt32)), .val (.int (p5 &&& (255 : Int32))), .val (.int ((p6 &&& (2147483647 : Int32)) % (268435448 : Int32))), .val (.ref b99), .val (.int bt), .val (.int sg), .val (.int (if (fl &&& p2) = p2 then 1 else 0)), .val (.int rf), .unset, .unset, .unset, .unset] [(.int (if (fl &&& sg) = sg then 1 else 0))]))
      refine Run.step (fun t_ k_ => XS.istore X117.here hx rfl (hb hby at_106) rfl (l' := #[.val (.int p1), .val (.int p2), .val (.int p3), .val (.int p4), .val (.int p5), .val (.int p6), .val (.int fl), .val (.int rs), .val (.int (p4.toInt16.toInt32)), .val (.int (p5 &&& (255 : Int32))), .val (.int ((p6 &&& (2147483647 : Int32)) % (268435448 : Int32))), .val (.ref b99), .val (.int bt), .val (.int sg), .val (.int (if (fl &&& p2) = p2 then 1 else 0)), .val (.int rf), .val (.int (if (fl &&& sg) = sg then 1 else 0)), .unset, .unset, .unset]) rfl k_) ?_
      show Run _ _ _ _ (T117.setTop (mkF m 108 #[.val (.int p1), .val (.int p2), .val (.int p3), .val (.int p4), .val (.int p5), .val (.int p6), .val (.int fl), .val (.int rs), .val (.int (p4.toInt16.toInt32)), .val (.int (p5 &&& (255 : Int32))), .val (.int ((p6 &&& (2147483647 : Int32)) % (268435448 : Int32))), .val (.ref b99), .val (.int bt), .val (.int sg), .val (.int (if (fl &&& p2) = p2 then 1 else 0)), .val (.int rf), .val (.int (if (fl &&& sg) = sg then 1 else 0)), .unset, .unset, .unset] []))
      refine Run.step (fun t_ k_ => XS.iload X117.here hx rfl (hb hby at_108) rfl k_) ?_
      show Run _ _ _ _ (T117.setTop (mkF m 110 #[.val (.int p1), .val (.int p2), .val (.int p3), .val (.int p4), .val (.int p5), .val (.int p6), .val (.int fl), .val (.int rs), .val (.int (p4.toInt16.toInt32)), .val (.int (p5 &&& (255 : Int32))), .val (.int ((p6 &&& (2147483647 : Int32)) % (268435448 : Int32))), .val (.ref b99), .val (.int bt), .val (.int sg), .val (.int (if (fl &&& p2) = p2 then 1 else 0)), .val (.int rf), .val (.int (if (fl &&& sg) = sg then 1 else 0)), .unset, .unset, .unset] [(.int fl)]))
      refine Run.step (fun t_ k_ => XS.iload X117.here hx rfl (hb hby at_110) rfl k_) ?_
      show Run _ _ _ _ (T117.setTop (mkF m 112 #[.val (.int p1), .val (.int p2), .val (.int p3), .val (.int p4), .val (.int p5), .val (.int p6), .val (.int fl), .val (.int rs), .val (.int (p4.toInt16.toInt32)), .val (.int (p5 &&& (255 : Int32))), .val (.int ((p6 &&& (2147483647 : Int32)) % (268435448 : Int32))), .val (.ref b99), .val (.int bt), .val (.int sg), .val (.int (if (fl &&& p2) = p2 then 1 else 0)), .val (.int rf), .val (.int (if (fl &&& sg) = sg then 1 else 0)), .unset, .unset, .unset] [(.int bt), (.int fl)]))
      refine Run.step (fun t_ k_ => XS.iushr X117.here hx rfl (hb hby at_112) rfl k_) ?_
      show Run _ _ _ _ (T117.setTop (mkF m 113 #[.val (.int p1), .val (.int p2), .val (.int p3), .val (.int p4), .val (.int p5), .val (.int p6), .val (.int fl), .val (.int rs), .val (.int (p4.toInt16.toInt32)), .val (.int (p5 &&& (255 : Int32))), .val (.int ((p6 &&& (2147483647 : Int32)) % (268435448 : Int32))), .val (.ref b99), .val (.int bt), .val (.int sg), .val (.int (if (fl &&& p2) = p2 then 1 else 0)), .val (.int rf), .val (.int (if (fl &&& sg) = sg then 1 else 0)), .unset, .unset, .unset] [(.int ((fl.toUInt32 >>> (bt &&& 31).toUInt32).toInt32))]))
      refine Run.step (fun t_ k_ => XS.iconst X117.here hx rfl (hb hby at_113) k_) ?_
      show Run _ _ _ _ (T117.setTop (mkF m 114 #[.val (.int p1), .val (.int p2), .val (.int p3), .val (.int p4), .val (.int p5), .val (.int p6), .val (.int fl), .val (.int rs), .val (.int (p4.toInt16.toInt32)), .val (.int (p5 &&& (255 : Int32))), .val (.int ((p6 &&& (2147483647 : Int32)) % (268435448 : Int32))), .val (.ref b99), .val (.int bt), .val (.int sg), .val (.int (if (fl &&& p2) = p2 then 1 else 0)), .val (.int rf), .val (.int (if (fl &&& sg) = sg then 1 else 0)), .unset, .unset, .unset] [(.int (1 : Int32)), (.int ((fl.toUInt32 >>> (bt &&& 31).toUInt32).toInt32))]))
      refine Run.step (fun t_ k_ => XS.iand X117.here hx rfl (hb hby at_114) rfl k_) ?_
      show Run _ _ _ _ (T117.setTop (mkF m 115 #[.val (.int p1), .val (.int p2), .val (.int p3), .val (.int p4), .val (.int p5), .val (.int p6), .val (.int fl), .val (.int rs), .val (.int (p4.toInt16.toInt32)), .val (.int (p5 &&& (255 : Int32))), .val (.int ((p6 &&& (2147483647 : Int32)) % (268435448 : Int32))), .val (.ref b99), .val (.int bt), .val (.int sg), .val (.int (if (fl &&& p2) = p2 then 1 else 0)), .val (.int rf), .val (.int (if (fl &&& sg) = sg then 1 else 0)), .unset, .unset, .unset] [(.int (((fl.toUInt32 >>> (bt &&& 31).toUInt32).toInt32) &&& (1 : Int32)))]))
      refine Run.step (fun t_ k_ => XS.iconst X117.here hx rfl (hb hby at_115) k_) ?_
      show Run _ _ _ _ (T117.setTop (mkF m 116 #[.val (.int p1), .val (.int p2), .val (.int p3), .val (.int p4), .val (.int p5), .val (.int p6), .val (.int fl), .val (.int rs), .val (.int (p4.toInt16.toInt32)), .val (.int (p5 &&& (255 : Int32))), .val (.int ((p6 &&& (2147483647 : Int32)) % (268435448 : Int32))), .val (.ref b99), .val (.int bt), .val (.int sg), .val (.int (if (fl &&& p2) = p2 then 1 else 0)), .val (.int rf), .val (.int (if (fl &&& sg) = sg then 1 else 0)), .unset, .unset, .unset] [(.int (1 : Int32)), (.int (((fl.toUInt32 >>> (bt &&& 31).toUInt32).toInt32) &&& (1 : Int32)))]))
      have J118 : ∀ (TJ118 : State) (LJ118 : List Loc) (XJ118 : Stand p l e room_1 (s.setVm T107.vm) m #[(.int p1), (.int p2), (.int p3), (.int p4), (.int p5), (.int p6)] below meth c TJ118 LJ118 9 133) (eJ118 : TJ118.heap = T107.heap) (NJ118 : Fr n0 LJ118) (sr : Int32), (sr = if (((fl.toUInt32 >>> (bt &&& 31).toUInt32).toInt32) &&& (1 : Int32)) = (1 : Int32) then 1 else 0) → Run p.tables e below (PW s below 24 4224 (Q0 Z p1 p2 p3 p4 p5 p6 h0 n0)) (TJ118.setTop (mkF m 124 #[.val (.int p1), .val (.int p2), .val (.int p3), .val (.int p4), .val (.int p5), .val (.int p6), .val (.int fl), .val (.int rs), .val (.int (p4.toInt16.toInt32)), .val (.int (p5 &&& (255 : Int32))), .val (.int ((p6 &&& (2147483647 : Int32)) % (268435448 : Int32))), .val (.ref b99), .val (.int bt), .val (.int sg), .val (.int (if (fl &&& p2) = p2 then 1 else 0)), .val (.int rf), .val (.int (if (fl &&& sg) = sg then 1 else 0)), .unset, .unset, .unset] [(.int sr)])) := by
        intro TJ118 LJ118 XJ118 eJ118 NJ118 sr hv118
        refine Run.step (fun t_ k_ => XS.istore XJ118.here hx rfl (hb hby at_124) rfl (l' := #[.val (.int p1), .val (.int p2), .val (.int p3), .val (.int p4), .val (.int p5), .val (.int p6), .val (.int fl), .val (.int rs), .val (.int (p4.toInt16.toInt32)), .val (.int (p5 &&& (255 : Int32))), .val (.int ((p6 &&& (2147483647 : Int32)) % (268435448 : Int32))), .val (.ref b99), .val (.int bt), .val (.int sg), .val (.int (if (fl &&& p2) = p2 then 1 else 0)), .val (.int rf), .val (.int (if (fl &&& sg) = sg then 1 else 0)), .val (.int sr), .unset, .unset]) rfl k_) ?_
        show Run _ _ _ _ (TJ118.setTop (mkF m 126 #[.val (.int p1), .val (.int p2), .val (.int p3), .val (.int p4), .val (.int p5), .val (.int p6), .val (.int fl), .val (.int rs), .val (.int (p4.toInt16.toInt32)), .val (.int (p5 &&& (255 : Int32))), .val (.int ((p6 &&& (2147483647 : Int32)) % (268435448 : Int32))), .val (.ref b99), .val (.int bt), .val (.int sg), .val (.int (if (fl &&& p2) = p2 then 1 else 0)), .val (.int rf), .val (.int (if (fl &&& sg) = sg then 1 else 0)), .val (.int sr), .unset, .unset] []))
        refine Run.step (fun t_ k_ => XS.aload XJ118.here hx rfl (hb hby at_126) rfl rfl k_) ?_
        show Run _ _ _ _ (TJ118.setTop (mkF m 128 #[.val (.int p1), .val (.int p2), .val (.int p3), .val (.int p4), .val (.int p5), .val (.int p6), .val (.int fl), .val (.int rs), .val (.int (p4.toInt16.toInt32)), .val (.int (p5 &&& (255 : Int32))), .val (.int ((p6 &&& (2147483647 : Int32)) % (268435448 : Int32))), .val (.ref b99), .val (.int bt), .val (.int sg), .val (.int (if (fl &&& p2) = p2 then 1 else 0)), .val (.int rf), .val (.int (if (fl &&& sg) = sg then 1 else 0)), .val (.int sr), .unset, .unset] [(.ref b99)]))
        refine Run.step (fun t_ k_ => XS.iconst XJ118.here hx rfl (hb hby at_128) k_) ?_
        show Run _ _ _ _ (TJ118.setTop (mkF m 129 #[.val (.int p1), .val (.int p2), .val (.int p3), .val (.int p4), .val (.int p5), .val (.int p6), .val (.int fl), .val (.int rs), .val (.int (p4.toInt16.toInt32)), .val (.int (p5 &&& (255 : Int32))), .val (.int ((p6 &&& (2147483647 : Int32)) % (268435448 : Int32))), .val (.ref b99), .val (.int bt), .val (.int sg), .val (.int (if (fl &&& p2) = p2 then 1 else 0)), .val (.int rf), .val (.int (if (fl &&& sg) = sg then 1 else 0)), .val (.int sr), .unset, .unset] [(.int (0 : Int32)), (.ref b99)]))
        obtain ⟨cq119, kq119, q119a, q119b, q119c⟩ := isOf hZ eJ118 f108
        obtain ⟨_, _, ⟨T119, L119, k119, n119⟩, -, X119, ⟨Lc119, hQ119, l119, y119, z119⟩, st119⟩ := XJ118.virtualBack hx (y := (⟨"com/example/hashspace/hashspace/protocol/FrameHeader", "hasFlag", "(I)Z"⟩ : MethodName)) (z := (⟨"com/example/hashspace/hashspace/protocol/FrameHeader", "hasFlag", "(I)Z"⟩ : MethodName)) hown (mvT hZ w36) (mvT hZ w37) (notFace_of_selects (args := #[]) (mvT hZ w39)) (mvT hZ w39) (mvT hZ w38) (by decide) (backOf (W := 0) (rm4 l Z a0 hw [] b99 fl (0 : Int32) T107.heap n0 z114 fr107) hZ w40 w4 (by decide) (by decide)) q119a q119c (g := (mkF m 129 #[.val (.int p1), .val (.int p2), .val (.int p3), .val (.int p4), .val (.int p5), .val (.int p6), .val (.int fl), .val (.int rs), .val (.int (p4.toInt16.toInt32)), .val (.int (p5 &&& (255 : Int32))), .val (.int ((p6 &&& (2147483647 : Int32)) % (268435448 : Int32))), .val (.ref b99), .val (.int bt), .val (.int sg), .val (.int (if (fl &&& p2) = p2 then 1 else 0)), .val (.int rf), .val (.int (if (fl &&& sg) = sg then 1 else 0)), .val (.int sr), .unset, .unset] [(.int (0 : Int32)), (.ref b99)])) rfl (by rw [hml]; rfl) (Steps.refl _) (argsL := [(.int (0 : Int32))]) (rest := []) (lenOf pd__28I_29Z rfl) rfl (by show 2 * 0 + _ ≤ _; exact Nat.le_of_eq rfl) (hb hby at_129) (fun _ _ => ⟨rfl, eJ118, (by decide : 9 + 0 ≤ _), (by decide : 133 + 0 ≤ _)⟩)
        dsimp only [Pt.U, Pt.locs, Pt.cells, Pt.slots] at X119 l119 y119 z119 st119 hQ119
        subst l119 y119 z119
        refine Run.step (fun t k => st119.trans k) ?_
        obtain ⟨rfl, N119q, e119q⟩ := hQ119
        have N119 := Fr.app NJ118 N119q
        show Run _ _ _ _ (T119.setTop (mkF m 132 #[.val (.int p1), .val (.int p2), .val (.int p3), .val (.int p4), .val (.int p5), .val (.int p6), .val (.int fl), .val (.int rs), .val (.int (p4.toInt16.toInt32)), .val (.int (p5 &&& (255 : Int32))), .val (.int ((p6 &&& (2147483647 : Int32)) % (268435448 : Int32))), .val (.ref b99), .val (.int bt), .val (.int sg), .val (.int (if (fl &&& p2) = p2 then 1 else 0)), .val (.int rf), .val (.int (if (fl &&& sg) = sg then 1 else 0)), .val (.int sr), .unset, .unset] [(.int (if (fl &&& (0 : Int32)) = (0 : Int32) then 1 else 0))]))
        refine Run.step (fun t_ k_ => XS.istore X119.here hx rfl (hb hby at_132) rfl (l' := #[.val (.int p1), .val (.int p2), .val (.int p3), .val (.int p4), .val (.int p5), .val (.int p6), .val (.int fl), .val (.int rs), .val (.int (p4.toInt16.toInt32)), .val (.int (p5 &&& (255 : Int32))), .val (.int ((p6 &&& (2147483647 : Int32)) % (268435448 : Int32))), .val (.ref b99), .val (.int bt), .val (.int sg), .val (.int (if (fl &&& p2) = p2 then 1 else 0)), .val (.int rf), .val (.int (if (fl &&& sg) = sg then 1 else 0)), .val (.int sr), .val (.int (if (fl &&& (0 : Int32)) = (0 : Int32) then 1 else 0)), .unset]) rfl k_) ?_
        show Run _ _ _ _ (T119.setTop (mkF m 134 #[.val (.int p1), .val (.int p2), .val (.int p3), .val (.int p4), .val (.int p5), .val (.int p6), .val (.int fl), .val (.int rs), .val (.int (p4.toInt16.toInt32)), .val (.int (p5 &&& (255 : Int32))), .val (.int ((p6 &&& (2147483647 : Int32)) % (268435448 : Int32))), .val (.ref b99), .val (.int bt), .val (.int sg), .val (.int (if (fl &&& p2) = p2 then 1 else 0)), .val (.int rf), .val (.int (if (fl &&& sg) = sg then 1 else 0)), .val (.int sr), .val (.int (if (fl &&& (0 : Int32)) = (0 : Int32) then 1 else 0)), .unset] []))
        refine Run.step (fun t_ k_ => XS.aload X119.here hx rfl (hb hby at_134) rfl rfl k_) ?_
        show Run _ _ _ _ (T119.setTop (mkF m 136 #[.val (.int p1), .val (.int p2), .val (.int p3), .val (.int p4), .val (.int p5), .val (.int p6), .val (.int fl), .val (.int rs), .val (.int (p4.toInt16.toInt32)), .val (.int (p5 &&& (255 : Int32))), .val (.int ((p6 &&& (2147483647 : Int32)) % (268435448 : Int32))), .val (.ref b99), .val (.int bt), .val (.int sg), .val (.int (if (fl &&& p2) = p2 then 1 else 0)), .val (.int rf), .val (.int (if (fl &&& sg) = sg then 1 else 0)), .val (.int sr), .val (.int (if (fl &&& (0 : Int32)) = (0 : Int32) then 1 else 0)), .unset] [(.ref b99)]))
        refine Run.step (fun t_ k_ => XS.iloadN X119.here hx rfl (hb hby at_136) rfl k_) ?_
        show Run _ _ _ _ (T119.setTop (mkF m 137 #[.val (.int p1), .val (.int p2), .val (.int p3), .val (.int p4), .val (.int p5), .val (.int p6), .val (.int fl), .val (.int rs), .val (.int (p4.toInt16.toInt32)), .val (.int (p5 &&& (255 : Int32))), .val (.int ((p6 &&& (2147483647 : Int32)) % (268435448 : Int32))), .val (.ref b99), .val (.int bt), .val (.int sg), .val (.int (if (fl &&& p2) = p2 then 1 else 0)), .val (.int rf), .val (.int (if (fl &&& sg) = sg then 1 else 0)), .val (.int sr), .val (.int (if (fl &&& (0 : Int32)) = (0 : Int32) then 1 else 0)), .unset] [(.int p2), (.ref b99)]))
        refine Run.step (fun t_ k_ => XS.iload X119.here hx rfl (hb hby at_137) rfl k_) ?_
        show Run _ _ _ _ (T119.setTop (mkF m 139 #[.val (.int p1), .val (.int p2), .val (.int p3), .val (.int p4), .val (.int p5), .val (.int p6), .val (.int fl), .val (.int rs), .val (.int (p4.toInt16.toInt32)), .val (.int (p5 &&& (255 : Int32))), .val (.int ((p6 &&& (2147483647 : Int32)) % (268435448 : Int32))), .val (.ref b99), .val (.int bt), .val (.int sg), .val (.int (if (fl &&& p2) = p2 then 1 else 0)), .val (.int rf), .val (.int (if (fl &&& sg) = sg then 1 else 0)), .val (.int sr), .val (.int (if (fl &&& (0 : Int32)) = (0 : Int32) then 1 else 0)), .unset] [(.int sg), (.int p2), (.ref b99)]))
        refine Run.step (fun t_ k_ => XS.ior X119.here hx rfl (hb hby at_139) rfl k_) ?_
        show Run _ _ _ _ (T119.setTop (mkF m 140 #[.val (.int p1), .val (.int p2), .val (.int p3), .val (.int p4), .val (.int p5), .val (.int p6), .val (.int fl), .val (.int rs), .val (.int (p4.toInt16.toInt32)), .val (.int (p5 &&& (255 : Int32))), .val (.int ((p6 &&& (2147483647 : Int32)) % (268435448 : Int32))), .val (.ref b99), .val (.int bt), .val (.int sg), .val (.int (if (fl &&& p2) = p2 then 1 else 0)), .val (.int rf), .val (.int (if (fl &&& sg) = sg then 1 else 0)), .val (.int sr), .val (.int (if (fl &&& (0 : Int32)) = (0 : Int32) then 1 else 0)), .unset] [(.int (p2 ||| sg)), (.ref b99)]))
        obtain ⟨cq120, kq120, q120a, q120b, q120c⟩ := isOf hZ e119q f108
        obtain ⟨_, _, ⟨T120, L120, k120, n120⟩, -, X120, ⟨Lc120, hQ120, l120, y120, z120⟩, st120⟩ := X119.virtualBack hx (y := (⟨"com/example/hashspace/hashspace/protocol/FrameHeader", "hasFlag", "(I)Z"⟩ : MethodName)) (z := (⟨"com/example/hashspace/hashspace/protocol/FrameHeader", "hasFlag", "(I)Z"⟩ : MethodName)) hown (mvT hZ w36) (mvT hZ w37) (notFace_of_selects (args := #[]) (mvT hZ w39)) (mvT hZ w39) (mvT hZ w38) (by decide) (backOf (W := 0) (rm4 l Z a0 hw [] b99 fl (p2 ||| sg) T107.heap n0 z114 fr107) hZ w40 w4 (by decide) (by decide)) q120a q120c (g := (mkF m 140 #[.val (.int p1), .val (.int p2), .val (.int p3), .val (.int p4), .val (.int p5), .val (.int p6), .val (.int fl), .val (.int rs), .val (.int (p4.toInt16.toInt32)), .val (.int (p5 &&& (255 : Int32))), .val (.int ((p6 &&& (2147483647 : Int32)) % (268435448 : Int32))), .val (.ref b99), .val (.int bt), .val (.int sg), .val (.int (if (fl &&& p2) = p2 then 1 else 0)), .val (.int rf), .val (.int (if (fl &&& sg) = sg then 1 else 0)), .val (.int sr), .val (.int (if (fl &&& (0 : Int32)) = (0 : Int32) then 1 else 0)), .unset] [(.int (p2 ||| sg)), (.ref b99)])) rfl (by rw [hml]; rfl) (Steps.refl _) (argsL := [(.int (p2 ||| sg))]) (rest := []) (lenOf pd__28I_29Z rfl) rfl (by show 2 * 0 + _ ≤ _; exact Nat.le_of_eq rfl) (hb hby at_140) (fun _ _ => ⟨rfl, e119q, (by decide : 9 + 0 ≤ _), (by decide : 133 + 0 ≤ _)⟩)
        dsimp only [Pt.U, Pt.locs, Pt.cells, Pt.slots] at X120 l120 y120 z120 st120 hQ120
        subst l120 y120 z120
        refine Run.step (fun t k => st120.trans k) ?_
        obtain ⟨rfl, N120q, e120q⟩ := hQ120
        have N120 := Fr.app N119 N120q
        show Run _ _ _ _ (T120.setTop (mkF m 143 #[.val (.int p1), .val (.int p2), .val (.int p3), .val (.int p4), .val (.int p5), .val (.int p6), .val (.int fl), .val (.int rs), .val (.int (p4.toInt16.toInt32)), .val (.int (p5 &&& (255 : Int32))), .val (.int ((p6 &&& (2147483647 : Int32)) % (268435448 : Int32))), .val (.ref b99), .val (.int bt), .val (.int sg), .val (.int (if (fl &&& p2) = p2 then 1 else 0)), .val (.int rf), .val (.int (if (fl &&& sg) = sg then 1 else 0)), .val (.int sr), .val (.int (if (fl &&& (0 : Int32)) = (0 : Int32) then 1 else 0)), .unset] [(.int (if (fl &&& (p2 ||| sg)) = (p2 ||| sg) then 1 else 0))]))
        refine Run.step (fun t_ k_ => XS.istore X120.here hx rfl (hb hby at_143) rfl (l' := #[.val (.int p1), .val (.int p2), .val (.int p3), .val (.int p4), .val (.int p5), .val (.int p6), .val (.int fl), .val (.int rs), .val (.int (p4.toInt16.toInt32)), .val (.int (p5 &&& (255 : Int32))), .val (.int ((p6 &&& (2147483647 : Int32)) % (268435448 : Int32))), .val (.ref b99), .val (.int bt), .val (.int sg), .val (.int (if (fl &&& p2) = p2 then 1 else 0)), .val (.int rf), .val (.int (if (fl &&& sg) = sg then 1 else 0)), .val (.int sr), .val (.int (if (fl &&& (0 : Int32)) = (0 : Int32) then 1 else 0)), .val (.int (if (fl &&& (p2 ||| sg)) = (p2 ||| sg) then 1 else 0))]) rfl k_) ?_
        show Run _ _ _ _ (T120.setTop (mkF m 145 #[.val (.int p1), .val (.int p2), .val (.int p3), .val (.int p4), .val (.int p5), .val (.int p6), .val (.int fl), .val (.int rs), .val (.int (p4.toInt16.toInt32)), .val (.int (p5 &&& (255 : Int32))), .val (.int ((p6 &&& (2147483647 : Int32)) % (268435448 : Int32))), .val (.ref b99), .val (.int bt), .val (.int sg), .val (.int (if (fl &&& p2) = p2 then 1 else 0)), .val (.int rf), .val (.int (if (fl &&& sg) = sg then 1 else 0)), .val (.int sr), .val (.int (if (fl &&& (0 : Int32)) = (0 : Int32) then 1 else 0)), .val (.int (if (fl &&& (p2 ||| sg)) = (p2 ||| sg) then 1 else 0))] []))
        refine Run.step (fun t_ k_ => XS.iload X120.here hx rfl (hb hby at_145) rfl k_) ?_
        show Run _ _ _ _ (T120.setTop (mkF m 147 #[.val (.int p1), .val (.int p2), .val (.int p3), .val (.int p4), .val (.int p5), .val (.int p6), .val (.int fl), .val (.int rs), .val (.int (p4.toInt16.toInt32)), .val (.int (p5 &&& (255 : Int32))), .val (.int ((p6 &&& (2147483647 : Int32)) % (268435448 : Int32))), .val (.ref b99), .val (.int bt), .val (.int sg), .val (.int (if (fl &&& p2) = p2 then 1 else 0)), .val (.int rf), .val (.int (if (fl &&& sg) = sg then 1 else 0)), .val (.int sr), .val (.int (if (fl &&& (0 : Int32)) = (0 : Int32) then 1 else 0)), .val (.int (if (fl &&& (p2 ||| sg)) = (p2 ||| sg) then 1 else 0))] [(.int (if (fl &&& p2) = p2 then 1 else 0))]))
        refine Run.step (fun t_ k_ => XS.iload X120.here hx rfl (hb hby at_147) rfl k_) ?_
        show Run _ _ _ _ (T120.setTop (mkF m 149 #[.val (.int p1), .val (.int p2), .val (.int p3), .val (.int p4), .val (.int p5), .val (.int p6), .val (.int fl), .val (.int rs), .val (.int (p4.toInt16.toInt32)), .val (.int (p5 &&& (255 : Int32))), .val (.int ((p6 &&& (2147483647 : Int32)) % (268435448 : Int32))), .val (.ref b99), .val (.int bt), .val (.int sg), .val (.int (if (fl &&& p2) = p2 then 1 else 0)), .val (.int rf), .val (.int (if (fl &&& sg) = sg then 1 else 0)), .val (.int sr), .val (.int (if (fl &&& (0 : Int32)) = (0 : Int32) then 1 else 0)), .val (.int (if (fl &&& (p2 ||| sg)) = (p2 ||| sg) then 1 else 0))] [(.int rf), (.int (if (fl &&& p2) = p2 then 1 else 0))]))
        refine Run.step (fun t_ k_ => XS.icmpNo X120.here hx rfl (hb hby at_149) rfl (XT.ii_ne_f ((by rw [hv116]; simp only [own_abs]) : (if (fl &&& p2) = p2 then 1 else 0) = rf)) k_) ?_
        show Run _ _ _ _ (T120.setTop (mkF m 152 #[.val (.int p1), .val (.int p2), .val (.int p3), .val (.int p4), .val (.int p5), .val (.int p6), .val (.int fl), .val (.int rs), .val (.int (p4.toInt16.toInt32)), .val (.int (p5 &&& (255 : Int32))), .val (.int ((p6 &&& (2147483647 : Int32)) % (268435448 : Int32))), .val (.ref b99), .val (.int bt), .val (.int sg), .val (.int (if (fl &&& p2) = p2 then 1 else 0)), .val (.int rf), .val (.int (if (fl &&& sg) = sg then 1 else 0)), .val (.int sr), .val (.int (if (fl &&& (0 : Int32)) = (0 : Int32) then 1 else 0)), .val (.int (if (fl &&& (p2 ||| sg)) = (p2 ||| sg) then 1 else 0))] []))
        refine Run.step (fun t_ k_ => XS.iload X120.here hx rfl (hb hby at_152) rfl k_) ?_
        show Run _ _ _ _ (T120.setTop (mkF m 154 #[.val (.int p1), .val (.int p2), .val (.int p3), .val (.int p4), .val (.int p5), .val (.int p6), .val (.int fl), .val (.int rs), .val (.int (p4.toInt16.toInt32)), .val (.int (p5 &&& (255 : Int32))), .val (.int ((p6 &&& (2147483647 : Int32)) % (268435448 : Int32))), .val (.ref b99), .val (.int bt), .val (.int sg), .val (.int (if (fl &&& p2) = p2 then 1 else 0)), .val (.int rf), .val (.int (if (fl &&& sg) = sg then 1 else 0)), .val (.int sr), .val (.int (if (fl &&& (0 : Int32)) = (0 : Int32) then 1 else 0)), .val (.int (if (fl &&& (p2 ||| sg)) = (p2 ||| sg) then 1 else 0))] [(.int (if (fl &&& sg) = sg then 1 else 0))]))
        refine Run.step (fun t_ k_ => XS.iload X120.here hx rfl (hb hby at_154) rfl k_) ?_
        show Run _ _ _ _ (T120.setTop (mkF m 156 #[.val (.int p1), .val (.int p2), .val (.int p3), .val (.int p4), .val (.int p5), .val (.int p6), .val (.int fl), .val (.int rs), .val (.int (p4.toInt16.toInt32)), .val (.int (p5 &&& (255 : Int32))), .val (.int ((p6 &&& (2147483647 : Int32)) % (268435448 : Int32))), .val (.ref b99), .val (.int bt), .val (.int sg), .val (.int (if (fl &&& p2) = p2 then 1 else 0)), .val (.int rf), .val (.int (if (fl &&& sg) = sg then 1 else 0)), .val (.int sr), .val (.int (if (fl &&& (0 : Int32)) = (0 : Int32) then 1 else 0)), .val (.int (if (fl &&& (p2 ||| sg)) = (p2 ||| sg) then 1 else 0))] [(.int sr), (.int (if (fl &&& sg) = sg then 1 else 0))]))
        refine Run.step (fun t_ k_ => XS.icmpNo X120.here hx rfl (hb hby at_156) rfl (XT.ii_ne_f ((by rw [hv118]; simp only [hbit]) : (if (fl &&& sg) = sg then 1 else 0) = sr)) k_) ?_
        show Run _ _ _ _ (T120.setTop (mkF m 159 #[.val (.int p1), .val (.int p2), .val (.int p3), .val (.int p4), .val (.int p5), .val (.int p6), .val (.int fl), .val (.int rs), .val (.int (p4.toInt16.toInt32)), .val (.int (p5 &&& (255 : Int32))), .val (.int ((p6 &&& (2147483647 : Int32)) % (268435448 : Int32))), .val (.ref b99), .val (.int bt), .val (.int sg), .val (.int (if (fl &&& p2) = p2 then 1 else 0)), .val (.int rf), .val (.int (if (fl &&& sg) = sg then 1 else 0)), .val (.int sr), .val (.int (if (fl &&& (0 : Int32)) = (0 : Int32) then 1 else 0)), .val (.int (if (fl &&& (p2 ||| sg)) = (p2 ||| sg) then 1 else 0))] []))
        refine Run.step (fun t_ k_ => XS.iload X120.here hx rfl (hb hby at_159) rfl k_) ?_
        show Run _ _ _ _ (T120.setTop (mkF m 161 #[.val (.int p1), .val (.int p2), .val (.int p3), .val (.int p4), .val (.int p5), .val (.int p6), .val (.int fl), .val (.int rs), .val (.int (p4.toInt16.toInt32)), .val (.int (p5 &&& (255 : Int32))), .val (.int ((p6 &&& (2147483647 : Int32)) % (268435448 : Int32))), .val (.ref b99), .val (.int bt), .val (.int sg), .val (.int (if (fl &&& p2) = p2 then 1 else 0)), .val (.int rf), .val (.int (if (fl &&& sg) = sg then 1 else 0)), .val (.int sr), .val (.int (if (fl &&& (0 : Int32)) = (0 : Int32) then 1 else 0)), .val (.int (if (fl &&& (p2 ||| sg)) = (p2 ||| sg) then 1 else 0))] [(.int (if (fl &&& (0 : Int32)) = (0 : Int32) then 1 else 0))]))
        refine Run.step (fun t_ k_ => XS.ifNo X120.here hx rfl (hb hby at_161) rfl (XT.i0_eq_f ((by rw [if_pos (by rw [Int32.and_zero])]; decide) : ¬ ((if (fl &&& (0 : Int32)) = (0 : Int32) then 1 else 0) = (0 : Int32)))) k_) ?_
        show Run _ _ _ _ (T120.setTop (mkF m 164 #[.val (.int p1), .val (.int p2), .val (.int p3), .val (.int p4), .val (.int p5), .val (.int p6), .val (.int fl), .val (.int rs), .val (.int (p4.toInt16.toInt32)), .val (.int (p5 &&& (255 : Int32))), .val (.int ((p6 &&& (2147483647 : Int32)) % (268435448 : Int32))), .val (.ref b99), .val (.int bt), .val (.int sg), .val (.int (if (fl &&& p2) = p2 then 1 else 0)), .val (.int rf), .val (.int (if (fl &&& sg) = sg then 1 else 0)), .val (.int sr), .val (.int (if (fl &&& (0 : Int32)) = (0 : Int32) then 1 else 0)), .val (.int (if (fl &&& (p2 ||| sg)) = (p2 ||| sg) then 1 else 0))] []))
        refine Run.step (fun t_ k_ => XS.iload X120.here hx rfl (hb hby at_164) rfl k_) ?_
        show Run _ _ _ _ (T120.setTop (mkF m 166 #[.val (.int p1), .val (.int p2), .val (.int p3), .val (.int p4), .val (.int p5), .val (.int p6), .val (.int fl), .val (.int rs), .val (.int (p4.toInt16.toInt32)), .val (.int (p5 &&& (255 : Int32))), .val (.int ((p6 &&& (2147483647 : Int32)) % (268435448 : Int32))), .val (.ref b99), .val (.int bt), .val (.int sg), .val (.int (if (fl &&& p2) = p2 then 1 else 0)), .val (.int rf), .val (.int (if (fl &&& sg) = sg then 1 else 0)), .val (.int sr), .val (.int (if (fl &&& (0 : Int32)) = (0 : Int32) then 1 else 0)), .val (.int (if (fl &&& (p2 ||| sg)) = (p2 ||| sg) then 1 else 0))] [(.int (if (fl &&& (p2 ||| sg)) = (p2 ||| sg) then 1 else 0))]))
        refine Run.step (fun t_ k_ => XS.iload X120.here hx rfl (hb hby at_166) rfl k_) ?_
        show Run _ _ _ _ (T120.setTop (mkF m 168 #[.val (.int p1), .val (.int p2), .val (.int p3), .val (.int p4), .val (.int p5), .val (.int p6), .val (.int fl), .val (.int rs), .val (.int (p4.toInt16.toInt32)), .val (.int (p5 &&& (255 : Int32))), .val (.int ((p6 &&& (2147483647 : Int32)) % (268435448 : Int32))), .val (.ref b99), .val (.int bt), .val (.int sg), .val (.int (if (fl &&& p2) = p2 then 1 else 0)), .val (.int rf), .val (.int (if (fl &&& sg) = sg then 1 else 0)), .val (.int sr), .val (.int (if (fl &&& (0 : Int32)) = (0 : Int32) then 1 else 0)), .val (.int (if (fl &&& (p2 ||| sg)) = (p2 ||| sg) then 1 else 0))] [(.int rf), (.int (if (fl &&& (p2 ||| sg)) = (p2 ||| sg) then 1 else 0))]))
        by_cases c168 : rf = (0 : Int32)
        · skip
          refine Run.step (fun t_ k_ => XS.ifYes X120.here hx rfl (pc0 := 168) (pc' := 180) rfl (hb hby at_168) rfl (XT.i0_eq_t c168) (by decide) (by decide) k_) ?_
          show Run _ _ _ _ (T120.setTop (mkF m 180 #[.val (.int p1), .val (.int p2), .val (.int p3), .val (.int p4), .val (.int p5), .val (.int p6), .val (.int fl), .val (.int rs), .val (.int (p4.toInt16.toInt32)), .val (.int (p5 &&& (255 : Int32))), .val (.int ((p6 &&& (2147483647 : Int32)) % (268435448 : Int32))), .val (.ref b99), .val (.int bt), .val (.int sg), .val (.int (if (fl &&& p2) = p2 then 1 else 0)), .val (.int rf), .val (.int (if (fl &&& sg) = sg then 1 else 0)), .val (.int sr), .val (.int (if (fl &&& (0 : Int32)) = (0 : Int32) then 1 else 0)), .val (.int (if (fl &&& (p2 ||| sg)) = (p2 ||| sg) then 1 else 0))] [(.int (if (fl &&& (p2 ||| sg)) = (p2 ||| sg) then 1 else 0))]))
          refine Run.step (fun t_ k_ => XS.iconst X120.here hx rfl (hb hby at_180) k_) ?_
          show Run _ _ _ _ (T120.setTop (mkF m 181 #[.val (.int p1), .val (.int p2), .val (.int p3), .val (.int p4), .val (.int p5), .val (.int p6), .val (.int fl), .val (.int rs), .val (.int (p4.toInt16.toInt32)), .val (.int (p5 &&& (255 : Int32))), .val (.int ((p6 &&& (2147483647 : Int32)) % (268435448 : Int32))), .val (.ref b99), .val (.int bt), .val (.int sg), .val (.int (if (fl &&& p2) = p2 then 1 else 0)), .val (.int rf), .val (.int (if (fl &&& sg) = sg then 1 else 0)), .val (.int sr), .val (.int (if (fl &&& (0 : Int32)) = (0 : Int32) then 1 else 0)), .val (.int (if (fl &&& (p2 ||| sg)) = (p2 ||| sg) then 1 else 0))] [(.int (0 : Int32)), (.int (if (fl &&& (p2 ||| sg)) = (p2 ||| sg) then 1 else 0))]))
          refine Run.step (fun t_ k_ => XS.icmpNo X120.here hx rfl (hb hby at_181) rfl (XT.ii_ne_f (((own_fin fl p2 sg rf sr _ hv116 hv118 hbit).trans (if_pos c168)) : (if (fl &&& (p2 ||| sg)) = (p2 ||| sg) then 1 else 0) = (0 : Int32))) k_) ?_
          show Run _ _ _ _ (T120.setTop (mkF m 184 #[.val (.int p1), .val (.int p2), .val (.int p3), .val (.int p4), .val (.int p5), .val (.int p6), .val (.int fl), .val (.int rs), .val (.int (p4.toInt16.toInt32)), .val (.int (p5 &&& (255 : Int32))), .val (.int ((p6 &&& (2147483647 : Int32)) % (268435448 : Int32))), .val (.ref b99), .val (.int bt), .val (.int sg), .val (.int (if (fl &&& p2) = p2 then 1 else 0)), .val (.int rf), .val (.int (if (fl &&& sg) = sg then 1 else 0)), .val (.int sr), .val (.int (if (fl &&& (0 : Int32)) = (0 : Int32) then 1 else 0)), .val (.int (if (fl &&& (p2 ||| sg)) = (p2 ||| sg) then 1 else 0))] []))
          refine Run.step (fun t_ k_ => XS.iconst X120.here hx rfl (hb hby at_184) k_) ?_
          show Run _ _ _ _ (T120.setTop (mkF m 185 #[.val (.int p1), .val (.int p2), .val (.int p3), .val (.int p4), .val (.int p5), .val (.int p6), .val (.int fl), .val (.int rs), .val (.int (p4.toInt16.toInt32)), .val (.int (p5 &&& (255 : Int32))), .val (.int ((p6 &&& (2147483647 : Int32)) % (268435448 : Int32))), .val (.ref b99), .val (.int bt), .val (.int sg), .val (.int (if (fl &&& p2) = p2 then 1 else 0)), .val (.int rf), .val (.int (if (fl &&& sg) = sg then 1 else 0)), .val (.int sr), .val (.int (if (fl &&& (0 : Int32)) = (0 : Int32) then 1 else 0)), .val (.int (if (fl &&& (p2 ||| sg)) = (p2 ||| sg) then 1 else 0))] [(.int (1 : Int32))]))
          refine Run.step (fun t_ k_ => XS.goto X120.here hx rfl (pc0 := 185) (pc' := 189) rfl (hb hby at_185) (by decide) (by decide) k_) ?_
          show Run _ _ _ _ (T120.setTop (mkF m 189 #[.val (.int p1), .val (.int p2), .val (.int p3), .val (.int p4), .val (.int p5), .val (.int p6), .val (.int fl), .val (.int rs), .val (.int (p4.toInt16.toInt32)), .val (.int (p5 &&& (255 : Int32))), .val (.int ((p6 &&& (2147483647 : Int32)) % (268435448 : Int32))), .val (.ref b99), .val (.int bt), .val (.int sg), .val (.int (if (fl &&& p2) = p2 then 1 else 0)), .val (.int rf), .val (.int (if (fl &&& sg) = sg then 1 else 0)), .val (.int sr), .val (.int (if (fl &&& (0 : Int32)) = (0 : Int32) then 1 else 0)), .val (.int (if (fl &&& (p2 ||| sg)) = (p2 ||| sg) then 1 else 0))] [(.int (1 : Int32))]))
          exact finZW X120 hx hS107 (Nat.le_refl _) (BodyLoose.notSynchronized Bd) Bd.returns (hb hby at_189) (by decide) (by decide) (by decide) e120q ⟨rfl, N120⟩
        · skip
          refine Run.step (fun t_ k_ => XS.ifNo X120.here hx rfl (hb hby at_168) rfl (XT.i0_eq_f c168) k_) ?_
          show Run _ _ _ _ (T120.setTop (mkF m 171 #[.val (.int p1), .val (.int p2), .val (.int p3), .val (.int p4), .val (.int p5), .val (.int p6), .val (.int fl), .val (.int rs), .val (.int (p4.toInt16.toInt32)), .val (.int (p5 &&& (255 : Int32))), .val (.int ((p6 &&& (2147483647 : Int32)) % (268435448 : Int32))), .val (.ref b99), .val (.int bt), .val (.int sg), .val (.int (if (fl &&& p2) = p2 then 1 else 0)), .val (.int rf), .val (.int (if (fl &&& sg) = sg then 1 else 0)), .val (.int sr), .val (.int (if (fl &&& (0 : Int32)) = (0 : Int32) then 1 else 0)), .val (.int (if (fl &&& (p2 ||| sg)) = (p2 ||| sg) then 1 else 0))] [(.int (if (fl &&& (p2 ||| sg)) = (p2 ||| sg) then 1 else 0))]))
          refine Run.step (fun t_ k_ => XS.iload X120.here hx rfl (hb hby at_171) rfl k_) ?_
          show Run _ _ _ _ (T120.setTop (mkF m 173 #[.val (.int p1), .val (.int p2), .val (.int p3), .val (.int p4), .val (.int p5), .val (.int p6), .val (.int fl), .val (.int rs), .val (.int (p4.toInt16.toInt32)), .val (.int (p5 &&& (255 : Int32))), .val (.int ((p6 &&& (2147483647 : Int32)) % (268435448 : Int32))), .val (.ref b99), .val (.int bt), .val (.int sg), .val (.int (if (fl &&& p2) = p2 then 1 else 0)), .val (.int rf), .val (.int (if (fl &&& sg) = sg then 1 else 0)), .val (.int sr), .val (.int (if (fl &&& (0 : Int32)) = (0 : Int32) then 1 else 0)), .val (.int (if (fl &&& (p2 ||| sg)) = (p2 ||| sg) then 1 else 0))] [(.int sr), (.int (if (fl &&& (p2 ||| sg)) = (p2 ||| sg) then 1 else 0))]))
          by_cases c173 : sr = (0 : Int32)
          · skip
            refine Run.step (fun t_ k_ => XS.ifYes X120.here hx rfl (pc0 := 173) (pc' := 180) rfl (hb hby at_173) rfl (XT.i0_eq_t c173) (by decide) (by decide) k_) ?_
            show Run _ _ _ _ (T120.setTop (mkF m 180 #[.val (.int p1), .val (.int p2), .val (.int p3), .val (.int p4), .val (.int p5), .val (.int p6), .val (.int fl), .val (.int rs), .val (.int (p4.toInt16.toInt32)), .val (.int (p5 &&& (255 : Int32))), .val (.int ((p6 &&& (2147483647 : Int32)) % (268435448 : Int32))), .val (.ref b99), .val (.int bt), .val (.int sg), .val (.int (if (fl &&& p2) = p2 then 1 else 0)), .val (.int rf), .val (.int (if (fl &&& sg) = sg then 1 else 0)), .val (.int sr), .val (.int (if (fl &&& (0 : Int32)) = (0 : Int32) then 1 else 0)), .val (.int (if (fl &&& (p2 ||| sg)) = (p2 ||| sg) then 1 else 0))] [(.int (if (fl &&& (p2 ||| sg)) = (p2 ||| sg) then 1 else 0))]))
            refine Run.step (fun t_ k_ => XS.iconst X120.here hx rfl (hb hby at_180) k_) ?_
            show Run _ _ _ _ (T120.setTop (mkF m 181 #[.val (.int p1), .val (.int p2), .val (.int p3), .val (.int p4), .val (.int p5), .val (.int p6), .val (.int fl), .val (.int rs), .val (.int (p4.toInt16.toInt32)), .val (.int (p5 &&& (255 : Int32))), .val (.int ((p6 &&& (2147483647 : Int32)) % (268435448 : Int32))), .val (.ref b99), .val (.int bt), .val (.int sg), .val (.int (if (fl &&& p2) = p2 then 1 else 0)), .val (.int rf), .val (.int (if (fl &&& sg) = sg then 1 else 0)), .val (.int sr), .val (.int (if (fl &&& (0 : Int32)) = (0 : Int32) then 1 else 0)), .val (.int (if (fl &&& (p2 ||| sg)) = (p2 ||| sg) then 1 else 0))] [(.int (0 : Int32)), (.int (if (fl &&& (p2 ||| sg)) = (p2 ||| sg) then 1 else 0))]))
            refine Run.step (fun t_ k_ => XS.icmpNo X120.here hx rfl (hb hby at_181) rfl (XT.ii_ne_f (((own_fin fl p2 sg rf sr _ hv116 hv118 hbit).trans ((if_neg c168).trans (if_pos c173))) : (if (fl &&& (p2 ||| sg)) = (p2 ||| sg) then 1 else 0) = (0 : Int32))) k_) ?_
            show Run _ _ _ _ (T120.setTop (mkF m 184 #[.val (.int p1), .val (.int p2), .val (.int p3), .val (.int p4), .val (.int p5), .val (.int p6), .val (.int fl), .val (.int rs), .val (.int (p4.toInt16.toInt32)), .val (.int (p5 &&& (255 : Int32))), .val (.int ((p6 &&& (2147483647 : Int32)) % (268435448 : Int32))), .val (.ref b99), .val (.int bt), .val (.int sg), .val (.int (if (fl &&& p2) = p2 then 1 else 0)), .val (.int rf), .val (.int (if (fl &&& sg) = sg then 1 else 0)), .val (.int sr), .val (.int (if (fl &&& (0 : Int32)) = (0 : Int32) then 1 else 0)), .val (.int (if (fl &&& (p2 ||| sg)) = (p2 ||| sg) then 1 else 0))] []))
            refine Run.step (fun t_ k_ => XS.iconst X120.here hx rfl (hb hby at_184) k_) ?_
            show Run _ _ _ _ (T120.setTop (mkF m 185 #[.val (.int p1), .val (.int p2), .val (.int p3), .val (.int p4), .val (.int p5), .val (.int p6), .val (.int fl), .val (.int rs), .val (.int (p4.toInt16.toInt32)), .val (.int (p5 &&& (255 : Int32))), .val (.int ((p6 &&& (2147483647 : Int32)) % (268435448 : Int32))), .val (.ref b99), .val (.int bt), .val (.int sg), .val (.int (if (fl &&& p2) = p2 then 1 else 0)), .val (.int rf), .val (.int (if (fl &&& sg) = sg then 1 else 0)), .val (.int sr), .val (.int (if (fl &&& (0 : Int32)) = (0 : Int32) then 1 else 0)), .val (.int (if (fl &&& (p2 ||| sg)) = (p2 ||| sg) then 1 else 0))] [(.int (1 : Int32))]))
            refine Run.step (fun t_ k_ => XS.goto X120.here hx rfl (pc0 := 185) (pc' := 189) rfl (hb hby at_185) (by decide) (by decide) k_) ?_
            show Run _ _ _ _ (T120.setTop (mkF m 189 #[.val (.int p1), .val (.int p2), .val (.int p3), .val (.int p4), .val (.int p5), .val (.int p6), .val (.int fl), .val (.int rs), .val (.int (p4.toInt16.toInt32)), .val (.int (p5 &&& (255 : Int32))), .val (.int ((p6 &&& (2147483647 : Int32)) % (268435448 : Int32))), .val (.ref b99), .val (.int bt), .val (.int sg), .val (.int (if (fl &&& p2) = p2 then 1 else 0)), .val (.int rf), .val (.int (if (fl &&& sg) = sg then 1 else 0)), .val (.int sr), .val (.int (if (fl &&& (0 : Int32)) = (0 : Int32) then 1 else 0)), .val (.int (if (fl &&& (p2 ||| sg)) = (p2 ||| sg) then 1 else 0))] [(.int (1 : Int32))]))
            exact finZW X120 hx hS107 (Nat.le_refl _) (BodyLoose.notSynchronized Bd) Bd.returns (hb hby at_189) (by decide) (by decide) (by decide) e120q ⟨rfl, N120⟩
          · skip
            refine Run.step (fun t_ k_ => XS.ifNo X120.here hx rfl (hb hby at_173) rfl (XT.i0_eq_f c173) k_) ?_
            show Run _ _ _ _ (T120.setTop (mkF m 176 #[.val (.int p1), .val (.int p2), .val (.int p3), .val (.int p4), .val (.int p5), .val (.int p6), .val (.int fl), .val (.int rs), .val (.int (p4.toInt16.toInt32)), .val (.int (p5 &&& (255 : Int32))), .val (.int ((p6 &&& (2147483647 : Int32)) % (268435448 : Int32))), .val (.ref b99), .val (.int bt), .val (.int sg), .val (.int (if (fl &&& p2) = p2 then 1 else 0)), .val (.int rf), .val (.int (if (fl &&& sg) = sg then 1 else 0)), .val (.int sr), .val (.int (if (fl &&& (0 : Int32)) = (0 : Int32) then 1 else 0)), .val (.int (if (fl &&& (p2 ||| sg)) = (p2 ||| sg) then 1 else 0))] [(.int (if (fl &&& (p2 ||| sg)) = (p2 ||| sg) then 1 else 0))]))
            refine Run.step (fun t_ k_ => XS.iconst X120.here hx rfl (hb hby at_176) k_) ?_
            show Run _ _ _ _ (T120.setTop (mkF m 177 #[.val (.int p1), .val (.int p2), .val (.int p3), .val (.int p4), .val (.int p5), .val (.int p6), .val (.int fl), .val (.int rs), .val (.int (p4.toInt16.toInt32)), .val (.int (p5 &&& (255 : Int32))), .val (.int ((p6 &&& (2147483647 : Int32)) % (268435448 : Int32))), .val (.ref b99), .val (.int bt), .val (.int sg), .val (.int (if (fl &&& p2) = p2 then 1 else 0)), .val (.int rf), .val (.int (if (fl &&& sg) = sg then 1 else 0)), .val (.int sr), .val (.int (if (fl &&& (0 : Int32)) = (0 : Int32) then 1 else 0)), .val (.int (if (fl &&& (p2 ||| sg)) = (p2 ||| sg) then 1 else 0))] [(.int (1 : Int32)), (.int (if (fl &&& (p2 ||| sg)) = (p2 ||| sg) then 1 else 0))]))
            refine Run.step (fun t_ k_ => XS.goto X120.here hx rfl (pc0 := 177) (pc' := 181) rfl (hb hby at_177) (by decide) (by decide) k_) ?_
            show Run _ _ _ _ (T120.setTop (mkF m 181 #[.val (.int p1), .val (.int p2), .val (.int p3), .val (.int p4), .val (.int p5), .val (.int p6), .val (.int fl), .val (.int rs), .val (.int (p4.toInt16.toInt32)), .val (.int (p5 &&& (255 : Int32))), .val (.int ((p6 &&& (2147483647 : Int32)) % (268435448 : Int32))), .val (.ref b99), .val (.int bt), .val (.int sg), .val (.int (if (fl &&& p2) = p2 then 1 else 0)), .val (.int rf), .val (.int (if (fl &&& sg) = sg then 1 else 0)), .val (.int sr), .val (.int (if (fl &&& (0 : Int32)) = (0 : Int32) then 1 else 0)), .val (.int (if (fl &&& (p2 ||| sg)) = (p2 ||| sg) then 1 else 0))] [(.int (1 : Int32)), (.int (if (fl &&& (p2 ||| sg)) = (p2 ||| sg) then 1 else 0))]))
            refine Run.step (fun t_ k_ => XS.icmpNo X120.here hx rfl (hb hby at_181) rfl (XT.ii_ne_f (((own_fin fl p2 sg rf sr _ hv116 hv118 hbit).trans ((if_neg c168).trans (if_neg c173))) : (if (fl &&& (p2 ||| sg)) = (p2 ||| sg) then 1 else 0) = (1 : Int32))) k_) ?_
            show Run _ _ _ _ (T120.setTop (mkF m 184 #[.val (.int p1), .val (.int p2), .val (.int p3), .val (.int p4), .val (.int p5), .val (.int p6), .val (.int fl), .val (.int rs), .val (.int (p4.toInt16.toInt32)), .val (.int (p5 &&& (255 : Int32))), .val (.int ((p6 &&& (2147483647 : Int32)) % (268435448 : Int32))), .val (.ref b99), .val (.int bt), .val (.int sg), .val (.int (if (fl &&& p2) = p2 then 1 else 0)), .val (.int rf), .val (.int (if (fl &&& sg) = sg then 1 else 0)), .val (.int sr), .val (.int (if (fl &&& (0 : Int32)) = (0 : Int32) then 1 else 0)), .val (.int (if (fl &&& (p2 ||| sg)) = (p2 ||| sg) then 1 else 0))] []))
            refine Run.step (fun t_ k_ => XS.iconst X120.here hx rfl (hb hby at_184) k_) ?_
            show Run _ _ _ _ (T120.setTop (mkF m 185 #[.val (.int p1), .val (.int p2), .val (.int p3), .val (.int p4), .val (.int p5), .val (.int p6), .val (.int fl), .val (.int rs), .val (.int (p4.toInt16.toInt32)), .val (.int (p5 &&& (255 : Int32))), .val (.int ((p6 &&& (2147483647 : Int32)) % (268435448 : Int32))), .val (.ref b99), .val (.int bt), .val (.int sg), .val (.int (if (fl &&& p2) = p2 then 1 else 0)), .val (.int rf), .val (.int (if (fl &&& sg) = sg then 1 else 0)), .val (.int sr), .val (.int (if (fl &&& (0 : Int32)) = (0 : Int32) then 1 else 0)), .val (.int (if (fl &&& (p2 ||| sg)) = (p2 ||| sg) then 1 else 0))] [(.int (1 : Int32))]))
            refine Run.step (fun t_ k_ => XS.goto X120.here hx rfl (pc0 := 185) (pc' := 189) rfl (hb hby at_185) (by decide) (by decide) k_) ?_
            show Run _ _ _ _ (T120.setTop (mkF m 189 #[.val (.int p1), .val (.int p2), .val (.int p3), .val (.int p4), .val (.int p5), .val (.int p6), .val (.int fl), .val (.int rs), .val (.int (p4.toInt16.toInt32)), .val (.int (p5 &&& (255 : Int32))), .val (.int ((p6 &&& (2147483647 : Int32)) % (268435448 : Int32))), .val (.ref b99), .val (.int bt), .val (.int sg), .val (.int (if (fl &&& p2) = p2 then 1 else 0)), .val (.int rf), .val (.int (if (fl &&& sg) = sg then 1 else 0)), .val (.int sr), .val (.int (if (fl &&& (0 : Int32)) = (0 : Int32) then 1 else 0)), .val (.int (if (fl &&& (p2 ||| sg)) = (p2 ||| sg) then 1 else 0))] [(.int (1 : Int32))]))
            exact finZW X120 hx hS107 (Nat.le_refl _) (BodyLoose.notSynchronized Bd) Bd.returns (hb hby at_189) (by decide) (by decide) (by decide) e120q ⟨rfl, N120⟩
      by_cases c116 : (((fl.toUInt32 >>> (bt &&& 31).toUInt32).toInt32) &&& (1 : Int32)) = (1 : Int32)
      · skip
        refine Run.step (fun t_ k_ => XS.icmpNo X117.here hx rfl (hb hby at_116) rfl (XT.ii_ne_f c116) k_) ?_
        show Run _ _ _ _ (T117.setTop (mkF m 119 #[.val (.int p1), .val (.int p2), .val (.int p3), .val (.int p4), .val (.int p5), .val (.int p6), .val (.int fl), .val (.int rs), .val (.int (p4.toInt16.toInt32)), .val (.int (p5 &&& (255 : Int32))), .val (.int ((p6 &&& (2147483647 : Int32)) % (268435448 : Int32))), .val (.ref b99), .val (.int bt), .val (.int sg), .val (.int (if (fl &&& p2) = p2 then 1 else 0)), .val (.int rf), .val (.int (if (fl &&& sg) = sg then 1 else 0)), .unset, .unset, .unset] []))
        refine Run.step (fun t_ k_ => XS.iconst X117.here hx rfl (hb hby at_119) k_) ?_
        show Run _ _ _ _ (T117.setTop (mkF m 120 #[.val (.int p1), .val (.int p2), .val (.int p3), .val (.int p4), .val (.int p5), .val (.int p6), .val (.int fl), .val (.int rs), .val (.int (p4.toInt16.toInt32)), .val (.int (p5 &&& (255 : Int32))), .val (.int ((p6 &&& (2147483647 : Int32)) % (268435448 : Int32))), .val (.ref b99), .val (.int bt), .val (.int sg), .val (.int (if (fl &&& p2) = p2 then 1 else 0)), .val (.int rf), .val (.int (if (fl &&& sg) = sg then 1 else 0)), .unset, .unset, .unset] [(.int (1 : Int32))]))
        refine Run.step (fun t_ k_ => XS.goto X117.here hx rfl (pc0 := 120) (pc' := 124) rfl (hb hby at_120) (by decide) (by decide) k_) ?_
        show Run _ _ _ _ (T117.setTop (mkF m 124 #[.val (.int p1), .val (.int p2), .val (.int p3), .val (.int p4), .val (.int p5), .val (.int p6), .val (.int fl), .val (.int rs), .val (.int (p4.toInt16.toInt32)), .val (.int (p5 &&& (255 : Int32))), .val (.int ((p6 &&& (2147483647 : Int32)) % (268435448 : Int32))), .val (.ref b99), .val (.int bt), .val (.int sg), .val (.int (if (fl &&& p2) = p2 then 1 else 0)), .val (.int rf), .val (.int (if (fl &&& sg) = sg then 1 else 0)), .unset, .unset, .unset] [(.int (1 : Int32))]))
        exact J118 _ _ X117 e117q N117 (1 : Int32) (if_pos c116).symm
      · skip
        refine Run.step (fun t_ k_ => XS.icmpYes X117.here hx rfl (pc0 := 116) (pc' := 123) rfl (hb hby at_116) rfl (XT.ii_ne_t c116) (by decide) (by decide) k_) ?_
        show Run _ _ _ _ (T117.setTop (mkF m 123 #[.val (.int p1), .val (.int p2), .val (.int p3), .val (.int p4), .val (.int p5), .val (.int p6), .val (.int fl), .val (.int rs), .val (.int (p4.toInt16.toInt32)), .val (.int (p5 &&& (255 : Int32))), .val (.int ((p6 &&& (2147483647 : Int32)) % (268435448 : Int32))), .val (.ref b99), .val (.int bt), .val (.int sg), .val (.int (if (fl &&& p2) = p2 then 1 else 0)), .val (.int rf), .val (.int (if (fl &&& sg) = sg then 1 else 0)), .unset, .unset, .unset] []))
        refine Run.step (fun t_ k_ => XS.iconst X117.here hx rfl (hb hby at_123) k_) ?_
        show Run _ _ _ _ (T117.setTop (mkF m 124 #[.val (.int p1), .val (.int p2), .val (.int p3), .val (.int p4), .val (.int p5), .val (.int p6), .val (.int fl), .val (.int rs), .val (.int (p4.toInt16.toInt32)), .val (.int (p5 &&& (255 : Int32))), .val (.int ((p6 &&& (2147483647 : Int32)) % (268435448 : Int32))), .val (.ref b99), .val (.int bt), .val (.int sg), .val (.int (if (fl &&& p2) = p2 then 1 else 0)), .val (.int rf), .val (.int (if (fl &&& sg) = sg then 1 else 0)), .unset, .unset, .unset] [(.int (0 : Int32))]))
        exact J118 _ _ X117 e117q N117 (0 : Int32) (if_neg c116).symm
    by_cases c89 : (fl ||| p2) = fl
    · skip
      refine Run.step (fun t_ k_ => XS.icmpNo X115.here hx rfl (hb hby at_89) rfl (XT.ii_ne_f c89) k_) ?_
      show Run _ _ _ _ (T115.setTop (mkF m 92 #[.val (.int p1), .val (.int p2), .val (.int p3), .val (.int p4), .val (.int p5), .val (.int p6), .val (.int fl), .val (.int rs), .val (.int (p4.toInt16.toInt32)), .val (.int (p5 &&& (255 : Int32))), .val (.int ((p6 &&& (2147483647 : Int32)) % (268435448 : Int32))), .val (.ref b99), .val (.int bt), .val (.int sg), .val (.int (if (fl &&& p2) = p2 then 1 else 0)), .unset, .unset, .unset, .unset, .unset] []))
      refine Run.step (fun t_ k_ => XS.iconst X115.here hx rfl (hb hby at_92) k_) ?_
      show Run _ _ _ _ (T115.setTop (mkF m 93 #[.val (.int p1), .val (.int p2), .val (.int p3), .val (.int p4), .val (.int p5), .val (.int p6), .val (.int fl), .val (.int rs), .val (.int (p4.toInt16.toInt32)), .val (.int (p5 &&& (255 : Int32))), .val (.int ((p6 &&& (2147483647 : Int32)) % (268435448 : Int32))), .val (.ref b99), .val (.int bt), .val (.int sg), .val (.int (if (fl &&& p2) = p2 then 1 else 0)), .unset, .unset, .unset, .unset, .unset] [(.int (1 : Int32))]))
      refine Run.step (fun t_ k_ => XS.goto X115.here hx rfl (pc0 := 93) (pc' := 97) rfl (hb hby at_93) (by decide) (by decide) k_) ?_
      show Run _ _ _ _ (T115.setTop (mkF m 97 #[.val (.int p1), .val (.int p2), .val (.int p3), .val (.int p4), .val (.int p5), .val (.int p6), .val (.int fl), .val (.int rs), .val (.int (p4.toInt16.toInt32)), .val (.int (p5 &&& (255 : Int32))), .val (.int ((p6 &&& (2147483647 : Int32)) % (268435448 : Int32))), .val (.ref b99), .val (.int bt), .val (.int sg), .val (.int (if (fl &&& p2) = p2 then 1 else 0)), .unset, .unset, .unset, .unset, .unset] [(.int (1 : Int32))]))
      exact J116 _ _ X115 e115q N115 (1 : Int32) (if_pos c89).symm
    · skip
      refine Run.step (fun t_ k_ => XS.icmpYes X115.here hx rfl (pc0 := 89) (pc' := 96) rfl (hb hby at_89) rfl (XT.ii_ne_t c89) (by decide) (by decide) k_) ?_
      show Run _ _ _ _ (T115.setTop (mkF m 96 #[.val (.int p1), .val (.int p2), .val (.int p3), .val (.int p4), .val (.int p5), .val (.int p6), .val (.int fl), .val (.int rs), .val (.int (p4.toInt16.toInt32)), .val (.int (p5 &&& (255 : Int32))), .val (.int ((p6 &&& (2147483647 : Int32)) % (268435448 : Int32))), .val (.ref b99), .val (.int bt), .val (.int sg), .val (.int (if (fl &&& p2) = p2 then 1 else 0)), .unset, .unset, .unset, .unset, .unset] []))
      refine Run.step (fun t_ k_ => XS.iconst X115.here hx rfl (hb hby at_96) k_) ?_
      show Run _ _ _ _ (T115.setTop (mkF m 97 #[.val (.int p1), .val (.int p2), .val (.int p3), .val (.int p4), .val (.int p5), .val (.int p6), .val (.int fl), .val (.int rs), .val (.int (p4.toInt16.toInt32)), .val (.int (p5 &&& (255 : Int32))), .val (.int ((p6 &&& (2147483647 : Int32)) % (268435448 : Int32))), .val (.ref b99), .val (.int bt), .val (.int sg), .val (.int (if (fl &&& p2) = p2 then 1 else 0)), .unset, .unset, .unset, .unset, .unset] [(.int (0 : Int32))]))
      exact J116 _ _ X115 e115q N115 (0 : Int32) (if_neg c89).symm
  by_cases c12 : (((p3.toUInt32 >>> ((3 : Int32) &&& 31).toUInt32).toInt32) &&& (1 : Int32)) = (0 : Int32)
  · skip
    refine Run.step (fun t_ k_ => XS.ifYes X0.here hx rfl (pc0 := 12) (pc' := 19) rfl (hb hby at_12) rfl (XT.i0_eq_t c12) (by decide) (by decide) k_) ?_
    show Run _ _ _ _ (s₁.setTop (mkF m 19 #[.val (.int p1), .val (.int p2), .val (.int p3), .val (.int p4), .val (.int p5), .val (.int p6), .val (.int fl), .unset, .unset, .unset, .unset, .unset, .unset, .unset, .unset, .unset, .unset, .unset, .unset, .unset] []))
    refine Run.step (fun t_ k_ => XS.iconst X0.here hx rfl (hb hby at_19) k_) ?_
    show Run _ _ _ _ (s₁.setTop (mkF m 20 #[.val (.int p1), .val (.int p2), .val (.int p3), .val (.int p4), .val (.int p5), .val (.int p6), .val (.int fl), .unset, .unset, .unset, .unset, .unset, .unset, .unset, .unset, .unset, .unset, .unset, .unset, .unset] [(.int (0 : Int32))]))
    exact J98 _ _ X0 e0 N0 (0 : Int32) (Or.inl rfl)
  · skip
    refine Run.step (fun t_ k_ => XS.ifNo X0.here hx rfl (hb hby at_12) rfl (XT.i0_eq_f c12) k_) ?_
    show Run _ _ _ _ (s₁.setTop (mkF m 15 #[.val (.int p1), .val (.int p2), .val (.int p3), .val (.int p4), .val (.int p5), .val (.int p6), .val (.int fl), .unset, .unset, .unset, .unset, .unset, .unset, .unset, .unset, .unset, .unset, .unset, .unset, .unset] []))
    refine Run.step (fun t_ k_ => XS.iconst X0.here hx rfl (hb hby at_15) k_) ?_
    show Run _ _ _ _ (s₁.setTop (mkF m 16 #[.val (.int p1), .val (.int p2), .val (.int p3), .val (.int p4), .val (.int p5), .val (.int p6), .val (.int fl), .unset, .unset, .unset, .unset, .unset, .unset, .unset, .unset, .unset, .unset, .unset, .unset, .unset] [(.int (1 : Int32))]))
    refine Run.step (fun t_ k_ => XS.goto X0.here hx rfl (pc0 := 16) (pc' := 20) rfl (hb hby at_16) (by decide) (by decide) k_) ?_
    show Run _ _ _ _ (s₁.setTop (mkF m 20 #[.val (.int p1), .val (.int p2), .val (.int p3), .val (.int p4), .val (.int p5), .val (.int p6), .val (.int fl), .unset, .unset, .unset, .unset, .unset, .unset, .unset, .unset, .unset, .unset, .unset, .unset, .unset] [(.int (1 : Int32))]))
    exact J98 _ _ X0 e0 N0 (1 : Int32) (Or.inr rfl)
set_option maxRecDepth 65536 in
set_option maxHeartbeats 40000000 in
theorem comes_1 {Post : Tables → Env → Array Value → State → Outcome → State → Prop} (hpost : ∀ tb e args s v u, (limb_1_1.after args s (.returned v) u = true ∧ limb_1_2.after args s (.returned v) u = true ∧ True) → ReturnedEndW s (.returned v) u (Jvm.fieldLocs frame_1_writes args s ++ Jvm.arrayLocs frame_1_arrays args s ++ Jvm.staticLocs frame_1_statics s) 24 4224 → Post tb e args s (.returned v) u) :
    ArmFor flags0 classFile x code maxLocals ret World_1 tables_1 room_1 Calls_1 rest_1 Pre_1 Post := by
  intro l hfl _ _ p e ha hc hk s m args below hf hA hF happ hP
  obtain ⟨hcalls, hrest, hpre⟩ := hP
  obtain ⟨-, -, -, hnamed, -, -, -, hat⟩ := (Spec.applies_iff hf).mp happ
  obtain ⟨hg, hn⟩ := and_e (Cond.before_iff.mp (show (Jvm.Cond.and given_1 narrow_1).before args s = true from hpre))
  obtain ⟨h1, h2⟩ := and_e hg
  obtain ⟨w0, w1, w2, w3, w4, w5, rfl⟩ : ∃ w0 w1 w2 w3 w4 w5 : Value, args = #[w0, w1, w2, w3, w4, w5] := by
    have hs : args.size = 6 := by simpa [Cond.value, given_1] using h1
    obtain ⟨L⟩ := args
    match L, hs with
    | [w0, w1, w2, w3, w4, w5], _ => exact ⟨w0, w1, w2, w3, w4, w5, rfl⟩
  have hw := fun d (hd : d ∈ tables_1) => atoms_spec (ws := Jvm.Cond.code x code maxLocals ret :: tables_1) hat d (List.mem_cons_of_mem _ hd)
  have hfit : Fit s := fun {y c} hc i hi => by
    obtain ⟨ha, rfl⟩ := Array.getElem?_eq_some_iff.mp hc
    have q := List.all_eq_true.mp ((Array.all_eq_true_iff_forall_mem.mp hF) _ (Array.getElem_mem ha)) i (List.mem_range.mpr hi)
    simpa [Array.getElem?_eq_getElem hi] using q
  obtain ⟨a0, t0⟩ := and_e h2
  obtain ⟨i0, q0⟩ := is_v a0
  obtain rfl : w0 = (.int i0) := Option.some.inj q0
  obtain ⟨a1, t1⟩ := and_e t0
  obtain ⟨i1, q1⟩ := is_v a1
  obtain rfl : w1 = (.int i1) := Option.some.inj q1
  obtain ⟨a2, t2⟩ := and_e t1
  obtain ⟨i2, q2⟩ := is_v a2
  obtain rfl : w2 = (.int i2) := Option.some.inj q2
  obtain ⟨a3, t3⟩ := and_e t2
  obtain ⟨i3, q3⟩ := is_v a3
  obtain rfl : w3 = (.int i3) := Option.some.inj q3
  obtain ⟨a4, t4⟩ := and_e t3
  obtain ⟨i4, q4⟩ := is_v a4
  obtain rfl : w4 = (.int i4) := Option.some.inj q4
  obtain ⟨i5, q5⟩ := is_v t4
  obtain rfl : w5 = (.int i5) := Option.some.inj q5
  obtain ⟨n, o, g1, g2, g3, _, L, rfl, ⟨rfl, N⟩, hq⟩ := rm0 l s _ hw tables_1 i0 i1 i2 i3 i4 i5 s.heap s.heap.size (Nat.le_refl _) p e ha hc hk s m _ below hf ((Spec.applies_iff_loose hf).mp happ).1 ⟨rfl, State.Warmed39.refl s, rfl⟩ trivial
  refine ⟨n, _, g1, g2, g3, hpost _ _ _ _ _ _ ⟨Cond.after_iff.mpr rfl, Cond.after_iff.mpr (eq_i res_at (Term.int_eval (1)) rfl), trivial⟩ ⟨hq.1, hq.2.1, hq.2.2.1, (hq.2.2.2.sift fun y hy => Or.inr (N y hy)).mono (by decide) (by decide)⟩⟩
theorem main_1_1 : Claimed_1_1 := comes_1 fun _ _ _ _ _ _ h hF => ⟨h.1, hF⟩
theorem main_1_2 : Claimed_1_2 := comes_1 fun _ _ _ _ _ _ h hF => ⟨h.2.1, hF⟩
end Jvm.Pilot.@@N@@
namespace Jvm.Pilot.@@N@@
open Jvm Jvm.ClassFile Sem Op Lib Jvm.Free Jvm.Stand Jvm.Pilot.@@N@@.Jvm.D
/-! MADE BY PROGRAM (witnessworld.py) out of the Statement's table words and the real class files: 14 classes; the members and pool entries that the words name. The judged class is class 1, her method 1. -/
namespace start1
open Jvm.ClassFile
def u (s : String) : CpInfo := .utf8 (stringToUtf16 s)
/-- a pool by its gaps: so many unusable entries, then the entry; so many at the end -/
def gap : Nat → List CpInfo → List CpInfo
  | 0, r => r
  | n + 1, r => .unusable :: gap n r
def poolList (es : List (Nat × CpInfo)) (last : Nat) : List CpInfo := es.foldr (fun e r => gap e.1 (e.2 :: r)) (gap last [])
def pool (es : List (Nat × CpInfo)) (last : Nat) : Array CpInfo := ⟨poolList es last⟩
def fileOf (pool : Array CpInfo) (this : Nat) (attrs : Array Attribute := #[]) (ms : Array MethodInfo := #[]) (fl : Nat := 33) (sup : Nat := 0) (ifs : Array Nat := #[]) (fds : Array FieldInfo := #[]) : ClassFile where
  minorVersion := 0
  majorVersion := 65
  constantPool := pool
  accessFlags := fl
  thisClass := this
  superClass := sup
  interfaces := ifs
  fields := fds
  methods := ms
  attributes := attrs
def plain (name : String) (sup : Option ClassId) : Class where
  name := name
  kind := .ordinary
  loader := none
  accessFlags := 33
  super := sup
  interfaces := #[]
  cf := none
  fields := #[]
  methods := #[]
  instanceTypes := #[]
  staticTypes := #[]
  resolved := #[]
  callSites := []
  init := .initialized
  statics := none
  mirror := none

def pool0 : Array CpInfo := pool [(5, u "<init>"), (0, u "()V"), (1, .class_ 10), (1, u "java/lang/Object")] 113

def k0c0 : Code := { maxStack := 0, maxLocals := 1, code := object_method_1_code, exceptionTable := #[], attributes := #[] }
def k0m0 : Method := { name := "<init>", desc := "()V", sig := { parameters := [], returnType := none }, accessFlags := 1, code := some k0c0 }
/-- java/lang/Object -/
def k0 : Class := { plain "java/lang/Object" none with
  accessFlags := 33
  interfaces := #[]
  cf := some (fileOf pool0 8 #[] #[{ accessFlags := 1, nameIndex := 5, descriptorIndex := 6, attributes := #[] }] 33 0 #[] #[])
  fields := #[]
  methods := #[k0m0]
  instanceTypes := #[]
  staticTypes := #[]
  resolved := Array.replicate 124 none
  statics := none }

def pool1 : Array CpInfo := pool [(2, .class_ 4), (1, u "java/lang/Object"), (0, u "<init>"), (0, u "()V"), (0, .integer 2147483647), (0, .class_ 9), (0, u "com/example/hashspace/hashspace/protocol/FrameHeader"), (0, .integer 268435448), (0, .methodref 8 12), (0, .nameAndType 5 13), (0, u "(ZIIII)V"), (0, .methodref 8 15), (0, .nameAndType 16 17), (0, u "hasFlag"), (0, u "(I)Z"), (0, .class_ 19), (0, u "com/example/hashspace/hashspace/protocol/FrameHeaderHasFlagPinLaw"), (2, u "law"), (0, u "(IIIIII)Z")] 3

def k1m0 : Method := { name := "<init>", desc := "()V", sig := { parameters := [], returnType := none }, accessFlags := 1, code := none }
def k1c1 : Code := { maxStack := 7, maxLocals := 20, code := code, exceptionTable := #[], attributes := #[] }
def k1m1 : Method := { name := "law", desc := "(IIIIII)Z", sig := { parameters := [.int, .int, .int, .int, .int, .int], returnType := some .boolean }, accessFlags := 9, code := some k1c1 }
/-- com/example/hashspace/hashspace/protocol/FrameHeaderHasFlagPinLaw -/
def k1 : Class := { plain "com/example/hashspace/hashspace/protocol/FrameHeaderHasFlagPinLaw" (some 0) with
  accessFlags := 49
  interfaces := #[]
  cf := some (fileOf pool1 18 #[] #[{ accessFlags := 1, nameIndex := 5, descriptorIndex := 6, attributes := #[] }, { accessFlags := 9, nameIndex := 22, descriptorIndex := 23, attributes := #[] }] 49 2 #[] #[])
  fields := #[]
  methods := #[k1m0, k1m1]
  instanceTypes := #[]
  staticTypes := #[]
  resolved := Array.replicate 27 none
  statics := none }

def pool2 : Array CpInfo := pool [(1, .class_ 2), (0, u "com/example/hashspace/hashspace/protocol/FrameHeader"), (0, .methodref 4 5), (0, .class_ 6), (0, .nameAndType 7 8), (0, u "java/lang/Object"), (0, u "<init>"), (0, u "()V"), (0, .string 10), (0, u "flags"), (0, .methodref 1 12), (0, .nameAndType 13 14), (0, u "checkRange"), (0, u "(Ljava/lang/String;III)V"), (0, .string 16), (0, u "stream"), (2, .string 20), (0, u "opcode"), (0, .string 22), (0, u "body length"), (0, .integer 268435447), (0, .fieldref 1 25), (0, .nameAndType 26 27), (0, u "response"), (0, u "Z"), (0, .fieldref 1 29), (0, .nameAndType 10 30), (0, u "I"), (0, .fieldref 1 32), (0, .nameAndType 16 30), (0, .fieldref 1 34), (0, .nameAndType 20 30), (0, .fieldref 1 36), (0, .nameAndType 37 30), (0, u "bodyLength"), (17, u "(I)Z"), (78, u "(ZIIII)V"), (23, u "VERSION"), (2, u "SIZE"), (1, u "MAX_FRAME_LENGTH"), (1, u "MAX_BODY_LENGTH"), (0, u "FLAG_COMPRESSION"), (1, u "FLAG_TRACING"), (1, u "FLAG_CUSTOM_PAYLOAD"), (0, u "FLAG_WARNING"), (1, u "FLAG_USE_BETA"), (1, u "RESPONSE_BIT"), (1, u "VERSION_MASK"), (10, u "hasFlag")] 17

def k2c0 : Code := { maxStack := 4, maxLocals := 6, code := prog_41_method_1_code, exceptionTable := #[], attributes := #[] }
def k2m0 : Method := { name := "<init>", desc := "(ZIIII)V", sig := { parameters := [.boolean, .int, .int, .int, .int], returnType := none }, accessFlags := 1, code := some k2c0 }
def k2c1 : Code := { maxStack := 2, maxLocals := 2, code := prog_41_method_7_code, exceptionTable := #[], attributes := #[] }
def k2m1 : Method := { name := "hasFlag", desc := "(I)Z", sig := { parameters := [.int], returnType := some .boolean }, accessFlags := 1, code := some k2c1 }
def k2c2 : Code := { maxStack := 6, maxLocals := 4, code := prog_41_method_12_code, exceptionTable := #[], attributes := #[] }
def k2m2 : Method := { name := "checkRange", desc := "(Ljava/lang/String;III)V", sig := { parameters := [(.object "java/lang/String"), .int, .int, .int], returnType := none }, accessFlags := 10, code := some k2c2 }
/-- com/example/hashspace/hashspace/protocol/FrameHeader -/
def k2 : Class := { plain "com/example/hashspace/hashspace/protocol/FrameHeader" (some 0) with
  accessFlags := 33
  interfaces := #[]
  cf := some (fileOf pool2 1 #[] #[{ accessFlags := 1, nameIndex := 7, descriptorIndex := 134, attributes := #[] }, { accessFlags := 1, nameIndex := 188, descriptorIndex := 55, attributes := #[] }, { accessFlags := 10, nameIndex := 13, descriptorIndex := 14, attributes := #[] }] 33 4 #[] #[{ accessFlags := 25, nameIndex := 158, descriptorIndex := 30, attributes := #[] }, { accessFlags := 25, nameIndex := 161, descriptorIndex := 30, attributes := #[] }, { accessFlags := 25, nameIndex := 163, descriptorIndex := 30, attributes := #[] }, { accessFlags := 25, nameIndex := 165, descriptorIndex := 30, attributes := #[] }, { accessFlags := 25, nameIndex := 166, descriptorIndex := 30, attributes := #[] }, { accessFlags := 25, nameIndex := 168, descriptorIndex := 30, attributes := #[] }, { accessFlags := 25, nameIndex := 170, descriptorIndex := 30, attributes := #[] }, { accessFlags := 25, nameIndex := 171, descriptorIndex := 30, attributes := #[] }, { accessFlags := 25, nameIndex := 173, descriptorIndex := 30, attributes := #[] }, { accessFlags := 26, nameIndex := 175, descriptorIndex := 30, attributes := #[] }, { accessFlags := 26, nameIndex := 177, descriptorIndex := 30, attributes := #[] }, { accessFlags := 18, nameIndex := 26, descriptorIndex := 27, attributes := #[] }, { accessFlags := 18, nameIndex := 10, descriptorIndex := 30, attributes := #[] }, { accessFlags := 18, nameIndex := 16, descriptorIndex := 30, attributes := #[] }, { accessFlags := 18, nameIndex := 20, descriptorIndex := 30, attributes := #[] }, { accessFlags := 18, nameIndex := 37, descriptorIndex := 30, attributes := #[] }])
  fields := #[{ name := "VERSION", type := .int, accessFlags := 25, slot := 0, constantValue := 0 }, { name := "SIZE", type := .int, accessFlags := 25, slot := 1, constantValue := 0 }, { name := "MAX_FRAME_LENGTH", type := .int, accessFlags := 25, slot := 2, constantValue := 0 }, { name := "MAX_BODY_LENGTH", type := .int, accessFlags := 25, slot := 3, constantValue := 0 }, { name := "FLAG_COMPRESSION", type := .int, accessFlags := 25, slot := 4, constantValue := 0 }, { name := "FLAG_TRACING", type := .int, accessFlags := 25, slot := 5, constantValue := 0 }, { name := "FLAG_CUSTOM_PAYLOAD", type := .int, accessFlags := 25, slot := 6, constantValue := 0 }, { name := "FLAG_WARNING", type := .int, accessFlags := 25, slot := 7, constantValue := 0 }, { name := "FLAG_USE_BETA", type := .int, accessFlags := 25, slot := 8, constantValue := 0 }, { name := "RESPONSE_BIT", type := .int, accessFlags := 26, slot := 9, constantValue := 0 }, { name := "VERSION_MASK", type := .int, accessFlags := 26, slot := 10, constantValue := 0 }, { name := "response", type := .boolean, accessFlags := 18, slot := 0, constantValue := 0 }, { name := "flags", type := .int, accessFlags := 18, slot := 1, constantValue := 0 }, { name := "stream", type := .int, accessFlags := 18, slot := 2, constantValue := 0 }, { name := "opcode", type := .int, accessFlags := 18, slot := 3, constantValue := 0 }, { name := "bodyLength", type := .int, accessFlags := 18, slot := 4, constantValue := 0 }]
  methods := #[k2m0, k2m1, k2m2]
  instanceTypes := #[.boolean, .int, .int, .int, .int]
  staticTypes := #[.int, .int, .int, .int, .int, .int, .int, .int, .int, .int, .int]
  resolved := Array.replicate 206 none
  statics := none }

def pool3 : Array CpInfo := pool [(1, .class_ 2), (0, u "java/io/Serializable"), (0, .class_ 4), (0, u "java/lang/Object")] 2

/-- java/io/Serializable -/
def k3 : Class := { plain "java/io/Serializable" (some 0) with
  accessFlags := 1537
  interfaces := #[]
  cf := some (fileOf pool3 1 #[] #[] 1537 3 #[] #[])
  fields := #[]
  methods := #[]
  instanceTypes := #[]
  staticTypes := #[]
  resolved := Array.replicate 7 none
  statics := none }

def pool4 : Array CpInfo := pool [(1, .class_ 2), (0, u "java/lang/Comparable"), (0, .class_ 4), (0, u "java/lang/Object")] 7

/-- java/lang/Comparable -/
def k4 : Class := { plain "java/lang/Comparable" (some 0) with
  accessFlags := 1537
  interfaces := #[]
  cf := some (fileOf pool4 1 #[] #[] 1537 3 #[] #[])
  fields := #[]
  methods := #[]
  instanceTypes := #[]
  staticTypes := #[]
  resolved := Array.replicate 12 none
  statics := none }

def pool5 : Array CpInfo := pool [(2, .class_ 4), (1, u "java/lang/CharSequence"), (42, .class_ 48), (0, u "java/lang/CharSequence$1CodePointIterator"), (10, .class_ 60), (0, u "java/lang/CharSequence$1CharIterator"), (5, .class_ 67), (0, u "java/lang/Object")] 63

/-- java/lang/CharSequence -/
def k5 : Class := { plain "java/lang/CharSequence" (some 0) with
  accessFlags := 1537
  interfaces := #[]
  cf := some (fileOf pool5 2 #[.nestMembers #[47, 59]] #[] 1537 66 #[] #[])
  fields := #[]
  methods := #[]
  instanceTypes := #[]
  staticTypes := #[]
  resolved := Array.replicate 131 none
  statics := none }

def pool6 : Array CpInfo := pool [(1, .class_ 2), (0, u "java/lang/constant/Constable"), (0, .class_ 4), (0, u "java/lang/Object")] 6

/-- java/lang/constant/Constable -/
def k6 : Class := { plain "java/lang/constant/Constable" (some 0) with
  accessFlags := 1537
  interfaces := #[]
  cf := some (fileOf pool6 1 #[] #[] 1537 3 #[] #[])
  fields := #[]
  methods := #[]
  instanceTypes := #[]
  staticTypes := #[]
  resolved := Array.replicate 11 none
  statics := none }

def pool7 : Array CpInfo := pool [(1, .class_ 2), (0, u "java/lang/constant/ConstantDesc"), (0, .class_ 4), (0, u "java/lang/Object")] 32

/-- java/lang/constant/ConstantDesc -/
def k7 : Class := { plain "java/lang/constant/ConstantDesc" (some 0) with
  accessFlags := 1537
  interfaces := #[]
  cf := some (fileOf pool7 1 #[] #[] 1537 3 #[] #[])
  fields := #[]
  methods := #[]
  instanceTypes := #[]
  staticTypes := #[]
  resolved := Array.replicate 37 none
  statics := none }

def pool8 : Array CpInfo := pool [(2, .class_ 4), (1, u "java/lang/Object"), (0, u "<init>"), (0, u "()V"), (3, .class_ 12), (1, u "java/lang/String"), (0, u "value"), (0, u "[B"), (2, u "coder"), (0, u "B"), (2, u "hash"), (0, u "I"), (2, u "hashIsZero"), (0, u "Z"), (13, u "COMPACT_STRINGS"), (534, .class_ 576), (0, u "java/lang/CharSequence"), (22, u "CASE_INSENSITIVE_ORDER"), (0, u "Ljava/util/Comparator;"), (500, u "serialPersistentFields"), (0, u "[Ljava/io/ObjectStreamField;"), (0, .class_ 1104), (0, u "java/lang/String$CaseInsensitiveComparator"), (1, .class_ 1107), (0, u "java/io/Serializable"), (0, .class_ 1109), (0, u "java/lang/Comparable"), (0, .class_ 1111), (0, u "java/lang/constant/Constable"), (0, .class_ 1113), (0, u "java/lang/constant/ConstantDesc"), (2, u "serialVersionUID"), (0, u "J"), (3, u "REPL"), (0, u "C"), (2, u "LATIN1"), (1, u "UTF16")] 323

def k8m0 : Method := { name := "<init>", desc := "()V", sig := { parameters := [], returnType := none }, accessFlags := 1, code := none }
/-- java/lang/String -/
def k8 : Class := { plain "java/lang/String" (some 0) with
  accessFlags := 49
  interfaces := #[3, 4, 5, 6, 7]
  cf := some (fileOf pool8 10 #[.nestMembers #[1103]] #[{ accessFlags := 1, nameIndex := 5, descriptorIndex := 6, attributes := #[] }] 49 2 #[1106, 1108, 575, 1110, 1112] #[{ accessFlags := 18, nameIndex := 13, descriptorIndex := 14, attributes := #[] }, { accessFlags := 18, nameIndex := 17, descriptorIndex := 18, attributes := #[] }, { accessFlags := 2, nameIndex := 21, descriptorIndex := 22, attributes := #[] }, { accessFlags := 2, nameIndex := 25, descriptorIndex := 26, attributes := #[] }, { accessFlags := 26, nameIndex := 1116, descriptorIndex := 1117, attributes := #[] }, { accessFlags := 24, nameIndex := 40, descriptorIndex := 26, attributes := #[] }, { accessFlags := 26, nameIndex := 1101, descriptorIndex := 1102, attributes := #[] }, { accessFlags := 26, nameIndex := 1121, descriptorIndex := 1122, attributes := #[] }, { accessFlags := 25, nameIndex := 599, descriptorIndex := 600, attributes := #[] }, { accessFlags := 24, nameIndex := 1125, descriptorIndex := 18, attributes := #[] }, { accessFlags := 24, nameIndex := 1127, descriptorIndex := 18, attributes := #[] }])
  fields := #[{ name := "value", type := (.array .byte), accessFlags := 18, slot := 0, constantValue := 0 }, { name := "coder", type := .byte, accessFlags := 18, slot := 1, constantValue := 0 }, { name := "hash", type := .int, accessFlags := 2, slot := 2, constantValue := 0 }, { name := "hashIsZero", type := .boolean, accessFlags := 2, slot := 3, constantValue := 0 }, { name := "serialVersionUID", type := .long, accessFlags := 26, slot := 0, constantValue := 0 }, { name := "COMPACT_STRINGS", type := .boolean, accessFlags := 24, slot := 1, constantValue := 0 }, { name := "serialPersistentFields", type := (.array (.object "java/io/ObjectStreamField")), accessFlags := 26, slot := 2, constantValue := 0 }, { name := "REPL", type := .char, accessFlags := 26, slot := 3, constantValue := 0 }, { name := "CASE_INSENSITIVE_ORDER", type := (.object "java/util/Comparator"), accessFlags := 25, slot := 4, constantValue := 0 }, { name := "LATIN1", type := .byte, accessFlags := 24, slot := 5, constantValue := 0 }, { name := "UTF16", type := .byte, accessFlags := 24, slot := 6, constantValue := 0 }]
  methods := #[k8m0]
  instanceTypes := #[(.array .byte), .byte, .int, .boolean]
  staticTypes := #[.long, .boolean, (.array (.object "java/io/ObjectStreamField")), .char, (.object "java/util/Comparator"), .byte, .byte]
  resolved := Array.replicate 1451 none
  statics := none }

def pool9 : Array CpInfo := pool [(1, u "java/lang/Cloneable"), (0, .class_ 1), (0, u "java/lang/Object"), (0, .class_ 3)] 3

/-- java/lang/Cloneable -/
def k9 : Class := { plain "java/lang/Cloneable" (some 0) with
  accessFlags := 1537
  interfaces := #[]
  cf := some (fileOf pool9 2 #[] #[] 1537 4 #[] #[])
  fields := #[]
  methods := #[]
  instanceTypes := #[]
  staticTypes := #[]
  resolved := Array.replicate 8 none
  statics := none }

/-- the primitive byte -/
def k10 : Class := { plain "byte" none with kind := .primitive 'B', accessFlags := 0x411 }
/-- [B -/
def k11 : Class := { plain "[B" (some 0) with kind := .array 10 .byte, interfaces := #[9, 3], accessFlags := 1041 }

/-- the primitive int -/
def k12 : Class := { plain "int" none with kind := .primitive 'I', accessFlags := 0x411 }
/-- [I -/
def k13 : Class := { plain "[I" (some 0) with kind := .array 12 .int, interfaces := #[9, 3], accessFlags := 1041 }

def heap : Heap := #[]
def classes : Array Class := #[k0, k1, k2, k3, k4, k5, k6, k7, k8, k9, k10, k11, k12, k13]
def interned : List (Array UInt16 × Addr) := []
def slotsUsed : Nat := 0
def theMethod : MethodId := ⟨1, 1⟩
def args0 : Array Value := #[.int 1, .int 2, .int 3, .int 4, .int 5, .int 6]
def aboutOver (below : List Frame) : State where
  vm := { classes := classes, interned := interned.toArray }
  heap := heap
  slotsUsed := slotsUsed
  threads := #[{ frames := .invoking theMethod args0 :: below }]
def below0 : List Frame := [.native { method := ⟨0, 0⟩, args := #[] }]
def about1 : State := aboutOver below0
def p0 : Program := .bare "" "" ""
def e0 : Env := launch0.env 0 0 0
theorem w_frames : about1.frames = Frame.invoking theMethod args0 :: below0 := rfl
set_option maxRecDepth 65536 in
theorem w_args : argsFit about1.vm theMethod args0 = true := by decide +kernel
set_option maxRecDepth 65536 in
theorem w_heap : heapFits about1 = true := by decide +kernel
set_option maxRecDepth 65536 in
theorem w_runnable : about1.curStatus? = some .runnable := by decide +kernel
set_option maxRecDepth 65536 in
theorem w_alone : about1.alone = true := by decide +kernel
set_option maxRecDepth 65536 in
theorem w_named : about1.methodNamed? x = some theMethod := by decide +kernel
set_option maxRecDepth 65536 in
theorem w_hears : about1.hears theMethod below0 = true := by decide +kernel
set_option maxRecDepth 65536 in
theorem w_ripe : about1.ripe theMethod args0 below0 = true := by decide +kernel
theorem w_running : about1.status = .running := rfl
set_option maxRecDepth 65536 in
theorem w_room : about1.hasRoom e0.platform room_1 = true :=
  launch0.hasRoom_least _ room_1 (by decide +kernel) (by decide +kernel) (by decide +kernel) (by decide +kernel) (by decide +kernel) (by decide +kernel)
theorem allAtoms_all (ts : List Jvm.Cond) (a : Array Jvm.Value) (st : Jvm.State) : (allAtoms ts).before a st = ts.all (fun c => c.before a st) := by
  induction ts with
  | nil => rfl
  | cons c t ih =>
    show (Jvm.Cond.and c (allAtoms t)).before a st = _
    rw [Jvm.Cond.before_and, ih, List.all_cons]
def words1 : List Jvm.Cond := Jvm.Cond.code x code maxLocals ret :: tables_1
/-- a 'code' word, met by the world's own term for the bytes: nothing is compared byte by byte -/
theorem code_word {y : MethodName} {bytes : ByteArray} {mx : Nat} {rt : Option FieldType} {a : Array Value} {s : State} {m : MethodId} {meth : Method} {c : Code} (h1 : s.methodNamed? y = some m) (h2 : s.vm.method? m = some meth) (h3 : meth.code = some c) (h4 : c.code = bytes)
    (h5 : (c.maxLocals == mx && c.exceptionTable.isEmpty && decide (c.maxStack ≤ mostOperands) && decide (meth.sig.returnType = rt) && !meth.locks && decide (parseMethodDescriptor y.desc = some meth.sig)) = true) : (Jvm.Cond.code y bytes mx rt).before a s = true := by
  simp only [Bool.and_eq_true, beq_iff_eq, Bool.not_eq_true', decide_eq_true_eq] at h5
  obtain ⟨⟨⟨⟨⟨g1, g2⟩, g3⟩, g4⟩, g5⟩, g6⟩ := h5
  simp [Cond.before, Cond.holds, Cond.value, h1, h2, h3, h4, g1, g2, g3, g4, g5, g6]
def isCode : Jvm.Cond → Bool
  | .code _ _ _ _ => true
  | _ => false
theorem all_split {L : List Jvm.Cond} {P : Jvm.Cond → Bool} (h1 : L.all (fun c => isCode c || P c) = true) (h2 : ∀ c ∈ L.filter isCode, P c = true) : L.all P = true := by
  refine List.all_eq_true.mpr fun c hc => ?_
  have h := List.all_eq_true.mp h1 c hc
  rcases Bool.eq_false_or_eq_true (isCode c) with hi | hi
  · exact h2 c (List.mem_filter.mpr ⟨hc, hi⟩)
  · simpa [hi] using h
set_option maxRecDepth 65536 in
theorem w_c0 : (Jvm.Cond.code x code maxLocals ret).before args0 about1 = true := code_word (m := ⟨1, 1⟩) (meth := k1m1) (c := k1c1) (by decide +kernel) rfl rfl rfl (by decide +kernel)
set_option maxRecDepth 65536 in
theorem w_c1 : (Jvm.Cond.code ({ cls := "com/example/hashspace/hashspace/protocol/FrameHeader", name := "<init>", desc := "(ZIIII)V" } : Jvm.MethodName) prog_41_method_1_code (6 : Nat) (Option.none : Option Jvm.ClassFile.FieldType)).before args0 about1 = true := code_word (m := ⟨2, 0⟩) (meth := k2m0) (c := k2c0) (by decide +kernel) rfl rfl rfl (by decide +kernel)
set_option maxRecDepth 65536 in
theorem w_c2 : (Jvm.Cond.code ({ cls := "java/lang/Object", name := "<init>", desc := "()V" } : Jvm.MethodName) object_method_1_code (1 : Nat) (Option.none : Option Jvm.ClassFile.FieldType)).before args0 about1 = true := code_word (m := ⟨0, 0⟩) (meth := k0m0) (c := k0c0) (by decide +kernel) rfl rfl rfl (by decide +kernel)
set_option maxRecDepth 65536 in
theorem w_c3 : (Jvm.Cond.code ({ cls := "com/example/hashspace/hashspace/protocol/FrameHeader", name := "checkRange", desc := "(Ljava/lang/String;III)V" } : Jvm.MethodName) prog_41_method_12_code (4 : Nat) (Option.none : Option Jvm.ClassFile.FieldType)).before args0 about1 = true := code_word (m := ⟨2, 2⟩) (meth := k2m2) (c := k2c2) (by decide +kernel) rfl rfl rfl (by decide +kernel)
set_option maxRecDepth 65536 in
theorem w_c4 : (Jvm.Cond.code ({ cls := "com/example/hashspace/hashspace/protocol/FrameHeader", name := "hasFlag", desc := "(I)Z" } : Jvm.MethodName) prog_41_method_7_code (2 : Nat) (Option.some Jvm.ClassFile.FieldType.boolean)).before args0 about1 = true := code_word (m := ⟨2, 1⟩) (meth := k2m1) (c := k2c1) (by decide +kernel) rfl rfl rfl (by decide +kernel)
def codes1 : List Jvm.Cond := [Jvm.Cond.code x code maxLocals ret, Jvm.Cond.code ({ cls := "com/example/hashspace/hashspace/protocol/FrameHeader", name := "<init>", desc := "(ZIIII)V" } : Jvm.MethodName) prog_41_method_1_code (6 : Nat) (Option.none : Option Jvm.ClassFile.FieldType), Jvm.Cond.code ({ cls := "java/lang/Object", name := "<init>", desc := "()V" } : Jvm.MethodName) object_method_1_code (1 : Nat) (Option.none : Option Jvm.ClassFile.FieldType), Jvm.Cond.code ({ cls := "com/example/hashspace/hashspace/protocol/FrameHeader", name := "checkRange", desc := "(Ljava/lang/String;III)V" } : Jvm.MethodName) prog_41_method_12_code (4 : Nat) (Option.none : Option Jvm.ClassFile.FieldType), Jvm.Cond.code ({ cls := "com/example/hashspace/hashspace/protocol/FrameHeader", name := "hasFlag", desc := "(I)Z" } : Jvm.MethodName) prog_41_method_7_code (2 : Nat) (Option.some Jvm.ClassFile.FieldType.boolean)]
set_option maxRecDepth 65536 in
theorem codes_eq : words1.filter isCode = codes1 := rfl
theorem w_codes : ∀ c ∈ words1.filter isCode, c.before args0 about1 = true := by
  rw [codes_eq]
  intro c hc
  simp only [codes1, List.mem_cons, List.not_mem_nil, or_false] at hc
  rcases hc with rfl | rfl | rfl | rfl | rfl
  · exact w_c0
  · exact w_c1
  · exact w_c2
  · exact w_c3
  · exact w_c4
set_option maxRecDepth 65536 in
theorem w_t1 : (words1.take 24).all (fun c => isCode c || c.before args0 about1) = true := by decide +kernel
set_option maxRecDepth 65536 in
theorem w_t2 : (words1.drop 24).all (fun c => isCode c || c.before args0 about1) = true := by decide +kernel
theorem w_tables : (allAtoms (Jvm.Cond.code x code maxLocals ret :: tables_1)).before args0 about1 = true := by
  rw [allAtoms_all]
  show words1.all (fun c => c.before args0 about1) = true
  refine all_split ?_ w_codes
  rw [← List.take_append_drop 24 words1, List.all_append, w_t1, w_t2]
  rfl
set_option maxRecDepth 65536 in
theorem w_case : (Jvm.Cond.and given_1 narrow_1).before args0 about1 = true := by decide +kernel
theorem w_applies : (headSpec (Jvm.Cond.code x code maxLocals ret :: tables_1) room_1).applies x e0.platform about1 = true :=
  (Spec.applies_iff w_frames).mpr ⟨w_running, w_runnable, w_alone, w_named, w_hears, w_ripe, w_room, w_tables⟩
theorem atStart : AtStart classFile x code maxLocals ret World_1 tables_1 room_1 Calls_1 rest_1 Pre_1 launch0 p0 e0 about1 theMethod args0 below0 :=
  ⟨lists_1, trivial, launch0.admits_env _ _ _, launch0.least_env, fairChoices_fair.cas, fairChoices_fair.clock, w_frames, w_args, w_heap, w_applies, trivial, trivial, w_case⟩
end start1
theorem witness_1 : WitnessClaimed_1 := ⟨start1.p0, start1.e0, start1.about1, start1.theMethod, start1.args0, start1.below0, start1.atStart⟩
end Jvm.Pilot.@@N@@
