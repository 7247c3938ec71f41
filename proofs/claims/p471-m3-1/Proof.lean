import JvmDerived
import JvmDerived.Pilot.@@N@@Statement
import JvmDerived.Pilot.@@N@@Code
set_option linter.unusedVariables false
set_option linter.unusedSimpArgs false
namespace Jvm.RoadKit
open Sem ClassFile Op Lib Jvm.Stand Jvm.Free Jvm.LawKit
section New
variable {p : Program} {l : Launch} {e : Env} {R : Room} {s : State} {m : MethodId} {args : Array Value} {below : List Frame} {meth : Method} {c : Code} {T : State} {locs : List Loc} {cells slots : Nat}
theorem retI (X : Stand p l e R s m args below meth c T locs cells slots) (hx : p.tables.exec = Jvm.exec) {pc : Nat} {Ls : Array Slot} {z : Int32} {rest : List Value} (hret : meth.sig.returnType = some .int) (hd : decode c.code pc = .ok (.ireturn, 1)) {fs : List Frame}
    (hl : ∀ (f : JFrame) (acts : List Action), f.method = m → f.locked = none → f.entered = [] → (doReturn e (T.setTop f) acts (some (.int z))).1 = T.setFrames fs) : Steps p.tables e below (T.setTop (mkF m pc Ls (.int z :: rest))) (T.setFrames fs) := by
  have hm' : T.vm.method? m = some meth := X.method'
  have hn : narrow .int (.int z) = .int z := rfl
  show Steps p.tables e below (T.setTop { method := m, pc := pc, locals := Ls, stack := _ :: rest, locked := none }) _
  jvm_step X.here [X.here.top, hx, hd, hm', hret, hn]
  first | (intro acts; rw [hl _ acts rfl rfl rfl]) | rw [hl _ _ rfl rfl rfl]
  exact Steps.refl _
end New
/-- the run has come from where P looks on to this frame -/
def Go (p : Program) (e : Env) (below : List Frame) (P : State → Prop) (T : State) (g : JFrame) : Prop := ∀ t, Steps p.tables e below (T.setTop g) t → P t
/-- where roads that move the state meet: one of them has come to this frame (wide: it may have interned) -/
def PosW (p : Program) (l : Launch) (e : Env) (R : Room) (s : State) (m : MethodId) (args : Array Value) (below : List Frame) (meth : Method) (c : Code) (P : State → Prop) (Z : State) (n0 : Nat) (own : String) (EL : List (String × Nat)) (h0 hf : Heap) (ws : List Addr) (cells slots : Nat) (g : JFrame) (K : Heap → Prop) : Prop :=
  ∃ (vm : Vm) (T : State) (locs : List Loc) (k : Nat), Stand p l e R (s.setVm vm) m args below meth c T locs cells slots ∧ Fr n0 locs ∧ Keep hf T.heap ws ∧ s.Since vm k ∧ k ≤ T.heap.size ∧ Z.Warmed39 vm ∧ vm.findClass own = some m.cls ∧ CHr Z EL s.vm h0 vm T.heap ∧ Go p e below P T g ∧ K T.heap
def PosN (p : Program) (l : Launch) (e : Env) (R : Room) (s : State) (m : MethodId) (args : Array Value) (below : List Frame) (meth : Method) (c : Code) (P : State → Prop) (n0 : Nat) (hf : Heap) (ws : List Addr) (cells slots : Nat) (g : JFrame) (K : Heap → Prop) : Prop :=
  ∃ (T : State) (locs : List Loc), Stand p l e R s m args below meth c T locs cells slots ∧ Fr n0 locs ∧ Keep hf T.heap ws ∧ Go p e below P T g ∧ K T.heap
theorem oldLe {Z : State} {n0 : Nat} {h : Heap} (O : Old Z n0 h) : n0 ≤ h.size := O.1 ▸ O.2.1
theorem narrow_ref {t : FieldType} {v : Value} (h : v.isRef = true) : narrow t v = v := by
  rcases ref_cases h with rfl | ⟨_, rfl⟩ <;> cases t <;> rfl
theorem fits_refV {C : String} {v : Value} (h : v.isRef = true) : fits (.object C) v = true := by
  rcases ref_cases h with rfl | ⟨_, rfl⟩ <;> rfl
end Jvm.RoadKit
namespace Jvm.Pilot.@@N@@
open Jvm Jvm.ClassFile Sem Op Lib Jvm.Free Jvm.Stand Jvm.LawKit Jvm.RoadKit Bundle Jvm.Pilot.@@N@@.Jvm.D
theorem eq_int {args : Array Value} {first s : State} {o : Option Outcome} {idx : List Nat} {a b : Term} {x : Value} {z : Int32} (ha : a.eval args first o idx s = some x) (hb : b.eval args first o idx s = some (.int z)) (h : (Jvm.Cond.eq a b).value args first o s idx = some true) : x = .int z := by
  cases x <;> simp [Cond.value, ha, hb] at h ⊢ <;> exact h
theorem nar_b0 : nar .boolean 0 = 0 := by decide
theorem nar_b1 : nar .boolean 1 = 1 := by decide
theorem nar_b8 (x : Int32) : nar .byte (x.toInt8.toInt32) = x.toInt8.toInt32 := by show (x.toInt8.toInt32).toInt8.toInt32 = x.toInt8.toInt32; simp
theorem eq_I {args : Array Value} {first s : State} {o : Option Outcome} {idx : List Nat} {a b : Term} {x y : Int32} (ha : a.eval args first o idx s = some (.int x)) (hb : b.eval args first o idx s = some (.int y)) : (Jvm.Cond.eq a b).value args first o s idx = some (decide (x = y)) := by simp [Cond.value, ha, hb]
theorem pn_89718473 : plainName "com/example/covrage/covrage/engine/Answer" = true := by first | (simp [plainName, overriddenIn]; done) | decide +kernel
theorem ef_init_ (m : MethodId) (x0 : Addr) (x1 : Addr) (x4 : Int32) : entryFrame m #[(.ref x0), (.ref x1), .null, .null, (.int x4)] 5 = mkF m 0 #[.val (.ref x0), .val (.ref x1), .val .null, .val .null, .val (.int x4)] [] := by first | (simp [entryFrame, mkF, argsToLocals, Value.category]; done) | rfl
theorem d2_0 : decode prog_4_method_1_code 0 = .ok (.aload_n 0, 1) := by decide +kernel
theorem d2_1 : decode prog_4_method_1_code 1 = .ok (.invokespecial 1, 3) := by decide +kernel
theorem d2_4 : decode prog_4_method_1_code 4 = .ok (.aload_n 0, 1) := by decide +kernel
theorem d2_5 : decode prog_4_method_1_code 5 = .ok (.aload_n 1, 1) := by decide +kernel
theorem d2_6 : decode prog_4_method_1_code 6 = .ok (.putfield 7, 3) := by decide +kernel
theorem d2_9 : decode prog_4_method_1_code 9 = .ok (.aload_n 0, 1) := by decide +kernel
theorem d2_10 : decode prog_4_method_1_code 10 = .ok (.aload_n 2, 1) := by decide +kernel
theorem d2_11 : decode prog_4_method_1_code 11 = .ok (.putfield 13, 3) := by decide +kernel
theorem d2_14 : decode prog_4_method_1_code 14 = .ok (.aload_n 0, 1) := by decide +kernel
theorem d2_15 : decode prog_4_method_1_code 15 = .ok (.aload_n 3, 1) := by decide +kernel
theorem d2_16 : decode prog_4_method_1_code 16 = .ok (.putfield 17, 3) := by decide +kernel
theorem d2_19 : decode prog_4_method_1_code 19 = .ok (.aload_n 0, 1) := by decide +kernel
theorem d2_20 : decode prog_4_method_1_code 20 = .ok (.iload 4, 2) := by decide +kernel
theorem d2_22 : decode prog_4_method_1_code 22 = .ok (.putfield 21, 3) := by decide +kernel
theorem d2_25 : decode prog_4_method_1_code 25 = .ok (.return_, 1) := by decide +kernel
def Q_init_ (Z : State) (a : Addr) (w : Addr) (r : Int32) (h0 : Heap) (n0 : Nat) (rv_ : Option Value) (rh_ : Heap) (rL_ : List Loc) : Prop := (rv_ = none) ∧ (Fr n0 rL_) ∧ (Keep h0 rh_ [a]) ∧ (Exa Z rh_ a "com/example/covrage/covrage/engine/Answer") ∧ (Fld Z rh_ a "com/example/covrage/covrage/engine/Answer" "verdict" "Lcom/example/covrage/covrage/engine/Verdict;" (.ref w)) ∧ (Fld Z rh_ a "com/example/covrage/covrage/engine/Answer" "initialMarking" "Lcom/example/covrage/covrage/model/Marking;" .null) ∧ (Fld Z rh_ a "com/example/covrage/covrage/engine/Answer" "witness" "Lcom/example/covrage/covrage/model/Witness;" .null) ∧ (Fld Z rh_ a "com/example/covrage/covrage/engine/Answer" "rounds" "I" (.int r))
set_option maxRecDepth 65536 in
set_option maxHeartbeats 40000000 in
theorem init_ (l : Launch) (Z : State) (a0 : Array Value) (hw : ∀ d ∈ tables_1, d.before a0 Z = true) (ws : List Jvm.Cond) (a : Addr) (w : Addr) (r : Int32) (h0 : Heap) (n0 : Nat) (O0 : Old Z n0 h0) (P0 : Exa Z h0 a "com/example/covrage/covrage/engine/Answer") (P1 : Fld Z h0 a "com/example/covrage/covrage/engine/Answer" "verdict" "Lcom/example/covrage/covrage/engine/Verdict;" .null) (P2 : Fld Z h0 a "com/example/covrage/covrage/engine/Answer" "initialMarking" "Lcom/example/covrage/covrage/model/Marking;" .null) (P3 : Fld Z h0 a "com/example/covrage/covrage/engine/Answer" "witness" "Lcom/example/covrage/covrage/model/Witness;" .null) (P4 : Fld Z h0 a "com/example/covrage/covrage/engine/Answer" "rounds" "I" (.int (0 : Int32))) (P5 : n0 ≤ a) :
    MetFree l (⟨"com/example/covrage/covrage/engine/Answer", "<init>", "(Lcom/example/covrage/covrage/engine/Verdict;Lcom/example/covrage/covrage/model/Marking;Lcom/example/covrage/covrage/model/Witness;I)V"⟩ : MethodName) (head1 (Jvm.Cond.code (⟨"com/example/covrage/covrage/engine/Answer", "<init>", "(Lcom/example/covrage/covrage/engine/Verdict;Lcom/example/covrage/covrage/model/Marking;Lcom/example/covrage/covrage/model/Witness;I)V"⟩ : MethodName) prog_4_method_1_code 5 none :: ws) ({ frames := 1, cells := 0, slots := 0, locals := 12 } : Room)) (fun a_ U_ => a_ = #[(.ref a), (.ref w), .null, .null, (.int r)] ∧ Z.Warmed39 U_.vm ∧ U_.heap = h0) (fun _ _ _ _ _ => True) (fun _ U_ o_ U_' => ∃ v_ L_, o_ = .returned v_ ∧ Q_init_ Z a w r h0 n0 v_ U_'.heap L_ ∧ FrameEnd U_ o_ U_' L_ ({ frames := 1, cells := 0, slots := 0, locals := 12 } : Room).cells ({ frames := 1, cells := 0, slots := 0, locals := 12 } : Room).slots) := by
  refine MetFree.of_bodySF (plainFor_of_name pn_89718473) hisR ?_
  intro p e s m args below meth c s₁ Bd hml0 hP0 hK
  obtain ⟨rfl, hZ, hh⟩ := hP0
  have hx := Bd.exec
  have hby := Bd.bytes
  have hml : c.maxLocals = 5 := hml0
  have hown : s.vm.findClass "com/example/covrage/covrage/engine/Answer" = some m.cls := findClass_of_methodNamed Bd.named
  have hnm := (name_of_methodNamed Bd.named Bd.method).1
  have X0 : Stand p l e ({ frames := 1, cells := 0, slots := 0, locals := 12 } : Room) s m #[(.ref a), (.ref w), .null, .null, (.int r)] below meth c s₁ [] 0 0 := Stand.of_body Bd
  have e0 : s₁.heap = h0 := by rw [← hh, Bd.state]; rfl
  have N0 := Fr.nil n0
  obtain ⟨P, hP, R0⟩ : ∃ P : State → Prop, (∀ t, P t → Steps p.tables e below (s₁.setTop (entryFrame m #[(.ref a), (.ref w), .null, .null, (.int r)] 5)) t) ∧ Go p e below P s₁ (mkF m 0 #[.val (.ref a), .val (.ref w), .val .null, .val .null, .val (.int r)] []) := ⟨_, fun _ h => h, fun t_ k_ => castTop (ef_init_ m a w r) k_⟩
  have R1 : Go p e below P s₁ (mkF m 1 #[.val (.ref a), .val (.ref w), .val .null, .val .null, .val (.int r)] [(.ref a)]) := fun t_ k_ => R0 t_ (XS.aloadN X0.here hx rfl (hb hby d2_0) rfl rfl k_)
  obtain ⟨T2, X2, e2, st2⟩ := initO X0 hx hZ hown (hw _ (List.mem_of_getElem? (i := 12) rfl)) (hw _ (List.mem_of_getElem? (i := 13) rfl)) (hw _ (List.mem_of_getElem? (i := 14) rfl)) e0 (g := (mkF m 1 #[.val (.ref a), .val (.ref w), .val .null, .val .null, .val (.int r)] [(.ref a)])) rfl (by rw [hml]; rfl) rfl (hb hby d2_1) (by decide) (W := 0) (by show 2 * 0 + _ ≤ _; exact Nat.le_of_eq rfl) (by decide)
  have R3 : Go p e below P T2 (mkF m 4 #[.val (.ref a), .val (.ref w), .val .null, .val .null, .val (.int r)] []) := fun t_ k_ => R1 t_ (st2 t_ k_)
  have R4 : Go p e below P T2 (mkF m 5 #[.val (.ref a), .val (.ref w), .val .null, .val .null, .val (.int r)] [(.ref a)]) := fun t_ k_ => R3 t_ (XS.aloadN X2.here hx rfl (hb hby d2_4) rfl rfl k_)
  have R5 : Go p e below P T2 (mkF m 6 #[.val (.ref a), .val (.ref w), .val .null, .val .null, .val (.int r)] [(.ref w), (.ref a)]) := fun t_ k_ => R4 t_ (XS.aloadN X2.here hx rfl (hb hby d2_5) rfl rfl k_)
  obtain ⟨T6, h6, X6, e6, W6, st6⟩ := putF X2 hx hZ hown (host := "") (Or.inl (hw _ (List.mem_of_getElem? (i := 15) rfl))) Via.refl e2 P1 P0 (Or.inr ⟨(hw _ (List.mem_of_getElem? (i := 16) rfl)), rfl, hnm⟩) (hw _ (List.mem_of_getElem? (i := 5) rfl)) (ty := (.object "com/example/covrage/covrage/engine/Verdict")) (by decide) rfl rfl (g := (mkF m 6 #[.val (.ref a), .val (.ref w), .val .null, .val .null, .val (.int r)] [(.ref w), (.ref a)])) rfl rfl (hb hby d2_6)
  have N6 := Fr.snoc X6 N0 P5
  have Fw6 := P1.same W6
  have O6 := O0.wr W6 P5
  have R7 : Go p e below P T6 (mkF m 9 #[.val (.ref a), .val (.ref w), .val .null, .val .null, .val (.int r)] []) := fun t_ k_ => R5 t_ (st6 t_ k_)
  have R8 : Go p e below P T6 (mkF m 10 #[.val (.ref a), .val (.ref w), .val .null, .val .null, .val (.int r)] [(.ref a)]) := fun t_ k_ => R7 t_ (XS.aloadN X6.here hx rfl (hb hby d2_9) rfl rfl k_)
  have R9 : Go p e below P T6 (mkF m 11 #[.val (.ref a), .val (.ref w), .val .null, .val .null, .val (.int r)] [.null, (.ref a)]) := fun t_ k_ => R8 t_ (XS.aloadN X6.here hx rfl (hb hby d2_10) rfl rfl k_)
  have f10 := (P0.wr W6)
  have f11 := (P2.other W6 (Or.inr (slot_ne (Or.inr (hw _ (List.mem_of_getElem? (i := 18) rfl))) (Or.inr (hw _ (List.mem_of_getElem? (i := 16) rfl))) (by decide) (t := (.object "com/example/covrage/covrage/model/Marking")) (t' := (.object "com/example/covrage/covrage/engine/Verdict")) (by decide) (by decide))))
  obtain ⟨T12, h12, X12, e12, W12, st12⟩ := putF X6 hx hZ hown (host := "") (Or.inl (hw _ (List.mem_of_getElem? (i := 17) rfl))) Via.refl e6 f11 f10 (Or.inr ⟨(hw _ (List.mem_of_getElem? (i := 18) rfl)), rfl, hnm⟩) (hw _ (List.mem_of_getElem? (i := 5) rfl)) (ty := (.object "com/example/covrage/covrage/model/Marking")) (by decide) rfl rfl (g := (mkF m 11 #[.val (.ref a), .val (.ref w), .val .null, .val .null, .val (.int r)] [.null, (.ref a)])) rfl rfl (hb hby d2_11)
  have N12 := Fr.snoc X12 N6 P5
  have Fw12 := f11.same W12
  have O12 := O6.wr W12 P5
  have R13 : Go p e below P T12 (mkF m 14 #[.val (.ref a), .val (.ref w), .val .null, .val .null, .val (.int r)] []) := fun t_ k_ => R9 t_ (st12 t_ k_)
  have R14 : Go p e below P T12 (mkF m 15 #[.val (.ref a), .val (.ref w), .val .null, .val .null, .val (.int r)] [(.ref a)]) := fun t_ k_ => R13 t_ (XS.aloadN X12.here hx rfl (hb hby d2_14) rfl rfl k_)
  have R15 : Go p e below P T12 (mkF m 16 #[.val (.ref a), .val (.ref w), .val .null, .val .null, .val (.int r)] [.null, (.ref a)]) := fun t_ k_ => R14 t_ (XS.aloadN X12.here hx rfl (hb hby d2_15) rfl rfl k_)
  have f16 := (f10.wr W12)
  have f17 := ((P3.other W6 (Or.inr (slot_ne (Or.inr (hw _ (List.mem_of_getElem? (i := 20) rfl))) (Or.inr (hw _ (List.mem_of_getElem? (i := 16) rfl))) (by decide) (t := (.object "com/example/covrage/covrage/model/Witness")) (t' := (.object "com/example/covrage/covrage/engine/Verdict")) (by decide) (by decide)))).other W12 (Or.inr (slot_ne (Or.inr (hw _ (List.mem_of_getElem? (i := 20) rfl))) (Or.inr (hw _ (List.mem_of_getElem? (i := 18) rfl))) (by decide) (t := (.object "com/example/covrage/covrage/model/Witness")) (t' := (.object "com/example/covrage/covrage/model/Marking")) (by decide) (by decide))))
  obtain ⟨T18, h18, X18, e18, W18, st18⟩ := putF X12 hx hZ hown (host := "") (Or.inl (hw _ (List.mem_of_getElem? (i := 19) rfl))) Via.refl e12 f17 f16 (Or.inr ⟨(hw _ (List.mem_of_getElem? (i := 20) rfl)), rfl, hnm⟩) (hw _ (List.mem_of_getElem? (i := 5) rfl)) (ty := (.object "com/example/covrage/covrage/model/Witness")) (by decide) rfl rfl (g := (mkF m 16 #[.val (.ref a), .val (.ref w), .val .null, .val .null, .val (.int r)] [.null, (.ref a)])) rfl rfl (hb hby d2_16)
  have N18 := Fr.snoc X18 N12 P5
  have Fw18 := f17.same W18
  have O18 := O12.wr W18 P5
  have R19 : Go p e below P T18 (mkF m 19 #[.val (.ref a), .val (.ref w), .val .null, .val .null, .val (.int r)] []) := fun t_ k_ => R15 t_ (st18 t_ k_)
  have R20 : Go p e below P T18 (mkF m 20 #[.val (.ref a), .val (.ref w), .val .null, .val .null, .val (.int r)] [(.ref a)]) := fun t_ k_ => R19 t_ (XS.aloadN X18.here hx rfl (hb hby d2_19) rfl rfl k_)
  have R21 : Go p e below P T18 (mkF m 22 #[.val (.ref a), .val (.ref w), .val .null, .val .null, .val (.int r)] [(.int r), (.ref a)]) := fun t_ k_ => R20 t_ (XS.iload X18.here hx rfl (hb hby d2_20) rfl k_)
  have f22 := (f16.wr W18)
  have f23 := (((P4.other W6 (Or.inr (slot_ne (Or.inr (hw _ (List.mem_of_getElem? (i := 22) rfl))) (Or.inr (hw _ (List.mem_of_getElem? (i := 16) rfl))) (by decide) (t := .int) (t' := (.object "com/example/covrage/covrage/engine/Verdict")) (by decide) (by decide)))).other W12 (Or.inr (slot_ne (Or.inr (hw _ (List.mem_of_getElem? (i := 22) rfl))) (Or.inr (hw _ (List.mem_of_getElem? (i := 18) rfl))) (by decide) (t := .int) (t' := (.object "com/example/covrage/covrage/model/Marking")) (by decide) (by decide)))).other W18 (Or.inr (slot_ne (Or.inr (hw _ (List.mem_of_getElem? (i := 22) rfl))) (Or.inr (hw _ (List.mem_of_getElem? (i := 20) rfl))) (by decide) (t := .int) (t' := (.object "com/example/covrage/covrage/model/Witness")) (by decide) (by decide))))
  obtain ⟨T24, h24, X24, e24, W24, st24⟩ := putF X18 hx hZ hown (host := "") (Or.inl (hw _ (List.mem_of_getElem? (i := 21) rfl))) Via.refl e18 f23 f22 (Or.inr ⟨(hw _ (List.mem_of_getElem? (i := 22) rfl)), rfl, hnm⟩) (hw _ (List.mem_of_getElem? (i := 5) rfl)) (ty := .int) (by decide) rfl rfl (g := (mkF m 22 #[.val (.ref a), .val (.ref w), .val .null, .val .null, .val (.int r)] [(.int r), (.ref a)])) rfl rfl (hb hby d2_22)
  have N24 := Fr.snoc X24 N18 P5
  have Fw24 := f23.same W24
  have O24 := O18.wr W24 P5
  have R25 : Go p e below P T24 (mkF m 25 #[.val (.ref a), .val (.ref w), .val .null, .val .null, .val (.int r)] []) := fun t_ k_ => R21 t_ (st24 t_ k_)
  obtain ⟨fs, hr, hrun, hended, hW, hsame⟩ := X24.leave (v := none) (fun _ => rfl)
  have f26 := (f22.wr W24)
  have f27 := (((Fw6.other W12 (Or.inr (slot_ne (Or.inr (hw _ (List.mem_of_getElem? (i := 16) rfl))) (Or.inr (hw _ (List.mem_of_getElem? (i := 18) rfl))) (by decide) (t := (.object "com/example/covrage/covrage/engine/Verdict")) (t' := (.object "com/example/covrage/covrage/model/Marking")) (by decide) (by decide)))).other W18 (Or.inr (slot_ne (Or.inr (hw _ (List.mem_of_getElem? (i := 16) rfl))) (Or.inr (hw _ (List.mem_of_getElem? (i := 20) rfl))) (by decide) (t := (.object "com/example/covrage/covrage/engine/Verdict")) (t' := (.object "com/example/covrage/covrage/model/Witness")) (by decide) (by decide)))).other W24 (Or.inr (slot_ne (Or.inr (hw _ (List.mem_of_getElem? (i := 16) rfl))) (Or.inr (hw _ (List.mem_of_getElem? (i := 22) rfl))) (by decide) (t := (.object "com/example/covrage/covrage/engine/Verdict")) (t' := .int) (by decide) (by decide))))
  have f28 := ((Fw12.other W18 (Or.inr (slot_ne (Or.inr (hw _ (List.mem_of_getElem? (i := 18) rfl))) (Or.inr (hw _ (List.mem_of_getElem? (i := 20) rfl))) (by decide) (t := (.object "com/example/covrage/covrage/model/Marking")) (t' := (.object "com/example/covrage/covrage/model/Witness")) (by decide) (by decide)))).other W24 (Or.inr (slot_ne (Or.inr (hw _ (List.mem_of_getElem? (i := 18) rfl))) (Or.inr (hw _ (List.mem_of_getElem? (i := 22) rfl))) (by decide) (t := (.object "com/example/covrage/covrage/model/Marking")) (t' := .int) (by decide) (by decide))))
  have f29 := (Fw18.other W24 (Or.inr (slot_ne (Or.inr (hw _ (List.mem_of_getElem? (i := 20) rfl))) (Or.inr (hw _ (List.mem_of_getElem? (i := 22) rfl))) (by decide) (t := (.object "com/example/covrage/covrage/model/Witness")) (t' := .int) (by decide) (by decide))))
  exact ⟨_, _, hP _ (R25 _ (X24.returnOut hx Bd.returns (hb hby d2_25) hr)), hrun, hended, _, _, rfl, ⟨rfl, N24, (e24.symm ▸ (((((Keep.refl h0 [a]).wr W6 (Or.inl (List.mem_of_getElem? (i := 0) rfl))).wr W12 (Or.inl (List.mem_of_getElem? (i := 0) rfl))).wr W18 (Or.inl (List.mem_of_getElem? (i := 0) rfl))).wr W24 (Or.inl (List.mem_of_getElem? (i := 0) rfl)))), (e24.symm ▸ f26), (e24.symm ▸ f27), (e24.symm ▸ f28), (e24.symm ▸ f29), (e24.symm ▸ Fw24)⟩, ⟨_, rfl⟩, hW, hsame.mono (by decide) (by decide)⟩
theorem ef_unknown_ (m : MethodId) (x0 : Int32) : entryFrame m #[(.int x0)] 1 = mkF m 0 #[.val (.int x0)] [] := by first | (simp [entryFrame, mkF, argsToLocals, Value.category]; done) | rfl
theorem d1_0 : decode prog_4_method_4_code 0 = .ok (.new 8, 3) := by decide +kernel
theorem d1_3 : decode prog_4_method_4_code 3 = .ok (.dup, 1) := by decide +kernel
theorem d1_4 : decode prog_4_method_4_code 4 = .ok (.getstatic 36, 3) := by decide +kernel
theorem d1_7 : decode prog_4_method_4_code 7 = .ok (.aconst_null, 1) := by decide +kernel
theorem d1_8 : decode prog_4_method_4_code 8 = .ok (.aconst_null, 1) := by decide +kernel
theorem d1_9 : decode prog_4_method_4_code 9 = .ok (.iload_n 0, 1) := by decide +kernel
theorem d1_10 : decode prog_4_method_4_code 10 = .ok (.invokespecial 30, 3) := by decide +kernel
theorem pd_85466237 : parseMethodDescriptor "(Lcom/example/covrage/covrage/engine/Verdict;Lcom/example/covrage/covrage/model/Marking;Lcom/example/covrage/covrage/model/Witness;I)V" = some ⟨[(.object "com/example/covrage/covrage/engine/Verdict"), (.object "com/example/covrage/covrage/model/Marking"), (.object "com/example/covrage/covrage/model/Witness"), .int], none⟩ := by decide +kernel
theorem d1_13 : decode prog_4_method_4_code 13 = .ok (.areturn, 1) := by decide +kernel
def Q_unknown_ (Z : State) (w : Addr) (r : Int32) (h0 : Heap) (n0 : Nat) (rv_ : Option Value) (rh_ : Heap) (rL_ : List Loc) : Prop := ∃ a : Addr, (rv_ = some (.ref a)) ∧ (Fr n0 rL_) ∧ (Keep h0 rh_ []) ∧ (h0.size ≤ a) ∧ (Exa Z rh_ a "com/example/covrage/covrage/engine/Answer") ∧ (Fld Z rh_ a "com/example/covrage/covrage/engine/Answer" "verdict" "Lcom/example/covrage/covrage/engine/Verdict;" (.ref w)) ∧ (Fld Z rh_ a "com/example/covrage/covrage/engine/Answer" "initialMarking" "Lcom/example/covrage/covrage/model/Marking;" .null) ∧ (Fld Z rh_ a "com/example/covrage/covrage/engine/Answer" "witness" "Lcom/example/covrage/covrage/model/Witness;" .null) ∧ (Fld Z rh_ a "com/example/covrage/covrage/engine/Answer" "rounds" "I" (.int r))
set_option maxRecDepth 65536 in
set_option maxHeartbeats 40000000 in
theorem unknown_ (l : Launch) (Z : State) (a0 : Array Value) (hw : ∀ d ∈ tables_1, d.before a0 Z = true) (ws : List Jvm.Cond) (w : Addr) (r : Int32) (h0 : Heap) (n0 : Nat) (O0 : Old Z n0 h0) (P0 : Sta Z Z.heap "com/example/covrage/covrage/engine/Verdict" "UNKNOWN" "Lcom/example/covrage/covrage/engine/Verdict;" (.ref w)) :
    MetFree l (⟨"com/example/covrage/covrage/engine/Answer", "unknown", "(I)Lcom/example/covrage/covrage/engine/Answer;"⟩ : MethodName) (head1 (Jvm.Cond.code (⟨"com/example/covrage/covrage/engine/Answer", "unknown", "(I)Lcom/example/covrage/covrage/engine/Answer;"⟩ : MethodName) prog_4_method_4_code 1 (some (.object "com/example/covrage/covrage/engine/Answer")) :: ws) ({ frames := 2, cells := 1, slots := 4, locals := 29 } : Room)) (fun a_ U_ => a_ = #[(.int r)] ∧ Z.Warmed39 U_.vm ∧ U_.heap = h0) (fun _ _ _ _ _ => True) (fun _ U_ o_ U_' => ∃ v_ L_, o_ = .returned v_ ∧ Q_unknown_ Z w r h0 n0 v_ U_'.heap L_ ∧ FrameEnd U_ o_ U_' L_ ({ frames := 2, cells := 1, slots := 4, locals := 29 } : Room).cells ({ frames := 2, cells := 1, slots := 4, locals := 29 } : Room).slots) := by
  refine MetFree.of_bodySF (plainFor_of_name pn_89718473) hisR ?_
  intro p e s m args below meth c s₁ Bd hml0 hP0 hK
  obtain ⟨rfl, hZ, hh⟩ := hP0
  have hx := Bd.exec
  have hby := Bd.bytes
  have hml : c.maxLocals = 1 := hml0
  have hown : s.vm.findClass "com/example/covrage/covrage/engine/Answer" = some m.cls := findClass_of_methodNamed Bd.named
  have hnm := (name_of_methodNamed Bd.named Bd.method).1
  have X0 : Stand p l e ({ frames := 2, cells := 1, slots := 4, locals := 29 } : Room) s m #[(.int r)] below meth c s₁ [] 0 0 := Stand.of_body Bd
  have e0 : s₁.heap = h0 := by rw [← hh, Bd.state]; rfl
  have N0 := Fr.nil n0
  obtain ⟨P, hP, R0⟩ : ∃ P : State → Prop, (∀ t, P t → Steps p.tables e below (s₁.setTop (entryFrame m #[(.int r)] 1)) t) ∧ Go p e below P s₁ (mkF m 0 #[.val (.int r)] []) := ⟨_, fun _ h => h, fun t_ k_ => castTop (ef_unknown_ m r) k_⟩
  obtain ⟨T30, h30, X30, e30, E30, A30, D30, -, st30⟩ := newO X0 hx hZ hown (hw _ (List.mem_of_getElem? (i := 4) rfl)) (hw _ (List.mem_of_getElem? (i := 5) rfl)) (hw _ (List.mem_of_getElem? (i := 2) rfl)) e0 (g := (mkF m 0 #[.val (.int r)] [])) rfl (hb hby d1_0) (by decide) (by decide)
  obtain ⟨b30, g30⟩ : ∃ z, z = h0.size := ⟨_, rfl⟩
  rw [← g30] at A30 D30 st30
  have O30 := O0.ext E30
  have F30_16 : Fld Z h30 b30 "com/example/covrage/covrage/engine/Answer" "verdict" "Lcom/example/covrage/covrage/engine/Verdict;" .null := D30 (Or.inr (hw _ (List.mem_of_getElem? (i := 16) rfl))) (ty := (.object "com/example/covrage/covrage/engine/Verdict")) (by decide)
  have F30_18 : Fld Z h30 b30 "com/example/covrage/covrage/engine/Answer" "initialMarking" "Lcom/example/covrage/covrage/model/Marking;" .null := D30 (Or.inr (hw _ (List.mem_of_getElem? (i := 18) rfl))) (ty := (.object "com/example/covrage/covrage/model/Marking")) (by decide)
  have F30_20 : Fld Z h30 b30 "com/example/covrage/covrage/engine/Answer" "witness" "Lcom/example/covrage/covrage/model/Witness;" .null := D30 (Or.inr (hw _ (List.mem_of_getElem? (i := 20) rfl))) (ty := (.object "com/example/covrage/covrage/model/Witness")) (by decide)
  have F30_22 : Fld Z h30 b30 "com/example/covrage/covrage/engine/Answer" "rounds" "I" (.int (0 : Int32)) := D30 (Or.inr (hw _ (List.mem_of_getElem? (i := 22) rfl))) (ty := .int) (by decide)
  have R31 : Go p e below P T30 (mkF m 3 #[.val (.int r)] [(.ref b30)]) := fun t_ k_ => R0 t_ (st30 t_ k_)
  have R32 : Go p e below P T30 (mkF m 4 #[.val (.int r)] [(.ref b30), (.ref b30)]) := fun t_ k_ => R31 t_ (XS.dup X30.here hx rfl (hb hby d1_3) rfl rfl k_)
  obtain ⟨T33, X33, e33, st33⟩ := getS2 X30 hx hZ hown (host := "") (Or.inl (hw _ (List.mem_of_getElem? (i := 6) rfl))) Via.refl e30 (P0.ext O30.2) (g := (mkF m 4 #[.val (.int r)] [(.ref b30), (.ref b30)])) rfl (hb hby d1_4)
  have R34 : Go p e below P T33 (mkF m 7 #[.val (.int r)] [(.ref w), (.ref b30), (.ref b30)]) := fun t_ k_ => R32 t_ (st33 t_ k_)
  have R35 : Go p e below P T33 (mkF m 8 #[.val (.int r)] [.null, (.ref w), (.ref b30), (.ref b30)]) := fun t_ k_ => R34 t_ (XS.aconstNull X33.here hx rfl (hb hby d1_7) k_)
  have R36 : Go p e below P T33 (mkF m 9 #[.val (.int r)] [.null, .null, (.ref w), (.ref b30), (.ref b30)]) := fun t_ k_ => R35 t_ (XS.aconstNull X33.here hx rfl (hb hby d1_8) k_)
  have R37 : Go p e below P T33 (mkF m 10 #[.val (.int r)] [(.int r), .null, .null, (.ref w), (.ref b30), (.ref b30)]) := fun t_ k_ => R36 t_ (XS.iloadN X33.here hx rfl (hb hby d1_9) rfl k_)
  obtain ⟨_, _, ⟨T38, L38, k38, n38⟩, -, X38, ⟨Lc38, hQ38, l38, y38, z38⟩, st38⟩ := X33.specialBack hx (y := (⟨"com/example/covrage/covrage/engine/Answer", "<init>", "(Lcom/example/covrage/covrage/engine/Verdict;Lcom/example/covrage/covrage/model/Marking;Lcom/example/covrage/covrage/model/Witness;I)V"⟩ : MethodName)) rfl hown (mvT hZ (hw _ (List.mem_of_getElem? (i := 9) rfl))) (mvT hZ (hw _ (List.mem_of_getElem? (i := 10) rfl))) (mvT hZ (hw _ (List.mem_of_getElem? (i := 11) rfl))) (by decide) (backOf (W := 1) (init_ l Z a0 hw [] b30 w r h30 n0 O30 A30 F30_16 F30_18 F30_20 F30_22 (Nat.le_trans (oldLe O0) (Nat.le_of_eq g30.symm))) hZ (hw _ (List.mem_of_getElem? (i := 11) rfl)) (hw _ (List.mem_of_getElem? (i := 2) rfl)) (by decide) (by decide)) (g := (mkF m 10 #[.val (.int r)] [(.int r), .null, .null, (.ref w), (.ref b30), (.ref b30)])) rfl (by rw [hml]; rfl) (Steps.refl _) (a := b30) (argsL := [(.ref w), .null, .null, (.int r)]) (rest := [(.ref b30)]) (lenOf pd_85466237 rfl) rfl (by show 2 * 0 + _ ≤ _; exact Nat.le_of_eq rfl) (hb hby d1_10) (fun _ _ => ⟨rfl, e33, (by decide : 1 + 0 ≤ _), (by decide : 4 + 0 ≤ _)⟩)
  dsimp only [Pt.U, Pt.locs, Pt.cells, Pt.slots] at X38 l38 y38 z38 st38 hQ38
  subst l38 y38 z38
  obtain ⟨rfl, N38q, K38, p38_0, p38_1, p38_2, p38_3, p38_4⟩ := hQ38
  have N38 := Fr.app N0 N38q
  have O38 := O30.keep K38 (allS (Nat.le_trans (oldLe O0) (Nat.le_of_eq g30.symm)) all0)
  have R39 : Go p e below P T38 (mkF m 13 #[.val (.int r)] [(.ref b30)]) := fun t_ k_ => R37 t_ (st38.trans k_)
  obtain ⟨fs, hr, hrun, hended, hW, hsame⟩ := X38.leave (v := some (.ref b30)) (fun h => by rw [Bd.returns] at h; cases h)
  exact ⟨_, _, hP _ (R39 _ (retOut X38 hx Bd.returns rfl (Or.inr (Or.inr (Or.inr (Or.inr ⟨rfl, rfl, rfl⟩)))) (hb hby d1_13) hr)), hrun, hended, _, _, rfl, ⟨b30, rfl, N38, (((Keep.refl h0 []).ext E30).trans K38 (allS (Or.inr (Nat.le_of_eq g30.symm)) all0)), (Nat.le_of_eq g30.symm), p38_0, p38_1, p38_2, p38_3, p38_4⟩, ⟨_, rfl⟩, hW, hsame.mono (by decide) (by decide)⟩
theorem ef_getVerdict_ (m : MethodId) (x0 : Addr) : entryFrame m #[(.ref x0)] 1 = mkF m 0 #[.val (.ref x0)] [] := by first | (simp [entryFrame, mkF, argsToLocals, Value.category]; done) | rfl
theorem d4_0 : decode prog_4_method_5_code 0 = .ok (.aload_n 0, 1) := by decide +kernel
theorem d4_1 : decode prog_4_method_5_code 1 = .ok (.getfield 7, 3) := by decide +kernel
theorem d4_4 : decode prog_4_method_5_code 4 = .ok (.areturn, 1) := by decide +kernel
def Q_getVerdict_ (Z : State) (a : Addr) (v : Addr) (h0 : Heap) (n0 : Nat) (rv_ : Option Value) (rh_ : Heap) (rL_ : List Loc) : Prop := (rv_ = some (.ref v)) ∧ (Fr n0 rL_) ∧ (rh_ = h0)
set_option maxRecDepth 65536 in
set_option maxHeartbeats 40000000 in
theorem getVerdict_ (l : Launch) (Z : State) (a0 : Array Value) (hw : ∀ d ∈ tables_1, d.before a0 Z = true) (ws : List Jvm.Cond) (a : Addr) (v : Addr) (h0 : Heap) (n0 : Nat) (O0 : Old Z n0 h0) (P0 : Fld Z h0 a "com/example/covrage/covrage/engine/Answer" "verdict" "Lcom/example/covrage/covrage/engine/Verdict;" (.ref v)) :
    MetFree l (⟨"com/example/covrage/covrage/engine/Answer", "getVerdict", "()Lcom/example/covrage/covrage/engine/Verdict;"⟩ : MethodName) (head1 (Jvm.Cond.code (⟨"com/example/covrage/covrage/engine/Answer", "getVerdict", "()Lcom/example/covrage/covrage/engine/Verdict;"⟩ : MethodName) prog_4_method_5_code 1 (some (.object "com/example/covrage/covrage/engine/Verdict")) :: ws) ({ frames := 0, cells := 0, slots := 0, locals := 0 } : Room)) (fun a_ U_ => a_ = #[(.ref a)] ∧ Z.Warmed39 U_.vm ∧ U_.heap = h0) (fun _ _ _ _ _ => True) (fun _ U_ o_ U_' => ∃ v_ L_, o_ = .returned v_ ∧ Q_getVerdict_ Z a v h0 n0 v_ U_'.heap L_ ∧ FrameEnd U_ o_ U_' L_ ({ frames := 0, cells := 0, slots := 0, locals := 0 } : Room).cells ({ frames := 0, cells := 0, slots := 0, locals := 0 } : Room).slots) := by
  refine MetFree.of_bodySF (plainFor_of_name pn_89718473) hisR ?_
  intro p e s m args below meth c s₁ Bd hml0 hP0 hK
  obtain ⟨rfl, hZ, hh⟩ := hP0
  have hx := Bd.exec
  have hby := Bd.bytes
  have hml : c.maxLocals = 1 := hml0
  have hown : s.vm.findClass "com/example/covrage/covrage/engine/Answer" = some m.cls := findClass_of_methodNamed Bd.named
  have hnm := (name_of_methodNamed Bd.named Bd.method).1
  have X0 : Stand p l e ({ frames := 0, cells := 0, slots := 0, locals := 0 } : Room) s m #[(.ref a)] below meth c s₁ [] 0 0 := Stand.of_body Bd
  have e0 : s₁.heap = h0 := by rw [← hh, Bd.state]; rfl
  have N0 := Fr.nil n0
  obtain ⟨P, hP, R0⟩ : ∃ P : State → Prop, (∀ t, P t → Steps p.tables e below (s₁.setTop (entryFrame m #[(.ref a)] 1)) t) ∧ Go p e below P s₁ (mkF m 0 #[.val (.ref a)] []) := ⟨_, fun _ h => h, fun t_ k_ => castTop (ef_getVerdict_ m a) k_⟩
  have R40 : Go p e below P s₁ (mkF m 1 #[.val (.ref a)] [(.ref a)]) := fun t_ k_ => R0 t_ (XS.aloadN X0.here hx rfl (hb hby d4_0) rfl rfl k_)
  obtain ⟨T41, X41, e41, st41⟩ := getF X0 hx hZ hown (host := "") (Or.inl (hw _ (List.mem_of_getElem? (i := 15) rfl))) Via.refl e0 P0 (g := (mkF m 1 #[.val (.ref a)] [(.ref a)])) rfl rfl (hb hby d4_1)
  have R42 : Go p e below P T41 (mkF m 4 #[.val (.ref a)] [(.ref v)]) := fun t_ k_ => R40 t_ (st41 t_ k_)
  obtain ⟨fs, hr, hrun, hended, hW, hsame⟩ := X41.leave (v := some (.ref v)) (fun h => by rw [Bd.returns] at h; cases h)
  exact ⟨_, _, hP _ (R42 _ (retOut X41 hx Bd.returns rfl (Or.inr (Or.inr (Or.inr (Or.inr ⟨rfl, rfl, rfl⟩)))) (hb hby d4_4) hr)), hrun, hended, _, _, rfl, ⟨rfl, N0, e41⟩, ⟨_, rfl⟩, hW, hsame.mono (by decide) (by decide)⟩
theorem ef_getMarking_ (m : MethodId) (x0 : Addr) : entryFrame m #[(.ref x0)] 1 = mkF m 0 #[.val (.ref x0)] [] := by first | (simp [entryFrame, mkF, argsToLocals, Value.category]; done) | rfl
theorem d5_0 : decode prog_4_method_6_code 0 = .ok (.aload_n 0, 1) := by decide +kernel
theorem d5_1 : decode prog_4_method_6_code 1 = .ok (.getfield 13, 3) := by decide +kernel
theorem d5_4 : decode prog_4_method_6_code 4 = .ok (.areturn, 1) := by decide +kernel
def Q_getMarking_ (Z : State) (a : Addr) (h0 : Heap) (n0 : Nat) (rv_ : Option Value) (rh_ : Heap) (rL_ : List Loc) : Prop := (rv_ = some .null) ∧ (Fr n0 rL_) ∧ (rh_ = h0)
set_option maxRecDepth 65536 in
set_option maxHeartbeats 40000000 in
theorem getMarking_ (l : Launch) (Z : State) (a0 : Array Value) (hw : ∀ d ∈ tables_1, d.before a0 Z = true) (ws : List Jvm.Cond) (a : Addr) (h0 : Heap) (n0 : Nat) (O0 : Old Z n0 h0) (P0 : Fld Z h0 a "com/example/covrage/covrage/engine/Answer" "initialMarking" "Lcom/example/covrage/covrage/model/Marking;" .null) :
    MetFree l (⟨"com/example/covrage/covrage/engine/Answer", "getInitialMarking", "()Lcom/example/covrage/covrage/model/Marking;"⟩ : MethodName) (head1 (Jvm.Cond.code (⟨"com/example/covrage/covrage/engine/Answer", "getInitialMarking", "()Lcom/example/covrage/covrage/model/Marking;"⟩ : MethodName) prog_4_method_6_code 1 (some (.object "com/example/covrage/covrage/model/Marking")) :: ws) ({ frames := 0, cells := 0, slots := 0, locals := 0 } : Room)) (fun a_ U_ => a_ = #[(.ref a)] ∧ Z.Warmed39 U_.vm ∧ U_.heap = h0) (fun _ _ _ _ _ => True) (fun _ U_ o_ U_' => ∃ v_ L_, o_ = .returned v_ ∧ Q_getMarking_ Z a h0 n0 v_ U_'.heap L_ ∧ FrameEnd U_ o_ U_' L_ ({ frames := 0, cells := 0, slots := 0, locals := 0 } : Room).cells ({ frames := 0, cells := 0, slots := 0, locals := 0 } : Room).slots) := by
  refine MetFree.of_bodySF (plainFor_of_name pn_89718473) hisR ?_
  intro p e s m args below meth c s₁ Bd hml0 hP0 hK
  obtain ⟨rfl, hZ, hh⟩ := hP0
  have hx := Bd.exec
  have hby := Bd.bytes
  have hml : c.maxLocals = 1 := hml0
  have hown : s.vm.findClass "com/example/covrage/covrage/engine/Answer" = some m.cls := findClass_of_methodNamed Bd.named
  have hnm := (name_of_methodNamed Bd.named Bd.method).1
  have X0 : Stand p l e ({ frames := 0, cells := 0, slots := 0, locals := 0 } : Room) s m #[(.ref a)] below meth c s₁ [] 0 0 := Stand.of_body Bd
  have e0 : s₁.heap = h0 := by rw [← hh, Bd.state]; rfl
  have N0 := Fr.nil n0
  obtain ⟨P, hP, R0⟩ : ∃ P : State → Prop, (∀ t, P t → Steps p.tables e below (s₁.setTop (entryFrame m #[(.ref a)] 1)) t) ∧ Go p e below P s₁ (mkF m 0 #[.val (.ref a)] []) := ⟨_, fun _ h => h, fun t_ k_ => castTop (ef_getMarking_ m a) k_⟩
  have R43 : Go p e below P s₁ (mkF m 1 #[.val (.ref a)] [(.ref a)]) := fun t_ k_ => R0 t_ (XS.aloadN X0.here hx rfl (hb hby d5_0) rfl rfl k_)
  obtain ⟨T44, X44, e44, st44⟩ := getF X0 hx hZ hown (host := "") (Or.inl (hw _ (List.mem_of_getElem? (i := 17) rfl))) Via.refl e0 P0 (g := (mkF m 1 #[.val (.ref a)] [(.ref a)])) rfl rfl (hb hby d5_1)
  have R45 : Go p e below P T44 (mkF m 4 #[.val (.ref a)] [.null]) := fun t_ k_ => R43 t_ (st44 t_ k_)
  obtain ⟨fs, hr, hrun, hended, hW, hsame⟩ := X44.leave (v := some .null) (fun h => by rw [Bd.returns] at h; cases h)
  exact ⟨_, _, hP _ (R45 _ (retOut X44 hx Bd.returns rfl (Or.inr (Or.inr (Or.inr (Or.inr ⟨rfl, rfl, rfl⟩)))) (hb hby d5_4) hr)), hrun, hended, _, _, rfl, ⟨rfl, N0, e44⟩, ⟨_, rfl⟩, hW, hsame.mono (by decide) (by decide)⟩
theorem ef_getWitness_ (m : MethodId) (x0 : Addr) : entryFrame m #[(.ref x0)] 1 = mkF m 0 #[.val (.ref x0)] [] := by first | (simp [entryFrame, mkF, argsToLocals, Value.category]; done) | rfl
theorem d6_0 : decode prog_4_method_7_code 0 = .ok (.aload_n 0, 1) := by decide +kernel
theorem d6_1 : decode prog_4_method_7_code 1 = .ok (.getfield 17, 3) := by decide +kernel
theorem d6_4 : decode prog_4_method_7_code 4 = .ok (.areturn, 1) := by decide +kernel
def Q_getWitness_ (Z : State) (a : Addr) (h0 : Heap) (n0 : Nat) (rv_ : Option Value) (rh_ : Heap) (rL_ : List Loc) : Prop := (rv_ = some .null) ∧ (Fr n0 rL_) ∧ (rh_ = h0)
set_option maxRecDepth 65536 in
set_option maxHeartbeats 40000000 in
theorem getWitness_ (l : Launch) (Z : State) (a0 : Array Value) (hw : ∀ d ∈ tables_1, d.before a0 Z = true) (ws : List Jvm.Cond) (a : Addr) (h0 : Heap) (n0 : Nat) (O0 : Old Z n0 h0) (P0 : Fld Z h0 a "com/example/covrage/covrage/engine/Answer" "witness" "Lcom/example/covrage/covrage/model/Witness;" .null) :
    MetFree l (⟨"com/example/covrage/covrage/engine/Answer", "getWitness", "()Lcom/example/covrage/covrage/model/Witness;"⟩ : MethodName) (head1 (Jvm.Cond.code (⟨"com/example/covrage/covrage/engine/Answer", "getWitness", "()Lcom/example/covrage/covrage/model/Witness;"⟩ : MethodName) prog_4_method_7_code 1 (some (.object "com/example/covrage/covrage/model/Witness")) :: ws) ({ frames := 0, cells := 0, slots := 0, locals := 0 } : Room)) (fun a_ U_ => a_ = #[(.ref a)] ∧ Z.Warmed39 U_.vm ∧ U_.heap = h0) (fun _ _ _ _ _ => True) (fun _ U_ o_ U_' => ∃ v_ L_, o_ = .returned v_ ∧ Q_getWitness_ Z a h0 n0 v_ U_'.heap L_ ∧ FrameEnd U_ o_ U_' L_ ({ frames := 0, cells := 0, slots := 0, locals := 0 } : Room).cells ({ frames := 0, cells := 0, slots := 0, locals := 0 } : Room).slots) := by
  refine MetFree.of_bodySF (plainFor_of_name pn_89718473) hisR ?_
  intro p e s m args below meth c s₁ Bd hml0 hP0 hK
  obtain ⟨rfl, hZ, hh⟩ := hP0
  have hx := Bd.exec
  have hby := Bd.bytes
  have hml : c.maxLocals = 1 := hml0
  have hown : s.vm.findClass "com/example/covrage/covrage/engine/Answer" = some m.cls := findClass_of_methodNamed Bd.named
  have hnm := (name_of_methodNamed Bd.named Bd.method).1
  have X0 : Stand p l e ({ frames := 0, cells := 0, slots := 0, locals := 0 } : Room) s m #[(.ref a)] below meth c s₁ [] 0 0 := Stand.of_body Bd
  have e0 : s₁.heap = h0 := by rw [← hh, Bd.state]; rfl
  have N0 := Fr.nil n0
  obtain ⟨P, hP, R0⟩ : ∃ P : State → Prop, (∀ t, P t → Steps p.tables e below (s₁.setTop (entryFrame m #[(.ref a)] 1)) t) ∧ Go p e below P s₁ (mkF m 0 #[.val (.ref a)] []) := ⟨_, fun _ h => h, fun t_ k_ => castTop (ef_getWitness_ m a) k_⟩
  have R46 : Go p e below P s₁ (mkF m 1 #[.val (.ref a)] [(.ref a)]) := fun t_ k_ => R0 t_ (XS.aloadN X0.here hx rfl (hb hby d6_0) rfl rfl k_)
  obtain ⟨T47, X47, e47, st47⟩ := getF X0 hx hZ hown (host := "") (Or.inl (hw _ (List.mem_of_getElem? (i := 19) rfl))) Via.refl e0 P0 (g := (mkF m 1 #[.val (.ref a)] [(.ref a)])) rfl rfl (hb hby d6_1)
  have R48 : Go p e below P T47 (mkF m 4 #[.val (.ref a)] [.null]) := fun t_ k_ => R46 t_ (st47 t_ k_)
  obtain ⟨fs, hr, hrun, hended, hW, hsame⟩ := X47.leave (v := some .null) (fun h => by rw [Bd.returns] at h; cases h)
  exact ⟨_, _, hP _ (R48 _ (retOut X47 hx Bd.returns rfl (Or.inr (Or.inr (Or.inr (Or.inr ⟨rfl, rfl, rfl⟩)))) (hb hby d6_4) hr)), hrun, hended, _, _, rfl, ⟨rfl, N0, e47⟩, ⟨_, rfl⟩, hW, hsame.mono (by decide) (by decide)⟩
theorem ef_getRounds_ (m : MethodId) (x0 : Addr) : entryFrame m #[(.ref x0)] 1 = mkF m 0 #[.val (.ref x0)] [] := by first | (simp [entryFrame, mkF, argsToLocals, Value.category]; done) | rfl
theorem d7_0 : decode prog_4_method_8_code 0 = .ok (.aload_n 0, 1) := by decide +kernel
theorem d7_1 : decode prog_4_method_8_code 1 = .ok (.getfield 21, 3) := by decide +kernel
theorem d7_4 : decode prog_4_method_8_code 4 = .ok (.ireturn, 1) := by decide +kernel
def Q_getRounds_ (Z : State) (a : Addr) (v : Int32) (h0 : Heap) (n0 : Nat) (rv_ : Option Value) (rh_ : Heap) (rL_ : List Loc) : Prop := (rv_ = some (.int v)) ∧ (Fr n0 rL_) ∧ (rh_ = h0)
set_option maxRecDepth 65536 in
set_option maxHeartbeats 40000000 in
theorem getRounds_ (l : Launch) (Z : State) (a0 : Array Value) (hw : ∀ d ∈ tables_1, d.before a0 Z = true) (ws : List Jvm.Cond) (a : Addr) (v : Int32) (h0 : Heap) (n0 : Nat) (O0 : Old Z n0 h0) (P0 : Fld Z h0 a "com/example/covrage/covrage/engine/Answer" "rounds" "I" (.int v)) :
    MetFree l (⟨"com/example/covrage/covrage/engine/Answer", "getRounds", "()I"⟩ : MethodName) (head1 (Jvm.Cond.code (⟨"com/example/covrage/covrage/engine/Answer", "getRounds", "()I"⟩ : MethodName) prog_4_method_8_code 1 (some .int) :: ws) ({ frames := 0, cells := 0, slots := 0, locals := 0 } : Room)) (fun a_ U_ => a_ = #[(.ref a)] ∧ Z.Warmed39 U_.vm ∧ U_.heap = h0) (fun _ _ _ _ _ => True) (fun _ U_ o_ U_' => ∃ v_ L_, o_ = .returned v_ ∧ Q_getRounds_ Z a v h0 n0 v_ U_'.heap L_ ∧ FrameEnd U_ o_ U_' L_ ({ frames := 0, cells := 0, slots := 0, locals := 0 } : Room).cells ({ frames := 0, cells := 0, slots := 0, locals := 0 } : Room).slots) := by
  refine MetFree.of_bodySF (plainFor_of_name pn_89718473) hisR ?_
  intro p e s m args below meth c s₁ Bd hml0 hP0 hK
  obtain ⟨rfl, hZ, hh⟩ := hP0
  have hx := Bd.exec
  have hby := Bd.bytes
  have hml : c.maxLocals = 1 := hml0
  have hown : s.vm.findClass "com/example/covrage/covrage/engine/Answer" = some m.cls := findClass_of_methodNamed Bd.named
  have hnm := (name_of_methodNamed Bd.named Bd.method).1
  have X0 : Stand p l e ({ frames := 0, cells := 0, slots := 0, locals := 0 } : Room) s m #[(.ref a)] below meth c s₁ [] 0 0 := Stand.of_body Bd
  have e0 : s₁.heap = h0 := by rw [← hh, Bd.state]; rfl
  have N0 := Fr.nil n0
  obtain ⟨P, hP, R0⟩ : ∃ P : State → Prop, (∀ t, P t → Steps p.tables e below (s₁.setTop (entryFrame m #[(.ref a)] 1)) t) ∧ Go p e below P s₁ (mkF m 0 #[.val (.ref a)] []) := ⟨_, fun _ h => h, fun t_ k_ => castTop (ef_getRounds_ m a) k_⟩
  have R49 : Go p e below P s₁ (mkF m 1 #[.val (.ref a)] [(.ref a)]) := fun t_ k_ => R0 t_ (XS.aloadN X0.here hx rfl (hb hby d7_0) rfl rfl k_)
  obtain ⟨T50, X50, e50, st50⟩ := getF X0 hx hZ hown (host := "") (Or.inl (hw _ (List.mem_of_getElem? (i := 21) rfl))) Via.refl e0 P0 (g := (mkF m 1 #[.val (.ref a)] [(.ref a)])) rfl rfl (hb hby d7_1)
  have R51 : Go p e below P T50 (mkF m 4 #[.val (.ref a)] [(.int v)]) := fun t_ k_ => R49 t_ (st50 t_ k_)
  obtain ⟨fs, hr, hrun, hended, hW, hsame⟩ := X50.leave (v := some (.int v)) (fun h => by rw [Bd.returns] at h; cases h)
  exact ⟨_, _, hP _ (R51 _ (retI X50 hx Bd.returns (hb hby d7_4) hr)), hrun, hended, _, _, rfl, ⟨rfl, N0, e50⟩, ⟨_, rfl⟩, hW, hsame.mono (by decide) (by decide)⟩
theorem pn_29516778 : plainName "com/example/covrage/covrage/engine/AnswerUnknownPinLaw" = true := by first | (simp [plainName, overriddenIn]; done) | decide +kernel
theorem ef_law_ (m : MethodId) (x0 : Int32) : entryFrame m #[(.int x0)] maxLocals = mkF m 0 #[.val (.int x0), .unset] [] := by first | (simp [entryFrame, mkF, argsToLocals, Value.category, maxLocals]; done) | rfl
theorem pd_33987926 : parseMethodDescriptor "(I)Lcom/example/covrage/covrage/engine/Answer;" = some ⟨[.int], some (.object "com/example/covrage/covrage/engine/Answer")⟩ := by decide +kernel
theorem pd_7495652 : parseMethodDescriptor "()Lcom/example/covrage/covrage/engine/Verdict;" = some ⟨[], some (.object "com/example/covrage/covrage/engine/Verdict")⟩ := by decide +kernel
theorem pd_13780575 : parseMethodDescriptor "()Lcom/example/covrage/covrage/model/Marking;" = some ⟨[], some (.object "com/example/covrage/covrage/model/Marking")⟩ := by decide +kernel
theorem pd_71517011 : parseMethodDescriptor "()Lcom/example/covrage/covrage/model/Witness;" = some ⟨[], some (.object "com/example/covrage/covrage/model/Witness")⟩ := by decide +kernel
theorem pd_16428521 : parseMethodDescriptor "()I" = some ⟨[], some .int⟩ := by decide +kernel
def Q_law_ (Z : State) (r : Int32) (w : Addr) (h0 : Heap) (n0 : Nat) (rv_ : Option Value) (rh_ : Heap) (rL_ : List Loc) : Prop := (rv_ = some (.int (1 : Int32))) ∧ (Fr n0 rL_) ∧ (Keep h0 rh_ [])
set_option maxRecDepth 65536 in
set_option maxHeartbeats 40000000 in
theorem law_ (l : Launch) (Z : State) (a0 : Array Value) (hw : ∀ d ∈ tables_1, d.before a0 Z = true) (ws : List Jvm.Cond) (r : Int32) (w : Addr) (h0 : Heap) (n0 : Nat) (O0 : Old Z n0 h0) (P0 : Sta Z Z.heap "com/example/covrage/covrage/engine/Verdict" "UNKNOWN" "Lcom/example/covrage/covrage/engine/Verdict;" (.ref w)) :
    MetFree l x (head1 (Jvm.Cond.code x code maxLocals ret :: ws) room_1) (fun a_ U_ => a_ = #[(.int r)] ∧ Z.Warmed39 U_.vm ∧ U_.heap = h0) (fun _ _ _ _ _ => True) (fun _ U_ o_ U_' => ∃ v_ L_, o_ = .returned v_ ∧ Q_law_ Z r w h0 n0 v_ U_'.heap L_ ∧ FrameEnd U_ o_ U_' L_ room_1.cells room_1.slots) := by
  refine MetFree.of_bodySF (plainFor_of_name pn_29516778) hisR ?_
  intro p e s m args below meth c s₁ Bd hml0 hP0 hK
  obtain ⟨rfl, hZ, hh⟩ := hP0
  have hx := Bd.exec
  have hby := Bd.bytes
  have hml : c.maxLocals = 2 := hml0
  have hown : s.vm.findClass "com/example/covrage/covrage/engine/AnswerUnknownPinLaw" = some m.cls := findClass_of_methodNamed Bd.named
  have hnm := (name_of_methodNamed Bd.named Bd.method).1
  have X0 : Stand p l e room_1 s m #[(.int r)] below meth c s₁ [] 0 0 := Stand.of_body Bd
  have e0 : s₁.heap = h0 := by rw [← hh, Bd.state]; rfl
  have N0 := Fr.nil n0
  obtain ⟨P, hP, R0⟩ : ∃ P : State → Prop, (∀ t, P t → Steps p.tables e below (s₁.setTop (entryFrame m #[(.int r)] maxLocals)) t) ∧ Go p e below P s₁ (mkF m 0 #[.val (.int r), .unset] []) := ⟨_, fun _ h => h, fun t_ k_ => castTop (ef_law_ m r) k_⟩
  have R52 : Go p e below P s₁ (mkF m 1 #[.val (.int r), .unset] [(.int r)]) := fun t_ k_ => R0 t_ (XS.iloadN X0.here hx rfl (hb hby at_0) rfl k_)
  obtain ⟨_, _, ⟨T53, L53, k53, n53⟩, -, X53, ⟨Lc53, hQ53, l53, y53, z53⟩, st53⟩ := Jvm.LawKit.callS X0 hx (y := (⟨"com/example/covrage/covrage/engine/Answer", "unknown", "(I)Lcom/example/covrage/covrage/engine/Answer;"⟩ : MethodName)) hown (mvT hZ (hw _ (List.mem_of_getElem? (i := 0) rfl))) (mvT hZ (hw _ (List.mem_of_getElem? (i := 1) rfl))) (mvT hZ (hw _ (List.mem_of_getElem? (i := 2) rfl))) (mvT hZ (hw _ (List.mem_of_getElem? (i := 3) rfl))) (by decide) (backOf (W := 0) (unknown_ l Z a0 hw [] w r h0 n0 O0 P0) hZ (hw _ (List.mem_of_getElem? (i := 3) rfl)) (hw _ (List.mem_of_getElem? (i := 2) rfl)) (by decide) (by decide)) (g := (mkF m 1 #[.val (.int r), .unset] [(.int r)])) rfl (by rw [hml]; rfl) (argsL := [(.int r)]) (rest := []) (lenOf pd_33987926 rfl) rfl (by show 2 * 0 + _ ≤ _; exact Nat.le_of_eq rfl) (hb hby at_1) (fun _ _ => ⟨rfl, e0, (by decide : 0 + 1 ≤ _), (by decide : 0 + 4 ≤ _)⟩)
  dsimp only [Pt.U, Pt.locs, Pt.cells, Pt.slots] at X53 l53 y53 z53 st53 hQ53
  subst l53 y53 z53
  obtain ⟨a_53, rfl, N53q, K53, p53_0, p53_1, p53_2, p53_3, p53_4, p53_5⟩ := hQ53
  have N53 := Fr.app N0 N53q
  have O53 := O0.keep K53 all0
  have R54 : Go p e below P T53 (mkF m 4 #[.val (.int r), .unset] [(.ref a_53)]) := fun t_ k_ => R52 t_ (st53 t_ k_)
  have R55 : Go p e below P T53 (mkF m 5 #[.val (.int r), .val (.ref a_53)] []) := fun t_ k_ => R54 t_ (XS.astoreN X53.here hx rfl (hb hby at_4) rfl rfl (l' := #[.val (.int r), .val (.ref a_53)]) rfl k_)
  have R56 : Go p e below P T53 (mkF m 6 #[.val (.int r), .val (.ref a_53)] [(.ref a_53)]) := fun t_ k_ => R55 t_ (XS.aloadN X53.here hx rfl (hb hby at_5) rfl rfl k_)
  have R57 : Go p e below P T53 (mkF m 11 #[.val (.int r), .val (.ref a_53)] []) := fun t_ k_ => R56 t_ (XS.ifnonnullYes X53.here hx rfl (pc0 := 6) (pc' := 11) rfl (hb hby at_6) rfl (by decide) (by decide) k_)
  have R58 : Go p e below P T53 (mkF m 12 #[.val (.int r), .val (.ref a_53)] [(.ref a_53)]) := fun t_ k_ => R57 t_ (XS.aloadN X53.here hx rfl (hb hby at_11) rfl rfl k_)
  obtain ⟨cq59, kq59, q59a, q59b, q59c⟩ := isOf hZ (rfl : T53.heap = T53.heap) p53_1
  obtain ⟨_, _, ⟨T59, L59, k59, n59⟩, -, X59, ⟨Lc59, hQ59, l59, y59, z59⟩, st59⟩ := X53.virtualBack hx (y := (⟨"com/example/covrage/covrage/engine/Answer", "getVerdict", "()Lcom/example/covrage/covrage/engine/Verdict;"⟩ : MethodName)) (z := (⟨"com/example/covrage/covrage/engine/Answer", "getVerdict", "()Lcom/example/covrage/covrage/engine/Verdict;"⟩ : MethodName)) hown (mvT hZ (hw _ (List.mem_of_getElem? (i := 23) rfl))) (mvT hZ (hw _ (List.mem_of_getElem? (i := 24) rfl))) (notFace_of_selects (args := #[]) (mvT hZ (hw _ (List.mem_of_getElem? (i := 26) rfl)))) (mvT hZ (hw _ (List.mem_of_getElem? (i := 26) rfl))) (mvT hZ (hw _ (List.mem_of_getElem? (i := 25) rfl))) (by decide) (backOf (W := 0) (getVerdict_ l Z a0 hw [] a_53 w T53.heap n0 O53 p53_2) hZ (hw _ (List.mem_of_getElem? (i := 27) rfl)) (hw _ (List.mem_of_getElem? (i := 2) rfl)) (by decide) (by decide)) q59a q59c (g := (mkF m 12 #[.val (.int r), .val (.ref a_53)] [(.ref a_53)])) rfl (by rw [hml]; rfl) (Steps.refl _) (argsL := []) (rest := []) (lenOf pd_7495652 rfl) rfl (by show 2 * 0 + _ ≤ _; exact Nat.le_of_eq rfl) (hb hby at_12) (fun _ _ => ⟨rfl, (rfl : T53.heap = T53.heap), (by decide : 1 + 0 ≤ _), (by decide : 4 + 0 ≤ _)⟩)
  dsimp only [Pt.U, Pt.locs, Pt.cells, Pt.slots] at X59 l59 y59 z59 st59 hQ59
  subst l59 y59 z59
  obtain ⟨rfl, N59q, K59⟩ := hQ59
  have N59 := Fr.app N53 N59q
  have R60 : Go p e below P T59 (mkF m 15 #[.val (.int r), .val (.ref a_53)] [(.ref w)]) := fun t_ k_ => R58 t_ (st59.trans k_)
  obtain ⟨T61, X61, e61, st61⟩ := getS2 X59 hx hZ hown (host := "") (Or.inl (hw _ (List.mem_of_getElem? (i := 28) rfl))) Via.refl K59 (P0.ext O53.2) (g := (mkF m 15 #[.val (.int r), .val (.ref a_53)] [(.ref w)])) rfl (hb hby at_15)
  have R62 : Go p e below P T61 (mkF m 18 #[.val (.int r), .val (.ref a_53)] [(.ref w), (.ref w)]) := fun t_ k_ => R60 t_ (st61 t_ k_)
  have R63 : Go p e below P T61 (mkF m 21 #[.val (.int r), .val (.ref a_53)] []) := fun t_ k_ => R62 t_ (Jvm.RoadKit.acmp (g := (mkF m 18 #[.val (.int r), .val (.ref a_53)] [(.ref w), (.ref w)])) X61 hx rfl rfl rfl (pc0 := 18) (pc' := 21) (same := true) rfl (hb hby at_18) rfl (decide_eq_true (congrArg Value.ref rfl)) (by decide) (by decide) k_)
  have R64 : Go p e below P T61 (mkF m 22 #[.val (.int r), .val (.ref a_53)] [(.ref a_53)]) := fun t_ k_ => R63 t_ (XS.aloadN X61.here hx rfl (hb hby at_21) rfl rfl k_)
  obtain ⟨cq65, kq65, q65a, q65b, q65c⟩ := isOf hZ e61 p53_1
  obtain ⟨_, _, ⟨T65, L65, k65, n65⟩, -, X65, ⟨Lc65, hQ65, l65, y65, z65⟩, st65⟩ := X61.virtualBack hx (y := (⟨"com/example/covrage/covrage/engine/Answer", "getInitialMarking", "()Lcom/example/covrage/covrage/model/Marking;"⟩ : MethodName)) (z := (⟨"com/example/covrage/covrage/engine/Answer", "getInitialMarking", "()Lcom/example/covrage/covrage/model/Marking;"⟩ : MethodName)) hown (mvT hZ (hw _ (List.mem_of_getElem? (i := 29) rfl))) (mvT hZ (hw _ (List.mem_of_getElem? (i := 30) rfl))) (notFace_of_selects (args := #[]) (mvT hZ (hw _ (List.mem_of_getElem? (i := 32) rfl)))) (mvT hZ (hw _ (List.mem_of_getElem? (i := 32) rfl))) (mvT hZ (hw _ (List.mem_of_getElem? (i := 31) rfl))) (by decide) (backOf (W := 0) (getMarking_ l Z a0 hw [] a_53 T53.heap n0 O53 p53_3) hZ (hw _ (List.mem_of_getElem? (i := 33) rfl)) (hw _ (List.mem_of_getElem? (i := 2) rfl)) (by decide) (by decide)) q65a q65c (g := (mkF m 22 #[.val (.int r), .val (.ref a_53)] [(.ref a_53)])) rfl (by rw [hml]; rfl) (Steps.refl _) (argsL := []) (rest := []) (lenOf pd_13780575 rfl) rfl (by show 2 * 0 + _ ≤ _; exact Nat.le_of_eq rfl) (hb hby at_22) (fun _ _ => ⟨rfl, e61, (by decide : 1 + 0 ≤ _), (by decide : 4 + 0 ≤ _)⟩)
  dsimp only [Pt.U, Pt.locs, Pt.cells, Pt.slots] at X65 l65 y65 z65 st65 hQ65
  subst l65 y65 z65
  obtain ⟨rfl, N65q, K65⟩ := hQ65
  have N65 := Fr.app N59 N65q
  have R66 : Go p e below P T65 (mkF m 25 #[.val (.int r), .val (.ref a_53)] [.null]) := fun t_ k_ => R64 t_ (st65.trans k_)
  have R67 : Go p e below P T65 (mkF m 28 #[.val (.int r), .val (.ref a_53)] []) := fun t_ k_ => R66 t_ (XS.ifnonnullNo X65.here hx rfl (hb hby at_25) rfl k_)
  have R68 : Go p e below P T65 (mkF m 29 #[.val (.int r), .val (.ref a_53)] [(.ref a_53)]) := fun t_ k_ => R67 t_ (XS.aloadN X65.here hx rfl (hb hby at_28) rfl rfl k_)
  obtain ⟨cq69, kq69, q69a, q69b, q69c⟩ := isOf hZ K65 p53_1
  obtain ⟨_, _, ⟨T69, L69, k69, n69⟩, -, X69, ⟨Lc69, hQ69, l69, y69, z69⟩, st69⟩ := X65.virtualBack hx (y := (⟨"com/example/covrage/covrage/engine/Answer", "getWitness", "()Lcom/example/covrage/covrage/model/Witness;"⟩ : MethodName)) (z := (⟨"com/example/covrage/covrage/engine/Answer", "getWitness", "()Lcom/example/covrage/covrage/model/Witness;"⟩ : MethodName)) hown (mvT hZ (hw _ (List.mem_of_getElem? (i := 34) rfl))) (mvT hZ (hw _ (List.mem_of_getElem? (i := 35) rfl))) (notFace_of_selects (args := #[]) (mvT hZ (hw _ (List.mem_of_getElem? (i := 37) rfl)))) (mvT hZ (hw _ (List.mem_of_getElem? (i := 37) rfl))) (mvT hZ (hw _ (List.mem_of_getElem? (i := 36) rfl))) (by decide) (backOf (W := 0) (getWitness_ l Z a0 hw [] a_53 T53.heap n0 O53 p53_4) hZ (hw _ (List.mem_of_getElem? (i := 38) rfl)) (hw _ (List.mem_of_getElem? (i := 2) rfl)) (by decide) (by decide)) q69a q69c (g := (mkF m 29 #[.val (.int r), .val (.ref a_53)] [(.ref a_53)])) rfl (by rw [hml]; rfl) (Steps.refl _) (argsL := []) (rest := []) (lenOf pd_71517011 rfl) rfl (by show 2 * 0 + _ ≤ _; exact Nat.le_of_eq rfl) (hb hby at_29) (fun _ _ => ⟨rfl, K65, (by decide : 1 + 0 ≤ _), (by decide : 4 + 0 ≤ _)⟩)
  dsimp only [Pt.U, Pt.locs, Pt.cells, Pt.slots] at X69 l69 y69 z69 st69 hQ69
  subst l69 y69 z69
  obtain ⟨rfl, N69q, K69⟩ := hQ69
  have N69 := Fr.app N65 N69q
  have R70 : Go p e below P T69 (mkF m 32 #[.val (.int r), .val (.ref a_53)] [.null]) := fun t_ k_ => R68 t_ (st69.trans k_)
  have R71 : Go p e below P T69 (mkF m 35 #[.val (.int r), .val (.ref a_53)] []) := fun t_ k_ => R70 t_ (XS.ifnonnullNo X69.here hx rfl (hb hby at_32) rfl k_)
  have R72 : Go p e below P T69 (mkF m 36 #[.val (.int r), .val (.ref a_53)] [(.ref a_53)]) := fun t_ k_ => R71 t_ (XS.aloadN X69.here hx rfl (hb hby at_35) rfl rfl k_)
  obtain ⟨cq73, kq73, q73a, q73b, q73c⟩ := isOf hZ K69 p53_1
  obtain ⟨_, _, ⟨T73, L73, k73, n73⟩, -, X73, ⟨Lc73, hQ73, l73, y73, z73⟩, st73⟩ := X69.virtualBack hx (y := (⟨"com/example/covrage/covrage/engine/Answer", "getRounds", "()I"⟩ : MethodName)) (z := (⟨"com/example/covrage/covrage/engine/Answer", "getRounds", "()I"⟩ : MethodName)) hown (mvT hZ (hw _ (List.mem_of_getElem? (i := 39) rfl))) (mvT hZ (hw _ (List.mem_of_getElem? (i := 40) rfl))) (notFace_of_selects (args := #[]) (mvT hZ (hw _ (List.mem_of_getElem? (i := 42) rfl)))) (mvT hZ (hw _ (List.mem_of_getElem? (i := 42) rfl))) (mvT hZ (hw _ (List.mem_of_getElem? (i := 41) rfl))) (by decide) (backOf (W := 0) (getRounds_ l Z a0 hw [] a_53 r T53.heap n0 O53 p53_5) hZ (hw _ (List.mem_of_getElem? (i := 43) rfl)) (hw _ (List.mem_of_getElem? (i := 2) rfl)) (by decide) (by decide)) q73a q73c (g := (mkF m 36 #[.val (.int r), .val (.ref a_53)] [(.ref a_53)])) rfl (by rw [hml]; rfl) (Steps.refl _) (argsL := []) (rest := []) (lenOf pd_16428521 rfl) rfl (by show 2 * 0 + _ ≤ _; exact Nat.le_of_eq rfl) (hb hby at_36) (fun _ _ => ⟨rfl, K69, (by decide : 1 + 0 ≤ _), (by decide : 4 + 0 ≤ _)⟩)
  dsimp only [Pt.U, Pt.locs, Pt.cells, Pt.slots] at X73 l73 y73 z73 st73 hQ73
  subst l73 y73 z73
  obtain ⟨rfl, N73q, K73⟩ := hQ73
  have N73 := Fr.app N69 N73q
  have R74 : Go p e below P T73 (mkF m 39 #[.val (.int r), .val (.ref a_53)] [(.int r)]) := fun t_ k_ => R72 t_ (st73.trans k_)
  have R75 : Go p e below P T73 (mkF m 40 #[.val (.int r), .val (.ref a_53)] [(.int r), (.int r)]) := fun t_ k_ => R74 t_ (XS.iloadN X73.here hx rfl (hb hby at_39) rfl k_)
  have R76 : Go p e below P T73 (mkF m 43 #[.val (.int r), .val (.ref a_53)] []) := fun t_ k_ => R75 t_ (XS.icmpNo X73.here hx rfl (hb hby at_40) rfl (teq rfl).2 k_)
  have R77 : Go p e below P T73 (mkF m 44 #[.val (.int r), .val (.ref a_53)] [(.int (1 : Int32))]) := fun t_ k_ => R76 t_ (XS.iconst X73.here hx rfl (hb hby at_43) k_)
  have R78 : Go p e below P T73 (mkF m 48 #[.val (.int r), .val (.ref a_53)] [(.int (1 : Int32))]) := fun t_ k_ => R77 t_ (XS.goto X73.here hx rfl (pc0 := 44) (pc' := 48) rfl (hb hby at_44) (by decide) (by decide) k_)
  obtain ⟨fs, hr, hrun, hended, hW, hsame⟩ := X73.leave (v := some (.int (nar .boolean (1 : Int32)))) (fun h => by rw [Bd.returns] at h; cases h)
  exact ⟨_, _, hP _ (R78 _ (retN X73 hx (t := .boolean) Bd.returns (by simp) (hb hby at_48) hr)), hrun, hended, _, _, rfl, ⟨rfl, N73, (K73.symm ▸ ((Keep.refl h0 []).trans K53 all0))⟩, ⟨_, rfl⟩, hW, hsame.mono (by decide) (by decide)⟩
set_option maxRecDepth 65536 in
set_option maxHeartbeats 40000000 in
theorem comes_1 {Post : Tables → Env → Array Value → State → Outcome → State → Prop} (hpost : ∀ tb e args s v u, (limb_1_1.after args s (.returned v) u = true ∧ limb_1_2.after args s (.returned v) u = true ∧ True) → FrameEnd s (.returned v) u (Jvm.fieldLocs frame_1_writes args s ++ Jvm.arrayLocs frame_1_arrays args s ++ Jvm.staticLocs frame_1_statics s) 16 128 → Post tb e args s (.returned v) u) :
    ArmFor flags0 classFile x code maxLocals ret World_1 tables_1 room_1 Calls_1 rest_1 Pre_1 Post := by
  intro l hfl _ _ p e ha hc hk s m args below hf hA hF happ hP
  obtain ⟨hcalls, hrest, hpre⟩ := hP
  obtain ⟨-, -, -, hnamed, -, -, -, hat⟩ := (Spec.applies_iff hf).mp happ
  obtain ⟨hg, hn⟩ := and_e (Cond.before_iff.mp (show (Jvm.Cond.and given_1 narrow_1).before args s = true from hpre))
  obtain ⟨g1, g2⟩ := and_e hg
  obtain ⟨w0, rfl⟩ : ∃ w0 : Value, args = #[w0] := by
    have hs : args.size = 1 := by simpa [Cond.value, given_1] using g1
    obtain ⟨L⟩ := args
    match L, hs with
    | [w0], _ => exact ⟨w0, rfl⟩
  have hw := fun d (hd : d ∈ tables_1) => atoms_spec (ws := Jvm.Cond.code x code maxLocals ret :: tables_1) hat d (List.mem_cons_of_mem _ hd)
  have hfit : Fit s := fun {y c} hc i hi => by
    obtain ⟨ha, rfl⟩ := Array.getElem?_eq_some_iff.mp hc
    have q := List.all_eq_true.mp ((Array.all_eq_true_iff_forall_mem.mp hF) _ (Array.getElem_mem ha)) i (List.mem_range.mpr hi)
    simpa [Array.getElem?_eq_getElem hi] using q
  obtain ⟨i0, ei0⟩ := is_v g2
  obtain rfl : w0 = (.int i0) := Option.some.inj ei0
  obtain ⟨w_UNKNOWN, ev_UNKNOWN⟩ := exa_v hn
  have S_UNKNOWN := Sta.start ev_UNKNOWN (Or.inr ⟨(hw _ (List.mem_of_getElem? (i := 7) rfl)), (hw _ (List.mem_of_getElem? (i := 8) rfl))⟩)
  have E_UNKNOWN := Exa.start ev_UNKNOWN hn
  obtain ⟨n, o, h1, h2, h3, _, L, rfl, ⟨rfl, N, _⟩, hq⟩ := law_ l s _ hw tables_1 i0 w_UNKNOWN s.heap s.heap.size (Old.start s) S_UNKNOWN p e ha hc hk s m _ below hf ((Spec.applies_iff_loose hf).mp happ).1 ⟨rfl, State.Warmed39.refl s, rfl⟩ trivial
  refine ⟨n, _, h1, h2, h3, hpost _ _ _ _ _ _ ⟨Cond.after_iff.mpr rfl, Cond.after_iff.mpr (eq_i res_at (Term.int_eval (1)) rfl), trivial⟩ ⟨hq.1, hq.2.1, (hq.2.2.sift fun y hy => Or.inr (N y hy)).mono (by decide) (by decide)⟩⟩
theorem main_1_1 : Claimed_1_1 := comes_1 fun _ _ _ _ _ _ h hF => ⟨h.1, hF⟩
theorem main_1_2 : Claimed_1_2 := comes_1 fun _ _ _ _ _ _ h hF => ⟨h.2.1, hF⟩
end Jvm.Pilot.@@N@@
namespace Jvm.Pilot.@@N@@
open Jvm Jvm.ClassFile Sem Op Lib Jvm.Free Jvm.Stand Jvm.Pilot.@@N@@.Jvm.D
/-! MADE BY PROGRAM (witnessworld.py) out of the Statement's table words and the real class files: 13 classes; the members and pool entries that the words name. The judged class is class 1, her method 1. -/
namespace start1
open Jvm.ClassFile
def u (s : String) : CpInfo := .utf8 (stringToUtf16 s)
/-- a pool by its gaps: so many unusable entries, then the entry; so many at the end -/
def gap : Nat → List CpInfo → List CpInfo
  | 0, r => r
  | n + 1, r => .unusable :: gap n r
def poolList (es : List (Nat × CpInfo)) (last : Nat) : List CpInfo := es.foldr (fun e r => gap e.1 (e.2 :: r)) (gap last [])
def pool (es : List (Nat × CpInfo)) (last : Nat) : Array CpInfo := ⟨poolList es last⟩
def fileOf (pool : Array CpInfo) (this : Nat) (attrs : Array Attribute := #[]) (ms : Array MethodInfo := #[]) (fl : Nat := 33) (sup : Nat := 0) (ifs : Array Nat := #[]) (fds : Array FieldInfo := #[]) : ClassFile where
  minorVersion := 0
  majorVersion := 65
  constantPool := pool
  accessFlags := fl
  thisClass := this
  superClass := sup
  interfaces := ifs
  fields := fds
  methods := ms
  attributes := attrs
def plain (name : String) (sup : Option ClassId) : Class where
  name := name
  kind := .ordinary
  loader := none
  accessFlags := 33
  super := sup
  interfaces := #[]
  cf := none
  fields := #[]
  methods := #[]
  instanceTypes := #[]
  staticTypes := #[]
  resolved := #[]
  callSites := []
  init := .initialized
  statics := none
  mirror := none

def pool0 : Array CpInfo := pool [(5, u "<init>"), (0, u "()V"), (1, .class_ 10), (1, u "java/lang/Object")] 113

def k0c0 : Code := { maxStack := 0, maxLocals := 1, code := object_method_1_code, exceptionTable := #[], attributes := #[] }
def k0m0 : Method := { name := "<init>", desc := "()V", sig := { parameters := [], returnType := none }, accessFlags := 1, code := some k0c0 }
/-- java/lang/Object -/
def k0 : Class := { plain "java/lang/Object" none with
  accessFlags := 33
  interfaces := #[]
  cf := some (fileOf pool0 8 #[] #[{ accessFlags := 1, nameIndex := 5, descriptorIndex := 6, attributes := #[] }] 33 0 #[] #[])
  fields := #[]
  methods := #[k0m0]
  instanceTypes := #[]
  staticTypes := #[]
  resolved := Array.replicate 124 none
  statics := none }

def pool1 : Array CpInfo := pool [(2, .class_ 4), (1, u "java/lang/Object"), (0, u "<init>"), (0, u "()V"), (0, .methodref 8 9), (0, .class_ 10), (0, .nameAndType 11 12), (0, u "com/example/covrage/covrage/engine/Answer"), (0, u "unknown"), (0, u "(I)Lcom/example/covrage/covrage/engine/Answer;"), (0, .methodref 8 14), (0, .nameAndType 15 16), (0, u "getVerdict"), (0, u "()Lcom/example/covrage/covrage/engine/Verdict;"), (0, .fieldref 18 19), (0, .class_ 20), (0, .nameAndType 21 22), (0, u "com/example/covrage/covrage/engine/Verdict"), (0, u "UNKNOWN"), (0, u "Lcom/example/covrage/covrage/engine/Verdict;"), (0, .methodref 8 24), (0, .nameAndType 25 26), (0, u "getInitialMarking"), (0, u "()Lcom/example/covrage/covrage/model/Marking;"), (0, .methodref 8 28), (0, .nameAndType 29 30), (0, u "getWitness"), (0, u "()Lcom/example/covrage/covrage/model/Witness;"), (0, .methodref 8 32), (0, .nameAndType 33 34), (0, u "getRounds"), (0, u "()I"), (0, .class_ 36), (0, u "com/example/covrage/covrage/engine/AnswerUnknownPinLaw"), (2, u "law"), (0, u "(I)Z")] 3

def k1m0 : Method := { name := "<init>", desc := "()V", sig := { parameters := [], returnType := none }, accessFlags := 1, code := none }
def k1c1 : Code := { maxStack := 2, maxLocals := 2, code := code, exceptionTable := #[], attributes := #[] }
def k1m1 : Method := { name := "law", desc := "(I)Z", sig := { parameters := [.int], returnType := some .boolean }, accessFlags := 9, code := some k1c1 }
/-- com/example/covrage/covrage/engine/AnswerUnknownPinLaw -/
def k1 : Class := { plain "com/example/covrage/covrage/engine/AnswerUnknownPinLaw" (some 0) with
  accessFlags := 49
  interfaces := #[]
  cf := some (fileOf pool1 35 #[] #[{ accessFlags := 1, nameIndex := 5, descriptorIndex := 6, attributes := #[] }, { accessFlags := 9, nameIndex := 39, descriptorIndex := 40, attributes := #[] }] 49 2 #[] #[])
  fields := #[]
  methods := #[k1m0, k1m1]
  instanceTypes := #[]
  staticTypes := #[]
  resolved := Array.replicate 44 none
  statics := none }

def pool2 : Array CpInfo := pool [(1, .methodref 2 3), (0, .class_ 4), (0, .nameAndType 5 6), (0, u "java/lang/Object"), (0, u "<init>"), (0, u "()V"), (0, .fieldref 8 9), (0, .class_ 10), (0, .nameAndType 11 12), (0, u "com/example/covrage/covrage/engine/Answer"), (0, u "verdict"), (0, u "Lcom/example/covrage/covrage/engine/Verdict;"), (0, .fieldref 8 14), (0, .nameAndType 15 16), (0, u "initialMarking"), (0, u "Lcom/example/covrage/covrage/model/Marking;"), (0, .fieldref 8 18), (0, .nameAndType 19 20), (0, u "witness"), (0, u "Lcom/example/covrage/covrage/model/Witness;"), (0, .fieldref 8 22), (0, .nameAndType 23 24), (0, u "rounds"), (0, u "I"), (1, .class_ 28), (1, u "com/example/covrage/covrage/engine/Verdict"), (1, .methodref 8 31), (0, .nameAndType 5 32), (0, u "(Lcom/example/covrage/covrage/engine/Verdict;Lcom/example/covrage/covrage/model/Marking;Lcom/example/covrage/covrage/model/Witness;I)V"), (3, .fieldref 26 37), (0, .nameAndType 38 12), (0, u "UNKNOWN"), (5, u "(I)Lcom/example/covrage/covrage/engine/Answer;"), (0, u "unknown"), (0, u "getVerdict"), (0, u "()Lcom/example/covrage/covrage/engine/Verdict;"), (0, u "getInitialMarking"), (0, u "()Lcom/example/covrage/covrage/model/Marking;"), (0, u "getWitness"), (0, u "()Lcom/example/covrage/covrage/model/Witness;"), (0, u "getRounds"), (0, u "()I")] 2

def k2c0 : Code := { maxStack := 2, maxLocals := 5, code := prog_4_method_1_code, exceptionTable := #[], attributes := #[] }
def k2m0 : Method := { name := "<init>", desc := "(Lcom/example/covrage/covrage/engine/Verdict;Lcom/example/covrage/covrage/model/Marking;Lcom/example/covrage/covrage/model/Witness;I)V", sig := { parameters := [(.object "com/example/covrage/covrage/engine/Verdict"), (.object "com/example/covrage/covrage/model/Marking"), (.object "com/example/covrage/covrage/model/Witness"), .int], returnType := none }, accessFlags := 2, code := some k2c0 }
def k2c1 : Code := { maxStack := 6, maxLocals := 1, code := prog_4_method_4_code, exceptionTable := #[], attributes := #[] }
def k2m1 : Method := { name := "unknown", desc := "(I)Lcom/example/covrage/covrage/engine/Answer;", sig := { parameters := [.int], returnType := some (.object "com/example/covrage/covrage/engine/Answer") }, accessFlags := 8, code := some k2c1 }
def k2c2 : Code := { maxStack := 1, maxLocals := 1, code := prog_4_method_5_code, exceptionTable := #[], attributes := #[] }
def k2m2 : Method := { name := "getVerdict", desc := "()Lcom/example/covrage/covrage/engine/Verdict;", sig := { parameters := [], returnType := some (.object "com/example/covrage/covrage/engine/Verdict") }, accessFlags := 1, code := some k2c2 }
def k2c3 : Code := { maxStack := 1, maxLocals := 1, code := prog_4_method_6_code, exceptionTable := #[], attributes := #[] }
def k2m3 : Method := { name := "getInitialMarking", desc := "()Lcom/example/covrage/covrage/model/Marking;", sig := { parameters := [], returnType := some (.object "com/example/covrage/covrage/model/Marking") }, accessFlags := 1, code := some k2c3 }
def k2c4 : Code := { maxStack := 1, maxLocals := 1, code := prog_4_method_7_code, exceptionTable := #[], attributes := #[] }
def k2m4 : Method := { name := "getWitness", desc := "()Lcom/example/covrage/covrage/model/Witness;", sig := { parameters := [], returnType := some (.object "com/example/covrage/covrage/model/Witness") }, accessFlags := 1, code := some k2c4 }
def k2c5 : Code := { maxStack := 1, maxLocals := 1, code := prog_4_method_8_code, exceptionTable := #[], attributes := #[] }
def k2m5 : Method := { name := "getRounds", desc := "()I", sig := { parameters := [], returnType := some .int }, accessFlags := 1, code := some k2c5 }
/-- com/example/covrage/covrage/engine/Answer -/
def k2 : Class := { plain "com/example/covrage/covrage/engine/Answer" (some 0) with
  accessFlags := 33
  interfaces := #[]
  cf := some (fileOf pool2 8 #[] #[{ accessFlags := 2, nameIndex := 5, descriptorIndex := 32, attributes := #[] }, { accessFlags := 8, nameIndex := 45, descriptorIndex := 44, attributes := #[] }, { accessFlags := 1, nameIndex := 46, descriptorIndex := 47, attributes := #[] }, { accessFlags := 1, nameIndex := 48, descriptorIndex := 49, attributes := #[] }, { accessFlags := 1, nameIndex := 50, descriptorIndex := 51, attributes := #[] }, { accessFlags := 1, nameIndex := 52, descriptorIndex := 53, attributes := #[] }] 33 2 #[] #[{ accessFlags := 18, nameIndex := 11, descriptorIndex := 12, attributes := #[] }, { accessFlags := 18, nameIndex := 15, descriptorIndex := 16, attributes := #[] }, { accessFlags := 18, nameIndex := 19, descriptorIndex := 20, attributes := #[] }, { accessFlags := 18, nameIndex := 23, descriptorIndex := 24, attributes := #[] }])
  fields := #[{ name := "verdict", type := (.object "com/example/covrage/covrage/engine/Verdict"), accessFlags := 18, slot := 0, constantValue := 0 }, { name := "initialMarking", type := (.object "com/example/covrage/covrage/model/Marking"), accessFlags := 18, slot := 1, constantValue := 0 }, { name := "witness", type := (.object "com/example/covrage/covrage/model/Witness"), accessFlags := 18, slot := 2, constantValue := 0 }, { name := "rounds", type := .int, accessFlags := 18, slot := 3, constantValue := 0 }]
  methods := #[k2m0, k2m1, k2m2, k2m3, k2m4, k2m5]
  instanceTypes := #[(.object "com/example/covrage/covrage/engine/Verdict"), (.object "com/example/covrage/covrage/model/Marking"), (.object "com/example/covrage/covrage/model/Witness"), .int]
  staticTypes := #[]
  resolved := Array.replicate 56 none
  statics := none }

def pool3 : Array CpInfo := pool [(1, .class_ 2), (0, u "java/lang/constant/Constable"), (0, .class_ 4), (0, u "java/lang/Object")] 6

/-- java/lang/constant/Constable -/
def k3 : Class := { plain "java/lang/constant/Constable" (some 0) with
  accessFlags := 1537
  interfaces := #[]
  cf := some (fileOf pool3 1 #[] #[] 1537 3 #[] #[])
  fields := #[]
  methods := #[]
  instanceTypes := #[]
  staticTypes := #[]
  resolved := Array.replicate 11 none
  statics := none }

def pool4 : Array CpInfo := pool [(1, .class_ 2), (0, u "java/lang/Comparable"), (0, .class_ 4), (0, u "java/lang/Object")] 7

/-- java/lang/Comparable -/
def k4 : Class := { plain "java/lang/Comparable" (some 0) with
  accessFlags := 1537
  interfaces := #[]
  cf := some (fileOf pool4 1 #[] #[] 1537 3 #[] #[])
  fields := #[]
  methods := #[]
  instanceTypes := #[]
  staticTypes := #[]
  resolved := Array.replicate 12 none
  statics := none }

def pool5 : Array CpInfo := pool [(1, .class_ 2), (0, u "java/io/Serializable"), (0, .class_ 4), (0, u "java/lang/Object")] 2

/-- java/io/Serializable -/
def k5 : Class := { plain "java/io/Serializable" (some 0) with
  accessFlags := 1537
  interfaces := #[]
  cf := some (fileOf pool5 1 #[] #[] 1537 3 #[] #[])
  fields := #[]
  methods := #[]
  instanceTypes := #[]
  staticTypes := #[]
  resolved := Array.replicate 7 none
  statics := none }

def pool6 : Array CpInfo := pool [(2, .class_ 4), (1, u "java/lang/Enum"), (0, u "name"), (0, u "Ljava/lang/String;"), (2, u "ordinal"), (0, u "I"), (1, .class_ 14), (1, u "java/lang/Object"), (4, u "hash"), (86, .class_ 108), (1, u "java/lang/Enum$EnumDesc"), (2, .class_ 112), (0, u "java/lang/constant/Constable"), (0, .class_ 114), (0, u "java/lang/Comparable"), (0, .class_ 116), (0, u "java/io/Serializable")] 87

/-- java/lang/Enum -/
def k6 : Class := { plain "java/lang/Enum" (some 0) with
  accessFlags := 1057
  interfaces := #[3, 4, 5]
  cf := some (fileOf pool6 2 #[.nestMembers #[106]] #[] 1057 12 #[111, 113, 115] #[{ accessFlags := 18, nameIndex := 5, descriptorIndex := 6, attributes := #[] }, { accessFlags := 18, nameIndex := 9, descriptorIndex := 10, attributes := #[] }, { accessFlags := 2, nameIndex := 19, descriptorIndex := 10, attributes := #[] }])
  fields := #[{ name := "name", type := (.object "java/lang/String"), accessFlags := 18, slot := 0, constantValue := 0 }, { name := "ordinal", type := .int, accessFlags := 18, slot := 1, constantValue := 0 }, { name := "hash", type := .int, accessFlags := 2, slot := 2, constantValue := 0 }]
  methods := #[]
  instanceTypes := #[(.object "java/lang/String"), .int, .int]
  staticTypes := #[]
  resolved := Array.replicate 204 none
  statics := none }

def pool7 : Array CpInfo := pool [(1, .class_ 2), (0, u "com/example/covrage/covrage/engine/Verdict"), (2, u "REACHABLE"), (0, u "Lcom/example/covrage/covrage/engine/Verdict;"), (2, u "UNREACHABLE"), (2, u "UNKNOWN"), (2, u "$VALUES"), (0, u "[Lcom/example/covrage/covrage/engine/Verdict;"), (6, .class_ 25), (1, u "java/lang/Enum")] 25

/-- com/example/covrage/covrage/engine/Verdict -/
def k7 : Class := { plain "com/example/covrage/covrage/engine/Verdict" (some 6) with
  accessFlags := 16433
  interfaces := #[]
  cf := some (fileOf pool7 1 #[] #[] 16433 23 #[] #[{ accessFlags := 16409, nameIndex := 5, descriptorIndex := 6, attributes := #[] }, { accessFlags := 16409, nameIndex := 9, descriptorIndex := 6, attributes := #[] }, { accessFlags := 16409, nameIndex := 12, descriptorIndex := 6, attributes := #[] }, { accessFlags := 4122, nameIndex := 15, descriptorIndex := 16, attributes := #[] }])
  fields := #[{ name := "REACHABLE", type := (.object "com/example/covrage/covrage/engine/Verdict"), accessFlags := 16409, slot := 0, constantValue := 0 }, { name := "UNREACHABLE", type := (.object "com/example/covrage/covrage/engine/Verdict"), accessFlags := 16409, slot := 1, constantValue := 0 }, { name := "UNKNOWN", type := (.object "com/example/covrage/covrage/engine/Verdict"), accessFlags := 16409, slot := 2, constantValue := 0 }, { name := "$VALUES", type := (.array (.object "com/example/covrage/covrage/engine/Verdict")), accessFlags := 4122, slot := 3, constantValue := 0 }]
  methods := #[]
  instanceTypes := #[(.object "java/lang/String"), .int, .int]
  staticTypes := #[(.object "com/example/covrage/covrage/engine/Verdict"), (.object "com/example/covrage/covrage/engine/Verdict"), (.object "com/example/covrage/covrage/engine/Verdict"), (.array (.object "com/example/covrage/covrage/engine/Verdict"))]
  resolved := Array.replicate 51 none
  statics := some 0 }

def pool8 : Array CpInfo := pool [(1, u "java/lang/Cloneable"), (0, .class_ 1), (0, u "java/lang/Object"), (0, .class_ 3)] 3

/-- java/lang/Cloneable -/
def k8 : Class := { plain "java/lang/Cloneable" (some 0) with
  accessFlags := 1537
  interfaces := #[]
  cf := some (fileOf pool8 2 #[] #[] 1537 4 #[] #[])
  fields := #[]
  methods := #[]
  instanceTypes := #[]
  staticTypes := #[]
  resolved := Array.replicate 8 none
  statics := none }

/-- the primitive byte -/
def k9 : Class := { plain "byte" none with kind := .primitive 'B', accessFlags := 0x411 }
/-- [B -/
def k10 : Class := { plain "[B" (some 0) with kind := .array 9 .byte, interfaces := #[8, 5], accessFlags := 1041 }

/-- the primitive int -/
def k11 : Class := { plain "int" none with kind := .primitive 'I', accessFlags := 0x411 }
/-- [I -/
def k12 : Class := { plain "[I" (some 0) with kind := .array 11 .int, interfaces := #[8, 5], accessFlags := 1041 }

def heap : Heap := #[{ cls := 7, slots := #[.null, .null, .ref 1, .null], vm := .statics 7 },
  { cls := 7, slots := #[.null, .int 0, .int 0], vm := .none }]
def classes : Array Class := #[k0, k1, k2, k3, k4, k5, k6, k7, k8, k9, k10, k11, k12]
def interned : List (Array UInt16 × Addr) := []
def slotsUsed : Nat := 7
def theMethod : MethodId := ⟨1, 1⟩
def args0 : Array Value := #[.int 5]
def aboutOver (below : List Frame) : State where
  vm := { classes := classes, interned := interned.toArray }
  heap := heap
  slotsUsed := slotsUsed
  threads := #[{ frames := .invoking theMethod args0 :: below }]
def below0 : List Frame := [.native { method := ⟨0, 0⟩, args := #[] }]
def about1 : State := aboutOver below0
def p0 : Program := .bare "" "" ""
def e0 : Env := launch0.env 0 0 0
theorem w_frames : about1.frames = Frame.invoking theMethod args0 :: below0 := rfl
set_option maxRecDepth 65536 in
theorem w_args : argsFit about1.vm theMethod args0 = true := by decide +kernel
set_option maxRecDepth 65536 in
theorem w_heap : heapFits about1 = true := by decide +kernel
set_option maxRecDepth 65536 in
theorem w_runnable : about1.curStatus? = some .runnable := by decide +kernel
set_option maxRecDepth 65536 in
theorem w_alone : about1.alone = true := by decide +kernel
set_option maxRecDepth 65536 in
theorem w_named : about1.methodNamed? x = some theMethod := by decide +kernel
set_option maxRecDepth 65536 in
theorem w_hears : about1.hears theMethod below0 = true := by decide +kernel
set_option maxRecDepth 65536 in
theorem w_ripe : about1.ripe theMethod args0 below0 = true := by decide +kernel
theorem w_running : about1.status = .running := rfl
set_option maxRecDepth 65536 in
theorem w_room : about1.hasRoom e0.platform room_1 = true :=
  launch0.hasRoom_least _ room_1 (by decide +kernel) (by decide +kernel) (by decide +kernel) (by decide +kernel) (by decide +kernel) (by decide +kernel)
theorem allAtoms_all (ts : List Jvm.Cond) (a : Array Jvm.Value) (st : Jvm.State) : (allAtoms ts).before a st = ts.all (fun c => c.before a st) := by
  induction ts with
  | nil => rfl
  | cons c t ih =>
    show (Jvm.Cond.and c (allAtoms t)).before a st = _
    rw [Jvm.Cond.before_and, ih, List.all_cons]
def words1 : List Jvm.Cond := Jvm.Cond.code x code maxLocals ret :: tables_1
/-- a 'code' word, met by the world's own term for the bytes: nothing is compared byte by byte -/
theorem code_word {y : MethodName} {bytes : ByteArray} {mx : Nat} {rt : Option FieldType} {a : Array Value} {s : State} {m : MethodId} {meth : Method} {c : Code} (h1 : s.methodNamed? y = some m) (h2 : s.vm.method? m = some meth) (h3 : meth.code = some c) (h4 : c.code = bytes)
    (h5 : (c.maxLocals == mx && c.exceptionTable.isEmpty && decide (c.maxStack ≤ mostOperands) && decide (meth.sig.returnType = rt) && !meth.locks && decide (parseMethodDescriptor y.desc = some meth.sig)) = true) : (Jvm.Cond.code y bytes mx rt).before a s = true := by
  simp only [Bool.and_eq_true, beq_iff_eq, Bool.not_eq_true', decide_eq_true_eq] at h5
  obtain ⟨⟨⟨⟨⟨g1, g2⟩, g3⟩, g4⟩, g5⟩, g6⟩ := h5
  simp [Cond.before, Cond.holds, Cond.value, h1, h2, h3, h4, g1, g2, g3, g4, g5, g6]
def isCode : Jvm.Cond → Bool
  | .code _ _ _ _ => true
  | _ => false
theorem all_split {L : List Jvm.Cond} {P : Jvm.Cond → Bool} (h1 : L.all (fun c => isCode c || P c) = true) (h2 : ∀ c ∈ L.filter isCode, P c = true) : L.all P = true := by
  refine List.all_eq_true.mpr fun c hc => ?_
  have h := List.all_eq_true.mp h1 c hc
  rcases Bool.eq_false_or_eq_true (isCode c) with hi | hi
  · exact h2 c (List.mem_filter.mpr ⟨hc, hi⟩)
  · simpa [hi] using h
set_option maxRecDepth 65536 in
theorem w_c0 : (Jvm.Cond.code x code maxLocals ret).before args0 about1 = true := code_word (m := ⟨1, 1⟩) (meth := k1m1) (c := k1c1) (by decide +kernel) rfl rfl rfl (by decide +kernel)
set_option maxRecDepth 65536 in
theorem w_c1 : (Jvm.Cond.code ({ cls := "com/example/covrage/covrage/engine/Answer", name := "unknown", desc := "(I)Lcom/example/covrage/covrage/engine/Answer;" } : Jvm.MethodName) prog_4_method_4_code (1 : Nat) (Option.some (Jvm.ClassFile.FieldType.object "com/example/covrage/covrage/engine/Answer"))).before args0 about1 = true := code_word (m := ⟨2, 1⟩) (meth := k2m1) (c := k2c1) (by decide +kernel) rfl rfl rfl (by decide +kernel)
set_option maxRecDepth 65536 in
theorem w_c2 : (Jvm.Cond.code ({ cls := "com/example/covrage/covrage/engine/Answer", name := "<init>", desc := "(Lcom/example/covrage/covrage/engine/Verdict;Lcom/example/covrage/covrage/model/Marking;Lcom/example/covrage/covrage/model/Witness;I)V" } : Jvm.MethodName) prog_4_method_1_code (5 : Nat) (Option.none : Option Jvm.ClassFile.FieldType)).before args0 about1 = true := code_word (m := ⟨2, 0⟩) (meth := k2m0) (c := k2c0) (by decide +kernel) rfl rfl rfl (by decide +kernel)
set_option maxRecDepth 65536 in
theorem w_c3 : (Jvm.Cond.code ({ cls := "java/lang/Object", name := "<init>", desc := "()V" } : Jvm.MethodName) object_method_1_code (1 : Nat) (Option.none : Option Jvm.ClassFile.FieldType)).before args0 about1 = true := code_word (m := ⟨0, 0⟩) (meth := k0m0) (c := k0c0) (by decide +kernel) rfl rfl rfl (by decide +kernel)
set_option maxRecDepth 65536 in
theorem w_c4 : (Jvm.Cond.code ({ cls := "com/example/covrage/covrage/engine/Answer", name := "getVerdict", desc := "()Lcom/example/covrage/covrage/engine/Verdict;" } : Jvm.MethodName) prog_4_method_5_code (1 : Nat) (Option.some (Jvm.ClassFile.FieldType.object "com/example/covrage/covrage/engine/Verdict"))).before args0 about1 = true := code_word (m := ⟨2, 2⟩) (meth := k2m2) (c := k2c2) (by decide +kernel) rfl rfl rfl (by decide +kernel)
set_option maxRecDepth 65536 in
theorem w_c5 : (Jvm.Cond.code ({ cls := "com/example/covrage/covrage/engine/Answer", name := "getInitialMarking", desc := "()Lcom/example/covrage/covrage/model/Marking;" } : Jvm.MethodName) prog_4_method_6_code (1 : Nat) (Option.some (Jvm.ClassFile.FieldType.object "com/example/covrage/covrage/model/Marking"))).before args0 about1 = true := code_word (m := ⟨2, 3⟩) (meth := k2m3) (c := k2c3) (by decide +kernel) rfl rfl rfl (by decide +kernel)
set_option maxRecDepth 65536 in
theorem w_c6 : (Jvm.Cond.code ({ cls := "com/example/covrage/covrage/engine/Answer", name := "getWitness", desc := "()Lcom/example/covrage/covrage/model/Witness;" } : Jvm.MethodName) prog_4_method_7_code (1 : Nat) (Option.some (Jvm.ClassFile.FieldType.object "com/example/covrage/covrage/model/Witness"))).before args0 about1 = true := code_word (m := ⟨2, 4⟩) (meth := k2m4) (c := k2c4) (by decide +kernel) rfl rfl rfl (by decide +kernel)
set_option maxRecDepth 65536 in
theorem w_c7 : (Jvm.Cond.code ({ cls := "com/example/covrage/covrage/engine/Answer", name := "getRounds", desc := "()I" } : Jvm.MethodName) prog_4_method_8_code (1 : Nat) (Option.some Jvm.ClassFile.FieldType.int)).before args0 about1 = true := code_word (m := ⟨2, 5⟩) (meth := k2m5) (c := k2c5) (by decide +kernel) rfl rfl rfl (by decide +kernel)
def codes1 : List Jvm.Cond := [Jvm.Cond.code x code maxLocals ret, Jvm.Cond.code ({ cls := "com/example/covrage/covrage/engine/Answer", name := "unknown", desc := "(I)Lcom/example/covrage/covrage/engine/Answer;" } : Jvm.MethodName) prog_4_method_4_code (1 : Nat) (Option.some (Jvm.ClassFile.FieldType.object "com/example/covrage/covrage/engine/Answer")), Jvm.Cond.code ({ cls := "com/example/covrage/covrage/engine/Answer", name := "<init>", desc := "(Lcom/example/covrage/covrage/engine/Verdict;Lcom/example/covrage/covrage/model/Marking;Lcom/example/covrage/covrage/model/Witness;I)V" } : Jvm.MethodName) prog_4_method_1_code (5 : Nat) (Option.none : Option Jvm.ClassFile.FieldType), Jvm.Cond.code ({ cls := "java/lang/Object", name := "<init>", desc := "()V" } : Jvm.MethodName) object_method_1_code (1 : Nat) (Option.none : Option Jvm.ClassFile.FieldType), Jvm.Cond.code ({ cls := "com/example/covrage/covrage/engine/Answer", name := "getVerdict", desc := "()Lcom/example/covrage/covrage/engine/Verdict;" } : Jvm.MethodName) prog_4_method_5_code (1 : Nat) (Option.some (Jvm.ClassFile.FieldType.object "com/example/covrage/covrage/engine/Verdict")), Jvm.Cond.code ({ cls := "com/example/covrage/covrage/engine/Answer", name := "getInitialMarking", desc := "()Lcom/example/covrage/covrage/model/Marking;" } : Jvm.MethodName) prog_4_method_6_code (1 : Nat) (Option.some (Jvm.ClassFile.FieldType.object "com/example/covrage/covrage/model/Marking")), Jvm.Cond.code ({ cls := "com/example/covrage/covrage/engine/Answer", name := "getWitness", desc := "()Lcom/example/covrage/covrage/model/Witness;" } : Jvm.MethodName) prog_4_method_7_code (1 : Nat) (Option.some (Jvm.ClassFile.FieldType.object "com/example/covrage/covrage/model/Witness")), Jvm.Cond.code ({ cls := "com/example/covrage/covrage/engine/Answer", name := "getRounds", desc := "()I" } : Jvm.MethodName) prog_4_method_8_code (1 : Nat) (Option.some Jvm.ClassFile.FieldType.int)]
set_option maxRecDepth 65536 in
theorem codes_eq : words1.filter isCode = codes1 := rfl
theorem w_codes : ∀ c ∈ words1.filter isCode, c.before args0 about1 = true := by
  rw [codes_eq]
  intro c hc
  simp only [codes1, List.mem_cons, List.not_mem_nil, or_false] at hc
  rcases hc with rfl | rfl | rfl | rfl | rfl | rfl | rfl | rfl
  · exact w_c0
  · exact w_c1
  · exact w_c2
  · exact w_c3
  · exact w_c4
  · exact w_c5
  · exact w_c6
  · exact w_c7
set_option maxRecDepth 65536 in
theorem w_t1 : (words1.take 24).all (fun c => isCode c || c.before args0 about1) = true := by decide +kernel
set_option maxRecDepth 65536 in
theorem w_t2 : (words1.drop 24).all (fun c => isCode c || c.before args0 about1) = true := by decide +kernel
theorem w_tables : (allAtoms (Jvm.Cond.code x code maxLocals ret :: tables_1)).before args0 about1 = true := by
  rw [allAtoms_all]
  show words1.all (fun c => c.before args0 about1) = true
  refine all_split ?_ w_codes
  rw [← List.take_append_drop 24 words1, List.all_append, w_t1, w_t2]
  rfl
set_option maxRecDepth 65536 in
theorem w_case : (Jvm.Cond.and given_1 narrow_1).before args0 about1 = true := by decide +kernel
theorem w_applies : (headSpec (Jvm.Cond.code x code maxLocals ret :: tables_1) room_1).applies x e0.platform about1 = true :=
  (Spec.applies_iff w_frames).mpr ⟨w_running, w_runnable, w_alone, w_named, w_hears, w_ripe, w_room, w_tables⟩
theorem atStart : AtStart classFile x code maxLocals ret World_1 tables_1 room_1 Calls_1 rest_1 Pre_1 launch0 p0 e0 about1 theMethod args0 below0 :=
  ⟨lists_1, trivial, launch0.admits_env _ _ _, launch0.least_env, fairChoices_fair.cas, fairChoices_fair.clock, w_frames, w_args, w_heap, w_applies, trivial, trivial, w_case⟩
end start1
theorem witness_1 : WitnessClaimed_1 := ⟨start1.p0, start1.e0, start1.about1, start1.theMethod, start1.args0, start1.below0, start1.atStart⟩
end Jvm.Pilot.@@N@@
