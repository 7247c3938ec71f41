import JvmDerived
import JvmDerived.Pilot.@@N@@Statement
import JvmDerived.Pilot.@@N@@Code
set_option linter.unusedVariables false
set_option linter.unusedSimpArgs false
@@BLOCK:NumsL.lean.txt@@
namespace Jvm.RoadKit
open Sem ClassFile Op Lib Jvm.Stand Jvm.Free Jvm.LawKit
section New
variable {p : Program} {l : Launch} {e : Env} {R : Room} {s : State} {m : MethodId} {args : Array Value} {below : List Frame} {meth : Method} {c : Code} {T : State} {locs : List Loc} {cells slots : Nat}
theorem retI (X : Stand p l e R s m args below meth c T locs cells slots) (hx : p.tables.exec = Jvm.exec) {pc : Nat} {Ls : Array Slot} {z : Int32} {rest : List Value} (hret : meth.sig.returnType = some .int) (hd : decode c.code pc = .ok (.ireturn, 1)) {fs : List Frame}
    (hl : ∀ (f : JFrame) (acts : List Action), f.method = m → f.locked = none → f.entered = [] → (doReturn e (T.setTop f) acts (some (.int z))).1 = T.setFrames fs) : Steps p.tables e below (T.setTop (mkF m pc Ls (.int z :: rest))) (T.setFrames fs) := by
  have hm' : T.vm.method? m = some meth := X.method'
  have hn : narrow .int (.int z) = .int z := rfl
  show Steps p.tables e below (T.setTop { method := m, pc := pc, locals := Ls, stack := _ :: rest, locked := none }) _
  jvm_step X.here [X.here.top, hx, hd, hm', hret, hn]
  first | (intro acts; rw [hl _ acts rfl rfl rfl]) | rw [hl _ _ rfl rfl rfl]
  exact Steps.refl _
end New
/-- the run has come from where P looks on to this frame -/
def Go (p : Program) (e : Env) (below : List Frame) (P : State → Prop) (T : State) (g : JFrame) : Prop := ∀ t, Steps p.tables e below (T.setTop g) t → P t
/-- where roads that move the state meet: one of them has come to this frame (wide: it may have interned) -/
def PosW (p : Program) (l : Launch) (e : Env) (R : Room) (s : State) (m : MethodId) (args : Array Value) (below : List Frame) (meth : Method) (c : Code) (P : State → Prop) (Z : State) (n0 : Nat) (own : String) (EL : List (String × Nat)) (h0 hf : Heap) (ws : List Addr) (cells slots : Nat) (g : JFrame) (K : Heap → Prop) : Prop :=
  ∃ (vm : Vm) (T : State) (locs : List Loc) (k : Nat), Stand p l e R (s.setVm vm) m args below meth c T locs cells slots ∧ Fr n0 locs ∧ Keep hf T.heap ws ∧ s.Since vm k ∧ k ≤ T.heap.size ∧ Z.Warmed39 vm ∧ vm.findClass own = some m.cls ∧ CHr Z EL s.vm h0 vm T.heap ∧ Go p e below P T g ∧ K T.heap
def PosN (p : Program) (l : Launch) (e : Env) (R : Room) (s : State) (m : MethodId) (args : Array Value) (below : List Frame) (meth : Method) (c : Code) (P : State → Prop) (n0 : Nat) (hf : Heap) (ws : List Addr) (cells slots : Nat) (g : JFrame) (K : Heap → Prop) : Prop :=
  ∃ (T : State) (locs : List Loc), Stand p l e R s m args below meth c T locs cells slots ∧ Fr n0 locs ∧ Keep hf T.heap ws ∧ Go p e below P T g ∧ K T.heap
theorem oldLe {Z : State} {n0 : Nat} {h : Heap} (O : Old Z n0 h) : n0 ≤ h.size := O.1 ▸ O.2.1
theorem narrow_ref {t : FieldType} {v : Value} (h : v.isRef = true) : narrow t v = v := by
  rcases ref_cases h with rfl | ⟨_, rfl⟩ <;> cases t <;> rfl
theorem fits_refV {C : String} {v : Value} (h : v.isRef = true) : fits (.object C) v = true := by
  rcases ref_cases h with rfl | ⟨_, rfl⟩ <;> rfl
end Jvm.RoadKit
namespace Jvm.Pilot.@@N@@
open Jvm Jvm.ClassFile Sem Op Lib Jvm.Free Jvm.Stand Jvm.LawKit Jvm.RoadKit Bundle Jvm.Pilot.@@N@@.Jvm.D
theorem eq_int {args : Array Value} {first s : State} {o : Option Outcome} {idx : List Nat} {a b : Term} {x : Value} {z : Int32} (ha : a.eval args first o idx s = some x) (hb : b.eval args first o idx s = some (.int z)) (h : (Jvm.Cond.eq a b).value args first o s idx = some true) : x = .int z := by
  cases x <;> simp [Cond.value, ha, hb] at h ⊢ <;> exact h
theorem nar_b0 : nar .boolean 0 = 0 := by decide
theorem nar_b1 : nar .boolean 1 = 1 := by decide
theorem nar_b8 (x : Int32) : nar .byte (x.toInt8.toInt32) = x.toInt8.toInt32 := by show (x.toInt8.toInt32).toInt8.toInt32 = x.toInt8.toInt32; simp
theorem eq_I {args : Array Value} {first s : State} {o : Option Outcome} {idx : List Nat} {a b : Term} {x y : Int32} (ha : a.eval args first o idx s = some (.int x)) (hb : b.eval args first o idx s = some (.int y)) : (Jvm.Cond.eq a b).value args first o s idx = some (decide (x = y)) := by simp [Cond.value, ha, hb]
def pickW (w0 w1 w2 w3 w4 w5 : Addr) (i : Int32) : Addr := if i = 0 then w0 else if i = 1 then w1 else if i = 2 then w2 else if i = 3 then w3 else if i = 4 then w4 else w5
def scal (a wA wO : Addr) : Int32 := if a = wA then 0 else if a = wO then 0 else 1
theorem i_range (k : Int32) : 0 ≤ ((k &&& 2147483647) % 6).toInt ∧ ((k &&& 2147483647) % 6).toInt < 6 := by
  have e1 : (k &&& 2147483647).toInt = k.toInt % 2 ^ 31 := Jvm.Kit.i32_mask k 2147483647 (k := 31) (by decide) (by decide)
  have e2 : ((k &&& 2147483647) % 6).toInt = (k &&& 2147483647).toInt % (6 : Int32).toInt := Jvm.Kit.i32_rem_nonneg (by rw [e1]; omega)
  have e3 : (6 : Int32).toInt = 6 := by decide
  rw [e3] at e2
  omega
theorem own_low {w0 w1 w2 w3 w4 w5 : Addr} {i : Int32} (h0 : 0 ≤ i.toInt) (h : i < 4) (n0 : w0 ≠ w4) (n1 : w1 ≠ w4) (n2 : w2 ≠ w4) (n3 : w3 ≠ w4) (m0 : w0 ≠ w5) (m1 : w1 ≠ w5) (m2 : w2 ≠ w5) (m3 : w3 ≠ w5) : scal (pickW w0 w1 w2 w3 w4 w5 i) w4 w5 = 1 := by
  have e4 : (4 : Int32).toInt = 4 := by decide
  rw [Int32.lt_iff_toInt_lt, e4] at h
  have c : i = 0 ∨ i = 1 ∨ i = 2 ∨ i = 3 := by
    have q0 : (0 : Int32).toInt = 0 := by decide
    have q1 : (1 : Int32).toInt = 1 := by decide
    have q2 : (2 : Int32).toInt = 2 := by decide
    have q3 : (3 : Int32).toInt = 3 := by decide
    rcases (by omega : i.toInt = 0 ∨ i.toInt = 1 ∨ i.toInt = 2 ∨ i.toInt = 3) with h | h | h | h
    · exact Or.inl (Int32.toInt_inj.mp (h.trans q0.symm))
    · exact Or.inr (Or.inl (Int32.toInt_inj.mp (h.trans q1.symm)))
    · exact Or.inr (Or.inr (Or.inl (Int32.toInt_inj.mp (h.trans q2.symm))))
    · exact Or.inr (Or.inr (Or.inr (Int32.toInt_inj.mp (h.trans q3.symm))))
  rcases c with rfl | rfl | rfl | rfl
  · simp [pickW, scal, n0, m0]
  · simp [pickW, scal, n1, m1]
  · simp [pickW, scal, n2, m2]
  · simp [pickW, scal, n3, m3]
theorem own_high {w0 w1 w2 w3 w4 w5 : Addr} {i : Int32} (h : ¬ i < 4) : scal (pickW w0 w1 w2 w3 w4 w5 i) w4 w5 = 0 := by
  have n0 : i ≠ 0 := fun e => h (by subst e; decide)
  have n1 : i ≠ 1 := fun e => h (by subst e; decide)
  have n2 : i ≠ 2 := fun e => h (by subst e; decide)
  have n3 : i ≠ 3 := fun e => h (by subst e; decide)
  by_cases q : i = 4
  · simp [pickW, scal, n0, n1, n2, n3, q]
  · simp [pickW, scal, n0, n1, n2, n3, q]
theorem pn_30975321 : plainName "com/example/rowset/rowset/model/JsonTypeIsScalarPinLaw" = true := by first | (simp [plainName, overriddenIn]; done) | decide +kernel
theorem ef_pick (m : MethodId) (x0 : Int32) : entryFrame m #[(.int x0)] 1 = mkF m 0 #[.val (.int x0)] [] := by first | (simp [entryFrame, mkF, argsToLocals, Value.category]; done) | rfl
theorem d1_0 : decode method_2_code 0 = .ok (.iload_n 0, 1) := by decide +kernel
theorem d1_1 : decode method_2_code 1 = .ok (.ifCond .ne 7, 3) := by decide +kernel
theorem d1_4 : decode method_2_code 4 = .ok (.getstatic 7, 3) := by decide +kernel
theorem d1_7 : decode method_2_code 7 = .ok (.areturn, 1) := by decide +kernel
theorem d1_8 : decode method_2_code 8 = .ok (.iload_n 0, 1) := by decide +kernel
theorem d1_9 : decode method_2_code 9 = .ok (.iconst 1, 1) := by decide +kernel
theorem d1_10 : decode method_2_code 10 = .ok (.if_icmp .ne 7, 3) := by decide +kernel
theorem d1_13 : decode method_2_code 13 = .ok (.getstatic 13, 3) := by decide +kernel
theorem d1_16 : decode method_2_code 16 = .ok (.areturn, 1) := by decide +kernel
theorem d1_17 : decode method_2_code 17 = .ok (.iload_n 0, 1) := by decide +kernel
theorem d1_18 : decode method_2_code 18 = .ok (.iconst 2, 1) := by decide +kernel
theorem d1_19 : decode method_2_code 19 = .ok (.if_icmp .ne 7, 3) := by decide +kernel
theorem d1_22 : decode method_2_code 22 = .ok (.getstatic 16, 3) := by decide +kernel
theorem d1_25 : decode method_2_code 25 = .ok (.areturn, 1) := by decide +kernel
theorem d1_26 : decode method_2_code 26 = .ok (.iload_n 0, 1) := by decide +kernel
theorem d1_27 : decode method_2_code 27 = .ok (.iconst 3, 1) := by decide +kernel
theorem d1_28 : decode method_2_code 28 = .ok (.if_icmp .ne 7, 3) := by decide +kernel
theorem d1_31 : decode method_2_code 31 = .ok (.getstatic 19, 3) := by decide +kernel
theorem d1_34 : decode method_2_code 34 = .ok (.areturn, 1) := by decide +kernel
theorem d1_35 : decode method_2_code 35 = .ok (.iload_n 0, 1) := by decide +kernel
theorem d1_36 : decode method_2_code 36 = .ok (.iconst 4, 1) := by decide +kernel
theorem d1_37 : decode method_2_code 37 = .ok (.if_icmp .ne 7, 3) := by decide +kernel
theorem d1_40 : decode method_2_code 40 = .ok (.getstatic 22, 3) := by decide +kernel
theorem d1_43 : decode method_2_code 43 = .ok (.areturn, 1) := by decide +kernel
theorem d1_44 : decode method_2_code 44 = .ok (.getstatic 25, 3) := by decide +kernel
theorem d1_47 : decode method_2_code 47 = .ok (.areturn, 1) := by decide +kernel
def Q_pick (Z : State) (i : Int32) (w0 : Addr) (w1 : Addr) (w2 : Addr) (w3 : Addr) (w4 : Addr) (w5 : Addr) (h0 : Heap) (n0 : Nat) (rv_ : Option Value) (rh_ : Heap) (rL_ : List Loc) : Prop := (rv_ = some (.ref (pickW w0 w1 w2 w3 w4 w5 i))) ∧ (Fr n0 rL_) ∧ (rh_ = h0)
set_option maxRecDepth 65536 in
set_option maxHeartbeats 40000000 in
theorem pick (l : Launch) (Z : State) (a0 : Array Value) (hw : ∀ d ∈ tables_1, d.before a0 Z = true) (ws : List Jvm.Cond) (i : Int32) (w0 : Addr) (w1 : Addr) (w2 : Addr) (w3 : Addr) (w4 : Addr) (w5 : Addr) (h0 : Heap) (n0 : Nat) (O0 : Old Z n0 h0) (P0 : Sta Z Z.heap "com/example/rowset/rowset/model/JsonType" "NULL" "Lcom/example/rowset/rowset/model/JsonType;" (.ref w0)) (P1 : Sta Z Z.heap "com/example/rowset/rowset/model/JsonType" "STRING" "Lcom/example/rowset/rowset/model/JsonType;" (.ref w1)) (P2 : Sta Z Z.heap "com/example/rowset/rowset/model/JsonType" "NUMBER" "Lcom/example/rowset/rowset/model/JsonType;" (.ref w2)) (P3 : Sta Z Z.heap "com/example/rowset/rowset/model/JsonType" "BOOLEAN" "Lcom/example/rowset/rowset/model/JsonType;" (.ref w3)) (P4 : Sta Z Z.heap "com/example/rowset/rowset/model/JsonType" "ARRAY" "Lcom/example/rowset/rowset/model/JsonType;" (.ref w4)) (P5 : Sta Z Z.heap "com/example/rowset/rowset/model/JsonType" "OBJECT" "Lcom/example/rowset/rowset/model/JsonType;" (.ref w5)) :
    MetFree l (⟨"com/example/rowset/rowset/model/JsonTypeIsScalarPinLaw", "pick", "(I)Lcom/example/rowset/rowset/model/JsonType;"⟩ : MethodName) (head1 (Jvm.Cond.code (⟨"com/example/rowset/rowset/model/JsonTypeIsScalarPinLaw", "pick", "(I)Lcom/example/rowset/rowset/model/JsonType;"⟩ : MethodName) method_2_code 1 (some (.object "com/example/rowset/rowset/model/JsonType")) :: ws) ({ frames := 0, cells := 0, slots := 0, locals := 0 } : Room)) (fun a_ U_ => a_ = #[(.int i)] ∧ Z.Warmed39 U_.vm ∧ U_.heap = h0) (fun _ _ _ _ _ => True) (fun _ U_ o_ U_' => ∃ v_ L_, o_ = .returned v_ ∧ Q_pick Z i w0 w1 w2 w3 w4 w5 h0 n0 v_ U_'.heap L_ ∧ FrameEnd U_ o_ U_' L_ ({ frames := 0, cells := 0, slots := 0, locals := 0 } : Room).cells ({ frames := 0, cells := 0, slots := 0, locals := 0 } : Room).slots) := by
  refine MetFree.of_bodySF (plainFor_of_name pn_30975321) hisR ?_
  intro p e s m args below meth c s₁ Bd hml0 hP0 hK
  obtain ⟨rfl, hZ, hh⟩ := hP0
  have hx := Bd.exec
  have hby := Bd.bytes
  have hml : c.maxLocals = 1 := hml0
  have hown : s.vm.findClass "com/example/rowset/rowset/model/JsonTypeIsScalarPinLaw" = some m.cls := findClass_of_methodNamed Bd.named
  have hnm := (name_of_methodNamed Bd.named Bd.method).1
  have X0 : Stand p l e ({ frames := 0, cells := 0, slots := 0, locals := 0 } : Room) s m #[(.int i)] below meth c s₁ [] 0 0 := Stand.of_body Bd
  have e0 : s₁.heap = h0 := by rw [← hh, Bd.state]; rfl
  have N0 := Fr.nil n0
  obtain ⟨P, hP, R0⟩ : ∃ P : State → Prop, (∀ t, P t → Steps p.tables e below (s₁.setTop (entryFrame m #[(.int i)] 1)) t) ∧ Go p e below P s₁ (mkF m 0 #[.val (.int i)] []) := ⟨_, fun _ h => h, fun t_ k_ => castTop (ef_pick m i) k_⟩
  have R1 : Go p e below P s₁ (mkF m 1 #[.val (.int i)] [(.int i)]) := fun t_ k_ => R0 t_ (XS.iloadN X0.here hx rfl (hb hby d1_0) rfl k_)
  by_cases hc2 : i = (0 : Int32)
  · have R3 : Go p e below P s₁ (mkF m 4 #[.val (.int i)] []) := fun t_ k_ => R1 t_ (XS.ifNo X0.here hx rfl (hb hby d1_1) rfl ((if0 _ _).trans (teq hc2).2) k_)
    obtain ⟨T4, X4, e4, st4⟩ := getS2 X0 hx hZ hown (host := "") (Or.inl (hw _ (List.mem_of_getElem? (i := 5) rfl))) Via.refl e0 (P0.ext O0.2) (g := (mkF m 4 #[.val (.int i)] [])) rfl (hb hby d1_4)
    have R5 : Go p e below P T4 (mkF m 7 #[.val (.int i)] [(.ref w0)]) := fun t_ k_ => R3 t_ (st4 t_ k_)
    obtain ⟨fs, hr, hrun, hended, hW, hsame⟩ := X4.leave (v := some (.ref w0)) (fun h => by rw [Bd.returns] at h; cases h)
    exact ⟨_, _, hP _ (R5 _ (retOut X4 hx Bd.returns rfl (Or.inr (Or.inr (Or.inr (Or.inr ⟨rfl, rfl, rfl⟩)))) (hb hby d1_7) hr)), hrun, hended, _, _, rfl, ⟨(by simp [pickW, hc2]), N0, e4⟩, ⟨_, rfl⟩, hW, hsame.mono (by decide) (by decide)⟩
  · have R6 : Go p e below P s₁ (mkF m 8 #[.val (.int i)] []) := fun t_ k_ => R1 t_ (XS.ifYes X0.here hx rfl (pc0 := 1) (pc' := 8) rfl (hb hby d1_1) rfl ((if0 _ _).trans (feq hc2).2) (by decide) (by decide) k_)
    have R7 : Go p e below P s₁ (mkF m 9 #[.val (.int i)] [(.int i)]) := fun t_ k_ => R6 t_ (XS.iloadN X0.here hx rfl (hb hby d1_8) rfl k_)
    have R8 : Go p e below P s₁ (mkF m 10 #[.val (.int i)] [(.int (1 : Int32)), (.int i)]) := fun t_ k_ => R7 t_ (XS.iconst X0.here hx rfl (hb hby d1_9) k_)
    by_cases hc9 : i = (1 : Int32)
    · have R10 : Go p e below P s₁ (mkF m 13 #[.val (.int i)] []) := fun t_ k_ => R8 t_ (XS.icmpNo X0.here hx rfl (hb hby d1_10) rfl (teq hc9).2 k_)
      obtain ⟨T11, X11, e11, st11⟩ := getS2 X0 hx hZ hown (host := "") (Or.inl (hw _ (List.mem_of_getElem? (i := 21) rfl))) Via.refl e0 (P1.ext O0.2) (g := (mkF m 13 #[.val (.int i)] [])) rfl (hb hby d1_13)
      have R12 : Go p e below P T11 (mkF m 16 #[.val (.int i)] [(.ref w1)]) := fun t_ k_ => R10 t_ (st11 t_ k_)
      obtain ⟨fs, hr, hrun, hended, hW, hsame⟩ := X11.leave (v := some (.ref w1)) (fun h => by rw [Bd.returns] at h; cases h)
      exact ⟨_, _, hP _ (R12 _ (retOut X11 hx Bd.returns rfl (Or.inr (Or.inr (Or.inr (Or.inr ⟨rfl, rfl, rfl⟩)))) (hb hby d1_16) hr)), hrun, hended, _, _, rfl, ⟨(by simp [pickW, hc2, hc9]), N0, e11⟩, ⟨_, rfl⟩, hW, hsame.mono (by decide) (by decide)⟩
    · have R13 : Go p e below P s₁ (mkF m 17 #[.val (.int i)] []) := fun t_ k_ => R8 t_ (XS.icmpYes X0.here hx rfl (pc0 := 10) (pc' := 17) rfl (hb hby d1_10) rfl (feq hc9).2 (by decide) (by decide) k_)
      have R14 : Go p e below P s₁ (mkF m 18 #[.val (.int i)] [(.int i)]) := fun t_ k_ => R13 t_ (XS.iloadN X0.here hx rfl (hb hby d1_17) rfl k_)
      have R15 : Go p e below P s₁ (mkF m 19 #[.val (.int i)] [(.int (2 : Int32)), (.int i)]) := fun t_ k_ => R14 t_ (XS.iconst X0.here hx rfl (hb hby d1_18) k_)
      by_cases hc16 : i = (2 : Int32)
      · have R17 : Go p e below P s₁ (mkF m 22 #[.val (.int i)] []) := fun t_ k_ => R15 t_ (XS.icmpNo X0.here hx rfl (hb hby d1_19) rfl (teq hc16).2 k_)
        obtain ⟨T18, X18, e18, st18⟩ := getS2 X0 hx hZ hown (host := "") (Or.inl (hw _ (List.mem_of_getElem? (i := 19) rfl))) Via.refl e0 (P2.ext O0.2) (g := (mkF m 22 #[.val (.int i)] [])) rfl (hb hby d1_22)
        have R19 : Go p e below P T18 (mkF m 25 #[.val (.int i)] [(.ref w2)]) := fun t_ k_ => R17 t_ (st18 t_ k_)
        obtain ⟨fs, hr, hrun, hended, hW, hsame⟩ := X18.leave (v := some (.ref w2)) (fun h => by rw [Bd.returns] at h; cases h)
        exact ⟨_, _, hP _ (R19 _ (retOut X18 hx Bd.returns rfl (Or.inr (Or.inr (Or.inr (Or.inr ⟨rfl, rfl, rfl⟩)))) (hb hby d1_25) hr)), hrun, hended, _, _, rfl, ⟨(by simp [pickW, hc2, hc9, hc16]), N0, e18⟩, ⟨_, rfl⟩, hW, hsame.mono (by decide) (by decide)⟩
      · have R20 : Go p e below P s₁ (mkF m 26 #[.val (.int i)] []) := fun t_ k_ => R15 t_ (XS.icmpYes X0.here hx rfl (pc0 := 19) (pc' := 26) rfl (hb hby d1_19) rfl (feq hc16).2 (by decide) (by decide) k_)
        have R21 : Go p e below P s₁ (mkF m 27 #[.val (.int i)] [(.int i)]) := fun t_ k_ => R20 t_ (XS.iloadN X0.here hx rfl (hb hby d1_26) rfl k_)
        have R22 : Go p e below P s₁ (mkF m 28 #[.val (.int i)] [(.int (3 : Int32)), (.int i)]) := fun t_ k_ => R21 t_ (XS.iconst X0.here hx rfl (hb hby d1_27) k_)
        by_cases hc23 : i = (3 : Int32)
        · have R24 : Go p e below P s₁ (mkF m 31 #[.val (.int i)] []) := fun t_ k_ => R22 t_ (XS.icmpNo X0.here hx rfl (hb hby d1_28) rfl (teq hc23).2 k_)
          obtain ⟨T25, X25, e25, st25⟩ := getS2 X0 hx hZ hown (host := "") (Or.inl (hw _ (List.mem_of_getElem? (i := 17) rfl))) Via.refl e0 (P3.ext O0.2) (g := (mkF m 31 #[.val (.int i)] [])) rfl (hb hby d1_31)
          have R26 : Go p e below P T25 (mkF m 34 #[.val (.int i)] [(.ref w3)]) := fun t_ k_ => R24 t_ (st25 t_ k_)
          obtain ⟨fs, hr, hrun, hended, hW, hsame⟩ := X25.leave (v := some (.ref w3)) (fun h => by rw [Bd.returns] at h; cases h)
          exact ⟨_, _, hP _ (R26 _ (retOut X25 hx Bd.returns rfl (Or.inr (Or.inr (Or.inr (Or.inr ⟨rfl, rfl, rfl⟩)))) (hb hby d1_34) hr)), hrun, hended, _, _, rfl, ⟨(by simp [pickW, hc2, hc9, hc16, hc23]), N0, e25⟩, ⟨_, rfl⟩, hW, hsame.mono (by decide) (by decide)⟩
        · have R27 : Go p e below P s₁ (mkF m 35 #[.val (.int i)] []) := fun t_ k_ => R22 t_ (XS.icmpYes X0.here hx rfl (pc0 := 28) (pc' := 35) rfl (hb hby d1_28) rfl (feq hc23).2 (by decide) (by decide) k_)
          have R28 : Go p e below P s₁ (mkF m 36 #[.val (.int i)] [(.int i)]) := fun t_ k_ => R27 t_ (XS.iloadN X0.here hx rfl (hb hby d1_35) rfl k_)
          have R29 : Go p e below P s₁ (mkF m 37 #[.val (.int i)] [(.int (4 : Int32)), (.int i)]) := fun t_ k_ => R28 t_ (XS.iconst X0.here hx rfl (hb hby d1_36) k_)
          by_cases hc30 : i = (4 : Int32)
          · have R31 : Go p e below P s₁ (mkF m 40 #[.val (.int i)] []) := fun t_ k_ => R29 t_ (XS.icmpNo X0.here hx rfl (hb hby d1_37) rfl (teq hc30).2 k_)
            obtain ⟨T32, X32, e32, st32⟩ := getS2 X0 hx hZ hown (host := "") (Or.inl (hw _ (List.mem_of_getElem? (i := 24) rfl))) Via.refl e0 (P4.ext O0.2) (g := (mkF m 40 #[.val (.int i)] [])) rfl (hb hby d1_40)
            have R33 : Go p e below P T32 (mkF m 43 #[.val (.int i)] [(.ref w4)]) := fun t_ k_ => R31 t_ (st32 t_ k_)
            obtain ⟨fs, hr, hrun, hended, hW, hsame⟩ := X32.leave (v := some (.ref w4)) (fun h => by rw [Bd.returns] at h; cases h)
            exact ⟨_, _, hP _ (R33 _ (retOut X32 hx Bd.returns rfl (Or.inr (Or.inr (Or.inr (Or.inr ⟨rfl, rfl, rfl⟩)))) (hb hby d1_43) hr)), hrun, hended, _, _, rfl, ⟨(by simp [pickW, hc2, hc9, hc16, hc23, hc30]), N0, e32⟩, ⟨_, rfl⟩, hW, hsame.mono (by decide) (by decide)⟩
          · have R34 : Go p e below P s₁ (mkF m 44 #[.val (.int i)] []) := fun t_ k_ => R29 t_ (XS.icmpYes X0.here hx rfl (pc0 := 37) (pc' := 44) rfl (hb hby d1_37) rfl (feq hc30).2 (by decide) (by decide) k_)
            obtain ⟨T35, X35, e35, st35⟩ := getS2 X0 hx hZ hown (host := "") (Or.inl (hw _ (List.mem_of_getElem? (i := 23) rfl))) Via.refl e0 (P5.ext O0.2) (g := (mkF m 44 #[.val (.int i)] [])) rfl (hb hby d1_44)
            have R36 : Go p e below P T35 (mkF m 47 #[.val (.int i)] [(.ref w5)]) := fun t_ k_ => R34 t_ (st35 t_ k_)
            obtain ⟨fs, hr, hrun, hended, hW, hsame⟩ := X35.leave (v := some (.ref w5)) (fun h => by rw [Bd.returns] at h; cases h)
            exact ⟨_, _, hP _ (R36 _ (retOut X35 hx Bd.returns rfl (Or.inr (Or.inr (Or.inr (Or.inr ⟨rfl, rfl, rfl⟩)))) (hb hby d1_47) hr)), hrun, hended, _, _, rfl, ⟨(by simp [pickW, hc2, hc9, hc16, hc23, hc30]), N0, e35⟩, ⟨_, rfl⟩, hW, hsame.mono (by decide) (by decide)⟩
theorem pn_90768954 : plainName "com/example/rowset/rowset/model/JsonType" = true := by first | (simp [plainName, overriddenIn]; done) | decide +kernel
theorem ef_isScalar (m : MethodId) (x0 : Addr) : entryFrame m #[(.ref x0)] 1 = mkF m 0 #[.val (.ref x0)] [] := by first | (simp [entryFrame, mkF, argsToLocals, Value.category]; done) | rfl
theorem d2_0 : decode prog_30_method_5_code 0 = .ok (.aload_n 0, 1) := by decide +kernel
theorem d2_1 : decode prog_30_method_5_code 1 = .ok (.getstatic 16, 3) := by decide +kernel
theorem d2_4 : decode prog_30_method_5_code 4 = .ok (.if_acmp .eq 14, 3) := by decide +kernel
theorem d2_18 : decode prog_30_method_5_code 18 = .ok (.iconst 0, 1) := by decide +kernel
theorem d2_19 : decode prog_30_method_5_code 19 = .ok (.ireturn, 1) := by decide +kernel
theorem d2_7 : decode prog_30_method_5_code 7 = .ok (.aload_n 0, 1) := by decide +kernel
theorem d2_8 : decode prog_30_method_5_code 8 = .ok (.getstatic 19, 3) := by decide +kernel
theorem d2_11 : decode prog_30_method_5_code 11 = .ok (.if_acmp .eq 7, 3) := by decide +kernel
theorem d2_14 : decode prog_30_method_5_code 14 = .ok (.iconst 1, 1) := by decide +kernel
theorem d2_15 : decode prog_30_method_5_code 15 = .ok (.goto 4, 3) := by decide +kernel
def Q_isScalar (Z : State) (a : Addr) (wA : Addr) (wO : Addr) (h0 : Heap) (n0 : Nat) (rv_ : Option Value) (rh_ : Heap) (rL_ : List Loc) : Prop := (rv_ = some (.int (scal a wA wO))) ∧ (Fr n0 rL_) ∧ (rh_ = h0)
set_option maxRecDepth 65536 in
set_option maxHeartbeats 40000000 in
theorem isScalar (l : Launch) (Z : State) (a0 : Array Value) (hw : ∀ d ∈ tables_1, d.before a0 Z = true) (ws : List Jvm.Cond) (a : Addr) (wA : Addr) (wO : Addr) (h0 : Heap) (n0 : Nat) (O0 : Old Z n0 h0) (P0 : Sta Z Z.heap "com/example/rowset/rowset/model/JsonType" "ARRAY" "Lcom/example/rowset/rowset/model/JsonType;" (.ref wA)) (P1 : Sta Z Z.heap "com/example/rowset/rowset/model/JsonType" "OBJECT" "Lcom/example/rowset/rowset/model/JsonType;" (.ref wO)) :
    MetFree l (⟨"com/example/rowset/rowset/model/JsonType", "isScalar", "()Z"⟩ : MethodName) (head1 (Jvm.Cond.code (⟨"com/example/rowset/rowset/model/JsonType", "isScalar", "()Z"⟩ : MethodName) prog_30_method_5_code 1 (some .boolean) :: ws) ({ frames := 0, cells := 0, slots := 0, locals := 0 } : Room)) (fun a_ U_ => a_ = #[(.ref a)] ∧ Z.Warmed39 U_.vm ∧ U_.heap = h0) (fun _ _ _ _ _ => True) (fun _ U_ o_ U_' => ∃ v_ L_, o_ = .returned v_ ∧ Q_isScalar Z a wA wO h0 n0 v_ U_'.heap L_ ∧ FrameEnd U_ o_ U_' L_ ({ frames := 0, cells := 0, slots := 0, locals := 0 } : Room).cells ({ frames := 0, cells := 0, slots := 0, locals := 0 } : Room).slots) := by
  refine MetFree.of_bodySF (plainFor_of_name pn_90768954) hisR ?_
  intro p e s m args below meth c s₁ Bd hml0 hP0 hK
  obtain ⟨rfl, hZ, hh⟩ := hP0
  have hx := Bd.exec
  have hby := Bd.bytes
  have hml : c.maxLocals = 1 := hml0
  have hown : s.vm.findClass "com/example/rowset/rowset/model/JsonType" = some m.cls := findClass_of_methodNamed Bd.named
  have hnm := (name_of_methodNamed Bd.named Bd.method).1
  have X0 : Stand p l e ({ frames := 0, cells := 0, slots := 0, locals := 0 } : Room) s m #[(.ref a)] below meth c s₁ [] 0 0 := Stand.of_body Bd
  have e0 : s₁.heap = h0 := by rw [← hh, Bd.state]; rfl
  have N0 := Fr.nil n0
  obtain ⟨P, hP, R0⟩ : ∃ P : State → Prop, (∀ t, P t → Steps p.tables e below (s₁.setTop (entryFrame m #[(.ref a)] 1)) t) ∧ Go p e below P s₁ (mkF m 0 #[.val (.ref a)] []) := ⟨_, fun _ h => h, fun t_ k_ => castTop (ef_isScalar m a) k_⟩
  have R37 : Go p e below P s₁ (mkF m 1 #[.val (.ref a)] [(.ref a)]) := fun t_ k_ => R0 t_ (XS.aloadN X0.here hx rfl (hb hby d2_0) rfl rfl k_)
  obtain ⟨T38, X38, e38, st38⟩ := getS2 X0 hx hZ hown (host := "") (Or.inl (hw _ (List.mem_of_getElem? (i := 13) rfl))) Via.refl e0 (P0.ext O0.2) (g := (mkF m 1 #[.val (.ref a)] [(.ref a)])) rfl (hb hby d2_1)
  have R39 : Go p e below P T38 (mkF m 4 #[.val (.ref a)] [(.ref wA), (.ref a)]) := fun t_ k_ => R37 t_ (st38 t_ k_)
  by_cases hc40 : a = wA
  · have R41 : Go p e below P T38 (mkF m 18 #[.val (.ref a)] []) := fun t_ k_ => R39 t_ (Jvm.RoadKit.acmp (g := (mkF m 4 #[.val (.ref a)] [(.ref wA), (.ref a)])) X38 hx rfl rfl rfl (pc0 := 4) (pc' := 18) (same := true) rfl (hb hby d2_4) rfl (decide_eq_true (congrArg Value.ref hc40)) (by decide) (by decide) k_)
    have R42 : Go p e below P T38 (mkF m 19 #[.val (.ref a)] [(.int (0 : Int32))]) := fun t_ k_ => R41 t_ (XS.iconst X38.here hx rfl (hb hby d2_18) k_)
    obtain ⟨fs, hr, hrun, hended, hW, hsame⟩ := X38.leave (v := some (.int (nar .boolean (0 : Int32)))) (fun h => by rw [Bd.returns] at h; cases h)
    exact ⟨_, _, hP _ (R42 _ (retN X38 hx (t := .boolean) Bd.returns (by simp) (hb hby d2_19) hr)), hrun, hended, _, _, rfl, ⟨(by simp [scal, nar_b0, nar_b1, hc40]), N0, e38⟩, ⟨_, rfl⟩, hW, hsame.mono (by decide) (by decide)⟩
  · have R43 : Go p e below P T38 (mkF m 7 #[.val (.ref a)] []) := fun t_ k_ => R39 t_ (Jvm.RoadKit.acmp (g := (mkF m 4 #[.val (.ref a)] [(.ref wA), (.ref a)])) X38 hx rfl rfl rfl (pc0 := 4) (pc' := 7) (same := false) rfl (hb hby d2_4) rfl (decide_eq_false fun q => hc40 (Value.ref.inj q)) (by decide) (by decide) k_)
    have R44 : Go p e below P T38 (mkF m 8 #[.val (.ref a)] [(.ref a)]) := fun t_ k_ => R43 t_ (XS.aloadN X38.here hx rfl (hb hby d2_7) rfl rfl k_)
    obtain ⟨T45, X45, e45, st45⟩ := getS2 X38 hx hZ hown (host := "") (Or.inl (hw _ (List.mem_of_getElem? (i := 15) rfl))) Via.refl e38 (P1.ext O0.2) (g := (mkF m 8 #[.val (.ref a)] [(.ref a)])) rfl (hb hby d2_8)
    have R46 : Go p e below P T45 (mkF m 11 #[.val (.ref a)] [(.ref wO), (.ref a)]) := fun t_ k_ => R44 t_ (st45 t_ k_)
    by_cases hc47 : a = wO
    · have R48 : Go p e below P T45 (mkF m 18 #[.val (.ref a)] []) := fun t_ k_ => R46 t_ (Jvm.RoadKit.acmp (g := (mkF m 11 #[.val (.ref a)] [(.ref wO), (.ref a)])) X45 hx rfl rfl rfl (pc0 := 11) (pc' := 18) (same := true) rfl (hb hby d2_11) rfl (decide_eq_true (congrArg Value.ref hc47)) (by decide) (by decide) k_)
      have R49 : Go p e below P T45 (mkF m 19 #[.val (.ref a)] [(.int (0 : Int32))]) := fun t_ k_ => R48 t_ (XS.iconst X45.here hx rfl (hb hby d2_18) k_)
      obtain ⟨fs, hr, hrun, hended, hW, hsame⟩ := X45.leave (v := some (.int (nar .boolean (0 : Int32)))) (fun h => by rw [Bd.returns] at h; cases h)
      exact ⟨_, _, hP _ (R49 _ (retN X45 hx (t := .boolean) Bd.returns (by simp) (hb hby d2_19) hr)), hrun, hended, _, _, rfl, ⟨(by simp [scal, nar_b0, nar_b1, hc40, hc47]), N0, e45⟩, ⟨_, rfl⟩, hW, hsame.mono (by decide) (by decide)⟩
    · have R50 : Go p e below P T45 (mkF m 14 #[.val (.ref a)] []) := fun t_ k_ => R46 t_ (Jvm.RoadKit.acmp (g := (mkF m 11 #[.val (.ref a)] [(.ref wO), (.ref a)])) X45 hx rfl rfl rfl (pc0 := 11) (pc' := 14) (same := false) rfl (hb hby d2_11) rfl (decide_eq_false fun q => hc47 (Value.ref.inj q)) (by decide) (by decide) k_)
      have R51 : Go p e below P T45 (mkF m 15 #[.val (.ref a)] [(.int (1 : Int32))]) := fun t_ k_ => R50 t_ (XS.iconst X45.here hx rfl (hb hby d2_14) k_)
      have R52 : Go p e below P T45 (mkF m 19 #[.val (.ref a)] [(.int (1 : Int32))]) := fun t_ k_ => R51 t_ (XS.goto X45.here hx rfl (pc0 := 15) (pc' := 19) rfl (hb hby d2_15) (by decide) (by decide) k_)
      obtain ⟨fs, hr, hrun, hended, hW, hsame⟩ := X45.leave (v := some (.int (nar .boolean (1 : Int32)))) (fun h => by rw [Bd.returns] at h; cases h)
      exact ⟨_, _, hP _ (R52 _ (retN X45 hx (t := .boolean) Bd.returns (by simp) (hb hby d2_19) hr)), hrun, hended, _, _, rfl, ⟨(by simp [scal, nar_b0, nar_b1, hc40, hc47]), N0, e45⟩, ⟨_, rfl⟩, hW, hsame.mono (by decide) (by decide)⟩
theorem ef_law_ (m : MethodId) (x0 : Int32) : entryFrame m #[(.int x0)] maxLocals = mkF m 0 #[.val (.int x0), .unset, .unset, .unset] [] := by first | (simp [entryFrame, mkF, argsToLocals, Value.category, maxLocals]; done) | rfl
theorem pd_22640297 : parseMethodDescriptor "(I)Lcom/example/rowset/rowset/model/JsonType;" = some ⟨[.int], some (.object "com/example/rowset/rowset/model/JsonType")⟩ := by decide +kernel
theorem pd_16428538 : parseMethodDescriptor "()Z" = some ⟨[], some .boolean⟩ := by decide +kernel
def Q_law_ (Z : State) (k : Int32) (w0 : Addr) (w1 : Addr) (w2 : Addr) (w3 : Addr) (w4 : Addr) (w5 : Addr) (h0 : Heap) (n0 : Nat) (rv_ : Option Value) (rh_ : Heap) (rL_ : List Loc) : Prop := (rv_ = some (.int (1 : Int32))) ∧ (Fr n0 rL_) ∧ (rh_ = h0)
set_option maxRecDepth 65536 in
set_option maxHeartbeats 40000000 in
theorem law_ (l : Launch) (Z : State) (a0 : Array Value) (hw : ∀ d ∈ tables_1, d.before a0 Z = true) (ws : List Jvm.Cond) (k : Int32) (w0 : Addr) (w1 : Addr) (w2 : Addr) (w3 : Addr) (w4 : Addr) (w5 : Addr) (h0 : Heap) (n0 : Nat) (O0 : Old Z n0 h0) (P0 : Sta Z Z.heap "com/example/rowset/rowset/model/JsonType" "NULL" "Lcom/example/rowset/rowset/model/JsonType;" (.ref w0)) (P1 : Sta Z Z.heap "com/example/rowset/rowset/model/JsonType" "STRING" "Lcom/example/rowset/rowset/model/JsonType;" (.ref w1)) (P2 : Sta Z Z.heap "com/example/rowset/rowset/model/JsonType" "NUMBER" "Lcom/example/rowset/rowset/model/JsonType;" (.ref w2)) (P3 : Sta Z Z.heap "com/example/rowset/rowset/model/JsonType" "BOOLEAN" "Lcom/example/rowset/rowset/model/JsonType;" (.ref w3)) (P4 : Sta Z Z.heap "com/example/rowset/rowset/model/JsonType" "ARRAY" "Lcom/example/rowset/rowset/model/JsonType;" (.ref w4)) (P5 : Sta Z Z.heap "com/example/rowset/rowset/model/JsonType" "OBJECT" "Lcom/example/rowset/rowset/model/JsonType;" (.ref w5)) (P6 : Exa Z Z.heap w0 "com/example/rowset/rowset/model/JsonType") (P7 : Exa Z Z.heap w1 "com/example/rowset/rowset/model/JsonType") (P8 : Exa Z Z.heap w2 "com/example/rowset/rowset/model/JsonType") (P9 : Exa Z Z.heap w3 "com/example/rowset/rowset/model/JsonType") (P10 : Exa Z Z.heap w4 "com/example/rowset/rowset/model/JsonType") (P11 : Exa Z Z.heap w5 "com/example/rowset/rowset/model/JsonType") (P12 : w0 ≠ w4) (P13 : w1 ≠ w4) (P14 : w2 ≠ w4) (P15 : w3 ≠ w4) (P16 : w0 ≠ w5) (P17 : w1 ≠ w5) (P18 : w2 ≠ w5) (P19 : w3 ≠ w5) :
    MetFree l x (head1 (Jvm.Cond.code x code maxLocals ret :: ws) room_1) (fun a_ U_ => a_ = #[(.int k)] ∧ Z.Warmed39 U_.vm ∧ U_.heap = h0) (fun _ _ _ _ _ => True) (fun _ U_ o_ U_' => ∃ v_ L_, o_ = .returned v_ ∧ Q_law_ Z k w0 w1 w2 w3 w4 w5 h0 n0 v_ U_'.heap L_ ∧ FrameEnd U_ o_ U_' L_ room_1.cells room_1.slots) := by
  refine MetFree.of_bodySF (plainFor_of_name pn_30975321) hisR ?_
  intro p e s m args below meth c s₁ Bd hml0 hP0 hK
  obtain ⟨rfl, hZ, hh⟩ := hP0
  have hx := Bd.exec
  have hby := Bd.bytes
  have hml : c.maxLocals = 4 := hml0
  have hown : s.vm.findClass "com/example/rowset/rowset/model/JsonTypeIsScalarPinLaw" = some m.cls := findClass_of_methodNamed Bd.named
  have hnm := (name_of_methodNamed Bd.named Bd.method).1
  have X0 : Stand p l e room_1 s m #[(.int k)] below meth c s₁ [] 0 0 := Stand.of_body Bd
  have e0 : s₁.heap = h0 := by rw [← hh, Bd.state]; rfl
  have N0 := Fr.nil n0
  obtain ⟨P, hP, R0⟩ : ∃ P : State → Prop, (∀ t, P t → Steps p.tables e below (s₁.setTop (entryFrame m #[(.int k)] maxLocals)) t) ∧ Go p e below P s₁ (mkF m 0 #[.val (.int k), .unset, .unset, .unset] []) := ⟨_, fun _ h => h, fun t_ k_ => castTop (ef_law_ m k) k_⟩
  have R53 : Go p e below P s₁ (mkF m 1 #[.val (.int k), .unset, .unset, .unset] [(.int k)]) := fun t_ k_ => R0 t_ (XS.iloadN X0.here hx rfl (hb hby at_0) rfl k_)
  have R54 : Go p e below P s₁ (mkF m 3 #[.val (.int k), .unset, .unset, .unset] [(.int (2147483647 : Int32)), (.int k)]) := fun t_ k_ => R53 t_ (X0.ldcInt hx hown (mvT hZ (hw _ (List.mem_of_getElem? (i := 0) rfl))) (g := (mkF m 1 #[.val (.int k), .unset, .unset, .unset] [(.int k)])) rfl (hb hby at_1) _ k_)
  have R55 : Go p e below P s₁ (mkF m 4 #[.val (.int k), .unset, .unset, .unset] [(.int (k &&& (2147483647 : Int32)))]) := fun t_ k_ => R54 t_ (XS.iand X0.here hx rfl (hb hby at_3) rfl k_)
  have R56 : Go p e below P s₁ (mkF m 6 #[.val (.int k), .unset, .unset, .unset] [(.int (6 : Int32)), (.int (k &&& (2147483647 : Int32)))]) := fun t_ k_ => R55 t_ (XS.bipush X0.here hx rfl (hb hby at_4) k_)
  have R57 : Go p e below P s₁ (mkF m 7 #[.val (.int k), .unset, .unset, .unset] [(.int ((k &&& (2147483647 : Int32)) % (6 : Int32)))]) := fun t_ k_ => R56 t_ (iremM X0 hx rfl (hb hby at_6) rfl (by decide) k_)
  obtain ⟨i, hi⟩ : ∃ z : Int32, z = ((k &&& (2147483647 : Int32)) % (6 : Int32)) := ⟨_, rfl⟩
  have R58 : Go p e below P s₁ (mkF m 7 #[.val (.int k), .unset, .unset, .unset] [(.int i)]) := by rw [hi]; exact R57
  have hi0 : 0 ≤ i.toInt := by rw [hi]; exact (i_range k).1
  have R59 : Go p e below P s₁ (mkF m 8 #[.val (.int k), .val (.int i), .unset, .unset] []) := fun t_ k_ => R58 t_ (XS.istoreN X0.here hx rfl (hb hby at_7) rfl (l' := #[.val (.int k), .val (.int i), .unset, .unset]) rfl k_)
  have R60 : Go p e below P s₁ (mkF m 9 #[.val (.int k), .val (.int i), .unset, .unset] [(.int i)]) := fun t_ k_ => R59 t_ (XS.iloadN X0.here hx rfl (hb hby at_8) rfl k_)
  obtain ⟨_, _, ⟨T61, L61, k61, n61⟩, -, X61, ⟨Lc61, hQ61, l61, y61, z61⟩, st61⟩ := Jvm.LawKit.callS X0 hx (y := (⟨"com/example/rowset/rowset/model/JsonTypeIsScalarPinLaw", "pick", "(I)Lcom/example/rowset/rowset/model/JsonType;"⟩ : MethodName)) hown (mvT hZ (hw _ (List.mem_of_getElem? (i := 1) rfl))) (mvT hZ (hw _ (List.mem_of_getElem? (i := 2) rfl))) (mvT hZ (hw _ (List.mem_of_getElem? (i := 3) rfl))) (mvT hZ (hw _ (List.mem_of_getElem? (i := 4) rfl))) (by decide) (backOf (W := 0) (pick l Z a0 hw [] i w0 w1 w2 w3 w4 w5 h0 n0 O0 P0 P1 P2 P3 P4 P5) hZ (hw _ (List.mem_of_getElem? (i := 4) rfl)) (hw _ (List.mem_of_getElem? (i := 3) rfl)) (by decide) (by decide)) (g := (mkF m 9 #[.val (.int k), .val (.int i), .unset, .unset] [(.int i)])) rfl (by rw [hml]; rfl) (argsL := [(.int i)]) (rest := []) (lenOf pd_22640297 rfl) rfl (by show 2 * 0 + _ ≤ _; exact Nat.le_of_eq rfl) (hb hby at_9) (fun _ _ => ⟨rfl, e0, (by decide : 0 + 0 ≤ _), (by decide : 0 + 0 ≤ _)⟩)
  dsimp only [Pt.U, Pt.locs, Pt.cells, Pt.slots] at X61 l61 y61 z61 st61 hQ61
  subst l61 y61 z61
  obtain ⟨rfl, N61q, K61⟩ := hQ61
  have N61 := Fr.app N0 N61q
  have R62 : Go p e below P T61 (mkF m 12 #[.val (.int k), .val (.int i), .unset, .unset] [(.ref (pickW w0 w1 w2 w3 w4 w5 i))]) := fun t_ k_ => R60 t_ (st61 t_ k_)
  have R63 : Go p e below P T61 (mkF m 13 #[.val (.int k), .val (.int i), .val (.ref (pickW w0 w1 w2 w3 w4 w5 i)), .unset] []) := fun t_ k_ => R62 t_ (XS.astoreN X61.here hx rfl (hb hby at_12) rfl rfl (l' := #[.val (.int k), .val (.int i), .val (.ref (pickW w0 w1 w2 w3 w4 w5 i)), .unset]) rfl k_)
  have Ep : Exa Z Z.heap (pickW w0 w1 w2 w3 w4 w5 i) "com/example/rowset/rowset/model/JsonType" := by unfold pickW; (repeat' split) <;> assumption
  have R64 : Go p e below P T61 (mkF m 14 #[.val (.int k), .val (.int i), .val (.ref (pickW w0 w1 w2 w3 w4 w5 i)), .unset] [(.int i)]) := fun t_ k_ => R63 t_ (XS.iloadN X61.here hx rfl (hb hby at_13) rfl k_)
  have R65 : Go p e below P T61 (mkF m 15 #[.val (.int k), .val (.int i), .val (.ref (pickW w0 w1 w2 w3 w4 w5 i)), .unset] [(.int (4 : Int32)), (.int i)]) := fun t_ k_ => R64 t_ (XS.iconst X61.here hx rfl (hb hby at_14) k_)
  by_cases hc66 : i < (4 : Int32)
  · have R67 : Go p e below P T61 (mkF m 18 #[.val (.int k), .val (.int i), .val (.ref (pickW w0 w1 w2 w3 w4 w5 i)), .unset] []) := fun t_ k_ => R65 t_ (XS.icmpNo X61.here hx rfl (hb hby at_15) rfl (tlt hc66).2.1 k_)
    have R68 : Go p e below P T61 (mkF m 19 #[.val (.int k), .val (.int i), .val (.ref (pickW w0 w1 w2 w3 w4 w5 i)), .unset] [(.int (1 : Int32))]) := fun t_ k_ => R67 t_ (XS.iconst X61.here hx rfl (hb hby at_18) k_)
    have R69 : Go p e below P T61 (mkF m 23 #[.val (.int k), .val (.int i), .val (.ref (pickW w0 w1 w2 w3 w4 w5 i)), .unset] [(.int (1 : Int32))]) := fun t_ k_ => R68 t_ (XS.goto X61.here hx rfl (pc0 := 19) (pc' := 23) rfl (hb hby at_19) (by decide) (by decide) k_)
    have R70 : Go p e below P T61 (mkF m 24 #[.val (.int k), .val (.int i), .val (.ref (pickW w0 w1 w2 w3 w4 w5 i)), .val (.int (1 : Int32))] []) := fun t_ k_ => R69 t_ (XS.istoreN X61.here hx rfl (hb hby at_23) rfl (l' := #[.val (.int k), .val (.int i), .val (.ref (pickW w0 w1 w2 w3 w4 w5 i)), .val (.int (1 : Int32))]) rfl k_)
    have R71 : Go p e below P T61 (mkF m 25 #[.val (.int k), .val (.int i), .val (.ref (pickW w0 w1 w2 w3 w4 w5 i)), .val (.int (1 : Int32))] [(.ref (pickW w0 w1 w2 w3 w4 w5 i))]) := fun t_ k_ => R70 t_ (XS.aloadN X61.here hx rfl (hb hby at_24) rfl rfl k_)
    obtain ⟨cq72, kq72, q72a, q72b, q72c⟩ := isOf hZ K61 (Ep.ext O0.2)
    obtain ⟨_, _, ⟨T72, L72, k72, n72⟩, -, X72, ⟨Lc72, hQ72, l72, y72, z72⟩, st72⟩ := X61.virtualBack hx (y := (⟨"com/example/rowset/rowset/model/JsonType", "isScalar", "()Z"⟩ : MethodName)) (z := (⟨"com/example/rowset/rowset/model/JsonType", "isScalar", "()Z"⟩ : MethodName)) hown (mvT hZ (hw _ (List.mem_of_getElem? (i := 8) rfl))) (mvT hZ (hw _ (List.mem_of_getElem? (i := 9) rfl))) (notFace_of_selects (args := #[]) (mvT hZ (hw _ (List.mem_of_getElem? (i := 11) rfl)))) (mvT hZ (hw _ (List.mem_of_getElem? (i := 11) rfl))) (mvT hZ (hw _ (List.mem_of_getElem? (i := 10) rfl))) (by decide) (backOf (W := 0) (isScalar l Z a0 hw [] (pickW w0 w1 w2 w3 w4 w5 i) w4 w5 h0 n0 O0 P4 P5) hZ (hw _ (List.mem_of_getElem? (i := 12) rfl)) (hw _ (List.mem_of_getElem? (i := 6) rfl)) (by decide) (by decide)) q72a q72c (g := (mkF m 25 #[.val (.int k), .val (.int i), .val (.ref (pickW w0 w1 w2 w3 w4 w5 i)), .val (.int (1 : Int32))] [(.ref (pickW w0 w1 w2 w3 w4 w5 i))])) rfl (by rw [hml]; rfl) (Steps.refl _) (argsL := []) (rest := []) (lenOf pd_16428538 rfl) rfl (by show 2 * 0 + _ ≤ _; exact Nat.le_of_eq rfl) (hb hby at_25) (fun _ _ => ⟨rfl, K61, (by decide : 0 + 0 ≤ _), (by decide : 0 + 0 ≤ _)⟩)
    dsimp only [Pt.U, Pt.locs, Pt.cells, Pt.slots] at X72 l72 y72 z72 st72 hQ72
    subst l72 y72 z72
    obtain ⟨rfl, N72q, K72⟩ := hQ72
    have N72 := Fr.app N61 N72q
    have R73 : Go p e below P T72 (mkF m 28 #[.val (.int k), .val (.int i), .val (.ref (pickW w0 w1 w2 w3 w4 w5 i)), .val (.int (1 : Int32))] [(.int (scal (pickW w0 w1 w2 w3 w4 w5 i) w4 w5))]) := fun t_ k_ => R71 t_ (st72.trans k_)
    have R74 : Go p e below P T72 (mkF m 29 #[.val (.int k), .val (.int i), .val (.ref (pickW w0 w1 w2 w3 w4 w5 i)), .val (.int (1 : Int32))] [(.int (1 : Int32)), (.int (scal (pickW w0 w1 w2 w3 w4 w5 i) w4 w5))]) := fun t_ k_ => R73 t_ (XS.iloadN X72.here hx rfl (hb hby at_28) rfl k_)
    have R75 : Go p e below P T72 (mkF m 32 #[.val (.int k), .val (.int i), .val (.ref (pickW w0 w1 w2 w3 w4 w5 i)), .val (.int (1 : Int32))] []) := fun t_ k_ => R74 t_ (XS.icmpNo X72.here hx rfl (hb hby at_29) rfl (teq (own_low hi0 hc66 P12 P13 P14 P15 P16 P17 P18 P19)).2 k_)
    have R76 : Go p e below P T72 (mkF m 33 #[.val (.int k), .val (.int i), .val (.ref (pickW w0 w1 w2 w3 w4 w5 i)), .val (.int (1 : Int32))] [(.int (1 : Int32))]) := fun t_ k_ => R75 t_ (XS.iconst X72.here hx rfl (hb hby at_32) k_)
    have R77 : Go p e below P T72 (mkF m 37 #[.val (.int k), .val (.int i), .val (.ref (pickW w0 w1 w2 w3 w4 w5 i)), .val (.int (1 : Int32))] [(.int (1 : Int32))]) := fun t_ k_ => R76 t_ (XS.goto X72.here hx rfl (pc0 := 33) (pc' := 37) rfl (hb hby at_33) (by decide) (by decide) k_)
    obtain ⟨fs, hr, hrun, hended, hW, hsame⟩ := X72.leave (v := some (.int (nar .boolean (1 : Int32)))) (fun h => by rw [Bd.returns] at h; cases h)
    exact ⟨_, _, hP _ (R77 _ (retN X72 hx (t := .boolean) Bd.returns (by simp) (hb hby at_37) hr)), hrun, hended, _, _, rfl, ⟨rfl, N72, K72⟩, ⟨_, rfl⟩, hW, hsame.mono (by decide) (by decide)⟩
  · have R78 : Go p e below P T61 (mkF m 22 #[.val (.int k), .val (.int i), .val (.ref (pickW w0 w1 w2 w3 w4 w5 i)), .unset] []) := fun t_ k_ => R65 t_ (XS.icmpYes X61.here hx rfl (pc0 := 15) (pc' := 22) rfl (hb hby at_15) rfl (flt hc66).2.1 (by decide) (by decide) k_)
    have R79 : Go p e below P T61 (mkF m 23 #[.val (.int k), .val (.int i), .val (.ref (pickW w0 w1 w2 w3 w4 w5 i)), .unset] [(.int (0 : Int32))]) := fun t_ k_ => R78 t_ (XS.iconst X61.here hx rfl (hb hby at_22) k_)
    have R80 : Go p e below P T61 (mkF m 24 #[.val (.int k), .val (.int i), .val (.ref (pickW w0 w1 w2 w3 w4 w5 i)), .val (.int (0 : Int32))] []) := fun t_ k_ => R79 t_ (XS.istoreN X61.here hx rfl (hb hby at_23) rfl (l' := #[.val (.int k), .val (.int i), .val (.ref (pickW w0 w1 w2 w3 w4 w5 i)), .val (.int (0 : Int32))]) rfl k_)
    have R81 : Go p e below P T61 (mkF m 25 #[.val (.int k), .val (.int i), .val (.ref (pickW w0 w1 w2 w3 w4 w5 i)), .val (.int (0 : Int32))] [(.ref (pickW w0 w1 w2 w3 w4 w5 i))]) := fun t_ k_ => R80 t_ (XS.aloadN X61.here hx rfl (hb hby at_24) rfl rfl k_)
    obtain ⟨cq82, kq82, q82a, q82b, q82c⟩ := isOf hZ K61 (Ep.ext O0.2)
    obtain ⟨_, _, ⟨T82, L82, k82, n82⟩, -, X82, ⟨Lc82, hQ82, l82, y82, z82⟩, st82⟩ := X61.virtualBack hx (y := (⟨"com/example/rowset/rowset/model/JsonType", "isScalar", "()Z"⟩ : MethodName)) (z := (⟨"com/example/rowset/rowset/model/JsonType", "isScalar", "()Z"⟩ : MethodName)) hown (mvT hZ (hw _ (List.mem_of_getElem? (i := 8) rfl))) (mvT hZ (hw _ (List.mem_of_getElem? (i := 9) rfl))) (notFace_of_selects (args := #[]) (mvT hZ (hw _ (List.mem_of_getElem? (i := 11) rfl)))) (mvT hZ (hw _ (List.mem_of_getElem? (i := 11) rfl))) (mvT hZ (hw _ (List.mem_of_getElem? (i := 10) rfl))) (by decide) (backOf (W := 0) (isScalar l Z a0 hw [] (pickW w0 w1 w2 w3 w4 w5 i) w4 w5 h0 n0 O0 P4 P5) hZ (hw _ (List.mem_of_getElem? (i := 12) rfl)) (hw _ (List.mem_of_getElem? (i := 6) rfl)) (by decide) (by decide)) q82a q82c (g := (mkF m 25 #[.val (.int k), .val (.int i), .val (.ref (pickW w0 w1 w2 w3 w4 w5 i)), .val (.int (0 : Int32))] [(.ref (pickW w0 w1 w2 w3 w4 w5 i))])) rfl (by rw [hml]; rfl) (Steps.refl _) (argsL := []) (rest := []) (lenOf pd_16428538 rfl) rfl (by show 2 * 0 + _ ≤ _; exact Nat.le_of_eq rfl) (hb hby at_25) (fun _ _ => ⟨rfl, K61, (by decide : 0 + 0 ≤ _), (by decide : 0 + 0 ≤ _)⟩)
    dsimp only [Pt.U, Pt.locs, Pt.cells, Pt.slots] at X82 l82 y82 z82 st82 hQ82
    subst l82 y82 z82
    obtain ⟨rfl, N82q, K82⟩ := hQ82
    have N82 := Fr.app N61 N82q
    have R83 : Go p e below P T82 (mkF m 28 #[.val (.int k), .val (.int i), .val (.ref (pickW w0 w1 w2 w3 w4 w5 i)), .val (.int (0 : Int32))] [(.int (scal (pickW w0 w1 w2 w3 w4 w5 i) w4 w5))]) := fun t_ k_ => R81 t_ (st82.trans k_)
    have R84 : Go p e below P T82 (mkF m 29 #[.val (.int k), .val (.int i), .val (.ref (pickW w0 w1 w2 w3 w4 w5 i)), .val (.int (0 : Int32))] [(.int (0 : Int32)), (.int (scal (pickW w0 w1 w2 w3 w4 w5 i) w4 w5))]) := fun t_ k_ => R83 t_ (XS.iloadN X82.here hx rfl (hb hby at_28) rfl k_)
    have R85 : Go p e below P T82 (mkF m 32 #[.val (.int k), .val (.int i), .val (.ref (pickW w0 w1 w2 w3 w4 w5 i)), .val (.int (0 : Int32))] []) := fun t_ k_ => R84 t_ (XS.icmpNo X82.here hx rfl (hb hby at_29) rfl (teq (own_high hc66)).2 k_)
    have R86 : Go p e below P T82 (mkF m 33 #[.val (.int k), .val (.int i), .val (.ref (pickW w0 w1 w2 w3 w4 w5 i)), .val (.int (0 : Int32))] [(.int (1 : Int32))]) := fun t_ k_ => R85 t_ (XS.iconst X82.here hx rfl (hb hby at_32) k_)
    have R87 : Go p e below P T82 (mkF m 37 #[.val (.int k), .val (.int i), .val (.ref (pickW w0 w1 w2 w3 w4 w5 i)), .val (.int (0 : Int32))] [(.int (1 : Int32))]) := fun t_ k_ => R86 t_ (XS.goto X82.here hx rfl (pc0 := 33) (pc' := 37) rfl (hb hby at_33) (by decide) (by decide) k_)
    obtain ⟨fs, hr, hrun, hended, hW, hsame⟩ := X82.leave (v := some (.int (nar .boolean (1 : Int32)))) (fun h => by rw [Bd.returns] at h; cases h)
    exact ⟨_, _, hP _ (R87 _ (retN X82 hx (t := .boolean) Bd.returns (by simp) (hb hby at_37) hr)), hrun, hended, _, _, rfl, ⟨rfl, N82, K82⟩, ⟨_, rfl⟩, hW, hsame.mono (by decide) (by decide)⟩
set_option maxRecDepth 65536 in
set_option maxHeartbeats 40000000 in
theorem comes_1 {Post : Tables → Env → Array Value → State → Outcome → State → Prop} (hpost : ∀ tb e args s v u, (limb_1_1.after args s (.returned v) u = true ∧ limb_1_2.after args s (.returned v) u = true ∧ True) → FrameEnd s (.returned v) u (Jvm.fieldLocs frame_1_writes args s ++ Jvm.arrayLocs frame_1_arrays args s ++ Jvm.staticLocs frame_1_statics s) 0 0 → Post tb e args s (.returned v) u) :
    ArmFor flags0 classFile x code maxLocals ret World_1 tables_1 room_1 Calls_1 rest_1 Pre_1 Post := by
  intro l hfl _ _ p e ha hc hk s m args below hf hA hF happ hP
  obtain ⟨hcalls, hrest, hpre⟩ := hP
  obtain ⟨-, -, -, hnamed, -, -, -, hat⟩ := (Spec.applies_iff hf).mp happ
  obtain ⟨hg, hn⟩ := and_e (Cond.before_iff.mp (show (Jvm.Cond.and given_1 narrow_1).before args s = true from hpre))
  obtain ⟨g1, g2⟩ := and_e hg
  obtain ⟨w0, rfl⟩ : ∃ w0 : Value, args = #[w0] := by
    have hs : args.size = 1 := by simpa [Cond.value, given_1] using g1
    obtain ⟨L⟩ := args
    match L, hs with
    | [w0], _ => exact ⟨w0, rfl⟩
  have hw := fun d (hd : d ∈ tables_1) => atoms_spec (ws := Jvm.Cond.code x code maxLocals ret :: tables_1) hat d (List.mem_cons_of_mem _ hd)
  have hfit : Fit s := fun {y c} hc i hi => by
    obtain ⟨ha, rfl⟩ := Array.getElem?_eq_some_iff.mp hc
    have q := List.all_eq_true.mp ((Array.all_eq_true_iff_forall_mem.mp hF) _ (Array.getElem_mem ha)) i (List.mem_range.mpr hi)
    simpa [Array.getElem?_eq_getElem hi] using q
  obtain ⟨i0, ei0⟩ := is_v g2
  obtain rfl : w0 = (.int i0) := Option.some.inj ei0
  obtain ⟨g3, g4⟩ := and_e hn
  obtain ⟨g5, g6⟩ := and_e g4
  obtain ⟨g7, g8⟩ := and_e g6
  obtain ⟨g9, g10⟩ := and_e g8
  obtain ⟨g11, g12⟩ := and_e g10
  obtain ⟨g13, g14⟩ := and_e g12
  obtain ⟨g15, g16⟩ := and_e g14
  obtain ⟨g17, g18⟩ := and_e g16
  obtain ⟨g19, g20⟩ := and_e g18
  obtain ⟨g21, g22⟩ := and_e g20
  obtain ⟨g23, g24⟩ := and_e g22
  obtain ⟨w_NULL, ev_NULL⟩ := exa_v g3
  have S_NULL := Sta.start ev_NULL (Or.inr ⟨(hw _ (List.mem_of_getElem? (i := 6) rfl)), (hw _ (List.mem_of_getElem? (i := 7) rfl))⟩)
  have E_NULL := Exa.start ev_NULL g3
  obtain ⟨w_ARRAY, ev_ARRAY⟩ := exa_v g5
  have S_ARRAY := Sta.start ev_ARRAY (Or.inr ⟨(hw _ (List.mem_of_getElem? (i := 6) rfl)), (hw _ (List.mem_of_getElem? (i := 14) rfl))⟩)
  have E_ARRAY := Exa.start ev_ARRAY g5
  obtain ⟨w_OBJECT, ev_OBJECT⟩ := exa_v g11
  have S_OBJECT := Sta.start ev_OBJECT (Or.inr ⟨(hw _ (List.mem_of_getElem? (i := 6) rfl)), (hw _ (List.mem_of_getElem? (i := 16) rfl))⟩)
  have E_OBJECT := Exa.start ev_OBJECT g11
  obtain ⟨w_BOOLEAN, ev_BOOLEAN⟩ := exa_v g15
  have S_BOOLEAN := Sta.start ev_BOOLEAN (Or.inr ⟨(hw _ (List.mem_of_getElem? (i := 6) rfl)), (hw _ (List.mem_of_getElem? (i := 18) rfl))⟩)
  have E_BOOLEAN := Exa.start ev_BOOLEAN g15
  obtain ⟨w_NUMBER, ev_NUMBER⟩ := exa_v g19
  have S_NUMBER := Sta.start ev_NUMBER (Or.inr ⟨(hw _ (List.mem_of_getElem? (i := 6) rfl)), (hw _ (List.mem_of_getElem? (i := 20) rfl))⟩)
  have E_NUMBER := Exa.start ev_NUMBER g19
  obtain ⟨w_STRING, ev_STRING⟩ := exa_v g23
  have S_STRING := Sta.start ev_STRING (Or.inr ⟨(hw _ (List.mem_of_getElem? (i := 6) rfl)), (hw _ (List.mem_of_getElem? (i := 22) rfl))⟩)
  have E_STRING := Exa.start ev_STRING g23
  have F_NULL_ordinal : Fld s s.heap w_NULL "java/lang/Enum" "ordinal" "I" (.int (0 : Int32)) := by
    obtain ⟨x, y, e1, e2, -, -⟩ := cmp_v (Or.inl g7)
    exact Fld.start ((fld_at ev_NULL).symm.trans (e1.trans (congrArg some (eq_int e1 (Term.int_eval (0)) g7))))
  have F_ARRAY_ordinal : Fld s s.heap w_ARRAY "java/lang/Enum" "ordinal" "I" (.int (4 : Int32)) := by
    obtain ⟨x, y, e1, e2, -, -⟩ := cmp_v (Or.inl g9)
    exact Fld.start ((fld_at ev_ARRAY).symm.trans (e1.trans (congrArg some (eq_int e1 (Term.int_eval (4)) g9))))
  have F_OBJECT_ordinal : Fld s s.heap w_OBJECT "java/lang/Enum" "ordinal" "I" (.int (5 : Int32)) := by
    obtain ⟨x, y, e1, e2, -, -⟩ := cmp_v (Or.inl g13)
    exact Fld.start ((fld_at ev_OBJECT).symm.trans (e1.trans (congrArg some (eq_int e1 (Term.int_eval (5)) g13))))
  have F_BOOLEAN_ordinal : Fld s s.heap w_BOOLEAN "java/lang/Enum" "ordinal" "I" (.int (3 : Int32)) := by
    obtain ⟨x, y, e1, e2, -, -⟩ := cmp_v (Or.inl g17)
    exact Fld.start ((fld_at ev_BOOLEAN).symm.trans (e1.trans (congrArg some (eq_int e1 (Term.int_eval (3)) g17))))
  have F_NUMBER_ordinal : Fld s s.heap w_NUMBER "java/lang/Enum" "ordinal" "I" (.int (2 : Int32)) := by
    obtain ⟨x, y, e1, e2, -, -⟩ := cmp_v (Or.inl g21)
    exact Fld.start ((fld_at ev_NUMBER).symm.trans (e1.trans (congrArg some (eq_int e1 (Term.int_eval (2)) g21))))
  have F_STRING_ordinal : Fld s s.heap w_STRING "java/lang/Enum" "ordinal" "I" (.int (1 : Int32)) := by
    obtain ⟨x, y, e1, e2, -, -⟩ := cmp_v (Or.inl g24)
    exact Fld.start ((fld_at ev_STRING).symm.trans (e1.trans (congrArg some (eq_int e1 (Term.int_eval (1)) g24))))
  obtain ⟨n, o, h1, h2, h3, _, L, rfl, ⟨rfl, N, _⟩, hq⟩ := law_ l s _ hw tables_1 i0 w_NULL w_STRING w_NUMBER w_BOOLEAN w_ARRAY w_OBJECT s.heap s.heap.size (Old.start s) S_NULL S_STRING S_NUMBER S_BOOLEAN S_ARRAY S_OBJECT E_NULL E_STRING E_NUMBER E_BOOLEAN E_ARRAY E_OBJECT (Fld.ne F_NULL_ordinal F_ARRAY_ordinal (by decide)) (Fld.ne F_STRING_ordinal F_ARRAY_ordinal (by decide)) (Fld.ne F_NUMBER_ordinal F_ARRAY_ordinal (by decide)) (Fld.ne F_BOOLEAN_ordinal F_ARRAY_ordinal (by decide)) (Fld.ne F_NULL_ordinal F_OBJECT_ordinal (by decide)) (Fld.ne F_STRING_ordinal F_OBJECT_ordinal (by decide)) (Fld.ne F_NUMBER_ordinal F_OBJECT_ordinal (by decide)) (Fld.ne F_BOOLEAN_ordinal F_OBJECT_ordinal (by decide)) p e ha hc hk s m _ below hf ((Spec.applies_iff_loose hf).mp happ).1 ⟨rfl, State.Warmed39.refl s, rfl⟩ trivial
  refine ⟨n, _, h1, h2, h3, hpost _ _ _ _ _ _ ⟨Cond.after_iff.mpr rfl, Cond.after_iff.mpr (eq_i res_at (Term.int_eval (1)) rfl), trivial⟩ ⟨hq.1, hq.2.1, (hq.2.2.sift fun y hy => Or.inr (N y hy)).mono (by decide) (by decide)⟩⟩
theorem main_1_1 : Claimed_1_1 := comes_1 fun _ _ _ _ _ _ h hF => ⟨h.1, hF⟩
theorem main_1_2 : Claimed_1_2 := comes_1 fun _ _ _ _ _ _ h hF => ⟨h.2.1, hF⟩
end Jvm.Pilot.@@N@@
namespace Jvm.Pilot.@@N@@
open Jvm Jvm.ClassFile Sem Op Lib Jvm.Free Jvm.Stand Jvm.Pilot.@@N@@.Jvm.D
/-! MADE BY PROGRAM (witnessworld.py) out of the Statement's table words and the real class files: 12 classes; the members and pool entries that the words name. The judged class is class 1, her method 2. -/
namespace start1
open Jvm.ClassFile
def u (s : String) : CpInfo := .utf8 (stringToUtf16 s)
/-- a pool by its gaps: so many unusable entries, then the entry; so many at the end -/
def gap : Nat → List CpInfo → List CpInfo
  | 0, r => r
  | n + 1, r => .unusable :: gap n r
def poolList (es : List (Nat × CpInfo)) (last : Nat) : List CpInfo := es.foldr (fun e r => gap e.1 (e.2 :: r)) (gap last [])
def pool (es : List (Nat × CpInfo)) (last : Nat) : Array CpInfo := ⟨poolList es last⟩
def fileOf (pool : Array CpInfo) (this : Nat) (attrs : Array Attribute := #[]) (ms : Array MethodInfo := #[]) (fl : Nat := 33) (sup : Nat := 0) (ifs : Array Nat := #[]) (fds : Array FieldInfo := #[]) : ClassFile where
  minorVersion := 0
  majorVersion := 65
  constantPool := pool
  accessFlags := fl
  thisClass := this
  superClass := sup
  interfaces := ifs
  fields := fds
  methods := ms
  attributes := attrs
def plain (name : String) (sup : Option ClassId) : Class where
  name := name
  kind := .ordinary
  loader := none
  accessFlags := 33
  super := sup
  interfaces := #[]
  cf := none
  fields := #[]
  methods := #[]
  instanceTypes := #[]
  staticTypes := #[]
  resolved := #[]
  callSites := []
  init := .initialized
  statics := none
  mirror := none

def pool0 : Array CpInfo := pool [(5, u "<init>"), (0, u "()V"), (1, .class_ 10), (1, u "java/lang/Object")] 113

def k0m0 : Method := { name := "<init>", desc := "()V", sig := { parameters := [], returnType := none }, accessFlags := 1, code := none }
/-- java/lang/Object -/
def k0 : Class := { plain "java/lang/Object" none with
  accessFlags := 33
  interfaces := #[]
  cf := some (fileOf pool0 8 #[] #[{ accessFlags := 1, nameIndex := 5, descriptorIndex := 6, attributes := #[] }] 33 0 #[] #[])
  fields := #[]
  methods := #[k0m0]
  instanceTypes := #[]
  staticTypes := #[]
  resolved := Array.replicate 124 none
  statics := none }

def pool1 : Array CpInfo := pool [(2, .class_ 4), (1, u "java/lang/Object"), (0, u "<init>"), (0, u "()V"), (0, .fieldref 8 9), (0, .class_ 10), (0, .nameAndType 11 12), (0, u "com/example/rowset/rowset/model/JsonType"), (0, u "NULL"), (0, u "Lcom/example/rowset/rowset/model/JsonType;"), (0, .fieldref 8 14), (0, .nameAndType 15 12), (0, u "STRING"), (0, .fieldref 8 17), (0, .nameAndType 18 12), (0, u "NUMBER"), (0, .fieldref 8 20), (0, .nameAndType 21 12), (0, u "BOOLEAN"), (0, .fieldref 8 23), (0, .nameAndType 24 12), (0, u "ARRAY"), (0, .fieldref 8 26), (0, .nameAndType 27 12), (0, u "OBJECT"), (0, .integer 2147483647), (0, .methodref 30 31), (0, .class_ 32), (0, .nameAndType 33 34), (0, u "com/example/rowset/rowset/model/JsonTypeIsScalarPinLaw"), (0, u "pick"), (0, u "(I)Lcom/example/rowset/rowset/model/JsonType;"), (0, .methodref 8 36), (0, .nameAndType 37 38), (0, u "isScalar"), (0, u "()Z"), (3, u "law"), (0, u "(I)Z")] 2

def k1m0 : Method := { name := "<init>", desc := "()V", sig := { parameters := [], returnType := none }, accessFlags := 1, code := none }
def k1c1 : Code := { maxStack := 2, maxLocals := 1, code := method_2_code, exceptionTable := #[], attributes := #[] }
def k1m1 : Method := { name := "pick", desc := "(I)Lcom/example/rowset/rowset/model/JsonType;", sig := { parameters := [.int], returnType := some (.object "com/example/rowset/rowset/model/JsonType") }, accessFlags := 10, code := some k1c1 }
def k1c2 : Code := { maxStack := 2, maxLocals := 4, code := code, exceptionTable := #[], attributes := #[] }
def k1m2 : Method := { name := "law", desc := "(I)Z", sig := { parameters := [.int], returnType := some .boolean }, accessFlags := 9, code := some k1c2 }
/-- com/example/rowset/rowset/model/JsonTypeIsScalarPinLaw -/
def k1 : Class := { plain "com/example/rowset/rowset/model/JsonTypeIsScalarPinLaw" (some 0) with
  accessFlags := 49
  interfaces := #[]
  cf := some (fileOf pool1 30 #[] #[{ accessFlags := 1, nameIndex := 5, descriptorIndex := 6, attributes := #[] }, { accessFlags := 10, nameIndex := 33, descriptorIndex := 34, attributes := #[] }, { accessFlags := 9, nameIndex := 42, descriptorIndex := 43, attributes := #[] }] 49 2 #[] #[])
  fields := #[]
  methods := #[k1m0, k1m1, k1m2]
  instanceTypes := #[]
  staticTypes := #[]
  resolved := Array.replicate 46 none
  statics := none }

def pool2 : Array CpInfo := pool [(1, .class_ 2), (0, u "java/lang/constant/Constable"), (0, .class_ 4), (0, u "java/lang/Object")] 6

/-- java/lang/constant/Constable -/
def k2 : Class := { plain "java/lang/constant/Constable" (some 0) with
  accessFlags := 1537
  interfaces := #[]
  cf := some (fileOf pool2 1 #[] #[] 1537 3 #[] #[])
  fields := #[]
  methods := #[]
  instanceTypes := #[]
  staticTypes := #[]
  resolved := Array.replicate 11 none
  statics := none }

def pool3 : Array CpInfo := pool [(1, .class_ 2), (0, u "java/lang/Comparable"), (0, .class_ 4), (0, u "java/lang/Object")] 7

/-- java/lang/Comparable -/
def k3 : Class := { plain "java/lang/Comparable" (some 0) with
  accessFlags := 1537
  interfaces := #[]
  cf := some (fileOf pool3 1 #[] #[] 1537 3 #[] #[])
  fields := #[]
  methods := #[]
  instanceTypes := #[]
  staticTypes := #[]
  resolved := Array.replicate 12 none
  statics := none }

def pool4 : Array CpInfo := pool [(1, .class_ 2), (0, u "java/io/Serializable"), (0, .class_ 4), (0, u "java/lang/Object")] 2

/-- java/io/Serializable -/
def k4 : Class := { plain "java/io/Serializable" (some 0) with
  accessFlags := 1537
  interfaces := #[]
  cf := some (fileOf pool4 1 #[] #[] 1537 3 #[] #[])
  fields := #[]
  methods := #[]
  instanceTypes := #[]
  staticTypes := #[]
  resolved := Array.replicate 7 none
  statics := none }

def pool5 : Array CpInfo := pool [(2, .class_ 4), (1, u "java/lang/Enum"), (0, u "name"), (0, u "Ljava/lang/String;"), (2, u "ordinal"), (0, u "I"), (1, .class_ 14), (1, u "java/lang/Object"), (4, u "hash"), (86, .class_ 108), (1, u "java/lang/Enum$EnumDesc"), (2, .class_ 112), (0, u "java/lang/constant/Constable"), (0, .class_ 114), (0, u "java/lang/Comparable"), (0, .class_ 116), (0, u "java/io/Serializable")] 87

/-- java/lang/Enum -/
def k5 : Class := { plain "java/lang/Enum" (some 0) with
  accessFlags := 1057
  interfaces := #[2, 3, 4]
  cf := some (fileOf pool5 2 #[.nestMembers #[106]] #[] 1057 12 #[111, 113, 115] #[{ accessFlags := 18, nameIndex := 5, descriptorIndex := 6, attributes := #[] }, { accessFlags := 18, nameIndex := 9, descriptorIndex := 10, attributes := #[] }, { accessFlags := 2, nameIndex := 19, descriptorIndex := 10, attributes := #[] }])
  fields := #[{ name := "name", type := (.object "java/lang/String"), accessFlags := 18, slot := 0, constantValue := 0 }, { name := "ordinal", type := .int, accessFlags := 18, slot := 1, constantValue := 0 }, { name := "hash", type := .int, accessFlags := 2, slot := 2, constantValue := 0 }]
  methods := #[]
  instanceTypes := #[(.object "java/lang/String"), .int, .int]
  staticTypes := #[]
  resolved := Array.replicate 204 none
  statics := none }

def pool6 : Array CpInfo := pool [(1, .class_ 2), (0, u "com/example/rowset/rowset/model/JsonType"), (2, u "NULL"), (0, u "Lcom/example/rowset/rowset/model/JsonType;"), (2, u "STRING"), (2, u "NUMBER"), (2, u "BOOLEAN"), (0, .fieldref 1 17), (0, .nameAndType 18 6), (0, u "ARRAY"), (0, .fieldref 1 20), (0, .nameAndType 21 6), (0, u "OBJECT"), (2, u "$VALUES"), (0, u "[Lcom/example/rowset/rowset/model/JsonType;"), (6, .class_ 34), (1, u "java/lang/Enum"), (8, u "code"), (0, u "I"), (41, u "isScalar"), (0, u "()Z")] 10

def k6c0 : Code := { maxStack := 2, maxLocals := 1, code := prog_30_method_5_code, exceptionTable := #[], attributes := #[] }
def k6m0 : Method := { name := "isScalar", desc := "()Z", sig := { parameters := [], returnType := some .boolean }, accessFlags := 1, code := some k6c0 }
/-- com/example/rowset/rowset/model/JsonType -/
def k6 : Class := { plain "com/example/rowset/rowset/model/JsonType" (some 5) with
  accessFlags := 16433
  interfaces := #[]
  cf := some (fileOf pool6 1 #[] #[{ accessFlags := 1, nameIndex := 86, descriptorIndex := 87, attributes := #[] }] 16433 32 #[] #[{ accessFlags := 16409, nameIndex := 5, descriptorIndex := 6, attributes := #[] }, { accessFlags := 16409, nameIndex := 9, descriptorIndex := 6, attributes := #[] }, { accessFlags := 16409, nameIndex := 12, descriptorIndex := 6, attributes := #[] }, { accessFlags := 16409, nameIndex := 15, descriptorIndex := 6, attributes := #[] }, { accessFlags := 16409, nameIndex := 18, descriptorIndex := 6, attributes := #[] }, { accessFlags := 16409, nameIndex := 21, descriptorIndex := 6, attributes := #[] }, { accessFlags := 18, nameIndex := 43, descriptorIndex := 44, attributes := #[] }, { accessFlags := 4122, nameIndex := 24, descriptorIndex := 25, attributes := #[] }])
  fields := #[{ name := "NULL", type := (.object "com/example/rowset/rowset/model/JsonType"), accessFlags := 16409, slot := 0, constantValue := 0 }, { name := "STRING", type := (.object "com/example/rowset/rowset/model/JsonType"), accessFlags := 16409, slot := 1, constantValue := 0 }, { name := "NUMBER", type := (.object "com/example/rowset/rowset/model/JsonType"), accessFlags := 16409, slot := 2, constantValue := 0 }, { name := "BOOLEAN", type := (.object "com/example/rowset/rowset/model/JsonType"), accessFlags := 16409, slot := 3, constantValue := 0 }, { name := "ARRAY", type := (.object "com/example/rowset/rowset/model/JsonType"), accessFlags := 16409, slot := 4, constantValue := 0 }, { name := "OBJECT", type := (.object "com/example/rowset/rowset/model/JsonType"), accessFlags := 16409, slot := 5, constantValue := 0 }, { name := "code", type := .int, accessFlags := 18, slot := 3, constantValue := 0 }, { name := "$VALUES", type := (.array (.object "com/example/rowset/rowset/model/JsonType")), accessFlags := 4122, slot := 6, constantValue := 0 }]
  methods := #[k6m0]
  instanceTypes := #[(.object "java/lang/String"), .int, .int, .int]
  staticTypes := #[(.object "com/example/rowset/rowset/model/JsonType"), (.object "com/example/rowset/rowset/model/JsonType"), (.object "com/example/rowset/rowset/model/JsonType"), (.object "com/example/rowset/rowset/model/JsonType"), (.object "com/example/rowset/rowset/model/JsonType"), (.object "com/example/rowset/rowset/model/JsonType"), (.array (.object "com/example/rowset/rowset/model/JsonType"))]
  resolved := Array.replicate 98 none
  statics := some 0 }

def pool7 : Array CpInfo := pool [(1, u "java/lang/Cloneable"), (0, .class_ 1), (0, u "java/lang/Object"), (0, .class_ 3)] 3

/-- java/lang/Cloneable -/
def k7 : Class := { plain "java/lang/Cloneable" (some 0) with
  accessFlags := 1537
  interfaces := #[]
  cf := some (fileOf pool7 2 #[] #[] 1537 4 #[] #[])
  fields := #[]
  methods := #[]
  instanceTypes := #[]
  staticTypes := #[]
  resolved := Array.replicate 8 none
  statics := none }

/-- the primitive byte -/
def k8 : Class := { plain "byte" none with kind := .primitive 'B', accessFlags := 0x411 }
/-- [B -/
def k9 : Class := { plain "[B" (some 0) with kind := .array 8 .byte, interfaces := #[7, 4], accessFlags := 1041 }

/-- the primitive int -/
def k10 : Class := { plain "int" none with kind := .primitive 'I', accessFlags := 0x411 }
/-- [I -/
def k11 : Class := { plain "[I" (some 0) with kind := .array 10 .int, interfaces := #[7, 4], accessFlags := 1041 }

def heap : Heap := #[{ cls := 6, slots := #[.ref 1, .ref 2, .ref 3, .ref 4, .ref 5, .ref 6, .null], vm := .statics 6 },
  { cls := 6, slots := #[.null, .int 0, .int 0, .int 0], vm := .none },
  { cls := 6, slots := #[.null, .int 1, .int 0, .int 0], vm := .none },
  { cls := 6, slots := #[.null, .int 2, .int 0, .int 0], vm := .none },
  { cls := 6, slots := #[.null, .int 3, .int 0, .int 0], vm := .none },
  { cls := 6, slots := #[.null, .int 4, .int 0, .int 0], vm := .none },
  { cls := 6, slots := #[.null, .int 5, .int 0, .int 0], vm := .none }]
def classes : Array Class := #[k0, k1, k2, k3, k4, k5, k6, k7, k8, k9, k10, k11]
def interned : List (Array UInt16 × Addr) := []
def slotsUsed : Nat := 31
def theMethod : MethodId := ⟨1, 2⟩
def args0 : Array Value := #[.int 5]
def aboutOver (below : List Frame) : State where
  vm := { classes := classes, interned := interned.toArray }
  heap := heap
  slotsUsed := slotsUsed
  threads := #[{ frames := .invoking theMethod args0 :: below }]
def below0 : List Frame := [.native { method := ⟨0, 0⟩, args := #[] }]
def about1 : State := aboutOver below0
def p0 : Program := .bare "" "" ""
def e0 : Env := launch0.env 0 0 0
theorem w_frames : about1.frames = Frame.invoking theMethod args0 :: below0 := rfl
set_option maxRecDepth 65536 in
theorem w_args : argsFit about1.vm theMethod args0 = true := by decide +kernel
set_option maxRecDepth 65536 in
theorem w_heap : heapFits about1 = true := by decide +kernel
set_option maxRecDepth 65536 in
theorem w_runnable : about1.curStatus? = some .runnable := by decide +kernel
set_option maxRecDepth 65536 in
theorem w_alone : about1.alone = true := by decide +kernel
set_option maxRecDepth 65536 in
theorem w_named : about1.methodNamed? x = some theMethod := by decide +kernel
set_option maxRecDepth 65536 in
theorem w_hears : about1.hears theMethod below0 = true := by decide +kernel
set_option maxRecDepth 65536 in
theorem w_ripe : about1.ripe theMethod args0 below0 = true := by decide +kernel
theorem w_running : about1.status = .running := rfl
set_option maxRecDepth 65536 in
theorem w_room : about1.hasRoom e0.platform room_1 = true :=
  launch0.hasRoom_least _ room_1 (by decide +kernel) (by decide +kernel) (by decide +kernel) (by decide +kernel) (by decide +kernel) (by decide +kernel)
theorem allAtoms_all (ts : List Jvm.Cond) (a : Array Jvm.Value) (st : Jvm.State) : (allAtoms ts).before a st = ts.all (fun c => c.before a st) := by
  induction ts with
  | nil => rfl
  | cons c t ih =>
    show (Jvm.Cond.and c (allAtoms t)).before a st = _
    rw [Jvm.Cond.before_and, ih, List.all_cons]
def words1 : List Jvm.Cond := Jvm.Cond.code x code maxLocals ret :: tables_1
/-- a 'code' word, met by the world's own term for the bytes: nothing is compared byte by byte -/
theorem code_word {y : MethodName} {bytes : ByteArray} {mx : Nat} {rt : Option FieldType} {a : Array Value} {s : State} {m : MethodId} {meth : Method} {c : Code} (h1 : s.methodNamed? y = some m) (h2 : s.vm.method? m = some meth) (h3 : meth.code = some c) (h4 : c.code = bytes)
    (h5 : (c.maxLocals == mx && c.exceptionTable.isEmpty && decide (c.maxStack ≤ mostOperands) && decide (meth.sig.returnType = rt) && !meth.locks && decide (parseMethodDescriptor y.desc = some meth.sig)) = true) : (Jvm.Cond.code y bytes mx rt).before a s = true := by
  simp only [Bool.and_eq_true, beq_iff_eq, Bool.not_eq_true', decide_eq_true_eq] at h5
  obtain ⟨⟨⟨⟨⟨g1, g2⟩, g3⟩, g4⟩, g5⟩, g6⟩ := h5
  simp [Cond.before, Cond.holds, Cond.value, h1, h2, h3, h4, g1, g2, g3, g4, g5, g6]
def isCode : Jvm.Cond → Bool
  | .code _ _ _ _ => true
  | _ => false
theorem all_split {L : List Jvm.Cond} {P : Jvm.Cond → Bool} (h1 : L.all (fun c => isCode c || P c) = true) (h2 : ∀ c ∈ L.filter isCode, P c = true) : L.all P = true := by
  refine List.all_eq_true.mpr fun c hc => ?_
  have h := List.all_eq_true.mp h1 c hc
  rcases Bool.eq_false_or_eq_true (isCode c) with hi | hi
  · exact h2 c (List.mem_filter.mpr ⟨hc, hi⟩)
  · simpa [hi] using h
set_option maxRecDepth 65536 in
theorem w_c0 : (Jvm.Cond.code x code maxLocals ret).before args0 about1 = true := code_word (m := ⟨1, 2⟩) (meth := k1m2) (c := k1c2) (by decide +kernel) rfl rfl rfl (by decide +kernel)
set_option maxRecDepth 65536 in
theorem w_c1 : (Jvm.Cond.code ({ cls := "com/example/rowset/rowset/model/JsonTypeIsScalarPinLaw", name := "pick", desc := "(I)Lcom/example/rowset/rowset/model/JsonType;" } : Jvm.MethodName) method_2_code (1 : Nat) (Option.some (Jvm.ClassFile.FieldType.object "com/example/rowset/rowset/model/JsonType"))).before args0 about1 = true := code_word (m := ⟨1, 1⟩) (meth := k1m1) (c := k1c1) (by decide +kernel) rfl rfl rfl (by decide +kernel)
set_option maxRecDepth 65536 in
theorem w_c2 : (Jvm.Cond.code ({ cls := "com/example/rowset/rowset/model/JsonType", name := "isScalar", desc := "()Z" } : Jvm.MethodName) prog_30_method_5_code (1 : Nat) (Option.some Jvm.ClassFile.FieldType.boolean)).before args0 about1 = true := code_word (m := ⟨6, 0⟩) (meth := k6m0) (c := k6c0) (by decide +kernel) rfl rfl rfl (by decide +kernel)
def codes1 : List Jvm.Cond := [Jvm.Cond.code x code maxLocals ret, Jvm.Cond.code ({ cls := "com/example/rowset/rowset/model/JsonTypeIsScalarPinLaw", name := "pick", desc := "(I)Lcom/example/rowset/rowset/model/JsonType;" } : Jvm.MethodName) method_2_code (1 : Nat) (Option.some (Jvm.ClassFile.FieldType.object "com/example/rowset/rowset/model/JsonType")), Jvm.Cond.code ({ cls := "com/example/rowset/rowset/model/JsonType", name := "isScalar", desc := "()Z" } : Jvm.MethodName) prog_30_method_5_code (1 : Nat) (Option.some Jvm.ClassFile.FieldType.boolean)]
set_option maxRecDepth 65536 in
theorem codes_eq : words1.filter isCode = codes1 := rfl
theorem w_codes : ∀ c ∈ words1.filter isCode, c.before args0 about1 = true := by
  rw [codes_eq]
  intro c hc
  simp only [codes1, List.mem_cons, List.not_mem_nil, or_false] at hc
  rcases hc with rfl | rfl | rfl
  · exact w_c0
  · exact w_c1
  · exact w_c2
set_option maxRecDepth 65536 in
theorem w_t1 : (words1.take 24).all (fun c => isCode c || c.before args0 about1) = true := by decide +kernel
set_option maxRecDepth 65536 in
theorem w_t2 : (words1.drop 24).all (fun c => isCode c || c.before args0 about1) = true := by decide +kernel
theorem w_tables : (allAtoms (Jvm.Cond.code x code maxLocals ret :: tables_1)).before args0 about1 = true := by
  rw [allAtoms_all]
  show words1.all (fun c => c.before args0 about1) = true
  refine all_split ?_ w_codes
  rw [← List.take_append_drop 24 words1, List.all_append, w_t1, w_t2]
  rfl
set_option maxRecDepth 65536 in
theorem w_case : (Jvm.Cond.and given_1 narrow_1).before args0 about1 = true := by decide +kernel
theorem w_applies : (headSpec (Jvm.Cond.code x code maxLocals ret :: tables_1) room_1).applies x e0.platform about1 = true :=
  (Spec.applies_iff w_frames).mpr ⟨w_running, w_runnable, w_alone, w_named, w_hears, w_ripe, w_room, w_tables⟩
theorem atStart : AtStart classFile x code maxLocals ret World_1 tables_1 room_1 Calls_1 rest_1 Pre_1 launch0 p0 e0 about1 theMethod args0 below0 :=
  ⟨lists_1, trivial, launch0.admits_env _ _ _, launch0.least_env, fairChoices_fair.cas, fairChoices_fair.clock, w_frames, w_args, w_heap, w_applies, trivial, trivial, w_case⟩
end start1
theorem witness_1 : WitnessClaimed_1 := ⟨start1.p0, start1.e0, start1.about1, start1.theMethod, start1.args0, start1.below0, start1.atStart⟩
end Jvm.Pilot.@@N@@
