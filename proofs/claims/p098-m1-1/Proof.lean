import JvmDerived
import JvmDerived.Pilot.@@N@@Statement
import JvmDerived.Pilot.@@N@@Code
set_option linter.unusedVariables false
set_option linter.unusedSimpArgs false
namespace Jvm.RoadKit
open Sem ClassFile Op Lib Jvm.Stand Jvm.Free Jvm.LawKit
section New
variable {p : Program} {l : Launch} {e : Env} {R : Room} {s : State} {m : MethodId} {args : Array Value} {below : List Frame} {meth : Method} {c : Code} {T : State} {locs : List Loc} {cells slots : Nat}
theorem retI (X : Stand p l e R s m args below meth c T locs cells slots) (hx : p.tables.exec = Jvm.exec) {pc : Nat} {Ls : Array Slot} {z : Int32} {rest : List Value} (hret : meth.sig.returnType = some .int) (hd : decode c.code pc = .ok (.ireturn, 1)) {fs : List Frame}
    (hl : ∀ (f : JFrame) (acts : List Action), f.method = m → f.locked = none → f.entered = [] → (doReturn e (T.setTop f) acts (some (.int z))).1 = T.setFrames fs) : Steps p.tables e below (T.setTop (mkF m pc Ls (.int z :: rest))) (T.setFrames fs) := by
  have hm' : T.vm.method? m = some meth := X.method'
  have hn : narrow .int (.int z) = .int z := rfl
  show Steps p.tables e below (T.setTop { method := m, pc := pc, locals := Ls, stack := _ :: rest, locked := none }) _
  jvm_step X.here [X.here.top, hx, hd, hm', hret, hn]
  first | (intro acts; rw [hl _ acts rfl rfl rfl]) | rw [hl _ _ rfl rfl rfl]
  exact Steps.refl _
end New
/-- the run has come from where P looks on to this frame -/
def Go (p : Program) (e : Env) (below : List Frame) (P : State → Prop) (T : State) (g : JFrame) : Prop := ∀ t, Steps p.tables e below (T.setTop g) t → P t
/-- where roads that move the state meet: one of them has come to this frame (wide: it may have interned) -/
def PosW (p : Program) (l : Launch) (e : Env) (R : Room) (s : State) (m : MethodId) (args : Array Value) (below : List Frame) (meth : Method) (c : Code) (P : State → Prop) (Z : State) (n0 : Nat) (own : String) (EL : List (String × Nat)) (h0 hf : Heap) (ws : List Addr) (cells slots : Nat) (g : JFrame) (K : Heap → Prop) : Prop :=
  ∃ (vm : Vm) (T : State) (locs : List Loc) (k : Nat), Stand p l e R (s.setVm vm) m args below meth c T locs cells slots ∧ Fr n0 locs ∧ Keep hf T.heap ws ∧ s.Since vm k ∧ k ≤ T.heap.size ∧ Z.Warmed39 vm ∧ vm.findClass own = some m.cls ∧ CHr Z EL s.vm h0 vm T.heap ∧ Go p e below P T g ∧ K T.heap
def PosN (p : Program) (l : Launch) (e : Env) (R : Room) (s : State) (m : MethodId) (args : Array Value) (below : List Frame) (meth : Method) (c : Code) (P : State → Prop) (n0 : Nat) (hf : Heap) (ws : List Addr) (cells slots : Nat) (g : JFrame) (K : Heap → Prop) : Prop :=
  ∃ (T : State) (locs : List Loc), Stand p l e R s m args below meth c T locs cells slots ∧ Fr n0 locs ∧ Keep hf T.heap ws ∧ Go p e below P T g ∧ K T.heap
theorem oldLe {Z : State} {n0 : Nat} {h : Heap} (O : Old Z n0 h) : n0 ≤ h.size := O.1 ▸ O.2.1
theorem narrow_ref {t : FieldType} {v : Value} (h : v.isRef = true) : narrow t v = v := by
  rcases ref_cases h with rfl | ⟨_, rfl⟩ <;> cases t <;> rfl
theorem fits_refV {C : String} {v : Value} (h : v.isRef = true) : fits (.object C) v = true := by
  rcases ref_cases h with rfl | ⟨_, rfl⟩ <;> rfl
end Jvm.RoadKit
namespace Jvm.Pilot.@@N@@
open Jvm Jvm.ClassFile Sem Op Lib Jvm.Free Jvm.Stand Jvm.LawKit Jvm.RoadKit Bundle Jvm.Pilot.@@N@@.Jvm.D
theorem eq_int {args : Array Value} {first s : State} {o : Option Outcome} {idx : List Nat} {a b : Term} {x : Value} {z : Int32} (ha : a.eval args first o idx s = some x) (hb : b.eval args first o idx s = some (.int z)) (h : (Jvm.Cond.eq a b).value args first o s idx = some true) : x = .int z := by
  cases x <;> simp [Cond.value, ha, hb] at h ⊢ <;> exact h
theorem nar_b0 : nar .boolean 0 = 0 := by decide
theorem nar_b1 : nar .boolean 1 = 1 := by decide
theorem nar_b8 (x : Int32) : nar .byte (x.toInt8.toInt32) = x.toInt8.toInt32 := by show (x.toInt8.toInt32).toInt8.toInt32 = x.toInt8.toInt32; simp
theorem eq_I {args : Array Value} {first s : State} {o : Option Outcome} {idx : List Nat} {a b : Term} {x y : Int32} (ha : a.eval args first o idx s = some (.int x)) (hb : b.eval args first o idx s = some (.int y)) : (Jvm.Cond.eq a b).value args first o s idx = some (decide (x = y)) := by simp [Cond.value, ha, hb]
def ofW (w0 w1 w2 w3 : Addr) (h d : Int32) : Addr := if d = 0 then (if h = 0 then w3 else w2) else (if h = 0 then w1 else w0)
theorem pn_4283979 : plainName "com/example/progression/progression/Verdict" = true := by first | (simp [plainName, overriddenIn]; done) | decide +kernel
theorem ef_of_ (m : MethodId) (x0 : Int32) (x1 : Int32) : entryFrame m #[(.int x0), (.int x1)] 2 = mkF m 0 #[.val (.int x0), .val (.int x1)] [] := by first | (simp [entryFrame, mkF, argsToLocals, Value.category]; done) | rfl
theorem d1_0 : decode prog_41_method_4_code 0 = .ok (.iload_n 1, 1) := by decide +kernel
theorem d1_1 : decode prog_41_method_4_code 1 = .ok (.ifCond .eq 17, 3) := by decide +kernel
theorem d1_18 : decode prog_41_method_4_code 18 = .ok (.iload_n 0, 1) := by decide +kernel
theorem d1_19 : decode prog_41_method_4_code 19 = .ok (.ifCond .eq 9, 3) := by decide +kernel
theorem d1_28 : decode prog_41_method_4_code 28 = .ok (.getstatic 13, 3) := by decide +kernel
theorem d1_31 : decode prog_41_method_4_code 31 = .ok (.areturn, 1) := by decide +kernel
theorem d1_22 : decode prog_41_method_4_code 22 = .ok (.getstatic 10, 3) := by decide +kernel
theorem d1_25 : decode prog_41_method_4_code 25 = .ok (.goto 6, 3) := by decide +kernel
theorem d1_4 : decode prog_41_method_4_code 4 = .ok (.iload_n 0, 1) := by decide +kernel
theorem d1_5 : decode prog_41_method_4_code 5 = .ok (.ifCond .eq 9, 3) := by decide +kernel
theorem d1_14 : decode prog_41_method_4_code 14 = .ok (.getstatic 7, 3) := by decide +kernel
theorem d1_17 : decode prog_41_method_4_code 17 = .ok (.areturn, 1) := by decide +kernel
theorem d1_8 : decode prog_41_method_4_code 8 = .ok (.getstatic 3, 3) := by decide +kernel
theorem d1_11 : decode prog_41_method_4_code 11 = .ok (.goto 6, 3) := by decide +kernel
def Q_of_ (Z : State) (h : Int32) (d : Int32) (w0 : Addr) (w1 : Addr) (w2 : Addr) (w3 : Addr) (h0 : Heap) (n0 : Nat) (rv_ : Option Value) (rh_ : Heap) (rL_ : List Loc) : Prop := (rv_ = some (.ref (ofW w0 w1 w2 w3 h d))) ∧ (Fr n0 rL_) ∧ (rh_ = h0)
set_option maxRecDepth 65536 in
set_option maxHeartbeats 40000000 in
theorem of_ (l : Launch) (Z : State) (a0 : Array Value) (hw : ∀ d ∈ tables_1, d.before a0 Z = true) (ws : List Jvm.Cond) (h : Int32) (d : Int32) (w0 : Addr) (w1 : Addr) (w2 : Addr) (w3 : Addr) (h0 : Heap) (n0 : Nat) (O0 : Old Z n0 h0) (P0 : Sta Z Z.heap "com/example/progression/progression/Verdict" "TRUE" "Lcom/example/progression/progression/Verdict;" (.ref w0)) (P1 : Sta Z Z.heap "com/example/progression/progression/Verdict" "FALSE" "Lcom/example/progression/progression/Verdict;" (.ref w1)) (P2 : Sta Z Z.heap "com/example/progression/progression/Verdict" "PRESUMABLY_TRUE" "Lcom/example/progression/progression/Verdict;" (.ref w2)) (P3 : Sta Z Z.heap "com/example/progression/progression/Verdict" "PRESUMABLY_FALSE" "Lcom/example/progression/progression/Verdict;" (.ref w3)) :
    MetFree l (⟨"com/example/progression/progression/Verdict", "of", "(ZZ)Lcom/example/progression/progression/Verdict;"⟩ : MethodName) (head1 (Jvm.Cond.code (⟨"com/example/progression/progression/Verdict", "of", "(ZZ)Lcom/example/progression/progression/Verdict;"⟩ : MethodName) prog_41_method_4_code 2 (some (.object "com/example/progression/progression/Verdict")) :: ws) ({ frames := 0, cells := 0, slots := 0, locals := 0 } : Room)) (fun a_ U_ => a_ = #[(.int h), (.int d)] ∧ Z.Warmed39 U_.vm ∧ U_.heap = h0) (fun _ _ _ _ _ => True) (fun _ U_ o_ U_' => ∃ v_ L_, o_ = .returned v_ ∧ Q_of_ Z h d w0 w1 w2 w3 h0 n0 v_ U_'.heap L_ ∧ FrameEnd U_ o_ U_' L_ ({ frames := 0, cells := 0, slots := 0, locals := 0 } : Room).cells ({ frames := 0, cells := 0, slots := 0, locals := 0 } : Room).slots) := by
  refine MetFree.of_bodySF (plainFor_of_name pn_4283979) hisR ?_
  intro p e s m args below meth c s₁ Bd hml0 hP0 hK
  obtain ⟨rfl, hZ, hh⟩ := hP0
  have hx := Bd.exec
  have hby := Bd.bytes
  have hml : c.maxLocals = 2 := hml0
  have hown : s.vm.findClass "com/example/progression/progression/Verdict" = some m.cls := findClass_of_methodNamed Bd.named
  have hnm := (name_of_methodNamed Bd.named Bd.method).1
  have X0 : Stand p l e ({ frames := 0, cells := 0, slots := 0, locals := 0 } : Room) s m #[(.int h), (.int d)] below meth c s₁ [] 0 0 := Stand.of_body Bd
  have e0 : s₁.heap = h0 := by rw [← hh, Bd.state]; rfl
  have N0 := Fr.nil n0
  obtain ⟨P, hP, R0⟩ : ∃ P : State → Prop, (∀ t, P t → Steps p.tables e below (s₁.setTop (entryFrame m #[(.int h), (.int d)] 2)) t) ∧ Go p e below P s₁ (mkF m 0 #[.val (.int h), .val (.int d)] []) := ⟨_, fun _ h => h, fun t_ k_ => castTop (ef_of_ m h d) k_⟩
  have R1 : Go p e below P s₁ (mkF m 1 #[.val (.int h), .val (.int d)] [(.int d)]) := fun t_ k_ => R0 t_ (XS.iloadN X0.here hx rfl (hb hby d1_0) rfl k_)
  by_cases hc2 : d = (0 : Int32)
  · have R3 : Go p e below P s₁ (mkF m 18 #[.val (.int h), .val (.int d)] []) := fun t_ k_ => R1 t_ (XS.ifYes X0.here hx rfl (pc0 := 1) (pc' := 18) rfl (hb hby d1_1) rfl ((if0 _ _).trans (teq hc2).1) (by decide) (by decide) k_)
    have R4 : Go p e below P s₁ (mkF m 19 #[.val (.int h), .val (.int d)] [(.int h)]) := fun t_ k_ => R3 t_ (XS.iloadN X0.here hx rfl (hb hby d1_18) rfl k_)
    by_cases hc5 : h = (0 : Int32)
    · have R6 : Go p e below P s₁ (mkF m 28 #[.val (.int h), .val (.int d)] []) := fun t_ k_ => R4 t_ (XS.ifYes X0.here hx rfl (pc0 := 19) (pc' := 28) rfl (hb hby d1_19) rfl ((if0 _ _).trans (teq hc5).1) (by decide) (by decide) k_)
      obtain ⟨T7, X7, e7, st7⟩ := getS2 X0 hx hZ hown (host := "") (Or.inl (hw _ (List.mem_of_getElem? (i := 4) rfl))) Via.refl e0 (P3.ext O0.2) (g := (mkF m 28 #[.val (.int h), .val (.int d)] [])) rfl (hb hby d1_28)
      have R8 : Go p e below P T7 (mkF m 31 #[.val (.int h), .val (.int d)] [(.ref w3)]) := fun t_ k_ => R6 t_ (st7 t_ k_)
      obtain ⟨fs, hr, hrun, hended, hW, hsame⟩ := X7.leave (v := some (.ref w3)) (fun h => by rw [Bd.returns] at h; cases h)
      exact ⟨_, _, hP _ (R8 _ (retOut X7 hx Bd.returns rfl (Or.inr (Or.inr (Or.inr (Or.inr ⟨rfl, rfl, rfl⟩)))) (hb hby d1_31) hr)), hrun, hended, _, _, rfl, ⟨(by simp [ofW, hc2, hc5]), N0, e7⟩, ⟨_, rfl⟩, hW, hsame.mono (by decide) (by decide)⟩
    · have R9 : Go p e below P s₁ (mkF m 22 #[.val (.int h), .val (.int d)] []) := fun t_ k_ => R4 t_ (XS.ifNo X0.here hx rfl (hb hby d1_19) rfl ((if0 _ _).trans (feq hc5).1) k_)
      obtain ⟨T10, X10, e10, st10⟩ := getS2 X0 hx hZ hown (host := "") (Or.inl (hw _ (List.mem_of_getElem? (i := 24) rfl))) Via.refl e0 (P2.ext O0.2) (g := (mkF m 22 #[.val (.int h), .val (.int d)] [])) rfl (hb hby d1_22)
      have R11 : Go p e below P T10 (mkF m 25 #[.val (.int h), .val (.int d)] [(.ref w2)]) := fun t_ k_ => R9 t_ (st10 t_ k_)
      have R12 : Go p e below P T10 (mkF m 31 #[.val (.int h), .val (.int d)] [(.ref w2)]) := fun t_ k_ => R11 t_ (XS.goto X10.here hx rfl (pc0 := 25) (pc' := 31) rfl (hb hby d1_25) (by decide) (by decide) k_)
      obtain ⟨fs, hr, hrun, hended, hW, hsame⟩ := X10.leave (v := some (.ref w2)) (fun h => by rw [Bd.returns] at h; cases h)
      exact ⟨_, _, hP _ (R12 _ (retOut X10 hx Bd.returns rfl (Or.inr (Or.inr (Or.inr (Or.inr ⟨rfl, rfl, rfl⟩)))) (hb hby d1_31) hr)), hrun, hended, _, _, rfl, ⟨(by simp [ofW, hc2, hc5]), N0, e10⟩, ⟨_, rfl⟩, hW, hsame.mono (by decide) (by decide)⟩
  · have R13 : Go p e below P s₁ (mkF m 4 #[.val (.int h), .val (.int d)] []) := fun t_ k_ => R1 t_ (XS.ifNo X0.here hx rfl (hb hby d1_1) rfl ((if0 _ _).trans (feq hc2).1) k_)
    have R14 : Go p e below P s₁ (mkF m 5 #[.val (.int h), .val (.int d)] [(.int h)]) := fun t_ k_ => R13 t_ (XS.iloadN X0.here hx rfl (hb hby d1_4) rfl k_)
    by_cases hc15 : h = (0 : Int32)
    · have R16 : Go p e below P s₁ (mkF m 14 #[.val (.int h), .val (.int d)] []) := fun t_ k_ => R14 t_ (XS.ifYes X0.here hx rfl (pc0 := 5) (pc' := 14) rfl (hb hby d1_5) rfl ((if0 _ _).trans (teq hc15).1) (by decide) (by decide) k_)
      obtain ⟨T17, X17, e17, st17⟩ := getS2 X0 hx hZ hown (host := "") (Or.inl (hw _ (List.mem_of_getElem? (i := 22) rfl))) Via.refl e0 (P1.ext O0.2) (g := (mkF m 14 #[.val (.int h), .val (.int d)] [])) rfl (hb hby d1_14)
      have R18 : Go p e below P T17 (mkF m 17 #[.val (.int h), .val (.int d)] [(.ref w1)]) := fun t_ k_ => R16 t_ (st17 t_ k_)
      obtain ⟨fs, hr, hrun, hended, hW, hsame⟩ := X17.leave (v := some (.ref w1)) (fun h => by rw [Bd.returns] at h; cases h)
      exact ⟨_, _, hP _ (R18 _ (retOut X17 hx Bd.returns rfl (Or.inr (Or.inr (Or.inr (Or.inr ⟨rfl, rfl, rfl⟩)))) (hb hby d1_17) hr)), hrun, hended, _, _, rfl, ⟨(by simp [ofW, hc2, hc15]), N0, e17⟩, ⟨_, rfl⟩, hW, hsame.mono (by decide) (by decide)⟩
    · have R19 : Go p e below P s₁ (mkF m 8 #[.val (.int h), .val (.int d)] []) := fun t_ k_ => R14 t_ (XS.ifNo X0.here hx rfl (hb hby d1_5) rfl ((if0 _ _).trans (feq hc15).1) k_)
      obtain ⟨T20, X20, e20, st20⟩ := getS2 X0 hx hZ hown (host := "") (Or.inl (hw _ (List.mem_of_getElem? (i := 20) rfl))) Via.refl e0 (P0.ext O0.2) (g := (mkF m 8 #[.val (.int h), .val (.int d)] [])) rfl (hb hby d1_8)
      have R21 : Go p e below P T20 (mkF m 11 #[.val (.int h), .val (.int d)] [(.ref w0)]) := fun t_ k_ => R19 t_ (st20 t_ k_)
      have R22 : Go p e below P T20 (mkF m 17 #[.val (.int h), .val (.int d)] [(.ref w0)]) := fun t_ k_ => R21 t_ (XS.goto X20.here hx rfl (pc0 := 11) (pc' := 17) rfl (hb hby d1_11) (by decide) (by decide) k_)
      obtain ⟨fs, hr, hrun, hended, hW, hsame⟩ := X20.leave (v := some (.ref w0)) (fun h => by rw [Bd.returns] at h; cases h)
      exact ⟨_, _, hP _ (R22 _ (retOut X20 hx Bd.returns rfl (Or.inr (Or.inr (Or.inr (Or.inr ⟨rfl, rfl, rfl⟩)))) (hb hby d1_17) hr)), hrun, hended, _, _, rfl, ⟨(by simp [ofW, hc2, hc15]), N0, e20⟩, ⟨_, rfl⟩, hW, hsame.mono (by decide) (by decide)⟩
theorem ef_holds_ (m : MethodId) (x0 : Addr) : entryFrame m #[(.ref x0)] 1 = mkF m 0 #[.val (.ref x0)] [] := by first | (simp [entryFrame, mkF, argsToLocals, Value.category]; done) | rfl
theorem d2_0 : decode prog_41_method_5_code 0 = .ok (.aload_n 0, 1) := by decide +kernel
theorem d2_1 : decode prog_41_method_5_code 1 = .ok (.getfield 39, 3) := by decide +kernel
theorem d2_4 : decode prog_41_method_5_code 4 = .ok (.ireturn, 1) := by decide +kernel
def Q_holds_ (Z : State) (a : Addr) (v : Int32) (h0 : Heap) (n0 : Nat) (rv_ : Option Value) (rh_ : Heap) (rL_ : List Loc) : Prop := (rv_ = some (.int v)) ∧ (Fr n0 rL_) ∧ (rh_ = h0)
set_option maxRecDepth 65536 in
set_option maxHeartbeats 40000000 in
theorem holds_ (l : Launch) (Z : State) (a0 : Array Value) (hw : ∀ d ∈ tables_1, d.before a0 Z = true) (ws : List Jvm.Cond) (a : Addr) (v : Int32) (h0 : Heap) (n0 : Nat) (O0 : Old Z n0 h0) (P0 : Fld Z h0 a "com/example/progression/progression/Verdict" "holds" "Z" (.int v)) (P1 : nar .boolean v = v) :
    MetFree l (⟨"com/example/progression/progression/Verdict", "holds", "()Z"⟩ : MethodName) (head1 (Jvm.Cond.code (⟨"com/example/progression/progression/Verdict", "holds", "()Z"⟩ : MethodName) prog_41_method_5_code 1 (some .boolean) :: ws) ({ frames := 0, cells := 0, slots := 0, locals := 0 } : Room)) (fun a_ U_ => a_ = #[(.ref a)] ∧ Z.Warmed39 U_.vm ∧ U_.heap = h0) (fun _ _ _ _ _ => True) (fun _ U_ o_ U_' => ∃ v_ L_, o_ = .returned v_ ∧ Q_holds_ Z a v h0 n0 v_ U_'.heap L_ ∧ FrameEnd U_ o_ U_' L_ ({ frames := 0, cells := 0, slots := 0, locals := 0 } : Room).cells ({ frames := 0, cells := 0, slots := 0, locals := 0 } : Room).slots) := by
  refine MetFree.of_bodySF (plainFor_of_name pn_4283979) hisR ?_
  intro p e s m args below meth c s₁ Bd hml0 hP0 hK
  obtain ⟨rfl, hZ, hh⟩ := hP0
  have hx := Bd.exec
  have hby := Bd.bytes
  have hml : c.maxLocals = 1 := hml0
  have hown : s.vm.findClass "com/example/progression/progression/Verdict" = some m.cls := findClass_of_methodNamed Bd.named
  have hnm := (name_of_methodNamed Bd.named Bd.method).1
  have X0 : Stand p l e ({ frames := 0, cells := 0, slots := 0, locals := 0 } : Room) s m #[(.ref a)] below meth c s₁ [] 0 0 := Stand.of_body Bd
  have e0 : s₁.heap = h0 := by rw [← hh, Bd.state]; rfl
  have N0 := Fr.nil n0
  obtain ⟨P, hP, R0⟩ : ∃ P : State → Prop, (∀ t, P t → Steps p.tables e below (s₁.setTop (entryFrame m #[(.ref a)] 1)) t) ∧ Go p e below P s₁ (mkF m 0 #[.val (.ref a)] []) := ⟨_, fun _ h => h, fun t_ k_ => castTop (ef_holds_ m a) k_⟩
  have R23 : Go p e below P s₁ (mkF m 1 #[.val (.ref a)] [(.ref a)]) := fun t_ k_ => R0 t_ (XS.aloadN X0.here hx rfl (hb hby d2_0) rfl rfl k_)
  obtain ⟨T24, X24, e24, st24⟩ := getF X0 hx hZ hown (host := "") (Or.inl (hw _ (List.mem_of_getElem? (i := 11) rfl))) Via.refl e0 P0 (g := (mkF m 1 #[.val (.ref a)] [(.ref a)])) rfl rfl (hb hby d2_1)
  have R25 : Go p e below P T24 (mkF m 4 #[.val (.ref a)] [(.int v)]) := fun t_ k_ => R23 t_ (st24 t_ k_)
  obtain ⟨fs, hr, hrun, hended, hW, hsame⟩ := X24.leave (v := some (.int (nar .boolean v))) (fun h => by rw [Bd.returns] at h; cases h)
  exact ⟨_, _, hP _ (R25 _ (retN X24 hx (t := .boolean) Bd.returns (by simp) (hb hby d2_4) hr)), hrun, hended, _, _, rfl, ⟨(by rw [P1]), N0, e24⟩, ⟨_, rfl⟩, hW, hsame.mono (by decide) (by decide)⟩
theorem ef_decided_ (m : MethodId) (x0 : Addr) : entryFrame m #[(.ref x0)] 1 = mkF m 0 #[.val (.ref x0)] [] := by first | (simp [entryFrame, mkF, argsToLocals, Value.category]; done) | rfl
theorem d3_0 : decode prog_41_method_6_code 0 = .ok (.aload_n 0, 1) := by decide +kernel
theorem d3_1 : decode prog_41_method_6_code 1 = .ok (.getfield 43, 3) := by decide +kernel
theorem d3_4 : decode prog_41_method_6_code 4 = .ok (.ireturn, 1) := by decide +kernel
def Q_decided_ (Z : State) (a : Addr) (v : Int32) (h0 : Heap) (n0 : Nat) (rv_ : Option Value) (rh_ : Heap) (rL_ : List Loc) : Prop := (rv_ = some (.int v)) ∧ (Fr n0 rL_) ∧ (rh_ = h0)
set_option maxRecDepth 65536 in
set_option maxHeartbeats 40000000 in
theorem decided_ (l : Launch) (Z : State) (a0 : Array Value) (hw : ∀ d ∈ tables_1, d.before a0 Z = true) (ws : List Jvm.Cond) (a : Addr) (v : Int32) (h0 : Heap) (n0 : Nat) (O0 : Old Z n0 h0) (P0 : Fld Z h0 a "com/example/progression/progression/Verdict" "decided" "Z" (.int v)) (P1 : nar .boolean v = v) :
    MetFree l (⟨"com/example/progression/progression/Verdict", "isDecided", "()Z"⟩ : MethodName) (head1 (Jvm.Cond.code (⟨"com/example/progression/progression/Verdict", "isDecided", "()Z"⟩ : MethodName) prog_41_method_6_code 1 (some .boolean) :: ws) ({ frames := 0, cells := 0, slots := 0, locals := 0 } : Room)) (fun a_ U_ => a_ = #[(.ref a)] ∧ Z.Warmed39 U_.vm ∧ U_.heap = h0) (fun _ _ _ _ _ => True) (fun _ U_ o_ U_' => ∃ v_ L_, o_ = .returned v_ ∧ Q_decided_ Z a v h0 n0 v_ U_'.heap L_ ∧ FrameEnd U_ o_ U_' L_ ({ frames := 0, cells := 0, slots := 0, locals := 0 } : Room).cells ({ frames := 0, cells := 0, slots := 0, locals := 0 } : Room).slots) := by
  refine MetFree.of_bodySF (plainFor_of_name pn_4283979) hisR ?_
  intro p e s m args below meth c s₁ Bd hml0 hP0 hK
  obtain ⟨rfl, hZ, hh⟩ := hP0
  have hx := Bd.exec
  have hby := Bd.bytes
  have hml : c.maxLocals = 1 := hml0
  have hown : s.vm.findClass "com/example/progression/progression/Verdict" = some m.cls := findClass_of_methodNamed Bd.named
  have hnm := (name_of_methodNamed Bd.named Bd.method).1
  have X0 : Stand p l e ({ frames := 0, cells := 0, slots := 0, locals := 0 } : Room) s m #[(.ref a)] below meth c s₁ [] 0 0 := Stand.of_body Bd
  have e0 : s₁.heap = h0 := by rw [← hh, Bd.state]; rfl
  have N0 := Fr.nil n0
  obtain ⟨P, hP, R0⟩ : ∃ P : State → Prop, (∀ t, P t → Steps p.tables e below (s₁.setTop (entryFrame m #[(.ref a)] 1)) t) ∧ Go p e below P s₁ (mkF m 0 #[.val (.ref a)] []) := ⟨_, fun _ h => h, fun t_ k_ => castTop (ef_decided_ m a) k_⟩
  have R26 : Go p e below P s₁ (mkF m 1 #[.val (.ref a)] [(.ref a)]) := fun t_ k_ => R0 t_ (XS.aloadN X0.here hx rfl (hb hby d3_0) rfl rfl k_)
  obtain ⟨T27, X27, e27, st27⟩ := getF X0 hx hZ hown (host := "") (Or.inl (hw _ (List.mem_of_getElem? (i := 18) rfl))) Via.refl e0 P0 (g := (mkF m 1 #[.val (.ref a)] [(.ref a)])) rfl rfl (hb hby d3_1)
  have R28 : Go p e below P T27 (mkF m 4 #[.val (.ref a)] [(.int v)]) := fun t_ k_ => R26 t_ (st27 t_ k_)
  obtain ⟨fs, hr, hrun, hended, hW, hsame⟩ := X27.leave (v := some (.int (nar .boolean v))) (fun h => by rw [Bd.returns] at h; cases h)
  exact ⟨_, _, hP _ (R28 _ (retN X27 hx (t := .boolean) Bd.returns (by simp) (hb hby d3_4) hr)), hrun, hended, _, _, rfl, ⟨(by rw [P1]), N0, e27⟩, ⟨_, rfl⟩, hW, hsame.mono (by decide) (by decide)⟩
theorem pn_3854479 : plainName "com/example/progression/progression/VerdictOfPinLaw" = true := by first | (simp [plainName, overriddenIn]; done) | decide +kernel
theorem ef_law_ (m : MethodId) (x0 : Int32) : entryFrame m #[(.int x0)] maxLocals = mkF m 0 #[.val (.int x0), .unset, .unset, .unset] [] := by first | (simp [entryFrame, mkF, argsToLocals, Value.category, maxLocals]; done) | rfl
theorem pd_87660929 : parseMethodDescriptor "(ZZ)Lcom/example/progression/progression/Verdict;" = some ⟨[.boolean, .boolean], some (.object "com/example/progression/progression/Verdict")⟩ := by decide +kernel
theorem pd_16428538 : parseMethodDescriptor "()Z" = some ⟨[], some .boolean⟩ := by decide +kernel
def Q_law_ (Z : State) (k : Int32) (w0 : Addr) (w1 : Addr) (w2 : Addr) (w3 : Addr) (h0 : Heap) (n0 : Nat) (rv_ : Option Value) (rh_ : Heap) (rL_ : List Loc) : Prop := (rv_ = some (.int (1 : Int32))) ∧ (Fr n0 rL_) ∧ (rh_ = h0)
set_option maxRecDepth 65536 in
set_option maxHeartbeats 40000000 in
theorem law_ (l : Launch) (Z : State) (a0 : Array Value) (hw : ∀ d ∈ tables_1, d.before a0 Z = true) (ws : List Jvm.Cond) (k : Int32) (w0 : Addr) (w1 : Addr) (w2 : Addr) (w3 : Addr) (h0 : Heap) (n0 : Nat) (O0 : Old Z n0 h0) (P0 : Sta Z Z.heap "com/example/progression/progression/Verdict" "TRUE" "Lcom/example/progression/progression/Verdict;" (.ref w0)) (P1 : Sta Z Z.heap "com/example/progression/progression/Verdict" "FALSE" "Lcom/example/progression/progression/Verdict;" (.ref w1)) (P2 : Sta Z Z.heap "com/example/progression/progression/Verdict" "PRESUMABLY_TRUE" "Lcom/example/progression/progression/Verdict;" (.ref w2)) (P3 : Sta Z Z.heap "com/example/progression/progression/Verdict" "PRESUMABLY_FALSE" "Lcom/example/progression/progression/Verdict;" (.ref w3)) (P4 : Exa Z Z.heap w0 "com/example/progression/progression/Verdict") (P5 : Exa Z Z.heap w1 "com/example/progression/progression/Verdict") (P6 : Exa Z Z.heap w2 "com/example/progression/progression/Verdict") (P7 : Exa Z Z.heap w3 "com/example/progression/progression/Verdict") (P8 : Fld Z Z.heap w0 "com/example/progression/progression/Verdict" "holds" "Z" (.int (1 : Int32))) (P9 : Fld Z Z.heap w1 "com/example/progression/progression/Verdict" "holds" "Z" (.int (0 : Int32))) (P10 : Fld Z Z.heap w2 "com/example/progression/progression/Verdict" "holds" "Z" (.int (1 : Int32))) (P11 : Fld Z Z.heap w3 "com/example/progression/progression/Verdict" "holds" "Z" (.int (0 : Int32))) (P12 : Fld Z Z.heap w0 "com/example/progression/progression/Verdict" "decided" "Z" (.int (1 : Int32))) (P13 : Fld Z Z.heap w1 "com/example/progression/progression/Verdict" "decided" "Z" (.int (1 : Int32))) (P14 : Fld Z Z.heap w2 "com/example/progression/progression/Verdict" "decided" "Z" (.int (0 : Int32))) (P15 : Fld Z Z.heap w3 "com/example/progression/progression/Verdict" "decided" "Z" (.int (0 : Int32))) :
    MetFree l x (head1 (Jvm.Cond.code x code maxLocals ret :: ws) room_1) (fun a_ U_ => a_ = #[(.int k)] ∧ Z.Warmed39 U_.vm ∧ U_.heap = h0) (fun _ _ _ _ _ => True) (fun _ U_ o_ U_' => ∃ v_ L_, o_ = .returned v_ ∧ Q_law_ Z k w0 w1 w2 w3 h0 n0 v_ U_'.heap L_ ∧ FrameEnd U_ o_ U_' L_ room_1.cells room_1.slots) := by
  refine MetFree.of_bodySF (plainFor_of_name pn_3854479) hisR ?_
  intro p e s m args below meth c s₁ Bd hml0 hP0 hK
  obtain ⟨rfl, hZ, hh⟩ := hP0
  have hx := Bd.exec
  have hby := Bd.bytes
  have hml : c.maxLocals = 4 := hml0
  have hown : s.vm.findClass "com/example/progression/progression/VerdictOfPinLaw" = some m.cls := findClass_of_methodNamed Bd.named
  have hnm := (name_of_methodNamed Bd.named Bd.method).1
  have X0 : Stand p l e room_1 s m #[(.int k)] below meth c s₁ [] 0 0 := Stand.of_body Bd
  have e0 : s₁.heap = h0 := by rw [← hh, Bd.state]; rfl
  have N0 := Fr.nil n0
  obtain ⟨P, hP, R0⟩ : ∃ P : State → Prop, (∀ t, P t → Steps p.tables e below (s₁.setTop (entryFrame m #[(.int k)] maxLocals)) t) ∧ Go p e below P s₁ (mkF m 0 #[.val (.int k), .unset, .unset, .unset] []) := ⟨_, fun _ h => h, fun t_ k_ => castTop (ef_law_ m k) k_⟩
  have R29 : Go p e below P s₁ (mkF m 1 #[.val (.int k), .unset, .unset, .unset] [(.int k)]) := fun t_ k_ => R0 t_ (XS.iloadN X0.here hx rfl (hb hby at_0) rfl k_)
  have R30 : Go p e below P s₁ (mkF m 2 #[.val (.int k), .unset, .unset, .unset] [(.int (1 : Int32)), (.int k)]) := fun t_ k_ => R29 t_ (XS.iconst X0.here hx rfl (hb hby at_1) k_)
  have R31 : Go p e below P s₁ (mkF m 3 #[.val (.int k), .unset, .unset, .unset] [(.int (k &&& (1 : Int32)))]) := fun t_ k_ => R30 t_ (XS.iand X0.here hx rfl (hb hby at_2) rfl k_)
  by_cases hc32 : (k &&& (1 : Int32)) = (0 : Int32)
  · have R33 : Go p e below P s₁ (mkF m 10 #[.val (.int k), .unset, .unset, .unset] []) := fun t_ k_ => R31 t_ (XS.ifYes X0.here hx rfl (pc0 := 3) (pc' := 10) rfl (hb hby at_3) rfl ((if0 _ _).trans (teq hc32).1) (by decide) (by decide) k_)
    have R34 : Go p e below P s₁ (mkF m 11 #[.val (.int k), .unset, .unset, .unset] [(.int (0 : Int32))]) := fun t_ k_ => R33 t_ (XS.iconst X0.here hx rfl (hb hby at_10) k_)
    have R35 : Go p e below P s₁ (mkF m 12 #[.val (.int k), .val (.int (0 : Int32)), .unset, .unset] []) := fun t_ k_ => R34 t_ (XS.istoreN X0.here hx rfl (hb hby at_11) rfl (l' := #[.val (.int k), .val (.int (0 : Int32)), .unset, .unset]) rfl k_)
    have R36 : Go p e below P s₁ (mkF m 13 #[.val (.int k), .val (.int (0 : Int32)), .unset, .unset] [(.int k)]) := fun t_ k_ => R35 t_ (XS.iloadN X0.here hx rfl (hb hby at_12) rfl k_)
    have R37 : Go p e below P s₁ (mkF m 14 #[.val (.int k), .val (.int (0 : Int32)), .unset, .unset] [(.int (2 : Int32)), (.int k)]) := fun t_ k_ => R36 t_ (XS.iconst X0.here hx rfl (hb hby at_13) k_)
    have R38 : Go p e below P s₁ (mkF m 15 #[.val (.int k), .val (.int (0 : Int32)), .unset, .unset] [(.int (k &&& (2 : Int32)))]) := fun t_ k_ => R37 t_ (XS.iand X0.here hx rfl (hb hby at_14) rfl k_)
    by_cases hc39 : (k &&& (2 : Int32)) = (0 : Int32)
    · have R40 : Go p e below P s₁ (mkF m 22 #[.val (.int k), .val (.int (0 : Int32)), .unset, .unset] []) := fun t_ k_ => R38 t_ (XS.ifYes X0.here hx rfl (pc0 := 15) (pc' := 22) rfl (hb hby at_15) rfl ((if0 _ _).trans (teq hc39).1) (by decide) (by decide) k_)
      have R41 : Go p e below P s₁ (mkF m 23 #[.val (.int k), .val (.int (0 : Int32)), .unset, .unset] [(.int (0 : Int32))]) := fun t_ k_ => R40 t_ (XS.iconst X0.here hx rfl (hb hby at_22) k_)
      have R42 : Go p e below P s₁ (mkF m 24 #[.val (.int k), .val (.int (0 : Int32)), .val (.int (0 : Int32)), .unset] []) := fun t_ k_ => R41 t_ (XS.istoreN X0.here hx rfl (hb hby at_23) rfl (l' := #[.val (.int k), .val (.int (0 : Int32)), .val (.int (0 : Int32)), .unset]) rfl k_)
      have R43 : Go p e below P s₁ (mkF m 25 #[.val (.int k), .val (.int (0 : Int32)), .val (.int (0 : Int32)), .unset] [(.int (0 : Int32))]) := fun t_ k_ => R42 t_ (XS.iloadN X0.here hx rfl (hb hby at_24) rfl k_)
      have R44 : Go p e below P s₁ (mkF m 26 #[.val (.int k), .val (.int (0 : Int32)), .val (.int (0 : Int32)), .unset] [(.int (0 : Int32)), (.int (0 : Int32))]) := fun t_ k_ => R43 t_ (XS.iloadN X0.here hx rfl (hb hby at_25) rfl k_)
      obtain ⟨_, _, ⟨T45, L45, k45, n45⟩, -, X45, ⟨Lc45, hQ45, l45, y45, z45⟩, st45⟩ := Jvm.LawKit.callS X0 hx (y := (⟨"com/example/progression/progression/Verdict", "of", "(ZZ)Lcom/example/progression/progression/Verdict;"⟩ : MethodName)) hown (mvT hZ (hw _ (List.mem_of_getElem? (i := 0) rfl))) (mvT hZ (hw _ (List.mem_of_getElem? (i := 1) rfl))) (mvT hZ (hw _ (List.mem_of_getElem? (i := 2) rfl))) (mvT hZ (hw _ (List.mem_of_getElem? (i := 3) rfl))) (by decide) (backOf (W := 0) (of_ l Z a0 hw [] (0 : Int32) (0 : Int32) w0 w1 w2 w3 h0 n0 O0 P0 P1 P2 P3) hZ (hw _ (List.mem_of_getElem? (i := 3) rfl)) (hw _ (List.mem_of_getElem? (i := 2) rfl)) (by decide) (by decide)) (g := (mkF m 26 #[.val (.int k), .val (.int (0 : Int32)), .val (.int (0 : Int32)), .unset] [(.int (0 : Int32)), (.int (0 : Int32))])) rfl (by rw [hml]; rfl) (argsL := [(.int (0 : Int32)), (.int (0 : Int32))]) (rest := []) (lenOf pd_87660929 rfl) rfl (by show 2 * 0 + _ ≤ _; exact Nat.le_of_eq rfl) (hb hby at_26) (fun _ _ => ⟨rfl, e0, (by decide : 0 + 0 ≤ _), (by decide : 0 + 0 ≤ _)⟩)
      dsimp only [Pt.U, Pt.locs, Pt.cells, Pt.slots] at X45 l45 y45 z45 st45 hQ45
      subst l45 y45 z45
      obtain ⟨rfl, N45q, K45⟩ := hQ45
      have N45 := Fr.app N0 N45q
      have R46 : Go p e below P T45 (mkF m 29 #[.val (.int k), .val (.int (0 : Int32)), .val (.int (0 : Int32)), .unset] [(.ref (ofW w0 w1 w2 w3 (0 : Int32) (0 : Int32)))]) := fun t_ k_ => R44 t_ (st45 t_ k_)
      have er47 : (ofW w0 w1 w2 w3 (0 : Int32) (0 : Int32)) = w3 := by simp [ofW]
      have R48 : Go p e below P T45 (mkF m 29 #[.val (.int k), .val (.int (0 : Int32)), .val (.int (0 : Int32)), .unset] [(.ref w3)]) := by have q := R46; rw [er47] at q; exact q
      have R49 : Go p e below P T45 (mkF m 30 #[.val (.int k), .val (.int (0 : Int32)), .val (.int (0 : Int32)), .val (.ref w3)] []) := fun t_ k_ => R48 t_ (XS.astoreN X45.here hx rfl (hb hby at_29) rfl rfl (l' := #[.val (.int k), .val (.int (0 : Int32)), .val (.int (0 : Int32)), .val (.ref w3)]) rfl k_)
      have R50 : Go p e below P T45 (mkF m 31 #[.val (.int k), .val (.int (0 : Int32)), .val (.int (0 : Int32)), .val (.ref w3)] [(.ref w3)]) := fun t_ k_ => R49 t_ (XS.aloadN X45.here hx rfl (hb hby at_30) rfl rfl k_)
      have R51 : Go p e below P T45 (mkF m 36 #[.val (.int k), .val (.int (0 : Int32)), .val (.int (0 : Int32)), .val (.ref w3)] []) := fun t_ k_ => R50 t_ (XS.ifnonnullYes X45.here hx rfl (pc0 := 31) (pc' := 36) rfl (hb hby at_31) rfl (by decide) (by decide) k_)
      have R52 : Go p e below P T45 (mkF m 37 #[.val (.int k), .val (.int (0 : Int32)), .val (.int (0 : Int32)), .val (.ref w3)] [(.ref w3)]) := fun t_ k_ => R51 t_ (XS.aloadN X45.here hx rfl (hb hby at_36) rfl rfl k_)
      obtain ⟨cq53, kq53, q53a, q53b, q53c⟩ := isOf hZ K45 (P7.ext O0.2)
      obtain ⟨_, _, ⟨T53, L53, k53, n53⟩, -, X53, ⟨Lc53, hQ53, l53, y53, z53⟩, st53⟩ := X45.virtualBack hx (y := (⟨"com/example/progression/progression/Verdict", "holds", "()Z"⟩ : MethodName)) (z := (⟨"com/example/progression/progression/Verdict", "holds", "()Z"⟩ : MethodName)) hown (mvT hZ (hw _ (List.mem_of_getElem? (i := 6) rfl))) (mvT hZ (hw _ (List.mem_of_getElem? (i := 7) rfl))) (notFace_of_selects (args := #[]) (mvT hZ (hw _ (List.mem_of_getElem? (i := 9) rfl)))) (mvT hZ (hw _ (List.mem_of_getElem? (i := 9) rfl))) (mvT hZ (hw _ (List.mem_of_getElem? (i := 8) rfl))) (by decide) (backOf (W := 0) (holds_ l Z a0 hw [] w3 (0 : Int32) h0 n0 O0 (P11.ext O0.2) (by decide)) hZ (hw _ (List.mem_of_getElem? (i := 10) rfl)) (hw _ (List.mem_of_getElem? (i := 2) rfl)) (by decide) (by decide)) q53a q53c (g := (mkF m 37 #[.val (.int k), .val (.int (0 : Int32)), .val (.int (0 : Int32)), .val (.ref w3)] [(.ref w3)])) rfl (by rw [hml]; rfl) (Steps.refl _) (argsL := []) (rest := []) (lenOf pd_16428538 rfl) rfl (by show 2 * 0 + _ ≤ _; exact Nat.le_of_eq rfl) (hb hby at_37) (fun _ _ => ⟨rfl, K45, (by decide : 0 + 0 ≤ _), (by decide : 0 + 0 ≤ _)⟩)
      dsimp only [Pt.U, Pt.locs, Pt.cells, Pt.slots] at X53 l53 y53 z53 st53 hQ53
      subst l53 y53 z53
      obtain ⟨rfl, N53q, K53⟩ := hQ53
      have N53 := Fr.app N45 N53q
      have R54 : Go p e below P T53 (mkF m 40 #[.val (.int k), .val (.int (0 : Int32)), .val (.int (0 : Int32)), .val (.ref w3)] [(.int (0 : Int32))]) := fun t_ k_ => R52 t_ (st53.trans k_)
      have R55 : Go p e below P T53 (mkF m 41 #[.val (.int k), .val (.int (0 : Int32)), .val (.int (0 : Int32)), .val (.ref w3)] [(.int (0 : Int32)), (.int (0 : Int32))]) := fun t_ k_ => R54 t_ (XS.iloadN X53.here hx rfl (hb hby at_40) rfl k_)
      have R56 : Go p e below P T53 (mkF m 44 #[.val (.int k), .val (.int (0 : Int32)), .val (.int (0 : Int32)), .val (.ref w3)] []) := fun t_ k_ => R55 t_ (XS.icmpNo X53.here hx rfl (hb hby at_41) rfl (teq rfl).2 k_)
      have R57 : Go p e below P T53 (mkF m 45 #[.val (.int k), .val (.int (0 : Int32)), .val (.int (0 : Int32)), .val (.ref w3)] [(.ref w3)]) := fun t_ k_ => R56 t_ (XS.aloadN X53.here hx rfl (hb hby at_44) rfl rfl k_)
      obtain ⟨cq58, kq58, q58a, q58b, q58c⟩ := isOf hZ K53 (P7.ext O0.2)
      obtain ⟨_, _, ⟨T58, L58, k58, n58⟩, -, X58, ⟨Lc58, hQ58, l58, y58, z58⟩, st58⟩ := X53.virtualBack hx (y := (⟨"com/example/progression/progression/Verdict", "isDecided", "()Z"⟩ : MethodName)) (z := (⟨"com/example/progression/progression/Verdict", "isDecided", "()Z"⟩ : MethodName)) hown (mvT hZ (hw _ (List.mem_of_getElem? (i := 13) rfl))) (mvT hZ (hw _ (List.mem_of_getElem? (i := 14) rfl))) (notFace_of_selects (args := #[]) (mvT hZ (hw _ (List.mem_of_getElem? (i := 16) rfl)))) (mvT hZ (hw _ (List.mem_of_getElem? (i := 16) rfl))) (mvT hZ (hw _ (List.mem_of_getElem? (i := 15) rfl))) (by decide) (backOf (W := 0) (decided_ l Z a0 hw [] w3 (0 : Int32) h0 n0 O0 (P15.ext O0.2) (by decide)) hZ (hw _ (List.mem_of_getElem? (i := 17) rfl)) (hw _ (List.mem_of_getElem? (i := 2) rfl)) (by decide) (by decide)) q58a q58c (g := (mkF m 45 #[.val (.int k), .val (.int (0 : Int32)), .val (.int (0 : Int32)), .val (.ref w3)] [(.ref w3)])) rfl (by rw [hml]; rfl) (Steps.refl _) (argsL := []) (rest := []) (lenOf pd_16428538 rfl) rfl (by show 2 * 0 + _ ≤ _; exact Nat.le_of_eq rfl) (hb hby at_45) (fun _ _ => ⟨rfl, K53, (by decide : 0 + 0 ≤ _), (by decide : 0 + 0 ≤ _)⟩)
      dsimp only [Pt.U, Pt.locs, Pt.cells, Pt.slots] at X58 l58 y58 z58 st58 hQ58
      subst l58 y58 z58
      obtain ⟨rfl, N58q, K58⟩ := hQ58
      have N58 := Fr.app N53 N58q
      have R59 : Go p e below P T58 (mkF m 48 #[.val (.int k), .val (.int (0 : Int32)), .val (.int (0 : Int32)), .val (.ref w3)] [(.int (0 : Int32))]) := fun t_ k_ => R57 t_ (st58.trans k_)
      have R60 : Go p e below P T58 (mkF m 49 #[.val (.int k), .val (.int (0 : Int32)), .val (.int (0 : Int32)), .val (.ref w3)] [(.int (0 : Int32)), (.int (0 : Int32))]) := fun t_ k_ => R59 t_ (XS.iloadN X58.here hx rfl (hb hby at_48) rfl k_)
      have R61 : Go p e below P T58 (mkF m 52 #[.val (.int k), .val (.int (0 : Int32)), .val (.int (0 : Int32)), .val (.ref w3)] []) := fun t_ k_ => R60 t_ (XS.icmpNo X58.here hx rfl (hb hby at_49) rfl (teq rfl).2 k_)
      have R62 : Go p e below P T58 (mkF m 53 #[.val (.int k), .val (.int (0 : Int32)), .val (.int (0 : Int32)), .val (.ref w3)] [(.int (1 : Int32))]) := fun t_ k_ => R61 t_ (XS.iconst X58.here hx rfl (hb hby at_52) k_)
      have R63 : Go p e below P T58 (mkF m 57 #[.val (.int k), .val (.int (0 : Int32)), .val (.int (0 : Int32)), .val (.ref w3)] [(.int (1 : Int32))]) := fun t_ k_ => R62 t_ (XS.goto X58.here hx rfl (pc0 := 53) (pc' := 57) rfl (hb hby at_53) (by decide) (by decide) k_)
      obtain ⟨fs, hr, hrun, hended, hW, hsame⟩ := X58.leave (v := some (.int (nar .boolean (1 : Int32)))) (fun h => by rw [Bd.returns] at h; cases h)
      exact ⟨_, _, hP _ (R63 _ (retN X58 hx (t := .boolean) Bd.returns (by simp) (hb hby at_57) hr)), hrun, hended, _, _, rfl, ⟨rfl, N58, K58⟩, ⟨_, rfl⟩, hW, hsame.mono (by decide) (by decide)⟩
    · have R64 : Go p e below P s₁ (mkF m 18 #[.val (.int k), .val (.int (0 : Int32)), .unset, .unset] []) := fun t_ k_ => R38 t_ (XS.ifNo X0.here hx rfl (hb hby at_15) rfl ((if0 _ _).trans (feq hc39).1) k_)
      have R65 : Go p e below P s₁ (mkF m 19 #[.val (.int k), .val (.int (0 : Int32)), .unset, .unset] [(.int (1 : Int32))]) := fun t_ k_ => R64 t_ (XS.iconst X0.here hx rfl (hb hby at_18) k_)
      have R66 : Go p e below P s₁ (mkF m 23 #[.val (.int k), .val (.int (0 : Int32)), .unset, .unset] [(.int (1 : Int32))]) := fun t_ k_ => R65 t_ (XS.goto X0.here hx rfl (pc0 := 19) (pc' := 23) rfl (hb hby at_19) (by decide) (by decide) k_)
      have R67 : Go p e below P s₁ (mkF m 24 #[.val (.int k), .val (.int (0 : Int32)), .val (.int (1 : Int32)), .unset] []) := fun t_ k_ => R66 t_ (XS.istoreN X0.here hx rfl (hb hby at_23) rfl (l' := #[.val (.int k), .val (.int (0 : Int32)), .val (.int (1 : Int32)), .unset]) rfl k_)
      have R68 : Go p e below P s₁ (mkF m 25 #[.val (.int k), .val (.int (0 : Int32)), .val (.int (1 : Int32)), .unset] [(.int (0 : Int32))]) := fun t_ k_ => R67 t_ (XS.iloadN X0.here hx rfl (hb hby at_24) rfl k_)
      have R69 : Go p e below P s₁ (mkF m 26 #[.val (.int k), .val (.int (0 : Int32)), .val (.int (1 : Int32)), .unset] [(.int (1 : Int32)), (.int (0 : Int32))]) := fun t_ k_ => R68 t_ (XS.iloadN X0.here hx rfl (hb hby at_25) rfl k_)
      obtain ⟨_, _, ⟨T70, L70, k70, n70⟩, -, X70, ⟨Lc70, hQ70, l70, y70, z70⟩, st70⟩ := Jvm.LawKit.callS X0 hx (y := (⟨"com/example/progression/progression/Verdict", "of", "(ZZ)Lcom/example/progression/progression/Verdict;"⟩ : MethodName)) hown (mvT hZ (hw _ (List.mem_of_getElem? (i := 0) rfl))) (mvT hZ (hw _ (List.mem_of_getElem? (i := 1) rfl))) (mvT hZ (hw _ (List.mem_of_getElem? (i := 2) rfl))) (mvT hZ (hw _ (List.mem_of_getElem? (i := 3) rfl))) (by decide) (backOf (W := 0) (of_ l Z a0 hw [] (0 : Int32) (1 : Int32) w0 w1 w2 w3 h0 n0 O0 P0 P1 P2 P3) hZ (hw _ (List.mem_of_getElem? (i := 3) rfl)) (hw _ (List.mem_of_getElem? (i := 2) rfl)) (by decide) (by decide)) (g := (mkF m 26 #[.val (.int k), .val (.int (0 : Int32)), .val (.int (1 : Int32)), .unset] [(.int (1 : Int32)), (.int (0 : Int32))])) rfl (by rw [hml]; rfl) (argsL := [(.int (0 : Int32)), (.int (1 : Int32))]) (rest := []) (lenOf pd_87660929 rfl) rfl (by show 2 * 0 + _ ≤ _; exact Nat.le_of_eq rfl) (hb hby at_26) (fun _ _ => ⟨rfl, e0, (by decide : 0 + 0 ≤ _), (by decide : 0 + 0 ≤ _)⟩)
      dsimp only [Pt.U, Pt.locs, Pt.cells, Pt.slots] at X70 l70 y70 z70 st70 hQ70
      subst l70 y70 z70
      obtain ⟨rfl, N70q, K70⟩ := hQ70
      have N70 := Fr.app N0 N70q
      have R71 : Go p e below P T70 (mkF m 29 #[.val (.int k), .val (.int (0 : Int32)), .val (.int (1 : Int32)), .unset] [(.ref (ofW w0 w1 w2 w3 (0 : Int32) (1 : Int32)))]) := fun t_ k_ => R69 t_ (st70 t_ k_)
      have er72 : (ofW w0 w1 w2 w3 (0 : Int32) (1 : Int32)) = w1 := by simp [ofW]
      have R73 : Go p e below P T70 (mkF m 29 #[.val (.int k), .val (.int (0 : Int32)), .val (.int (1 : Int32)), .unset] [(.ref w1)]) := by have q := R71; rw [er72] at q; exact q
      have R74 : Go p e below P T70 (mkF m 30 #[.val (.int k), .val (.int (0 : Int32)), .val (.int (1 : Int32)), .val (.ref w1)] []) := fun t_ k_ => R73 t_ (XS.astoreN X70.here hx rfl (hb hby at_29) rfl rfl (l' := #[.val (.int k), .val (.int (0 : Int32)), .val (.int (1 : Int32)), .val (.ref w1)]) rfl k_)
      have R75 : Go p e below P T70 (mkF m 31 #[.val (.int k), .val (.int (0 : Int32)), .val (.int (1 : Int32)), .val (.ref w1)] [(.ref w1)]) := fun t_ k_ => R74 t_ (XS.aloadN X70.here hx rfl (hb hby at_30) rfl rfl k_)
      have R76 : Go p e below P T70 (mkF m 36 #[.val (.int k), .val (.int (0 : Int32)), .val (.int (1 : Int32)), .val (.ref w1)] []) := fun t_ k_ => R75 t_ (XS.ifnonnullYes X70.here hx rfl (pc0 := 31) (pc' := 36) rfl (hb hby at_31) rfl (by decide) (by decide) k_)
      have R77 : Go p e below P T70 (mkF m 37 #[.val (.int k), .val (.int (0 : Int32)), .val (.int (1 : Int32)), .val (.ref w1)] [(.ref w1)]) := fun t_ k_ => R76 t_ (XS.aloadN X70.here hx rfl (hb hby at_36) rfl rfl k_)
      obtain ⟨cq78, kq78, q78a, q78b, q78c⟩ := isOf hZ K70 (P5.ext O0.2)
      obtain ⟨_, _, ⟨T78, L78, k78, n78⟩, -, X78, ⟨Lc78, hQ78, l78, y78, z78⟩, st78⟩ := X70.virtualBack hx (y := (⟨"com/example/progression/progression/Verdict", "holds", "()Z"⟩ : MethodName)) (z := (⟨"com/example/progression/progression/Verdict", "holds", "()Z"⟩ : MethodName)) hown (mvT hZ (hw _ (List.mem_of_getElem? (i := 6) rfl))) (mvT hZ (hw _ (List.mem_of_getElem? (i := 7) rfl))) (notFace_of_selects (args := #[]) (mvT hZ (hw _ (List.mem_of_getElem? (i := 9) rfl)))) (mvT hZ (hw _ (List.mem_of_getElem? (i := 9) rfl))) (mvT hZ (hw _ (List.mem_of_getElem? (i := 8) rfl))) (by decide) (backOf (W := 0) (holds_ l Z a0 hw [] w1 (0 : Int32) h0 n0 O0 (P9.ext O0.2) (by decide)) hZ (hw _ (List.mem_of_getElem? (i := 10) rfl)) (hw _ (List.mem_of_getElem? (i := 2) rfl)) (by decide) (by decide)) q78a q78c (g := (mkF m 37 #[.val (.int k), .val (.int (0 : Int32)), .val (.int (1 : Int32)), .val (.ref w1)] [(.ref w1)])) rfl (by rw [hml]; rfl) (Steps.refl _) (argsL := []) (rest := []) (lenOf pd_16428538 rfl) rfl (by show 2 * 0 + _ ≤ _; exact Nat.le_of_eq rfl) (hb hby at_37) (fun _ _ => ⟨rfl, K70, (by decide : 0 + 0 ≤ _), (by decide : 0 + 0 ≤ _)⟩)
      dsimp only [Pt.U, Pt.locs, Pt.cells, Pt.slots] at X78 l78 y78 z78 st78 hQ78
      subst l78 y78 z78
      obtain ⟨rfl, N78q, K78⟩ := hQ78
      have N78 := Fr.app N70 N78q
      have R79 : Go p e below P T78 (mkF m 40 #[.val (.int k), .val (.int (0 : Int32)), .val (.int (1 : Int32)), .val (.ref w1)] [(.int (0 : Int32))]) := fun t_ k_ => R77 t_ (st78.trans k_)
      have R80 : Go p e below P T78 (mkF m 41 #[.val (.int k), .val (.int (0 : Int32)), .val (.int (1 : Int32)), .val (.ref w1)] [(.int (0 : Int32)), (.int (0 : Int32))]) := fun t_ k_ => R79 t_ (XS.iloadN X78.here hx rfl (hb hby at_40) rfl k_)
      have R81 : Go p e below P T78 (mkF m 44 #[.val (.int k), .val (.int (0 : Int32)), .val (.int (1 : Int32)), .val (.ref w1)] []) := fun t_ k_ => R80 t_ (XS.icmpNo X78.here hx rfl (hb hby at_41) rfl (teq rfl).2 k_)
      have R82 : Go p e below P T78 (mkF m 45 #[.val (.int k), .val (.int (0 : Int32)), .val (.int (1 : Int32)), .val (.ref w1)] [(.ref w1)]) := fun t_ k_ => R81 t_ (XS.aloadN X78.here hx rfl (hb hby at_44) rfl rfl k_)
      obtain ⟨cq83, kq83, q83a, q83b, q83c⟩ := isOf hZ K78 (P5.ext O0.2)
      obtain ⟨_, _, ⟨T83, L83, k83, n83⟩, -, X83, ⟨Lc83, hQ83, l83, y83, z83⟩, st83⟩ := X78.virtualBack hx (y := (⟨"com/example/progression/progression/Verdict", "isDecided", "()Z"⟩ : MethodName)) (z := (⟨"com/example/progression/progression/Verdict", "isDecided", "()Z"⟩ : MethodName)) hown (mvT hZ (hw _ (List.mem_of_getElem? (i := 13) rfl))) (mvT hZ (hw _ (List.mem_of_getElem? (i := 14) rfl))) (notFace_of_selects (args := #[]) (mvT hZ (hw _ (List.mem_of_getElem? (i := 16) rfl)))) (mvT hZ (hw _ (List.mem_of_getElem? (i := 16) rfl))) (mvT hZ (hw _ (List.mem_of_getElem? (i := 15) rfl))) (by decide) (backOf (W := 0) (decided_ l Z a0 hw [] w1 (1 : Int32) h0 n0 O0 (P13.ext O0.2) (by decide)) hZ (hw _ (List.mem_of_getElem? (i := 17) rfl)) (hw _ (List.mem_of_getElem? (i := 2) rfl)) (by decide) (by decide)) q83a q83c (g := (mkF m 45 #[.val (.int k), .val (.int (0 : Int32)), .val (.int (1 : Int32)), .val (.ref w1)] [(.ref w1)])) rfl (by rw [hml]; rfl) (Steps.refl _) (argsL := []) (rest := []) (lenOf pd_16428538 rfl) rfl (by show 2 * 0 + _ ≤ _; exact Nat.le_of_eq rfl) (hb hby at_45) (fun _ _ => ⟨rfl, K78, (by decide : 0 + 0 ≤ _), (by decide : 0 + 0 ≤ _)⟩)
      dsimp only [Pt.U, Pt.locs, Pt.cells, Pt.slots] at X83 l83 y83 z83 st83 hQ83
      subst l83 y83 z83
      obtain ⟨rfl, N83q, K83⟩ := hQ83
      have N83 := Fr.app N78 N83q
      have R84 : Go p e below P T83 (mkF m 48 #[.val (.int k), .val (.int (0 : Int32)), .val (.int (1 : Int32)), .val (.ref w1)] [(.int (1 : Int32))]) := fun t_ k_ => R82 t_ (st83.trans k_)
      have R85 : Go p e below P T83 (mkF m 49 #[.val (.int k), .val (.int (0 : Int32)), .val (.int (1 : Int32)), .val (.ref w1)] [(.int (1 : Int32)), (.int (1 : Int32))]) := fun t_ k_ => R84 t_ (XS.iloadN X83.here hx rfl (hb hby at_48) rfl k_)
      have R86 : Go p e below P T83 (mkF m 52 #[.val (.int k), .val (.int (0 : Int32)), .val (.int (1 : Int32)), .val (.ref w1)] []) := fun t_ k_ => R85 t_ (XS.icmpNo X83.here hx rfl (hb hby at_49) rfl (teq rfl).2 k_)
      have R87 : Go p e below P T83 (mkF m 53 #[.val (.int k), .val (.int (0 : Int32)), .val (.int (1 : Int32)), .val (.ref w1)] [(.int (1 : Int32))]) := fun t_ k_ => R86 t_ (XS.iconst X83.here hx rfl (hb hby at_52) k_)
      have R88 : Go p e below P T83 (mkF m 57 #[.val (.int k), .val (.int (0 : Int32)), .val (.int (1 : Int32)), .val (.ref w1)] [(.int (1 : Int32))]) := fun t_ k_ => R87 t_ (XS.goto X83.here hx rfl (pc0 := 53) (pc' := 57) rfl (hb hby at_53) (by decide) (by decide) k_)
      obtain ⟨fs, hr, hrun, hended, hW, hsame⟩ := X83.leave (v := some (.int (nar .boolean (1 : Int32)))) (fun h => by rw [Bd.returns] at h; cases h)
      exact ⟨_, _, hP _ (R88 _ (retN X83 hx (t := .boolean) Bd.returns (by simp) (hb hby at_57) hr)), hrun, hended, _, _, rfl, ⟨rfl, N83, K83⟩, ⟨_, rfl⟩, hW, hsame.mono (by decide) (by decide)⟩
  · have R89 : Go p e below P s₁ (mkF m 6 #[.val (.int k), .unset, .unset, .unset] []) := fun t_ k_ => R31 t_ (XS.ifNo X0.here hx rfl (hb hby at_3) rfl ((if0 _ _).trans (feq hc32).1) k_)
    have R90 : Go p e below P s₁ (mkF m 7 #[.val (.int k), .unset, .unset, .unset] [(.int (1 : Int32))]) := fun t_ k_ => R89 t_ (XS.iconst X0.here hx rfl (hb hby at_6) k_)
    have R91 : Go p e below P s₁ (mkF m 11 #[.val (.int k), .unset, .unset, .unset] [(.int (1 : Int32))]) := fun t_ k_ => R90 t_ (XS.goto X0.here hx rfl (pc0 := 7) (pc' := 11) rfl (hb hby at_7) (by decide) (by decide) k_)
    have R92 : Go p e below P s₁ (mkF m 12 #[.val (.int k), .val (.int (1 : Int32)), .unset, .unset] []) := fun t_ k_ => R91 t_ (XS.istoreN X0.here hx rfl (hb hby at_11) rfl (l' := #[.val (.int k), .val (.int (1 : Int32)), .unset, .unset]) rfl k_)
    have R93 : Go p e below P s₁ (mkF m 13 #[.val (.int k), .val (.int (1 : Int32)), .unset, .unset] [(.int k)]) := fun t_ k_ => R92 t_ (XS.iloadN X0.here hx rfl (hb hby at_12) rfl k_)
    have R94 : Go p e below P s₁ (mkF m 14 #[.val (.int k), .val (.int (1 : Int32)), .unset, .unset] [(.int (2 : Int32)), (.int k)]) := fun t_ k_ => R93 t_ (XS.iconst X0.here hx rfl (hb hby at_13) k_)
    have R95 : Go p e below P s₁ (mkF m 15 #[.val (.int k), .val (.int (1 : Int32)), .unset, .unset] [(.int (k &&& (2 : Int32)))]) := fun t_ k_ => R94 t_ (XS.iand X0.here hx rfl (hb hby at_14) rfl k_)
    by_cases hc96 : (k &&& (2 : Int32)) = (0 : Int32)
    · have R97 : Go p e below P s₁ (mkF m 22 #[.val (.int k), .val (.int (1 : Int32)), .unset, .unset] []) := fun t_ k_ => R95 t_ (XS.ifYes X0.here hx rfl (pc0 := 15) (pc' := 22) rfl (hb hby at_15) rfl ((if0 _ _).trans (teq hc96).1) (by decide) (by decide) k_)
      have R98 : Go p e below P s₁ (mkF m 23 #[.val (.int k), .val (.int (1 : Int32)), .unset, .unset] [(.int (0 : Int32))]) := fun t_ k_ => R97 t_ (XS.iconst X0.here hx rfl (hb hby at_22) k_)
      have R99 : Go p e below P s₁ (mkF m 24 #[.val (.int k), .val (.int (1 : Int32)), .val (.int (0 : Int32)), .unset] []) := fun t_ k_ => R98 t_ (XS.istoreN X0.here hx rfl (hb hby at_23) rfl (l' := #[.val (.int k), .val (.int (1 : Int32)), .val (.int (0 : Int32)), .unset]) rfl k_)
      have R100 : Go p e below P s₁ (mkF m 25 #[.val (.int k), .val (.int (1 : Int32)), .val (.int (0 : Int32)), .unset] [(.int (1 : Int32))]) := fun t_ k_ => R99 t_ (XS.iloadN X0.here hx rfl (hb hby at_24) rfl k_)
      have R101 : Go p e below P s₁ (mkF m 26 #[.val (.int k), .val (.int (1 : Int32)), .val (.int (0 : Int32)), .unset] [(.int (0 : Int32)), (.int (1 : Int32))]) := fun t_ k_ => R100 t_ (XS.iloadN X0.here hx rfl (hb hby at_25) rfl k_)
      obtain ⟨_, _, ⟨T102, L102, k102, n102⟩, -, X102, ⟨Lc102, hQ102, l102, y102, z102⟩, st102⟩ := Jvm.LawKit.callS X0 hx (y := (⟨"com/example/progression/progression/Verdict", "of", "(ZZ)Lcom/example/progression/progression/Verdict;"⟩ : MethodName)) hown (mvT hZ (hw _ (List.mem_of_getElem? (i := 0) rfl))) (mvT hZ (hw _ (List.mem_of_getElem? (i := 1) rfl))) (mvT hZ (hw _ (List.mem_of_getElem? (i := 2) rfl))) (mvT hZ (hw _ (List.mem_of_getElem? (i := 3) rfl))) (by decide) (backOf (W := 0) (of_ l Z a0 hw [] (1 : Int32) (0 : Int32) w0 w1 w2 w3 h0 n0 O0 P0 P1 P2 P3) hZ (hw _ (List.mem_of_getElem? (i := 3) rfl)) (hw _ (List.mem_of_getElem? (i := 2) rfl)) (by decide) (by decide)) (g := (mkF m 26 #[.val (.int k), .val (.int (1 : Int32)), .val (.int (0 : Int32)), .unset] [(.int (0 : Int32)), (.int (1 : Int32))])) rfl (by rw [hml]; rfl) (argsL := [(.int (1 : Int32)), (.int (0 : Int32))]) (rest := []) (lenOf pd_87660929 rfl) rfl (by show 2 * 0 + _ ≤ _; exact Nat.le_of_eq rfl) (hb hby at_26) (fun _ _ => ⟨rfl, e0, (by decide : 0 + 0 ≤ _), (by decide : 0 + 0 ≤ _)⟩)
      dsimp only [Pt.U, Pt.locs, Pt.cells, Pt.slots] at X102 l102 y102 z102 st102 hQ102
      subst l102 y102 z102
      obtain ⟨rfl, N102q, K102⟩ := hQ102
      have N102 := Fr.app N0 N102q
      have R103 : Go p e below P T102 (mkF m 29 #[.val (.int k), .val (.int (1 : Int32)), .val (.int (0 : Int32)), .unset] [(.ref (ofW w0 w1 w2 w3 (1 : Int32) (0 : Int32)))]) := fun t_ k_ => R101 t_ (st102 t_ k_)
      have er104 : (ofW w0 w1 w2 w3 (1 : Int32) (0 : Int32)) = w2 := by simp [ofW]
      have R105 : Go p e below P T102 (mkF m 29 #[.val (.int k), .val (.int (1 : Int32)), .val (.int (0 : Int32)), .unset] [(.ref w2)]) := by have q := R103; rw [er104] at q; exact q
      have R106 : Go p e below P T102 (mkF m 30 #[.val (.int k), .val (.int (1 : Int32)), .val (.int (0 : Int32)), .val (.ref w2)] []) := fun t_ k_ => R105 t_ (XS.astoreN X102.here hx rfl (hb hby at_29) rfl rfl (l' := #[.val (.int k), .val (.int (1 : Int32)), .val (.int (0 : Int32)), .val (.ref w2)]) rfl k_)
      have R107 : Go p e below P T102 (mkF m 31 #[.val (.int k), .val (.int (1 : Int32)), .val (.int (0 : Int32)), .val (.ref w2)] [(.ref w2)]) := fun t_ k_ => R106 t_ (XS.aloadN X102.here hx rfl (hb hby at_30) rfl rfl k_)
      have R108 : Go p e below P T102 (mkF m 36 #[.val (.int k), .val (.int (1 : Int32)), .val (.int (0 : Int32)), .val (.ref w2)] []) := fun t_ k_ => R107 t_ (XS.ifnonnullYes X102.here hx rfl (pc0 := 31) (pc' := 36) rfl (hb hby at_31) rfl (by decide) (by decide) k_)
      have R109 : Go p e below P T102 (mkF m 37 #[.val (.int k), .val (.int (1 : Int32)), .val (.int (0 : Int32)), .val (.ref w2)] [(.ref w2)]) := fun t_ k_ => R108 t_ (XS.aloadN X102.here hx rfl (hb hby at_36) rfl rfl k_)
      obtain ⟨cq110, kq110, q110a, q110b, q110c⟩ := isOf hZ K102 (P6.ext O0.2)
      obtain ⟨_, _, ⟨T110, L110, k110, n110⟩, -, X110, ⟨Lc110, hQ110, l110, y110, z110⟩, st110⟩ := X102.virtualBack hx (y := (⟨"com/example/progression/progression/Verdict", "holds", "()Z"⟩ : MethodName)) (z := (⟨"com/example/progression/progression/Verdict", "holds", "()Z"⟩ : MethodName)) hown (mvT hZ (hw _ (List.mem_of_getElem? (i := 6) rfl))) (mvT hZ (hw _ (List.mem_of_getElem? (i := 7) rfl))) (notFace_of_selects (args := #[]) (mvT hZ (hw _ (List.mem_of_getElem? (i := 9) rfl)))) (mvT hZ (hw _ (List.mem_of_getElem? (i := 9) rfl))) (mvT hZ (hw _ (List.mem_of_getElem? (i := 8) rfl))) (by decide) (backOf (W := 0) (holds_ l Z a0 hw [] w2 (1 : Int32) h0 n0 O0 (P10.ext O0.2) (by decide)) hZ (hw _ (List.mem_of_getElem? (i := 10) rfl)) (hw _ (List.mem_of_getElem? (i := 2) rfl)) (by decide) (by decide)) q110a q110c (g := (mkF m 37 #[.val (.int k), .val (.int (1 : Int32)), .val (.int (0 : Int32)), .val (.ref w2)] [(.ref w2)])) rfl (by rw [hml]; rfl) (Steps.refl _) (argsL := []) (rest := []) (lenOf pd_16428538 rfl) rfl (by show 2 * 0 + _ ≤ _; exact Nat.le_of_eq rfl) (hb hby at_37) (fun _ _ => ⟨rfl, K102, (by decide : 0 + 0 ≤ _), (by decide : 0 + 0 ≤ _)⟩)
      dsimp only [Pt.U, Pt.locs, Pt.cells, Pt.slots] at X110 l110 y110 z110 st110 hQ110
      subst l110 y110 z110
      obtain ⟨rfl, N110q, K110⟩ := hQ110
      have N110 := Fr.app N102 N110q
      have R111 : Go p e below P T110 (mkF m 40 #[.val (.int k), .val (.int (1 : Int32)), .val (.int (0 : Int32)), .val (.ref w2)] [(.int (1 : Int32))]) := fun t_ k_ => R109 t_ (st110.trans k_)
      have R112 : Go p e below P T110 (mkF m 41 #[.val (.int k), .val (.int (1 : Int32)), .val (.int (0 : Int32)), .val (.ref w2)] [(.int (1 : Int32)), (.int (1 : Int32))]) := fun t_ k_ => R111 t_ (XS.iloadN X110.here hx rfl (hb hby at_40) rfl k_)
      have R113 : Go p e below P T110 (mkF m 44 #[.val (.int k), .val (.int (1 : Int32)), .val (.int (0 : Int32)), .val (.ref w2)] []) := fun t_ k_ => R112 t_ (XS.icmpNo X110.here hx rfl (hb hby at_41) rfl (teq rfl).2 k_)
      have R114 : Go p e below P T110 (mkF m 45 #[.val (.int k), .val (.int (1 : Int32)), .val (.int (0 : Int32)), .val (.ref w2)] [(.ref w2)]) := fun t_ k_ => R113 t_ (XS.aloadN X110.here hx rfl (hb hby at_44) rfl rfl k_)
      obtain ⟨cq115, kq115, q115a, q115b, q115c⟩ := isOf hZ K110 (P6.ext O0.2)
      obtain ⟨_, _, ⟨T115, L115, k115, n115⟩, -, X115, ⟨Lc115, hQ115, l115, y115, z115⟩, st115⟩ := X110.virtualBack hx (y := (⟨"com/example/progression/progression/Verdict", "isDecided", "()Z"⟩ : MethodName)) (z := (⟨"com/example/progression/progression/Verdict", "isDecided", "()Z"⟩ : MethodName)) hown (mvT hZ (hw _ (List.mem_of_getElem? (i := 13) rfl))) (mvT hZ (hw _ (List.mem_of_getElem? (i := 14) rfl))) (notFace_of_selects (args := #[]) (mvT hZ (hw _ (List.mem_of_getElem? (i := 16) rfl)))) (mvT hZ (hw _ (List.mem_of_getElem? (i := 16) rfl))) (mvT hZ (hw _ (List.mem_of_getElem? (i := 15) rfl))) (by decide) (backOf (W := 0) (decided_ l Z a0 hw [] w2 (0 : Int32) h0 n0 O0 (P14.ext O0.2) (by decide)) hZ (hw _ (List.mem_of_getElem? (i := 17) rfl)) (hw _ (List.mem_of_getElem? (i := 2) rfl)) (by decide) (by decide)) q115a q115c (g := (mkF m 45 #[.val (.int k), .val (.int (1 : Int32)), .val (.int (0 : Int32)), .val (.ref w2)] [(.ref w2)])) rfl (by rw [hml]; rfl) (Steps.refl _) (argsL := []) (rest := []) (lenOf pd_16428538 rfl) rfl (by show 2 * 0 + _ ≤ _; exact Nat.le_of_eq rfl) (hb hby at_45) (fun _ _ => ⟨rfl, K110, (by decide : 0 + 0 ≤ _), (by decide : 0 + 0 ≤ _)⟩)
      dsimp only [Pt.U, Pt.locs, Pt.cells, Pt.slots] at X115 l115 y115 z115 st115 hQ115
      subst l115 y115 z115
      obtain ⟨rfl, N115q, K115⟩ := hQ115
      have N115 := Fr.app N110 N115q
      have R116 : Go p e below P T115 (mkF m 48 #[.val (.int k), .val (.int (1 : Int32)), .val (.int (0 : Int32)), .val (.ref w2)] [(.int (0 : Int32))]) := fun t_ k_ => R114 t_ (st115.trans k_)
      have R117 : Go p e below P T115 (mkF m 49 #[.val (.int k), .val (.int (1 : Int32)), .val (.int (0 : Int32)), .val (.ref w2)] [(.int (0 : Int32)), (.int (0 : Int32))]) := fun t_ k_ => R116 t_ (XS.iloadN X115.here hx rfl (hb hby at_48) rfl k_)
      have R118 : Go p e below P T115 (mkF m 52 #[.val (.int k), .val (.int (1 : Int32)), .val (.int (0 : Int32)), .val (.ref w2)] []) := fun t_ k_ => R117 t_ (XS.icmpNo X115.here hx rfl (hb hby at_49) rfl (teq rfl).2 k_)
      have R119 : Go p e below P T115 (mkF m 53 #[.val (.int k), .val (.int (1 : Int32)), .val (.int (0 : Int32)), .val (.ref w2)] [(.int (1 : Int32))]) := fun t_ k_ => R118 t_ (XS.iconst X115.here hx rfl (hb hby at_52) k_)
      have R120 : Go p e below P T115 (mkF m 57 #[.val (.int k), .val (.int (1 : Int32)), .val (.int (0 : Int32)), .val (.ref w2)] [(.int (1 : Int32))]) := fun t_ k_ => R119 t_ (XS.goto X115.here hx rfl (pc0 := 53) (pc' := 57) rfl (hb hby at_53) (by decide) (by decide) k_)
      obtain ⟨fs, hr, hrun, hended, hW, hsame⟩ := X115.leave (v := some (.int (nar .boolean (1 : Int32)))) (fun h => by rw [Bd.returns] at h; cases h)
      exact ⟨_, _, hP _ (R120 _ (retN X115 hx (t := .boolean) Bd.returns (by simp) (hb hby at_57) hr)), hrun, hended, _, _, rfl, ⟨rfl, N115, K115⟩, ⟨_, rfl⟩, hW, hsame.mono (by decide) (by decide)⟩
    · have R121 : Go p e below P s₁ (mkF m 18 #[.val (.int k), .val (.int (1 : Int32)), .unset, .unset] []) := fun t_ k_ => R95 t_ (XS.ifNo X0.here hx rfl (hb hby at_15) rfl ((if0 _ _).trans (feq hc96).1) k_)
      have R122 : Go p e below P s₁ (mkF m 19 #[.val (.int k), .val (.int (1 : Int32)), .unset, .unset] [(.int (1 : Int32))]) := fun t_ k_ => R121 t_ (XS.iconst X0.here hx rfl (hb hby at_18) k_)
      have R123 : Go p e below P s₁ (mkF m 23 #[.val (.int k), .val (.int (1 : Int32)), .unset, .unset] [(.int (1 : Int32))]) := fun t_ k_ => R122 t_ (XS.goto X0.here hx rfl (pc0 := 19) (pc' := 23) rfl (hb hby at_19) (by decide) (by decide) k_)
      have R124 : Go p e below P s₁ (mkF m 24 #[.val (.int k), .val (.int (1 : Int32)), .val (.int (1 : Int32)), .unset] []) := fun t_ k_ => R123 t_ (XS.istoreN X0.here hx rfl (hb hby at_23) rfl (l' := #[.val (.int k), .val (.int (1 : Int32)), .val (.int (1 : Int32)), .unset]) rfl k_)
      have R125 : Go p e below P s₁ (mkF m 25 #[.val (.int k), .val (.int (1 : Int32)), .val (.int (1 : Int32)), .unset] [(.int (1 : Int32))]) := fun t_ k_ => R124 t_ (XS.iloadN X0.here hx rfl (hb hby at_24) rfl k_)
      have R126 : Go p e below P s₁ (mkF m 26 #[.val (.int k), .val (.int (1 : Int32)), .val (.int (1 : Int32)), .unset] [(.int (1 : Int32)), (.int (1 : Int32))]) := fun t_ k_ => R125 t_ (XS.iloadN X0.here hx rfl (hb hby at_25) rfl k_)
      obtain ⟨_, _, ⟨T127, L127, k127, n127⟩, -, X127, ⟨Lc127, hQ127, l127, y127, z127⟩, st127⟩ := Jvm.LawKit.callS X0 hx (y := (⟨"com/example/progression/progression/Verdict", "of", "(ZZ)Lcom/example/progression/progression/Verdict;"⟩ : MethodName)) hown (mvT hZ (hw _ (List.mem_of_getElem? (i := 0) rfl))) (mvT hZ (hw _ (List.mem_of_getElem? (i := 1) rfl))) (mvT hZ (hw _ (List.mem_of_getElem? (i := 2) rfl))) (mvT hZ (hw _ (List.mem_of_getElem? (i := 3) rfl))) (by decide) (backOf (W := 0) (of_ l Z a0 hw [] (1 : Int32) (1 : Int32) w0 w1 w2 w3 h0 n0 O0 P0 P1 P2 P3) hZ (hw _ (List.mem_of_getElem? (i := 3) rfl)) (hw _ (List.mem_of_getElem? (i := 2) rfl)) (by decide) (by decide)) (g := (mkF m 26 #[.val (.int k), .val (.int (1 : Int32)), .val (.int (1 : Int32)), .unset] [(.int (1 : Int32)), (.int (1 : Int32))])) rfl (by rw [hml]; rfl) (argsL := [(.int (1 : Int32)), (.int (1 : Int32))]) (rest := []) (lenOf pd_87660929 rfl) rfl (by show 2 * 0 + _ ≤ _; exact Nat.le_of_eq rfl) (hb hby at_26) (fun _ _ => ⟨rfl, e0, (by decide : 0 + 0 ≤ _), (by decide : 0 + 0 ≤ _)⟩)
      dsimp only [Pt.U, Pt.locs, Pt.cells, Pt.slots] at X127 l127 y127 z127 st127 hQ127
      subst l127 y127 z127
      obtain ⟨rfl, N127q, K127⟩ := hQ127
      have N127 := Fr.app N0 N127q
      have R128 : Go p e below P T127 (mkF m 29 #[.val (.int k), .val (.int (1 : Int32)), .val (.int (1 : Int32)), .unset] [(.ref (ofW w0 w1 w2 w3 (1 : Int32) (1 : Int32)))]) := fun t_ k_ => R126 t_ (st127 t_ k_)
      have er129 : (ofW w0 w1 w2 w3 (1 : Int32) (1 : Int32)) = w0 := by simp [ofW]
      have R130 : Go p e below P T127 (mkF m 29 #[.val (.int k), .val (.int (1 : Int32)), .val (.int (1 : Int32)), .unset] [(.ref w0)]) := by have q := R128; rw [er129] at q; exact q
      have R131 : Go p e below P T127 (mkF m 30 #[.val (.int k), .val (.int (1 : Int32)), .val (.int (1 : Int32)), .val (.ref w0)] []) := fun t_ k_ => R130 t_ (XS.astoreN X127.here hx rfl (hb hby at_29) rfl rfl (l' := #[.val (.int k), .val (.int (1 : Int32)), .val (.int (1 : Int32)), .val (.ref w0)]) rfl k_)
      have R132 : Go p e below P T127 (mkF m 31 #[.val (.int k), .val (.int (1 : Int32)), .val (.int (1 : Int32)), .val (.ref w0)] [(.ref w0)]) := fun t_ k_ => R131 t_ (XS.aloadN X127.here hx rfl (hb hby at_30) rfl rfl k_)
      have R133 : Go p e below P T127 (mkF m 36 #[.val (.int k), .val (.int (1 : Int32)), .val (.int (1 : Int32)), .val (.ref w0)] []) := fun t_ k_ => R132 t_ (XS.ifnonnullYes X127.here hx rfl (pc0 := 31) (pc' := 36) rfl (hb hby at_31) rfl (by decide) (by decide) k_)
      have R134 : Go p e below P T127 (mkF m 37 #[.val (.int k), .val (.int (1 : Int32)), .val (.int (1 : Int32)), .val (.ref w0)] [(.ref w0)]) := fun t_ k_ => R133 t_ (XS.aloadN X127.here hx rfl (hb hby at_36) rfl rfl k_)
      obtain ⟨cq135, kq135, q135a, q135b, q135c⟩ := isOf hZ K127 (P4.ext O0.2)
      obtain ⟨_, _, ⟨T135, L135, k135, n135⟩, -, X135, ⟨Lc135, hQ135, l135, y135, z135⟩, st135⟩ := X127.virtualBack hx (y := (⟨"com/example/progression/progression/Verdict", "holds", "()Z"⟩ : MethodName)) (z := (⟨"com/example/progression/progression/Verdict", "holds", "()Z"⟩ : MethodName)) hown (mvT hZ (hw _ (List.mem_of_getElem? (i := 6) rfl))) (mvT hZ (hw _ (List.mem_of_getElem? (i := 7) rfl))) (notFace_of_selects (args := #[]) (mvT hZ (hw _ (List.mem_of_getElem? (i := 9) rfl)))) (mvT hZ (hw _ (List.mem_of_getElem? (i := 9) rfl))) (mvT hZ (hw _ (List.mem_of_getElem? (i := 8) rfl))) (by decide) (backOf (W := 0) (holds_ l Z a0 hw [] w0 (1 : Int32) h0 n0 O0 (P8.ext O0.2) (by decide)) hZ (hw _ (List.mem_of_getElem? (i := 10) rfl)) (hw _ (List.mem_of_getElem? (i := 2) rfl)) (by decide) (by decide)) q135a q135c (g := (mkF m 37 #[.val (.int k), .val (.int (1 : Int32)), .val (.int (1 : Int32)), .val (.ref w0)] [(.ref w0)])) rfl (by rw [hml]; rfl) (Steps.refl _) (argsL := []) (rest := []) (lenOf pd_16428538 rfl) rfl (by show 2 * 0 + _ ≤ _; exact Nat.le_of_eq rfl) (hb hby at_37) (fun _ _ => ⟨rfl, K127, (by decide : 0 + 0 ≤ _), (by decide : 0 + 0 ≤ _)⟩)
      dsimp only [Pt.U, Pt.locs, Pt.cells, Pt.slots] at X135 l135 y135 z135 st135 hQ135
      subst l135 y135 z135
      obtain ⟨rfl, N135q, K135⟩ := hQ135
      have N135 := Fr.app N127 N135q
      have R136 : Go p e below P T135 (mkF m 40 #[.val (.int k), .val (.int (1 : Int32)), .val (.int (1 : Int32)), .val (.ref w0)] [(.int (1 : Int32))]) := fun t_ k_ => R134 t_ (st135.trans k_)
      have R137 : Go p e below P T135 (mkF m 41 #[.val (.int k), .val (.int (1 : Int32)), .val (.int (1 : Int32)), .val (.ref w0)] [(.int (1 : Int32)), (.int (1 : Int32))]) := fun t_ k_ => R136 t_ (XS.iloadN X135.here hx rfl (hb hby at_40) rfl k_)
      have R138 : Go p e below P T135 (mkF m 44 #[.val (.int k), .val (.int (1 : Int32)), .val (.int (1 : Int32)), .val (.ref w0)] []) := fun t_ k_ => R137 t_ (XS.icmpNo X135.here hx rfl (hb hby at_41) rfl (teq rfl).2 k_)
      have R139 : Go p e below P T135 (mkF m 45 #[.val (.int k), .val (.int (1 : Int32)), .val (.int (1 : Int32)), .val (.ref w0)] [(.ref w0)]) := fun t_ k_ => R138 t_ (XS.aloadN X135.here hx rfl (hb hby at_44) rfl rfl k_)
      obtain ⟨cq140, kq140, q140a, q140b, q140c⟩ := isOf hZ K135 (P4.ext O0.2)
      obtain ⟨_, _, ⟨T140, L140, k140, n140⟩, -, X140, ⟨Lc140, hQ140, l140, y140, z140⟩, st140⟩ := X135.virtualBack hx (y := (⟨"com/example/progression/progression/Verdict", "isDecided", "()Z"⟩ : MethodName)) (z := (⟨"com/example/progression/progression/Verdict", "isDecided", "()Z"⟩ : MethodName)) hown (mvT hZ (hw _ (List.mem_of_getElem? (i := 13) rfl))) (mvT hZ (hw _ (List.mem_of_getElem? (i := 14) rfl))) (notFace_of_selects (args := #[]) (mvT hZ (hw _ (List.mem_of_getElem? (i := 16) rfl)))) (mvT hZ (hw _ (List.mem_of_getElem? (i := 16) rfl))) (mvT hZ (hw _ (List.mem_of_getElem? (i := 15) rfl))) (by decide) (backOf (W := 0) (decided_ l Z a0 hw [] w0 (1 : Int32) h0 n0 O0 (P12.ext O0.2) (by decide)) hZ (hw _ (List.mem_of_getElem? (i := 17) rfl)) (hw _ (List.mem_of_getElem? (i := 2) rfl)) (by decide) (by decide)) q140a q140c (g := (mkF m 45 #[.val (.int k), .val (.int (1 : Int32)), .val (.int (1 : Int32)), .val (.ref w0)] [(.ref w0)])) rfl (by rw [hml]; rfl) (Steps.refl _) (argsL := []) (rest := []) (lenOf pd_16428538 rfl) rfl (by show 2 * 0 + _ ≤ _; exact Nat.le_of_eq rfl) (hb hby at_45) (fun _ _ => ⟨rfl, K135, (by decide : 0 + 0 ≤ _), (by decide : 0 + 0 ≤ _)⟩)
      dsimp only [Pt.U, Pt.locs, Pt.cells, Pt.slots] at X140 l140 y140 z140 st140 hQ140
      subst l140 y140 z140
      obtain ⟨rfl, N140q, K140⟩ := hQ140
      have N140 := Fr.app N135 N140q
      have R141 : Go p e below P T140 (mkF m 48 #[.val (.int k), .val (.int (1 : Int32)), .val (.int (1 : Int32)), .val (.ref w0)] [(.int (1 : Int32))]) := fun t_ k_ => R139 t_ (st140.trans k_)
      have R142 : Go p e below P T140 (mkF m 49 #[.val (.int k), .val (.int (1 : Int32)), .val (.int (1 : Int32)), .val (.ref w0)] [(.int (1 : Int32)), (.int (1 : Int32))]) := fun t_ k_ => R141 t_ (XS.iloadN X140.here hx rfl (hb hby at_48) rfl k_)
      have R143 : Go p e below P T140 (mkF m 52 #[.val (.int k), .val (.int (1 : Int32)), .val (.int (1 : Int32)), .val (.ref w0)] []) := fun t_ k_ => R142 t_ (XS.icmpNo X140.here hx rfl (hb hby at_49) rfl (teq rfl).2 k_)
      have R144 : Go p e below P T140 (mkF m 53 #[.val (.int k), .val (.int (1 : Int32)), .val (.int (1 : Int32)), .val (.ref w0)] [(.int (1 : Int32))]) := fun t_ k_ => R143 t_ (XS.iconst X140.here hx rfl (hb hby at_52) k_)
      have R145 : Go p e below P T140 (mkF m 57 #[.val (.int k), .val (.int (1 : Int32)), .val (.int (1 : Int32)), .val (.ref w0)] [(.int (1 : Int32))]) := fun t_ k_ => R144 t_ (XS.goto X140.here hx rfl (pc0 := 53) (pc' := 57) rfl (hb hby at_53) (by decide) (by decide) k_)
      obtain ⟨fs, hr, hrun, hended, hW, hsame⟩ := X140.leave (v := some (.int (nar .boolean (1 : Int32)))) (fun h => by rw [Bd.returns] at h; cases h)
      exact ⟨_, _, hP _ (R145 _ (retN X140 hx (t := .boolean) Bd.returns (by simp) (hb hby at_57) hr)), hrun, hended, _, _, rfl, ⟨rfl, N140, K140⟩, ⟨_, rfl⟩, hW, hsame.mono (by decide) (by decide)⟩
set_option maxRecDepth 65536 in
set_option maxHeartbeats 40000000 in
theorem comes_1 {Post : Tables → Env → Array Value → State → Outcome → State → Prop} (hpost : ∀ tb e args s v u, (limb_1_1.after args s (.returned v) u = true ∧ limb_1_2.after args s (.returned v) u = true ∧ True) → FrameEnd s (.returned v) u (Jvm.fieldLocs frame_1_writes args s ++ Jvm.arrayLocs frame_1_arrays args s ++ Jvm.staticLocs frame_1_statics s) 0 0 → Post tb e args s (.returned v) u) :
    ArmFor flags0 classFile x code maxLocals ret World_1 tables_1 room_1 Calls_1 rest_1 Pre_1 Post := by
  intro l hfl _ _ p e ha hc hk s m args below hf hA hF happ hP
  obtain ⟨hcalls, hrest, hpre⟩ := hP
  obtain ⟨-, -, -, hnamed, -, -, -, hat⟩ := (Spec.applies_iff hf).mp happ
  obtain ⟨hg, hn⟩ := and_e (Cond.before_iff.mp (show (Jvm.Cond.and given_1 narrow_1).before args s = true from hpre))
  obtain ⟨g1, g2⟩ := and_e hg
  obtain ⟨w0, rfl⟩ : ∃ w0 : Value, args = #[w0] := by
    have hs : args.size = 1 := by simpa [Cond.value, given_1] using g1
    obtain ⟨L⟩ := args
    match L, hs with
    | [w0], _ => exact ⟨w0, rfl⟩
  have hw := fun d (hd : d ∈ tables_1) => atoms_spec (ws := Jvm.Cond.code x code maxLocals ret :: tables_1) hat d (List.mem_cons_of_mem _ hd)
  have hfit : Fit s := fun {y c} hc i hi => by
    obtain ⟨ha, rfl⟩ := Array.getElem?_eq_some_iff.mp hc
    have q := List.all_eq_true.mp ((Array.all_eq_true_iff_forall_mem.mp hF) _ (Array.getElem_mem ha)) i (List.mem_range.mpr hi)
    simpa [Array.getElem?_eq_getElem hi] using q
  obtain ⟨i0, ei0⟩ := is_v g2
  obtain rfl : w0 = (.int i0) := Option.some.inj ei0
  obtain ⟨g3, g4⟩ := and_e hn
  obtain ⟨g5, g6⟩ := and_e g4
  obtain ⟨g7, g8⟩ := and_e g6
  obtain ⟨g9, g10⟩ := and_e g8
  obtain ⟨g11, g12⟩ := and_e g10
  obtain ⟨g13, g14⟩ := and_e g12
  obtain ⟨g15, g16⟩ := and_e g14
  obtain ⟨g17, g18⟩ := and_e g16
  obtain ⟨g19, g20⟩ := and_e g18
  obtain ⟨g21, g22⟩ := and_e g20
  obtain ⟨g23, g24⟩ := and_e g22
  obtain ⟨w_PRESUMABLY_FALSE, ev_PRESUMABLY_FALSE⟩ := exa_v g3
  have S_PRESUMABLY_FALSE := Sta.start ev_PRESUMABLY_FALSE (Or.inr ⟨(hw _ (List.mem_of_getElem? (i := 2) rfl)), (hw _ (List.mem_of_getElem? (i := 5) rfl))⟩)
  have E_PRESUMABLY_FALSE := Exa.start ev_PRESUMABLY_FALSE g3
  obtain ⟨w_TRUE, ev_TRUE⟩ := exa_v g9
  have S_TRUE := Sta.start ev_TRUE (Or.inr ⟨(hw _ (List.mem_of_getElem? (i := 2) rfl)), (hw _ (List.mem_of_getElem? (i := 21) rfl))⟩)
  have E_TRUE := Exa.start ev_TRUE g9
  obtain ⟨w_FALSE, ev_FALSE⟩ := exa_v g15
  have S_FALSE := Sta.start ev_FALSE (Or.inr ⟨(hw _ (List.mem_of_getElem? (i := 2) rfl)), (hw _ (List.mem_of_getElem? (i := 23) rfl))⟩)
  have E_FALSE := Exa.start ev_FALSE g15
  obtain ⟨w_PRESUMABLY_TRUE, ev_PRESUMABLY_TRUE⟩ := exa_v g21
  have S_PRESUMABLY_TRUE := Sta.start ev_PRESUMABLY_TRUE (Or.inr ⟨(hw _ (List.mem_of_getElem? (i := 2) rfl)), (hw _ (List.mem_of_getElem? (i := 25) rfl))⟩)
  have E_PRESUMABLY_TRUE := Exa.start ev_PRESUMABLY_TRUE g21
  have F_PRESUMABLY_FALSE_holds : Fld s s.heap w_PRESUMABLY_FALSE "com/example/progression/progression/Verdict" "holds" "Z" (.int (0 : Int32)) := by
    obtain ⟨x, y, e1, e2, -, -⟩ := cmp_v (Or.inl g5)
    exact Fld.start ((fld_at ev_PRESUMABLY_FALSE).symm.trans (e1.trans (congrArg some (eq_int e1 (Term.int_eval (0)) g5))))
  have F_PRESUMABLY_FALSE_decided : Fld s s.heap w_PRESUMABLY_FALSE "com/example/progression/progression/Verdict" "decided" "Z" (.int (0 : Int32)) := by
    obtain ⟨x, y, e1, e2, -, -⟩ := cmp_v (Or.inl g7)
    exact Fld.start ((fld_at ev_PRESUMABLY_FALSE).symm.trans (e1.trans (congrArg some (eq_int e1 (Term.int_eval (0)) g7))))
  have F_TRUE_holds : Fld s s.heap w_TRUE "com/example/progression/progression/Verdict" "holds" "Z" (.int (1 : Int32)) := by
    obtain ⟨x, y, e1, e2, -, -⟩ := cmp_v (Or.inl g11)
    exact Fld.start ((fld_at ev_TRUE).symm.trans (e1.trans (congrArg some (eq_int e1 (Term.int_eval (1)) g11))))
  have F_TRUE_decided : Fld s s.heap w_TRUE "com/example/progression/progression/Verdict" "decided" "Z" (.int (1 : Int32)) := by
    obtain ⟨x, y, e1, e2, -, -⟩ := cmp_v (Or.inl g13)
    exact Fld.start ((fld_at ev_TRUE).symm.trans (e1.trans (congrArg some (eq_int e1 (Term.int_eval (1)) g13))))
  have F_FALSE_holds : Fld s s.heap w_FALSE "com/example/progression/progression/Verdict" "holds" "Z" (.int (0 : Int32)) := by
    obtain ⟨x, y, e1, e2, -, -⟩ := cmp_v (Or.inl g17)
    exact Fld.start ((fld_at ev_FALSE).symm.trans (e1.trans (congrArg some (eq_int e1 (Term.int_eval (0)) g17))))
  have F_FALSE_decided : Fld s s.heap w_FALSE "com/example/progression/progression/Verdict" "decided" "Z" (.int (1 : Int32)) := by
    obtain ⟨x, y, e1, e2, -, -⟩ := cmp_v (Or.inl g19)
    exact Fld.start ((fld_at ev_FALSE).symm.trans (e1.trans (congrArg some (eq_int e1 (Term.int_eval (1)) g19))))
  have F_PRESUMABLY_TRUE_holds : Fld s s.heap w_PRESUMABLY_TRUE "com/example/progression/progression/Verdict" "holds" "Z" (.int (1 : Int32)) := by
    obtain ⟨x, y, e1, e2, -, -⟩ := cmp_v (Or.inl g23)
    exact Fld.start ((fld_at ev_PRESUMABLY_TRUE).symm.trans (e1.trans (congrArg some (eq_int e1 (Term.int_eval (1)) g23))))
  have F_PRESUMABLY_TRUE_decided : Fld s s.heap w_PRESUMABLY_TRUE "com/example/progression/progression/Verdict" "decided" "Z" (.int (0 : Int32)) := by
    obtain ⟨x, y, e1, e2, -, -⟩ := cmp_v (Or.inl g24)
    exact Fld.start ((fld_at ev_PRESUMABLY_TRUE).symm.trans (e1.trans (congrArg some (eq_int e1 (Term.int_eval (0)) g24))))
  obtain ⟨n, o, h1, h2, h3, _, L, rfl, ⟨rfl, N, _⟩, hq⟩ := law_ l s _ hw tables_1 i0 w_TRUE w_FALSE w_PRESUMABLY_TRUE w_PRESUMABLY_FALSE s.heap s.heap.size (Old.start s) S_TRUE S_FALSE S_PRESUMABLY_TRUE S_PRESUMABLY_FALSE E_TRUE E_FALSE E_PRESUMABLY_TRUE E_PRESUMABLY_FALSE F_TRUE_holds F_FALSE_holds F_PRESUMABLY_TRUE_holds F_PRESUMABLY_FALSE_holds F_TRUE_decided F_FALSE_decided F_PRESUMABLY_TRUE_decided F_PRESUMABLY_FALSE_decided p e ha hc hk s m _ below hf ((Spec.applies_iff_loose hf).mp happ).1 ⟨rfl, State.Warmed39.refl s, rfl⟩ trivial
  refine ⟨n, _, h1, h2, h3, hpost _ _ _ _ _ _ ⟨Cond.after_iff.mpr rfl, Cond.after_iff.mpr (eq_i res_at (Term.int_eval (1)) rfl), trivial⟩ ⟨hq.1, hq.2.1, (hq.2.2.sift fun y hy => Or.inr (N y hy)).mono (by decide) (by decide)⟩⟩
theorem main_1_1 : Claimed_1_1 := comes_1 fun _ _ _ _ _ _ h hF => ⟨h.1, hF⟩
theorem main_1_2 : Claimed_1_2 := comes_1 fun _ _ _ _ _ _ h hF => ⟨h.2.1, hF⟩
end Jvm.Pilot.@@N@@
namespace Jvm.Pilot.@@N@@
open Jvm Jvm.ClassFile Sem Op Lib Jvm.Free Jvm.Stand Jvm.Pilot.@@N@@.Jvm.D
/-! MADE BY PROGRAM (witnessworld.py) out of the Statement's table words and the real class files: 12 classes; the members and pool entries that the words name. The judged class is class 1, her method 1. -/
namespace start1
open Jvm.ClassFile
def u (s : String) : CpInfo := .utf8 (stringToUtf16 s)
/-- a pool by its gaps: so many unusable entries, then the entry; so many at the end -/
def gap : Nat → List CpInfo → List CpInfo
  | 0, r => r
  | n + 1, r => .unusable :: gap n r
def poolList (es : List (Nat × CpInfo)) (last : Nat) : List CpInfo := es.foldr (fun e r => gap e.1 (e.2 :: r)) (gap last [])
def pool (es : List (Nat × CpInfo)) (last : Nat) : Array CpInfo := ⟨poolList es last⟩
def fileOf (pool : Array CpInfo) (this : Nat) (attrs : Array Attribute := #[]) (ms : Array MethodInfo := #[]) (fl : Nat := 33) (sup : Nat := 0) (ifs : Array Nat := #[]) (fds : Array FieldInfo := #[]) : ClassFile where
  minorVersion := 0
  majorVersion := 65
  constantPool := pool
  accessFlags := fl
  thisClass := this
  superClass := sup
  interfaces := ifs
  fields := fds
  methods := ms
  attributes := attrs
def plain (name : String) (sup : Option ClassId) : Class where
  name := name
  kind := .ordinary
  loader := none
  accessFlags := 33
  super := sup
  interfaces := #[]
  cf := none
  fields := #[]
  methods := #[]
  instanceTypes := #[]
  staticTypes := #[]
  resolved := #[]
  callSites := []
  init := .initialized
  statics := none
  mirror := none

def pool0 : Array CpInfo := pool [(5, u "<init>"), (0, u "()V"), (1, .class_ 10), (1, u "java/lang/Object")] 113

def k0m0 : Method := { name := "<init>", desc := "()V", sig := { parameters := [], returnType := none }, accessFlags := 1, code := none }
/-- java/lang/Object -/
def k0 : Class := { plain "java/lang/Object" none with
  accessFlags := 33
  interfaces := #[]
  cf := some (fileOf pool0 8 #[] #[{ accessFlags := 1, nameIndex := 5, descriptorIndex := 6, attributes := #[] }] 33 0 #[] #[])
  fields := #[]
  methods := #[k0m0]
  instanceTypes := #[]
  staticTypes := #[]
  resolved := Array.replicate 124 none
  statics := none }

def pool1 : Array CpInfo := pool [(2, .class_ 4), (1, u "java/lang/Object"), (0, u "<init>"), (0, u "()V"), (0, .methodref 8 9), (0, .class_ 10), (0, .nameAndType 11 12), (0, u "com/example/progression/progression/Verdict"), (0, u "of"), (0, u "(ZZ)Lcom/example/progression/progression/Verdict;"), (0, .methodref 8 14), (0, .nameAndType 15 16), (0, u "holds"), (0, u "()Z"), (0, .methodref 8 18), (0, .nameAndType 19 16), (0, u "isDecided"), (0, .class_ 21), (0, u "com/example/progression/progression/VerdictOfPinLaw"), (2, u "law"), (0, u "(I)Z")] 3

def k1m0 : Method := { name := "<init>", desc := "()V", sig := { parameters := [], returnType := none }, accessFlags := 1, code := none }
def k1c1 : Code := { maxStack := 2, maxLocals := 4, code := code, exceptionTable := #[], attributes := #[] }
def k1m1 : Method := { name := "law", desc := "(I)Z", sig := { parameters := [.int], returnType := some .boolean }, accessFlags := 9, code := some k1c1 }
/-- com/example/progression/progression/VerdictOfPinLaw -/
def k1 : Class := { plain "com/example/progression/progression/VerdictOfPinLaw" (some 0) with
  accessFlags := 49
  interfaces := #[]
  cf := some (fileOf pool1 20 #[] #[{ accessFlags := 1, nameIndex := 5, descriptorIndex := 6, attributes := #[] }, { accessFlags := 9, nameIndex := 24, descriptorIndex := 25, attributes := #[] }] 49 2 #[] #[])
  fields := #[]
  methods := #[k1m0, k1m1]
  instanceTypes := #[]
  staticTypes := #[]
  resolved := Array.replicate 29 none
  statics := none }

def pool2 : Array CpInfo := pool [(1, .class_ 2), (0, u "java/lang/constant/Constable"), (0, .class_ 4), (0, u "java/lang/Object")] 6

/-- java/lang/constant/Constable -/
def k2 : Class := { plain "java/lang/constant/Constable" (some 0) with
  accessFlags := 1537
  interfaces := #[]
  cf := some (fileOf pool2 1 #[] #[] 1537 3 #[] #[])
  fields := #[]
  methods := #[]
  instanceTypes := #[]
  staticTypes := #[]
  resolved := Array.replicate 11 none
  statics := none }

def pool3 : Array CpInfo := pool [(1, .class_ 2), (0, u "java/lang/Comparable"), (0, .class_ 4), (0, u "java/lang/Object")] 7

/-- java/lang/Comparable -/
def k3 : Class := { plain "java/lang/Comparable" (some 0) with
  accessFlags := 1537
  interfaces := #[]
  cf := some (fileOf pool3 1 #[] #[] 1537 3 #[] #[])
  fields := #[]
  methods := #[]
  instanceTypes := #[]
  staticTypes := #[]
  resolved := Array.replicate 12 none
  statics := none }

def pool4 : Array CpInfo := pool [(1, .class_ 2), (0, u "java/io/Serializable"), (0, .class_ 4), (0, u "java/lang/Object")] 2

/-- java/io/Serializable -/
def k4 : Class := { plain "java/io/Serializable" (some 0) with
  accessFlags := 1537
  interfaces := #[]
  cf := some (fileOf pool4 1 #[] #[] 1537 3 #[] #[])
  fields := #[]
  methods := #[]
  instanceTypes := #[]
  staticTypes := #[]
  resolved := Array.replicate 7 none
  statics := none }

def pool5 : Array CpInfo := pool [(2, .class_ 4), (1, u "java/lang/Enum"), (0, u "name"), (0, u "Ljava/lang/String;"), (2, u "ordinal"), (0, u "I"), (1, .class_ 14), (1, u "java/lang/Object"), (4, u "hash"), (86, .class_ 108), (1, u "java/lang/Enum$EnumDesc"), (2, .class_ 112), (0, u "java/lang/constant/Constable"), (0, .class_ 114), (0, u "java/lang/Comparable"), (0, .class_ 116), (0, u "java/io/Serializable")] 87

/-- java/lang/Enum -/
def k5 : Class := { plain "java/lang/Enum" (some 0) with
  accessFlags := 1057
  interfaces := #[2, 3, 4]
  cf := some (fileOf pool5 2 #[.nestMembers #[106]] #[] 1057 12 #[111, 113, 115] #[{ accessFlags := 18, nameIndex := 5, descriptorIndex := 6, attributes := #[] }, { accessFlags := 18, nameIndex := 9, descriptorIndex := 10, attributes := #[] }, { accessFlags := 2, nameIndex := 19, descriptorIndex := 10, attributes := #[] }])
  fields := #[{ name := "name", type := (.object "java/lang/String"), accessFlags := 18, slot := 0, constantValue := 0 }, { name := "ordinal", type := .int, accessFlags := 18, slot := 1, constantValue := 0 }, { name := "hash", type := .int, accessFlags := 2, slot := 2, constantValue := 0 }]
  methods := #[]
  instanceTypes := #[(.object "java/lang/String"), .int, .int]
  staticTypes := #[]
  resolved := Array.replicate 204 none
  statics := none }

def pool6 : Array CpInfo := pool [(1, .class_ 2), (0, u "com/example/progression/progression/Verdict"), (0, .fieldref 1 4), (0, .nameAndType 5 6), (0, u "TRUE"), (0, u "Lcom/example/progression/progression/Verdict;"), (0, .fieldref 1 8), (0, .nameAndType 9 6), (0, u "FALSE"), (0, .fieldref 1 11), (0, .nameAndType 12 6), (0, u "PRESUMABLY_TRUE"), (0, .fieldref 1 14), (0, .nameAndType 15 6), (0, u "PRESUMABLY_FALSE"), (2, u "$VALUES"), (0, u "[Lcom/example/progression/progression/Verdict;"), (6, .class_ 28), (1, u "java/lang/Enum"), (8, u "spelling"), (0, u "Ljava/lang/String;"), (0, .fieldref 1 40), (0, .nameAndType 41 42), (0, u "holds"), (0, u "Z"), (0, .fieldref 1 44), (0, .nameAndType 45 42), (0, u "decided"), (26, u "of"), (0, u "(ZZ)Lcom/example/progression/progression/Verdict;"), (1, u "()Z"), (0, u "isDecided")] 7

def k6c0 : Code := { maxStack := 1, maxLocals := 2, code := prog_41_method_4_code, exceptionTable := #[], attributes := #[] }
def k6m0 : Method := { name := "of", desc := "(ZZ)Lcom/example/progression/progression/Verdict;", sig := { parameters := [.boolean, .boolean], returnType := some (.object "com/example/progression/progression/Verdict") }, accessFlags := 9, code := some k6c0 }
def k6c1 : Code := { maxStack := 1, maxLocals := 1, code := prog_41_method_5_code, exceptionTable := #[], attributes := #[] }
def k6m1 : Method := { name := "holds", desc := "()Z", sig := { parameters := [], returnType := some .boolean }, accessFlags := 1, code := some k6c1 }
def k6c2 : Code := { maxStack := 1, maxLocals := 1, code := prog_41_method_6_code, exceptionTable := #[], attributes := #[] }
def k6m2 : Method := { name := "isDecided", desc := "()Z", sig := { parameters := [], returnType := some .boolean }, accessFlags := 1, code := some k6c2 }
/-- com/example/progression/progression/Verdict -/
def k6 : Class := { plain "com/example/progression/progression/Verdict" (some 5) with
  accessFlags := 16433
  interfaces := #[]
  cf := some (fileOf pool6 1 #[] #[{ accessFlags := 9, nameIndex := 72, descriptorIndex := 73, attributes := #[] }, { accessFlags := 1, nameIndex := 41, descriptorIndex := 75, attributes := #[] }, { accessFlags := 1, nameIndex := 76, descriptorIndex := 75, attributes := #[] }] 16433 26 #[] #[{ accessFlags := 16409, nameIndex := 5, descriptorIndex := 6, attributes := #[] }, { accessFlags := 16409, nameIndex := 9, descriptorIndex := 6, attributes := #[] }, { accessFlags := 16409, nameIndex := 12, descriptorIndex := 6, attributes := #[] }, { accessFlags := 16409, nameIndex := 15, descriptorIndex := 6, attributes := #[] }, { accessFlags := 18, nameIndex := 37, descriptorIndex := 38, attributes := #[] }, { accessFlags := 18, nameIndex := 41, descriptorIndex := 42, attributes := #[] }, { accessFlags := 18, nameIndex := 45, descriptorIndex := 42, attributes := #[] }, { accessFlags := 4122, nameIndex := 18, descriptorIndex := 19, attributes := #[] }])
  fields := #[{ name := "TRUE", type := (.object "com/example/progression/progression/Verdict"), accessFlags := 16409, slot := 0, constantValue := 0 }, { name := "FALSE", type := (.object "com/example/progression/progression/Verdict"), accessFlags := 16409, slot := 1, constantValue := 0 }, { name := "PRESUMABLY_TRUE", type := (.object "com/example/progression/progression/Verdict"), accessFlags := 16409, slot := 2, constantValue := 0 }, { name := "PRESUMABLY_FALSE", type := (.object "com/example/progression/progression/Verdict"), accessFlags := 16409, slot := 3, constantValue := 0 }, { name := "spelling", type := (.object "java/lang/String"), accessFlags := 18, slot := 3, constantValue := 0 }, { name := "holds", type := .boolean, accessFlags := 18, slot := 4, constantValue := 0 }, { name := "decided", type := .boolean, accessFlags := 18, slot := 5, constantValue := 0 }, { name := "$VALUES", type := (.array (.object "com/example/progression/progression/Verdict")), accessFlags := 4122, slot := 4, constantValue := 0 }]
  methods := #[k6m0, k6m1, k6m2]
  instanceTypes := #[(.object "java/lang/String"), .int, .int, (.object "java/lang/String"), .boolean, .boolean]
  staticTypes := #[(.object "com/example/progression/progression/Verdict"), (.object "com/example/progression/progression/Verdict"), (.object "com/example/progression/progression/Verdict"), (.object "com/example/progression/progression/Verdict"), (.array (.object "com/example/progression/progression/Verdict"))]
  resolved := Array.replicate 84 none
  statics := some 0 }

def pool7 : Array CpInfo := pool [(1, u "java/lang/Cloneable"), (0, .class_ 1), (0, u "java/lang/Object"), (0, .class_ 3)] 3

/-- java/lang/Cloneable -/
def k7 : Class := { plain "java/lang/Cloneable" (some 0) with
  accessFlags := 1537
  interfaces := #[]
  cf := some (fileOf pool7 2 #[] #[] 1537 4 #[] #[])
  fields := #[]
  methods := #[]
  instanceTypes := #[]
  staticTypes := #[]
  resolved := Array.replicate 8 none
  statics := none }

/-- the primitive byte -/
def k8 : Class := { plain "byte" none with kind := .primitive 'B', accessFlags := 0x411 }
/-- [B -/
def k9 : Class := { plain "[B" (some 0) with kind := .array 8 .byte, interfaces := #[7, 4], accessFlags := 1041 }

/-- the primitive int -/
def k10 : Class := { plain "int" none with kind := .primitive 'I', accessFlags := 0x411 }
/-- [I -/
def k11 : Class := { plain "[I" (some 0) with kind := .array 10 .int, interfaces := #[7, 4], accessFlags := 1041 }

def heap : Heap := #[{ cls := 6, slots := #[.ref 1, .ref 2, .ref 3, .ref 4, .null], vm := .statics 6 },
  { cls := 6, slots := #[.null, .int 0, .int 0, .null, .int 1, .int 1], vm := .none },
  { cls := 6, slots := #[.null, .int 1, .int 0, .null, .int 0, .int 1], vm := .none },
  { cls := 6, slots := #[.null, .int 2, .int 0, .null, .int 1, .int 0], vm := .none },
  { cls := 6, slots := #[.null, .int 3, .int 0, .null, .int 0, .int 0], vm := .none }]
def classes : Array Class := #[k0, k1, k2, k3, k4, k5, k6, k7, k8, k9, k10, k11]
def interned : List (Array UInt16 × Addr) := []
def slotsUsed : Nat := 29
def theMethod : MethodId := ⟨1, 1⟩
def args0 : Array Value := #[.int 5]
def aboutOver (below : List Frame) : State where
  vm := { classes := classes, interned := interned.toArray }
  heap := heap
  slotsUsed := slotsUsed
  threads := #[{ frames := .invoking theMethod args0 :: below }]
def below0 : List Frame := [.native { method := ⟨0, 0⟩, args := #[] }]
def about1 : State := aboutOver below0
def p0 : Program := .bare "" "" ""
def e0 : Env := launch0.env 0 0 0
theorem w_frames : about1.frames = Frame.invoking theMethod args0 :: below0 := rfl
set_option maxRecDepth 65536 in
theorem w_args : argsFit about1.vm theMethod args0 = true := by decide +kernel
set_option maxRecDepth 65536 in
theorem w_heap : heapFits about1 = true := by decide +kernel
set_option maxRecDepth 65536 in
theorem w_runnable : about1.curStatus? = some .runnable := by decide +kernel
set_option maxRecDepth 65536 in
theorem w_alone : about1.alone = true := by decide +kernel
set_option maxRecDepth 65536 in
theorem w_named : about1.methodNamed? x = some theMethod := by decide +kernel
set_option maxRecDepth 65536 in
theorem w_hears : about1.hears theMethod below0 = true := by decide +kernel
set_option maxRecDepth 65536 in
theorem w_ripe : about1.ripe theMethod args0 below0 = true := by decide +kernel
theorem w_running : about1.status = .running := rfl
set_option maxRecDepth 65536 in
theorem w_room : about1.hasRoom e0.platform room_1 = true :=
  launch0.hasRoom_least _ room_1 (by decide +kernel) (by decide +kernel) (by decide +kernel) (by decide +kernel) (by decide +kernel) (by decide +kernel)
theorem allAtoms_all (ts : List Jvm.Cond) (a : Array Jvm.Value) (st : Jvm.State) : (allAtoms ts).before a st = ts.all (fun c => c.before a st) := by
  induction ts with
  | nil => rfl
  | cons c t ih =>
    show (Jvm.Cond.and c (allAtoms t)).before a st = _
    rw [Jvm.Cond.before_and, ih, List.all_cons]
def words1 : List Jvm.Cond := Jvm.Cond.code x code maxLocals ret :: tables_1
/-- a 'code' word, met by the world's own term for the bytes: nothing is compared byte by byte -/
theorem code_word {y : MethodName} {bytes : ByteArray} {mx : Nat} {rt : Option FieldType} {a : Array Value} {s : State} {m : MethodId} {meth : Method} {c : Code} (h1 : s.methodNamed? y = some m) (h2 : s.vm.method? m = some meth) (h3 : meth.code = some c) (h4 : c.code = bytes)
    (h5 : (c.maxLocals == mx && c.exceptionTable.isEmpty && decide (c.maxStack ≤ mostOperands) && decide (meth.sig.returnType = rt) && !meth.locks && decide (parseMethodDescriptor y.desc = some meth.sig)) = true) : (Jvm.Cond.code y bytes mx rt).before a s = true := by
  simp only [Bool.and_eq_true, beq_iff_eq, Bool.not_eq_true', decide_eq_true_eq] at h5
  obtain ⟨⟨⟨⟨⟨g1, g2⟩, g3⟩, g4⟩, g5⟩, g6⟩ := h5
  simp [Cond.before, Cond.holds, Cond.value, h1, h2, h3, h4, g1, g2, g3, g4, g5, g6]
def isCode : Jvm.Cond → Bool
  | .code _ _ _ _ => true
  | _ => false
theorem all_split {L : List Jvm.Cond} {P : Jvm.Cond → Bool} (h1 : L.all (fun c => isCode c || P c) = true) (h2 : ∀ c ∈ L.filter isCode, P c = true) : L.all P = true := by
  refine List.all_eq_true.mpr fun c hc => ?_
  have h := List.all_eq_true.mp h1 c hc
  rcases Bool.eq_false_or_eq_true (isCode c) with hi | hi
  · exact h2 c (List.mem_filter.mpr ⟨hc, hi⟩)
  · simpa [hi] using h
set_option maxRecDepth 65536 in
theorem w_c0 : (Jvm.Cond.code x code maxLocals ret).before args0 about1 = true := code_word (m := ⟨1, 1⟩) (meth := k1m1) (c := k1c1) (by decide +kernel) rfl rfl rfl (by decide +kernel)
set_option maxRecDepth 65536 in
theorem w_c1 : (Jvm.Cond.code ({ cls := "com/example/progression/progression/Verdict", name := "of", desc := "(ZZ)Lcom/example/progression/progression/Verdict;" } : Jvm.MethodName) prog_41_method_4_code (2 : Nat) (Option.some (Jvm.ClassFile.FieldType.object "com/example/progression/progression/Verdict"))).before args0 about1 = true := code_word (m := ⟨6, 0⟩) (meth := k6m0) (c := k6c0) (by decide +kernel) rfl rfl rfl (by decide +kernel)
set_option maxRecDepth 65536 in
theorem w_c2 : (Jvm.Cond.code ({ cls := "com/example/progression/progression/Verdict", name := "holds", desc := "()Z" } : Jvm.MethodName) prog_41_method_5_code (1 : Nat) (Option.some Jvm.ClassFile.FieldType.boolean)).before args0 about1 = true := code_word (m := ⟨6, 1⟩) (meth := k6m1) (c := k6c1) (by decide +kernel) rfl rfl rfl (by decide +kernel)
set_option maxRecDepth 65536 in
theorem w_c3 : (Jvm.Cond.code ({ cls := "com/example/progression/progression/Verdict", name := "isDecided", desc := "()Z" } : Jvm.MethodName) prog_41_method_6_code (1 : Nat) (Option.some Jvm.ClassFile.FieldType.boolean)).before args0 about1 = true := code_word (m := ⟨6, 2⟩) (meth := k6m2) (c := k6c2) (by decide +kernel) rfl rfl rfl (by decide +kernel)
def codes1 : List Jvm.Cond := [Jvm.Cond.code x code maxLocals ret, Jvm.Cond.code ({ cls := "com/example/progression/progression/Verdict", name := "of", desc := "(ZZ)Lcom/example/progression/progression/Verdict;" } : Jvm.MethodName) prog_41_method_4_code (2 : Nat) (Option.some (Jvm.ClassFile.FieldType.object "com/example/progression/progression/Verdict")), Jvm.Cond.code ({ cls := "com/example/progression/progression/Verdict", name := "holds", desc := "()Z" } : Jvm.MethodName) prog_41_method_5_code (1 : Nat) (Option.some Jvm.ClassFile.FieldType.boolean), Jvm.Cond.code ({ cls := "com/example/progression/progression/Verdict", name := "isDecided", desc := "()Z" } : Jvm.MethodName) prog_41_method_6_code (1 : Nat) (Option.some Jvm.ClassFile.FieldType.boolean)]
set_option maxRecDepth 65536 in
theorem codes_eq : words1.filter isCode = codes1 := rfl
theorem w_codes : ∀ c ∈ words1.filter isCode, c.before args0 about1 = true := by
  rw [codes_eq]
  intro c hc
  simp only [codes1, List.mem_cons, List.not_mem_nil, or_false] at hc
  rcases hc with rfl | rfl | rfl | rfl
  · exact w_c0
  · exact w_c1
  · exact w_c2
  · exact w_c3
set_option maxRecDepth 65536 in
theorem w_t1 : (words1.take 24).all (fun c => isCode c || c.before args0 about1) = true := by decide +kernel
set_option maxRecDepth 65536 in
theorem w_t2 : (words1.drop 24).all (fun c => isCode c || c.before args0 about1) = true := by decide +kernel
theorem w_tables : (allAtoms (Jvm.Cond.code x code maxLocals ret :: tables_1)).before args0 about1 = true := by
  rw [allAtoms_all]
  show words1.all (fun c => c.before args0 about1) = true
  refine all_split ?_ w_codes
  rw [← List.take_append_drop 24 words1, List.all_append, w_t1, w_t2]
  rfl
set_option maxRecDepth 65536 in
theorem w_case : (Jvm.Cond.and given_1 narrow_1).before args0 about1 = true := by decide +kernel
theorem w_applies : (headSpec (Jvm.Cond.code x code maxLocals ret :: tables_1) room_1).applies x e0.platform about1 = true :=
  (Spec.applies_iff w_frames).mpr ⟨w_running, w_runnable, w_alone, w_named, w_hears, w_ripe, w_room, w_tables⟩
theorem atStart : AtStart classFile x code maxLocals ret World_1 tables_1 room_1 Calls_1 rest_1 Pre_1 launch0 p0 e0 about1 theMethod args0 below0 :=
  ⟨lists_1, trivial, launch0.admits_env _ _ _, launch0.least_env, fairChoices_fair.cas, fairChoices_fair.clock, w_frames, w_args, w_heap, w_applies, trivial, trivial, w_case⟩
end start1
theorem witness_1 : WitnessClaimed_1 := ⟨start1.p0, start1.e0, start1.about1, start1.theMethod, start1.args0, start1.below0, start1.atStart⟩
end Jvm.Pilot.@@N@@
