import JvmDerived
import JvmDerived.Pilot.@@N@@Statement
import JvmDerived.Pilot.@@N@@Code
set_option linter.unusedVariables false
set_option linter.unusedSimpArgs false
@@BLOCK:NumsL.lean.txt@@
@@BLOCK:SetKit.lean.txt@@

namespace Jvm.RoadKit
open Sem ClassFile Op Lib Jvm.Stand Jvm.Free Jvm.LawKit
section New
variable {p : Program} {l : Launch} {e : Env} {R : Room} {s : State} {m : MethodId} {args : Array Value} {below : List Frame} {meth : Method} {c : Code} {T : State} {locs : List Loc} {cells slots : Nat}
theorem retI (X : Stand p l e R s m args below meth c T locs cells slots) (hx : p.tables.exec = Jvm.exec) {pc : Nat} {Ls : Array Slot} {z : Int32} {rest : List Value} (hret : meth.sig.returnType = some .int) (hd : decode c.code pc = .ok (.ireturn, 1)) {fs : List Frame}
    (hl : ∀ (f : JFrame) (acts : List Action), f.method = m → f.locked = none → f.entered = [] → (doReturn e (T.setTop f) acts (some (.int z))).1 = T.setFrames fs) : Steps p.tables e below (T.setTop (mkF m pc Ls (.int z :: rest))) (T.setFrames fs) := by
  have hm' : T.vm.method? m = some meth := X.method'
  have hn : narrow .int (.int z) = .int z := rfl
  show Steps p.tables e below (T.setTop { method := m, pc := pc, locals := Ls, stack := _ :: rest, locked := none }) _
  jvm_step X.here [X.here.top, hx, hd, hm', hret, hn]
  first | (intro acts; rw [hl _ acts rfl rfl rfl]) | rw [hl _ _ rfl rfl rfl]
  exact Steps.refl _
end New
/-- the run has come from where P looks on to this frame -/
def Go (p : Program) (e : Env) (below : List Frame) (P : State → Prop) (T : State) (g : JFrame) : Prop := ∀ t, Steps p.tables e below (T.setTop g) t → P t
/-- where roads that move the state meet: one of them has come to this frame (wide: it may have interned) -/
def PosW (p : Program) (l : Launch) (e : Env) (R : Room) (s : State) (m : MethodId) (args : Array Value) (below : List Frame) (meth : Method) (c : Code) (P : State → Prop) (Z : State) (n0 : Nat) (own : String) (EL : List (String × Nat)) (h0 hf : Heap) (ws : List Addr) (cells slots : Nat) (g : JFrame) (K : Heap → Prop) : Prop :=
  ∃ (vm : Vm) (T : State) (locs : List Loc) (k : Nat), Stand p l e R (s.setVm vm) m args below meth c T locs cells slots ∧ Fr n0 locs ∧ Keep hf T.heap ws ∧ s.Since vm k ∧ k ≤ T.heap.size ∧ Z.Warmed39 vm ∧ vm.findClass own = some m.cls ∧ CHr Z EL s.vm h0 vm T.heap ∧ Go p e below P T g ∧ K T.heap
def PosN (p : Program) (l : Launch) (e : Env) (R : Room) (s : State) (m : MethodId) (args : Array Value) (below : List Frame) (meth : Method) (c : Code) (P : State → Prop) (n0 : Nat) (hf : Heap) (ws : List Addr) (cells slots : Nat) (g : JFrame) (K : Heap → Prop) : Prop :=
  ∃ (T : State) (locs : List Loc), Stand p l e R s m args below meth c T locs cells slots ∧ Fr n0 locs ∧ Keep hf T.heap ws ∧ Go p e below P T g ∧ K T.heap
theorem oldLe {Z : State} {n0 : Nat} {h : Heap} (O : Old Z n0 h) : n0 ≤ h.size := O.1 ▸ O.2.1
theorem ownNarRef {t : FieldType} {v : Value} (h : v.isRef = true) : narrow t v = v := by
  rcases ref_cases h with rfl | ⟨_, rfl⟩ <;> cases t <;> rfl
theorem fits_refV {C : String} {v : Value} (h : v.isRef = true) : fits (.object C) v = true := by
  rcases ref_cases h with rfl | ⟨_, rfl⟩ <;> rfl
end Jvm.RoadKit
namespace Jvm.Pilot.@@N@@
open Jvm Jvm.ClassFile Sem Op Lib Jvm.Free Jvm.Stand Jvm.LawKit Jvm.RoadKit Bundle Jvm.Pilot.@@N@@.Jvm.D
theorem eq_int {args : Array Value} {first s : State} {o : Option Outcome} {idx : List Nat} {a b : Term} {x : Value} {z : Int32} (ha : a.eval args first o idx s = some x) (hb : b.eval args first o idx s = some (.int z)) (h : (Jvm.Cond.eq a b).value args first o s idx = some true) : x = .int z := by
  cases x <;> simp [Cond.value, ha, hb] at h ⊢ <;> exact h
theorem nar_b0 : nar .boolean 0 = 0 := by decide
theorem nar_b1 : nar .boolean 1 = 1 := by decide
theorem nar_b8 (x : Int32) : nar .byte (x.toInt8.toInt32) = x.toInt8.toInt32 := by show (x.toInt8.toInt32).toInt8.toInt32 = x.toInt8.toInt32; simp
theorem eq_I {args : Array Value} {first s : State} {o : Option Outcome} {idx : List Nat} {a b : Term} {x y : Int32} (ha : a.eval args first o idx s = some (.int x)) (hb : b.eval args first o idx s = some (.int y)) : (Jvm.Cond.eq a b).value args first o s idx = some (decide (x = y)) := by simp [Cond.value, ha, hb]
abbrev EL0 : List (String × Nat) := [("com/example/lexicarta/lexicarta/uml/Multiplicity", 25)]
theorem wS_of {Z : State} {a0 : Array Value} (hw : ∀ d ∈ tables_1, d.before a0 Z = true) : ∀ a ∈ Bundle.stringAtoms, a.before a0 Z = true := by
  intro a ha
  simp only [Bundle.stringAtoms, List.mem_cons, List.not_mem_nil, or_false] at ha
  rcases ha with rfl | rfl | rfl | rfl | rfl | rfl | rfl
  · exact (hw _ (List.mem_of_getElem? (i := 36) rfl))
  · exact (hw _ (List.mem_of_getElem? (i := 43) rfl))
  · exact (hw _ (List.mem_of_getElem? (i := 37) rfl))
  · exact (hw _ (List.mem_of_getElem? (i := 50) rfl))
  · exact (hw _ (List.mem_of_getElem? (i := 52) rfl))
  · exact (hw _ (List.mem_of_getElem? (i := 97) rfl))
  · exact (hw _ (List.mem_of_getElem? (i := 98) rfl))
theorem safeNull {Z : State} {EL : List (String × Nat)} {vm : Vm} {h : Heap} {x : Addr} (hal : Z.vm.Alike vm) (E : Exa Z h x "java/lang/String") (F : Fld Z h x "java/lang/String" "value" "[B" .null) : Safe Z EL vm h x := fun B => by
  obtain ⟨p, -, u, a, -, q, -, G, hx⟩ := B
  rcases hx with hx | hx
  · subst hx
    obtain ⟨cell, cf, k, i, f, f1, f2, f3, f4, f5, f6, f7⟩ := F
    obtain ⟨cS, ⟨⟨s1, s2, s3, ⟨cv, kv, iv, s4, s4'⟩, s5, s6, s7, s8, s9⟩, -⟩, -⟩ := G
    obtain ⟨kv', z4⟩ := ff_back (U := Wst Z vm h) hal s4
    cases f2.symm.trans z4
    have s1' : h[q.sa]? = some q.sC := s1
    cases f1.symm.trans s1'
    cases f7.symm.trans s8
  · subst hx
    obtain ⟨cell, k, e1, e2, e3, -, -⟩ := E
    have s10' : h[q.sd]? = some q.SA := G.hd
    cases e1.symm.trans s10'
    obtain ⟨cS, -, -, f, -⟩ := G
    have f' : vm.findClass "[B" = some q.SA.cls := f
    rw [hal.findClass] at f'
    obtain ⟨k1, q1, q2⟩ := Vm.findClass_spec f'
    obtain ⟨k2, q3, q4⟩ := Vm.findClass_spec e2
    cases q1.symm.trans q3
    exact absurd (q2.symm.trans q4) (by decide)
def lo8 (x : Int32) : Int32 := x.toInt8.toInt32
theorem shr0 (N : Int32) : N >>> ((0 : Int32) &&& 31) = N := Int32.toInt_inj.mp (by rw [Jvm.Kit.i32_shr N _ (k := 0) (by decide)]; simp)
theorem lo8_back {c : Int32} (h : ¬ c < 0 ∧ ¬ (255 : Int32) < c) : nar .char (((lo8 c) &&& (255 : Int32)).toUInt32.toUInt16.toUInt32.toInt32) = c := by
  have t : ∀ k : Fin 256, nar .char (((lo8 (Int32.ofNat k.val)) &&& (255 : Int32)).toUInt32.toUInt16.toUInt32.toInt32) = Int32.ofNat k.val := by decide +kernel
  have e0 : (0 : Int32).toInt = 0 := by decide
  have e1 : (255 : Int32).toInt = 255 := by decide
  obtain ⟨h1, h2⟩ := h
  rw [Int32.lt_iff_toInt_lt, e0] at h1
  rw [Int32.lt_iff_toInt_lt, e1] at h2
  have e : c = Int32.ofNat c.toInt.toNat := by
    apply Int32.toInt_inj.mp
    rw [Int32.toInt_ofNat_of_lt (by omega)]; omega
  rw [e]
  exact t ⟨c.toInt.toNat, by omega⟩
theorem nat32 {k : Nat} (h : k ≤ 4000) : (Int32.ofNat k).toNatClampNeg = k := by unfold Int32.toNatClampNeg; rw [Int32.toInt_ofNat_of_lt (by omega)]; rfl
theorem idx_in {cs : List Int32} {i : Int32} {j : Nat} (hi : i = Int32.ofNat j) (hj : j < cs.length) (l4 : cs.length ≤ 4000) : ¬ i < 0 ∧ i < Int32.ofNat cs.length := by
  subst hi
  have e0 : (0 : Int32).toInt = 0 := by decide
  rw [Int32.lt_iff_toInt_lt, Int32.lt_iff_toInt_lt, Int32.toInt_ofNat_of_lt (by omega), Int32.toInt_ofNat_of_lt (by omega), e0]
  omega
theorem idx_at8 {cs : List Int32} {i : Int32} {j : Nat} (hi : i = Int32.ofNat j) (hj : j < cs.length) (l4 : cs.length ≤ 4000) : ((cs.map lo8).map Value.int).getD i.toNatClampNeg (.int (0 : Int32)) = .int (lo8 (cs.getD j 0)) := by
  subst hi
  rw [nat32 (by omega), List.getD_eq_getElem?_getD, List.getElem?_map, List.getElem?_map, List.getD_eq_getElem?_getD, List.getElem?_eq_getElem hj]
  rfl
theorem at_ok {cs : List Int32} (h : ∀ c ∈ cs, ¬ c < 0 ∧ ¬ (255 : Int32) < c) {j : Nat} (hj : j < cs.length) : ¬ cs.getD j 0 < 0 ∧ ¬ (255 : Int32) < cs.getD j 0 := by
  rw [List.getD_eq_getElem?_getD, List.getElem?_eq_getElem hj]; exact h _ (List.getElem_mem hj)
theorem nar_chr {c : Int32} (h : ¬ c < 0 ∧ ¬ (255 : Int32) < c) : nar .char c = c := by
  have t : ∀ k : Fin 256, nar .char (Int32.ofNat k.val) = Int32.ofNat k.val := by decide +kernel
  have e0 : (0 : Int32).toInt = 0 := by decide
  have e1 : (255 : Int32).toInt = 255 := by decide
  obtain ⟨h1, h2⟩ := h
  rw [Int32.lt_iff_toInt_lt, e0] at h1
  rw [Int32.lt_iff_toInt_lt, e1] at h2
  have e : c = Int32.ofNat c.toInt.toNat := by
    apply Int32.toInt_inj.mp
    rw [Int32.toInt_ofNat_of_lt (by omega)]; omega
  rw [e]
  exact t ⟨c.toInt.toNat, by omega⟩
theorem pn_47582652 : plainName "java/lang/String" = true := by first | (simp [plainName, overriddenIn]; done) | decide +kernel
theorem ef_lcoder_ (m : MethodId) (x0 : Addr) : entryFrame m #[(.ref x0)] 1 = mkF m 0 #[.val (.ref x0)] [] := by first | (simp [entryFrame, mkF, argsToLocals, Value.category]; done) | rfl
theorem d12_0 : decode jdk_42_method_152_code 0 = .ok (.getstatic 38, 3) := by decide +kernel
theorem d12_3 : decode jdk_42_method_152_code 3 = .ok (.ifCond .eq 10, 3) := by decide +kernel
theorem d12_6 : decode jdk_42_method_152_code 6 = .ok (.aload_n 0, 1) := by decide +kernel
theorem d12_7 : decode jdk_42_method_152_code 7 = .ok (.getfield 15, 3) := by decide +kernel
theorem d12_10 : decode jdk_42_method_152_code 10 = .ok (.goto 4, 3) := by decide +kernel
theorem d12_14 : decode jdk_42_method_152_code 14 = .ok (.ireturn, 1) := by decide +kernel
def Q_lcoder_ (Z : State) (a : Addr) (zc : Int32) (h0 : Heap) (n0 : Nat) (rv_ : Option Value) (rh_ : Heap) (rL_ : List Loc) : Prop := (rv_ = some (.int (0 : Int32))) ∧ (Fr n0 rL_) ∧ (rh_ = h0)
set_option maxRecDepth 65536 in
set_option maxHeartbeats 40000000 in
theorem lcoder_ (l : Launch) (Z : State) (a0 : Array Value) (hw : ∀ d ∈ tables_1, d.before a0 Z = true) (ws : List Jvm.Cond) (a : Addr) (zc : Int32) (h0 : Heap) (n0 : Nat) (O0 : Old Z n0 h0) (P0 : Fld Z h0 a "java/lang/String" "coder" "B" (.int (0 : Int32))) (P1 : Sta Z Z.heap "java/lang/String" "COMPACT_STRINGS" "Z" (.int zc)) (P2 : ¬ zc = 0) :
    MetFree l (⟨"java/lang/String", "coder", "()B"⟩ : MethodName) (head1 (Jvm.Cond.code (⟨"java/lang/String", "coder", "()B"⟩ : MethodName) jdk_42_method_152_code 1 (some .byte) :: ws) ({ frames := 0, cells := 0, slots := 0, locals := 0 } : Room)) (fun a_ U_ => a_ = #[(.ref a)] ∧ Z.Warmed39 U_.vm ∧ U_.heap = h0) (fun _ _ _ _ _ => True) (fun _ U_ o_ U_' => ∃ v_ L_, o_ = .returned v_ ∧ Q_lcoder_ Z a zc h0 n0 v_ U_'.heap L_ ∧ FrameEnd U_ o_ U_' L_ ({ frames := 0, cells := 0, slots := 0, locals := 0 } : Room).cells ({ frames := 0, cells := 0, slots := 0, locals := 0 } : Room).slots) := by
  have hzc := P2
  refine MetFree.of_bodySF (plainFor_of_name pn_47582652) hisR ?_
  intro p e s m args below meth c s₁ Bd hml0 hP0 hK
  obtain ⟨rfl, hZ, hh⟩ := hP0
  have hx := Bd.exec
  have hby := Bd.bytes
  have hml : c.maxLocals = 1 := hml0
  have hown : s.vm.findClass "java/lang/String" = some m.cls := findClass_of_methodNamed Bd.named
  have hnm := (name_of_methodNamed Bd.named Bd.method).1
  have X0 : Stand p l e ({ frames := 0, cells := 0, slots := 0, locals := 0 } : Room) s m #[(.ref a)] below meth c s₁ [] 0 0 := Stand.of_body Bd
  have e0 : s₁.heap = h0 := by rw [← hh, Bd.state]; rfl
  have N0 := Fr.nil n0
  obtain ⟨P, hP, R0⟩ : ∃ P : State → Prop, (∀ t_, P t_ → Steps p.tables e below (s₁.setTop (entryFrame m #[(.ref a)] 1)) t_) ∧ Go p e below P s₁ (mkF m 0 #[.val (.ref a)] []) := ⟨_, fun _ h => h, fun t_ k_ => castTop (ef_lcoder_ m a) k_⟩
  obtain ⟨T1, X1, e1, st1⟩ := getS2 X0 hx hZ hown (host := "") (Or.inl (hw _ (List.mem_of_getElem? (i := 67) rfl))) Via.refl e0 (P1.ext O0.2) (g := (mkF m 0 #[.val (.ref a)] [])) rfl (hb hby d12_0)
  have R2 : Go p e below P T1 (mkF m 3 #[.val (.ref a)] [(.int zc)]) := fun t_ k_ => R0 t_ (st1 t_ k_)
  have R3 : Go p e below P T1 (mkF m 6 #[.val (.ref a)] []) := fun t_ k_ => R2 t_ (XS.ifNo X1.here hx rfl (hb hby d12_3) rfl ((if0 _ _).trans (feq hzc).1) k_)
  have R4 : Go p e below P T1 (mkF m 7 #[.val (.ref a)] [(.ref a)]) := fun t_ k_ => R3 t_ (XS.aloadN X1.here hx rfl (hb hby d12_6) rfl rfl k_)
  obtain ⟨T5, X5, e5, st5⟩ := getF X1 hx hZ hown (host := "") (Or.inl (hw _ (List.mem_of_getElem? (i := 51) rfl))) Via.refl e1 P0 (g := (mkF m 7 #[.val (.ref a)] [(.ref a)])) rfl rfl (hb hby d12_7)
  have R6 : Go p e below P T5 (mkF m 10 #[.val (.ref a)] [(.int (0 : Int32))]) := fun t_ k_ => R4 t_ (st5 t_ k_)
  have R7 : Go p e below P T5 (mkF m 14 #[.val (.ref a)] [(.int (0 : Int32))]) := fun t_ k_ => R6 t_ (XS.goto X5.here hx rfl (pc0 := 10) (pc' := 14) rfl (hb hby d12_10) (by decide) (by decide) k_)
  obtain ⟨fs, hr, hrun, hended, hW, hsame⟩ := X5.leave (v := some (.int (nar .byte (0 : Int32)))) (fun h => by rw [Bd.returns] at h; cases h)
  exact ⟨_, _, hP _ (R7 _ (retN X5 hx (t := .byte) Bd.returns (by simp) (hb hby d12_14) hr)), hrun, hended, _, _, rfl, ⟨rfl, N0, e5⟩, ⟨_, rfl⟩, hW, hsame.mono (by decide) (by decide)⟩
theorem ef_lisL_ (m : MethodId) (x0 : Addr) : entryFrame m #[(.ref x0)] 1 = mkF m 0 #[.val (.ref x0)] [] := by first | (simp [entryFrame, mkF, argsToLocals, Value.category]; done) | rfl
theorem d16_0 : decode jdk_42_method_154_code 0 = .ok (.getstatic 38, 3) := by decide +kernel
theorem d16_3 : decode jdk_42_method_154_code 3 = .ok (.ifCond .eq 14, 3) := by decide +kernel
theorem d16_6 : decode jdk_42_method_154_code 6 = .ok (.aload_n 0, 1) := by decide +kernel
theorem d16_7 : decode jdk_42_method_154_code 7 = .ok (.getfield 15, 3) := by decide +kernel
theorem d16_10 : decode jdk_42_method_154_code 10 = .ok (.ifCond .ne 7, 3) := by decide +kernel
theorem d16_13 : decode jdk_42_method_154_code 13 = .ok (.iconst 1, 1) := by decide +kernel
theorem d16_14 : decode jdk_42_method_154_code 14 = .ok (.goto 4, 3) := by decide +kernel
theorem d16_18 : decode jdk_42_method_154_code 18 = .ok (.ireturn, 1) := by decide +kernel
def Q_lisL_ (Z : State) (a : Addr) (zc : Int32) (h0 : Heap) (n0 : Nat) (rv_ : Option Value) (rh_ : Heap) (rL_ : List Loc) : Prop := (rv_ = some (.int (1 : Int32))) ∧ (Fr n0 rL_) ∧ (rh_ = h0)
set_option maxRecDepth 65536 in
set_option maxHeartbeats 40000000 in
theorem lisL_ (l : Launch) (Z : State) (a0 : Array Value) (hw : ∀ d ∈ tables_1, d.before a0 Z = true) (ws : List Jvm.Cond) (a : Addr) (zc : Int32) (h0 : Heap) (n0 : Nat) (O0 : Old Z n0 h0) (P0 : Fld Z h0 a "java/lang/String" "coder" "B" (.int (0 : Int32))) (P1 : Sta Z Z.heap "java/lang/String" "COMPACT_STRINGS" "Z" (.int zc)) (P2 : ¬ zc = 0) :
    MetFree l (⟨"java/lang/String", "isLatin1", "()Z"⟩ : MethodName) (head1 (Jvm.Cond.code (⟨"java/lang/String", "isLatin1", "()Z"⟩ : MethodName) jdk_42_method_154_code 1 (some .boolean) :: ws) ({ frames := 0, cells := 0, slots := 0, locals := 0 } : Room)) (fun a_ U_ => a_ = #[(.ref a)] ∧ Z.Warmed39 U_.vm ∧ U_.heap = h0) (fun _ _ _ _ _ => True) (fun _ U_ o_ U_' => ∃ v_ L_, o_ = .returned v_ ∧ Q_lisL_ Z a zc h0 n0 v_ U_'.heap L_ ∧ FrameEnd U_ o_ U_' L_ ({ frames := 0, cells := 0, slots := 0, locals := 0 } : Room).cells ({ frames := 0, cells := 0, slots := 0, locals := 0 } : Room).slots) := by
  have hzc := P2
  refine MetFree.of_bodySF (plainFor_of_name pn_47582652) hisR ?_
  intro p e s m args below meth c s₁ Bd hml0 hP0 hK
  obtain ⟨rfl, hZ, hh⟩ := hP0
  have hx := Bd.exec
  have hby := Bd.bytes
  have hml : c.maxLocals = 1 := hml0
  have hown : s.vm.findClass "java/lang/String" = some m.cls := findClass_of_methodNamed Bd.named
  have hnm := (name_of_methodNamed Bd.named Bd.method).1
  have X0 : Stand p l e ({ frames := 0, cells := 0, slots := 0, locals := 0 } : Room) s m #[(.ref a)] below meth c s₁ [] 0 0 := Stand.of_body Bd
  have e0 : s₁.heap = h0 := by rw [← hh, Bd.state]; rfl
  have N0 := Fr.nil n0
  obtain ⟨P, hP, R0⟩ : ∃ P : State → Prop, (∀ t_, P t_ → Steps p.tables e below (s₁.setTop (entryFrame m #[(.ref a)] 1)) t_) ∧ Go p e below P s₁ (mkF m 0 #[.val (.ref a)] []) := ⟨_, fun _ h => h, fun t_ k_ => castTop (ef_lisL_ m a) k_⟩
  obtain ⟨T8, X8, e8, st8⟩ := getS2 X0 hx hZ hown (host := "") (Or.inl (hw _ (List.mem_of_getElem? (i := 67) rfl))) Via.refl e0 (P1.ext O0.2) (g := (mkF m 0 #[.val (.ref a)] [])) rfl (hb hby d16_0)
  have R9 : Go p e below P T8 (mkF m 3 #[.val (.ref a)] [(.int zc)]) := fun t_ k_ => R0 t_ (st8 t_ k_)
  have R10 : Go p e below P T8 (mkF m 6 #[.val (.ref a)] []) := fun t_ k_ => R9 t_ (XS.ifNo X8.here hx rfl (hb hby d16_3) rfl ((if0 _ _).trans (feq hzc).1) k_)
  have R11 : Go p e below P T8 (mkF m 7 #[.val (.ref a)] [(.ref a)]) := fun t_ k_ => R10 t_ (XS.aloadN X8.here hx rfl (hb hby d16_6) rfl rfl k_)
  obtain ⟨T12, X12, e12, st12⟩ := getF X8 hx hZ hown (host := "") (Or.inl (hw _ (List.mem_of_getElem? (i := 51) rfl))) Via.refl e8 P0 (g := (mkF m 7 #[.val (.ref a)] [(.ref a)])) rfl rfl (hb hby d16_7)
  have R13 : Go p e below P T12 (mkF m 10 #[.val (.ref a)] [(.int (0 : Int32))]) := fun t_ k_ => R11 t_ (st12 t_ k_)
  have R14 : Go p e below P T12 (mkF m 13 #[.val (.ref a)] []) := fun t_ k_ => R13 t_ (XS.ifNo X12.here hx rfl (hb hby d16_10) rfl ((if0 _ _).trans (teq rfl).2) k_)
  have R15 : Go p e below P T12 (mkF m 14 #[.val (.ref a)] [(.int (1 : Int32))]) := fun t_ k_ => R14 t_ (XS.iconst X12.here hx rfl (hb hby d16_13) k_)
  have R16 : Go p e below P T12 (mkF m 18 #[.val (.ref a)] [(.int (1 : Int32))]) := fun t_ k_ => R15 t_ (XS.goto X12.here hx rfl (pc0 := 14) (pc' := 18) rfl (hb hby d16_14) (by decide) (by decide) k_)
  obtain ⟨fs, hr, hrun, hended, hW, hsame⟩ := X12.leave (v := some (.int (nar .boolean (1 : Int32)))) (fun h => by rw [Bd.returns] at h; cases h)
  exact ⟨_, _, hP _ (R16 _ (retN X12 hx (t := .boolean) Bd.returns (by simp) (hb hby d16_18) hr)), hrun, hended, _, _, rfl, ⟨rfl, N0, e12⟩, ⟨_, rfl⟩, hW, hsame.mono (by decide) (by decide)⟩
theorem ef_llen_ (m : MethodId) (x0 : Addr) : entryFrame m #[(.ref x0)] 1 = mkF m 0 #[.val (.ref x0)] [] := by first | (simp [entryFrame, mkF, argsToLocals, Value.category]; done) | rfl
theorem d11_0 : decode jdk_42_method_54_code 0 = .ok (.aload_n 0, 1) := by decide +kernel
theorem d11_1 : decode jdk_42_method_54_code 1 = .ok (.getfield 9, 3) := by decide +kernel
theorem d11_4 : decode jdk_42_method_54_code 4 = .ok (.arraylength, 1) := by decide +kernel
theorem d11_5 : decode jdk_42_method_54_code 5 = .ok (.aload_n 0, 1) := by decide +kernel
theorem d11_6 : decode jdk_42_method_54_code 6 = .ok (.invokevirtual 335, 3) := by decide +kernel
theorem pd_16428514 : parseMethodDescriptor "()B" = some ⟨[], some .byte⟩ := by decide +kernel
theorem d11_9 : decode jdk_42_method_54_code 9 = .ok (.ishr, 1) := by decide +kernel
theorem d11_10 : decode jdk_42_method_54_code 10 = .ok (.ireturn, 1) := by decide +kernel
def Q_llen_ (Z : State) (a : Addr) (t : Addr) (kb : ClassId) (N : Int32) (vs : List Value) (zc : Int32) (h0 : Heap) (n0 : Nat) (rv_ : Option Value) (rh_ : Heap) (rL_ : List Loc) : Prop := (rv_ = some (.int N)) ∧ (Fr n0 rL_) ∧ (rh_ = h0)
set_option maxRecDepth 65536 in
set_option maxHeartbeats 40000000 in
theorem llen_ (l : Launch) (Z : State) (a0 : Array Value) (hw : ∀ d ∈ tables_1, d.before a0 Z = true) (ws : List Jvm.Cond) (a : Addr) (t : Addr) (kb : ClassId) (N : Int32) (vs : List Value) (zc : Int32) (h0 : Heap) (n0 : Nat) (O0 : Old Z n0 h0) (P0 : Exa Z h0 a "java/lang/String") (P1 : Fld Z h0 a "java/lang/String" "coder" "B" (.int (0 : Int32))) (P2 : Fld Z h0 a "java/lang/String" "value" "[B" (.ref t)) (P3 : Arv Z h0 t kb .byte N vs (.int (0 : Int32))) (P4 : Sta Z Z.heap "java/lang/String" "COMPACT_STRINGS" "Z" (.int zc)) (P5 : ¬ zc = 0) :
    MetFree l (⟨"java/lang/String", "length", "()I"⟩ : MethodName) (head1 (Jvm.Cond.code (⟨"java/lang/String", "length", "()I"⟩ : MethodName) jdk_42_method_54_code 1 (some .int) :: ws) ({ frames := 1, cells := 0, slots := 0, locals := 13 } : Room)) (fun a_ U_ => a_ = #[(.ref a)] ∧ Z.Warmed39 U_.vm ∧ U_.heap = h0) (fun _ _ _ _ _ => True) (fun _ U_ o_ U_' => ∃ v_ L_, o_ = .returned v_ ∧ Q_llen_ Z a t kb N vs zc h0 n0 v_ U_'.heap L_ ∧ FrameEnd U_ o_ U_' L_ ({ frames := 1, cells := 0, slots := 0, locals := 13 } : Room).cells ({ frames := 1, cells := 0, slots := 0, locals := 13 } : Room).slots) := by
  have hzc := P5
  refine MetFree.of_bodySF (plainFor_of_name pn_47582652) hisR ?_
  intro p e s m args below meth c s₁ Bd hml0 hP0 hK
  obtain ⟨rfl, hZ, hh⟩ := hP0
  have hx := Bd.exec
  have hby := Bd.bytes
  have hml : c.maxLocals = 1 := hml0
  have hown : s.vm.findClass "java/lang/String" = some m.cls := findClass_of_methodNamed Bd.named
  have hnm := (name_of_methodNamed Bd.named Bd.method).1
  have X0 : Stand p l e ({ frames := 1, cells := 0, slots := 0, locals := 13 } : Room) s m #[(.ref a)] below meth c s₁ [] 0 0 := Stand.of_body Bd
  have e0 : s₁.heap = h0 := by rw [← hh, Bd.state]; rfl
  have N0 := Fr.nil n0
  obtain ⟨P, hP, R0⟩ : ∃ P : State → Prop, (∀ t_, P t_ → Steps p.tables e below (s₁.setTop (entryFrame m #[(.ref a)] 1)) t_) ∧ Go p e below P s₁ (mkF m 0 #[.val (.ref a)] []) := ⟨_, fun _ h => h, fun t_ k_ => castTop (ef_llen_ m a) k_⟩
  have R17 : Go p e below P s₁ (mkF m 1 #[.val (.ref a)] [(.ref a)]) := fun t_ k_ => R0 t_ (XS.aloadN X0.here hx rfl (hb hby d11_0) rfl rfl k_)
  obtain ⟨T18, X18, e18, st18⟩ := getF X0 hx hZ hown (host := "") (Or.inl (hw _ (List.mem_of_getElem? (i := 49) rfl))) Via.refl e0 P2 (g := (mkF m 1 #[.val (.ref a)] [(.ref a)])) rfl rfl (hb hby d11_1)
  have R19 : Go p e below P T18 (mkF m 4 #[.val (.ref a)] [(.ref t)]) := fun t_ k_ => R17 t_ (st18 t_ k_)
  obtain ⟨cl20, cl20A, -, cl20S, cl20N, -, -⟩ := id P3
  have R21 : Go p e below P T18 (mkF m 5 #[.val (.ref a)] [(.int N)]) := fun t_ k_ => R19 t_ (X18.arraylength hx (by rw [e18]; exact cl20A.1) (State.isArrayOf_alike hZ.alike cl20A.2.1) (g := (mkF m 4 #[.val (.ref a)] [(.ref t)])) rfl rfl (hb hby d11_4) t_ (by rw [len_of cl20S cl20N]; exact k_))
  have R22 : Go p e below P T18 (mkF m 6 #[.val (.ref a)] [(.ref a), (.int N)]) := fun t_ k_ => R21 t_ (XS.aloadN X18.here hx rfl (hb hby d11_5) rfl rfl k_)
  obtain ⟨cq23, kq23, q23a, q23b, q23c⟩ := isOf hZ e18 P0
  obtain ⟨rv23, _, ⟨T23, L23, k23, n23⟩, -, X23, ⟨Lc23, hQ23, l23, y23, z23⟩, st23⟩ := X18.virtualBack hx (y := (⟨"java/lang/String", "coder", "()B"⟩ : MethodName)) (z := (⟨"java/lang/String", "coder", "()B"⟩ : MethodName)) hown (mvT hZ (hw _ (List.mem_of_getElem? (i := 62) rfl))) (mvT hZ (hw _ (List.mem_of_getElem? (i := 63) rfl))) (notFace_of_selects (args := #[]) (mvT hZ (hw _ (List.mem_of_getElem? (i := 65) rfl)))) (mvT hZ (hw _ (List.mem_of_getElem? (i := 65) rfl))) (mvT hZ (hw _ (List.mem_of_getElem? (i := 64) rfl))) (by decide) (backOf (W := 1) (lcoder_ l Z a0 hw [] a zc h0 n0 O0 P1 P4 hzc) hZ (hw _ (List.mem_of_getElem? (i := 66) rfl)) (hw _ (List.mem_of_getElem? (i := 36) rfl)) (by decide) (by decide)) q23a q23c (g := (mkF m 6 #[.val (.ref a)] [(.ref a), (.int N)])) rfl (by rw [hml]; rfl) (Steps.refl _) (argsL := []) (rest := [(.int N)]) (lenOf pd_16428514 rfl) rfl (by show 2 * 0 + _ ≤ _; exact Nat.le_of_eq rfl) (hb hby d11_6) (fun _ _ => ⟨rfl, e18, (by decide : 0 + 0 ≤ _), (by decide : 0 + 0 ≤ _)⟩)
  dsimp only [Pt.U, Pt.locs, Pt.cells, Pt.slots] at X23 l23 y23 z23 st23 hQ23
  subst l23 y23 z23
  obtain ⟨rfl, N23q, K23⟩ := hQ23
  have N23 := Fr.app N0 N23q
  have R24 : Go p e below P T23 (mkF m 9 #[.val (.ref a)] [(.int (0 : Int32)), (.int N)]) := fun t_ k_ => R22 t_ (st23.trans k_)
  have R25 : Go p e below P T23 (mkF m 10 #[.val (.ref a)] [(.int (N >>> ((0 : Int32) &&& 31)))]) := fun t_ k_ => R24 t_ (XS.ishr X23.here hx rfl (hb hby d11_9) rfl k_)
  obtain ⟨fs, hr, hrun, hended, hW, hsame⟩ := X23.leave (v := some (.int (N >>> ((0 : Int32) &&& 31)))) (fun h => by rw [Bd.returns] at h; cases h)
  exact ⟨_, _, hP _ (R25 _ (retI X23 hx Bd.returns (hb hby d11_10) hr)), hrun, hended, _, _, rfl, ⟨(by rw [shr0]), N23, K23⟩, ⟨_, rfl⟩, hW, hsame.mono (by decide) (by decide)⟩
theorem pn_82791839 : plainName "jdk/internal/util/Preconditions" = true := by first | (simp [plainName, overriddenIn]; done) | decide +kernel
theorem ef_lpre_ (m : MethodId) (x0 : Int32) (x1 : Int32) (x2 : Value) (r2 : x2.isRef = true) : entryFrame m #[(.int x0), (.int x1), x2] 3 = mkF m 0 #[.val (.int x0), .val (.int x1), .val x2] [] := by first | (simp [entryFrame, mkF, argsToLocals, Value.category]; done) | rfl | (rcases ref_cases r2 with rfl | ⟨_, rfl⟩ <;> first | (simp [entryFrame, mkF, argsToLocals, Value.category]; done) | rfl)
theorem d19_0 : decode jdk_41_method_11_code 0 = .ok (.iload_n 0, 1) := by decide +kernel
theorem d19_1 : decode jdk_41_method_11_code 1 = .ok (.ifCond .lt 8, 3) := by decide +kernel
theorem d19_4 : decode jdk_41_method_11_code 4 = .ok (.iload_n 0, 1) := by decide +kernel
theorem d19_5 : decode jdk_41_method_11_code 5 = .ok (.iload_n 1, 1) := by decide +kernel
theorem d19_6 : decode jdk_41_method_11_code 6 = .ok (.if_icmp .lt 10, 3) := by decide +kernel
theorem d19_16 : decode jdk_41_method_11_code 16 = .ok (.iload_n 0, 1) := by decide +kernel
theorem d19_17 : decode jdk_41_method_11_code 17 = .ok (.ireturn, 1) := by decide +kernel
def Q_lpre_ (Z : State) (i : Int32) (n : Int32) (fm : Value) (h0 : Heap) (n0 : Nat) (rv_ : Option Value) (rh_ : Heap) (rL_ : List Loc) : Prop := (rv_ = some (.int i)) ∧ (Fr n0 rL_) ∧ (rh_ = h0)
set_option maxRecDepth 65536 in
set_option maxHeartbeats 40000000 in
theorem lpre_ (l : Launch) (Z : State) (a0 : Array Value) (hw : ∀ d ∈ tables_1, d.before a0 Z = true) (ws : List Jvm.Cond) (i : Int32) (n : Int32) (fm : Value) (h0 : Heap) (n0 : Nat) (O0 : Old Z n0 h0) (P0 : fm.isRef = true) (P1 : ¬ i < 0 ∧ i < n) :
    MetFree l (⟨"jdk/internal/util/Preconditions", "checkIndex", "(IILjava/util/function/BiFunction;)I"⟩ : MethodName) (head1 (Jvm.Cond.code (⟨"jdk/internal/util/Preconditions", "checkIndex", "(IILjava/util/function/BiFunction;)I"⟩ : MethodName) jdk_41_method_11_code 3 (some .int) :: ws) ({ frames := 0, cells := 0, slots := 0, locals := 0 } : Room)) (fun a_ U_ => a_ = #[(.int i), (.int n), fm] ∧ Z.Warmed39 U_.vm ∧ U_.heap = h0) (fun _ _ _ _ _ => True) (fun _ U_ o_ U_' => ∃ v_ L_, o_ = .returned v_ ∧ Q_lpre_ Z i n fm h0 n0 v_ U_'.heap L_ ∧ FrameEnd U_ o_ U_' L_ ({ frames := 0, cells := 0, slots := 0, locals := 0 } : Room).cells ({ frames := 0, cells := 0, slots := 0, locals := 0 } : Room).slots) := by
  have hfm := P0
  have hin := P1
  refine MetFree.of_bodySF (plainFor_of_name pn_82791839) hisR ?_
  intro p e s m args below meth c s₁ Bd hml0 hP0 hK
  obtain ⟨rfl, hZ, hh⟩ := hP0
  have hx := Bd.exec
  have hby := Bd.bytes
  have hml : c.maxLocals = 3 := hml0
  have hown : s.vm.findClass "jdk/internal/util/Preconditions" = some m.cls := findClass_of_methodNamed Bd.named
  have hnm := (name_of_methodNamed Bd.named Bd.method).1
  have X0 : Stand p l e ({ frames := 0, cells := 0, slots := 0, locals := 0 } : Room) s m #[(.int i), (.int n), fm] below meth c s₁ [] 0 0 := Stand.of_body Bd
  have e0 : s₁.heap = h0 := by rw [← hh, Bd.state]; rfl
  have N0 := Fr.nil n0
  obtain ⟨P, hP, R0⟩ : ∃ P : State → Prop, (∀ t_, P t_ → Steps p.tables e below (s₁.setTop (entryFrame m #[(.int i), (.int n), fm] 3)) t_) ∧ Go p e below P s₁ (mkF m 0 #[.val (.int i), .val (.int n), .val fm] []) := ⟨_, fun _ h => h, fun t_ k_ => castTop (ef_lpre_ m i n fm hfm) k_⟩
  have R26 : Go p e below P s₁ (mkF m 1 #[.val (.int i), .val (.int n), .val fm] [(.int i)]) := fun t_ k_ => R0 t_ (XS.iloadN X0.here hx rfl (hb hby d19_0) rfl k_)
  have R27 : Go p e below P s₁ (mkF m 4 #[.val (.int i), .val (.int n), .val fm] []) := fun t_ k_ => R26 t_ (XS.ifNo X0.here hx rfl (hb hby d19_1) rfl ((if0 _ _).trans (flt hin.1).1) k_)
  have R28 : Go p e below P s₁ (mkF m 5 #[.val (.int i), .val (.int n), .val fm] [(.int i)]) := fun t_ k_ => R27 t_ (XS.iloadN X0.here hx rfl (hb hby d19_4) rfl k_)
  have R29 : Go p e below P s₁ (mkF m 6 #[.val (.int i), .val (.int n), .val fm] [(.int n), (.int i)]) := fun t_ k_ => R28 t_ (XS.iloadN X0.here hx rfl (hb hby d19_5) rfl k_)
  have R30 : Go p e below P s₁ (mkF m 16 #[.val (.int i), .val (.int n), .val fm] []) := fun t_ k_ => R29 t_ (XS.icmpYes X0.here hx rfl (pc0 := 6) (pc' := 16) rfl (hb hby d19_6) rfl (tlt hin.2).1 (by decide) (by decide) k_)
  have R31 : Go p e below P s₁ (mkF m 17 #[.val (.int i), .val (.int n), .val fm] [(.int i)]) := fun t_ k_ => R30 t_ (XS.iloadN X0.here hx rfl (hb hby d19_16) rfl k_)
  obtain ⟨fs, hr, hrun, hended, hW, hsame⟩ := X0.leave (v := some (.int i)) (fun h => by rw [Bd.returns] at h; cases h)
  exact ⟨_, _, hP _ (R31 _ (retI X0 hx Bd.returns (hb hby d19_17) hr)), hrun, hended, _, _, rfl, ⟨rfl, N0, e0⟩, ⟨_, rfl⟩, hW, hsame.mono (by decide) (by decide)⟩
theorem ef_lchk_ (m : MethodId) (x0 : Int32) (x1 : Int32) : entryFrame m #[(.int x0), (.int x1)] 2 = mkF m 0 #[.val (.int x0), .val (.int x1)] [] := by first | (simp [entryFrame, mkF, argsToLocals, Value.category]; done) | rfl
theorem d18_0 : decode jdk_42_method_155_code 0 = .ok (.iload_n 0, 1) := by decide +kernel
theorem d18_1 : decode jdk_42_method_155_code 1 = .ok (.iload_n 1, 1) := by decide +kernel
theorem d18_2 : decode jdk_42_method_155_code 2 = .ok (.getstatic 1053, 3) := by decide +kernel
theorem d18_5 : decode jdk_42_method_155_code 5 = .ok (.invokestatic 1059, 3) := by decide +kernel
theorem pd_22551340 : parseMethodDescriptor "(IILjava/util/function/BiFunction;)I" = some ⟨[.int, .int, (.object "java/util/function/BiFunction")], some .int⟩ := by decide +kernel
theorem d18_8 : decode jdk_42_method_155_code 8 = .ok (.pop, 1) := by decide +kernel
theorem d18_9 : decode jdk_42_method_155_code 9 = .ok (.return_, 1) := by decide +kernel
def Q_lchk_ (Z : State) (i : Int32) (n : Int32) (fm : Value) (h0 : Heap) (n0 : Nat) (rv_ : Option Value) (rh_ : Heap) (rL_ : List Loc) : Prop := (rv_ = none) ∧ (Fr n0 rL_) ∧ (rh_ = h0)
set_option maxRecDepth 65536 in
set_option maxHeartbeats 40000000 in
theorem lchk_ (l : Launch) (Z : State) (a0 : Array Value) (hw : ∀ d ∈ tables_1, d.before a0 Z = true) (ws : List Jvm.Cond) (i : Int32) (n : Int32) (fm : Value) (h0 : Heap) (n0 : Nat) (O0 : Old Z n0 h0) (P0 : Sta Z Z.heap "jdk/internal/util/Preconditions" "SIOOBE_FORMATTER" "Ljava/util/function/BiFunction;" fm) (P1 : fm.isRef = true) (P2 : ¬ i < 0 ∧ i < n) :
    MetFree l (⟨"java/lang/String", "checkIndex", "(II)V"⟩ : MethodName) (head1 (Jvm.Cond.code (⟨"java/lang/String", "checkIndex", "(II)V"⟩ : MethodName) jdk_42_method_155_code 2 none :: ws) ({ frames := 1, cells := 0, slots := 0, locals := 14 } : Room)) (fun a_ U_ => a_ = #[(.int i), (.int n)] ∧ Z.Warmed39 U_.vm ∧ U_.heap = h0) (fun _ _ _ _ _ => True) (fun _ U_ o_ U_' => ∃ v_ L_, o_ = .returned v_ ∧ Q_lchk_ Z i n fm h0 n0 v_ U_'.heap L_ ∧ FrameEnd U_ o_ U_' L_ ({ frames := 1, cells := 0, slots := 0, locals := 14 } : Room).cells ({ frames := 1, cells := 0, slots := 0, locals := 14 } : Room).slots) := by
  have hfm := P1
  have hin := P2
  refine MetFree.of_bodySF (plainFor_of_name pn_47582652) hisR ?_
  intro p e s m args below meth c s₁ Bd hml0 hP0 hK
  obtain ⟨rfl, hZ, hh⟩ := hP0
  have hx := Bd.exec
  have hby := Bd.bytes
  have hml : c.maxLocals = 2 := hml0
  have hown : s.vm.findClass "java/lang/String" = some m.cls := findClass_of_methodNamed Bd.named
  have hnm := (name_of_methodNamed Bd.named Bd.method).1
  have X0 : Stand p l e ({ frames := 1, cells := 0, slots := 0, locals := 14 } : Room) s m #[(.int i), (.int n)] below meth c s₁ [] 0 0 := Stand.of_body Bd
  have e0 : s₁.heap = h0 := by rw [← hh, Bd.state]; rfl
  have N0 := Fr.nil n0
  obtain ⟨P, hP, R0⟩ : ∃ P : State → Prop, (∀ t_, P t_ → Steps p.tables e below (s₁.setTop (entryFrame m #[(.int i), (.int n)] 2)) t_) ∧ Go p e below P s₁ (mkF m 0 #[.val (.int i), .val (.int n)] []) := ⟨_, fun _ h => h, fun t_ k_ => castTop (ef_lchk_ m i n) k_⟩
  have R32 : Go p e below P s₁ (mkF m 1 #[.val (.int i), .val (.int n)] [(.int i)]) := fun t_ k_ => R0 t_ (XS.iloadN X0.here hx rfl (hb hby d18_0) rfl k_)
  have R33 : Go p e below P s₁ (mkF m 2 #[.val (.int i), .val (.int n)] [(.int n), (.int i)]) := fun t_ k_ => R32 t_ (XS.iloadN X0.here hx rfl (hb hby d18_1) rfl k_)
  obtain ⟨T34, X34, e34, st34⟩ := getS2 X0 hx hZ hown (host := "") (Or.inl (hw _ (List.mem_of_getElem? (i := 91) rfl))) Via.refl e0 (P0.ext O0.2) (g := (mkF m 2 #[.val (.int i), .val (.int n)] [(.int n), (.int i)])) rfl (hb hby d18_2)
  have R35 : Go p e below P T34 (mkF m 5 #[.val (.int i), .val (.int n)] [fm, (.int n), (.int i)]) := fun t_ k_ => R33 t_ (st34 t_ k_)
  obtain ⟨rv36, _, ⟨T36, L36, k36, n36⟩, -, X36, ⟨Lc36, hQ36, l36, y36, z36⟩, st36⟩ := Jvm.LawKit.callS X34 hx (y := (⟨"jdk/internal/util/Preconditions", "checkIndex", "(IILjava/util/function/BiFunction;)I"⟩ : MethodName)) hown (mvT hZ (hw _ (List.mem_of_getElem? (i := 93) rfl))) (mvT hZ (hw _ (List.mem_of_getElem? (i := 94) rfl))) (mvT hZ (hw _ (List.mem_of_getElem? (i := 92) rfl))) (mvT hZ (hw _ (List.mem_of_getElem? (i := 95) rfl))) (by decide) (backOf (W := 0) (lpre_ l Z a0 hw [] i n fm h0 n0 O0 hfm hin) hZ (hw _ (List.mem_of_getElem? (i := 95) rfl)) (hw _ (List.mem_of_getElem? (i := 92) rfl)) (by decide) (by decide)) (g := (mkF m 5 #[.val (.int i), .val (.int n)] [fm, (.int n), (.int i)])) rfl (by rw [hml]; rfl) (argsL := [(.int i), (.int n), fm]) (rest := []) (lenOf pd_22551340 rfl) rfl (by show 2 * 0 + _ ≤ _; exact Nat.le_of_eq rfl) (hb hby d18_5) (fun _ _ => ⟨rfl, e34, (by decide : 0 + 0 ≤ _), (by decide : 0 + 0 ≤ _)⟩)
  dsimp only [Pt.U, Pt.locs, Pt.cells, Pt.slots] at X36 l36 y36 z36 st36 hQ36
  subst l36 y36 z36
  obtain ⟨rfl, N36q, K36⟩ := hQ36
  have N36 := Fr.app N0 N36q
  have R37 : Go p e below P T36 (mkF m 8 #[.val (.int i), .val (.int n)] [(.int i)]) := fun t_ k_ => R35 t_ (st36 t_ k_)
  have R38 : Go p e below P T36 (mkF m 9 #[.val (.int i), .val (.int n)] []) := fun t_ k_ => R37 t_ (XS.pop X36.here hx rfl (hb hby d18_8) rfl rfl k_)
  obtain ⟨fs, hr, hrun, hended, hW, hsame⟩ := X36.leave (v := none) (fun _ => rfl)
  exact ⟨_, _, hP _ (R38 _ (X36.returnOut hx Bd.returns (hb hby d18_9) hr)), hrun, hended, _, _, rfl, ⟨rfl, N36, K36⟩, ⟨_, rfl⟩, hW, hsame.mono (by decide) (by decide)⟩
theorem pn_27686809 : plainName "java/lang/StringLatin1" = true := by first | (simp [plainName, overriddenIn]; done) | decide +kernel
theorem ef_llch_ (m : MethodId) (x0 : Addr) (x1 : Int32) : entryFrame m #[(.ref x0), (.int x1)] 2 = mkF m 0 #[.val (.ref x0), .val (.int x1)] [] := by first | (simp [entryFrame, mkF, argsToLocals, Value.category]; done) | rfl
theorem d17_0 : decode jdk_43_method_2_code 0 = .ok (.iload_n 1, 1) := by decide +kernel
theorem d17_1 : decode jdk_43_method_2_code 1 = .ok (.aload_n 0, 1) := by decide +kernel
theorem d17_2 : decode jdk_43_method_2_code 2 = .ok (.arraylength, 1) := by decide +kernel
theorem d17_3 : decode jdk_43_method_2_code 3 = .ok (.invokestatic 9, 3) := by decide +kernel
theorem pd_1793250 : parseMethodDescriptor "(II)V" = some ⟨[.int, .int], none⟩ := by decide +kernel
theorem d17_6 : decode jdk_43_method_2_code 6 = .ok (.aload_n 0, 1) := by decide +kernel
theorem d17_7 : decode jdk_43_method_2_code 7 = .ok (.iload_n 1, 1) := by decide +kernel
theorem d17_8 : decode jdk_43_method_2_code 8 = .ok (.baload, 1) := by decide +kernel
theorem d17_9 : decode jdk_43_method_2_code 9 = .ok (.sipush 255, 3) := by decide +kernel
theorem d17_12 : decode jdk_43_method_2_code 12 = .ok (.iand, 1) := by decide +kernel
theorem d17_13 : decode jdk_43_method_2_code 13 = .ok (.i2c, 1) := by decide +kernel
theorem d17_14 : decode jdk_43_method_2_code 14 = .ok (.ireturn, 1) := by decide +kernel
def Q_llch_ (Z : State) (t : Addr) (kb : ClassId) (cs : List Int32) (i : Int32) (j : Nat) (fm : Value) (h0 : Heap) (n0 : Nat) (rv_ : Option Value) (rh_ : Heap) (rL_ : List Loc) : Prop := (rv_ = some (.int (cs.getD j 0))) ∧ (Fr n0 rL_) ∧ (rh_ = h0)
set_option maxRecDepth 65536 in
set_option maxHeartbeats 40000000 in
theorem llch_ (l : Launch) (Z : State) (a0 : Array Value) (hw : ∀ d ∈ tables_1, d.before a0 Z = true) (ws : List Jvm.Cond) (t : Addr) (kb : ClassId) (cs : List Int32) (i : Int32) (j : Nat) (fm : Value) (h0 : Heap) (n0 : Nat) (O0 : Old Z n0 h0) (P0 : Arv Z h0 t kb .byte (Int32.ofNat cs.length) ((cs.map lo8).map Value.int) (.int (0 : Int32))) (P1 : Sta Z Z.heap "jdk/internal/util/Preconditions" "SIOOBE_FORMATTER" "Ljava/util/function/BiFunction;" fm) (P2 : fm.isRef = true) (P3 : i = Int32.ofNat j) (P4 : j < cs.length) (P5 : cs.length ≤ 4000) (P6 : ∀ c ∈ cs, ¬ c < 0 ∧ ¬ (255 : Int32) < c) :
    MetFree l (⟨"java/lang/StringLatin1", "charAt", "([BI)C"⟩ : MethodName) (head1 (Jvm.Cond.code (⟨"java/lang/StringLatin1", "charAt", "([BI)C"⟩ : MethodName) jdk_43_method_2_code 2 (some .char) :: ws) ({ frames := 2, cells := 0, slots := 0, locals := 27 } : Room)) (fun a_ U_ => a_ = #[(.ref t), (.int i)] ∧ Z.Warmed39 U_.vm ∧ U_.heap = h0) (fun _ _ _ _ _ => True) (fun _ U_ o_ U_' => ∃ v_ L_, o_ = .returned v_ ∧ Q_llch_ Z t kb cs i j fm h0 n0 v_ U_'.heap L_ ∧ FrameEnd U_ o_ U_' L_ ({ frames := 2, cells := 0, slots := 0, locals := 27 } : Room).cells ({ frames := 2, cells := 0, slots := 0, locals := 27 } : Room).slots) := by
  have hfm := P2
  have hi := P3
  have hj := P4
  have l4 := P5
  have hcs := P6
  refine MetFree.of_bodySF (plainFor_of_name pn_27686809) hisR ?_
  intro p e s m args below meth c s₁ Bd hml0 hP0 hK
  obtain ⟨rfl, hZ, hh⟩ := hP0
  have hx := Bd.exec
  have hby := Bd.bytes
  have hml : c.maxLocals = 2 := hml0
  have hown : s.vm.findClass "java/lang/StringLatin1" = some m.cls := findClass_of_methodNamed Bd.named
  have hnm := (name_of_methodNamed Bd.named Bd.method).1
  have X0 : Stand p l e ({ frames := 2, cells := 0, slots := 0, locals := 27 } : Room) s m #[(.ref t), (.int i)] below meth c s₁ [] 0 0 := Stand.of_body Bd
  have e0 : s₁.heap = h0 := by rw [← hh, Bd.state]; rfl
  have N0 := Fr.nil n0
  obtain ⟨P, hP, R0⟩ : ∃ P : State → Prop, (∀ t_, P t_ → Steps p.tables e below (s₁.setTop (entryFrame m #[(.ref t), (.int i)] 2)) t_) ∧ Go p e below P s₁ (mkF m 0 #[.val (.ref t), .val (.int i)] []) := ⟨_, fun _ h => h, fun t_ k_ => castTop (ef_llch_ m t i) k_⟩
  have R39 : Go p e below P s₁ (mkF m 1 #[.val (.ref t), .val (.int i)] [(.int i)]) := fun t_ k_ => R0 t_ (XS.iloadN X0.here hx rfl (hb hby d17_0) rfl k_)
  have R40 : Go p e below P s₁ (mkF m 2 #[.val (.ref t), .val (.int i)] [(.ref t), (.int i)]) := fun t_ k_ => R39 t_ (XS.aloadN X0.here hx rfl (hb hby d17_1) rfl rfl k_)
  obtain ⟨cl41, cl41A, -, cl41S, cl41N, -, -⟩ := id P0
  have R42 : Go p e below P s₁ (mkF m 3 #[.val (.ref t), .val (.int i)] [(.int (Int32.ofNat cs.length)), (.int i)]) := fun t_ k_ => R40 t_ (X0.arraylength hx (by rw [e0]; exact cl41A.1) (State.isArrayOf_alike hZ.alike cl41A.2.1) (g := (mkF m 2 #[.val (.ref t), .val (.int i)] [(.ref t), (.int i)])) rfl rfl (hb hby d17_2) t_ (by rw [len_of cl41S cl41N]; exact k_))
  obtain ⟨rv43, _, ⟨T43, L43, k43, n43⟩, -, X43, ⟨Lc43, hQ43, l43, y43, z43⟩, st43⟩ := Jvm.LawKit.callS X0 hx (y := (⟨"java/lang/String", "checkIndex", "(II)V"⟩ : MethodName)) hown (mvT hZ (hw _ (List.mem_of_getElem? (i := 88) rfl))) (mvT hZ (hw _ (List.mem_of_getElem? (i := 89) rfl))) (mvT hZ (hw _ (List.mem_of_getElem? (i := 36) rfl))) (mvT hZ (hw _ (List.mem_of_getElem? (i := 90) rfl))) (by decide) (backOf (W := 0) (lchk_ l Z a0 hw [] i (Int32.ofNat cs.length) fm h0 n0 O0 P1 hfm (idx_in hi hj l4)) hZ (hw _ (List.mem_of_getElem? (i := 90) rfl)) (hw _ (List.mem_of_getElem? (i := 36) rfl)) (by decide) (by decide)) (g := (mkF m 3 #[.val (.ref t), .val (.int i)] [(.int (Int32.ofNat cs.length)), (.int i)])) rfl (by rw [hml]; rfl) (argsL := [(.int i), (.int (Int32.ofNat cs.length))]) (rest := []) (lenOf pd_1793250 rfl) rfl (by show 2 * 0 + _ ≤ _; exact Nat.le_of_eq rfl) (hb hby d17_3) (fun _ _ => ⟨rfl, e0, (by decide : 0 + 0 ≤ _), (by decide : 0 + 0 ≤ _)⟩)
  dsimp only [Pt.U, Pt.locs, Pt.cells, Pt.slots] at X43 l43 y43 z43 st43 hQ43
  subst l43 y43 z43
  obtain ⟨rfl, N43q, K43⟩ := hQ43
  have N43 := Fr.app N0 N43q
  have R44 : Go p e below P T43 (mkF m 6 #[.val (.ref t), .val (.int i)] []) := fun t_ k_ => R42 t_ (st43 t_ k_)
  have R45 : Go p e below P T43 (mkF m 7 #[.val (.ref t), .val (.int i)] [(.ref t)]) := fun t_ k_ => R44 t_ (XS.aloadN X43.here hx rfl (hb hby d17_6) rfl rfl k_)
  have R46 : Go p e below P T43 (mkF m 8 #[.val (.ref t), .val (.int i)] [(.int i), (.ref t)]) := fun t_ k_ => R45 t_ (XS.iloadN X43.here hx rfl (hb hby d17_7) rfl k_)
  obtain ⟨cl47, cl47A, cl47q, cl47S, cl47N, cl47H, cl47G⟩ := id P0
  have cl47i := inb_of cl47S (idx_in hi hj l4)
  have R48 : Go p e below P T43 (mkF m 9 #[.val (.ref t), .val (.int i)] [(.int (lo8 (cs.getD j 0)))]) := fun t_ k_ => R46 t_ (X43.baloadBytes hx (j := i) (v := (.int (lo8 (cs.getD j 0)))) (by rw [K43]; exact cl47A.1) (State.isArrayOf_alike hZ.alike cl47A.2.1) cl47A.2.2 cl47i (cl47H.at cl47i (idx_at8 hi hj l4)) (g := (mkF m 8 #[.val (.ref t), .val (.int i)] [(.int i), (.ref t)])) rfl rfl (hb hby d17_8) _ k_)
  have R49 : Go p e below P T43 (mkF m 12 #[.val (.ref t), .val (.int i)] [(.int (255 : Int32)), (.int (lo8 (cs.getD j 0)))]) := fun t_ k_ => R48 t_ (XS.sipush X43.here hx rfl (hb hby d17_9) k_)
  have R50 : Go p e below P T43 (mkF m 13 #[.val (.ref t), .val (.int i)] [(.int ((lo8 (cs.getD j 0)) &&& (255 : Int32)))]) := fun t_ k_ => R49 t_ (XS.iand X43.here hx rfl (hb hby d17_12) rfl k_)
  have R51 : Go p e below P T43 (mkF m 14 #[.val (.ref t), .val (.int i)] [(.int (((lo8 (cs.getD j 0)) &&& (255 : Int32)).toUInt32.toUInt16.toUInt32.toInt32))]) := fun t_ k_ => R50 t_ (XS.i2c X43.here hx rfl (hb hby d17_13) rfl k_)
  obtain ⟨fs, hr, hrun, hended, hW, hsame⟩ := X43.leave (v := some (.int (nar .char (((lo8 (cs.getD j 0)) &&& (255 : Int32)).toUInt32.toUInt16.toUInt32.toInt32)))) (fun h => by rw [Bd.returns] at h; cases h)
  exact ⟨_, _, hP _ (R51 _ (retN X43 hx (t := .char) Bd.returns (by simp) (hb hby d17_14) hr)), hrun, hended, _, _, rfl, ⟨(by rw [lo8_back (at_ok hcs hj)]), N43, K43⟩, ⟨_, rfl⟩, hW, hsame.mono (by decide) (by decide)⟩
theorem ef_lch_ (m : MethodId) (x0 : Addr) (x1 : Int32) : entryFrame m #[(.ref x0), (.int x1)] 2 = mkF m 0 #[.val (.ref x0), .val (.int x1)] [] := by first | (simp [entryFrame, mkF, argsToLocals, Value.category]; done) | rfl
theorem d15_0 : decode jdk_42_method_56_code 0 = .ok (.aload_n 0, 1) := by decide +kernel
theorem d15_1 : decode jdk_42_method_56_code 1 = .ok (.invokevirtual 492, 3) := by decide +kernel
theorem pd_16428538 : parseMethodDescriptor "()Z" = some ⟨[], some .boolean⟩ := by decide +kernel
theorem d15_4 : decode jdk_42_method_56_code 4 = .ok (.ifCond .eq 12, 3) := by decide +kernel
theorem d15_7 : decode jdk_42_method_56_code 7 = .ok (.aload_n 0, 1) := by decide +kernel
theorem d15_8 : decode jdk_42_method_56_code 8 = .ok (.getfield 9, 3) := by decide +kernel
theorem d15_11 : decode jdk_42_method_56_code 11 = .ok (.iload_n 1, 1) := by decide +kernel
theorem d15_12 : decode jdk_42_method_56_code 12 = .ok (.invokestatic 495, 3) := by decide +kernel
theorem pd_20721015 : parseMethodDescriptor "([BI)C" = some ⟨[(.array .byte), .int], some .char⟩ := by decide +kernel
theorem d15_15 : decode jdk_42_method_56_code 15 = .ok (.ireturn, 1) := by decide +kernel
def Q_lch_ (Z : State) (a : Addr) (t : Addr) (kb : ClassId) (cs : List Int32) (i : Int32) (j : Nat) (fm : Value) (zc : Int32) (h0 : Heap) (n0 : Nat) (rv_ : Option Value) (rh_ : Heap) (rL_ : List Loc) : Prop := (rv_ = some (.int (cs.getD j 0))) ∧ (Fr n0 rL_) ∧ (rh_ = h0)
set_option maxRecDepth 65536 in
set_option maxHeartbeats 40000000 in
theorem lch_ (l : Launch) (Z : State) (a0 : Array Value) (hw : ∀ d ∈ tables_1, d.before a0 Z = true) (ws : List Jvm.Cond) (a : Addr) (t : Addr) (kb : ClassId) (cs : List Int32) (i : Int32) (j : Nat) (fm : Value) (zc : Int32) (h0 : Heap) (n0 : Nat) (O0 : Old Z n0 h0) (P0 : Exa Z h0 a "java/lang/String") (P1 : Fld Z h0 a "java/lang/String" "coder" "B" (.int (0 : Int32))) (P2 : Fld Z h0 a "java/lang/String" "value" "[B" (.ref t)) (P3 : Arv Z h0 t kb .byte (Int32.ofNat cs.length) ((cs.map lo8).map Value.int) (.int (0 : Int32))) (P4 : Sta Z Z.heap "java/lang/String" "COMPACT_STRINGS" "Z" (.int zc)) (P5 : ¬ zc = 0) (P6 : Sta Z Z.heap "jdk/internal/util/Preconditions" "SIOOBE_FORMATTER" "Ljava/util/function/BiFunction;" fm) (P7 : fm.isRef = true) (P8 : i = Int32.ofNat j) (P9 : j < cs.length) (P10 : cs.length ≤ 4000) (P11 : ∀ c ∈ cs, ¬ c < 0 ∧ ¬ (255 : Int32) < c) :
    MetFree l (⟨"java/lang/String", "charAt", "(I)C"⟩ : MethodName) (head1 (Jvm.Cond.code (⟨"java/lang/String", "charAt", "(I)C"⟩ : MethodName) jdk_42_method_56_code 2 (some .char) :: ws) ({ frames := 3, cells := 0, slots := 0, locals := 40 } : Room)) (fun a_ U_ => a_ = #[(.ref a), (.int i)] ∧ Z.Warmed39 U_.vm ∧ U_.heap = h0) (fun _ _ _ _ _ => True) (fun _ U_ o_ U_' => ∃ v_ L_, o_ = .returned v_ ∧ Q_lch_ Z a t kb cs i j fm zc h0 n0 v_ U_'.heap L_ ∧ FrameEnd U_ o_ U_' L_ ({ frames := 3, cells := 0, slots := 0, locals := 40 } : Room).cells ({ frames := 3, cells := 0, slots := 0, locals := 40 } : Room).slots) := by
  have hzc := P5
  have hfm := P7
  have hi := P8
  have hj := P9
  have l4 := P10
  have hcs := P11
  refine MetFree.of_bodySF (plainFor_of_name pn_47582652) hisR ?_
  intro p e s m args below meth c s₁ Bd hml0 hP0 hK
  obtain ⟨rfl, hZ, hh⟩ := hP0
  have hx := Bd.exec
  have hby := Bd.bytes
  have hml : c.maxLocals = 2 := hml0
  have hown : s.vm.findClass "java/lang/String" = some m.cls := findClass_of_methodNamed Bd.named
  have hnm := (name_of_methodNamed Bd.named Bd.method).1
  have X0 : Stand p l e ({ frames := 3, cells := 0, slots := 0, locals := 40 } : Room) s m #[(.ref a), (.int i)] below meth c s₁ [] 0 0 := Stand.of_body Bd
  have e0 : s₁.heap = h0 := by rw [← hh, Bd.state]; rfl
  have N0 := Fr.nil n0
  obtain ⟨P, hP, R0⟩ : ∃ P : State → Prop, (∀ t_, P t_ → Steps p.tables e below (s₁.setTop (entryFrame m #[(.ref a), (.int i)] 2)) t_) ∧ Go p e below P s₁ (mkF m 0 #[.val (.ref a), .val (.int i)] []) := ⟨_, fun _ h => h, fun t_ k_ => castTop (ef_lch_ m a i) k_⟩
  have R52 : Go p e below P s₁ (mkF m 1 #[.val (.ref a), .val (.int i)] [(.ref a)]) := fun t_ k_ => R0 t_ (XS.aloadN X0.here hx rfl (hb hby d15_0) rfl rfl k_)
  obtain ⟨cq53, kq53, q53a, q53b, q53c⟩ := isOf hZ e0 P0
  obtain ⟨rv53, _, ⟨T53, L53, k53, n53⟩, -, X53, ⟨Lc53, hQ53, l53, y53, z53⟩, st53⟩ := X0.virtualBack hx (y := (⟨"java/lang/String", "isLatin1", "()Z"⟩ : MethodName)) (z := (⟨"java/lang/String", "isLatin1", "()Z"⟩ : MethodName)) hown (mvT hZ (hw _ (List.mem_of_getElem? (i := 79) rfl))) (mvT hZ (hw _ (List.mem_of_getElem? (i := 80) rfl))) (notFace_of_selects (args := #[]) (mvT hZ (hw _ (List.mem_of_getElem? (i := 82) rfl)))) (mvT hZ (hw _ (List.mem_of_getElem? (i := 82) rfl))) (mvT hZ (hw _ (List.mem_of_getElem? (i := 81) rfl))) (by decide) (backOf (W := 0) (lisL_ l Z a0 hw [] a zc h0 n0 O0 P1 P4 hzc) hZ (hw _ (List.mem_of_getElem? (i := 83) rfl)) (hw _ (List.mem_of_getElem? (i := 36) rfl)) (by decide) (by decide)) q53a q53c (g := (mkF m 1 #[.val (.ref a), .val (.int i)] [(.ref a)])) rfl (by rw [hml]; rfl) (Steps.refl _) (argsL := []) (rest := []) (lenOf pd_16428538 rfl) rfl (by show 2 * 0 + _ ≤ _; exact Nat.le_of_eq rfl) (hb hby d15_1) (fun _ _ => ⟨rfl, e0, (by decide : 0 + 0 ≤ _), (by decide : 0 + 0 ≤ _)⟩)
  dsimp only [Pt.U, Pt.locs, Pt.cells, Pt.slots] at X53 l53 y53 z53 st53 hQ53
  subst l53 y53 z53
  obtain ⟨rfl, N53q, K53⟩ := hQ53
  have N53 := Fr.app N0 N53q
  have R54 : Go p e below P T53 (mkF m 4 #[.val (.ref a), .val (.int i)] [(.int (1 : Int32))]) := fun t_ k_ => R52 t_ (st53.trans k_)
  have R55 : Go p e below P T53 (mkF m 7 #[.val (.ref a), .val (.int i)] []) := fun t_ k_ => R54 t_ (XS.ifNo X53.here hx rfl (hb hby d15_4) rfl ((if0 _ _).trans (feq (by decide : ¬ ((1 : Int32) = (0 : Int32)))).1) k_)
  have R56 : Go p e below P T53 (mkF m 8 #[.val (.ref a), .val (.int i)] [(.ref a)]) := fun t_ k_ => R55 t_ (XS.aloadN X53.here hx rfl (hb hby d15_7) rfl rfl k_)
  obtain ⟨T57, X57, e57, st57⟩ := getF X53 hx hZ hown (host := "") (Or.inl (hw _ (List.mem_of_getElem? (i := 49) rfl))) Via.refl K53 P2 (g := (mkF m 8 #[.val (.ref a), .val (.int i)] [(.ref a)])) rfl rfl (hb hby d15_8)
  have R58 : Go p e below P T57 (mkF m 11 #[.val (.ref a), .val (.int i)] [(.ref t)]) := fun t_ k_ => R56 t_ (st57 t_ k_)
  have R59 : Go p e below P T57 (mkF m 12 #[.val (.ref a), .val (.int i)] [(.int i), (.ref t)]) := fun t_ k_ => R58 t_ (XS.iloadN X57.here hx rfl (hb hby d15_11) rfl k_)
  obtain ⟨rv60, _, ⟨T60, L60, k60, n60⟩, -, X60, ⟨Lc60, hQ60, l60, y60, z60⟩, st60⟩ := Jvm.LawKit.callS X57 hx (y := (⟨"java/lang/StringLatin1", "charAt", "([BI)C"⟩ : MethodName)) hown (mvT hZ (hw _ (List.mem_of_getElem? (i := 84) rfl))) (mvT hZ (hw _ (List.mem_of_getElem? (i := 85) rfl))) (mvT hZ (hw _ (List.mem_of_getElem? (i := 86) rfl))) (mvT hZ (hw _ (List.mem_of_getElem? (i := 87) rfl))) (by decide) (backOf (W := 0) (llch_ l Z a0 hw [] t kb cs i j fm h0 n0 O0 P3 P6 hfm hi hj l4 hcs) hZ (hw _ (List.mem_of_getElem? (i := 87) rfl)) (hw _ (List.mem_of_getElem? (i := 86) rfl)) (by decide) (by decide)) (g := (mkF m 12 #[.val (.ref a), .val (.int i)] [(.int i), (.ref t)])) rfl (by rw [hml]; rfl) (argsL := [(.ref t), (.int i)]) (rest := []) (lenOf pd_20721015 rfl) rfl (by show 2 * 0 + _ ≤ _; exact Nat.le_of_eq rfl) (hb hby d15_12) (fun _ _ => ⟨rfl, e57, (by decide : 0 + 0 ≤ _), (by decide : 0 + 0 ≤ _)⟩)
  dsimp only [Pt.U, Pt.locs, Pt.cells, Pt.slots] at X60 l60 y60 z60 st60 hQ60
  subst l60 y60 z60
  obtain ⟨rfl, N60q, K60⟩ := hQ60
  have N60 := Fr.app N53 N60q
  have R61 : Go p e below P T60 (mkF m 15 #[.val (.ref a), .val (.int i)] [(.int (cs.getD j 0))]) := fun t_ k_ => R59 t_ (st60 t_ k_)
  obtain ⟨fs, hr, hrun, hended, hW, hsame⟩ := X60.leave (v := some (.int (nar .char (cs.getD j 0)))) (fun h => by rw [Bd.returns] at h; cases h)
  exact ⟨_, _, hP _ (R61 _ (retN X60 hx (t := .char) Bd.returns (by simp) (hb hby d15_15) hr)), hrun, hended, _, _, rfl, ⟨(by rw [nar_chr (at_ok hcs hj)]), N60, K60⟩, ⟨_, rfl⟩, hW, hsame.mono (by decide) (by decide)⟩
def tOf (u : Int32) : Nat := u.toInt.toNat
def dN (u : Int32) : Nat := Jvm.Free.SBG.digits (tOf u)
def digL (u : Int32) : List Int32 := (List.range (dN u)).map fun i => Int32.ofNat (48 + tOf u / 10 ^ (dN u - 1 - i) % 10)
theorem digL_len (u : Int32) : (digL u).length = dN u := by simp [digL]
theorem dN_pos (u : Int32) : 1 ≤ dN u ∧ dN u ≤ 10 := Jvm.Free.SBG.digits_pos _
theorem dig_chr : ∀ k : Fin 10, (¬ Int32.ofNat (48 + k.val) < 0 ∧ ¬ (255 : Int32) < Int32.ofNat (48 + k.val)) ∧ lo8 (Int32.ofNat (48 + k.val)) = Int32.ofNat (48 + k.val) ∧ (Int32.ofNat (48 + k.val)).toUInt32.toUInt16.toUInt32.toInt32 = Int32.ofNat (48 + k.val) := by decide +kernel
theorem digL_ok (u : Int32) : ∀ c ∈ digL u, ¬ c < 0 ∧ ¬ (255 : Int32) < c := fun c hc => by
  obtain ⟨i, -, rfl⟩ := List.mem_map.mp hc
  exact (dig_chr ⟨_, Nat.mod_lt _ (by decide : 10 > 0)⟩).1
theorem digL_l4 (u : Int32) : (digL u).length ≤ 4000 := by rw [digL_len]; have := (dN_pos u).2; omega
theorem digL_at {u : Int32} {j : Nat} (h : j < dN u) : (digL u)[j]? = some (Int32.ofNat (48 + tOf u / 10 ^ (dN u - 1 - j) % 10)) := by
  simp [digL, List.getElem?_range h]
theorem tOf_eq {u : Int32} (h : ¬ u < 0) : ((tOf u : Nat) : Int) = u.toInt ∧ tOf u < 2 ^ 31 := by
  have z0 : (0 : Int32).toInt = 0 := by decide
  rw [Int32.lt_iff_toInt_lt, z0] at h
  have := Int32.toInt_lt u
  unfold tOf
  omega
theorem negU {u : Int32} (h : ¬ u < 0) : (if u < 0 then u else -u) = Jvm.Free.SBG.negI (tOf u) := by
  obtain ⟨h1, h2⟩ := tOf_eq h
  rw [if_neg h]; apply Int32.toInt_inj.mp
  rw [Int32.toInt_neg, Jvm.Free.SBG.negI_toInt (by omega), Jvm.Free.SBG.bm (by omega) (by omega)]; omega
theorem sgnU {u : Int32} (h : ¬ u < 0) : Jvm.Free.SBG.GetChars.sgn u = 0 := by simp [Jvm.Free.SBG.GetChars.sgn, h]
theorem n32' {k : Nat} (h : k < 2 ^ 31) : (Int32.ofNat k).toNatClampNeg = k := by unfold Int32.toNatClampNeg; rw [Int32.toInt_ofNat_of_lt h]; rfl
theorem ss_in : Jvm.Free.SBG.StrSize.tab ∈ tables_1 := by decide +kernel
theorem gc_in : ∀ w ∈ Jvm.SetKit.leaves Jvm.Free.SBG.GetChars.tab, w ∈ tables_1 := by decide +kernel
theorem ssBack {p : Program} {l : Launch} {e : Env} {R : Room} {s : State} {args : Array Value} {below : List Frame} {W : Nat} {Z : State} {a0 : Array Value} {h : Heap} (hZ : Z.Warmed39 s.vm) (hw : ∀ d ∈ tables_1, d.before a0 Z = true)
    (wi : (Jvm.Cond.initialized "java/lang/Integer").before a0 Z = true) {x : Int32} (hx : ¬ x < 0) (hfr : 2 ≤ R.frames) (hlo : W + 55 ≤ R.locals) :
    Back l R p e below s args (⟨"java/lang/Integer", "stringSize", "(I)I"⟩ : MethodName) 3 W (fun P a => a = #[.int x] ∧ P.U.heap = h ∧ P.cells + 0 ≤ R.cells ∧ P.slots + 0 ≤ R.slots)
      (fun P _ v B => ∃ L, (v = some (.int (Int32.ofNat (dN x))) ∧ L = [] ∧ B.U.heap = h) ∧ B.locs = P.locs ++ L ∧ B.cells = P.cells + 0 ∧ B.slots = P.slots + 0) := by
  have q1 : Jvm.Free.SBG.StrSize.tab.before args s = true := mv hZ (hw _ ss_in) (by decide +kernel)
  have q2 : (Jvm.Cond.initialized "java/lang/Integer").before args s = true := mvT hZ wi
  refine Back.mono (Jvm.Free.SBG.StrSize.pays hfr hlo q1 q2) (fun P a hp => ⟨hp.2.2.1, hp.2.2.2, x, hp.1⟩) (fun P a v B hp hq => ?_)
  obtain ⟨⟨b1, b2, b3, b4⟩, hv⟩ := hq
  have hv' := hv x hp.1
  rw [Jvm.Free.SBG.strSizeOf_eq (n := tOf x) (by have := (tOf_eq hx).2; omega) (negU hx), sgnU hx] at hv'
  exact ⟨[], ⟨hv', rfl, b1.trans hp.2.1⟩, by rw [List.append_nil]; exact b2, b3, b4⟩
theorem gcBack {p : Program} {l : Launch} {e : Env} {R : Room} {s : State} {args : Array Value} {below : List Frame} {W : Nat} {Z : State} {a0 : Array Value} {h : Heap} {n0 : Nat} (hZ : Z.Warmed39 s.vm) (hw : ∀ d ∈ tables_1, d.before a0 Z = true)
    (wi : (Jvm.Cond.initialized "java/lang/Integer").before a0 Z = true) {x : Int32} (hx : ¬ x < 0) {r : Addr} {k : ClassId} {st d1 d2 : Addr} {D1 D2 : Cell} (O : Old Z n0 h) (hr : n0 ≤ r) (A : Arv Z h r k .byte (Int32.ofNat (dN x)) [] (.int (0 : Int32)))
    (T1 : Jvm.Free.SBG.Tbl Z "DigitOnes" st d1 D1) (O1 : Jvm.Free.SBG.Ones D1) (T2 : Jvm.Free.SBG.Tbl Z "DigitTens" st d2 D2) (O2 : Jvm.Free.SBG.Tens D2) (hfr : 2 ≤ R.frames) (hlo : W + 78 ≤ R.locals) :
    Back l R p e below s args (⟨"java/lang/Integer", "getChars", "(II[B)I"⟩ : MethodName) 3 W (fun P a => a = #[.int x, .int (Int32.ofNat (dN x)), .ref r] ∧ P.U.heap = h ∧ P.cells + 0 ≤ R.cells ∧ P.slots + 0 ≤ R.slots)
      (fun P _ v B => ∃ L, (v = some (.int (0 : Int32)) ∧ Fr n0 L ∧ Keep h B.U.heap [r] ∧ Arv Z B.U.heap r k .byte (Int32.ofNat (digL x).length) (((digL x).map lo8).map Value.int) (.int (0 : Int32))) ∧ B.locs = P.locs ++ L ∧ B.cells = P.cells + 0 ∧ B.slots = P.slots + 0) := by
  intro m meth c P g ig mk a X hg hsize hdg hW hn hp'
  obtain ⟨rfl, rfl, r1, r2⟩ := hp'
  have al : Z.vm.Alike P.U.vm := hZ.alike.trans X.warmed.alike
  have t1 : Jvm.Free.SBG.GetChars.tab.before args s = true := Jvm.SetKit.of_leaves _ fun d hd => by
    have t : ∀ d ∈ Jvm.SetKit.leaves Jvm.Free.SBG.GetChars.tab, (d.onTables && d.keepsFace) = true := by decide +kernel
    exact mv hZ (hw d (gc_in d hd)) (t d hd)
  have t2 : (Jvm.Cond.initialized "java/lang/Integer").before args s = true := mvT hZ wi
  obtain ⟨cl, A1, A2, A3, A4, A5, A6⟩ := A
  have dp := dN_pos x
  have hsz : cl.slots.size = dN x := by rw [A3]; exact n32' (by omega)
  have hd : ∀ {nm : String} {d : Addr} {D : Cell}, Jvm.Free.SBG.Tbl Z nm st d D → Jvm.Free.SBG.Tbl P.U nm st d D := fun {nm d D} T => by
    obtain ⟨_, _, _, _, _, -, -, -, -, -, -, -, q, -⟩ := id T
    exact T.move al (fun c hc => O.2.2 _ _ hc) (O.2.2 _ _ q)
  have hne : ∀ {y : Addr} {cy : Cell}, Z.heap[y]? = some cy → r ≠ y := fun {y cy} q => Nat.ne_of_gt (Nat.lt_of_lt_of_le (O.1 ▸ (Array.getElem?_eq_some_iff.mp q).1) hr)
  have nS : r ≠ st := by obtain ⟨_, _, _, _, _, -, -, -, -, q, -⟩ := id T1; exact hne q
  have n1 : r ≠ d1 := by obtain ⟨_, _, _, _, _, -, -, -, -, -, -, -, q, -⟩ := id T1; exact hne q
  have n2 : r ≠ d2 := by obtain ⟨_, _, _, _, _, -, -, -, -, -, -, -, q, -⟩ := id T2; exact hne q
  have hsum : Jvm.Free.SBG.digits (tOf x) + Jvm.Free.SBG.GetChars.sgn x = dN x := by rw [sgnU hx]; rfl
  have ht := (tOf_eq hx).2
  obtain ⟨G, hG⟩ : ∃ G : Jvm.Free.SBG.GetChars.G, G = ⟨x, tOf x, dN x, r, cl, st, d1, D1, d2, D2⟩ := ⟨_, rfl⟩
  obtain ⟨v, B, X', ⟨hv, hc, b1, b2, b3, b4, L, hl, hL⟩, stp⟩ := Jvm.Free.SBG.GetChars.pays G W t1 t2 hfr hlo m meth c P g ig mk _ X hg hsize hdg hW hn (by
    subst hG
    exact ⟨rfl, r1, r2, rfl, A1.1, State.isArrayOf_alike al A1.2.1, A1.2.2, by show cl.slots.size < _; omega, by show dN x ≤ cl.slots.size; omega, by show Jvm.Free.SBG.digits (tOf x) + Jvm.Free.SBG.GetChars.sgn x ≤ dN x; omega, by show tOf x ≤ _; omega, negU hx, hd T1, hd T2, nS, n1, n2⟩)
  have hby : ∀ i, i < cl.slots.size → fits .byte (cl.slots.getD i .null) = true := fun i hi => by
    have q := A5 i hi
    rw [Array.getD_eq_getD_getElem?, q]; exact A6 i hi
  obtain ⟨f1, f2, f3, f4⟩ : (Jvm.Free.SBG.GetChars.outCell G).cls = cl.cls ∧ (Jvm.Free.SBG.GetChars.outCell G).vm = cl.vm ∧ (Jvm.Free.SBG.GetChars.outCell G).slots.size = cl.slots.size ∧ (∀ i, i < (Jvm.Free.SBG.GetChars.outCell G).slots.size → fits .byte ((Jvm.Free.SBG.GetChars.outCell G).slots.getD i .null) = true) := by
    have q := Jvm.Free.SBG.GetChars.outCell_facts G (by subst hG; show tOf x ≤ _; omega) (by subst hG; show Jvm.Free.SBG.digits (tOf x) + Jvm.Free.SBG.GetChars.sgn x ≤ dN x; omega) (by subst hG; exact hby)
    subst hG; exact ⟨q.1, q.2.1, q.2.2.1, q.2.2.2.1⟩
  have dg : ∀ i, i < dN x → (Jvm.Free.SBG.GetChars.outCell G).slots[i]? = some (.int (Int32.ofNat (48 + tOf x / 10 ^ (dN x - 1 - i) % 10))) := fun i hi => by
    have q := (Jvm.Free.SBG.outCell_fwd G (by subst hG; exact O1) (by subst hG; exact O2) (by subst hG; show tOf x ≤ _; omega) (n0 := 0) (by subst hG; show dN x = 0 + (Jvm.Free.SBG.digits (tOf x) + Jvm.Free.SBG.GetChars.sgn x); omega) (by subst hG; show dN x ≤ cl.slots.size; omega)).2.1 i (by subst hG; exact hi)
    subst hG
    rw [show 0 + Jvm.Free.SBG.GetChars.sgn x + i = i from by rw [sgnU hx]; omega] at q
    exact q
  have hda : G.da = r := by subst hG; rfl
  rw [hda] at hc b4 hL
  have hvs : ∀ i, i < dN x → (((digL x).map lo8).map Value.int).getD i (.int (0 : Int32)) = .int (Int32.ofNat (48 + tOf x / 10 ^ (dN x - 1 - i) % 10)) := fun i hi => by
    rw [List.getD_eq_getElem?_getD, List.getElem?_map, List.getElem?_map, digL_at hi]
    simp only [Option.map_some, Option.getD_some]
    rw [(dig_chr ⟨_, Nat.mod_lt _ (by decide : 10 > 0)⟩).2.1]
  refine ⟨v, B, X', ⟨L, ⟨?_, fun y hy => by rw [hL y hy]; exact hr, ⟨Nat.le_of_eq b3.symm, fun y cy q nin => b4 y cy (fun e => nin (by simp [e])) q, fun y cy q => ?_⟩, ⟨_, ⟨hc, ⟨by rw [f2]; exact A1.2.1.1, by rw [f1]; exact A1.2.1.2⟩, by rw [f2]; exact A1.2.2⟩, f1.trans A2, ?_, ?_, fun i hi => ?_, fun i hi => ?_⟩⟩, hl, b1, b2⟩, stp⟩
  · rw [hv]; subst hG
    show some (Value.int (Int32.ofNat (dN x - (Jvm.Free.SBG.digits (tOf x) + Jvm.Free.SBG.GetChars.sgn x)))) = _
    rw [hsum, Nat.sub_self]; rfl
  · by_cases e : y = r
    · subst e
      cases A1.1.symm.trans q
      exact ⟨_, hc, f1, f2, f3⟩
    · exact ⟨cy, b4 y cy e q, rfl, rfl, rfl⟩
  · rw [f3, hsz, digL_len]; exact (n32' (by omega)).symm
  · rw [digL_len]; exact A4
  · rw [f3, hsz] at hi
    rw [hvs i hi]; exact dg i hi
  · rw [f3, hsz] at hi
    rw [hvs i hi]
    have q := f4 i (by rw [f3, hsz]; exact hi)
    rw [Array.getD_eq_getD_getElem?, dg i hi] at q; exact q
def minI (a b : Int32) : Int32 := if b < a then b else a
def digI (u : Int32) : Int32 := if u < 10 then 1 else if u < 100 then 2 else if u < 1000 then 3 else if u < 10000 then 4 else if u < 100000 then 5 else if u < 1000000 then 6 else if u < 10000000 then 7 else if u < 100000000 then 8 else if u < 1000000000 then 9 else 10
def powI (k : Int32) : Int32 := if k = 0 then 1 else if k = 1 then 10 else if k = 2 then 100 else if k = 3 then 1000 else if k = 4 then 10000 else if k = 5 then 100000 else if k = 6 then 1000000 else if k = 7 then 10000000 else if k = 8 then 100000000 else 1000000000
theorem powI_ne (k : Int32) : powI k ≠ 0 := by
  unfold powI
  repeat' split
  all_goals decide
theorem powI_of : ∀ k : Fin 10, powI (Int32.ofNat k.val) = Int32.ofNat (10 ^ k.val) ∧ (10 ^ k.val) < 2 ^ 31 ∧ 0 < 10 ^ k.val := by decide +kernel
theorem max_nn (y : Int32) : ¬ (y &&& 2147483647) < 0 := by
  have e1 : (y &&& 2147483647).toInt = y.toInt % 2 ^ 31 := Jvm.Kit.i32_mask y 2147483647 (k := 31) (by decide) (by decide)
  have z0 : (0 : Int32).toInt = 0 := by decide
  rw [Int32.lt_iff_toInt_lt, e1, z0]; omega
theorem min_nn {a b : Int32} (ha : ¬ a < 0) (hb : ¬ b < 0) : ¬ minI a b < 0 := by unfold minI; split <;> assumption
theorem min_le {a b : Int32} : ¬ b < minI a b := by
  unfold minI
  split
  · exact fun h => Int32.lt_irrefl h
  · assumption
theorem lt_nat {u : Int32} (hu : ¬ u < 0) {k : Nat} (hk : k < 2 ^ 31) : u < Int32.ofNat k ↔ tOf u < k := by
  have h := tOf_eq hu
  rw [Int32.lt_iff_toInt_lt, Int32.toInt_ofNat_of_lt hk]; omega
theorem digI_eq {u : Int32} (hu : ¬ u < 0) : digI u = Int32.ofNat (dN u) := by
  have c1 := lt_nat hu (k := 10) (by decide); have c2 := lt_nat hu (k := 100) (by decide); have c3 := lt_nat hu (k := 1000) (by decide); have c4 := lt_nat hu (k := 10000) (by decide); have c5 := lt_nat hu (k := 100000) (by decide)
  have c6 := lt_nat hu (k := 1000000) (by decide); have c7 := lt_nat hu (k := 10000000) (by decide); have c8 := lt_nat hu (k := 100000000) (by decide); have c9 := lt_nat hu (k := 1000000000) (by decide)
  unfold digI dN Jvm.Free.SBG.digits
  rw [show (10 : Int32) = Int32.ofNat 10 from rfl, show (100 : Int32) = Int32.ofNat 100 from rfl, show (1000 : Int32) = Int32.ofNat 1000 from rfl, show (10000 : Int32) = Int32.ofNat 10000 from rfl, show (100000 : Int32) = Int32.ofNat 100000 from rfl, show (1000000 : Int32) = Int32.ofNat 1000000 from rfl, show (10000000 : Int32) = Int32.ofNat 10000000 from rfl, show (100000000 : Int32) = Int32.ofNat 100000000 from rfl, show (1000000000 : Int32) = Int32.ofNat 1000000000 from rfl]
  simp only [c1, c2, c3, c4, c5, c6, c7, c8, c9]
  repeat' split
  all_goals rfl
theorem ofNat_div {u : Int32} (hu : ¬ u < 0) {k : Nat} (h0 : 0 < k) (hk : k < 2 ^ 31) : u / Int32.ofNat k = Int32.ofNat (tOf u / k) := by
  have h := tOf_eq hu
  have hq : tOf u / k ≤ tOf u := Nat.div_le_self _ _
  apply Int32.toInt_inj.mp
  rw [Jvm.Kit.i32_div (by rw [Int32.toInt_ofNat_of_lt hk]; omega), Int32.toInt_ofNat_of_lt hk, Int32.toInt_ofNat_of_lt (by omega), ← h.1]
  rw [Int.tdiv_eq_ediv_of_nonneg (by omega)]; rfl
theorem ofNat_rem10 {k : Nat} (hk : k < 2 ^ 31) : Int32.ofNat k % 10 = Int32.ofNat (k % 10) := by
  apply Int32.toInt_inj.mp
  rw [Jvm.Kit.i32_rem_nonneg (by rw [Int32.toInt_ofNat_of_lt hk]; omega), Int32.toInt_ofNat_of_lt hk, Int32.toInt_ofNat_of_lt (by omega)]
  rw [show (10 : Int32).toInt = 10 from by decide]; omega
theorem jlt_of {u i : Int32} {j : Nat} (hi : i = Int32.ofNat j) (hj : j < 10) (h : i < Int32.ofNat (dN u)) : j < (digL u).length := by
  have := (dN_pos u).2
  subst hi
  rw [Int32.lt_iff_toInt_lt, Int32.toInt_ofNat_of_lt (by omega), Int32.toInt_ofNat_of_lt (by omega)] at h
  rw [digL_len]; omega
theorem own_digit {u i : Int32} {j : Nat} (hu : ¬ u < 0) (hi : i = Int32.ofNat j) (hj : j < (digL u).length) : ((digL u).getD j 0) = (((48 : Int32) + ((u / (powI ((Int32.ofNat (dN u) - (1 : Int32)) - i))) % (10 : Int32))).toUInt32.toUInt16.toUInt32.toInt32) := by
  subst hi
  have dp := dN_pos u
  rw [digL_len] at hj
  have ht := tOf_eq hu
  have e1 : Int32.ofNat (dN u) - 1 - Int32.ofNat j = Int32.ofNat (dN u - 1 - j) := by
    rw [show (1 : Int32) = Int32.ofNat 1 from rfl, Jvm.i32_ofNat_sub (by omega) (by omega), Jvm.i32_ofNat_sub (by omega) (by omega)]
  obtain ⟨p1, p2, p3⟩ := powI_of ⟨dN u - 1 - j, by omega⟩
  dsimp only at p1 p2 p3
  have hq : tOf u / 10 ^ (dN u - 1 - j) ≤ tOf u := Nat.div_le_self _ _
  rw [e1, p1, ofNat_div hu p3 p2, ofNat_rem10 (by omega), show (48 : Int32) = Int32.ofNat 48 from rfl, ← Int32.ofNat_add, (dig_chr ⟨_, Nat.mod_lt _ (by decide : 10 > 0)⟩).2.2, List.getD_eq_getElem?_getD, digL_at hj]
  rfl
theorem ef_strBB_ (m : MethodId) (x0 : Addr) (x1 : Addr) (x2 : Int32) : entryFrame m #[(.ref x0), (.ref x1), (.int x2)] 3 = mkF m 0 #[.val (.ref x0), .val (.ref x1), .val (.int x2)] [] := by first | (simp [entryFrame, mkF, argsToLocals, Value.category]; done) | rfl
theorem d9_0 : decode jdk_42_method_151_code 0 = .ok (.aload_n 0, 1) := by decide +kernel
theorem d9_1 : decode jdk_42_method_151_code 1 = .ok (.invokespecial 1, 3) := by decide +kernel
theorem d9_4 : decode jdk_42_method_151_code 4 = .ok (.aload_n 0, 1) := by decide +kernel
theorem d9_5 : decode jdk_42_method_151_code 5 = .ok (.aload_n 1, 1) := by decide +kernel
theorem d9_6 : decode jdk_42_method_151_code 6 = .ok (.putfield 9, 3) := by decide +kernel
theorem d9_9 : decode jdk_42_method_151_code 9 = .ok (.aload_n 0, 1) := by decide +kernel
theorem d9_10 : decode jdk_42_method_151_code 10 = .ok (.iload_n 2, 1) := by decide +kernel
theorem d9_11 : decode jdk_42_method_151_code 11 = .ok (.putfield 15, 3) := by decide +kernel
theorem d9_14 : decode jdk_42_method_151_code 14 = .ok (.return_, 1) := by decide +kernel
def Q_strBB_ (Z : State) (x : Addr) (b : Addr) (h0 : Heap) (n0 : Nat) (rv_ : Option Value) (rh_ : Heap) (rL_ : List Loc) : Prop := (rv_ = none) ∧ (Fr n0 rL_) ∧ (Keep h0 rh_ [x]) ∧ (Exa Z rh_ x "java/lang/String") ∧ (Fld Z rh_ x "java/lang/String" "coder" "B" (.int (0 : Int32))) ∧ (Fld Z rh_ x "java/lang/String" "value" "[B" (.ref b))
set_option maxRecDepth 65536 in
set_option maxHeartbeats 40000000 in
theorem strBB_ (l : Launch) (Z : State) (a0 : Array Value) (hw : ∀ d ∈ tables_1, d.before a0 Z = true) (ws : List Jvm.Cond) (x : Addr) (b : Addr) (h0 : Heap) (n0 : Nat) (O0 : Old Z n0 h0) (P0 : Exa Z h0 x "java/lang/String") (P1 : Fld Z h0 x "java/lang/String" "value" "[B" .null) (P2 : Fld Z h0 x "java/lang/String" "coder" "B" (.int (0 : Int32))) (P3 : n0 ≤ x) :
    MetFree l (⟨"java/lang/String", "<init>", "([BB)V"⟩ : MethodName) (head1 (Jvm.Cond.code (⟨"java/lang/String", "<init>", "([BB)V"⟩ : MethodName) jdk_42_method_151_code 3 none :: ws) ({ frames := 1, cells := 0, slots := 0, locals := 12 } : Room)) (fun a_ U_ => a_ = #[(.ref x), (.ref b), (.int (0 : Int32))] ∧ Z.Warmed39 U_.vm ∧ U_.heap = h0) (fun _ _ _ _ _ => True) (fun _ U_ o_ U_' => ∃ v_ L_, o_ = .returned v_ ∧ Q_strBB_ Z x b h0 n0 v_ U_'.heap L_ ∧ FrameEnd U_ o_ U_' L_ ({ frames := 1, cells := 0, slots := 0, locals := 12 } : Room).cells ({ frames := 1, cells := 0, slots := 0, locals := 12 } : Room).slots) := by
  refine MetFree.of_bodySF (plainFor_of_name pn_47582652) hisR ?_
  intro p e s m args below meth c s₁ Bd hml0 hP0 hK
  obtain ⟨rfl, hZ, hh⟩ := hP0
  have hx := Bd.exec
  have hby := Bd.bytes
  have hml : c.maxLocals = 3 := hml0
  have hown : s.vm.findClass "java/lang/String" = some m.cls := findClass_of_methodNamed Bd.named
  have hnm := (name_of_methodNamed Bd.named Bd.method).1
  have X0 : Stand p l e ({ frames := 1, cells := 0, slots := 0, locals := 12 } : Room) s m #[(.ref x), (.ref b), (.int (0 : Int32))] below meth c s₁ [] 0 0 := Stand.of_body Bd
  have e0 : s₁.heap = h0 := by rw [← hh, Bd.state]; rfl
  have N0 := Fr.nil n0
  obtain ⟨P, hP, R0⟩ : ∃ P : State → Prop, (∀ t_, P t_ → Steps p.tables e below (s₁.setTop (entryFrame m #[(.ref x), (.ref b), (.int (0 : Int32))] 3)) t_) ∧ Go p e below P s₁ (mkF m 0 #[.val (.ref x), .val (.ref b), .val (.int (0 : Int32))] []) := ⟨_, fun _ h => h, fun t_ k_ => castTop (ef_strBB_ m x b (0 : Int32)) k_⟩
  have R62 : Go p e below P s₁ (mkF m 1 #[.val (.ref x), .val (.ref b), .val (.int (0 : Int32))] [(.ref x)]) := fun t_ k_ => R0 t_ (XS.aloadN X0.here hx rfl (hb hby d9_0) rfl rfl k_)
  obtain ⟨T63, X63, e63, st63⟩ := initO X0 hx hZ hown (hw _ (List.mem_of_getElem? (i := 48) rfl)) (hw _ (List.mem_of_getElem? (i := 17) rfl)) (hw _ (List.mem_of_getElem? (i := 18) rfl)) e0 (g := (mkF m 1 #[.val (.ref x), .val (.ref b), .val (.int (0 : Int32))] [(.ref x)])) rfl (by rw [hml]; rfl) rfl (hb hby d9_1) (by decide) (W := 0) (by show 2 * 0 + _ ≤ _; exact Nat.le_of_eq rfl) (by decide)
  have R64 : Go p e below P T63 (mkF m 4 #[.val (.ref x), .val (.ref b), .val (.int (0 : Int32))] []) := fun t_ k_ => R62 t_ (st63 t_ k_)
  have R65 : Go p e below P T63 (mkF m 5 #[.val (.ref x), .val (.ref b), .val (.int (0 : Int32))] [(.ref x)]) := fun t_ k_ => R64 t_ (XS.aloadN X63.here hx rfl (hb hby d9_4) rfl rfl k_)
  have R66 : Go p e below P T63 (mkF m 6 #[.val (.ref x), .val (.ref b), .val (.int (0 : Int32))] [(.ref b), (.ref x)]) := fun t_ k_ => R65 t_ (XS.aloadN X63.here hx rfl (hb hby d9_5) rfl rfl k_)
  obtain ⟨T67, h67, X67, e67, W67, st67⟩ := putF X63 hx hZ hown (host := "") (Or.inl (hw _ (List.mem_of_getElem? (i := 49) rfl))) Via.refl e63 P1 P0 (Or.inr ⟨(hw _ (List.mem_of_getElem? (i := 50) rfl)), rfl, hnm⟩) (hw _ (List.mem_of_getElem? (i := 43) rfl)) (ty := (.array .byte)) (by decide) rfl rfl (g := (mkF m 6 #[.val (.ref x), .val (.ref b), .val (.int (0 : Int32))] [(.ref b), (.ref x)])) rfl rfl (hb hby d9_6)
  have N67 := Fr.snoc X67 N0 P3
  have Fw67 := P1.same W67
  have O67 := O0.wr W67 P3
  have R68 : Go p e below P T67 (mkF m 9 #[.val (.ref x), .val (.ref b), .val (.int (0 : Int32))] []) := fun t_ k_ => R66 t_ (st67 t_ k_)
  have R69 : Go p e below P T67 (mkF m 10 #[.val (.ref x), .val (.ref b), .val (.int (0 : Int32))] [(.ref x)]) := fun t_ k_ => R68 t_ (XS.aloadN X67.here hx rfl (hb hby d9_9) rfl rfl k_)
  have R70 : Go p e below P T67 (mkF m 11 #[.val (.ref x), .val (.ref b), .val (.int (0 : Int32))] [(.int (0 : Int32)), (.ref x)]) := fun t_ k_ => R69 t_ (XS.iloadN X67.here hx rfl (hb hby d9_10) rfl k_)
  have f71 := (P0.wr W67)
  have f72 := (P2.other W67 (Or.inr (slot_ne (Or.inr (hw _ (List.mem_of_getElem? (i := 52) rfl))) (Or.inr (hw _ (List.mem_of_getElem? (i := 50) rfl))) (by decide) (t := .byte) (t' := (.array .byte)) (by decide) (by decide))))
  obtain ⟨T73, h73, X73, e73, W73, st73⟩ := putFN X67 hx hZ hown (hw _ (List.mem_of_getElem? (i := 51) rfl)) Via.refl e67 f72 f71 (Or.inr ⟨(hw _ (List.mem_of_getElem? (i := 52) rfl)), rfl, hnm⟩) (hw _ (List.mem_of_getElem? (i := 43) rfl)) (ty := .byte) (v' := (.int (0 : Int32))) (by decide) rfl rfl (g := (mkF m 11 #[.val (.ref x), .val (.ref b), .val (.int (0 : Int32))] [(.int (0 : Int32)), (.ref x)])) rfl rfl (hb hby d9_11)
  have N73 := Fr.snoc X73 N67 P3
  have Fw73 := f72.same W73
  have O73 := O67.wr W73 P3
  have R74 : Go p e below P T73 (mkF m 14 #[.val (.ref x), .val (.ref b), .val (.int (0 : Int32))] []) := fun t_ k_ => R70 t_ (st73 t_ k_)
  obtain ⟨fs, hr, hrun, hended, hW, hsame⟩ := X73.leave (v := none) (fun _ => rfl)
  have f75 := (f71.wr W73)
  have f76 := (Fw67.other W73 (Or.inr (slot_ne (Or.inr (hw _ (List.mem_of_getElem? (i := 50) rfl))) (Or.inr (hw _ (List.mem_of_getElem? (i := 52) rfl))) (by decide) (t := (.array .byte)) (t' := .byte) (by decide) (by decide))))
  exact ⟨_, _, hP _ (R74 _ (X73.returnOut hx Bd.returns (hb hby d9_14) hr)), hrun, hended, _, _, rfl, ⟨rfl, N73, (e73.symm ▸ (((Keep.refl h0 [x]).wr W67 (Or.inl (List.mem_of_getElem? (i := 0) rfl))).wr W73 (Or.inl (List.mem_of_getElem? (i := 0) rfl)))), (e73.symm ▸ f75), (e73.symm ▸ Fw73), (e73.symm ▸ f76)⟩, ⟨_, rfl⟩, hW, hsame.mono (by decide) (by decide)⟩
theorem pn_33830251 : plainName "java/lang/Integer" = true := by first | (simp [plainName, overriddenIn]; done) | decide +kernel
theorem ef_its_ (m : MethodId) (x0 : Int32) : entryFrame m #[(.int x0)] 3 = mkF m 0 #[.val (.int x0), .unset, .unset] [] := by first | (simp [entryFrame, mkF, argsToLocals, Value.category]; done) | rfl
theorem d6_0 : decode jdk_33_method_10_code 0 = .ok (.iload_n 0, 1) := by decide +kernel
theorem d6_1 : decode jdk_33_method_10_code 1 = .ok (.invokestatic 72, 3) := by decide +kernel
theorem pd_52681284 : parseMethodDescriptor "(I)I" = some ⟨[.int], some .int⟩ := by decide +kernel
theorem d6_4 : decode jdk_33_method_10_code 4 = .ok (.istore_n 1, 1) := by decide +kernel
theorem d6_5 : decode jdk_33_method_10_code 5 = .ok (.getstatic 13, 3) := by decide +kernel
theorem d6_8 : decode jdk_33_method_10_code 8 = .ok (.ifCond .eq 24, 3) := by decide +kernel
theorem d6_11 : decode jdk_33_method_10_code 11 = .ok (.iload_n 1, 1) := by decide +kernel
theorem d6_12 : decode jdk_33_method_10_code 12 = .ok (.newarray .byte, 2) := by decide +kernel
theorem d6_14 : decode jdk_33_method_10_code 14 = .ok (.astore_n 2, 1) := by decide +kernel
theorem d6_15 : decode jdk_33_method_10_code 15 = .ok (.iload_n 0, 1) := by decide +kernel
theorem d6_16 : decode jdk_33_method_10_code 16 = .ok (.iload_n 1, 1) := by decide +kernel
theorem d6_17 : decode jdk_33_method_10_code 17 = .ok (.aload_n 2, 1) := by decide +kernel
theorem d6_18 : decode jdk_33_method_10_code 18 = .ok (.invokestatic 75, 3) := by decide +kernel
theorem pd_86030024 : parseMethodDescriptor "(II[B)I" = some ⟨[.int, .int, (.array .byte)], some .int⟩ := by decide +kernel
theorem d6_21 : decode jdk_33_method_10_code 21 = .ok (.pop, 1) := by decide +kernel
theorem d6_22 : decode jdk_33_method_10_code 22 = .ok (.new 5, 3) := by decide +kernel
theorem d6_25 : decode jdk_33_method_10_code 25 = .ok (.dup, 1) := by decide +kernel
theorem d6_26 : decode jdk_33_method_10_code 26 = .ok (.aload_n 2, 1) := by decide +kernel
theorem d6_27 : decode jdk_33_method_10_code 27 = .ok (.iconst 0, 1) := by decide +kernel
theorem d6_28 : decode jdk_33_method_10_code 28 = .ok (.invokespecial 65, 3) := by decide +kernel
theorem pd_20600907 : parseMethodDescriptor "([BB)V" = some ⟨[(.array .byte), .byte], none⟩ := by decide +kernel
theorem d6_31 : decode jdk_33_method_10_code 31 = .ok (.areturn, 1) := by decide +kernel
def Q_its_ (Z : State) (v : Int32) (zc : Int32) (st : Addr) (d1 : Addr) (D1 : Cell) (d2 : Addr) (D2 : Cell) (h0 : Heap) (n0 : Nat) (rv_ : Option Value) (rh_ : Heap) (rL_ : List Loc) : Prop := ∃ x : Addr, ∃ t : Addr, ∃ kb : ClassId, (rv_ = some (.ref x)) ∧ (Fr n0 rL_) ∧ (Keep h0 rh_ []) ∧ (Exa Z rh_ x "java/lang/String") ∧ (Fld Z rh_ x "java/lang/String" "coder" "B" (.int (0 : Int32))) ∧ (Fld Z rh_ x "java/lang/String" "value" "[B" (.ref t)) ∧ (Arv Z rh_ t kb .byte (Int32.ofNat (digL v).length) (((digL v).map lo8).map Value.int) (.int (0 : Int32)))
set_option maxRecDepth 65536 in
set_option maxHeartbeats 40000000 in
theorem its_ (l : Launch) (Z : State) (a0 : Array Value) (hw : ∀ d ∈ tables_1, d.before a0 Z = true) (ws : List Jvm.Cond) (v : Int32) (zc : Int32) (st : Addr) (d1 : Addr) (D1 : Cell) (d2 : Addr) (D2 : Cell) (h0 : Heap) (n0 : Nat) (O0 : Old Z n0 h0) (P0 : Sta Z Z.heap "java/lang/String" "COMPACT_STRINGS" "Z" (.int zc)) (P1 : ¬ zc = 0) (P2 : Jvm.Free.SBG.Tbl Z "DigitOnes" st d1 D1) (P3 : Jvm.Free.SBG.Ones D1) (P4 : Jvm.Free.SBG.Tbl Z "DigitTens" st d2 D2) (P5 : Jvm.Free.SBG.Tens D2) (P6 : ¬ v < 0) :
    MetFree l (⟨"java/lang/Integer", "toString", "(I)Ljava/lang/String;"⟩ : MethodName) (head1 (Jvm.Cond.code (⟨"java/lang/Integer", "toString", "(I)Ljava/lang/String;"⟩ : MethodName) jdk_33_method_10_code 3 (some (.object "java/lang/String")) :: ws) ({ frames := 2, cells := 2, slots := 14, locals := 78 } : Room)) (fun a_ U_ => a_ = #[(.int v)] ∧ Z.Warmed39 U_.vm ∧ U_.heap = h0) (fun _ _ _ _ _ => True) (fun _ U_ o_ U_' => ∃ v_ L_, o_ = .returned v_ ∧ Q_its_ Z v zc st d1 D1 d2 D2 h0 n0 v_ U_'.heap L_ ∧ FrameEnd U_ o_ U_' L_ ({ frames := 2, cells := 2, slots := 14, locals := 78 } : Room).cells ({ frames := 2, cells := 2, slots := 14, locals := 78 } : Room).slots) := by
  have hzc := P1
  have hT1 := P2
  have hO1 := P3
  have hT2 := P4
  have hO2 := P5
  have hv := P6
  refine MetFree.of_bodySF (plainFor_of_name pn_33830251) hisR ?_
  intro p e s m args below meth c s₁ Bd hml0 hP0 hK
  obtain ⟨rfl, hZ, hh⟩ := hP0
  have hx := Bd.exec
  have hby := Bd.bytes
  have hml : c.maxLocals = 3 := hml0
  have hown : s.vm.findClass "java/lang/Integer" = some m.cls := findClass_of_methodNamed Bd.named
  have hnm := (name_of_methodNamed Bd.named Bd.method).1
  have X0 : Stand p l e ({ frames := 2, cells := 2, slots := 14, locals := 78 } : Room) s m #[(.int v)] below meth c s₁ [] 0 0 := Stand.of_body Bd
  have e0 : s₁.heap = h0 := by rw [← hh, Bd.state]; rfl
  have N0 := Fr.nil n0
  obtain ⟨P, hP, R0⟩ : ∃ P : State → Prop, (∀ t_, P t_ → Steps p.tables e below (s₁.setTop (entryFrame m #[(.int v)] 3)) t_) ∧ Go p e below P s₁ (mkF m 0 #[.val (.int v), .unset, .unset] []) := ⟨_, fun _ h => h, fun t_ k_ => castTop (ef_its_ m v) k_⟩
  have R77 : Go p e below P s₁ (mkF m 1 #[.val (.int v), .unset, .unset] [(.int v)]) := fun t_ k_ => R0 t_ (XS.iloadN X0.here hx rfl (hb hby d6_0) rfl k_)
  obtain ⟨rv78, _, ⟨T78, L78, k78, n78⟩, -, X78, ⟨Lc78, hQ78, l78, y78, z78⟩, st78⟩ := Jvm.LawKit.callS X0 hx (y := (⟨"java/lang/Integer", "stringSize", "(I)I"⟩ : MethodName)) hown (mvT hZ (hw _ (List.mem_of_getElem? (i := 32) rfl))) (mvT hZ (hw _ (List.mem_of_getElem? (i := 33) rfl))) (mvT hZ (hw _ (List.mem_of_getElem? (i := 30) rfl))) (mvT hZ (hw _ (List.mem_of_getElem? (i := 34) rfl))) (by decide) (ssBack (W := 0) hZ hw (hw _ (List.mem_of_getElem? (i := 30) rfl)) hv (by decide) (by decide)) (g := (mkF m 1 #[.val (.int v), .unset, .unset] [(.int v)])) rfl (by rw [hml]; rfl) (argsL := [(.int v)]) (rest := []) (lenOf pd_52681284 rfl) rfl (by show 2 * 0 + _ ≤ _; exact Nat.le_of_eq rfl) (hb hby d6_1) (fun _ _ => ⟨rfl, e0, (by decide : 0 + 0 ≤ _), (by decide : 0 + 0 ≤ _)⟩)
  dsimp only [Pt.U, Pt.locs, Pt.cells, Pt.slots] at X78 l78 y78 z78 st78 hQ78
  subst l78 y78 z78
  obtain ⟨rfl, rfl, K78⟩ := hQ78
  try rw [List.append_nil] at X78
  have R79 : Go p e below P T78 (mkF m 4 #[.val (.int v), .unset, .unset] [(.int (Int32.ofNat (dN v)))]) := fun t_ k_ => R77 t_ (st78 t_ k_)
  have R80 : Go p e below P T78 (mkF m 5 #[.val (.int v), .val (.int (Int32.ofNat (dN v))), .unset] []) := fun t_ k_ => R79 t_ (XS.istoreN X78.here hx rfl (hb hby d6_4) rfl (l' := #[.val (.int v), .val (.int (Int32.ofNat (dN v))), .unset]) rfl k_)
  obtain ⟨T81, X81, e81, st81⟩ := getS2 X78 hx hZ hown (host := "") (Or.inl (hw _ (List.mem_of_getElem? (i := 35) rfl))) Via.refl K78 (P0.ext O0.2) (g := (mkF m 5 #[.val (.int v), .val (.int (Int32.ofNat (dN v))), .unset] [])) rfl (hb hby d6_5)
  have R82 : Go p e below P T81 (mkF m 8 #[.val (.int v), .val (.int (Int32.ofNat (dN v))), .unset] [(.int zc)]) := fun t_ k_ => R80 t_ (st81 t_ k_)
  have R83 : Go p e below P T81 (mkF m 11 #[.val (.int v), .val (.int (Int32.ofNat (dN v))), .unset] []) := fun t_ k_ => R82 t_ (XS.ifNo X81.here hx rfl (hb hby d6_8) rfl ((if0 _ _).trans (feq hzc).1) k_)
  have R84 : Go p e below P T81 (mkF m 12 #[.val (.int v), .val (.int (Int32.ofNat (dN v))), .unset] [(.int (Int32.ofNat (dN v)))]) := fun t_ k_ => R83 t_ (XS.iloadN X81.here hx rfl (hb hby d6_11) rfl k_)
  obtain ⟨T85, h85, k85, X85, e85, E85, A85, st85⟩ := newP X81 hx hZ (hw _ (List.mem_of_getElem? (i := 37) rfl)) e81 (g := (mkF m 12 #[.val (.int v), .val (.int (Int32.ofNat (dN v))), .unset] [(.int (Int32.ofNat (dN v)))])) rfl (hb hby d6_12) rfl (Int32.ofNat_not_neg (by have := dN_pos v; omega)) (cap := 10) (by rw [n32' (by have := dN_pos v; omega)]; exact (dN_pos v).2) (by decide) (by decide) (by decide)
  obtain ⟨b85, g85⟩ : ∃ z, z = h0.size := ⟨_, rfl⟩
  rw [← g85] at A85 st85
  have O85 := O0.ext E85
  have V85 : Arv Z h85 b85 k85 .byte (Int32.ofNat (dN v)) [] (.int (0 : Int32)) := Arv.new A85 (Int32.ofNat_not_neg (by have := dN_pos v; omega))
  have R86 : Go p e below P T85 (mkF m 14 #[.val (.int v), .val (.int (Int32.ofNat (dN v))), .unset] [(.ref b85)]) := fun t_ k_ => R84 t_ (st85 t_ k_)
  have R87 : Go p e below P T85 (mkF m 15 #[.val (.int v), .val (.int (Int32.ofNat (dN v))), .val (.ref b85)] []) := fun t_ k_ => R86 t_ (XS.astoreN X85.here hx rfl (hb hby d6_14) rfl rfl (l' := #[.val (.int v), .val (.int (Int32.ofNat (dN v))), .val (.ref b85)]) rfl k_)
  have R88 : Go p e below P T85 (mkF m 16 #[.val (.int v), .val (.int (Int32.ofNat (dN v))), .val (.ref b85)] [(.int v)]) := fun t_ k_ => R87 t_ (XS.iloadN X85.here hx rfl (hb hby d6_15) rfl k_)
  have R89 : Go p e below P T85 (mkF m 17 #[.val (.int v), .val (.int (Int32.ofNat (dN v))), .val (.ref b85)] [(.int (Int32.ofNat (dN v))), (.int v)]) := fun t_ k_ => R88 t_ (XS.iloadN X85.here hx rfl (hb hby d6_16) rfl k_)
  have R90 : Go p e below P T85 (mkF m 18 #[.val (.int v), .val (.int (Int32.ofNat (dN v))), .val (.ref b85)] [(.ref b85), (.int (Int32.ofNat (dN v))), (.int v)]) := fun t_ k_ => R89 t_ (XS.aloadN X85.here hx rfl (hb hby d6_17) rfl rfl k_)
  obtain ⟨rv91, _, ⟨T91, L91, k91, n91⟩, -, X91, ⟨Lc91, hQ91, l91, y91, z91⟩, st91⟩ := Jvm.LawKit.callS X85 hx (y := (⟨"java/lang/Integer", "getChars", "(II[B)I"⟩ : MethodName)) hown (mvT hZ (hw _ (List.mem_of_getElem? (i := 38) rfl))) (mvT hZ (hw _ (List.mem_of_getElem? (i := 39) rfl))) (mvT hZ (hw _ (List.mem_of_getElem? (i := 30) rfl))) (mvT hZ (hw _ (List.mem_of_getElem? (i := 40) rfl))) (by decide) (gcBack (W := 0) hZ hw (hw _ (List.mem_of_getElem? (i := 30) rfl)) hv O85 (Nat.le_trans (oldLe O0) (Nat.le_of_eq g85.symm)) V85 hT1 hO1 hT2 hO2 (by decide) (by decide)) (g := (mkF m 18 #[.val (.int v), .val (.int (Int32.ofNat (dN v))), .val (.ref b85)] [(.ref b85), (.int (Int32.ofNat (dN v))), (.int v)])) rfl (by rw [hml]; rfl) (argsL := [(.int v), (.int (Int32.ofNat (dN v))), (.ref b85)]) (rest := []) (lenOf pd_86030024 rfl) rfl (by show 2 * 0 + _ ≤ _; exact Nat.le_of_eq rfl) (hb hby d6_18) (fun _ _ => ⟨rfl, e85, (by decide : 1 + 0 ≤ _), (by decide : 10 + 0 ≤ _)⟩)
  dsimp only [Pt.U, Pt.locs, Pt.cells, Pt.slots] at X91 l91 y91 z91 st91 hQ91
  subst l91 y91 z91
  obtain ⟨rfl, N91q, K91, pA91⟩ := hQ91
  have N91 := Fr.app N0 N91q
  have O91 := O85.keep K91 (allS (Nat.le_trans (oldLe O0) (Nat.le_of_eq g85.symm)) all0)
  have R92 : Go p e below P T91 (mkF m 21 #[.val (.int v), .val (.int (Int32.ofNat (dN v))), .val (.ref b85)] [(.int (0 : Int32))]) := fun t_ k_ => R90 t_ (st91 t_ k_)
  have R93 : Go p e below P T91 (mkF m 22 #[.val (.int v), .val (.int (Int32.ofNat (dN v))), .val (.ref b85)] []) := fun t_ k_ => R92 t_ (XS.pop X91.here hx rfl (hb hby d6_21) rfl rfl k_)
  obtain ⟨T94, h94, X94, e94, E94, A94, D94, -, st94⟩ := newO X91 hx hZ hown (hw _ (List.mem_of_getElem? (i := 42) rfl)) (hw _ (List.mem_of_getElem? (i := 43) rfl)) (hw _ (List.mem_of_getElem? (i := 36) rfl)) (rfl : T91.heap = T91.heap) (g := (mkF m 22 #[.val (.int v), .val (.int (Int32.ofNat (dN v))), .val (.ref b85)] [])) rfl (hb hby d6_22) (by decide) (by decide)
  obtain ⟨b94, g94⟩ : ∃ z, z = T91.heap.size := ⟨_, rfl⟩
  rw [← g94] at A94 D94 st94
  have O94 := O91.ext E94
  have F94_50 : Fld Z h94 b94 "java/lang/String" "value" "[B" .null := D94 (Or.inr (hw _ (List.mem_of_getElem? (i := 50) rfl))) (ty := (.array .byte)) (by decide)
  have F94_52 : Fld Z h94 b94 "java/lang/String" "coder" "B" (.int (0 : Int32)) := D94 (Or.inr (hw _ (List.mem_of_getElem? (i := 52) rfl))) (ty := .byte) (by decide)
  have R95 : Go p e below P T94 (mkF m 25 #[.val (.int v), .val (.int (Int32.ofNat (dN v))), .val (.ref b85)] [(.ref b94)]) := fun t_ k_ => R93 t_ (st94 t_ k_)
  have R96 : Go p e below P T94 (mkF m 26 #[.val (.int v), .val (.int (Int32.ofNat (dN v))), .val (.ref b85)] [(.ref b94), (.ref b94)]) := fun t_ k_ => R95 t_ (XS.dup X94.here hx rfl (hb hby d6_25) rfl rfl k_)
  have R97 : Go p e below P T94 (mkF m 27 #[.val (.int v), .val (.int (Int32.ofNat (dN v))), .val (.ref b85)] [(.ref b85), (.ref b94), (.ref b94)]) := fun t_ k_ => R96 t_ (XS.aloadN X94.here hx rfl (hb hby d6_26) rfl rfl k_)
  have R98 : Go p e below P T94 (mkF m 28 #[.val (.int v), .val (.int (Int32.ofNat (dN v))), .val (.ref b85)] [(.int (0 : Int32)), (.ref b85), (.ref b94), (.ref b94)]) := fun t_ k_ => R97 t_ (XS.iconst X94.here hx rfl (hb hby d6_27) k_)
  obtain ⟨rv99, _, ⟨T99, L99, k99, n99⟩, -, X99, ⟨Lc99, hQ99, l99, y99, z99⟩, st99⟩ := X94.specialBack hx (y := (⟨"java/lang/String", "<init>", "([BB)V"⟩ : MethodName)) rfl hown (mvT hZ (hw _ (List.mem_of_getElem? (i := 44) rfl))) (mvT hZ (hw _ (List.mem_of_getElem? (i := 45) rfl))) (mvT hZ (hw _ (List.mem_of_getElem? (i := 47) rfl))) (by decide) (backOf (W := 1) (strBB_ l Z a0 hw [] b94 b85 h94 n0 O94 A94 F94_50 F94_52 (Nat.le_trans (oldLe O91) (Nat.le_of_eq g94.symm))) hZ (hw _ (List.mem_of_getElem? (i := 47) rfl)) (hw _ (List.mem_of_getElem? (i := 36) rfl)) (by decide) (by decide)) (g := (mkF m 28 #[.val (.int v), .val (.int (Int32.ofNat (dN v))), .val (.ref b85)] [(.int (0 : Int32)), (.ref b85), (.ref b94), (.ref b94)])) rfl (by rw [hml]; rfl) (Steps.refl _) (a := b94) (argsL := [(.ref b85), (.int (0 : Int32))]) (rest := [(.ref b94)]) (lenOf pd_20600907 rfl) rfl (by show 2 * 0 + _ ≤ _; exact Nat.le_of_eq rfl) (hb hby d6_28) (fun _ _ => ⟨rfl, e94, (by decide : 2 + 0 ≤ _), (by decide : 14 + 0 ≤ _)⟩)
  dsimp only [Pt.U, Pt.locs, Pt.cells, Pt.slots] at X99 l99 y99 z99 st99 hQ99
  subst l99 y99 z99
  obtain ⟨rfl, N99q, K99, p99_0, p99_1, p99_2⟩ := hQ99
  have N99 := Fr.app N91 N99q
  have O99 := O94.keep K99 (allS (Nat.le_trans (oldLe O91) (Nat.le_of_eq g94.symm)) all0)
  have R100 : Go p e below P T99 (mkF m 31 #[.val (.int v), .val (.int (Int32.ofNat (dN v))), .val (.ref b85)] [(.ref b94)]) := fun t_ k_ => R98 t_ (st99.trans k_)
  obtain ⟨fs, hr, hrun, hended, hW, hsame⟩ := X99.leave (v := some (.ref b94)) (fun h => by rw [Bd.returns] at h; cases h)
  have f101 := ((pA91.ext E94).keep K99 (ninS (Nat.ne_of_lt (Nat.lt_of_lt_of_le pA91.lt (Nat.le_of_eq g94.symm))) nin0))
  exact ⟨_, _, hP _ (R100 _ (retOut X99 hx Bd.returns rfl (Or.inr (Or.inr (Or.inr (Or.inr ⟨rfl, rfl, rfl⟩)))) (hb hby d6_31) hr)), hrun, hended, _, _, rfl, ⟨b94, b85, k85, rfl, N99, (((((Keep.refl h0 []).ext E85).trans K91 (allS (Or.inr (Nat.le_of_eq g85.symm)) all0)).ext E94).trans K99 (allS (Or.inr (Nat.le_trans (((Keep.refl h0 []).ext E85).trans K91 (allS (Or.inr (Nat.le_of_eq g85.symm)) all0)).1 (Nat.le_of_eq g94.symm))) all0)), p99_0, p99_1, p99_2, f101⟩, ⟨_, rfl⟩, hW, hsame.mono (by decide) (by decide)⟩
theorem pn_16976308 : plainName "java/lang/Record" = true := by first | (simp [plainName, overriddenIn]; done) | decide +kernel
theorem ef_recI_ (m : MethodId) (x0 : Addr) : entryFrame m #[(.ref x0)] 1 = mkF m 0 #[.val (.ref x0)] [] := by first | (simp [entryFrame, mkF, argsToLocals, Value.category]; done) | rfl
theorem d3_0 : decode jdk_30_method_1_code 0 = .ok (.aload_n 0, 1) := by decide +kernel
theorem d3_1 : decode jdk_30_method_1_code 1 = .ok (.invokespecial 1, 3) := by decide +kernel
theorem d3_4 : decode jdk_30_method_1_code 4 = .ok (.return_, 1) := by decide +kernel
def Q_recI_ (Z : State) (a : Addr) (h0 : Heap) (n0 : Nat) (rv_ : Option Value) (rh_ : Heap) (rL_ : List Loc) : Prop := (rv_ = none) ∧ (Fr n0 rL_) ∧ (rh_ = h0)
set_option maxRecDepth 65536 in
set_option maxHeartbeats 40000000 in
theorem recI_ (l : Launch) (Z : State) (a0 : Array Value) (hw : ∀ d ∈ tables_1, d.before a0 Z = true) (ws : List Jvm.Cond) (a : Addr) (h0 : Heap) (n0 : Nat) (O0 : Old Z n0 h0) :
    MetFree l (⟨"java/lang/Record", "<init>", "()V"⟩ : MethodName) (head1 (Jvm.Cond.code (⟨"java/lang/Record", "<init>", "()V"⟩ : MethodName) jdk_30_method_1_code 1 none :: ws) ({ frames := 1, cells := 0, slots := 0, locals := 12 } : Room)) (fun a_ U_ => a_ = #[(.ref a)] ∧ Z.Warmed39 U_.vm ∧ U_.heap = h0) (fun _ _ _ _ _ => True) (fun _ U_ o_ U_' => ∃ v_ L_, o_ = .returned v_ ∧ Q_recI_ Z a h0 n0 v_ U_'.heap L_ ∧ FrameEnd U_ o_ U_' L_ ({ frames := 1, cells := 0, slots := 0, locals := 12 } : Room).cells ({ frames := 1, cells := 0, slots := 0, locals := 12 } : Room).slots) := by
  refine MetFree.of_bodySF (plainFor_of_name pn_16976308) hisR ?_
  intro p e s m args below meth c s₁ Bd hml0 hP0 hK
  obtain ⟨rfl, hZ, hh⟩ := hP0
  have hx := Bd.exec
  have hby := Bd.bytes
  have hml : c.maxLocals = 1 := hml0
  have hown : s.vm.findClass "java/lang/Record" = some m.cls := findClass_of_methodNamed Bd.named
  have hnm := (name_of_methodNamed Bd.named Bd.method).1
  have X0 : Stand p l e ({ frames := 1, cells := 0, slots := 0, locals := 12 } : Room) s m #[(.ref a)] below meth c s₁ [] 0 0 := Stand.of_body Bd
  have e0 : s₁.heap = h0 := by rw [← hh, Bd.state]; rfl
  have N0 := Fr.nil n0
  obtain ⟨P, hP, R0⟩ : ∃ P : State → Prop, (∀ t_, P t_ → Steps p.tables e below (s₁.setTop (entryFrame m #[(.ref a)] 1)) t_) ∧ Go p e below P s₁ (mkF m 0 #[.val (.ref a)] []) := ⟨_, fun _ h => h, fun t_ k_ => castTop (ef_recI_ m a) k_⟩
  have R102 : Go p e below P s₁ (mkF m 1 #[.val (.ref a)] [(.ref a)]) := fun t_ k_ => R0 t_ (XS.aloadN X0.here hx rfl (hb hby d3_0) rfl rfl k_)
  obtain ⟨T103, X103, e103, st103⟩ := initO X0 hx hZ hown (hw _ (List.mem_of_getElem? (i := 16) rfl)) (hw _ (List.mem_of_getElem? (i := 17) rfl)) (hw _ (List.mem_of_getElem? (i := 18) rfl)) e0 (g := (mkF m 1 #[.val (.ref a)] [(.ref a)])) rfl (by rw [hml]; rfl) rfl (hb hby d3_1) (by decide) (W := 0) (by show 2 * 0 + _ ≤ _; exact Nat.le_of_eq rfl) (by decide)
  have R104 : Go p e below P T103 (mkF m 4 #[.val (.ref a)] []) := fun t_ k_ => R102 t_ (st103 t_ k_)
  obtain ⟨fs, hr, hrun, hended, hW, hsame⟩ := X103.leave (v := none) (fun _ => rfl)
  exact ⟨_, _, hP _ (R104 _ (X103.returnOut hx Bd.returns (hb hby d3_4) hr)), hrun, hended, _, _, rfl, ⟨rfl, N0, e103⟩, ⟨_, rfl⟩, hW, hsame.mono (by decide) (by decide)⟩
theorem pn_49345080 : plainName "com/example/lexicarta/lexicarta/uml/Multiplicity" = true := by first | (simp [plainName, overriddenIn]; done) | decide +kernel
theorem ef_mulS_ (m : MethodId) (x0 : Addr) (x1 : Int32) (x2 : Int32) : entryFrame m #[(.ref x0), (.int x1), (.int x2)] 3 = mkF m 0 #[.val (.ref x0), .val (.int x1), .val (.int x2)] [] := by first | (simp [entryFrame, mkF, argsToLocals, Value.category]; done) | rfl
theorem d2_0 : decode prog_88_method_1_code 0 = .ok (.aload_n 0, 1) := by decide +kernel
theorem d2_1 : decode prog_88_method_1_code 1 = .ok (.invokespecial 1, 3) := by decide +kernel
theorem pd_16428534 : parseMethodDescriptor "()V" = some ⟨[], none⟩ := by decide +kernel
theorem d2_4 : decode prog_88_method_1_code 4 = .ok (.iload_n 1, 1) := by decide +kernel
theorem d2_5 : decode prog_88_method_1_code 5 = .ok (.ifCond .lt 13, 3) := by decide +kernel
theorem d2_8 : decode prog_88_method_1_code 8 = .ok (.iload_n 2, 1) := by decide +kernel
theorem d2_9 : decode prog_88_method_1_code 9 = .ok (.iconst (-1), 1) := by decide +kernel
theorem d2_10 : decode prog_88_method_1_code 10 = .ok (.if_icmp .eq 23, 3) := by decide +kernel
theorem d2_33 : decode prog_88_method_1_code 33 = .ok (.aload_n 0, 1) := by decide +kernel
theorem d2_34 : decode prog_88_method_1_code 34 = .ok (.iload_n 1, 1) := by decide +kernel
theorem d2_35 : decode prog_88_method_1_code 35 = .ok (.putfield 18, 3) := by decide +kernel
theorem d2_38 : decode prog_88_method_1_code 38 = .ok (.aload_n 0, 1) := by decide +kernel
theorem d2_39 : decode prog_88_method_1_code 39 = .ok (.iload_n 2, 1) := by decide +kernel
theorem d2_40 : decode prog_88_method_1_code 40 = .ok (.putfield 22, 3) := by decide +kernel
theorem d2_43 : decode prog_88_method_1_code 43 = .ok (.return_, 1) := by decide +kernel
def Q_mulS_ (Z : State) (a : Addr) (lo : Int32) (h0 : Heap) (n0 : Nat) (rv_ : Option Value) (rh_ : Heap) (rL_ : List Loc) : Prop := (rv_ = none) ∧ (Fr n0 rL_) ∧ (Keep h0 rh_ [a]) ∧ (Exa Z rh_ a "com/example/lexicarta/lexicarta/uml/Multiplicity") ∧ (Fld Z rh_ a "com/example/lexicarta/lexicarta/uml/Multiplicity" "upper" "I" (.int (-1 : Int32)))
set_option maxRecDepth 65536 in
set_option maxHeartbeats 40000000 in
theorem mulS_ (l : Launch) (Z : State) (a0 : Array Value) (hw : ∀ d ∈ tables_1, d.before a0 Z = true) (ws : List Jvm.Cond) (a : Addr) (lo : Int32) (h0 : Heap) (n0 : Nat) (O0 : Old Z n0 h0) (P0 : Exa Z h0 a "com/example/lexicarta/lexicarta/uml/Multiplicity") (P1 : Fld Z h0 a "com/example/lexicarta/lexicarta/uml/Multiplicity" "lower" "I" (.int (0 : Int32))) (P2 : Fld Z h0 a "com/example/lexicarta/lexicarta/uml/Multiplicity" "upper" "I" (.int (0 : Int32))) (P3 : n0 ≤ a) (P4 : ¬ lo < 0) :
    MetFree l (⟨"com/example/lexicarta/lexicarta/uml/Multiplicity", "<init>", "(II)V"⟩ : MethodName) (head1 (Jvm.Cond.code (⟨"com/example/lexicarta/lexicarta/uml/Multiplicity", "<init>", "(II)V"⟩ : MethodName) prog_88_method_1_code 3 none :: ws) ({ frames := 2, cells := 0, slots := 0, locals := 24 } : Room)) (fun a_ U_ => a_ = #[(.ref a), (.int lo), (.int (-1 : Int32))] ∧ Z.Warmed39 U_.vm ∧ U_.heap = h0) (fun _ _ _ _ _ => True) (fun _ U_ o_ U_' => ∃ v_ L_, o_ = .returned v_ ∧ Q_mulS_ Z a lo h0 n0 v_ U_'.heap L_ ∧ FrameEnd U_ o_ U_' L_ ({ frames := 2, cells := 0, slots := 0, locals := 24 } : Room).cells ({ frames := 2, cells := 0, slots := 0, locals := 24 } : Room).slots) := by
  have hl := P4
  refine MetFree.of_bodySF (plainFor_of_name pn_49345080) hisR ?_
  intro p e s m args below meth c s₁ Bd hml0 hP0 hK
  obtain ⟨rfl, hZ, hh⟩ := hP0
  have hx := Bd.exec
  have hby := Bd.bytes
  have hml : c.maxLocals = 3 := hml0
  have hown : s.vm.findClass "com/example/lexicarta/lexicarta/uml/Multiplicity" = some m.cls := findClass_of_methodNamed Bd.named
  have hnm := (name_of_methodNamed Bd.named Bd.method).1
  have X0 : Stand p l e ({ frames := 2, cells := 0, slots := 0, locals := 24 } : Room) s m #[(.ref a), (.int lo), (.int (-1 : Int32))] below meth c s₁ [] 0 0 := Stand.of_body Bd
  have e0 : s₁.heap = h0 := by rw [← hh, Bd.state]; rfl
  have N0 := Fr.nil n0
  obtain ⟨P, hP, R0⟩ : ∃ P : State → Prop, (∀ t_, P t_ → Steps p.tables e below (s₁.setTop (entryFrame m #[(.ref a), (.int lo), (.int (-1 : Int32))] 3)) t_) ∧ Go p e below P s₁ (mkF m 0 #[.val (.ref a), .val (.int lo), .val (.int (-1 : Int32))] []) := ⟨_, fun _ h => h, fun t_ k_ => castTop (ef_mulS_ m a lo (-1 : Int32)) k_⟩
  have R105 : Go p e below P s₁ (mkF m 1 #[.val (.ref a), .val (.int lo), .val (.int (-1 : Int32))] [(.ref a)]) := fun t_ k_ => R0 t_ (XS.aloadN X0.here hx rfl (hb hby d2_0) rfl rfl k_)
  obtain ⟨rv106, _, ⟨T106, L106, k106, n106⟩, -, X106, ⟨Lc106, hQ106, l106, y106, z106⟩, st106⟩ := X0.specialBack hx (y := (⟨"java/lang/Record", "<init>", "()V"⟩ : MethodName)) rfl hown (mvT hZ (hw _ (List.mem_of_getElem? (i := 11) rfl))) (mvT hZ (hw _ (List.mem_of_getElem? (i := 12) rfl))) (mvT hZ (hw _ (List.mem_of_getElem? (i := 15) rfl))) (by decide) (backOf (W := 0) (recI_ l Z a0 hw [] a h0 n0 O0) hZ (hw _ (List.mem_of_getElem? (i := 15) rfl)) (hw _ (List.mem_of_getElem? (i := 14) rfl)) (by decide) (by decide)) (g := (mkF m 1 #[.val (.ref a), .val (.int lo), .val (.int (-1 : Int32))] [(.ref a)])) rfl (by rw [hml]; rfl) (Steps.refl _) (a := a) (argsL := []) (rest := []) (lenOf pd_16428534 rfl) rfl (by show 2 * 0 + _ ≤ _; exact Nat.le_of_eq rfl) (hb hby d2_1) (fun _ _ => ⟨rfl, e0, (by decide : 0 + 0 ≤ _), (by decide : 0 + 0 ≤ _)⟩)
  dsimp only [Pt.U, Pt.locs, Pt.cells, Pt.slots] at X106 l106 y106 z106 st106 hQ106
  subst l106 y106 z106
  obtain ⟨rfl, N106q, K106⟩ := hQ106
  have N106 := Fr.app N0 N106q
  have R107 : Go p e below P T106 (mkF m 4 #[.val (.ref a), .val (.int lo), .val (.int (-1 : Int32))] []) := fun t_ k_ => R105 t_ (st106.trans k_)
  have R108 : Go p e below P T106 (mkF m 5 #[.val (.ref a), .val (.int lo), .val (.int (-1 : Int32))] [(.int lo)]) := fun t_ k_ => R107 t_ (XS.iloadN X106.here hx rfl (hb hby d2_4) rfl k_)
  have R109 : Go p e below P T106 (mkF m 8 #[.val (.ref a), .val (.int lo), .val (.int (-1 : Int32))] []) := fun t_ k_ => R108 t_ (XS.ifNo X106.here hx rfl (hb hby d2_5) rfl ((if0 _ _).trans (flt hl).1) k_)
  have R110 : Go p e below P T106 (mkF m 9 #[.val (.ref a), .val (.int lo), .val (.int (-1 : Int32))] [(.int (-1 : Int32))]) := fun t_ k_ => R109 t_ (XS.iloadN X106.here hx rfl (hb hby d2_8) rfl k_)
  have R111 : Go p e below P T106 (mkF m 10 #[.val (.ref a), .val (.int lo), .val (.int (-1 : Int32))] [(.int (-1 : Int32)), (.int (-1 : Int32))]) := fun t_ k_ => R110 t_ (XS.iconst X106.here hx rfl (hb hby d2_9) k_)
  have R112 : Go p e below P T106 (mkF m 33 #[.val (.ref a), .val (.int lo), .val (.int (-1 : Int32))] []) := fun t_ k_ => R111 t_ (XS.icmpYes X106.here hx rfl (pc0 := 10) (pc' := 33) rfl (hb hby d2_10) rfl (teq rfl).1 (by decide) (by decide) k_)
  have R113 : Go p e below P T106 (mkF m 34 #[.val (.ref a), .val (.int lo), .val (.int (-1 : Int32))] [(.ref a)]) := fun t_ k_ => R112 t_ (XS.aloadN X106.here hx rfl (hb hby d2_33) rfl rfl k_)
  have R114 : Go p e below P T106 (mkF m 35 #[.val (.ref a), .val (.int lo), .val (.int (-1 : Int32))] [(.int lo), (.ref a)]) := fun t_ k_ => R113 t_ (XS.iloadN X106.here hx rfl (hb hby d2_34) rfl k_)
  obtain ⟨T115, h115, X115, e115, W115, st115⟩ := putF X106 hx hZ hown (host := "") (Or.inl (hw _ (List.mem_of_getElem? (i := 19) rfl))) Via.refl K106 P1 P0 (Or.inr ⟨(hw _ (List.mem_of_getElem? (i := 20) rfl)), rfl, hnm⟩) (hw _ (List.mem_of_getElem? (i := 6) rfl)) (ty := .int) (by decide) rfl rfl (g := (mkF m 35 #[.val (.ref a), .val (.int lo), .val (.int (-1 : Int32))] [(.int lo), (.ref a)])) rfl rfl (hb hby d2_35)
  have N115 := Fr.snoc X115 N106 P3
  have Fw115 := P1.same W115
  have O115 := O0.wr W115 P3
  have R116 : Go p e below P T115 (mkF m 38 #[.val (.ref a), .val (.int lo), .val (.int (-1 : Int32))] []) := fun t_ k_ => R114 t_ (st115 t_ k_)
  have R117 : Go p e below P T115 (mkF m 39 #[.val (.ref a), .val (.int lo), .val (.int (-1 : Int32))] [(.ref a)]) := fun t_ k_ => R116 t_ (XS.aloadN X115.here hx rfl (hb hby d2_38) rfl rfl k_)
  have R118 : Go p e below P T115 (mkF m 40 #[.val (.ref a), .val (.int lo), .val (.int (-1 : Int32))] [(.int (-1 : Int32)), (.ref a)]) := fun t_ k_ => R117 t_ (XS.iloadN X115.here hx rfl (hb hby d2_39) rfl k_)
  have f119 := (P0.wr W115)
  have f120 := (P2.other W115 (Or.inr (slot_ne (Or.inr (hw _ (List.mem_of_getElem? (i := 22) rfl))) (Or.inr (hw _ (List.mem_of_getElem? (i := 20) rfl))) (by decide) (t := .int) (t' := .int) (by decide) (by decide))))
  obtain ⟨T121, h121, X121, e121, W121, st121⟩ := putF X115 hx hZ hown (host := "") (Or.inl (hw _ (List.mem_of_getElem? (i := 21) rfl))) Via.refl e115 f120 f119 (Or.inr ⟨(hw _ (List.mem_of_getElem? (i := 22) rfl)), rfl, hnm⟩) (hw _ (List.mem_of_getElem? (i := 6) rfl)) (ty := .int) (by decide) rfl rfl (g := (mkF m 40 #[.val (.ref a), .val (.int lo), .val (.int (-1 : Int32))] [(.int (-1 : Int32)), (.ref a)])) rfl rfl (hb hby d2_40)
  have N121 := Fr.snoc X121 N115 P3
  have Fw121 := f120.same W121
  have O121 := O115.wr W121 P3
  have R122 : Go p e below P T121 (mkF m 43 #[.val (.ref a), .val (.int lo), .val (.int (-1 : Int32))] []) := fun t_ k_ => R118 t_ (st121 t_ k_)
  obtain ⟨fs, hr, hrun, hended, hW, hsame⟩ := X121.leave (v := none) (fun _ => rfl)
  have f123 := (f119.wr W121)
  exact ⟨_, _, hP _ (R122 _ (X121.returnOut hx Bd.returns (hb hby d2_43) hr)), hrun, hended, _, _, rfl, ⟨rfl, N121, (e121.symm ▸ (((Keep.refl h0 [a]).wr W115 (Or.inl (List.mem_of_getElem? (i := 0) rfl))).wr W121 (Or.inl (List.mem_of_getElem? (i := 0) rfl)))), (e121.symm ▸ f123), (e121.symm ▸ Fw121)⟩, ⟨_, rfl⟩, hW, hsame.mono (by decide) (by decide)⟩
theorem ef_mulD_ (m : MethodId) (x0 : Addr) (x1 : Int32) (x2 : Int32) : entryFrame m #[(.ref x0), (.int x1), (.int x2)] 3 = mkF m 0 #[.val (.ref x0), .val (.int x1), .val (.int x2)] [] := by first | (simp [entryFrame, mkF, argsToLocals, Value.category]; done) | rfl
theorem d2_13 : decode prog_88_method_1_code 13 = .ok (.iload_n 2, 1) := by decide +kernel
theorem d2_14 : decode prog_88_method_1_code 14 = .ok (.iload_n 1, 1) := by decide +kernel
theorem d2_15 : decode prog_88_method_1_code 15 = .ok (.if_icmp .ge 18, 3) := by decide +kernel
def Q_mulD_ (Z : State) (a : Addr) (lo : Int32) (up : Int32) (h0 : Heap) (n0 : Nat) (rv_ : Option Value) (rh_ : Heap) (rL_ : List Loc) : Prop := (rv_ = none) ∧ (Fr n0 rL_) ∧ (Keep h0 rh_ [a]) ∧ (Exa Z rh_ a "com/example/lexicarta/lexicarta/uml/Multiplicity") ∧ (Fld Z rh_ a "com/example/lexicarta/lexicarta/uml/Multiplicity" "upper" "I" (.int up))
set_option maxRecDepth 65536 in
set_option maxHeartbeats 40000000 in
theorem mulD_ (l : Launch) (Z : State) (a0 : Array Value) (hw : ∀ d ∈ tables_1, d.before a0 Z = true) (ws : List Jvm.Cond) (a : Addr) (lo : Int32) (up : Int32) (h0 : Heap) (n0 : Nat) (O0 : Old Z n0 h0) (P0 : Exa Z h0 a "com/example/lexicarta/lexicarta/uml/Multiplicity") (P1 : Fld Z h0 a "com/example/lexicarta/lexicarta/uml/Multiplicity" "lower" "I" (.int (0 : Int32))) (P2 : Fld Z h0 a "com/example/lexicarta/lexicarta/uml/Multiplicity" "upper" "I" (.int (0 : Int32))) (P3 : n0 ≤ a) (P4 : ¬ lo < 0) (P5 : ¬ up < 0) (P6 : ¬ up < lo) :
    MetFree l (⟨"com/example/lexicarta/lexicarta/uml/Multiplicity", "<init>", "(II)V"⟩ : MethodName) (head1 (Jvm.Cond.code (⟨"com/example/lexicarta/lexicarta/uml/Multiplicity", "<init>", "(II)V"⟩ : MethodName) prog_88_method_1_code 3 none :: ws) ({ frames := 2, cells := 0, slots := 0, locals := 24 } : Room)) (fun a_ U_ => a_ = #[(.ref a), (.int lo), (.int up)] ∧ Z.Warmed39 U_.vm ∧ U_.heap = h0) (fun _ _ _ _ _ => True) (fun _ U_ o_ U_' => ∃ v_ L_, o_ = .returned v_ ∧ Q_mulD_ Z a lo up h0 n0 v_ U_'.heap L_ ∧ FrameEnd U_ o_ U_' L_ ({ frames := 2, cells := 0, slots := 0, locals := 24 } : Room).cells ({ frames := 2, cells := 0, slots := 0, locals := 24 } : Room).slots) := by
  have hl := P4
  have hu := P5
  have hlu := P6
  refine MetFree.of_bodySF (plainFor_of_name pn_49345080) hisR ?_
  intro p e s m args below meth c s₁ Bd hml0 hP0 hK
  obtain ⟨rfl, hZ, hh⟩ := hP0
  have hx := Bd.exec
  have hby := Bd.bytes
  have hml : c.maxLocals = 3 := hml0
  have hown : s.vm.findClass "com/example/lexicarta/lexicarta/uml/Multiplicity" = some m.cls := findClass_of_methodNamed Bd.named
  have hnm := (name_of_methodNamed Bd.named Bd.method).1
  have X0 : Stand p l e ({ frames := 2, cells := 0, slots := 0, locals := 24 } : Room) s m #[(.ref a), (.int lo), (.int up)] below meth c s₁ [] 0 0 := Stand.of_body Bd
  have e0 : s₁.heap = h0 := by rw [← hh, Bd.state]; rfl
  have N0 := Fr.nil n0
  obtain ⟨P, hP, R0⟩ : ∃ P : State → Prop, (∀ t_, P t_ → Steps p.tables e below (s₁.setTop (entryFrame m #[(.ref a), (.int lo), (.int up)] 3)) t_) ∧ Go p e below P s₁ (mkF m 0 #[.val (.ref a), .val (.int lo), .val (.int up)] []) := ⟨_, fun _ h => h, fun t_ k_ => castTop (ef_mulD_ m a lo up) k_⟩
  have R124 : Go p e below P s₁ (mkF m 1 #[.val (.ref a), .val (.int lo), .val (.int up)] [(.ref a)]) := fun t_ k_ => R0 t_ (XS.aloadN X0.here hx rfl (hb hby d2_0) rfl rfl k_)
  obtain ⟨rv125, _, ⟨T125, L125, k125, n125⟩, -, X125, ⟨Lc125, hQ125, l125, y125, z125⟩, st125⟩ := X0.specialBack hx (y := (⟨"java/lang/Record", "<init>", "()V"⟩ : MethodName)) rfl hown (mvT hZ (hw _ (List.mem_of_getElem? (i := 11) rfl))) (mvT hZ (hw _ (List.mem_of_getElem? (i := 12) rfl))) (mvT hZ (hw _ (List.mem_of_getElem? (i := 15) rfl))) (by decide) (backOf (W := 0) (recI_ l Z a0 hw [] a h0 n0 O0) hZ (hw _ (List.mem_of_getElem? (i := 15) rfl)) (hw _ (List.mem_of_getElem? (i := 14) rfl)) (by decide) (by decide)) (g := (mkF m 1 #[.val (.ref a), .val (.int lo), .val (.int up)] [(.ref a)])) rfl (by rw [hml]; rfl) (Steps.refl _) (a := a) (argsL := []) (rest := []) (lenOf pd_16428534 rfl) rfl (by show 2 * 0 + _ ≤ _; exact Nat.le_of_eq rfl) (hb hby d2_1) (fun _ _ => ⟨rfl, e0, (by decide : 0 + 0 ≤ _), (by decide : 0 + 0 ≤ _)⟩)
  dsimp only [Pt.U, Pt.locs, Pt.cells, Pt.slots] at X125 l125 y125 z125 st125 hQ125
  subst l125 y125 z125
  obtain ⟨rfl, N125q, K125⟩ := hQ125
  have N125 := Fr.app N0 N125q
  have R126 : Go p e below P T125 (mkF m 4 #[.val (.ref a), .val (.int lo), .val (.int up)] []) := fun t_ k_ => R124 t_ (st125.trans k_)
  have R127 : Go p e below P T125 (mkF m 5 #[.val (.ref a), .val (.int lo), .val (.int up)] [(.int lo)]) := fun t_ k_ => R126 t_ (XS.iloadN X125.here hx rfl (hb hby d2_4) rfl k_)
  have R128 : Go p e below P T125 (mkF m 8 #[.val (.ref a), .val (.int lo), .val (.int up)] []) := fun t_ k_ => R127 t_ (XS.ifNo X125.here hx rfl (hb hby d2_5) rfl ((if0 _ _).trans (flt hl).1) k_)
  have R129 : Go p e below P T125 (mkF m 9 #[.val (.ref a), .val (.int lo), .val (.int up)] [(.int up)]) := fun t_ k_ => R128 t_ (XS.iloadN X125.here hx rfl (hb hby d2_8) rfl k_)
  have R130 : Go p e below P T125 (mkF m 10 #[.val (.ref a), .val (.int lo), .val (.int up)] [(.int (-1 : Int32)), (.int up)]) := fun t_ k_ => R129 t_ (XS.iconst X125.here hx rfl (hb hby d2_9) k_)
  have R131 : Go p e below P T125 (mkF m 13 #[.val (.ref a), .val (.int lo), .val (.int up)] []) := fun t_ k_ => R130 t_ (XS.icmpNo X125.here hx rfl (hb hby d2_10) rfl (feq (fun q => hu (by rw [q]; decide))).1 k_)
  have R132 : Go p e below P T125 (mkF m 14 #[.val (.ref a), .val (.int lo), .val (.int up)] [(.int up)]) := fun t_ k_ => R131 t_ (XS.iloadN X125.here hx rfl (hb hby d2_13) rfl k_)
  have R133 : Go p e below P T125 (mkF m 15 #[.val (.ref a), .val (.int lo), .val (.int up)] [(.int lo), (.int up)]) := fun t_ k_ => R132 t_ (XS.iloadN X125.here hx rfl (hb hby d2_14) rfl k_)
  have R134 : Go p e below P T125 (mkF m 33 #[.val (.ref a), .val (.int lo), .val (.int up)] []) := fun t_ k_ => R133 t_ (XS.icmpYes X125.here hx rfl (pc0 := 15) (pc' := 33) rfl (hb hby d2_15) rfl (flt hlu).2.1 (by decide) (by decide) k_)
  have R135 : Go p e below P T125 (mkF m 34 #[.val (.ref a), .val (.int lo), .val (.int up)] [(.ref a)]) := fun t_ k_ => R134 t_ (XS.aloadN X125.here hx rfl (hb hby d2_33) rfl rfl k_)
  have R136 : Go p e below P T125 (mkF m 35 #[.val (.ref a), .val (.int lo), .val (.int up)] [(.int lo), (.ref a)]) := fun t_ k_ => R135 t_ (XS.iloadN X125.here hx rfl (hb hby d2_34) rfl k_)
  obtain ⟨T137, h137, X137, e137, W137, st137⟩ := putF X125 hx hZ hown (host := "") (Or.inl (hw _ (List.mem_of_getElem? (i := 19) rfl))) Via.refl K125 P1 P0 (Or.inr ⟨(hw _ (List.mem_of_getElem? (i := 20) rfl)), rfl, hnm⟩) (hw _ (List.mem_of_getElem? (i := 6) rfl)) (ty := .int) (by decide) rfl rfl (g := (mkF m 35 #[.val (.ref a), .val (.int lo), .val (.int up)] [(.int lo), (.ref a)])) rfl rfl (hb hby d2_35)
  have N137 := Fr.snoc X137 N125 P3
  have Fw137 := P1.same W137
  have O137 := O0.wr W137 P3
  have R138 : Go p e below P T137 (mkF m 38 #[.val (.ref a), .val (.int lo), .val (.int up)] []) := fun t_ k_ => R136 t_ (st137 t_ k_)
  have R139 : Go p e below P T137 (mkF m 39 #[.val (.ref a), .val (.int lo), .val (.int up)] [(.ref a)]) := fun t_ k_ => R138 t_ (XS.aloadN X137.here hx rfl (hb hby d2_38) rfl rfl k_)
  have R140 : Go p e below P T137 (mkF m 40 #[.val (.ref a), .val (.int lo), .val (.int up)] [(.int up), (.ref a)]) := fun t_ k_ => R139 t_ (XS.iloadN X137.here hx rfl (hb hby d2_39) rfl k_)
  have f141 := (P0.wr W137)
  have f142 := (P2.other W137 (Or.inr (slot_ne (Or.inr (hw _ (List.mem_of_getElem? (i := 22) rfl))) (Or.inr (hw _ (List.mem_of_getElem? (i := 20) rfl))) (by decide) (t := .int) (t' := .int) (by decide) (by decide))))
  obtain ⟨T143, h143, X143, e143, W143, st143⟩ := putF X137 hx hZ hown (host := "") (Or.inl (hw _ (List.mem_of_getElem? (i := 21) rfl))) Via.refl e137 f142 f141 (Or.inr ⟨(hw _ (List.mem_of_getElem? (i := 22) rfl)), rfl, hnm⟩) (hw _ (List.mem_of_getElem? (i := 6) rfl)) (ty := .int) (by decide) rfl rfl (g := (mkF m 40 #[.val (.ref a), .val (.int lo), .val (.int up)] [(.int up), (.ref a)])) rfl rfl (hb hby d2_40)
  have N143 := Fr.snoc X143 N137 P3
  have Fw143 := f142.same W143
  have O143 := O137.wr W143 P3
  have R144 : Go p e below P T143 (mkF m 43 #[.val (.ref a), .val (.int lo), .val (.int up)] []) := fun t_ k_ => R140 t_ (st143 t_ k_)
  obtain ⟨fs, hr, hrun, hended, hW, hsame⟩ := X143.leave (v := none) (fun _ => rfl)
  have f145 := (f141.wr W143)
  exact ⟨_, _, hP _ (R144 _ (X143.returnOut hx Bd.returns (hb hby d2_43) hr)), hrun, hended, _, _, rfl, ⟨rfl, N143, (e143.symm ▸ (((Keep.refl h0 [a]).wr W137 (Or.inl (List.mem_of_getElem? (i := 0) rfl))).wr W143 (Or.inl (List.mem_of_getElem? (i := 0) rfl)))), (e143.symm ▸ f145), (e143.symm ▸ Fw143)⟩, ⟨_, rfl⟩, hW, hsame.mono (by decide) (by decide)⟩
theorem ef_upS_ (m : MethodId) (x0 : Addr) : entryFrame m #[(.ref x0)] 1 = mkF m 0 #[.val (.ref x0)] [] := by first | (simp [entryFrame, mkF, argsToLocals, Value.category]; done) | rfl
theorem d5_0 : decode prog_88_method_2_code 0 = .ok (.aload_n 0, 1) := by decide +kernel
theorem d5_1 : decode prog_88_method_2_code 1 = .ok (.getfield 22, 3) := by decide +kernel
theorem d5_4 : decode prog_88_method_2_code 4 = .ok (.iconst (-1), 1) := by decide +kernel
theorem d5_5 : decode prog_88_method_2_code 5 = .ok (.if_icmp .ne 8, 3) := by decide +kernel
theorem d5_8 : decode prog_88_method_2_code 8 = .ok (.ldc 25, 2) := by decide +kernel
theorem d5_10 : decode prog_88_method_2_code 10 = .ok (.goto 10, 3) := by decide +kernel
theorem d5_20 : decode prog_88_method_2_code 20 = .ok (.areturn, 1) := by decide +kernel
def Q_upS_ (Z : State) (a : Addr) (h0 : Heap) (n0 : Nat) (rv_ : Option Value) (rh_ : Heap) (rL_ : List Loc) : Prop := ∃ x : Addr, ∃ t : Addr, ∃ kb : ClassId, (rv_ = some (.ref x)) ∧ (Fr n0 rL_) ∧ (Keep h0 rh_ []) ∧ (Exa Z rh_ x "java/lang/String") ∧ (Fld Z rh_ x "java/lang/String" "coder" "B" (.int (0 : Int32))) ∧ (Fld Z rh_ x "java/lang/String" "value" "[B" (.ref t)) ∧ (Arv Z rh_ t kb .byte (Int32.ofNat ([42] : List Int32).length) ((([42] : List Int32).map lo8).map Value.int) (.int (0 : Int32)))
set_option maxRecDepth 65536 in
set_option maxHeartbeats 40000000 in
theorem upS_ (l : Launch) (Z : State) (a0 : Array Value) (hw : ∀ d ∈ tables_1, d.before a0 Z = true) (ws : List Jvm.Cond) (a : Addr) (h0 : Heap) (n0 : Nat) (O0 : Old Z n0 h0) (hEL : EW Z a0 EL0) (P0 : Fld Z h0 a "com/example/lexicarta/lexicarta/uml/Multiplicity" "upper" "I" (.int (-1 : Int32))) :
    MetFree l (⟨"com/example/lexicarta/lexicarta/uml/Multiplicity", "upperValue", "()Ljava/lang/String;"⟩ : MethodName) (head1 (Jvm.Cond.code (⟨"com/example/lexicarta/lexicarta/uml/Multiplicity", "upperValue", "()Ljava/lang/String;"⟩ : MethodName) prog_88_method_2_code 1 (some (.object "java/lang/String")) :: ws) ({ frames := 0, cells := 2, slots := 8, locals := 0 } : Room)) (fun a_ U_ => a_ = #[(.ref a)] ∧ Z.Warmed39 U_.vm ∧ U_.heap = h0 ∧ CHv Z EL0 U_.vm h0) (fun _ _ _ _ _ => True) (fun _ U_ o_ U_' => ∃ v_ L_, o_ = .returned v_ ∧ Q_upS_ Z a h0 n0 v_ U_'.heap L_ ∧ CHr Z EL0 U_.vm U_.heap U_'.vm U_'.heap ∧ ReturnedEndW U_ o_ U_' L_ ({ frames := 0, cells := 2, slots := 8, locals := 0 } : Room).cells ({ frames := 0, cells := 2, slots := 8, locals := 0 } : Room).slots) := by
  refine MetFree.of_bodySF (plainFor_of_name pn_49345080) hisR ?_
  intro p e s m args below meth c s₁ Bd hml0 hP0 hK
  obtain ⟨rfl, hZ, hh, hCH⟩ := hP0
  have hx := Bd.exec
  have hby := Bd.bytes
  have hml : c.maxLocals = 1 := hml0
  have hown : s.vm.findClass "com/example/lexicarta/lexicarta/uml/Multiplicity" = some m.cls := findClass_of_methodNamed Bd.named
  have hnm := (name_of_methodNamed Bd.named Bd.method).1
  have hS0 : s.Since s.vm 0 := (State.WarmedH.refl s).since 0
  have hk0 : 0 ≤ h0.size := Nat.zero_le _
  have C0 : CHr Z EL0 s.vm h0 s.vm h0 := CHr.refl hCH
  have X0 : Stand p l e ({ frames := 0, cells := 2, slots := 8, locals := 0 } : Room) (s.setVm s.vm) m #[(.ref a)] below meth c s₁ [] 0 0 := Stand.of_body Bd
  have e0 : s₁.heap = h0 := by rw [← hh, Bd.state]; rfl
  have N0 := Fr.nil n0
  obtain ⟨P, hP, R0⟩ : ∃ P : State → Prop, (∀ t_, P t_ → Steps p.tables e below (s₁.setTop (entryFrame m #[(.ref a)] 1)) t_) ∧ Go p e below P s₁ (mkF m 0 #[.val (.ref a)] []) := ⟨_, fun _ h => h, fun t_ k_ => castTop (ef_upS_ m a) k_⟩
  have R146 : Go p e below P s₁ (mkF m 1 #[.val (.ref a)] [(.ref a)]) := fun t_ k_ => R0 t_ (XS.aloadN X0.here hx rfl (hb hby d5_0) rfl rfl k_)
  obtain ⟨T147, X147, e147, st147⟩ := getF X0 hx hZ hown (host := "") (Or.inl (hw _ (List.mem_of_getElem? (i := 21) rfl))) Via.refl e0 P0 (g := (mkF m 1 #[.val (.ref a)] [(.ref a)])) rfl rfl (hb hby d5_1)
  have R148 : Go p e below P T147 (mkF m 4 #[.val (.ref a)] [(.int (-1 : Int32))]) := fun t_ k_ => R146 t_ (st147 t_ k_)
  have R149 : Go p e below P T147 (mkF m 5 #[.val (.ref a)] [(.int (-1 : Int32)), (.int (-1 : Int32))]) := fun t_ k_ => R148 t_ (XS.iconst X147.here hx rfl (hb hby d5_4) k_)
  have R150 : Go p e below P T147 (mkF m 8 #[.val (.ref a)] []) := fun t_ k_ => R149 t_ (XS.icmpNo X147.here hx rfl (hb hby d5_5) rfl (teq rfl).2 k_)
  obtain ⟨a151, T151, h151, k151x, t151, kb151, X151, e151, E151, hS151, hk151, hZ, hown, E1151, F1151, F2151, A1151, la151, lb151, hC151, hL151, hne151, st151⟩ := ldcCH X147 hx hZ hown (hw _ (List.mem_of_getElem? (i := 96) rfl)) (wS_of hw) e147 hS0 hk0 hEL (List.mem_of_getElem? (i := 0) rfl) C0.1 (text := "*") (vs := ((([42] : List Int32).map lo8).map Value.int)) (z := (Int32.ofNat ([42] : List Int32).length)) ⟨by decide, by first | rfl | decide +kernel⟩ (by decide) (by decide) (g := (mkF m 8 #[.val (.ref a)] [])) rfl (hb hby d5_8) (n := 4) (by decide) (by decide) (by decide) (by decide)
  have O151 := O0.ext E151
  have C152 := C0.trans hC151
  have R153 : Go p e below P T151 (mkF m 10 #[.val (.ref a)] [(.ref a151)]) := fun t_ k_ => R150 t_ (st151 t_ k_)
  have R154 : Go p e below P T151 (mkF m 20 #[.val (.ref a)] [(.ref a151)]) := fun t_ k_ => R153 t_ (XS.goto X151.here hx rfl (pc0 := 10) (pc' := 20) rfl (hb hby d5_10) (by decide) (by decide) k_)
  obtain ⟨fs, hr, hrun, hended, hend⟩ := X151.leaveW hS151 (by rw [e151]; exact hk151 : _ ≤ T151.heap.size) (v := some (.ref a151)) (fun h => by rw [Bd.returns] at h; cases h)
  have hCe := C152.trans (CHv.at X151 hZ hEL C152.1)
  exact ⟨_, _, hP _ (R154 _ (retOut X151 hx Bd.returns rfl (Or.inr (Or.inr (Or.inr (Or.inr ⟨rfl, rfl, rfl⟩)))) (hb hby d5_20) hr)), hrun, hended, _, _, rfl, ⟨a151, t151, kb151, rfl, N0, (e151.symm ▸ ((Keep.refl h0 []).ext E151)), (e151.symm ▸ E1151), (e151.symm ▸ F1151), (e151.symm ▸ F2151), (e151.symm ▸ A1151)⟩, (by show CHr Z EL0 s.vm s.heap T151.vm T151.heap; rw [hh, e151]; exact hCe), ⟨hend.1, hend.2.1, hend.2.2.1, hend.2.2.2.mono (by decide) (by decide)⟩⟩
theorem ef_upD_ (m : MethodId) (x0 : Addr) : entryFrame m #[(.ref x0)] 1 = mkF m 0 #[.val (.ref x0)] [] := by first | (simp [entryFrame, mkF, argsToLocals, Value.category]; done) | rfl
theorem d5_13 : decode prog_88_method_2_code 13 = .ok (.aload_n 0, 1) := by decide +kernel
theorem d5_14 : decode prog_88_method_2_code 14 = .ok (.getfield 22, 3) := by decide +kernel
theorem d5_17 : decode prog_88_method_2_code 17 = .ok (.invokestatic 27, 3) := by decide +kernel
theorem pd_78731567 : parseMethodDescriptor "(I)Ljava/lang/String;" = some ⟨[.int], some (.object "java/lang/String")⟩ := by decide +kernel
def Q_upD_ (Z : State) (a : Addr) (v : Int32) (zc : Int32) (st : Addr) (d1 : Addr) (D1 : Cell) (d2 : Addr) (D2 : Cell) (h0 : Heap) (n0 : Nat) (rv_ : Option Value) (rh_ : Heap) (rL_ : List Loc) : Prop := ∃ x : Addr, ∃ t : Addr, ∃ kb : ClassId, (rv_ = some (.ref x)) ∧ (Fr n0 rL_) ∧ (Keep h0 rh_ []) ∧ (Exa Z rh_ x "java/lang/String") ∧ (Fld Z rh_ x "java/lang/String" "coder" "B" (.int (0 : Int32))) ∧ (Fld Z rh_ x "java/lang/String" "value" "[B" (.ref t)) ∧ (Arv Z rh_ t kb .byte (Int32.ofNat (digL v).length) (((digL v).map lo8).map Value.int) (.int (0 : Int32)))
set_option maxRecDepth 65536 in
set_option maxHeartbeats 40000000 in
theorem upD_ (l : Launch) (Z : State) (a0 : Array Value) (hw : ∀ d ∈ tables_1, d.before a0 Z = true) (ws : List Jvm.Cond) (a : Addr) (v : Int32) (zc : Int32) (st : Addr) (d1 : Addr) (D1 : Cell) (d2 : Addr) (D2 : Cell) (h0 : Heap) (n0 : Nat) (O0 : Old Z n0 h0) (P0 : Fld Z h0 a "com/example/lexicarta/lexicarta/uml/Multiplicity" "upper" "I" (.int v)) (P1 : Sta Z Z.heap "java/lang/String" "COMPACT_STRINGS" "Z" (.int zc)) (P2 : ¬ zc = 0) (P3 : Jvm.Free.SBG.Tbl Z "DigitOnes" st d1 D1) (P4 : Jvm.Free.SBG.Ones D1) (P5 : Jvm.Free.SBG.Tbl Z "DigitTens" st d2 D2) (P6 : Jvm.Free.SBG.Tens D2) (P7 : ¬ v < 0) :
    MetFree l (⟨"com/example/lexicarta/lexicarta/uml/Multiplicity", "upperValue", "()Ljava/lang/String;"⟩ : MethodName) (head1 (Jvm.Cond.code (⟨"com/example/lexicarta/lexicarta/uml/Multiplicity", "upperValue", "()Ljava/lang/String;"⟩ : MethodName) prog_88_method_2_code 1 (some (.object "java/lang/String")) :: ws) ({ frames := 3, cells := 2, slots := 14, locals := 92 } : Room)) (fun a_ U_ => a_ = #[(.ref a)] ∧ Z.Warmed39 U_.vm ∧ U_.heap = h0) (fun _ _ _ _ _ => True) (fun _ U_ o_ U_' => ∃ v_ L_, o_ = .returned v_ ∧ Q_upD_ Z a v zc st d1 D1 d2 D2 h0 n0 v_ U_'.heap L_ ∧ FrameEnd U_ o_ U_' L_ ({ frames := 3, cells := 2, slots := 14, locals := 92 } : Room).cells ({ frames := 3, cells := 2, slots := 14, locals := 92 } : Room).slots) := by
  have hzc := P2
  have hT1 := P3
  have hO1 := P4
  have hT2 := P5
  have hO2 := P6
  have hv := P7
  refine MetFree.of_bodySF (plainFor_of_name pn_49345080) hisR ?_
  intro p e s m args below meth c s₁ Bd hml0 hP0 hK
  obtain ⟨rfl, hZ, hh⟩ := hP0
  have hx := Bd.exec
  have hby := Bd.bytes
  have hml : c.maxLocals = 1 := hml0
  have hown : s.vm.findClass "com/example/lexicarta/lexicarta/uml/Multiplicity" = some m.cls := findClass_of_methodNamed Bd.named
  have hnm := (name_of_methodNamed Bd.named Bd.method).1
  have X0 : Stand p l e ({ frames := 3, cells := 2, slots := 14, locals := 92 } : Room) s m #[(.ref a)] below meth c s₁ [] 0 0 := Stand.of_body Bd
  have e0 : s₁.heap = h0 := by rw [← hh, Bd.state]; rfl
  have N0 := Fr.nil n0
  obtain ⟨P, hP, R0⟩ : ∃ P : State → Prop, (∀ t_, P t_ → Steps p.tables e below (s₁.setTop (entryFrame m #[(.ref a)] 1)) t_) ∧ Go p e below P s₁ (mkF m 0 #[.val (.ref a)] []) := ⟨_, fun _ h => h, fun t_ k_ => castTop (ef_upD_ m a) k_⟩
  have R155 : Go p e below P s₁ (mkF m 1 #[.val (.ref a)] [(.ref a)]) := fun t_ k_ => R0 t_ (XS.aloadN X0.here hx rfl (hb hby d5_0) rfl rfl k_)
  obtain ⟨T156, X156, e156, st156⟩ := getF X0 hx hZ hown (host := "") (Or.inl (hw _ (List.mem_of_getElem? (i := 21) rfl))) Via.refl e0 P0 (g := (mkF m 1 #[.val (.ref a)] [(.ref a)])) rfl rfl (hb hby d5_1)
  have R157 : Go p e below P T156 (mkF m 4 #[.val (.ref a)] [(.int v)]) := fun t_ k_ => R155 t_ (st156 t_ k_)
  have R158 : Go p e below P T156 (mkF m 5 #[.val (.ref a)] [(.int (-1 : Int32)), (.int v)]) := fun t_ k_ => R157 t_ (XS.iconst X156.here hx rfl (hb hby d5_4) k_)
  have R159 : Go p e below P T156 (mkF m 13 #[.val (.ref a)] []) := fun t_ k_ => R158 t_ (XS.icmpYes X156.here hx rfl (pc0 := 5) (pc' := 13) rfl (hb hby d5_5) rfl (feq (fun q => hv (by rw [q]; decide))).2 (by decide) (by decide) k_)
  have R160 : Go p e below P T156 (mkF m 14 #[.val (.ref a)] [(.ref a)]) := fun t_ k_ => R159 t_ (XS.aloadN X156.here hx rfl (hb hby d5_13) rfl rfl k_)
  obtain ⟨T161, X161, e161, st161⟩ := getF X156 hx hZ hown (host := "") (Or.inl (hw _ (List.mem_of_getElem? (i := 21) rfl))) Via.refl e156 P0 (g := (mkF m 14 #[.val (.ref a)] [(.ref a)])) rfl rfl (hb hby d5_14)
  have R162 : Go p e below P T161 (mkF m 17 #[.val (.ref a)] [(.int v)]) := fun t_ k_ => R160 t_ (st161 t_ k_)
  obtain ⟨rv163, _, ⟨T163, L163, k163, n163⟩, -, X163, ⟨Lc163, hQ163, l163, y163, z163⟩, st163⟩ := Jvm.LawKit.callS X161 hx (y := (⟨"java/lang/Integer", "toString", "(I)Ljava/lang/String;"⟩ : MethodName)) hown (mvT hZ (hw _ (List.mem_of_getElem? (i := 28) rfl))) (mvT hZ (hw _ (List.mem_of_getElem? (i := 29) rfl))) (mvT hZ (hw _ (List.mem_of_getElem? (i := 30) rfl))) (mvT hZ (hw _ (List.mem_of_getElem? (i := 31) rfl))) (by decide) (backOf (W := 0) (its_ l Z a0 hw [] v zc st d1 D1 d2 D2 h0 n0 O0 P1 hzc hT1 hO1 hT2 hO2 hv) hZ (hw _ (List.mem_of_getElem? (i := 31) rfl)) (hw _ (List.mem_of_getElem? (i := 30) rfl)) (by decide) (by decide)) (g := (mkF m 17 #[.val (.ref a)] [(.int v)])) rfl (by rw [hml]; rfl) (argsL := [(.int v)]) (rest := []) (lenOf pd_78731567 rfl) rfl (by show 2 * 0 + _ ≤ _; exact Nat.le_of_eq rfl) (hb hby d5_17) (fun _ _ => ⟨rfl, e161, (by decide : 0 + 2 ≤ _), (by decide : 0 + 14 ≤ _)⟩)
  dsimp only [Pt.U, Pt.locs, Pt.cells, Pt.slots] at X163 l163 y163 z163 st163 hQ163
  subst l163 y163 z163
  obtain ⟨x_163, t_163, kb_163, rfl, N163q, K163, p163_0, p163_1, p163_2, p163_3⟩ := hQ163
  have N163 := Fr.app N0 N163q
  have O163 := O0.keep K163 all0
  have R164 : Go p e below P T163 (mkF m 20 #[.val (.ref a)] [(.ref x_163)]) := fun t_ k_ => R162 t_ (st163 t_ k_)
  obtain ⟨fs, hr, hrun, hended, hW, hsame⟩ := X163.leave (v := some (.ref x_163)) (fun h => by rw [Bd.returns] at h; cases h)
  exact ⟨_, _, hP _ (R164 _ (retOut X163 hx Bd.returns rfl (Or.inr (Or.inr (Or.inr (Or.inr ⟨rfl, rfl, rfl⟩)))) (hb hby d5_20) hr)), hrun, hended, _, _, rfl, ⟨x_163, t_163, kb_163, rfl, N163, ((Keep.refl h0 []).trans K163 all0), p163_0, p163_1, p163_2, p163_3⟩, ⟨_, rfl⟩, hW, hsame.mono (by decide) (by decide)⟩
theorem ef_min_ (m : MethodId) (x0 : Int32) (x1 : Int32) : entryFrame m #[(.int x0), (.int x1)] 2 = mkF m 0 #[.val (.int x0), .val (.int x1)] [] := by first | (simp [entryFrame, mkF, argsToLocals, Value.category]; done) | rfl
theorem d1_0 : decode jdk_29_method_69_code 0 = .ok (.iload_n 0, 1) := by decide +kernel
theorem d1_1 : decode jdk_29_method_69_code 1 = .ok (.iload_n 1, 1) := by decide +kernel
theorem d1_2 : decode jdk_29_method_69_code 2 = .ok (.if_icmp .gt 7, 3) := by decide +kernel
theorem d1_9 : decode jdk_29_method_69_code 9 = .ok (.iload_n 1, 1) := by decide +kernel
theorem d1_10 : decode jdk_29_method_69_code 10 = .ok (.ireturn, 1) := by decide +kernel
theorem d1_5 : decode jdk_29_method_69_code 5 = .ok (.iload_n 0, 1) := by decide +kernel
theorem d1_6 : decode jdk_29_method_69_code 6 = .ok (.goto 4, 3) := by decide +kernel
def Q_min_ (Z : State) (a : Int32) (b : Int32) (h0 : Heap) (n0 : Nat) (rv_ : Option Value) (rh_ : Heap) (rL_ : List Loc) : Prop := (rv_ = some (.int (minI a b))) ∧ (Fr n0 rL_) ∧ (rh_ = h0)
set_option maxRecDepth 65536 in
set_option maxHeartbeats 40000000 in
theorem min_ (l : Launch) (Z : State) (a0 : Array Value) (hw : ∀ d ∈ tables_1, d.before a0 Z = true) (ws : List Jvm.Cond) (a : Int32) (b : Int32) (h0 : Heap) (n0 : Nat) (O0 : Old Z n0 h0) :
    MetFree l (⟨"java/lang/Math", "min", "(II)I"⟩ : MethodName) (head1 (Jvm.Cond.code (⟨"java/lang/Math", "min", "(II)I"⟩ : MethodName) jdk_29_method_69_code 2 (some .int) :: ws) ({ frames := 0, cells := 0, slots := 0, locals := 0 } : Room)) (fun a_ U_ => a_ = #[(.int a), (.int b)] ∧ Z.Warmed39 U_.vm ∧ U_.heap = h0) (fun _ _ _ _ _ => True) (fun _ U_ o_ U_' => ∃ v_ L_, o_ = .returned v_ ∧ Q_min_ Z a b h0 n0 v_ U_'.heap L_ ∧ FrameEnd U_ o_ U_' L_ ({ frames := 0, cells := 0, slots := 0, locals := 0 } : Room).cells ({ frames := 0, cells := 0, slots := 0, locals := 0 } : Room).slots) := by
  refine MetFree.of_bodySF (Jvm.Free.JP.mathPlain rfl (by decide +kernel)) hisR ?_
  intro p e s m args below meth c s₁ Bd hml0 hP0 hK
  obtain ⟨rfl, hZ, hh⟩ := hP0
  have hx := Bd.exec
  have hby := Bd.bytes
  have hml : c.maxLocals = 2 := hml0
  have hown : s.vm.findClass "java/lang/Math" = some m.cls := findClass_of_methodNamed Bd.named
  have hnm := (name_of_methodNamed Bd.named Bd.method).1
  have X0 : Stand p l e ({ frames := 0, cells := 0, slots := 0, locals := 0 } : Room) s m #[(.int a), (.int b)] below meth c s₁ [] 0 0 := Stand.of_body Bd
  have e0 : s₁.heap = h0 := by rw [← hh, Bd.state]; rfl
  have N0 := Fr.nil n0
  obtain ⟨P, hP, R0⟩ : ∃ P : State → Prop, (∀ t_, P t_ → Steps p.tables e below (s₁.setTop (entryFrame m #[(.int a), (.int b)] 2)) t_) ∧ Go p e below P s₁ (mkF m 0 #[.val (.int a), .val (.int b)] []) := ⟨_, fun _ h => h, fun t_ k_ => castTop (ef_min_ m a b) k_⟩
  have R165 : Go p e below P s₁ (mkF m 1 #[.val (.int a), .val (.int b)] [(.int a)]) := fun t_ k_ => R0 t_ (XS.iloadN X0.here hx rfl (hb hby d1_0) rfl k_)
  have R166 : Go p e below P s₁ (mkF m 2 #[.val (.int a), .val (.int b)] [(.int b), (.int a)]) := fun t_ k_ => R165 t_ (XS.iloadN X0.here hx rfl (hb hby d1_1) rfl k_)
  by_cases hc167 : b < a
  · have R168 : Go p e below P s₁ (mkF m 9 #[.val (.int a), .val (.int b)] []) := fun t_ k_ => R166 t_ (XS.icmpYes X0.here hx rfl (pc0 := 2) (pc' := 9) rfl (hb hby d1_2) rfl (tlt hc167).2.2.1 (by decide) (by decide) k_)
    have R169 : Go p e below P s₁ (mkF m 10 #[.val (.int a), .val (.int b)] [(.int b)]) := fun t_ k_ => R168 t_ (XS.iloadN X0.here hx rfl (hb hby d1_9) rfl k_)
    obtain ⟨fs, hr, hrun, hended, hW, hsame⟩ := X0.leave (v := some (.int b)) (fun h => by rw [Bd.returns] at h; cases h)
    exact ⟨_, _, hP _ (R169 _ (retI X0 hx Bd.returns (hb hby d1_10) hr)), hrun, hended, _, _, rfl, ⟨(by first | (simp only [minI, eq_true hc167, true_and, and_true, false_and, and_false, true_or, or_true, false_or, or_false, not_true_eq_false, not_false_eq_true, ↓reduceIte, nar_b0, nar_b1]; done) | simp [minI, nar_b0, nar_b1, hc167]), N0, e0⟩, ⟨_, rfl⟩, hW, hsame.mono (by decide) (by decide)⟩
  · have R170 : Go p e below P s₁ (mkF m 5 #[.val (.int a), .val (.int b)] []) := fun t_ k_ => R166 t_ (XS.icmpNo X0.here hx rfl (hb hby d1_2) rfl (flt hc167).2.2.1 k_)
    have R171 : Go p e below P s₁ (mkF m 6 #[.val (.int a), .val (.int b)] [(.int a)]) := fun t_ k_ => R170 t_ (XS.iloadN X0.here hx rfl (hb hby d1_5) rfl k_)
    have R172 : Go p e below P s₁ (mkF m 10 #[.val (.int a), .val (.int b)] [(.int a)]) := fun t_ k_ => R171 t_ (XS.goto X0.here hx rfl (pc0 := 6) (pc' := 10) rfl (hb hby d1_6) (by decide) (by decide) k_)
    obtain ⟨fs, hr, hrun, hended, hW, hsame⟩ := X0.leave (v := some (.int a)) (fun h => by rw [Bd.returns] at h; cases h)
    exact ⟨_, _, hP _ (R172 _ (retI X0 hx Bd.returns (hb hby d1_10) hr)), hrun, hended, _, _, rfl, ⟨(by first | (simp only [minI, eq_false hc167, true_and, and_true, false_and, and_false, true_or, or_true, false_or, or_false, not_true_eq_false, not_false_eq_true, ↓reduceIte, nar_b0, nar_b1]; done) | simp [minI, nar_b0, nar_b1, hc167]), N0, e0⟩, ⟨_, rfl⟩, hW, hsame.mono (by decide) (by decide)⟩
theorem pn_65406652 : plainName "com/example/lexicarta/lexicarta/uml/MultiplicityUpperValuePinLaw" = true := by first | (simp [plainName, overriddenIn]; done) | decide +kernel
theorem ef_digits_ (m : MethodId) (x0 : Int32) : entryFrame m #[(.int x0)] 1 = mkF m 0 #[.val (.int x0)] [] := by first | (simp [entryFrame, mkF, argsToLocals, Value.category]; done) | rfl
theorem d10_0 : decode method_3_code 0 = .ok (.iload_n 0, 1) := by decide +kernel
theorem d10_1 : decode method_3_code 1 = .ok (.bipush 10, 2) := by decide +kernel
theorem d10_3 : decode method_3_code 3 = .ok (.if_icmp .ge 5, 3) := by decide +kernel
theorem d10_6 : decode method_3_code 6 = .ok (.iconst 1, 1) := by decide +kernel
theorem d10_7 : decode method_3_code 7 = .ok (.ireturn, 1) := by decide +kernel
theorem d10_8 : decode method_3_code 8 = .ok (.iload_n 0, 1) := by decide +kernel
theorem d10_9 : decode method_3_code 9 = .ok (.bipush 100, 2) := by decide +kernel
theorem d10_11 : decode method_3_code 11 = .ok (.if_icmp .ge 5, 3) := by decide +kernel
theorem d10_14 : decode method_3_code 14 = .ok (.iconst 2, 1) := by decide +kernel
theorem d10_15 : decode method_3_code 15 = .ok (.ireturn, 1) := by decide +kernel
theorem d10_16 : decode method_3_code 16 = .ok (.iload_n 0, 1) := by decide +kernel
theorem d10_17 : decode method_3_code 17 = .ok (.sipush 1000, 3) := by decide +kernel
theorem d10_20 : decode method_3_code 20 = .ok (.if_icmp .ge 5, 3) := by decide +kernel
theorem d10_23 : decode method_3_code 23 = .ok (.iconst 3, 1) := by decide +kernel
theorem d10_24 : decode method_3_code 24 = .ok (.ireturn, 1) := by decide +kernel
theorem d10_25 : decode method_3_code 25 = .ok (.iload_n 0, 1) := by decide +kernel
theorem d10_26 : decode method_3_code 26 = .ok (.sipush 10000, 3) := by decide +kernel
theorem d10_29 : decode method_3_code 29 = .ok (.if_icmp .ge 5, 3) := by decide +kernel
theorem d10_32 : decode method_3_code 32 = .ok (.iconst 4, 1) := by decide +kernel
theorem d10_33 : decode method_3_code 33 = .ok (.ireturn, 1) := by decide +kernel
theorem d10_34 : decode method_3_code 34 = .ok (.iload_n 0, 1) := by decide +kernel
theorem d10_35 : decode method_3_code 35 = .ok (.ldc 43, 2) := by decide +kernel
theorem d10_37 : decode method_3_code 37 = .ok (.if_icmp .ge 5, 3) := by decide +kernel
theorem d10_40 : decode method_3_code 40 = .ok (.iconst 5, 1) := by decide +kernel
theorem d10_41 : decode method_3_code 41 = .ok (.ireturn, 1) := by decide +kernel
theorem d10_42 : decode method_3_code 42 = .ok (.iload_n 0, 1) := by decide +kernel
theorem d10_43 : decode method_3_code 43 = .ok (.ldc 44, 2) := by decide +kernel
theorem d10_45 : decode method_3_code 45 = .ok (.if_icmp .ge 6, 3) := by decide +kernel
theorem d10_48 : decode method_3_code 48 = .ok (.bipush 6, 2) := by decide +kernel
theorem d10_50 : decode method_3_code 50 = .ok (.ireturn, 1) := by decide +kernel
theorem d10_51 : decode method_3_code 51 = .ok (.iload_n 0, 1) := by decide +kernel
theorem d10_52 : decode method_3_code 52 = .ok (.ldc 45, 2) := by decide +kernel
theorem d10_54 : decode method_3_code 54 = .ok (.if_icmp .ge 6, 3) := by decide +kernel
theorem d10_57 : decode method_3_code 57 = .ok (.bipush 7, 2) := by decide +kernel
theorem d10_59 : decode method_3_code 59 = .ok (.ireturn, 1) := by decide +kernel
theorem d10_60 : decode method_3_code 60 = .ok (.iload_n 0, 1) := by decide +kernel
theorem d10_61 : decode method_3_code 61 = .ok (.ldc 46, 2) := by decide +kernel
theorem d10_63 : decode method_3_code 63 = .ok (.if_icmp .ge 6, 3) := by decide +kernel
theorem d10_66 : decode method_3_code 66 = .ok (.bipush 8, 2) := by decide +kernel
theorem d10_68 : decode method_3_code 68 = .ok (.ireturn, 1) := by decide +kernel
theorem d10_69 : decode method_3_code 69 = .ok (.iload_n 0, 1) := by decide +kernel
theorem d10_70 : decode method_3_code 70 = .ok (.ldc 47, 2) := by decide +kernel
theorem d10_72 : decode method_3_code 72 = .ok (.if_icmp .ge 6, 3) := by decide +kernel
theorem d10_75 : decode method_3_code 75 = .ok (.bipush 9, 2) := by decide +kernel
theorem d10_77 : decode method_3_code 77 = .ok (.ireturn, 1) := by decide +kernel
theorem d10_78 : decode method_3_code 78 = .ok (.bipush 10, 2) := by decide +kernel
theorem d10_80 : decode method_3_code 80 = .ok (.ireturn, 1) := by decide +kernel
def Q_digits_ (Z : State) (u : Int32) (h0 : Heap) (n0 : Nat) (rv_ : Option Value) (rh_ : Heap) (rL_ : List Loc) : Prop := (rv_ = some (.int (digI u))) ∧ (Fr n0 rL_) ∧ (rh_ = h0)
set_option maxRecDepth 65536 in
set_option maxHeartbeats 40000000 in
theorem digits_ (l : Launch) (Z : State) (a0 : Array Value) (hw : ∀ d ∈ tables_1, d.before a0 Z = true) (ws : List Jvm.Cond) (u : Int32) (h0 : Heap) (n0 : Nat) (O0 : Old Z n0 h0) :
    MetFree l (⟨"com/example/lexicarta/lexicarta/uml/MultiplicityUpperValuePinLaw", "digits", "(I)I"⟩ : MethodName) (head1 (Jvm.Cond.code (⟨"com/example/lexicarta/lexicarta/uml/MultiplicityUpperValuePinLaw", "digits", "(I)I"⟩ : MethodName) method_3_code 1 (some .int) :: ws) ({ frames := 0, cells := 0, slots := 0, locals := 0 } : Room)) (fun a_ U_ => a_ = #[(.int u)] ∧ Z.Warmed39 U_.vm ∧ U_.heap = h0) (fun _ _ _ _ _ => True) (fun _ U_ o_ U_' => ∃ v_ L_, o_ = .returned v_ ∧ Q_digits_ Z u h0 n0 v_ U_'.heap L_ ∧ FrameEnd U_ o_ U_' L_ ({ frames := 0, cells := 0, slots := 0, locals := 0 } : Room).cells ({ frames := 0, cells := 0, slots := 0, locals := 0 } : Room).slots) := by
  refine MetFree.of_bodySF (plainFor_of_name pn_65406652) hisR ?_
  intro p e s m args below meth c s₁ Bd hml0 hP0 hK
  obtain ⟨rfl, hZ, hh⟩ := hP0
  have hx := Bd.exec
  have hby := Bd.bytes
  have hml : c.maxLocals = 1 := hml0
  have hown : s.vm.findClass "com/example/lexicarta/lexicarta/uml/MultiplicityUpperValuePinLaw" = some m.cls := findClass_of_methodNamed Bd.named
  have hnm := (name_of_methodNamed Bd.named Bd.method).1
  have X0 : Stand p l e ({ frames := 0, cells := 0, slots := 0, locals := 0 } : Room) s m #[(.int u)] below meth c s₁ [] 0 0 := Stand.of_body Bd
  have e0 : s₁.heap = h0 := by rw [← hh, Bd.state]; rfl
  have N0 := Fr.nil n0
  obtain ⟨P, hP, R0⟩ : ∃ P : State → Prop, (∀ t_, P t_ → Steps p.tables e below (s₁.setTop (entryFrame m #[(.int u)] 1)) t_) ∧ Go p e below P s₁ (mkF m 0 #[.val (.int u)] []) := ⟨_, fun _ h => h, fun t_ k_ => castTop (ef_digits_ m u) k_⟩
  have R173 : Go p e below P s₁ (mkF m 1 #[.val (.int u)] [(.int u)]) := fun t_ k_ => R0 t_ (XS.iloadN X0.here hx rfl (hb hby d10_0) rfl k_)
  have R174 : Go p e below P s₁ (mkF m 3 #[.val (.int u)] [(.int (10 : Int32)), (.int u)]) := fun t_ k_ => R173 t_ (XS.bipush X0.here hx rfl (hb hby d10_1) k_)
  by_cases hc175 : u < (10 : Int32)
  · have R176 : Go p e below P s₁ (mkF m 6 #[.val (.int u)] []) := fun t_ k_ => R174 t_ (XS.icmpNo X0.here hx rfl (hb hby d10_3) rfl (tlt hc175).2.1 k_)
    have R177 : Go p e below P s₁ (mkF m 7 #[.val (.int u)] [(.int (1 : Int32))]) := fun t_ k_ => R176 t_ (XS.iconst X0.here hx rfl (hb hby d10_6) k_)
    obtain ⟨fs, hr, hrun, hended, hW, hsame⟩ := X0.leave (v := some (.int (1 : Int32))) (fun h => by rw [Bd.returns] at h; cases h)
    exact ⟨_, _, hP _ (R177 _ (retI X0 hx Bd.returns (hb hby d10_7) hr)), hrun, hended, _, _, rfl, ⟨(by first | (simp only [digI, eq_true hc175, true_and, and_true, false_and, and_false, true_or, or_true, false_or, or_false, not_true_eq_false, not_false_eq_true, ↓reduceIte, nar_b0, nar_b1]; done) | simp [digI, nar_b0, nar_b1, hc175]), N0, e0⟩, ⟨_, rfl⟩, hW, hsame.mono (by decide) (by decide)⟩
  · have R178 : Go p e below P s₁ (mkF m 8 #[.val (.int u)] []) := fun t_ k_ => R174 t_ (XS.icmpYes X0.here hx rfl (pc0 := 3) (pc' := 8) rfl (hb hby d10_3) rfl (flt hc175).2.1 (by decide) (by decide) k_)
    have R179 : Go p e below P s₁ (mkF m 9 #[.val (.int u)] [(.int u)]) := fun t_ k_ => R178 t_ (XS.iloadN X0.here hx rfl (hb hby d10_8) rfl k_)
    have R180 : Go p e below P s₁ (mkF m 11 #[.val (.int u)] [(.int (100 : Int32)), (.int u)]) := fun t_ k_ => R179 t_ (XS.bipush X0.here hx rfl (hb hby d10_9) k_)
    by_cases hc181 : u < (100 : Int32)
    · have R182 : Go p e below P s₁ (mkF m 14 #[.val (.int u)] []) := fun t_ k_ => R180 t_ (XS.icmpNo X0.here hx rfl (hb hby d10_11) rfl (tlt hc181).2.1 k_)
      have R183 : Go p e below P s₁ (mkF m 15 #[.val (.int u)] [(.int (2 : Int32))]) := fun t_ k_ => R182 t_ (XS.iconst X0.here hx rfl (hb hby d10_14) k_)
      obtain ⟨fs, hr, hrun, hended, hW, hsame⟩ := X0.leave (v := some (.int (2 : Int32))) (fun h => by rw [Bd.returns] at h; cases h)
      exact ⟨_, _, hP _ (R183 _ (retI X0 hx Bd.returns (hb hby d10_15) hr)), hrun, hended, _, _, rfl, ⟨(by first | (simp only [digI, eq_false hc175, eq_true hc181, true_and, and_true, false_and, and_false, true_or, or_true, false_or, or_false, not_true_eq_false, not_false_eq_true, ↓reduceIte, nar_b0, nar_b1]; done) | simp [digI, nar_b0, nar_b1, hc175, hc181]), N0, e0⟩, ⟨_, rfl⟩, hW, hsame.mono (by decide) (by decide)⟩
    · have R184 : Go p e below P s₁ (mkF m 16 #[.val (.int u)] []) := fun t_ k_ => R180 t_ (XS.icmpYes X0.here hx rfl (pc0 := 11) (pc' := 16) rfl (hb hby d10_11) rfl (flt hc181).2.1 (by decide) (by decide) k_)
      have R185 : Go p e below P s₁ (mkF m 17 #[.val (.int u)] [(.int u)]) := fun t_ k_ => R184 t_ (XS.iloadN X0.here hx rfl (hb hby d10_16) rfl k_)
      have R186 : Go p e below P s₁ (mkF m 20 #[.val (.int u)] [(.int (1000 : Int32)), (.int u)]) := fun t_ k_ => R185 t_ (XS.sipush X0.here hx rfl (hb hby d10_17) k_)
      by_cases hc187 : u < (1000 : Int32)
      · have R188 : Go p e below P s₁ (mkF m 23 #[.val (.int u)] []) := fun t_ k_ => R186 t_ (XS.icmpNo X0.here hx rfl (hb hby d10_20) rfl (tlt hc187).2.1 k_)
        have R189 : Go p e below P s₁ (mkF m 24 #[.val (.int u)] [(.int (3 : Int32))]) := fun t_ k_ => R188 t_ (XS.iconst X0.here hx rfl (hb hby d10_23) k_)
        obtain ⟨fs, hr, hrun, hended, hW, hsame⟩ := X0.leave (v := some (.int (3 : Int32))) (fun h => by rw [Bd.returns] at h; cases h)
        exact ⟨_, _, hP _ (R189 _ (retI X0 hx Bd.returns (hb hby d10_24) hr)), hrun, hended, _, _, rfl, ⟨(by first | (simp only [digI, eq_false hc175, eq_false hc181, eq_true hc187, true_and, and_true, false_and, and_false, true_or, or_true, false_or, or_false, not_true_eq_false, not_false_eq_true, ↓reduceIte, nar_b0, nar_b1]; done) | simp [digI, nar_b0, nar_b1, hc175, hc181, hc187]), N0, e0⟩, ⟨_, rfl⟩, hW, hsame.mono (by decide) (by decide)⟩
      · have R190 : Go p e below P s₁ (mkF m 25 #[.val (.int u)] []) := fun t_ k_ => R186 t_ (XS.icmpYes X0.here hx rfl (pc0 := 20) (pc' := 25) rfl (hb hby d10_20) rfl (flt hc187).2.1 (by decide) (by decide) k_)
        have R191 : Go p e below P s₁ (mkF m 26 #[.val (.int u)] [(.int u)]) := fun t_ k_ => R190 t_ (XS.iloadN X0.here hx rfl (hb hby d10_25) rfl k_)
        have R192 : Go p e below P s₁ (mkF m 29 #[.val (.int u)] [(.int (10000 : Int32)), (.int u)]) := fun t_ k_ => R191 t_ (XS.sipush X0.here hx rfl (hb hby d10_26) k_)
        by_cases hc193 : u < (10000 : Int32)
        · have R194 : Go p e below P s₁ (mkF m 32 #[.val (.int u)] []) := fun t_ k_ => R192 t_ (XS.icmpNo X0.here hx rfl (hb hby d10_29) rfl (tlt hc193).2.1 k_)
          have R195 : Go p e below P s₁ (mkF m 33 #[.val (.int u)] [(.int (4 : Int32))]) := fun t_ k_ => R194 t_ (XS.iconst X0.here hx rfl (hb hby d10_32) k_)
          obtain ⟨fs, hr, hrun, hended, hW, hsame⟩ := X0.leave (v := some (.int (4 : Int32))) (fun h => by rw [Bd.returns] at h; cases h)
          exact ⟨_, _, hP _ (R195 _ (retI X0 hx Bd.returns (hb hby d10_33) hr)), hrun, hended, _, _, rfl, ⟨(by first | (simp only [digI, eq_false hc175, eq_false hc181, eq_false hc187, eq_true hc193, true_and, and_true, false_and, and_false, true_or, or_true, false_or, or_false, not_true_eq_false, not_false_eq_true, ↓reduceIte, nar_b0, nar_b1]; done) | simp [digI, nar_b0, nar_b1, hc175, hc181, hc187, hc193]), N0, e0⟩, ⟨_, rfl⟩, hW, hsame.mono (by decide) (by decide)⟩
        · have R196 : Go p e below P s₁ (mkF m 34 #[.val (.int u)] []) := fun t_ k_ => R192 t_ (XS.icmpYes X0.here hx rfl (pc0 := 29) (pc' := 34) rfl (hb hby d10_29) rfl (flt hc193).2.1 (by decide) (by decide) k_)
          have R197 : Go p e below P s₁ (mkF m 35 #[.val (.int u)] [(.int u)]) := fun t_ k_ => R196 t_ (XS.iloadN X0.here hx rfl (hb hby d10_34) rfl k_)
          have R198 : Go p e below P s₁ (mkF m 37 #[.val (.int u)] [(.int (100000 : Int32)), (.int u)]) := fun t_ k_ => R197 t_ (X0.ldcInt hx hown (mvT hZ (hw _ (List.mem_of_getElem? (i := 100) rfl))) (g := (mkF m 35 #[.val (.int u)] [(.int u)])) rfl (hb hby d10_35) _ k_)
          by_cases hc199 : u < (100000 : Int32)
          · have R200 : Go p e below P s₁ (mkF m 40 #[.val (.int u)] []) := fun t_ k_ => R198 t_ (XS.icmpNo X0.here hx rfl (hb hby d10_37) rfl (tlt hc199).2.1 k_)
            have R201 : Go p e below P s₁ (mkF m 41 #[.val (.int u)] [(.int (5 : Int32))]) := fun t_ k_ => R200 t_ (XS.iconst X0.here hx rfl (hb hby d10_40) k_)
            obtain ⟨fs, hr, hrun, hended, hW, hsame⟩ := X0.leave (v := some (.int (5 : Int32))) (fun h => by rw [Bd.returns] at h; cases h)
            exact ⟨_, _, hP _ (R201 _ (retI X0 hx Bd.returns (hb hby d10_41) hr)), hrun, hended, _, _, rfl, ⟨(by first | (simp only [digI, eq_false hc175, eq_false hc181, eq_false hc187, eq_false hc193, eq_true hc199, true_and, and_true, false_and, and_false, true_or, or_true, false_or, or_false, not_true_eq_false, not_false_eq_true, ↓reduceIte, nar_b0, nar_b1]; done) | simp [digI, nar_b0, nar_b1, hc175, hc181, hc187, hc193, hc199]), N0, e0⟩, ⟨_, rfl⟩, hW, hsame.mono (by decide) (by decide)⟩
          · have R202 : Go p e below P s₁ (mkF m 42 #[.val (.int u)] []) := fun t_ k_ => R198 t_ (XS.icmpYes X0.here hx rfl (pc0 := 37) (pc' := 42) rfl (hb hby d10_37) rfl (flt hc199).2.1 (by decide) (by decide) k_)
            have R203 : Go p e below P s₁ (mkF m 43 #[.val (.int u)] [(.int u)]) := fun t_ k_ => R202 t_ (XS.iloadN X0.here hx rfl (hb hby d10_42) rfl k_)
            have R204 : Go p e below P s₁ (mkF m 45 #[.val (.int u)] [(.int (1000000 : Int32)), (.int u)]) := fun t_ k_ => R203 t_ (X0.ldcInt hx hown (mvT hZ (hw _ (List.mem_of_getElem? (i := 101) rfl))) (g := (mkF m 43 #[.val (.int u)] [(.int u)])) rfl (hb hby d10_43) _ k_)
            by_cases hc205 : u < (1000000 : Int32)
            · have R206 : Go p e below P s₁ (mkF m 48 #[.val (.int u)] []) := fun t_ k_ => R204 t_ (XS.icmpNo X0.here hx rfl (hb hby d10_45) rfl (tlt hc205).2.1 k_)
              have R207 : Go p e below P s₁ (mkF m 50 #[.val (.int u)] [(.int (6 : Int32))]) := fun t_ k_ => R206 t_ (XS.bipush X0.here hx rfl (hb hby d10_48) k_)
              obtain ⟨fs, hr, hrun, hended, hW, hsame⟩ := X0.leave (v := some (.int (6 : Int32))) (fun h => by rw [Bd.returns] at h; cases h)
              exact ⟨_, _, hP _ (R207 _ (retI X0 hx Bd.returns (hb hby d10_50) hr)), hrun, hended, _, _, rfl, ⟨(by first | (simp only [digI, eq_false hc175, eq_false hc181, eq_false hc187, eq_false hc193, eq_false hc199, eq_true hc205, true_and, and_true, false_and, and_false, true_or, or_true, false_or, or_false, not_true_eq_false, not_false_eq_true, ↓reduceIte, nar_b0, nar_b1]; done) | simp [digI, nar_b0, nar_b1, hc175, hc181, hc187, hc193, hc199, hc205]), N0, e0⟩, ⟨_, rfl⟩, hW, hsame.mono (by decide) (by decide)⟩
            · have R208 : Go p e below P s₁ (mkF m 51 #[.val (.int u)] []) := fun t_ k_ => R204 t_ (XS.icmpYes X0.here hx rfl (pc0 := 45) (pc' := 51) rfl (hb hby d10_45) rfl (flt hc205).2.1 (by decide) (by decide) k_)
              have R209 : Go p e below P s₁ (mkF m 52 #[.val (.int u)] [(.int u)]) := fun t_ k_ => R208 t_ (XS.iloadN X0.here hx rfl (hb hby d10_51) rfl k_)
              have R210 : Go p e below P s₁ (mkF m 54 #[.val (.int u)] [(.int (10000000 : Int32)), (.int u)]) := fun t_ k_ => R209 t_ (X0.ldcInt hx hown (mvT hZ (hw _ (List.mem_of_getElem? (i := 102) rfl))) (g := (mkF m 52 #[.val (.int u)] [(.int u)])) rfl (hb hby d10_52) _ k_)
              by_cases hc211 : u < (10000000 : Int32)
              · have R212 : Go p e below P s₁ (mkF m 57 #[.val (.int u)] []) := fun t_ k_ => R210 t_ (XS.icmpNo X0.here hx rfl (hb hby d10_54) rfl (tlt hc211).2.1 k_)
                have R213 : Go p e below P s₁ (mkF m 59 #[.val (.int u)] [(.int (7 : Int32))]) := fun t_ k_ => R212 t_ (XS.bipush X0.here hx rfl (hb hby d10_57) k_)
                obtain ⟨fs, hr, hrun, hended, hW, hsame⟩ := X0.leave (v := some (.int (7 : Int32))) (fun h => by rw [Bd.returns] at h; cases h)
                exact ⟨_, _, hP _ (R213 _ (retI X0 hx Bd.returns (hb hby d10_59) hr)), hrun, hended, _, _, rfl, ⟨(by first | (simp only [digI, eq_false hc175, eq_false hc181, eq_false hc187, eq_false hc193, eq_false hc199, eq_false hc205, eq_true hc211, true_and, and_true, false_and, and_false, true_or, or_true, false_or, or_false, not_true_eq_false, not_false_eq_true, ↓reduceIte, nar_b0, nar_b1]; done) | simp [digI, nar_b0, nar_b1, hc175, hc181, hc187, hc193, hc199, hc205, hc211]), N0, e0⟩, ⟨_, rfl⟩, hW, hsame.mono (by decide) (by decide)⟩
              · have R214 : Go p e below P s₁ (mkF m 60 #[.val (.int u)] []) := fun t_ k_ => R210 t_ (XS.icmpYes X0.here hx rfl (pc0 := 54) (pc' := 60) rfl (hb hby d10_54) rfl (flt hc211).2.1 (by decide) (by decide) k_)
                have R215 : Go p e below P s₁ (mkF m 61 #[.val (.int u)] [(.int u)]) := fun t_ k_ => R214 t_ (XS.iloadN X0.here hx rfl (hb hby d10_60) rfl k_)
                have R216 : Go p e below P s₁ (mkF m 63 #[.val (.int u)] [(.int (100000000 : Int32)), (.int u)]) := fun t_ k_ => R215 t_ (X0.ldcInt hx hown (mvT hZ (hw _ (List.mem_of_getElem? (i := 103) rfl))) (g := (mkF m 61 #[.val (.int u)] [(.int u)])) rfl (hb hby d10_61) _ k_)
                by_cases hc217 : u < (100000000 : Int32)
                · have R218 : Go p e below P s₁ (mkF m 66 #[.val (.int u)] []) := fun t_ k_ => R216 t_ (XS.icmpNo X0.here hx rfl (hb hby d10_63) rfl (tlt hc217).2.1 k_)
                  have R219 : Go p e below P s₁ (mkF m 68 #[.val (.int u)] [(.int (8 : Int32))]) := fun t_ k_ => R218 t_ (XS.bipush X0.here hx rfl (hb hby d10_66) k_)
                  obtain ⟨fs, hr, hrun, hended, hW, hsame⟩ := X0.leave (v := some (.int (8 : Int32))) (fun h => by rw [Bd.returns] at h; cases h)
                  exact ⟨_, _, hP _ (R219 _ (retI X0 hx Bd.returns (hb hby d10_68) hr)), hrun, hended, _, _, rfl, ⟨(by first | (simp only [digI, eq_false hc175, eq_false hc181, eq_false hc187, eq_false hc193, eq_false hc199, eq_false hc205, eq_false hc211, eq_true hc217, true_and, and_true, false_and, and_false, true_or, or_true, false_or, or_false, not_true_eq_false, not_false_eq_true, ↓reduceIte, nar_b0, nar_b1]; done) | simp [digI, nar_b0, nar_b1, hc175, hc181, hc187, hc193, hc199, hc205, hc211, hc217]), N0, e0⟩, ⟨_, rfl⟩, hW, hsame.mono (by decide) (by decide)⟩
                · have R220 : Go p e below P s₁ (mkF m 69 #[.val (.int u)] []) := fun t_ k_ => R216 t_ (XS.icmpYes X0.here hx rfl (pc0 := 63) (pc' := 69) rfl (hb hby d10_63) rfl (flt hc217).2.1 (by decide) (by decide) k_)
                  have R221 : Go p e below P s₁ (mkF m 70 #[.val (.int u)] [(.int u)]) := fun t_ k_ => R220 t_ (XS.iloadN X0.here hx rfl (hb hby d10_69) rfl k_)
                  have R222 : Go p e below P s₁ (mkF m 72 #[.val (.int u)] [(.int (1000000000 : Int32)), (.int u)]) := fun t_ k_ => R221 t_ (X0.ldcInt hx hown (mvT hZ (hw _ (List.mem_of_getElem? (i := 104) rfl))) (g := (mkF m 70 #[.val (.int u)] [(.int u)])) rfl (hb hby d10_70) _ k_)
                  by_cases hc223 : u < (1000000000 : Int32)
                  · have R224 : Go p e below P s₁ (mkF m 75 #[.val (.int u)] []) := fun t_ k_ => R222 t_ (XS.icmpNo X0.here hx rfl (hb hby d10_72) rfl (tlt hc223).2.1 k_)
                    have R225 : Go p e below P s₁ (mkF m 77 #[.val (.int u)] [(.int (9 : Int32))]) := fun t_ k_ => R224 t_ (XS.bipush X0.here hx rfl (hb hby d10_75) k_)
                    obtain ⟨fs, hr, hrun, hended, hW, hsame⟩ := X0.leave (v := some (.int (9 : Int32))) (fun h => by rw [Bd.returns] at h; cases h)
                    exact ⟨_, _, hP _ (R225 _ (retI X0 hx Bd.returns (hb hby d10_77) hr)), hrun, hended, _, _, rfl, ⟨(by first | (simp only [digI, eq_false hc175, eq_false hc181, eq_false hc187, eq_false hc193, eq_false hc199, eq_false hc205, eq_false hc211, eq_false hc217, eq_true hc223, true_and, and_true, false_and, and_false, true_or, or_true, false_or, or_false, not_true_eq_false, not_false_eq_true, ↓reduceIte, nar_b0, nar_b1]; done) | simp [digI, nar_b0, nar_b1, hc175, hc181, hc187, hc193, hc199, hc205, hc211, hc217, hc223]), N0, e0⟩, ⟨_, rfl⟩, hW, hsame.mono (by decide) (by decide)⟩
                  · have R226 : Go p e below P s₁ (mkF m 78 #[.val (.int u)] []) := fun t_ k_ => R222 t_ (XS.icmpYes X0.here hx rfl (pc0 := 72) (pc' := 78) rfl (hb hby d10_72) rfl (flt hc223).2.1 (by decide) (by decide) k_)
                    have R227 : Go p e below P s₁ (mkF m 80 #[.val (.int u)] [(.int (10 : Int32))]) := fun t_ k_ => R226 t_ (XS.bipush X0.here hx rfl (hb hby d10_78) k_)
                    obtain ⟨fs, hr, hrun, hended, hW, hsame⟩ := X0.leave (v := some (.int (10 : Int32))) (fun h => by rw [Bd.returns] at h; cases h)
                    exact ⟨_, _, hP _ (R227 _ (retI X0 hx Bd.returns (hb hby d10_80) hr)), hrun, hended, _, _, rfl, ⟨(by first | (simp only [digI, eq_false hc175, eq_false hc181, eq_false hc187, eq_false hc193, eq_false hc199, eq_false hc205, eq_false hc211, eq_false hc217, eq_false hc223, true_and, and_true, false_and, and_false, true_or, or_true, false_or, or_false, not_true_eq_false, not_false_eq_true, ↓reduceIte, nar_b0, nar_b1]; done) | simp [digI, nar_b0, nar_b1, hc175, hc181, hc187, hc193, hc199, hc205, hc211, hc217, hc223]), N0, e0⟩, ⟨_, rfl⟩, hW, hsame.mono (by decide) (by decide)⟩
theorem ef_pow10_ (m : MethodId) (x0 : Int32) : entryFrame m #[(.int x0)] 1 = mkF m 0 #[.val (.int x0)] [] := by first | (simp [entryFrame, mkF, argsToLocals, Value.category]; done) | rfl
theorem d14_0 : decode method_4_code 0 = .ok (.iload_n 0, 1) := by decide +kernel
theorem d14_1 : decode method_4_code 1 = .ok (.ifCond .ne 5, 3) := by decide +kernel
theorem d14_4 : decode method_4_code 4 = .ok (.iconst 1, 1) := by decide +kernel
theorem d14_5 : decode method_4_code 5 = .ok (.ireturn, 1) := by decide +kernel
theorem d14_6 : decode method_4_code 6 = .ok (.iload_n 0, 1) := by decide +kernel
theorem d14_7 : decode method_4_code 7 = .ok (.iconst 1, 1) := by decide +kernel
theorem d14_8 : decode method_4_code 8 = .ok (.if_icmp .ne 6, 3) := by decide +kernel
theorem d14_11 : decode method_4_code 11 = .ok (.bipush 10, 2) := by decide +kernel
theorem d14_13 : decode method_4_code 13 = .ok (.ireturn, 1) := by decide +kernel
theorem d14_14 : decode method_4_code 14 = .ok (.iload_n 0, 1) := by decide +kernel
theorem d14_15 : decode method_4_code 15 = .ok (.iconst 2, 1) := by decide +kernel
theorem d14_16 : decode method_4_code 16 = .ok (.if_icmp .ne 6, 3) := by decide +kernel
theorem d14_19 : decode method_4_code 19 = .ok (.bipush 100, 2) := by decide +kernel
theorem d14_21 : decode method_4_code 21 = .ok (.ireturn, 1) := by decide +kernel
theorem d14_22 : decode method_4_code 22 = .ok (.iload_n 0, 1) := by decide +kernel
theorem d14_23 : decode method_4_code 23 = .ok (.iconst 3, 1) := by decide +kernel
theorem d14_24 : decode method_4_code 24 = .ok (.if_icmp .ne 7, 3) := by decide +kernel
theorem d14_27 : decode method_4_code 27 = .ok (.sipush 1000, 3) := by decide +kernel
theorem d14_30 : decode method_4_code 30 = .ok (.ireturn, 1) := by decide +kernel
theorem d14_31 : decode method_4_code 31 = .ok (.iload_n 0, 1) := by decide +kernel
theorem d14_32 : decode method_4_code 32 = .ok (.iconst 4, 1) := by decide +kernel
theorem d14_33 : decode method_4_code 33 = .ok (.if_icmp .ne 7, 3) := by decide +kernel
theorem d14_36 : decode method_4_code 36 = .ok (.sipush 10000, 3) := by decide +kernel
theorem d14_39 : decode method_4_code 39 = .ok (.ireturn, 1) := by decide +kernel
theorem d14_40 : decode method_4_code 40 = .ok (.iload_n 0, 1) := by decide +kernel
theorem d14_41 : decode method_4_code 41 = .ok (.iconst 5, 1) := by decide +kernel
theorem d14_42 : decode method_4_code 42 = .ok (.if_icmp .ne 6, 3) := by decide +kernel
theorem d14_45 : decode method_4_code 45 = .ok (.ldc 43, 2) := by decide +kernel
theorem d14_47 : decode method_4_code 47 = .ok (.ireturn, 1) := by decide +kernel
theorem d14_48 : decode method_4_code 48 = .ok (.iload_n 0, 1) := by decide +kernel
theorem d14_49 : decode method_4_code 49 = .ok (.bipush 6, 2) := by decide +kernel
theorem d14_51 : decode method_4_code 51 = .ok (.if_icmp .ne 6, 3) := by decide +kernel
theorem d14_54 : decode method_4_code 54 = .ok (.ldc 44, 2) := by decide +kernel
theorem d14_56 : decode method_4_code 56 = .ok (.ireturn, 1) := by decide +kernel
theorem d14_57 : decode method_4_code 57 = .ok (.iload_n 0, 1) := by decide +kernel
theorem d14_58 : decode method_4_code 58 = .ok (.bipush 7, 2) := by decide +kernel
theorem d14_60 : decode method_4_code 60 = .ok (.if_icmp .ne 6, 3) := by decide +kernel
theorem d14_63 : decode method_4_code 63 = .ok (.ldc 45, 2) := by decide +kernel
theorem d14_65 : decode method_4_code 65 = .ok (.ireturn, 1) := by decide +kernel
theorem d14_66 : decode method_4_code 66 = .ok (.iload_n 0, 1) := by decide +kernel
theorem d14_67 : decode method_4_code 67 = .ok (.bipush 8, 2) := by decide +kernel
theorem d14_69 : decode method_4_code 69 = .ok (.if_icmp .ne 6, 3) := by decide +kernel
theorem d14_72 : decode method_4_code 72 = .ok (.ldc 46, 2) := by decide +kernel
theorem d14_74 : decode method_4_code 74 = .ok (.ireturn, 1) := by decide +kernel
theorem d14_75 : decode method_4_code 75 = .ok (.ldc 47, 2) := by decide +kernel
theorem d14_77 : decode method_4_code 77 = .ok (.ireturn, 1) := by decide +kernel
def Q_pow10_ (Z : State) (k0 : Int32) (h0 : Heap) (n0 : Nat) (rv_ : Option Value) (rh_ : Heap) (rL_ : List Loc) : Prop := (rv_ = some (.int (powI k0))) ∧ (Fr n0 rL_) ∧ (rh_ = h0)
set_option maxRecDepth 65536 in
set_option maxHeartbeats 40000000 in
theorem pow10_ (l : Launch) (Z : State) (a0 : Array Value) (hw : ∀ d ∈ tables_1, d.before a0 Z = true) (ws : List Jvm.Cond) (k0 : Int32) (h0 : Heap) (n0 : Nat) (O0 : Old Z n0 h0) :
    MetFree l (⟨"com/example/lexicarta/lexicarta/uml/MultiplicityUpperValuePinLaw", "pow10", "(I)I"⟩ : MethodName) (head1 (Jvm.Cond.code (⟨"com/example/lexicarta/lexicarta/uml/MultiplicityUpperValuePinLaw", "pow10", "(I)I"⟩ : MethodName) method_4_code 1 (some .int) :: ws) ({ frames := 0, cells := 0, slots := 0, locals := 0 } : Room)) (fun a_ U_ => a_ = #[(.int k0)] ∧ Z.Warmed39 U_.vm ∧ U_.heap = h0) (fun _ _ _ _ _ => True) (fun _ U_ o_ U_' => ∃ v_ L_, o_ = .returned v_ ∧ Q_pow10_ Z k0 h0 n0 v_ U_'.heap L_ ∧ FrameEnd U_ o_ U_' L_ ({ frames := 0, cells := 0, slots := 0, locals := 0 } : Room).cells ({ frames := 0, cells := 0, slots := 0, locals := 0 } : Room).slots) := by
  refine MetFree.of_bodySF (plainFor_of_name pn_65406652) hisR ?_
  intro p e s m args below meth c s₁ Bd hml0 hP0 hK
  obtain ⟨rfl, hZ, hh⟩ := hP0
  have hx := Bd.exec
  have hby := Bd.bytes
  have hml : c.maxLocals = 1 := hml0
  have hown : s.vm.findClass "com/example/lexicarta/lexicarta/uml/MultiplicityUpperValuePinLaw" = some m.cls := findClass_of_methodNamed Bd.named
  have hnm := (name_of_methodNamed Bd.named Bd.method).1
  have X0 : Stand p l e ({ frames := 0, cells := 0, slots := 0, locals := 0 } : Room) s m #[(.int k0)] below meth c s₁ [] 0 0 := Stand.of_body Bd
  have e0 : s₁.heap = h0 := by rw [← hh, Bd.state]; rfl
  have N0 := Fr.nil n0
  obtain ⟨P, hP, R0⟩ : ∃ P : State → Prop, (∀ t_, P t_ → Steps p.tables e below (s₁.setTop (entryFrame m #[(.int k0)] 1)) t_) ∧ Go p e below P s₁ (mkF m 0 #[.val (.int k0)] []) := ⟨_, fun _ h => h, fun t_ k_ => castTop (ef_pow10_ m k0) k_⟩
  have R228 : Go p e below P s₁ (mkF m 1 #[.val (.int k0)] [(.int k0)]) := fun t_ k_ => R0 t_ (XS.iloadN X0.here hx rfl (hb hby d14_0) rfl k_)
  by_cases hc229 : k0 = (0 : Int32)
  · have R230 : Go p e below P s₁ (mkF m 4 #[.val (.int k0)] []) := fun t_ k_ => R228 t_ (XS.ifNo X0.here hx rfl (hb hby d14_1) rfl ((if0 _ _).trans (teq hc229).2) k_)
    have R231 : Go p e below P s₁ (mkF m 5 #[.val (.int k0)] [(.int (1 : Int32))]) := fun t_ k_ => R230 t_ (XS.iconst X0.here hx rfl (hb hby d14_4) k_)
    obtain ⟨fs, hr, hrun, hended, hW, hsame⟩ := X0.leave (v := some (.int (1 : Int32))) (fun h => by rw [Bd.returns] at h; cases h)
    exact ⟨_, _, hP _ (R231 _ (retI X0 hx Bd.returns (hb hby d14_5) hr)), hrun, hended, _, _, rfl, ⟨(by first | (simp only [powI, eq_true hc229, true_and, and_true, false_and, and_false, true_or, or_true, false_or, or_false, not_true_eq_false, not_false_eq_true, ↓reduceIte, nar_b0, nar_b1]; done) | simp [powI, nar_b0, nar_b1, hc229]), N0, e0⟩, ⟨_, rfl⟩, hW, hsame.mono (by decide) (by decide)⟩
  · have R232 : Go p e below P s₁ (mkF m 6 #[.val (.int k0)] []) := fun t_ k_ => R228 t_ (XS.ifYes X0.here hx rfl (pc0 := 1) (pc' := 6) rfl (hb hby d14_1) rfl ((if0 _ _).trans (feq hc229).2) (by decide) (by decide) k_)
    have R233 : Go p e below P s₁ (mkF m 7 #[.val (.int k0)] [(.int k0)]) := fun t_ k_ => R232 t_ (XS.iloadN X0.here hx rfl (hb hby d14_6) rfl k_)
    have R234 : Go p e below P s₁ (mkF m 8 #[.val (.int k0)] [(.int (1 : Int32)), (.int k0)]) := fun t_ k_ => R233 t_ (XS.iconst X0.here hx rfl (hb hby d14_7) k_)
    by_cases hc235 : k0 = (1 : Int32)
    · have R236 : Go p e below P s₁ (mkF m 11 #[.val (.int k0)] []) := fun t_ k_ => R234 t_ (XS.icmpNo X0.here hx rfl (hb hby d14_8) rfl (teq hc235).2 k_)
      have R237 : Go p e below P s₁ (mkF m 13 #[.val (.int k0)] [(.int (10 : Int32))]) := fun t_ k_ => R236 t_ (XS.bipush X0.here hx rfl (hb hby d14_11) k_)
      obtain ⟨fs, hr, hrun, hended, hW, hsame⟩ := X0.leave (v := some (.int (10 : Int32))) (fun h => by rw [Bd.returns] at h; cases h)
      exact ⟨_, _, hP _ (R237 _ (retI X0 hx Bd.returns (hb hby d14_13) hr)), hrun, hended, _, _, rfl, ⟨(by first | (simp only [powI, eq_false hc229, eq_true hc235, true_and, and_true, false_and, and_false, true_or, or_true, false_or, or_false, not_true_eq_false, not_false_eq_true, ↓reduceIte, nar_b0, nar_b1]; done) | simp [powI, nar_b0, nar_b1, hc229, hc235]), N0, e0⟩, ⟨_, rfl⟩, hW, hsame.mono (by decide) (by decide)⟩
    · have R238 : Go p e below P s₁ (mkF m 14 #[.val (.int k0)] []) := fun t_ k_ => R234 t_ (XS.icmpYes X0.here hx rfl (pc0 := 8) (pc' := 14) rfl (hb hby d14_8) rfl (feq hc235).2 (by decide) (by decide) k_)
      have R239 : Go p e below P s₁ (mkF m 15 #[.val (.int k0)] [(.int k0)]) := fun t_ k_ => R238 t_ (XS.iloadN X0.here hx rfl (hb hby d14_14) rfl k_)
      have R240 : Go p e below P s₁ (mkF m 16 #[.val (.int k0)] [(.int (2 : Int32)), (.int k0)]) := fun t_ k_ => R239 t_ (XS.iconst X0.here hx rfl (hb hby d14_15) k_)
      by_cases hc241 : k0 = (2 : Int32)
      · have R242 : Go p e below P s₁ (mkF m 19 #[.val (.int k0)] []) := fun t_ k_ => R240 t_ (XS.icmpNo X0.here hx rfl (hb hby d14_16) rfl (teq hc241).2 k_)
        have R243 : Go p e below P s₁ (mkF m 21 #[.val (.int k0)] [(.int (100 : Int32))]) := fun t_ k_ => R242 t_ (XS.bipush X0.here hx rfl (hb hby d14_19) k_)
        obtain ⟨fs, hr, hrun, hended, hW, hsame⟩ := X0.leave (v := some (.int (100 : Int32))) (fun h => by rw [Bd.returns] at h; cases h)
        exact ⟨_, _, hP _ (R243 _ (retI X0 hx Bd.returns (hb hby d14_21) hr)), hrun, hended, _, _, rfl, ⟨(by first | (simp only [powI, eq_false hc229, eq_false hc235, eq_true hc241, true_and, and_true, false_and, and_false, true_or, or_true, false_or, or_false, not_true_eq_false, not_false_eq_true, ↓reduceIte, nar_b0, nar_b1]; done) | simp [powI, nar_b0, nar_b1, hc229, hc235, hc241]), N0, e0⟩, ⟨_, rfl⟩, hW, hsame.mono (by decide) (by decide)⟩
      · have R244 : Go p e below P s₁ (mkF m 22 #[.val (.int k0)] []) := fun t_ k_ => R240 t_ (XS.icmpYes X0.here hx rfl (pc0 := 16) (pc' := 22) rfl (hb hby d14_16) rfl (feq hc241).2 (by decide) (by decide) k_)
        have R245 : Go p e below P s₁ (mkF m 23 #[.val (.int k0)] [(.int k0)]) := fun t_ k_ => R244 t_ (XS.iloadN X0.here hx rfl (hb hby d14_22) rfl k_)
        have R246 : Go p e below P s₁ (mkF m 24 #[.val (.int k0)] [(.int (3 : Int32)), (.int k0)]) := fun t_ k_ => R245 t_ (XS.iconst X0.here hx rfl (hb hby d14_23) k_)
        by_cases hc247 : k0 = (3 : Int32)
        · have R248 : Go p e below P s₁ (mkF m 27 #[.val (.int k0)] []) := fun t_ k_ => R246 t_ (XS.icmpNo X0.here hx rfl (hb hby d14_24) rfl (teq hc247).2 k_)
          have R249 : Go p e below P s₁ (mkF m 30 #[.val (.int k0)] [(.int (1000 : Int32))]) := fun t_ k_ => R248 t_ (XS.sipush X0.here hx rfl (hb hby d14_27) k_)
          obtain ⟨fs, hr, hrun, hended, hW, hsame⟩ := X0.leave (v := some (.int (1000 : Int32))) (fun h => by rw [Bd.returns] at h; cases h)
          exact ⟨_, _, hP _ (R249 _ (retI X0 hx Bd.returns (hb hby d14_30) hr)), hrun, hended, _, _, rfl, ⟨(by first | (simp only [powI, eq_false hc229, eq_false hc235, eq_false hc241, eq_true hc247, true_and, and_true, false_and, and_false, true_or, or_true, false_or, or_false, not_true_eq_false, not_false_eq_true, ↓reduceIte, nar_b0, nar_b1]; done) | simp [powI, nar_b0, nar_b1, hc229, hc235, hc241, hc247]), N0, e0⟩, ⟨_, rfl⟩, hW, hsame.mono (by decide) (by decide)⟩
        · have R250 : Go p e below P s₁ (mkF m 31 #[.val (.int k0)] []) := fun t_ k_ => R246 t_ (XS.icmpYes X0.here hx rfl (pc0 := 24) (pc' := 31) rfl (hb hby d14_24) rfl (feq hc247).2 (by decide) (by decide) k_)
          have R251 : Go p e below P s₁ (mkF m 32 #[.val (.int k0)] [(.int k0)]) := fun t_ k_ => R250 t_ (XS.iloadN X0.here hx rfl (hb hby d14_31) rfl k_)
          have R252 : Go p e below P s₁ (mkF m 33 #[.val (.int k0)] [(.int (4 : Int32)), (.int k0)]) := fun t_ k_ => R251 t_ (XS.iconst X0.here hx rfl (hb hby d14_32) k_)
          by_cases hc253 : k0 = (4 : Int32)
          · have R254 : Go p e below P s₁ (mkF m 36 #[.val (.int k0)] []) := fun t_ k_ => R252 t_ (XS.icmpNo X0.here hx rfl (hb hby d14_33) rfl (teq hc253).2 k_)
            have R255 : Go p e below P s₁ (mkF m 39 #[.val (.int k0)] [(.int (10000 : Int32))]) := fun t_ k_ => R254 t_ (XS.sipush X0.here hx rfl (hb hby d14_36) k_)
            obtain ⟨fs, hr, hrun, hended, hW, hsame⟩ := X0.leave (v := some (.int (10000 : Int32))) (fun h => by rw [Bd.returns] at h; cases h)
            exact ⟨_, _, hP _ (R255 _ (retI X0 hx Bd.returns (hb hby d14_39) hr)), hrun, hended, _, _, rfl, ⟨(by first | (simp only [powI, eq_false hc229, eq_false hc235, eq_false hc241, eq_false hc247, eq_true hc253, true_and, and_true, false_and, and_false, true_or, or_true, false_or, or_false, not_true_eq_false, not_false_eq_true, ↓reduceIte, nar_b0, nar_b1]; done) | simp [powI, nar_b0, nar_b1, hc229, hc235, hc241, hc247, hc253]), N0, e0⟩, ⟨_, rfl⟩, hW, hsame.mono (by decide) (by decide)⟩
          · have R256 : Go p e below P s₁ (mkF m 40 #[.val (.int k0)] []) := fun t_ k_ => R252 t_ (XS.icmpYes X0.here hx rfl (pc0 := 33) (pc' := 40) rfl (hb hby d14_33) rfl (feq hc253).2 (by decide) (by decide) k_)
            have R257 : Go p e below P s₁ (mkF m 41 #[.val (.int k0)] [(.int k0)]) := fun t_ k_ => R256 t_ (XS.iloadN X0.here hx rfl (hb hby d14_40) rfl k_)
            have R258 : Go p e below P s₁ (mkF m 42 #[.val (.int k0)] [(.int (5 : Int32)), (.int k0)]) := fun t_ k_ => R257 t_ (XS.iconst X0.here hx rfl (hb hby d14_41) k_)
            by_cases hc259 : k0 = (5 : Int32)
            · have R260 : Go p e below P s₁ (mkF m 45 #[.val (.int k0)] []) := fun t_ k_ => R258 t_ (XS.icmpNo X0.here hx rfl (hb hby d14_42) rfl (teq hc259).2 k_)
              have R261 : Go p e below P s₁ (mkF m 47 #[.val (.int k0)] [(.int (100000 : Int32))]) := fun t_ k_ => R260 t_ (X0.ldcInt hx hown (mvT hZ (hw _ (List.mem_of_getElem? (i := 100) rfl))) (g := (mkF m 45 #[.val (.int k0)] [])) rfl (hb hby d14_45) _ k_)
              obtain ⟨fs, hr, hrun, hended, hW, hsame⟩ := X0.leave (v := some (.int (100000 : Int32))) (fun h => by rw [Bd.returns] at h; cases h)
              exact ⟨_, _, hP _ (R261 _ (retI X0 hx Bd.returns (hb hby d14_47) hr)), hrun, hended, _, _, rfl, ⟨(by first | (simp only [powI, eq_false hc229, eq_false hc235, eq_false hc241, eq_false hc247, eq_false hc253, eq_true hc259, true_and, and_true, false_and, and_false, true_or, or_true, false_or, or_false, not_true_eq_false, not_false_eq_true, ↓reduceIte, nar_b0, nar_b1]; done) | simp [powI, nar_b0, nar_b1, hc229, hc235, hc241, hc247, hc253, hc259]), N0, e0⟩, ⟨_, rfl⟩, hW, hsame.mono (by decide) (by decide)⟩
            · have R262 : Go p e below P s₁ (mkF m 48 #[.val (.int k0)] []) := fun t_ k_ => R258 t_ (XS.icmpYes X0.here hx rfl (pc0 := 42) (pc' := 48) rfl (hb hby d14_42) rfl (feq hc259).2 (by decide) (by decide) k_)
              have R263 : Go p e below P s₁ (mkF m 49 #[.val (.int k0)] [(.int k0)]) := fun t_ k_ => R262 t_ (XS.iloadN X0.here hx rfl (hb hby d14_48) rfl k_)
              have R264 : Go p e below P s₁ (mkF m 51 #[.val (.int k0)] [(.int (6 : Int32)), (.int k0)]) := fun t_ k_ => R263 t_ (XS.bipush X0.here hx rfl (hb hby d14_49) k_)
              by_cases hc265 : k0 = (6 : Int32)
              · have R266 : Go p e below P s₁ (mkF m 54 #[.val (.int k0)] []) := fun t_ k_ => R264 t_ (XS.icmpNo X0.here hx rfl (hb hby d14_51) rfl (teq hc265).2 k_)
                have R267 : Go p e below P s₁ (mkF m 56 #[.val (.int k0)] [(.int (1000000 : Int32))]) := fun t_ k_ => R266 t_ (X0.ldcInt hx hown (mvT hZ (hw _ (List.mem_of_getElem? (i := 101) rfl))) (g := (mkF m 54 #[.val (.int k0)] [])) rfl (hb hby d14_54) _ k_)
                obtain ⟨fs, hr, hrun, hended, hW, hsame⟩ := X0.leave (v := some (.int (1000000 : Int32))) (fun h => by rw [Bd.returns] at h; cases h)
                exact ⟨_, _, hP _ (R267 _ (retI X0 hx Bd.returns (hb hby d14_56) hr)), hrun, hended, _, _, rfl, ⟨(by first | (simp only [powI, eq_false hc229, eq_false hc235, eq_false hc241, eq_false hc247, eq_false hc253, eq_false hc259, eq_true hc265, true_and, and_true, false_and, and_false, true_or, or_true, false_or, or_false, not_true_eq_false, not_false_eq_true, ↓reduceIte, nar_b0, nar_b1]; done) | simp [powI, nar_b0, nar_b1, hc229, hc235, hc241, hc247, hc253, hc259, hc265]), N0, e0⟩, ⟨_, rfl⟩, hW, hsame.mono (by decide) (by decide)⟩
              · have R268 : Go p e below P s₁ (mkF m 57 #[.val (.int k0)] []) := fun t_ k_ => R264 t_ (XS.icmpYes X0.here hx rfl (pc0 := 51) (pc' := 57) rfl (hb hby d14_51) rfl (feq hc265).2 (by decide) (by decide) k_)
                have R269 : Go p e below P s₁ (mkF m 58 #[.val (.int k0)] [(.int k0)]) := fun t_ k_ => R268 t_ (XS.iloadN X0.here hx rfl (hb hby d14_57) rfl k_)
                have R270 : Go p e below P s₁ (mkF m 60 #[.val (.int k0)] [(.int (7 : Int32)), (.int k0)]) := fun t_ k_ => R269 t_ (XS.bipush X0.here hx rfl (hb hby d14_58) k_)
                by_cases hc271 : k0 = (7 : Int32)
                · have R272 : Go p e below P s₁ (mkF m 63 #[.val (.int k0)] []) := fun t_ k_ => R270 t_ (XS.icmpNo X0.here hx rfl (hb hby d14_60) rfl (teq hc271).2 k_)
                  have R273 : Go p e below P s₁ (mkF m 65 #[.val (.int k0)] [(.int (10000000 : Int32))]) := fun t_ k_ => R272 t_ (X0.ldcInt hx hown (mvT hZ (hw _ (List.mem_of_getElem? (i := 102) rfl))) (g := (mkF m 63 #[.val (.int k0)] [])) rfl (hb hby d14_63) _ k_)
                  obtain ⟨fs, hr, hrun, hended, hW, hsame⟩ := X0.leave (v := some (.int (10000000 : Int32))) (fun h => by rw [Bd.returns] at h; cases h)
                  exact ⟨_, _, hP _ (R273 _ (retI X0 hx Bd.returns (hb hby d14_65) hr)), hrun, hended, _, _, rfl, ⟨(by first | (simp only [powI, eq_false hc229, eq_false hc235, eq_false hc241, eq_false hc247, eq_false hc253, eq_false hc259, eq_false hc265, eq_true hc271, true_and, and_true, false_and, and_false, true_or, or_true, false_or, or_false, not_true_eq_false, not_false_eq_true, ↓reduceIte, nar_b0, nar_b1]; done) | simp [powI, nar_b0, nar_b1, hc229, hc235, hc241, hc247, hc253, hc259, hc265, hc271]), N0, e0⟩, ⟨_, rfl⟩, hW, hsame.mono (by decide) (by decide)⟩
                · have R274 : Go p e below P s₁ (mkF m 66 #[.val (.int k0)] []) := fun t_ k_ => R270 t_ (XS.icmpYes X0.here hx rfl (pc0 := 60) (pc' := 66) rfl (hb hby d14_60) rfl (feq hc271).2 (by decide) (by decide) k_)
                  have R275 : Go p e below P s₁ (mkF m 67 #[.val (.int k0)] [(.int k0)]) := fun t_ k_ => R274 t_ (XS.iloadN X0.here hx rfl (hb hby d14_66) rfl k_)
                  have R276 : Go p e below P s₁ (mkF m 69 #[.val (.int k0)] [(.int (8 : Int32)), (.int k0)]) := fun t_ k_ => R275 t_ (XS.bipush X0.here hx rfl (hb hby d14_67) k_)
                  by_cases hc277 : k0 = (8 : Int32)
                  · have R278 : Go p e below P s₁ (mkF m 72 #[.val (.int k0)] []) := fun t_ k_ => R276 t_ (XS.icmpNo X0.here hx rfl (hb hby d14_69) rfl (teq hc277).2 k_)
                    have R279 : Go p e below P s₁ (mkF m 74 #[.val (.int k0)] [(.int (100000000 : Int32))]) := fun t_ k_ => R278 t_ (X0.ldcInt hx hown (mvT hZ (hw _ (List.mem_of_getElem? (i := 103) rfl))) (g := (mkF m 72 #[.val (.int k0)] [])) rfl (hb hby d14_72) _ k_)
                    obtain ⟨fs, hr, hrun, hended, hW, hsame⟩ := X0.leave (v := some (.int (100000000 : Int32))) (fun h => by rw [Bd.returns] at h; cases h)
                    exact ⟨_, _, hP _ (R279 _ (retI X0 hx Bd.returns (hb hby d14_74) hr)), hrun, hended, _, _, rfl, ⟨(by first | (simp only [powI, eq_false hc229, eq_false hc235, eq_false hc241, eq_false hc247, eq_false hc253, eq_false hc259, eq_false hc265, eq_false hc271, eq_true hc277, true_and, and_true, false_and, and_false, true_or, or_true, false_or, or_false, not_true_eq_false, not_false_eq_true, ↓reduceIte, nar_b0, nar_b1]; done) | simp [powI, nar_b0, nar_b1, hc229, hc235, hc241, hc247, hc253, hc259, hc265, hc271, hc277]), N0, e0⟩, ⟨_, rfl⟩, hW, hsame.mono (by decide) (by decide)⟩
                  · have R280 : Go p e below P s₁ (mkF m 75 #[.val (.int k0)] []) := fun t_ k_ => R276 t_ (XS.icmpYes X0.here hx rfl (pc0 := 69) (pc' := 75) rfl (hb hby d14_69) rfl (feq hc277).2 (by decide) (by decide) k_)
                    have R281 : Go p e below P s₁ (mkF m 77 #[.val (.int k0)] [(.int (1000000000 : Int32))]) := fun t_ k_ => R280 t_ (X0.ldcInt hx hown (mvT hZ (hw _ (List.mem_of_getElem? (i := 104) rfl))) (g := (mkF m 75 #[.val (.int k0)] [])) rfl (hb hby d14_75) _ k_)
                    obtain ⟨fs, hr, hrun, hended, hW, hsame⟩ := X0.leave (v := some (.int (1000000000 : Int32))) (fun h => by rw [Bd.returns] at h; cases h)
                    exact ⟨_, _, hP _ (R281 _ (retI X0 hx Bd.returns (hb hby d14_77) hr)), hrun, hended, _, _, rfl, ⟨(by first | (simp only [powI, eq_false hc229, eq_false hc235, eq_false hc241, eq_false hc247, eq_false hc253, eq_false hc259, eq_false hc265, eq_false hc271, eq_false hc277, true_and, and_true, false_and, and_false, true_or, or_true, false_or, or_false, not_true_eq_false, not_false_eq_true, ↓reduceIte, nar_b0, nar_b1]; done) | simp [powI, nar_b0, nar_b1, hc229, hc235, hc241, hc247, hc253, hc259, hc265, hc271, hc277]), N0, e0⟩, ⟨_, rfl⟩, hW, hsame.mono (by decide) (by decide)⟩
theorem ef_d_ (m : MethodId) (x0 : Addr) (x1 : Int32) (x2 : Int32) (x3 : Int32) : entryFrame m #[(.ref x0), (.int x1), (.int x2), (.int x3)] 5 = mkF m 0 #[.val (.ref x0), .val (.int x1), .val (.int x2), .val (.int x3), .unset] [] := by first | (simp [entryFrame, mkF, argsToLocals, Value.category]; done) | rfl
theorem d13_0 : decode method_5_code 0 = .ok (.iload_n 1, 1) := by decide +kernel
theorem d13_1 : decode method_5_code 1 = .ok (.iload_n 2, 1) := by decide +kernel
theorem d13_2 : decode method_5_code 2 = .ok (.if_icmp .lt 5, 3) := by decide +kernel
theorem d13_7 : decode method_5_code 7 = .ok (.iload_n 3, 1) := by decide +kernel
theorem d13_8 : decode method_5_code 8 = .ok (.iload_n 2, 1) := by decide +kernel
theorem d13_9 : decode method_5_code 9 = .ok (.iconst 1, 1) := by decide +kernel
theorem d13_10 : decode method_5_code 10 = .ok (.isub, 1) := by decide +kernel
theorem d13_11 : decode method_5_code 11 = .ok (.iload_n 1, 1) := by decide +kernel
theorem d13_12 : decode method_5_code 12 = .ok (.isub, 1) := by decide +kernel
theorem d13_13 : decode method_5_code 13 = .ok (.invokestatic 48, 3) := by decide +kernel
theorem d13_16 : decode method_5_code 16 = .ok (.idiv, 1) := by decide +kernel
theorem d13_17 : decode method_5_code 17 = .ok (.bipush 10, 2) := by decide +kernel
theorem d13_19 : decode method_5_code 19 = .ok (.irem, 1) := by decide +kernel
theorem d13_20 : decode method_5_code 20 = .ok (.istore 4, 2) := by decide +kernel
theorem d13_22 : decode method_5_code 22 = .ok (.aload_n 0, 1) := by decide +kernel
theorem d13_23 : decode method_5_code 23 = .ok (.iload_n 1, 1) := by decide +kernel
theorem d13_24 : decode method_5_code 24 = .ok (.invokevirtual 23, 3) := by decide +kernel
theorem pd_52681278 : parseMethodDescriptor "(I)C" = some ⟨[.int], some .char⟩ := by decide +kernel
theorem d13_27 : decode method_5_code 27 = .ok (.bipush 48, 2) := by decide +kernel
theorem d13_29 : decode method_5_code 29 = .ok (.iload 4, 2) := by decide +kernel
theorem d13_31 : decode method_5_code 31 = .ok (.iadd, 1) := by decide +kernel
theorem d13_32 : decode method_5_code 32 = .ok (.i2c, 1) := by decide +kernel
theorem d13_33 : decode method_5_code 33 = .ok (.if_icmp .ne 7, 3) := by decide +kernel
theorem d13_36 : decode method_5_code 36 = .ok (.iconst 1, 1) := by decide +kernel
theorem d13_37 : decode method_5_code 37 = .ok (.goto 4, 3) := by decide +kernel
theorem d13_41 : decode method_5_code 41 = .ok (.ireturn, 1) := by decide +kernel
theorem d13_5 : decode method_5_code 5 = .ok (.iconst 1, 1) := by decide +kernel
theorem d13_6 : decode method_5_code 6 = .ok (.ireturn, 1) := by decide +kernel
def Q_d_ (Z : State) (x : Addr) (t : Addr) (kb : ClassId) (i : Int32) (j : Nat) (u : Int32) (zc : Int32) (fm : Value) (h0 : Heap) (n0 : Nat) (rv_ : Option Value) (rh_ : Heap) (rL_ : List Loc) : Prop := (rv_ = some (.int (1 : Int32))) ∧ (Fr n0 rL_) ∧ (rh_ = h0)
set_option maxRecDepth 65536 in
set_option maxHeartbeats 40000000 in
theorem d_ (l : Launch) (Z : State) (a0 : Array Value) (hw : ∀ d ∈ tables_1, d.before a0 Z = true) (ws : List Jvm.Cond) (x : Addr) (t : Addr) (kb : ClassId) (i : Int32) (j : Nat) (u : Int32) (zc : Int32) (fm : Value) (h0 : Heap) (n0 : Nat) (O0 : Old Z n0 h0) (P0 : Exa Z h0 x "java/lang/String") (P1 : Fld Z h0 x "java/lang/String" "coder" "B" (.int (0 : Int32))) (P2 : Fld Z h0 x "java/lang/String" "value" "[B" (.ref t)) (P3 : Arv Z h0 t kb .byte (Int32.ofNat (digL u).length) (((digL u).map lo8).map Value.int) (.int (0 : Int32))) (P4 : Sta Z Z.heap "java/lang/String" "COMPACT_STRINGS" "Z" (.int zc)) (P5 : Sta Z Z.heap "jdk/internal/util/Preconditions" "SIOOBE_FORMATTER" "Ljava/util/function/BiFunction;" fm) (P6 : ¬ zc = 0) (P7 : fm.isRef = true) (P8 : i = Int32.ofNat j) (P9 : j < 10) (P10 : ¬ u < 0) :
    MetFree l (⟨"com/example/lexicarta/lexicarta/uml/MultiplicityUpperValuePinLaw", "d", "(Ljava/lang/String;III)Z"⟩ : MethodName) (head1 (Jvm.Cond.code (⟨"com/example/lexicarta/lexicarta/uml/MultiplicityUpperValuePinLaw", "d", "(Ljava/lang/String;III)Z"⟩ : MethodName) method_5_code 5 (some .boolean) :: ws) ({ frames := 4, cells := 0, slots := 0, locals := 53 } : Room)) (fun a_ U_ => a_ = #[(.ref x), (.int i), (.int (Int32.ofNat (dN u))), (.int u)] ∧ Z.Warmed39 U_.vm ∧ U_.heap = h0) (fun _ _ _ _ _ => True) (fun _ U_ o_ U_' => ∃ v_ L_, o_ = .returned v_ ∧ Q_d_ Z x t kb i j u zc fm h0 n0 v_ U_'.heap L_ ∧ FrameEnd U_ o_ U_' L_ ({ frames := 4, cells := 0, slots := 0, locals := 53 } : Room).cells ({ frames := 4, cells := 0, slots := 0, locals := 53 } : Room).slots) := by
  have hzc := P6
  have hfm := P7
  have hi := P8
  have hj := P9
  have hu := P10
  refine MetFree.of_bodySF (plainFor_of_name pn_65406652) hisR ?_
  intro p e s m args below meth c s₁ Bd hml0 hP0 hK
  obtain ⟨rfl, hZ, hh⟩ := hP0
  have hx := Bd.exec
  have hby := Bd.bytes
  have hml : c.maxLocals = 5 := hml0
  have hown : s.vm.findClass "com/example/lexicarta/lexicarta/uml/MultiplicityUpperValuePinLaw" = some m.cls := findClass_of_methodNamed Bd.named
  have hnm := (name_of_methodNamed Bd.named Bd.method).1
  have X0 : Stand p l e ({ frames := 4, cells := 0, slots := 0, locals := 53 } : Room) s m #[(.ref x), (.int i), (.int (Int32.ofNat (dN u))), (.int u)] below meth c s₁ [] 0 0 := Stand.of_body Bd
  have e0 : s₁.heap = h0 := by rw [← hh, Bd.state]; rfl
  have N0 := Fr.nil n0
  obtain ⟨P, hP, R0⟩ : ∃ P : State → Prop, (∀ t_, P t_ → Steps p.tables e below (s₁.setTop (entryFrame m #[(.ref x), (.int i), (.int (Int32.ofNat (dN u))), (.int u)] 5)) t_) ∧ Go p e below P s₁ (mkF m 0 #[.val (.ref x), .val (.int i), .val (.int (Int32.ofNat (dN u))), .val (.int u), .unset] []) := ⟨_, fun _ h => h, fun t_ k_ => castTop (ef_d_ m x i (Int32.ofNat (dN u)) u) k_⟩
  have R282 : Go p e below P s₁ (mkF m 1 #[.val (.ref x), .val (.int i), .val (.int (Int32.ofNat (dN u))), .val (.int u), .unset] [(.int i)]) := fun t_ k_ => R0 t_ (XS.iloadN X0.here hx rfl (hb hby d13_0) rfl k_)
  have R283 : Go p e below P s₁ (mkF m 2 #[.val (.ref x), .val (.int i), .val (.int (Int32.ofNat (dN u))), .val (.int u), .unset] [(.int (Int32.ofNat (dN u))), (.int i)]) := fun t_ k_ => R282 t_ (XS.iloadN X0.here hx rfl (hb hby d13_1) rfl k_)
  by_cases hc284 : i < (Int32.ofNat (dN u))
  · have R285 : Go p e below P s₁ (mkF m 7 #[.val (.ref x), .val (.int i), .val (.int (Int32.ofNat (dN u))), .val (.int u), .unset] []) := fun t_ k_ => R283 t_ (XS.icmpYes X0.here hx rfl (pc0 := 2) (pc' := 7) rfl (hb hby d13_2) rfl (tlt hc284).1 (by decide) (by decide) k_)
    have R286 : Go p e below P s₁ (mkF m 8 #[.val (.ref x), .val (.int i), .val (.int (Int32.ofNat (dN u))), .val (.int u), .unset] [(.int u)]) := fun t_ k_ => R285 t_ (XS.iloadN X0.here hx rfl (hb hby d13_7) rfl k_)
    have R287 : Go p e below P s₁ (mkF m 9 #[.val (.ref x), .val (.int i), .val (.int (Int32.ofNat (dN u))), .val (.int u), .unset] [(.int (Int32.ofNat (dN u))), (.int u)]) := fun t_ k_ => R286 t_ (XS.iloadN X0.here hx rfl (hb hby d13_8) rfl k_)
    have R288 : Go p e below P s₁ (mkF m 10 #[.val (.ref x), .val (.int i), .val (.int (Int32.ofNat (dN u))), .val (.int u), .unset] [(.int (1 : Int32)), (.int (Int32.ofNat (dN u))), (.int u)]) := fun t_ k_ => R287 t_ (XS.iconst X0.here hx rfl (hb hby d13_9) k_)
    have R289 : Go p e below P s₁ (mkF m 11 #[.val (.ref x), .val (.int i), .val (.int (Int32.ofNat (dN u))), .val (.int u), .unset] [(.int ((Int32.ofNat (dN u)) - (1 : Int32))), (.int u)]) := fun t_ k_ => R288 t_ (XS.isub X0.here hx rfl (hb hby d13_10) rfl k_)
    have R290 : Go p e below P s₁ (mkF m 12 #[.val (.ref x), .val (.int i), .val (.int (Int32.ofNat (dN u))), .val (.int u), .unset] [(.int i), (.int ((Int32.ofNat (dN u)) - (1 : Int32))), (.int u)]) := fun t_ k_ => R289 t_ (XS.iloadN X0.here hx rfl (hb hby d13_11) rfl k_)
    have R291 : Go p e below P s₁ (mkF m 13 #[.val (.ref x), .val (.int i), .val (.int (Int32.ofNat (dN u))), .val (.int u), .unset] [(.int (((Int32.ofNat (dN u)) - (1 : Int32)) - i)), (.int u)]) := fun t_ k_ => R290 t_ (XS.isub X0.here hx rfl (hb hby d13_12) rfl k_)
    obtain ⟨rv292, _, ⟨T292, L292, k292, n292⟩, -, X292, ⟨Lc292, hQ292, l292, y292, z292⟩, st292⟩ := Jvm.LawKit.callS X0 hx (y := (⟨"com/example/lexicarta/lexicarta/uml/MultiplicityUpperValuePinLaw", "pow10", "(I)I"⟩ : MethodName)) hown (mvT hZ (hw _ (List.mem_of_getElem? (i := 71) rfl))) (mvT hZ (hw _ (List.mem_of_getElem? (i := 72) rfl))) (mvT hZ (hw _ (List.mem_of_getElem? (i := 55) rfl))) (mvT hZ (hw _ (List.mem_of_getElem? (i := 73) rfl))) (by decide) (backOf (W := 1) (pow10_ l Z a0 hw [] (((Int32.ofNat (dN u)) - (1 : Int32)) - i) h0 n0 O0) hZ (hw _ (List.mem_of_getElem? (i := 73) rfl)) (hw _ (List.mem_of_getElem? (i := 55) rfl)) (by decide) (by decide)) (g := (mkF m 13 #[.val (.ref x), .val (.int i), .val (.int (Int32.ofNat (dN u))), .val (.int u), .unset] [(.int (((Int32.ofNat (dN u)) - (1 : Int32)) - i)), (.int u)])) rfl (by rw [hml]; rfl) (argsL := [(.int (((Int32.ofNat (dN u)) - (1 : Int32)) - i))]) (rest := [(.int u)]) (lenOf pd_52681284 rfl) rfl (by show 2 * 0 + _ ≤ _; exact Nat.le_of_eq rfl) (hb hby d13_13) (fun _ _ => ⟨rfl, e0, (by decide : 0 + 0 ≤ _), (by decide : 0 + 0 ≤ _)⟩)
    dsimp only [Pt.U, Pt.locs, Pt.cells, Pt.slots] at X292 l292 y292 z292 st292 hQ292
    subst l292 y292 z292
    obtain ⟨rfl, N292q, K292⟩ := hQ292
    have N292 := Fr.app N0 N292q
    have R293 : Go p e below P T292 (mkF m 16 #[.val (.ref x), .val (.int i), .val (.int (Int32.ofNat (dN u))), .val (.int u), .unset] [(.int (powI (((Int32.ofNat (dN u)) - (1 : Int32)) - i))), (.int u)]) := fun t_ k_ => R291 t_ (st292 t_ k_)
    have R294 : Go p e below P T292 (mkF m 17 #[.val (.ref x), .val (.int i), .val (.int (Int32.ofNat (dN u))), .val (.int u), .unset] [(.int (u / (powI (((Int32.ofNat (dN u)) - (1 : Int32)) - i))))]) := fun t_ k_ => R293 t_ (XS.idiv X292.here hx rfl (hb hby d13_16) rfl (powI_ne _) k_)
    have R295 : Go p e below P T292 (mkF m 19 #[.val (.ref x), .val (.int i), .val (.int (Int32.ofNat (dN u))), .val (.int u), .unset] [(.int (10 : Int32)), (.int (u / (powI (((Int32.ofNat (dN u)) - (1 : Int32)) - i))))]) := fun t_ k_ => R294 t_ (XS.bipush X292.here hx rfl (hb hby d13_17) k_)
    have R296 : Go p e below P T292 (mkF m 20 #[.val (.ref x), .val (.int i), .val (.int (Int32.ofNat (dN u))), .val (.int u), .unset] [(.int ((u / (powI (((Int32.ofNat (dN u)) - (1 : Int32)) - i))) % (10 : Int32)))]) := fun t_ k_ => R295 t_ (iremM X292 hx rfl (hb hby d13_19) rfl (by decide) k_)
    have R297 : Go p e below P T292 (mkF m 22 #[.val (.ref x), .val (.int i), .val (.int (Int32.ofNat (dN u))), .val (.int u), .val (.int ((u / (powI (((Int32.ofNat (dN u)) - (1 : Int32)) - i))) % (10 : Int32)))] []) := fun t_ k_ => R296 t_ (XS.istore X292.here hx rfl (hb hby d13_20) rfl (l' := #[.val (.ref x), .val (.int i), .val (.int (Int32.ofNat (dN u))), .val (.int u), .val (.int ((u / (powI (((Int32.ofNat (dN u)) - (1 : Int32)) - i))) % (10 : Int32)))]) rfl k_)
    have jlt : j < (digL u).length := jlt_of hi hj hc284
    have R298 : Go p e below P T292 (mkF m 23 #[.val (.ref x), .val (.int i), .val (.int (Int32.ofNat (dN u))), .val (.int u), .val (.int ((u / (powI (((Int32.ofNat (dN u)) - (1 : Int32)) - i))) % (10 : Int32)))] [(.ref x)]) := fun t_ k_ => R297 t_ (XS.aloadN X292.here hx rfl (hb hby d13_22) rfl rfl k_)
    have R299 : Go p e below P T292 (mkF m 24 #[.val (.ref x), .val (.int i), .val (.int (Int32.ofNat (dN u))), .val (.int u), .val (.int ((u / (powI (((Int32.ofNat (dN u)) - (1 : Int32)) - i))) % (10 : Int32)))] [(.int i), (.ref x)]) := fun t_ k_ => R298 t_ (XS.iloadN X292.here hx rfl (hb hby d13_23) rfl k_)
    obtain ⟨cq300, kq300, q300a, q300b, q300c⟩ := isOf hZ K292 P0
    obtain ⟨rv300, _, ⟨T300, L300, k300, n300⟩, -, X300, ⟨Lc300, hQ300, l300, y300, z300⟩, st300⟩ := X292.virtualBack hx (y := (⟨"java/lang/String", "charAt", "(I)C"⟩ : MethodName)) (z := (⟨"java/lang/String", "charAt", "(I)C"⟩ : MethodName)) hown (mvT hZ (hw _ (List.mem_of_getElem? (i := 74) rfl))) (mvT hZ (hw _ (List.mem_of_getElem? (i := 75) rfl))) (notFace_of_selects (args := #[]) (mvT hZ (hw _ (List.mem_of_getElem? (i := 77) rfl)))) (mvT hZ (hw _ (List.mem_of_getElem? (i := 77) rfl))) (mvT hZ (hw _ (List.mem_of_getElem? (i := 76) rfl))) (by decide) (backOf (W := 0) (lch_ l Z a0 hw [] x t kb (digL u) i j fm zc h0 n0 O0 P0 P1 P2 P3 P4 hzc P5 hfm hi jlt (digL_l4 u) (digL_ok u)) hZ (hw _ (List.mem_of_getElem? (i := 78) rfl)) (hw _ (List.mem_of_getElem? (i := 36) rfl)) (by decide) (by decide)) q300a q300c (g := (mkF m 24 #[.val (.ref x), .val (.int i), .val (.int (Int32.ofNat (dN u))), .val (.int u), .val (.int ((u / (powI (((Int32.ofNat (dN u)) - (1 : Int32)) - i))) % (10 : Int32)))] [(.int i), (.ref x)])) rfl (by rw [hml]; rfl) (Steps.refl _) (argsL := [(.int i)]) (rest := []) (lenOf pd_52681278 rfl) rfl (by show 2 * 0 + _ ≤ _; exact Nat.le_of_eq rfl) (hb hby d13_24) (fun _ _ => ⟨rfl, K292, (by decide : 0 + 0 ≤ _), (by decide : 0 + 0 ≤ _)⟩)
    dsimp only [Pt.U, Pt.locs, Pt.cells, Pt.slots] at X300 l300 y300 z300 st300 hQ300
    subst l300 y300 z300
    obtain ⟨rfl, N300q, K300⟩ := hQ300
    have N300 := Fr.app N292 N300q
    have R301 : Go p e below P T300 (mkF m 27 #[.val (.ref x), .val (.int i), .val (.int (Int32.ofNat (dN u))), .val (.int u), .val (.int ((u / (powI (((Int32.ofNat (dN u)) - (1 : Int32)) - i))) % (10 : Int32)))] [(.int ((digL u).getD j 0))]) := fun t_ k_ => R299 t_ (st300.trans k_)
    have R302 : Go p e below P T300 (mkF m 29 #[.val (.ref x), .val (.int i), .val (.int (Int32.ofNat (dN u))), .val (.int u), .val (.int ((u / (powI (((Int32.ofNat (dN u)) - (1 : Int32)) - i))) % (10 : Int32)))] [(.int (48 : Int32)), (.int ((digL u).getD j 0))]) := fun t_ k_ => R301 t_ (XS.bipush X300.here hx rfl (hb hby d13_27) k_)
    have R303 : Go p e below P T300 (mkF m 31 #[.val (.ref x), .val (.int i), .val (.int (Int32.ofNat (dN u))), .val (.int u), .val (.int ((u / (powI (((Int32.ofNat (dN u)) - (1 : Int32)) - i))) % (10 : Int32)))] [(.int ((u / (powI (((Int32.ofNat (dN u)) - (1 : Int32)) - i))) % (10 : Int32))), (.int (48 : Int32)), (.int ((digL u).getD j 0))]) := fun t_ k_ => R302 t_ (XS.iload X300.here hx rfl (hb hby d13_29) rfl k_)
    have R304 : Go p e below P T300 (mkF m 32 #[.val (.ref x), .val (.int i), .val (.int (Int32.ofNat (dN u))), .val (.int u), .val (.int ((u / (powI (((Int32.ofNat (dN u)) - (1 : Int32)) - i))) % (10 : Int32)))] [(.int ((48 : Int32) + ((u / (powI (((Int32.ofNat (dN u)) - (1 : Int32)) - i))) % (10 : Int32)))), (.int ((digL u).getD j 0))]) := fun t_ k_ => R303 t_ (XS.iadd X300.here hx rfl (hb hby d13_31) rfl k_)
    have R305 : Go p e below P T300 (mkF m 33 #[.val (.ref x), .val (.int i), .val (.int (Int32.ofNat (dN u))), .val (.int u), .val (.int ((u / (powI (((Int32.ofNat (dN u)) - (1 : Int32)) - i))) % (10 : Int32)))] [(.int (((48 : Int32) + ((u / (powI (((Int32.ofNat (dN u)) - (1 : Int32)) - i))) % (10 : Int32))).toUInt32.toUInt16.toUInt32.toInt32)), (.int ((digL u).getD j 0))]) := fun t_ k_ => R304 t_ (XS.i2c X300.here hx rfl (hb hby d13_32) rfl k_)
    have R306 : Go p e below P T300 (mkF m 36 #[.val (.ref x), .val (.int i), .val (.int (Int32.ofNat (dN u))), .val (.int u), .val (.int ((u / (powI (((Int32.ofNat (dN u)) - (1 : Int32)) - i))) % (10 : Int32)))] []) := fun t_ k_ => R305 t_ (XS.icmpNo X300.here hx rfl (hb hby d13_33) rfl (teq (own_digit hu hi jlt)).2 k_)
    have R307 : Go p e below P T300 (mkF m 37 #[.val (.ref x), .val (.int i), .val (.int (Int32.ofNat (dN u))), .val (.int u), .val (.int ((u / (powI (((Int32.ofNat (dN u)) - (1 : Int32)) - i))) % (10 : Int32)))] [(.int (1 : Int32))]) := fun t_ k_ => R306 t_ (XS.iconst X300.here hx rfl (hb hby d13_36) k_)
    have R308 : Go p e below P T300 (mkF m 41 #[.val (.ref x), .val (.int i), .val (.int (Int32.ofNat (dN u))), .val (.int u), .val (.int ((u / (powI (((Int32.ofNat (dN u)) - (1 : Int32)) - i))) % (10 : Int32)))] [(.int (1 : Int32))]) := fun t_ k_ => R307 t_ (XS.goto X300.here hx rfl (pc0 := 37) (pc' := 41) rfl (hb hby d13_37) (by decide) (by decide) k_)
    obtain ⟨fs, hr, hrun, hended, hW, hsame⟩ := X300.leave (v := some (.int (nar .boolean (1 : Int32)))) (fun h => by rw [Bd.returns] at h; cases h)
    exact ⟨_, _, hP _ (R308 _ (retN X300 hx (t := .boolean) Bd.returns (by simp) (hb hby d13_41) hr)), hrun, hended, _, _, rfl, ⟨rfl, N300, K300⟩, ⟨_, rfl⟩, hW, hsame.mono (by decide) (by decide)⟩
  · have R309 : Go p e below P s₁ (mkF m 5 #[.val (.ref x), .val (.int i), .val (.int (Int32.ofNat (dN u))), .val (.int u), .unset] []) := fun t_ k_ => R283 t_ (XS.icmpNo X0.here hx rfl (hb hby d13_2) rfl (flt hc284).1 k_)
    have R310 : Go p e below P s₁ (mkF m 6 #[.val (.ref x), .val (.int i), .val (.int (Int32.ofNat (dN u))), .val (.int u), .unset] [(.int (1 : Int32))]) := fun t_ k_ => R309 t_ (XS.iconst X0.here hx rfl (hb hby d13_5) k_)
    obtain ⟨fs, hr, hrun, hended, hW, hsame⟩ := X0.leave (v := some (.int (nar .boolean (1 : Int32)))) (fun h => by rw [Bd.returns] at h; cases h)
    exact ⟨_, _, hP _ (R310 _ (retN X0 hx (t := .boolean) Bd.returns (by simp) (hb hby d13_6) hr)), hrun, hended, _, _, rfl, ⟨rfl, N0, e0⟩, ⟨_, rfl⟩, hW, hsame.mono (by decide) (by decide)⟩
theorem ef_law_ (m : MethodId) (x0 : Int32) (x1 : Int32) (x2 : Int32) : entryFrame m #[(.int x0), (.int x1), (.int x2)] maxLocals = mkF m 0 #[.val (.int x0), .val (.int x1), .val (.int x2), .unset, .unset, .unset, .unset, .unset] [] := by first | (simp [entryFrame, mkF, argsToLocals, Value.category, maxLocals]; done) | rfl
theorem pd_1793237 : parseMethodDescriptor "(II)I" = some ⟨[.int, .int], some .int⟩ := by decide +kernel
theorem pd_14309214 : parseMethodDescriptor "()Ljava/lang/String;" = some ⟨[], some (.object "java/lang/String")⟩ := by decide +kernel
theorem pd_16428521 : parseMethodDescriptor "()I" = some ⟨[], some .int⟩ := by decide +kernel
theorem pd_76697771 : parseMethodDescriptor "(Ljava/lang/String;III)Z" = some ⟨[(.object "java/lang/String"), .int, .int, .int], some .boolean⟩ := by decide +kernel
def Q_law_ (Z : State) (i0 : Int32) (i1 : Int32) (i2 : Int32) (fm : Value) (zc : Int32) (st : Addr) (d1 : Addr) (D1 : Cell) (d2 : Addr) (D2 : Cell) (h0 : Heap) (n0 : Nat) (rv_ : Option Value) (rh_ : Heap) (rL_ : List Loc) : Prop := (rv_ = some (.int (1 : Int32))) ∧ (Fr n0 rL_) ∧ (Keep h0 rh_ [])
set_option maxRecDepth 65536 in
set_option maxHeartbeats 40000000 in
theorem law_ (l : Launch) (Z : State) (a0 : Array Value) (hw : ∀ d ∈ tables_1, d.before a0 Z = true) (ws : List Jvm.Cond) (i0 : Int32) (i1 : Int32) (i2 : Int32) (fm : Value) (zc : Int32) (st : Addr) (d1 : Addr) (D1 : Cell) (d2 : Addr) (D2 : Cell) (h0 : Heap) (n0 : Nat) (O0 : Old Z n0 h0) (hEL : EW Z a0 EL0) (P0 : Sta Z Z.heap "java/lang/String" "COMPACT_STRINGS" "Z" (.int zc)) (P1 : ¬ zc = 0) (P2 : Jvm.Free.SBG.Tbl Z "DigitOnes" st d1 D1) (P3 : Jvm.Free.SBG.Ones D1) (P4 : Jvm.Free.SBG.Tbl Z "DigitTens" st d2 D2) (P5 : Jvm.Free.SBG.Tens D2) (P6 : Sta Z Z.heap "jdk/internal/util/Preconditions" "SIOOBE_FORMATTER" "Ljava/util/function/BiFunction;" fm) (P7 : fm.isRef = true) :
    MetFree l x (head1 (Jvm.Cond.code x code maxLocals ret :: ws) room_1) (fun a_ U_ => a_ = #[(.int i0), (.int i1), (.int i2)] ∧ Z.Warmed39 U_.vm ∧ U_.heap = h0 ∧ CHv Z EL0 U_.vm h0) (fun _ _ _ _ _ => True) (fun _ U_ o_ U_' => ∃ v_ L_, o_ = .returned v_ ∧ Q_law_ Z i0 i1 i2 fm zc st d1 D1 d2 D2 h0 n0 v_ U_'.heap L_ ∧ CHr Z EL0 U_.vm U_.heap U_'.vm U_'.heap ∧ ReturnedEndW U_ o_ U_' L_ room_1.cells room_1.slots) := by
  have hzc := P1
  have hT1 := P2
  have hO1 := P3
  have hT2 := P4
  have hO2 := P5
  have hfm := P7
  refine MetFree.of_bodySF (plainFor_of_name pn_65406652) hisR ?_
  intro p e s m args below meth c s₁ Bd hml0 hP0 hK
  obtain ⟨rfl, hZ, hh, hCH⟩ := hP0
  have hx := Bd.exec
  have hby := Bd.bytes
  have hml : c.maxLocals = 8 := hml0
  have hown : s.vm.findClass "com/example/lexicarta/lexicarta/uml/MultiplicityUpperValuePinLaw" = some m.cls := findClass_of_methodNamed Bd.named
  have hnm := (name_of_methodNamed Bd.named Bd.method).1
  have hS0 : s.Since s.vm 0 := (State.WarmedH.refl s).since 0
  have hk0 : 0 ≤ h0.size := Nat.zero_le _
  have C0 : CHr Z EL0 s.vm h0 s.vm h0 := CHr.refl hCH
  have X0 : Stand p l e room_1 (s.setVm s.vm) m #[(.int i0), (.int i1), (.int i2)] below meth c s₁ [] 0 0 := Stand.of_body Bd
  have e0 : s₁.heap = h0 := by rw [← hh, Bd.state]; rfl
  have N0 := Fr.nil n0
  obtain ⟨P, hP, R0⟩ : ∃ P : State → Prop, (∀ t_, P t_ → Steps p.tables e below (s₁.setTop (entryFrame m #[(.int i0), (.int i1), (.int i2)] maxLocals)) t_) ∧ Go p e below P s₁ (mkF m 0 #[.val (.int i0), .val (.int i1), .val (.int i2), .unset, .unset, .unset, .unset, .unset] []) := ⟨_, fun _ h => h, fun t_ k_ => castTop (ef_law_ m i0 i1 i2) k_⟩
  have R311 : Go p e below P s₁ (mkF m 1 #[.val (.int i0), .val (.int i1), .val (.int i2), .unset, .unset, .unset, .unset, .unset] [(.int i0)]) := fun t_ k_ => R0 t_ (XS.iloadN X0.here hx rfl (hb hby at_0) rfl k_)
  have R312 : Go p e below P s₁ (mkF m 3 #[.val (.int i0), .val (.int i1), .val (.int i2), .unset, .unset, .unset, .unset, .unset] [(.int (2147483647 : Int32)), (.int i0)]) := fun t_ k_ => R311 t_ (X0.ldcInt hx hown (mvT hZ (hw _ (List.mem_of_getElem? (i := 0) rfl))) (g := (mkF m 1 #[.val (.int i0), .val (.int i1), .val (.int i2), .unset, .unset, .unset, .unset, .unset] [(.int i0)])) rfl (hb hby at_1) _ k_)
  have R313 : Go p e below P s₁ (mkF m 4 #[.val (.int i0), .val (.int i1), .val (.int i2), .unset, .unset, .unset, .unset, .unset] [(.int (i0 &&& (2147483647 : Int32)))]) := fun t_ k_ => R312 t_ (XS.iand X0.here hx rfl (hb hby at_3) rfl k_)
  obtain ⟨lo, hlo⟩ : ∃ z : Int32, z = (i0 &&& (2147483647 : Int32)) := ⟨_, rfl⟩
  have R314 : Go p e below P s₁ (mkF m 4 #[.val (.int i0), .val (.int i1), .val (.int i2), .unset, .unset, .unset, .unset, .unset] [(.int lo)]) := by rw [hlo]; exact R313
  have hlo0 : ¬ lo < 0 := by rw [hlo]; exact max_nn _
  have R315 : Go p e below P s₁ (mkF m 5 #[.val (.int i0), .val (.int i1), .val (.int i2), .val (.int lo), .unset, .unset, .unset, .unset] []) := fun t_ k_ => R314 t_ (XS.istoreN X0.here hx rfl (hb hby at_4) rfl (l' := #[.val (.int i0), .val (.int i1), .val (.int i2), .val (.int lo), .unset, .unset, .unset, .unset]) rfl k_)
  have R316 : Go p e below P s₁ (mkF m 6 #[.val (.int i0), .val (.int i1), .val (.int i2), .val (.int lo), .unset, .unset, .unset, .unset] [(.int i2)]) := fun t_ k_ => R315 t_ (XS.iloadN X0.here hx rfl (hb hby at_5) rfl k_)
  have R317 : Go p e below P s₁ (mkF m 7 #[.val (.int i0), .val (.int i1), .val (.int i2), .val (.int lo), .unset, .unset, .unset, .unset] [(.int (1 : Int32)), (.int i2)]) := fun t_ k_ => R316 t_ (XS.iconst X0.here hx rfl (hb hby at_6) k_)
  have R318 : Go p e below P s₁ (mkF m 8 #[.val (.int i0), .val (.int i1), .val (.int i2), .val (.int lo), .unset, .unset, .unset, .unset] [(.int (i2 &&& (1 : Int32)))]) := fun t_ k_ => R317 t_ (XS.iand X0.here hx rfl (hb hby at_7) rfl k_)
  by_cases hc319 : (i2 &&& (1 : Int32)) = (0 : Int32)
  · have R320 : Go p e below P s₁ (mkF m 51 #[.val (.int i0), .val (.int i1), .val (.int i2), .val (.int lo), .unset, .unset, .unset, .unset] []) := fun t_ k_ => R318 t_ (XS.ifYes X0.here hx rfl (pc0 := 8) (pc' := 51) rfl (hb hby at_8) rfl ((if0 _ _).trans (teq hc319).1) (by decide) (by decide) k_)
    have R321 : Go p e below P s₁ (mkF m 52 #[.val (.int i0), .val (.int i1), .val (.int i2), .val (.int lo), .unset, .unset, .unset, .unset] [(.int i1)]) := fun t_ k_ => R320 t_ (XS.iloadN X0.here hx rfl (hb hby at_51) rfl k_)
    have R322 : Go p e below P s₁ (mkF m 54 #[.val (.int i0), .val (.int i1), .val (.int i2), .val (.int lo), .unset, .unset, .unset, .unset] [(.int (2147483647 : Int32)), (.int i1)]) := fun t_ k_ => R321 t_ (X0.ldcInt hx hown (mvT hZ (hw _ (List.mem_of_getElem? (i := 0) rfl))) (g := (mkF m 52 #[.val (.int i0), .val (.int i1), .val (.int i2), .val (.int lo), .unset, .unset, .unset, .unset] [(.int i1)])) rfl (hb hby at_52) _ k_)
    have R323 : Go p e below P s₁ (mkF m 55 #[.val (.int i0), .val (.int i1), .val (.int i2), .val (.int lo), .unset, .unset, .unset, .unset] [(.int (i1 &&& (2147483647 : Int32)))]) := fun t_ k_ => R322 t_ (XS.iand X0.here hx rfl (hb hby at_54) rfl k_)
    obtain ⟨up, hup⟩ : ∃ z : Int32, z = (i1 &&& (2147483647 : Int32)) := ⟨_, rfl⟩
    have R324 : Go p e below P s₁ (mkF m 55 #[.val (.int i0), .val (.int i1), .val (.int i2), .val (.int lo), .unset, .unset, .unset, .unset] [(.int up)]) := by rw [hup]; exact R323
    have hup0 : ¬ up < 0 := by rw [hup]; exact max_nn _
    have R325 : Go p e below P s₁ (mkF m 57 #[.val (.int i0), .val (.int i1), .val (.int i2), .val (.int lo), .val (.int up), .unset, .unset, .unset] []) := fun t_ k_ => R324 t_ (XS.istore X0.here hx rfl (hb hby at_55) rfl (l' := #[.val (.int i0), .val (.int i1), .val (.int i2), .val (.int lo), .val (.int up), .unset, .unset, .unset]) rfl k_)
    have R326 : Go p e below P s₁ (mkF m 58 #[.val (.int i0), .val (.int i1), .val (.int i2), .val (.int lo), .val (.int up), .unset, .unset, .unset] [(.int lo)]) := fun t_ k_ => R325 t_ (XS.iloadN X0.here hx rfl (hb hby at_57) rfl k_)
    have R327 : Go p e below P s₁ (mkF m 60 #[.val (.int i0), .val (.int i1), .val (.int i2), .val (.int lo), .val (.int up), .unset, .unset, .unset] [(.int up), (.int lo)]) := fun t_ k_ => R326 t_ (XS.iload X0.here hx rfl (hb hby at_58) rfl k_)
    obtain ⟨rv328, _, ⟨T328, L328, k328, n328⟩, -, X328, ⟨Lc328, hQ328, l328, y328, z328⟩, st328⟩ := Jvm.LawKit.callS X0 hx (y := (⟨"java/lang/Math", "min", "(II)I"⟩ : MethodName)) hown (mvT hZ (hw _ (List.mem_of_getElem? (i := 1) rfl))) (mvT hZ (hw _ (List.mem_of_getElem? (i := 2) rfl))) (mvT hZ (hw _ (List.mem_of_getElem? (i := 3) rfl))) (mvT hZ (hw _ (List.mem_of_getElem? (i := 4) rfl))) (by decide) (backOf (W := 0) (min_ l Z a0 hw [] lo up h0 n0 O0) hZ (hw _ (List.mem_of_getElem? (i := 4) rfl)) (hw _ (List.mem_of_getElem? (i := 3) rfl)) (by decide) (by decide)) (g := (mkF m 60 #[.val (.int i0), .val (.int i1), .val (.int i2), .val (.int lo), .val (.int up), .unset, .unset, .unset] [(.int up), (.int lo)])) rfl (by rw [hml]; rfl) (argsL := [(.int lo), (.int up)]) (rest := []) (lenOf pd_1793237 rfl) rfl (by show 2 * 0 + _ ≤ _; exact Nat.le_of_eq rfl) (hb hby at_60) (fun _ _ => ⟨rfl, e0, (by decide : 0 + 0 ≤ _), (by decide : 0 + 0 ≤ _)⟩)
    dsimp only [Pt.U, Pt.locs, Pt.cells, Pt.slots] at X328 l328 y328 z328 st328 hQ328
    subst l328 y328 z328
    obtain ⟨rfl, N328q, K328⟩ := hQ328
    have N328 := Fr.app N0 N328q
    have R329 : Go p e below P T328 (mkF m 63 #[.val (.int i0), .val (.int i1), .val (.int i2), .val (.int lo), .val (.int up), .unset, .unset, .unset] [(.int (minI lo up))]) := fun t_ k_ => R327 t_ (st328 t_ k_)
    obtain ⟨low, hlow⟩ : ∃ z : Int32, z = (minI lo up) := ⟨_, rfl⟩
    have R330 : Go p e below P T328 (mkF m 63 #[.val (.int i0), .val (.int i1), .val (.int i2), .val (.int lo), .val (.int up), .unset, .unset, .unset] [(.int low)]) := by rw [hlow]; exact R329
    have hlow0 : ¬ low < 0 := by rw [hlow]; exact min_nn hlo0 hup0
    have hlowu : ¬ up < low := by rw [hlow]; exact min_le
    have R331 : Go p e below P T328 (mkF m 65 #[.val (.int i0), .val (.int i1), .val (.int i2), .val (.int lo), .val (.int up), .val (.int low), .unset, .unset] []) := fun t_ k_ => R330 t_ (XS.istore X328.here hx rfl (hb hby at_63) rfl (l' := #[.val (.int i0), .val (.int i1), .val (.int i2), .val (.int lo), .val (.int up), .val (.int low), .unset, .unset]) rfl k_)
    obtain ⟨T332, h332, X332, e332, E332, A332, D332, -, st332⟩ := newO X328 hx hZ hown (hw _ (List.mem_of_getElem? (i := 5) rfl)) (hw _ (List.mem_of_getElem? (i := 6) rfl)) (hw _ (List.mem_of_getElem? (i := 7) rfl)) K328 (g := (mkF m 65 #[.val (.int i0), .val (.int i1), .val (.int i2), .val (.int lo), .val (.int up), .val (.int low), .unset, .unset] [])) rfl (hb hby at_65) (by decide) (by decide)
    obtain ⟨b332, g332⟩ : ∃ z, z = h0.size := ⟨_, rfl⟩
    rw [← g332] at A332 D332 st332
    have O332 := O0.ext E332
    have C333 := C0.trans (CHr.ext E332 C0.1)
    have hk333 := Nat.le_trans hk0 E332.1
    have Sb332 : Safe Z EL0 _ _ _ := Safe.ext E332 C0.1 (Safe.new (Nat.le_of_eq g332.symm))
    have F332_20 : Fld Z h332 b332 "com/example/lexicarta/lexicarta/uml/Multiplicity" "lower" "I" (.int (0 : Int32)) := D332 (Or.inr (hw _ (List.mem_of_getElem? (i := 20) rfl))) (ty := .int) (by decide)
    have F332_22 : Fld Z h332 b332 "com/example/lexicarta/lexicarta/uml/Multiplicity" "upper" "I" (.int (0 : Int32)) := D332 (Or.inr (hw _ (List.mem_of_getElem? (i := 22) rfl))) (ty := .int) (by decide)
    have R334 : Go p e below P T332 (mkF m 68 #[.val (.int i0), .val (.int i1), .val (.int i2), .val (.int lo), .val (.int up), .val (.int low), .unset, .unset] [(.ref b332)]) := fun t_ k_ => R331 t_ (st332 t_ k_)
    have R335 : Go p e below P T332 (mkF m 69 #[.val (.int i0), .val (.int i1), .val (.int i2), .val (.int lo), .val (.int up), .val (.int low), .unset, .unset] [(.ref b332), (.ref b332)]) := fun t_ k_ => R334 t_ (XS.dup X332.here hx rfl (hb hby at_68) rfl rfl k_)
    have R336 : Go p e below P T332 (mkF m 71 #[.val (.int i0), .val (.int i1), .val (.int i2), .val (.int lo), .val (.int up), .val (.int low), .unset, .unset] [(.int low), (.ref b332), (.ref b332)]) := fun t_ k_ => R335 t_ (XS.iload X332.here hx rfl (hb hby at_69) rfl k_)
    have R337 : Go p e below P T332 (mkF m 73 #[.val (.int i0), .val (.int i1), .val (.int i2), .val (.int lo), .val (.int up), .val (.int low), .unset, .unset] [(.int up), (.int low), (.ref b332), (.ref b332)]) := fun t_ k_ => R336 t_ (XS.iload X332.here hx rfl (hb hby at_71) rfl k_)
    have Sw338 : Safe Z EL0 _ _ b332 := Sb332
    obtain ⟨rv339, _, ⟨T339, L339, k339, n339⟩, -, X339, ⟨Lc339, hQ339, l339, y339, z339⟩, st339⟩ := X332.specialBack hx (y := (⟨"com/example/lexicarta/lexicarta/uml/Multiplicity", "<init>", "(II)V"⟩ : MethodName)) rfl hown (mvT hZ (hw _ (List.mem_of_getElem? (i := 8) rfl))) (mvT hZ (hw _ (List.mem_of_getElem? (i := 9) rfl))) (mvT hZ (hw _ (List.mem_of_getElem? (i := 10) rfl))) (by decide) (backOf (W := 1) (mulD_ l Z a0 hw [] b332 low up h332 n0 O332 A332 F332_20 F332_22 (Nat.le_trans (oldLe O0) (Nat.le_of_eq g332.symm)) hlow0 hup0 hlowu) hZ (hw _ (List.mem_of_getElem? (i := 10) rfl)) (hw _ (List.mem_of_getElem? (i := 7) rfl)) (by decide) (by decide)) (g := (mkF m 73 #[.val (.int i0), .val (.int i1), .val (.int i2), .val (.int lo), .val (.int up), .val (.int low), .unset, .unset] [(.int up), (.int low), (.ref b332), (.ref b332)])) rfl (by rw [hml]; rfl) (Steps.refl _) (a := b332) (argsL := [(.int low), (.int up)]) (rest := [(.ref b332)]) (lenOf pd_1793250 rfl) rfl (by show 2 * 0 + _ ≤ _; exact Nat.le_of_eq rfl) (hb hby at_73) (fun _ _ => ⟨rfl, e332, (by decide : 1 + 0 ≤ _), (by decide : 2 + 0 ≤ _)⟩)
    dsimp only [Pt.U, Pt.locs, Pt.cells, Pt.slots] at X339 l339 y339 z339 st339 hQ339
    subst l339 y339 z339
    obtain ⟨rfl, N339q, K339, p339_0, p339_1⟩ := hQ339
    have N339 := Fr.app N328 N339q
    have O339 := O332.keep K339 (allS (Nat.le_trans (oldLe O0) (Nat.le_of_eq g332.symm)) all0)
    have C340 := C333.trans (CHr.keep K339 (sfS Sw338 sf0) C333.1)
    have hk340 := Nat.le_trans hk333 K339.1
    have R341 : Go p e below P T339 (mkF m 76 #[.val (.int i0), .val (.int i1), .val (.int i2), .val (.int lo), .val (.int up), .val (.int low), .unset, .unset] [(.ref b332)]) := fun t_ k_ => R337 t_ (st339.trans k_)
    obtain ⟨cq342, kq342, q342a, q342b, q342c⟩ := isOf hZ (rfl : T339.heap = T339.heap) p339_0
    obtain ⟨rv342, _, ⟨T342, L342, k342, n342⟩, -, X342, ⟨Lc342, hQ342, l342, y342, z342⟩, st342⟩ := X339.virtualBack hx (y := (⟨"com/example/lexicarta/lexicarta/uml/Multiplicity", "upperValue", "()Ljava/lang/String;"⟩ : MethodName)) (z := (⟨"com/example/lexicarta/lexicarta/uml/Multiplicity", "upperValue", "()Ljava/lang/String;"⟩ : MethodName)) hown (mvT hZ (hw _ (List.mem_of_getElem? (i := 23) rfl))) (mvT hZ (hw _ (List.mem_of_getElem? (i := 24) rfl))) (notFace_of_selects (args := #[]) (mvT hZ (hw _ (List.mem_of_getElem? (i := 26) rfl)))) (mvT hZ (hw _ (List.mem_of_getElem? (i := 26) rfl))) (mvT hZ (hw _ (List.mem_of_getElem? (i := 25) rfl))) (by decide) (backOf (W := 0) (upD_ l Z a0 hw [] b332 up zc st d1 D1 d2 D2 T339.heap n0 O339 p339_1 P0 hzc hT1 hO1 hT2 hO2 hup0) hZ (hw _ (List.mem_of_getElem? (i := 27) rfl)) (hw _ (List.mem_of_getElem? (i := 7) rfl)) (by decide) (by decide)) q342a q342c (g := (mkF m 76 #[.val (.int i0), .val (.int i1), .val (.int i2), .val (.int lo), .val (.int up), .val (.int low), .unset, .unset] [(.ref b332)])) rfl (by rw [hml]; rfl) (Steps.refl _) (argsL := []) (rest := []) (lenOf pd_14309214 rfl) rfl (by show 2 * 0 + _ ≤ _; exact Nat.le_of_eq rfl) (hb hby at_76) (fun _ _ => ⟨rfl, (rfl : T339.heap = T339.heap), (by decide : 1 + 2 ≤ _), (by decide : 2 + 14 ≤ _)⟩)
    dsimp only [Pt.U, Pt.locs, Pt.cells, Pt.slots] at X342 l342 y342 z342 st342 hQ342
    subst l342 y342 z342
    obtain ⟨x_342, t_342, kb_342, rfl, N342q, K342, p342_0, p342_1, p342_2, p342_3⟩ := hQ342
    have N342 := Fr.app N339 N342q
    have O342 := O339.keep K342 all0
    have C343 := C340.trans (CHr.keep K342 sf0 C340.1)
    have hk343 := Nat.le_trans hk340 K342.1
    have R344 : Go p e below P T342 (mkF m 79 #[.val (.int i0), .val (.int i1), .val (.int i2), .val (.int lo), .val (.int up), .val (.int low), .unset, .unset] [(.ref x_342)]) := fun t_ k_ => R341 t_ (st342.trans k_)
    have R345 : Go p e below P T342 (mkF m 81 #[.val (.int i0), .val (.int i1), .val (.int i2), .val (.int lo), .val (.int up), .val (.int low), .val (.ref x_342), .unset] []) := fun t_ k_ => R344 t_ (XS.astore X342.here hx rfl (hb hby at_79) rfl rfl (l' := #[.val (.int i0), .val (.int i1), .val (.int i2), .val (.int lo), .val (.int up), .val (.int low), .val (.ref x_342), .unset]) rfl k_)
    have R346 : Go p e below P T342 (mkF m 83 #[.val (.int i0), .val (.int i1), .val (.int i2), .val (.int lo), .val (.int up), .val (.int low), .val (.ref x_342), .unset] [(.int up)]) := fun t_ k_ => R345 t_ (XS.iload X342.here hx rfl (hb hby at_81) rfl k_)
    obtain ⟨rv347, _, ⟨T347, L347, k347, n347⟩, -, X347, ⟨Lc347, hQ347, l347, y347, z347⟩, st347⟩ := Jvm.LawKit.callS X342 hx (y := (⟨"com/example/lexicarta/lexicarta/uml/MultiplicityUpperValuePinLaw", "digits", "(I)I"⟩ : MethodName)) hown (mvT hZ (hw _ (List.mem_of_getElem? (i := 53) rfl))) (mvT hZ (hw _ (List.mem_of_getElem? (i := 54) rfl))) (mvT hZ (hw _ (List.mem_of_getElem? (i := 55) rfl))) (mvT hZ (hw _ (List.mem_of_getElem? (i := 56) rfl))) (by decide) (backOf (W := 0) (digits_ l Z a0 hw [] up T342.heap n0 O342) hZ (hw _ (List.mem_of_getElem? (i := 56) rfl)) (hw _ (List.mem_of_getElem? (i := 55) rfl)) (by decide) (by decide)) (g := (mkF m 83 #[.val (.int i0), .val (.int i1), .val (.int i2), .val (.int lo), .val (.int up), .val (.int low), .val (.ref x_342), .unset] [(.int up)])) rfl (by rw [hml]; rfl) (argsL := [(.int up)]) (rest := []) (lenOf pd_52681284 rfl) rfl (by show 2 * 0 + _ ≤ _; exact Nat.le_of_eq rfl) (hb hby at_83) (fun _ _ => ⟨rfl, (rfl : T342.heap = T342.heap), (by decide : 3 + 0 ≤ _), (by decide : 16 + 0 ≤ _)⟩)
    dsimp only [Pt.U, Pt.locs, Pt.cells, Pt.slots] at X347 l347 y347 z347 st347 hQ347
    subst l347 y347 z347
    obtain ⟨rfl, N347q, K347⟩ := hQ347
    have N347 := Fr.app N342 N347q
    have R348 : Go p e below P T347 (mkF m 86 #[.val (.int i0), .val (.int i1), .val (.int i2), .val (.int lo), .val (.int up), .val (.int low), .val (.ref x_342), .unset] [(.int (digI up))]) := fun t_ k_ => R346 t_ (st347 t_ k_)
    have er349 : (digI up) = (Int32.ofNat (dN up)) := digI_eq hup0
    have R350 : Go p e below P T347 (mkF m 86 #[.val (.int i0), .val (.int i1), .val (.int i2), .val (.int lo), .val (.int up), .val (.int low), .val (.ref x_342), .unset] [(.int (Int32.ofNat (dN up)))]) := by have q := R348; rw [er349] at q; exact q
    have R351 : Go p e below P T347 (mkF m 88 #[.val (.int i0), .val (.int i1), .val (.int i2), .val (.int lo), .val (.int up), .val (.int low), .val (.ref x_342), .val (.int (Int32.ofNat (dN up)))] []) := fun t_ k_ => R350 t_ (XS.istore X347.here hx rfl (hb hby at_86) rfl (l' := #[.val (.int i0), .val (.int i1), .val (.int i2), .val (.int lo), .val (.int up), .val (.int low), .val (.ref x_342), .val (.int (Int32.ofNat (dN up)))]) rfl k_)
    have R352 : Go p e below P T347 (mkF m 90 #[.val (.int i0), .val (.int i1), .val (.int i2), .val (.int lo), .val (.int up), .val (.int low), .val (.ref x_342), .val (.int (Int32.ofNat (dN up)))] [(.ref x_342)]) := fun t_ k_ => R351 t_ (XS.aload X347.here hx rfl (hb hby at_88) rfl rfl k_)
    obtain ⟨cq353, kq353, q353a, q353b, q353c⟩ := isOf hZ K347 p342_0
    obtain ⟨rv353, _, ⟨T353, L353, k353, n353⟩, -, X353, ⟨Lc353, hQ353, l353, y353, z353⟩, st353⟩ := X347.virtualBack hx (y := (⟨"java/lang/String", "length", "()I"⟩ : MethodName)) (z := (⟨"java/lang/String", "length", "()I"⟩ : MethodName)) hown (mvT hZ (hw _ (List.mem_of_getElem? (i := 57) rfl))) (mvT hZ (hw _ (List.mem_of_getElem? (i := 58) rfl))) (notFace_of_selects (args := #[]) (mvT hZ (hw _ (List.mem_of_getElem? (i := 60) rfl)))) (mvT hZ (hw _ (List.mem_of_getElem? (i := 60) rfl))) (mvT hZ (hw _ (List.mem_of_getElem? (i := 59) rfl))) (by decide) (backOf (W := 0) (llen_ l Z a0 hw [] x_342 t_342 kb_342 (Int32.ofNat (digL up).length) (((digL up).map lo8).map Value.int) zc T342.heap n0 O342 p342_0 p342_1 p342_2 p342_3 P0 hzc) hZ (hw _ (List.mem_of_getElem? (i := 61) rfl)) (hw _ (List.mem_of_getElem? (i := 36) rfl)) (by decide) (by decide)) q353a q353c (g := (mkF m 90 #[.val (.int i0), .val (.int i1), .val (.int i2), .val (.int lo), .val (.int up), .val (.int low), .val (.ref x_342), .val (.int (Int32.ofNat (dN up)))] [(.ref x_342)])) rfl (by rw [hml]; rfl) (Steps.refl _) (argsL := []) (rest := []) (lenOf pd_16428521 rfl) rfl (by show 2 * 0 + _ ≤ _; exact Nat.le_of_eq rfl) (hb hby at_90) (fun _ _ => ⟨rfl, K347, (by decide : 3 + 0 ≤ _), (by decide : 16 + 0 ≤ _)⟩)
    dsimp only [Pt.U, Pt.locs, Pt.cells, Pt.slots] at X353 l353 y353 z353 st353 hQ353
    subst l353 y353 z353
    obtain ⟨rfl, N353q, K353⟩ := hQ353
    have N353 := Fr.app N347 N353q
    have R354 : Go p e below P T353 (mkF m 93 #[.val (.int i0), .val (.int i1), .val (.int i2), .val (.int lo), .val (.int up), .val (.int low), .val (.ref x_342), .val (.int (Int32.ofNat (dN up)))] [(.int (Int32.ofNat (digL up).length))]) := fun t_ k_ => R352 t_ (st353.trans k_)
    have R355 : Go p e below P T353 (mkF m 95 #[.val (.int i0), .val (.int i1), .val (.int i2), .val (.int lo), .val (.int up), .val (.int low), .val (.ref x_342), .val (.int (Int32.ofNat (dN up)))] [(.int (Int32.ofNat (dN up))), (.int (Int32.ofNat (digL up).length))]) := fun t_ k_ => R354 t_ (XS.iload X353.here hx rfl (hb hby at_93) rfl k_)
    have R356 : Go p e below P T353 (mkF m 100 #[.val (.int i0), .val (.int i1), .val (.int i2), .val (.int lo), .val (.int up), .val (.int low), .val (.ref x_342), .val (.int (Int32.ofNat (dN up)))] []) := fun t_ k_ => R355 t_ (XS.icmpYes X353.here hx rfl (pc0 := 95) (pc' := 100) rfl (hb hby at_95) rfl (teq (congrArg Int32.ofNat (digL_len up))).1 (by decide) (by decide) k_)
    have R357 : Go p e below P T353 (mkF m 102 #[.val (.int i0), .val (.int i1), .val (.int i2), .val (.int lo), .val (.int up), .val (.int low), .val (.ref x_342), .val (.int (Int32.ofNat (dN up)))] [(.ref x_342)]) := fun t_ k_ => R356 t_ (XS.aload X353.here hx rfl (hb hby at_100) rfl rfl k_)
    have R358 : Go p e below P T353 (mkF m 103 #[.val (.int i0), .val (.int i1), .val (.int i2), .val (.int lo), .val (.int up), .val (.int low), .val (.ref x_342), .val (.int (Int32.ofNat (dN up)))] [(.int (0 : Int32)), (.ref x_342)]) := fun t_ k_ => R357 t_ (XS.iconst X353.here hx rfl (hb hby at_102) k_)
    have R359 : Go p e below P T353 (mkF m 105 #[.val (.int i0), .val (.int i1), .val (.int i2), .val (.int lo), .val (.int up), .val (.int low), .val (.ref x_342), .val (.int (Int32.ofNat (dN up)))] [(.int (Int32.ofNat (dN up))), (.int (0 : Int32)), (.ref x_342)]) := fun t_ k_ => R358 t_ (XS.iload X353.here hx rfl (hb hby at_103) rfl k_)
    have R360 : Go p e below P T353 (mkF m 107 #[.val (.int i0), .val (.int i1), .val (.int i2), .val (.int lo), .val (.int up), .val (.int low), .val (.ref x_342), .val (.int (Int32.ofNat (dN up)))] [(.int up), (.int (Int32.ofNat (dN up))), (.int (0 : Int32)), (.ref x_342)]) := fun t_ k_ => R359 t_ (XS.iload X353.here hx rfl (hb hby at_105) rfl k_)
    obtain ⟨rv361, _, ⟨T361, L361, k361, n361⟩, -, X361, ⟨Lc361, hQ361, l361, y361, z361⟩, st361⟩ := Jvm.LawKit.callS X353 hx (y := (⟨"com/example/lexicarta/lexicarta/uml/MultiplicityUpperValuePinLaw", "d", "(Ljava/lang/String;III)Z"⟩ : MethodName)) hown (mvT hZ (hw _ (List.mem_of_getElem? (i := 68) rfl))) (mvT hZ (hw _ (List.mem_of_getElem? (i := 69) rfl))) (mvT hZ (hw _ (List.mem_of_getElem? (i := 55) rfl))) (mvT hZ (hw _ (List.mem_of_getElem? (i := 70) rfl))) (by decide) (backOf (W := 0) (d_ l Z a0 hw [] x_342 t_342 kb_342 (0 : Int32) 0 up zc fm T342.heap n0 O342 p342_0 p342_1 p342_2 p342_3 P0 P6 hzc hfm rfl (by decide) hup0) hZ (hw _ (List.mem_of_getElem? (i := 70) rfl)) (hw _ (List.mem_of_getElem? (i := 55) rfl)) (by decide) (by decide)) (g := (mkF m 107 #[.val (.int i0), .val (.int i1), .val (.int i2), .val (.int lo), .val (.int up), .val (.int low), .val (.ref x_342), .val (.int (Int32.ofNat (dN up)))] [(.int up), (.int (Int32.ofNat (dN up))), (.int (0 : Int32)), (.ref x_342)])) rfl (by rw [hml]; rfl) (argsL := [(.ref x_342), (.int (0 : Int32)), (.int (Int32.ofNat (dN up))), (.int up)]) (rest := []) (lenOf pd_76697771 rfl) rfl (by show 2 * 0 + _ ≤ _; exact Nat.le_of_eq rfl) (hb hby at_107) (fun _ _ => ⟨rfl, K353, (by decide : 3 + 0 ≤ _), (by decide : 16 + 0 ≤ _)⟩)
    dsimp only [Pt.U, Pt.locs, Pt.cells, Pt.slots] at X361 l361 y361 z361 st361 hQ361
    subst l361 y361 z361
    obtain ⟨rfl, N361q, K361⟩ := hQ361
    have N361 := Fr.app N353 N361q
    have R362 : Go p e below P T361 (mkF m 110 #[.val (.int i0), .val (.int i1), .val (.int i2), .val (.int lo), .val (.int up), .val (.int low), .val (.ref x_342), .val (.int (Int32.ofNat (dN up)))] [(.int (1 : Int32))]) := fun t_ k_ => R360 t_ (st361 t_ k_)
    have R363 : Go p e below P T361 (mkF m 113 #[.val (.int i0), .val (.int i1), .val (.int i2), .val (.int lo), .val (.int up), .val (.int low), .val (.ref x_342), .val (.int (Int32.ofNat (dN up)))] []) := fun t_ k_ => R362 t_ (XS.ifNo X361.here hx rfl (hb hby at_110) rfl ((if0 _ _).trans (feq (by decide : ¬ ((1 : Int32) = (0 : Int32)))).1) k_)
    have R364 : Go p e below P T361 (mkF m 115 #[.val (.int i0), .val (.int i1), .val (.int i2), .val (.int lo), .val (.int up), .val (.int low), .val (.ref x_342), .val (.int (Int32.ofNat (dN up)))] [(.ref x_342)]) := fun t_ k_ => R363 t_ (XS.aload X361.here hx rfl (hb hby at_113) rfl rfl k_)
    have R365 : Go p e below P T361 (mkF m 116 #[.val (.int i0), .val (.int i1), .val (.int i2), .val (.int lo), .val (.int up), .val (.int low), .val (.ref x_342), .val (.int (Int32.ofNat (dN up)))] [(.int (1 : Int32)), (.ref x_342)]) := fun t_ k_ => R364 t_ (XS.iconst X361.here hx rfl (hb hby at_115) k_)
    have R366 : Go p e below P T361 (mkF m 118 #[.val (.int i0), .val (.int i1), .val (.int i2), .val (.int lo), .val (.int up), .val (.int low), .val (.ref x_342), .val (.int (Int32.ofNat (dN up)))] [(.int (Int32.ofNat (dN up))), (.int (1 : Int32)), (.ref x_342)]) := fun t_ k_ => R365 t_ (XS.iload X361.here hx rfl (hb hby at_116) rfl k_)
    have R367 : Go p e below P T361 (mkF m 120 #[.val (.int i0), .val (.int i1), .val (.int i2), .val (.int lo), .val (.int up), .val (.int low), .val (.ref x_342), .val (.int (Int32.ofNat (dN up)))] [(.int up), (.int (Int32.ofNat (dN up))), (.int (1 : Int32)), (.ref x_342)]) := fun t_ k_ => R366 t_ (XS.iload X361.here hx rfl (hb hby at_118) rfl k_)
    obtain ⟨rv368, _, ⟨T368, L368, k368, n368⟩, -, X368, ⟨Lc368, hQ368, l368, y368, z368⟩, st368⟩ := Jvm.LawKit.callS X361 hx (y := (⟨"com/example/lexicarta/lexicarta/uml/MultiplicityUpperValuePinLaw", "d", "(Ljava/lang/String;III)Z"⟩ : MethodName)) hown (mvT hZ (hw _ (List.mem_of_getElem? (i := 68) rfl))) (mvT hZ (hw _ (List.mem_of_getElem? (i := 69) rfl))) (mvT hZ (hw _ (List.mem_of_getElem? (i := 55) rfl))) (mvT hZ (hw _ (List.mem_of_getElem? (i := 70) rfl))) (by decide) (backOf (W := 0) (d_ l Z a0 hw [] x_342 t_342 kb_342 (1 : Int32) 1 up zc fm T342.heap n0 O342 p342_0 p342_1 p342_2 p342_3 P0 P6 hzc hfm rfl (by decide) hup0) hZ (hw _ (List.mem_of_getElem? (i := 70) rfl)) (hw _ (List.mem_of_getElem? (i := 55) rfl)) (by decide) (by decide)) (g := (mkF m 120 #[.val (.int i0), .val (.int i1), .val (.int i2), .val (.int lo), .val (.int up), .val (.int low), .val (.ref x_342), .val (.int (Int32.ofNat (dN up)))] [(.int up), (.int (Int32.ofNat (dN up))), (.int (1 : Int32)), (.ref x_342)])) rfl (by rw [hml]; rfl) (argsL := [(.ref x_342), (.int (1 : Int32)), (.int (Int32.ofNat (dN up))), (.int up)]) (rest := []) (lenOf pd_76697771 rfl) rfl (by show 2 * 0 + _ ≤ _; exact Nat.le_of_eq rfl) (hb hby at_120) (fun _ _ => ⟨rfl, K361, (by decide : 3 + 0 ≤ _), (by decide : 16 + 0 ≤ _)⟩)
    dsimp only [Pt.U, Pt.locs, Pt.cells, Pt.slots] at X368 l368 y368 z368 st368 hQ368
    subst l368 y368 z368
    obtain ⟨rfl, N368q, K368⟩ := hQ368
    have N368 := Fr.app N361 N368q
    have R369 : Go p e below P T368 (mkF m 123 #[.val (.int i0), .val (.int i1), .val (.int i2), .val (.int lo), .val (.int up), .val (.int low), .val (.ref x_342), .val (.int (Int32.ofNat (dN up)))] [(.int (1 : Int32))]) := fun t_ k_ => R367 t_ (st368 t_ k_)
    have R370 : Go p e below P T368 (mkF m 126 #[.val (.int i0), .val (.int i1), .val (.int i2), .val (.int lo), .val (.int up), .val (.int low), .val (.ref x_342), .val (.int (Int32.ofNat (dN up)))] []) := fun t_ k_ => R369 t_ (XS.ifNo X368.here hx rfl (hb hby at_123) rfl ((if0 _ _).trans (feq (by decide : ¬ ((1 : Int32) = (0 : Int32)))).1) k_)
    have R371 : Go p e below P T368 (mkF m 128 #[.val (.int i0), .val (.int i1), .val (.int i2), .val (.int lo), .val (.int up), .val (.int low), .val (.ref x_342), .val (.int (Int32.ofNat (dN up)))] [(.ref x_342)]) := fun t_ k_ => R370 t_ (XS.aload X368.here hx rfl (hb hby at_126) rfl rfl k_)
    have R372 : Go p e below P T368 (mkF m 129 #[.val (.int i0), .val (.int i1), .val (.int i2), .val (.int lo), .val (.int up), .val (.int low), .val (.ref x_342), .val (.int (Int32.ofNat (dN up)))] [(.int (2 : Int32)), (.ref x_342)]) := fun t_ k_ => R371 t_ (XS.iconst X368.here hx rfl (hb hby at_128) k_)
    have R373 : Go p e below P T368 (mkF m 131 #[.val (.int i0), .val (.int i1), .val (.int i2), .val (.int lo), .val (.int up), .val (.int low), .val (.ref x_342), .val (.int (Int32.ofNat (dN up)))] [(.int (Int32.ofNat (dN up))), (.int (2 : Int32)), (.ref x_342)]) := fun t_ k_ => R372 t_ (XS.iload X368.here hx rfl (hb hby at_129) rfl k_)
    have R374 : Go p e below P T368 (mkF m 133 #[.val (.int i0), .val (.int i1), .val (.int i2), .val (.int lo), .val (.int up), .val (.int low), .val (.ref x_342), .val (.int (Int32.ofNat (dN up)))] [(.int up), (.int (Int32.ofNat (dN up))), (.int (2 : Int32)), (.ref x_342)]) := fun t_ k_ => R373 t_ (XS.iload X368.here hx rfl (hb hby at_131) rfl k_)
    obtain ⟨rv375, _, ⟨T375, L375, k375, n375⟩, -, X375, ⟨Lc375, hQ375, l375, y375, z375⟩, st375⟩ := Jvm.LawKit.callS X368 hx (y := (⟨"com/example/lexicarta/lexicarta/uml/MultiplicityUpperValuePinLaw", "d", "(Ljava/lang/String;III)Z"⟩ : MethodName)) hown (mvT hZ (hw _ (List.mem_of_getElem? (i := 68) rfl))) (mvT hZ (hw _ (List.mem_of_getElem? (i := 69) rfl))) (mvT hZ (hw _ (List.mem_of_getElem? (i := 55) rfl))) (mvT hZ (hw _ (List.mem_of_getElem? (i := 70) rfl))) (by decide) (backOf (W := 0) (d_ l Z a0 hw [] x_342 t_342 kb_342 (2 : Int32) 2 up zc fm T342.heap n0 O342 p342_0 p342_1 p342_2 p342_3 P0 P6 hzc hfm rfl (by decide) hup0) hZ (hw _ (List.mem_of_getElem? (i := 70) rfl)) (hw _ (List.mem_of_getElem? (i := 55) rfl)) (by decide) (by decide)) (g := (mkF m 133 #[.val (.int i0), .val (.int i1), .val (.int i2), .val (.int lo), .val (.int up), .val (.int low), .val (.ref x_342), .val (.int (Int32.ofNat (dN up)))] [(.int up), (.int (Int32.ofNat (dN up))), (.int (2 : Int32)), (.ref x_342)])) rfl (by rw [hml]; rfl) (argsL := [(.ref x_342), (.int (2 : Int32)), (.int (Int32.ofNat (dN up))), (.int up)]) (rest := []) (lenOf pd_76697771 rfl) rfl (by show 2 * 0 + _ ≤ _; exact Nat.le_of_eq rfl) (hb hby at_133) (fun _ _ => ⟨rfl, K368, (by decide : 3 + 0 ≤ _), (by decide : 16 + 0 ≤ _)⟩)
    dsimp only [Pt.U, Pt.locs, Pt.cells, Pt.slots] at X375 l375 y375 z375 st375 hQ375
    subst l375 y375 z375
    obtain ⟨rfl, N375q, K375⟩ := hQ375
    have N375 := Fr.app N368 N375q
    have R376 : Go p e below P T375 (mkF m 136 #[.val (.int i0), .val (.int i1), .val (.int i2), .val (.int lo), .val (.int up), .val (.int low), .val (.ref x_342), .val (.int (Int32.ofNat (dN up)))] [(.int (1 : Int32))]) := fun t_ k_ => R374 t_ (st375 t_ k_)
    have R377 : Go p e below P T375 (mkF m 139 #[.val (.int i0), .val (.int i1), .val (.int i2), .val (.int lo), .val (.int up), .val (.int low), .val (.ref x_342), .val (.int (Int32.ofNat (dN up)))] []) := fun t_ k_ => R376 t_ (XS.ifNo X375.here hx rfl (hb hby at_136) rfl ((if0 _ _).trans (feq (by decide : ¬ ((1 : Int32) = (0 : Int32)))).1) k_)
    have R378 : Go p e below P T375 (mkF m 141 #[.val (.int i0), .val (.int i1), .val (.int i2), .val (.int lo), .val (.int up), .val (.int low), .val (.ref x_342), .val (.int (Int32.ofNat (dN up)))] [(.ref x_342)]) := fun t_ k_ => R377 t_ (XS.aload X375.here hx rfl (hb hby at_139) rfl rfl k_)
    have R379 : Go p e below P T375 (mkF m 142 #[.val (.int i0), .val (.int i1), .val (.int i2), .val (.int lo), .val (.int up), .val (.int low), .val (.ref x_342), .val (.int (Int32.ofNat (dN up)))] [(.int (3 : Int32)), (.ref x_342)]) := fun t_ k_ => R378 t_ (XS.iconst X375.here hx rfl (hb hby at_141) k_)
    have R380 : Go p e below P T375 (mkF m 144 #[.val (.int i0), .val (.int i1), .val (.int i2), .val (.int lo), .val (.int up), .val (.int low), .val (.ref x_342), .val (.int (Int32.ofNat (dN up)))] [(.int (Int32.ofNat (dN up))), (.int (3 : Int32)), (.ref x_342)]) := fun t_ k_ => R379 t_ (XS.iload X375.here hx rfl (hb hby at_142) rfl k_)
    have R381 : Go p e below P T375 (mkF m 146 #[.val (.int i0), .val (.int i1), .val (.int i2), .val (.int lo), .val (.int up), .val (.int low), .val (.ref x_342), .val (.int (Int32.ofNat (dN up)))] [(.int up), (.int (Int32.ofNat (dN up))), (.int (3 : Int32)), (.ref x_342)]) := fun t_ k_ => R380 t_ (XS.iload X375.here hx rfl (hb hby at_144) rfl k_)
    obtain ⟨rv382, _, ⟨T382, L382, k382, n382⟩, -, X382, ⟨Lc382, hQ382, l382, y382, z382⟩, st382⟩ := Jvm.LawKit.callS X375 hx (y := (⟨"com/example/lexicarta/lexicarta/uml/MultiplicityUpperValuePinLaw", "d", "(Ljava/lang/String;III)Z"⟩ : MethodName)) hown (mvT hZ (hw _ (List.mem_of_getElem? (i := 68) rfl))) (mvT hZ (hw _ (List.mem_of_getElem? (i := 69) rfl))) (mvT hZ (hw _ (List.mem_of_getElem? (i := 55) rfl))) (mvT hZ (hw _ (List.mem_of_getElem? (i := 70) rfl))) (by decide) (backOf (W := 0) (d_ l Z a0 hw [] x_342 t_342 kb_342 (3 : Int32) 3 up zc fm T342.heap n0 O342 p342_0 p342_1 p342_2 p342_3 P0 P6 hzc hfm rfl (by decide) hup0) hZ (hw _ (List.mem_of_getElem? (i := 70) rfl)) (hw _ (List.mem_of_getElem? (i := 55) rfl)) (by decide) (by decide)) (g := (mkF m 146 #[.val (.int i0), .val (.int i1), .val (.int i2), .val (.int lo), .val (.int up), .val (.int low), .val (.ref x_342), .val (.int (Int32.ofNat (dN up)))] [(.int up), (.int (Int32.ofNat (dN up))), (.int (3 : Int32)), (.ref x_342)])) rfl (by rw [hml]; rfl) (argsL := [(.ref x_342), (.int (3 : Int32)), (.int (Int32.ofNat (dN up))), (.int up)]) (rest := []) (lenOf pd_76697771 rfl) rfl (by show 2 * 0 + _ ≤ _; exact Nat.le_of_eq rfl) (hb hby at_146) (fun _ _ => ⟨rfl, K375, (by decide : 3 + 0 ≤ _), (by decide : 16 + 0 ≤ _)⟩)
    dsimp only [Pt.U, Pt.locs, Pt.cells, Pt.slots] at X382 l382 y382 z382 st382 hQ382
    subst l382 y382 z382
    obtain ⟨rfl, N382q, K382⟩ := hQ382
    have N382 := Fr.app N375 N382q
    have R383 : Go p e below P T382 (mkF m 149 #[.val (.int i0), .val (.int i1), .val (.int i2), .val (.int lo), .val (.int up), .val (.int low), .val (.ref x_342), .val (.int (Int32.ofNat (dN up)))] [(.int (1 : Int32))]) := fun t_ k_ => R381 t_ (st382 t_ k_)
    have R384 : Go p e below P T382 (mkF m 152 #[.val (.int i0), .val (.int i1), .val (.int i2), .val (.int lo), .val (.int up), .val (.int low), .val (.ref x_342), .val (.int (Int32.ofNat (dN up)))] []) := fun t_ k_ => R383 t_ (XS.ifNo X382.here hx rfl (hb hby at_149) rfl ((if0 _ _).trans (feq (by decide : ¬ ((1 : Int32) = (0 : Int32)))).1) k_)
    have R385 : Go p e below P T382 (mkF m 154 #[.val (.int i0), .val (.int i1), .val (.int i2), .val (.int lo), .val (.int up), .val (.int low), .val (.ref x_342), .val (.int (Int32.ofNat (dN up)))] [(.ref x_342)]) := fun t_ k_ => R384 t_ (XS.aload X382.here hx rfl (hb hby at_152) rfl rfl k_)
    have R386 : Go p e below P T382 (mkF m 155 #[.val (.int i0), .val (.int i1), .val (.int i2), .val (.int lo), .val (.int up), .val (.int low), .val (.ref x_342), .val (.int (Int32.ofNat (dN up)))] [(.int (4 : Int32)), (.ref x_342)]) := fun t_ k_ => R385 t_ (XS.iconst X382.here hx rfl (hb hby at_154) k_)
    have R387 : Go p e below P T382 (mkF m 157 #[.val (.int i0), .val (.int i1), .val (.int i2), .val (.int lo), .val (.int up), .val (.int low), .val (.ref x_342), .val (.int (Int32.ofNat (dN up)))] [(.int (Int32.ofNat (dN up))), (.int (4 : Int32)), (.ref x_342)]) := fun t_ k_ => R386 t_ (XS.iload X382.here hx rfl (hb hby at_155) rfl k_)
    have R388 : Go p e below P T382 (mkF m 159 #[.val (.int i0), .val (.int i1), .val (.int i2), .val (.int lo), .val (.int up), .val (.int low), .val (.ref x_342), .val (.int (Int32.ofNat (dN up)))] [(.int up), (.int (Int32.ofNat (dN up))), (.int (4 : Int32)), (.ref x_342)]) := fun t_ k_ => R387 t_ (XS.iload X382.here hx rfl (hb hby at_157) rfl k_)
    obtain ⟨rv389, _, ⟨T389, L389, k389, n389⟩, -, X389, ⟨Lc389, hQ389, l389, y389, z389⟩, st389⟩ := Jvm.LawKit.callS X382 hx (y := (⟨"com/example/lexicarta/lexicarta/uml/MultiplicityUpperValuePinLaw", "d", "(Ljava/lang/String;III)Z"⟩ : MethodName)) hown (mvT hZ (hw _ (List.mem_of_getElem? (i := 68) rfl))) (mvT hZ (hw _ (List.mem_of_getElem? (i := 69) rfl))) (mvT hZ (hw _ (List.mem_of_getElem? (i := 55) rfl))) (mvT hZ (hw _ (List.mem_of_getElem? (i := 70) rfl))) (by decide) (backOf (W := 0) (d_ l Z a0 hw [] x_342 t_342 kb_342 (4 : Int32) 4 up zc fm T342.heap n0 O342 p342_0 p342_1 p342_2 p342_3 P0 P6 hzc hfm rfl (by decide) hup0) hZ (hw _ (List.mem_of_getElem? (i := 70) rfl)) (hw _ (List.mem_of_getElem? (i := 55) rfl)) (by decide) (by decide)) (g := (mkF m 159 #[.val (.int i0), .val (.int i1), .val (.int i2), .val (.int lo), .val (.int up), .val (.int low), .val (.ref x_342), .val (.int (Int32.ofNat (dN up)))] [(.int up), (.int (Int32.ofNat (dN up))), (.int (4 : Int32)), (.ref x_342)])) rfl (by rw [hml]; rfl) (argsL := [(.ref x_342), (.int (4 : Int32)), (.int (Int32.ofNat (dN up))), (.int up)]) (rest := []) (lenOf pd_76697771 rfl) rfl (by show 2 * 0 + _ ≤ _; exact Nat.le_of_eq rfl) (hb hby at_159) (fun _ _ => ⟨rfl, K382, (by decide : 3 + 0 ≤ _), (by decide : 16 + 0 ≤ _)⟩)
    dsimp only [Pt.U, Pt.locs, Pt.cells, Pt.slots] at X389 l389 y389 z389 st389 hQ389
    subst l389 y389 z389
    obtain ⟨rfl, N389q, K389⟩ := hQ389
    have N389 := Fr.app N382 N389q
    have R390 : Go p e below P T389 (mkF m 162 #[.val (.int i0), .val (.int i1), .val (.int i2), .val (.int lo), .val (.int up), .val (.int low), .val (.ref x_342), .val (.int (Int32.ofNat (dN up)))] [(.int (1 : Int32))]) := fun t_ k_ => R388 t_ (st389 t_ k_)
    have R391 : Go p e below P T389 (mkF m 165 #[.val (.int i0), .val (.int i1), .val (.int i2), .val (.int lo), .val (.int up), .val (.int low), .val (.ref x_342), .val (.int (Int32.ofNat (dN up)))] []) := fun t_ k_ => R390 t_ (XS.ifNo X389.here hx rfl (hb hby at_162) rfl ((if0 _ _).trans (feq (by decide : ¬ ((1 : Int32) = (0 : Int32)))).1) k_)
    have R392 : Go p e below P T389 (mkF m 167 #[.val (.int i0), .val (.int i1), .val (.int i2), .val (.int lo), .val (.int up), .val (.int low), .val (.ref x_342), .val (.int (Int32.ofNat (dN up)))] [(.ref x_342)]) := fun t_ k_ => R391 t_ (XS.aload X389.here hx rfl (hb hby at_165) rfl rfl k_)
    have R393 : Go p e below P T389 (mkF m 168 #[.val (.int i0), .val (.int i1), .val (.int i2), .val (.int lo), .val (.int up), .val (.int low), .val (.ref x_342), .val (.int (Int32.ofNat (dN up)))] [(.int (5 : Int32)), (.ref x_342)]) := fun t_ k_ => R392 t_ (XS.iconst X389.here hx rfl (hb hby at_167) k_)
    have R394 : Go p e below P T389 (mkF m 170 #[.val (.int i0), .val (.int i1), .val (.int i2), .val (.int lo), .val (.int up), .val (.int low), .val (.ref x_342), .val (.int (Int32.ofNat (dN up)))] [(.int (Int32.ofNat (dN up))), (.int (5 : Int32)), (.ref x_342)]) := fun t_ k_ => R393 t_ (XS.iload X389.here hx rfl (hb hby at_168) rfl k_)
    have R395 : Go p e below P T389 (mkF m 172 #[.val (.int i0), .val (.int i1), .val (.int i2), .val (.int lo), .val (.int up), .val (.int low), .val (.ref x_342), .val (.int (Int32.ofNat (dN up)))] [(.int up), (.int (Int32.ofNat (dN up))), (.int (5 : Int32)), (.ref x_342)]) := fun t_ k_ => R394 t_ (XS.iload X389.here hx rfl (hb hby at_170) rfl k_)
    obtain ⟨rv396, _, ⟨T396, L396, k396, n396⟩, -, X396, ⟨Lc396, hQ396, l396, y396, z396⟩, st396⟩ := Jvm.LawKit.callS X389 hx (y := (⟨"com/example/lexicarta/lexicarta/uml/MultiplicityUpperValuePinLaw", "d", "(Ljava/lang/String;III)Z"⟩ : MethodName)) hown (mvT hZ (hw _ (List.mem_of_getElem? (i := 68) rfl))) (mvT hZ (hw _ (List.mem_of_getElem? (i := 69) rfl))) (mvT hZ (hw _ (List.mem_of_getElem? (i := 55) rfl))) (mvT hZ (hw _ (List.mem_of_getElem? (i := 70) rfl))) (by decide) (backOf (W := 0) (d_ l Z a0 hw [] x_342 t_342 kb_342 (5 : Int32) 5 up zc fm T342.heap n0 O342 p342_0 p342_1 p342_2 p342_3 P0 P6 hzc hfm rfl (by decide) hup0) hZ (hw _ (List.mem_of_getElem? (i := 70) rfl)) (hw _ (List.mem_of_getElem? (i := 55) rfl)) (by decide) (by decide)) (g := (mkF m 172 #[.val (.int i0), .val (.int i1), .val (.int i2), .val (.int lo), .val (.int up), .val (.int low), .val (.ref x_342), .val (.int (Int32.ofNat (dN up)))] [(.int up), (.int (Int32.ofNat (dN up))), (.int (5 : Int32)), (.ref x_342)])) rfl (by rw [hml]; rfl) (argsL := [(.ref x_342), (.int (5 : Int32)), (.int (Int32.ofNat (dN up))), (.int up)]) (rest := []) (lenOf pd_76697771 rfl) rfl (by show 2 * 0 + _ ≤ _; exact Nat.le_of_eq rfl) (hb hby at_172) (fun _ _ => ⟨rfl, K389, (by decide : 3 + 0 ≤ _), (by decide : 16 + 0 ≤ _)⟩)
    dsimp only [Pt.U, Pt.locs, Pt.cells, Pt.slots] at X396 l396 y396 z396 st396 hQ396
    subst l396 y396 z396
    obtain ⟨rfl, N396q, K396⟩ := hQ396
    have N396 := Fr.app N389 N396q
    have R397 : Go p e below P T396 (mkF m 175 #[.val (.int i0), .val (.int i1), .val (.int i2), .val (.int lo), .val (.int up), .val (.int low), .val (.ref x_342), .val (.int (Int32.ofNat (dN up)))] [(.int (1 : Int32))]) := fun t_ k_ => R395 t_ (st396 t_ k_)
    have R398 : Go p e below P T396 (mkF m 178 #[.val (.int i0), .val (.int i1), .val (.int i2), .val (.int lo), .val (.int up), .val (.int low), .val (.ref x_342), .val (.int (Int32.ofNat (dN up)))] []) := fun t_ k_ => R397 t_ (XS.ifNo X396.here hx rfl (hb hby at_175) rfl ((if0 _ _).trans (feq (by decide : ¬ ((1 : Int32) = (0 : Int32)))).1) k_)
    have R399 : Go p e below P T396 (mkF m 180 #[.val (.int i0), .val (.int i1), .val (.int i2), .val (.int lo), .val (.int up), .val (.int low), .val (.ref x_342), .val (.int (Int32.ofNat (dN up)))] [(.ref x_342)]) := fun t_ k_ => R398 t_ (XS.aload X396.here hx rfl (hb hby at_178) rfl rfl k_)
    have R400 : Go p e below P T396 (mkF m 182 #[.val (.int i0), .val (.int i1), .val (.int i2), .val (.int lo), .val (.int up), .val (.int low), .val (.ref x_342), .val (.int (Int32.ofNat (dN up)))] [(.int (6 : Int32)), (.ref x_342)]) := fun t_ k_ => R399 t_ (XS.bipush X396.here hx rfl (hb hby at_180) k_)
    have R401 : Go p e below P T396 (mkF m 184 #[.val (.int i0), .val (.int i1), .val (.int i2), .val (.int lo), .val (.int up), .val (.int low), .val (.ref x_342), .val (.int (Int32.ofNat (dN up)))] [(.int (Int32.ofNat (dN up))), (.int (6 : Int32)), (.ref x_342)]) := fun t_ k_ => R400 t_ (XS.iload X396.here hx rfl (hb hby at_182) rfl k_)
    have R402 : Go p e below P T396 (mkF m 186 #[.val (.int i0), .val (.int i1), .val (.int i2), .val (.int lo), .val (.int up), .val (.int low), .val (.ref x_342), .val (.int (Int32.ofNat (dN up)))] [(.int up), (.int (Int32.ofNat (dN up))), (.int (6 : Int32)), (.ref x_342)]) := fun t_ k_ => R401 t_ (XS.iload X396.here hx rfl (hb hby at_184) rfl k_)
    obtain ⟨rv403, _, ⟨T403, L403, k403, n403⟩, -, X403, ⟨Lc403, hQ403, l403, y403, z403⟩, st403⟩ := Jvm.LawKit.callS X396 hx (y := (⟨"com/example/lexicarta/lexicarta/uml/MultiplicityUpperValuePinLaw", "d", "(Ljava/lang/String;III)Z"⟩ : MethodName)) hown (mvT hZ (hw _ (List.mem_of_getElem? (i := 68) rfl))) (mvT hZ (hw _ (List.mem_of_getElem? (i := 69) rfl))) (mvT hZ (hw _ (List.mem_of_getElem? (i := 55) rfl))) (mvT hZ (hw _ (List.mem_of_getElem? (i := 70) rfl))) (by decide) (backOf (W := 0) (d_ l Z a0 hw [] x_342 t_342 kb_342 (6 : Int32) 6 up zc fm T342.heap n0 O342 p342_0 p342_1 p342_2 p342_3 P0 P6 hzc hfm rfl (by decide) hup0) hZ (hw _ (List.mem_of_getElem? (i := 70) rfl)) (hw _ (List.mem_of_getElem? (i := 55) rfl)) (by decide) (by decide)) (g := (mkF m 186 #[.val (.int i0), .val (.int i1), .val (.int i2), .val (.int lo), .val (.int up), .val (.int low), .val (.ref x_342), .val (.int (Int32.ofNat (dN up)))] [(.int up), (.int (Int32.ofNat (dN up))), (.int (6 : Int32)), (.ref x_342)])) rfl (by rw [hml]; rfl) (argsL := [(.ref x_342), (.int (6 : Int32)), (.int (Int32.ofNat (dN up))), (.int up)]) (rest := []) (lenOf pd_76697771 rfl) rfl (by show 2 * 0 + _ ≤ _; exact Nat.le_of_eq rfl) (hb hby at_186) (fun _ _ => ⟨rfl, K396, (by decide : 3 + 0 ≤ _), (by decide : 16 + 0 ≤ _)⟩)
    dsimp only [Pt.U, Pt.locs, Pt.cells, Pt.slots] at X403 l403 y403 z403 st403 hQ403
    subst l403 y403 z403
    obtain ⟨rfl, N403q, K403⟩ := hQ403
    have N403 := Fr.app N396 N403q
    have R404 : Go p e below P T403 (mkF m 189 #[.val (.int i0), .val (.int i1), .val (.int i2), .val (.int lo), .val (.int up), .val (.int low), .val (.ref x_342), .val (.int (Int32.ofNat (dN up)))] [(.int (1 : Int32))]) := fun t_ k_ => R402 t_ (st403 t_ k_)
    have R405 : Go p e below P T403 (mkF m 192 #[.val (.int i0), .val (.int i1), .val (.int i2), .val (.int lo), .val (.int up), .val (.int low), .val (.ref x_342), .val (.int (Int32.ofNat (dN up)))] []) := fun t_ k_ => R404 t_ (XS.ifNo X403.here hx rfl (hb hby at_189) rfl ((if0 _ _).trans (feq (by decide : ¬ ((1 : Int32) = (0 : Int32)))).1) k_)
    have R406 : Go p e below P T403 (mkF m 194 #[.val (.int i0), .val (.int i1), .val (.int i2), .val (.int lo), .val (.int up), .val (.int low), .val (.ref x_342), .val (.int (Int32.ofNat (dN up)))] [(.ref x_342)]) := fun t_ k_ => R405 t_ (XS.aload X403.here hx rfl (hb hby at_192) rfl rfl k_)
    have R407 : Go p e below P T403 (mkF m 196 #[.val (.int i0), .val (.int i1), .val (.int i2), .val (.int lo), .val (.int up), .val (.int low), .val (.ref x_342), .val (.int (Int32.ofNat (dN up)))] [(.int (7 : Int32)), (.ref x_342)]) := fun t_ k_ => R406 t_ (XS.bipush X403.here hx rfl (hb hby at_194) k_)
    have R408 : Go p e below P T403 (mkF m 198 #[.val (.int i0), .val (.int i1), .val (.int i2), .val (.int lo), .val (.int up), .val (.int low), .val (.ref x_342), .val (.int (Int32.ofNat (dN up)))] [(.int (Int32.ofNat (dN up))), (.int (7 : Int32)), (.ref x_342)]) := fun t_ k_ => R407 t_ (XS.iload X403.here hx rfl (hb hby at_196) rfl k_)
    have R409 : Go p e below P T403 (mkF m 200 #[.val (.int i0), .val (.int i1), .val (.int i2), .val (.int lo), .val (.int up), .val (.int low), .val (.ref x_342), .val (.int (Int32.ofNat (dN up)))] [(.int up), (.int (Int32.ofNat (dN up))), (.int (7 : Int32)), (.ref x_342)]) := fun t_ k_ => R408 t_ (XS.iload X403.here hx rfl (hb hby at_198) rfl k_)
    obtain ⟨rv410, _, ⟨T410, L410, k410, n410⟩, -, X410, ⟨Lc410, hQ410, l410, y410, z410⟩, st410⟩ := Jvm.LawKit.callS X403 hx (y := (⟨"com/example/lexicarta/lexicarta/uml/MultiplicityUpperValuePinLaw", "d", "(Ljava/lang/String;III)Z"⟩ : MethodName)) hown (mvT hZ (hw _ (List.mem_of_getElem? (i := 68) rfl))) (mvT hZ (hw _ (List.mem_of_getElem? (i := 69) rfl))) (mvT hZ (hw _ (List.mem_of_getElem? (i := 55) rfl))) (mvT hZ (hw _ (List.mem_of_getElem? (i := 70) rfl))) (by decide) (backOf (W := 0) (d_ l Z a0 hw [] x_342 t_342 kb_342 (7 : Int32) 7 up zc fm T342.heap n0 O342 p342_0 p342_1 p342_2 p342_3 P0 P6 hzc hfm rfl (by decide) hup0) hZ (hw _ (List.mem_of_getElem? (i := 70) rfl)) (hw _ (List.mem_of_getElem? (i := 55) rfl)) (by decide) (by decide)) (g := (mkF m 200 #[.val (.int i0), .val (.int i1), .val (.int i2), .val (.int lo), .val (.int up), .val (.int low), .val (.ref x_342), .val (.int (Int32.ofNat (dN up)))] [(.int up), (.int (Int32.ofNat (dN up))), (.int (7 : Int32)), (.ref x_342)])) rfl (by rw [hml]; rfl) (argsL := [(.ref x_342), (.int (7 : Int32)), (.int (Int32.ofNat (dN up))), (.int up)]) (rest := []) (lenOf pd_76697771 rfl) rfl (by show 2 * 0 + _ ≤ _; exact Nat.le_of_eq rfl) (hb hby at_200) (fun _ _ => ⟨rfl, K403, (by decide : 3 + 0 ≤ _), (by decide : 16 + 0 ≤ _)⟩)
    dsimp only [Pt.U, Pt.locs, Pt.cells, Pt.slots] at X410 l410 y410 z410 st410 hQ410
    subst l410 y410 z410
    obtain ⟨rfl, N410q, K410⟩ := hQ410
    have N410 := Fr.app N403 N410q
    have R411 : Go p e below P T410 (mkF m 203 #[.val (.int i0), .val (.int i1), .val (.int i2), .val (.int lo), .val (.int up), .val (.int low), .val (.ref x_342), .val (.int (Int32.ofNat (dN up)))] [(.int (1 : Int32))]) := fun t_ k_ => R409 t_ (st410 t_ k_)
    have R412 : Go p e below P T410 (mkF m 206 #[.val (.int i0), .val (.int i1), .val (.int i2), .val (.int lo), .val (.int up), .val (.int low), .val (.ref x_342), .val (.int (Int32.ofNat (dN up)))] []) := fun t_ k_ => R411 t_ (XS.ifNo X410.here hx rfl (hb hby at_203) rfl ((if0 _ _).trans (feq (by decide : ¬ ((1 : Int32) = (0 : Int32)))).1) k_)
    have R413 : Go p e below P T410 (mkF m 208 #[.val (.int i0), .val (.int i1), .val (.int i2), .val (.int lo), .val (.int up), .val (.int low), .val (.ref x_342), .val (.int (Int32.ofNat (dN up)))] [(.ref x_342)]) := fun t_ k_ => R412 t_ (XS.aload X410.here hx rfl (hb hby at_206) rfl rfl k_)
    have R414 : Go p e below P T410 (mkF m 210 #[.val (.int i0), .val (.int i1), .val (.int i2), .val (.int lo), .val (.int up), .val (.int low), .val (.ref x_342), .val (.int (Int32.ofNat (dN up)))] [(.int (8 : Int32)), (.ref x_342)]) := fun t_ k_ => R413 t_ (XS.bipush X410.here hx rfl (hb hby at_208) k_)
    have R415 : Go p e below P T410 (mkF m 212 #[.val (.int i0), .val (.int i1), .val (.int i2), .val (.int lo), .val (.int up), .val (.int low), .val (.ref x_342), .val (.int (Int32.ofNat (dN up)))] [(.int (Int32.ofNat (dN up))), (.int (8 : Int32)), (.ref x_342)]) := fun t_ k_ => R414 t_ (XS.iload X410.here hx rfl (hb hby at_210) rfl k_)
    have R416 : Go p e below P T410 (mkF m 214 #[.val (.int i0), .val (.int i1), .val (.int i2), .val (.int lo), .val (.int up), .val (.int low), .val (.ref x_342), .val (.int (Int32.ofNat (dN up)))] [(.int up), (.int (Int32.ofNat (dN up))), (.int (8 : Int32)), (.ref x_342)]) := fun t_ k_ => R415 t_ (XS.iload X410.here hx rfl (hb hby at_212) rfl k_)
    obtain ⟨rv417, _, ⟨T417, L417, k417, n417⟩, -, X417, ⟨Lc417, hQ417, l417, y417, z417⟩, st417⟩ := Jvm.LawKit.callS X410 hx (y := (⟨"com/example/lexicarta/lexicarta/uml/MultiplicityUpperValuePinLaw", "d", "(Ljava/lang/String;III)Z"⟩ : MethodName)) hown (mvT hZ (hw _ (List.mem_of_getElem? (i := 68) rfl))) (mvT hZ (hw _ (List.mem_of_getElem? (i := 69) rfl))) (mvT hZ (hw _ (List.mem_of_getElem? (i := 55) rfl))) (mvT hZ (hw _ (List.mem_of_getElem? (i := 70) rfl))) (by decide) (backOf (W := 0) (d_ l Z a0 hw [] x_342 t_342 kb_342 (8 : Int32) 8 up zc fm T342.heap n0 O342 p342_0 p342_1 p342_2 p342_3 P0 P6 hzc hfm rfl (by decide) hup0) hZ (hw _ (List.mem_of_getElem? (i := 70) rfl)) (hw _ (List.mem_of_getElem? (i := 55) rfl)) (by decide) (by decide)) (g := (mkF m 214 #[.val (.int i0), .val (.int i1), .val (.int i2), .val (.int lo), .val (.int up), .val (.int low), .val (.ref x_342), .val (.int (Int32.ofNat (dN up)))] [(.int up), (.int (Int32.ofNat (dN up))), (.int (8 : Int32)), (.ref x_342)])) rfl (by rw [hml]; rfl) (argsL := [(.ref x_342), (.int (8 : Int32)), (.int (Int32.ofNat (dN up))), (.int up)]) (rest := []) (lenOf pd_76697771 rfl) rfl (by show 2 * 0 + _ ≤ _; exact Nat.le_of_eq rfl) (hb hby at_214) (fun _ _ => ⟨rfl, K410, (by decide : 3 + 0 ≤ _), (by decide : 16 + 0 ≤ _)⟩)
    dsimp only [Pt.U, Pt.locs, Pt.cells, Pt.slots] at X417 l417 y417 z417 st417 hQ417
    subst l417 y417 z417
    obtain ⟨rfl, N417q, K417⟩ := hQ417
    have N417 := Fr.app N410 N417q
    have R418 : Go p e below P T417 (mkF m 217 #[.val (.int i0), .val (.int i1), .val (.int i2), .val (.int lo), .val (.int up), .val (.int low), .val (.ref x_342), .val (.int (Int32.ofNat (dN up)))] [(.int (1 : Int32))]) := fun t_ k_ => R416 t_ (st417 t_ k_)
    have R419 : Go p e below P T417 (mkF m 220 #[.val (.int i0), .val (.int i1), .val (.int i2), .val (.int lo), .val (.int up), .val (.int low), .val (.ref x_342), .val (.int (Int32.ofNat (dN up)))] []) := fun t_ k_ => R418 t_ (XS.ifNo X417.here hx rfl (hb hby at_217) rfl ((if0 _ _).trans (feq (by decide : ¬ ((1 : Int32) = (0 : Int32)))).1) k_)
    have R420 : Go p e below P T417 (mkF m 222 #[.val (.int i0), .val (.int i1), .val (.int i2), .val (.int lo), .val (.int up), .val (.int low), .val (.ref x_342), .val (.int (Int32.ofNat (dN up)))] [(.ref x_342)]) := fun t_ k_ => R419 t_ (XS.aload X417.here hx rfl (hb hby at_220) rfl rfl k_)
    have R421 : Go p e below P T417 (mkF m 224 #[.val (.int i0), .val (.int i1), .val (.int i2), .val (.int lo), .val (.int up), .val (.int low), .val (.ref x_342), .val (.int (Int32.ofNat (dN up)))] [(.int (9 : Int32)), (.ref x_342)]) := fun t_ k_ => R420 t_ (XS.bipush X417.here hx rfl (hb hby at_222) k_)
    have R422 : Go p e below P T417 (mkF m 226 #[.val (.int i0), .val (.int i1), .val (.int i2), .val (.int lo), .val (.int up), .val (.int low), .val (.ref x_342), .val (.int (Int32.ofNat (dN up)))] [(.int (Int32.ofNat (dN up))), (.int (9 : Int32)), (.ref x_342)]) := fun t_ k_ => R421 t_ (XS.iload X417.here hx rfl (hb hby at_224) rfl k_)
    have R423 : Go p e below P T417 (mkF m 228 #[.val (.int i0), .val (.int i1), .val (.int i2), .val (.int lo), .val (.int up), .val (.int low), .val (.ref x_342), .val (.int (Int32.ofNat (dN up)))] [(.int up), (.int (Int32.ofNat (dN up))), (.int (9 : Int32)), (.ref x_342)]) := fun t_ k_ => R422 t_ (XS.iload X417.here hx rfl (hb hby at_226) rfl k_)
    obtain ⟨rv424, _, ⟨T424, L424, k424, n424⟩, -, X424, ⟨Lc424, hQ424, l424, y424, z424⟩, st424⟩ := Jvm.LawKit.callS X417 hx (y := (⟨"com/example/lexicarta/lexicarta/uml/MultiplicityUpperValuePinLaw", "d", "(Ljava/lang/String;III)Z"⟩ : MethodName)) hown (mvT hZ (hw _ (List.mem_of_getElem? (i := 68) rfl))) (mvT hZ (hw _ (List.mem_of_getElem? (i := 69) rfl))) (mvT hZ (hw _ (List.mem_of_getElem? (i := 55) rfl))) (mvT hZ (hw _ (List.mem_of_getElem? (i := 70) rfl))) (by decide) (backOf (W := 0) (d_ l Z a0 hw [] x_342 t_342 kb_342 (9 : Int32) 9 up zc fm T342.heap n0 O342 p342_0 p342_1 p342_2 p342_3 P0 P6 hzc hfm rfl (by decide) hup0) hZ (hw _ (List.mem_of_getElem? (i := 70) rfl)) (hw _ (List.mem_of_getElem? (i := 55) rfl)) (by decide) (by decide)) (g := (mkF m 228 #[.val (.int i0), .val (.int i1), .val (.int i2), .val (.int lo), .val (.int up), .val (.int low), .val (.ref x_342), .val (.int (Int32.ofNat (dN up)))] [(.int up), (.int (Int32.ofNat (dN up))), (.int (9 : Int32)), (.ref x_342)])) rfl (by rw [hml]; rfl) (argsL := [(.ref x_342), (.int (9 : Int32)), (.int (Int32.ofNat (dN up))), (.int up)]) (rest := []) (lenOf pd_76697771 rfl) rfl (by show 2 * 0 + _ ≤ _; exact Nat.le_of_eq rfl) (hb hby at_228) (fun _ _ => ⟨rfl, K417, (by decide : 3 + 0 ≤ _), (by decide : 16 + 0 ≤ _)⟩)
    dsimp only [Pt.U, Pt.locs, Pt.cells, Pt.slots] at X424 l424 y424 z424 st424 hQ424
    subst l424 y424 z424
    obtain ⟨rfl, N424q, K424⟩ := hQ424
    have N424 := Fr.app N417 N424q
    have R425 : Go p e below P T424 (mkF m 231 #[.val (.int i0), .val (.int i1), .val (.int i2), .val (.int lo), .val (.int up), .val (.int low), .val (.ref x_342), .val (.int (Int32.ofNat (dN up)))] [(.int (1 : Int32))]) := fun t_ k_ => R423 t_ (st424 t_ k_)
    have R426 : Go p e below P T424 (mkF m 234 #[.val (.int i0), .val (.int i1), .val (.int i2), .val (.int lo), .val (.int up), .val (.int low), .val (.ref x_342), .val (.int (Int32.ofNat (dN up)))] []) := fun t_ k_ => R425 t_ (XS.ifNo X424.here hx rfl (hb hby at_231) rfl ((if0 _ _).trans (feq (by decide : ¬ ((1 : Int32) = (0 : Int32)))).1) k_)
    have R427 : Go p e below P T424 (mkF m 235 #[.val (.int i0), .val (.int i1), .val (.int i2), .val (.int lo), .val (.int up), .val (.int low), .val (.ref x_342), .val (.int (Int32.ofNat (dN up)))] [(.int (1 : Int32))]) := fun t_ k_ => R426 t_ (XS.iconst X424.here hx rfl (hb hby at_234) k_)
    have R428 : Go p e below P T424 (mkF m 239 #[.val (.int i0), .val (.int i1), .val (.int i2), .val (.int lo), .val (.int up), .val (.int low), .val (.ref x_342), .val (.int (Int32.ofNat (dN up)))] [(.int (1 : Int32))]) := fun t_ k_ => R427 t_ (XS.goto X424.here hx rfl (pc0 := 235) (pc' := 239) rfl (hb hby at_235) (by decide) (by decide) k_)
    obtain ⟨fs, hr, hrun, hended, hend⟩ := X424.leaveW hS0 (by rw [K424]; exact hk343 : _ ≤ T424.heap.size) (v := some (.int (nar .boolean (1 : Int32)))) (fun h => by rw [Bd.returns] at h; cases h)
    have hCe := C343.trans (CHv.at X424 hZ hEL C343.1)
    exact ⟨_, _, hP _ (R428 _ (retN X424 hx (t := .boolean) Bd.returns (by simp) (hb hby at_239) hr)), hrun, hended, _, _, rfl, ⟨rfl, N424, (K424.symm ▸ ((((Keep.refl h0 []).ext E332).trans K339 (allS (Or.inr (Nat.le_of_eq g332.symm)) all0)).trans K342 all0))⟩, (by show CHr Z EL0 s.vm s.heap T424.vm T424.heap; rw [hh, K424]; exact hCe), ⟨hend.1, hend.2.1, hend.2.2.1, hend.2.2.2.mono (by decide) (by decide)⟩⟩
  · have R429 : Go p e below P s₁ (mkF m 11 #[.val (.int i0), .val (.int i1), .val (.int i2), .val (.int lo), .unset, .unset, .unset, .unset] []) := fun t_ k_ => R318 t_ (XS.ifNo X0.here hx rfl (hb hby at_8) rfl ((if0 _ _).trans (feq hc319).1) k_)
    obtain ⟨T430, h430, X430, e430, E430, A430, D430, -, st430⟩ := newO X0 hx hZ hown (hw _ (List.mem_of_getElem? (i := 5) rfl)) (hw _ (List.mem_of_getElem? (i := 6) rfl)) (hw _ (List.mem_of_getElem? (i := 7) rfl)) e0 (g := (mkF m 11 #[.val (.int i0), .val (.int i1), .val (.int i2), .val (.int lo), .unset, .unset, .unset, .unset] [])) rfl (hb hby at_11) (by decide) (by decide)
    obtain ⟨b430, g430⟩ : ∃ z, z = h0.size := ⟨_, rfl⟩
    rw [← g430] at A430 D430 st430
    have O430 := O0.ext E430
    have C431 := C0.trans (CHr.ext E430 C0.1)
    have hk431 := Nat.le_trans hk0 E430.1
    have Sb430 : Safe Z EL0 _ _ _ := Safe.ext E430 C0.1 (Safe.new (Nat.le_of_eq g430.symm))
    have F430_20 : Fld Z h430 b430 "com/example/lexicarta/lexicarta/uml/Multiplicity" "lower" "I" (.int (0 : Int32)) := D430 (Or.inr (hw _ (List.mem_of_getElem? (i := 20) rfl))) (ty := .int) (by decide)
    have F430_22 : Fld Z h430 b430 "com/example/lexicarta/lexicarta/uml/Multiplicity" "upper" "I" (.int (0 : Int32)) := D430 (Or.inr (hw _ (List.mem_of_getElem? (i := 22) rfl))) (ty := .int) (by decide)
    have R432 : Go p e below P T430 (mkF m 14 #[.val (.int i0), .val (.int i1), .val (.int i2), .val (.int lo), .unset, .unset, .unset, .unset] [(.ref b430)]) := fun t_ k_ => R429 t_ (st430 t_ k_)
    have R433 : Go p e below P T430 (mkF m 15 #[.val (.int i0), .val (.int i1), .val (.int i2), .val (.int lo), .unset, .unset, .unset, .unset] [(.ref b430), (.ref b430)]) := fun t_ k_ => R432 t_ (XS.dup X430.here hx rfl (hb hby at_14) rfl rfl k_)
    have R434 : Go p e below P T430 (mkF m 16 #[.val (.int i0), .val (.int i1), .val (.int i2), .val (.int lo), .unset, .unset, .unset, .unset] [(.int lo), (.ref b430), (.ref b430)]) := fun t_ k_ => R433 t_ (XS.iloadN X430.here hx rfl (hb hby at_15) rfl k_)
    have R435 : Go p e below P T430 (mkF m 17 #[.val (.int i0), .val (.int i1), .val (.int i2), .val (.int lo), .unset, .unset, .unset, .unset] [(.int (-1 : Int32)), (.int lo), (.ref b430), (.ref b430)]) := fun t_ k_ => R434 t_ (XS.iconst X430.here hx rfl (hb hby at_16) k_)
    have Sw436 : Safe Z EL0 _ _ b430 := Sb430
    obtain ⟨rv437, _, ⟨T437, L437, k437, n437⟩, -, X437, ⟨Lc437, hQ437, l437, y437, z437⟩, st437⟩ := X430.specialBack hx (y := (⟨"com/example/lexicarta/lexicarta/uml/Multiplicity", "<init>", "(II)V"⟩ : MethodName)) rfl hown (mvT hZ (hw _ (List.mem_of_getElem? (i := 8) rfl))) (mvT hZ (hw _ (List.mem_of_getElem? (i := 9) rfl))) (mvT hZ (hw _ (List.mem_of_getElem? (i := 10) rfl))) (by decide) (backOf (W := 1) (mulS_ l Z a0 hw [] b430 lo h430 n0 O430 A430 F430_20 F430_22 (Nat.le_trans (oldLe O0) (Nat.le_of_eq g430.symm)) hlo0) hZ (hw _ (List.mem_of_getElem? (i := 10) rfl)) (hw _ (List.mem_of_getElem? (i := 7) rfl)) (by decide) (by decide)) (g := (mkF m 17 #[.val (.int i0), .val (.int i1), .val (.int i2), .val (.int lo), .unset, .unset, .unset, .unset] [(.int (-1 : Int32)), (.int lo), (.ref b430), (.ref b430)])) rfl (by rw [hml]; rfl) (Steps.refl _) (a := b430) (argsL := [(.int lo), (.int (-1 : Int32))]) (rest := [(.ref b430)]) (lenOf pd_1793250 rfl) rfl (by show 2 * 0 + _ ≤ _; exact Nat.le_of_eq rfl) (hb hby at_17) (fun _ _ => ⟨rfl, e430, (by decide : 1 + 0 ≤ _), (by decide : 2 + 0 ≤ _)⟩)
    dsimp only [Pt.U, Pt.locs, Pt.cells, Pt.slots] at X437 l437 y437 z437 st437 hQ437
    subst l437 y437 z437
    obtain ⟨rfl, N437q, K437, p437_0, p437_1⟩ := hQ437
    have N437 := Fr.app N0 N437q
    have O437 := O430.keep K437 (allS (Nat.le_trans (oldLe O0) (Nat.le_of_eq g430.symm)) all0)
    have C438 := C431.trans (CHr.keep K437 (sfS Sw436 sf0) C431.1)
    have hk438 := Nat.le_trans hk431 K437.1
    have R439 : Go p e below P T437 (mkF m 20 #[.val (.int i0), .val (.int i1), .val (.int i2), .val (.int lo), .unset, .unset, .unset, .unset] [(.ref b430)]) := fun t_ k_ => R435 t_ (st437.trans k_)
    obtain ⟨cq440, kq440, q440a, q440b, q440c⟩ := isOf hZ (rfl : T437.heap = T437.heap) p437_0
    obtain ⟨rv440, _, ⟨T440, L440, k440, n440⟩, -, X440, hT440, hG440, ⟨Lc440, hQ440, l440, y440, z440, hC440⟩, st440⟩ := X437.virtualBackS hx (y := (⟨"com/example/lexicarta/lexicarta/uml/Multiplicity", "upperValue", "()Ljava/lang/String;"⟩ : MethodName)) (z := (⟨"com/example/lexicarta/lexicarta/uml/Multiplicity", "upperValue", "()Ljava/lang/String;"⟩ : MethodName)) hown (mvT hZ (hw _ (List.mem_of_getElem? (i := 23) rfl))) (mvT hZ (hw _ (List.mem_of_getElem? (i := 24) rfl))) (notFace_of_selects (args := #[]) (mvT hZ (hw _ (List.mem_of_getElem? (i := 26) rfl)))) (mvT hZ (hw _ (List.mem_of_getElem? (i := 26) rfl))) (mvT hZ (hw _ (List.mem_of_getElem? (i := 25) rfl))) (by decide) (backOfSH (W := 0) (upS_ l Z a0 hw [] b430 T437.heap n0 O437 hEL p437_1) hZ (hw _ (List.mem_of_getElem? (i := 27) rfl)) (hw _ (List.mem_of_getElem? (i := 7) rfl)) (by decide) (by decide) hEL C438.1) q440a q440c (g := (mkF m 20 #[.val (.int i0), .val (.int i1), .val (.int i2), .val (.int lo), .unset, .unset, .unset, .unset] [(.ref b430)])) rfl (by rw [hml]; rfl) (Steps.refl _) (argsL := []) (rest := []) (lenOf pd_14309214 rfl) rfl (by show 2 * 0 + _ ≤ _; exact Nat.le_of_eq rfl) (hb hby at_20) (fun _ _ => ⟨rfl, (rfl : T437.heap = T437.heap), (by decide : 1 + 2 ≤ _), (by decide : 2 + 8 ≤ _)⟩)
    dsimp only [Pt.U, Pt.locs, Pt.cells, Pt.slots] at X440 hT440 hG440 l440 y440 z440 hC440 st440 hQ440
    subst l440 y440 z440
    obtain ⟨X440, hS440, hZ, hown⟩ := rebS hS0 (by rw [(rfl : T437.heap = T437.heap)]; exact hk438) X440 hT440 hG440 hZ hown
    have hk440 : T440.heap.size ≤ T440.heap.size := Nat.le_refl _
    obtain ⟨x_440, t_440, kb_440, rfl, N440q, K440, p440_0, p440_1, p440_2, p440_3⟩ := hQ440
    have N440 := Fr.app N437 N440q
    have O440 := O437.keep K440 all0
    have C441 := C438.trans hC440
    have R442 : Go p e below P T440 (mkF m 23 #[.val (.int i0), .val (.int i1), .val (.int i2), .val (.int lo), .unset, .unset, .unset, .unset] [(.ref x_440)]) := fun t_ k_ => R439 t_ (st440.trans k_)
    have R443 : Go p e below P T440 (mkF m 25 #[.val (.int i0), .val (.int i1), .val (.int i2), .val (.int lo), .val (.ref x_440), .unset, .unset, .unset] []) := fun t_ k_ => R442 t_ (XS.astore X440.here hx rfl (hb hby at_23) rfl rfl (l' := #[.val (.int i0), .val (.int i1), .val (.int i2), .val (.int lo), .val (.ref x_440), .unset, .unset, .unset]) rfl k_)
    have R444 : Go p e below P T440 (mkF m 27 #[.val (.int i0), .val (.int i1), .val (.int i2), .val (.int lo), .val (.ref x_440), .unset, .unset, .unset] [(.ref x_440)]) := fun t_ k_ => R443 t_ (XS.aload X440.here hx rfl (hb hby at_25) rfl rfl k_)
    obtain ⟨cq445, kq445, q445a, q445b, q445c⟩ := isOf hZ (rfl : T440.heap = T440.heap) p440_0
    obtain ⟨rv445, _, ⟨T445, L445, k445, n445⟩, -, X445, ⟨Lc445, hQ445, l445, y445, z445⟩, st445⟩ := X440.virtualBack hx (y := (⟨"java/lang/String", "length", "()I"⟩ : MethodName)) (z := (⟨"java/lang/String", "length", "()I"⟩ : MethodName)) hown (mvT hZ (hw _ (List.mem_of_getElem? (i := 57) rfl))) (mvT hZ (hw _ (List.mem_of_getElem? (i := 58) rfl))) (notFace_of_selects (args := #[]) (mvT hZ (hw _ (List.mem_of_getElem? (i := 60) rfl)))) (mvT hZ (hw _ (List.mem_of_getElem? (i := 60) rfl))) (mvT hZ (hw _ (List.mem_of_getElem? (i := 59) rfl))) (by decide) (backOf (W := 0) (llen_ l Z a0 hw [] x_440 t_440 kb_440 (Int32.ofNat ([42] : List Int32).length) ((([42] : List Int32).map lo8).map Value.int) zc T440.heap n0 O440 p440_0 p440_1 p440_2 p440_3 P0 hzc) hZ (hw _ (List.mem_of_getElem? (i := 61) rfl)) (hw _ (List.mem_of_getElem? (i := 36) rfl)) (by decide) (by decide)) q445a q445c (g := (mkF m 27 #[.val (.int i0), .val (.int i1), .val (.int i2), .val (.int lo), .val (.ref x_440), .unset, .unset, .unset] [(.ref x_440)])) rfl (by rw [hml]; rfl) (Steps.refl _) (argsL := []) (rest := []) (lenOf pd_16428521 rfl) rfl (by show 2 * 0 + _ ≤ _; exact Nat.le_of_eq rfl) (hb hby at_27) (fun _ _ => ⟨rfl, (rfl : T440.heap = T440.heap), (by decide : 3 + 0 ≤ _), (by decide : 10 + 0 ≤ _)⟩)
    dsimp only [Pt.U, Pt.locs, Pt.cells, Pt.slots] at X445 l445 y445 z445 st445 hQ445
    subst l445 y445 z445
    obtain ⟨rfl, N445q, K445⟩ := hQ445
    have N445 := Fr.app N440 N445q
    have R446 : Go p e below P T445 (mkF m 30 #[.val (.int i0), .val (.int i1), .val (.int i2), .val (.int lo), .val (.ref x_440), .unset, .unset, .unset] [(.int (Int32.ofNat ([42] : List Int32).length))]) := fun t_ k_ => R444 t_ (st445.trans k_)
    have R447 : Go p e below P T445 (mkF m 31 #[.val (.int i0), .val (.int i1), .val (.int i2), .val (.int lo), .val (.ref x_440), .unset, .unset, .unset] [(.int (1 : Int32)), (.int (Int32.ofNat ([42] : List Int32).length))]) := fun t_ k_ => R446 t_ (XS.iconst X445.here hx rfl (hb hby at_30) k_)
    have R448 : Go p e below P T445 (mkF m 34 #[.val (.int i0), .val (.int i1), .val (.int i2), .val (.int lo), .val (.ref x_440), .unset, .unset, .unset] []) := fun t_ k_ => R447 t_ (XS.icmpNo X445.here hx rfl (hb hby at_31) rfl (teq (by decide)).2 k_)
    have R449 : Go p e below P T445 (mkF m 36 #[.val (.int i0), .val (.int i1), .val (.int i2), .val (.int lo), .val (.ref x_440), .unset, .unset, .unset] [(.ref x_440)]) := fun t_ k_ => R448 t_ (XS.aload X445.here hx rfl (hb hby at_34) rfl rfl k_)
    have R450 : Go p e below P T445 (mkF m 37 #[.val (.int i0), .val (.int i1), .val (.int i2), .val (.int lo), .val (.ref x_440), .unset, .unset, .unset] [(.int (0 : Int32)), (.ref x_440)]) := fun t_ k_ => R449 t_ (XS.iconst X445.here hx rfl (hb hby at_36) k_)
    obtain ⟨cq451, kq451, q451a, q451b, q451c⟩ := isOf hZ K445 p440_0
    obtain ⟨rv451, _, ⟨T451, L451, k451, n451⟩, -, X451, ⟨Lc451, hQ451, l451, y451, z451⟩, st451⟩ := X445.virtualBack hx (y := (⟨"java/lang/String", "charAt", "(I)C"⟩ : MethodName)) (z := (⟨"java/lang/String", "charAt", "(I)C"⟩ : MethodName)) hown (mvT hZ (hw _ (List.mem_of_getElem? (i := 74) rfl))) (mvT hZ (hw _ (List.mem_of_getElem? (i := 75) rfl))) (notFace_of_selects (args := #[]) (mvT hZ (hw _ (List.mem_of_getElem? (i := 77) rfl)))) (mvT hZ (hw _ (List.mem_of_getElem? (i := 77) rfl))) (mvT hZ (hw _ (List.mem_of_getElem? (i := 76) rfl))) (by decide) (backOf (W := 0) (lch_ l Z a0 hw [] x_440 t_440 kb_440 ([42] : List Int32) (0 : Int32) 0 fm zc T440.heap n0 O440 p440_0 p440_1 p440_2 p440_3 P0 hzc P6 hfm rfl (by decide) (by decide) (by decide)) hZ (hw _ (List.mem_of_getElem? (i := 78) rfl)) (hw _ (List.mem_of_getElem? (i := 36) rfl)) (by decide) (by decide)) q451a q451c (g := (mkF m 37 #[.val (.int i0), .val (.int i1), .val (.int i2), .val (.int lo), .val (.ref x_440), .unset, .unset, .unset] [(.int (0 : Int32)), (.ref x_440)])) rfl (by rw [hml]; rfl) (Steps.refl _) (argsL := [(.int (0 : Int32))]) (rest := []) (lenOf pd_52681278 rfl) rfl (by show 2 * 0 + _ ≤ _; exact Nat.le_of_eq rfl) (hb hby at_37) (fun _ _ => ⟨rfl, K445, (by decide : 3 + 0 ≤ _), (by decide : 10 + 0 ≤ _)⟩)
    dsimp only [Pt.U, Pt.locs, Pt.cells, Pt.slots] at X451 l451 y451 z451 st451 hQ451
    subst l451 y451 z451
    obtain ⟨rfl, N451q, K451⟩ := hQ451
    have N451 := Fr.app N445 N451q
    have R452 : Go p e below P T451 (mkF m 40 #[.val (.int i0), .val (.int i1), .val (.int i2), .val (.int lo), .val (.ref x_440), .unset, .unset, .unset] [(.int (([42] : List Int32).getD 0 0))]) := fun t_ k_ => R450 t_ (st451.trans k_)
    have R453 : Go p e below P T451 (mkF m 42 #[.val (.int i0), .val (.int i1), .val (.int i2), .val (.int lo), .val (.ref x_440), .unset, .unset, .unset] [(.int (42 : Int32)), (.int (([42] : List Int32).getD 0 0))]) := fun t_ k_ => R452 t_ (XS.bipush X451.here hx rfl (hb hby at_40) k_)
    have R454 : Go p e below P T451 (mkF m 45 #[.val (.int i0), .val (.int i1), .val (.int i2), .val (.int lo), .val (.ref x_440), .unset, .unset, .unset] []) := fun t_ k_ => R453 t_ (XS.icmpNo X451.here hx rfl (hb hby at_42) rfl (teq (by decide)).2 k_)
    have R455 : Go p e below P T451 (mkF m 46 #[.val (.int i0), .val (.int i1), .val (.int i2), .val (.int lo), .val (.ref x_440), .unset, .unset, .unset] [(.int (1 : Int32))]) := fun t_ k_ => R454 t_ (XS.iconst X451.here hx rfl (hb hby at_45) k_)
    have R456 : Go p e below P T451 (mkF m 50 #[.val (.int i0), .val (.int i1), .val (.int i2), .val (.int lo), .val (.ref x_440), .unset, .unset, .unset] [(.int (1 : Int32))]) := fun t_ k_ => R455 t_ (XS.goto X451.here hx rfl (pc0 := 46) (pc' := 50) rfl (hb hby at_46) (by decide) (by decide) k_)
    obtain ⟨fs, hr, hrun, hended, hend⟩ := X451.leaveW hS440 (by rw [K451]; exact hk440 : _ ≤ T451.heap.size) (v := some (.int (nar .boolean (1 : Int32)))) (fun h => by rw [Bd.returns] at h; cases h)
    have hCe := C441.trans (CHv.at X451 hZ hEL C441.1)
    exact ⟨_, _, hP _ (R456 _ (retN X451 hx (t := .boolean) Bd.returns (by simp) (hb hby at_50) hr)), hrun, hended, _, _, rfl, ⟨rfl, N451, (K451.symm ▸ ((((Keep.refl h0 []).ext E430).trans K437 (allS (Or.inr (Nat.le_of_eq g430.symm)) all0)).trans K440 all0))⟩, (by show CHr Z EL0 s.vm s.heap T451.vm T451.heap; rw [hh, K451]; exact hCe), ⟨hend.1, hend.2.1, hend.2.2.1, hend.2.2.2.mono (by decide) (by decide)⟩⟩
set_option maxRecDepth 65536 in
set_option maxHeartbeats 40000000 in
theorem comes_1 {Post : Tables → Env → Array Value → State → Outcome → State → Prop} (hpost : ∀ tb e args s v u, (limb_1_1.after args s (.returned v) u = true ∧ limb_1_2.after args s (.returned v) u = true ∧ True) → ReturnedEndW s (.returned v) u (Jvm.fieldLocs frame_1_writes args s ++ Jvm.arrayLocs frame_1_arrays args s ++ Jvm.staticLocs frame_1_statics s) 16 1152 → Post tb e args s (.returned v) u) :
    ArmFor flags0 classFile x code maxLocals ret World_1 tables_1 room_1 Calls_1 rest_1 Pre_1 Post := by
  intro l hfl _ _ p e ha hc hk s m args below hf hA hF happ hP
  obtain ⟨hcalls, hrest, hpre⟩ := hP
  obtain ⟨-, -, -, hnamed, -, -, -, hat⟩ := (Spec.applies_iff hf).mp happ
  obtain ⟨hg, hn⟩ := and_e (Cond.before_iff.mp (show (Jvm.Cond.and given_1 narrow_1).before args s = true from hpre))
  obtain ⟨g1, g2⟩ := and_e hg
  obtain ⟨g3, g4⟩ := and_e g2
  obtain ⟨g5, g6⟩ := and_e g4
  obtain ⟨w0, w1, w2, rfl⟩ : ∃ w0 w1 w2 : Value, args = #[w0, w1, w2] := by
    have hs : args.size = 3 := by simpa [Cond.value, given_1] using g1
    obtain ⟨L⟩ := args
    match L, hs with
    | [w0, w1, w2], _ => exact ⟨w0, w1, w2, rfl⟩
  have hw := fun d (hd : d ∈ tables_1) => atoms_spec (ws := Jvm.Cond.code x code maxLocals ret :: tables_1) hat d (List.mem_cons_of_mem _ hd)
  have hfit : Fit s := fun {y c} hc i hi => by
    obtain ⟨ha, rfl⟩ := Array.getElem?_eq_some_iff.mp hc
    have q := List.all_eq_true.mp ((Array.all_eq_true_iff_forall_mem.mp hF) _ (Array.getElem_mem ha)) i (List.mem_range.mpr hi)
    simpa [Array.getElem?_eq_getElem hi] using q
  obtain ⟨hsets, hown0⟩ := atoms_of _ (rest_1_c_eq ▸ (show rest_1_c.before _ s = true from hrest))
  obtain ⟨i0, ei0⟩ := is_v g3
  obtain rfl : w0 = (.int i0) := Option.some.inj ei0
  obtain ⟨i1, ei1⟩ := is_v g5
  obtain rfl : w1 = (.int i1) := Option.some.inj ei1
  obtain ⟨i2, ei2⟩ := is_v g6
  obtain rfl : w2 = (.int i2) := Option.some.inj ei2
  have hEL : EW s (#[.int i0, .int i1, .int i2] : Array Value) EL0 := (EW.cons (hw _ (List.mem_of_getElem? (i := 96) rfl)) (by decide) EW.nil)
  have hCH : CHv s EL0 s.vm s.heap := CHv.start hEL (fun p hp => hcalls.1 p hp) (hsets _ (List.mem_of_getElem? (i := 2) rfl)) (hw _ (List.mem_of_getElem? (i := 37) rfl)) (hw _ (List.mem_of_getElem? (i := 43) rfl))
  obtain ⟨z_cs, ev_cs⟩ := is_v (Cond.before_iff.mp (hsets _ (List.mem_of_getElem? (i := 1) rfl)))
  have S_cs := Sta.start ev_cs (Or.inl (hsets _ (List.mem_of_getElem? (i := 0) rfl)))
  have hz_cs : ¬ z_cs = 0 := fun q => by
    have h := not_v (Cond.before_iff.mp (hsets _ (List.mem_of_getElem? (i := 2) rfl)))
    have h' := gotF (eq_I ev_cs (Term.int_eval (0))) h
    exact h' q
  obtain ⟨fm, ev_f, hfm⟩ := isR_v (Cond.before_iff.mp (hsets _ (List.mem_of_getElem? (i := 8) rfl)))
  have S_f := Sta.start ev_f (Or.inl (hsets _ (List.mem_of_getElem? (i := 7) rfl)))
  obtain ⟨st, d1, D1, d2, D2, hT1, hO1, hT2, hO2⟩ := Jvm.SetKit.digits_of (fun {x c} hc {i} hi => hfit hc hi) (hw _ (List.mem_of_getElem? (i := 37) rfl)) (hw _ (List.mem_of_getElem? (i := 30) rfl)) (hsets _ (List.mem_of_getElem? (i := 10) rfl)) (hsets _ (List.mem_of_getElem? (i := 12) rfl)) (hsets _ (List.mem_of_getElem? (i := 13) rfl)) (hsets _ (List.mem_of_getElem? (i := 14) rfl)) (hsets _ (List.mem_of_getElem? (i := 15) rfl)) (hsets _ (List.mem_of_getElem? (i := 17) rfl)) (hsets _ (List.mem_of_getElem? (i := 18) rfl)) (hsets _ (List.mem_of_getElem? (i := 19) rfl))
  obtain ⟨n, o, h1, h2, h3, _, L, rfl, ⟨rfl, N, _⟩, -, hq⟩ := law_ l s _ hw tables_1 i0 i1 i2 fm z_cs st d1 D1 d2 D2 s.heap s.heap.size (Old.start s) hEL S_cs hz_cs hT1 hO1 hT2 hO2 S_f hfm p e ha hc hk s m _ below hf ((Spec.applies_iff_loose hf).mp happ).1 ⟨rfl, State.Warmed39.refl s, rfl, hCH⟩ trivial
  refine ⟨n, _, h1, h2, h3, hpost _ _ _ _ _ _ ⟨Cond.after_iff.mpr rfl, Cond.after_iff.mpr (eq_i res_at (Term.int_eval (1)) rfl), trivial⟩ ⟨hq.1, hq.2.1, hq.2.2.1, (hq.2.2.2.sift fun y hy => Or.inr (N y hy)).mono (by decide) (by decide)⟩⟩
theorem main_1_1 : Claimed_1_1 := comes_1 fun _ _ _ _ _ _ h hF => ⟨h.1, hF⟩
theorem main_1_2 : Claimed_1_2 := comes_1 fun _ _ _ _ _ _ h hF => ⟨h.2.1, hF⟩
end Jvm.Pilot.@@N@@
namespace Jvm.Pilot.@@N@@
open Jvm Jvm.ClassFile Sem Op Lib Jvm.Free Jvm.Stand Jvm.Pilot.@@N@@.Jvm.D
/-! MADE BY PROGRAM (witnessworld.py) out of the Statement's table words and the real class files: 21 classes; the members and pool entries that the words name. The judged class is class 1, her method 1. -/
namespace start1
open Jvm.ClassFile
def u (s : String) : CpInfo := .utf8 (stringToUtf16 s)
/-- a pool by its gaps: so many unusable entries, then the entry; so many at the end -/
def gap : Nat → List CpInfo → List CpInfo
  | 0, r => r
  | n + 1, r => .unusable :: gap n r
def poolList (es : List (Nat × CpInfo)) (last : Nat) : List CpInfo := es.foldr (fun e r => gap e.1 (e.2 :: r)) (gap last [])
def pool (es : List (Nat × CpInfo)) (last : Nat) : Array CpInfo := ⟨poolList es last⟩
def fileOf (pool : Array CpInfo) (this : Nat) (attrs : Array Attribute := #[]) (ms : Array MethodInfo := #[]) (fl : Nat := 33) (sup : Nat := 0) (ifs : Array Nat := #[]) (fds : Array FieldInfo := #[]) : ClassFile where
  minorVersion := 0
  majorVersion := 65
  constantPool := pool
  accessFlags := fl
  thisClass := this
  superClass := sup
  interfaces := ifs
  fields := fds
  methods := ms
  attributes := attrs
def plain (name : String) (sup : Option ClassId) : Class where
  name := name
  kind := .ordinary
  loader := none
  accessFlags := 33
  super := sup
  interfaces := #[]
  cf := none
  fields := #[]
  methods := #[]
  instanceTypes := #[]
  staticTypes := #[]
  resolved := #[]
  callSites := []
  init := .initialized
  statics := none
  mirror := none

def pool0 : Array CpInfo := pool [(5, u "<init>"), (0, u "()V"), (1, .class_ 10), (1, u "java/lang/Object")] 113

def k0c0 : Code := { maxStack := 0, maxLocals := 1, code := object_method_1_code, exceptionTable := #[], attributes := #[] }
def k0m0 : Method := { name := "<init>", desc := "()V", sig := { parameters := [], returnType := none }, accessFlags := 1, code := some k0c0 }
/-- java/lang/Object -/
def k0 : Class := { plain "java/lang/Object" none with
  accessFlags := 33
  interfaces := #[]
  cf := some (fileOf pool0 8 #[] #[{ accessFlags := 1, nameIndex := 5, descriptorIndex := 6, attributes := #[] }] 33 0 #[] #[])
  fields := #[]
  methods := #[k0m0]
  instanceTypes := #[]
  staticTypes := #[]
  resolved := Array.replicate 124 none
  statics := none }

def pool1 : Array CpInfo := pool [(2, .class_ 4), (1, u "java/lang/Object"), (0, u "<init>"), (0, u "()V"), (0, .integer 2147483647), (0, .class_ 9), (0, u "com/example/lexicarta/lexicarta/uml/Multiplicity"), (0, .methodref 8 11), (0, .nameAndType 5 12), (0, u "(II)V"), (0, .methodref 8 14), (0, .nameAndType 15 16), (0, u "upperValue"), (0, u "()Ljava/lang/String;"), (0, .methodref 18 19), (0, .class_ 20), (0, .nameAndType 21 22), (0, u "java/lang/String"), (0, u "length"), (0, u "()I"), (0, .methodref 18 24), (0, .nameAndType 25 26), (0, u "charAt"), (0, u "(I)C"), (0, .methodref 28 29), (0, .class_ 30), (0, .nameAndType 31 32), (0, u "java/lang/Math"), (0, u "min"), (0, u "(II)I"), (0, .methodref 34 35), (0, .class_ 36), (0, .nameAndType 37 38), (0, u "com/example/lexicarta/lexicarta/uml/MultiplicityUpperValuePinLaw"), (0, u "digits"), (0, u "(I)I"), (0, .methodref 34 40), (0, .nameAndType 41 42), (0, u "d"), (0, u "(Ljava/lang/String;III)Z"), (0, .integer 100000), (0, .integer 1000000), (0, .integer 10000000), (0, .integer 100000000), (0, .integer 1000000000), (0, .methodref 34 49), (0, .nameAndType 50 38), (0, u "pow10"), (2, u "law"), (0, u "(III)Z")] 3

def k1m0 : Method := { name := "<init>", desc := "()V", sig := { parameters := [], returnType := none }, accessFlags := 1, code := none }
def k1c1 : Code := { maxStack := 4, maxLocals := 8, code := code, exceptionTable := #[], attributes := #[] }
def k1m1 : Method := { name := "law", desc := "(III)Z", sig := { parameters := [.int, .int, .int], returnType := some .boolean }, accessFlags := 9, code := some k1c1 }
def k1c2 : Code := { maxStack := 2, maxLocals := 1, code := method_3_code, exceptionTable := #[], attributes := #[] }
def k1m2 : Method := { name := "digits", desc := "(I)I", sig := { parameters := [.int], returnType := some .int }, accessFlags := 10, code := some k1c2 }
def k1c3 : Code := { maxStack := 2, maxLocals := 1, code := method_4_code, exceptionTable := #[], attributes := #[] }
def k1m3 : Method := { name := "pow10", desc := "(I)I", sig := { parameters := [.int], returnType := some .int }, accessFlags := 10, code := some k1c3 }
def k1c4 : Code := { maxStack := 3, maxLocals := 5, code := method_5_code, exceptionTable := #[], attributes := #[] }
def k1m4 : Method := { name := "d", desc := "(Ljava/lang/String;III)Z", sig := { parameters := [(.object "java/lang/String"), .int, .int, .int], returnType := some .boolean }, accessFlags := 10, code := some k1c4 }
/-- com/example/lexicarta/lexicarta/uml/MultiplicityUpperValuePinLaw -/
def k1 : Class := { plain "com/example/lexicarta/lexicarta/uml/MultiplicityUpperValuePinLaw" (some 0) with
  accessFlags := 49
  interfaces := #[]
  cf := some (fileOf pool1 34 #[] #[{ accessFlags := 1, nameIndex := 5, descriptorIndex := 6, attributes := #[] }, { accessFlags := 9, nameIndex := 53, descriptorIndex := 54, attributes := #[] }, { accessFlags := 10, nameIndex := 37, descriptorIndex := 38, attributes := #[] }, { accessFlags := 10, nameIndex := 50, descriptorIndex := 38, attributes := #[] }, { accessFlags := 10, nameIndex := 41, descriptorIndex := 42, attributes := #[] }] 49 2 #[] #[])
  fields := #[]
  methods := #[k1m0, k1m1, k1m2, k1m3, k1m4]
  instanceTypes := #[]
  staticTypes := #[]
  resolved := Array.replicate 58 none
  statics := none }

def pool2 : Array CpInfo := pool [(1, .class_ 2), (0, u "java/lang/Math"), (1, .class_ 6), (1, u "java/lang/Object"), (0, u "<init>"), (0, u "()V"), (89, .class_ 100), (1, u "java/lang/Math$RandomNumberGeneratorHolder"), (71, u "negativeZeroFloatBits"), (0, u "J"), (2, u "negativeZeroDoubleBits"), (24, u "min"), (43, u "$assertionsDisabled"), (0, u "Z"), (88, u "(II)I"), (2, u "twoToTheDoubleScaleDown"), (0, u "D"), (4, u "twoToTheDoubleScaleUp"), (9, u "E"), (3, u "PI"), (2, u "TAU"), (2, u "DEGREES_TO_RADIANS"), (0, u "RADIANS_TO_DEGREES")] 94

def k2m0 : Method := { name := "<init>", desc := "()V", sig := { parameters := [], returnType := none }, accessFlags := 2, code := none }
def k2c1 : Code := { maxStack := 2, maxLocals := 2, code := jdk_29_method_69_code, exceptionTable := #[], attributes := #[] }
def k2m1 : Method := { name := "min", desc := "(II)I", sig := { parameters := [.int, .int], returnType := some .int }, accessFlags := 9, code := some k2c1 }
/-- java/lang/Math -/
def k2 : Class := { plain "java/lang/Math" (some 0) with
  accessFlags := 49
  interfaces := #[]
  cf := some (fileOf pool2 1 #[.nestMembers #[98]] #[{ accessFlags := 2, nameIndex := 7, descriptorIndex := 8, attributes := #[] }, { accessFlags := 9, nameIndex := 201, descriptorIndex := 335, attributes := #[] }] 49 4 #[] #[{ accessFlags := 25, nameIndex := 354, descriptorIndex := 339, attributes := #[] }, { accessFlags := 25, nameIndex := 358, descriptorIndex := 339, attributes := #[] }, { accessFlags := 25, nameIndex := 361, descriptorIndex := 339, attributes := #[] }, { accessFlags := 26, nameIndex := 364, descriptorIndex := 339, attributes := #[] }, { accessFlags := 26, nameIndex := 365, descriptorIndex := 339, attributes := #[] }, { accessFlags := 26, nameIndex := 172, descriptorIndex := 173, attributes := #[] }, { accessFlags := 26, nameIndex := 176, descriptorIndex := 173, attributes := #[] }, { accessFlags := 8, nameIndex := 344, descriptorIndex := 339, attributes := #[] }, { accessFlags := 8, nameIndex := 338, descriptorIndex := 339, attributes := #[] }, { accessFlags := 4120, nameIndex := 245, descriptorIndex := 246, attributes := #[] }])
  fields := #[{ name := "E", type := .double, accessFlags := 25, slot := 0, constantValue := 0 }, { name := "PI", type := .double, accessFlags := 25, slot := 1, constantValue := 0 }, { name := "TAU", type := .double, accessFlags := 25, slot := 2, constantValue := 0 }, { name := "DEGREES_TO_RADIANS", type := .double, accessFlags := 26, slot := 3, constantValue := 0 }, { name := "RADIANS_TO_DEGREES", type := .double, accessFlags := 26, slot := 4, constantValue := 0 }, { name := "negativeZeroFloatBits", type := .long, accessFlags := 26, slot := 5, constantValue := 0 }, { name := "negativeZeroDoubleBits", type := .long, accessFlags := 26, slot := 6, constantValue := 0 }, { name := "twoToTheDoubleScaleUp", type := .double, accessFlags := 8, slot := 7, constantValue := 0 }, { name := "twoToTheDoubleScaleDown", type := .double, accessFlags := 8, slot := 8, constantValue := 0 }, { name := "$assertionsDisabled", type := .boolean, accessFlags := 4120, slot := 9, constantValue := 0 }]
  methods := #[k2m0, k2m1]
  instanceTypes := #[]
  staticTypes := #[.double, .double, .double, .double, .double, .long, .long, .double, .double, .boolean]
  resolved := Array.replicate 460 none
  statics := none }

def pool3 : Array CpInfo := pool [(1, .methodref 2 3), (0, .class_ 4), (0, .nameAndType 5 6), (0, u "java/lang/Object"), (0, u "<init>"), (0, u "()V"), (0, .class_ 8), (0, u "java/lang/Record")] 13

def k3c0 : Code := { maxStack := 1, maxLocals := 1, code := jdk_30_method_1_code, exceptionTable := #[], attributes := #[] }
def k3m0 : Method := { name := "<init>", desc := "()V", sig := { parameters := [], returnType := none }, accessFlags := 4, code := some k3c0 }
/-- java/lang/Record -/
def k3 : Class := { plain "java/lang/Record" (some 0) with
  accessFlags := 1057
  interfaces := #[]
  cf := some (fileOf pool3 7 #[] #[{ accessFlags := 4, nameIndex := 5, descriptorIndex := 6, attributes := #[] }] 1057 2 #[] #[])
  fields := #[]
  methods := #[k3m0]
  instanceTypes := #[]
  staticTypes := #[]
  resolved := Array.replicate 22 none
  statics := none }

def pool4 : Array CpInfo := pool [(1, .methodref 2 3), (0, .class_ 4), (0, .nameAndType 5 6), (0, u "java/lang/Record"), (0, u "<init>"), (0, u "()V"), (0, .class_ 8), (0, u "com/example/lexicarta/lexicarta/uml/Multiplicity"), (9, .fieldref 7 19), (0, .nameAndType 20 21), (0, u "lower"), (0, u "I"), (0, .fieldref 7 23), (0, .nameAndType 24 21), (0, u "upper"), (0, .string 26), (0, u "*"), (0, .methodref 28 29), (0, .class_ 30), (0, .nameAndType 31 32), (0, u "java/lang/Integer"), (0, u "toString"), (0, u "(I)Ljava/lang/String;"), (2, u "upperValue"), (0, u "()Ljava/lang/String;"), (13, u "(II)V"), (2, u "ANY"), (0, u "Lcom/example/lexicarta/lexicarta/uml/Multiplicity;"), (0, u "UNLIMITED")] 42

def k4c0 : Code := { maxStack := 4, maxLocals := 3, code := prog_88_method_1_code, exceptionTable := #[], attributes := #[] }
def k4m0 : Method := { name := "<init>", desc := "(II)V", sig := { parameters := [.int, .int], returnType := none }, accessFlags := 1, code := some k4c0 }
def k4c1 : Code := { maxStack := 2, maxLocals := 1, code := prog_88_method_2_code, exceptionTable := #[], attributes := #[] }
def k4m1 : Method := { name := "upperValue", desc := "()Ljava/lang/String;", sig := { parameters := [], returnType := some (.object "java/lang/String") }, accessFlags := 1, code := some k4c1 }
/-- com/example/lexicarta/lexicarta/uml/Multiplicity -/
def k4 : Class := { plain "com/example/lexicarta/lexicarta/uml/Multiplicity" (some 3) with
  accessFlags := 49
  interfaces := #[]
  cf := some (fileOf pool4 7 #[] #[{ accessFlags := 1, nameIndex := 5, descriptorIndex := 50, attributes := #[] }, { accessFlags := 1, nameIndex := 35, descriptorIndex := 36, attributes := #[] }] 49 2 #[] #[{ accessFlags := 18, nameIndex := 20, descriptorIndex := 21, attributes := #[] }, { accessFlags := 18, nameIndex := 24, descriptorIndex := 21, attributes := #[] }, { accessFlags := 25, nameIndex := 55, descriptorIndex := 21, attributes := #[] }, { accessFlags := 25, nameIndex := 53, descriptorIndex := 54, attributes := #[] }])
  fields := #[{ name := "lower", type := .int, accessFlags := 18, slot := 0, constantValue := 0 }, { name := "upper", type := .int, accessFlags := 18, slot := 1, constantValue := 0 }, { name := "UNLIMITED", type := .int, accessFlags := 25, slot := 0, constantValue := 0 }, { name := "ANY", type := (.object "com/example/lexicarta/lexicarta/uml/Multiplicity"), accessFlags := 25, slot := 1, constantValue := 0 }]
  methods := #[k4m0, k4m1]
  instanceTypes := #[.int, .int]
  staticTypes := #[.int, (.object "com/example/lexicarta/lexicarta/uml/Multiplicity")]
  resolved := Array.replicate 98 none
  statics := none }

def pool5 : Array CpInfo := pool [(1, .class_ 2), (0, u "java/io/Serializable"), (0, .class_ 4), (0, u "java/lang/Object")] 2

/-- java/io/Serializable -/
def k5 : Class := { plain "java/io/Serializable" (some 0) with
  accessFlags := 1537
  interfaces := #[]
  cf := some (fileOf pool5 1 #[] #[] 1537 3 #[] #[])
  fields := #[]
  methods := #[]
  instanceTypes := #[]
  staticTypes := #[]
  resolved := Array.replicate 7 none
  statics := none }

def pool6 : Array CpInfo := pool [(2, .class_ 4), (1, u "java/lang/Object"), (0, u "<init>"), (0, u "()V"), (1, .class_ 10), (1, u "java/lang/Number"), (2, .class_ 14), (0, u "java/io/Serializable"), (0, u "serialVersionUID"), (0, u "J")] 20

def k6m0 : Method := { name := "<init>", desc := "()V", sig := { parameters := [], returnType := none }, accessFlags := 1, code := none }
/-- java/lang/Number -/
def k6 : Class := { plain "java/lang/Number" (some 0) with
  accessFlags := 1057
  interfaces := #[5]
  cf := some (fileOf pool6 8 #[] #[{ accessFlags := 1, nameIndex := 5, descriptorIndex := 6, attributes := #[] }] 1057 2 #[13] #[{ accessFlags := 26, nameIndex := 15, descriptorIndex := 16, attributes := #[] }])
  fields := #[{ name := "serialVersionUID", type := .long, accessFlags := 26, slot := 0, constantValue := 0 }]
  methods := #[k6m0]
  instanceTypes := #[]
  staticTypes := #[.long]
  resolved := Array.replicate 37 none
  statics := none }

def pool7 : Array CpInfo := pool [(1, .class_ 2), (0, u "java/lang/Comparable"), (0, .class_ 4), (0, u "java/lang/Object")] 7

/-- java/lang/Comparable -/
def k7 : Class := { plain "java/lang/Comparable" (some 0) with
  accessFlags := 1537
  interfaces := #[]
  cf := some (fileOf pool7 1 #[] #[] 1537 3 #[] #[])
  fields := #[]
  methods := #[]
  instanceTypes := #[]
  staticTypes := #[]
  resolved := Array.replicate 12 none
  statics := none }

def pool8 : Array CpInfo := pool [(1, .class_ 2), (0, u "java/lang/constant/Constable"), (0, .class_ 4), (0, u "java/lang/Object")] 6

/-- java/lang/constant/Constable -/
def k8 : Class := { plain "java/lang/constant/Constable" (some 0) with
  accessFlags := 1537
  interfaces := #[]
  cf := some (fileOf pool8 1 #[] #[] 1537 3 #[] #[])
  fields := #[]
  methods := #[]
  instanceTypes := #[]
  staticTypes := #[]
  resolved := Array.replicate 11 none
  statics := none }

def pool9 : Array CpInfo := pool [(1, .class_ 2), (0, u "java/lang/constant/ConstantDesc"), (0, .class_ 4), (0, u "java/lang/Object")] 32

/-- java/lang/constant/ConstantDesc -/
def k9 : Class := { plain "java/lang/constant/ConstantDesc" (some 0) with
  accessFlags := 1537
  interfaces := #[]
  cf := some (fileOf pool9 1 #[] #[] 1537 3 #[] #[])
  fields := #[]
  methods := #[]
  instanceTypes := #[]
  staticTypes := #[]
  resolved := Array.replicate 37 none
  statics := none }

def pool10 : Array CpInfo := pool [(1, .class_ 2), (0, u "java/lang/Integer"), (2, .class_ 6), (0, u "java/lang/String"), (4, u "toString"), (0, u "(I)Ljava/lang/String;"), (0, .fieldref 5 14), (0, .nameAndType 15 16), (0, u "COMPACT_STRINGS"), (0, u "Z"), (2, u "digits"), (0, u "[C"), (33, u "(I)I"), (10, .methodref 5 66), (0, .nameAndType 67 68), (0, u "<init>"), (0, u "([BB)V"), (3, .methodref 1 73), (0, .nameAndType 74 54), (0, u "stringSize"), (0, .methodref 1 76), (0, .nameAndType 77 78), (0, u "getChars"), (0, u "(II[B)I"), (4, .fieldref 1 84), (0, .nameAndType 85 86), (0, u "DigitOnes"), (0, u "[B"), (0, .fieldref 1 88), (0, .nameAndType 89 86), (0, u "DigitTens"), (99, .class_ 190), (0, u "java/lang/Integer$IntegerCache"), (3, u "I"), (8, .class_ 204), (0, u "java/lang/Number"), (2, u "value"), (94, u "TYPE"), (0, u "Ljava/lang/Class;"), (0, .class_ 305), (0, u "java/lang/Comparable"), (0, .class_ 307), (0, u "java/lang/constant/Constable"), (0, .class_ 309), (0, u "java/lang/constant/ConstantDesc"), (0, u "MIN_VALUE"), (1, u "MAX_VALUE"), (3, u "SIZE"), (1, u "BYTES"), (1, u "serialVersionUID"), (0, u "J")] 131

def k10c0 : Code := { maxStack := 4, maxLocals := 3, code := jdk_33_method_10_code, exceptionTable := #[], attributes := #[] }
def k10m0 : Method := { name := "toString", desc := "(I)Ljava/lang/String;", sig := { parameters := [.int], returnType := some (.object "java/lang/String") }, accessFlags := 9, code := some k10c0 }
def k10c1 : Code := { maxStack := 4, maxLocals := 7, code := jdk_33_method_12_code, exceptionTable := #[], attributes := #[] }
def k10m1 : Method := { name := "getChars", desc := "(II[B)I", sig := { parameters := [.int, .int, (.array .byte)], returnType := some .int }, accessFlags := 8, code := some k10c1 }
def k10c2 : Code := { maxStack := 2, maxLocals := 4, code := jdk_33_method_13_code, exceptionTable := #[], attributes := #[] }
def k10m2 : Method := { name := "stringSize", desc := "(I)I", sig := { parameters := [.int], returnType := some .int }, accessFlags := 8, code := some k10c2 }
/-- java/lang/Integer -/
def k10 : Class := { plain "java/lang/Integer" (some 6) with
  accessFlags := 49
  interfaces := #[7, 8, 9]
  cf := some (fileOf pool10 1 #[.nestMembers #[189]] #[{ accessFlags := 9, nameIndex := 11, descriptorIndex := 12, attributes := #[] }, { accessFlags := 8, nameIndex := 77, descriptorIndex := 78, attributes := #[] }, { accessFlags := 8, nameIndex := 74, descriptorIndex := 54, attributes := #[] }] 49 203 #[304, 306, 308] #[{ accessFlags := 25, nameIndex := 310, descriptorIndex := 194, attributes := #[] }, { accessFlags := 25, nameIndex := 312, descriptorIndex := 194, attributes := #[] }, { accessFlags := 25, nameIndex := 302, descriptorIndex := 303, attributes := #[] }, { accessFlags := 24, nameIndex := 19, descriptorIndex := 20, attributes := #[] }, { accessFlags := 24, nameIndex := 89, descriptorIndex := 86, attributes := #[] }, { accessFlags := 24, nameIndex := 85, descriptorIndex := 86, attributes := #[] }, { accessFlags := 18, nameIndex := 207, descriptorIndex := 194, attributes := #[] }, { accessFlags := 25, nameIndex := 316, descriptorIndex := 194, attributes := #[] }, { accessFlags := 25, nameIndex := 318, descriptorIndex := 194, attributes := #[] }, { accessFlags := 26, nameIndex := 320, descriptorIndex := 321, attributes := #[] }])
  fields := #[{ name := "MIN_VALUE", type := .int, accessFlags := 25, slot := 0, constantValue := 0 }, { name := "MAX_VALUE", type := .int, accessFlags := 25, slot := 1, constantValue := 0 }, { name := "TYPE", type := (.object "java/lang/Class"), accessFlags := 25, slot := 2, constantValue := 0 }, { name := "digits", type := (.array .char), accessFlags := 24, slot := 3, constantValue := 0 }, { name := "DigitTens", type := (.array .byte), accessFlags := 24, slot := 4, constantValue := 0 }, { name := "DigitOnes", type := (.array .byte), accessFlags := 24, slot := 5, constantValue := 0 }, { name := "value", type := .int, accessFlags := 18, slot := 0, constantValue := 0 }, { name := "SIZE", type := .int, accessFlags := 25, slot := 6, constantValue := 0 }, { name := "BYTES", type := .int, accessFlags := 25, slot := 7, constantValue := 0 }, { name := "serialVersionUID", type := .long, accessFlags := 26, slot := 8, constantValue := 0 }]
  methods := #[k10m0, k10m1, k10m2]
  instanceTypes := #[.int]
  staticTypes := #[.int, .int, (.object "java/lang/Class"), (.array .char), (.array .byte), (.array .byte), .int, .int, .long]
  resolved := Array.replicate 453 none
  statics := some 0 }

def pool11 : Array CpInfo := pool [(2, .class_ 4), (1, u "java/lang/CharSequence"), (42, .class_ 48), (0, u "java/lang/CharSequence$1CodePointIterator"), (10, .class_ 60), (0, u "java/lang/CharSequence$1CharIterator"), (5, .class_ 67), (0, u "java/lang/Object")] 63

/-- java/lang/CharSequence -/
def k11 : Class := { plain "java/lang/CharSequence" (some 0) with
  accessFlags := 1537
  interfaces := #[]
  cf := some (fileOf pool11 2 #[.nestMembers #[47, 59]] #[] 1537 66 #[] #[])
  fields := #[]
  methods := #[]
  instanceTypes := #[]
  staticTypes := #[]
  resolved := Array.replicate 131 none
  statics := none }

def pool12 : Array CpInfo := pool [(1, .methodref 2 3), (0, .class_ 4), (0, .nameAndType 5 6), (0, u "java/lang/Object"), (0, u "<init>"), (0, u "()V"), (2, .fieldref 10 11), (0, .class_ 12), (0, .nameAndType 13 14), (0, u "java/lang/String"), (0, u "value"), (0, u "[B"), (0, .fieldref 10 16), (0, .nameAndType 17 18), (0, u "coder"), (0, u "B"), (2, u "hash"), (0, u "I"), (2, u "hashIsZero"), (0, u "Z"), (11, .fieldref 10 39), (0, .nameAndType 40 26), (0, u "COMPACT_STRINGS"), (66, .class_ 109), (1, u "java/lang/StringLatin1"), (32, u "()Z"), (68, u "([BB)V"), (122, u "()I"), (0, .methodref 10 336), (0, .nameAndType 17 337), (0, u "()B"), (25, u "([BI)C"), (27, u "(II)V"), (35, u "(I)C"), (64, .methodref 10 493), (0, .nameAndType 494 142), (0, u "isLatin1"), (0, .methodref 107 496), (0, .nameAndType 497 363), (0, u "charAt"), (3, u "checkIndex"), (5, u "length"), (67, .class_ 576), (0, u "java/lang/CharSequence"), (22, u "CASE_INSENSITIVE_ORDER"), (0, u "Ljava/util/Comparator;"), (452, .fieldref 1054 1055), (0, .class_ 1056), (0, .nameAndType 1057 1058), (0, u "jdk/internal/util/Preconditions"), (0, u "SIOOBE_FORMATTER"), (0, u "Ljava/util/function/BiFunction;"), (0, .methodref 1054 1060), (0, .nameAndType 501 1061), (0, u "(IILjava/util/function/BiFunction;)I"), (39, u "serialPersistentFields"), (0, u "[Ljava/io/ObjectStreamField;"), (0, .class_ 1104), (0, u "java/lang/String$CaseInsensitiveComparator"), (1, .class_ 1107), (0, u "java/io/Serializable"), (0, .class_ 1109), (0, u "java/lang/Comparable"), (0, .class_ 1111), (0, u "java/lang/constant/Constable"), (0, .class_ 1113), (0, u "java/lang/constant/ConstantDesc"), (2, u "serialVersionUID"), (0, u "J"), (3, u "REPL"), (0, u "C"), (2, u "LATIN1"), (1, u "UTF16")] 323

def k12m0 : Method := { name := "<init>", desc := "()V", sig := { parameters := [], returnType := none }, accessFlags := 1, code := none }
def k12c1 : Code := { maxStack := 2, maxLocals := 1, code := jdk_42_method_54_code, exceptionTable := #[], attributes := #[] }
def k12m1 : Method := { name := "length", desc := "()I", sig := { parameters := [], returnType := some .int }, accessFlags := 1, code := some k12c1 }
def k12c2 : Code := { maxStack := 2, maxLocals := 2, code := jdk_42_method_56_code, exceptionTable := #[], attributes := #[] }
def k12m2 : Method := { name := "charAt", desc := "(I)C", sig := { parameters := [.int], returnType := some .char }, accessFlags := 1, code := some k12c2 }
def k12c3 : Code := { maxStack := 2, maxLocals := 3, code := jdk_42_method_151_code, exceptionTable := #[], attributes := #[] }
def k12m3 : Method := { name := "<init>", desc := "([BB)V", sig := { parameters := [(.array .byte), .byte], returnType := none }, accessFlags := 0, code := some k12c3 }
def k12c4 : Code := { maxStack := 1, maxLocals := 1, code := jdk_42_method_152_code, exceptionTable := #[], attributes := #[] }
def k12m4 : Method := { name := "coder", desc := "()B", sig := { parameters := [], returnType := some .byte }, accessFlags := 0, code := some k12c4 }
def k12c5 : Code := { maxStack := 1, maxLocals := 1, code := jdk_42_method_154_code, exceptionTable := #[], attributes := #[] }
def k12m5 : Method := { name := "isLatin1", desc := "()Z", sig := { parameters := [], returnType := some .boolean }, accessFlags := 0, code := some k12c5 }
def k12c6 : Code := { maxStack := 3, maxLocals := 2, code := jdk_42_method_155_code, exceptionTable := #[], attributes := #[] }
def k12m6 : Method := { name := "checkIndex", desc := "(II)V", sig := { parameters := [.int, .int], returnType := none }, accessFlags := 8, code := some k12c6 }
/-- java/lang/String -/
def k12 : Class := { plain "java/lang/String" (some 0) with
  accessFlags := 49
  interfaces := #[5, 7, 11, 8, 9]
  cf := some (fileOf pool12 10 #[.nestMembers #[1103]] #[{ accessFlags := 1, nameIndex := 5, descriptorIndex := 6, attributes := #[] }, { accessFlags := 1, nameIndex := 507, descriptorIndex := 334, attributes := #[] }, { accessFlags := 1, nameIndex := 497, descriptorIndex := 427, attributes := #[] }, { accessFlags := 0, nameIndex := 5, descriptorIndex := 211, attributes := #[] }, { accessFlags := 0, nameIndex := 17, descriptorIndex := 337, attributes := #[] }, { accessFlags := 0, nameIndex := 494, descriptorIndex := 142, attributes := #[] }, { accessFlags := 8, nameIndex := 501, descriptorIndex := 391, attributes := #[] }] 49 2 #[1106, 1108, 575, 1110, 1112] #[{ accessFlags := 18, nameIndex := 13, descriptorIndex := 14, attributes := #[] }, { accessFlags := 18, nameIndex := 17, descriptorIndex := 18, attributes := #[] }, { accessFlags := 2, nameIndex := 21, descriptorIndex := 22, attributes := #[] }, { accessFlags := 2, nameIndex := 25, descriptorIndex := 26, attributes := #[] }, { accessFlags := 26, nameIndex := 1116, descriptorIndex := 1117, attributes := #[] }, { accessFlags := 24, nameIndex := 40, descriptorIndex := 26, attributes := #[] }, { accessFlags := 26, nameIndex := 1101, descriptorIndex := 1102, attributes := #[] }, { accessFlags := 26, nameIndex := 1121, descriptorIndex := 1122, attributes := #[] }, { accessFlags := 25, nameIndex := 599, descriptorIndex := 600, attributes := #[] }, { accessFlags := 24, nameIndex := 1125, descriptorIndex := 18, attributes := #[] }, { accessFlags := 24, nameIndex := 1127, descriptorIndex := 18, attributes := #[] }])
  fields := #[{ name := "value", type := (.array .byte), accessFlags := 18, slot := 0, constantValue := 0 }, { name := "coder", type := .byte, accessFlags := 18, slot := 1, constantValue := 0 }, { name := "hash", type := .int, accessFlags := 2, slot := 2, constantValue := 0 }, { name := "hashIsZero", type := .boolean, accessFlags := 2, slot := 3, constantValue := 0 }, { name := "serialVersionUID", type := .long, accessFlags := 26, slot := 0, constantValue := 0 }, { name := "COMPACT_STRINGS", type := .boolean, accessFlags := 24, slot := 1, constantValue := 0 }, { name := "serialPersistentFields", type := (.array (.object "java/io/ObjectStreamField")), accessFlags := 26, slot := 2, constantValue := 0 }, { name := "REPL", type := .char, accessFlags := 26, slot := 3, constantValue := 0 }, { name := "CASE_INSENSITIVE_ORDER", type := (.object "java/util/Comparator"), accessFlags := 25, slot := 4, constantValue := 0 }, { name := "LATIN1", type := .byte, accessFlags := 24, slot := 5, constantValue := 0 }, { name := "UTF16", type := .byte, accessFlags := 24, slot := 6, constantValue := 0 }]
  methods := #[k12m0, k12m1, k12m2, k12m3, k12m4, k12m5, k12m6]
  instanceTypes := #[(.array .byte), .byte, .int, .boolean]
  staticTypes := #[.long, .boolean, (.array (.object "java/io/ObjectStreamField")), .char, (.object "java/util/Comparator"), .byte, .byte]
  resolved := Array.replicate 1451 none
  statics := some 1 }

def pool13 : Array CpInfo := pool [(1, .class_ 2), (0, u "java/lang/String"), (1, .class_ 6), (1, u "java/lang/Object"), (0, u "<init>"), (0, u "()V"), (0, .methodref 1 10), (0, .nameAndType 11 12), (0, u "checkIndex"), (0, u "(II)V"), (1, .class_ 16), (1, u "java/lang/StringLatin1"), (36, u "([BI)C"), (67, u "$assertionsDisabled"), (0, u "Z"), (98, .class_ 223), (1, u "java/lang/StringLatin1$LinesSpliterator"), (28, u "charAt"), (137, .class_ 391), (0, u "java/lang/StringLatin1$CharsSpliterator")] 3

def k13m0 : Method := { name := "<init>", desc := "()V", sig := { parameters := [], returnType := none }, accessFlags := 0, code := none }
def k13c1 : Code := { maxStack := 2, maxLocals := 2, code := jdk_43_method_2_code, exceptionTable := #[], attributes := #[] }
def k13m1 : Method := { name := "charAt", desc := "([BI)C", sig := { parameters := [(.array .byte), .int], returnType := some .char }, accessFlags := 9, code := some k13c1 }
/-- java/lang/StringLatin1 -/
def k13 : Class := { plain "java/lang/StringLatin1" (some 0) with
  accessFlags := 48
  interfaces := #[]
  cf := some (fileOf pool13 14 #[.nestMembers #[390, 221]] #[{ accessFlags := 0, nameIndex := 7, descriptorIndex := 8, attributes := #[] }, { accessFlags := 9, nameIndex := 252, descriptorIndex := 53, attributes := #[] }] 48 4 #[] #[{ accessFlags := 4120, nameIndex := 121, descriptorIndex := 122, attributes := #[] }])
  fields := #[{ name := "$assertionsDisabled", type := .boolean, accessFlags := 4120, slot := 0, constantValue := 0 }]
  methods := #[k13m0, k13m1]
  instanceTypes := #[]
  staticTypes := #[.boolean]
  resolved := Array.replicate 395 none
  statics := none }

def pool14 : Array CpInfo := pool [(2, .class_ 4), (1, u "java/lang/Object"), (0, u "<init>"), (0, u "()V"), (17, .class_ 26), (1, u "jdk/internal/util/Preconditions"), (6, u "checkIndex"), (21, .class_ 56), (0, u "jdk/internal/util/Preconditions$4"), (57, .class_ 115), (0, u "jdk/internal/util/Preconditions$1"), (7, u "SIOOBE_FORMATTER"), (0, u "Ljava/util/function/BiFunction;"), (0, .class_ 126), (0, u "jdk/internal/util/Preconditions$2"), (3, u "AIOOBE_FORMATTER"), (0, .class_ 132), (0, u "jdk/internal/util/Preconditions$3"), (3, u "IOOBE_FORMATTER"), (41, u "(IILjava/util/function/BiFunction;)I")] 15

def k14m0 : Method := { name := "<init>", desc := "()V", sig := { parameters := [], returnType := none }, accessFlags := 1, code := none }
def k14c1 : Code := { maxStack := 3, maxLocals := 3, code := jdk_41_method_11_code, exceptionTable := #[], attributes := #[] }
def k14m1 : Method := { name := "checkIndex", desc := "(IILjava/util/function/BiFunction;)I", sig := { parameters := [.int, .int, (.object "java/util/function/BiFunction")], returnType := some .int }, accessFlags := 9, code := some k14c1 }
/-- jdk/internal/util/Preconditions -/
def k14 : Class := { plain "jdk/internal/util/Preconditions" (some 0) with
  accessFlags := 33
  interfaces := #[]
  cf := some (fileOf pool14 24 #[.nestMembers #[55, 131, 125, 114]] #[{ accessFlags := 1, nameIndex := 5, descriptorIndex := 6, attributes := #[] }, { accessFlags := 9, nameIndex := 33, descriptorIndex := 178, attributes := #[] }] 33 2 #[] #[{ accessFlags := 25, nameIndex := 123, descriptorIndex := 124, attributes := #[] }, { accessFlags := 25, nameIndex := 130, descriptorIndex := 124, attributes := #[] }, { accessFlags := 25, nameIndex := 136, descriptorIndex := 124, attributes := #[] }])
  fields := #[{ name := "SIOOBE_FORMATTER", type := (.object "java/util/function/BiFunction"), accessFlags := 25, slot := 0, constantValue := 0 }, { name := "AIOOBE_FORMATTER", type := (.object "java/util/function/BiFunction"), accessFlags := 25, slot := 1, constantValue := 0 }, { name := "IOOBE_FORMATTER", type := (.object "java/util/function/BiFunction"), accessFlags := 25, slot := 2, constantValue := 0 }]
  methods := #[k14m0, k14m1]
  instanceTypes := #[]
  staticTypes := #[(.object "java/util/function/BiFunction"), (.object "java/util/function/BiFunction"), (.object "java/util/function/BiFunction")]
  resolved := Array.replicate 194 none
  statics := some 2 }

def pool15 : Array CpInfo := pool [(9, u "<init>"), (6, .class_ 18), (1, u "java/lang/Object"), (0, u "()V"), (1, .class_ 23), (1, u "jdk/internal/util/ArraysSupport"), (0, u "LOG2_ARRAY_LONG_INDEX_SCALE"), (0, u "I"), (2, u "U"), (0, u "Ljdk/internal/misc/Unsafe;"), (8, u "BIG_ENDIAN"), (0, u "Z"), (8, u "LOG2_BYTE_BIT_SIZE"), (4, u "LOG2_ARRAY_INT_INDEX_SCALE"), (54, u "JLA"), (0, u "Ljdk/internal/access/JavaLangAccess;"), (11, u "LOG2_ARRAY_BOOLEAN_INDEX_SCALE"), (9, u "LOG2_ARRAY_BYTE_INDEX_SCALE"), (5, u "LOG2_ARRAY_CHAR_INDEX_SCALE"), (5, u "LOG2_ARRAY_SHORT_INDEX_SCALE"), (18, u "LOG2_ARRAY_FLOAT_INDEX_SCALE"), (24, u "LOG2_ARRAY_DOUBLE_INDEX_SCALE"), (89, u "T_BOOLEAN"), (2, u "T_CHAR"), (1, u "T_FLOAT"), (1, u "T_DOUBLE"), (1, u "T_BYTE"), (1, u "T_SHORT"), (1, u "T_INT"), (1, u "T_LONG"), (1, u "SOFT_MAX_ARRAY_LENGTH")] 83

def k15m0 : Method := { name := "<init>", desc := "()V", sig := { parameters := [], returnType := none }, accessFlags := 2, code := none }
/-- jdk/internal/util/ArraysSupport -/
def k15 : Class := { plain "jdk/internal/util/ArraysSupport" (some 0) with
  accessFlags := 33
  interfaces := #[]
  cf := some (fileOf pool15 21 #[] #[{ accessFlags := 2, nameIndex := 9, descriptorIndex := 19, attributes := #[] }] 33 16 #[] #[{ accessFlags := 24, nameIndex := 28, descriptorIndex := 29, attributes := #[] }, { accessFlags := 26, nameIndex := 38, descriptorIndex := 39, attributes := #[] }, { accessFlags := 25, nameIndex := 121, descriptorIndex := 25, attributes := #[] }, { accessFlags := 25, nameIndex := 131, descriptorIndex := 25, attributes := #[] }, { accessFlags := 25, nameIndex := 137, descriptorIndex := 25, attributes := #[] }, { accessFlags := 25, nameIndex := 143, descriptorIndex := 25, attributes := #[] }, { accessFlags := 25, nameIndex := 53, descriptorIndex := 25, attributes := #[] }, { accessFlags := 25, nameIndex := 24, descriptorIndex := 25, attributes := #[] }, { accessFlags := 25, nameIndex := 162, descriptorIndex := 25, attributes := #[] }, { accessFlags := 25, nameIndex := 187, descriptorIndex := 25, attributes := #[] }, { accessFlags := 26, nameIndex := 48, descriptorIndex := 25, attributes := #[] }, { accessFlags := 25, nameIndex := 277, descriptorIndex := 25, attributes := #[] }, { accessFlags := 25, nameIndex := 280, descriptorIndex := 25, attributes := #[] }, { accessFlags := 25, nameIndex := 282, descriptorIndex := 25, attributes := #[] }, { accessFlags := 25, nameIndex := 284, descriptorIndex := 25, attributes := #[] }, { accessFlags := 25, nameIndex := 286, descriptorIndex := 25, attributes := #[] }, { accessFlags := 25, nameIndex := 288, descriptorIndex := 25, attributes := #[] }, { accessFlags := 25, nameIndex := 290, descriptorIndex := 25, attributes := #[] }, { accessFlags := 25, nameIndex := 292, descriptorIndex := 25, attributes := #[] }, { accessFlags := 26, nameIndex := 108, descriptorIndex := 109, attributes := #[] }, { accessFlags := 25, nameIndex := 294, descriptorIndex := 25, attributes := #[] }])
  fields := #[{ name := "U", type := (.object "jdk/internal/misc/Unsafe"), accessFlags := 24, slot := 0, constantValue := 0 }, { name := "BIG_ENDIAN", type := .boolean, accessFlags := 26, slot := 1, constantValue := 0 }, { name := "LOG2_ARRAY_BOOLEAN_INDEX_SCALE", type := .int, accessFlags := 25, slot := 2, constantValue := 0 }, { name := "LOG2_ARRAY_BYTE_INDEX_SCALE", type := .int, accessFlags := 25, slot := 3, constantValue := 0 }, { name := "LOG2_ARRAY_CHAR_INDEX_SCALE", type := .int, accessFlags := 25, slot := 4, constantValue := 0 }, { name := "LOG2_ARRAY_SHORT_INDEX_SCALE", type := .int, accessFlags := 25, slot := 5, constantValue := 0 }, { name := "LOG2_ARRAY_INT_INDEX_SCALE", type := .int, accessFlags := 25, slot := 6, constantValue := 0 }, { name := "LOG2_ARRAY_LONG_INDEX_SCALE", type := .int, accessFlags := 25, slot := 7, constantValue := 0 }, { name := "LOG2_ARRAY_FLOAT_INDEX_SCALE", type := .int, accessFlags := 25, slot := 8, constantValue := 0 }, { name := "LOG2_ARRAY_DOUBLE_INDEX_SCALE", type := .int, accessFlags := 25, slot := 9, constantValue := 0 }, { name := "LOG2_BYTE_BIT_SIZE", type := .int, accessFlags := 26, slot := 10, constantValue := 0 }, { name := "T_BOOLEAN", type := .int, accessFlags := 25, slot := 11, constantValue := 0 }, { name := "T_CHAR", type := .int, accessFlags := 25, slot := 12, constantValue := 0 }, { name := "T_FLOAT", type := .int, accessFlags := 25, slot := 13, constantValue := 0 }, { name := "T_DOUBLE", type := .int, accessFlags := 25, slot := 14, constantValue := 0 }, { name := "T_BYTE", type := .int, accessFlags := 25, slot := 15, constantValue := 0 }, { name := "T_SHORT", type := .int, accessFlags := 25, slot := 16, constantValue := 0 }, { name := "T_INT", type := .int, accessFlags := 25, slot := 17, constantValue := 0 }, { name := "T_LONG", type := .int, accessFlags := 25, slot := 18, constantValue := 0 }, { name := "JLA", type := (.object "jdk/internal/access/JavaLangAccess"), accessFlags := 26, slot := 19, constantValue := 0 }, { name := "SOFT_MAX_ARRAY_LENGTH", type := .int, accessFlags := 25, slot := 20, constantValue := 0 }]
  methods := #[k15m0]
  instanceTypes := #[]
  staticTypes := #[(.object "jdk/internal/misc/Unsafe"), .boolean, .int, .int, .int, .int, .int, .int, .int, .int, .int, .int, .int, .int, .int, .int, .int, .int, .int, (.object "jdk/internal/access/JavaLangAccess"), .int]
  resolved := Array.replicate 378 none
  statics := none }

def pool16 : Array CpInfo := pool [(1, u "java/lang/Cloneable"), (0, .class_ 1), (0, u "java/lang/Object"), (0, .class_ 3)] 3

/-- java/lang/Cloneable -/
def k16 : Class := { plain "java/lang/Cloneable" (some 0) with
  accessFlags := 1537
  interfaces := #[]
  cf := some (fileOf pool16 2 #[] #[] 1537 4 #[] #[])
  fields := #[]
  methods := #[]
  instanceTypes := #[]
  staticTypes := #[]
  resolved := Array.replicate 8 none
  statics := none }

/-- the primitive byte -/
def k17 : Class := { plain "byte" none with kind := .primitive 'B', accessFlags := 0x411 }
/-- [B -/
def k18 : Class := { plain "[B" (some 0) with kind := .array 17 .byte, interfaces := #[16, 5], accessFlags := 1041 }

/-- the primitive int -/
def k19 : Class := { plain "int" none with kind := .primitive 'I', accessFlags := 0x411 }
/-- [I -/
def k20 : Class := { plain "[I" (some 0) with kind := .array 19 .int, interfaces := #[16, 5], accessFlags := 1041 }

def heap : Heap := #[{ cls := 10, slots := #[.int 0, .int 0, .null, .null, .ref 4, .ref 3, .int 0, .int 0, .long 0], vm := .statics 10 },
  { cls := 12, slots := #[.long 0, .int 1, .null, .int 0, .null, .int 0, .int 0], vm := .statics 12 },
  { cls := 14, slots := #[.null, .null, .null], vm := .statics 14 },
  { cls := 18, slots := #[.int 48, .int 49, .int 50, .int 51, .int 52, .int 53, .int 54, .int 55, .int 56, .int 57, .int 48, .int 49, .int 50, .int 51, .int 52, .int 53, .int 54, .int 55, .int 56, .int 57, .int 48, .int 49, .int 50, .int 51, .int 52, .int 53, .int 54, .int 55, .int 56, .int 57, .int 48, .int 49, .int 50, .int 51, .int 52, .int 53, .int 54, .int 55, .int 56, .int 57, .int 48, .int 49, .int 50, .int 51, .int 52, .int 53, .int 54, .int 55, .int 56, .int 57, .int 48, .int 49, .int 50, .int 51, .int 52, .int 53, .int 54, .int 55, .int 56, .int 57, .int 48, .int 49, .int 50, .int 51, .int 52, .int 53, .int 54, .int 55, .int 56, .int 57, .int 48, .int 49, .int 50, .int 51, .int 52, .int 53, .int 54, .int 55, .int 56, .int 57, .int 48, .int 49, .int 50, .int 51, .int 52, .int 53, .int 54, .int 55, .int 56, .int 57, .int 48, .int 49, .int 50, .int 51, .int 52, .int 53, .int 54, .int 55, .int 56, .int 57], vm := .none },
  { cls := 18, slots := #[.int 48, .int 48, .int 48, .int 48, .int 48, .int 48, .int 48, .int 48, .int 48, .int 48, .int 49, .int 49, .int 49, .int 49, .int 49, .int 49, .int 49, .int 49, .int 49, .int 49, .int 50, .int 50, .int 50, .int 50, .int 50, .int 50, .int 50, .int 50, .int 50, .int 50, .int 51, .int 51, .int 51, .int 51, .int 51, .int 51, .int 51, .int 51, .int 51, .int 51, .int 52, .int 52, .int 52, .int 52, .int 52, .int 52, .int 52, .int 52, .int 52, .int 52, .int 53, .int 53, .int 53, .int 53, .int 53, .int 53, .int 53, .int 53, .int 53, .int 53, .int 54, .int 54, .int 54, .int 54, .int 54, .int 54, .int 54, .int 54, .int 54, .int 54, .int 55, .int 55, .int 55, .int 55, .int 55, .int 55, .int 55, .int 55, .int 55, .int 55, .int 56, .int 56, .int 56, .int 56, .int 56, .int 56, .int 56, .int 56, .int 56, .int 56, .int 57, .int 57, .int 57, .int 57, .int 57, .int 57, .int 57, .int 57, .int 57, .int 57], vm := .none }]
def classes : Array Class := #[k0, k1, k2, k3, k4, k5, k6, k7, k8, k9, k10, k11, k12, k13, k14, k15, k16, k17, k18, k19, k20]
def interned : List (Array UInt16 × Addr) := []
def slotsUsed : Nat := 219
def theMethod : MethodId := ⟨1, 1⟩
def args0 : Array Value := #[.int 5, .int 5, .int 5]
def aboutOver (below : List Frame) : State where
  vm := { classes := classes, interned := interned.toArray }
  heap := heap
  slotsUsed := slotsUsed
  threads := #[{ frames := .invoking theMethod args0 :: below }]
def below0 : List Frame := [.native { method := ⟨0, 0⟩, args := #[] }]
def about1 : State := aboutOver below0
def p0 : Program := .bare "" "" ""
def e0 : Env := launch0.env 0 0 0
theorem w_frames : about1.frames = Frame.invoking theMethod args0 :: below0 := rfl
set_option maxRecDepth 65536 in
theorem w_args : argsFit about1.vm theMethod args0 = true := by decide +kernel
set_option maxRecDepth 65536 in
theorem w_heap : heapFits about1 = true := by decide +kernel
set_option maxRecDepth 65536 in
theorem w_runnable : about1.curStatus? = some .runnable := by decide +kernel
set_option maxRecDepth 65536 in
theorem w_alone : about1.alone = true := by decide +kernel
set_option maxRecDepth 65536 in
theorem w_named : about1.methodNamed? x = some theMethod := by decide +kernel
set_option maxRecDepth 65536 in
theorem w_hears : about1.hears theMethod below0 = true := by decide +kernel
set_option maxRecDepth 65536 in
theorem w_ripe : about1.ripe theMethod args0 below0 = true := by decide +kernel
theorem w_running : about1.status = .running := rfl
set_option maxRecDepth 65536 in
theorem w_room : about1.hasRoom e0.platform room_1 = true :=
  launch0.hasRoom_least _ room_1 (by decide +kernel) (by decide +kernel) (by decide +kernel) (by decide +kernel) (by decide +kernel) (by decide +kernel)
theorem allAtoms_all (ts : List Jvm.Cond) (a : Array Jvm.Value) (st : Jvm.State) : (allAtoms ts).before a st = ts.all (fun c => c.before a st) := by
  induction ts with
  | nil => rfl
  | cons c t ih =>
    show (Jvm.Cond.and c (allAtoms t)).before a st = _
    rw [Jvm.Cond.before_and, ih, List.all_cons]
def words1 : List Jvm.Cond := Jvm.Cond.code x code maxLocals ret :: tables_1
/-- a 'code' word, met by the world's own term for the bytes: nothing is compared byte by byte -/
theorem code_word {y : MethodName} {bytes : ByteArray} {mx : Nat} {rt : Option FieldType} {a : Array Value} {s : State} {m : MethodId} {meth : Method} {c : Code} (h1 : s.methodNamed? y = some m) (h2 : s.vm.method? m = some meth) (h3 : meth.code = some c) (h4 : c.code = bytes)
    (h5 : (c.maxLocals == mx && c.exceptionTable.isEmpty && decide (c.maxStack ≤ mostOperands) && decide (meth.sig.returnType = rt) && !meth.locks && decide (parseMethodDescriptor y.desc = some meth.sig)) = true) : (Jvm.Cond.code y bytes mx rt).before a s = true := by
  simp only [Bool.and_eq_true, beq_iff_eq, Bool.not_eq_true', decide_eq_true_eq] at h5
  obtain ⟨⟨⟨⟨⟨g1, g2⟩, g3⟩, g4⟩, g5⟩, g6⟩ := h5
  simp [Cond.before, Cond.holds, Cond.value, h1, h2, h3, h4, g1, g2, g3, g4, g5, g6]
def isCode : Jvm.Cond → Bool
  | .code _ _ _ _ => true
  | _ => false
theorem all_split {L : List Jvm.Cond} {P : Jvm.Cond → Bool} (h1 : L.all (fun c => isCode c || P c) = true) (h2 : ∀ c ∈ L.filter isCode, P c = true) : L.all P = true := by
  refine List.all_eq_true.mpr fun c hc => ?_
  have h := List.all_eq_true.mp h1 c hc
  rcases Bool.eq_false_or_eq_true (isCode c) with hi | hi
  · exact h2 c (List.mem_filter.mpr ⟨hc, hi⟩)
  · simpa [hi] using h
set_option maxRecDepth 65536 in
theorem w_c0 : (Jvm.Cond.code x code maxLocals ret).before args0 about1 = true := code_word (m := ⟨1, 1⟩) (meth := k1m1) (c := k1c1) (by decide +kernel) rfl rfl rfl (by decide +kernel)
set_option maxRecDepth 65536 in
theorem w_c1 : (Jvm.Cond.code ({ cls := "java/lang/Math", name := "min", desc := "(II)I" } : Jvm.MethodName) jdk_29_method_69_code (2 : Nat) (Option.some Jvm.ClassFile.FieldType.int)).before args0 about1 = true := code_word (m := ⟨2, 1⟩) (meth := k2m1) (c := k2c1) (by decide +kernel) rfl rfl rfl (by decide +kernel)
set_option maxRecDepth 65536 in
theorem w_c2 : (Jvm.Cond.code ({ cls := "com/example/lexicarta/lexicarta/uml/Multiplicity", name := "<init>", desc := "(II)V" } : Jvm.MethodName) prog_88_method_1_code (3 : Nat) (Option.none : Option Jvm.ClassFile.FieldType)).before args0 about1 = true := code_word (m := ⟨4, 0⟩) (meth := k4m0) (c := k4c0) (by decide +kernel) rfl rfl rfl (by decide +kernel)
set_option maxRecDepth 65536 in
theorem w_c3 : (Jvm.Cond.code ({ cls := "java/lang/Record", name := "<init>", desc := "()V" } : Jvm.MethodName) jdk_30_method_1_code (1 : Nat) (Option.none : Option Jvm.ClassFile.FieldType)).before args0 about1 = true := code_word (m := ⟨3, 0⟩) (meth := k3m0) (c := k3c0) (by decide +kernel) rfl rfl rfl (by decide +kernel)
set_option maxRecDepth 65536 in
theorem w_c4 : (Jvm.Cond.code ({ cls := "java/lang/Object", name := "<init>", desc := "()V" } : Jvm.MethodName) object_method_1_code (1 : Nat) (Option.none : Option Jvm.ClassFile.FieldType)).before args0 about1 = true := code_word (m := ⟨0, 0⟩) (meth := k0m0) (c := k0c0) (by decide +kernel) rfl rfl rfl (by decide +kernel)
set_option maxRecDepth 65536 in
theorem w_c5 : (Jvm.Cond.code ({ cls := "com/example/lexicarta/lexicarta/uml/Multiplicity", name := "upperValue", desc := "()Ljava/lang/String;" } : Jvm.MethodName) prog_88_method_2_code (1 : Nat) (Option.some (Jvm.ClassFile.FieldType.object "java/lang/String"))).before args0 about1 = true := code_word (m := ⟨4, 1⟩) (meth := k4m1) (c := k4c1) (by decide +kernel) rfl rfl rfl (by decide +kernel)
set_option maxRecDepth 65536 in
theorem w_c6 : (Jvm.Cond.code ({ cls := "java/lang/Integer", name := "toString", desc := "(I)Ljava/lang/String;" } : Jvm.MethodName) jdk_33_method_10_code (3 : Nat) (Option.some (Jvm.ClassFile.FieldType.object "java/lang/String"))).before args0 about1 = true := code_word (m := ⟨10, 0⟩) (meth := k10m0) (c := k10c0) (by decide +kernel) rfl rfl rfl (by decide +kernel)
set_option maxRecDepth 65536 in
theorem w_c7 : (Jvm.Cond.code ({ cls := "java/lang/Integer", name := "stringSize", desc := "(I)I" } : Jvm.MethodName) jdk_33_method_13_code (4 : Nat) (Option.some Jvm.ClassFile.FieldType.int)).before args0 about1 = true := code_word (m := ⟨10, 2⟩) (meth := k10m2) (c := k10c2) (by decide +kernel) rfl rfl rfl (by decide +kernel)
set_option maxRecDepth 65536 in
theorem w_c8 : (Jvm.Cond.code ({ cls := "java/lang/Integer", name := "getChars", desc := "(II[B)I" } : Jvm.MethodName) jdk_33_method_12_code (7 : Nat) (Option.some Jvm.ClassFile.FieldType.int)).before args0 about1 = true := code_word (m := ⟨10, 1⟩) (meth := k10m1) (c := k10c1) (by decide +kernel) rfl rfl rfl (by decide +kernel)
set_option maxRecDepth 65536 in
theorem w_c9 : (Jvm.Cond.code ({ cls := "java/lang/String", name := "<init>", desc := "([BB)V" } : Jvm.MethodName) jdk_42_method_151_code (3 : Nat) (Option.none : Option Jvm.ClassFile.FieldType)).before args0 about1 = true := code_word (m := ⟨12, 3⟩) (meth := k12m3) (c := k12c3) (by decide +kernel) rfl rfl rfl (by decide +kernel)
set_option maxRecDepth 65536 in
theorem w_c10 : (Jvm.Cond.code ({ cls := "com/example/lexicarta/lexicarta/uml/MultiplicityUpperValuePinLaw", name := "digits", desc := "(I)I" } : Jvm.MethodName) method_3_code (1 : Nat) (Option.some Jvm.ClassFile.FieldType.int)).before args0 about1 = true := code_word (m := ⟨1, 2⟩) (meth := k1m2) (c := k1c2) (by decide +kernel) rfl rfl rfl (by decide +kernel)
set_option maxRecDepth 65536 in
theorem w_c11 : (Jvm.Cond.code ({ cls := "java/lang/String", name := "length", desc := "()I" } : Jvm.MethodName) jdk_42_method_54_code (1 : Nat) (Option.some Jvm.ClassFile.FieldType.int)).before args0 about1 = true := code_word (m := ⟨12, 1⟩) (meth := k12m1) (c := k12c1) (by decide +kernel) rfl rfl rfl (by decide +kernel)
set_option maxRecDepth 65536 in
theorem w_c12 : (Jvm.Cond.code ({ cls := "java/lang/String", name := "coder", desc := "()B" } : Jvm.MethodName) jdk_42_method_152_code (1 : Nat) (Option.some Jvm.ClassFile.FieldType.byte)).before args0 about1 = true := code_word (m := ⟨12, 4⟩) (meth := k12m4) (c := k12c4) (by decide +kernel) rfl rfl rfl (by decide +kernel)
set_option maxRecDepth 65536 in
theorem w_c13 : (Jvm.Cond.code ({ cls := "com/example/lexicarta/lexicarta/uml/MultiplicityUpperValuePinLaw", name := "d", desc := "(Ljava/lang/String;III)Z" } : Jvm.MethodName) method_5_code (5 : Nat) (Option.some Jvm.ClassFile.FieldType.boolean)).before args0 about1 = true := code_word (m := ⟨1, 4⟩) (meth := k1m4) (c := k1c4) (by decide +kernel) rfl rfl rfl (by decide +kernel)
set_option maxRecDepth 65536 in
theorem w_c14 : (Jvm.Cond.code ({ cls := "com/example/lexicarta/lexicarta/uml/MultiplicityUpperValuePinLaw", name := "pow10", desc := "(I)I" } : Jvm.MethodName) method_4_code (1 : Nat) (Option.some Jvm.ClassFile.FieldType.int)).before args0 about1 = true := code_word (m := ⟨1, 3⟩) (meth := k1m3) (c := k1c3) (by decide +kernel) rfl rfl rfl (by decide +kernel)
set_option maxRecDepth 65536 in
theorem w_c15 : (Jvm.Cond.code ({ cls := "java/lang/String", name := "charAt", desc := "(I)C" } : Jvm.MethodName) jdk_42_method_56_code (2 : Nat) (Option.some Jvm.ClassFile.FieldType.char)).before args0 about1 = true := code_word (m := ⟨12, 2⟩) (meth := k12m2) (c := k12c2) (by decide +kernel) rfl rfl rfl (by decide +kernel)
set_option maxRecDepth 65536 in
theorem w_c16 : (Jvm.Cond.code ({ cls := "java/lang/String", name := "isLatin1", desc := "()Z" } : Jvm.MethodName) jdk_42_method_154_code (1 : Nat) (Option.some Jvm.ClassFile.FieldType.boolean)).before args0 about1 = true := code_word (m := ⟨12, 5⟩) (meth := k12m5) (c := k12c5) (by decide +kernel) rfl rfl rfl (by decide +kernel)
set_option maxRecDepth 65536 in
theorem w_c17 : (Jvm.Cond.code ({ cls := "java/lang/StringLatin1", name := "charAt", desc := "([BI)C" } : Jvm.MethodName) jdk_43_method_2_code (2 : Nat) (Option.some Jvm.ClassFile.FieldType.char)).before args0 about1 = true := code_word (m := ⟨13, 1⟩) (meth := k13m1) (c := k13c1) (by decide +kernel) rfl rfl rfl (by decide +kernel)
set_option maxRecDepth 65536 in
theorem w_c18 : (Jvm.Cond.code ({ cls := "java/lang/String", name := "checkIndex", desc := "(II)V" } : Jvm.MethodName) jdk_42_method_155_code (2 : Nat) (Option.none : Option Jvm.ClassFile.FieldType)).before args0 about1 = true := code_word (m := ⟨12, 6⟩) (meth := k12m6) (c := k12c6) (by decide +kernel) rfl rfl rfl (by decide +kernel)
set_option maxRecDepth 65536 in
theorem w_c19 : (Jvm.Cond.code ({ cls := "jdk/internal/util/Preconditions", name := "checkIndex", desc := "(IILjava/util/function/BiFunction;)I" } : Jvm.MethodName) jdk_41_method_11_code (3 : Nat) (Option.some Jvm.ClassFile.FieldType.int)).before args0 about1 = true := code_word (m := ⟨14, 1⟩) (meth := k14m1) (c := k14c1) (by decide +kernel) rfl rfl rfl (by decide +kernel)
def codes1 : List Jvm.Cond := [Jvm.Cond.code x code maxLocals ret, Jvm.Cond.code ({ cls := "java/lang/Math", name := "min", desc := "(II)I" } : Jvm.MethodName) jdk_29_method_69_code (2 : Nat) (Option.some Jvm.ClassFile.FieldType.int), Jvm.Cond.code ({ cls := "com/example/lexicarta/lexicarta/uml/Multiplicity", name := "<init>", desc := "(II)V" } : Jvm.MethodName) prog_88_method_1_code (3 : Nat) (Option.none : Option Jvm.ClassFile.FieldType), Jvm.Cond.code ({ cls := "java/lang/Record", name := "<init>", desc := "()V" } : Jvm.MethodName) jdk_30_method_1_code (1 : Nat) (Option.none : Option Jvm.ClassFile.FieldType), Jvm.Cond.code ({ cls := "java/lang/Object", name := "<init>", desc := "()V" } : Jvm.MethodName) object_method_1_code (1 : Nat) (Option.none : Option Jvm.ClassFile.FieldType), Jvm.Cond.code ({ cls := "com/example/lexicarta/lexicarta/uml/Multiplicity", name := "upperValue", desc := "()Ljava/lang/String;" } : Jvm.MethodName) prog_88_method_2_code (1 : Nat) (Option.some (Jvm.ClassFile.FieldType.object "java/lang/String")), Jvm.Cond.code ({ cls := "java/lang/Integer", name := "toString", desc := "(I)Ljava/lang/String;" } : Jvm.MethodName) jdk_33_method_10_code (3 : Nat) (Option.some (Jvm.ClassFile.FieldType.object "java/lang/String")), Jvm.Cond.code ({ cls := "java/lang/Integer", name := "stringSize", desc := "(I)I" } : Jvm.MethodName) jdk_33_method_13_code (4 : Nat) (Option.some Jvm.ClassFile.FieldType.int), Jvm.Cond.code ({ cls := "java/lang/Integer", name := "getChars", desc := "(II[B)I" } : Jvm.MethodName) jdk_33_method_12_code (7 : Nat) (Option.some Jvm.ClassFile.FieldType.int), Jvm.Cond.code ({ cls := "java/lang/String", name := "<init>", desc := "([BB)V" } : Jvm.MethodName) jdk_42_method_151_code (3 : Nat) (Option.none : Option Jvm.ClassFile.FieldType), Jvm.Cond.code ({ cls := "com/example/lexicarta/lexicarta/uml/MultiplicityUpperValuePinLaw", name := "digits", desc := "(I)I" } : Jvm.MethodName) method_3_code (1 : Nat) (Option.some Jvm.ClassFile.FieldType.int), Jvm.Cond.code ({ cls := "java/lang/String", name := "length", desc := "()I" } : Jvm.MethodName) jdk_42_method_54_code (1 : Nat) (Option.some Jvm.ClassFile.FieldType.int), Jvm.Cond.code ({ cls := "java/lang/String", name := "coder", desc := "()B" } : Jvm.MethodName) jdk_42_method_152_code (1 : Nat) (Option.some Jvm.ClassFile.FieldType.byte), Jvm.Cond.code ({ cls := "com/example/lexicarta/lexicarta/uml/MultiplicityUpperValuePinLaw", name := "d", desc := "(Ljava/lang/String;III)Z" } : Jvm.MethodName) method_5_code (5 : Nat) (Option.some Jvm.ClassFile.FieldType.boolean), Jvm.Cond.code ({ cls := "com/example/lexicarta/lexicarta/uml/MultiplicityUpperValuePinLaw", name := "pow10", desc := "(I)I" } : Jvm.MethodName) method_4_code (1 : Nat) (Option.some Jvm.ClassFile.FieldType.int), Jvm.Cond.code ({ cls := "java/lang/String", name := "charAt", desc := "(I)C" } : Jvm.MethodName) jdk_42_method_56_code (2 : Nat) (Option.some Jvm.ClassFile.FieldType.char), Jvm.Cond.code ({ cls := "java/lang/String", name := "isLatin1", desc := "()Z" } : Jvm.MethodName) jdk_42_method_154_code (1 : Nat) (Option.some Jvm.ClassFile.FieldType.boolean), Jvm.Cond.code ({ cls := "java/lang/StringLatin1", name := "charAt", desc := "([BI)C" } : Jvm.MethodName) jdk_43_method_2_code (2 : Nat) (Option.some Jvm.ClassFile.FieldType.char), Jvm.Cond.code ({ cls := "java/lang/String", name := "checkIndex", desc := "(II)V" } : Jvm.MethodName) jdk_42_method_155_code (2 : Nat) (Option.none : Option Jvm.ClassFile.FieldType), Jvm.Cond.code ({ cls := "jdk/internal/util/Preconditions", name := "checkIndex", desc := "(IILjava/util/function/BiFunction;)I" } : Jvm.MethodName) jdk_41_method_11_code (3 : Nat) (Option.some Jvm.ClassFile.FieldType.int)]
set_option maxRecDepth 65536 in
theorem codes_eq : words1.filter isCode = codes1 := rfl
theorem w_codes : ∀ c ∈ words1.filter isCode, c.before args0 about1 = true := by
  rw [codes_eq]
  intro c hc
  simp only [codes1, List.mem_cons, List.not_mem_nil, or_false] at hc
  rcases hc with rfl | rfl | rfl | rfl | rfl | rfl | rfl | rfl | rfl | rfl | rfl | rfl | rfl | rfl | rfl | rfl | rfl | rfl | rfl | rfl
  · exact w_c0
  · exact w_c1
  · exact w_c2
  · exact w_c3
  · exact w_c4
  · exact w_c5
  · exact w_c6
  · exact w_c7
  · exact w_c8
  · exact w_c9
  · exact w_c10
  · exact w_c11
  · exact w_c12
  · exact w_c13
  · exact w_c14
  · exact w_c15
  · exact w_c16
  · exact w_c17
  · exact w_c18
  · exact w_c19
set_option maxRecDepth 65536 in
theorem w_t1 : (words1.take 24).all (fun c => isCode c || c.before args0 about1) = true := by decide +kernel
set_option maxRecDepth 65536 in
theorem w_t2 : ((words1.drop 24).take 24).all (fun c => isCode c || c.before args0 about1) = true := by decide +kernel
set_option maxRecDepth 65536 in
theorem w_t3 : (((words1.drop 24).drop 24).take 24).all (fun c => isCode c || c.before args0 about1) = true := by decide +kernel
set_option maxRecDepth 65536 in
theorem w_t4 : ((((words1.drop 24).drop 24).drop 24).take 24).all (fun c => isCode c || c.before args0 about1) = true := by decide +kernel
set_option maxRecDepth 65536 in
theorem w_t5 : ((((words1.drop 24).drop 24).drop 24).drop 24).all (fun c => isCode c || c.before args0 about1) = true := by decide +kernel
theorem w_tables : (allAtoms (Jvm.Cond.code x code maxLocals ret :: tables_1)).before args0 about1 = true := by
  rw [allAtoms_all]
  show words1.all (fun c => c.before args0 about1) = true
  refine all_split ?_ w_codes
  rw [← List.take_append_drop 24 words1, List.all_append, w_t1, ← List.take_append_drop 24 (words1.drop 24), List.all_append, w_t2, ← List.take_append_drop 24 ((words1.drop 24).drop 24), List.all_append, w_t3, ← List.take_append_drop 24 (((words1.drop 24).drop 24).drop 24), List.all_append, w_t4, w_t5]
  rfl
set_option maxRecDepth 65536 in
theorem w_rest : rest_1_c.before args0 about1 = true := by decide +kernel
set_option maxRecDepth 65536 in
theorem w_case : (Jvm.Cond.and given_1 narrow_1).before args0 about1 = true := by decide +kernel
set_option maxRecDepth 65536 in
theorem w_consts : constsHeld consts_1 about1 := Jvm.Lit.constsHeldB_iff.mp (by decide +kernel)
theorem w_applies : (headSpec (Jvm.Cond.code x code maxLocals ret :: tables_1) room_1).applies x e0.platform about1 = true :=
  (Spec.applies_iff w_frames).mpr ⟨w_running, w_runnable, w_alone, w_named, w_hears, w_ripe, w_room, w_tables⟩
theorem atStart : AtStart classFile x code maxLocals ret World_1 tables_1 room_1 Calls_1 rest_1 Pre_1 launch0 p0 e0 about1 theMethod args0 below0 :=
  ⟨lists_1, trivial, launch0.admits_env _ _ _, launch0.least_env, fairChoices_fair.cas, fairChoices_fair.clock, w_frames, w_args, w_heap, w_applies, ⟨w_consts, trivial⟩, w_rest, w_case⟩
end start1
theorem witness_1 : WitnessClaimed_1 := ⟨start1.p0, start1.e0, start1.about1, start1.theMethod, start1.args0, start1.below0, start1.atStart⟩
end Jvm.Pilot.@@N@@
