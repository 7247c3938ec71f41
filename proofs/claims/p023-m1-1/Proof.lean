import JvmDerived
import JvmDerived.Pilot.@@N@@Statement
import JvmDerived.Pilot.@@N@@Code
set_option linter.unusedVariables false
set_option linter.unusedSimpArgs false
namespace Jvm.RoadKit
open Sem ClassFile Op Lib Jvm.Stand Jvm.Free Jvm.LawKit
section New
variable {p : Program} {l : Launch} {e : Env} {R : Room} {s : State} {m : MethodId} {args : Array Value} {below : List Frame} {meth : Method} {c : Code} {T : State} {locs : List Loc} {cells slots : Nat}
theorem retI (X : Stand p l e R s m args below meth c T locs cells slots) (hx : p.tables.exec = Jvm.exec) {pc : Nat} {Ls : Array Slot} {z : Int32} {rest : List Value} (hret : meth.sig.returnType = some .int) (hd : decode c.code pc = .ok (.ireturn, 1)) {fs : List Frame}
    (hl : ∀ (f : JFrame) (acts : List Action), f.method = m → f.locked = none → f.entered = [] → (doReturn e (T.setTop f) acts (some (.int z))).1 = T.setFrames fs) : Steps p.tables e below (T.setTop (mkF m pc Ls (.int z :: rest))) (T.setFrames fs) := by
  have hm' : T.vm.method? m = some meth := X.method'
  have hn : narrow .int (.int z) = .int z := rfl
  show Steps p.tables e below (T.setTop { method := m, pc := pc, locals := Ls, stack := _ :: rest, locked := none }) _
  jvm_step X.here [X.here.top, hx, hd, hm', hret, hn]
  first | (intro acts; rw [hl _ acts rfl rfl rfl]) | rw [hl _ _ rfl rfl rfl]
  exact Steps.refl _
end New
/-- the run has come from where P looks on to this frame -/
def Go (p : Program) (e : Env) (below : List Frame) (P : State → Prop) (T : State) (g : JFrame) : Prop := ∀ t, Steps p.tables e below (T.setTop g) t → P t
/-- where roads that move the state meet: one of them has come to this frame (wide: it may have interned) -/
def PosW (p : Program) (l : Launch) (e : Env) (R : Room) (s : State) (m : MethodId) (args : Array Value) (below : List Frame) (meth : Method) (c : Code) (P : State → Prop) (Z : State) (n0 : Nat) (own : String) (EL : List (String × Nat)) (h0 hf : Heap) (ws : List Addr) (cells slots : Nat) (g : JFrame) (K : Heap → Prop) : Prop :=
  ∃ (vm : Vm) (T : State) (locs : List Loc) (k : Nat), Stand p l e R (s.setVm vm) m args below meth c T locs cells slots ∧ Fr n0 locs ∧ Keep hf T.heap ws ∧ s.Since vm k ∧ k ≤ T.heap.size ∧ Z.Warmed39 vm ∧ vm.findClass own = some m.cls ∧ CHr Z EL s.vm h0 vm T.heap ∧ Go p e below P T g ∧ K T.heap
def PosN (p : Program) (l : Launch) (e : Env) (R : Room) (s : State) (m : MethodId) (args : Array Value) (below : List Frame) (meth : Method) (c : Code) (P : State → Prop) (n0 : Nat) (hf : Heap) (ws : List Addr) (cells slots : Nat) (g : JFrame) (K : Heap → Prop) : Prop :=
  ∃ (T : State) (locs : List Loc), Stand p l e R s m args below meth c T locs cells slots ∧ Fr n0 locs ∧ Keep hf T.heap ws ∧ Go p e below P T g ∧ K T.heap
theorem oldLe {Z : State} {n0 : Nat} {h : Heap} (O : Old Z n0 h) : n0 ≤ h.size := O.1 ▸ O.2.1
theorem narrow_ref {t : FieldType} {v : Value} (h : v.isRef = true) : narrow t v = v := by
  rcases ref_cases h with rfl | ⟨_, rfl⟩ <;> cases t <;> rfl
theorem fits_refV {C : String} {v : Value} (h : v.isRef = true) : fits (.object C) v = true := by
  rcases ref_cases h with rfl | ⟨_, rfl⟩ <;> rfl
end Jvm.RoadKit
namespace Jvm.Pilot.@@N@@
open Jvm Jvm.ClassFile Sem Op Lib Jvm.Free Jvm.Stand Jvm.LawKit Jvm.RoadKit Bundle Jvm.Pilot.@@N@@.Jvm.D
theorem eq_int {args : Array Value} {first s : State} {o : Option Outcome} {idx : List Nat} {a b : Term} {x : Value} {z : Int32} (ha : a.eval args first o idx s = some x) (hb : b.eval args first o idx s = some (.int z)) (h : (Jvm.Cond.eq a b).value args first o s idx = some true) : x = .int z := by
  cases x <;> simp [Cond.value, ha, hb] at h ⊢ <;> exact h
theorem nar_b0 : nar .boolean 0 = 0 := by decide
theorem nar_b1 : nar .boolean 1 = 1 := by decide
theorem nar_b8 (x : Int32) : nar .byte (x.toInt8.toInt32) = x.toInt8.toInt32 := by show (x.toInt8.toInt32).toInt8.toInt32 = x.toInt8.toInt32; simp
theorem eq_I {args : Array Value} {first s : State} {o : Option Outcome} {idx : List Nat} {a b : Term} {x y : Int32} (ha : a.eval args first o idx s = some (.int x)) (hb : b.eval args first o idx s = some (.int y)) : (Jvm.Cond.eq a b).value args first o s idx = some (decide (x = y)) := by simp [Cond.value, ha, hb]
def isD (a w : Addr) : Int32 := if a = w then 1 else 0
theorem pn_41134737 : plainName "com/example/interleave/interleave/mariadb/InnoDbStatus$Field" = true := by first | (simp [plainName, overriddenIn]; done) | decide +kernel
theorem ef_initN_ (m : MethodId) (x0 : Addr) (x2 : Int32) : entryFrame m #[(.ref x0), .null, (.int x2)] 3 = mkF m 0 #[.val (.ref x0), .val .null, .val (.int x2)] [] := by first | (simp [entryFrame, mkF, argsToLocals, Value.category]; done) | rfl
theorem d3_0 : decode prog_39_method_1_code 0 = .ok (.aload_n 0, 1) := by decide +kernel
theorem d3_1 : decode prog_39_method_1_code 1 = .ok (.invokespecial 1, 3) := by decide +kernel
theorem d3_4 : decode prog_39_method_1_code 4 = .ok (.aload_n 0, 1) := by decide +kernel
theorem d3_5 : decode prog_39_method_1_code 5 = .ok (.aload_n 1, 1) := by decide +kernel
theorem d3_6 : decode prog_39_method_1_code 6 = .ok (.putfield 7, 3) := by decide +kernel
theorem d3_9 : decode prog_39_method_1_code 9 = .ok (.aload_n 0, 1) := by decide +kernel
theorem d3_10 : decode prog_39_method_1_code 10 = .ok (.iload_n 2, 1) := by decide +kernel
theorem d3_11 : decode prog_39_method_1_code 11 = .ok (.putfield 13, 3) := by decide +kernel
theorem d3_14 : decode prog_39_method_1_code 14 = .ok (.return_, 1) := by decide +kernel
def Q_initN_ (Z : State) (a : Addr) (t : Int32) (h0 : Heap) (n0 : Nat) (rv_ : Option Value) (rh_ : Heap) (rL_ : List Loc) : Prop := (rv_ = none) ∧ (Fr n0 rL_) ∧ (Keep h0 rh_ [a]) ∧ (Exa Z rh_ a "com/example/interleave/interleave/mariadb/InnoDbStatus$Field")
set_option maxRecDepth 65536 in
set_option maxHeartbeats 40000000 in
theorem initN_ (l : Launch) (Z : State) (a0 : Array Value) (hw : ∀ d ∈ tables_1, d.before a0 Z = true) (ws : List Jvm.Cond) (a : Addr) (t : Int32) (h0 : Heap) (n0 : Nat) (O0 : Old Z n0 h0) (P0 : Exa Z h0 a "com/example/interleave/interleave/mariadb/InnoDbStatus$Field") (P1 : Fld Z h0 a "com/example/interleave/interleave/mariadb/InnoDbStatus$Field" "bytes" "[B" .null) (P2 : Fld Z h0 a "com/example/interleave/interleave/mariadb/InnoDbStatus$Field" "truncated" "Z" (.int (0 : Int32))) (P3 : n0 ≤ a) :
    MetFree l (⟨"com/example/interleave/interleave/mariadb/InnoDbStatus$Field", "<init>", "([BZ)V"⟩ : MethodName) (head1 (Jvm.Cond.code (⟨"com/example/interleave/interleave/mariadb/InnoDbStatus$Field", "<init>", "([BZ)V"⟩ : MethodName) prog_39_method_1_code 3 none :: ws) ({ frames := 1, cells := 0, slots := 0, locals := 12 } : Room)) (fun a_ U_ => a_ = #[(.ref a), .null, (.int t)] ∧ Z.Warmed39 U_.vm ∧ U_.heap = h0) (fun _ _ _ _ _ => True) (fun _ U_ o_ U_' => ∃ v_ L_, o_ = .returned v_ ∧ Q_initN_ Z a t h0 n0 v_ U_'.heap L_ ∧ FrameEnd U_ o_ U_' L_ ({ frames := 1, cells := 0, slots := 0, locals := 12 } : Room).cells ({ frames := 1, cells := 0, slots := 0, locals := 12 } : Room).slots) := by
  refine MetFree.of_bodySF (plainFor_of_name pn_41134737) hisR ?_
  intro p e s m args below meth c s₁ Bd hml0 hP0 hK
  obtain ⟨rfl, hZ, hh⟩ := hP0
  have hx := Bd.exec
  have hby := Bd.bytes
  have hml : c.maxLocals = 3 := hml0
  have hown : s.vm.findClass "com/example/interleave/interleave/mariadb/InnoDbStatus$Field" = some m.cls := findClass_of_methodNamed Bd.named
  have hnm := (name_of_methodNamed Bd.named Bd.method).1
  have X0 : Stand p l e ({ frames := 1, cells := 0, slots := 0, locals := 12 } : Room) s m #[(.ref a), .null, (.int t)] below meth c s₁ [] 0 0 := Stand.of_body Bd
  have e0 : s₁.heap = h0 := by rw [← hh, Bd.state]; rfl
  have N0 := Fr.nil n0
  obtain ⟨P, hP, R0⟩ : ∃ P : State → Prop, (∀ t_, P t_ → Steps p.tables e below (s₁.setTop (entryFrame m #[(.ref a), .null, (.int t)] 3)) t_) ∧ Go p e below P s₁ (mkF m 0 #[.val (.ref a), .val .null, .val (.int t)] []) := ⟨_, fun _ h => h, fun t_ k_ => castTop (ef_initN_ m a t) k_⟩
  have R1 : Go p e below P s₁ (mkF m 1 #[.val (.ref a), .val .null, .val (.int t)] [(.ref a)]) := fun t_ k_ => R0 t_ (XS.aloadN X0.here hx rfl (hb hby d3_0) rfl rfl k_)
  obtain ⟨T2, X2, e2, st2⟩ := initO X0 hx hZ hown (hw _ (List.mem_of_getElem? (i := 21) rfl)) (hw _ (List.mem_of_getElem? (i := 22) rfl)) (hw _ (List.mem_of_getElem? (i := 23) rfl)) e0 (g := (mkF m 1 #[.val (.ref a), .val .null, .val (.int t)] [(.ref a)])) rfl (by rw [hml]; rfl) rfl (hb hby d3_1) (by decide) (W := 0) (by show 2 * 0 + _ ≤ _; exact Nat.le_of_eq rfl) (by decide)
  have R3 : Go p e below P T2 (mkF m 4 #[.val (.ref a), .val .null, .val (.int t)] []) := fun t_ k_ => R1 t_ (st2 t_ k_)
  have R4 : Go p e below P T2 (mkF m 5 #[.val (.ref a), .val .null, .val (.int t)] [(.ref a)]) := fun t_ k_ => R3 t_ (XS.aloadN X2.here hx rfl (hb hby d3_4) rfl rfl k_)
  have R5 : Go p e below P T2 (mkF m 6 #[.val (.ref a), .val .null, .val (.int t)] [.null, (.ref a)]) := fun t_ k_ => R4 t_ (XS.aloadN X2.here hx rfl (hb hby d3_5) rfl rfl k_)
  obtain ⟨T6, h6, X6, e6, W6, st6⟩ := putF X2 hx hZ hown (host := "") (Or.inl (hw _ (List.mem_of_getElem? (i := 24) rfl))) Via.refl e2 P1 P0 (Or.inr ⟨(hw _ (List.mem_of_getElem? (i := 25) rfl)), rfl, hnm⟩) (hw _ (List.mem_of_getElem? (i := 17) rfl)) (ty := (.array .byte)) (by decide) rfl rfl (g := (mkF m 6 #[.val (.ref a), .val .null, .val (.int t)] [.null, (.ref a)])) rfl rfl (hb hby d3_6)
  have N6 := Fr.snoc X6 N0 P3
  have Fw6 := P1.same W6
  have O6 := O0.wr W6 P3
  have R7 : Go p e below P T6 (mkF m 9 #[.val (.ref a), .val .null, .val (.int t)] []) := fun t_ k_ => R5 t_ (st6 t_ k_)
  have R8 : Go p e below P T6 (mkF m 10 #[.val (.ref a), .val .null, .val (.int t)] [(.ref a)]) := fun t_ k_ => R7 t_ (XS.aloadN X6.here hx rfl (hb hby d3_9) rfl rfl k_)
  have R9 : Go p e below P T6 (mkF m 11 #[.val (.ref a), .val .null, .val (.int t)] [(.int t), (.ref a)]) := fun t_ k_ => R8 t_ (XS.iloadN X6.here hx rfl (hb hby d3_10) rfl k_)
  have f10 := (P0.wr W6)
  have f11 := (P2.other W6 (Or.inr (slot_ne (Or.inr (hw _ (List.mem_of_getElem? (i := 27) rfl))) (Or.inr (hw _ (List.mem_of_getElem? (i := 25) rfl))) (by decide) (t := .boolean) (t' := (.array .byte)) (by decide) (by decide))))
  obtain ⟨T12, h12, X12, e12, W12, st12⟩ := putFN X6 hx hZ hown (hw _ (List.mem_of_getElem? (i := 26) rfl)) Via.refl e6 f11 f10 (Or.inr ⟨(hw _ (List.mem_of_getElem? (i := 27) rfl)), rfl, hnm⟩) (hw _ (List.mem_of_getElem? (i := 17) rfl)) (ty := .boolean) (v' := (.int (nar .boolean t))) (by decide) rfl (fits_nar_bool _) (g := (mkF m 11 #[.val (.ref a), .val .null, .val (.int t)] [(.int t), (.ref a)])) rfl rfl (hb hby d3_11)
  have N12 := Fr.snoc X12 N6 P3
  have Fw12 := f11.same W12
  have O12 := O6.wr W12 P3
  have R13 : Go p e below P T12 (mkF m 14 #[.val (.ref a), .val .null, .val (.int t)] []) := fun t_ k_ => R9 t_ (st12 t_ k_)
  obtain ⟨fs, hr, hrun, hended, hW, hsame⟩ := X12.leave (v := none) (fun _ => rfl)
  have f14 := (f10.wr W12)
  exact ⟨_, _, hP _ (R13 _ (X12.returnOut hx Bd.returns (hb hby d3_14) hr)), hrun, hended, _, _, rfl, ⟨rfl, N12, (e12.symm ▸ (((Keep.refl h0 [a]).wr W6 (Or.inl (List.mem_of_getElem? (i := 0) rfl))).wr W12 (Or.inl (List.mem_of_getElem? (i := 0) rfl)))), (e12.symm ▸ f14)⟩, ⟨_, rfl⟩, hW, hsame.mono (by decide) (by decide)⟩
theorem ef_initA_ (m : MethodId) (x0 : Addr) (x1 : Addr) (x2 : Int32) : entryFrame m #[(.ref x0), (.ref x1), (.int x2)] 3 = mkF m 0 #[.val (.ref x0), .val (.ref x1), .val (.int x2)] [] := by first | (simp [entryFrame, mkF, argsToLocals, Value.category]; done) | rfl
def Q_initA_ (Z : State) (a : Addr) (b : Addr) (t : Int32) (h0 : Heap) (n0 : Nat) (rv_ : Option Value) (rh_ : Heap) (rL_ : List Loc) : Prop := (rv_ = none) ∧ (Fr n0 rL_) ∧ (Keep h0 rh_ [a]) ∧ (Exa Z rh_ a "com/example/interleave/interleave/mariadb/InnoDbStatus$Field")
set_option maxRecDepth 65536 in
set_option maxHeartbeats 40000000 in
theorem initA_ (l : Launch) (Z : State) (a0 : Array Value) (hw : ∀ d ∈ tables_1, d.before a0 Z = true) (ws : List Jvm.Cond) (a : Addr) (b : Addr) (t : Int32) (h0 : Heap) (n0 : Nat) (O0 : Old Z n0 h0) (P0 : Exa Z h0 a "com/example/interleave/interleave/mariadb/InnoDbStatus$Field") (P1 : Fld Z h0 a "com/example/interleave/interleave/mariadb/InnoDbStatus$Field" "bytes" "[B" .null) (P2 : Fld Z h0 a "com/example/interleave/interleave/mariadb/InnoDbStatus$Field" "truncated" "Z" (.int (0 : Int32))) (P3 : n0 ≤ a) :
    MetFree l (⟨"com/example/interleave/interleave/mariadb/InnoDbStatus$Field", "<init>", "([BZ)V"⟩ : MethodName) (head1 (Jvm.Cond.code (⟨"com/example/interleave/interleave/mariadb/InnoDbStatus$Field", "<init>", "([BZ)V"⟩ : MethodName) prog_39_method_1_code 3 none :: ws) ({ frames := 1, cells := 0, slots := 0, locals := 12 } : Room)) (fun a_ U_ => a_ = #[(.ref a), (.ref b), (.int t)] ∧ Z.Warmed39 U_.vm ∧ U_.heap = h0) (fun _ _ _ _ _ => True) (fun _ U_ o_ U_' => ∃ v_ L_, o_ = .returned v_ ∧ Q_initA_ Z a b t h0 n0 v_ U_'.heap L_ ∧ FrameEnd U_ o_ U_' L_ ({ frames := 1, cells := 0, slots := 0, locals := 12 } : Room).cells ({ frames := 1, cells := 0, slots := 0, locals := 12 } : Room).slots) := by
  refine MetFree.of_bodySF (plainFor_of_name pn_41134737) hisR ?_
  intro p e s m args below meth c s₁ Bd hml0 hP0 hK
  obtain ⟨rfl, hZ, hh⟩ := hP0
  have hx := Bd.exec
  have hby := Bd.bytes
  have hml : c.maxLocals = 3 := hml0
  have hown : s.vm.findClass "com/example/interleave/interleave/mariadb/InnoDbStatus$Field" = some m.cls := findClass_of_methodNamed Bd.named
  have hnm := (name_of_methodNamed Bd.named Bd.method).1
  have X0 : Stand p l e ({ frames := 1, cells := 0, slots := 0, locals := 12 } : Room) s m #[(.ref a), (.ref b), (.int t)] below meth c s₁ [] 0 0 := Stand.of_body Bd
  have e0 : s₁.heap = h0 := by rw [← hh, Bd.state]; rfl
  have N0 := Fr.nil n0
  obtain ⟨P, hP, R0⟩ : ∃ P : State → Prop, (∀ t_, P t_ → Steps p.tables e below (s₁.setTop (entryFrame m #[(.ref a), (.ref b), (.int t)] 3)) t_) ∧ Go p e below P s₁ (mkF m 0 #[.val (.ref a), .val (.ref b), .val (.int t)] []) := ⟨_, fun _ h => h, fun t_ k_ => castTop (ef_initA_ m a b t) k_⟩
  have R15 : Go p e below P s₁ (mkF m 1 #[.val (.ref a), .val (.ref b), .val (.int t)] [(.ref a)]) := fun t_ k_ => R0 t_ (XS.aloadN X0.here hx rfl (hb hby d3_0) rfl rfl k_)
  obtain ⟨T16, X16, e16, st16⟩ := initO X0 hx hZ hown (hw _ (List.mem_of_getElem? (i := 21) rfl)) (hw _ (List.mem_of_getElem? (i := 22) rfl)) (hw _ (List.mem_of_getElem? (i := 23) rfl)) e0 (g := (mkF m 1 #[.val (.ref a), .val (.ref b), .val (.int t)] [(.ref a)])) rfl (by rw [hml]; rfl) rfl (hb hby d3_1) (by decide) (W := 0) (by show 2 * 0 + _ ≤ _; exact Nat.le_of_eq rfl) (by decide)
  have R17 : Go p e below P T16 (mkF m 4 #[.val (.ref a), .val (.ref b), .val (.int t)] []) := fun t_ k_ => R15 t_ (st16 t_ k_)
  have R18 : Go p e below P T16 (mkF m 5 #[.val (.ref a), .val (.ref b), .val (.int t)] [(.ref a)]) := fun t_ k_ => R17 t_ (XS.aloadN X16.here hx rfl (hb hby d3_4) rfl rfl k_)
  have R19 : Go p e below P T16 (mkF m 6 #[.val (.ref a), .val (.ref b), .val (.int t)] [(.ref b), (.ref a)]) := fun t_ k_ => R18 t_ (XS.aloadN X16.here hx rfl (hb hby d3_5) rfl rfl k_)
  obtain ⟨T20, h20, X20, e20, W20, st20⟩ := putF X16 hx hZ hown (host := "") (Or.inl (hw _ (List.mem_of_getElem? (i := 24) rfl))) Via.refl e16 P1 P0 (Or.inr ⟨(hw _ (List.mem_of_getElem? (i := 25) rfl)), rfl, hnm⟩) (hw _ (List.mem_of_getElem? (i := 17) rfl)) (ty := (.array .byte)) (by decide) rfl rfl (g := (mkF m 6 #[.val (.ref a), .val (.ref b), .val (.int t)] [(.ref b), (.ref a)])) rfl rfl (hb hby d3_6)
  have N20 := Fr.snoc X20 N0 P3
  have Fw20 := P1.same W20
  have O20 := O0.wr W20 P3
  have R21 : Go p e below P T20 (mkF m 9 #[.val (.ref a), .val (.ref b), .val (.int t)] []) := fun t_ k_ => R19 t_ (st20 t_ k_)
  have R22 : Go p e below P T20 (mkF m 10 #[.val (.ref a), .val (.ref b), .val (.int t)] [(.ref a)]) := fun t_ k_ => R21 t_ (XS.aloadN X20.here hx rfl (hb hby d3_9) rfl rfl k_)
  have R23 : Go p e below P T20 (mkF m 11 #[.val (.ref a), .val (.ref b), .val (.int t)] [(.int t), (.ref a)]) := fun t_ k_ => R22 t_ (XS.iloadN X20.here hx rfl (hb hby d3_10) rfl k_)
  have f24 := (P0.wr W20)
  have f25 := (P2.other W20 (Or.inr (slot_ne (Or.inr (hw _ (List.mem_of_getElem? (i := 27) rfl))) (Or.inr (hw _ (List.mem_of_getElem? (i := 25) rfl))) (by decide) (t := .boolean) (t' := (.array .byte)) (by decide) (by decide))))
  obtain ⟨T26, h26, X26, e26, W26, st26⟩ := putFN X20 hx hZ hown (hw _ (List.mem_of_getElem? (i := 26) rfl)) Via.refl e20 f25 f24 (Or.inr ⟨(hw _ (List.mem_of_getElem? (i := 27) rfl)), rfl, hnm⟩) (hw _ (List.mem_of_getElem? (i := 17) rfl)) (ty := .boolean) (v' := (.int (nar .boolean t))) (by decide) rfl (fits_nar_bool _) (g := (mkF m 11 #[.val (.ref a), .val (.ref b), .val (.int t)] [(.int t), (.ref a)])) rfl rfl (hb hby d3_11)
  have N26 := Fr.snoc X26 N20 P3
  have Fw26 := f25.same W26
  have O26 := O20.wr W26 P3
  have R27 : Go p e below P T26 (mkF m 14 #[.val (.ref a), .val (.ref b), .val (.int t)] []) := fun t_ k_ => R23 t_ (st26 t_ k_)
  obtain ⟨fs, hr, hrun, hended, hW, hsame⟩ := X26.leave (v := none) (fun _ => rfl)
  have f28 := (f24.wr W26)
  exact ⟨_, _, hP _ (R27 _ (X26.returnOut hx Bd.returns (hb hby d3_14) hr)), hrun, hended, _, _, rfl, ⟨rfl, N26, (e26.symm ▸ (((Keep.refl h0 [a]).wr W20 (Or.inl (List.mem_of_getElem? (i := 0) rfl))).wr W26 (Or.inl (List.mem_of_getElem? (i := 0) rfl)))), (e26.symm ▸ f28)⟩, ⟨_, rfl⟩, hW, hsame.mono (by decide) (by decide)⟩
theorem pn_58564871 : plainName "com/example/interleave/interleave/mariadb/FieldIsDefaultPinLaw" = true := by first | (simp [plainName, overriddenIn]; done) | decide +kernel
theorem ef_pick_ (m : MethodId) (x0 : Int32) (x1 : Int32) (x2 : Int32) : entryFrame m #[(.int x0), (.int x1), (.int x2)] 4 = mkF m 0 #[.val (.int x0), .val (.int x1), .val (.int x2), .unset] [] := by first | (simp [entryFrame, mkF, argsToLocals, Value.category]; done) | rfl
theorem d1_0 : decode method_3_code 0 = .ok (.iload_n 0, 1) := by decide +kernel
theorem d1_1 : decode method_3_code 1 = .ok (.ifCond .ne 7, 3) := by decide +kernel
theorem d1_4 : decode method_3_code 4 = .ok (.getstatic 19, 3) := by decide +kernel
theorem d1_7 : decode method_3_code 7 = .ok (.areturn, 1) := by decide +kernel
theorem d1_8 : decode method_3_code 8 = .ok (.iload_n 0, 1) := by decide +kernel
theorem d1_9 : decode method_3_code 9 = .ok (.iconst 1, 1) := by decide +kernel
theorem d1_10 : decode method_3_code 10 = .ok (.if_icmp .ne 7, 3) := by decide +kernel
theorem d1_13 : decode method_3_code 13 = .ok (.getstatic 23, 3) := by decide +kernel
theorem d1_16 : decode method_3_code 16 = .ok (.areturn, 1) := by decide +kernel
theorem d1_17 : decode method_3_code 17 = .ok (.iload_n 0, 1) := by decide +kernel
theorem d1_18 : decode method_3_code 18 = .ok (.iconst 2, 1) := by decide +kernel
theorem d1_19 : decode method_3_code 19 = .ok (.if_icmp .ne 13, 3) := by decide +kernel
theorem d1_22 : decode method_3_code 22 = .ok (.new 14, 3) := by decide +kernel
theorem d1_25 : decode method_3_code 25 = .ok (.dup, 1) := by decide +kernel
theorem d1_26 : decode method_3_code 26 = .ok (.aconst_null, 1) := by decide +kernel
theorem d1_27 : decode method_3_code 27 = .ok (.iload_n 2, 1) := by decide +kernel
theorem d1_28 : decode method_3_code 28 = .ok (.invokespecial 26, 3) := by decide +kernel
theorem pd_21012771 : parseMethodDescriptor "([BZ)V" = some ⟨[(.array .byte), .boolean], none⟩ := by decide +kernel
theorem d1_31 : decode method_3_code 31 = .ok (.areturn, 1) := by decide +kernel
theorem d1_32 : decode method_3_code 32 = .ok (.iconst 1, 1) := by decide +kernel
theorem d1_33 : decode method_3_code 33 = .ok (.newarray .byte, 2) := by decide +kernel
theorem d1_35 : decode method_3_code 35 = .ok (.astore_n 3, 1) := by decide +kernel
theorem d1_36 : decode method_3_code 36 = .ok (.aload_n 3, 1) := by decide +kernel
theorem d1_37 : decode method_3_code 37 = .ok (.iconst 0, 1) := by decide +kernel
theorem d1_38 : decode method_3_code 38 = .ok (.iload_n 1, 1) := by decide +kernel
theorem d1_39 : decode method_3_code 39 = .ok (.i2b, 1) := by decide +kernel
theorem d1_40 : decode method_3_code 40 = .ok (.bastore, 1) := by decide +kernel
theorem d1_41 : decode method_3_code 41 = .ok (.new 14, 3) := by decide +kernel
theorem d1_44 : decode method_3_code 44 = .ok (.dup, 1) := by decide +kernel
theorem d1_45 : decode method_3_code 45 = .ok (.aload_n 3, 1) := by decide +kernel
theorem d1_46 : decode method_3_code 46 = .ok (.iload_n 2, 1) := by decide +kernel
theorem d1_47 : decode method_3_code 47 = .ok (.invokespecial 26, 3) := by decide +kernel
theorem d1_50 : decode method_3_code 50 = .ok (.areturn, 1) := by decide +kernel
def Q_pick_ (Z : State) (cc : Int32) (b0 : Int32) (t : Int32) (wN : Addr) (wD : Addr) (h0 : Heap) (n0 : Nat) (rv_ : Option Value) (rh_ : Heap) (rL_ : List Loc) : Prop := ∃ r : Addr, (rv_ = some (.ref r)) ∧ (Fr n0 rL_) ∧ (Keep h0 rh_ []) ∧ (Exa Z rh_ r "com/example/interleave/interleave/mariadb/InnoDbStatus$Field") ∧ (r = wD ↔ cc = 1)
set_option maxRecDepth 65536 in
set_option maxHeartbeats 40000000 in
theorem pick_ (l : Launch) (Z : State) (a0 : Array Value) (hw : ∀ d ∈ tables_1, d.before a0 Z = true) (ws : List Jvm.Cond) (cc : Int32) (b0 : Int32) (t : Int32) (wN : Addr) (wD : Addr) (h0 : Heap) (n0 : Nat) (O0 : Old Z n0 h0) (P0 : Sta Z Z.heap "com/example/interleave/interleave/mariadb/InnoDbStatus$Field" "NULL" "Lcom/example/interleave/interleave/mariadb/InnoDbStatus$Field;" (.ref wN)) (P1 : Sta Z Z.heap "com/example/interleave/interleave/mariadb/InnoDbStatus$Field" "DEFAULT" "Lcom/example/interleave/interleave/mariadb/InnoDbStatus$Field;" (.ref wD)) (P2 : Exa Z Z.heap wN "com/example/interleave/interleave/mariadb/InnoDbStatus$Field") (P3 : Exa Z Z.heap wD "com/example/interleave/interleave/mariadb/InnoDbStatus$Field") (P4 : wD ≠ wN) :
    MetFree l (⟨"com/example/interleave/interleave/mariadb/FieldIsDefaultPinLaw", "pick", "(IIZ)Lcom/example/interleave/interleave/mariadb/InnoDbStatus$Field;"⟩ : MethodName) (head1 (Jvm.Cond.code (⟨"com/example/interleave/interleave/mariadb/FieldIsDefaultPinLaw", "pick", "(IIZ)Lcom/example/interleave/interleave/mariadb/InnoDbStatus$Field;"⟩ : MethodName) method_3_code 4 (some (.object "com/example/interleave/interleave/mariadb/InnoDbStatus$Field")) :: ws) ({ frames := 2, cells := 2, slots := 3, locals := 27 } : Room)) (fun a_ U_ => a_ = #[(.int cc), (.int b0), (.int t)] ∧ Z.Warmed39 U_.vm ∧ U_.heap = h0) (fun _ _ _ _ _ => True) (fun _ U_ o_ U_' => ∃ v_ L_, o_ = .returned v_ ∧ Q_pick_ Z cc b0 t wN wD h0 n0 v_ U_'.heap L_ ∧ FrameEnd U_ o_ U_' L_ ({ frames := 2, cells := 2, slots := 3, locals := 27 } : Room).cells ({ frames := 2, cells := 2, slots := 3, locals := 27 } : Room).slots) := by
  refine MetFree.of_bodySF (plainFor_of_name pn_58564871) hisR ?_
  intro p e s m args below meth c s₁ Bd hml0 hP0 hK
  obtain ⟨rfl, hZ, hh⟩ := hP0
  have hx := Bd.exec
  have hby := Bd.bytes
  have hml : c.maxLocals = 4 := hml0
  have hown : s.vm.findClass "com/example/interleave/interleave/mariadb/FieldIsDefaultPinLaw" = some m.cls := findClass_of_methodNamed Bd.named
  have hnm := (name_of_methodNamed Bd.named Bd.method).1
  have X0 : Stand p l e ({ frames := 2, cells := 2, slots := 3, locals := 27 } : Room) s m #[(.int cc), (.int b0), (.int t)] below meth c s₁ [] 0 0 := Stand.of_body Bd
  have e0 : s₁.heap = h0 := by rw [← hh, Bd.state]; rfl
  have N0 := Fr.nil n0
  obtain ⟨P, hP, R0⟩ : ∃ P : State → Prop, (∀ t_, P t_ → Steps p.tables e below (s₁.setTop (entryFrame m #[(.int cc), (.int b0), (.int t)] 4)) t_) ∧ Go p e below P s₁ (mkF m 0 #[.val (.int cc), .val (.int b0), .val (.int t), .unset] []) := ⟨_, fun _ h => h, fun t_ k_ => castTop (ef_pick_ m cc b0 t) k_⟩
  have R29 : Go p e below P s₁ (mkF m 1 #[.val (.int cc), .val (.int b0), .val (.int t), .unset] [(.int cc)]) := fun t_ k_ => R0 t_ (XS.iloadN X0.here hx rfl (hb hby d1_0) rfl k_)
  by_cases hc30 : cc = (0 : Int32)
  · have R31 : Go p e below P s₁ (mkF m 4 #[.val (.int cc), .val (.int b0), .val (.int t), .unset] []) := fun t_ k_ => R29 t_ (XS.ifNo X0.here hx rfl (hb hby d1_1) rfl ((if0 _ _).trans (teq hc30).2) k_)
    obtain ⟨T32, X32, e32, st32⟩ := getS2 X0 hx hZ hown (host := "") (Or.inl (hw _ (List.mem_of_getElem? (i := 4) rfl))) Via.refl e0 (P0.ext O0.2) (g := (mkF m 4 #[.val (.int cc), .val (.int b0), .val (.int t), .unset] [])) rfl (hb hby d1_4)
    have R33 : Go p e below P T32 (mkF m 7 #[.val (.int cc), .val (.int b0), .val (.int t), .unset] [(.ref wN)]) := fun t_ k_ => R31 t_ (st32 t_ k_)
    obtain ⟨fs, hr, hrun, hended, hW, hsame⟩ := X32.leave (v := some (.ref wN)) (fun h => by rw [Bd.returns] at h; cases h)
    exact ⟨_, _, hP _ (R33 _ (retOut X32 hx Bd.returns rfl (Or.inr (Or.inr (Or.inr (Or.inr ⟨rfl, rfl, rfl⟩)))) (hb hby d1_7) hr)), hrun, hended, _, _, rfl, ⟨wN, rfl, N0, (e32.symm ▸ (Keep.refl h0 [])), (e32.symm ▸ (P2.ext O0.2)), ⟨fun q => absurd q (Ne.symm P4), fun q => absurd (hc30.symm.trans q) (by decide)⟩⟩, ⟨_, rfl⟩, hW, hsame.mono (by decide) (by decide)⟩
  · have R34 : Go p e below P s₁ (mkF m 8 #[.val (.int cc), .val (.int b0), .val (.int t), .unset] []) := fun t_ k_ => R29 t_ (XS.ifYes X0.here hx rfl (pc0 := 1) (pc' := 8) rfl (hb hby d1_1) rfl ((if0 _ _).trans (feq hc30).2) (by decide) (by decide) k_)
    have R35 : Go p e below P s₁ (mkF m 9 #[.val (.int cc), .val (.int b0), .val (.int t), .unset] [(.int cc)]) := fun t_ k_ => R34 t_ (XS.iloadN X0.here hx rfl (hb hby d1_8) rfl k_)
    have R36 : Go p e below P s₁ (mkF m 10 #[.val (.int cc), .val (.int b0), .val (.int t), .unset] [(.int (1 : Int32)), (.int cc)]) := fun t_ k_ => R35 t_ (XS.iconst X0.here hx rfl (hb hby d1_9) k_)
    by_cases hc37 : cc = (1 : Int32)
    · have R38 : Go p e below P s₁ (mkF m 13 #[.val (.int cc), .val (.int b0), .val (.int t), .unset] []) := fun t_ k_ => R36 t_ (XS.icmpNo X0.here hx rfl (hb hby d1_10) rfl (teq hc37).2 k_)
      obtain ⟨T39, X39, e39, st39⟩ := getS2 X0 hx hZ hown (host := "") (Or.inl (hw _ (List.mem_of_getElem? (i := 14) rfl))) Via.refl e0 (P1.ext O0.2) (g := (mkF m 13 #[.val (.int cc), .val (.int b0), .val (.int t), .unset] [])) rfl (hb hby d1_13)
      have R40 : Go p e below P T39 (mkF m 16 #[.val (.int cc), .val (.int b0), .val (.int t), .unset] [(.ref wD)]) := fun t_ k_ => R38 t_ (st39 t_ k_)
      obtain ⟨fs, hr, hrun, hended, hW, hsame⟩ := X39.leave (v := some (.ref wD)) (fun h => by rw [Bd.returns] at h; cases h)
      exact ⟨_, _, hP _ (R40 _ (retOut X39 hx Bd.returns rfl (Or.inr (Or.inr (Or.inr (Or.inr ⟨rfl, rfl, rfl⟩)))) (hb hby d1_16) hr)), hrun, hended, _, _, rfl, ⟨wD, rfl, N0, (e39.symm ▸ (Keep.refl h0 [])), (e39.symm ▸ (P3.ext O0.2)), ⟨fun _ => hc37, fun _ => rfl⟩⟩, ⟨_, rfl⟩, hW, hsame.mono (by decide) (by decide)⟩
    · have R41 : Go p e below P s₁ (mkF m 17 #[.val (.int cc), .val (.int b0), .val (.int t), .unset] []) := fun t_ k_ => R36 t_ (XS.icmpYes X0.here hx rfl (pc0 := 10) (pc' := 17) rfl (hb hby d1_10) rfl (feq hc37).2 (by decide) (by decide) k_)
      have R42 : Go p e below P s₁ (mkF m 18 #[.val (.int cc), .val (.int b0), .val (.int t), .unset] [(.int cc)]) := fun t_ k_ => R41 t_ (XS.iloadN X0.here hx rfl (hb hby d1_17) rfl k_)
      have R43 : Go p e below P s₁ (mkF m 19 #[.val (.int cc), .val (.int b0), .val (.int t), .unset] [(.int (2 : Int32)), (.int cc)]) := fun t_ k_ => R42 t_ (XS.iconst X0.here hx rfl (hb hby d1_18) k_)
      by_cases hc44 : cc = (2 : Int32)
      · have R45 : Go p e below P s₁ (mkF m 22 #[.val (.int cc), .val (.int b0), .val (.int t), .unset] []) := fun t_ k_ => R43 t_ (XS.icmpNo X0.here hx rfl (hb hby d1_19) rfl (teq hc44).2 k_)
        obtain ⟨T46, h46, X46, e46, E46, A46, D46, -, st46⟩ := newO X0 hx hZ hown (hw _ (List.mem_of_getElem? (i := 16) rfl)) (hw _ (List.mem_of_getElem? (i := 17) rfl)) (hw _ (List.mem_of_getElem? (i := 5) rfl)) e0 (g := (mkF m 22 #[.val (.int cc), .val (.int b0), .val (.int t), .unset] [])) rfl (hb hby d1_22) (by decide) (by decide)
        obtain ⟨b46, g46⟩ : ∃ z, z = h0.size := ⟨_, rfl⟩
        rw [← g46] at A46 D46 st46
        have O46 := O0.ext E46
        have F46_25 : Fld Z h46 b46 "com/example/interleave/interleave/mariadb/InnoDbStatus$Field" "bytes" "[B" .null := D46 (Or.inr (hw _ (List.mem_of_getElem? (i := 25) rfl))) (ty := (.array .byte)) (by decide)
        have F46_27 : Fld Z h46 b46 "com/example/interleave/interleave/mariadb/InnoDbStatus$Field" "truncated" "Z" (.int (0 : Int32)) := D46 (Or.inr (hw _ (List.mem_of_getElem? (i := 27) rfl))) (ty := .boolean) (by decide)
        have R47 : Go p e below P T46 (mkF m 25 #[.val (.int cc), .val (.int b0), .val (.int t), .unset] [(.ref b46)]) := fun t_ k_ => R45 t_ (st46 t_ k_)
        have R48 : Go p e below P T46 (mkF m 26 #[.val (.int cc), .val (.int b0), .val (.int t), .unset] [(.ref b46), (.ref b46)]) := fun t_ k_ => R47 t_ (XS.dup X46.here hx rfl (hb hby d1_25) rfl rfl k_)
        have R49 : Go p e below P T46 (mkF m 27 #[.val (.int cc), .val (.int b0), .val (.int t), .unset] [.null, (.ref b46), (.ref b46)]) := fun t_ k_ => R48 t_ (XS.aconstNull X46.here hx rfl (hb hby d1_26) k_)
        have R50 : Go p e below P T46 (mkF m 28 #[.val (.int cc), .val (.int b0), .val (.int t), .unset] [(.int t), .null, (.ref b46), (.ref b46)]) := fun t_ k_ => R49 t_ (XS.iloadN X46.here hx rfl (hb hby d1_27) rfl k_)
        obtain ⟨rv51, _, ⟨T51, L51, k51, n51⟩, -, X51, ⟨Lc51, hQ51, l51, y51, z51⟩, st51⟩ := X46.specialBack hx (y := (⟨"com/example/interleave/interleave/mariadb/InnoDbStatus$Field", "<init>", "([BZ)V"⟩ : MethodName)) rfl hown (mvT hZ (hw _ (List.mem_of_getElem? (i := 18) rfl))) (mvT hZ (hw _ (List.mem_of_getElem? (i := 19) rfl))) (mvT hZ (hw _ (List.mem_of_getElem? (i := 20) rfl))) (by decide) (backOf (W := 1) (initN_ l Z a0 hw [] b46 t h46 n0 O46 A46 F46_25 F46_27 (Nat.le_trans (oldLe O0) (Nat.le_of_eq g46.symm))) hZ (hw _ (List.mem_of_getElem? (i := 20) rfl)) (hw _ (List.mem_of_getElem? (i := 5) rfl)) (by decide) (by decide)) (g := (mkF m 28 #[.val (.int cc), .val (.int b0), .val (.int t), .unset] [(.int t), .null, (.ref b46), (.ref b46)])) rfl (by rw [hml]; rfl) (Steps.refl _) (a := b46) (argsL := [.null, (.int t)]) (rest := [(.ref b46)]) (lenOf pd_21012771 rfl) rfl (by show 2 * 0 + _ ≤ _; exact Nat.le_of_eq rfl) (hb hby d1_28) (fun _ _ => ⟨rfl, e46, (by decide : 1 + 0 ≤ _), (by decide : 2 + 0 ≤ _)⟩)
        dsimp only [Pt.U, Pt.locs, Pt.cells, Pt.slots] at X51 l51 y51 z51 st51 hQ51
        subst l51 y51 z51
        obtain ⟨rfl, N51q, K51, p51_0⟩ := hQ51
        have N51 := Fr.app N0 N51q
        have O51 := O46.keep K51 (allS (Nat.le_trans (oldLe O0) (Nat.le_of_eq g46.symm)) all0)
        have R52 : Go p e below P T51 (mkF m 31 #[.val (.int cc), .val (.int b0), .val (.int t), .unset] [(.ref b46)]) := fun t_ k_ => R50 t_ (st51.trans k_)
        obtain ⟨fs, hr, hrun, hended, hW, hsame⟩ := X51.leave (v := some (.ref b46)) (fun h => by rw [Bd.returns] at h; cases h)
        exact ⟨_, _, hP _ (R52 _ (retOut X51 hx Bd.returns rfl (Or.inr (Or.inr (Or.inr (Or.inr ⟨rfl, rfl, rfl⟩)))) (hb hby d1_31) hr)), hrun, hended, _, _, rfl, ⟨b46, rfl, N51, (((Keep.refl h0 []).ext E46).trans K51 (allS (Or.inr (Nat.le_of_eq g46.symm)) all0)), p51_0, ⟨fun q => absurd q (Ne.symm (Old.ne O0 P3.lt (Nat.le_trans (oldLe O0) (Nat.le_of_eq g46.symm)))), fun q => absurd q hc37⟩⟩, ⟨_, rfl⟩, hW, hsame.mono (by decide) (by decide)⟩
      · have R53 : Go p e below P s₁ (mkF m 32 #[.val (.int cc), .val (.int b0), .val (.int t), .unset] []) := fun t_ k_ => R43 t_ (XS.icmpYes X0.here hx rfl (pc0 := 19) (pc' := 32) rfl (hb hby d1_19) rfl (feq hc44).2 (by decide) (by decide) k_)
        have R54 : Go p e below P s₁ (mkF m 33 #[.val (.int cc), .val (.int b0), .val (.int t), .unset] [(.int (1 : Int32))]) := fun t_ k_ => R53 t_ (XS.iconst X0.here hx rfl (hb hby d1_32) k_)
        obtain ⟨T55, h55, k55, X55, e55, E55, A55, st55⟩ := newP X0 hx hZ (hw _ (List.mem_of_getElem? (i := 15) rfl)) e0 (g := (mkF m 33 #[.val (.int cc), .val (.int b0), .val (.int t), .unset] [(.int (1 : Int32))])) rfl (hb hby d1_33) rfl (by decide) (cap := 1) (by decide) (by decide) (by decide) (by decide)
        obtain ⟨b55, g55⟩ : ∃ z, z = h0.size := ⟨_, rfl⟩
        rw [← g55] at A55 st55
        have O55 := O0.ext E55
        have V55 : Arv Z h55 b55 k55 .byte (1 : Int32) [(.int (0 : Int32))] (.int (0 : Int32)) := (Arv.new A55 (by decide)).pad (pad_rep [] (.int (0 : Int32)) 1)
        have R56 : Go p e below P T55 (mkF m 35 #[.val (.int cc), .val (.int b0), .val (.int t), .unset] [(.ref b55)]) := fun t_ k_ => R54 t_ (st55 t_ k_)
        have R57 : Go p e below P T55 (mkF m 36 #[.val (.int cc), .val (.int b0), .val (.int t), .val (.ref b55)] []) := fun t_ k_ => R56 t_ (XS.astoreN X55.here hx rfl (hb hby d1_35) rfl rfl (l' := #[.val (.int cc), .val (.int b0), .val (.int t), .val (.ref b55)]) rfl k_)
        have R58 : Go p e below P T55 (mkF m 37 #[.val (.int cc), .val (.int b0), .val (.int t), .val (.ref b55)] [(.ref b55)]) := fun t_ k_ => R57 t_ (XS.aloadN X55.here hx rfl (hb hby d1_36) rfl rfl k_)
        have R59 : Go p e below P T55 (mkF m 38 #[.val (.int cc), .val (.int b0), .val (.int t), .val (.ref b55)] [(.int (0 : Int32)), (.ref b55)]) := fun t_ k_ => R58 t_ (XS.iconst X55.here hx rfl (hb hby d1_37) k_)
        have R60 : Go p e below P T55 (mkF m 39 #[.val (.int cc), .val (.int b0), .val (.int t), .val (.ref b55)] [(.int b0), (.int (0 : Int32)), (.ref b55)]) := fun t_ k_ => R59 t_ (XS.iloadN X55.here hx rfl (hb hby d1_38) rfl k_)
        have R61 : Go p e below P T55 (mkF m 40 #[.val (.int cc), .val (.int b0), .val (.int t), .val (.ref b55)] [(.int (b0.toInt8.toInt32)), (.int (0 : Int32)), (.ref b55)]) := fun t_ k_ => R60 t_ (XS.i2b X55.here hx rfl (hb hby d1_39) rfl k_)
        obtain ⟨cl62, cl62A, cl62q, cl62S, cl62N, cl62H, cl62G⟩ := V55
        obtain ⟨T63, h63, X63, e63, W63, st63⟩ := stB X55 hx hZ e55 cl62A (j := (0 : Int32)) (inb_of cl62S ⟨by decide, by decide⟩) (g := (mkF m 40 #[.val (.int cc), .val (.int b0), .val (.int t), .val (.ref b55)] [(.int (b0.toInt8.toInt32)), (.int (0 : Int32)), (.ref b55)])) rfl rfl (hb hby d1_40)
        have V63 : Arv Z h63 b55 k55 .byte (1 : Int32) [(.int (nar .byte (b0.toInt8.toInt32)))] (.int (0 : Int32)) := Arv.set cl62A cl62q cl62S cl62N cl62H cl62G (fits_nar_byte _) W63 0 rfl (Nat.le_of_ble_eq_true rfl)
        have N63 := Fr.snoc X63 N0 (Nat.le_trans (oldLe O0) (Nat.le_of_eq g55.symm))
        have O63 := O55.wr W63 (Nat.le_trans (oldLe O0) (Nat.le_of_eq g55.symm))
        have R64 : Go p e below P T63 (mkF m 41 #[.val (.int cc), .val (.int b0), .val (.int t), .val (.ref b55)] []) := fun t_ k_ => R61 t_ (st63 t_ k_)
        obtain ⟨T65, h65, X65, e65, E65, A65, D65, -, st65⟩ := newO X63 hx hZ hown (hw _ (List.mem_of_getElem? (i := 16) rfl)) (hw _ (List.mem_of_getElem? (i := 17) rfl)) (hw _ (List.mem_of_getElem? (i := 5) rfl)) e63 (g := (mkF m 41 #[.val (.int cc), .val (.int b0), .val (.int t), .val (.ref b55)] [])) rfl (hb hby d1_41) (by decide) (by decide)
        obtain ⟨b65, g65⟩ : ∃ z, z = h63.size := ⟨_, rfl⟩
        rw [← g65] at A65 D65 st65
        have O65 := O63.ext E65
        have F65_25 : Fld Z h65 b65 "com/example/interleave/interleave/mariadb/InnoDbStatus$Field" "bytes" "[B" .null := D65 (Or.inr (hw _ (List.mem_of_getElem? (i := 25) rfl))) (ty := (.array .byte)) (by decide)
        have F65_27 : Fld Z h65 b65 "com/example/interleave/interleave/mariadb/InnoDbStatus$Field" "truncated" "Z" (.int (0 : Int32)) := D65 (Or.inr (hw _ (List.mem_of_getElem? (i := 27) rfl))) (ty := .boolean) (by decide)
        have R66 : Go p e below P T65 (mkF m 44 #[.val (.int cc), .val (.int b0), .val (.int t), .val (.ref b55)] [(.ref b65)]) := fun t_ k_ => R64 t_ (st65 t_ k_)
        have R67 : Go p e below P T65 (mkF m 45 #[.val (.int cc), .val (.int b0), .val (.int t), .val (.ref b55)] [(.ref b65), (.ref b65)]) := fun t_ k_ => R66 t_ (XS.dup X65.here hx rfl (hb hby d1_44) rfl rfl k_)
        have R68 : Go p e below P T65 (mkF m 46 #[.val (.int cc), .val (.int b0), .val (.int t), .val (.ref b55)] [(.ref b55), (.ref b65), (.ref b65)]) := fun t_ k_ => R67 t_ (XS.aloadN X65.here hx rfl (hb hby d1_45) rfl rfl k_)
        have R69 : Go p e below P T65 (mkF m 47 #[.val (.int cc), .val (.int b0), .val (.int t), .val (.ref b55)] [(.int t), (.ref b55), (.ref b65), (.ref b65)]) := fun t_ k_ => R68 t_ (XS.iloadN X65.here hx rfl (hb hby d1_46) rfl k_)
        obtain ⟨rv70, _, ⟨T70, L70, k70, n70⟩, -, X70, ⟨Lc70, hQ70, l70, y70, z70⟩, st70⟩ := X65.specialBack hx (y := (⟨"com/example/interleave/interleave/mariadb/InnoDbStatus$Field", "<init>", "([BZ)V"⟩ : MethodName)) rfl hown (mvT hZ (hw _ (List.mem_of_getElem? (i := 18) rfl))) (mvT hZ (hw _ (List.mem_of_getElem? (i := 19) rfl))) (mvT hZ (hw _ (List.mem_of_getElem? (i := 20) rfl))) (by decide) (backOf (W := 1) (initA_ l Z a0 hw [] b65 b55 t h65 n0 O65 A65 F65_25 F65_27 (Nat.le_trans (oldLe O63) (Nat.le_of_eq g65.symm))) hZ (hw _ (List.mem_of_getElem? (i := 20) rfl)) (hw _ (List.mem_of_getElem? (i := 5) rfl)) (by decide) (by decide)) (g := (mkF m 47 #[.val (.int cc), .val (.int b0), .val (.int t), .val (.ref b55)] [(.int t), (.ref b55), (.ref b65), (.ref b65)])) rfl (by rw [hml]; rfl) (Steps.refl _) (a := b65) (argsL := [(.ref b55), (.int t)]) (rest := [(.ref b65)]) (lenOf pd_21012771 rfl) rfl (by show 2 * 0 + _ ≤ _; exact Nat.le_of_eq rfl) (hb hby d1_47) (fun _ _ => ⟨rfl, e65, (by decide : 2 + 0 ≤ _), (by decide : 3 + 0 ≤ _)⟩)
        dsimp only [Pt.U, Pt.locs, Pt.cells, Pt.slots] at X70 l70 y70 z70 st70 hQ70
        subst l70 y70 z70
        obtain ⟨rfl, N70q, K70, p70_0⟩ := hQ70
        have N70 := Fr.app N63 N70q
        have O70 := O65.keep K70 (allS (Nat.le_trans (oldLe O63) (Nat.le_of_eq g65.symm)) all0)
        have R71 : Go p e below P T70 (mkF m 50 #[.val (.int cc), .val (.int b0), .val (.int t), .val (.ref b55)] [(.ref b65)]) := fun t_ k_ => R69 t_ (st70.trans k_)
        obtain ⟨fs, hr, hrun, hended, hW, hsame⟩ := X70.leave (v := some (.ref b65)) (fun h => by rw [Bd.returns] at h; cases h)
        exact ⟨_, _, hP _ (R71 _ (retOut X70 hx Bd.returns rfl (Or.inr (Or.inr (Or.inr (Or.inr ⟨rfl, rfl, rfl⟩)))) (hb hby d1_50) hr)), hrun, hended, _, _, rfl, ⟨b65, rfl, N70, (((((Keep.refl h0 []).ext E55).wr W63 (Or.inr (Nat.le_of_eq g55.symm))).ext E65).trans K70 (allS (Or.inr (Nat.le_trans (((Keep.refl h0 []).ext E55).wr W63 (Or.inr (Nat.le_of_eq g55.symm))).1 (Nat.le_of_eq g65.symm))) all0)), p70_0, ⟨fun q => absurd q (Ne.symm (Old.ne O63 P3.lt (Nat.le_trans (oldLe O63) (Nat.le_of_eq g65.symm)))), fun q => absurd q hc37⟩⟩, ⟨_, rfl⟩, hW, hsame.mono (by decide) (by decide)⟩
theorem ef_isDefault_ (m : MethodId) (x0 : Addr) : entryFrame m #[(.ref x0)] 1 = mkF m 0 #[.val (.ref x0)] [] := by first | (simp [entryFrame, mkF, argsToLocals, Value.category]; done) | rfl
theorem d2_0 : decode prog_39_method_3_code 0 = .ok (.aload_n 0, 1) := by decide +kernel
theorem d2_1 : decode prog_39_method_3_code 1 = .ok (.getstatic 17, 3) := by decide +kernel
theorem d2_4 : decode prog_39_method_3_code 4 = .ok (.if_acmp .ne 7, 3) := by decide +kernel
theorem d2_7 : decode prog_39_method_3_code 7 = .ok (.iconst 1, 1) := by decide +kernel
theorem d2_8 : decode prog_39_method_3_code 8 = .ok (.goto 4, 3) := by decide +kernel
theorem d2_12 : decode prog_39_method_3_code 12 = .ok (.ireturn, 1) := by decide +kernel
theorem d2_11 : decode prog_39_method_3_code 11 = .ok (.iconst 0, 1) := by decide +kernel
def Q_isDefault_ (Z : State) (a : Addr) (wD : Addr) (h0 : Heap) (n0 : Nat) (rv_ : Option Value) (rh_ : Heap) (rL_ : List Loc) : Prop := (rv_ = some (.int (isD a wD))) ∧ (Fr n0 rL_) ∧ (rh_ = h0)
set_option maxRecDepth 65536 in
set_option maxHeartbeats 40000000 in
theorem isDefault_ (l : Launch) (Z : State) (a0 : Array Value) (hw : ∀ d ∈ tables_1, d.before a0 Z = true) (ws : List Jvm.Cond) (a : Addr) (wD : Addr) (h0 : Heap) (n0 : Nat) (O0 : Old Z n0 h0) (P0 : Sta Z Z.heap "com/example/interleave/interleave/mariadb/InnoDbStatus$Field" "DEFAULT" "Lcom/example/interleave/interleave/mariadb/InnoDbStatus$Field;" (.ref wD)) :
    MetFree l (⟨"com/example/interleave/interleave/mariadb/InnoDbStatus$Field", "isDefault", "()Z"⟩ : MethodName) (head1 (Jvm.Cond.code (⟨"com/example/interleave/interleave/mariadb/InnoDbStatus$Field", "isDefault", "()Z"⟩ : MethodName) prog_39_method_3_code 1 (some .boolean) :: ws) ({ frames := 0, cells := 0, slots := 0, locals := 0 } : Room)) (fun a_ U_ => a_ = #[(.ref a)] ∧ Z.Warmed39 U_.vm ∧ U_.heap = h0) (fun _ _ _ _ _ => True) (fun _ U_ o_ U_' => ∃ v_ L_, o_ = .returned v_ ∧ Q_isDefault_ Z a wD h0 n0 v_ U_'.heap L_ ∧ FrameEnd U_ o_ U_' L_ ({ frames := 0, cells := 0, slots := 0, locals := 0 } : Room).cells ({ frames := 0, cells := 0, slots := 0, locals := 0 } : Room).slots) := by
  refine MetFree.of_bodySF (plainFor_of_name pn_41134737) hisR ?_
  intro p e s m args below meth c s₁ Bd hml0 hP0 hK
  obtain ⟨rfl, hZ, hh⟩ := hP0
  have hx := Bd.exec
  have hby := Bd.bytes
  have hml : c.maxLocals = 1 := hml0
  have hown : s.vm.findClass "com/example/interleave/interleave/mariadb/InnoDbStatus$Field" = some m.cls := findClass_of_methodNamed Bd.named
  have hnm := (name_of_methodNamed Bd.named Bd.method).1
  have X0 : Stand p l e ({ frames := 0, cells := 0, slots := 0, locals := 0 } : Room) s m #[(.ref a)] below meth c s₁ [] 0 0 := Stand.of_body Bd
  have e0 : s₁.heap = h0 := by rw [← hh, Bd.state]; rfl
  have N0 := Fr.nil n0
  obtain ⟨P, hP, R0⟩ : ∃ P : State → Prop, (∀ t_, P t_ → Steps p.tables e below (s₁.setTop (entryFrame m #[(.ref a)] 1)) t_) ∧ Go p e below P s₁ (mkF m 0 #[.val (.ref a)] []) := ⟨_, fun _ h => h, fun t_ k_ => castTop (ef_isDefault_ m a) k_⟩
  have R72 : Go p e below P s₁ (mkF m 1 #[.val (.ref a)] [(.ref a)]) := fun t_ k_ => R0 t_ (XS.aloadN X0.here hx rfl (hb hby d2_0) rfl rfl k_)
  obtain ⟨T73, X73, e73, st73⟩ := getS2 X0 hx hZ hown (host := "") (Or.inl (hw _ (List.mem_of_getElem? (i := 12) rfl))) Via.refl e0 (P0.ext O0.2) (g := (mkF m 1 #[.val (.ref a)] [(.ref a)])) rfl (hb hby d2_1)
  have R74 : Go p e below P T73 (mkF m 4 #[.val (.ref a)] [(.ref wD), (.ref a)]) := fun t_ k_ => R72 t_ (st73 t_ k_)
  by_cases hc75 : a = wD
  · have R76 : Go p e below P T73 (mkF m 7 #[.val (.ref a)] []) := fun t_ k_ => R74 t_ (Jvm.RoadKit.acmp (g := (mkF m 4 #[.val (.ref a)] [(.ref wD), (.ref a)])) X73 hx rfl rfl rfl (pc0 := 4) (pc' := 7) (same := true) rfl (hb hby d2_4) rfl (decide_eq_true (congrArg Value.ref hc75)) (by decide) (by decide) k_)
    have R77 : Go p e below P T73 (mkF m 8 #[.val (.ref a)] [(.int (1 : Int32))]) := fun t_ k_ => R76 t_ (XS.iconst X73.here hx rfl (hb hby d2_7) k_)
    have R78 : Go p e below P T73 (mkF m 12 #[.val (.ref a)] [(.int (1 : Int32))]) := fun t_ k_ => R77 t_ (XS.goto X73.here hx rfl (pc0 := 8) (pc' := 12) rfl (hb hby d2_8) (by decide) (by decide) k_)
    obtain ⟨fs, hr, hrun, hended, hW, hsame⟩ := X73.leave (v := some (.int (nar .boolean (1 : Int32)))) (fun h => by rw [Bd.returns] at h; cases h)
    exact ⟨_, _, hP _ (R78 _ (retN X73 hx (t := .boolean) Bd.returns (by simp) (hb hby d2_12) hr)), hrun, hended, _, _, rfl, ⟨(by first | (simp only [isD, nar_b0, nar_b1, eq_true hc75, true_and, and_true, false_and, and_false, true_or, or_true, false_or, or_false, not_true_eq_false, not_false_eq_true, ↓reduceIte, nar_b0, nar_b1]; done) | simp [isD, nar_b0, nar_b1, nar_b0, nar_b1, hc75]), N0, e73⟩, ⟨_, rfl⟩, hW, hsame.mono (by decide) (by decide)⟩
  · have R79 : Go p e below P T73 (mkF m 11 #[.val (.ref a)] []) := fun t_ k_ => R74 t_ (Jvm.RoadKit.acmp (g := (mkF m 4 #[.val (.ref a)] [(.ref wD), (.ref a)])) X73 hx rfl rfl rfl (pc0 := 4) (pc' := 11) (same := false) rfl (hb hby d2_4) rfl (decide_eq_false fun q => hc75 (Value.ref.inj q)) (by decide) (by decide) k_)
    have R80 : Go p e below P T73 (mkF m 12 #[.val (.ref a)] [(.int (0 : Int32))]) := fun t_ k_ => R79 t_ (XS.iconst X73.here hx rfl (hb hby d2_11) k_)
    obtain ⟨fs, hr, hrun, hended, hW, hsame⟩ := X73.leave (v := some (.int (nar .boolean (0 : Int32)))) (fun h => by rw [Bd.returns] at h; cases h)
    exact ⟨_, _, hP _ (R80 _ (retN X73 hx (t := .boolean) Bd.returns (by simp) (hb hby d2_12) hr)), hrun, hended, _, _, rfl, ⟨(by first | (simp only [isD, nar_b0, nar_b1, eq_false hc75, true_and, and_true, false_and, and_false, true_or, or_true, false_or, or_false, not_true_eq_false, not_false_eq_true, ↓reduceIte, nar_b0, nar_b1]; done) | simp [isD, nar_b0, nar_b1, nar_b0, nar_b1, hc75]), N0, e73⟩, ⟨_, rfl⟩, hW, hsame.mono (by decide) (by decide)⟩
theorem ef_law_ (m : MethodId) (x0 : Int32) (x1 : Int32) (x2 : Int32) : entryFrame m #[(.int x0), (.int x1), (.int x2)] maxLocals = mkF m 0 #[.val (.int x0), .val (.int x1), .val (.int x2), .unset, .unset, .unset, .unset] [] := by first | (simp [entryFrame, mkF, argsToLocals, Value.category, maxLocals]; done) | rfl
theorem pd_5353621 : parseMethodDescriptor "(IIZ)Lcom/example/interleave/interleave/mariadb/InnoDbStatus$Field;" = some ⟨[.int, .int, .boolean], some (.object "com/example/interleave/interleave/mariadb/InnoDbStatus$Field")⟩ := by decide +kernel
theorem pd_16428538 : parseMethodDescriptor "()Z" = some ⟨[], some .boolean⟩ := by decide +kernel
def Q_law_ (Z : State) (i0 : Int32) (i1 : Int32) (i2 : Int32) (wN : Addr) (wD : Addr) (h0 : Heap) (n0 : Nat) (rv_ : Option Value) (rh_ : Heap) (rL_ : List Loc) : Prop := (rv_ = some (.int (1 : Int32))) ∧ (Fr n0 rL_) ∧ (Keep h0 rh_ [])
set_option maxRecDepth 65536 in
set_option maxHeartbeats 40000000 in
theorem law_ (l : Launch) (Z : State) (a0 : Array Value) (hw : ∀ d ∈ tables_1, d.before a0 Z = true) (ws : List Jvm.Cond) (i0 : Int32) (i1 : Int32) (i2 : Int32) (wN : Addr) (wD : Addr) (h0 : Heap) (n0 : Nat) (O0 : Old Z n0 h0) (P0 : Sta Z Z.heap "com/example/interleave/interleave/mariadb/InnoDbStatus$Field" "NULL" "Lcom/example/interleave/interleave/mariadb/InnoDbStatus$Field;" (.ref wN)) (P1 : Sta Z Z.heap "com/example/interleave/interleave/mariadb/InnoDbStatus$Field" "DEFAULT" "Lcom/example/interleave/interleave/mariadb/InnoDbStatus$Field;" (.ref wD)) (P2 : Exa Z Z.heap wN "com/example/interleave/interleave/mariadb/InnoDbStatus$Field") (P3 : Exa Z Z.heap wD "com/example/interleave/interleave/mariadb/InnoDbStatus$Field") (P4 : wD ≠ wN) :
    MetFree l x (head1 (Jvm.Cond.code x code maxLocals ret :: ws) room_1) (fun a_ U_ => a_ = #[(.int i0), (.int i1), (.int i2)] ∧ Z.Warmed39 U_.vm ∧ U_.heap = h0) (fun _ _ _ _ _ => True) (fun _ U_ o_ U_' => ∃ v_ L_, o_ = .returned v_ ∧ Q_law_ Z i0 i1 i2 wN wD h0 n0 v_ U_'.heap L_ ∧ FrameEnd U_ o_ U_' L_ room_1.cells room_1.slots) := by
  refine MetFree.of_bodySF (plainFor_of_name pn_58564871) hisR ?_
  intro p e s m args below meth c s₁ Bd hml0 hP0 hK
  obtain ⟨rfl, hZ, hh⟩ := hP0
  have hx := Bd.exec
  have hby := Bd.bytes
  have hml : c.maxLocals = 7 := hml0
  have hown : s.vm.findClass "com/example/interleave/interleave/mariadb/FieldIsDefaultPinLaw" = some m.cls := findClass_of_methodNamed Bd.named
  have hnm := (name_of_methodNamed Bd.named Bd.method).1
  have X0 : Stand p l e room_1 s m #[(.int i0), (.int i1), (.int i2)] below meth c s₁ [] 0 0 := Stand.of_body Bd
  have e0 : s₁.heap = h0 := by rw [← hh, Bd.state]; rfl
  have N0 := Fr.nil n0
  obtain ⟨P, hP, R0⟩ : ∃ P : State → Prop, (∀ t_, P t_ → Steps p.tables e below (s₁.setTop (entryFrame m #[(.int i0), (.int i1), (.int i2)] maxLocals)) t_) ∧ Go p e below P s₁ (mkF m 0 #[.val (.int i0), .val (.int i1), .val (.int i2), .unset, .unset, .unset, .unset] []) := ⟨_, fun _ h => h, fun t_ k_ => castTop (ef_law_ m i0 i1 i2) k_⟩
  have R81 : Go p e below P s₁ (mkF m 1 #[.val (.int i0), .val (.int i1), .val (.int i2), .unset, .unset, .unset, .unset] [(.int i0)]) := fun t_ k_ => R0 t_ (XS.iloadN X0.here hx rfl (hb hby at_0) rfl k_)
  have R82 : Go p e below P s₁ (mkF m 2 #[.val (.int i0), .val (.int i1), .val (.int i2), .unset, .unset, .unset, .unset] [(.int (3 : Int32)), (.int i0)]) := fun t_ k_ => R81 t_ (XS.iconst X0.here hx rfl (hb hby at_1) k_)
  have R83 : Go p e below P s₁ (mkF m 3 #[.val (.int i0), .val (.int i1), .val (.int i2), .unset, .unset, .unset, .unset] [(.int (i0 &&& (3 : Int32)))]) := fun t_ k_ => R82 t_ (XS.iand X0.here hx rfl (hb hby at_2) rfl k_)
  have R84 : Go p e below P s₁ (mkF m 4 #[.val (.int i0), .val (.int i1), .val (.int i2), .val (.int (i0 &&& (3 : Int32))), .unset, .unset, .unset] []) := fun t_ k_ => R83 t_ (XS.istoreN X0.here hx rfl (hb hby at_3) rfl (l' := #[.val (.int i0), .val (.int i1), .val (.int i2), .val (.int (i0 &&& (3 : Int32))), .unset, .unset, .unset]) rfl k_)
  obtain ⟨cc, hcc⟩ : ∃ z : Int32, z = (i0 &&& (3 : Int32)) := ⟨_, rfl⟩
  have R85 : Go p e below P s₁ (mkF m 4 #[.val (.int i0), .val (.int i1), .val (.int i2), .val (.int cc), .unset, .unset, .unset] []) := by rw [hcc]; exact R84
  have R86 : Go p e below P s₁ (mkF m 5 #[.val (.int i0), .val (.int i1), .val (.int i2), .val (.int cc), .unset, .unset, .unset] [(.int i2)]) := fun t_ k_ => R85 t_ (XS.iloadN X0.here hx rfl (hb hby at_4) rfl k_)
  have R87 : Go p e below P s₁ (mkF m 6 #[.val (.int i0), .val (.int i1), .val (.int i2), .val (.int cc), .unset, .unset, .unset] [(.int (1 : Int32)), (.int i2)]) := fun t_ k_ => R86 t_ (XS.iconst X0.here hx rfl (hb hby at_5) k_)
  have R88 : Go p e below P s₁ (mkF m 7 #[.val (.int i0), .val (.int i1), .val (.int i2), .val (.int cc), .unset, .unset, .unset] [(.int (i2 &&& (1 : Int32)))]) := fun t_ k_ => R87 t_ (XS.iand X0.here hx rfl (hb hby at_6) rfl k_)
  by_cases hc89 : (i2 &&& (1 : Int32)) = (0 : Int32)
  · have R90 : Go p e below P s₁ (mkF m 14 #[.val (.int i0), .val (.int i1), .val (.int i2), .val (.int cc), .unset, .unset, .unset] []) := fun t_ k_ => R88 t_ (XS.ifYes X0.here hx rfl (pc0 := 7) (pc' := 14) rfl (hb hby at_7) rfl ((if0 _ _).trans (teq hc89).1) (by decide) (by decide) k_)
    have R91 : Go p e below P s₁ (mkF m 15 #[.val (.int i0), .val (.int i1), .val (.int i2), .val (.int cc), .unset, .unset, .unset] [(.int (0 : Int32))]) := fun t_ k_ => R90 t_ (XS.iconst X0.here hx rfl (hb hby at_14) k_)
    have R92 : Go p e below P s₁ (mkF m 17 #[.val (.int i0), .val (.int i1), .val (.int i2), .val (.int cc), .val (.int (0 : Int32)), .unset, .unset] []) := fun t_ k_ => R91 t_ (XS.istore X0.here hx rfl (hb hby at_15) rfl (l' := #[.val (.int i0), .val (.int i1), .val (.int i2), .val (.int cc), .val (.int (0 : Int32)), .unset, .unset]) rfl k_)
    have R93 : Go p e below P s₁ (mkF m 18 #[.val (.int i0), .val (.int i1), .val (.int i2), .val (.int cc), .val (.int (0 : Int32)), .unset, .unset] [(.int cc)]) := fun t_ k_ => R92 t_ (XS.iloadN X0.here hx rfl (hb hby at_17) rfl k_)
    have R94 : Go p e below P s₁ (mkF m 19 #[.val (.int i0), .val (.int i1), .val (.int i2), .val (.int cc), .val (.int (0 : Int32)), .unset, .unset] [(.int i1), (.int cc)]) := fun t_ k_ => R93 t_ (XS.iloadN X0.here hx rfl (hb hby at_18) rfl k_)
    have R95 : Go p e below P s₁ (mkF m 21 #[.val (.int i0), .val (.int i1), .val (.int i2), .val (.int cc), .val (.int (0 : Int32)), .unset, .unset] [(.int (0 : Int32)), (.int i1), (.int cc)]) := fun t_ k_ => R94 t_ (XS.iload X0.here hx rfl (hb hby at_19) rfl k_)
    obtain ⟨rv96, _, ⟨T96, L96, k96, n96⟩, -, X96, ⟨Lc96, hQ96, l96, y96, z96⟩, st96⟩ := Jvm.LawKit.callS X0 hx (y := (⟨"com/example/interleave/interleave/mariadb/FieldIsDefaultPinLaw", "pick", "(IIZ)Lcom/example/interleave/interleave/mariadb/InnoDbStatus$Field;"⟩ : MethodName)) hown (mvT hZ (hw _ (List.mem_of_getElem? (i := 0) rfl))) (mvT hZ (hw _ (List.mem_of_getElem? (i := 1) rfl))) (mvT hZ (hw _ (List.mem_of_getElem? (i := 2) rfl))) (mvT hZ (hw _ (List.mem_of_getElem? (i := 3) rfl))) (by decide) (backOf (W := 0) (pick_ l Z a0 hw [] cc i1 (0 : Int32) wN wD h0 n0 O0 P0 P1 P2 P3 P4) hZ (hw _ (List.mem_of_getElem? (i := 3) rfl)) (hw _ (List.mem_of_getElem? (i := 2) rfl)) (by decide) (by decide)) (g := (mkF m 21 #[.val (.int i0), .val (.int i1), .val (.int i2), .val (.int cc), .val (.int (0 : Int32)), .unset, .unset] [(.int (0 : Int32)), (.int i1), (.int cc)])) rfl (by rw [hml]; rfl) (argsL := [(.int cc), (.int i1), (.int (0 : Int32))]) (rest := []) (lenOf pd_5353621 rfl) rfl (by show 2 * 0 + _ ≤ _; exact Nat.le_of_eq rfl) (hb hby at_21) (fun _ _ => ⟨rfl, e0, (by decide : 0 + 2 ≤ _), (by decide : 0 + 3 ≤ _)⟩)
    dsimp only [Pt.U, Pt.locs, Pt.cells, Pt.slots] at X96 l96 y96 z96 st96 hQ96
    subst l96 y96 z96
    obtain ⟨r_96, rfl, N96q, K96, p96_0, p96_1⟩ := hQ96
    have N96 := Fr.app N0 N96q
    have O96 := O0.keep K96 all0
    have R97 : Go p e below P T96 (mkF m 24 #[.val (.int i0), .val (.int i1), .val (.int i2), .val (.int cc), .val (.int (0 : Int32)), .unset, .unset] [(.ref r_96)]) := fun t_ k_ => R95 t_ (st96 t_ k_)
    have R98 : Go p e below P T96 (mkF m 26 #[.val (.int i0), .val (.int i1), .val (.int i2), .val (.int cc), .val (.int (0 : Int32)), .val (.ref r_96), .unset] []) := fun t_ k_ => R97 t_ (XS.astore X96.here hx rfl (hb hby at_24) rfl rfl (l' := #[.val (.int i0), .val (.int i1), .val (.int i2), .val (.int cc), .val (.int (0 : Int32)), .val (.ref r_96), .unset]) rfl k_)
    have R99 : Go p e below P T96 (mkF m 27 #[.val (.int i0), .val (.int i1), .val (.int i2), .val (.int cc), .val (.int (0 : Int32)), .val (.ref r_96), .unset] [(.int cc)]) := fun t_ k_ => R98 t_ (XS.iloadN X96.here hx rfl (hb hby at_26) rfl k_)
    have R100 : Go p e below P T96 (mkF m 28 #[.val (.int i0), .val (.int i1), .val (.int i2), .val (.int cc), .val (.int (0 : Int32)), .val (.ref r_96), .unset] [(.int (1 : Int32)), (.int cc)]) := fun t_ k_ => R99 t_ (XS.iconst X96.here hx rfl (hb hby at_27) k_)
    by_cases hc101 : cc = (1 : Int32)
    · have R102 : Go p e below P T96 (mkF m 31 #[.val (.int i0), .val (.int i1), .val (.int i2), .val (.int cc), .val (.int (0 : Int32)), .val (.ref r_96), .unset] []) := fun t_ k_ => R100 t_ (XS.icmpNo X96.here hx rfl (hb hby at_28) rfl (teq hc101).2 k_)
      have R103 : Go p e below P T96 (mkF m 32 #[.val (.int i0), .val (.int i1), .val (.int i2), .val (.int cc), .val (.int (0 : Int32)), .val (.ref r_96), .unset] [(.int (1 : Int32))]) := fun t_ k_ => R102 t_ (XS.iconst X96.here hx rfl (hb hby at_31) k_)
      have R104 : Go p e below P T96 (mkF m 36 #[.val (.int i0), .val (.int i1), .val (.int i2), .val (.int cc), .val (.int (0 : Int32)), .val (.ref r_96), .unset] [(.int (1 : Int32))]) := fun t_ k_ => R103 t_ (XS.goto X96.here hx rfl (pc0 := 32) (pc' := 36) rfl (hb hby at_32) (by decide) (by decide) k_)
      have R105 : Go p e below P T96 (mkF m 38 #[.val (.int i0), .val (.int i1), .val (.int i2), .val (.int cc), .val (.int (0 : Int32)), .val (.ref r_96), .val (.int (1 : Int32))] []) := fun t_ k_ => R104 t_ (XS.istore X96.here hx rfl (hb hby at_36) rfl (l' := #[.val (.int i0), .val (.int i1), .val (.int i2), .val (.int cc), .val (.int (0 : Int32)), .val (.ref r_96), .val (.int (1 : Int32))]) rfl k_)
      have R106 : Go p e below P T96 (mkF m 40 #[.val (.int i0), .val (.int i1), .val (.int i2), .val (.int cc), .val (.int (0 : Int32)), .val (.ref r_96), .val (.int (1 : Int32))] [(.ref r_96)]) := fun t_ k_ => R105 t_ (XS.aload X96.here hx rfl (hb hby at_38) rfl rfl k_)
      obtain ⟨cq107, kq107, q107a, q107b, q107c⟩ := isOf hZ (rfl : T96.heap = T96.heap) p96_0
      obtain ⟨rv107, _, ⟨T107, L107, k107, n107⟩, -, X107, ⟨Lc107, hQ107, l107, y107, z107⟩, st107⟩ := X96.virtualBack hx (y := (⟨"com/example/interleave/interleave/mariadb/InnoDbStatus$Field", "isDefault", "()Z"⟩ : MethodName)) (z := (⟨"com/example/interleave/interleave/mariadb/InnoDbStatus$Field", "isDefault", "()Z"⟩ : MethodName)) hown (mvT hZ (hw _ (List.mem_of_getElem? (i := 7) rfl))) (mvT hZ (hw _ (List.mem_of_getElem? (i := 8) rfl))) (notFace_of_selects (args := #[]) (mvT hZ (hw _ (List.mem_of_getElem? (i := 10) rfl)))) (mvT hZ (hw _ (List.mem_of_getElem? (i := 10) rfl))) (mvT hZ (hw _ (List.mem_of_getElem? (i := 9) rfl))) (by decide) (backOf (W := 0) (isDefault_ l Z a0 hw [] r_96 wD T96.heap n0 O96 P1) hZ (hw _ (List.mem_of_getElem? (i := 11) rfl)) (hw _ (List.mem_of_getElem? (i := 5) rfl)) (by decide) (by decide)) q107a q107c (g := (mkF m 40 #[.val (.int i0), .val (.int i1), .val (.int i2), .val (.int cc), .val (.int (0 : Int32)), .val (.ref r_96), .val (.int (1 : Int32))] [(.ref r_96)])) rfl (by rw [hml]; rfl) (Steps.refl _) (argsL := []) (rest := []) (lenOf pd_16428538 rfl) rfl (by show 2 * 0 + _ ≤ _; exact Nat.le_of_eq rfl) (hb hby at_40) (fun _ _ => ⟨rfl, (rfl : T96.heap = T96.heap), (by decide : 2 + 0 ≤ _), (by decide : 3 + 0 ≤ _)⟩)
      dsimp only [Pt.U, Pt.locs, Pt.cells, Pt.slots] at X107 l107 y107 z107 st107 hQ107
      subst l107 y107 z107
      obtain ⟨rfl, N107q, K107⟩ := hQ107
      have N107 := Fr.app N96 N107q
      have R108 : Go p e below P T107 (mkF m 43 #[.val (.int i0), .val (.int i1), .val (.int i2), .val (.int cc), .val (.int (0 : Int32)), .val (.ref r_96), .val (.int (1 : Int32))] [(.int (isD r_96 wD))]) := fun t_ k_ => R106 t_ (st107.trans k_)
      have R109 : Go p e below P T107 (mkF m 45 #[.val (.int i0), .val (.int i1), .val (.int i2), .val (.int cc), .val (.int (0 : Int32)), .val (.ref r_96), .val (.int (1 : Int32))] [(.int (1 : Int32)), (.int (isD r_96 wD))]) := fun t_ k_ => R108 t_ (XS.iload X107.here hx rfl (hb hby at_43) rfl k_)
      have R110 : Go p e below P T107 (mkF m 48 #[.val (.int i0), .val (.int i1), .val (.int i2), .val (.int cc), .val (.int (0 : Int32)), .val (.ref r_96), .val (.int (1 : Int32))] []) := fun t_ k_ => R109 t_ (XS.icmpNo X107.here hx rfl (hb hby at_45) rfl (teq (by simp [isD, p96_1.mpr hc101])).2 k_)
      have R111 : Go p e below P T107 (mkF m 49 #[.val (.int i0), .val (.int i1), .val (.int i2), .val (.int cc), .val (.int (0 : Int32)), .val (.ref r_96), .val (.int (1 : Int32))] [(.int (1 : Int32))]) := fun t_ k_ => R110 t_ (XS.iconst X107.here hx rfl (hb hby at_48) k_)
      have R112 : Go p e below P T107 (mkF m 53 #[.val (.int i0), .val (.int i1), .val (.int i2), .val (.int cc), .val (.int (0 : Int32)), .val (.ref r_96), .val (.int (1 : Int32))] [(.int (1 : Int32))]) := fun t_ k_ => R111 t_ (XS.goto X107.here hx rfl (pc0 := 49) (pc' := 53) rfl (hb hby at_49) (by decide) (by decide) k_)
      obtain ⟨fs, hr, hrun, hended, hW, hsame⟩ := X107.leave (v := some (.int (nar .boolean (1 : Int32)))) (fun h => by rw [Bd.returns] at h; cases h)
      exact ⟨_, _, hP _ (R112 _ (retN X107 hx (t := .boolean) Bd.returns (by simp) (hb hby at_53) hr)), hrun, hended, _, _, rfl, ⟨rfl, N107, (K107.symm ▸ ((Keep.refl h0 []).trans K96 all0))⟩, ⟨_, rfl⟩, hW, hsame.mono (by decide) (by decide)⟩
    · have R113 : Go p e below P T96 (mkF m 35 #[.val (.int i0), .val (.int i1), .val (.int i2), .val (.int cc), .val (.int (0 : Int32)), .val (.ref r_96), .unset] []) := fun t_ k_ => R100 t_ (XS.icmpYes X96.here hx rfl (pc0 := 28) (pc' := 35) rfl (hb hby at_28) rfl (feq hc101).2 (by decide) (by decide) k_)
      have R114 : Go p e below P T96 (mkF m 36 #[.val (.int i0), .val (.int i1), .val (.int i2), .val (.int cc), .val (.int (0 : Int32)), .val (.ref r_96), .unset] [(.int (0 : Int32))]) := fun t_ k_ => R113 t_ (XS.iconst X96.here hx rfl (hb hby at_35) k_)
      have R115 : Go p e below P T96 (mkF m 38 #[.val (.int i0), .val (.int i1), .val (.int i2), .val (.int cc), .val (.int (0 : Int32)), .val (.ref r_96), .val (.int (0 : Int32))] []) := fun t_ k_ => R114 t_ (XS.istore X96.here hx rfl (hb hby at_36) rfl (l' := #[.val (.int i0), .val (.int i1), .val (.int i2), .val (.int cc), .val (.int (0 : Int32)), .val (.ref r_96), .val (.int (0 : Int32))]) rfl k_)
      have R116 : Go p e below P T96 (mkF m 40 #[.val (.int i0), .val (.int i1), .val (.int i2), .val (.int cc), .val (.int (0 : Int32)), .val (.ref r_96), .val (.int (0 : Int32))] [(.ref r_96)]) := fun t_ k_ => R115 t_ (XS.aload X96.here hx rfl (hb hby at_38) rfl rfl k_)
      obtain ⟨cq117, kq117, q117a, q117b, q117c⟩ := isOf hZ (rfl : T96.heap = T96.heap) p96_0
      obtain ⟨rv117, _, ⟨T117, L117, k117, n117⟩, -, X117, ⟨Lc117, hQ117, l117, y117, z117⟩, st117⟩ := X96.virtualBack hx (y := (⟨"com/example/interleave/interleave/mariadb/InnoDbStatus$Field", "isDefault", "()Z"⟩ : MethodName)) (z := (⟨"com/example/interleave/interleave/mariadb/InnoDbStatus$Field", "isDefault", "()Z"⟩ : MethodName)) hown (mvT hZ (hw _ (List.mem_of_getElem? (i := 7) rfl))) (mvT hZ (hw _ (List.mem_of_getElem? (i := 8) rfl))) (notFace_of_selects (args := #[]) (mvT hZ (hw _ (List.mem_of_getElem? (i := 10) rfl)))) (mvT hZ (hw _ (List.mem_of_getElem? (i := 10) rfl))) (mvT hZ (hw _ (List.mem_of_getElem? (i := 9) rfl))) (by decide) (backOf (W := 0) (isDefault_ l Z a0 hw [] r_96 wD T96.heap n0 O96 P1) hZ (hw _ (List.mem_of_getElem? (i := 11) rfl)) (hw _ (List.mem_of_getElem? (i := 5) rfl)) (by decide) (by decide)) q117a q117c (g := (mkF m 40 #[.val (.int i0), .val (.int i1), .val (.int i2), .val (.int cc), .val (.int (0 : Int32)), .val (.ref r_96), .val (.int (0 : Int32))] [(.ref r_96)])) rfl (by rw [hml]; rfl) (Steps.refl _) (argsL := []) (rest := []) (lenOf pd_16428538 rfl) rfl (by show 2 * 0 + _ ≤ _; exact Nat.le_of_eq rfl) (hb hby at_40) (fun _ _ => ⟨rfl, (rfl : T96.heap = T96.heap), (by decide : 2 + 0 ≤ _), (by decide : 3 + 0 ≤ _)⟩)
      dsimp only [Pt.U, Pt.locs, Pt.cells, Pt.slots] at X117 l117 y117 z117 st117 hQ117
      subst l117 y117 z117
      obtain ⟨rfl, N117q, K117⟩ := hQ117
      have N117 := Fr.app N96 N117q
      have R118 : Go p e below P T117 (mkF m 43 #[.val (.int i0), .val (.int i1), .val (.int i2), .val (.int cc), .val (.int (0 : Int32)), .val (.ref r_96), .val (.int (0 : Int32))] [(.int (isD r_96 wD))]) := fun t_ k_ => R116 t_ (st117.trans k_)
      have R119 : Go p e below P T117 (mkF m 45 #[.val (.int i0), .val (.int i1), .val (.int i2), .val (.int cc), .val (.int (0 : Int32)), .val (.ref r_96), .val (.int (0 : Int32))] [(.int (0 : Int32)), (.int (isD r_96 wD))]) := fun t_ k_ => R118 t_ (XS.iload X117.here hx rfl (hb hby at_43) rfl k_)
      have R120 : Go p e below P T117 (mkF m 48 #[.val (.int i0), .val (.int i1), .val (.int i2), .val (.int cc), .val (.int (0 : Int32)), .val (.ref r_96), .val (.int (0 : Int32))] []) := fun t_ k_ => R119 t_ (XS.icmpNo X117.here hx rfl (hb hby at_45) rfl (teq (by simp [isD, mt p96_1.mp hc101])).2 k_)
      have R121 : Go p e below P T117 (mkF m 49 #[.val (.int i0), .val (.int i1), .val (.int i2), .val (.int cc), .val (.int (0 : Int32)), .val (.ref r_96), .val (.int (0 : Int32))] [(.int (1 : Int32))]) := fun t_ k_ => R120 t_ (XS.iconst X117.here hx rfl (hb hby at_48) k_)
      have R122 : Go p e below P T117 (mkF m 53 #[.val (.int i0), .val (.int i1), .val (.int i2), .val (.int cc), .val (.int (0 : Int32)), .val (.ref r_96), .val (.int (0 : Int32))] [(.int (1 : Int32))]) := fun t_ k_ => R121 t_ (XS.goto X117.here hx rfl (pc0 := 49) (pc' := 53) rfl (hb hby at_49) (by decide) (by decide) k_)
      obtain ⟨fs, hr, hrun, hended, hW, hsame⟩ := X117.leave (v := some (.int (nar .boolean (1 : Int32)))) (fun h => by rw [Bd.returns] at h; cases h)
      exact ⟨_, _, hP _ (R122 _ (retN X117 hx (t := .boolean) Bd.returns (by simp) (hb hby at_53) hr)), hrun, hended, _, _, rfl, ⟨rfl, N117, (K117.symm ▸ ((Keep.refl h0 []).trans K96 all0))⟩, ⟨_, rfl⟩, hW, hsame.mono (by decide) (by decide)⟩
  · have R123 : Go p e below P s₁ (mkF m 10 #[.val (.int i0), .val (.int i1), .val (.int i2), .val (.int cc), .unset, .unset, .unset] []) := fun t_ k_ => R88 t_ (XS.ifNo X0.here hx rfl (hb hby at_7) rfl ((if0 _ _).trans (feq hc89).1) k_)
    have R124 : Go p e below P s₁ (mkF m 11 #[.val (.int i0), .val (.int i1), .val (.int i2), .val (.int cc), .unset, .unset, .unset] [(.int (1 : Int32))]) := fun t_ k_ => R123 t_ (XS.iconst X0.here hx rfl (hb hby at_10) k_)
    have R125 : Go p e below P s₁ (mkF m 15 #[.val (.int i0), .val (.int i1), .val (.int i2), .val (.int cc), .unset, .unset, .unset] [(.int (1 : Int32))]) := fun t_ k_ => R124 t_ (XS.goto X0.here hx rfl (pc0 := 11) (pc' := 15) rfl (hb hby at_11) (by decide) (by decide) k_)
    have R126 : Go p e below P s₁ (mkF m 17 #[.val (.int i0), .val (.int i1), .val (.int i2), .val (.int cc), .val (.int (1 : Int32)), .unset, .unset] []) := fun t_ k_ => R125 t_ (XS.istore X0.here hx rfl (hb hby at_15) rfl (l' := #[.val (.int i0), .val (.int i1), .val (.int i2), .val (.int cc), .val (.int (1 : Int32)), .unset, .unset]) rfl k_)
    have R127 : Go p e below P s₁ (mkF m 18 #[.val (.int i0), .val (.int i1), .val (.int i2), .val (.int cc), .val (.int (1 : Int32)), .unset, .unset] [(.int cc)]) := fun t_ k_ => R126 t_ (XS.iloadN X0.here hx rfl (hb hby at_17) rfl k_)
    have R128 : Go p e below P s₁ (mkF m 19 #[.val (.int i0), .val (.int i1), .val (.int i2), .val (.int cc), .val (.int (1 : Int32)), .unset, .unset] [(.int i1), (.int cc)]) := fun t_ k_ => R127 t_ (XS.iloadN X0.here hx rfl (hb hby at_18) rfl k_)
    have R129 : Go p e below P s₁ (mkF m 21 #[.val (.int i0), .val (.int i1), .val (.int i2), .val (.int cc), .val (.int (1 : Int32)), .unset, .unset] [(.int (1 : Int32)), (.int i1), (.int cc)]) := fun t_ k_ => R128 t_ (XS.iload X0.here hx rfl (hb hby at_19) rfl k_)
    obtain ⟨rv130, _, ⟨T130, L130, k130, n130⟩, -, X130, ⟨Lc130, hQ130, l130, y130, z130⟩, st130⟩ := Jvm.LawKit.callS X0 hx (y := (⟨"com/example/interleave/interleave/mariadb/FieldIsDefaultPinLaw", "pick", "(IIZ)Lcom/example/interleave/interleave/mariadb/InnoDbStatus$Field;"⟩ : MethodName)) hown (mvT hZ (hw _ (List.mem_of_getElem? (i := 0) rfl))) (mvT hZ (hw _ (List.mem_of_getElem? (i := 1) rfl))) (mvT hZ (hw _ (List.mem_of_getElem? (i := 2) rfl))) (mvT hZ (hw _ (List.mem_of_getElem? (i := 3) rfl))) (by decide) (backOf (W := 0) (pick_ l Z a0 hw [] cc i1 (1 : Int32) wN wD h0 n0 O0 P0 P1 P2 P3 P4) hZ (hw _ (List.mem_of_getElem? (i := 3) rfl)) (hw _ (List.mem_of_getElem? (i := 2) rfl)) (by decide) (by decide)) (g := (mkF m 21 #[.val (.int i0), .val (.int i1), .val (.int i2), .val (.int cc), .val (.int (1 : Int32)), .unset, .unset] [(.int (1 : Int32)), (.int i1), (.int cc)])) rfl (by rw [hml]; rfl) (argsL := [(.int cc), (.int i1), (.int (1 : Int32))]) (rest := []) (lenOf pd_5353621 rfl) rfl (by show 2 * 0 + _ ≤ _; exact Nat.le_of_eq rfl) (hb hby at_21) (fun _ _ => ⟨rfl, e0, (by decide : 0 + 2 ≤ _), (by decide : 0 + 3 ≤ _)⟩)
    dsimp only [Pt.U, Pt.locs, Pt.cells, Pt.slots] at X130 l130 y130 z130 st130 hQ130
    subst l130 y130 z130
    obtain ⟨r_130, rfl, N130q, K130, p130_0, p130_1⟩ := hQ130
    have N130 := Fr.app N0 N130q
    have O130 := O0.keep K130 all0
    have R131 : Go p e below P T130 (mkF m 24 #[.val (.int i0), .val (.int i1), .val (.int i2), .val (.int cc), .val (.int (1 : Int32)), .unset, .unset] [(.ref r_130)]) := fun t_ k_ => R129 t_ (st130 t_ k_)
    have R132 : Go p e below P T130 (mkF m 26 #[.val (.int i0), .val (.int i1), .val (.int i2), .val (.int cc), .val (.int (1 : Int32)), .val (.ref r_130), .unset] []) := fun t_ k_ => R131 t_ (XS.astore X130.here hx rfl (hb hby at_24) rfl rfl (l' := #[.val (.int i0), .val (.int i1), .val (.int i2), .val (.int cc), .val (.int (1 : Int32)), .val (.ref r_130), .unset]) rfl k_)
    have R133 : Go p e below P T130 (mkF m 27 #[.val (.int i0), .val (.int i1), .val (.int i2), .val (.int cc), .val (.int (1 : Int32)), .val (.ref r_130), .unset] [(.int cc)]) := fun t_ k_ => R132 t_ (XS.iloadN X130.here hx rfl (hb hby at_26) rfl k_)
    have R134 : Go p e below P T130 (mkF m 28 #[.val (.int i0), .val (.int i1), .val (.int i2), .val (.int cc), .val (.int (1 : Int32)), .val (.ref r_130), .unset] [(.int (1 : Int32)), (.int cc)]) := fun t_ k_ => R133 t_ (XS.iconst X130.here hx rfl (hb hby at_27) k_)
    by_cases hc135 : cc = (1 : Int32)
    · have R136 : Go p e below P T130 (mkF m 31 #[.val (.int i0), .val (.int i1), .val (.int i2), .val (.int cc), .val (.int (1 : Int32)), .val (.ref r_130), .unset] []) := fun t_ k_ => R134 t_ (XS.icmpNo X130.here hx rfl (hb hby at_28) rfl (teq hc135).2 k_)
      have R137 : Go p e below P T130 (mkF m 32 #[.val (.int i0), .val (.int i1), .val (.int i2), .val (.int cc), .val (.int (1 : Int32)), .val (.ref r_130), .unset] [(.int (1 : Int32))]) := fun t_ k_ => R136 t_ (XS.iconst X130.here hx rfl (hb hby at_31) k_)
      have R138 : Go p e below P T130 (mkF m 36 #[.val (.int i0), .val (.int i1), .val (.int i2), .val (.int cc), .val (.int (1 : Int32)), .val (.ref r_130), .unset] [(.int (1 : Int32))]) := fun t_ k_ => R137 t_ (XS.goto X130.here hx rfl (pc0 := 32) (pc' := 36) rfl (hb hby at_32) (by decide) (by decide) k_)
      have R139 : Go p e below P T130 (mkF m 38 #[.val (.int i0), .val (.int i1), .val (.int i2), .val (.int cc), .val (.int (1 : Int32)), .val (.ref r_130), .val (.int (1 : Int32))] []) := fun t_ k_ => R138 t_ (XS.istore X130.here hx rfl (hb hby at_36) rfl (l' := #[.val (.int i0), .val (.int i1), .val (.int i2), .val (.int cc), .val (.int (1 : Int32)), .val (.ref r_130), .val (.int (1 : Int32))]) rfl k_)
      have R140 : Go p e below P T130 (mkF m 40 #[.val (.int i0), .val (.int i1), .val (.int i2), .val (.int cc), .val (.int (1 : Int32)), .val (.ref r_130), .val (.int (1 : Int32))] [(.ref r_130)]) := fun t_ k_ => R139 t_ (XS.aload X130.here hx rfl (hb hby at_38) rfl rfl k_)
      obtain ⟨cq141, kq141, q141a, q141b, q141c⟩ := isOf hZ (rfl : T130.heap = T130.heap) p130_0
      obtain ⟨rv141, _, ⟨T141, L141, k141, n141⟩, -, X141, ⟨Lc141, hQ141, l141, y141, z141⟩, st141⟩ := X130.virtualBack hx (y := (⟨"com/example/interleave/interleave/mariadb/InnoDbStatus$Field", "isDefault", "()Z"⟩ : MethodName)) (z := (⟨"com/example/interleave/interleave/mariadb/InnoDbStatus$Field", "isDefault", "()Z"⟩ : MethodName)) hown (mvT hZ (hw _ (List.mem_of_getElem? (i := 7) rfl))) (mvT hZ (hw _ (List.mem_of_getElem? (i := 8) rfl))) (notFace_of_selects (args := #[]) (mvT hZ (hw _ (List.mem_of_getElem? (i := 10) rfl)))) (mvT hZ (hw _ (List.mem_of_getElem? (i := 10) rfl))) (mvT hZ (hw _ (List.mem_of_getElem? (i := 9) rfl))) (by decide) (backOf (W := 0) (isDefault_ l Z a0 hw [] r_130 wD T130.heap n0 O130 P1) hZ (hw _ (List.mem_of_getElem? (i := 11) rfl)) (hw _ (List.mem_of_getElem? (i := 5) rfl)) (by decide) (by decide)) q141a q141c (g := (mkF m 40 #[.val (.int i0), .val (.int i1), .val (.int i2), .val (.int cc), .val (.int (1 : Int32)), .val (.ref r_130), .val (.int (1 : Int32))] [(.ref r_130)])) rfl (by rw [hml]; rfl) (Steps.refl _) (argsL := []) (rest := []) (lenOf pd_16428538 rfl) rfl (by show 2 * 0 + _ ≤ _; exact Nat.le_of_eq rfl) (hb hby at_40) (fun _ _ => ⟨rfl, (rfl : T130.heap = T130.heap), (by decide : 2 + 0 ≤ _), (by decide : 3 + 0 ≤ _)⟩)
      dsimp only [Pt.U, Pt.locs, Pt.cells, Pt.slots] at X141 l141 y141 z141 st141 hQ141
      subst l141 y141 z141
      obtain ⟨rfl, N141q, K141⟩ := hQ141
      have N141 := Fr.app N130 N141q
      have R142 : Go p e below P T141 (mkF m 43 #[.val (.int i0), .val (.int i1), .val (.int i2), .val (.int cc), .val (.int (1 : Int32)), .val (.ref r_130), .val (.int (1 : Int32))] [(.int (isD r_130 wD))]) := fun t_ k_ => R140 t_ (st141.trans k_)
      have R143 : Go p e below P T141 (mkF m 45 #[.val (.int i0), .val (.int i1), .val (.int i2), .val (.int cc), .val (.int (1 : Int32)), .val (.ref r_130), .val (.int (1 : Int32))] [(.int (1 : Int32)), (.int (isD r_130 wD))]) := fun t_ k_ => R142 t_ (XS.iload X141.here hx rfl (hb hby at_43) rfl k_)
      have R144 : Go p e below P T141 (mkF m 48 #[.val (.int i0), .val (.int i1), .val (.int i2), .val (.int cc), .val (.int (1 : Int32)), .val (.ref r_130), .val (.int (1 : Int32))] []) := fun t_ k_ => R143 t_ (XS.icmpNo X141.here hx rfl (hb hby at_45) rfl (teq (by simp [isD, p130_1.mpr hc135])).2 k_)
      have R145 : Go p e below P T141 (mkF m 49 #[.val (.int i0), .val (.int i1), .val (.int i2), .val (.int cc), .val (.int (1 : Int32)), .val (.ref r_130), .val (.int (1 : Int32))] [(.int (1 : Int32))]) := fun t_ k_ => R144 t_ (XS.iconst X141.here hx rfl (hb hby at_48) k_)
      have R146 : Go p e below P T141 (mkF m 53 #[.val (.int i0), .val (.int i1), .val (.int i2), .val (.int cc), .val (.int (1 : Int32)), .val (.ref r_130), .val (.int (1 : Int32))] [(.int (1 : Int32))]) := fun t_ k_ => R145 t_ (XS.goto X141.here hx rfl (pc0 := 49) (pc' := 53) rfl (hb hby at_49) (by decide) (by decide) k_)
      obtain ⟨fs, hr, hrun, hended, hW, hsame⟩ := X141.leave (v := some (.int (nar .boolean (1 : Int32)))) (fun h => by rw [Bd.returns] at h; cases h)
      exact ⟨_, _, hP _ (R146 _ (retN X141 hx (t := .boolean) Bd.returns (by simp) (hb hby at_53) hr)), hrun, hended, _, _, rfl, ⟨rfl, N141, (K141.symm ▸ ((Keep.refl h0 []).trans K130 all0))⟩, ⟨_, rfl⟩, hW, hsame.mono (by decide) (by decide)⟩
    · have R147 : Go p e below P T130 (mkF m 35 #[.val (.int i0), .val (.int i1), .val (.int i2), .val (.int cc), .val (.int (1 : Int32)), .val (.ref r_130), .unset] []) := fun t_ k_ => R134 t_ (XS.icmpYes X130.here hx rfl (pc0 := 28) (pc' := 35) rfl (hb hby at_28) rfl (feq hc135).2 (by decide) (by decide) k_)
      have R148 : Go p e below P T130 (mkF m 36 #[.val (.int i0), .val (.int i1), .val (.int i2), .val (.int cc), .val (.int (1 : Int32)), .val (.ref r_130), .unset] [(.int (0 : Int32))]) := fun t_ k_ => R147 t_ (XS.iconst X130.here hx rfl (hb hby at_35) k_)
      have R149 : Go p e below P T130 (mkF m 38 #[.val (.int i0), .val (.int i1), .val (.int i2), .val (.int cc), .val (.int (1 : Int32)), .val (.ref r_130), .val (.int (0 : Int32))] []) := fun t_ k_ => R148 t_ (XS.istore X130.here hx rfl (hb hby at_36) rfl (l' := #[.val (.int i0), .val (.int i1), .val (.int i2), .val (.int cc), .val (.int (1 : Int32)), .val (.ref r_130), .val (.int (0 : Int32))]) rfl k_)
      have R150 : Go p e below P T130 (mkF m 40 #[.val (.int i0), .val (.int i1), .val (.int i2), .val (.int cc), .val (.int (1 : Int32)), .val (.ref r_130), .val (.int (0 : Int32))] [(.ref r_130)]) := fun t_ k_ => R149 t_ (XS.aload X130.here hx rfl (hb hby at_38) rfl rfl k_)
      obtain ⟨cq151, kq151, q151a, q151b, q151c⟩ := isOf hZ (rfl : T130.heap = T130.heap) p130_0
      obtain ⟨rv151, _, ⟨T151, L151, k151, n151⟩, -, X151, ⟨Lc151, hQ151, l151, y151, z151⟩, st151⟩ := X130.virtualBack hx (y := (⟨"com/example/interleave/interleave/mariadb/InnoDbStatus$Field", "isDefault", "()Z"⟩ : MethodName)) (z := (⟨"com/example/interleave/interleave/mariadb/InnoDbStatus$Field", "isDefault", "()Z"⟩ : MethodName)) hown (mvT hZ (hw _ (List.mem_of_getElem? (i := 7) rfl))) (mvT hZ (hw _ (List.mem_of_getElem? (i := 8) rfl))) (notFace_of_selects (args := #[]) (mvT hZ (hw _ (List.mem_of_getElem? (i := 10) rfl)))) (mvT hZ (hw _ (List.mem_of_getElem? (i := 10) rfl))) (mvT hZ (hw _ (List.mem_of_getElem? (i := 9) rfl))) (by decide) (backOf (W := 0) (isDefault_ l Z a0 hw [] r_130 wD T130.heap n0 O130 P1) hZ (hw _ (List.mem_of_getElem? (i := 11) rfl)) (hw _ (List.mem_of_getElem? (i := 5) rfl)) (by decide) (by decide)) q151a q151c (g := (mkF m 40 #[.val (.int i0), .val (.int i1), .val (.int i2), .val (.int cc), .val (.int (1 : Int32)), .val (.ref r_130), .val (.int (0 : Int32))] [(.ref r_130)])) rfl (by rw [hml]; rfl) (Steps.refl _) (argsL := []) (rest := []) (lenOf pd_16428538 rfl) rfl (by show 2 * 0 + _ ≤ _; exact Nat.le_of_eq rfl) (hb hby at_40) (fun _ _ => ⟨rfl, (rfl : T130.heap = T130.heap), (by decide : 2 + 0 ≤ _), (by decide : 3 + 0 ≤ _)⟩)
      dsimp only [Pt.U, Pt.locs, Pt.cells, Pt.slots] at X151 l151 y151 z151 st151 hQ151
      subst l151 y151 z151
      obtain ⟨rfl, N151q, K151⟩ := hQ151
      have N151 := Fr.app N130 N151q
      have R152 : Go p e below P T151 (mkF m 43 #[.val (.int i0), .val (.int i1), .val (.int i2), .val (.int cc), .val (.int (1 : Int32)), .val (.ref r_130), .val (.int (0 : Int32))] [(.int (isD r_130 wD))]) := fun t_ k_ => R150 t_ (st151.trans k_)
      have R153 : Go p e below P T151 (mkF m 45 #[.val (.int i0), .val (.int i1), .val (.int i2), .val (.int cc), .val (.int (1 : Int32)), .val (.ref r_130), .val (.int (0 : Int32))] [(.int (0 : Int32)), (.int (isD r_130 wD))]) := fun t_ k_ => R152 t_ (XS.iload X151.here hx rfl (hb hby at_43) rfl k_)
      have R154 : Go p e below P T151 (mkF m 48 #[.val (.int i0), .val (.int i1), .val (.int i2), .val (.int cc), .val (.int (1 : Int32)), .val (.ref r_130), .val (.int (0 : Int32))] []) := fun t_ k_ => R153 t_ (XS.icmpNo X151.here hx rfl (hb hby at_45) rfl (teq (by simp [isD, mt p130_1.mp hc135])).2 k_)
      have R155 : Go p e below P T151 (mkF m 49 #[.val (.int i0), .val (.int i1), .val (.int i2), .val (.int cc), .val (.int (1 : Int32)), .val (.ref r_130), .val (.int (0 : Int32))] [(.int (1 : Int32))]) := fun t_ k_ => R154 t_ (XS.iconst X151.here hx rfl (hb hby at_48) k_)
      have R156 : Go p e below P T151 (mkF m 53 #[.val (.int i0), .val (.int i1), .val (.int i2), .val (.int cc), .val (.int (1 : Int32)), .val (.ref r_130), .val (.int (0 : Int32))] [(.int (1 : Int32))]) := fun t_ k_ => R155 t_ (XS.goto X151.here hx rfl (pc0 := 49) (pc' := 53) rfl (hb hby at_49) (by decide) (by decide) k_)
      obtain ⟨fs, hr, hrun, hended, hW, hsame⟩ := X151.leave (v := some (.int (nar .boolean (1 : Int32)))) (fun h => by rw [Bd.returns] at h; cases h)
      exact ⟨_, _, hP _ (R156 _ (retN X151 hx (t := .boolean) Bd.returns (by simp) (hb hby at_53) hr)), hrun, hended, _, _, rfl, ⟨rfl, N151, (K151.symm ▸ ((Keep.refl h0 []).trans K130 all0))⟩, ⟨_, rfl⟩, hW, hsame.mono (by decide) (by decide)⟩
set_option maxRecDepth 65536 in
set_option maxHeartbeats 40000000 in
theorem comes_1 {Post : Tables → Env → Array Value → State → Outcome → State → Prop} (hpost : ∀ tb e args s v u, (limb_1_1.after args s (.returned v) u = true ∧ limb_1_2.after args s (.returned v) u = true ∧ True) → FrameEnd s (.returned v) u (Jvm.fieldLocs frame_1_writes args s ++ Jvm.arrayLocs frame_1_arrays args s ++ Jvm.staticLocs frame_1_statics s) 16 128 → Post tb e args s (.returned v) u) :
    ArmFor flags0 classFile x code maxLocals ret World_1 tables_1 room_1 Calls_1 rest_1 Pre_1 Post := by
  intro l hfl _ _ p e ha hc hk s m args below hf hA hF happ hP
  obtain ⟨hcalls, hrest, hpre⟩ := hP
  obtain ⟨-, -, -, hnamed, -, -, -, hat⟩ := (Spec.applies_iff hf).mp happ
  obtain ⟨hg, hn⟩ := and_e (Cond.before_iff.mp (show (Jvm.Cond.and given_1 narrow_1).before args s = true from hpre))
  obtain ⟨g1, g2⟩ := and_e hg
  obtain ⟨g3, g4⟩ := and_e g2
  obtain ⟨g5, g6⟩ := and_e g4
  obtain ⟨w0, w1, w2, rfl⟩ : ∃ w0 w1 w2 : Value, args = #[w0, w1, w2] := by
    have hs : args.size = 3 := by simpa [Cond.value, given_1] using g1
    obtain ⟨L⟩ := args
    match L, hs with
    | [w0, w1, w2], _ => exact ⟨w0, w1, w2, rfl⟩
  have hw := fun d (hd : d ∈ tables_1) => atoms_spec (ws := Jvm.Cond.code x code maxLocals ret :: tables_1) hat d (List.mem_cons_of_mem _ hd)
  have hfit : Fit s := fun {y c} hc i hi => by
    obtain ⟨ha, rfl⟩ := Array.getElem?_eq_some_iff.mp hc
    have q := List.all_eq_true.mp ((Array.all_eq_true_iff_forall_mem.mp hF) _ (Array.getElem_mem ha)) i (List.mem_range.mpr hi)
    simpa [Array.getElem?_eq_getElem hi] using q
  obtain ⟨i0, ei0⟩ := is_v g3
  obtain rfl : w0 = (.int i0) := Option.some.inj ei0
  obtain ⟨i1, ei1⟩ := is_v g5
  obtain rfl : w1 = (.int i1) := Option.some.inj ei1
  obtain ⟨i2, ei2⟩ := is_v g6
  obtain rfl : w2 = (.int i2) := Option.some.inj ei2
  obtain ⟨g7, g8⟩ := and_e hn
  obtain ⟨g9, g10⟩ := and_e g8
  obtain ⟨w_NULL, ev_NULL⟩ := exa_v g7
  have S_NULL := Sta.start ev_NULL (Or.inr ⟨(hw _ (List.mem_of_getElem? (i := 5) rfl)), (hw _ (List.mem_of_getElem? (i := 6) rfl))⟩)
  have E_NULL := Exa.start ev_NULL g7
  obtain ⟨w_DEFAULT, ev_DEFAULT⟩ := exa_v g9
  have S_DEFAULT := Sta.start ev_DEFAULT (Or.inr ⟨(hw _ (List.mem_of_getElem? (i := 5) rfl)), (hw _ (List.mem_of_getElem? (i := 13) rfl))⟩)
  have E_DEFAULT := Exa.start ev_DEFAULT g9
  have hne : w_DEFAULT ≠ w_NULL := fun q => gotF (eq_R ev_DEFAULT ev_NULL rfl rfl) (not_v g10) (by rw [q])
  obtain ⟨n, o, h1, h2, h3, _, L, rfl, ⟨rfl, N, _⟩, hq⟩ := law_ l s _ hw tables_1 i0 i1 i2 w_NULL w_DEFAULT s.heap s.heap.size (Old.start s) S_NULL S_DEFAULT E_NULL E_DEFAULT hne p e ha hc hk s m _ below hf ((Spec.applies_iff_loose hf).mp happ).1 ⟨rfl, State.Warmed39.refl s, rfl⟩ trivial
  refine ⟨n, _, h1, h2, h3, hpost _ _ _ _ _ _ ⟨Cond.after_iff.mpr rfl, Cond.after_iff.mpr (eq_i res_at (Term.int_eval (1)) rfl), trivial⟩ ⟨hq.1, hq.2.1, (hq.2.2.sift fun y hy => Or.inr (N y hy)).mono (by decide) (by decide)⟩⟩
theorem main_1_1 : Claimed_1_1 := comes_1 fun _ _ _ _ _ _ h hF => ⟨h.1, hF⟩
theorem main_1_2 : Claimed_1_2 := comes_1 fun _ _ _ _ _ _ h hF => ⟨h.2.1, hF⟩
end Jvm.Pilot.@@N@@
namespace Jvm.Pilot.@@N@@
open Jvm Jvm.ClassFile Sem Op Lib Jvm.Free Jvm.Stand Jvm.Pilot.@@N@@.Jvm.D
/-! MADE BY PROGRAM (witnessworld.py) out of the Statement's table words and the real class files: 9 classes; the members and pool entries that the words name. The judged class is class 1, her method 1. -/
namespace start1
open Jvm.ClassFile
def u (s : String) : CpInfo := .utf8 (stringToUtf16 s)
/-- a pool by its gaps: so many unusable entries, then the entry; so many at the end -/
def gap : Nat → List CpInfo → List CpInfo
  | 0, r => r
  | n + 1, r => .unusable :: gap n r
def poolList (es : List (Nat × CpInfo)) (last : Nat) : List CpInfo := es.foldr (fun e r => gap e.1 (e.2 :: r)) (gap last [])
def pool (es : List (Nat × CpInfo)) (last : Nat) : Array CpInfo := ⟨poolList es last⟩
def fileOf (pool : Array CpInfo) (this : Nat) (attrs : Array Attribute := #[]) (ms : Array MethodInfo := #[]) (fl : Nat := 33) (sup : Nat := 0) (ifs : Array Nat := #[]) (fds : Array FieldInfo := #[]) : ClassFile where
  minorVersion := 0
  majorVersion := 65
  constantPool := pool
  accessFlags := fl
  thisClass := this
  superClass := sup
  interfaces := ifs
  fields := fds
  methods := ms
  attributes := attrs
def plain (name : String) (sup : Option ClassId) : Class where
  name := name
  kind := .ordinary
  loader := none
  accessFlags := 33
  super := sup
  interfaces := #[]
  cf := none
  fields := #[]
  methods := #[]
  instanceTypes := #[]
  staticTypes := #[]
  resolved := #[]
  callSites := []
  init := .initialized
  statics := none
  mirror := none

def pool0 : Array CpInfo := pool [(5, u "<init>"), (0, u "()V"), (1, .class_ 10), (1, u "java/lang/Object")] 113

def k0c0 : Code := { maxStack := 0, maxLocals := 1, code := object_method_1_code, exceptionTable := #[], attributes := #[] }
def k0m0 : Method := { name := "<init>", desc := "()V", sig := { parameters := [], returnType := none }, accessFlags := 1, code := some k0c0 }
/-- java/lang/Object -/
def k0 : Class := { plain "java/lang/Object" none with
  accessFlags := 33
  interfaces := #[]
  cf := some (fileOf pool0 8 #[] #[{ accessFlags := 1, nameIndex := 5, descriptorIndex := 6, attributes := #[] }] 33 0 #[] #[])
  fields := #[]
  methods := #[k0m0]
  instanceTypes := #[]
  staticTypes := #[]
  resolved := Array.replicate 124 none
  statics := none }

def pool1 : Array CpInfo := pool [(2, .class_ 4), (1, u "java/lang/Object"), (0, u "<init>"), (0, u "()V"), (0, .methodref 8 9), (0, .class_ 10), (0, .nameAndType 11 12), (0, u "com/example/interleave/interleave/mariadb/FieldIsDefaultPinLaw"), (0, u "pick"), (0, u "(IIZ)Lcom/example/interleave/interleave/mariadb/InnoDbStatus$Field;"), (0, .methodref 14 15), (0, .class_ 16), (0, .nameAndType 17 18), (0, u "com/example/interleave/interleave/mariadb/InnoDbStatus$Field"), (0, u "isDefault"), (0, u "()Z"), (0, .fieldref 14 20), (0, .nameAndType 21 22), (0, u "NULL"), (0, u "Lcom/example/interleave/interleave/mariadb/InnoDbStatus$Field;"), (0, .fieldref 14 24), (0, .nameAndType 25 22), (0, u "DEFAULT"), (0, .methodref 14 27), (0, .nameAndType 5 28), (0, u "([BZ)V"), (2, u "law"), (0, u "(III)Z")] 7

def k1m0 : Method := { name := "<init>", desc := "()V", sig := { parameters := [], returnType := none }, accessFlags := 1, code := none }
def k1c1 : Code := { maxStack := 3, maxLocals := 7, code := code, exceptionTable := #[], attributes := #[] }
def k1m1 : Method := { name := "law", desc := "(III)Z", sig := { parameters := [.int, .int, .int], returnType := some .boolean }, accessFlags := 9, code := some k1c1 }
def k1c2 : Code := { maxStack := 4, maxLocals := 4, code := method_3_code, exceptionTable := #[], attributes := #[] }
def k1m2 : Method := { name := "pick", desc := "(IIZ)Lcom/example/interleave/interleave/mariadb/InnoDbStatus$Field;", sig := { parameters := [.int, .int, .boolean], returnType := some (.object "com/example/interleave/interleave/mariadb/InnoDbStatus$Field") }, accessFlags := 10, code := some k1c2 }
/-- com/example/interleave/interleave/mariadb/FieldIsDefaultPinLaw -/
def k1 : Class := { plain "com/example/interleave/interleave/mariadb/FieldIsDefaultPinLaw" (some 0) with
  accessFlags := 49
  interfaces := #[]
  cf := some (fileOf pool1 8 #[] #[{ accessFlags := 1, nameIndex := 5, descriptorIndex := 6, attributes := #[] }, { accessFlags := 9, nameIndex := 31, descriptorIndex := 32, attributes := #[] }, { accessFlags := 10, nameIndex := 11, descriptorIndex := 12, attributes := #[] }] 49 2 #[] #[])
  fields := #[]
  methods := #[k1m0, k1m1, k1m2]
  instanceTypes := #[]
  staticTypes := #[]
  resolved := Array.replicate 40 none
  statics := none }

def pool2 : Array CpInfo := pool [(1, .methodref 2 3), (0, .class_ 4), (0, .nameAndType 5 6), (0, u "java/lang/Object"), (0, u "<init>"), (0, u "()V"), (0, .fieldref 8 9), (0, .class_ 10), (0, .nameAndType 11 12), (0, u "com/example/interleave/interleave/mariadb/InnoDbStatus$Field"), (0, u "bytes"), (0, u "[B"), (0, .fieldref 8 14), (0, .nameAndType 15 16), (0, u "truncated"), (0, u "Z"), (0, .fieldref 8 18), (0, .nameAndType 19 20), (0, u "DEFAULT"), (0, u "Lcom/example/interleave/interleave/mariadb/InnoDbStatus$Field;"), (2, u "([BZ)V"), (2, u "NULL"), (3, u "isDefault"), (0, u "()Z"), (5, .class_ 38), (0, u "com/example/interleave/interleave/mariadb/InnoDbStatus")] 2

def k2c0 : Code := { maxStack := 2, maxLocals := 3, code := prog_39_method_1_code, exceptionTable := #[], attributes := #[] }
def k2m0 : Method := { name := "<init>", desc := "([BZ)V", sig := { parameters := [(.array .byte), .boolean], returnType := none }, accessFlags := 0, code := some k2c0 }
def k2c1 : Code := { maxStack := 2, maxLocals := 1, code := prog_39_method_3_code, exceptionTable := #[], attributes := #[] }
def k2m1 : Method := { name := "isDefault", desc := "()Z", sig := { parameters := [], returnType := some .boolean }, accessFlags := 0, code := some k2c1 }
/-- com/example/interleave/interleave/mariadb/InnoDbStatus$Field -/
def k2 : Class := { plain "com/example/interleave/interleave/mariadb/InnoDbStatus$Field" (some 0) with
  accessFlags := 32
  interfaces := #[]
  cf := some (fileOf pool2 8 #[.nestHost 37] #[{ accessFlags := 0, nameIndex := 5, descriptorIndex := 23, attributes := #[] }, { accessFlags := 0, nameIndex := 30, descriptorIndex := 31, attributes := #[] }] 32 2 #[] #[{ accessFlags := 24, nameIndex := 26, descriptorIndex := 20, attributes := #[] }, { accessFlags := 24, nameIndex := 19, descriptorIndex := 20, attributes := #[] }, { accessFlags := 18, nameIndex := 11, descriptorIndex := 12, attributes := #[] }, { accessFlags := 18, nameIndex := 15, descriptorIndex := 16, attributes := #[] }])
  fields := #[{ name := "NULL", type := (.object "com/example/interleave/interleave/mariadb/InnoDbStatus$Field"), accessFlags := 24, slot := 0, constantValue := 0 }, { name := "DEFAULT", type := (.object "com/example/interleave/interleave/mariadb/InnoDbStatus$Field"), accessFlags := 24, slot := 1, constantValue := 0 }, { name := "bytes", type := (.array .byte), accessFlags := 18, slot := 0, constantValue := 0 }, { name := "truncated", type := .boolean, accessFlags := 18, slot := 1, constantValue := 0 }]
  methods := #[k2m0, k2m1]
  instanceTypes := #[(.array .byte), .boolean]
  staticTypes := #[(.object "com/example/interleave/interleave/mariadb/InnoDbStatus$Field"), (.object "com/example/interleave/interleave/mariadb/InnoDbStatus$Field")]
  resolved := Array.replicate 41 none
  statics := some 0 }

def pool3 : Array CpInfo := pool [(1, u "java/lang/Cloneable"), (0, .class_ 1), (0, u "java/lang/Object"), (0, .class_ 3)] 3

/-- java/lang/Cloneable -/
def k3 : Class := { plain "java/lang/Cloneable" (some 0) with
  accessFlags := 1537
  interfaces := #[]
  cf := some (fileOf pool3 2 #[] #[] 1537 4 #[] #[])
  fields := #[]
  methods := #[]
  instanceTypes := #[]
  staticTypes := #[]
  resolved := Array.replicate 8 none
  statics := none }

def pool4 : Array CpInfo := pool [(1, u "java/io/Serializable"), (0, .class_ 1), (0, u "java/lang/Object"), (0, .class_ 3)] 3

/-- java/io/Serializable -/
def k4 : Class := { plain "java/io/Serializable" (some 0) with
  accessFlags := 1537
  interfaces := #[]
  cf := some (fileOf pool4 2 #[] #[] 1537 4 #[] #[])
  fields := #[]
  methods := #[]
  instanceTypes := #[]
  staticTypes := #[]
  resolved := Array.replicate 8 none
  statics := none }

/-- the primitive byte -/
def k5 : Class := { plain "byte" none with kind := .primitive 'B', accessFlags := 0x411 }
/-- [B -/
def k6 : Class := { plain "[B" (some 0) with kind := .array 5 .byte, interfaces := #[3, 4], accessFlags := 1041 }

/-- the primitive int -/
def k7 : Class := { plain "int" none with kind := .primitive 'I', accessFlags := 0x411 }
/-- [I -/
def k8 : Class := { plain "[I" (some 0) with kind := .array 7 .int, interfaces := #[3, 4], accessFlags := 1041 }

def heap : Heap := #[{ cls := 2, slots := #[.ref 1, .ref 2], vm := .statics 2 },
  { cls := 2, slots := #[.null, .int 0], vm := .none },
  { cls := 2, slots := #[.null, .int 0], vm := .none }]
def classes : Array Class := #[k0, k1, k2, k3, k4, k5, k6, k7, k8]
def interned : List (Array UInt16 × Addr) := []
def slotsUsed : Nat := 6
def theMethod : MethodId := ⟨1, 1⟩
def args0 : Array Value := #[.int 5, .int 5, .int 5]
def aboutOver (below : List Frame) : State where
  vm := { classes := classes, interned := interned.toArray }
  heap := heap
  slotsUsed := slotsUsed
  threads := #[{ frames := .invoking theMethod args0 :: below }]
def below0 : List Frame := [.native { method := ⟨0, 0⟩, args := #[] }]
def about1 : State := aboutOver below0
def p0 : Program := .bare "" "" ""
def e0 : Env := launch0.env 0 0 0
theorem w_frames : about1.frames = Frame.invoking theMethod args0 :: below0 := rfl
set_option maxRecDepth 65536 in
theorem w_args : argsFit about1.vm theMethod args0 = true := by decide +kernel
set_option maxRecDepth 65536 in
theorem w_heap : heapFits about1 = true := by decide +kernel
set_option maxRecDepth 65536 in
theorem w_runnable : about1.curStatus? = some .runnable := by decide +kernel
set_option maxRecDepth 65536 in
theorem w_alone : about1.alone = true := by decide +kernel
set_option maxRecDepth 65536 in
theorem w_named : about1.methodNamed? x = some theMethod := by decide +kernel
set_option maxRecDepth 65536 in
theorem w_hears : about1.hears theMethod below0 = true := by decide +kernel
set_option maxRecDepth 65536 in
theorem w_ripe : about1.ripe theMethod args0 below0 = true := by decide +kernel
theorem w_running : about1.status = .running := rfl
set_option maxRecDepth 65536 in
theorem w_room : about1.hasRoom e0.platform room_1 = true :=
  launch0.hasRoom_least _ room_1 (by decide +kernel) (by decide +kernel) (by decide +kernel) (by decide +kernel) (by decide +kernel) (by decide +kernel)
theorem allAtoms_all (ts : List Jvm.Cond) (a : Array Jvm.Value) (st : Jvm.State) : (allAtoms ts).before a st = ts.all (fun c => c.before a st) := by
  induction ts with
  | nil => rfl
  | cons c t ih =>
    show (Jvm.Cond.and c (allAtoms t)).before a st = _
    rw [Jvm.Cond.before_and, ih, List.all_cons]
def words1 : List Jvm.Cond := Jvm.Cond.code x code maxLocals ret :: tables_1
/-- a 'code' word, met by the world's own term for the bytes: nothing is compared byte by byte -/
theorem code_word {y : MethodName} {bytes : ByteArray} {mx : Nat} {rt : Option FieldType} {a : Array Value} {s : State} {m : MethodId} {meth : Method} {c : Code} (h1 : s.methodNamed? y = some m) (h2 : s.vm.method? m = some meth) (h3 : meth.code = some c) (h4 : c.code = bytes)
    (h5 : (c.maxLocals == mx && c.exceptionTable.isEmpty && decide (c.maxStack ≤ mostOperands) && decide (meth.sig.returnType = rt) && !meth.locks && decide (parseMethodDescriptor y.desc = some meth.sig)) = true) : (Jvm.Cond.code y bytes mx rt).before a s = true := by
  simp only [Bool.and_eq_true, beq_iff_eq, Bool.not_eq_true', decide_eq_true_eq] at h5
  obtain ⟨⟨⟨⟨⟨g1, g2⟩, g3⟩, g4⟩, g5⟩, g6⟩ := h5
  simp [Cond.before, Cond.holds, Cond.value, h1, h2, h3, h4, g1, g2, g3, g4, g5, g6]
def isCode : Jvm.Cond → Bool
  | .code _ _ _ _ => true
  | _ => false
theorem all_split {L : List Jvm.Cond} {P : Jvm.Cond → Bool} (h1 : L.all (fun c => isCode c || P c) = true) (h2 : ∀ c ∈ L.filter isCode, P c = true) : L.all P = true := by
  refine List.all_eq_true.mpr fun c hc => ?_
  have h := List.all_eq_true.mp h1 c hc
  rcases Bool.eq_false_or_eq_true (isCode c) with hi | hi
  · exact h2 c (List.mem_filter.mpr ⟨hc, hi⟩)
  · simpa [hi] using h
set_option maxRecDepth 65536 in
theorem w_c0 : (Jvm.Cond.code x code maxLocals ret).before args0 about1 = true := code_word (m := ⟨1, 1⟩) (meth := k1m1) (c := k1c1) (by decide +kernel) rfl rfl rfl (by decide +kernel)
set_option maxRecDepth 65536 in
theorem w_c1 : (Jvm.Cond.code ({ cls := "com/example/interleave/interleave/mariadb/FieldIsDefaultPinLaw", name := "pick", desc := "(IIZ)Lcom/example/interleave/interleave/mariadb/InnoDbStatus$Field;" } : Jvm.MethodName) method_3_code (4 : Nat) (Option.some (Jvm.ClassFile.FieldType.object "com/example/interleave/interleave/mariadb/InnoDbStatus$Field"))).before args0 about1 = true := code_word (m := ⟨1, 2⟩) (meth := k1m2) (c := k1c2) (by decide +kernel) rfl rfl rfl (by decide +kernel)
set_option maxRecDepth 65536 in
theorem w_c2 : (Jvm.Cond.code ({ cls := "com/example/interleave/interleave/mariadb/InnoDbStatus$Field", name := "isDefault", desc := "()Z" } : Jvm.MethodName) prog_39_method_3_code (1 : Nat) (Option.some Jvm.ClassFile.FieldType.boolean)).before args0 about1 = true := code_word (m := ⟨2, 1⟩) (meth := k2m1) (c := k2c1) (by decide +kernel) rfl rfl rfl (by decide +kernel)
set_option maxRecDepth 65536 in
theorem w_c3 : (Jvm.Cond.code ({ cls := "com/example/interleave/interleave/mariadb/InnoDbStatus$Field", name := "<init>", desc := "([BZ)V" } : Jvm.MethodName) prog_39_method_1_code (3 : Nat) (Option.none : Option Jvm.ClassFile.FieldType)).before args0 about1 = true := code_word (m := ⟨2, 0⟩) (meth := k2m0) (c := k2c0) (by decide +kernel) rfl rfl rfl (by decide +kernel)
set_option maxRecDepth 65536 in
theorem w_c4 : (Jvm.Cond.code ({ cls := "java/lang/Object", name := "<init>", desc := "()V" } : Jvm.MethodName) object_method_1_code (1 : Nat) (Option.none : Option Jvm.ClassFile.FieldType)).before args0 about1 = true := code_word (m := ⟨0, 0⟩) (meth := k0m0) (c := k0c0) (by decide +kernel) rfl rfl rfl (by decide +kernel)
def codes1 : List Jvm.Cond := [Jvm.Cond.code x code maxLocals ret, Jvm.Cond.code ({ cls := "com/example/interleave/interleave/mariadb/FieldIsDefaultPinLaw", name := "pick", desc := "(IIZ)Lcom/example/interleave/interleave/mariadb/InnoDbStatus$Field;" } : Jvm.MethodName) method_3_code (4 : Nat) (Option.some (Jvm.ClassFile.FieldType.object "com/example/interleave/interleave/mariadb/InnoDbStatus$Field")), Jvm.Cond.code ({ cls := "com/example/interleave/interleave/mariadb/InnoDbStatus$Field", name := "isDefault", desc := "()Z" } : Jvm.MethodName) prog_39_method_3_code (1 : Nat) (Option.some Jvm.ClassFile.FieldType.boolean), Jvm.Cond.code ({ cls := "com/example/interleave/interleave/mariadb/InnoDbStatus$Field", name := "<init>", desc := "([BZ)V" } : Jvm.MethodName) prog_39_method_1_code (3 : Nat) (Option.none : Option Jvm.ClassFile.FieldType), Jvm.Cond.code ({ cls := "java/lang/Object", name := "<init>", desc := "()V" } : Jvm.MethodName) object_method_1_code (1 : Nat) (Option.none : Option Jvm.ClassFile.FieldType)]
set_option maxRecDepth 65536 in
theorem codes_eq : words1.filter isCode = codes1 := rfl
theorem w_codes : ∀ c ∈ words1.filter isCode, c.before args0 about1 = true := by
  rw [codes_eq]
  intro c hc
  simp only [codes1, List.mem_cons, List.not_mem_nil, or_false] at hc
  rcases hc with rfl | rfl | rfl | rfl | rfl
  · exact w_c0
  · exact w_c1
  · exact w_c2
  · exact w_c3
  · exact w_c4
set_option maxRecDepth 65536 in
theorem w_t1 : (words1.take 24).all (fun c => isCode c || c.before args0 about1) = true := by decide +kernel
set_option maxRecDepth 65536 in
theorem w_t2 : (words1.drop 24).all (fun c => isCode c || c.before args0 about1) = true := by decide +kernel
theorem w_tables : (allAtoms (Jvm.Cond.code x code maxLocals ret :: tables_1)).before args0 about1 = true := by
  rw [allAtoms_all]
  show words1.all (fun c => c.before args0 about1) = true
  refine all_split ?_ w_codes
  rw [← List.take_append_drop 24 words1, List.all_append, w_t1, w_t2]
  rfl
set_option maxRecDepth 65536 in
theorem w_case : (Jvm.Cond.and given_1 narrow_1).before args0 about1 = true := by decide +kernel
theorem w_applies : (headSpec (Jvm.Cond.code x code maxLocals ret :: tables_1) room_1).applies x e0.platform about1 = true :=
  (Spec.applies_iff w_frames).mpr ⟨w_running, w_runnable, w_alone, w_named, w_hears, w_ripe, w_room, w_tables⟩
theorem atStart : AtStart classFile x code maxLocals ret World_1 tables_1 room_1 Calls_1 rest_1 Pre_1 launch0 p0 e0 about1 theMethod args0 below0 :=
  ⟨lists_1, trivial, launch0.admits_env _ _ _, launch0.least_env, fairChoices_fair.cas, fairChoices_fair.clock, w_frames, w_args, w_heap, w_applies, trivial, trivial, w_case⟩
end start1
theorem witness_1 : WitnessClaimed_1 := ⟨start1.p0, start1.e0, start1.about1, start1.theMethod, start1.args0, start1.below0, start1.atStart⟩
end Jvm.Pilot.@@N@@
