import JvmDerived
import JvmDerived.Pilot.@@N@@Statement
import JvmDerived.Pilot.@@N@@Code
set_option linter.unusedVariables false
set_option linter.unusedSimpArgs false
namespace Jvm.Pilot.@@N@@
open Jvm Jvm.ClassFile Sem Op Lib Jvm.Free Jvm.Stand Jvm.LawKit Jvm.RoadKit Bundle Jvm.Pilot.@@N@@.Jvm.D
/-- from (T, g) the run comes to (T', g') -/
abbrev own_Go (p : Program) (e : Env) (below : List Frame) (T : State) (g : JFrame) (T' : State) (g' : JFrame) : Prop := ∀ t, Steps p.tables e below (T'.setTop g') t → Steps p.tables e below (T.setTop g) t
def own_bz (z : Int32) : Int32 := if z = 0 then 0 else 1
theorem own_bz_and (z : Int32) : own_bz z &&& 1 = own_bz z := by unfold own_bz; split <;> decide
section OwnBool
variable {p : Program} {l : Launch} {e : Env} {R : Room} {s : State} {m : MethodId} {args : Array Value} {below : List Frame} {meth : Method} {c : Code} {T : State} {locs : List Loc} {cells slots : Nat}
/-- 'z != 0 ? 1 : 0' as javac lays it: ifeq +7, iconst_1, goto +4, iconst_0 -/
theorem own_bool (X : Stand p l e R s m args below meth c T locs cells slots) (hx : p.tables.exec = Jvm.exec) {pc : Nat} {Ls : Array Slot} {z : Int32} {rest : List Value}
    (d0 : decode c.code pc = .ok (.ifCond .eq 7, 3)) (d1 : decode c.code (pc + 3) = .ok (.iconst 1, 1)) (d2 : decode c.code (pc + 4) = .ok (.goto 4, 3)) (d3 : decode c.code (pc + 7) = .ok (.iconst 0, 1)) :
    own_Go p e below T (mkF m pc Ls (.int z :: rest)) T (mkF m (pc + 8) Ls (.int (own_bz z) :: rest)) := by
  intro t hr
  by_cases h : z = 0
  · have hv : own_bz z = 0 := by simp [own_bz, h]
    rw [hv] at hr
    refine XS.ifYes X.here hx rfl (pc0 := pc) (pc' := pc + 7) rfl d0 rfl ((if0 _ _).trans (teq h).1) (by omega) (by omega) ?_
    exact XS.iconst X.here hx rfl d3 hr
  · have hv : own_bz z = 1 := by simp [own_bz, h]
    rw [hv] at hr
    refine XS.ifNo X.here hx rfl d0 rfl ((if0 _ _).trans (feq h).1) ?_
    refine XS.iconst X.here hx rfl d1 ?_
    exact XS.goto X.here hx rfl (pc0 := pc + 4) (pc' := pc + 8) rfl d2 (by omega) (by omega) hr
end OwnBool
theorem own_neg (a : Int32) : (-a - 1).toInt64 = -a.toInt64 - 1 := by
  apply Int64.toInt_inj.mp
  have h1 := c_ineg a; have h2 := c_isub (-a) 1; have h3 := c_lneg a.toInt64; have h4 := c_lsub (-a.toInt64) 1
  have r1 := rng32 a; have r2 := rng32 (-a); have r3 := rng32 (-a - 1); have r4 := rng64 (-a.toInt64); have r5 := rng64 (-a.toInt64 - 1)
  have e1 := c_i2l a; have e2 := c_i2l (-a - 1)
  have o1 : (1 : Int32).toInt = 1 := by decide
  have o2 : (1 : Int64).toInt = 1 := by decide
  omega
/-- what asNumber answers -/
def own_num (mn mx b : Int32) : Int64 := if (b = 0 ∧ mx = mn) ∨ (¬ b = 0 ∧ ¬ mx = -1) then mn.toInt64 else -mn.toInt64 - 1
def own_max (m a b : Int32) : Int32 := if m = 0 then a else if m = 1 then -1 else b
theorem d2_0 : decode jdk_30_method_1_code 0 = .ok (.aload_n 0, 1) := by decide +kernel
theorem d2_1 : decode jdk_30_method_1_code 1 = .ok (.invokespecial 1, 3) := by decide +kernel
theorem d2_4 : decode jdk_30_method_1_code 4 = .ok (.return_, 1) := by decide +kernel
theorem pn_2 : plainName "java/lang/Record" = true := by first | (simp [plainName, overriddenIn]; done) | decide +kernel
theorem ef_rm2 (m : MethodId) (x0 : Addr) : entryFrame m #[(.ref x0)] 1 = mkF m 0 #[.val (.ref x0)] [] := by first | (simp [entryFrame, mkF, argsToLocals, Value.category]; done) | rfl
def Q_rm2 (Z : State) (h0 : Heap) (n0 : Nat) (v : Option Value) (h : Heap) (L : List Loc) : Prop := v = none ∧ Fr n0 L ∧ h = h0
set_option maxRecDepth 65536 in
set_option maxHeartbeats 40000000 in
theorem rm2 (l : Launch) (Z : State) (a0 : Array Value) (hw : ∀ d ∈ tables_1, d.before a0 Z = true) (ws : List Jvm.Cond) (a1 : Addr)  (h0 : Heap) (n0 : Nat) (Z0 : n0 ≤ h0.size)  :
    MetFree l (⟨"java/lang/Record", "<init>", "()V"⟩ : MethodName) (head1 (Jvm.Cond.code (⟨"java/lang/Record", "<init>", "()V"⟩ : MethodName) jdk_30_method_1_code 1 none :: ws) ({ frames := 1, cells := 0, slots := 0, locals := 12 } : Room)) (fun a U => a = #[(.ref a1)] ∧ Z.Warmed39 U.vm ∧ U.heap = h0) (fun _ _ _ _ _ => True) (fun _ U o U' => ∃ v L, o = .returned v ∧ Q_rm2 Z  h0 n0 v U'.heap L ∧ FrameEnd U o U' L (({ frames := 1, cells := 0, slots := 0, locals := 12 } : Room)).cells (({ frames := 1, cells := 0, slots := 0, locals := 12 } : Room)).slots) := by
  refine MetFree.of_bodySF (plainFor_of_name pn_2) hisR ?_
  intro p e s m args below meth c s₁ Bd hml0 hP hK
  obtain ⟨rfl, hZ, hh⟩ := hP
  have hx := Bd.exec
  have hby := Bd.bytes
  have hml : c.maxLocals = 1 := hml0
  have hown : s.vm.findClass "java/lang/Record" = some m.cls := findClass_of_methodNamed Bd.named
  have hnm := (name_of_methodNamed Bd.named Bd.method).1
  have X0 : Stand p l e ({ frames := 1, cells := 0, slots := 0, locals := 12 } : Room) s m #[(.ref a1)] below meth c s₁ [] 0 0 := Stand.of_body Bd
  have e0 : s₁.heap = h0 := by rw [← hh, Bd.state]; rfl
  have N0 := Fr.nil n0
  have g0 : own_Go p e below s₁ (entryFrame m #[(.ref a1)] 1) s₁ (mkF m 0 #[.val (.ref a1)] []) := fun t k => castTop (ef_rm2 m a1) k
  have g1 : own_Go p e below s₁ (entryFrame m #[(.ref a1)] 1) s₁ (mkF m 1 #[.val (.ref a1)] [(.ref a1)]) := fun t kt => g0 t (by
    show Steps p.tables e below (s₁.setTop (mkF m 0 #[.val (.ref a1)] [])) _
    refine XS.aloadN X0.here hx rfl (hb hby d2_0) rfl rfl ?_
    exact kt)
  obtain ⟨T2, X2, e2, st2⟩ := initO X0 hx hZ hown (hw _ (List.mem_of_getElem? (i := 12) rfl)) (hw _ (List.mem_of_getElem? (i := 13) rfl)) (hw _ (List.mem_of_getElem? (i := 14) rfl)) e0 (g := (mkF m 1 #[.val (.ref a1)] [(.ref a1)])) rfl (by rw [hml]; rfl) rfl (hb hby d2_1) (by decide) (W := 0) (by show 2 * 0 + _ ≤ _; exact Nat.le_of_eq rfl) (by decide)
  have g2 : own_Go p e below s₁ (entryFrame m #[(.ref a1)] 1) T2 (mkF m 4 #[.val (.ref a1)] []) := fun t kt => g1 t (st2 _ kt)
  obtain ⟨fs, hr, hrun, hended, hW, hsame⟩ := X2.leave (v := none) (fun _ => rfl)
  refine ⟨_, _, g2 _ (X2.returnOut hx Bd.returns (hb hby d2_4) hr), hrun, hended, _, _, rfl, ?_, ⟨_, rfl⟩, hW, hsame.mono (by decide) (by decide)⟩
  show Q_rm2 Z  h0 n0 _ T2.heap _
  rw [e2]
  exact ⟨rfl, N0, rfl⟩
theorem d1_0 : decode prog_181_method_1_code 0 = .ok (.aload_n 0, 1) := by decide +kernel
theorem d1_1 : decode prog_181_method_1_code 1 = .ok (.invokespecial 1, 3) := by decide +kernel
theorem d1_4 : decode prog_181_method_1_code 4 = .ok (.aload_n 0, 1) := by decide +kernel
theorem d1_5 : decode prog_181_method_1_code 5 = .ok (.iload_n 1, 1) := by decide +kernel
theorem d1_6 : decode prog_181_method_1_code 6 = .ok (.putfield 7, 3) := by decide +kernel
theorem d1_9 : decode prog_181_method_1_code 9 = .ok (.aload_n 0, 1) := by decide +kernel
theorem d1_10 : decode prog_181_method_1_code 10 = .ok (.iload_n 2, 1) := by decide +kernel
theorem d1_11 : decode prog_181_method_1_code 11 = .ok (.putfield 13, 3) := by decide +kernel
theorem d1_14 : decode prog_181_method_1_code 14 = .ok (.return_, 1) := by decide +kernel
theorem pn_1 : plainName "com/example/corundum/corundum/runtime/Arity" = true := by first | (simp [plainName, overriddenIn]; done) | decide +kernel
theorem pd_0 : parseMethodDescriptor "()V" = some ⟨[], none⟩ := by decide +kernel
theorem ef_rm1 (m : MethodId) (x0 : Addr) (x1 : Int32) (x2 : Int32) : entryFrame m #[(.ref x0), (.int x1), (.int x2)] 3 = mkF m 0 #[.val (.ref x0), .val (.int x1), .val (.int x2)] [] := by first | (simp [entryFrame, mkF, argsToLocals, Value.category]; done) | rfl
def Q_rm1 (Z : State) (a1 : Addr) (p2 p3 : Int32) (h0 : Heap) (n0 : Nat) (v : Option Value) (h : Heap) (L : List Loc) : Prop := v = none ∧ Fr n0 L ∧ Keep h0 h [a1] ∧ Exa Z h a1 "com/example/corundum/corundum/runtime/Arity" ∧ Fld Z h a1 "com/example/corundum/corundum/runtime/Arity" "minimum" "I" (.int p2) ∧ Fld Z h a1 "com/example/corundum/corundum/runtime/Arity" "maximum" "I" (.int p3)
set_option maxRecDepth 65536 in
set_option maxHeartbeats 40000000 in
theorem rm1 (l : Launch) (Z : State) (a0 : Array Value) (hw : ∀ d ∈ tables_1, d.before a0 Z = true) (ws : List Jvm.Cond) (a1 : Addr) (p2 : Int32) (p3 : Int32)  (h0 : Heap) (n0 : Nat) (Z0 : n0 ≤ h0.size) (F0 : Fld Z h0 a1 "com/example/corundum/corundum/runtime/Arity" "minimum" "I" (.int (0 : Int32))) (F1 : Fld Z h0 a1 "com/example/corundum/corundum/runtime/Arity" "maximum" "I" (.int (0 : Int32))) (E1 : Exa Z h0 a1 "com/example/corundum/corundum/runtime/Arity") (g_a1 : n0 ≤ a1) :
    MetFree l (⟨"com/example/corundum/corundum/runtime/Arity", "<init>", "(II)V"⟩ : MethodName) (head1 (Jvm.Cond.code (⟨"com/example/corundum/corundum/runtime/Arity", "<init>", "(II)V"⟩ : MethodName) prog_181_method_1_code 3 none :: ws) ({ frames := 2, cells := 0, slots := 0, locals := 24 } : Room)) (fun a U => a = #[(.ref a1), (.int p2), (.int p3)] ∧ Z.Warmed39 U.vm ∧ U.heap = h0) (fun _ _ _ _ _ => True) (fun _ U o U' => ∃ v L, o = .returned v ∧ Q_rm1 Z a1 p2 p3 h0 n0 v U'.heap L ∧ FrameEnd U o U' L (({ frames := 2, cells := 0, slots := 0, locals := 24 } : Room)).cells (({ frames := 2, cells := 0, slots := 0, locals := 24 } : Room)).slots) := by
  refine MetFree.of_bodySF (plainFor_of_name pn_1) hisR ?_
  intro p e s m args below meth c s₁ Bd hml0 hP hK
  obtain ⟨rfl, hZ, hh⟩ := hP
  have hx := Bd.exec
  have hby := Bd.bytes
  have hml : c.maxLocals = 3 := hml0
  have hown : s.vm.findClass "com/example/corundum/corundum/runtime/Arity" = some m.cls := findClass_of_methodNamed Bd.named
  have hnm := (name_of_methodNamed Bd.named Bd.method).1
  have X0 : Stand p l e ({ frames := 2, cells := 0, slots := 0, locals := 24 } : Room) s m #[(.ref a1), (.int p2), (.int p3)] below meth c s₁ [] 0 0 := Stand.of_body Bd
  have e0 : s₁.heap = h0 := by rw [← hh, Bd.state]; rfl
  have N0 := Fr.nil n0
  have g0 : own_Go p e below s₁ (entryFrame m #[(.ref a1), (.int p2), (.int p3)] 3) s₁ (mkF m 0 #[.val (.ref a1), .val (.int p2), .val (.int p3)] []) := fun t k => castTop (ef_rm1 m a1 p2 p3) k
  have K0 : Keep h0 h0 [a1] := Keep.refl h0 _
  have g1 : own_Go p e below s₁ (entryFrame m #[(.ref a1), (.int p2), (.int p3)] 3) s₁ (mkF m 1 #[.val (.ref a1), .val (.int p2), .val (.int p3)] [(.ref a1)]) := fun t kt => g0 t (by
    show Steps p.tables e below (s₁.setTop (mkF m 0 #[.val (.ref a1), .val (.int p2), .val (.int p3)] [])) _
    refine XS.aloadN X0.here hx rfl (hb hby d1_0) rfl rfl ?_
    exact kt)
  obtain ⟨_, _, ⟨T2, L2, k2, n2⟩, -, X2, ⟨Lc2, hQ2, l2, y2, z2⟩, st2⟩ := X0.specialBack hx (y := (⟨"java/lang/Record", "<init>", "()V"⟩ : MethodName)) rfl hown (mvT hZ (hw _ (List.mem_of_getElem? (i := 7) rfl))) (mvT hZ (hw _ (List.mem_of_getElem? (i := 8) rfl))) (mvT hZ (hw _ (List.mem_of_getElem? (i := 11) rfl))) (by decide) (backOf (W := 0) (rm2 l Z a0 hw [] a1 h0 n0 Z0) hZ (hw _ (List.mem_of_getElem? (i := 11) rfl)) (hw _ (List.mem_of_getElem? (i := 10) rfl)) (by decide) (by decide)) (g := (mkF m 1 #[.val (.ref a1), .val (.int p2), .val (.int p3)] [(.ref a1)])) rfl (by rw [hml]; rfl) (Steps.refl _) (a := a1) (argsL := []) (rest := []) (lenOf pd_0 rfl) rfl (by show 2 * 0 + _ ≤ _; exact Nat.le_of_eq rfl) (hb hby d1_1) (fun _ _ => ⟨rfl, e0, (by decide : 0 + 0 ≤ _), (by decide : 0 + 0 ≤ _)⟩)
  dsimp only [Pt.U, Pt.locs, Pt.cells, Pt.slots] at X2 l2 y2 z2 st2 hQ2
  subst l2 y2 z2
  obtain ⟨rfl, N2q, Eq2⟩ := hQ2
  have N2 := Fr.app N0 N2q
  have g2 : own_Go p e below s₁ (entryFrame m #[(.ref a1), (.int p2), (.int p3)] 3) T2 (mkF m 4 #[.val (.ref a1), .val (.int p2), .val (.int p3)] []) := fun t kt => g1 t (st2.trans kt)
  have E2' : T2.heap = h0 := Eq2
  have g3 : own_Go p e below s₁ (entryFrame m #[(.ref a1), (.int p2), (.int p3)] 3) T2 (mkF m 6 #[.val (.ref a1), .val (.int p2), .val (.int p3)] [(.int p2), (.ref a1)]) := fun t kt => g2 t (by
    show Steps p.tables e below (T2.setTop (mkF m 4 #[.val (.ref a1), .val (.int p2), .val (.int p3)] [])) _
    refine XS.aloadN X2.here hx rfl (hb hby d1_4) rfl rfl ?_
    show Steps p.tables e below (T2.setTop (mkF m 5 #[.val (.ref a1), .val (.int p2), .val (.int p3)] [(.ref a1)])) _
    refine XS.iloadN X2.here hx rfl (hb hby d1_5) rfl ?_
    exact kt)
  obtain ⟨T4, h4, X4, e4, W4, st4⟩ := putF X2 hx hZ hown (host := "") (Or.inl (hw _ (List.mem_of_getElem? (i := 15) rfl))) Via.refl E2' F0 E1 (Or.inr ⟨(hw _ (List.mem_of_getElem? (i := 16) rfl)), rfl, hnm⟩) (hw _ (List.mem_of_getElem? (i := 2) rfl)) (ty := .int) (by decide) rfl rfl (g := (mkF m 6 #[.val (.ref a1), .val (.int p2), .val (.int p3)] [(.int p2), (.ref a1)])) rfl rfl (hb hby d1_6)
  have f5 := E1.wr W4
  have f7 := F1.other W4 (Or.inr (slot_ne (Or.inr (hw _ (List.mem_of_getElem? (i := 18) rfl))) (Or.inr (hw _ (List.mem_of_getElem? (i := 16) rfl))) (by decide) (t := .int) (t' := .int) (by decide) (by decide)))
  have f4w := F0.same W4
  have N4 := Fr.snoc X4 N2 g_a1
  have K4 : Keep h0 h4 [a1] := K0.wr W4 (Or.inl (List.mem_of_getElem? (i := 0) rfl))
  have g4 : own_Go p e below s₁ (entryFrame m #[(.ref a1), (.int p2), (.int p3)] 3) T4 (mkF m 9 #[.val (.ref a1), .val (.int p2), .val (.int p3)] []) := fun t kt => g3 t (st4 _ kt)
  have g8 : own_Go p e below s₁ (entryFrame m #[(.ref a1), (.int p2), (.int p3)] 3) T4 (mkF m 11 #[.val (.ref a1), .val (.int p2), .val (.int p3)] [(.int p3), (.ref a1)]) := fun t kt => g4 t (by
    show Steps p.tables e below (T4.setTop (mkF m 9 #[.val (.ref a1), .val (.int p2), .val (.int p3)] [])) _
    refine XS.aloadN X4.here hx rfl (hb hby d1_9) rfl rfl ?_
    show Steps p.tables e below (T4.setTop (mkF m 10 #[.val (.ref a1), .val (.int p2), .val (.int p3)] [(.ref a1)])) _
    refine XS.iloadN X4.here hx rfl (hb hby d1_10) rfl ?_
    exact kt)
  obtain ⟨T9, h9, X9, e9, W9, st9⟩ := putF X4 hx hZ hown (host := "") (Or.inl (hw _ (List.mem_of_getElem? (i := 17) rfl))) Via.refl e4 f7 f5 (Or.inr ⟨(hw _ (List.mem_of_getElem? (i := 18) rfl)), rfl, hnm⟩) (hw _ (List.mem_of_getElem? (i := 2) rfl)) (ty := .int) (by decide) rfl rfl (g := (mkF m 11 #[.val (.ref a1), .val (.int p2), .val (.int p3)] [(.int p3), (.ref a1)])) rfl rfl (hb hby d1_11)
  have f10 := f5.wr W9
  have f11 := f4w.other W9 (Or.inr (slot_ne (Or.inr (hw _ (List.mem_of_getElem? (i := 16) rfl))) (Or.inr (hw _ (List.mem_of_getElem? (i := 18) rfl))) (by decide) (t := .int) (t' := .int) (by decide) (by decide)))
  have f9w := f7.same W9
  have N9 := Fr.snoc X9 N4 g_a1
  have K9 : Keep h0 h9 [a1] := K4.wr W9 (Or.inl (List.mem_of_getElem? (i := 0) rfl))
  have g9 : own_Go p e below s₁ (entryFrame m #[(.ref a1), (.int p2), (.int p3)] 3) T9 (mkF m 14 #[.val (.ref a1), .val (.int p2), .val (.int p3)] []) := fun t kt => g8 t (st9 _ kt)
  obtain ⟨fs, hr, hrun, hended, hW, hsame⟩ := X9.leave (v := none) (fun _ => rfl)
  refine ⟨_, _, g9 _ (X9.returnOut hx Bd.returns (hb hby d1_14) hr), hrun, hended, _, _, rfl, ?_, ⟨_, rfl⟩, hW, hsame.mono (by decide) (by decide)⟩
  show Q_rm1 Z a1 p2 p3 h0 n0 _ T9.heap _
  rw [e9]
  exact ⟨rfl, N9, K9, f10, f11, f9w⟩
theorem d4_0 : decode prog_181_method_5_code 0 = .ok (.iload_n 1, 1) := by decide +kernel
theorem d4_1 : decode prog_181_method_5_code 1 = .ok (.ifCond .eq 19, 3) := by decide +kernel
theorem d4_4 : decode prog_181_method_5_code 4 = .ok (.aload_n 0, 1) := by decide +kernel
theorem d4_5 : decode prog_181_method_5_code 5 = .ok (.getfield 13, 3) := by decide +kernel
theorem d4_8 : decode prog_181_method_5_code 8 = .ok (.iconst (-1), 1) := by decide +kernel
theorem d4_9 : decode prog_181_method_5_code 9 = .ok (.if_icmp .eq 7, 3) := by decide +kernel
theorem d4_12 : decode prog_181_method_5_code 12 = .ok (.iconst 1, 1) := by decide +kernel
theorem d4_13 : decode prog_181_method_5_code 13 = .ok (.goto 23, 3) := by decide +kernel
theorem d4_16 : decode prog_181_method_5_code 16 = .ok (.iconst 0, 1) := by decide +kernel
theorem d4_17 : decode prog_181_method_5_code 17 = .ok (.goto 19, 3) := by decide +kernel
theorem d4_20 : decode prog_181_method_5_code 20 = .ok (.aload_n 0, 1) := by decide +kernel
theorem d4_21 : decode prog_181_method_5_code 21 = .ok (.getfield 13, 3) := by decide +kernel
theorem d4_24 : decode prog_181_method_5_code 24 = .ok (.aload_n 0, 1) := by decide +kernel
theorem d4_25 : decode prog_181_method_5_code 25 = .ok (.getfield 7, 3) := by decide +kernel
theorem d4_28 : decode prog_181_method_5_code 28 = .ok (.if_icmp .ne 7, 3) := by decide +kernel
theorem d4_31 : decode prog_181_method_5_code 31 = .ok (.iconst 1, 1) := by decide +kernel
theorem d4_32 : decode prog_181_method_5_code 32 = .ok (.goto 4, 3) := by decide +kernel
theorem d4_35 : decode prog_181_method_5_code 35 = .ok (.iconst 0, 1) := by decide +kernel
theorem d4_36 : decode prog_181_method_5_code 36 = .ok (.istore_n 2, 1) := by decide +kernel
theorem d4_37 : decode prog_181_method_5_code 37 = .ok (.iload_n 2, 1) := by decide +kernel
theorem d4_38 : decode prog_181_method_5_code 38 = .ok (.ifCond .eq 11, 3) := by decide +kernel
theorem d4_41 : decode prog_181_method_5_code 41 = .ok (.aload_n 0, 1) := by decide +kernel
theorem d4_42 : decode prog_181_method_5_code 42 = .ok (.getfield 7, 3) := by decide +kernel
theorem d4_45 : decode prog_181_method_5_code 45 = .ok (.i2l, 1) := by decide +kernel
theorem d4_46 : decode prog_181_method_5_code 46 = .ok (.goto 11, 3) := by decide +kernel
theorem d4_49 : decode prog_181_method_5_code 49 = .ok (.aload_n 0, 1) := by decide +kernel
theorem d4_50 : decode prog_181_method_5_code 50 = .ok (.getfield 7, 3) := by decide +kernel
theorem d4_53 : decode prog_181_method_5_code 53 = .ok (.ineg, 1) := by decide +kernel
theorem d4_54 : decode prog_181_method_5_code 54 = .ok (.iconst 1, 1) := by decide +kernel
theorem d4_55 : decode prog_181_method_5_code 55 = .ok (.isub, 1) := by decide +kernel
theorem d4_56 : decode prog_181_method_5_code 56 = .ok (.i2l, 1) := by decide +kernel
theorem d4_57 : decode prog_181_method_5_code 57 = .ok (.lreturn, 1) := by decide +kernel
theorem pn_4 : plainName "com/example/corundum/corundum/runtime/Arity" = true := by first | (simp [plainName, overriddenIn]; done) | decide +kernel
theorem ef_rm4 (m : MethodId) (x0 : Addr) (x1 : Int32) : entryFrame m #[(.ref x0), (.int x1)] 3 = mkF m 0 #[.val (.ref x0), .val (.int x1), .unset] [] := by first | (simp [entryFrame, mkF, argsToLocals, Value.category]; done) | rfl
def Q_rm4 (Z : State) (p2 w1 w2 : Int32) (h0 : Heap) (n0 : Nat) (v : Option Value) (h : Heap) (L : List Loc) : Prop := v = some (.long (own_num w1 w2 p2)) ∧ Fr n0 L ∧ h = h0
set_option maxRecDepth 65536 in
set_option maxHeartbeats 40000000 in
theorem rm4 (l : Launch) (Z : State) (a0 : Array Value) (hw : ∀ d ∈ tables_1, d.before a0 Z = true) (ws : List Jvm.Cond) (a1 : Addr) (p2 : Int32) (w1 w2 : Int32) (h0 : Heap) (n0 : Nat) (Z0 : n0 ≤ h0.size) (F0 : Fld Z h0 a1 "com/example/corundum/corundum/runtime/Arity" "minimum" "I" (.int w1)) (F1 : Fld Z h0 a1 "com/example/corundum/corundum/runtime/Arity" "maximum" "I" (.int w2)) :
    MetFree l (⟨"com/example/corundum/corundum/runtime/Arity", "asNumber", "(Z)J"⟩ : MethodName) (head1 (Jvm.Cond.code (⟨"com/example/corundum/corundum/runtime/Arity", "asNumber", "(Z)J"⟩ : MethodName) prog_181_method_5_code 3 (some .long) :: ws) ({ frames := 0, cells := 0, slots := 0, locals := 0 } : Room)) (fun a U => a = #[(.ref a1), (.int p2)] ∧ Z.Warmed39 U.vm ∧ U.heap = h0) (fun _ _ _ _ _ => True) (fun _ U o U' => ∃ v L, o = .returned v ∧ Q_rm4 Z p2 w1 w2 h0 n0 v U'.heap L ∧ FrameEnd U o U' L (({ frames := 0, cells := 0, slots := 0, locals := 0 } : Room)).cells (({ frames := 0, cells := 0, slots := 0, locals := 0 } : Room)).slots) := by
  refine MetFree.of_bodySF (plainFor_of_name pn_4) hisR ?_
  intro p e s m args below meth c s₁ Bd hml0 hP hK
  obtain ⟨rfl, hZ, hh⟩ := hP
  have hx := Bd.exec
  have hby := Bd.bytes
  have hml : c.maxLocals = 3 := hml0
  have hown : s.vm.findClass "com/example/corundum/corundum/runtime/Arity" = some m.cls := findClass_of_methodNamed Bd.named
  have hnm := (name_of_methodNamed Bd.named Bd.method).1
  have X0 : Stand p l e ({ frames := 0, cells := 0, slots := 0, locals := 0 } : Room) s m #[(.ref a1), (.int p2)] below meth c s₁ [] 0 0 := Stand.of_body Bd
  have e0 : s₁.heap = h0 := by rw [← hh, Bd.state]; rfl
  have N0 := Fr.nil n0
  have g0 : own_Go p e below s₁ (entryFrame m #[(.ref a1), (.int p2)] 3) s₁ (mkF m 0 #[.val (.ref a1), .val (.int p2), .unset] []) := fun t k => castTop (ef_rm4 m a1 p2) k
  have g1 : own_Go p e below s₁ (entryFrame m #[(.ref a1), (.int p2)] 3) s₁ (mkF m 1 #[.val (.ref a1), .val (.int p2), .unset] [(.int p2)]) := fun t kt => g0 t (by
    show Steps p.tables e below (s₁.setTop (mkF m 0 #[.val (.ref a1), .val (.int p2), .unset] [])) _
    refine XS.iloadN X0.here hx rfl (hb hby d4_0) rfl ?_
    exact kt)
  by_cases hb0 : p2 = 0
  · have g2 : own_Go p e below s₁ (entryFrame m #[(.ref a1), (.int p2)] 3) s₁ (mkF m 21 #[.val (.ref a1), .val (.int p2), .unset] [(.ref a1)]) := fun t kt => g1 t (by
      show Steps p.tables e below (s₁.setTop (mkF m 1 #[.val (.ref a1), .val (.int p2), .unset] [(.int p2)])) _
      refine XS.ifYes X0.here hx rfl (pc0 := 1) (pc' := 20) rfl (hb hby d4_1) rfl ((if0 _ _).trans (teq hb0).1) (by decide) (by decide) ?_
      show Steps p.tables e below (s₁.setTop (mkF m 20 #[.val (.ref a1), .val (.int p2), .unset] [])) _
      refine XS.aloadN X0.here hx rfl (hb hby d4_20) rfl rfl ?_
      exact kt)
    obtain ⟨T3, X3, e3, st3⟩ := getF X0 hx hZ hown (host := "") (Or.inl (hw _ (List.mem_of_getElem? (i := 17) rfl))) Via.refl e0 F1 (g := (mkF m 21 #[.val (.ref a1), .val (.int p2), .unset] [(.ref a1)])) rfl rfl (hb hby d4_21)
    have g3 : own_Go p e below s₁ (entryFrame m #[(.ref a1), (.int p2)] 3) T3 (mkF m 24 #[.val (.ref a1), .val (.int p2), .unset] [(.int w2)]) := fun t kt => g2 t (st3 _ kt)
    have g4 : own_Go p e below s₁ (entryFrame m #[(.ref a1), (.int p2)] 3) T3 (mkF m 25 #[.val (.ref a1), .val (.int p2), .unset] [(.ref a1), (.int w2)]) := fun t kt => g3 t (by
      show Steps p.tables e below (T3.setTop (mkF m 24 #[.val (.ref a1), .val (.int p2), .unset] [(.int w2)])) _
      refine XS.aloadN X3.here hx rfl (hb hby d4_24) rfl rfl ?_
      exact kt)
    obtain ⟨T5, X5, e5, st5⟩ := getF X3 hx hZ hown (host := "") (Or.inl (hw _ (List.mem_of_getElem? (i := 15) rfl))) Via.refl e3 F0 (g := (mkF m 25 #[.val (.ref a1), .val (.int p2), .unset] [(.ref a1), (.int w2)])) rfl rfl (hb hby d4_25)
    have g5 : own_Go p e below s₁ (entryFrame m #[(.ref a1), (.int p2)] 3) T5 (mkF m 28 #[.val (.ref a1), .val (.int p2), .unset] [(.int w1), (.int w2)]) := fun t kt => g4 t (st5 _ kt)
    by_cases hm : w2 = w1
    · have g6 : own_Go p e below s₁ (entryFrame m #[(.ref a1), (.int p2)] 3) T5 (mkF m 42 #[.val (.ref a1), .val (.int p2), .val (.int (1 : Int32))] [(.ref a1)]) := fun t kt => g5 t (by
        show Steps p.tables e below (T5.setTop (mkF m 28 #[.val (.ref a1), .val (.int p2), .unset] [(.int w1), (.int w2)])) _
        refine XS.icmpNo X5.here hx rfl (hb hby d4_28) rfl (teq hm).2 ?_
        show Steps p.tables e below (T5.setTop (mkF m 31 #[.val (.ref a1), .val (.int p2), .unset] [])) _
        refine XS.iconst X5.here hx rfl (hb hby d4_31) ?_
        show Steps p.tables e below (T5.setTop (mkF m 32 #[.val (.ref a1), .val (.int p2), .unset] [(.int (1 : Int32))])) _
        refine XS.goto X5.here hx rfl (pc0 := 32) (pc' := 36) rfl (hb hby d4_32) (by decide) (by decide) ?_
        show Steps p.tables e below (T5.setTop (mkF m 36 #[.val (.ref a1), .val (.int p2), .unset] [(.int (1 : Int32))])) _
        refine XS.istoreN X5.here hx rfl (hb hby d4_36) rfl (l' := #[.val (.ref a1), .val (.int p2), .val (.int (1 : Int32))]) rfl ?_
        show Steps p.tables e below (T5.setTop (mkF m 37 #[.val (.ref a1), .val (.int p2), .val (.int (1 : Int32))] [])) _
        refine XS.iloadN X5.here hx rfl (hb hby d4_37) rfl ?_
        show Steps p.tables e below (T5.setTop (mkF m 38 #[.val (.ref a1), .val (.int p2), .val (.int (1 : Int32))] [(.int (1 : Int32))])) _
        refine XS.ifNo X5.here hx rfl (hb hby d4_38) rfl ((if0 _ _).trans (feq (by decide)).1) ?_
        show Steps p.tables e below (T5.setTop (mkF m 41 #[.val (.ref a1), .val (.int p2), .val (.int (1 : Int32))] [])) _
        refine XS.aloadN X5.here hx rfl (hb hby d4_41) rfl rfl ?_
        exact kt)
      obtain ⟨T7, X7, e7, st7⟩ := getF X5 hx hZ hown (host := "") (Or.inl (hw _ (List.mem_of_getElem? (i := 15) rfl))) Via.refl e5 F0 (g := (mkF m 42 #[.val (.ref a1), .val (.int p2), .val (.int (1 : Int32))] [(.ref a1)])) rfl rfl (hb hby d4_42)
      have g7 : own_Go p e below s₁ (entryFrame m #[(.ref a1), (.int p2)] 3) T7 (mkF m 45 #[.val (.ref a1), .val (.int p2), .val (.int (1 : Int32))] [(.int w1)]) := fun t kt => g6 t (st7 _ kt)
      have g8 : own_Go p e below s₁ (entryFrame m #[(.ref a1), (.int p2)] 3) T7 (mkF m 57 #[.val (.ref a1), .val (.int p2), .val (.int (1 : Int32))] [(.long (w1.toInt64))]) := fun t kt => g7 t (by
        show Steps p.tables e below (T7.setTop (mkF m 45 #[.val (.ref a1), .val (.int p2), .val (.int (1 : Int32))] [(.int w1)])) _
        refine XS.i2l X7.here hx rfl (hb hby d4_45) rfl ?_
        show Steps p.tables e below (T7.setTop (mkF m 46 #[.val (.ref a1), .val (.int p2), .val (.int (1 : Int32))] [(.long (w1.toInt64))])) _
        refine XS.goto X7.here hx rfl (pc0 := 46) (pc' := 57) rfl (hb hby d4_46) (by decide) (by decide) ?_
        exact kt)
      have hv : own_num w1 w2 p2 = w1.toInt64 := by simp [own_num, hb0, hm]
      rw [← hv] at g8
      obtain ⟨fs, hr, hrun, hended, hW, hsame⟩ := X7.leave (v := some (.long (own_num w1 w2 p2))) (fun h => by rw [Bd.returns] at h; cases h)
      refine ⟨_, _, g8 _ (X7.lreturnOut hx Bd.returns (hb hby d4_57) hr), hrun, hended, _, _, rfl, ?_, ⟨_, rfl⟩, hW, hsame.mono (by decide) (by decide)⟩
      show Q_rm4 Z p2 w1 w2 h0 n0 _ T7.heap _
      rw [e7]
      exact ⟨rfl, N0, rfl⟩
    · have g9 : own_Go p e below s₁ (entryFrame m #[(.ref a1), (.int p2)] 3) T5 (mkF m 50 #[.val (.ref a1), .val (.int p2), .val (.int (0 : Int32))] [(.ref a1)]) := fun t kt => g5 t (by
        show Steps p.tables e below (T5.setTop (mkF m 28 #[.val (.ref a1), .val (.int p2), .unset] [(.int w1), (.int w2)])) _
        refine XS.icmpYes X5.here hx rfl (pc0 := 28) (pc' := 35) rfl (hb hby d4_28) rfl (feq hm).2 (by decide) (by decide) ?_
        show Steps p.tables e below (T5.setTop (mkF m 35 #[.val (.ref a1), .val (.int p2), .unset] [])) _
        refine XS.iconst X5.here hx rfl (hb hby d4_35) ?_
        show Steps p.tables e below (T5.setTop (mkF m 36 #[.val (.ref a1), .val (.int p2), .unset] [(.int (0 : Int32))])) _
        refine XS.istoreN X5.here hx rfl (hb hby d4_36) rfl (l' := #[.val (.ref a1), .val (.int p2), .val (.int (0 : Int32))]) rfl ?_
        show Steps p.tables e below (T5.setTop (mkF m 37 #[.val (.ref a1), .val (.int p2), .val (.int (0 : Int32))] [])) _
        refine XS.iloadN X5.here hx rfl (hb hby d4_37) rfl ?_
        show Steps p.tables e below (T5.setTop (mkF m 38 #[.val (.ref a1), .val (.int p2), .val (.int (0 : Int32))] [(.int (0 : Int32))])) _
        refine XS.ifYes X5.here hx rfl (pc0 := 38) (pc' := 49) rfl (hb hby d4_38) rfl ((if0 _ _).trans (teq rfl).1) (by decide) (by decide) ?_
        show Steps p.tables e below (T5.setTop (mkF m 49 #[.val (.ref a1), .val (.int p2), .val (.int (0 : Int32))] [])) _
        refine XS.aloadN X5.here hx rfl (hb hby d4_49) rfl rfl ?_
        exact kt)
      obtain ⟨T10, X10, e10, st10⟩ := getF X5 hx hZ hown (host := "") (Or.inl (hw _ (List.mem_of_getElem? (i := 15) rfl))) Via.refl e5 F0 (g := (mkF m 50 #[.val (.ref a1), .val (.int p2), .val (.int (0 : Int32))] [(.ref a1)])) rfl rfl (hb hby d4_50)
      have g10 : own_Go p e below s₁ (entryFrame m #[(.ref a1), (.int p2)] 3) T10 (mkF m 53 #[.val (.ref a1), .val (.int p2), .val (.int (0 : Int32))] [(.int w1)]) := fun t kt => g9 t (st10 _ kt)
      have g11 : own_Go p e below s₁ (entryFrame m #[(.ref a1), (.int p2)] 3) T10 (mkF m 57 #[.val (.ref a1), .val (.int p2), .val (.int (0 : Int32))] [(.long (((-w1) - (1 : Int32)).toInt64))]) := fun t kt => g10 t (by
        show Steps p.tables e below (T10.setTop (mkF m 53 #[.val (.ref a1), .val (.int p2), .val (.int (0 : Int32))] [(.int w1)])) _
        refine XS.ineg X10.here hx rfl (hb hby d4_53) rfl ?_
        show Steps p.tables e below (T10.setTop (mkF m 54 #[.val (.ref a1), .val (.int p2), .val (.int (0 : Int32))] [(.int (-w1))])) _
        refine XS.iconst X10.here hx rfl (hb hby d4_54) ?_
        show Steps p.tables e below (T10.setTop (mkF m 55 #[.val (.ref a1), .val (.int p2), .val (.int (0 : Int32))] [(.int (1 : Int32)), (.int (-w1))])) _
        refine XS.isub X10.here hx rfl (hb hby d4_55) rfl ?_
        show Steps p.tables e below (T10.setTop (mkF m 56 #[.val (.ref a1), .val (.int p2), .val (.int (0 : Int32))] [(.int ((-w1) - (1 : Int32)))])) _
        refine XS.i2l X10.here hx rfl (hb hby d4_56) rfl ?_
        exact kt)
      have hv : own_num w1 w2 p2 = ((-w1) - (1 : Int32)).toInt64 := by simp [own_num, own_neg, hb0, hm]
      rw [← hv] at g11
      obtain ⟨fs, hr, hrun, hended, hW, hsame⟩ := X10.leave (v := some (.long (own_num w1 w2 p2))) (fun h => by rw [Bd.returns] at h; cases h)
      refine ⟨_, _, g11 _ (X10.lreturnOut hx Bd.returns (hb hby d4_57) hr), hrun, hended, _, _, rfl, ?_, ⟨_, rfl⟩, hW, hsame.mono (by decide) (by decide)⟩
      show Q_rm4 Z p2 w1 w2 h0 n0 _ T10.heap _
      rw [e10]
      exact ⟨rfl, N0, rfl⟩
  · have g12 : own_Go p e below s₁ (entryFrame m #[(.ref a1), (.int p2)] 3) s₁ (mkF m 5 #[.val (.ref a1), .val (.int p2), .unset] [(.ref a1)]) := fun t kt => g1 t (by
      show Steps p.tables e below (s₁.setTop (mkF m 1 #[.val (.ref a1), .val (.int p2), .unset] [(.int p2)])) _
      refine XS.ifNo X0.here hx rfl (hb hby d4_1) rfl ((if0 _ _).trans (feq hb0).1) ?_
      show Steps p.tables e below (s₁.setTop (mkF m 4 #[.val (.ref a1), .val (.int p2), .unset] [])) _
      refine XS.aloadN X0.here hx rfl (hb hby d4_4) rfl rfl ?_
      exact kt)
    obtain ⟨T13, X13, e13, st13⟩ := getF X0 hx hZ hown (host := "") (Or.inl (hw _ (List.mem_of_getElem? (i := 17) rfl))) Via.refl e0 F1 (g := (mkF m 5 #[.val (.ref a1), .val (.int p2), .unset] [(.ref a1)])) rfl rfl (hb hby d4_5)
    have g13 : own_Go p e below s₁ (entryFrame m #[(.ref a1), (.int p2)] 3) T13 (mkF m 8 #[.val (.ref a1), .val (.int p2), .unset] [(.int w2)]) := fun t kt => g12 t (st13 _ kt)
    have g14 : own_Go p e below s₁ (entryFrame m #[(.ref a1), (.int p2)] 3) T13 (mkF m 9 #[.val (.ref a1), .val (.int p2), .unset] [(.int (-1 : Int32)), (.int w2)]) := fun t kt => g13 t (by
      show Steps p.tables e below (T13.setTop (mkF m 8 #[.val (.ref a1), .val (.int p2), .unset] [(.int w2)])) _
      refine XS.iconst X13.here hx rfl (hb hby d4_8) ?_
      exact kt)
    by_cases hm : w2 = (-1 : Int32)
    · have g15 : own_Go p e below s₁ (entryFrame m #[(.ref a1), (.int p2)] 3) T13 (mkF m 50 #[.val (.ref a1), .val (.int p2), .val (.int (0 : Int32))] [(.ref a1)]) := fun t kt => g14 t (by
        show Steps p.tables e below (T13.setTop (mkF m 9 #[.val (.ref a1), .val (.int p2), .unset] [(.int (-1 : Int32)), (.int w2)])) _
        refine XS.icmpYes X13.here hx rfl (pc0 := 9) (pc' := 16) rfl (hb hby d4_9) rfl (teq hm).1 (by decide) (by decide) ?_
        show Steps p.tables e below (T13.setTop (mkF m 16 #[.val (.ref a1), .val (.int p2), .unset] [])) _
        refine XS.iconst X13.here hx rfl (hb hby d4_16) ?_
        show Steps p.tables e below (T13.setTop (mkF m 17 #[.val (.ref a1), .val (.int p2), .unset] [(.int (0 : Int32))])) _
        refine XS.goto X13.here hx rfl (pc0 := 17) (pc' := 36) rfl (hb hby d4_17) (by decide) (by decide) ?_
        show Steps p.tables e below (T13.setTop (mkF m 36 #[.val (.ref a1), .val (.int p2), .unset] [(.int (0 : Int32))])) _
        refine XS.istoreN X13.here hx rfl (hb hby d4_36) rfl (l' := #[.val (.ref a1), .val (.int p2), .val (.int (0 : Int32))]) rfl ?_
        show Steps p.tables e below (T13.setTop (mkF m 37 #[.val (.ref a1), .val (.int p2), .val (.int (0 : Int32))] [])) _
        refine XS.iloadN X13.here hx rfl (hb hby d4_37) rfl ?_
        show Steps p.tables e below (T13.setTop (mkF m 38 #[.val (.ref a1), .val (.int p2), .val (.int (0 : Int32))] [(.int (0 : Int32))])) _
        refine XS.ifYes X13.here hx rfl (pc0 := 38) (pc' := 49) rfl (hb hby d4_38) rfl ((if0 _ _).trans (teq rfl).1) (by decide) (by decide) ?_
        show Steps p.tables e below (T13.setTop (mkF m 49 #[.val (.ref a1), .val (.int p2), .val (.int (0 : Int32))] [])) _
        refine XS.aloadN X13.here hx rfl (hb hby d4_49) rfl rfl ?_
        exact kt)
      obtain ⟨T16, X16, e16, st16⟩ := getF X13 hx hZ hown (host := "") (Or.inl (hw _ (List.mem_of_getElem? (i := 15) rfl))) Via.refl e13 F0 (g := (mkF m 50 #[.val (.ref a1), .val (.int p2), .val (.int (0 : Int32))] [(.ref a1)])) rfl rfl (hb hby d4_50)
      have g16 : own_Go p e below s₁ (entryFrame m #[(.ref a1), (.int p2)] 3) T16 (mkF m 53 #[.val (.ref a1), .val (.int p2), .val (.int (0 : Int32))] [(.int w1)]) := fun t kt => g15 t (st16 _ kt)
      have g17 : own_Go p e below s₁ (entryFrame m #[(.ref a1), (.int p2)] 3) T16 (mkF m 57 #[.val (.ref a1), .val (.int p2), .val (.int (0 : Int32))] [(.long (((-w1) - (1 : Int32)).toInt64))]) := fun t kt => g16 t (by
        show Steps p.tables e below (T16.setTop (mkF m 53 #[.val (.ref a1), .val (.int p2), .val (.int (0 : Int32))] [(.int w1)])) _
        refine XS.ineg X16.here hx rfl (hb hby d4_53) rfl ?_
        show Steps p.tables e below (T16.setTop (mkF m 54 #[.val (.ref a1), .val (.int p2), .val (.int (0 : Int32))] [(.int (-w1))])) _
        refine XS.iconst X16.here hx rfl (hb hby d4_54) ?_
        show Steps p.tables e below (T16.setTop (mkF m 55 #[.val (.ref a1), .val (.int p2), .val (.int (0 : Int32))] [(.int (1 : Int32)), (.int (-w1))])) _
        refine XS.isub X16.here hx rfl (hb hby d4_55) rfl ?_
        show Steps p.tables e below (T16.setTop (mkF m 56 #[.val (.ref a1), .val (.int p2), .val (.int (0 : Int32))] [(.int ((-w1) - (1 : Int32)))])) _
        refine XS.i2l X16.here hx rfl (hb hby d4_56) rfl ?_
        exact kt)
      have hv : own_num w1 w2 p2 = ((-w1) - (1 : Int32)).toInt64 := by simp [own_num, own_neg, hb0, hm]
      rw [← hv] at g17
      obtain ⟨fs, hr, hrun, hended, hW, hsame⟩ := X16.leave (v := some (.long (own_num w1 w2 p2))) (fun h => by rw [Bd.returns] at h; cases h)
      refine ⟨_, _, g17 _ (X16.lreturnOut hx Bd.returns (hb hby d4_57) hr), hrun, hended, _, _, rfl, ?_, ⟨_, rfl⟩, hW, hsame.mono (by decide) (by decide)⟩
      show Q_rm4 Z p2 w1 w2 h0 n0 _ T16.heap _
      rw [e16]
      exact ⟨rfl, N0, rfl⟩
    · have g18 : own_Go p e below s₁ (entryFrame m #[(.ref a1), (.int p2)] 3) T13 (mkF m 42 #[.val (.ref a1), .val (.int p2), .val (.int (1 : Int32))] [(.ref a1)]) := fun t kt => g14 t (by
        show Steps p.tables e below (T13.setTop (mkF m 9 #[.val (.ref a1), .val (.int p2), .unset] [(.int (-1 : Int32)), (.int w2)])) _
        refine XS.icmpNo X13.here hx rfl (hb hby d4_9) rfl (feq hm).1 ?_
        show Steps p.tables e below (T13.setTop (mkF m 12 #[.val (.ref a1), .val (.int p2), .unset] [])) _
        refine XS.iconst X13.here hx rfl (hb hby d4_12) ?_
        show Steps p.tables e below (T13.setTop (mkF m 13 #[.val (.ref a1), .val (.int p2), .unset] [(.int (1 : Int32))])) _
        refine XS.goto X13.here hx rfl (pc0 := 13) (pc' := 36) rfl (hb hby d4_13) (by decide) (by decide) ?_
        show Steps p.tables e below (T13.setTop (mkF m 36 #[.val (.ref a1), .val (.int p2), .unset] [(.int (1 : Int32))])) _
        refine XS.istoreN X13.here hx rfl (hb hby d4_36) rfl (l' := #[.val (.ref a1), .val (.int p2), .val (.int (1 : Int32))]) rfl ?_
        show Steps p.tables e below (T13.setTop (mkF m 37 #[.val (.ref a1), .val (.int p2), .val (.int (1 : Int32))] [])) _
        refine XS.iloadN X13.here hx rfl (hb hby d4_37) rfl ?_
        show Steps p.tables e below (T13.setTop (mkF m 38 #[.val (.ref a1), .val (.int p2), .val (.int (1 : Int32))] [(.int (1 : Int32))])) _
        refine XS.ifNo X13.here hx rfl (hb hby d4_38) rfl ((if0 _ _).trans (feq (by decide)).1) ?_
        show Steps p.tables e below (T13.setTop (mkF m 41 #[.val (.ref a1), .val (.int p2), .val (.int (1 : Int32))] [])) _
        refine XS.aloadN X13.here hx rfl (hb hby d4_41) rfl rfl ?_
        exact kt)
      obtain ⟨T19, X19, e19, st19⟩ := getF X13 hx hZ hown (host := "") (Or.inl (hw _ (List.mem_of_getElem? (i := 15) rfl))) Via.refl e13 F0 (g := (mkF m 42 #[.val (.ref a1), .val (.int p2), .val (.int (1 : Int32))] [(.ref a1)])) rfl rfl (hb hby d4_42)
      have g19 : own_Go p e below s₁ (entryFrame m #[(.ref a1), (.int p2)] 3) T19 (mkF m 45 #[.val (.ref a1), .val (.int p2), .val (.int (1 : Int32))] [(.int w1)]) := fun t kt => g18 t (st19 _ kt)
      have g20 : own_Go p e below s₁ (entryFrame m #[(.ref a1), (.int p2)] 3) T19 (mkF m 57 #[.val (.ref a1), .val (.int p2), .val (.int (1 : Int32))] [(.long (w1.toInt64))]) := fun t kt => g19 t (by
        show Steps p.tables e below (T19.setTop (mkF m 45 #[.val (.ref a1), .val (.int p2), .val (.int (1 : Int32))] [(.int w1)])) _
        refine XS.i2l X19.here hx rfl (hb hby d4_45) rfl ?_
        show Steps p.tables e below (T19.setTop (mkF m 46 #[.val (.ref a1), .val (.int p2), .val (.int (1 : Int32))] [(.long (w1.toInt64))])) _
        refine XS.goto X19.here hx rfl (pc0 := 46) (pc' := 57) rfl (hb hby d4_46) (by decide) (by decide) ?_
        exact kt)
      have hv : own_num w1 w2 p2 = w1.toInt64 := by simp [own_num, hb0, hm]
      rw [← hv] at g20
      obtain ⟨fs, hr, hrun, hended, hW, hsame⟩ := X19.leave (v := some (.long (own_num w1 w2 p2))) (fun h => by rw [Bd.returns] at h; cases h)
      refine ⟨_, _, g20 _ (X19.lreturnOut hx Bd.returns (hb hby d4_57) hr), hrun, hended, _, _, rfl, ?_, ⟨_, rfl⟩, hW, hsame.mono (by decide) (by decide)⟩
      show Q_rm4 Z p2 w1 w2 h0 n0 _ T19.heap _
      rw [e19]
      exact ⟨rfl, N0, rfl⟩
theorem pn_0 : plainName "com/example/corundum/corundum/runtime/ArityAsNumberPinLaw" = true := by first | (simp [plainName, overriddenIn]; done) | decide +kernel
theorem own_eight (md p1 p2 : Int32) : (md = 0 ∧ p1 = -1) ∨ (md = 0 ∧ ¬ p1 = -1) ∨ (¬ md = 0 ∧ md = 1 ∧ p1 = -1) ∨ (¬ md = 0 ∧ md = 1 ∧ ¬ p1 = -1) ∨ (¬ md = 0 ∧ ¬ md = 1 ∧ p2 = p1 ∧ p2 = -1) ∨ (¬ md = 0 ∧ ¬ md = 1 ∧ p2 = p1 ∧ ¬ p2 = -1) ∨ (¬ md = 0 ∧ ¬ md = 1 ∧ ¬ p2 = p1 ∧ p2 = -1) ∨ (¬ md = 0 ∧ ¬ md = 1 ∧ ¬ p2 = p1 ∧ ¬ p2 = -1) := by
  by_cases h1 : md = 0
  · by_cases h2 : p1 = -1 <;> simp [h1, h2]
  · by_cases h2 : md = 1
    · by_cases h3 : p1 = -1 <;> simp [h1, h2, h3]
    · by_cases h3 : p2 = p1
      · by_cases h4 : p2 = -1
        · exact Or.inr (Or.inr (Or.inr (Or.inr (Or.inl ⟨h1, h2, h3, h4⟩))))
        · exact Or.inr (Or.inr (Or.inr (Or.inr (Or.inr (Or.inl ⟨h1, h2, h3, h4⟩)))))
      · by_cases h4 : p2 = -1
        · exact Or.inr (Or.inr (Or.inr (Or.inr (Or.inr (Or.inr (Or.inl ⟨h1, h2, h3, h4⟩))))))
        · exact Or.inr (Or.inr (Or.inr (Or.inr (Or.inr (Or.inr (Or.inr ⟨h1, h2, h3, h4⟩))))))
theorem pd_1 : parseMethodDescriptor "(II)V" = some ⟨[.int, .int], none⟩ := by decide +kernel
theorem pd_2 : parseMethodDescriptor "(Z)J" = some ⟨[.boolean], some .long⟩ := by decide +kernel
theorem ef_rm0 (m : MethodId) (x0 : Int32) (x1 : Int32) (x2 : Int32) : entryFrame m #[(.int x0), (.int x1), (.int x2)] maxLocals = mkF m 0 #[.val (.int x0), .val (.int x1), .val (.int x2), .unset, .unset, .unset, .unset, .unset, .unset, .unset, .unset, .unset, .unset, .unset, .unset, .unset, .unset, .unset] [] := by first | (simp [entryFrame, mkF, argsToLocals, Value.category, maxLocals]; done) | rfl
def Q_rm0 (Z : State) (p1 p2 p3 : Int32) (h0 : Heap) (n0 : Nat) (v : Option Value) (h : Heap) (L : List Loc) : Prop := v = some (.int (1 : Int32)) ∧ Fr n0 L
set_option maxRecDepth 65536 in
set_option maxHeartbeats 40000000 in
theorem rm0 (l : Launch) (Z : State) (a0 : Array Value) (hw : ∀ d ∈ tables_1, d.before a0 Z = true) (ws : List Jvm.Cond) (p1 : Int32) (p2 : Int32) (p3 : Int32)  (h0 : Heap) (n0 : Nat) (Z0 : n0 ≤ h0.size)  :
    MetFree l x (head1 (Jvm.Cond.code x code maxLocals ret :: ws) room_1) (fun a U => a = #[(.int p1), (.int p2), (.int p3)] ∧ Z.Warmed39 U.vm ∧ U.heap = h0) (fun _ _ _ _ _ => True) (fun _ U o U' => ∃ v L, o = .returned v ∧ Q_rm0 Z p1 p2 p3 h0 n0 v U'.heap L ∧ FrameEnd U o U' L (room_1).cells (room_1).slots) := by
  refine MetFree.of_bodySF (plainFor_of_name pn_0) hisR ?_
  intro p e s m args below meth c s₁ Bd hml0 hP hK
  obtain ⟨rfl, hZ, hh⟩ := hP
  have hx := Bd.exec
  have hby := Bd.bytes
  have hml : c.maxLocals = 18 := hml0
  have hown : s.vm.findClass "com/example/corundum/corundum/runtime/ArityAsNumberPinLaw" = some m.cls := findClass_of_methodNamed Bd.named
  have hnm := (name_of_methodNamed Bd.named Bd.method).1
  have X0 : Stand p l e room_1 s m #[(.int p1), (.int p2), (.int p3)] below meth c s₁ [] 0 0 := Stand.of_body Bd
  have e0 : s₁.heap = h0 := by rw [← hh, Bd.state]; rfl
  have N0 := Fr.nil n0
  have g0 : own_Go p e below s₁ (entryFrame m #[(.int p1), (.int p2), (.int p3)] maxLocals) s₁ (mkF m 0 #[.val (.int p1), .val (.int p2), .val (.int p3), .unset, .unset, .unset, .unset, .unset, .unset, .unset, .unset, .unset, .unset, .unset, .unset, .unset, .unset, .unset] []) := fun t k => castTop (ef_rm0 m p1 p2 p3) k
  have K0 : Keep h0 h0 [] := Keep.refl h0 _
  have g1 : own_Go p e below s₁ (entryFrame m #[(.int p1), (.int p2), (.int p3)] maxLocals) s₁ (mkF m 7 #[.val (.int p1), .val (.int p2), .val (.int p3), .val (.int ((p3 &&& (2147483647 : Int32)) % (3 : Int32))), .unset, .unset, .unset, .unset, .unset, .unset, .unset, .unset, .unset, .unset, .unset, .unset, .unset, .unset] []) := fun t kt => g0 t (by
    show Steps p.tables e below (s₁.setTop (mkF m 0 #[.val (.int p1), .val (.int p2), .val (.int p3), .unset, .unset, .unset, .unset, .unset, .unset, .unset, .unset, .unset, .unset, .unset, .unset, .unset, .unset, .unset] [])) _
    refine XS.iloadN X0.here hx rfl (hb hby at_0) rfl ?_
    show Steps p.tables e below (s₁.setTop (mkF m 1 #[.val (.int p1), .val (.int p2), .val (.int p3), .unset, .unset, .unset, .unset, .unset, .unset, .unset, .unset, .unset, .unset, .unset, .unset, .unset, .unset, .unset] [(.int p3)])) _
    refine X0.ldcInt hx hown (mvT hZ (hw _ (List.mem_of_getElem? (i := 0) rfl))) (g := (mkF m 1 #[.val (.int p1), .val (.int p2), .val (.int p3), .unset, .unset, .unset, .unset, .unset, .unset, .unset, .unset, .unset, .unset, .unset, .unset, .unset, .unset, .unset] [(.int p3)])) rfl (hb hby at_1) _ ?_
    show Steps p.tables e below (s₁.setTop (mkF m 3 #[.val (.int p1), .val (.int p2), .val (.int p3), .unset, .unset, .unset, .unset, .unset, .unset, .unset, .unset, .unset, .unset, .unset, .unset, .unset, .unset, .unset] [(.int (2147483647 : Int32)), (.int p3)])) _
    refine XS.iand X0.here hx rfl (hb hby at_3) rfl ?_
    show Steps p.tables e below (s₁.setTop (mkF m 4 #[.val (.int p1), .val (.int p2), .val (.int p3), .unset, .unset, .unset, .unset, .unset, .unset, .unset, .unset, .unset, .unset, .unset, .unset, .unset, .unset, .unset] [(.int (p3 &&& (2147483647 : Int32)))])) _
    refine XS.iconst X0.here hx rfl (hb hby at_4) ?_
    show Steps p.tables e below (s₁.setTop (mkF m 5 #[.val (.int p1), .val (.int p2), .val (.int p3), .unset, .unset, .unset, .unset, .unset, .unset, .unset, .unset, .unset, .unset, .unset, .unset, .unset, .unset, .unset] [(.int (3 : Int32)), (.int (p3 &&& (2147483647 : Int32)))])) _
    refine iremM X0 hx rfl (hb hby at_5) rfl (by decide) ?_
    show Steps p.tables e below (s₁.setTop (mkF m 6 #[.val (.int p1), .val (.int p2), .val (.int p3), .unset, .unset, .unset, .unset, .unset, .unset, .unset, .unset, .unset, .unset, .unset, .unset, .unset, .unset, .unset] [(.int ((p3 &&& (2147483647 : Int32)) % (3 : Int32)))])) _
    refine XS.istoreN X0.here hx rfl (hb hby at_6) rfl (l' := #[.val (.int p1), .val (.int p2), .val (.int p3), .val (.int ((p3 &&& (2147483647 : Int32)) % (3 : Int32))), .unset, .unset, .unset, .unset, .unset, .unset, .unset, .unset, .unset, .unset, .unset, .unset, .unset, .unset]) rfl ?_
    exact kt)
  obtain ⟨md, q_md⟩ : ∃ z, z = ((p3 &&& (2147483647 : Int32)) % (3 : Int32)) := ⟨_, rfl⟩
  rw [← q_md] at g1
  have g2 : own_Go p e below s₁ (entryFrame m #[(.int p1), (.int p2), (.int p3)] maxLocals) s₁ (mkF m 8 #[.val (.int p1), .val (.int p2), .val (.int p3), .val (.int md), .unset, .unset, .unset, .unset, .unset, .unset, .unset, .unset, .unset, .unset, .unset, .unset, .unset, .unset] [(.int md)]) := fun t kt => g1 t (by
    show Steps p.tables e below (s₁.setTop (mkF m 7 #[.val (.int p1), .val (.int p2), .val (.int p3), .val (.int md), .unset, .unset, .unset, .unset, .unset, .unset, .unset, .unset, .unset, .unset, .unset, .unset, .unset, .unset] [])) _
    refine XS.iloadN X0.here hx rfl (hb hby at_7) rfl ?_
    exact kt)
  obtain ⟨mx, q_mx⟩ : ∃ z, z = own_max md p1 p2 := ⟨_, rfl⟩
  have g3 : own_Go p e below s₁ (entryFrame m #[(.int p1), (.int p2), (.int p3)] maxLocals) s₁ (mkF m 25 #[.val (.int p1), .val (.int p2), .val (.int p3), .val (.int md), .unset, .unset, .unset, .unset, .unset, .unset, .unset, .unset, .unset, .unset, .unset, .unset, .unset, .unset] [(.int mx)]) := by
    rcases (show md = 0 ∨ (¬ md = 0 ∧ md = 1) ∨ (¬ md = 0 ∧ ¬ md = 1) from by by_cases h0 : md = 0 <;> by_cases h1 : md = 1 <;> simp [h0, h1]) with hA | ⟨hA, hB⟩ | ⟨hA, hB⟩
    · rw [show mx = p1 from by rw [q_mx]; simp [own_max, hA]]
      have g4 : own_Go p e below s₁ (entryFrame m #[(.int p1), (.int p2), (.int p3)] maxLocals) s₁ (mkF m 25 #[.val (.int p1), .val (.int p2), .val (.int p3), .val (.int md), .unset, .unset, .unset, .unset, .unset, .unset, .unset, .unset, .unset, .unset, .unset, .unset, .unset, .unset] [(.int p1)]) := fun t kt => g2 t (by
        show Steps p.tables e below (s₁.setTop (mkF m 8 #[.val (.int p1), .val (.int p2), .val (.int p3), .val (.int md), .unset, .unset, .unset, .unset, .unset, .unset, .unset, .unset, .unset, .unset, .unset, .unset, .unset, .unset] [(.int md)])) _
        refine XS.ifNo X0.here hx rfl (hb hby at_8) rfl ((if0 _ _).trans (teq hA).2) ?_
        show Steps p.tables e below (s₁.setTop (mkF m 11 #[.val (.int p1), .val (.int p2), .val (.int p3), .val (.int md), .unset, .unset, .unset, .unset, .unset, .unset, .unset, .unset, .unset, .unset, .unset, .unset, .unset, .unset] [])) _
        refine XS.iloadN X0.here hx rfl (hb hby at_11) rfl ?_
        show Steps p.tables e below (s₁.setTop (mkF m 12 #[.val (.int p1), .val (.int p2), .val (.int p3), .val (.int md), .unset, .unset, .unset, .unset, .unset, .unset, .unset, .unset, .unset, .unset, .unset, .unset, .unset, .unset] [(.int p1)])) _
        refine XS.goto X0.here hx rfl (pc0 := 12) (pc' := 25) rfl (hb hby at_12) (by decide) (by decide) ?_
        exact kt)
      exact g4
    · rw [show mx = (-1 : Int32) from by rw [q_mx]; simp [own_max, hA, hB]]
      have g5 : own_Go p e below s₁ (entryFrame m #[(.int p1), (.int p2), (.int p3)] maxLocals) s₁ (mkF m 25 #[.val (.int p1), .val (.int p2), .val (.int p3), .val (.int md), .unset, .unset, .unset, .unset, .unset, .unset, .unset, .unset, .unset, .unset, .unset, .unset, .unset, .unset] [(.int (-1 : Int32))]) := fun t kt => g2 t (by
        show Steps p.tables e below (s₁.setTop (mkF m 8 #[.val (.int p1), .val (.int p2), .val (.int p3), .val (.int md), .unset, .unset, .unset, .unset, .unset, .unset, .unset, .unset, .unset, .unset, .unset, .unset, .unset, .unset] [(.int md)])) _
        refine XS.ifYes X0.here hx rfl (pc0 := 8) (pc' := 15) rfl (hb hby at_8) rfl ((if0 _ _).trans (feq hA).2) (by decide) (by decide) ?_
        show Steps p.tables e below (s₁.setTop (mkF m 15 #[.val (.int p1), .val (.int p2), .val (.int p3), .val (.int md), .unset, .unset, .unset, .unset, .unset, .unset, .unset, .unset, .unset, .unset, .unset, .unset, .unset, .unset] [])) _
        refine XS.iloadN X0.here hx rfl (hb hby at_15) rfl ?_
        show Steps p.tables e below (s₁.setTop (mkF m 16 #[.val (.int p1), .val (.int p2), .val (.int p3), .val (.int md), .unset, .unset, .unset, .unset, .unset, .unset, .unset, .unset, .unset, .unset, .unset, .unset, .unset, .unset] [(.int md)])) _
        refine XS.iconst X0.here hx rfl (hb hby at_16) ?_
        show Steps p.tables e below (s₁.setTop (mkF m 17 #[.val (.int p1), .val (.int p2), .val (.int p3), .val (.int md), .unset, .unset, .unset, .unset, .unset, .unset, .unset, .unset, .unset, .unset, .unset, .unset, .unset, .unset] [(.int (1 : Int32)), (.int md)])) _
        refine XS.icmpNo X0.here hx rfl (hb hby at_17) rfl (teq hB).2 ?_
        show Steps p.tables e below (s₁.setTop (mkF m 20 #[.val (.int p1), .val (.int p2), .val (.int p3), .val (.int md), .unset, .unset, .unset, .unset, .unset, .unset, .unset, .unset, .unset, .unset, .unset, .unset, .unset, .unset] [])) _
        refine XS.iconst X0.here hx rfl (hb hby at_20) ?_
        show Steps p.tables e below (s₁.setTop (mkF m 21 #[.val (.int p1), .val (.int p2), .val (.int p3), .val (.int md), .unset, .unset, .unset, .unset, .unset, .unset, .unset, .unset, .unset, .unset, .unset, .unset, .unset, .unset] [(.int (-1 : Int32))])) _
        refine XS.goto X0.here hx rfl (pc0 := 21) (pc' := 25) rfl (hb hby at_21) (by decide) (by decide) ?_
        exact kt)
      exact g5
    · rw [show mx = p2 from by rw [q_mx]; simp [own_max, hA, hB]]
      have g6 : own_Go p e below s₁ (entryFrame m #[(.int p1), (.int p2), (.int p3)] maxLocals) s₁ (mkF m 25 #[.val (.int p1), .val (.int p2), .val (.int p3), .val (.int md), .unset, .unset, .unset, .unset, .unset, .unset, .unset, .unset, .unset, .unset, .unset, .unset, .unset, .unset] [(.int p2)]) := fun t kt => g2 t (by
        show Steps p.tables e below (s₁.setTop (mkF m 8 #[.val (.int p1), .val (.int p2), .val (.int p3), .val (.int md), .unset, .unset, .unset, .unset, .unset, .unset, .unset, .unset, .unset, .unset, .unset, .unset, .unset, .unset] [(.int md)])) _
        refine XS.ifYes X0.here hx rfl (pc0 := 8) (pc' := 15) rfl (hb hby at_8) rfl ((if0 _ _).trans (feq hA).2) (by decide) (by decide) ?_
        show Steps p.tables e below (s₁.setTop (mkF m 15 #[.val (.int p1), .val (.int p2), .val (.int p3), .val (.int md), .unset, .unset, .unset, .unset, .unset, .unset, .unset, .unset, .unset, .unset, .unset, .unset, .unset, .unset] [])) _
        refine XS.iloadN X0.here hx rfl (hb hby at_15) rfl ?_
        show Steps p.tables e below (s₁.setTop (mkF m 16 #[.val (.int p1), .val (.int p2), .val (.int p3), .val (.int md), .unset, .unset, .unset, .unset, .unset, .unset, .unset, .unset, .unset, .unset, .unset, .unset, .unset, .unset] [(.int md)])) _
        refine XS.iconst X0.here hx rfl (hb hby at_16) ?_
        show Steps p.tables e below (s₁.setTop (mkF m 17 #[.val (.int p1), .val (.int p2), .val (.int p3), .val (.int md), .unset, .unset, .unset, .unset, .unset, .unset, .unset, .unset, .unset, .unset, .unset, .unset, .unset, .unset] [(.int (1 : Int32)), (.int md)])) _
        refine XS.icmpYes X0.here hx rfl (pc0 := 17) (pc' := 24) rfl (hb hby at_17) rfl (feq hB).2 (by decide) (by decide) ?_
        show Steps p.tables e below (s₁.setTop (mkF m 24 #[.val (.int p1), .val (.int p2), .val (.int p3), .val (.int md), .unset, .unset, .unset, .unset, .unset, .unset, .unset, .unset, .unset, .unset, .unset, .unset, .unset, .unset] [])) _
        refine XS.iloadN X0.here hx rfl (hb hby at_24) rfl ?_
        exact kt)
      exact g6
  have g7 : own_Go p e below s₁ (entryFrame m #[(.int p1), (.int p2), (.int p3)] maxLocals) s₁ (mkF m 27 #[.val (.int p1), .val (.int p2), .val (.int p3), .val (.int md), .val (.int mx), .unset, .unset, .unset, .unset, .unset, .unset, .unset, .unset, .unset, .unset, .unset, .unset, .unset] []) := fun t kt => g3 t (by
    show Steps p.tables e below (s₁.setTop (mkF m 25 #[.val (.int p1), .val (.int p2), .val (.int p3), .val (.int md), .unset, .unset, .unset, .unset, .unset, .unset, .unset, .unset, .unset, .unset, .unset, .unset, .unset, .unset] [(.int mx)])) _
    refine XS.istore X0.here hx rfl (hb hby at_25) rfl (l' := #[.val (.int p1), .val (.int p2), .val (.int p3), .val (.int md), .val (.int mx), .unset, .unset, .unset, .unset, .unset, .unset, .unset, .unset, .unset, .unset, .unset, .unset, .unset]) rfl ?_
    exact kt)
  obtain ⟨T8, h8, X8, e8, E8, A8, D8, -, st8⟩ := newO X0 hx hZ hown (hw _ (List.mem_of_getElem? (i := 1) rfl)) (hw _ (List.mem_of_getElem? (i := 2) rfl)) (hw _ (List.mem_of_getElem? (i := 3) rfl)) e0 (g := (mkF m 27 #[.val (.int p1), .val (.int p2), .val (.int p3), .val (.int md), .val (.int mx), .unset, .unset, .unset, .unset, .unset, .unset, .unset, .unset, .unset, .unset, .unset, .unset, .unset] [])) rfl (hb hby at_27) (by decide) (by decide)
  obtain ⟨a, q_a⟩ : ∃ z, z = h0.size := ⟨_, rfl⟩
  rw [← q_a] at A8 D8 st8
  have sz_a : h0.size ≤ a := Nat.le_trans K0.1 (Nat.le_of_eq q_a.symm)
  have g_a : n0 ≤ a := Nat.le_trans Z0 sz_a
  have F_minimum_a : Fld Z h8 a "com/example/corundum/corundum/runtime/Arity" "minimum" "I" (.int (0 : Int32)) := D8 (Or.inr (hw _ (List.mem_of_getElem? (i := 16) rfl))) (ty := .int) (by decide)
  have F_maximum_a : Fld Z h8 a "com/example/corundum/corundum/runtime/Arity" "maximum" "I" (.int (0 : Int32)) := D8 (Or.inr (hw _ (List.mem_of_getElem? (i := 18) rfl))) (ty := .int) (by decide)
  have K8 : Keep h0 h8 [] := K0.ext E8
  have g8 : own_Go p e below s₁ (entryFrame m #[(.int p1), (.int p2), (.int p3)] maxLocals) T8 (mkF m 30 #[.val (.int p1), .val (.int p2), .val (.int p3), .val (.int md), .val (.int mx), .unset, .unset, .unset, .unset, .unset, .unset, .unset, .unset, .unset, .unset, .unset, .unset, .unset] [(.ref a)]) := fun t kt => g7 t (st8 _ kt)
  have g9 : own_Go p e below s₁ (entryFrame m #[(.int p1), (.int p2), (.int p3)] maxLocals) T8 (mkF m 34 #[.val (.int p1), .val (.int p2), .val (.int p3), .val (.int md), .val (.int mx), .unset, .unset, .unset, .unset, .unset, .unset, .unset, .unset, .unset, .unset, .unset, .unset, .unset] [(.int mx), (.int p1), (.ref a), (.ref a)]) := fun t kt => g8 t (by
    show Steps p.tables e below (T8.setTop (mkF m 30 #[.val (.int p1), .val (.int p2), .val (.int p3), .val (.int md), .val (.int mx), .unset, .unset, .unset, .unset, .unset, .unset, .unset, .unset, .unset, .unset, .unset, .unset, .unset] [(.ref a)])) _
    refine XS.dup X8.here hx rfl (hb hby at_30) rfl rfl ?_
    show Steps p.tables e below (T8.setTop (mkF m 31 #[.val (.int p1), .val (.int p2), .val (.int p3), .val (.int md), .val (.int mx), .unset, .unset, .unset, .unset, .unset, .unset, .unset, .unset, .unset, .unset, .unset, .unset, .unset] [(.ref a), (.ref a)])) _
    refine XS.iloadN X8.here hx rfl (hb hby at_31) rfl ?_
    show Steps p.tables e below (T8.setTop (mkF m 32 #[.val (.int p1), .val (.int p2), .val (.int p3), .val (.int md), .val (.int mx), .unset, .unset, .unset, .unset, .unset, .unset, .unset, .unset, .unset, .unset, .unset, .unset, .unset] [(.int p1), (.ref a), (.ref a)])) _
    refine XS.iload X8.here hx rfl (hb hby at_32) rfl ?_
    exact kt)
  obtain ⟨_, _, ⟨T10, L10, k10, n10⟩, -, X10, ⟨Lc10, hQ10, l10, y10, z10⟩, st10⟩ := X8.specialBack hx (y := (⟨"com/example/corundum/corundum/runtime/Arity", "<init>", "(II)V"⟩ : MethodName)) rfl hown (mvT hZ (hw _ (List.mem_of_getElem? (i := 4) rfl))) (mvT hZ (hw _ (List.mem_of_getElem? (i := 5) rfl))) (mvT hZ (hw _ (List.mem_of_getElem? (i := 6) rfl))) (by decide) (backOf (W := 1) (rm1 l Z a0 hw [] a p1 mx h8 n0 (Nat.le_trans Z0 K8.1) F_minimum_a F_maximum_a A8 g_a) hZ (hw _ (List.mem_of_getElem? (i := 6) rfl)) (hw _ (List.mem_of_getElem? (i := 3) rfl)) (by decide) (by decide)) (g := (mkF m 34 #[.val (.int p1), .val (.int p2), .val (.int p3), .val (.int md), .val (.int mx), .unset, .unset, .unset, .unset, .unset, .unset, .unset, .unset, .unset, .unset, .unset, .unset, .unset] [(.int mx), (.int p1), (.ref a), (.ref a)])) rfl (by rw [hml]; rfl) (Steps.refl _) (a := a) (argsL := [(.int p1), (.int mx)]) (rest := [(.ref a)]) (lenOf pd_1 rfl) rfl (by show 2 * 0 + _ ≤ _; exact Nat.le_of_eq rfl) (hb hby at_34) (fun _ _ => ⟨rfl, e8, (by decide : 1 + 0 ≤ _), (by decide : 2 + 0 ≤ _)⟩)
  dsimp only [Pt.U, Pt.locs, Pt.cells, Pt.slots] at X10 l10 y10 z10 st10 hQ10
  subst l10 y10 z10
  obtain ⟨rfl, N10q, Kc10, Ex10, Fa10, Fb10⟩ := hQ10
  have N10 := Fr.app N0 N10q
  have g10 : own_Go p e below s₁ (entryFrame m #[(.int p1), (.int p2), (.int p3)] maxLocals) T10 (mkF m 37 #[.val (.int p1), .val (.int p2), .val (.int p3), .val (.int md), .val (.int mx), .unset, .unset, .unset, .unset, .unset, .unset, .unset, .unset, .unset, .unset, .unset, .unset, .unset] [(.ref a)]) := fun t kt => g9 t (st10.trans kt)
  have f11 := A8.keep Kc10
  have KK10 : Keep h0 T10.heap [] := K8.trans Kc10 (allS (Or.inr sz_a) all0)
  have g14 : own_Go p e below s₁ (entryFrame m #[(.int p1), (.int p2), (.int p3)] maxLocals) T10 (mkF m 42 #[.val (.int p1), .val (.int p2), .val (.int p3), .val (.int md), .val (.int mx), .val (.ref a), .unset, .unset, .unset, .unset, .unset, .unset, .unset, .unset, .unset, .unset, .unset, .unset] [(.int (0 : Int32)), (.ref a)]) := fun t kt => g10 t (by
    show Steps p.tables e below (T10.setTop (mkF m 37 #[.val (.int p1), .val (.int p2), .val (.int p3), .val (.int md), .val (.int mx), .unset, .unset, .unset, .unset, .unset, .unset, .unset, .unset, .unset, .unset, .unset, .unset, .unset] [(.ref a)])) _
    refine XS.astore X10.here hx rfl (hb hby at_37) rfl rfl (l' := #[.val (.int p1), .val (.int p2), .val (.int p3), .val (.int md), .val (.int mx), .val (.ref a), .unset, .unset, .unset, .unset, .unset, .unset, .unset, .unset, .unset, .unset, .unset, .unset]) rfl ?_
    show Steps p.tables e below (T10.setTop (mkF m 39 #[.val (.int p1), .val (.int p2), .val (.int p3), .val (.int md), .val (.int mx), .val (.ref a), .unset, .unset, .unset, .unset, .unset, .unset, .unset, .unset, .unset, .unset, .unset, .unset] [])) _
    refine XS.aload X10.here hx rfl (hb hby at_39) rfl rfl ?_
    show Steps p.tables e below (T10.setTop (mkF m 41 #[.val (.int p1), .val (.int p2), .val (.int p3), .val (.int md), .val (.int mx), .val (.ref a), .unset, .unset, .unset, .unset, .unset, .unset, .unset, .unset, .unset, .unset, .unset, .unset] [(.ref a)])) _
    refine XS.iconst X10.here hx rfl (hb hby at_41) ?_
    exact kt)
  obtain ⟨cq15, kq15, q15a, q15b, q15c⟩ := isOf hZ rfl f11
  obtain ⟨_, _, ⟨T15, L15, k15, n15⟩, -, X15, ⟨Lc15, hQ15, l15, y15, z15⟩, st15⟩ := X10.virtualBack hx (y := (⟨"com/example/corundum/corundum/runtime/Arity", "asNumber", "(Z)J"⟩ : MethodName)) (z := (⟨"com/example/corundum/corundum/runtime/Arity", "asNumber", "(Z)J"⟩ : MethodName)) hown (mvT hZ (hw _ (List.mem_of_getElem? (i := 19) rfl))) (mvT hZ (hw _ (List.mem_of_getElem? (i := 20) rfl))) (notFace_of_selects (args := #[]) (mvT hZ (hw _ (List.mem_of_getElem? (i := 22) rfl)))) (mvT hZ (hw _ (List.mem_of_getElem? (i := 22) rfl))) (mvT hZ (hw _ (List.mem_of_getElem? (i := 21) rfl))) (by decide) (backOf (W := 0) (rm4 l Z a0 hw [] a (0 : Int32) p1 mx T10.heap n0 (Nat.le_trans Z0 KK10.1) Fa10 Fb10) hZ (hw _ (List.mem_of_getElem? (i := 23) rfl)) (hw _ (List.mem_of_getElem? (i := 3) rfl)) (by decide) (by decide)) q15a q15c (g := (mkF m 42 #[.val (.int p1), .val (.int p2), .val (.int p3), .val (.int md), .val (.int mx), .val (.ref a), .unset, .unset, .unset, .unset, .unset, .unset, .unset, .unset, .unset, .unset, .unset, .unset] [(.int (0 : Int32)), (.ref a)])) rfl (by rw [hml]; rfl) (Steps.refl _) (argsL := [(.int (0 : Int32))]) (rest := []) (lenOf pd_2 rfl) rfl (by show 2 * 0 + _ ≤ _; exact Nat.le_of_eq rfl) (hb hby at_42) (fun _ _ => ⟨rfl, rfl, (by decide : 1 + 0 ≤ _), (by decide : 2 + 0 ≤ _)⟩)
  dsimp only [Pt.U, Pt.locs, Pt.cells, Pt.slots] at X15 l15 y15 z15 st15 hQ15
  subst l15 y15 z15
  obtain ⟨rfl, N15q, Eq15⟩ := hQ15
  have N15 := Fr.app N10 N15q
  have g15 : own_Go p e below s₁ (entryFrame m #[(.int p1), (.int p2), (.int p3)] maxLocals) T15 (mkF m 45 #[.val (.int p1), .val (.int p2), .val (.int p3), .val (.int md), .val (.int mx), .val (.ref a), .unset, .unset, .unset, .unset, .unset, .unset, .unset, .unset, .unset, .unset, .unset, .unset] [(.long (own_num p1 mx (0 : Int32)))]) := fun t kt => g14 t (st15.trans kt)
  have E15' : T15.heap = T10.heap := Eq15
  have g16 : own_Go p e below s₁ (entryFrame m #[(.int p1), (.int p2), (.int p3)] maxLocals) T15 (mkF m 50 #[.val (.int p1), .val (.int p2), .val (.int p3), .val (.int md), .val (.int mx), .val (.ref a), .val (.long (own_num p1 mx (0 : Int32))), .second, .unset, .unset, .unset, .unset, .unset, .unset, .unset, .unset, .unset, .unset] [(.int (1 : Int32)), (.ref a)]) := fun t kt => g15 t (by
    show Steps p.tables e below (T15.setTop (mkF m 45 #[.val (.int p1), .val (.int p2), .val (.int p3), .val (.int md), .val (.int mx), .val (.ref a), .unset, .unset, .unset, .unset, .unset, .unset, .unset, .unset, .unset, .unset, .unset, .unset] [(.long (own_num p1 mx (0 : Int32)))])) _
    refine XS.lstore X15.here hx rfl (hb hby at_45) rfl (l' := #[.val (.int p1), .val (.int p2), .val (.int p3), .val (.int md), .val (.int mx), .val (.ref a), .val (.long (own_num p1 mx (0 : Int32))), .second, .unset, .unset, .unset, .unset, .unset, .unset, .unset, .unset, .unset, .unset]) rfl ?_
    show Steps p.tables e below (T15.setTop (mkF m 47 #[.val (.int p1), .val (.int p2), .val (.int p3), .val (.int md), .val (.int mx), .val (.ref a), .val (.long (own_num p1 mx (0 : Int32))), .second, .unset, .unset, .unset, .unset, .unset, .unset, .unset, .unset, .unset, .unset] [])) _
    refine XS.aload X15.here hx rfl (hb hby at_47) rfl rfl ?_
    show Steps p.tables e below (T15.setTop (mkF m 49 #[.val (.int p1), .val (.int p2), .val (.int p3), .val (.int md), .val (.int mx), .val (.ref a), .val (.long (own_num p1 mx (0 : Int32))), .second, .unset, .unset, .unset, .unset, .unset, .unset, .unset, .unset, .unset, .unset] [(.ref a)])) _
    refine XS.iconst X15.here hx rfl (hb hby at_49) ?_
    exact kt)
  obtain ⟨cq17, kq17, q17a, q17b, q17c⟩ := isOf hZ E15' f11
  obtain ⟨_, _, ⟨T17, L17, k17, n17⟩, -, X17, ⟨Lc17, hQ17, l17, y17, z17⟩, st17⟩ := X15.virtualBack hx (y := (⟨"com/example/corundum/corundum/runtime/Arity", "asNumber", "(Z)J"⟩ : MethodName)) (z := (⟨"com/example/corundum/corundum/runtime/Arity", "asNumber", "(Z)J"⟩ : MethodName)) hown (mvT hZ (hw _ (List.mem_of_getElem? (i := 19) rfl))) (mvT hZ (hw _ (List.mem_of_getElem? (i := 20) rfl))) (notFace_of_selects (args := #[]) (mvT hZ (hw _ (List.mem_of_getElem? (i := 22) rfl)))) (mvT hZ (hw _ (List.mem_of_getElem? (i := 22) rfl))) (mvT hZ (hw _ (List.mem_of_getElem? (i := 21) rfl))) (by decide) (backOf (W := 0) (rm4 l Z a0 hw [] a (1 : Int32) p1 mx T10.heap n0 (Nat.le_trans Z0 KK10.1) Fa10 Fb10) hZ (hw _ (List.mem_of_getElem? (i := 23) rfl)) (hw _ (List.mem_of_getElem? (i := 3) rfl)) (by decide) (by decide)) q17a q17c (g := (mkF m 50 #[.val (.int p1), .val (.int p2), .val (.int p3), .val (.int md), .val (.int mx), .val (.ref a), .val (.long (own_num p1 mx (0 : Int32))), .second, .unset, .unset, .unset, .unset, .unset, .unset, .unset, .unset, .unset, .unset] [(.int (1 : Int32)), (.ref a)])) rfl (by rw [hml]; rfl) (Steps.refl _) (argsL := [(.int (1 : Int32))]) (rest := []) (lenOf pd_2 rfl) rfl (by show 2 * 0 + _ ≤ _; exact Nat.le_of_eq rfl) (hb hby at_50) (fun _ _ => ⟨rfl, E15', (by decide : 1 + 0 ≤ _), (by decide : 2 + 0 ≤ _)⟩)
  dsimp only [Pt.U, Pt.locs, Pt.cells, Pt.slots] at X17 l17 y17 z17 st17 hQ17
  subst l17 y17 z17
  obtain ⟨rfl, N17q, Eq17⟩ := hQ17
  have N17 := Fr.app N15 N17q
  have g17 : own_Go p e below s₁ (entryFrame m #[(.int p1), (.int p2), (.int p3)] maxLocals) T17 (mkF m 53 #[.val (.int p1), .val (.int p2), .val (.int p3), .val (.int md), .val (.int mx), .val (.ref a), .val (.long (own_num p1 mx (0 : Int32))), .second, .unset, .unset, .unset, .unset, .unset, .unset, .unset, .unset, .unset, .unset] [(.long (own_num p1 mx (1 : Int32)))]) := fun t kt => g16 t (st17.trans kt)
  have E17' : T17.heap = T10.heap := Eq17
  have g18 : own_Go p e below s₁ (entryFrame m #[(.int p1), (.int p2), (.int p3)] maxLocals) T17 (mkF m 66 #[.val (.int p1), .val (.int p2), .val (.int p3), .val (.int md), .val (.int mx), .val (.ref a), .val (.long (own_num p1 mx (0 : Int32))), .second, .val (.long (own_num p1 mx (1 : Int32))), .second, .val (.long (p1.toInt64)), .second, .val (.long ((-(p1.toInt64)) - (1 : Int64))), .second, .unset, .unset, .unset, .unset] []) := fun t kt => g17 t (by
    show Steps p.tables e below (T17.setTop (mkF m 53 #[.val (.int p1), .val (.int p2), .val (.int p3), .val (.int md), .val (.int mx), .val (.ref a), .val (.long (own_num p1 mx (0 : Int32))), .second, .unset, .unset, .unset, .unset, .unset, .unset, .unset, .unset, .unset, .unset] [(.long (own_num p1 mx (1 : Int32)))])) _
    refine XS.lstore X17.here hx rfl (hb hby at_53) rfl (l' := #[.val (.int p1), .val (.int p2), .val (.int p3), .val (.int md), .val (.int mx), .val (.ref a), .val (.long (own_num p1 mx (0 : Int32))), .second, .val (.long (own_num p1 mx (1 : Int32))), .second, .unset, .unset, .unset, .unset, .unset, .unset, .unset, .unset]) rfl ?_
    show Steps p.tables e below (T17.setTop (mkF m 55 #[.val (.int p1), .val (.int p2), .val (.int p3), .val (.int md), .val (.int mx), .val (.ref a), .val (.long (own_num p1 mx (0 : Int32))), .second, .val (.long (own_num p1 mx (1 : Int32))), .second, .unset, .unset, .unset, .unset, .unset, .unset, .unset, .unset] [])) _
    refine XS.iloadN X17.here hx rfl (hb hby at_55) rfl ?_
    show Steps p.tables e below (T17.setTop (mkF m 56 #[.val (.int p1), .val (.int p2), .val (.int p3), .val (.int md), .val (.int mx), .val (.ref a), .val (.long (own_num p1 mx (0 : Int32))), .second, .val (.long (own_num p1 mx (1 : Int32))), .second, .unset, .unset, .unset, .unset, .unset, .unset, .unset, .unset] [(.int p1)])) _
    refine XS.i2l X17.here hx rfl (hb hby at_56) rfl ?_
    show Steps p.tables e below (T17.setTop (mkF m 57 #[.val (.int p1), .val (.int p2), .val (.int p3), .val (.int md), .val (.int mx), .val (.ref a), .val (.long (own_num p1 mx (0 : Int32))), .second, .val (.long (own_num p1 mx (1 : Int32))), .second, .unset, .unset, .unset, .unset, .unset, .unset, .unset, .unset] [(.long (p1.toInt64))])) _
    refine XS.lstore X17.here hx rfl (hb hby at_57) rfl (l' := #[.val (.int p1), .val (.int p2), .val (.int p3), .val (.int md), .val (.int mx), .val (.ref a), .val (.long (own_num p1 mx (0 : Int32))), .second, .val (.long (own_num p1 mx (1 : Int32))), .second, .val (.long (p1.toInt64)), .second, .unset, .unset, .unset, .unset, .unset, .unset]) rfl ?_
    show Steps p.tables e below (T17.setTop (mkF m 59 #[.val (.int p1), .val (.int p2), .val (.int p3), .val (.int md), .val (.int mx), .val (.ref a), .val (.long (own_num p1 mx (0 : Int32))), .second, .val (.long (own_num p1 mx (1 : Int32))), .second, .val (.long (p1.toInt64)), .second, .unset, .unset, .unset, .unset, .unset, .unset] [])) _
    refine XS.lload X17.here hx rfl (hb hby at_59) rfl ?_
    show Steps p.tables e below (T17.setTop (mkF m 61 #[.val (.int p1), .val (.int p2), .val (.int p3), .val (.int md), .val (.int mx), .val (.ref a), .val (.long (own_num p1 mx (0 : Int32))), .second, .val (.long (own_num p1 mx (1 : Int32))), .second, .val (.long (p1.toInt64)), .second, .unset, .unset, .unset, .unset, .unset, .unset] [(.long (p1.toInt64))])) _
    refine XS.lneg X17.here hx rfl (hb hby at_61) rfl ?_
    show Steps p.tables e below (T17.setTop (mkF m 62 #[.val (.int p1), .val (.int p2), .val (.int p3), .val (.int md), .val (.int mx), .val (.ref a), .val (.long (own_num p1 mx (0 : Int32))), .second, .val (.long (own_num p1 mx (1 : Int32))), .second, .val (.long (p1.toInt64)), .second, .unset, .unset, .unset, .unset, .unset, .unset] [(.long (-(p1.toInt64)))])) _
    refine XS.lconst X17.here hx rfl (hb hby at_62) ?_
    show Steps p.tables e below (T17.setTop (mkF m 63 #[.val (.int p1), .val (.int p2), .val (.int p3), .val (.int md), .val (.int mx), .val (.ref a), .val (.long (own_num p1 mx (0 : Int32))), .second, .val (.long (own_num p1 mx (1 : Int32))), .second, .val (.long (p1.toInt64)), .second, .unset, .unset, .unset, .unset, .unset, .unset] [(.long (1 : Int64)), (.long (-(p1.toInt64)))])) _
    refine XS.lsub X17.here hx rfl (hb hby at_63) rfl ?_
    show Steps p.tables e below (T17.setTop (mkF m 64 #[.val (.int p1), .val (.int p2), .val (.int p3), .val (.int md), .val (.int mx), .val (.ref a), .val (.long (own_num p1 mx (0 : Int32))), .second, .val (.long (own_num p1 mx (1 : Int32))), .second, .val (.long (p1.toInt64)), .second, .unset, .unset, .unset, .unset, .unset, .unset] [(.long ((-(p1.toInt64)) - (1 : Int64)))])) _
    refine XS.lstore X17.here hx rfl (hb hby at_64) rfl (l' := #[.val (.int p1), .val (.int p2), .val (.int p3), .val (.int md), .val (.int mx), .val (.ref a), .val (.long (own_num p1 mx (0 : Int32))), .second, .val (.long (own_num p1 mx (1 : Int32))), .second, .val (.long (p1.toInt64)), .second, .val (.long ((-(p1.toInt64)) - (1 : Int64))), .second, .unset, .unset, .unset, .unset]) rfl ?_
    exact kt)
  obtain ⟨es, q_es⟩ : ∃ z, z = own_num p1 mx (0 : Int32) := ⟨_, rfl⟩
  obtain ⟨el, q_el⟩ : ∃ z, z = own_num p1 mx (1 : Int32) := ⟨_, rfl⟩
  have g19 : own_Go p e below s₁ (entryFrame m #[(.int p1), (.int p2), (.int p3)] maxLocals) T17 (mkF m 145 #[.val (.int p1), .val (.int p2), .val (.int p3), .val (.int md), .val (.int mx), .val (.ref a), .val (.long (own_num p1 mx (0 : Int32))), .second, .val (.long (own_num p1 mx (1 : Int32))), .second, .val (.long (p1.toInt64)), .second, .val (.long ((-(p1.toInt64)) - (1 : Int64))), .second, .val (.long es), .second, .val (.long el), .second] []) := by
    rcases (show (md = 0 ∧ p1 = -1) ∨ (md = 0 ∧ ¬ p1 = -1) ∨ (¬ md = 0 ∧ md = 1 ∧ p1 = -1) ∨ (¬ md = 0 ∧ md = 1 ∧ ¬ p1 = -1) ∨ (¬ md = 0 ∧ ¬ md = 1 ∧ p2 = p1 ∧ p2 = -1) ∨ (¬ md = 0 ∧ ¬ md = 1 ∧ p2 = p1 ∧ ¬ p2 = -1) ∨ (¬ md = 0 ∧ ¬ md = 1 ∧ ¬ p2 = p1 ∧ p2 = -1) ∨ (¬ md = 0 ∧ ¬ md = 1 ∧ ¬ p2 = p1 ∧ ¬ p2 = -1) from own_eight md p1 p2) with ⟨hA, hC⟩ | ⟨hA, hC⟩ | ⟨hA, hB, hC⟩ | ⟨hA, hB, hC⟩ | ⟨hA, hB, hC, hD⟩ | ⟨hA, hB, hC, hD⟩ | ⟨hA, hB, hC, hD⟩ | ⟨hA, hB, hC, hD⟩
    · have hv0 : es = (p1.toInt64) := by rw [q_es, q_mx]; simp [own_num, own_max, hA, hC]
      have hv1 : el = ((-(p1.toInt64)) - (1 : Int64)) := by rw [q_el, q_mx]; simp [own_num, own_max, hA, hC]
      rw [hv0, hv1]
      have g20 : own_Go p e below s₁ (entryFrame m #[(.int p1), (.int p2), (.int p3)] maxLocals) T17 (mkF m 145 #[.val (.int p1), .val (.int p2), .val (.int p3), .val (.int md), .val (.int mx), .val (.ref a), .val (.long (own_num p1 mx (0 : Int32))), .second, .val (.long (own_num p1 mx (1 : Int32))), .second, .val (.long (p1.toInt64)), .second, .val (.long ((-(p1.toInt64)) - (1 : Int64))), .second, .val (.long (p1.toInt64)), .second, .val (.long ((-(p1.toInt64)) - (1 : Int64))), .second] []) := fun t kt => g18 t (by
        show Steps p.tables e below (T17.setTop (mkF m 66 #[.val (.int p1), .val (.int p2), .val (.int p3), .val (.int md), .val (.int mx), .val (.ref a), .val (.long (own_num p1 mx (0 : Int32))), .second, .val (.long (own_num p1 mx (1 : Int32))), .second, .val (.long (p1.toInt64)), .second, .val (.long ((-(p1.toInt64)) - (1 : Int64))), .second, .unset, .unset, .unset, .unset] [])) _
        refine XS.iloadN X17.here hx rfl (hb hby at_66) rfl ?_
        show Steps p.tables e below (T17.setTop (mkF m 67 #[.val (.int p1), .val (.int p2), .val (.int p3), .val (.int md), .val (.int mx), .val (.ref a), .val (.long (own_num p1 mx (0 : Int32))), .second, .val (.long (own_num p1 mx (1 : Int32))), .second, .val (.long (p1.toInt64)), .second, .val (.long ((-(p1.toInt64)) - (1 : Int64))), .second, .unset, .unset, .unset, .unset] [(.int md)])) _
        refine XS.ifNo X17.here hx rfl (hb hby at_67) rfl ((if0 _ _).trans (teq hA).2) ?_
        show Steps p.tables e below (T17.setTop (mkF m 70 #[.val (.int p1), .val (.int p2), .val (.int p3), .val (.int md), .val (.int mx), .val (.ref a), .val (.long (own_num p1 mx (0 : Int32))), .second, .val (.long (own_num p1 mx (1 : Int32))), .second, .val (.long (p1.toInt64)), .second, .val (.long ((-(p1.toInt64)) - (1 : Int64))), .second, .unset, .unset, .unset, .unset] [])) _
        refine XS.lload X17.here hx rfl (hb hby at_70) rfl ?_
        show Steps p.tables e below (T17.setTop (mkF m 72 #[.val (.int p1), .val (.int p2), .val (.int p3), .val (.int md), .val (.int mx), .val (.ref a), .val (.long (own_num p1 mx (0 : Int32))), .second, .val (.long (own_num p1 mx (1 : Int32))), .second, .val (.long (p1.toInt64)), .second, .val (.long ((-(p1.toInt64)) - (1 : Int64))), .second, .unset, .unset, .unset, .unset] [(.long (p1.toInt64))])) _
        refine XS.lstore X17.here hx rfl (hb hby at_72) rfl (l' := #[.val (.int p1), .val (.int p2), .val (.int p3), .val (.int md), .val (.int mx), .val (.ref a), .val (.long (own_num p1 mx (0 : Int32))), .second, .val (.long (own_num p1 mx (1 : Int32))), .second, .val (.long (p1.toInt64)), .second, .val (.long ((-(p1.toInt64)) - (1 : Int64))), .second, .val (.long (p1.toInt64)), .second, .unset, .unset]) rfl ?_
        show Steps p.tables e below (T17.setTop (mkF m 74 #[.val (.int p1), .val (.int p2), .val (.int p3), .val (.int md), .val (.int mx), .val (.ref a), .val (.long (own_num p1 mx (0 : Int32))), .second, .val (.long (own_num p1 mx (1 : Int32))), .second, .val (.long (p1.toInt64)), .second, .val (.long ((-(p1.toInt64)) - (1 : Int64))), .second, .val (.long (p1.toInt64)), .second, .unset, .unset] [])) _
        refine XS.iloadN X17.here hx rfl (hb hby at_74) rfl ?_
        show Steps p.tables e below (T17.setTop (mkF m 75 #[.val (.int p1), .val (.int p2), .val (.int p3), .val (.int md), .val (.int mx), .val (.ref a), .val (.long (own_num p1 mx (0 : Int32))), .second, .val (.long (own_num p1 mx (1 : Int32))), .second, .val (.long (p1.toInt64)), .second, .val (.long ((-(p1.toInt64)) - (1 : Int64))), .second, .val (.long (p1.toInt64)), .second, .unset, .unset] [(.int p1)])) _
        refine XS.iconst X17.here hx rfl (hb hby at_75) ?_
        show Steps p.tables e below (T17.setTop (mkF m 76 #[.val (.int p1), .val (.int p2), .val (.int p3), .val (.int md), .val (.int mx), .val (.ref a), .val (.long (own_num p1 mx (0 : Int32))), .second, .val (.long (own_num p1 mx (1 : Int32))), .second, .val (.long (p1.toInt64)), .second, .val (.long ((-(p1.toInt64)) - (1 : Int64))), .second, .val (.long (p1.toInt64)), .second, .unset, .unset] [(.int (-1 : Int32)), (.int p1)])) _
        refine XS.icmpNo X17.here hx rfl (hb hby at_76) rfl (teq hC).2 ?_
        show Steps p.tables e below (T17.setTop (mkF m 79 #[.val (.int p1), .val (.int p2), .val (.int p3), .val (.int md), .val (.int mx), .val (.ref a), .val (.long (own_num p1 mx (0 : Int32))), .second, .val (.long (own_num p1 mx (1 : Int32))), .second, .val (.long (p1.toInt64)), .second, .val (.long ((-(p1.toInt64)) - (1 : Int64))), .second, .val (.long (p1.toInt64)), .second, .unset, .unset] [])) _
        refine XS.lload X17.here hx rfl (hb hby at_79) rfl ?_
        show Steps p.tables e below (T17.setTop (mkF m 81 #[.val (.int p1), .val (.int p2), .val (.int p3), .val (.int md), .val (.int mx), .val (.ref a), .val (.long (own_num p1 mx (0 : Int32))), .second, .val (.long (own_num p1 mx (1 : Int32))), .second, .val (.long (p1.toInt64)), .second, .val (.long ((-(p1.toInt64)) - (1 : Int64))), .second, .val (.long (p1.toInt64)), .second, .unset, .unset] [(.long ((-(p1.toInt64)) - (1 : Int64)))])) _
        refine XS.goto X17.here hx rfl (pc0 := 81) (pc' := 86) rfl (hb hby at_81) (by decide) (by decide) ?_
        show Steps p.tables e below (T17.setTop (mkF m 86 #[.val (.int p1), .val (.int p2), .val (.int p3), .val (.int md), .val (.int mx), .val (.ref a), .val (.long (own_num p1 mx (0 : Int32))), .second, .val (.long (own_num p1 mx (1 : Int32))), .second, .val (.long (p1.toInt64)), .second, .val (.long ((-(p1.toInt64)) - (1 : Int64))), .second, .val (.long (p1.toInt64)), .second, .unset, .unset] [(.long ((-(p1.toInt64)) - (1 : Int64)))])) _
        refine XS.lstore X17.here hx rfl (hb hby at_86) rfl (l' := #[.val (.int p1), .val (.int p2), .val (.int p3), .val (.int md), .val (.int mx), .val (.ref a), .val (.long (own_num p1 mx (0 : Int32))), .second, .val (.long (own_num p1 mx (1 : Int32))), .second, .val (.long (p1.toInt64)), .second, .val (.long ((-(p1.toInt64)) - (1 : Int64))), .second, .val (.long (p1.toInt64)), .second, .val (.long ((-(p1.toInt64)) - (1 : Int64))), .second]) rfl ?_
        show Steps p.tables e below (T17.setTop (mkF m 88 #[.val (.int p1), .val (.int p2), .val (.int p3), .val (.int md), .val (.int mx), .val (.ref a), .val (.long (own_num p1 mx (0 : Int32))), .second, .val (.long (own_num p1 mx (1 : Int32))), .second, .val (.long (p1.toInt64)), .second, .val (.long ((-(p1.toInt64)) - (1 : Int64))), .second, .val (.long (p1.toInt64)), .second, .val (.long ((-(p1.toInt64)) - (1 : Int64))), .second] [])) _
        refine XS.goto X17.here hx rfl (pc0 := 88) (pc' := 145) rfl (hb hby at_88) (by decide) (by decide) ?_
        exact kt)
      exact g20
    · have hv0 : es = (p1.toInt64) := by rw [q_es, q_mx]; simp [own_num, own_max, hA, hC]
      have hv1 : el = (p1.toInt64) := by rw [q_el, q_mx]; simp [own_num, own_max, hA, hC]
      rw [hv0, hv1]
      have g21 : own_Go p e below s₁ (entryFrame m #[(.int p1), (.int p2), (.int p3)] maxLocals) T17 (mkF m 145 #[.val (.int p1), .val (.int p2), .val (.int p3), .val (.int md), .val (.int mx), .val (.ref a), .val (.long (own_num p1 mx (0 : Int32))), .second, .val (.long (own_num p1 mx (1 : Int32))), .second, .val (.long (p1.toInt64)), .second, .val (.long ((-(p1.toInt64)) - (1 : Int64))), .second, .val (.long (p1.toInt64)), .second, .val (.long (p1.toInt64)), .second] []) := fun t kt => g18 t (by
        show Steps p.tables e below (T17.setTop (mkF m 66 #[.val (.int p1), .val (.int p2), .val (.int p3), .val (.int md), .val (.int mx), .val (.ref a), .val (.long (own_num p1 mx (0 : Int32))), .second, .val (.long (own_num p1 mx (1 : Int32))), .second, .val (.long (p1.toInt64)), .second, .val (.long ((-(p1.toInt64)) - (1 : Int64))), .second, .unset, .unset, .unset, .unset] [])) _
        refine XS.iloadN X17.here hx rfl (hb hby at_66) rfl ?_
        show Steps p.tables e below (T17.setTop (mkF m 67 #[.val (.int p1), .val (.int p2), .val (.int p3), .val (.int md), .val (.int mx), .val (.ref a), .val (.long (own_num p1 mx (0 : Int32))), .second, .val (.long (own_num p1 mx (1 : Int32))), .second, .val (.long (p1.toInt64)), .second, .val (.long ((-(p1.toInt64)) - (1 : Int64))), .second, .unset, .unset, .unset, .unset] [(.int md)])) _
        refine XS.ifNo X17.here hx rfl (hb hby at_67) rfl ((if0 _ _).trans (teq hA).2) ?_
        show Steps p.tables e below (T17.setTop (mkF m 70 #[.val (.int p1), .val (.int p2), .val (.int p3), .val (.int md), .val (.int mx), .val (.ref a), .val (.long (own_num p1 mx (0 : Int32))), .second, .val (.long (own_num p1 mx (1 : Int32))), .second, .val (.long (p1.toInt64)), .second, .val (.long ((-(p1.toInt64)) - (1 : Int64))), .second, .unset, .unset, .unset, .unset] [])) _
        refine XS.lload X17.here hx rfl (hb hby at_70) rfl ?_
        show Steps p.tables e below (T17.setTop (mkF m 72 #[.val (.int p1), .val (.int p2), .val (.int p3), .val (.int md), .val (.int mx), .val (.ref a), .val (.long (own_num p1 mx (0 : Int32))), .second, .val (.long (own_num p1 mx (1 : Int32))), .second, .val (.long (p1.toInt64)), .second, .val (.long ((-(p1.toInt64)) - (1 : Int64))), .second, .unset, .unset, .unset, .unset] [(.long (p1.toInt64))])) _
        refine XS.lstore X17.here hx rfl (hb hby at_72) rfl (l' := #[.val (.int p1), .val (.int p2), .val (.int p3), .val (.int md), .val (.int mx), .val (.ref a), .val (.long (own_num p1 mx (0 : Int32))), .second, .val (.long (own_num p1 mx (1 : Int32))), .second, .val (.long (p1.toInt64)), .second, .val (.long ((-(p1.toInt64)) - (1 : Int64))), .second, .val (.long (p1.toInt64)), .second, .unset, .unset]) rfl ?_
        show Steps p.tables e below (T17.setTop (mkF m 74 #[.val (.int p1), .val (.int p2), .val (.int p3), .val (.int md), .val (.int mx), .val (.ref a), .val (.long (own_num p1 mx (0 : Int32))), .second, .val (.long (own_num p1 mx (1 : Int32))), .second, .val (.long (p1.toInt64)), .second, .val (.long ((-(p1.toInt64)) - (1 : Int64))), .second, .val (.long (p1.toInt64)), .second, .unset, .unset] [])) _
        refine XS.iloadN X17.here hx rfl (hb hby at_74) rfl ?_
        show Steps p.tables e below (T17.setTop (mkF m 75 #[.val (.int p1), .val (.int p2), .val (.int p3), .val (.int md), .val (.int mx), .val (.ref a), .val (.long (own_num p1 mx (0 : Int32))), .second, .val (.long (own_num p1 mx (1 : Int32))), .second, .val (.long (p1.toInt64)), .second, .val (.long ((-(p1.toInt64)) - (1 : Int64))), .second, .val (.long (p1.toInt64)), .second, .unset, .unset] [(.int p1)])) _
        refine XS.iconst X17.here hx rfl (hb hby at_75) ?_
        show Steps p.tables e below (T17.setTop (mkF m 76 #[.val (.int p1), .val (.int p2), .val (.int p3), .val (.int md), .val (.int mx), .val (.ref a), .val (.long (own_num p1 mx (0 : Int32))), .second, .val (.long (own_num p1 mx (1 : Int32))), .second, .val (.long (p1.toInt64)), .second, .val (.long ((-(p1.toInt64)) - (1 : Int64))), .second, .val (.long (p1.toInt64)), .second, .unset, .unset] [(.int (-1 : Int32)), (.int p1)])) _
        refine XS.icmpYes X17.here hx rfl (pc0 := 76) (pc' := 84) rfl (hb hby at_76) rfl (feq hC).2 (by decide) (by decide) ?_
        show Steps p.tables e below (T17.setTop (mkF m 84 #[.val (.int p1), .val (.int p2), .val (.int p3), .val (.int md), .val (.int mx), .val (.ref a), .val (.long (own_num p1 mx (0 : Int32))), .second, .val (.long (own_num p1 mx (1 : Int32))), .second, .val (.long (p1.toInt64)), .second, .val (.long ((-(p1.toInt64)) - (1 : Int64))), .second, .val (.long (p1.toInt64)), .second, .unset, .unset] [])) _
        refine XS.lload X17.here hx rfl (hb hby at_84) rfl ?_
        show Steps p.tables e below (T17.setTop (mkF m 86 #[.val (.int p1), .val (.int p2), .val (.int p3), .val (.int md), .val (.int mx), .val (.ref a), .val (.long (own_num p1 mx (0 : Int32))), .second, .val (.long (own_num p1 mx (1 : Int32))), .second, .val (.long (p1.toInt64)), .second, .val (.long ((-(p1.toInt64)) - (1 : Int64))), .second, .val (.long (p1.toInt64)), .second, .unset, .unset] [(.long (p1.toInt64))])) _
        refine XS.lstore X17.here hx rfl (hb hby at_86) rfl (l' := #[.val (.int p1), .val (.int p2), .val (.int p3), .val (.int md), .val (.int mx), .val (.ref a), .val (.long (own_num p1 mx (0 : Int32))), .second, .val (.long (own_num p1 mx (1 : Int32))), .second, .val (.long (p1.toInt64)), .second, .val (.long ((-(p1.toInt64)) - (1 : Int64))), .second, .val (.long (p1.toInt64)), .second, .val (.long (p1.toInt64)), .second]) rfl ?_
        show Steps p.tables e below (T17.setTop (mkF m 88 #[.val (.int p1), .val (.int p2), .val (.int p3), .val (.int md), .val (.int mx), .val (.ref a), .val (.long (own_num p1 mx (0 : Int32))), .second, .val (.long (own_num p1 mx (1 : Int32))), .second, .val (.long (p1.toInt64)), .second, .val (.long ((-(p1.toInt64)) - (1 : Int64))), .second, .val (.long (p1.toInt64)), .second, .val (.long (p1.toInt64)), .second] [])) _
        refine XS.goto X17.here hx rfl (pc0 := 88) (pc' := 145) rfl (hb hby at_88) (by decide) (by decide) ?_
        exact kt)
      exact g21
    · have hv0 : es = (p1.toInt64) := by rw [q_es, q_mx]; simp [own_num, own_max, hA, hB, hC]
      have hv1 : el = ((-(p1.toInt64)) - (1 : Int64)) := by rw [q_el, q_mx]; simp [own_num, own_max, hA, hB, hC]
      rw [hv0, hv1]
      have g22 : own_Go p e below s₁ (entryFrame m #[(.int p1), (.int p2), (.int p3)] maxLocals) T17 (mkF m 145 #[.val (.int p1), .val (.int p2), .val (.int p3), .val (.int md), .val (.int mx), .val (.ref a), .val (.long (own_num p1 mx (0 : Int32))), .second, .val (.long (own_num p1 mx (1 : Int32))), .second, .val (.long (p1.toInt64)), .second, .val (.long ((-(p1.toInt64)) - (1 : Int64))), .second, .val (.long (p1.toInt64)), .second, .val (.long ((-(p1.toInt64)) - (1 : Int64))), .second] []) := fun t kt => g18 t (by
        show Steps p.tables e below (T17.setTop (mkF m 66 #[.val (.int p1), .val (.int p2), .val (.int p3), .val (.int md), .val (.int mx), .val (.ref a), .val (.long (own_num p1 mx (0 : Int32))), .second, .val (.long (own_num p1 mx (1 : Int32))), .second, .val (.long (p1.toInt64)), .second, .val (.long ((-(p1.toInt64)) - (1 : Int64))), .second, .unset, .unset, .unset, .unset] [])) _
        refine XS.iloadN X17.here hx rfl (hb hby at_66) rfl ?_
        show Steps p.tables e below (T17.setTop (mkF m 67 #[.val (.int p1), .val (.int p2), .val (.int p3), .val (.int md), .val (.int mx), .val (.ref a), .val (.long (own_num p1 mx (0 : Int32))), .second, .val (.long (own_num p1 mx (1 : Int32))), .second, .val (.long (p1.toInt64)), .second, .val (.long ((-(p1.toInt64)) - (1 : Int64))), .second, .unset, .unset, .unset, .unset] [(.int md)])) _
        refine XS.ifYes X17.here hx rfl (pc0 := 67) (pc' := 91) rfl (hb hby at_67) rfl ((if0 _ _).trans (feq hA).2) (by decide) (by decide) ?_
        show Steps p.tables e below (T17.setTop (mkF m 91 #[.val (.int p1), .val (.int p2), .val (.int p3), .val (.int md), .val (.int mx), .val (.ref a), .val (.long (own_num p1 mx (0 : Int32))), .second, .val (.long (own_num p1 mx (1 : Int32))), .second, .val (.long (p1.toInt64)), .second, .val (.long ((-(p1.toInt64)) - (1 : Int64))), .second, .unset, .unset, .unset, .unset] [])) _
        refine XS.iloadN X17.here hx rfl (hb hby at_91) rfl ?_
        show Steps p.tables e below (T17.setTop (mkF m 92 #[.val (.int p1), .val (.int p2), .val (.int p3), .val (.int md), .val (.int mx), .val (.ref a), .val (.long (own_num p1 mx (0 : Int32))), .second, .val (.long (own_num p1 mx (1 : Int32))), .second, .val (.long (p1.toInt64)), .second, .val (.long ((-(p1.toInt64)) - (1 : Int64))), .second, .unset, .unset, .unset, .unset] [(.int md)])) _
        refine XS.iconst X17.here hx rfl (hb hby at_92) ?_
        show Steps p.tables e below (T17.setTop (mkF m 93 #[.val (.int p1), .val (.int p2), .val (.int p3), .val (.int md), .val (.int mx), .val (.ref a), .val (.long (own_num p1 mx (0 : Int32))), .second, .val (.long (own_num p1 mx (1 : Int32))), .second, .val (.long (p1.toInt64)), .second, .val (.long ((-(p1.toInt64)) - (1 : Int64))), .second, .unset, .unset, .unset, .unset] [(.int (1 : Int32)), (.int md)])) _
        refine XS.icmpNo X17.here hx rfl (hb hby at_93) rfl (teq hB).2 ?_
        show Steps p.tables e below (T17.setTop (mkF m 96 #[.val (.int p1), .val (.int p2), .val (.int p3), .val (.int md), .val (.int mx), .val (.ref a), .val (.long (own_num p1 mx (0 : Int32))), .second, .val (.long (own_num p1 mx (1 : Int32))), .second, .val (.long (p1.toInt64)), .second, .val (.long ((-(p1.toInt64)) - (1 : Int64))), .second, .unset, .unset, .unset, .unset] [])) _
        refine XS.iloadN X17.here hx rfl (hb hby at_96) rfl ?_
        show Steps p.tables e below (T17.setTop (mkF m 97 #[.val (.int p1), .val (.int p2), .val (.int p3), .val (.int md), .val (.int mx), .val (.ref a), .val (.long (own_num p1 mx (0 : Int32))), .second, .val (.long (own_num p1 mx (1 : Int32))), .second, .val (.long (p1.toInt64)), .second, .val (.long ((-(p1.toInt64)) - (1 : Int64))), .second, .unset, .unset, .unset, .unset] [(.int p1)])) _
        refine XS.iconst X17.here hx rfl (hb hby at_97) ?_
        show Steps p.tables e below (T17.setTop (mkF m 98 #[.val (.int p1), .val (.int p2), .val (.int p3), .val (.int md), .val (.int mx), .val (.ref a), .val (.long (own_num p1 mx (0 : Int32))), .second, .val (.long (own_num p1 mx (1 : Int32))), .second, .val (.long (p1.toInt64)), .second, .val (.long ((-(p1.toInt64)) - (1 : Int64))), .second, .unset, .unset, .unset, .unset] [(.int (-1 : Int32)), (.int p1)])) _
        refine XS.icmpNo X17.here hx rfl (hb hby at_98) rfl (teq hC).2 ?_
        show Steps p.tables e below (T17.setTop (mkF m 101 #[.val (.int p1), .val (.int p2), .val (.int p3), .val (.int md), .val (.int mx), .val (.ref a), .val (.long (own_num p1 mx (0 : Int32))), .second, .val (.long (own_num p1 mx (1 : Int32))), .second, .val (.long (p1.toInt64)), .second, .val (.long ((-(p1.toInt64)) - (1 : Int64))), .second, .unset, .unset, .unset, .unset] [])) _
        refine XS.lload X17.here hx rfl (hb hby at_101) rfl ?_
        show Steps p.tables e below (T17.setTop (mkF m 103 #[.val (.int p1), .val (.int p2), .val (.int p3), .val (.int md), .val (.int mx), .val (.ref a), .val (.long (own_num p1 mx (0 : Int32))), .second, .val (.long (own_num p1 mx (1 : Int32))), .second, .val (.long (p1.toInt64)), .second, .val (.long ((-(p1.toInt64)) - (1 : Int64))), .second, .unset, .unset, .unset, .unset] [(.long (p1.toInt64))])) _
        refine XS.goto X17.here hx rfl (pc0 := 103) (pc' := 108) rfl (hb hby at_103) (by decide) (by decide) ?_
        show Steps p.tables e below (T17.setTop (mkF m 108 #[.val (.int p1), .val (.int p2), .val (.int p3), .val (.int md), .val (.int mx), .val (.ref a), .val (.long (own_num p1 mx (0 : Int32))), .second, .val (.long (own_num p1 mx (1 : Int32))), .second, .val (.long (p1.toInt64)), .second, .val (.long ((-(p1.toInt64)) - (1 : Int64))), .second, .unset, .unset, .unset, .unset] [(.long (p1.toInt64))])) _
        refine XS.lstore X17.here hx rfl (hb hby at_108) rfl (l' := #[.val (.int p1), .val (.int p2), .val (.int p3), .val (.int md), .val (.int mx), .val (.ref a), .val (.long (own_num p1 mx (0 : Int32))), .second, .val (.long (own_num p1 mx (1 : Int32))), .second, .val (.long (p1.toInt64)), .second, .val (.long ((-(p1.toInt64)) - (1 : Int64))), .second, .val (.long (p1.toInt64)), .second, .unset, .unset]) rfl ?_
        show Steps p.tables e below (T17.setTop (mkF m 110 #[.val (.int p1), .val (.int p2), .val (.int p3), .val (.int md), .val (.int mx), .val (.ref a), .val (.long (own_num p1 mx (0 : Int32))), .second, .val (.long (own_num p1 mx (1 : Int32))), .second, .val (.long (p1.toInt64)), .second, .val (.long ((-(p1.toInt64)) - (1 : Int64))), .second, .val (.long (p1.toInt64)), .second, .unset, .unset] [])) _
        refine XS.lload X17.here hx rfl (hb hby at_110) rfl ?_
        show Steps p.tables e below (T17.setTop (mkF m 112 #[.val (.int p1), .val (.int p2), .val (.int p3), .val (.int md), .val (.int mx), .val (.ref a), .val (.long (own_num p1 mx (0 : Int32))), .second, .val (.long (own_num p1 mx (1 : Int32))), .second, .val (.long (p1.toInt64)), .second, .val (.long ((-(p1.toInt64)) - (1 : Int64))), .second, .val (.long (p1.toInt64)), .second, .unset, .unset] [(.long ((-(p1.toInt64)) - (1 : Int64)))])) _
        refine XS.lstore X17.here hx rfl (hb hby at_112) rfl (l' := #[.val (.int p1), .val (.int p2), .val (.int p3), .val (.int md), .val (.int mx), .val (.ref a), .val (.long (own_num p1 mx (0 : Int32))), .second, .val (.long (own_num p1 mx (1 : Int32))), .second, .val (.long (p1.toInt64)), .second, .val (.long ((-(p1.toInt64)) - (1 : Int64))), .second, .val (.long (p1.toInt64)), .second, .val (.long ((-(p1.toInt64)) - (1 : Int64))), .second]) rfl ?_
        show Steps p.tables e below (T17.setTop (mkF m 114 #[.val (.int p1), .val (.int p2), .val (.int p3), .val (.int md), .val (.int mx), .val (.ref a), .val (.long (own_num p1 mx (0 : Int32))), .second, .val (.long (own_num p1 mx (1 : Int32))), .second, .val (.long (p1.toInt64)), .second, .val (.long ((-(p1.toInt64)) - (1 : Int64))), .second, .val (.long (p1.toInt64)), .second, .val (.long ((-(p1.toInt64)) - (1 : Int64))), .second] [])) _
        refine XS.goto X17.here hx rfl (pc0 := 114) (pc' := 145) rfl (hb hby at_114) (by decide) (by decide) ?_
        exact kt)
      exact g22
    · have hv0 : es = ((-(p1.toInt64)) - (1 : Int64)) := by rw [q_es, q_mx]; simp [own_num, own_max, hA, hB, hC, Ne.symm hC, eq_comm]
      have hv1 : el = ((-(p1.toInt64)) - (1 : Int64)) := by rw [q_el, q_mx]; simp [own_num, own_max, hA, hB, hC, Ne.symm hC, eq_comm]
      rw [hv0, hv1]
      have g23 : own_Go p e below s₁ (entryFrame m #[(.int p1), (.int p2), (.int p3)] maxLocals) T17 (mkF m 145 #[.val (.int p1), .val (.int p2), .val (.int p3), .val (.int md), .val (.int mx), .val (.ref a), .val (.long (own_num p1 mx (0 : Int32))), .second, .val (.long (own_num p1 mx (1 : Int32))), .second, .val (.long (p1.toInt64)), .second, .val (.long ((-(p1.toInt64)) - (1 : Int64))), .second, .val (.long ((-(p1.toInt64)) - (1 : Int64))), .second, .val (.long ((-(p1.toInt64)) - (1 : Int64))), .second] []) := fun t kt => g18 t (by
        show Steps p.tables e below (T17.setTop (mkF m 66 #[.val (.int p1), .val (.int p2), .val (.int p3), .val (.int md), .val (.int mx), .val (.ref a), .val (.long (own_num p1 mx (0 : Int32))), .second, .val (.long (own_num p1 mx (1 : Int32))), .second, .val (.long (p1.toInt64)), .second, .val (.long ((-(p1.toInt64)) - (1 : Int64))), .second, .unset, .unset, .unset, .unset] [])) _
        refine XS.iloadN X17.here hx rfl (hb hby at_66) rfl ?_
        show Steps p.tables e below (T17.setTop (mkF m 67 #[.val (.int p1), .val (.int p2), .val (.int p3), .val (.int md), .val (.int mx), .val (.ref a), .val (.long (own_num p1 mx (0 : Int32))), .second, .val (.long (own_num p1 mx (1 : Int32))), .second, .val (.long (p1.toInt64)), .second, .val (.long ((-(p1.toInt64)) - (1 : Int64))), .second, .unset, .unset, .unset, .unset] [(.int md)])) _
        refine XS.ifYes X17.here hx rfl (pc0 := 67) (pc' := 91) rfl (hb hby at_67) rfl ((if0 _ _).trans (feq hA).2) (by decide) (by decide) ?_
        show Steps p.tables e below (T17.setTop (mkF m 91 #[.val (.int p1), .val (.int p2), .val (.int p3), .val (.int md), .val (.int mx), .val (.ref a), .val (.long (own_num p1 mx (0 : Int32))), .second, .val (.long (own_num p1 mx (1 : Int32))), .second, .val (.long (p1.toInt64)), .second, .val (.long ((-(p1.toInt64)) - (1 : Int64))), .second, .unset, .unset, .unset, .unset] [])) _
        refine XS.iloadN X17.here hx rfl (hb hby at_91) rfl ?_
        show Steps p.tables e below (T17.setTop (mkF m 92 #[.val (.int p1), .val (.int p2), .val (.int p3), .val (.int md), .val (.int mx), .val (.ref a), .val (.long (own_num p1 mx (0 : Int32))), .second, .val (.long (own_num p1 mx (1 : Int32))), .second, .val (.long (p1.toInt64)), .second, .val (.long ((-(p1.toInt64)) - (1 : Int64))), .second, .unset, .unset, .unset, .unset] [(.int md)])) _
        refine XS.iconst X17.here hx rfl (hb hby at_92) ?_
        show Steps p.tables e below (T17.setTop (mkF m 93 #[.val (.int p1), .val (.int p2), .val (.int p3), .val (.int md), .val (.int mx), .val (.ref a), .val (.long (own_num p1 mx (0 : Int32))), .second, .val (.long (own_num p1 mx (1 : Int32))), .second, .val (.long (p1.toInt64)), .second, .val (.long ((-(p1.toInt64)) - (1 : Int64))), .second, .unset, .unset, .unset, .unset] [(.int (1 : Int32)), (.int md)])) _
        refine XS.icmpNo X17.here hx rfl (hb hby at_93) rfl (teq hB).2 ?_
        show Steps p.tables e below (T17.setTop (mkF m 96 #[.val (.int p1), .val (.int p2), .val (.int p3), .val (.int md), .val (.int mx), .val (.ref a), .val (.long (own_num p1 mx (0 : Int32))), .second, .val (.long (own_num p1 mx (1 : Int32))), .second, .val (.long (p1.toInt64)), .second, .val (.long ((-(p1.toInt64)) - (1 : Int64))), .second, .unset, .unset, .unset, .unset] [])) _
        refine XS.iloadN X17.here hx rfl (hb hby at_96) rfl ?_
        show Steps p.tables e below (T17.setTop (mkF m 97 #[.val (.int p1), .val (.int p2), .val (.int p3), .val (.int md), .val (.int mx), .val (.ref a), .val (.long (own_num p1 mx (0 : Int32))), .second, .val (.long (own_num p1 mx (1 : Int32))), .second, .val (.long (p1.toInt64)), .second, .val (.long ((-(p1.toInt64)) - (1 : Int64))), .second, .unset, .unset, .unset, .unset] [(.int p1)])) _
        refine XS.iconst X17.here hx rfl (hb hby at_97) ?_
        show Steps p.tables e below (T17.setTop (mkF m 98 #[.val (.int p1), .val (.int p2), .val (.int p3), .val (.int md), .val (.int mx), .val (.ref a), .val (.long (own_num p1 mx (0 : Int32))), .second, .val (.long (own_num p1 mx (1 : Int32))), .second, .val (.long (p1.toInt64)), .second, .val (.long ((-(p1.toInt64)) - (1 : Int64))), .second, .unset, .unset, .unset, .unset] [(.int (-1 : Int32)), (.int p1)])) _
        refine XS.icmpYes X17.here hx rfl (pc0 := 98) (pc' := 106) rfl (hb hby at_98) rfl (feq hC).2 (by decide) (by decide) ?_
        show Steps p.tables e below (T17.setTop (mkF m 106 #[.val (.int p1), .val (.int p2), .val (.int p3), .val (.int md), .val (.int mx), .val (.ref a), .val (.long (own_num p1 mx (0 : Int32))), .second, .val (.long (own_num p1 mx (1 : Int32))), .second, .val (.long (p1.toInt64)), .second, .val (.long ((-(p1.toInt64)) - (1 : Int64))), .second, .unset, .unset, .unset, .unset] [])) _
        refine XS.lload X17.here hx rfl (hb hby at_106) rfl ?_
        show Steps p.tables e below (T17.setTop (mkF m 108 #[.val (.int p1), .val (.int p2), .val (.int p3), .val (.int md), .val (.int mx), .val (.ref a), .val (.long (own_num p1 mx (0 : Int32))), .second, .val (.long (own_num p1 mx (1 : Int32))), .second, .val (.long (p1.toInt64)), .second, .val (.long ((-(p1.toInt64)) - (1 : Int64))), .second, .unset, .unset, .unset, .unset] [(.long ((-(p1.toInt64)) - (1 : Int64)))])) _
        refine XS.lstore X17.here hx rfl (hb hby at_108) rfl (l' := #[.val (.int p1), .val (.int p2), .val (.int p3), .val (.int md), .val (.int mx), .val (.ref a), .val (.long (own_num p1 mx (0 : Int32))), .second, .val (.long (own_num p1 mx (1 : Int32))), .second, .val (.long (p1.toInt64)), .second, .val (.long ((-(p1.toInt64)) - (1 : Int64))), .second, .val (.long ((-(p1.toInt64)) - (1 : Int64))), .second, .unset, .unset]) rfl ?_
        show Steps p.tables e below (T17.setTop (mkF m 110 #[.val (.int p1), .val (.int p2), .val (.int p3), .val (.int md), .val (.int mx), .val (.ref a), .val (.long (own_num p1 mx (0 : Int32))), .second, .val (.long (own_num p1 mx (1 : Int32))), .second, .val (.long (p1.toInt64)), .second, .val (.long ((-(p1.toInt64)) - (1 : Int64))), .second, .val (.long ((-(p1.toInt64)) - (1 : Int64))), .second, .unset, .unset] [])) _
        refine XS.lload X17.here hx rfl (hb hby at_110) rfl ?_
        show Steps p.tables e below (T17.setTop (mkF m 112 #[.val (.int p1), .val (.int p2), .val (.int p3), .val (.int md), .val (.int mx), .val (.ref a), .val (.long (own_num p1 mx (0 : Int32))), .second, .val (.long (own_num p1 mx (1 : Int32))), .second, .val (.long (p1.toInt64)), .second, .val (.long ((-(p1.toInt64)) - (1 : Int64))), .second, .val (.long ((-(p1.toInt64)) - (1 : Int64))), .second, .unset, .unset] [(.long ((-(p1.toInt64)) - (1 : Int64)))])) _
        refine XS.lstore X17.here hx rfl (hb hby at_112) rfl (l' := #[.val (.int p1), .val (.int p2), .val (.int p3), .val (.int md), .val (.int mx), .val (.ref a), .val (.long (own_num p1 mx (0 : Int32))), .second, .val (.long (own_num p1 mx (1 : Int32))), .second, .val (.long (p1.toInt64)), .second, .val (.long ((-(p1.toInt64)) - (1 : Int64))), .second, .val (.long ((-(p1.toInt64)) - (1 : Int64))), .second, .val (.long ((-(p1.toInt64)) - (1 : Int64))), .second]) rfl ?_
        show Steps p.tables e below (T17.setTop (mkF m 114 #[.val (.int p1), .val (.int p2), .val (.int p3), .val (.int md), .val (.int mx), .val (.ref a), .val (.long (own_num p1 mx (0 : Int32))), .second, .val (.long (own_num p1 mx (1 : Int32))), .second, .val (.long (p1.toInt64)), .second, .val (.long ((-(p1.toInt64)) - (1 : Int64))), .second, .val (.long ((-(p1.toInt64)) - (1 : Int64))), .second, .val (.long ((-(p1.toInt64)) - (1 : Int64))), .second] [])) _
        refine XS.goto X17.here hx rfl (pc0 := 114) (pc' := 145) rfl (hb hby at_114) (by decide) (by decide) ?_
        exact kt)
      exact g23
    · have hv0 : es = (p1.toInt64) := by rw [q_es, q_mx]; simp [own_num, own_max, hA, hB, hC, hD, hC ▸ hD]
      have hv1 : el = ((-(p1.toInt64)) - (1 : Int64)) := by rw [q_el, q_mx]; simp [own_num, own_max, hA, hB, hC, hD, hC ▸ hD]
      rw [hv0, hv1]
      have g24 : own_Go p e below s₁ (entryFrame m #[(.int p1), (.int p2), (.int p3)] maxLocals) T17 (mkF m 145 #[.val (.int p1), .val (.int p2), .val (.int p3), .val (.int md), .val (.int mx), .val (.ref a), .val (.long (own_num p1 mx (0 : Int32))), .second, .val (.long (own_num p1 mx (1 : Int32))), .second, .val (.long (p1.toInt64)), .second, .val (.long ((-(p1.toInt64)) - (1 : Int64))), .second, .val (.long (p1.toInt64)), .second, .val (.long ((-(p1.toInt64)) - (1 : Int64))), .second] []) := fun t kt => g18 t (by
        show Steps p.tables e below (T17.setTop (mkF m 66 #[.val (.int p1), .val (.int p2), .val (.int p3), .val (.int md), .val (.int mx), .val (.ref a), .val (.long (own_num p1 mx (0 : Int32))), .second, .val (.long (own_num p1 mx (1 : Int32))), .second, .val (.long (p1.toInt64)), .second, .val (.long ((-(p1.toInt64)) - (1 : Int64))), .second, .unset, .unset, .unset, .unset] [])) _
        refine XS.iloadN X17.here hx rfl (hb hby at_66) rfl ?_
        show Steps p.tables e below (T17.setTop (mkF m 67 #[.val (.int p1), .val (.int p2), .val (.int p3), .val (.int md), .val (.int mx), .val (.ref a), .val (.long (own_num p1 mx (0 : Int32))), .second, .val (.long (own_num p1 mx (1 : Int32))), .second, .val (.long (p1.toInt64)), .second, .val (.long ((-(p1.toInt64)) - (1 : Int64))), .second, .unset, .unset, .unset, .unset] [(.int md)])) _
        refine XS.ifYes X17.here hx rfl (pc0 := 67) (pc' := 91) rfl (hb hby at_67) rfl ((if0 _ _).trans (feq hA).2) (by decide) (by decide) ?_
        show Steps p.tables e below (T17.setTop (mkF m 91 #[.val (.int p1), .val (.int p2), .val (.int p3), .val (.int md), .val (.int mx), .val (.ref a), .val (.long (own_num p1 mx (0 : Int32))), .second, .val (.long (own_num p1 mx (1 : Int32))), .second, .val (.long (p1.toInt64)), .second, .val (.long ((-(p1.toInt64)) - (1 : Int64))), .second, .unset, .unset, .unset, .unset] [])) _
        refine XS.iloadN X17.here hx rfl (hb hby at_91) rfl ?_
        show Steps p.tables e below (T17.setTop (mkF m 92 #[.val (.int p1), .val (.int p2), .val (.int p3), .val (.int md), .val (.int mx), .val (.ref a), .val (.long (own_num p1 mx (0 : Int32))), .second, .val (.long (own_num p1 mx (1 : Int32))), .second, .val (.long (p1.toInt64)), .second, .val (.long ((-(p1.toInt64)) - (1 : Int64))), .second, .unset, .unset, .unset, .unset] [(.int md)])) _
        refine XS.iconst X17.here hx rfl (hb hby at_92) ?_
        show Steps p.tables e below (T17.setTop (mkF m 93 #[.val (.int p1), .val (.int p2), .val (.int p3), .val (.int md), .val (.int mx), .val (.ref a), .val (.long (own_num p1 mx (0 : Int32))), .second, .val (.long (own_num p1 mx (1 : Int32))), .second, .val (.long (p1.toInt64)), .second, .val (.long ((-(p1.toInt64)) - (1 : Int64))), .second, .unset, .unset, .unset, .unset] [(.int (1 : Int32)), (.int md)])) _
        refine XS.icmpYes X17.here hx rfl (pc0 := 93) (pc' := 117) rfl (hb hby at_93) rfl (feq hB).2 (by decide) (by decide) ?_
        show Steps p.tables e below (T17.setTop (mkF m 117 #[.val (.int p1), .val (.int p2), .val (.int p3), .val (.int md), .val (.int mx), .val (.ref a), .val (.long (own_num p1 mx (0 : Int32))), .second, .val (.long (own_num p1 mx (1 : Int32))), .second, .val (.long (p1.toInt64)), .second, .val (.long ((-(p1.toInt64)) - (1 : Int64))), .second, .unset, .unset, .unset, .unset] [])) _
        refine XS.iloadN X17.here hx rfl (hb hby at_117) rfl ?_
        show Steps p.tables e below (T17.setTop (mkF m 118 #[.val (.int p1), .val (.int p2), .val (.int p3), .val (.int md), .val (.int mx), .val (.ref a), .val (.long (own_num p1 mx (0 : Int32))), .second, .val (.long (own_num p1 mx (1 : Int32))), .second, .val (.long (p1.toInt64)), .second, .val (.long ((-(p1.toInt64)) - (1 : Int64))), .second, .unset, .unset, .unset, .unset] [(.int p2)])) _
        refine XS.iloadN X17.here hx rfl (hb hby at_118) rfl ?_
        show Steps p.tables e below (T17.setTop (mkF m 119 #[.val (.int p1), .val (.int p2), .val (.int p3), .val (.int md), .val (.int mx), .val (.ref a), .val (.long (own_num p1 mx (0 : Int32))), .second, .val (.long (own_num p1 mx (1 : Int32))), .second, .val (.long (p1.toInt64)), .second, .val (.long ((-(p1.toInt64)) - (1 : Int64))), .second, .unset, .unset, .unset, .unset] [(.int p1), (.int p2)])) _
        refine XS.icmpNo X17.here hx rfl (hb hby at_119) rfl (teq hC).2 ?_
        show Steps p.tables e below (T17.setTop (mkF m 122 #[.val (.int p1), .val (.int p2), .val (.int p3), .val (.int md), .val (.int mx), .val (.ref a), .val (.long (own_num p1 mx (0 : Int32))), .second, .val (.long (own_num p1 mx (1 : Int32))), .second, .val (.long (p1.toInt64)), .second, .val (.long ((-(p1.toInt64)) - (1 : Int64))), .second, .unset, .unset, .unset, .unset] [])) _
        refine XS.lload X17.here hx rfl (hb hby at_122) rfl ?_
        show Steps p.tables e below (T17.setTop (mkF m 124 #[.val (.int p1), .val (.int p2), .val (.int p3), .val (.int md), .val (.int mx), .val (.ref a), .val (.long (own_num p1 mx (0 : Int32))), .second, .val (.long (own_num p1 mx (1 : Int32))), .second, .val (.long (p1.toInt64)), .second, .val (.long ((-(p1.toInt64)) - (1 : Int64))), .second, .unset, .unset, .unset, .unset] [(.long (p1.toInt64))])) _
        refine XS.goto X17.here hx rfl (pc0 := 124) (pc' := 129) rfl (hb hby at_124) (by decide) (by decide) ?_
        show Steps p.tables e below (T17.setTop (mkF m 129 #[.val (.int p1), .val (.int p2), .val (.int p3), .val (.int md), .val (.int mx), .val (.ref a), .val (.long (own_num p1 mx (0 : Int32))), .second, .val (.long (own_num p1 mx (1 : Int32))), .second, .val (.long (p1.toInt64)), .second, .val (.long ((-(p1.toInt64)) - (1 : Int64))), .second, .unset, .unset, .unset, .unset] [(.long (p1.toInt64))])) _
        refine XS.lstore X17.here hx rfl (hb hby at_129) rfl (l' := #[.val (.int p1), .val (.int p2), .val (.int p3), .val (.int md), .val (.int mx), .val (.ref a), .val (.long (own_num p1 mx (0 : Int32))), .second, .val (.long (own_num p1 mx (1 : Int32))), .second, .val (.long (p1.toInt64)), .second, .val (.long ((-(p1.toInt64)) - (1 : Int64))), .second, .val (.long (p1.toInt64)), .second, .unset, .unset]) rfl ?_
        show Steps p.tables e below (T17.setTop (mkF m 131 #[.val (.int p1), .val (.int p2), .val (.int p3), .val (.int md), .val (.int mx), .val (.ref a), .val (.long (own_num p1 mx (0 : Int32))), .second, .val (.long (own_num p1 mx (1 : Int32))), .second, .val (.long (p1.toInt64)), .second, .val (.long ((-(p1.toInt64)) - (1 : Int64))), .second, .val (.long (p1.toInt64)), .second, .unset, .unset] [])) _
        refine XS.iloadN X17.here hx rfl (hb hby at_131) rfl ?_
        show Steps p.tables e below (T17.setTop (mkF m 132 #[.val (.int p1), .val (.int p2), .val (.int p3), .val (.int md), .val (.int mx), .val (.ref a), .val (.long (own_num p1 mx (0 : Int32))), .second, .val (.long (own_num p1 mx (1 : Int32))), .second, .val (.long (p1.toInt64)), .second, .val (.long ((-(p1.toInt64)) - (1 : Int64))), .second, .val (.long (p1.toInt64)), .second, .unset, .unset] [(.int p2)])) _
        refine XS.iconst X17.here hx rfl (hb hby at_132) ?_
        show Steps p.tables e below (T17.setTop (mkF m 133 #[.val (.int p1), .val (.int p2), .val (.int p3), .val (.int md), .val (.int mx), .val (.ref a), .val (.long (own_num p1 mx (0 : Int32))), .second, .val (.long (own_num p1 mx (1 : Int32))), .second, .val (.long (p1.toInt64)), .second, .val (.long ((-(p1.toInt64)) - (1 : Int64))), .second, .val (.long (p1.toInt64)), .second, .unset, .unset] [(.int (-1 : Int32)), (.int p2)])) _
        refine XS.icmpNo X17.here hx rfl (hb hby at_133) rfl (teq hD).2 ?_
        show Steps p.tables e below (T17.setTop (mkF m 136 #[.val (.int p1), .val (.int p2), .val (.int p3), .val (.int md), .val (.int mx), .val (.ref a), .val (.long (own_num p1 mx (0 : Int32))), .second, .val (.long (own_num p1 mx (1 : Int32))), .second, .val (.long (p1.toInt64)), .second, .val (.long ((-(p1.toInt64)) - (1 : Int64))), .second, .val (.long (p1.toInt64)), .second, .unset, .unset] [])) _
        refine XS.lload X17.here hx rfl (hb hby at_136) rfl ?_
        show Steps p.tables e below (T17.setTop (mkF m 138 #[.val (.int p1), .val (.int p2), .val (.int p3), .val (.int md), .val (.int mx), .val (.ref a), .val (.long (own_num p1 mx (0 : Int32))), .second, .val (.long (own_num p1 mx (1 : Int32))), .second, .val (.long (p1.toInt64)), .second, .val (.long ((-(p1.toInt64)) - (1 : Int64))), .second, .val (.long (p1.toInt64)), .second, .unset, .unset] [(.long ((-(p1.toInt64)) - (1 : Int64)))])) _
        refine XS.goto X17.here hx rfl (pc0 := 138) (pc' := 143) rfl (hb hby at_138) (by decide) (by decide) ?_
        show Steps p.tables e below (T17.setTop (mkF m 143 #[.val (.int p1), .val (.int p2), .val (.int p3), .val (.int md), .val (.int mx), .val (.ref a), .val (.long (own_num p1 mx (0 : Int32))), .second, .val (.long (own_num p1 mx (1 : Int32))), .second, .val (.long (p1.toInt64)), .second, .val (.long ((-(p1.toInt64)) - (1 : Int64))), .second, .val (.long (p1.toInt64)), .second, .unset, .unset] [(.long ((-(p1.toInt64)) - (1 : Int64)))])) _
        refine XS.lstore X17.here hx rfl (hb hby at_143) rfl (l' := #[.val (.int p1), .val (.int p2), .val (.int p3), .val (.int md), .val (.int mx), .val (.ref a), .val (.long (own_num p1 mx (0 : Int32))), .second, .val (.long (own_num p1 mx (1 : Int32))), .second, .val (.long (p1.toInt64)), .second, .val (.long ((-(p1.toInt64)) - (1 : Int64))), .second, .val (.long (p1.toInt64)), .second, .val (.long ((-(p1.toInt64)) - (1 : Int64))), .second]) rfl ?_
        exact kt)
      exact g24
    · have hv0 : es = (p1.toInt64) := by rw [q_es, q_mx]; simp [own_num, own_max, hA, hB, hC, hD, hC ▸ hD]
      have hv1 : el = (p1.toInt64) := by rw [q_el, q_mx]; simp [own_num, own_max, hA, hB, hC, hD, hC ▸ hD]
      rw [hv0, hv1]
      have g25 : own_Go p e below s₁ (entryFrame m #[(.int p1), (.int p2), (.int p3)] maxLocals) T17 (mkF m 145 #[.val (.int p1), .val (.int p2), .val (.int p3), .val (.int md), .val (.int mx), .val (.ref a), .val (.long (own_num p1 mx (0 : Int32))), .second, .val (.long (own_num p1 mx (1 : Int32))), .second, .val (.long (p1.toInt64)), .second, .val (.long ((-(p1.toInt64)) - (1 : Int64))), .second, .val (.long (p1.toInt64)), .second, .val (.long (p1.toInt64)), .second] []) := fun t kt => g18 t (by
        show Steps p.tables e below (T17.setTop (mkF m 66 #[.val (.int p1), .val (.int p2), .val (.int p3), .val (.int md), .val (.int mx), .val (.ref a), .val (.long (own_num p1 mx (0 : Int32))), .second, .val (.long (own_num p1 mx (1 : Int32))), .second, .val (.long (p1.toInt64)), .second, .val (.long ((-(p1.toInt64)) - (1 : Int64))), .second, .unset, .unset, .unset, .unset] [])) _
        refine XS.iloadN X17.here hx rfl (hb hby at_66) rfl ?_
        show Steps p.tables e below (T17.setTop (mkF m 67 #[.val (.int p1), .val (.int p2), .val (.int p3), .val (.int md), .val (.int mx), .val (.ref a), .val (.long (own_num p1 mx (0 : Int32))), .second, .val (.long (own_num p1 mx (1 : Int32))), .second, .val (.long (p1.toInt64)), .second, .val (.long ((-(p1.toInt64)) - (1 : Int64))), .second, .unset, .unset, .unset, .unset] [(.int md)])) _
        refine XS.ifYes X17.here hx rfl (pc0 := 67) (pc' := 91) rfl (hb hby at_67) rfl ((if0 _ _).trans (feq hA).2) (by decide) (by decide) ?_
        show Steps p.tables e below (T17.setTop (mkF m 91 #[.val (.int p1), .val (.int p2), .val (.int p3), .val (.int md), .val (.int mx), .val (.ref a), .val (.long (own_num p1 mx (0 : Int32))), .second, .val (.long (own_num p1 mx (1 : Int32))), .second, .val (.long (p1.toInt64)), .second, .val (.long ((-(p1.toInt64)) - (1 : Int64))), .second, .unset, .unset, .unset, .unset] [])) _
        refine XS.iloadN X17.here hx rfl (hb hby at_91) rfl ?_
        show Steps p.tables e below (T17.setTop (mkF m 92 #[.val (.int p1), .val (.int p2), .val (.int p3), .val (.int md), .val (.int mx), .val (.ref a), .val (.long (own_num p1 mx (0 : Int32))), .second, .val (.long (own_num p1 mx (1 : Int32))), .second, .val (.long (p1.toInt64)), .second, .val (.long ((-(p1.toInt64)) - (1 : Int64))), .second, .unset, .unset, .unset, .unset] [(.int md)])) _
        refine XS.iconst X17.here hx rfl (hb hby at_92) ?_
        show Steps p.tables e below (T17.setTop (mkF m 93 #[.val (.int p1), .val (.int p2), .val (.int p3), .val (.int md), .val (.int mx), .val (.ref a), .val (.long (own_num p1 mx (0 : Int32))), .second, .val (.long (own_num p1 mx (1 : Int32))), .second, .val (.long (p1.toInt64)), .second, .val (.long ((-(p1.toInt64)) - (1 : Int64))), .second, .unset, .unset, .unset, .unset] [(.int (1 : Int32)), (.int md)])) _
        refine XS.icmpYes X17.here hx rfl (pc0 := 93) (pc' := 117) rfl (hb hby at_93) rfl (feq hB).2 (by decide) (by decide) ?_
        show Steps p.tables e below (T17.setTop (mkF m 117 #[.val (.int p1), .val (.int p2), .val (.int p3), .val (.int md), .val (.int mx), .val (.ref a), .val (.long (own_num p1 mx (0 : Int32))), .second, .val (.long (own_num p1 mx (1 : Int32))), .second, .val (.long (p1.toInt64)), .second, .val (.long ((-(p1.toInt64)) - (1 : Int64))), .second, .unset, .unset, .unset, .unset] [])) _
        refine XS.iloadN X17.here hx rfl (hb hby at_117) rfl ?_
        show Steps p.tables e below (T17.setTop (mkF m 118 #[.val (.int p1), .val (.int p2), .val (.int p3), .val (.int md), .val (.int mx), .val (.ref a), .val (.long (own_num p1 mx (0 : Int32))), .second, .val (.long (own_num p1 mx (1 : Int32))), .second, .val (.long (p1.toInt64)), .second, .val (.long ((-(p1.toInt64)) - (1 : Int64))), .second, .unset, .unset, .unset, .unset] [(.int p2)])) _
        refine XS.iloadN X17.here hx rfl (hb hby at_118) rfl ?_
        show Steps p.tables e below (T17.setTop (mkF m 119 #[.val (.int p1), .val (.int p2), .val (.int p3), .val (.int md), .val (.int mx), .val (.ref a), .val (.long (own_num p1 mx (0 : Int32))), .second, .val (.long (own_num p1 mx (1 : Int32))), .second, .val (.long (p1.toInt64)), .second, .val (.long ((-(p1.toInt64)) - (1 : Int64))), .second, .unset, .unset, .unset, .unset] [(.int p1), (.int p2)])) _
        refine XS.icmpNo X17.here hx rfl (hb hby at_119) rfl (teq hC).2 ?_
        show Steps p.tables e below (T17.setTop (mkF m 122 #[.val (.int p1), .val (.int p2), .val (.int p3), .val (.int md), .val (.int mx), .val (.ref a), .val (.long (own_num p1 mx (0 : Int32))), .second, .val (.long (own_num p1 mx (1 : Int32))), .second, .val (.long (p1.toInt64)), .second, .val (.long ((-(p1.toInt64)) - (1 : Int64))), .second, .unset, .unset, .unset, .unset] [])) _
        refine XS.lload X17.here hx rfl (hb hby at_122) rfl ?_
        show Steps p.tables e below (T17.setTop (mkF m 124 #[.val (.int p1), .val (.int p2), .val (.int p3), .val (.int md), .val (.int mx), .val (.ref a), .val (.long (own_num p1 mx (0 : Int32))), .second, .val (.long (own_num p1 mx (1 : Int32))), .second, .val (.long (p1.toInt64)), .second, .val (.long ((-(p1.toInt64)) - (1 : Int64))), .second, .unset, .unset, .unset, .unset] [(.long (p1.toInt64))])) _
        refine XS.goto X17.here hx rfl (pc0 := 124) (pc' := 129) rfl (hb hby at_124) (by decide) (by decide) ?_
        show Steps p.tables e below (T17.setTop (mkF m 129 #[.val (.int p1), .val (.int p2), .val (.int p3), .val (.int md), .val (.int mx), .val (.ref a), .val (.long (own_num p1 mx (0 : Int32))), .second, .val (.long (own_num p1 mx (1 : Int32))), .second, .val (.long (p1.toInt64)), .second, .val (.long ((-(p1.toInt64)) - (1 : Int64))), .second, .unset, .unset, .unset, .unset] [(.long (p1.toInt64))])) _
        refine XS.lstore X17.here hx rfl (hb hby at_129) rfl (l' := #[.val (.int p1), .val (.int p2), .val (.int p3), .val (.int md), .val (.int mx), .val (.ref a), .val (.long (own_num p1 mx (0 : Int32))), .second, .val (.long (own_num p1 mx (1 : Int32))), .second, .val (.long (p1.toInt64)), .second, .val (.long ((-(p1.toInt64)) - (1 : Int64))), .second, .val (.long (p1.toInt64)), .second, .unset, .unset]) rfl ?_
        show Steps p.tables e below (T17.setTop (mkF m 131 #[.val (.int p1), .val (.int p2), .val (.int p3), .val (.int md), .val (.int mx), .val (.ref a), .val (.long (own_num p1 mx (0 : Int32))), .second, .val (.long (own_num p1 mx (1 : Int32))), .second, .val (.long (p1.toInt64)), .second, .val (.long ((-(p1.toInt64)) - (1 : Int64))), .second, .val (.long (p1.toInt64)), .second, .unset, .unset] [])) _
        refine XS.iloadN X17.here hx rfl (hb hby at_131) rfl ?_
        show Steps p.tables e below (T17.setTop (mkF m 132 #[.val (.int p1), .val (.int p2), .val (.int p3), .val (.int md), .val (.int mx), .val (.ref a), .val (.long (own_num p1 mx (0 : Int32))), .second, .val (.long (own_num p1 mx (1 : Int32))), .second, .val (.long (p1.toInt64)), .second, .val (.long ((-(p1.toInt64)) - (1 : Int64))), .second, .val (.long (p1.toInt64)), .second, .unset, .unset] [(.int p2)])) _
        refine XS.iconst X17.here hx rfl (hb hby at_132) ?_
        show Steps p.tables e below (T17.setTop (mkF m 133 #[.val (.int p1), .val (.int p2), .val (.int p3), .val (.int md), .val (.int mx), .val (.ref a), .val (.long (own_num p1 mx (0 : Int32))), .second, .val (.long (own_num p1 mx (1 : Int32))), .second, .val (.long (p1.toInt64)), .second, .val (.long ((-(p1.toInt64)) - (1 : Int64))), .second, .val (.long (p1.toInt64)), .second, .unset, .unset] [(.int (-1 : Int32)), (.int p2)])) _
        refine XS.icmpYes X17.here hx rfl (pc0 := 133) (pc' := 141) rfl (hb hby at_133) rfl (feq hD).2 (by decide) (by decide) ?_
        show Steps p.tables e below (T17.setTop (mkF m 141 #[.val (.int p1), .val (.int p2), .val (.int p3), .val (.int md), .val (.int mx), .val (.ref a), .val (.long (own_num p1 mx (0 : Int32))), .second, .val (.long (own_num p1 mx (1 : Int32))), .second, .val (.long (p1.toInt64)), .second, .val (.long ((-(p1.toInt64)) - (1 : Int64))), .second, .val (.long (p1.toInt64)), .second, .unset, .unset] [])) _
        refine XS.lload X17.here hx rfl (hb hby at_141) rfl ?_
        show Steps p.tables e below (T17.setTop (mkF m 143 #[.val (.int p1), .val (.int p2), .val (.int p3), .val (.int md), .val (.int mx), .val (.ref a), .val (.long (own_num p1 mx (0 : Int32))), .second, .val (.long (own_num p1 mx (1 : Int32))), .second, .val (.long (p1.toInt64)), .second, .val (.long ((-(p1.toInt64)) - (1 : Int64))), .second, .val (.long (p1.toInt64)), .second, .unset, .unset] [(.long (p1.toInt64))])) _
        refine XS.lstore X17.here hx rfl (hb hby at_143) rfl (l' := #[.val (.int p1), .val (.int p2), .val (.int p3), .val (.int md), .val (.int mx), .val (.ref a), .val (.long (own_num p1 mx (0 : Int32))), .second, .val (.long (own_num p1 mx (1 : Int32))), .second, .val (.long (p1.toInt64)), .second, .val (.long ((-(p1.toInt64)) - (1 : Int64))), .second, .val (.long (p1.toInt64)), .second, .val (.long (p1.toInt64)), .second]) rfl ?_
        exact kt)
      exact g25
    · have hv0 : es = ((-(p1.toInt64)) - (1 : Int64)) := by rw [q_es, q_mx]; simp [own_num, own_max, hA, hB, hC, hD, hD ▸ hC]
      have hv1 : el = ((-(p1.toInt64)) - (1 : Int64)) := by rw [q_el, q_mx]; simp [own_num, own_max, hA, hB, hC, hD, hD ▸ hC]
      rw [hv0, hv1]
      have g26 : own_Go p e below s₁ (entryFrame m #[(.int p1), (.int p2), (.int p3)] maxLocals) T17 (mkF m 145 #[.val (.int p1), .val (.int p2), .val (.int p3), .val (.int md), .val (.int mx), .val (.ref a), .val (.long (own_num p1 mx (0 : Int32))), .second, .val (.long (own_num p1 mx (1 : Int32))), .second, .val (.long (p1.toInt64)), .second, .val (.long ((-(p1.toInt64)) - (1 : Int64))), .second, .val (.long ((-(p1.toInt64)) - (1 : Int64))), .second, .val (.long ((-(p1.toInt64)) - (1 : Int64))), .second] []) := fun t kt => g18 t (by
        show Steps p.tables e below (T17.setTop (mkF m 66 #[.val (.int p1), .val (.int p2), .val (.int p3), .val (.int md), .val (.int mx), .val (.ref a), .val (.long (own_num p1 mx (0 : Int32))), .second, .val (.long (own_num p1 mx (1 : Int32))), .second, .val (.long (p1.toInt64)), .second, .val (.long ((-(p1.toInt64)) - (1 : Int64))), .second, .unset, .unset, .unset, .unset] [])) _
        refine XS.iloadN X17.here hx rfl (hb hby at_66) rfl ?_
        show Steps p.tables e below (T17.setTop (mkF m 67 #[.val (.int p1), .val (.int p2), .val (.int p3), .val (.int md), .val (.int mx), .val (.ref a), .val (.long (own_num p1 mx (0 : Int32))), .second, .val (.long (own_num p1 mx (1 : Int32))), .second, .val (.long (p1.toInt64)), .second, .val (.long ((-(p1.toInt64)) - (1 : Int64))), .second, .unset, .unset, .unset, .unset] [(.int md)])) _
        refine XS.ifYes X17.here hx rfl (pc0 := 67) (pc' := 91) rfl (hb hby at_67) rfl ((if0 _ _).trans (feq hA).2) (by decide) (by decide) ?_
        show Steps p.tables e below (T17.setTop (mkF m 91 #[.val (.int p1), .val (.int p2), .val (.int p3), .val (.int md), .val (.int mx), .val (.ref a), .val (.long (own_num p1 mx (0 : Int32))), .second, .val (.long (own_num p1 mx (1 : Int32))), .second, .val (.long (p1.toInt64)), .second, .val (.long ((-(p1.toInt64)) - (1 : Int64))), .second, .unset, .unset, .unset, .unset] [])) _
        refine XS.iloadN X17.here hx rfl (hb hby at_91) rfl ?_
        show Steps p.tables e below (T17.setTop (mkF m 92 #[.val (.int p1), .val (.int p2), .val (.int p3), .val (.int md), .val (.int mx), .val (.ref a), .val (.long (own_num p1 mx (0 : Int32))), .second, .val (.long (own_num p1 mx (1 : Int32))), .second, .val (.long (p1.toInt64)), .second, .val (.long ((-(p1.toInt64)) - (1 : Int64))), .second, .unset, .unset, .unset, .unset] [(.int md)])) _
        refine XS.iconst X17.here hx rfl (hb hby at_92) ?_
        show Steps p.tables e below (T17.setTop (mkF m 93 #[.val (.int p1), .val (.int p2), .val (.int p3), .val (.int md), .val (.int mx), .val (.ref a), .val (.long (own_num p1 mx (0 : Int32))), .second, .val (.long (own_num p1 mx (1 : Int32))), .second, .val (.long (p1.toInt64)), .second, .val (.long ((-(p1.toInt64)) - (1 : Int64))), .second, .unset, .unset, .unset, .unset] [(.int (1 : Int32)), (.int md)])) _
        refine XS.icmpYes X17.here hx rfl (pc0 := 93) (pc' := 117) rfl (hb hby at_93) rfl (feq hB).2 (by decide) (by decide) ?_
        show Steps p.tables e below (T17.setTop (mkF m 117 #[.val (.int p1), .val (.int p2), .val (.int p3), .val (.int md), .val (.int mx), .val (.ref a), .val (.long (own_num p1 mx (0 : Int32))), .second, .val (.long (own_num p1 mx (1 : Int32))), .second, .val (.long (p1.toInt64)), .second, .val (.long ((-(p1.toInt64)) - (1 : Int64))), .second, .unset, .unset, .unset, .unset] [])) _
        refine XS.iloadN X17.here hx rfl (hb hby at_117) rfl ?_
        show Steps p.tables e below (T17.setTop (mkF m 118 #[.val (.int p1), .val (.int p2), .val (.int p3), .val (.int md), .val (.int mx), .val (.ref a), .val (.long (own_num p1 mx (0 : Int32))), .second, .val (.long (own_num p1 mx (1 : Int32))), .second, .val (.long (p1.toInt64)), .second, .val (.long ((-(p1.toInt64)) - (1 : Int64))), .second, .unset, .unset, .unset, .unset] [(.int p2)])) _
        refine XS.iloadN X17.here hx rfl (hb hby at_118) rfl ?_
        show Steps p.tables e below (T17.setTop (mkF m 119 #[.val (.int p1), .val (.int p2), .val (.int p3), .val (.int md), .val (.int mx), .val (.ref a), .val (.long (own_num p1 mx (0 : Int32))), .second, .val (.long (own_num p1 mx (1 : Int32))), .second, .val (.long (p1.toInt64)), .second, .val (.long ((-(p1.toInt64)) - (1 : Int64))), .second, .unset, .unset, .unset, .unset] [(.int p1), (.int p2)])) _
        refine XS.icmpYes X17.here hx rfl (pc0 := 119) (pc' := 127) rfl (hb hby at_119) rfl (feq hC).2 (by decide) (by decide) ?_
        show Steps p.tables e below (T17.setTop (mkF m 127 #[.val (.int p1), .val (.int p2), .val (.int p3), .val (.int md), .val (.int mx), .val (.ref a), .val (.long (own_num p1 mx (0 : Int32))), .second, .val (.long (own_num p1 mx (1 : Int32))), .second, .val (.long (p1.toInt64)), .second, .val (.long ((-(p1.toInt64)) - (1 : Int64))), .second, .unset, .unset, .unset, .unset] [])) _
        refine XS.lload X17.here hx rfl (hb hby at_127) rfl ?_
        show Steps p.tables e below (T17.setTop (mkF m 129 #[.val (.int p1), .val (.int p2), .val (.int p3), .val (.int md), .val (.int mx), .val (.ref a), .val (.long (own_num p1 mx (0 : Int32))), .second, .val (.long (own_num p1 mx (1 : Int32))), .second, .val (.long (p1.toInt64)), .second, .val (.long ((-(p1.toInt64)) - (1 : Int64))), .second, .unset, .unset, .unset, .unset] [(.long ((-(p1.toInt64)) - (1 : Int64)))])) _
        refine XS.lstore X17.here hx rfl (hb hby at_129) rfl (l' := #[.val (.int p1), .val (.int p2), .val (.int p3), .val (.int md), .val (.int mx), .val (.ref a), .val (.long (own_num p1 mx (0 : Int32))), .second, .val (.long (own_num p1 mx (1 : Int32))), .second, .val (.long (p1.toInt64)), .second, .val (.long ((-(p1.toInt64)) - (1 : Int64))), .second, .val (.long ((-(p1.toInt64)) - (1 : Int64))), .second, .unset, .unset]) rfl ?_
        show Steps p.tables e below (T17.setTop (mkF m 131 #[.val (.int p1), .val (.int p2), .val (.int p3), .val (.int md), .val (.int mx), .val (.ref a), .val (.long (own_num p1 mx (0 : Int32))), .second, .val (.long (own_num p1 mx (1 : Int32))), .second, .val (.long (p1.toInt64)), .second, .val (.long ((-(p1.toInt64)) - (1 : Int64))), .second, .val (.long ((-(p1.toInt64)) - (1 : Int64))), .second, .unset, .unset] [])) _
        refine XS.iloadN X17.here hx rfl (hb hby at_131) rfl ?_
        show Steps p.tables e below (T17.setTop (mkF m 132 #[.val (.int p1), .val (.int p2), .val (.int p3), .val (.int md), .val (.int mx), .val (.ref a), .val (.long (own_num p1 mx (0 : Int32))), .second, .val (.long (own_num p1 mx (1 : Int32))), .second, .val (.long (p1.toInt64)), .second, .val (.long ((-(p1.toInt64)) - (1 : Int64))), .second, .val (.long ((-(p1.toInt64)) - (1 : Int64))), .second, .unset, .unset] [(.int p2)])) _
        refine XS.iconst X17.here hx rfl (hb hby at_132) ?_
        show Steps p.tables e below (T17.setTop (mkF m 133 #[.val (.int p1), .val (.int p2), .val (.int p3), .val (.int md), .val (.int mx), .val (.ref a), .val (.long (own_num p1 mx (0 : Int32))), .second, .val (.long (own_num p1 mx (1 : Int32))), .second, .val (.long (p1.toInt64)), .second, .val (.long ((-(p1.toInt64)) - (1 : Int64))), .second, .val (.long ((-(p1.toInt64)) - (1 : Int64))), .second, .unset, .unset] [(.int (-1 : Int32)), (.int p2)])) _
        refine XS.icmpNo X17.here hx rfl (hb hby at_133) rfl (teq hD).2 ?_
        show Steps p.tables e below (T17.setTop (mkF m 136 #[.val (.int p1), .val (.int p2), .val (.int p3), .val (.int md), .val (.int mx), .val (.ref a), .val (.long (own_num p1 mx (0 : Int32))), .second, .val (.long (own_num p1 mx (1 : Int32))), .second, .val (.long (p1.toInt64)), .second, .val (.long ((-(p1.toInt64)) - (1 : Int64))), .second, .val (.long ((-(p1.toInt64)) - (1 : Int64))), .second, .unset, .unset] [])) _
        refine XS.lload X17.here hx rfl (hb hby at_136) rfl ?_
        show Steps p.tables e below (T17.setTop (mkF m 138 #[.val (.int p1), .val (.int p2), .val (.int p3), .val (.int md), .val (.int mx), .val (.ref a), .val (.long (own_num p1 mx (0 : Int32))), .second, .val (.long (own_num p1 mx (1 : Int32))), .second, .val (.long (p1.toInt64)), .second, .val (.long ((-(p1.toInt64)) - (1 : Int64))), .second, .val (.long ((-(p1.toInt64)) - (1 : Int64))), .second, .unset, .unset] [(.long ((-(p1.toInt64)) - (1 : Int64)))])) _
        refine XS.goto X17.here hx rfl (pc0 := 138) (pc' := 143) rfl (hb hby at_138) (by decide) (by decide) ?_
        show Steps p.tables e below (T17.setTop (mkF m 143 #[.val (.int p1), .val (.int p2), .val (.int p3), .val (.int md), .val (.int mx), .val (.ref a), .val (.long (own_num p1 mx (0 : Int32))), .second, .val (.long (own_num p1 mx (1 : Int32))), .second, .val (.long (p1.toInt64)), .second, .val (.long ((-(p1.toInt64)) - (1 : Int64))), .second, .val (.long ((-(p1.toInt64)) - (1 : Int64))), .second, .unset, .unset] [(.long ((-(p1.toInt64)) - (1 : Int64)))])) _
        refine XS.lstore X17.here hx rfl (hb hby at_143) rfl (l' := #[.val (.int p1), .val (.int p2), .val (.int p3), .val (.int md), .val (.int mx), .val (.ref a), .val (.long (own_num p1 mx (0 : Int32))), .second, .val (.long (own_num p1 mx (1 : Int32))), .second, .val (.long (p1.toInt64)), .second, .val (.long ((-(p1.toInt64)) - (1 : Int64))), .second, .val (.long ((-(p1.toInt64)) - (1 : Int64))), .second, .val (.long ((-(p1.toInt64)) - (1 : Int64))), .second]) rfl ?_
        exact kt)
      exact g26
    · have hv0 : es = ((-(p1.toInt64)) - (1 : Int64)) := by rw [q_es, q_mx]; simp [own_num, own_max, hA, hB, hC, hD]
      have hv1 : el = (p1.toInt64) := by rw [q_el, q_mx]; simp [own_num, own_max, hA, hB, hC, hD]
      rw [hv0, hv1]
      have g27 : own_Go p e below s₁ (entryFrame m #[(.int p1), (.int p2), (.int p3)] maxLocals) T17 (mkF m 145 #[.val (.int p1), .val (.int p2), .val (.int p3), .val (.int md), .val (.int mx), .val (.ref a), .val (.long (own_num p1 mx (0 : Int32))), .second, .val (.long (own_num p1 mx (1 : Int32))), .second, .val (.long (p1.toInt64)), .second, .val (.long ((-(p1.toInt64)) - (1 : Int64))), .second, .val (.long ((-(p1.toInt64)) - (1 : Int64))), .second, .val (.long (p1.toInt64)), .second] []) := fun t kt => g18 t (by
        show Steps p.tables e below (T17.setTop (mkF m 66 #[.val (.int p1), .val (.int p2), .val (.int p3), .val (.int md), .val (.int mx), .val (.ref a), .val (.long (own_num p1 mx (0 : Int32))), .second, .val (.long (own_num p1 mx (1 : Int32))), .second, .val (.long (p1.toInt64)), .second, .val (.long ((-(p1.toInt64)) - (1 : Int64))), .second, .unset, .unset, .unset, .unset] [])) _
        refine XS.iloadN X17.here hx rfl (hb hby at_66) rfl ?_
        show Steps p.tables e below (T17.setTop (mkF m 67 #[.val (.int p1), .val (.int p2), .val (.int p3), .val (.int md), .val (.int mx), .val (.ref a), .val (.long (own_num p1 mx (0 : Int32))), .second, .val (.long (own_num p1 mx (1 : Int32))), .second, .val (.long (p1.toInt64)), .second, .val (.long ((-(p1.toInt64)) - (1 : Int64))), .second, .unset, .unset, .unset, .unset] [(.int md)])) _
        refine XS.ifYes X17.here hx rfl (pc0 := 67) (pc' := 91) rfl (hb hby at_67) rfl ((if0 _ _).trans (feq hA).2) (by decide) (by decide) ?_
        show Steps p.tables e below (T17.setTop (mkF m 91 #[.val (.int p1), .val (.int p2), .val (.int p3), .val (.int md), .val (.int mx), .val (.ref a), .val (.long (own_num p1 mx (0 : Int32))), .second, .val (.long (own_num p1 mx (1 : Int32))), .second, .val (.long (p1.toInt64)), .second, .val (.long ((-(p1.toInt64)) - (1 : Int64))), .second, .unset, .unset, .unset, .unset] [])) _
        refine XS.iloadN X17.here hx rfl (hb hby at_91) rfl ?_
        show Steps p.tables e below (T17.setTop (mkF m 92 #[.val (.int p1), .val (.int p2), .val (.int p3), .val (.int md), .val (.int mx), .val (.ref a), .val (.long (own_num p1 mx (0 : Int32))), .second, .val (.long (own_num p1 mx (1 : Int32))), .second, .val (.long (p1.toInt64)), .second, .val (.long ((-(p1.toInt64)) - (1 : Int64))), .second, .unset, .unset, .unset, .unset] [(.int md)])) _
        refine XS.iconst X17.here hx rfl (hb hby at_92) ?_
        show Steps p.tables e below (T17.setTop (mkF m 93 #[.val (.int p1), .val (.int p2), .val (.int p3), .val (.int md), .val (.int mx), .val (.ref a), .val (.long (own_num p1 mx (0 : Int32))), .second, .val (.long (own_num p1 mx (1 : Int32))), .second, .val (.long (p1.toInt64)), .second, .val (.long ((-(p1.toInt64)) - (1 : Int64))), .second, .unset, .unset, .unset, .unset] [(.int (1 : Int32)), (.int md)])) _
        refine XS.icmpYes X17.here hx rfl (pc0 := 93) (pc' := 117) rfl (hb hby at_93) rfl (feq hB).2 (by decide) (by decide) ?_
        show Steps p.tables e below (T17.setTop (mkF m 117 #[.val (.int p1), .val (.int p2), .val (.int p3), .val (.int md), .val (.int mx), .val (.ref a), .val (.long (own_num p1 mx (0 : Int32))), .second, .val (.long (own_num p1 mx (1 : Int32))), .second, .val (.long (p1.toInt64)), .second, .val (.long ((-(p1.toInt64)) - (1 : Int64))), .second, .unset, .unset, .unset, .unset] [])) _
        refine XS.iloadN X17.here hx rfl (hb hby at_117) rfl ?_
        show Steps p.tables e below (T17.setTop (mkF m 118 #[.val (.int p1), .val (.int p2), .val (.int p3), .val (.int md), .val (.int mx), .val (.ref a), .val (.long (own_num p1 mx (0 : Int32))), .second, .val (.long (own_num p1 mx (1 : Int32))), .second, .val (.long (p1.toInt64)), .second, .val (.long ((-(p1.toInt64)) - (1 : Int64))), .second, .unset, .unset, .unset, .unset] [(.int p2)])) _
        refine XS.iloadN X17.here hx rfl (hb hby at_118) rfl ?_
        show Steps p.tables e below (T17.setTop (mkF m 119 #[.val (.int p1), .val (.int p2), .val (.int p3), .val (.int md), .val (.int mx), .val (.ref a), .val (.long (own_num p1 mx (0 : Int32))), .second, .val (.long (own_num p1 mx (1 : Int32))), .second, .val (.long (p1.toInt64)), .second, .val (.long ((-(p1.toInt64)) - (1 : Int64))), .second, .unset, .unset, .unset, .unset] [(.int p1), (.int p2)])) _
        refine XS.icmpYes X17.here hx rfl (pc0 := 119) (pc' := 127) rfl (hb hby at_119) rfl (feq hC).2 (by decide) (by decide) ?_
        show Steps p.tables e below (T17.setTop (mkF m 127 #[.val (.int p1), .val (.int p2), .val (.int p3), .val (.int md), .val (.int mx), .val (.ref a), .val (.long (own_num p1 mx (0 : Int32))), .second, .val (.long (own_num p1 mx (1 : Int32))), .second, .val (.long (p1.toInt64)), .second, .val (.long ((-(p1.toInt64)) - (1 : Int64))), .second, .unset, .unset, .unset, .unset] [])) _
        refine XS.lload X17.here hx rfl (hb hby at_127) rfl ?_
        show Steps p.tables e below (T17.setTop (mkF m 129 #[.val (.int p1), .val (.int p2), .val (.int p3), .val (.int md), .val (.int mx), .val (.ref a), .val (.long (own_num p1 mx (0 : Int32))), .second, .val (.long (own_num p1 mx (1 : Int32))), .second, .val (.long (p1.toInt64)), .second, .val (.long ((-(p1.toInt64)) - (1 : Int64))), .second, .unset, .unset, .unset, .unset] [(.long ((-(p1.toInt64)) - (1 : Int64)))])) _
        refine XS.lstore X17.here hx rfl (hb hby at_129) rfl (l' := #[.val (.int p1), .val (.int p2), .val (.int p3), .val (.int md), .val (.int mx), .val (.ref a), .val (.long (own_num p1 mx (0 : Int32))), .second, .val (.long (own_num p1 mx (1 : Int32))), .second, .val (.long (p1.toInt64)), .second, .val (.long ((-(p1.toInt64)) - (1 : Int64))), .second, .val (.long ((-(p1.toInt64)) - (1 : Int64))), .second, .unset, .unset]) rfl ?_
        show Steps p.tables e below (T17.setTop (mkF m 131 #[.val (.int p1), .val (.int p2), .val (.int p3), .val (.int md), .val (.int mx), .val (.ref a), .val (.long (own_num p1 mx (0 : Int32))), .second, .val (.long (own_num p1 mx (1 : Int32))), .second, .val (.long (p1.toInt64)), .second, .val (.long ((-(p1.toInt64)) - (1 : Int64))), .second, .val (.long ((-(p1.toInt64)) - (1 : Int64))), .second, .unset, .unset] [])) _
        refine XS.iloadN X17.here hx rfl (hb hby at_131) rfl ?_
        show Steps p.tables e below (T17.setTop (mkF m 132 #[.val (.int p1), .val (.int p2), .val (.int p3), .val (.int md), .val (.int mx), .val (.ref a), .val (.long (own_num p1 mx (0 : Int32))), .second, .val (.long (own_num p1 mx (1 : Int32))), .second, .val (.long (p1.toInt64)), .second, .val (.long ((-(p1.toInt64)) - (1 : Int64))), .second, .val (.long ((-(p1.toInt64)) - (1 : Int64))), .second, .unset, .unset] [(.int p2)])) _
        refine XS.iconst X17.here hx rfl (hb hby at_132) ?_
        show Steps p.tables e below (T17.setTop (mkF m 133 #[.val (.int p1), .val (.int p2), .val (.int p3), .val (.int md), .val (.int mx), .val (.ref a), .val (.long (own_num p1 mx (0 : Int32))), .second, .val (.long (own_num p1 mx (1 : Int32))), .second, .val (.long (p1.toInt64)), .second, .val (.long ((-(p1.toInt64)) - (1 : Int64))), .second, .val (.long ((-(p1.toInt64)) - (1 : Int64))), .second, .unset, .unset] [(.int (-1 : Int32)), (.int p2)])) _
        refine XS.icmpYes X17.here hx rfl (pc0 := 133) (pc' := 141) rfl (hb hby at_133) rfl (feq hD).2 (by decide) (by decide) ?_
        show Steps p.tables e below (T17.setTop (mkF m 141 #[.val (.int p1), .val (.int p2), .val (.int p3), .val (.int md), .val (.int mx), .val (.ref a), .val (.long (own_num p1 mx (0 : Int32))), .second, .val (.long (own_num p1 mx (1 : Int32))), .second, .val (.long (p1.toInt64)), .second, .val (.long ((-(p1.toInt64)) - (1 : Int64))), .second, .val (.long ((-(p1.toInt64)) - (1 : Int64))), .second, .unset, .unset] [])) _
        refine XS.lload X17.here hx rfl (hb hby at_141) rfl ?_
        show Steps p.tables e below (T17.setTop (mkF m 143 #[.val (.int p1), .val (.int p2), .val (.int p3), .val (.int md), .val (.int mx), .val (.ref a), .val (.long (own_num p1 mx (0 : Int32))), .second, .val (.long (own_num p1 mx (1 : Int32))), .second, .val (.long (p1.toInt64)), .second, .val (.long ((-(p1.toInt64)) - (1 : Int64))), .second, .val (.long ((-(p1.toInt64)) - (1 : Int64))), .second, .unset, .unset] [(.long (p1.toInt64))])) _
        refine XS.lstore X17.here hx rfl (hb hby at_143) rfl (l' := #[.val (.int p1), .val (.int p2), .val (.int p3), .val (.int md), .val (.int mx), .val (.ref a), .val (.long (own_num p1 mx (0 : Int32))), .second, .val (.long (own_num p1 mx (1 : Int32))), .second, .val (.long (p1.toInt64)), .second, .val (.long ((-(p1.toInt64)) - (1 : Int64))), .second, .val (.long ((-(p1.toInt64)) - (1 : Int64))), .second, .val (.long (p1.toInt64)), .second]) rfl ?_
        exact kt)
      exact g27
  have g28 : own_Go p e below s₁ (entryFrame m #[(.int p1), (.int p2), (.int p3)] maxLocals) T17 (mkF m 166 #[.val (.int p1), .val (.int p2), .val (.int p3), .val (.int md), .val (.int mx), .val (.ref a), .val (.long (own_num p1 mx (0 : Int32))), .second, .val (.long (own_num p1 mx (1 : Int32))), .second, .val (.long (p1.toInt64)), .second, .val (.long ((-(p1.toInt64)) - (1 : Int64))), .second, .val (.long es), .second, .val (.long el), .second] [(.int (1 : Int32))]) := fun t kt => g19 t (by
    show Steps p.tables e below (T17.setTop (mkF m 145 #[.val (.int p1), .val (.int p2), .val (.int p3), .val (.int md), .val (.int mx), .val (.ref a), .val (.long (own_num p1 mx (0 : Int32))), .second, .val (.long (own_num p1 mx (1 : Int32))), .second, .val (.long (p1.toInt64)), .second, .val (.long ((-(p1.toInt64)) - (1 : Int64))), .second, .val (.long es), .second, .val (.long el), .second] [])) _
    refine XS.lload X17.here hx rfl (hb hby at_145) rfl ?_
    show Steps p.tables e below (T17.setTop (mkF m 147 #[.val (.int p1), .val (.int p2), .val (.int p3), .val (.int md), .val (.int mx), .val (.ref a), .val (.long (own_num p1 mx (0 : Int32))), .second, .val (.long (own_num p1 mx (1 : Int32))), .second, .val (.long (p1.toInt64)), .second, .val (.long ((-(p1.toInt64)) - (1 : Int64))), .second, .val (.long es), .second, .val (.long el), .second] [(.long (own_num p1 mx (0 : Int32)))])) _
    refine XS.lload X17.here hx rfl (hb hby at_147) rfl ?_
    show Steps p.tables e below (T17.setTop (mkF m 149 #[.val (.int p1), .val (.int p2), .val (.int p3), .val (.int md), .val (.int mx), .val (.ref a), .val (.long (own_num p1 mx (0 : Int32))), .second, .val (.long (own_num p1 mx (1 : Int32))), .second, .val (.long (p1.toInt64)), .second, .val (.long ((-(p1.toInt64)) - (1 : Int64))), .second, .val (.long es), .second, .val (.long el), .second] [(.long es), (.long (own_num p1 mx (0 : Int32)))])) _
    refine XS.lcmp X17.here hx rfl (hb hby at_149) rfl ?_
    show Steps p.tables e below (T17.setTop (mkF m 150 #[.val (.int p1), .val (.int p2), .val (.int p3), .val (.int md), .val (.int mx), .val (.ref a), .val (.long (own_num p1 mx (0 : Int32))), .second, .val (.long (own_num p1 mx (1 : Int32))), .second, .val (.long (p1.toInt64)), .second, .val (.long ((-(p1.toInt64)) - (1 : Int64))), .second, .val (.long es), .second, .val (.long el), .second] [(.int (lcmpW (own_num p1 mx (0 : Int32)) es))])) _
    refine XS.ifNo X17.here hx rfl (hb hby at_150) rfl ((if0 _ _).trans (teq ((lw_eq _ _).mpr q_es.symm)).2) ?_
    show Steps p.tables e below (T17.setTop (mkF m 153 #[.val (.int p1), .val (.int p2), .val (.int p3), .val (.int md), .val (.int mx), .val (.ref a), .val (.long (own_num p1 mx (0 : Int32))), .second, .val (.long (own_num p1 mx (1 : Int32))), .second, .val (.long (p1.toInt64)), .second, .val (.long ((-(p1.toInt64)) - (1 : Int64))), .second, .val (.long es), .second, .val (.long el), .second] [])) _
    refine XS.lload X17.here hx rfl (hb hby at_153) rfl ?_
    show Steps p.tables e below (T17.setTop (mkF m 155 #[.val (.int p1), .val (.int p2), .val (.int p3), .val (.int md), .val (.int mx), .val (.ref a), .val (.long (own_num p1 mx (0 : Int32))), .second, .val (.long (own_num p1 mx (1 : Int32))), .second, .val (.long (p1.toInt64)), .second, .val (.long ((-(p1.toInt64)) - (1 : Int64))), .second, .val (.long es), .second, .val (.long el), .second] [(.long (own_num p1 mx (1 : Int32)))])) _
    refine XS.lload X17.here hx rfl (hb hby at_155) rfl ?_
    show Steps p.tables e below (T17.setTop (mkF m 157 #[.val (.int p1), .val (.int p2), .val (.int p3), .val (.int md), .val (.int mx), .val (.ref a), .val (.long (own_num p1 mx (0 : Int32))), .second, .val (.long (own_num p1 mx (1 : Int32))), .second, .val (.long (p1.toInt64)), .second, .val (.long ((-(p1.toInt64)) - (1 : Int64))), .second, .val (.long es), .second, .val (.long el), .second] [(.long el), (.long (own_num p1 mx (1 : Int32)))])) _
    refine XS.lcmp X17.here hx rfl (hb hby at_157) rfl ?_
    show Steps p.tables e below (T17.setTop (mkF m 158 #[.val (.int p1), .val (.int p2), .val (.int p3), .val (.int md), .val (.int mx), .val (.ref a), .val (.long (own_num p1 mx (0 : Int32))), .second, .val (.long (own_num p1 mx (1 : Int32))), .second, .val (.long (p1.toInt64)), .second, .val (.long ((-(p1.toInt64)) - (1 : Int64))), .second, .val (.long es), .second, .val (.long el), .second] [(.int (lcmpW (own_num p1 mx (1 : Int32)) el))])) _
    refine XS.ifNo X17.here hx rfl (hb hby at_158) rfl ((if0 _ _).trans (teq ((lw_eq _ _).mpr q_el.symm)).2) ?_
    show Steps p.tables e below (T17.setTop (mkF m 161 #[.val (.int p1), .val (.int p2), .val (.int p3), .val (.int md), .val (.int mx), .val (.ref a), .val (.long (own_num p1 mx (0 : Int32))), .second, .val (.long (own_num p1 mx (1 : Int32))), .second, .val (.long (p1.toInt64)), .second, .val (.long ((-(p1.toInt64)) - (1 : Int64))), .second, .val (.long es), .second, .val (.long el), .second] [])) _
    refine XS.iconst X17.here hx rfl (hb hby at_161) ?_
    show Steps p.tables e below (T17.setTop (mkF m 162 #[.val (.int p1), .val (.int p2), .val (.int p3), .val (.int md), .val (.int mx), .val (.ref a), .val (.long (own_num p1 mx (0 : Int32))), .second, .val (.long (own_num p1 mx (1 : Int32))), .second, .val (.long (p1.toInt64)), .second, .val (.long ((-(p1.toInt64)) - (1 : Int64))), .second, .val (.long es), .second, .val (.long el), .second] [(.int (1 : Int32))])) _
    refine XS.goto X17.here hx rfl (pc0 := 162) (pc' := 166) rfl (hb hby at_162) (by decide) (by decide) ?_
    exact kt)
  obtain ⟨fs, hr, hrun, hended, hW, hsame⟩ := X17.leave (v := some (.int (1 : Int32))) (fun h => by rw [Bd.returns] at h; cases h)
  refine ⟨_, _, g28 _ (retN X17 hx (t := .boolean) Bd.returns (by simp) (hb hby at_166) hr), hrun, hended, _, _, rfl, ?_, ⟨_, rfl⟩, hW, hsame.mono (by decide) (by decide)⟩
  show Q_rm0 Z p1 p2 p3 h0 n0 _ T17.heap _
  rw [E17']
  exact ⟨rfl, N17⟩
set_option maxRecDepth 65536 in
set_option maxHeartbeats 40000000 in
theorem comes_1 {Post : Tables → Env → Array Value → State → Outcome → State → Prop} (hpost : ∀ tb e args s v u, (limb_1_1.after args s (.returned v) u = true ∧ limb_1_2.after args s (.returned v) u = true ∧ True) → FrameEnd s (.returned v) u (Jvm.fieldLocs frame_1_writes args s ++ Jvm.arrayLocs frame_1_arrays args s ++ Jvm.staticLocs frame_1_statics s) 16 128 → Post tb e args s (.returned v) u) :
    ArmFor flags0 classFile x code maxLocals ret World_1 tables_1 room_1 Calls_1 rest_1 Pre_1 Post := by
  intro l hfl _ _ p e ha hc hk s m args below hf hA hF happ hP
  obtain ⟨hcalls, hrest, hpre⟩ := hP
  obtain ⟨-, -, -, hnamed, -, -, -, hat⟩ := (Spec.applies_iff hf).mp happ
  obtain ⟨hg, hn⟩ := and_e (Cond.before_iff.mp (show (Jvm.Cond.and given_1 narrow_1).before args s = true from hpre))
  obtain ⟨hcnt, r0⟩ := and_e hg
  obtain ⟨a0, r1⟩ := and_e r0
  obtain ⟨a1, r2⟩ := and_e r1
  obtain ⟨w0, w1, w2, rfl⟩ : ∃ w0 w1 w2 : Value, args = #[w0, w1, w2] := by
    have hs : args.size = 3 := by simpa [Cond.value, given_1] using hcnt
    obtain ⟨L⟩ := args
    match L, hs with
    | [w0, w1, w2], _ => exact ⟨w0, w1, w2, rfl⟩
  have hw := fun d (hd : d ∈ tables_1) => atoms_spec (ws := Jvm.Cond.code x code maxLocals ret :: tables_1) hat d (List.mem_cons_of_mem _ hd)
  have hfit : Fit s := fun {y c} hc i hi => by
    obtain ⟨ha, rfl⟩ := Array.getElem?_eq_some_iff.mp hc
    have q := List.all_eq_true.mp ((Array.all_eq_true_iff_forall_mem.mp hF) _ (Array.getElem_mem ha)) i (List.mem_range.mpr hi)
    simpa [Array.getElem?_eq_getElem hi] using q
  obtain ⟨i0, ei0⟩ := is_v a0
  obtain rfl : w0 = (.int i0) := Option.some.inj ei0
  obtain ⟨i1, ei1⟩ := is_v a1
  obtain rfl : w1 = (.int i1) := Option.some.inj ei1
  obtain ⟨i2, ei2⟩ := is_v r2
  obtain rfl : w2 = (.int i2) := Option.some.inj ei2
  obtain ⟨n, o, h1, h2, h3, _, L, rfl, ⟨rfl, N⟩, hq⟩ := rm0 l s _ hw tables_1 i0 i1 i2 s.heap s.heap.size (Nat.le_refl _)  p e ha hc hk s m _ below hf ((Spec.applies_iff_loose hf).mp happ).1 ⟨rfl, State.Warmed39.refl s, rfl⟩ trivial
  refine ⟨n, _, h1, h2, h3, hpost _ _ _ _ _ _ ⟨Cond.after_iff.mpr rfl, Cond.after_iff.mpr (eq_i res_at (Term.int_eval (1)) rfl), trivial⟩ ⟨hq.1, hq.2.1, (hq.2.2.sift fun y hy => Or.inr (N y hy)).mono (by decide) (by decide)⟩⟩
theorem main_1_1 : Claimed_1_1 := comes_1 fun _ _ _ _ _ _ h hF => ⟨h.1, hF⟩
theorem main_1_2 : Claimed_1_2 := comes_1 fun _ _ _ _ _ _ h hF => ⟨h.2.1, hF⟩
end Jvm.Pilot.@@N@@
namespace Jvm.Pilot.@@N@@
open Jvm Jvm.ClassFile Sem Op Lib Jvm.Free Jvm.Stand Jvm.Pilot.@@N@@.Jvm.D
/-! MADE BY PROGRAM (witnessworld.py) out of the Statement's table words and the real class files: 10 classes; the members and pool entries that the words name. The judged class is class 1, her method 1. -/
namespace start1
open Jvm.ClassFile
def u (s : String) : CpInfo := .utf8 (stringToUtf16 s)
/-- a pool by its gaps: so many unusable entries, then the entry; so many at the end -/
def gap : Nat → List CpInfo → List CpInfo
  | 0, r => r
  | n + 1, r => .unusable :: gap n r
def poolList (es : List (Nat × CpInfo)) (last : Nat) : List CpInfo := es.foldr (fun e r => gap e.1 (e.2 :: r)) (gap last [])
def pool (es : List (Nat × CpInfo)) (last : Nat) : Array CpInfo := ⟨poolList es last⟩
def fileOf (pool : Array CpInfo) (this : Nat) (attrs : Array Attribute := #[]) (ms : Array MethodInfo := #[]) (fl : Nat := 33) (sup : Nat := 0) (ifs : Array Nat := #[]) (fds : Array FieldInfo := #[]) : ClassFile where
  minorVersion := 0
  majorVersion := 65
  constantPool := pool
  accessFlags := fl
  thisClass := this
  superClass := sup
  interfaces := ifs
  fields := fds
  methods := ms
  attributes := attrs
def plain (name : String) (sup : Option ClassId) : Class where
  name := name
  kind := .ordinary
  loader := none
  accessFlags := 33
  super := sup
  interfaces := #[]
  cf := none
  fields := #[]
  methods := #[]
  instanceTypes := #[]
  staticTypes := #[]
  resolved := #[]
  callSites := []
  init := .initialized
  statics := none
  mirror := none

def pool0 : Array CpInfo := pool [(5, u "<init>"), (0, u "()V"), (1, .class_ 10), (1, u "java/lang/Object")] 113

def k0c0 : Code := { maxStack := 0, maxLocals := 1, code := object_method_1_code, exceptionTable := #[], attributes := #[] }
def k0m0 : Method := { name := "<init>", desc := "()V", sig := { parameters := [], returnType := none }, accessFlags := 1, code := some k0c0 }
/-- java/lang/Object -/
def k0 : Class := { plain "java/lang/Object" none with
  accessFlags := 33
  interfaces := #[]
  cf := some (fileOf pool0 8 #[] #[{ accessFlags := 1, nameIndex := 5, descriptorIndex := 6, attributes := #[] }] 33 0 #[] #[])
  fields := #[]
  methods := #[k0m0]
  instanceTypes := #[]
  staticTypes := #[]
  resolved := Array.replicate 124 none
  statics := none }

def pool1 : Array CpInfo := pool [(2, .class_ 4), (1, u "java/lang/Object"), (0, u "<init>"), (0, u "()V"), (0, .integer 2147483647), (0, .class_ 9), (0, u "com/example/corundum/corundum/runtime/Arity"), (0, .methodref 8 11), (0, .nameAndType 5 12), (0, u "(II)V"), (0, .methodref 8 14), (0, .nameAndType 15 16), (0, u "asNumber"), (0, u "(Z)J"), (0, .class_ 18), (0, u "com/example/corundum/corundum/runtime/ArityAsNumberPinLaw"), (2, u "law"), (0, u "(III)Z")] 3

def k1m0 : Method := { name := "<init>", desc := "()V", sig := { parameters := [], returnType := none }, accessFlags := 1, code := none }
def k1c1 : Code := { maxStack := 4, maxLocals := 18, code := code, exceptionTable := #[], attributes := #[] }
def k1m1 : Method := { name := "law", desc := "(III)Z", sig := { parameters := [.int, .int, .int], returnType := some .boolean }, accessFlags := 9, code := some k1c1 }
/-- com/example/corundum/corundum/runtime/ArityAsNumberPinLaw -/
def k1 : Class := { plain "com/example/corundum/corundum/runtime/ArityAsNumberPinLaw" (some 0) with
  accessFlags := 49
  interfaces := #[]
  cf := some (fileOf pool1 17 #[] #[{ accessFlags := 1, nameIndex := 5, descriptorIndex := 6, attributes := #[] }, { accessFlags := 9, nameIndex := 21, descriptorIndex := 22, attributes := #[] }] 49 2 #[] #[])
  fields := #[]
  methods := #[k1m0, k1m1]
  instanceTypes := #[]
  staticTypes := #[]
  resolved := Array.replicate 26 none
  statics := none }

def pool2 : Array CpInfo := pool [(1, .methodref 2 3), (0, .class_ 4), (0, .nameAndType 5 6), (0, u "java/lang/Object"), (0, u "<init>"), (0, u "()V"), (0, .class_ 8), (0, u "java/lang/Record")] 13

def k2c0 : Code := { maxStack := 1, maxLocals := 1, code := jdk_30_method_1_code, exceptionTable := #[], attributes := #[] }
def k2m0 : Method := { name := "<init>", desc := "()V", sig := { parameters := [], returnType := none }, accessFlags := 4, code := some k2c0 }
/-- java/lang/Record -/
def k2 : Class := { plain "java/lang/Record" (some 0) with
  accessFlags := 1057
  interfaces := #[]
  cf := some (fileOf pool2 7 #[] #[{ accessFlags := 4, nameIndex := 5, descriptorIndex := 6, attributes := #[] }] 1057 2 #[] #[])
  fields := #[]
  methods := #[k2m0]
  instanceTypes := #[]
  staticTypes := #[]
  resolved := Array.replicate 22 none
  statics := none }

def pool3 : Array CpInfo := pool [(1, .methodref 2 3), (0, .class_ 4), (0, .nameAndType 5 6), (0, u "java/lang/Record"), (0, u "<init>"), (0, u "()V"), (0, .fieldref 8 9), (0, .class_ 10), (0, .nameAndType 11 12), (0, u "com/example/corundum/corundum/runtime/Arity"), (0, u "minimum"), (0, u "I"), (0, .fieldref 8 14), (0, .nameAndType 15 12), (0, u "maximum"), (2, u "(II)V"), (20, u "UNLIMITED"), (11, u "asNumber"), (0, u "(Z)J")] 36

def k3c0 : Code := { maxStack := 2, maxLocals := 3, code := prog_181_method_1_code, exceptionTable := #[], attributes := #[] }
def k3m0 : Method := { name := "<init>", desc := "(II)V", sig := { parameters := [.int, .int], returnType := none }, accessFlags := 1, code := some k3c0 }
def k3c1 : Code := { maxStack := 2, maxLocals := 3, code := prog_181_method_5_code, exceptionTable := #[], attributes := #[] }
def k3m1 : Method := { name := "asNumber", desc := "(Z)J", sig := { parameters := [.boolean], returnType := some .long }, accessFlags := 1, code := some k3c1 }
/-- com/example/corundum/corundum/runtime/Arity -/
def k3 : Class := { plain "com/example/corundum/corundum/runtime/Arity" (some 2) with
  accessFlags := 49
  interfaces := #[]
  cf := some (fileOf pool3 8 #[] #[{ accessFlags := 1, nameIndex := 5, descriptorIndex := 18, attributes := #[] }, { accessFlags := 1, nameIndex := 51, descriptorIndex := 52, attributes := #[] }] 49 2 #[] #[{ accessFlags := 18, nameIndex := 11, descriptorIndex := 12, attributes := #[] }, { accessFlags := 18, nameIndex := 15, descriptorIndex := 12, attributes := #[] }, { accessFlags := 25, nameIndex := 39, descriptorIndex := 12, attributes := #[] }])
  fields := #[{ name := "minimum", type := .int, accessFlags := 18, slot := 0, constantValue := 0 }, { name := "maximum", type := .int, accessFlags := 18, slot := 1, constantValue := 0 }, { name := "UNLIMITED", type := .int, accessFlags := 25, slot := 0, constantValue := 0 }]
  methods := #[k3m0, k3m1]
  instanceTypes := #[.int, .int]
  staticTypes := #[.int]
  resolved := Array.replicate 89 none
  statics := none }

def pool4 : Array CpInfo := pool [(1, u "java/lang/Cloneable"), (0, .class_ 1), (0, u "java/lang/Object"), (0, .class_ 3)] 3

/-- java/lang/Cloneable -/
def k4 : Class := { plain "java/lang/Cloneable" (some 0) with
  accessFlags := 1537
  interfaces := #[]
  cf := some (fileOf pool4 2 #[] #[] 1537 4 #[] #[])
  fields := #[]
  methods := #[]
  instanceTypes := #[]
  staticTypes := #[]
  resolved := Array.replicate 8 none
  statics := none }

def pool5 : Array CpInfo := pool [(1, u "java/io/Serializable"), (0, .class_ 1), (0, u "java/lang/Object"), (0, .class_ 3)] 3

/-- java/io/Serializable -/
def k5 : Class := { plain "java/io/Serializable" (some 0) with
  accessFlags := 1537
  interfaces := #[]
  cf := some (fileOf pool5 2 #[] #[] 1537 4 #[] #[])
  fields := #[]
  methods := #[]
  instanceTypes := #[]
  staticTypes := #[]
  resolved := Array.replicate 8 none
  statics := none }

/-- the primitive byte -/
def k6 : Class := { plain "byte" none with kind := .primitive 'B', accessFlags := 0x411 }
/-- [B -/
def k7 : Class := { plain "[B" (some 0) with kind := .array 6 .byte, interfaces := #[4, 5], accessFlags := 1041 }

/-- the primitive int -/
def k8 : Class := { plain "int" none with kind := .primitive 'I', accessFlags := 0x411 }
/-- [I -/
def k9 : Class := { plain "[I" (some 0) with kind := .array 8 .int, interfaces := #[4, 5], accessFlags := 1041 }

def heap : Heap := #[]
def classes : Array Class := #[k0, k1, k2, k3, k4, k5, k6, k7, k8, k9]
def interned : List (Array UInt16 × Addr) := []
def slotsUsed : Nat := 0
def theMethod : MethodId := ⟨1, 1⟩
def args0 : Array Value := #[.int 5, .int 3, .int 7]
def aboutOver (below : List Frame) : State where
  vm := { classes := classes, interned := interned.toArray }
  heap := heap
  slotsUsed := slotsUsed
  threads := #[{ frames := .invoking theMethod args0 :: below }]
def below0 : List Frame := [.native { method := ⟨0, 0⟩, args := #[] }]
def about1 : State := aboutOver below0
def p0 : Program := .bare "" "" ""
def e0 : Env := launch0.env 0 0 0
theorem w_frames : about1.frames = Frame.invoking theMethod args0 :: below0 := rfl
set_option maxRecDepth 65536 in
theorem w_args : argsFit about1.vm theMethod args0 = true := by decide +kernel
set_option maxRecDepth 65536 in
theorem w_heap : heapFits about1 = true := by decide +kernel
set_option maxRecDepth 65536 in
theorem w_runnable : about1.curStatus? = some .runnable := by decide +kernel
set_option maxRecDepth 65536 in
theorem w_alone : about1.alone = true := by decide +kernel
set_option maxRecDepth 65536 in
theorem w_named : about1.methodNamed? x = some theMethod := by decide +kernel
set_option maxRecDepth 65536 in
theorem w_hears : about1.hears theMethod below0 = true := by decide +kernel
set_option maxRecDepth 65536 in
theorem w_ripe : about1.ripe theMethod args0 below0 = true := by decide +kernel
theorem w_running : about1.status = .running := rfl
set_option maxRecDepth 65536 in
theorem w_room : about1.hasRoom e0.platform room_1 = true :=
  launch0.hasRoom_least _ room_1 (by decide +kernel) (by decide +kernel) (by decide +kernel) (by decide +kernel) (by decide +kernel) (by decide +kernel)
theorem allAtoms_all (ts : List Jvm.Cond) (a : Array Jvm.Value) (st : Jvm.State) : (allAtoms ts).before a st = ts.all (fun c => c.before a st) := by
  induction ts with
  | nil => rfl
  | cons c t ih =>
    show (Jvm.Cond.and c (allAtoms t)).before a st = _
    rw [Jvm.Cond.before_and, ih, List.all_cons]
def words1 : List Jvm.Cond := Jvm.Cond.code x code maxLocals ret :: tables_1
/-- a 'code' word, met by the world's own term for the bytes: nothing is compared byte by byte -/
theorem code_word {y : MethodName} {bytes : ByteArray} {mx : Nat} {rt : Option FieldType} {a : Array Value} {s : State} {m : MethodId} {meth : Method} {c : Code} (h1 : s.methodNamed? y = some m) (h2 : s.vm.method? m = some meth) (h3 : meth.code = some c) (h4 : c.code = bytes)
    (h5 : (c.maxLocals == mx && c.exceptionTable.isEmpty && decide (c.maxStack ≤ mostOperands) && decide (meth.sig.returnType = rt) && !meth.locks && decide (parseMethodDescriptor y.desc = some meth.sig)) = true) : (Jvm.Cond.code y bytes mx rt).before a s = true := by
  simp only [Bool.and_eq_true, beq_iff_eq, Bool.not_eq_true', decide_eq_true_eq] at h5
  obtain ⟨⟨⟨⟨⟨g1, g2⟩, g3⟩, g4⟩, g5⟩, g6⟩ := h5
  simp [Cond.before, Cond.holds, Cond.value, h1, h2, h3, h4, g1, g2, g3, g4, g5, g6]
def isCode : Jvm.Cond → Bool
  | .code _ _ _ _ => true
  | _ => false
theorem all_split {L : List Jvm.Cond} {P : Jvm.Cond → Bool} (h1 : L.all (fun c => isCode c || P c) = true) (h2 : ∀ c ∈ L.filter isCode, P c = true) : L.all P = true := by
  refine List.all_eq_true.mpr fun c hc => ?_
  have h := List.all_eq_true.mp h1 c hc
  rcases Bool.eq_false_or_eq_true (isCode c) with hi | hi
  · exact h2 c (List.mem_filter.mpr ⟨hc, hi⟩)
  · simpa [hi] using h
set_option maxRecDepth 65536 in
theorem w_c0 : (Jvm.Cond.code x code maxLocals ret).before args0 about1 = true := code_word (m := ⟨1, 1⟩) (meth := k1m1) (c := k1c1) (by decide +kernel) rfl rfl rfl (by decide +kernel)
set_option maxRecDepth 65536 in
theorem w_c1 : (Jvm.Cond.code ({ cls := "com/example/corundum/corundum/runtime/Arity", name := "<init>", desc := "(II)V" } : Jvm.MethodName) prog_181_method_1_code (3 : Nat) (Option.none : Option Jvm.ClassFile.FieldType)).before args0 about1 = true := code_word (m := ⟨3, 0⟩) (meth := k3m0) (c := k3c0) (by decide +kernel) rfl rfl rfl (by decide +kernel)
set_option maxRecDepth 65536 in
theorem w_c2 : (Jvm.Cond.code ({ cls := "java/lang/Record", name := "<init>", desc := "()V" } : Jvm.MethodName) jdk_30_method_1_code (1 : Nat) (Option.none : Option Jvm.ClassFile.FieldType)).before args0 about1 = true := code_word (m := ⟨2, 0⟩) (meth := k2m0) (c := k2c0) (by decide +kernel) rfl rfl rfl (by decide +kernel)
set_option maxRecDepth 65536 in
theorem w_c3 : (Jvm.Cond.code ({ cls := "java/lang/Object", name := "<init>", desc := "()V" } : Jvm.MethodName) object_method_1_code (1 : Nat) (Option.none : Option Jvm.ClassFile.FieldType)).before args0 about1 = true := code_word (m := ⟨0, 0⟩) (meth := k0m0) (c := k0c0) (by decide +kernel) rfl rfl rfl (by decide +kernel)
set_option maxRecDepth 65536 in
theorem w_c4 : (Jvm.Cond.code ({ cls := "com/example/corundum/corundum/runtime/Arity", name := "asNumber", desc := "(Z)J" } : Jvm.MethodName) prog_181_method_5_code (3 : Nat) (Option.some Jvm.ClassFile.FieldType.long)).before args0 about1 = true := code_word (m := ⟨3, 1⟩) (meth := k3m1) (c := k3c1) (by decide +kernel) rfl rfl rfl (by decide +kernel)
def codes1 : List Jvm.Cond := [Jvm.Cond.code x code maxLocals ret, Jvm.Cond.code ({ cls := "com/example/corundum/corundum/runtime/Arity", name := "<init>", desc := "(II)V" } : Jvm.MethodName) prog_181_method_1_code (3 : Nat) (Option.none : Option Jvm.ClassFile.FieldType), Jvm.Cond.code ({ cls := "java/lang/Record", name := "<init>", desc := "()V" } : Jvm.MethodName) jdk_30_method_1_code (1 : Nat) (Option.none : Option Jvm.ClassFile.FieldType), Jvm.Cond.code ({ cls := "java/lang/Object", name := "<init>", desc := "()V" } : Jvm.MethodName) object_method_1_code (1 : Nat) (Option.none : Option Jvm.ClassFile.FieldType), Jvm.Cond.code ({ cls := "com/example/corundum/corundum/runtime/Arity", name := "asNumber", desc := "(Z)J" } : Jvm.MethodName) prog_181_method_5_code (3 : Nat) (Option.some Jvm.ClassFile.FieldType.long)]
set_option maxRecDepth 65536 in
theorem codes_eq : words1.filter isCode = codes1 := rfl
theorem w_codes : ∀ c ∈ words1.filter isCode, c.before args0 about1 = true := by
  rw [codes_eq]
  intro c hc
  simp only [codes1, List.mem_cons, List.not_mem_nil, or_false] at hc
  rcases hc with rfl | rfl | rfl | rfl | rfl
  · exact w_c0
  · exact w_c1
  · exact w_c2
  · exact w_c3
  · exact w_c4
set_option maxRecDepth 65536 in
theorem w_t1 : (words1.take 24).all (fun c => isCode c || c.before args0 about1) = true := by decide +kernel
set_option maxRecDepth 65536 in
theorem w_t2 : (words1.drop 24).all (fun c => isCode c || c.before args0 about1) = true := by decide +kernel
theorem w_tables : (allAtoms (Jvm.Cond.code x code maxLocals ret :: tables_1)).before args0 about1 = true := by
  rw [allAtoms_all]
  show words1.all (fun c => c.before args0 about1) = true
  refine all_split ?_ w_codes
  rw [← List.take_append_drop 24 words1, List.all_append, w_t1, w_t2]
  rfl
set_option maxRecDepth 65536 in
theorem w_case : (Jvm.Cond.and given_1 narrow_1).before args0 about1 = true := by decide +kernel
theorem w_applies : (headSpec (Jvm.Cond.code x code maxLocals ret :: tables_1) room_1).applies x e0.platform about1 = true :=
  (Spec.applies_iff w_frames).mpr ⟨w_running, w_runnable, w_alone, w_named, w_hears, w_ripe, w_room, w_tables⟩
theorem atStart : AtStart classFile x code maxLocals ret World_1 tables_1 room_1 Calls_1 rest_1 Pre_1 launch0 p0 e0 about1 theMethod args0 below0 :=
  ⟨lists_1, trivial, launch0.admits_env _ _ _, launch0.least_env, fairChoices_fair.cas, fairChoices_fair.clock, w_frames, w_args, w_heap, w_applies, trivial, trivial, w_case⟩
end start1
theorem witness_1 : WitnessClaimed_1 := ⟨start1.p0, start1.e0, start1.about1, start1.theMethod, start1.args0, start1.below0, start1.atStart⟩
end Jvm.Pilot.@@N@@
