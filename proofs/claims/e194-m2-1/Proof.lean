import JvmDerived
import JvmDerived.Pilot.@@N@@Statement
import JvmDerived.Pilot.@@N@@Code
set_option linter.unusedVariables false
set_option linter.unusedSimpArgs false
namespace Jvm.Pilot.@@N@@
open Jvm Jvm.ClassFile Sem Op Lib Jvm.Free Jvm.Stand Jvm.LawKit Jvm.RoadKit Bundle Jvm.Pilot.@@N@@.Jvm.D
/-- from (T, g) the run comes to (T', g') -/
abbrev own_Go (p : Program) (e : Env) (below : List Frame) (T : State) (g : JFrame) (T' : State) (g' : JFrame) : Prop := ∀ t, Steps p.tables e below (T'.setTop g') t → Steps p.tables e below (T.setTop g) t
def own_bz (z : Int32) : Int32 := if z = 0 then 0 else 1
theorem own_bz_and (z : Int32) : own_bz z &&& 1 = own_bz z := by unfold own_bz; split <;> decide
section OwnBool
variable {p : Program} {l : Launch} {e : Env} {R : Room} {s : State} {m : MethodId} {args : Array Value} {below : List Frame} {meth : Method} {c : Code} {T : State} {locs : List Loc} {cells slots : Nat}
/-- 'z != 0 ? 1 : 0' as javac lays it: ifeq +7, iconst_1, goto +4, iconst_0 -/
theorem own_bool (X : Stand p l e R s m args below meth c T locs cells slots) (hx : p.tables.exec = Jvm.exec) {pc : Nat} {Ls : Array Slot} {z : Int32} {rest : List Value}
    (d0 : decode c.code pc = .ok (.ifCond .eq 7, 3)) (d1 : decode c.code (pc + 3) = .ok (.iconst 1, 1)) (d2 : decode c.code (pc + 4) = .ok (.goto 4, 3)) (d3 : decode c.code (pc + 7) = .ok (.iconst 0, 1)) :
    own_Go p e below T (mkF m pc Ls (.int z :: rest)) T (mkF m (pc + 8) Ls (.int (own_bz z) :: rest)) := by
  intro t hr
  by_cases h : z = 0
  · have hv : own_bz z = 0 := by simp [own_bz, h]
    rw [hv] at hr
    refine XS.ifYes X.here hx rfl (pc0 := pc) (pc' := pc + 7) rfl d0 rfl ((if0 _ _).trans (teq h).1) (by omega) (by omega) ?_
    exact XS.iconst X.here hx rfl d3 hr
  · have hv : own_bz z = 1 := by simp [own_bz, h]
    rw [hv] at hr
    refine XS.ifNo X.here hx rfl d0 rfl ((if0 _ _).trans (feq h).1) ?_
    refine XS.iconst X.here hx rfl d1 ?_
    exact XS.goto X.here hx rfl (pc0 := pc + 4) (pc' := pc + 8) rfl d2 (by omega) (by omega) hr
end OwnBool
def own_al (a b c d : Int32) : Int32 := if a = b ∧ c = d then 1 else 0
theorem own_al_symm (a b c d : Int32) : own_al b a d c = own_al a b c d := by unfold own_al; simp only [eq_comm]
theorem d1_0 : decode prog_101_method_1_code 0 = .ok (.aload_n 0, 1) := by decide +kernel
theorem d1_1 : decode prog_101_method_1_code 1 = .ok (.invokespecial 1, 3) := by decide +kernel
theorem d1_4 : decode prog_101_method_1_code 4 = .ok (.aload_n 0, 1) := by decide +kernel
theorem d1_5 : decode prog_101_method_1_code 5 = .ok (.iload_n 1, 1) := by decide +kernel
theorem d1_6 : decode prog_101_method_1_code 6 = .ok (.putfield 7, 3) := by decide +kernel
theorem d1_9 : decode prog_101_method_1_code 9 = .ok (.aload_n 0, 1) := by decide +kernel
theorem d1_10 : decode prog_101_method_1_code 10 = .ok (.iload_n 2, 1) := by decide +kernel
theorem d1_11 : decode prog_101_method_1_code 11 = .ok (.putfield 13, 3) := by decide +kernel
theorem d1_14 : decode prog_101_method_1_code 14 = .ok (.aload_n 0, 1) := by decide +kernel
theorem d1_15 : decode prog_101_method_1_code 15 = .ok (.iload_n 3, 1) := by decide +kernel
theorem d1_16 : decode prog_101_method_1_code 16 = .ok (.putfield 16, 3) := by decide +kernel
theorem d1_19 : decode prog_101_method_1_code 19 = .ok (.return_, 1) := by decide +kernel
theorem pn_1 : plainName "com/example/prudent_alter/prudentalter/Quoting" = true := by first | (simp [plainName, overriddenIn]; done) | decide +kernel
theorem ef_rm1 (m : MethodId) (x0 : Addr) (x1 : Int32) (x2 : Int32) (x3 : Int32) : entryFrame m #[(.ref x0), (.int x1), (.int x2), (.int x3)] 4 = mkF m 0 #[.val (.ref x0), .val (.int x1), .val (.int x2), .val (.int x3)] [] := by first | (simp [entryFrame, mkF, argsToLocals, Value.category]; done) | rfl
def Q_rm1 (Z : State) (a1 : Addr) (p2 p3 p4 : Int32) (h0 : Heap) (n0 : Nat) (v : Option Value) (h : Heap) (L : List Loc) : Prop := v = none ∧ Fr n0 L ∧ Keep h0 h [a1] ∧ Exa Z h a1 "com/example/prudent_alter/prudentalter/Quoting" ∧ Fld Z h a1 "com/example/prudent_alter/prudentalter/Quoting" "doubleQuotedNames" "Z" (.int p2) ∧ Fld Z h a1 "com/example/prudent_alter/prudentalter/Quoting" "backslashEscapes" "Z" (.int p3) ∧ Fld Z h a1 "com/example/prudent_alter/prudentalter/Quoting" "known" "Z" (.int p4)
set_option maxRecDepth 65536 in
set_option maxHeartbeats 40000000 in
theorem rm1 (l : Launch) (Z : State) (a0 : Array Value) (hw : ∀ d ∈ tables_1, d.before a0 Z = true) (ws : List Jvm.Cond) (a1 : Addr) (p2 : Int32) (p3 : Int32) (p4 : Int32)  (h0 : Heap) (n0 : Nat) (Z0 : n0 ≤ h0.size) (F0 : Fld Z h0 a1 "com/example/prudent_alter/prudentalter/Quoting" "doubleQuotedNames" "Z" (.int (0 : Int32))) (F1 : Fld Z h0 a1 "com/example/prudent_alter/prudentalter/Quoting" "backslashEscapes" "Z" (.int (0 : Int32))) (F2 : Fld Z h0 a1 "com/example/prudent_alter/prudentalter/Quoting" "known" "Z" (.int (0 : Int32))) (E1 : Exa Z h0 a1 "com/example/prudent_alter/prudentalter/Quoting") (g_a1 : n0 ≤ a1) (b2 : p2 &&& 1 = p2) (b3 : p3 &&& 1 = p3) (b4 : p4 &&& 1 = p4) :
    MetFree l (⟨"com/example/prudent_alter/prudentalter/Quoting", "<init>", "(ZZZ)V"⟩ : MethodName) (head1 (Jvm.Cond.code (⟨"com/example/prudent_alter/prudentalter/Quoting", "<init>", "(ZZZ)V"⟩ : MethodName) prog_101_method_1_code 4 none :: ws) ({ frames := 1, cells := 0, slots := 0, locals := 12 } : Room)) (fun a U => a = #[(.ref a1), (.int p2), (.int p3), (.int p4)] ∧ Z.Warmed39 U.vm ∧ U.heap = h0) (fun _ _ _ _ _ => True) (fun _ U o U' => ∃ v L, o = .returned v ∧ Q_rm1 Z a1 p2 p3 p4 h0 n0 v U'.heap L ∧ FrameEnd U o U' L (({ frames := 1, cells := 0, slots := 0, locals := 12 } : Room)).cells (({ frames := 1, cells := 0, slots := 0, locals := 12 } : Room)).slots) := by
  refine MetFree.of_bodySF (plainFor_of_name pn_1) hisR ?_
  intro p e s m args below meth c s₁ Bd hml0 hP hK
  obtain ⟨rfl, hZ, hh⟩ := hP
  have hx := Bd.exec
  have hby := Bd.bytes
  have hml : c.maxLocals = 4 := hml0
  have hown : s.vm.findClass "com/example/prudent_alter/prudentalter/Quoting" = some m.cls := findClass_of_methodNamed Bd.named
  have hnm := (name_of_methodNamed Bd.named Bd.method).1
  have X0 : Stand p l e ({ frames := 1, cells := 0, slots := 0, locals := 12 } : Room) s m #[(.ref a1), (.int p2), (.int p3), (.int p4)] below meth c s₁ [] 0 0 := Stand.of_body Bd
  have e0 : s₁.heap = h0 := by rw [← hh, Bd.state]; rfl
  have N0 := Fr.nil n0
  have g0 : own_Go p e below s₁ (entryFrame m #[(.ref a1), (.int p2), (.int p3), (.int p4)] 4) s₁ (mkF m 0 #[.val (.ref a1), .val (.int p2), .val (.int p3), .val (.int p4)] []) := fun t k => castTop (ef_rm1 m a1 p2 p3 p4) k
  have K0 : Keep h0 h0 [a1] := Keep.refl h0 _
  have g1 : own_Go p e below s₁ (entryFrame m #[(.ref a1), (.int p2), (.int p3), (.int p4)] 4) s₁ (mkF m 1 #[.val (.ref a1), .val (.int p2), .val (.int p3), .val (.int p4)] [(.ref a1)]) := fun t kt => g0 t (by
    show Steps p.tables e below (s₁.setTop (mkF m 0 #[.val (.ref a1), .val (.int p2), .val (.int p3), .val (.int p4)] [])) _
    refine XS.aloadN X0.here hx rfl (hb hby d1_0) rfl rfl ?_
    exact kt)
  obtain ⟨T2, X2, e2, st2⟩ := initO X0 hx hZ hown (hw _ (List.mem_of_getElem? (i := 6) rfl)) (hw _ (List.mem_of_getElem? (i := 7) rfl)) (hw _ (List.mem_of_getElem? (i := 8) rfl)) e0 (g := (mkF m 1 #[.val (.ref a1), .val (.int p2), .val (.int p3), .val (.int p4)] [(.ref a1)])) rfl (by rw [hml]; rfl) rfl (hb hby d1_1) (by decide) (W := 0) (by show 2 * 0 + _ ≤ _; exact Nat.le_of_eq rfl) (by decide)
  have g2 : own_Go p e below s₁ (entryFrame m #[(.ref a1), (.int p2), (.int p3), (.int p4)] 4) T2 (mkF m 4 #[.val (.ref a1), .val (.int p2), .val (.int p3), .val (.int p4)] []) := fun t kt => g1 t (st2 _ kt)
  have g3 : own_Go p e below s₁ (entryFrame m #[(.ref a1), (.int p2), (.int p3), (.int p4)] 4) T2 (mkF m 6 #[.val (.ref a1), .val (.int p2), .val (.int p3), .val (.int p4)] [(.int p2), (.ref a1)]) := fun t kt => g2 t (by
    show Steps p.tables e below (T2.setTop (mkF m 4 #[.val (.ref a1), .val (.int p2), .val (.int p3), .val (.int p4)] [])) _
    refine XS.aloadN X2.here hx rfl (hb hby d1_4) rfl rfl ?_
    show Steps p.tables e below (T2.setTop (mkF m 5 #[.val (.ref a1), .val (.int p2), .val (.int p3), .val (.int p4)] [(.ref a1)])) _
    refine XS.iloadN X2.here hx rfl (hb hby d1_5) rfl ?_
    exact kt)
  obtain ⟨T4, h4, X4, e4, W4, st4⟩ := putFN X2 hx hZ hown (hw _ (List.mem_of_getElem? (i := 9) rfl)) Via.refl e2 F0 E1 (Or.inr ⟨(hw _ (List.mem_of_getElem? (i := 10) rfl)), rfl, hnm⟩) (hw _ (List.mem_of_getElem? (i := 1) rfl)) (ty := .boolean) (v' := (.int p2)) (by decide) (show narrow .boolean (.int p2) = (.int p2) from congrArg Value.int b2) (b2 ▸ fits_nar_bool p2) (g := (mkF m 6 #[.val (.ref a1), .val (.int p2), .val (.int p3), .val (.int p4)] [(.int p2), (.ref a1)])) rfl rfl (hb hby d1_6)
  have f5 := E1.wr W4
  have f7 := F1.other W4 (Or.inr (slot_ne (Or.inr (hw _ (List.mem_of_getElem? (i := 12) rfl))) (Or.inr (hw _ (List.mem_of_getElem? (i := 10) rfl))) (by decide) (t := .boolean) (t' := .boolean) (by decide) (by decide)))
  have f8 := F2.other W4 (Or.inr (slot_ne (Or.inr (hw _ (List.mem_of_getElem? (i := 14) rfl))) (Or.inr (hw _ (List.mem_of_getElem? (i := 10) rfl))) (by decide) (t := .boolean) (t' := .boolean) (by decide) (by decide)))
  have f4w := F0.same W4
  have N4 := Fr.snoc X4 N0 g_a1
  have K4 : Keep h0 h4 [a1] := K0.wr W4 (Or.inl (List.mem_of_getElem? (i := 0) rfl))
  have g4 : own_Go p e below s₁ (entryFrame m #[(.ref a1), (.int p2), (.int p3), (.int p4)] 4) T4 (mkF m 9 #[.val (.ref a1), .val (.int p2), .val (.int p3), .val (.int p4)] []) := fun t kt => g3 t (st4 _ kt)
  have g9 : own_Go p e below s₁ (entryFrame m #[(.ref a1), (.int p2), (.int p3), (.int p4)] 4) T4 (mkF m 11 #[.val (.ref a1), .val (.int p2), .val (.int p3), .val (.int p4)] [(.int p3), (.ref a1)]) := fun t kt => g4 t (by
    show Steps p.tables e below (T4.setTop (mkF m 9 #[.val (.ref a1), .val (.int p2), .val (.int p3), .val (.int p4)] [])) _
    refine XS.aloadN X4.here hx rfl (hb hby d1_9) rfl rfl ?_
    show Steps p.tables e below (T4.setTop (mkF m 10 #[.val (.ref a1), .val (.int p2), .val (.int p3), .val (.int p4)] [(.ref a1)])) _
    refine XS.iloadN X4.here hx rfl (hb hby d1_10) rfl ?_
    exact kt)
  obtain ⟨T10, h10, X10, e10, W10, st10⟩ := putFN X4 hx hZ hown (hw _ (List.mem_of_getElem? (i := 11) rfl)) Via.refl e4 f7 f5 (Or.inr ⟨(hw _ (List.mem_of_getElem? (i := 12) rfl)), rfl, hnm⟩) (hw _ (List.mem_of_getElem? (i := 1) rfl)) (ty := .boolean) (v' := (.int p3)) (by decide) (show narrow .boolean (.int p3) = (.int p3) from congrArg Value.int b3) (b3 ▸ fits_nar_bool p3) (g := (mkF m 11 #[.val (.ref a1), .val (.int p2), .val (.int p3), .val (.int p4)] [(.int p3), (.ref a1)])) rfl rfl (hb hby d1_11)
  have f11 := f5.wr W10
  have f12 := f4w.other W10 (Or.inr (slot_ne (Or.inr (hw _ (List.mem_of_getElem? (i := 10) rfl))) (Or.inr (hw _ (List.mem_of_getElem? (i := 12) rfl))) (by decide) (t := .boolean) (t' := .boolean) (by decide) (by decide)))
  have f14 := f8.other W10 (Or.inr (slot_ne (Or.inr (hw _ (List.mem_of_getElem? (i := 14) rfl))) (Or.inr (hw _ (List.mem_of_getElem? (i := 12) rfl))) (by decide) (t := .boolean) (t' := .boolean) (by decide) (by decide)))
  have f10w := f7.same W10
  have N10 := Fr.snoc X10 N4 g_a1
  have K10 : Keep h0 h10 [a1] := K4.wr W10 (Or.inl (List.mem_of_getElem? (i := 0) rfl))
  have g10 : own_Go p e below s₁ (entryFrame m #[(.ref a1), (.int p2), (.int p3), (.int p4)] 4) T10 (mkF m 14 #[.val (.ref a1), .val (.int p2), .val (.int p3), .val (.int p4)] []) := fun t kt => g9 t (st10 _ kt)
  have g15 : own_Go p e below s₁ (entryFrame m #[(.ref a1), (.int p2), (.int p3), (.int p4)] 4) T10 (mkF m 16 #[.val (.ref a1), .val (.int p2), .val (.int p3), .val (.int p4)] [(.int p4), (.ref a1)]) := fun t kt => g10 t (by
    show Steps p.tables e below (T10.setTop (mkF m 14 #[.val (.ref a1), .val (.int p2), .val (.int p3), .val (.int p4)] [])) _
    refine XS.aloadN X10.here hx rfl (hb hby d1_14) rfl rfl ?_
    show Steps p.tables e below (T10.setTop (mkF m 15 #[.val (.ref a1), .val (.int p2), .val (.int p3), .val (.int p4)] [(.ref a1)])) _
    refine XS.iloadN X10.here hx rfl (hb hby d1_15) rfl ?_
    exact kt)
  obtain ⟨T16, h16, X16, e16, W16, st16⟩ := putFN X10 hx hZ hown (hw _ (List.mem_of_getElem? (i := 13) rfl)) Via.refl e10 f14 f11 (Or.inr ⟨(hw _ (List.mem_of_getElem? (i := 14) rfl)), rfl, hnm⟩) (hw _ (List.mem_of_getElem? (i := 1) rfl)) (ty := .boolean) (v' := (.int p4)) (by decide) (show narrow .boolean (.int p4) = (.int p4) from congrArg Value.int b4) (b4 ▸ fits_nar_bool p4) (g := (mkF m 16 #[.val (.ref a1), .val (.int p2), .val (.int p3), .val (.int p4)] [(.int p4), (.ref a1)])) rfl rfl (hb hby d1_16)
  have f17 := f11.wr W16
  have f18 := f12.other W16 (Or.inr (slot_ne (Or.inr (hw _ (List.mem_of_getElem? (i := 10) rfl))) (Or.inr (hw _ (List.mem_of_getElem? (i := 14) rfl))) (by decide) (t := .boolean) (t' := .boolean) (by decide) (by decide)))
  have f19 := f10w.other W16 (Or.inr (slot_ne (Or.inr (hw _ (List.mem_of_getElem? (i := 12) rfl))) (Or.inr (hw _ (List.mem_of_getElem? (i := 14) rfl))) (by decide) (t := .boolean) (t' := .boolean) (by decide) (by decide)))
  have f16w := f14.same W16
  have N16 := Fr.snoc X16 N10 g_a1
  have K16 : Keep h0 h16 [a1] := K10.wr W16 (Or.inl (List.mem_of_getElem? (i := 0) rfl))
  have g16 : own_Go p e below s₁ (entryFrame m #[(.ref a1), (.int p2), (.int p3), (.int p4)] 4) T16 (mkF m 19 #[.val (.ref a1), .val (.int p2), .val (.int p3), .val (.int p4)] []) := fun t kt => g15 t (st16 _ kt)
  obtain ⟨fs, hr, hrun, hended, hW, hsame⟩ := X16.leave (v := none) (fun _ => rfl)
  refine ⟨_, _, g16 _ (X16.returnOut hx Bd.returns (hb hby d1_19) hr), hrun, hended, _, _, rfl, ?_, ⟨_, rfl⟩, hW, hsame.mono (by decide) (by decide)⟩
  show Q_rm1 Z a1 p2 p3 p4 h0 n0 _ T16.heap _
  rw [e16]
  exact ⟨rfl, N16, K16, f17, f18, f19, f16w⟩
theorem d3_0 : decode prog_101_method_5_code 0 = .ok (.aload_n 0, 1) := by decide +kernel
theorem d3_1 : decode prog_101_method_5_code 1 = .ok (.getfield 7, 3) := by decide +kernel
theorem d3_4 : decode prog_101_method_5_code 4 = .ok (.aload_n 1, 1) := by decide +kernel
theorem d3_5 : decode prog_101_method_5_code 5 = .ok (.getfield 7, 3) := by decide +kernel
theorem d3_8 : decode prog_101_method_5_code 8 = .ok (.if_icmp .ne 18, 3) := by decide +kernel
theorem d3_11 : decode prog_101_method_5_code 11 = .ok (.aload_n 0, 1) := by decide +kernel
theorem d3_12 : decode prog_101_method_5_code 12 = .ok (.getfield 13, 3) := by decide +kernel
theorem d3_15 : decode prog_101_method_5_code 15 = .ok (.aload_n 1, 1) := by decide +kernel
theorem d3_16 : decode prog_101_method_5_code 16 = .ok (.getfield 13, 3) := by decide +kernel
theorem d3_19 : decode prog_101_method_5_code 19 = .ok (.if_icmp .ne 7, 3) := by decide +kernel
theorem d3_22 : decode prog_101_method_5_code 22 = .ok (.iconst 1, 1) := by decide +kernel
theorem d3_23 : decode prog_101_method_5_code 23 = .ok (.goto 4, 3) := by decide +kernel
theorem d3_26 : decode prog_101_method_5_code 26 = .ok (.iconst 0, 1) := by decide +kernel
theorem d3_27 : decode prog_101_method_5_code 27 = .ok (.ireturn, 1) := by decide +kernel
theorem pn_3 : plainName "com/example/prudent_alter/prudentalter/Quoting" = true := by first | (simp [plainName, overriddenIn]; done) | decide +kernel
theorem ef_rm3 (m : MethodId) (x0 : Addr) (x1 : Addr) : entryFrame m #[(.ref x0), (.ref x1)] 2 = mkF m 0 #[.val (.ref x0), .val (.ref x1)] [] := by first | (simp [entryFrame, mkF, argsToLocals, Value.category]; done) | rfl
def Q_rm3 (Z : State) (w1 w2 w3 w4 : Int32) (h0 : Heap) (n0 : Nat) (v : Option Value) (h : Heap) (L : List Loc) : Prop := v = some (.int (own_al w1 w2 w3 w4)) ∧ Fr n0 L ∧ h = h0
set_option maxRecDepth 65536 in
set_option maxHeartbeats 40000000 in
theorem rm3 (l : Launch) (Z : State) (a0 : Array Value) (hw : ∀ d ∈ tables_1, d.before a0 Z = true) (ws : List Jvm.Cond) (a1 : Addr) (a2 : Addr) (w1 w2 w3 w4 : Int32) (h0 : Heap) (n0 : Nat) (Z0 : n0 ≤ h0.size) (F0 : Fld Z h0 a1 "com/example/prudent_alter/prudentalter/Quoting" "doubleQuotedNames" "Z" (.int w1)) (F1 : Fld Z h0 a2 "com/example/prudent_alter/prudentalter/Quoting" "doubleQuotedNames" "Z" (.int w2)) (F2 : Fld Z h0 a1 "com/example/prudent_alter/prudentalter/Quoting" "backslashEscapes" "Z" (.int w3)) (F3 : Fld Z h0 a2 "com/example/prudent_alter/prudentalter/Quoting" "backslashEscapes" "Z" (.int w4)) :
    MetFree l (⟨"com/example/prudent_alter/prudentalter/Quoting", "readsAlike", "(Lcom/example/prudent_alter/prudentalter/Quoting;)Z"⟩ : MethodName) (head1 (Jvm.Cond.code (⟨"com/example/prudent_alter/prudentalter/Quoting", "readsAlike", "(Lcom/example/prudent_alter/prudentalter/Quoting;)Z"⟩ : MethodName) prog_101_method_5_code 2 (some .boolean) :: ws) ({ frames := 0, cells := 0, slots := 0, locals := 0 } : Room)) (fun a U => a = #[(.ref a1), (.ref a2)] ∧ Z.Warmed39 U.vm ∧ U.heap = h0) (fun _ _ _ _ _ => True) (fun _ U o U' => ∃ v L, o = .returned v ∧ Q_rm3 Z w1 w2 w3 w4 h0 n0 v U'.heap L ∧ FrameEnd U o U' L (({ frames := 0, cells := 0, slots := 0, locals := 0 } : Room)).cells (({ frames := 0, cells := 0, slots := 0, locals := 0 } : Room)).slots) := by
  refine MetFree.of_bodySF (plainFor_of_name pn_3) hisR ?_
  intro p e s m args below meth c s₁ Bd hml0 hP hK
  obtain ⟨rfl, hZ, hh⟩ := hP
  have hx := Bd.exec
  have hby := Bd.bytes
  have hml : c.maxLocals = 2 := hml0
  have hown : s.vm.findClass "com/example/prudent_alter/prudentalter/Quoting" = some m.cls := findClass_of_methodNamed Bd.named
  have hnm := (name_of_methodNamed Bd.named Bd.method).1
  have X0 : Stand p l e ({ frames := 0, cells := 0, slots := 0, locals := 0 } : Room) s m #[(.ref a1), (.ref a2)] below meth c s₁ [] 0 0 := Stand.of_body Bd
  have e0 : s₁.heap = h0 := by rw [← hh, Bd.state]; rfl
  have N0 := Fr.nil n0
  have g0 : own_Go p e below s₁ (entryFrame m #[(.ref a1), (.ref a2)] 2) s₁ (mkF m 0 #[.val (.ref a1), .val (.ref a2)] []) := fun t k => castTop (ef_rm3 m a1 a2) k
  have g1 : own_Go p e below s₁ (entryFrame m #[(.ref a1), (.ref a2)] 2) s₁ (mkF m 1 #[.val (.ref a1), .val (.ref a2)] [(.ref a1)]) := fun t kt => g0 t (by
    show Steps p.tables e below (s₁.setTop (mkF m 0 #[.val (.ref a1), .val (.ref a2)] [])) _
    refine XS.aloadN X0.here hx rfl (hb hby d3_0) rfl rfl ?_
    exact kt)
  obtain ⟨T2, X2, e2, st2⟩ := getF X0 hx hZ hown (host := "") (Or.inl (hw _ (List.mem_of_getElem? (i := 9) rfl))) Via.refl e0 F0 (g := (mkF m 1 #[.val (.ref a1), .val (.ref a2)] [(.ref a1)])) rfl rfl (hb hby d3_1)
  have g2 : own_Go p e below s₁ (entryFrame m #[(.ref a1), (.ref a2)] 2) T2 (mkF m 4 #[.val (.ref a1), .val (.ref a2)] [(.int w1)]) := fun t kt => g1 t (st2 _ kt)
  have g3 : own_Go p e below s₁ (entryFrame m #[(.ref a1), (.ref a2)] 2) T2 (mkF m 5 #[.val (.ref a1), .val (.ref a2)] [(.ref a2), (.int w1)]) := fun t kt => g2 t (by
    show Steps p.tables e below (T2.setTop (mkF m 4 #[.val (.ref a1), .val (.ref a2)] [(.int w1)])) _
    refine XS.aloadN X2.here hx rfl (hb hby d3_4) rfl rfl ?_
    exact kt)
  obtain ⟨T4, X4, e4, st4⟩ := getF X2 hx hZ hown (host := "") (Or.inl (hw _ (List.mem_of_getElem? (i := 9) rfl))) Via.refl e2 F1 (g := (mkF m 5 #[.val (.ref a1), .val (.ref a2)] [(.ref a2), (.int w1)])) rfl rfl (hb hby d3_5)
  have g4 : own_Go p e below s₁ (entryFrame m #[(.ref a1), (.ref a2)] 2) T4 (mkF m 8 #[.val (.ref a1), .val (.ref a2)] [(.int w2), (.int w1)]) := fun t kt => g3 t (st4 _ kt)
  by_cases hA : w1 = w2
  · have g5 : own_Go p e below s₁ (entryFrame m #[(.ref a1), (.ref a2)] 2) T4 (mkF m 12 #[.val (.ref a1), .val (.ref a2)] [(.ref a1)]) := fun t kt => g4 t (by
      show Steps p.tables e below (T4.setTop (mkF m 8 #[.val (.ref a1), .val (.ref a2)] [(.int w2), (.int w1)])) _
      refine XS.icmpNo X4.here hx rfl (hb hby d3_8) rfl (teq hA).2 ?_
      show Steps p.tables e below (T4.setTop (mkF m 11 #[.val (.ref a1), .val (.ref a2)] [])) _
      refine XS.aloadN X4.here hx rfl (hb hby d3_11) rfl rfl ?_
      exact kt)
    obtain ⟨T6, X6, e6, st6⟩ := getF X4 hx hZ hown (host := "") (Or.inl (hw _ (List.mem_of_getElem? (i := 11) rfl))) Via.refl e4 F2 (g := (mkF m 12 #[.val (.ref a1), .val (.ref a2)] [(.ref a1)])) rfl rfl (hb hby d3_12)
    have g6 : own_Go p e below s₁ (entryFrame m #[(.ref a1), (.ref a2)] 2) T6 (mkF m 15 #[.val (.ref a1), .val (.ref a2)] [(.int w3)]) := fun t kt => g5 t (st6 _ kt)
    have g7 : own_Go p e below s₁ (entryFrame m #[(.ref a1), (.ref a2)] 2) T6 (mkF m 16 #[.val (.ref a1), .val (.ref a2)] [(.ref a2), (.int w3)]) := fun t kt => g6 t (by
      show Steps p.tables e below (T6.setTop (mkF m 15 #[.val (.ref a1), .val (.ref a2)] [(.int w3)])) _
      refine XS.aloadN X6.here hx rfl (hb hby d3_15) rfl rfl ?_
      exact kt)
    obtain ⟨T8, X8, e8, st8⟩ := getF X6 hx hZ hown (host := "") (Or.inl (hw _ (List.mem_of_getElem? (i := 11) rfl))) Via.refl e6 F3 (g := (mkF m 16 #[.val (.ref a1), .val (.ref a2)] [(.ref a2), (.int w3)])) rfl rfl (hb hby d3_16)
    have g8 : own_Go p e below s₁ (entryFrame m #[(.ref a1), (.ref a2)] 2) T8 (mkF m 19 #[.val (.ref a1), .val (.ref a2)] [(.int w4), (.int w3)]) := fun t kt => g7 t (st8 _ kt)
    by_cases hB : w3 = w4
    · have hv : own_al w1 w2 w3 w4 = 1 := by simp [own_al, hA, hB]
      have g9 : own_Go p e below s₁ (entryFrame m #[(.ref a1), (.ref a2)] 2) T8 (mkF m 27 #[.val (.ref a1), .val (.ref a2)] [(.int (1 : Int32))]) := fun t kt => g8 t (by
        show Steps p.tables e below (T8.setTop (mkF m 19 #[.val (.ref a1), .val (.ref a2)] [(.int w4), (.int w3)])) _
        refine XS.icmpNo X8.here hx rfl (hb hby d3_19) rfl (teq hB).2 ?_
        show Steps p.tables e below (T8.setTop (mkF m 22 #[.val (.ref a1), .val (.ref a2)] [])) _
        refine XS.iconst X8.here hx rfl (hb hby d3_22) ?_
        show Steps p.tables e below (T8.setTop (mkF m 23 #[.val (.ref a1), .val (.ref a2)] [(.int (1 : Int32))])) _
        refine XS.goto X8.here hx rfl (pc0 := 23) (pc' := 27) rfl (hb hby d3_23) (by decide) (by decide) ?_
        exact kt)
      obtain ⟨fs, hr, hrun, hended, hW, hsame⟩ := X8.leave (v := some (.int (1 : Int32))) (fun h => by rw [Bd.returns] at h; cases h)
      refine ⟨_, _, g9 _ (retN X8 hx (t := .boolean) Bd.returns (by simp) (hb hby d3_27) hr), hrun, hended, _, _, rfl, ?_, ⟨_, rfl⟩, hW, hsame.mono (by decide) (by decide)⟩
      show Q_rm3 Z w1 w2 w3 w4 h0 n0 _ T8.heap _
      rw [e8]
      exact ⟨by rw [hv], N0, rfl⟩
    · have hv : own_al w1 w2 w3 w4 = 0 := by simp [own_al, hB]
      have g10 : own_Go p e below s₁ (entryFrame m #[(.ref a1), (.ref a2)] 2) T8 (mkF m 27 #[.val (.ref a1), .val (.ref a2)] [(.int (0 : Int32))]) := fun t kt => g8 t (by
        show Steps p.tables e below (T8.setTop (mkF m 19 #[.val (.ref a1), .val (.ref a2)] [(.int w4), (.int w3)])) _
        refine XS.icmpYes X8.here hx rfl (pc0 := 19) (pc' := 26) rfl (hb hby d3_19) rfl (feq hB).2 (by decide) (by decide) ?_
        show Steps p.tables e below (T8.setTop (mkF m 26 #[.val (.ref a1), .val (.ref a2)] [])) _
        refine XS.iconst X8.here hx rfl (hb hby d3_26) ?_
        exact kt)
      obtain ⟨fs, hr, hrun, hended, hW, hsame⟩ := X8.leave (v := some (.int (0 : Int32))) (fun h => by rw [Bd.returns] at h; cases h)
      refine ⟨_, _, g10 _ (retN X8 hx (t := .boolean) Bd.returns (by simp) (hb hby d3_27) hr), hrun, hended, _, _, rfl, ?_, ⟨_, rfl⟩, hW, hsame.mono (by decide) (by decide)⟩
      show Q_rm3 Z w1 w2 w3 w4 h0 n0 _ T8.heap _
      rw [e8]
      exact ⟨by rw [hv], N0, rfl⟩
  · have hv : own_al w1 w2 w3 w4 = 0 := by simp [own_al, hA]
    have g11 : own_Go p e below s₁ (entryFrame m #[(.ref a1), (.ref a2)] 2) T4 (mkF m 27 #[.val (.ref a1), .val (.ref a2)] [(.int (0 : Int32))]) := fun t kt => g4 t (by
      show Steps p.tables e below (T4.setTop (mkF m 8 #[.val (.ref a1), .val (.ref a2)] [(.int w2), (.int w1)])) _
      refine XS.icmpYes X4.here hx rfl (pc0 := 8) (pc' := 26) rfl (hb hby d3_8) rfl (feq hA).2 (by decide) (by decide) ?_
      show Steps p.tables e below (T4.setTop (mkF m 26 #[.val (.ref a1), .val (.ref a2)] [])) _
      refine XS.iconst X4.here hx rfl (hb hby d3_26) ?_
      exact kt)
    obtain ⟨fs, hr, hrun, hended, hW, hsame⟩ := X4.leave (v := some (.int (0 : Int32))) (fun h => by rw [Bd.returns] at h; cases h)
    refine ⟨_, _, g11 _ (retN X4 hx (t := .boolean) Bd.returns (by simp) (hb hby d3_27) hr), hrun, hended, _, _, rfl, ?_, ⟨_, rfl⟩, hW, hsame.mono (by decide) (by decide)⟩
    show Q_rm3 Z w1 w2 w3 w4 h0 n0 _ T4.heap _
    rw [e4]
    exact ⟨by rw [hv], N0, rfl⟩
theorem pn_0 : plainName "com/example/prudent_alter/prudentalter/QuotingReadsAlikePinLaw" = true := by first | (simp [plainName, overriddenIn]; done) | decide +kernel
theorem pd_0 : parseMethodDescriptor "(ZZZ)V" = some ⟨[.boolean, .boolean, .boolean], none⟩ := by decide +kernel
theorem pd_1 : parseMethodDescriptor "(Lcom/example/prudent_alter/prudentalter/Quoting;)Z" = some ⟨[(.object "com/example/prudent_alter/prudentalter/Quoting")], some .boolean⟩ := by decide +kernel
theorem ef_rm0 (m : MethodId) (x0 : Int32) (x1 : Int32) : entryFrame m #[(.int x0), (.int x1)] maxLocals = mkF m 0 #[.val (.int x0), .val (.int x1), .unset, .unset, .unset, .unset, .unset, .unset, .unset, .unset, .unset, .unset, .unset] [] := by first | (simp [entryFrame, mkF, argsToLocals, Value.category, maxLocals]; done) | rfl
def Q_rm0 (Z : State) (p1 p2 : Int32) (h0 : Heap) (n0 : Nat) (v : Option Value) (h : Heap) (L : List Loc) : Prop := v = some (.int (1 : Int32)) ∧ Fr n0 L
set_option maxRecDepth 65536 in
set_option maxHeartbeats 40000000 in
theorem rm0 (l : Launch) (Z : State) (a0 : Array Value) (hw : ∀ d ∈ tables_1, d.before a0 Z = true) (ws : List Jvm.Cond) (p1 : Int32) (p2 : Int32)  (h0 : Heap) (n0 : Nat) (Z0 : n0 ≤ h0.size)  :
    MetFree l x (head1 (Jvm.Cond.code x code maxLocals ret :: ws) room_1) (fun a U => a = #[(.int p1), (.int p2)] ∧ Z.Warmed39 U.vm ∧ U.heap = h0) (fun _ _ _ _ _ => True) (fun _ U o U' => ∃ v L, o = .returned v ∧ Q_rm0 Z p1 p2 h0 n0 v U'.heap L ∧ FrameEnd U o U' L (room_1).cells (room_1).slots) := by
  refine MetFree.of_bodySF (plainFor_of_name pn_0) hisR ?_
  intro p e s m args below meth c s₁ Bd hml0 hP hK
  obtain ⟨rfl, hZ, hh⟩ := hP
  have hx := Bd.exec
  have hby := Bd.bytes
  have hml : c.maxLocals = 13 := hml0
  have hown : s.vm.findClass "com/example/prudent_alter/prudentalter/QuotingReadsAlikePinLaw" = some m.cls := findClass_of_methodNamed Bd.named
  have hnm := (name_of_methodNamed Bd.named Bd.method).1
  have X0 : Stand p l e room_1 s m #[(.int p1), (.int p2)] below meth c s₁ [] 0 0 := Stand.of_body Bd
  have e0 : s₁.heap = h0 := by rw [← hh, Bd.state]; rfl
  have N0 := Fr.nil n0
  have g0 : own_Go p e below s₁ (entryFrame m #[(.int p1), (.int p2)] maxLocals) s₁ (mkF m 0 #[.val (.int p1), .val (.int p2), .unset, .unset, .unset, .unset, .unset, .unset, .unset, .unset, .unset, .unset, .unset] []) := fun t k => castTop (ef_rm0 m p1 p2) k
  have K0 : Keep h0 h0 [] := Keep.refl h0 _
  have g1 : own_Go p e below s₁ (entryFrame m #[(.int p1), (.int p2)] maxLocals) s₁ (mkF m 76 #[.val (.int p1), .val (.int p2), .val (.int (own_bz (p1 &&& (1 : Int32)))), .val (.int (own_bz (p1 &&& (2 : Int32)))), .val (.int (own_bz (p1 &&& (4 : Int32)))), .val (.int (own_bz (p2 &&& (1 : Int32)))), .val (.int (own_bz (p2 &&& (2 : Int32)))), .val (.int (own_bz (p2 &&& (4 : Int32)))), .unset, .unset, .unset, .unset, .unset] []) := fun t kt => g0 t (by
    show Steps p.tables e below (s₁.setTop (mkF m 0 #[.val (.int p1), .val (.int p2), .unset, .unset, .unset, .unset, .unset, .unset, .unset, .unset, .unset, .unset, .unset] [])) _
    refine XS.iloadN X0.here hx rfl (hb hby at_0) rfl ?_
    show Steps p.tables e below (s₁.setTop (mkF m 1 #[.val (.int p1), .val (.int p2), .unset, .unset, .unset, .unset, .unset, .unset, .unset, .unset, .unset, .unset, .unset] [(.int p1)])) _
    refine XS.iconst X0.here hx rfl (hb hby at_1) ?_
    show Steps p.tables e below (s₁.setTop (mkF m 2 #[.val (.int p1), .val (.int p2), .unset, .unset, .unset, .unset, .unset, .unset, .unset, .unset, .unset, .unset, .unset] [(.int (1 : Int32)), (.int p1)])) _
    refine XS.iand X0.here hx rfl (hb hby at_2) rfl ?_
    show Steps p.tables e below (s₁.setTop (mkF m 3 #[.val (.int p1), .val (.int p2), .unset, .unset, .unset, .unset, .unset, .unset, .unset, .unset, .unset, .unset, .unset] [(.int (p1 &&& (1 : Int32)))])) _
    refine own_bool X0 hx (hb hby at_3) (hb hby at_6) (hb hby at_7) (hb hby at_10) _ ?_
    show Steps p.tables e below (s₁.setTop (mkF m 11 #[.val (.int p1), .val (.int p2), .unset, .unset, .unset, .unset, .unset, .unset, .unset, .unset, .unset, .unset, .unset] [(.int (own_bz (p1 &&& (1 : Int32))))])) _
    refine XS.istoreN X0.here hx rfl (hb hby at_11) rfl (l' := #[.val (.int p1), .val (.int p2), .val (.int (own_bz (p1 &&& (1 : Int32)))), .unset, .unset, .unset, .unset, .unset, .unset, .unset, .unset, .unset, .unset]) rfl ?_
    show Steps p.tables e below (s₁.setTop (mkF m 12 #[.val (.int p1), .val (.int p2), .val (.int (own_bz (p1 &&& (1 : Int32)))), .unset, .unset, .unset, .unset, .unset, .unset, .unset, .unset, .unset, .unset] [])) _
    refine XS.iloadN X0.here hx rfl (hb hby at_12) rfl ?_
    show Steps p.tables e below (s₁.setTop (mkF m 13 #[.val (.int p1), .val (.int p2), .val (.int (own_bz (p1 &&& (1 : Int32)))), .unset, .unset, .unset, .unset, .unset, .unset, .unset, .unset, .unset, .unset] [(.int p1)])) _
    refine XS.iconst X0.here hx rfl (hb hby at_13) ?_
    show Steps p.tables e below (s₁.setTop (mkF m 14 #[.val (.int p1), .val (.int p2), .val (.int (own_bz (p1 &&& (1 : Int32)))), .unset, .unset, .unset, .unset, .unset, .unset, .unset, .unset, .unset, .unset] [(.int (2 : Int32)), (.int p1)])) _
    refine XS.iand X0.here hx rfl (hb hby at_14) rfl ?_
    show Steps p.tables e below (s₁.setTop (mkF m 15 #[.val (.int p1), .val (.int p2), .val (.int (own_bz (p1 &&& (1 : Int32)))), .unset, .unset, .unset, .unset, .unset, .unset, .unset, .unset, .unset, .unset] [(.int (p1 &&& (2 : Int32)))])) _
    refine own_bool X0 hx (hb hby at_15) (hb hby at_18) (hb hby at_19) (hb hby at_22) _ ?_
    show Steps p.tables e below (s₁.setTop (mkF m 23 #[.val (.int p1), .val (.int p2), .val (.int (own_bz (p1 &&& (1 : Int32)))), .unset, .unset, .unset, .unset, .unset, .unset, .unset, .unset, .unset, .unset] [(.int (own_bz (p1 &&& (2 : Int32))))])) _
    refine XS.istoreN X0.here hx rfl (hb hby at_23) rfl (l' := #[.val (.int p1), .val (.int p2), .val (.int (own_bz (p1 &&& (1 : Int32)))), .val (.int (own_bz (p1 &&& (2 : Int32)))), .unset, .unset, .unset, .unset, .unset, .unset, .unset, .unset, .unset]) rfl ?_
    show Steps p.tables e below (s₁.setTop (mkF m 24 #[.val (.int p1), .val (.int p2), .val (.int (own_bz (p1 &&& (1 : Int32)))), .val (.int (own_bz (p1 &&& (2 : Int32)))), .unset, .unset, .unset, .unset, .unset, .unset, .unset, .unset, .unset] [])) _
    refine XS.iloadN X0.here hx rfl (hb hby at_24) rfl ?_
    show Steps p.tables e below (s₁.setTop (mkF m 25 #[.val (.int p1), .val (.int p2), .val (.int (own_bz (p1 &&& (1 : Int32)))), .val (.int (own_bz (p1 &&& (2 : Int32)))), .unset, .unset, .unset, .unset, .unset, .unset, .unset, .unset, .unset] [(.int p1)])) _
    refine XS.iconst X0.here hx rfl (hb hby at_25) ?_
    show Steps p.tables e below (s₁.setTop (mkF m 26 #[.val (.int p1), .val (.int p2), .val (.int (own_bz (p1 &&& (1 : Int32)))), .val (.int (own_bz (p1 &&& (2 : Int32)))), .unset, .unset, .unset, .unset, .unset, .unset, .unset, .unset, .unset] [(.int (4 : Int32)), (.int p1)])) _
    refine XS.iand X0.here hx rfl (hb hby at_26) rfl ?_
    show Steps p.tables e below (s₁.setTop (mkF m 27 #[.val (.int p1), .val (.int p2), .val (.int (own_bz (p1 &&& (1 : Int32)))), .val (.int (own_bz (p1 &&& (2 : Int32)))), .unset, .unset, .unset, .unset, .unset, .unset, .unset, .unset, .unset] [(.int (p1 &&& (4 : Int32)))])) _
    refine own_bool X0 hx (hb hby at_27) (hb hby at_30) (hb hby at_31) (hb hby at_34) _ ?_
    show Steps p.tables e below (s₁.setTop (mkF m 35 #[.val (.int p1), .val (.int p2), .val (.int (own_bz (p1 &&& (1 : Int32)))), .val (.int (own_bz (p1 &&& (2 : Int32)))), .unset, .unset, .unset, .unset, .unset, .unset, .unset, .unset, .unset] [(.int (own_bz (p1 &&& (4 : Int32))))])) _
    refine XS.istore X0.here hx rfl (hb hby at_35) rfl (l' := #[.val (.int p1), .val (.int p2), .val (.int (own_bz (p1 &&& (1 : Int32)))), .val (.int (own_bz (p1 &&& (2 : Int32)))), .val (.int (own_bz (p1 &&& (4 : Int32)))), .unset, .unset, .unset, .unset, .unset, .unset, .unset, .unset]) rfl ?_
    show Steps p.tables e below (s₁.setTop (mkF m 37 #[.val (.int p1), .val (.int p2), .val (.int (own_bz (p1 &&& (1 : Int32)))), .val (.int (own_bz (p1 &&& (2 : Int32)))), .val (.int (own_bz (p1 &&& (4 : Int32)))), .unset, .unset, .unset, .unset, .unset, .unset, .unset, .unset] [])) _
    refine XS.iloadN X0.here hx rfl (hb hby at_37) rfl ?_
    show Steps p.tables e below (s₁.setTop (mkF m 38 #[.val (.int p1), .val (.int p2), .val (.int (own_bz (p1 &&& (1 : Int32)))), .val (.int (own_bz (p1 &&& (2 : Int32)))), .val (.int (own_bz (p1 &&& (4 : Int32)))), .unset, .unset, .unset, .unset, .unset, .unset, .unset, .unset] [(.int p2)])) _
    refine XS.iconst X0.here hx rfl (hb hby at_38) ?_
    show Steps p.tables e below (s₁.setTop (mkF m 39 #[.val (.int p1), .val (.int p2), .val (.int (own_bz (p1 &&& (1 : Int32)))), .val (.int (own_bz (p1 &&& (2 : Int32)))), .val (.int (own_bz (p1 &&& (4 : Int32)))), .unset, .unset, .unset, .unset, .unset, .unset, .unset, .unset] [(.int (1 : Int32)), (.int p2)])) _
    refine XS.iand X0.here hx rfl (hb hby at_39) rfl ?_
    show Steps p.tables e below (s₁.setTop (mkF m 40 #[.val (.int p1), .val (.int p2), .val (.int (own_bz (p1 &&& (1 : Int32)))), .val (.int (own_bz (p1 &&& (2 : Int32)))), .val (.int (own_bz (p1 &&& (4 : Int32)))), .unset, .unset, .unset, .unset, .unset, .unset, .unset, .unset] [(.int (p2 &&& (1 : Int32)))])) _
    refine own_bool X0 hx (hb hby at_40) (hb hby at_43) (hb hby at_44) (hb hby at_47) _ ?_
    show Steps p.tables e below (s₁.setTop (mkF m 48 #[.val (.int p1), .val (.int p2), .val (.int (own_bz (p1 &&& (1 : Int32)))), .val (.int (own_bz (p1 &&& (2 : Int32)))), .val (.int (own_bz (p1 &&& (4 : Int32)))), .unset, .unset, .unset, .unset, .unset, .unset, .unset, .unset] [(.int (own_bz (p2 &&& (1 : Int32))))])) _
    refine XS.istore X0.here hx rfl (hb hby at_48) rfl (l' := #[.val (.int p1), .val (.int p2), .val (.int (own_bz (p1 &&& (1 : Int32)))), .val (.int (own_bz (p1 &&& (2 : Int32)))), .val (.int (own_bz (p1 &&& (4 : Int32)))), .val (.int (own_bz (p2 &&& (1 : Int32)))), .unset, .unset, .unset, .unset, .unset, .unset, .unset]) rfl ?_
    show Steps p.tables e below (s₁.setTop (mkF m 50 #[.val (.int p1), .val (.int p2), .val (.int (own_bz (p1 &&& (1 : Int32)))), .val (.int (own_bz (p1 &&& (2 : Int32)))), .val (.int (own_bz (p1 &&& (4 : Int32)))), .val (.int (own_bz (p2 &&& (1 : Int32)))), .unset, .unset, .unset, .unset, .unset, .unset, .unset] [])) _
    refine XS.iloadN X0.here hx rfl (hb hby at_50) rfl ?_
    show Steps p.tables e below (s₁.setTop (mkF m 51 #[.val (.int p1), .val (.int p2), .val (.int (own_bz (p1 &&& (1 : Int32)))), .val (.int (own_bz (p1 &&& (2 : Int32)))), .val (.int (own_bz (p1 &&& (4 : Int32)))), .val (.int (own_bz (p2 &&& (1 : Int32)))), .unset, .unset, .unset, .unset, .unset, .unset, .unset] [(.int p2)])) _
    refine XS.iconst X0.here hx rfl (hb hby at_51) ?_
    show Steps p.tables e below (s₁.setTop (mkF m 52 #[.val (.int p1), .val (.int p2), .val (.int (own_bz (p1 &&& (1 : Int32)))), .val (.int (own_bz (p1 &&& (2 : Int32)))), .val (.int (own_bz (p1 &&& (4 : Int32)))), .val (.int (own_bz (p2 &&& (1 : Int32)))), .unset, .unset, .unset, .unset, .unset, .unset, .unset] [(.int (2 : Int32)), (.int p2)])) _
    refine XS.iand X0.here hx rfl (hb hby at_52) rfl ?_
    show Steps p.tables e below (s₁.setTop (mkF m 53 #[.val (.int p1), .val (.int p2), .val (.int (own_bz (p1 &&& (1 : Int32)))), .val (.int (own_bz (p1 &&& (2 : Int32)))), .val (.int (own_bz (p1 &&& (4 : Int32)))), .val (.int (own_bz (p2 &&& (1 : Int32)))), .unset, .unset, .unset, .unset, .unset, .unset, .unset] [(.int (p2 &&& (2 : Int32)))])) _
    refine own_bool X0 hx (hb hby at_53) (hb hby at_56) (hb hby at_57) (hb hby at_60) _ ?_
    show Steps p.tables e below (s₁.setTop (mkF m 61 #[.val (.int p1), .val (.int p2), .val (.int (own_bz (p1 &&& (1 : Int32)))), .val (.int (own_bz (p1 &&& (2 : Int32)))), .val (.int (own_bz (p1 &&& (4 : Int32)))), .val (.int (own_bz (p2 &&& (1 : Int32)))), .unset, .unset, .unset, .unset, .unset, .unset, .unset] [(.int (own_bz (p2 &&& (2 : Int32))))])) _
    refine XS.istore X0.here hx rfl (hb hby at_61) rfl (l' := #[.val (.int p1), .val (.int p2), .val (.int (own_bz (p1 &&& (1 : Int32)))), .val (.int (own_bz (p1 &&& (2 : Int32)))), .val (.int (own_bz (p1 &&& (4 : Int32)))), .val (.int (own_bz (p2 &&& (1 : Int32)))), .val (.int (own_bz (p2 &&& (2 : Int32)))), .unset, .unset, .unset, .unset, .unset, .unset]) rfl ?_
    show Steps p.tables e below (s₁.setTop (mkF m 63 #[.val (.int p1), .val (.int p2), .val (.int (own_bz (p1 &&& (1 : Int32)))), .val (.int (own_bz (p1 &&& (2 : Int32)))), .val (.int (own_bz (p1 &&& (4 : Int32)))), .val (.int (own_bz (p2 &&& (1 : Int32)))), .val (.int (own_bz (p2 &&& (2 : Int32)))), .unset, .unset, .unset, .unset, .unset, .unset] [])) _
    refine XS.iloadN X0.here hx rfl (hb hby at_63) rfl ?_
    show Steps p.tables e below (s₁.setTop (mkF m 64 #[.val (.int p1), .val (.int p2), .val (.int (own_bz (p1 &&& (1 : Int32)))), .val (.int (own_bz (p1 &&& (2 : Int32)))), .val (.int (own_bz (p1 &&& (4 : Int32)))), .val (.int (own_bz (p2 &&& (1 : Int32)))), .val (.int (own_bz (p2 &&& (2 : Int32)))), .unset, .unset, .unset, .unset, .unset, .unset] [(.int p2)])) _
    refine XS.iconst X0.here hx rfl (hb hby at_64) ?_
    show Steps p.tables e below (s₁.setTop (mkF m 65 #[.val (.int p1), .val (.int p2), .val (.int (own_bz (p1 &&& (1 : Int32)))), .val (.int (own_bz (p1 &&& (2 : Int32)))), .val (.int (own_bz (p1 &&& (4 : Int32)))), .val (.int (own_bz (p2 &&& (1 : Int32)))), .val (.int (own_bz (p2 &&& (2 : Int32)))), .unset, .unset, .unset, .unset, .unset, .unset] [(.int (4 : Int32)), (.int p2)])) _
    refine XS.iand X0.here hx rfl (hb hby at_65) rfl ?_
    show Steps p.tables e below (s₁.setTop (mkF m 66 #[.val (.int p1), .val (.int p2), .val (.int (own_bz (p1 &&& (1 : Int32)))), .val (.int (own_bz (p1 &&& (2 : Int32)))), .val (.int (own_bz (p1 &&& (4 : Int32)))), .val (.int (own_bz (p2 &&& (1 : Int32)))), .val (.int (own_bz (p2 &&& (2 : Int32)))), .unset, .unset, .unset, .unset, .unset, .unset] [(.int (p2 &&& (4 : Int32)))])) _
    refine own_bool X0 hx (hb hby at_66) (hb hby at_69) (hb hby at_70) (hb hby at_73) _ ?_
    show Steps p.tables e below (s₁.setTop (mkF m 74 #[.val (.int p1), .val (.int p2), .val (.int (own_bz (p1 &&& (1 : Int32)))), .val (.int (own_bz (p1 &&& (2 : Int32)))), .val (.int (own_bz (p1 &&& (4 : Int32)))), .val (.int (own_bz (p2 &&& (1 : Int32)))), .val (.int (own_bz (p2 &&& (2 : Int32)))), .unset, .unset, .unset, .unset, .unset, .unset] [(.int (own_bz (p2 &&& (4 : Int32))))])) _
    refine XS.istore X0.here hx rfl (hb hby at_74) rfl (l' := #[.val (.int p1), .val (.int p2), .val (.int (own_bz (p1 &&& (1 : Int32)))), .val (.int (own_bz (p1 &&& (2 : Int32)))), .val (.int (own_bz (p1 &&& (4 : Int32)))), .val (.int (own_bz (p2 &&& (1 : Int32)))), .val (.int (own_bz (p2 &&& (2 : Int32)))), .val (.int (own_bz (p2 &&& (4 : Int32)))), .unset, .unset, .unset, .unset, .unset]) rfl ?_
    exact kt)
  obtain ⟨dA, q_dA⟩ : ∃ z, z = (own_bz (p1 &&& (1 : Int32))) := ⟨_, rfl⟩
  obtain ⟨eA, q_eA⟩ : ∃ z, z = (own_bz (p1 &&& (2 : Int32))) := ⟨_, rfl⟩
  obtain ⟨kA, q_kA⟩ : ∃ z, z = (own_bz (p1 &&& (4 : Int32))) := ⟨_, rfl⟩
  obtain ⟨dB, q_dB⟩ : ∃ z, z = (own_bz (p2 &&& (1 : Int32))) := ⟨_, rfl⟩
  obtain ⟨eB, q_eB⟩ : ∃ z, z = (own_bz (p2 &&& (2 : Int32))) := ⟨_, rfl⟩
  obtain ⟨kB, q_kB⟩ : ∃ z, z = (own_bz (p2 &&& (4 : Int32))) := ⟨_, rfl⟩
  rw [← q_dA, ← q_eA, ← q_kA, ← q_dB, ← q_eB, ← q_kB] at g1
  have b_dA : dA &&& 1 = dA := by rw [q_dA]; exact own_bz_and _
  have b_eA : eA &&& 1 = eA := by rw [q_eA]; exact own_bz_and _
  have b_kA : kA &&& 1 = kA := by rw [q_kA]; exact own_bz_and _
  have b_dB : dB &&& 1 = dB := by rw [q_dB]; exact own_bz_and _
  have b_eB : eB &&& 1 = eB := by rw [q_eB]; exact own_bz_and _
  have b_kB : kB &&& 1 = kB := by rw [q_kB]; exact own_bz_and _
  obtain ⟨T2, h2, X2, e2, E2, A2, D2, -, st2⟩ := newO X0 hx hZ hown (hw _ (List.mem_of_getElem? (i := 0) rfl)) (hw _ (List.mem_of_getElem? (i := 1) rfl)) (hw _ (List.mem_of_getElem? (i := 2) rfl)) e0 (g := (mkF m 76 #[.val (.int p1), .val (.int p2), .val (.int dA), .val (.int eA), .val (.int kA), .val (.int dB), .val (.int eB), .val (.int kB), .unset, .unset, .unset, .unset, .unset] [])) rfl (hb hby at_76) (by decide) (by decide)
  obtain ⟨a, q_a⟩ : ∃ z, z = h0.size := ⟨_, rfl⟩
  rw [← q_a] at A2 D2 st2
  have sz_a : h0.size ≤ a := Nat.le_trans K0.1 (Nat.le_of_eq q_a.symm)
  have g_a : n0 ≤ a := Nat.le_trans Z0 sz_a
  have F_doubleQuotedNames_a : Fld Z h2 a "com/example/prudent_alter/prudentalter/Quoting" "doubleQuotedNames" "Z" (.int (0 : Int32)) := D2 (Or.inr (hw _ (List.mem_of_getElem? (i := 10) rfl))) (ty := .boolean) (by decide)
  have F_backslashEscapes_a : Fld Z h2 a "com/example/prudent_alter/prudentalter/Quoting" "backslashEscapes" "Z" (.int (0 : Int32)) := D2 (Or.inr (hw _ (List.mem_of_getElem? (i := 12) rfl))) (ty := .boolean) (by decide)
  have F_known_a : Fld Z h2 a "com/example/prudent_alter/prudentalter/Quoting" "known" "Z" (.int (0 : Int32)) := D2 (Or.inr (hw _ (List.mem_of_getElem? (i := 14) rfl))) (ty := .boolean) (by decide)
  have K2 : Keep h0 h2 [] := K0.ext E2
  have g2 : own_Go p e below s₁ (entryFrame m #[(.int p1), (.int p2)] maxLocals) T2 (mkF m 79 #[.val (.int p1), .val (.int p2), .val (.int dA), .val (.int eA), .val (.int kA), .val (.int dB), .val (.int eB), .val (.int kB), .unset, .unset, .unset, .unset, .unset] [(.ref a)]) := fun t kt => g1 t (st2 _ kt)
  have g3 : own_Go p e below s₁ (entryFrame m #[(.int p1), (.int p2)] maxLocals) T2 (mkF m 84 #[.val (.int p1), .val (.int p2), .val (.int dA), .val (.int eA), .val (.int kA), .val (.int dB), .val (.int eB), .val (.int kB), .unset, .unset, .unset, .unset, .unset] [(.int kA), (.int eA), (.int dA), (.ref a), (.ref a)]) := fun t kt => g2 t (by
    show Steps p.tables e below (T2.setTop (mkF m 79 #[.val (.int p1), .val (.int p2), .val (.int dA), .val (.int eA), .val (.int kA), .val (.int dB), .val (.int eB), .val (.int kB), .unset, .unset, .unset, .unset, .unset] [(.ref a)])) _
    refine XS.dup X2.here hx rfl (hb hby at_79) rfl rfl ?_
    show Steps p.tables e below (T2.setTop (mkF m 80 #[.val (.int p1), .val (.int p2), .val (.int dA), .val (.int eA), .val (.int kA), .val (.int dB), .val (.int eB), .val (.int kB), .unset, .unset, .unset, .unset, .unset] [(.ref a), (.ref a)])) _
    refine XS.iloadN X2.here hx rfl (hb hby at_80) rfl ?_
    show Steps p.tables e below (T2.setTop (mkF m 81 #[.val (.int p1), .val (.int p2), .val (.int dA), .val (.int eA), .val (.int kA), .val (.int dB), .val (.int eB), .val (.int kB), .unset, .unset, .unset, .unset, .unset] [(.int dA), (.ref a), (.ref a)])) _
    refine XS.iloadN X2.here hx rfl (hb hby at_81) rfl ?_
    show Steps p.tables e below (T2.setTop (mkF m 82 #[.val (.int p1), .val (.int p2), .val (.int dA), .val (.int eA), .val (.int kA), .val (.int dB), .val (.int eB), .val (.int kB), .unset, .unset, .unset, .unset, .unset] [(.int eA), (.int dA), (.ref a), (.ref a)])) _
    refine XS.iload X2.here hx rfl (hb hby at_82) rfl ?_
    exact kt)
  obtain ⟨_, _, ⟨T4, L4, k4, n4⟩, -, X4, ⟨Lc4, hQ4, l4, y4, z4⟩, st4⟩ := X2.specialBack hx (y := (⟨"com/example/prudent_alter/prudentalter/Quoting", "<init>", "(ZZZ)V"⟩ : MethodName)) rfl hown (mvT hZ (hw _ (List.mem_of_getElem? (i := 3) rfl))) (mvT hZ (hw _ (List.mem_of_getElem? (i := 4) rfl))) (mvT hZ (hw _ (List.mem_of_getElem? (i := 5) rfl))) (by decide) (backOf (W := 1) (rm1 l Z a0 hw [] a dA eA kA h2 n0 (Nat.le_trans Z0 K2.1) F_doubleQuotedNames_a F_backslashEscapes_a F_known_a A2 g_a b_dA b_eA b_kA) hZ (hw _ (List.mem_of_getElem? (i := 5) rfl)) (hw _ (List.mem_of_getElem? (i := 2) rfl)) (by decide) (by decide)) (g := (mkF m 84 #[.val (.int p1), .val (.int p2), .val (.int dA), .val (.int eA), .val (.int kA), .val (.int dB), .val (.int eB), .val (.int kB), .unset, .unset, .unset, .unset, .unset] [(.int kA), (.int eA), (.int dA), (.ref a), (.ref a)])) rfl (by rw [hml]; rfl) (Steps.refl _) (a := a) (argsL := [(.int dA), (.int eA), (.int kA)]) (rest := [(.ref a)]) (lenOf pd_0 rfl) rfl (by show 2 * 0 + _ ≤ _; exact Nat.le_of_eq rfl) (hb hby at_84) (fun _ _ => ⟨rfl, e2, (by decide : 1 + 0 ≤ _), (by decide : 3 + 0 ≤ _)⟩)
  dsimp only [Pt.U, Pt.locs, Pt.cells, Pt.slots] at X4 l4 y4 z4 st4 hQ4
  subst l4 y4 z4
  obtain ⟨rfl, N4q, Kc4, Ex4, Fa4, Fb4, Fc4⟩ := hQ4
  have N4 := Fr.app N0 N4q
  have g4 : own_Go p e below s₁ (entryFrame m #[(.int p1), (.int p2)] maxLocals) T4 (mkF m 87 #[.val (.int p1), .val (.int p2), .val (.int dA), .val (.int eA), .val (.int kA), .val (.int dB), .val (.int eB), .val (.int kB), .unset, .unset, .unset, .unset, .unset] [(.ref a)]) := fun t kt => g3 t (st4.trans kt)
  have f5 := A2.keep Kc4
  have KK4 : Keep h0 T4.heap [] := K2.trans Kc4 (allS (Or.inr sz_a) all0)
  have g9 : own_Go p e below s₁ (entryFrame m #[(.int p1), (.int p2)] maxLocals) T4 (mkF m 89 #[.val (.int p1), .val (.int p2), .val (.int dA), .val (.int eA), .val (.int kA), .val (.int dB), .val (.int eB), .val (.int kB), .val (.ref a), .unset, .unset, .unset, .unset] []) := fun t kt => g4 t (by
    show Steps p.tables e below (T4.setTop (mkF m 87 #[.val (.int p1), .val (.int p2), .val (.int dA), .val (.int eA), .val (.int kA), .val (.int dB), .val (.int eB), .val (.int kB), .unset, .unset, .unset, .unset, .unset] [(.ref a)])) _
    refine XS.astore X4.here hx rfl (hb hby at_87) rfl rfl (l' := #[.val (.int p1), .val (.int p2), .val (.int dA), .val (.int eA), .val (.int kA), .val (.int dB), .val (.int eB), .val (.int kB), .val (.ref a), .unset, .unset, .unset, .unset]) rfl ?_
    exact kt)
  obtain ⟨T10, h10, X10, e10, E10, A10, D10, -, st10⟩ := newO X4 hx hZ hown (hw _ (List.mem_of_getElem? (i := 0) rfl)) (hw _ (List.mem_of_getElem? (i := 1) rfl)) (hw _ (List.mem_of_getElem? (i := 2) rfl)) rfl (g := (mkF m 89 #[.val (.int p1), .val (.int p2), .val (.int dA), .val (.int eA), .val (.int kA), .val (.int dB), .val (.int eB), .val (.int kB), .val (.ref a), .unset, .unset, .unset, .unset] [])) rfl (hb hby at_89) (by decide) (by decide)
  obtain ⟨b, q_b⟩ : ∃ z, z = T4.heap.size := ⟨_, rfl⟩
  rw [← q_b] at A10 D10 st10
  have ne_a_b : a ≠ b := Nat.ne_of_lt (Nat.lt_of_lt_of_le f5.lt (Nat.le_of_eq q_b.symm))
  have sz_b : h0.size ≤ b := Nat.le_trans KK4.1 (Nat.le_of_eq q_b.symm)
  have g_b : n0 ≤ b := Nat.le_trans Z0 sz_b
  have f11 := f5.ext E10
  have f12 := Fa4.ext E10
  have f13 := Fb4.ext E10
  have f14 := Fc4.ext E10
  have F_doubleQuotedNames_b : Fld Z h10 b "com/example/prudent_alter/prudentalter/Quoting" "doubleQuotedNames" "Z" (.int (0 : Int32)) := D10 (Or.inr (hw _ (List.mem_of_getElem? (i := 10) rfl))) (ty := .boolean) (by decide)
  have F_backslashEscapes_b : Fld Z h10 b "com/example/prudent_alter/prudentalter/Quoting" "backslashEscapes" "Z" (.int (0 : Int32)) := D10 (Or.inr (hw _ (List.mem_of_getElem? (i := 12) rfl))) (ty := .boolean) (by decide)
  have F_known_b : Fld Z h10 b "com/example/prudent_alter/prudentalter/Quoting" "known" "Z" (.int (0 : Int32)) := D10 (Or.inr (hw _ (List.mem_of_getElem? (i := 14) rfl))) (ty := .boolean) (by decide)
  have K10 : Keep h0 h10 [] := KK4.ext E10
  have g10 : own_Go p e below s₁ (entryFrame m #[(.int p1), (.int p2)] maxLocals) T10 (mkF m 92 #[.val (.int p1), .val (.int p2), .val (.int dA), .val (.int eA), .val (.int kA), .val (.int dB), .val (.int eB), .val (.int kB), .val (.ref a), .unset, .unset, .unset, .unset] [(.ref b)]) := fun t kt => g9 t (st10 _ kt)
  have g15 : own_Go p e below s₁ (entryFrame m #[(.int p1), (.int p2)] maxLocals) T10 (mkF m 99 #[.val (.int p1), .val (.int p2), .val (.int dA), .val (.int eA), .val (.int kA), .val (.int dB), .val (.int eB), .val (.int kB), .val (.ref a), .unset, .unset, .unset, .unset] [(.int kB), (.int eB), (.int dB), (.ref b), (.ref b)]) := fun t kt => g10 t (by
    show Steps p.tables e below (T10.setTop (mkF m 92 #[.val (.int p1), .val (.int p2), .val (.int dA), .val (.int eA), .val (.int kA), .val (.int dB), .val (.int eB), .val (.int kB), .val (.ref a), .unset, .unset, .unset, .unset] [(.ref b)])) _
    refine XS.dup X10.here hx rfl (hb hby at_92) rfl rfl ?_
    show Steps p.tables e below (T10.setTop (mkF m 93 #[.val (.int p1), .val (.int p2), .val (.int dA), .val (.int eA), .val (.int kA), .val (.int dB), .val (.int eB), .val (.int kB), .val (.ref a), .unset, .unset, .unset, .unset] [(.ref b), (.ref b)])) _
    refine XS.iload X10.here hx rfl (hb hby at_93) rfl ?_
    show Steps p.tables e below (T10.setTop (mkF m 95 #[.val (.int p1), .val (.int p2), .val (.int dA), .val (.int eA), .val (.int kA), .val (.int dB), .val (.int eB), .val (.int kB), .val (.ref a), .unset, .unset, .unset, .unset] [(.int dB), (.ref b), (.ref b)])) _
    refine XS.iload X10.here hx rfl (hb hby at_95) rfl ?_
    show Steps p.tables e below (T10.setTop (mkF m 97 #[.val (.int p1), .val (.int p2), .val (.int dA), .val (.int eA), .val (.int kA), .val (.int dB), .val (.int eB), .val (.int kB), .val (.ref a), .unset, .unset, .unset, .unset] [(.int eB), (.int dB), (.ref b), (.ref b)])) _
    refine XS.iload X10.here hx rfl (hb hby at_97) rfl ?_
    exact kt)
  obtain ⟨_, _, ⟨T16, L16, k16, n16⟩, -, X16, ⟨Lc16, hQ16, l16, y16, z16⟩, st16⟩ := X10.specialBack hx (y := (⟨"com/example/prudent_alter/prudentalter/Quoting", "<init>", "(ZZZ)V"⟩ : MethodName)) rfl hown (mvT hZ (hw _ (List.mem_of_getElem? (i := 3) rfl))) (mvT hZ (hw _ (List.mem_of_getElem? (i := 4) rfl))) (mvT hZ (hw _ (List.mem_of_getElem? (i := 5) rfl))) (by decide) (backOf (W := 1) (rm1 l Z a0 hw [] b dB eB kB h10 n0 (Nat.le_trans Z0 K10.1) F_doubleQuotedNames_b F_backslashEscapes_b F_known_b A10 g_b b_dB b_eB b_kB) hZ (hw _ (List.mem_of_getElem? (i := 5) rfl)) (hw _ (List.mem_of_getElem? (i := 2) rfl)) (by decide) (by decide)) (g := (mkF m 99 #[.val (.int p1), .val (.int p2), .val (.int dA), .val (.int eA), .val (.int kA), .val (.int dB), .val (.int eB), .val (.int kB), .val (.ref a), .unset, .unset, .unset, .unset] [(.int kB), (.int eB), (.int dB), (.ref b), (.ref b)])) rfl (by rw [hml]; rfl) (Steps.refl _) (a := b) (argsL := [(.int dB), (.int eB), (.int kB)]) (rest := [(.ref b)]) (lenOf pd_0 rfl) rfl (by show 2 * 0 + _ ≤ _; exact Nat.le_of_eq rfl) (hb hby at_99) (fun _ _ => ⟨rfl, e10, (by decide : 2 + 0 ≤ _), (by decide : 6 + 0 ≤ _)⟩)
  dsimp only [Pt.U, Pt.locs, Pt.cells, Pt.slots] at X16 l16 y16 z16 st16 hQ16
  subst l16 y16 z16
  obtain ⟨rfl, N16q, Kc16, Ex16, Fa16, Fb16, Fc16⟩ := hQ16
  have N16 := Fr.app N4 N16q
  have g16 : own_Go p e below s₁ (entryFrame m #[(.int p1), (.int p2)] maxLocals) T16 (mkF m 102 #[.val (.int p1), .val (.int p2), .val (.int dA), .val (.int eA), .val (.int kA), .val (.int dB), .val (.int eB), .val (.int kB), .val (.ref a), .unset, .unset, .unset, .unset] [(.ref b)]) := fun t kt => g15 t (st16.trans kt)
  have f17 := f11.keep Kc16
  have f18 := f12.keep Kc16 (ninS ne_a_b nin0)
  have f19 := f13.keep Kc16 (ninS ne_a_b nin0)
  have f20 := f14.keep Kc16 (ninS ne_a_b nin0)
  have f21 := A10.keep Kc16
  have KK16 : Keep h0 T16.heap [] := K10.trans Kc16 (allS (Or.inr sz_b) all0)
  have g25 : own_Go p e below s₁ (entryFrame m #[(.int p1), (.int p2)] maxLocals) T16 (mkF m 104 #[.val (.int p1), .val (.int p2), .val (.int dA), .val (.int eA), .val (.int kA), .val (.int dB), .val (.int eB), .val (.int kB), .val (.ref a), .val (.ref b), .unset, .unset, .unset] []) := fun t kt => g16 t (by
    show Steps p.tables e below (T16.setTop (mkF m 102 #[.val (.int p1), .val (.int p2), .val (.int dA), .val (.int eA), .val (.int kA), .val (.int dB), .val (.int eB), .val (.int kB), .val (.ref a), .unset, .unset, .unset, .unset] [(.ref b)])) _
    refine XS.astore X16.here hx rfl (hb hby at_102) rfl rfl (l' := #[.val (.int p1), .val (.int p2), .val (.int dA), .val (.int eA), .val (.int kA), .val (.int dB), .val (.int eB), .val (.int kB), .val (.ref a), .val (.ref b), .unset, .unset, .unset]) rfl ?_
    exact kt)
  obtain ⟨xp, q_xp⟩ : ∃ z, z = own_al dA dB eA eB := ⟨_, rfl⟩
  have g26 : own_Go p e below s₁ (entryFrame m #[(.int p1), (.int p2)] maxLocals) T16 (mkF m 131 #[.val (.int p1), .val (.int p2), .val (.int dA), .val (.int eA), .val (.int kA), .val (.int dB), .val (.int eB), .val (.int kB), .val (.ref a), .val (.ref b), .val (.int xp), .unset, .unset] []) := by
    rcases (show (dA = dB ∧ eA = eB) ∨ (dA = dB ∧ ¬ eA = eB) ∨ ¬ dA = dB from by by_cases hA : dA = dB <;> by_cases hB : eA = eB <;> simp [hA, hB]) with ⟨hA, hB⟩ | ⟨hA, hB⟩ | hA
    · have hv : xp = 1 := by rw [q_xp]; simp [own_al, hA, hB]
      rw [hv]
      have g27 : own_Go p e below s₁ (entryFrame m #[(.int p1), (.int p2)] maxLocals) T16 (mkF m 131 #[.val (.int p1), .val (.int p2), .val (.int dA), .val (.int eA), .val (.int kA), .val (.int dB), .val (.int eB), .val (.int kB), .val (.ref a), .val (.ref b), .val (.int (1 : Int32)), .unset, .unset] []) := fun t kt => g25 t (by
        show Steps p.tables e below (T16.setTop (mkF m 104 #[.val (.int p1), .val (.int p2), .val (.int dA), .val (.int eA), .val (.int kA), .val (.int dB), .val (.int eB), .val (.int kB), .val (.ref a), .val (.ref b), .unset, .unset, .unset] [])) _
        refine XS.iloadN X16.here hx rfl (hb hby at_104) rfl ?_
        show Steps p.tables e below (T16.setTop (mkF m 105 #[.val (.int p1), .val (.int p2), .val (.int dA), .val (.int eA), .val (.int kA), .val (.int dB), .val (.int eB), .val (.int kB), .val (.ref a), .val (.ref b), .unset, .unset, .unset] [(.int dA)])) _
        refine XS.iload X16.here hx rfl (hb hby at_105) rfl ?_
        show Steps p.tables e below (T16.setTop (mkF m 107 #[.val (.int p1), .val (.int p2), .val (.int dA), .val (.int eA), .val (.int kA), .val (.int dB), .val (.int eB), .val (.int kB), .val (.ref a), .val (.ref b), .unset, .unset, .unset] [(.int dB), (.int dA)])) _
        refine XS.icmpYes X16.here hx rfl (pc0 := 107) (pc' := 116) rfl (hb hby at_107) rfl (teq hA).1 (by decide) (by decide) ?_
        show Steps p.tables e below (T16.setTop (mkF m 116 #[.val (.int p1), .val (.int p2), .val (.int dA), .val (.int eA), .val (.int kA), .val (.int dB), .val (.int eB), .val (.int kB), .val (.ref a), .val (.ref b), .unset, .unset, .unset] [])) _
        refine XS.iloadN X16.here hx rfl (hb hby at_116) rfl ?_
        show Steps p.tables e below (T16.setTop (mkF m 117 #[.val (.int p1), .val (.int p2), .val (.int dA), .val (.int eA), .val (.int kA), .val (.int dB), .val (.int eB), .val (.int kB), .val (.ref a), .val (.ref b), .unset, .unset, .unset] [(.int eA)])) _
        refine XS.iload X16.here hx rfl (hb hby at_117) rfl ?_
        show Steps p.tables e below (T16.setTop (mkF m 119 #[.val (.int p1), .val (.int p2), .val (.int dA), .val (.int eA), .val (.int kA), .val (.int dB), .val (.int eB), .val (.int kB), .val (.ref a), .val (.ref b), .unset, .unset, .unset] [(.int eB), (.int eA)])) _
        refine XS.icmpYes X16.here hx rfl (pc0 := 119) (pc' := 128) rfl (hb hby at_119) rfl (teq hB).1 (by decide) (by decide) ?_
        show Steps p.tables e below (T16.setTop (mkF m 128 #[.val (.int p1), .val (.int p2), .val (.int dA), .val (.int eA), .val (.int kA), .val (.int dB), .val (.int eB), .val (.int kB), .val (.ref a), .val (.ref b), .unset, .unset, .unset] [])) _
        refine XS.iconst X16.here hx rfl (hb hby at_128) ?_
        show Steps p.tables e below (T16.setTop (mkF m 129 #[.val (.int p1), .val (.int p2), .val (.int dA), .val (.int eA), .val (.int kA), .val (.int dB), .val (.int eB), .val (.int kB), .val (.ref a), .val (.ref b), .unset, .unset, .unset] [(.int (1 : Int32))])) _
        refine XS.istore X16.here hx rfl (hb hby at_129) rfl (l' := #[.val (.int p1), .val (.int p2), .val (.int dA), .val (.int eA), .val (.int kA), .val (.int dB), .val (.int eB), .val (.int kB), .val (.ref a), .val (.ref b), .val (.int (1 : Int32)), .unset, .unset]) rfl ?_
        exact kt)
      exact g27
    · have hv : xp = 0 := by rw [q_xp]; simp [own_al, hB]
      rw [hv]
      have g28 : own_Go p e below s₁ (entryFrame m #[(.int p1), (.int p2)] maxLocals) T16 (mkF m 131 #[.val (.int p1), .val (.int p2), .val (.int dA), .val (.int eA), .val (.int kA), .val (.int dB), .val (.int eB), .val (.int kB), .val (.ref a), .val (.ref b), .val (.int (0 : Int32)), .unset, .unset] []) := fun t kt => g25 t (by
        show Steps p.tables e below (T16.setTop (mkF m 104 #[.val (.int p1), .val (.int p2), .val (.int dA), .val (.int eA), .val (.int kA), .val (.int dB), .val (.int eB), .val (.int kB), .val (.ref a), .val (.ref b), .unset, .unset, .unset] [])) _
        refine XS.iloadN X16.here hx rfl (hb hby at_104) rfl ?_
        show Steps p.tables e below (T16.setTop (mkF m 105 #[.val (.int p1), .val (.int p2), .val (.int dA), .val (.int eA), .val (.int kA), .val (.int dB), .val (.int eB), .val (.int kB), .val (.ref a), .val (.ref b), .unset, .unset, .unset] [(.int dA)])) _
        refine XS.iload X16.here hx rfl (hb hby at_105) rfl ?_
        show Steps p.tables e below (T16.setTop (mkF m 107 #[.val (.int p1), .val (.int p2), .val (.int dA), .val (.int eA), .val (.int kA), .val (.int dB), .val (.int eB), .val (.int kB), .val (.ref a), .val (.ref b), .unset, .unset, .unset] [(.int dB), (.int dA)])) _
        refine XS.icmpYes X16.here hx rfl (pc0 := 107) (pc' := 116) rfl (hb hby at_107) rfl (teq hA).1 (by decide) (by decide) ?_
        show Steps p.tables e below (T16.setTop (mkF m 116 #[.val (.int p1), .val (.int p2), .val (.int dA), .val (.int eA), .val (.int kA), .val (.int dB), .val (.int eB), .val (.int kB), .val (.ref a), .val (.ref b), .unset, .unset, .unset] [])) _
        refine XS.iloadN X16.here hx rfl (hb hby at_116) rfl ?_
        show Steps p.tables e below (T16.setTop (mkF m 117 #[.val (.int p1), .val (.int p2), .val (.int dA), .val (.int eA), .val (.int kA), .val (.int dB), .val (.int eB), .val (.int kB), .val (.ref a), .val (.ref b), .unset, .unset, .unset] [(.int eA)])) _
        refine XS.iload X16.here hx rfl (hb hby at_117) rfl ?_
        show Steps p.tables e below (T16.setTop (mkF m 119 #[.val (.int p1), .val (.int p2), .val (.int dA), .val (.int eA), .val (.int kA), .val (.int dB), .val (.int eB), .val (.int kB), .val (.ref a), .val (.ref b), .unset, .unset, .unset] [(.int eB), (.int eA)])) _
        refine XS.icmpNo X16.here hx rfl (hb hby at_119) rfl (feq hB).1 ?_
        show Steps p.tables e below (T16.setTop (mkF m 122 #[.val (.int p1), .val (.int p2), .val (.int dA), .val (.int eA), .val (.int kA), .val (.int dB), .val (.int eB), .val (.int kB), .val (.ref a), .val (.ref b), .unset, .unset, .unset] [])) _
        refine XS.iconst X16.here hx rfl (hb hby at_122) ?_
        show Steps p.tables e below (T16.setTop (mkF m 123 #[.val (.int p1), .val (.int p2), .val (.int dA), .val (.int eA), .val (.int kA), .val (.int dB), .val (.int eB), .val (.int kB), .val (.ref a), .val (.ref b), .unset, .unset, .unset] [(.int (0 : Int32))])) _
        refine XS.istore X16.here hx rfl (hb hby at_123) rfl (l' := #[.val (.int p1), .val (.int p2), .val (.int dA), .val (.int eA), .val (.int kA), .val (.int dB), .val (.int eB), .val (.int kB), .val (.ref a), .val (.ref b), .val (.int (0 : Int32)), .unset, .unset]) rfl ?_
        show Steps p.tables e below (T16.setTop (mkF m 125 #[.val (.int p1), .val (.int p2), .val (.int dA), .val (.int eA), .val (.int kA), .val (.int dB), .val (.int eB), .val (.int kB), .val (.ref a), .val (.ref b), .val (.int (0 : Int32)), .unset, .unset] [])) _
        refine XS.goto X16.here hx rfl (pc0 := 125) (pc' := 131) rfl (hb hby at_125) (by decide) (by decide) ?_
        exact kt)
      exact g28
    · have hv : xp = 0 := by rw [q_xp]; simp [own_al, hA]
      rw [hv]
      have g29 : own_Go p e below s₁ (entryFrame m #[(.int p1), (.int p2)] maxLocals) T16 (mkF m 131 #[.val (.int p1), .val (.int p2), .val (.int dA), .val (.int eA), .val (.int kA), .val (.int dB), .val (.int eB), .val (.int kB), .val (.ref a), .val (.ref b), .val (.int (0 : Int32)), .unset, .unset] []) := fun t kt => g25 t (by
        show Steps p.tables e below (T16.setTop (mkF m 104 #[.val (.int p1), .val (.int p2), .val (.int dA), .val (.int eA), .val (.int kA), .val (.int dB), .val (.int eB), .val (.int kB), .val (.ref a), .val (.ref b), .unset, .unset, .unset] [])) _
        refine XS.iloadN X16.here hx rfl (hb hby at_104) rfl ?_
        show Steps p.tables e below (T16.setTop (mkF m 105 #[.val (.int p1), .val (.int p2), .val (.int dA), .val (.int eA), .val (.int kA), .val (.int dB), .val (.int eB), .val (.int kB), .val (.ref a), .val (.ref b), .unset, .unset, .unset] [(.int dA)])) _
        refine XS.iload X16.here hx rfl (hb hby at_105) rfl ?_
        show Steps p.tables e below (T16.setTop (mkF m 107 #[.val (.int p1), .val (.int p2), .val (.int dA), .val (.int eA), .val (.int kA), .val (.int dB), .val (.int eB), .val (.int kB), .val (.ref a), .val (.ref b), .unset, .unset, .unset] [(.int dB), (.int dA)])) _
        refine XS.icmpNo X16.here hx rfl (hb hby at_107) rfl (feq hA).1 ?_
        show Steps p.tables e below (T16.setTop (mkF m 110 #[.val (.int p1), .val (.int p2), .val (.int dA), .val (.int eA), .val (.int kA), .val (.int dB), .val (.int eB), .val (.int kB), .val (.ref a), .val (.ref b), .unset, .unset, .unset] [])) _
        refine XS.iconst X16.here hx rfl (hb hby at_110) ?_
        show Steps p.tables e below (T16.setTop (mkF m 111 #[.val (.int p1), .val (.int p2), .val (.int dA), .val (.int eA), .val (.int kA), .val (.int dB), .val (.int eB), .val (.int kB), .val (.ref a), .val (.ref b), .unset, .unset, .unset] [(.int (0 : Int32))])) _
        refine XS.istore X16.here hx rfl (hb hby at_111) rfl (l' := #[.val (.int p1), .val (.int p2), .val (.int dA), .val (.int eA), .val (.int kA), .val (.int dB), .val (.int eB), .val (.int kB), .val (.ref a), .val (.ref b), .val (.int (0 : Int32)), .unset, .unset]) rfl ?_
        show Steps p.tables e below (T16.setTop (mkF m 113 #[.val (.int p1), .val (.int p2), .val (.int dA), .val (.int eA), .val (.int kA), .val (.int dB), .val (.int eB), .val (.int kB), .val (.ref a), .val (.ref b), .val (.int (0 : Int32)), .unset, .unset] [])) _
        refine XS.goto X16.here hx rfl (pc0 := 113) (pc' := 131) rfl (hb hby at_113) (by decide) (by decide) ?_
        exact kt)
      exact g29
  have g30 : own_Go p e below s₁ (entryFrame m #[(.int p1), (.int p2)] maxLocals) T16 (mkF m 135 #[.val (.int p1), .val (.int p2), .val (.int dA), .val (.int eA), .val (.int kA), .val (.int dB), .val (.int eB), .val (.int kB), .val (.ref a), .val (.ref b), .val (.int xp), .unset, .unset] [(.ref b), (.ref a)]) := fun t kt => g26 t (by
    show Steps p.tables e below (T16.setTop (mkF m 131 #[.val (.int p1), .val (.int p2), .val (.int dA), .val (.int eA), .val (.int kA), .val (.int dB), .val (.int eB), .val (.int kB), .val (.ref a), .val (.ref b), .val (.int xp), .unset, .unset] [])) _
    refine XS.aload X16.here hx rfl (hb hby at_131) rfl rfl ?_
    show Steps p.tables e below (T16.setTop (mkF m 133 #[.val (.int p1), .val (.int p2), .val (.int dA), .val (.int eA), .val (.int kA), .val (.int dB), .val (.int eB), .val (.int kB), .val (.ref a), .val (.ref b), .val (.int xp), .unset, .unset] [(.ref a)])) _
    refine XS.aload X16.here hx rfl (hb hby at_133) rfl rfl ?_
    exact kt)
  obtain ⟨cq31, kq31, q31a, q31b, q31c⟩ := isOf hZ rfl f17
  obtain ⟨_, _, ⟨T31, L31, k31, n31⟩, -, X31, ⟨Lc31, hQ31, l31, y31, z31⟩, st31⟩ := X16.virtualBack hx (y := (⟨"com/example/prudent_alter/prudentalter/Quoting", "readsAlike", "(Lcom/example/prudent_alter/prudentalter/Quoting;)Z"⟩ : MethodName)) (z := (⟨"com/example/prudent_alter/prudentalter/Quoting", "readsAlike", "(Lcom/example/prudent_alter/prudentalter/Quoting;)Z"⟩ : MethodName)) hown (mvT hZ (hw _ (List.mem_of_getElem? (i := 15) rfl))) (mvT hZ (hw _ (List.mem_of_getElem? (i := 16) rfl))) (notFace_of_selects (args := #[]) (mvT hZ (hw _ (List.mem_of_getElem? (i := 18) rfl)))) (mvT hZ (hw _ (List.mem_of_getElem? (i := 18) rfl))) (mvT hZ (hw _ (List.mem_of_getElem? (i := 17) rfl))) (by decide) (backOf (W := 0) (rm3 l Z a0 hw [] a b dA dB eA eB T16.heap n0 (Nat.le_trans Z0 KK16.1) f18 Fa16 f19 Fb16) hZ (hw _ (List.mem_of_getElem? (i := 19) rfl)) (hw _ (List.mem_of_getElem? (i := 2) rfl)) (by decide) (by decide)) q31a q31c (g := (mkF m 135 #[.val (.int p1), .val (.int p2), .val (.int dA), .val (.int eA), .val (.int kA), .val (.int dB), .val (.int eB), .val (.int kB), .val (.ref a), .val (.ref b), .val (.int xp), .unset, .unset] [(.ref b), (.ref a)])) rfl (by rw [hml]; rfl) (Steps.refl _) (argsL := [(.ref b)]) (rest := []) (lenOf pd_1 rfl) rfl (by show 2 * 0 + _ ≤ _; exact Nat.le_of_eq rfl) (hb hby at_135) (fun _ _ => ⟨rfl, rfl, (by decide : 2 + 0 ≤ _), (by decide : 6 + 0 ≤ _)⟩)
  dsimp only [Pt.U, Pt.locs, Pt.cells, Pt.slots] at X31 l31 y31 z31 st31 hQ31
  subst l31 y31 z31
  obtain ⟨rfl, N31q, Eq31⟩ := hQ31
  have N31 := Fr.app N16 N31q
  have g31 : own_Go p e below s₁ (entryFrame m #[(.int p1), (.int p2)] maxLocals) T31 (mkF m 138 #[.val (.int p1), .val (.int p2), .val (.int dA), .val (.int eA), .val (.int kA), .val (.int dB), .val (.int eB), .val (.int kB), .val (.ref a), .val (.ref b), .val (.int xp), .unset, .unset] [(.int (own_al dA dB eA eB))]) := fun t kt => g30 t (st31.trans kt)
  have E31' : T31.heap = T16.heap := Eq31
  have g32 : own_Go p e below s₁ (entryFrame m #[(.int p1), (.int p2)] maxLocals) T31 (mkF m 144 #[.val (.int p1), .val (.int p2), .val (.int dA), .val (.int eA), .val (.int kA), .val (.int dB), .val (.int eB), .val (.int kB), .val (.ref a), .val (.ref b), .val (.int xp), .val (.int (own_al dA dB eA eB)), .unset] [(.ref a), (.ref b)]) := fun t kt => g31 t (by
    show Steps p.tables e below (T31.setTop (mkF m 138 #[.val (.int p1), .val (.int p2), .val (.int dA), .val (.int eA), .val (.int kA), .val (.int dB), .val (.int eB), .val (.int kB), .val (.ref a), .val (.ref b), .val (.int xp), .unset, .unset] [(.int (own_al dA dB eA eB))])) _
    refine XS.istore X31.here hx rfl (hb hby at_138) rfl (l' := #[.val (.int p1), .val (.int p2), .val (.int dA), .val (.int eA), .val (.int kA), .val (.int dB), .val (.int eB), .val (.int kB), .val (.ref a), .val (.ref b), .val (.int xp), .val (.int (own_al dA dB eA eB)), .unset]) rfl ?_
    show Steps p.tables e below (T31.setTop (mkF m 140 #[.val (.int p1), .val (.int p2), .val (.int dA), .val (.int eA), .val (.int kA), .val (.int dB), .val (.int eB), .val (.int kB), .val (.ref a), .val (.ref b), .val (.int xp), .val (.int (own_al dA dB eA eB)), .unset] [])) _
    refine XS.aload X31.here hx rfl (hb hby at_140) rfl rfl ?_
    show Steps p.tables e below (T31.setTop (mkF m 142 #[.val (.int p1), .val (.int p2), .val (.int dA), .val (.int eA), .val (.int kA), .val (.int dB), .val (.int eB), .val (.int kB), .val (.ref a), .val (.ref b), .val (.int xp), .val (.int (own_al dA dB eA eB)), .unset] [(.ref b)])) _
    refine XS.aload X31.here hx rfl (hb hby at_142) rfl rfl ?_
    exact kt)
  obtain ⟨cq33, kq33, q33a, q33b, q33c⟩ := isOf hZ E31' f21
  obtain ⟨_, _, ⟨T33, L33, k33, n33⟩, -, X33, ⟨Lc33, hQ33, l33, y33, z33⟩, st33⟩ := X31.virtualBack hx (y := (⟨"com/example/prudent_alter/prudentalter/Quoting", "readsAlike", "(Lcom/example/prudent_alter/prudentalter/Quoting;)Z"⟩ : MethodName)) (z := (⟨"com/example/prudent_alter/prudentalter/Quoting", "readsAlike", "(Lcom/example/prudent_alter/prudentalter/Quoting;)Z"⟩ : MethodName)) hown (mvT hZ (hw _ (List.mem_of_getElem? (i := 15) rfl))) (mvT hZ (hw _ (List.mem_of_getElem? (i := 16) rfl))) (notFace_of_selects (args := #[]) (mvT hZ (hw _ (List.mem_of_getElem? (i := 18) rfl)))) (mvT hZ (hw _ (List.mem_of_getElem? (i := 18) rfl))) (mvT hZ (hw _ (List.mem_of_getElem? (i := 17) rfl))) (by decide) (backOf (W := 0) (rm3 l Z a0 hw [] b a dB dA eB eA T16.heap n0 (Nat.le_trans Z0 KK16.1) Fa16 f18 Fb16 f19) hZ (hw _ (List.mem_of_getElem? (i := 19) rfl)) (hw _ (List.mem_of_getElem? (i := 2) rfl)) (by decide) (by decide)) q33a q33c (g := (mkF m 144 #[.val (.int p1), .val (.int p2), .val (.int dA), .val (.int eA), .val (.int kA), .val (.int dB), .val (.int eB), .val (.int kB), .val (.ref a), .val (.ref b), .val (.int xp), .val (.int (own_al dA dB eA eB)), .unset] [(.ref a), (.ref b)])) rfl (by rw [hml]; rfl) (Steps.refl _) (argsL := [(.ref a)]) (rest := []) (lenOf pd_1 rfl) rfl (by show 2 * 0 + _ ≤ _; exact Nat.le_of_eq rfl) (hb hby at_144) (fun _ _ => ⟨rfl, E31', (by decide : 2 + 0 ≤ _), (by decide : 6 + 0 ≤ _)⟩)
  dsimp only [Pt.U, Pt.locs, Pt.cells, Pt.slots] at X33 l33 y33 z33 st33 hQ33
  subst l33 y33 z33
  obtain ⟨rfl, N33q, Eq33⟩ := hQ33
  have N33 := Fr.app N31 N33q
  have g33 : own_Go p e below s₁ (entryFrame m #[(.int p1), (.int p2)] maxLocals) T33 (mkF m 147 #[.val (.int p1), .val (.int p2), .val (.int dA), .val (.int eA), .val (.int kA), .val (.int dB), .val (.int eB), .val (.int kB), .val (.ref a), .val (.ref b), .val (.int xp), .val (.int (own_al dA dB eA eB)), .unset] [(.int (own_al dB dA eB eA))]) := fun t kt => g32 t (st33.trans kt)
  have E33' : T33.heap = T16.heap := Eq33
  have g34 : own_Go p e below s₁ (entryFrame m #[(.int p1), (.int p2)] maxLocals) T33 (mkF m 168 #[.val (.int p1), .val (.int p2), .val (.int dA), .val (.int eA), .val (.int kA), .val (.int dB), .val (.int eB), .val (.int kB), .val (.ref a), .val (.ref b), .val (.int xp), .val (.int (own_al dA dB eA eB)), .val (.int (own_al dB dA eB eA))] [(.int (1 : Int32))]) := fun t kt => g33 t (by
    show Steps p.tables e below (T33.setTop (mkF m 147 #[.val (.int p1), .val (.int p2), .val (.int dA), .val (.int eA), .val (.int kA), .val (.int dB), .val (.int eB), .val (.int kB), .val (.ref a), .val (.ref b), .val (.int xp), .val (.int (own_al dA dB eA eB)), .unset] [(.int (own_al dB dA eB eA))])) _
    refine XS.istore X33.here hx rfl (hb hby at_147) rfl (l' := #[.val (.int p1), .val (.int p2), .val (.int dA), .val (.int eA), .val (.int kA), .val (.int dB), .val (.int eB), .val (.int kB), .val (.ref a), .val (.ref b), .val (.int xp), .val (.int (own_al dA dB eA eB)), .val (.int (own_al dB dA eB eA))]) rfl ?_
    show Steps p.tables e below (T33.setTop (mkF m 149 #[.val (.int p1), .val (.int p2), .val (.int dA), .val (.int eA), .val (.int kA), .val (.int dB), .val (.int eB), .val (.int kB), .val (.ref a), .val (.ref b), .val (.int xp), .val (.int (own_al dA dB eA eB)), .val (.int (own_al dB dA eB eA))] [])) _
    refine XS.iload X33.here hx rfl (hb hby at_149) rfl ?_
    show Steps p.tables e below (T33.setTop (mkF m 151 #[.val (.int p1), .val (.int p2), .val (.int dA), .val (.int eA), .val (.int kA), .val (.int dB), .val (.int eB), .val (.int kB), .val (.ref a), .val (.ref b), .val (.int xp), .val (.int (own_al dA dB eA eB)), .val (.int (own_al dB dA eB eA))] [(.int (own_al dA dB eA eB))])) _
    refine XS.iload X33.here hx rfl (hb hby at_151) rfl ?_
    show Steps p.tables e below (T33.setTop (mkF m 153 #[.val (.int p1), .val (.int p2), .val (.int dA), .val (.int eA), .val (.int kA), .val (.int dB), .val (.int eB), .val (.int kB), .val (.ref a), .val (.ref b), .val (.int xp), .val (.int (own_al dA dB eA eB)), .val (.int (own_al dB dA eB eA))] [(.int xp), (.int (own_al dA dB eA eB))])) _
    refine XS.icmpNo X33.here hx rfl (hb hby at_153) rfl (teq q_xp.symm).2 ?_
    show Steps p.tables e below (T33.setTop (mkF m 156 #[.val (.int p1), .val (.int p2), .val (.int dA), .val (.int eA), .val (.int kA), .val (.int dB), .val (.int eB), .val (.int kB), .val (.ref a), .val (.ref b), .val (.int xp), .val (.int (own_al dA dB eA eB)), .val (.int (own_al dB dA eB eA))] [])) _
    refine XS.iload X33.here hx rfl (hb hby at_156) rfl ?_
    show Steps p.tables e below (T33.setTop (mkF m 158 #[.val (.int p1), .val (.int p2), .val (.int dA), .val (.int eA), .val (.int kA), .val (.int dB), .val (.int eB), .val (.int kB), .val (.ref a), .val (.ref b), .val (.int xp), .val (.int (own_al dA dB eA eB)), .val (.int (own_al dB dA eB eA))] [(.int (own_al dB dA eB eA))])) _
    refine XS.iload X33.here hx rfl (hb hby at_158) rfl ?_
    show Steps p.tables e below (T33.setTop (mkF m 160 #[.val (.int p1), .val (.int p2), .val (.int dA), .val (.int eA), .val (.int kA), .val (.int dB), .val (.int eB), .val (.int kB), .val (.ref a), .val (.ref b), .val (.int xp), .val (.int (own_al dA dB eA eB)), .val (.int (own_al dB dA eB eA))] [(.int xp), (.int (own_al dB dA eB eA))])) _
    refine XS.icmpNo X33.here hx rfl (hb hby at_160) rfl (teq ((own_al_symm dA dB eA eB).trans q_xp.symm)).2 ?_
    show Steps p.tables e below (T33.setTop (mkF m 163 #[.val (.int p1), .val (.int p2), .val (.int dA), .val (.int eA), .val (.int kA), .val (.int dB), .val (.int eB), .val (.int kB), .val (.ref a), .val (.ref b), .val (.int xp), .val (.int (own_al dA dB eA eB)), .val (.int (own_al dB dA eB eA))] [])) _
    refine XS.iconst X33.here hx rfl (hb hby at_163) ?_
    show Steps p.tables e below (T33.setTop (mkF m 164 #[.val (.int p1), .val (.int p2), .val (.int dA), .val (.int eA), .val (.int kA), .val (.int dB), .val (.int eB), .val (.int kB), .val (.ref a), .val (.ref b), .val (.int xp), .val (.int (own_al dA dB eA eB)), .val (.int (own_al dB dA eB eA))] [(.int (1 : Int32))])) _
    refine XS.goto X33.here hx rfl (pc0 := 164) (pc' := 168) rfl (hb hby at_164) (by decide) (by decide) ?_
    exact kt)
  obtain ⟨fs, hr, hrun, hended, hW, hsame⟩ := X33.leave (v := some (.int (1 : Int32))) (fun h => by rw [Bd.returns] at h; cases h)
  refine ⟨_, _, g34 _ (retN X33 hx (t := .boolean) Bd.returns (by simp) (hb hby at_168) hr), hrun, hended, _, _, rfl, ?_, ⟨_, rfl⟩, hW, hsame.mono (by decide) (by decide)⟩
  show Q_rm0 Z p1 p2 h0 n0 _ T33.heap _
  rw [E33']
  exact ⟨rfl, N33⟩
set_option maxRecDepth 65536 in
set_option maxHeartbeats 40000000 in
theorem comes_1 {Post : Tables → Env → Array Value → State → Outcome → State → Prop} (hpost : ∀ tb e args s v u, (limb_1_1.after args s (.returned v) u = true ∧ limb_1_2.after args s (.returned v) u = true ∧ True) → FrameEnd s (.returned v) u (Jvm.fieldLocs frame_1_writes args s ++ Jvm.arrayLocs frame_1_arrays args s ++ Jvm.staticLocs frame_1_statics s) 16 128 → Post tb e args s (.returned v) u) :
    ArmFor flags0 classFile x code maxLocals ret World_1 tables_1 room_1 Calls_1 rest_1 Pre_1 Post := by
  intro l hfl _ _ p e ha hc hk s m args below hf hA hF happ hP
  obtain ⟨hcalls, hrest, hpre⟩ := hP
  obtain ⟨-, -, -, hnamed, -, -, -, hat⟩ := (Spec.applies_iff hf).mp happ
  obtain ⟨hg, hn⟩ := and_e (Cond.before_iff.mp (show (Jvm.Cond.and given_1 narrow_1).before args s = true from hpre))
  obtain ⟨g9, g10⟩ := and_e hg
  obtain ⟨g11, g12⟩ := and_e g10
  obtain ⟨w0, w1, rfl⟩ : ∃ w0 w1 : Value, args = #[w0, w1] := by
    have hs : args.size = 2 := by simpa [Cond.value, given_1] using g9
    obtain ⟨L⟩ := args
    match L, hs with
    | [w0, w1], _ => exact ⟨w0, w1, rfl⟩
  have hw := fun d (hd : d ∈ tables_1) => atoms_spec (ws := Jvm.Cond.code x code maxLocals ret :: tables_1) hat d (List.mem_cons_of_mem _ hd)
  have hfit : Fit s := fun {y c} hc i hi => by
    obtain ⟨ha, rfl⟩ := Array.getElem?_eq_some_iff.mp hc
    have q := List.all_eq_true.mp ((Array.all_eq_true_iff_forall_mem.mp hF) _ (Array.getElem_mem ha)) i (List.mem_range.mpr hi)
    simpa [Array.getElem?_eq_getElem hi] using q
  obtain ⟨i0, ei0⟩ := is_v g11
  obtain rfl : w0 = (.int i0) := Option.some.inj ei0
  obtain ⟨i1, ei1⟩ := is_v g12
  obtain rfl : w1 = (.int i1) := Option.some.inj ei1
  obtain ⟨n, o, h1, h2, h3, _, L, rfl, ⟨rfl, N⟩, hq⟩ := rm0 l s _ hw tables_1 i0 i1 s.heap s.heap.size (Nat.le_refl _) p e ha hc hk s m _ below hf ((Spec.applies_iff_loose hf).mp happ).1 ⟨rfl, State.Warmed39.refl s, rfl⟩ trivial
  refine ⟨n, _, h1, h2, h3, hpost _ _ _ _ _ _ ⟨Cond.after_iff.mpr rfl, Cond.after_iff.mpr (eq_i res_at (Term.int_eval (1)) rfl), trivial⟩ ⟨hq.1, hq.2.1, (hq.2.2.sift fun y hy => Or.inr (N y hy)).mono (by decide) (by decide)⟩⟩
theorem main_1_1 : Claimed_1_1 := comes_1 fun _ _ _ _ _ _ h hF => ⟨h.1, hF⟩
theorem main_1_2 : Claimed_1_2 := comes_1 fun _ _ _ _ _ _ h hF => ⟨h.2.1, hF⟩
end Jvm.Pilot.@@N@@
namespace Jvm.Pilot.@@N@@
open Jvm Jvm.ClassFile Sem Op Lib Jvm.Free Jvm.Stand Jvm.Pilot.@@N@@.Jvm.D
/-! MADE BY PROGRAM (witnessworld.py) out of the Statement's table words and the real class files: 9 classes; the members and pool entries that the words name. The judged class is class 1, her method 1. -/
namespace start1
open Jvm.ClassFile
def u (s : String) : CpInfo := .utf8 (stringToUtf16 s)
/-- a pool by its gaps: so many unusable entries, then the entry; so many at the end -/
def gap : Nat → List CpInfo → List CpInfo
  | 0, r => r
  | n + 1, r => .unusable :: gap n r
def poolList (es : List (Nat × CpInfo)) (last : Nat) : List CpInfo := es.foldr (fun e r => gap e.1 (e.2 :: r)) (gap last [])
def pool (es : List (Nat × CpInfo)) (last : Nat) : Array CpInfo := ⟨poolList es last⟩
def fileOf (pool : Array CpInfo) (this : Nat) (attrs : Array Attribute := #[]) (ms : Array MethodInfo := #[]) (fl : Nat := 33) (sup : Nat := 0) (ifs : Array Nat := #[]) (fds : Array FieldInfo := #[]) : ClassFile where
  minorVersion := 0
  majorVersion := 65
  constantPool := pool
  accessFlags := fl
  thisClass := this
  superClass := sup
  interfaces := ifs
  fields := fds
  methods := ms
  attributes := attrs
def plain (name : String) (sup : Option ClassId) : Class where
  name := name
  kind := .ordinary
  loader := none
  accessFlags := 33
  super := sup
  interfaces := #[]
  cf := none
  fields := #[]
  methods := #[]
  instanceTypes := #[]
  staticTypes := #[]
  resolved := #[]
  callSites := []
  init := .initialized
  statics := none
  mirror := none

def pool0 : Array CpInfo := pool [(5, u "<init>"), (0, u "()V"), (1, .class_ 10), (1, u "java/lang/Object")] 113

def k0c0 : Code := { maxStack := 0, maxLocals := 1, code := object_method_1_code, exceptionTable := #[], attributes := #[] }
def k0m0 : Method := { name := "<init>", desc := "()V", sig := { parameters := [], returnType := none }, accessFlags := 1, code := some k0c0 }
/-- java/lang/Object -/
def k0 : Class := { plain "java/lang/Object" none with
  accessFlags := 33
  interfaces := #[]
  cf := some (fileOf pool0 8 #[] #[{ accessFlags := 1, nameIndex := 5, descriptorIndex := 6, attributes := #[] }] 33 0 #[] #[])
  fields := #[]
  methods := #[k0m0]
  instanceTypes := #[]
  staticTypes := #[]
  resolved := Array.replicate 124 none
  statics := none }

def pool1 : Array CpInfo := pool [(2, .class_ 4), (1, u "java/lang/Object"), (0, u "<init>"), (0, u "()V"), (0, .class_ 8), (0, u "com/example/prudent_alter/prudentalter/Quoting"), (0, .methodref 7 10), (0, .nameAndType 5 11), (0, u "(ZZZ)V"), (0, .methodref 7 13), (0, .nameAndType 14 15), (0, u "readsAlike"), (0, u "(Lcom/example/prudent_alter/prudentalter/Quoting;)Z"), (0, .class_ 17), (0, u "com/example/prudent_alter/prudentalter/QuotingReadsAlikePinLaw"), (2, u "law"), (0, u "(II)Z")] 3

def k1m0 : Method := { name := "<init>", desc := "()V", sig := { parameters := [], returnType := none }, accessFlags := 1, code := none }
def k1c1 : Code := { maxStack := 5, maxLocals := 13, code := code, exceptionTable := #[], attributes := #[] }
def k1m1 : Method := { name := "law", desc := "(II)Z", sig := { parameters := [.int, .int], returnType := some .boolean }, accessFlags := 9, code := some k1c1 }
/-- com/example/prudent_alter/prudentalter/QuotingReadsAlikePinLaw -/
def k1 : Class := { plain "com/example/prudent_alter/prudentalter/QuotingReadsAlikePinLaw" (some 0) with
  accessFlags := 49
  interfaces := #[]
  cf := some (fileOf pool1 16 #[] #[{ accessFlags := 1, nameIndex := 5, descriptorIndex := 6, attributes := #[] }, { accessFlags := 9, nameIndex := 20, descriptorIndex := 21, attributes := #[] }] 49 2 #[] #[])
  fields := #[]
  methods := #[k1m0, k1m1]
  instanceTypes := #[]
  staticTypes := #[]
  resolved := Array.replicate 25 none
  statics := none }

def pool2 : Array CpInfo := pool [(1, .methodref 2 3), (0, .class_ 4), (0, .nameAndType 5 6), (0, u "java/lang/Object"), (0, u "<init>"), (0, u "()V"), (0, .fieldref 8 9), (0, .class_ 10), (0, .nameAndType 11 12), (0, u "com/example/prudent_alter/prudentalter/Quoting"), (0, u "doubleQuotedNames"), (0, u "Z"), (0, .fieldref 8 14), (0, .nameAndType 15 12), (0, u "backslashEscapes"), (0, .fieldref 8 17), (0, .nameAndType 18 12), (0, u "known"), (0, u "(ZZZ)V"), (4, u "readsAlike"), (0, u "(Lcom/example/prudent_alter/prudentalter/Quoting;)Z")] 3

def k2c0 : Code := { maxStack := 2, maxLocals := 4, code := prog_101_method_1_code, exceptionTable := #[], attributes := #[] }
def k2m0 : Method := { name := "<init>", desc := "(ZZZ)V", sig := { parameters := [.boolean, .boolean, .boolean], returnType := none }, accessFlags := 0, code := some k2c0 }
def k2c1 : Code := { maxStack := 2, maxLocals := 2, code := prog_101_method_5_code, exceptionTable := #[], attributes := #[] }
def k2m1 : Method := { name := "readsAlike", desc := "(Lcom/example/prudent_alter/prudentalter/Quoting;)Z", sig := { parameters := [(.object "com/example/prudent_alter/prudentalter/Quoting")], returnType := some .boolean }, accessFlags := 0, code := some k2c1 }
/-- com/example/prudent_alter/prudentalter/Quoting -/
def k2 : Class := { plain "com/example/prudent_alter/prudentalter/Quoting" (some 0) with
  accessFlags := 32
  interfaces := #[]
  cf := some (fileOf pool2 8 #[] #[{ accessFlags := 0, nameIndex := 5, descriptorIndex := 19, attributes := #[] }, { accessFlags := 0, nameIndex := 24, descriptorIndex := 25, attributes := #[] }] 32 2 #[] #[{ accessFlags := 18, nameIndex := 11, descriptorIndex := 12, attributes := #[] }, { accessFlags := 18, nameIndex := 15, descriptorIndex := 12, attributes := #[] }, { accessFlags := 18, nameIndex := 18, descriptorIndex := 12, attributes := #[] }])
  fields := #[{ name := "doubleQuotedNames", type := .boolean, accessFlags := 18, slot := 0, constantValue := 0 }, { name := "backslashEscapes", type := .boolean, accessFlags := 18, slot := 1, constantValue := 0 }, { name := "known", type := .boolean, accessFlags := 18, slot := 2, constantValue := 0 }]
  methods := #[k2m0, k2m1]
  instanceTypes := #[.boolean, .boolean, .boolean]
  staticTypes := #[]
  resolved := Array.replicate 29 none
  statics := none }

def pool3 : Array CpInfo := pool [(1, u "java/lang/Cloneable"), (0, .class_ 1), (0, u "java/lang/Object"), (0, .class_ 3)] 3

/-- java/lang/Cloneable -/
def k3 : Class := { plain "java/lang/Cloneable" (some 0) with
  accessFlags := 1537
  interfaces := #[]
  cf := some (fileOf pool3 2 #[] #[] 1537 4 #[] #[])
  fields := #[]
  methods := #[]
  instanceTypes := #[]
  staticTypes := #[]
  resolved := Array.replicate 8 none
  statics := none }

def pool4 : Array CpInfo := pool [(1, u "java/io/Serializable"), (0, .class_ 1), (0, u "java/lang/Object"), (0, .class_ 3)] 3

/-- java/io/Serializable -/
def k4 : Class := { plain "java/io/Serializable" (some 0) with
  accessFlags := 1537
  interfaces := #[]
  cf := some (fileOf pool4 2 #[] #[] 1537 4 #[] #[])
  fields := #[]
  methods := #[]
  instanceTypes := #[]
  staticTypes := #[]
  resolved := Array.replicate 8 none
  statics := none }

/-- the primitive byte -/
def k5 : Class := { plain "byte" none with kind := .primitive 'B', accessFlags := 0x411 }
/-- [B -/
def k6 : Class := { plain "[B" (some 0) with kind := .array 5 .byte, interfaces := #[3, 4], accessFlags := 1041 }

/-- the primitive int -/
def k7 : Class := { plain "int" none with kind := .primitive 'I', accessFlags := 0x411 }
/-- [I -/
def k8 : Class := { plain "[I" (some 0) with kind := .array 7 .int, interfaces := #[3, 4], accessFlags := 1041 }

def heap : Heap := #[]
def classes : Array Class := #[k0, k1, k2, k3, k4, k5, k6, k7, k8]
def interned : List (Array UInt16 × Addr) := []
def slotsUsed : Nat := 0
def theMethod : MethodId := ⟨1, 1⟩
def args0 : Array Value := #[.int 5, .int 3]
def aboutOver (below : List Frame) : State where
  vm := { classes := classes, interned := interned.toArray }
  heap := heap
  slotsUsed := slotsUsed
  threads := #[{ frames := .invoking theMethod args0 :: below }]
def below0 : List Frame := [.native { method := ⟨0, 0⟩, args := #[] }]
def about1 : State := aboutOver below0
def p0 : Program := .bare "" "" ""
def e0 : Env := launch0.env 0 0 0
theorem w_frames : about1.frames = Frame.invoking theMethod args0 :: below0 := rfl
set_option maxRecDepth 65536 in
theorem w_args : argsFit about1.vm theMethod args0 = true := by decide +kernel
set_option maxRecDepth 65536 in
theorem w_heap : heapFits about1 = true := by decide +kernel
set_option maxRecDepth 65536 in
theorem w_runnable : about1.curStatus? = some .runnable := by decide +kernel
set_option maxRecDepth 65536 in
theorem w_alone : about1.alone = true := by decide +kernel
set_option maxRecDepth 65536 in
theorem w_named : about1.methodNamed? x = some theMethod := by decide +kernel
set_option maxRecDepth 65536 in
theorem w_hears : about1.hears theMethod below0 = true := by decide +kernel
set_option maxRecDepth 65536 in
theorem w_ripe : about1.ripe theMethod args0 below0 = true := by decide +kernel
theorem w_running : about1.status = .running := rfl
set_option maxRecDepth 65536 in
theorem w_room : about1.hasRoom e0.platform room_1 = true :=
  launch0.hasRoom_least _ room_1 (by decide +kernel) (by decide +kernel) (by decide +kernel) (by decide +kernel) (by decide +kernel) (by decide +kernel)
theorem allAtoms_all (ts : List Jvm.Cond) (a : Array Jvm.Value) (st : Jvm.State) : (allAtoms ts).before a st = ts.all (fun c => c.before a st) := by
  induction ts with
  | nil => rfl
  | cons c t ih =>
    show (Jvm.Cond.and c (allAtoms t)).before a st = _
    rw [Jvm.Cond.before_and, ih, List.all_cons]
def words1 : List Jvm.Cond := Jvm.Cond.code x code maxLocals ret :: tables_1
/-- a 'code' word, met by the world's own term for the bytes: nothing is compared byte by byte -/
theorem code_word {y : MethodName} {bytes : ByteArray} {mx : Nat} {rt : Option FieldType} {a : Array Value} {s : State} {m : MethodId} {meth : Method} {c : Code} (h1 : s.methodNamed? y = some m) (h2 : s.vm.method? m = some meth) (h3 : meth.code = some c) (h4 : c.code = bytes)
    (h5 : (c.maxLocals == mx && c.exceptionTable.isEmpty && decide (c.maxStack ≤ mostOperands) && decide (meth.sig.returnType = rt) && !meth.locks && decide (parseMethodDescriptor y.desc = some meth.sig)) = true) : (Jvm.Cond.code y bytes mx rt).before a s = true := by
  simp only [Bool.and_eq_true, beq_iff_eq, Bool.not_eq_true', decide_eq_true_eq] at h5
  obtain ⟨⟨⟨⟨⟨g1, g2⟩, g3⟩, g4⟩, g5⟩, g6⟩ := h5
  simp [Cond.before, Cond.holds, Cond.value, h1, h2, h3, h4, g1, g2, g3, g4, g5, g6]
def isCode : Jvm.Cond → Bool
  | .code _ _ _ _ => true
  | _ => false
theorem all_split {L : List Jvm.Cond} {P : Jvm.Cond → Bool} (h1 : L.all (fun c => isCode c || P c) = true) (h2 : ∀ c ∈ L.filter isCode, P c = true) : L.all P = true := by
  refine List.all_eq_true.mpr fun c hc => ?_
  have h := List.all_eq_true.mp h1 c hc
  rcases Bool.eq_false_or_eq_true (isCode c) with hi | hi
  · exact h2 c (List.mem_filter.mpr ⟨hc, hi⟩)
  · simpa [hi] using h
set_option maxRecDepth 65536 in
theorem w_c0 : (Jvm.Cond.code x code maxLocals ret).before args0 about1 = true := code_word (m := ⟨1, 1⟩) (meth := k1m1) (c := k1c1) (by decide +kernel) rfl rfl rfl (by decide +kernel)
set_option maxRecDepth 65536 in
theorem w_c1 : (Jvm.Cond.code ({ cls := "com/example/prudent_alter/prudentalter/Quoting", name := "<init>", desc := "(ZZZ)V" } : Jvm.MethodName) prog_101_method_1_code (4 : Nat) (Option.none : Option Jvm.ClassFile.FieldType)).before args0 about1 = true := code_word (m := ⟨2, 0⟩) (meth := k2m0) (c := k2c0) (by decide +kernel) rfl rfl rfl (by decide +kernel)
set_option maxRecDepth 65536 in
theorem w_c2 : (Jvm.Cond.code ({ cls := "java/lang/Object", name := "<init>", desc := "()V" } : Jvm.MethodName) object_method_1_code (1 : Nat) (Option.none : Option Jvm.ClassFile.FieldType)).before args0 about1 = true := code_word (m := ⟨0, 0⟩) (meth := k0m0) (c := k0c0) (by decide +kernel) rfl rfl rfl (by decide +kernel)
set_option maxRecDepth 65536 in
theorem w_c3 : (Jvm.Cond.code ({ cls := "com/example/prudent_alter/prudentalter/Quoting", name := "readsAlike", desc := "(Lcom/example/prudent_alter/prudentalter/Quoting;)Z" } : Jvm.MethodName) prog_101_method_5_code (2 : Nat) (Option.some Jvm.ClassFile.FieldType.boolean)).before args0 about1 = true := code_word (m := ⟨2, 1⟩) (meth := k2m1) (c := k2c1) (by decide +kernel) rfl rfl rfl (by decide +kernel)
def codes1 : List Jvm.Cond := [Jvm.Cond.code x code maxLocals ret, Jvm.Cond.code ({ cls := "com/example/prudent_alter/prudentalter/Quoting", name := "<init>", desc := "(ZZZ)V" } : Jvm.MethodName) prog_101_method_1_code (4 : Nat) (Option.none : Option Jvm.ClassFile.FieldType), Jvm.Cond.code ({ cls := "java/lang/Object", name := "<init>", desc := "()V" } : Jvm.MethodName) object_method_1_code (1 : Nat) (Option.none : Option Jvm.ClassFile.FieldType), Jvm.Cond.code ({ cls := "com/example/prudent_alter/prudentalter/Quoting", name := "readsAlike", desc := "(Lcom/example/prudent_alter/prudentalter/Quoting;)Z" } : Jvm.MethodName) prog_101_method_5_code (2 : Nat) (Option.some Jvm.ClassFile.FieldType.boolean)]
set_option maxRecDepth 65536 in
theorem codes_eq : words1.filter isCode = codes1 := rfl
theorem w_codes : ∀ c ∈ words1.filter isCode, c.before args0 about1 = true := by
  rw [codes_eq]
  intro c hc
  simp only [codes1, List.mem_cons, List.not_mem_nil, or_false] at hc
  rcases hc with rfl | rfl | rfl | rfl
  · exact w_c0
  · exact w_c1
  · exact w_c2
  · exact w_c3
set_option maxRecDepth 65536 in
theorem w_t1 : words1.all (fun c => isCode c || c.before args0 about1) = true := by decide +kernel
theorem w_tables : (allAtoms (Jvm.Cond.code x code maxLocals ret :: tables_1)).before args0 about1 = true := by
  rw [allAtoms_all]
  show words1.all (fun c => c.before args0 about1) = true
  refine all_split ?_ w_codes
  rw [w_t1]
set_option maxRecDepth 65536 in
theorem w_case : (Jvm.Cond.and given_1 narrow_1).before args0 about1 = true := by decide +kernel
theorem w_applies : (headSpec (Jvm.Cond.code x code maxLocals ret :: tables_1) room_1).applies x e0.platform about1 = true :=
  (Spec.applies_iff w_frames).mpr ⟨w_running, w_runnable, w_alone, w_named, w_hears, w_ripe, w_room, w_tables⟩
theorem atStart : AtStart classFile x code maxLocals ret World_1 tables_1 room_1 Calls_1 rest_1 Pre_1 launch0 p0 e0 about1 theMethod args0 below0 :=
  ⟨lists_1, trivial, launch0.admits_env _ _ _, launch0.least_env, fairChoices_fair.cas, fairChoices_fair.clock, w_frames, w_args, w_heap, w_applies, trivial, trivial, w_case⟩
end start1
theorem witness_1 : WitnessClaimed_1 := ⟨start1.p0, start1.e0, start1.about1, start1.theMethod, start1.args0, start1.below0, start1.atStart⟩
end Jvm.Pilot.@@N@@
