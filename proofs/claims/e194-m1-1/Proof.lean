import JvmDerived
import JvmDerived.Pilot.@@N@@Statement
import JvmDerived.Pilot.@@N@@Code
set_option linter.unusedVariables false
set_option linter.unusedSimpArgs false
namespace Jvm.RoadKit
open Sem ClassFile Op Lib Jvm.Stand Jvm.Free Jvm.LawKit
section New
variable {p : Program} {l : Launch} {e : Env} {R : Room} {s : State} {m : MethodId} {args : Array Value} {below : List Frame} {meth : Method} {c : Code} {T : State} {locs : List Loc} {cells slots : Nat}
theorem retI (X : Stand p l e R s m args below meth c T locs cells slots) (hx : p.tables.exec = Jvm.exec) {pc : Nat} {Ls : Array Slot} {z : Int32} {rest : List Value} (hret : meth.sig.returnType = some .int) (hd : decode c.code pc = .ok (.ireturn, 1)) {fs : List Frame}
    (hl : ∀ (f : JFrame) (acts : List Action), f.method = m → f.locked = none → f.entered = [] → (doReturn e (T.setTop f) acts (some (.int z))).1 = T.setFrames fs) : Steps p.tables e below (T.setTop (mkF m pc Ls (.int z :: rest))) (T.setFrames fs) := by
  have hm' : T.vm.method? m = some meth := X.method'
  have hn : narrow .int (.int z) = .int z := rfl
  show Steps p.tables e below (T.setTop { method := m, pc := pc, locals := Ls, stack := _ :: rest, locked := none }) _
  jvm_step X.here [X.here.top, hx, hd, hm', hret, hn]
  first | (intro acts; rw [hl _ acts rfl rfl rfl]) | rw [hl _ _ rfl rfl rfl]
  exact Steps.refl _
end New
end Jvm.RoadKit
namespace Jvm.Pilot.@@N@@
open Jvm Jvm.ClassFile Sem Op Lib Jvm.Free Jvm.Stand Jvm.LawKit Jvm.RoadKit Bundle Jvm.Pilot.@@N@@.Jvm.D
/-- from (T, g) the run comes to (T', g') -/
abbrev own_Go (p : Program) (e : Env) (below : List Frame) (T : State) (g : JFrame) (T' : State) (g' : JFrame) : Prop := ∀ t, Steps p.tables e below (T'.setTop g') t → Steps p.tables e below (T.setTop g) t
def own_bz (z : Int32) : Int32 := if z = 0 then 0 else 1
theorem own_bz_and (z : Int32) : own_bz z &&& 1 = own_bz z := by unfold own_bz; split <;> decide
section OwnBool
variable {p : Program} {l : Launch} {e : Env} {R : Room} {s : State} {m : MethodId} {args : Array Value} {below : List Frame} {meth : Method} {c : Code} {T : State} {locs : List Loc} {cells slots : Nat}
/-- 'z != 0 ? 1 : 0' as javac lays it: ifeq +7, iconst_1, goto +4, iconst_0 -/
theorem own_bool (X : Stand p l e R s m args below meth c T locs cells slots) (hx : p.tables.exec = Jvm.exec) {pc : Nat} {Ls : Array Slot} {z : Int32} {rest : List Value}
    (d0 : decode c.code pc = .ok (.ifCond .eq 7, 3)) (d1 : decode c.code (pc + 3) = .ok (.iconst 1, 1)) (d2 : decode c.code (pc + 4) = .ok (.goto 4, 3)) (d3 : decode c.code (pc + 7) = .ok (.iconst 0, 1)) :
    own_Go p e below T (mkF m pc Ls (.int z :: rest)) T (mkF m (pc + 8) Ls (.int (own_bz z) :: rest)) := by
  intro t hr
  by_cases h : z = 0
  · have hv : own_bz z = 0 := by simp [own_bz, h]
    rw [hv] at hr
    refine XS.ifYes X.here hx rfl (pc0 := pc) (pc' := pc + 7) rfl d0 rfl ((if0 _ _).trans (teq h).1) (by omega) (by omega) ?_
    exact XS.iconst X.here hx rfl d3 hr
  · have hv : own_bz z = 1 := by simp [own_bz, h]
    rw [hv] at hr
    refine XS.ifNo X.here hx rfl d0 rfl ((if0 _ _).trans (feq h).1) ?_
    refine XS.iconst X.here hx rfl d1 ?_
    exact XS.goto X.here hx rfl (pc0 := pc + 4) (pc' := pc + 8) rfl d2 (by omega) (by omega) hr
end OwnBool
theorem own_row {s : State} {args : Array Value} {R f d : String} {z : Int32} (hx : (Jvm.Cond.exactly (Jvm.Term.static R f d) R).value args s none s [] = some true) (he : (Jvm.Cond.eq (Jvm.Term.field (Jvm.Term.static R f d) R "compactRecords" "Z") (Jvm.Term.int z)).value args s none s [] = some true)
    (hi : (Jvm.Cond.initialized R).before args s = true) (hl : (Jvm.Cond.laysStatic R f d).before args s = true) : ∃ a : Addr, Sta s s.heap R f d (.ref a) ∧ Exa s s.heap a R ∧ Fld s s.heap a R "compactRecords" "Z" (.int z) := by
  obtain ⟨a, ea⟩ := exa_v hx
  refine ⟨a, Sta.start ea (Or.inr ⟨hi, hl⟩), Exa.start ea hx, Fld.start ?_⟩
  rw [← fld_at (args := args) (first := s) (o := none) (idx := []) ea]
  obtain ⟨x, y, h1, h2, k1, k2⟩ := cmp_v (Or.inl he)
  have h2' : (Jvm.Term.int z).eval args s none [] s = some (.int z) := rfl
  cases h2.symm.trans h2'
  obtain ⟨w, rfl⟩ : ∃ w, x = .int w := k2
  have hh := gotT (show _ = some (decide (w = z)) from by simp [Cond.value, h1, h2']) he
  rw [h1, hh]
def own_pick (k : Int32) (x0 x1 x2 x3 x4 x5 : Addr) : Addr := if k = 0 then x0 else if k = 1 then x1 else if k = 2 then x2 else if k = 3 then x3 else if k = 4 then x4 else x5
def own_cmp (k : Int32) : Int32 := if k = 4 then 0 else 1
theorem own_pick_of {P : Addr → Int32 → Prop} (k : Int32) {x0 x1 x2 x3 x4 x5 : Addr} (h0 : P x0 1) (h1 : P x1 1) (h2 : P x2 1) (h3 : P x3 1) (h4 : P x4 0) (h5 : P x5 1) : P (own_pick k x0 x1 x2 x3 x4 x5) (own_cmp k) := by
  unfold own_pick own_cmp
  by_cases k0 : k = 0
  · subst k0; exact h0
  by_cases k1 : k = 1
  · subst k1; exact h1
  by_cases k2 : k = 2
  · subst k2; exact h2
  by_cases k3 : k = 3
  · subst k3; exact h3
  by_cases k4 : k = 4
  · subst k4; exact h4
  · simp only [k0, k1, k2, k3, k4, if_false]; exact h5
/-- what recordOverhead answers, in its own order -/
def own_hdr (c n r w : Int32) : Int32 := if w = 0 then 6 + 2 * (c + (if r = 0 then 2 else 3)) else 5 + (n + 7) / 8
def own_over (c n r w : Int32) : Int32 := own_hdr c n r w + 13 + (if r = 0 then 0 else 6)
def own_fb (n : Int32) : Int32 := (n >>> ((3 : Int32) &&& 31)) + own_bz (n &&& 7)
def own_exp (k c n r : Int32) : Int32 := if k = 4 then (if r = 0 then 2 * c + 23 else 2 * c + 31) else (if r = 0 then 18 + own_fb n else 24 + own_fb n)
theorem own_bz_int (z : Int32) : (z.toInt = 0 → (own_bz z).toInt = 0) ∧ (z.toInt ≠ 0 → (own_bz z).toInt = 1) := by
  unfold own_bz
  constructor
  · intro h; rw [if_pos (Int32.toInt_inj.mp h)]; decide
  · intro h; rw [if_neg (fun e => h (by rw [e]; decide))]; decide
theorem own_fb_int (n : Int32) (h0 : 0 ≤ n.toInt) (h1 : n.toInt ≤ 65536) : (own_fb n).toInt = (n.toInt + 7) / 8 := by
  have a1 := c_ishr n 3 3 (by decide)
  have a2 := c_mask n 7 3 (by decide) (by decide)
  have a3 := own_bz_int (n &&& 7)
  have a4 := c_iadd (n >>> ((3 : Int32) &&& 31)) (own_bz (n &&& 7))
  have r := rng32 ((n >>> ((3 : Int32) &&& 31)) + own_bz (n &&& 7))
  show ((n >>> ((3 : Int32) &&& 31)) + own_bz (n &&& 7)).toInt = _
  have e8 : ((2 ^ 3 : Nat) : Int) = 8 := by decide
  rw [e8] at a1 a2
  by_cases hz : (n &&& 7).toInt = 0
  · have := a3.1 hz; omega
  · have := a3.2 hz; omega
theorem own_div8 (n : Int32) (h0 : 0 ≤ n.toInt) (h1 : n.toInt ≤ 65536) : ((n + 7) / 8).toInt = (n.toInt + 7) / 8 := by
  have a1 := c_iadd n 7
  have o7 : (7 : Int32).toInt = 7 := by decide
  have r := rng32 (n + 7)
  have a2 : (n + 7).toInt = n.toInt + 7 := by omega
  have a3 := (c_idiv (n + 7) 8 8 (by decide) (by decide)).1 (by omega)
  rw [a3, a2]
theorem own_exp_over (k c n r : Int32) (h0 : 0 ≤ n.toInt) (h1 : n.toInt ≤ 65536) : own_over c n r (own_cmp k) = own_exp k c n r := by
  apply Int32.toInt_inj.mp
  unfold own_over own_exp own_hdr own_cmp
  have o2 : (2 : Int32).toInt = 2 := by decide
  have o3 : (3 : Int32).toInt = 3 := by decide
  have o5 : (5 : Int32).toInt = 5 := by decide
  have o6 : (6 : Int32).toInt = 6 := by decide
  have o0 : (0 : Int32).toInt = 0 := by decide
  have o13 : (13 : Int32).toInt = 13 := by decide
  have o18 : (18 : Int32).toInt = 18 := by decide
  have o23 : (23 : Int32).toInt = 23 := by decide
  have o24 : (24 : Int32).toInt = 24 := by decide
  have o31 : (31 : Int32).toInt = 31 := by decide
  by_cases hk : k = 4
  · simp only [hk, if_true]
    by_cases hr : r = 0
    · simp only [hr, if_true]
      have b1 := c_iadd c 2; have b2 := c_imul 2 (c + 2); have b3 := c_iadd 6 (2 * (c + 2)); have b4 := c_iadd (6 + 2 * (c + 2)) 13; have b5 := c_iadd (6 + 2 * (c + 2) + 13) 0
      have d1 := c_imul 2 c; have d2 := c_iadd (2 * c) 23
      have r1 := rng32 (6 + 2 * (c + 2) + 13 + 0); have r2 := rng32 (2 * c + 23)
      rw [o2] at b2 d1
      omega
    · simp only [hr, if_false]
      have b1 := c_iadd c 3; have b2 := c_imul 2 (c + 3); have b3 := c_iadd 6 (2 * (c + 3)); have b4 := c_iadd (6 + 2 * (c + 3)) 13; have b5 := c_iadd (6 + 2 * (c + 3) + 13) 6
      have d1 := c_imul 2 c; have d2 := c_iadd (2 * c) 31
      have r1 := rng32 (6 + 2 * (c + 3) + 13 + 6); have r2 := rng32 (2 * c + 31)
      rw [o2] at b2 d1
      omega
  · have n1 : ¬ ((1 : Int32) = 0) := by decide
    simp only [hk, if_false, n1]
    have q1 := own_fb_int n h0 h1; have q2 := own_div8 n h0 h1
    by_cases hr : r = 0
    · simp only [hr, if_true]
      have b1 := c_iadd 5 ((n + 7) / 8); have b2 := c_iadd (5 + (n + 7) / 8) 13; have b3 := c_iadd (5 + (n + 7) / 8 + 13) 0; have d1 := c_iadd 18 (own_fb n)
      have r1 := rng32 (5 + (n + 7) / 8 + 13 + 0); have r2 := rng32 (18 + own_fb n)
      omega
    · simp only [hr, if_false]
      have b1 := c_iadd 5 ((n + 7) / 8); have b2 := c_iadd (5 + (n + 7) / 8) 13; have b3 := c_iadd (5 + (n + 7) / 8 + 13) 6; have d1 := c_iadd 24 (own_fb n)
      have r1 := rng32 (5 + (n + 7) / 8 + 13 + 6); have r2 := rng32 (24 + own_fb n)
      omega
/-- the law's two remainders -/
theorem own_rem (p2 p3 : Int32) : ¬ ((p2 &&& 65535) + 1 = 0) ∧ 0 ≤ ((p3 &&& 2147483647) % ((p2 &&& 65535) + 1)).toInt ∧ ((p3 &&& 2147483647) % ((p2 &&& 65535) + 1)).toInt ≤ 65536 := by
  have a1 := c_mask p2 65535 16 (by decide) (by decide)
  have a2 := c_mask p3 2147483647 31 (by decide) (by decide)
  have e1 : ((2 ^ 16 : Nat) : Int) = 65536 := by decide
  have e2 : ((2 ^ 31 : Nat) : Int) = 2147483648 := by decide
  rw [e1] at a1; rw [e2] at a2
  have o1 : (1 : Int32).toInt = 1 := by decide
  have o0 : (0 : Int32).toInt = 0 := by decide
  have a3 := c_iadd (p2 &&& 65535) 1
  have r := rng32 ((p2 &&& 65535) + 1)
  have a4 : ((p2 &&& 65535) + 1).toInt = (p2 &&& 65535).toInt + 1 := by omega
  have a5 := (c_iremV (p3 &&& 2147483647) ((p2 &&& 65535) + 1)).1 (by omega) (by omega)
  refine ⟨fun e => ?_, a5.1, by omega⟩
  rw [e] at a4
  omega
theorem d1_0 : decode method_2_code 0 = .ok (.iload_n 0, 1) := by decide +kernel
theorem d1_1 : decode method_2_code 1 = .ok (.ifCond .ne 7, 3) := by decide +kernel
theorem d1_4 : decode method_2_code 4 = .ok (.getstatic 7, 3) := by decide +kernel
theorem d1_7 : decode method_2_code 7 = .ok (.areturn, 1) := by decide +kernel
theorem d1_8 : decode method_2_code 8 = .ok (.iload_n 0, 1) := by decide +kernel
theorem d1_9 : decode method_2_code 9 = .ok (.iconst 1, 1) := by decide +kernel
theorem d1_10 : decode method_2_code 10 = .ok (.if_icmp .ne 7, 3) := by decide +kernel
theorem d1_13 : decode method_2_code 13 = .ok (.getstatic 13, 3) := by decide +kernel
theorem d1_16 : decode method_2_code 16 = .ok (.areturn, 1) := by decide +kernel
theorem d1_17 : decode method_2_code 17 = .ok (.iload_n 0, 1) := by decide +kernel
theorem d1_18 : decode method_2_code 18 = .ok (.iconst 2, 1) := by decide +kernel
theorem d1_19 : decode method_2_code 19 = .ok (.if_icmp .ne 7, 3) := by decide +kernel
theorem d1_22 : decode method_2_code 22 = .ok (.getstatic 16, 3) := by decide +kernel
theorem d1_25 : decode method_2_code 25 = .ok (.areturn, 1) := by decide +kernel
theorem d1_26 : decode method_2_code 26 = .ok (.iload_n 0, 1) := by decide +kernel
theorem d1_27 : decode method_2_code 27 = .ok (.iconst 3, 1) := by decide +kernel
theorem d1_28 : decode method_2_code 28 = .ok (.if_icmp .ne 7, 3) := by decide +kernel
theorem d1_31 : decode method_2_code 31 = .ok (.getstatic 19, 3) := by decide +kernel
theorem d1_34 : decode method_2_code 34 = .ok (.areturn, 1) := by decide +kernel
theorem d1_35 : decode method_2_code 35 = .ok (.iload_n 0, 1) := by decide +kernel
theorem d1_36 : decode method_2_code 36 = .ok (.iconst 4, 1) := by decide +kernel
theorem d1_37 : decode method_2_code 37 = .ok (.if_icmp .ne 7, 3) := by decide +kernel
theorem d1_40 : decode method_2_code 40 = .ok (.getstatic 22, 3) := by decide +kernel
theorem d1_43 : decode method_2_code 43 = .ok (.areturn, 1) := by decide +kernel
theorem d1_44 : decode method_2_code 44 = .ok (.getstatic 25, 3) := by decide +kernel
theorem d1_47 : decode method_2_code 47 = .ok (.areturn, 1) := by decide +kernel
theorem pn_1 : plainName "com/example/prudent_alter/prudentalter/RowFormatRecordOverheadPinLaw" = true := by first | (simp [plainName, overriddenIn]; done) | decide +kernel
theorem ef_rm1 (m : MethodId) (x0 : Int32) : entryFrame m #[(.int x0)] 1 = mkF m 0 #[.val (.int x0)] [] := by first | (simp [entryFrame, mkF, argsToLocals, Value.category]; done) | rfl
def Q_rm1 (Z : State) (p1 : Int32) (x0 x1 x2 x3 x4 x5 : Addr) (h0 : Heap) (n0 : Nat) (v : Option Value) (h : Heap) (L : List Loc) : Prop := v = some (.ref (own_pick p1 x0 x1 x2 x3 x4 x5)) ∧ Fr n0 L ∧ h = h0
set_option maxRecDepth 65536 in
set_option maxHeartbeats 40000000 in
theorem rm1 (l : Launch) (Z : State) (a0 : Array Value) (hw : ∀ d ∈ tables_1, d.before a0 Z = true) (ws : List Jvm.Cond) (p1 : Int32) (x0 x1 x2 x3 x4 x5 : Addr) (h0 : Heap) (n0 : Nat) (Z0 : n0 ≤ h0.size) (S0 : Sta Z h0 "com/example/prudent_alter/prudentalter/RowFormat" "DEFAULT" "Lcom/example/prudent_alter/prudentalter/RowFormat;" (.ref x0)) (S1 : Sta Z h0 "com/example/prudent_alter/prudentalter/RowFormat" "DYNAMIC" "Lcom/example/prudent_alter/prudentalter/RowFormat;" (.ref x1)) (S2 : Sta Z h0 "com/example/prudent_alter/prudentalter/RowFormat" "FIXED" "Lcom/example/prudent_alter/prudentalter/RowFormat;" (.ref x2)) (S3 : Sta Z h0 "com/example/prudent_alter/prudentalter/RowFormat" "COMPRESSED" "Lcom/example/prudent_alter/prudentalter/RowFormat;" (.ref x3)) (S4 : Sta Z h0 "com/example/prudent_alter/prudentalter/RowFormat" "REDUNDANT" "Lcom/example/prudent_alter/prudentalter/RowFormat;" (.ref x4)) (S5 : Sta Z h0 "com/example/prudent_alter/prudentalter/RowFormat" "COMPACT" "Lcom/example/prudent_alter/prudentalter/RowFormat;" (.ref x5)) :
    MetFree l (⟨"com/example/prudent_alter/prudentalter/RowFormatRecordOverheadPinLaw", "pick", "(I)Lcom/example/prudent_alter/prudentalter/RowFormat;"⟩ : MethodName) (head1 (Jvm.Cond.code (⟨"com/example/prudent_alter/prudentalter/RowFormatRecordOverheadPinLaw", "pick", "(I)Lcom/example/prudent_alter/prudentalter/RowFormat;"⟩ : MethodName) method_2_code 1 (some (.object "com/example/prudent_alter/prudentalter/RowFormat")) :: ws) ({ frames := 0, cells := 0, slots := 0, locals := 0 } : Room)) (fun a U => a = #[(.int p1)] ∧ Z.Warmed39 U.vm ∧ U.heap = h0) (fun _ _ _ _ _ => True) (fun _ U o U' => ∃ v L, o = .returned v ∧ Q_rm1 Z p1 x0 x1 x2 x3 x4 x5 h0 n0 v U'.heap L ∧ FrameEnd U o U' L (({ frames := 0, cells := 0, slots := 0, locals := 0 } : Room)).cells (({ frames := 0, cells := 0, slots := 0, locals := 0 } : Room)).slots) := by
  refine MetFree.of_bodySF (plainFor_of_name pn_1) hisR ?_
  intro p e s m args below meth c s₁ Bd hml0 hP hK
  obtain ⟨rfl, hZ, hh⟩ := hP
  have hx := Bd.exec
  have hby := Bd.bytes
  have hml : c.maxLocals = 1 := hml0
  have hown : s.vm.findClass "com/example/prudent_alter/prudentalter/RowFormatRecordOverheadPinLaw" = some m.cls := findClass_of_methodNamed Bd.named
  have hnm := (name_of_methodNamed Bd.named Bd.method).1
  have X0 : Stand p l e ({ frames := 0, cells := 0, slots := 0, locals := 0 } : Room) s m #[(.int p1)] below meth c s₁ [] 0 0 := Stand.of_body Bd
  have e0 : s₁.heap = h0 := by rw [← hh, Bd.state]; rfl
  have N0 := Fr.nil n0
  have g0 : own_Go p e below s₁ (entryFrame m #[(.int p1)] 1) s₁ (mkF m 0 #[.val (.int p1)] []) := fun t k => castTop (ef_rm1 m p1) k
  have g1 : own_Go p e below s₁ (entryFrame m #[(.int p1)] 1) s₁ (mkF m 1 #[.val (.int p1)] [(.int p1)]) := fun t kt => g0 t (by
    show Steps p.tables e below (s₁.setTop (mkF m 0 #[.val (.int p1)] [])) _
    refine XS.iloadN X0.here hx rfl (hb hby d1_0) rfl ?_
    exact kt)
  by_cases c0 : p1 = 0
  · have g2 : own_Go p e below s₁ (entryFrame m #[(.int p1)] 1) s₁ (mkF m 4 #[.val (.int p1)] []) := fun t kt => g1 t (by
      show Steps p.tables e below (s₁.setTop (mkF m 1 #[.val (.int p1)] [(.int p1)])) _
      refine XS.ifNo X0.here hx rfl (hb hby d1_1) rfl ((if0 _ _).trans (teq c0).2) ?_
      exact kt)
    obtain ⟨T3, X3, e3, st3⟩ := getS2 X0 hx hZ hown (host := "") (Or.inl (hw _ (List.mem_of_getElem? (i := 5) rfl))) Via.refl e0 S0 (g := (mkF m 4 #[.val (.int p1)] [])) rfl (hb hby d1_4)
    have g3 : own_Go p e below s₁ (entryFrame m #[(.int p1)] 1) T3 (mkF m 7 #[.val (.int p1)] [(.ref x0)]) := fun t kt => g2 t (st3 _ kt)
    have hv : x0 = own_pick p1 x0 x1 x2 x3 x4 x5 := by simp [own_pick, c0]
    rw [hv] at g3
    obtain ⟨fs, hr, hrun, hended, hW, hsame⟩ := X3.leave (v := some (.ref (own_pick p1 x0 x1 x2 x3 x4 x5))) (fun h => by rw [Bd.returns] at h; cases h)
    refine ⟨_, _, g3 _ (retOut X3 hx (i := .areturn) Bd.returns rfl (Or.inr (Or.inr (Or.inr (Or.inr ⟨rfl, rfl, rfl⟩)))) (hb hby d1_7) hr), hrun, hended, _, _, rfl, ?_, ⟨_, rfl⟩, hW, hsame.mono (by decide) (by decide)⟩
    show Q_rm1 Z p1 x0 x1 x2 x3 x4 x5 h0 n0 _ T3.heap _
    rw [e3]
    exact ⟨rfl, N0, rfl⟩
  · have g4 : own_Go p e below s₁ (entryFrame m #[(.int p1)] 1) s₁ (mkF m 10 #[.val (.int p1)] [(.int (1 : Int32)), (.int p1)]) := fun t kt => g1 t (by
      show Steps p.tables e below (s₁.setTop (mkF m 1 #[.val (.int p1)] [(.int p1)])) _
      refine XS.ifYes X0.here hx rfl (pc0 := 1) (pc' := 8) rfl (hb hby d1_1) rfl ((if0 _ _).trans (feq c0).2) (by decide) (by decide) ?_
      show Steps p.tables e below (s₁.setTop (mkF m 8 #[.val (.int p1)] [])) _
      refine XS.iloadN X0.here hx rfl (hb hby d1_8) rfl ?_
      show Steps p.tables e below (s₁.setTop (mkF m 9 #[.val (.int p1)] [(.int p1)])) _
      refine XS.iconst X0.here hx rfl (hb hby d1_9) ?_
      exact kt)
    by_cases c1 : p1 = 1
    · have g5 : own_Go p e below s₁ (entryFrame m #[(.int p1)] 1) s₁ (mkF m 13 #[.val (.int p1)] []) := fun t kt => g4 t (by
        show Steps p.tables e below (s₁.setTop (mkF m 10 #[.val (.int p1)] [(.int (1 : Int32)), (.int p1)])) _
        refine XS.icmpNo X0.here hx rfl (hb hby d1_10) rfl (teq c1).2 ?_
        exact kt)
      obtain ⟨T6, X6, e6, st6⟩ := getS2 X0 hx hZ hown (host := "") (Or.inl (hw _ (List.mem_of_getElem? (i := 16) rfl))) Via.refl e0 S1 (g := (mkF m 13 #[.val (.int p1)] [])) rfl (hb hby d1_13)
      have g6 : own_Go p e below s₁ (entryFrame m #[(.int p1)] 1) T6 (mkF m 16 #[.val (.int p1)] [(.ref x1)]) := fun t kt => g5 t (st6 _ kt)
      have hv : x1 = own_pick p1 x0 x1 x2 x3 x4 x5 := by simp [own_pick, c1]
      rw [hv] at g6
      obtain ⟨fs, hr, hrun, hended, hW, hsame⟩ := X6.leave (v := some (.ref (own_pick p1 x0 x1 x2 x3 x4 x5))) (fun h => by rw [Bd.returns] at h; cases h)
      refine ⟨_, _, g6 _ (retOut X6 hx (i := .areturn) Bd.returns rfl (Or.inr (Or.inr (Or.inr (Or.inr ⟨rfl, rfl, rfl⟩)))) (hb hby d1_16) hr), hrun, hended, _, _, rfl, ?_, ⟨_, rfl⟩, hW, hsame.mono (by decide) (by decide)⟩
      show Q_rm1 Z p1 x0 x1 x2 x3 x4 x5 h0 n0 _ T6.heap _
      rw [e6]
      exact ⟨rfl, N0, rfl⟩
    · have g7 : own_Go p e below s₁ (entryFrame m #[(.int p1)] 1) s₁ (mkF m 19 #[.val (.int p1)] [(.int (2 : Int32)), (.int p1)]) := fun t kt => g4 t (by
        show Steps p.tables e below (s₁.setTop (mkF m 10 #[.val (.int p1)] [(.int (1 : Int32)), (.int p1)])) _
        refine XS.icmpYes X0.here hx rfl (pc0 := 10) (pc' := 17) rfl (hb hby d1_10) rfl (feq c1).2 (by decide) (by decide) ?_
        show Steps p.tables e below (s₁.setTop (mkF m 17 #[.val (.int p1)] [])) _
        refine XS.iloadN X0.here hx rfl (hb hby d1_17) rfl ?_
        show Steps p.tables e below (s₁.setTop (mkF m 18 #[.val (.int p1)] [(.int p1)])) _
        refine XS.iconst X0.here hx rfl (hb hby d1_18) ?_
        exact kt)
      by_cases c2 : p1 = 2
      · have g8 : own_Go p e below s₁ (entryFrame m #[(.int p1)] 1) s₁ (mkF m 22 #[.val (.int p1)] []) := fun t kt => g7 t (by
          show Steps p.tables e below (s₁.setTop (mkF m 19 #[.val (.int p1)] [(.int (2 : Int32)), (.int p1)])) _
          refine XS.icmpNo X0.here hx rfl (hb hby d1_19) rfl (teq c2).2 ?_
          exact kt)
        obtain ⟨T9, X9, e9, st9⟩ := getS2 X0 hx hZ hown (host := "") (Or.inl (hw _ (List.mem_of_getElem? (i := 24) rfl))) Via.refl e0 S2 (g := (mkF m 22 #[.val (.int p1)] [])) rfl (hb hby d1_22)
        have g9 : own_Go p e below s₁ (entryFrame m #[(.int p1)] 1) T9 (mkF m 25 #[.val (.int p1)] [(.ref x2)]) := fun t kt => g8 t (st9 _ kt)
        have hv : x2 = own_pick p1 x0 x1 x2 x3 x4 x5 := by simp [own_pick, c2]
        rw [hv] at g9
        obtain ⟨fs, hr, hrun, hended, hW, hsame⟩ := X9.leave (v := some (.ref (own_pick p1 x0 x1 x2 x3 x4 x5))) (fun h => by rw [Bd.returns] at h; cases h)
        refine ⟨_, _, g9 _ (retOut X9 hx (i := .areturn) Bd.returns rfl (Or.inr (Or.inr (Or.inr (Or.inr ⟨rfl, rfl, rfl⟩)))) (hb hby d1_25) hr), hrun, hended, _, _, rfl, ?_, ⟨_, rfl⟩, hW, hsame.mono (by decide) (by decide)⟩
        show Q_rm1 Z p1 x0 x1 x2 x3 x4 x5 h0 n0 _ T9.heap _
        rw [e9]
        exact ⟨rfl, N0, rfl⟩
      · have g10 : own_Go p e below s₁ (entryFrame m #[(.int p1)] 1) s₁ (mkF m 28 #[.val (.int p1)] [(.int (3 : Int32)), (.int p1)]) := fun t kt => g7 t (by
          show Steps p.tables e below (s₁.setTop (mkF m 19 #[.val (.int p1)] [(.int (2 : Int32)), (.int p1)])) _
          refine XS.icmpYes X0.here hx rfl (pc0 := 19) (pc' := 26) rfl (hb hby d1_19) rfl (feq c2).2 (by decide) (by decide) ?_
          show Steps p.tables e below (s₁.setTop (mkF m 26 #[.val (.int p1)] [])) _
          refine XS.iloadN X0.here hx rfl (hb hby d1_26) rfl ?_
          show Steps p.tables e below (s₁.setTop (mkF m 27 #[.val (.int p1)] [(.int p1)])) _
          refine XS.iconst X0.here hx rfl (hb hby d1_27) ?_
          exact kt)
        by_cases c3 : p1 = 3
        · have g11 : own_Go p e below s₁ (entryFrame m #[(.int p1)] 1) s₁ (mkF m 31 #[.val (.int p1)] []) := fun t kt => g10 t (by
            show Steps p.tables e below (s₁.setTop (mkF m 28 #[.val (.int p1)] [(.int (3 : Int32)), (.int p1)])) _
            refine XS.icmpNo X0.here hx rfl (hb hby d1_28) rfl (teq c3).2 ?_
            exact kt)
          obtain ⟨T12, X12, e12, st12⟩ := getS2 X0 hx hZ hown (host := "") (Or.inl (hw _ (List.mem_of_getElem? (i := 20) rfl))) Via.refl e0 S3 (g := (mkF m 31 #[.val (.int p1)] [])) rfl (hb hby d1_31)
          have g12 : own_Go p e below s₁ (entryFrame m #[(.int p1)] 1) T12 (mkF m 34 #[.val (.int p1)] [(.ref x3)]) := fun t kt => g11 t (st12 _ kt)
          have hv : x3 = own_pick p1 x0 x1 x2 x3 x4 x5 := by simp [own_pick, c3]
          rw [hv] at g12
          obtain ⟨fs, hr, hrun, hended, hW, hsame⟩ := X12.leave (v := some (.ref (own_pick p1 x0 x1 x2 x3 x4 x5))) (fun h => by rw [Bd.returns] at h; cases h)
          refine ⟨_, _, g12 _ (retOut X12 hx (i := .areturn) Bd.returns rfl (Or.inr (Or.inr (Or.inr (Or.inr ⟨rfl, rfl, rfl⟩)))) (hb hby d1_34) hr), hrun, hended, _, _, rfl, ?_, ⟨_, rfl⟩, hW, hsame.mono (by decide) (by decide)⟩
          show Q_rm1 Z p1 x0 x1 x2 x3 x4 x5 h0 n0 _ T12.heap _
          rw [e12]
          exact ⟨rfl, N0, rfl⟩
        · have g13 : own_Go p e below s₁ (entryFrame m #[(.int p1)] 1) s₁ (mkF m 37 #[.val (.int p1)] [(.int (4 : Int32)), (.int p1)]) := fun t kt => g10 t (by
            show Steps p.tables e below (s₁.setTop (mkF m 28 #[.val (.int p1)] [(.int (3 : Int32)), (.int p1)])) _
            refine XS.icmpYes X0.here hx rfl (pc0 := 28) (pc' := 35) rfl (hb hby d1_28) rfl (feq c3).2 (by decide) (by decide) ?_
            show Steps p.tables e below (s₁.setTop (mkF m 35 #[.val (.int p1)] [])) _
            refine XS.iloadN X0.here hx rfl (hb hby d1_35) rfl ?_
            show Steps p.tables e below (s₁.setTop (mkF m 36 #[.val (.int p1)] [(.int p1)])) _
            refine XS.iconst X0.here hx rfl (hb hby d1_36) ?_
            exact kt)
          by_cases c4 : p1 = 4
          · have g14 : own_Go p e below s₁ (entryFrame m #[(.int p1)] 1) s₁ (mkF m 40 #[.val (.int p1)] []) := fun t kt => g13 t (by
              show Steps p.tables e below (s₁.setTop (mkF m 37 #[.val (.int p1)] [(.int (4 : Int32)), (.int p1)])) _
              refine XS.icmpNo X0.here hx rfl (hb hby d1_37) rfl (teq c4).2 ?_
              exact kt)
            obtain ⟨T15, X15, e15, st15⟩ := getS2 X0 hx hZ hown (host := "") (Or.inl (hw _ (List.mem_of_getElem? (i := 18) rfl))) Via.refl e0 S4 (g := (mkF m 40 #[.val (.int p1)] [])) rfl (hb hby d1_40)
            have g15 : own_Go p e below s₁ (entryFrame m #[(.int p1)] 1) T15 (mkF m 43 #[.val (.int p1)] [(.ref x4)]) := fun t kt => g14 t (st15 _ kt)
            have hv : x4 = own_pick p1 x0 x1 x2 x3 x4 x5 := by simp [own_pick, c4]
            rw [hv] at g15
            obtain ⟨fs, hr, hrun, hended, hW, hsame⟩ := X15.leave (v := some (.ref (own_pick p1 x0 x1 x2 x3 x4 x5))) (fun h => by rw [Bd.returns] at h; cases h)
            refine ⟨_, _, g15 _ (retOut X15 hx (i := .areturn) Bd.returns rfl (Or.inr (Or.inr (Or.inr (Or.inr ⟨rfl, rfl, rfl⟩)))) (hb hby d1_43) hr), hrun, hended, _, _, rfl, ?_, ⟨_, rfl⟩, hW, hsame.mono (by decide) (by decide)⟩
            show Q_rm1 Z p1 x0 x1 x2 x3 x4 x5 h0 n0 _ T15.heap _
            rw [e15]
            exact ⟨rfl, N0, rfl⟩
          · have g16 : own_Go p e below s₁ (entryFrame m #[(.int p1)] 1) s₁ (mkF m 44 #[.val (.int p1)] []) := fun t kt => g13 t (by
              show Steps p.tables e below (s₁.setTop (mkF m 37 #[.val (.int p1)] [(.int (4 : Int32)), (.int p1)])) _
              refine XS.icmpYes X0.here hx rfl (pc0 := 37) (pc' := 44) rfl (hb hby d1_37) rfl (feq c4).2 (by decide) (by decide) ?_
              exact kt)
            obtain ⟨T17, X17, e17, st17⟩ := getS2 X0 hx hZ hown (host := "") (Or.inl (hw _ (List.mem_of_getElem? (i := 22) rfl))) Via.refl e0 S5 (g := (mkF m 44 #[.val (.int p1)] [])) rfl (hb hby d1_44)
            have g17 : own_Go p e below s₁ (entryFrame m #[(.int p1)] 1) T17 (mkF m 47 #[.val (.int p1)] [(.ref x5)]) := fun t kt => g16 t (st17 _ kt)
            have hv : x5 = own_pick p1 x0 x1 x2 x3 x4 x5 := by simp [own_pick, c0, c1, c2, c3, c4]
            rw [hv] at g17
            obtain ⟨fs, hr, hrun, hended, hW, hsame⟩ := X17.leave (v := some (.ref (own_pick p1 x0 x1 x2 x3 x4 x5))) (fun h => by rw [Bd.returns] at h; cases h)
            refine ⟨_, _, g17 _ (retOut X17 hx (i := .areturn) Bd.returns rfl (Or.inr (Or.inr (Or.inr (Or.inr ⟨rfl, rfl, rfl⟩)))) (hb hby d1_47) hr), hrun, hended, _, _, rfl, ?_, ⟨_, rfl⟩, hW, hsame.mono (by decide) (by decide)⟩
            show Q_rm1 Z p1 x0 x1 x2 x3 x4 x5 h0 n0 _ T17.heap _
            rw [e17]
            exact ⟨rfl, N0, rfl⟩
theorem d2_0 : decode prog_108_method_7_code 0 = .ok (.iload_n 1, 1) := by decide +kernel
theorem d2_1 : decode prog_108_method_7_code 1 = .ok (.iload_n 3, 1) := by decide +kernel
theorem d2_2 : decode prog_108_method_7_code 2 = .ok (.ifCond .eq 7, 3) := by decide +kernel
theorem d2_5 : decode prog_108_method_7_code 5 = .ok (.iconst 3, 1) := by decide +kernel
theorem d2_6 : decode prog_108_method_7_code 6 = .ok (.goto 4, 3) := by decide +kernel
theorem d2_9 : decode prog_108_method_7_code 9 = .ok (.iconst 2, 1) := by decide +kernel
theorem d2_10 : decode prog_108_method_7_code 10 = .ok (.iadd, 1) := by decide +kernel
theorem d2_11 : decode prog_108_method_7_code 11 = .ok (.istore 4, 2) := by decide +kernel
theorem d2_13 : decode prog_108_method_7_code 13 = .ok (.aload_n 0, 1) := by decide +kernel
theorem d2_14 : decode prog_108_method_7_code 14 = .ok (.getfield 45, 3) := by decide +kernel
theorem d2_17 : decode prog_108_method_7_code 17 = .ok (.ifCond .eq 15, 3) := by decide +kernel
theorem d2_20 : decode prog_108_method_7_code 20 = .ok (.iconst 5, 1) := by decide +kernel
theorem d2_21 : decode prog_108_method_7_code 21 = .ok (.iload_n 2, 1) := by decide +kernel
theorem d2_22 : decode prog_108_method_7_code 22 = .ok (.bipush 7, 2) := by decide +kernel
theorem d2_24 : decode prog_108_method_7_code 24 = .ok (.iadd, 1) := by decide +kernel
theorem d2_25 : decode prog_108_method_7_code 25 = .ok (.bipush 8, 2) := by decide +kernel
theorem d2_27 : decode prog_108_method_7_code 27 = .ok (.idiv, 1) := by decide +kernel
theorem d2_28 : decode prog_108_method_7_code 28 = .ok (.iadd, 1) := by decide +kernel
theorem d2_29 : decode prog_108_method_7_code 29 = .ok (.goto 10, 3) := by decide +kernel
theorem d2_32 : decode prog_108_method_7_code 32 = .ok (.bipush 6, 2) := by decide +kernel
theorem d2_34 : decode prog_108_method_7_code 34 = .ok (.iconst 2, 1) := by decide +kernel
theorem d2_35 : decode prog_108_method_7_code 35 = .ok (.iload 4, 2) := by decide +kernel
theorem d2_37 : decode prog_108_method_7_code 37 = .ok (.imul, 1) := by decide +kernel
theorem d2_38 : decode prog_108_method_7_code 38 = .ok (.iadd, 1) := by decide +kernel
theorem d2_39 : decode prog_108_method_7_code 39 = .ok (.istore 5, 2) := by decide +kernel
theorem d2_41 : decode prog_108_method_7_code 41 = .ok (.iload 5, 2) := by decide +kernel
theorem d2_43 : decode prog_108_method_7_code 43 = .ok (.bipush 13, 2) := by decide +kernel
theorem d2_45 : decode prog_108_method_7_code 45 = .ok (.iadd, 1) := by decide +kernel
theorem d2_46 : decode prog_108_method_7_code 46 = .ok (.iload_n 3, 1) := by decide +kernel
theorem d2_47 : decode prog_108_method_7_code 47 = .ok (.ifCond .eq 8, 3) := by decide +kernel
theorem d2_50 : decode prog_108_method_7_code 50 = .ok (.bipush 6, 2) := by decide +kernel
theorem d2_52 : decode prog_108_method_7_code 52 = .ok (.goto 4, 3) := by decide +kernel
theorem d2_55 : decode prog_108_method_7_code 55 = .ok (.iconst 0, 1) := by decide +kernel
theorem d2_56 : decode prog_108_method_7_code 56 = .ok (.iadd, 1) := by decide +kernel
theorem d2_57 : decode prog_108_method_7_code 57 = .ok (.ireturn, 1) := by decide +kernel
theorem pn_2 : plainName "com/example/prudent_alter/prudentalter/RowFormat" = true := by first | (simp [plainName, overriddenIn]; done) | decide +kernel
theorem ef_rm2 (m : MethodId) (x0 : Addr) (x1 : Int32) (x2 : Int32) (x3 : Int32) : entryFrame m #[(.ref x0), (.int x1), (.int x2), (.int x3)] 6 = mkF m 0 #[.val (.ref x0), .val (.int x1), .val (.int x2), .val (.int x3), .unset, .unset] [] := by first | (simp [entryFrame, mkF, argsToLocals, Value.category]; done) | rfl
def Q_rm2 (Z : State) (p2 p3 p4 w1 : Int32) (h0 : Heap) (n0 : Nat) (v : Option Value) (h : Heap) (L : List Loc) : Prop := v = some (.int (own_over p2 p3 p4 w1)) ∧ Fr n0 L ∧ h = h0
set_option maxRecDepth 65536 in
set_option maxHeartbeats 40000000 in
theorem rm2 (l : Launch) (Z : State) (a0 : Array Value) (hw : ∀ d ∈ tables_1, d.before a0 Z = true) (ws : List Jvm.Cond) (a1 : Addr) (p2 : Int32) (p3 : Int32) (p4 : Int32) (w1 : Int32) (h0 : Heap) (n0 : Nat) (Z0 : n0 ≤ h0.size) (F0 : Fld Z h0 a1 "com/example/prudent_alter/prudentalter/RowFormat" "compactRecords" "Z" (.int w1)) :
    MetFree l (⟨"com/example/prudent_alter/prudentalter/RowFormat", "recordOverhead", "(IIZ)I"⟩ : MethodName) (head1 (Jvm.Cond.code (⟨"com/example/prudent_alter/prudentalter/RowFormat", "recordOverhead", "(IIZ)I"⟩ : MethodName) prog_108_method_7_code 6 (some .int) :: ws) ({ frames := 0, cells := 0, slots := 0, locals := 0 } : Room)) (fun a U => a = #[(.ref a1), (.int p2), (.int p3), (.int p4)] ∧ Z.Warmed39 U.vm ∧ U.heap = h0) (fun _ _ _ _ _ => True) (fun _ U o U' => ∃ v L, o = .returned v ∧ Q_rm2 Z p2 p3 p4 w1 h0 n0 v U'.heap L ∧ FrameEnd U o U' L (({ frames := 0, cells := 0, slots := 0, locals := 0 } : Room)).cells (({ frames := 0, cells := 0, slots := 0, locals := 0 } : Room)).slots) := by
  refine MetFree.of_bodySF (plainFor_of_name pn_2) hisR ?_
  intro p e s m args below meth c s₁ Bd hml0 hP hK
  obtain ⟨rfl, hZ, hh⟩ := hP
  have hx := Bd.exec
  have hby := Bd.bytes
  have hml : c.maxLocals = 6 := hml0
  have hown : s.vm.findClass "com/example/prudent_alter/prudentalter/RowFormat" = some m.cls := findClass_of_methodNamed Bd.named
  have hnm := (name_of_methodNamed Bd.named Bd.method).1
  have X0 : Stand p l e ({ frames := 0, cells := 0, slots := 0, locals := 0 } : Room) s m #[(.ref a1), (.int p2), (.int p3), (.int p4)] below meth c s₁ [] 0 0 := Stand.of_body Bd
  have e0 : s₁.heap = h0 := by rw [← hh, Bd.state]; rfl
  have N0 := Fr.nil n0
  have g0 : own_Go p e below s₁ (entryFrame m #[(.ref a1), (.int p2), (.int p3), (.int p4)] 6) s₁ (mkF m 0 #[.val (.ref a1), .val (.int p2), .val (.int p3), .val (.int p4), .unset, .unset] []) := fun t k => castTop (ef_rm2 m a1 p2 p3 p4) k
  have g1 : own_Go p e below s₁ (entryFrame m #[(.ref a1), (.int p2), (.int p3), (.int p4)] 6) s₁ (mkF m 2 #[.val (.ref a1), .val (.int p2), .val (.int p3), .val (.int p4), .unset, .unset] [(.int p4), (.int p2)]) := fun t kt => g0 t (by
    show Steps p.tables e below (s₁.setTop (mkF m 0 #[.val (.ref a1), .val (.int p2), .val (.int p3), .val (.int p4), .unset, .unset] [])) _
    refine XS.iloadN X0.here hx rfl (hb hby d2_0) rfl ?_
    show Steps p.tables e below (s₁.setTop (mkF m 1 #[.val (.ref a1), .val (.int p2), .val (.int p3), .val (.int p4), .unset, .unset] [(.int p2)])) _
    refine XS.iloadN X0.here hx rfl (hb hby d2_1) rfl ?_
    exact kt)
  obtain ⟨t3, q_t3⟩ : ∃ z : Int32, z = (if p4 = 0 then 2 else 3) := ⟨_, rfl⟩
  have g2 : own_Go p e below s₁ (entryFrame m #[(.ref a1), (.int p2), (.int p3), (.int p4)] 6) s₁ (mkF m 10 #[.val (.ref a1), .val (.int p2), .val (.int p3), .val (.int p4), .unset, .unset] [(.int t3), (.int p2)]) := by
    by_cases hr : p4 = 0
    · rw [show t3 = 2 from q_t3.trans (if_pos hr)]
      have g3 : own_Go p e below s₁ (entryFrame m #[(.ref a1), (.int p2), (.int p3), (.int p4)] 6) s₁ (mkF m 10 #[.val (.ref a1), .val (.int p2), .val (.int p3), .val (.int p4), .unset, .unset] [(.int (2 : Int32)), (.int p2)]) := fun t kt => g1 t (by
        show Steps p.tables e below (s₁.setTop (mkF m 2 #[.val (.ref a1), .val (.int p2), .val (.int p3), .val (.int p4), .unset, .unset] [(.int p4), (.int p2)])) _
        refine XS.ifYes X0.here hx rfl (pc0 := 2) (pc' := 9) rfl (hb hby d2_2) rfl ((if0 _ _).trans (teq hr).1) (by decide) (by decide) ?_
        show Steps p.tables e below (s₁.setTop (mkF m 9 #[.val (.ref a1), .val (.int p2), .val (.int p3), .val (.int p4), .unset, .unset] [(.int p2)])) _
        refine XS.iconst X0.here hx rfl (hb hby d2_9) ?_
        exact kt)
      exact g3
    · rw [show t3 = 3 from q_t3.trans (if_neg hr)]
      have g4 : own_Go p e below s₁ (entryFrame m #[(.ref a1), (.int p2), (.int p3), (.int p4)] 6) s₁ (mkF m 10 #[.val (.ref a1), .val (.int p2), .val (.int p3), .val (.int p4), .unset, .unset] [(.int (3 : Int32)), (.int p2)]) := fun t kt => g1 t (by
        show Steps p.tables e below (s₁.setTop (mkF m 2 #[.val (.ref a1), .val (.int p2), .val (.int p3), .val (.int p4), .unset, .unset] [(.int p4), (.int p2)])) _
        refine XS.ifNo X0.here hx rfl (hb hby d2_2) rfl ((if0 _ _).trans (feq hr).1) ?_
        show Steps p.tables e below (s₁.setTop (mkF m 5 #[.val (.ref a1), .val (.int p2), .val (.int p3), .val (.int p4), .unset, .unset] [(.int p2)])) _
        refine XS.iconst X0.here hx rfl (hb hby d2_5) ?_
        show Steps p.tables e below (s₁.setTop (mkF m 6 #[.val (.ref a1), .val (.int p2), .val (.int p3), .val (.int p4), .unset, .unset] [(.int (3 : Int32)), (.int p2)])) _
        refine XS.goto X0.here hx rfl (pc0 := 6) (pc' := 10) rfl (hb hby d2_6) (by decide) (by decide) ?_
        exact kt)
      exact g4
  have g5 : own_Go p e below s₁ (entryFrame m #[(.ref a1), (.int p2), (.int p3), (.int p4)] 6) s₁ (mkF m 14 #[.val (.ref a1), .val (.int p2), .val (.int p3), .val (.int p4), .val (.int (p2 + t3)), .unset] [(.ref a1)]) := fun t kt => g2 t (by
    show Steps p.tables e below (s₁.setTop (mkF m 10 #[.val (.ref a1), .val (.int p2), .val (.int p3), .val (.int p4), .unset, .unset] [(.int t3), (.int p2)])) _
    refine XS.iadd X0.here hx rfl (hb hby d2_10) rfl ?_
    show Steps p.tables e below (s₁.setTop (mkF m 11 #[.val (.ref a1), .val (.int p2), .val (.int p3), .val (.int p4), .unset, .unset] [(.int (p2 + t3))])) _
    refine XS.istore X0.here hx rfl (hb hby d2_11) rfl (l' := #[.val (.ref a1), .val (.int p2), .val (.int p3), .val (.int p4), .val (.int (p2 + t3)), .unset]) rfl ?_
    show Steps p.tables e below (s₁.setTop (mkF m 13 #[.val (.ref a1), .val (.int p2), .val (.int p3), .val (.int p4), .val (.int (p2 + t3)), .unset] [])) _
    refine XS.aloadN X0.here hx rfl (hb hby d2_13) rfl rfl ?_
    exact kt)
  obtain ⟨T6, X6, e6, st6⟩ := getF X0 hx hZ hown (host := "") (Or.inl (hw _ (List.mem_of_getElem? (i := 14) rfl))) Via.refl e0 F0 (g := (mkF m 14 #[.val (.ref a1), .val (.int p2), .val (.int p3), .val (.int p4), .val (.int (p2 + t3)), .unset] [(.ref a1)])) rfl rfl (hb hby d2_14)
  have g6 : own_Go p e below s₁ (entryFrame m #[(.ref a1), (.int p2), (.int p3), (.int p4)] 6) T6 (mkF m 17 #[.val (.ref a1), .val (.int p2), .val (.int p3), .val (.int p4), .val (.int (p2 + t3)), .unset] [(.int w1)]) := fun t kt => g5 t (st6 _ kt)
  obtain ⟨hd, q_hd⟩ : ∃ z, z = own_hdr p2 p3 p4 w1 := ⟨_, rfl⟩
  have g7 : own_Go p e below s₁ (entryFrame m #[(.ref a1), (.int p2), (.int p3), (.int p4)] 6) T6 (mkF m 39 #[.val (.ref a1), .val (.int p2), .val (.int p3), .val (.int p4), .val (.int (p2 + t3)), .unset] [(.int hd)]) := by
    by_cases hq : w1 = 0
    · rw [show hd = 6 + 2 * (p2 + t3) from by rw [q_hd, q_t3]; exact if_pos hq]
      have g8 : own_Go p e below s₁ (entryFrame m #[(.ref a1), (.int p2), (.int p3), (.int p4)] 6) T6 (mkF m 39 #[.val (.ref a1), .val (.int p2), .val (.int p3), .val (.int p4), .val (.int (p2 + t3)), .unset] [(.int ((6 : Int32) + ((2 : Int32) * (p2 + t3))))]) := fun t kt => g6 t (by
        show Steps p.tables e below (T6.setTop (mkF m 17 #[.val (.ref a1), .val (.int p2), .val (.int p3), .val (.int p4), .val (.int (p2 + t3)), .unset] [(.int w1)])) _
        refine XS.ifYes X6.here hx rfl (pc0 := 17) (pc' := 32) rfl (hb hby d2_17) rfl ((if0 _ _).trans (teq hq).1) (by decide) (by decide) ?_
        show Steps p.tables e below (T6.setTop (mkF m 32 #[.val (.ref a1), .val (.int p2), .val (.int p3), .val (.int p4), .val (.int (p2 + t3)), .unset] [])) _
        refine XS.bipush X6.here hx rfl (hb hby d2_32) ?_
        show Steps p.tables e below (T6.setTop (mkF m 34 #[.val (.ref a1), .val (.int p2), .val (.int p3), .val (.int p4), .val (.int (p2 + t3)), .unset] [(.int (6 : Int32))])) _
        refine XS.iconst X6.here hx rfl (hb hby d2_34) ?_
        show Steps p.tables e below (T6.setTop (mkF m 35 #[.val (.ref a1), .val (.int p2), .val (.int p3), .val (.int p4), .val (.int (p2 + t3)), .unset] [(.int (2 : Int32)), (.int (6 : Int32))])) _
        refine XS.iload X6.here hx rfl (hb hby d2_35) rfl ?_
        show Steps p.tables e below (T6.setTop (mkF m 37 #[.val (.ref a1), .val (.int p2), .val (.int p3), .val (.int p4), .val (.int (p2 + t3)), .unset] [(.int (p2 + t3)), (.int (2 : Int32)), (.int (6 : Int32))])) _
        refine XS.imul X6.here hx rfl (hb hby d2_37) rfl ?_
        show Steps p.tables e below (T6.setTop (mkF m 38 #[.val (.ref a1), .val (.int p2), .val (.int p3), .val (.int p4), .val (.int (p2 + t3)), .unset] [(.int ((2 : Int32) * (p2 + t3))), (.int (6 : Int32))])) _
        refine XS.iadd X6.here hx rfl (hb hby d2_38) rfl ?_
        exact kt)
      exact g8
    · rw [show hd = 5 + (p3 + 7) / 8 from q_hd.trans (if_neg hq)]
      have g9 : own_Go p e below s₁ (entryFrame m #[(.ref a1), (.int p2), (.int p3), (.int p4)] 6) T6 (mkF m 39 #[.val (.ref a1), .val (.int p2), .val (.int p3), .val (.int p4), .val (.int (p2 + t3)), .unset] [(.int ((5 : Int32) + ((p3 + (7 : Int32)) / (8 : Int32))))]) := fun t kt => g6 t (by
        show Steps p.tables e below (T6.setTop (mkF m 17 #[.val (.ref a1), .val (.int p2), .val (.int p3), .val (.int p4), .val (.int (p2 + t3)), .unset] [(.int w1)])) _
        refine XS.ifNo X6.here hx rfl (hb hby d2_17) rfl ((if0 _ _).trans (feq hq).1) ?_
        show Steps p.tables e below (T6.setTop (mkF m 20 #[.val (.ref a1), .val (.int p2), .val (.int p3), .val (.int p4), .val (.int (p2 + t3)), .unset] [])) _
        refine XS.iconst X6.here hx rfl (hb hby d2_20) ?_
        show Steps p.tables e below (T6.setTop (mkF m 21 #[.val (.ref a1), .val (.int p2), .val (.int p3), .val (.int p4), .val (.int (p2 + t3)), .unset] [(.int (5 : Int32))])) _
        refine XS.iloadN X6.here hx rfl (hb hby d2_21) rfl ?_
        show Steps p.tables e below (T6.setTop (mkF m 22 #[.val (.ref a1), .val (.int p2), .val (.int p3), .val (.int p4), .val (.int (p2 + t3)), .unset] [(.int p3), (.int (5 : Int32))])) _
        refine XS.bipush X6.here hx rfl (hb hby d2_22) ?_
        show Steps p.tables e below (T6.setTop (mkF m 24 #[.val (.ref a1), .val (.int p2), .val (.int p3), .val (.int p4), .val (.int (p2 + t3)), .unset] [(.int (7 : Int32)), (.int p3), (.int (5 : Int32))])) _
        refine XS.iadd X6.here hx rfl (hb hby d2_24) rfl ?_
        show Steps p.tables e below (T6.setTop (mkF m 25 #[.val (.ref a1), .val (.int p2), .val (.int p3), .val (.int p4), .val (.int (p2 + t3)), .unset] [(.int (p3 + (7 : Int32))), (.int (5 : Int32))])) _
        refine XS.bipush X6.here hx rfl (hb hby d2_25) ?_
        show Steps p.tables e below (T6.setTop (mkF m 27 #[.val (.ref a1), .val (.int p2), .val (.int p3), .val (.int p4), .val (.int (p2 + t3)), .unset] [(.int (8 : Int32)), (.int (p3 + (7 : Int32))), (.int (5 : Int32))])) _
        refine XS.idiv X6.here hx rfl (hb hby d2_27) rfl (by decide) ?_
        show Steps p.tables e below (T6.setTop (mkF m 28 #[.val (.ref a1), .val (.int p2), .val (.int p3), .val (.int p4), .val (.int (p2 + t3)), .unset] [(.int ((p3 + (7 : Int32)) / (8 : Int32))), (.int (5 : Int32))])) _
        refine XS.iadd X6.here hx rfl (hb hby d2_28) rfl ?_
        show Steps p.tables e below (T6.setTop (mkF m 29 #[.val (.ref a1), .val (.int p2), .val (.int p3), .val (.int p4), .val (.int (p2 + t3)), .unset] [(.int ((5 : Int32) + ((p3 + (7 : Int32)) / (8 : Int32))))])) _
        refine XS.goto X6.here hx rfl (pc0 := 29) (pc' := 39) rfl (hb hby d2_29) (by decide) (by decide) ?_
        exact kt)
      exact g9
  have g10 : own_Go p e below s₁ (entryFrame m #[(.ref a1), (.int p2), (.int p3), (.int p4)] 6) T6 (mkF m 47 #[.val (.ref a1), .val (.int p2), .val (.int p3), .val (.int p4), .val (.int (p2 + t3)), .val (.int hd)] [(.int p4), (.int (hd + (13 : Int32)))]) := fun t kt => g7 t (by
    show Steps p.tables e below (T6.setTop (mkF m 39 #[.val (.ref a1), .val (.int p2), .val (.int p3), .val (.int p4), .val (.int (p2 + t3)), .unset] [(.int hd)])) _
    refine XS.istore X6.here hx rfl (hb hby d2_39) rfl (l' := #[.val (.ref a1), .val (.int p2), .val (.int p3), .val (.int p4), .val (.int (p2 + t3)), .val (.int hd)]) rfl ?_
    show Steps p.tables e below (T6.setTop (mkF m 41 #[.val (.ref a1), .val (.int p2), .val (.int p3), .val (.int p4), .val (.int (p2 + t3)), .val (.int hd)] [])) _
    refine XS.iload X6.here hx rfl (hb hby d2_41) rfl ?_
    show Steps p.tables e below (T6.setTop (mkF m 43 #[.val (.ref a1), .val (.int p2), .val (.int p3), .val (.int p4), .val (.int (p2 + t3)), .val (.int hd)] [(.int hd)])) _
    refine XS.bipush X6.here hx rfl (hb hby d2_43) ?_
    show Steps p.tables e below (T6.setTop (mkF m 45 #[.val (.ref a1), .val (.int p2), .val (.int p3), .val (.int p4), .val (.int (p2 + t3)), .val (.int hd)] [(.int (13 : Int32)), (.int hd)])) _
    refine XS.iadd X6.here hx rfl (hb hby d2_45) rfl ?_
    show Steps p.tables e below (T6.setTop (mkF m 46 #[.val (.ref a1), .val (.int p2), .val (.int p3), .val (.int p4), .val (.int (p2 + t3)), .val (.int hd)] [(.int (hd + (13 : Int32)))])) _
    refine XS.iloadN X6.here hx rfl (hb hby d2_46) rfl ?_
    exact kt)
  obtain ⟨t6, q_t6⟩ : ∃ z : Int32, z = (if p4 = 0 then 0 else 6) := ⟨_, rfl⟩
  have g11 : own_Go p e below s₁ (entryFrame m #[(.ref a1), (.int p2), (.int p3), (.int p4)] 6) T6 (mkF m 56 #[.val (.ref a1), .val (.int p2), .val (.int p3), .val (.int p4), .val (.int (p2 + t3)), .val (.int hd)] [(.int t6), (.int (hd + (13 : Int32)))]) := by
    by_cases hr : p4 = 0
    · rw [show t6 = 0 from q_t6.trans (if_pos hr)]
      have g12 : own_Go p e below s₁ (entryFrame m #[(.ref a1), (.int p2), (.int p3), (.int p4)] 6) T6 (mkF m 56 #[.val (.ref a1), .val (.int p2), .val (.int p3), .val (.int p4), .val (.int (p2 + t3)), .val (.int hd)] [(.int (0 : Int32)), (.int (hd + (13 : Int32)))]) := fun t kt => g10 t (by
        show Steps p.tables e below (T6.setTop (mkF m 47 #[.val (.ref a1), .val (.int p2), .val (.int p3), .val (.int p4), .val (.int (p2 + t3)), .val (.int hd)] [(.int p4), (.int (hd + (13 : Int32)))])) _
        refine XS.ifYes X6.here hx rfl (pc0 := 47) (pc' := 55) rfl (hb hby d2_47) rfl ((if0 _ _).trans (teq hr).1) (by decide) (by decide) ?_
        show Steps p.tables e below (T6.setTop (mkF m 55 #[.val (.ref a1), .val (.int p2), .val (.int p3), .val (.int p4), .val (.int (p2 + t3)), .val (.int hd)] [(.int (hd + (13 : Int32)))])) _
        refine XS.iconst X6.here hx rfl (hb hby d2_55) ?_
        exact kt)
      exact g12
    · rw [show t6 = 6 from q_t6.trans (if_neg hr)]
      have g13 : own_Go p e below s₁ (entryFrame m #[(.ref a1), (.int p2), (.int p3), (.int p4)] 6) T6 (mkF m 56 #[.val (.ref a1), .val (.int p2), .val (.int p3), .val (.int p4), .val (.int (p2 + t3)), .val (.int hd)] [(.int (6 : Int32)), (.int (hd + (13 : Int32)))]) := fun t kt => g10 t (by
        show Steps p.tables e below (T6.setTop (mkF m 47 #[.val (.ref a1), .val (.int p2), .val (.int p3), .val (.int p4), .val (.int (p2 + t3)), .val (.int hd)] [(.int p4), (.int (hd + (13 : Int32)))])) _
        refine XS.ifNo X6.here hx rfl (hb hby d2_47) rfl ((if0 _ _).trans (feq hr).1) ?_
        show Steps p.tables e below (T6.setTop (mkF m 50 #[.val (.ref a1), .val (.int p2), .val (.int p3), .val (.int p4), .val (.int (p2 + t3)), .val (.int hd)] [(.int (hd + (13 : Int32)))])) _
        refine XS.bipush X6.here hx rfl (hb hby d2_50) ?_
        show Steps p.tables e below (T6.setTop (mkF m 52 #[.val (.ref a1), .val (.int p2), .val (.int p3), .val (.int p4), .val (.int (p2 + t3)), .val (.int hd)] [(.int (6 : Int32)), (.int (hd + (13 : Int32)))])) _
        refine XS.goto X6.here hx rfl (pc0 := 52) (pc' := 56) rfl (hb hby d2_52) (by decide) (by decide) ?_
        exact kt)
      exact g13
  rw [q_t6] at g11
  have g14 : own_Go p e below s₁ (entryFrame m #[(.ref a1), (.int p2), (.int p3), (.int p4)] 6) T6 (mkF m 57 #[.val (.ref a1), .val (.int p2), .val (.int p3), .val (.int p4), .val (.int (p2 + t3)), .val (.int hd)] [(.int ((hd + (13 : Int32)) + (if p4 = 0 then 0 else 6)))]) := fun t kt => g11 t (by
    show Steps p.tables e below (T6.setTop (mkF m 56 #[.val (.ref a1), .val (.int p2), .val (.int p3), .val (.int p4), .val (.int (p2 + t3)), .val (.int hd)] [(.int (if p4 = 0 then 0 else 6)), (.int (hd + (13 : Int32)))])) _
    refine XS.iadd X6.here hx rfl (hb hby d2_56) rfl ?_
    exact kt)
  rw [q_hd] at g14
  obtain ⟨fs, hr, hrun, hended, hW, hsame⟩ := X6.leave (v := some (.int (own_over p2 p3 p4 w1))) (fun h => by rw [Bd.returns] at h; cases h)
  refine ⟨_, _, g14 _ (retI X6 hx Bd.returns (hb hby d2_57) hr), hrun, hended, _, _, rfl, ?_, ⟨_, rfl⟩, hW, hsame.mono (by decide) (by decide)⟩
  show Q_rm2 Z p2 p3 p4 w1 h0 n0 _ T6.heap _
  rw [e6]
  exact ⟨rfl, N0, rfl⟩
theorem pn_0 : plainName "com/example/prudent_alter/prudentalter/RowFormatRecordOverheadPinLaw" = true := by first | (simp [plainName, overriddenIn]; done) | decide +kernel
theorem pd_0 : parseMethodDescriptor "(I)Lcom/example/prudent_alter/prudentalter/RowFormat;" = some ⟨[.int], some (.object "com/example/prudent_alter/prudentalter/RowFormat")⟩ := by decide +kernel
theorem pd_1 : parseMethodDescriptor "(IIZ)I" = some ⟨[.int, .int, .boolean], some .int⟩ := by decide +kernel
theorem ef_rm0 (m : MethodId) (x0 : Int32) (x1 : Int32) (x2 : Int32) (x3 : Int32) : entryFrame m #[(.int x0), (.int x1), (.int x2), (.int x3)] maxLocals = mkF m 0 #[.val (.int x0), .val (.int x1), .val (.int x2), .val (.int x3), .unset, .unset, .unset, .unset, .unset, .unset, .unset] [] := by first | (simp [entryFrame, mkF, argsToLocals, Value.category, maxLocals]; done) | rfl
def Q_rm0 (Z : State) (p1 p2 p3 p4 : Int32) (h0 : Heap) (n0 : Nat) (v : Option Value) (h : Heap) (L : List Loc) : Prop := v = some (.int (1 : Int32)) ∧ Fr n0 L
set_option maxRecDepth 65536 in
set_option maxHeartbeats 40000000 in
theorem rm0 (l : Launch) (Z : State) (a0 : Array Value) (hw : ∀ d ∈ tables_1, d.before a0 Z = true) (ws : List Jvm.Cond) (p1 : Int32) (p2 : Int32) (p3 : Int32) (p4 : Int32) (x0 x1 x2 x3 x4 x5 : Addr) (h0 : Heap) (n0 : Nat) (Z0 : n0 ≤ h0.size) (S0 : Sta Z h0 "com/example/prudent_alter/prudentalter/RowFormat" "DEFAULT" "Lcom/example/prudent_alter/prudentalter/RowFormat;" (.ref x0)) (S1 : Sta Z h0 "com/example/prudent_alter/prudentalter/RowFormat" "DYNAMIC" "Lcom/example/prudent_alter/prudentalter/RowFormat;" (.ref x1)) (S2 : Sta Z h0 "com/example/prudent_alter/prudentalter/RowFormat" "FIXED" "Lcom/example/prudent_alter/prudentalter/RowFormat;" (.ref x2)) (S3 : Sta Z h0 "com/example/prudent_alter/prudentalter/RowFormat" "COMPRESSED" "Lcom/example/prudent_alter/prudentalter/RowFormat;" (.ref x3)) (S4 : Sta Z h0 "com/example/prudent_alter/prudentalter/RowFormat" "REDUNDANT" "Lcom/example/prudent_alter/prudentalter/RowFormat;" (.ref x4)) (S5 : Sta Z h0 "com/example/prudent_alter/prudentalter/RowFormat" "COMPACT" "Lcom/example/prudent_alter/prudentalter/RowFormat;" (.ref x5)) (E0 : Exa Z h0 x0 "com/example/prudent_alter/prudentalter/RowFormat") (E1 : Exa Z h0 x1 "com/example/prudent_alter/prudentalter/RowFormat") (E2 : Exa Z h0 x2 "com/example/prudent_alter/prudentalter/RowFormat") (E3 : Exa Z h0 x3 "com/example/prudent_alter/prudentalter/RowFormat") (E4 : Exa Z h0 x4 "com/example/prudent_alter/prudentalter/RowFormat") (E5 : Exa Z h0 x5 "com/example/prudent_alter/prudentalter/RowFormat") (F0 : Fld Z h0 x0 "com/example/prudent_alter/prudentalter/RowFormat" "compactRecords" "Z" (.int (1 : Int32))) (F1 : Fld Z h0 x1 "com/example/prudent_alter/prudentalter/RowFormat" "compactRecords" "Z" (.int (1 : Int32))) (F2 : Fld Z h0 x2 "com/example/prudent_alter/prudentalter/RowFormat" "compactRecords" "Z" (.int (1 : Int32))) (F3 : Fld Z h0 x3 "com/example/prudent_alter/prudentalter/RowFormat" "compactRecords" "Z" (.int (1 : Int32))) (F4 : Fld Z h0 x4 "com/example/prudent_alter/prudentalter/RowFormat" "compactRecords" "Z" (.int (0 : Int32))) (F5 : Fld Z h0 x5 "com/example/prudent_alter/prudentalter/RowFormat" "compactRecords" "Z" (.int (1 : Int32))) :
    MetFree l x (head1 (Jvm.Cond.code x code maxLocals ret :: ws) room_1) (fun a U => a = #[(.int p1), (.int p2), (.int p3), (.int p4)] ∧ Z.Warmed39 U.vm ∧ U.heap = h0) (fun _ _ _ _ _ => True) (fun _ U o U' => ∃ v L, o = .returned v ∧ Q_rm0 Z p1 p2 p3 p4 h0 n0 v U'.heap L ∧ FrameEnd U o U' L (room_1).cells (room_1).slots) := by
  refine MetFree.of_bodySF (plainFor_of_name pn_0) hisR ?_
  intro p e s m args below meth c s₁ Bd hml0 hP hK
  obtain ⟨rfl, hZ, hh⟩ := hP
  have hx := Bd.exec
  have hby := Bd.bytes
  have hml : c.maxLocals = 11 := hml0
  have hown : s.vm.findClass "com/example/prudent_alter/prudentalter/RowFormatRecordOverheadPinLaw" = some m.cls := findClass_of_methodNamed Bd.named
  have hnm := (name_of_methodNamed Bd.named Bd.method).1
  have X0 : Stand p l e room_1 s m #[(.int p1), (.int p2), (.int p3), (.int p4)] below meth c s₁ [] 0 0 := Stand.of_body Bd
  have e0 : s₁.heap = h0 := by rw [← hh, Bd.state]; rfl
  have N0 := Fr.nil n0
  have g0 : own_Go p e below s₁ (entryFrame m #[(.int p1), (.int p2), (.int p3), (.int p4)] maxLocals) s₁ (mkF m 0 #[.val (.int p1), .val (.int p2), .val (.int p3), .val (.int p4), .unset, .unset, .unset, .unset, .unset, .unset, .unset] []) := fun t k => castTop (ef_rm0 m p1 p2 p3 p4) k
  have K0 : Keep h0 h0 [] := Keep.refl h0 _
  obtain ⟨hnz, hn0, hn1⟩ := own_rem p2 p3
  have g1 : own_Go p e below s₁ (entryFrame m #[(.int p1), (.int p2), (.int p3), (.int p4)] maxLocals) s₁ (mkF m 9 #[.val (.int p1), .val (.int p2), .val (.int p3), .val (.int p4), .val (.int ((p1 &&& (2147483647 : Int32)) % (6 : Int32))), .unset, .unset, .unset, .unset, .unset, .unset] []) := fun t kt => g0 t (by
    show Steps p.tables e below (s₁.setTop (mkF m 0 #[.val (.int p1), .val (.int p2), .val (.int p3), .val (.int p4), .unset, .unset, .unset, .unset, .unset, .unset, .unset] [])) _
    refine XS.iloadN X0.here hx rfl (hb hby at_0) rfl ?_
    show Steps p.tables e below (s₁.setTop (mkF m 1 #[.val (.int p1), .val (.int p2), .val (.int p3), .val (.int p4), .unset, .unset, .unset, .unset, .unset, .unset, .unset] [(.int p1)])) _
    refine X0.ldcInt hx hown (mvT hZ (hw _ (List.mem_of_getElem? (i := 0) rfl))) (g := (mkF m 1 #[.val (.int p1), .val (.int p2), .val (.int p3), .val (.int p4), .unset, .unset, .unset, .unset, .unset, .unset, .unset] [(.int p1)])) rfl (hb hby at_1) _ ?_
    show Steps p.tables e below (s₁.setTop (mkF m 3 #[.val (.int p1), .val (.int p2), .val (.int p3), .val (.int p4), .unset, .unset, .unset, .unset, .unset, .unset, .unset] [(.int (2147483647 : Int32)), (.int p1)])) _
    refine XS.iand X0.here hx rfl (hb hby at_3) rfl ?_
    show Steps p.tables e below (s₁.setTop (mkF m 4 #[.val (.int p1), .val (.int p2), .val (.int p3), .val (.int p4), .unset, .unset, .unset, .unset, .unset, .unset, .unset] [(.int (p1 &&& (2147483647 : Int32)))])) _
    refine XS.bipush X0.here hx rfl (hb hby at_4) ?_
    show Steps p.tables e below (s₁.setTop (mkF m 6 #[.val (.int p1), .val (.int p2), .val (.int p3), .val (.int p4), .unset, .unset, .unset, .unset, .unset, .unset, .unset] [(.int (6 : Int32)), (.int (p1 &&& (2147483647 : Int32)))])) _
    refine iremM X0 hx rfl (hb hby at_6) rfl (by decide) ?_
    show Steps p.tables e below (s₁.setTop (mkF m 7 #[.val (.int p1), .val (.int p2), .val (.int p3), .val (.int p4), .unset, .unset, .unset, .unset, .unset, .unset, .unset] [(.int ((p1 &&& (2147483647 : Int32)) % (6 : Int32)))])) _
    refine XS.istore X0.here hx rfl (hb hby at_7) rfl (l' := #[.val (.int p1), .val (.int p2), .val (.int p3), .val (.int p4), .val (.int ((p1 &&& (2147483647 : Int32)) % (6 : Int32))), .unset, .unset, .unset, .unset, .unset, .unset]) rfl ?_
    exact kt)
  obtain ⟨k, q_k⟩ : ∃ z, z = ((p1 &&& (2147483647 : Int32)) % (6 : Int32)) := ⟨_, rfl⟩
  rw [← q_k] at g1
  have g2 : own_Go p e below s₁ (entryFrame m #[(.int p1), (.int p2), (.int p3), (.int p4)] maxLocals) s₁ (mkF m 11 #[.val (.int p1), .val (.int p2), .val (.int p3), .val (.int p4), .val (.int k), .unset, .unset, .unset, .unset, .unset, .unset] [(.int k)]) := fun t kt => g1 t (by
    show Steps p.tables e below (s₁.setTop (mkF m 9 #[.val (.int p1), .val (.int p2), .val (.int p3), .val (.int p4), .val (.int k), .unset, .unset, .unset, .unset, .unset, .unset] [])) _
    refine XS.iload X0.here hx rfl (hb hby at_9) rfl ?_
    exact kt)
  obtain ⟨_, _, ⟨T3, L3, k3, n3⟩, -, X3, ⟨Lc3, hQ3, l3, y3, z3⟩, st3⟩ := Jvm.LawKit.callS X0 hx (y := (⟨"com/example/prudent_alter/prudentalter/RowFormatRecordOverheadPinLaw", "pick", "(I)Lcom/example/prudent_alter/prudentalter/RowFormat;"⟩ : MethodName)) hown (mvT hZ (hw _ (List.mem_of_getElem? (i := 1) rfl))) (mvT hZ (hw _ (List.mem_of_getElem? (i := 2) rfl))) (mvT hZ (hw _ (List.mem_of_getElem? (i := 3) rfl))) (mvT hZ (hw _ (List.mem_of_getElem? (i := 4) rfl))) (by decide) (backOf (W := 0) (rm1 l Z a0 hw [] k x0 x1 x2 x3 x4 x5 h0 n0 (Nat.le_trans Z0 K0.1) S0 S1 S2 S3 S4 S5) hZ (hw _ (List.mem_of_getElem? (i := 4) rfl)) (hw _ (List.mem_of_getElem? (i := 3) rfl)) (by decide) (by decide)) (g := (mkF m 11 #[.val (.int p1), .val (.int p2), .val (.int p3), .val (.int p4), .val (.int k), .unset, .unset, .unset, .unset, .unset, .unset] [(.int k)])) rfl (by rw [hml]; rfl) (argsL := [(.int k)]) (rest := []) (lenOf pd_0 rfl) rfl (by show 2 * 0 + _ ≤ _; exact Nat.le_of_eq rfl) (hb hby at_11) (fun _ _ => ⟨rfl, e0, (by decide : 0 + 0 ≤ _), (by decide : 0 + 0 ≤ _)⟩)
  dsimp only [Pt.U, Pt.locs, Pt.cells, Pt.slots] at X3 l3 y3 z3 st3 hQ3
  subst l3 y3 z3
  obtain ⟨rfl, N3q, Eq3⟩ := hQ3
  have N3 := Fr.app N0 N3q
  have g3 : own_Go p e below s₁ (entryFrame m #[(.int p1), (.int p2), (.int p3), (.int p4)] maxLocals) T3 (mkF m 14 #[.val (.int p1), .val (.int p2), .val (.int p3), .val (.int p4), .val (.int k), .unset, .unset, .unset, .unset, .unset, .unset] [(.ref (own_pick k x0 x1 x2 x3 x4 x5))]) := fun t kt => g2 t (st3 _ kt)
  have E3' : T3.heap = h0 := Eq3
  obtain ⟨y, q_y⟩ : ∃ z, z = own_pick k x0 x1 x2 x3 x4 x5 := ⟨_, rfl⟩
  rw [← q_y] at g3
  have EF : Exa Z h0 y "com/example/prudent_alter/prudentalter/RowFormat" ∧ Fld Z h0 y "com/example/prudent_alter/prudentalter/RowFormat" "compactRecords" "Z" (.int (own_cmp k)) := by
    rw [q_y]
    exact own_pick_of (P := fun y c => Exa Z h0 y "com/example/prudent_alter/prudentalter/RowFormat" ∧ Fld Z h0 y "com/example/prudent_alter/prudentalter/RowFormat" "compactRecords" "Z" (.int c)) k ⟨E0, F0⟩ ⟨E1, F1⟩ ⟨E2, F2⟩ ⟨E3, F3⟩ ⟨E4, F4⟩ ⟨E5, F5⟩
  have g4 : own_Go p e below s₁ (entryFrame m #[(.int p1), (.int p2), (.int p3), (.int p4)] maxLocals) T3 (mkF m 33 #[.val (.int p1), .val (.int p2), .val (.int p3), .val (.int p4), .val (.int k), .val (.ref y), .val (.int (p2 &&& (65535 : Int32))), .val (.int ((p3 &&& (2147483647 : Int32)) % ((p2 &&& (65535 : Int32)) + (1 : Int32)))), .unset, .unset, .unset] []) := fun t kt => g3 t (by
    show Steps p.tables e below (T3.setTop (mkF m 14 #[.val (.int p1), .val (.int p2), .val (.int p3), .val (.int p4), .val (.int k), .unset, .unset, .unset, .unset, .unset, .unset] [(.ref y)])) _
    refine XS.astore X3.here hx rfl (hb hby at_14) rfl rfl (l' := #[.val (.int p1), .val (.int p2), .val (.int p3), .val (.int p4), .val (.int k), .val (.ref y), .unset, .unset, .unset, .unset, .unset]) rfl ?_
    show Steps p.tables e below (T3.setTop (mkF m 16 #[.val (.int p1), .val (.int p2), .val (.int p3), .val (.int p4), .val (.int k), .val (.ref y), .unset, .unset, .unset, .unset, .unset] [])) _
    refine XS.iloadN X3.here hx rfl (hb hby at_16) rfl ?_
    show Steps p.tables e below (T3.setTop (mkF m 17 #[.val (.int p1), .val (.int p2), .val (.int p3), .val (.int p4), .val (.int k), .val (.ref y), .unset, .unset, .unset, .unset, .unset] [(.int p2)])) _
    refine X3.ldcInt hx hown (mvT hZ (hw _ (List.mem_of_getElem? (i := 8) rfl))) (g := (mkF m 17 #[.val (.int p1), .val (.int p2), .val (.int p3), .val (.int p4), .val (.int k), .val (.ref y), .unset, .unset, .unset, .unset, .unset] [(.int p2)])) rfl (hb hby at_17) _ ?_
    show Steps p.tables e below (T3.setTop (mkF m 19 #[.val (.int p1), .val (.int p2), .val (.int p3), .val (.int p4), .val (.int k), .val (.ref y), .unset, .unset, .unset, .unset, .unset] [(.int (65535 : Int32)), (.int p2)])) _
    refine XS.iand X3.here hx rfl (hb hby at_19) rfl ?_
    show Steps p.tables e below (T3.setTop (mkF m 20 #[.val (.int p1), .val (.int p2), .val (.int p3), .val (.int p4), .val (.int k), .val (.ref y), .unset, .unset, .unset, .unset, .unset] [(.int (p2 &&& (65535 : Int32)))])) _
    refine XS.istore X3.here hx rfl (hb hby at_20) rfl (l' := #[.val (.int p1), .val (.int p2), .val (.int p3), .val (.int p4), .val (.int k), .val (.ref y), .val (.int (p2 &&& (65535 : Int32))), .unset, .unset, .unset, .unset]) rfl ?_
    show Steps p.tables e below (T3.setTop (mkF m 22 #[.val (.int p1), .val (.int p2), .val (.int p3), .val (.int p4), .val (.int k), .val (.ref y), .val (.int (p2 &&& (65535 : Int32))), .unset, .unset, .unset, .unset] [])) _
    refine XS.iloadN X3.here hx rfl (hb hby at_22) rfl ?_
    show Steps p.tables e below (T3.setTop (mkF m 23 #[.val (.int p1), .val (.int p2), .val (.int p3), .val (.int p4), .val (.int k), .val (.ref y), .val (.int (p2 &&& (65535 : Int32))), .unset, .unset, .unset, .unset] [(.int p3)])) _
    refine X3.ldcInt hx hown (mvT hZ (hw _ (List.mem_of_getElem? (i := 0) rfl))) (g := (mkF m 23 #[.val (.int p1), .val (.int p2), .val (.int p3), .val (.int p4), .val (.int k), .val (.ref y), .val (.int (p2 &&& (65535 : Int32))), .unset, .unset, .unset, .unset] [(.int p3)])) rfl (hb hby at_23) _ ?_
    show Steps p.tables e below (T3.setTop (mkF m 25 #[.val (.int p1), .val (.int p2), .val (.int p3), .val (.int p4), .val (.int k), .val (.ref y), .val (.int (p2 &&& (65535 : Int32))), .unset, .unset, .unset, .unset] [(.int (2147483647 : Int32)), (.int p3)])) _
    refine XS.iand X3.here hx rfl (hb hby at_25) rfl ?_
    show Steps p.tables e below (T3.setTop (mkF m 26 #[.val (.int p1), .val (.int p2), .val (.int p3), .val (.int p4), .val (.int k), .val (.ref y), .val (.int (p2 &&& (65535 : Int32))), .unset, .unset, .unset, .unset] [(.int (p3 &&& (2147483647 : Int32)))])) _
    refine XS.iload X3.here hx rfl (hb hby at_26) rfl ?_
    show Steps p.tables e below (T3.setTop (mkF m 28 #[.val (.int p1), .val (.int p2), .val (.int p3), .val (.int p4), .val (.int k), .val (.ref y), .val (.int (p2 &&& (65535 : Int32))), .unset, .unset, .unset, .unset] [(.int (p2 &&& (65535 : Int32))), (.int (p3 &&& (2147483647 : Int32)))])) _
    refine XS.iconst X3.here hx rfl (hb hby at_28) ?_
    show Steps p.tables e below (T3.setTop (mkF m 29 #[.val (.int p1), .val (.int p2), .val (.int p3), .val (.int p4), .val (.int k), .val (.ref y), .val (.int (p2 &&& (65535 : Int32))), .unset, .unset, .unset, .unset] [(.int (1 : Int32)), (.int (p2 &&& (65535 : Int32))), (.int (p3 &&& (2147483647 : Int32)))])) _
    refine XS.iadd X3.here hx rfl (hb hby at_29) rfl ?_
    show Steps p.tables e below (T3.setTop (mkF m 30 #[.val (.int p1), .val (.int p2), .val (.int p3), .val (.int p4), .val (.int k), .val (.ref y), .val (.int (p2 &&& (65535 : Int32))), .unset, .unset, .unset, .unset] [(.int ((p2 &&& (65535 : Int32)) + (1 : Int32))), (.int (p3 &&& (2147483647 : Int32)))])) _
    refine iremM X3 hx rfl (hb hby at_30) rfl hnz ?_
    show Steps p.tables e below (T3.setTop (mkF m 31 #[.val (.int p1), .val (.int p2), .val (.int p3), .val (.int p4), .val (.int k), .val (.ref y), .val (.int (p2 &&& (65535 : Int32))), .unset, .unset, .unset, .unset] [(.int ((p3 &&& (2147483647 : Int32)) % ((p2 &&& (65535 : Int32)) + (1 : Int32))))])) _
    refine XS.istore X3.here hx rfl (hb hby at_31) rfl (l' := #[.val (.int p1), .val (.int p2), .val (.int p3), .val (.int p4), .val (.int k), .val (.ref y), .val (.int (p2 &&& (65535 : Int32))), .val (.int ((p3 &&& (2147483647 : Int32)) % ((p2 &&& (65535 : Int32)) + (1 : Int32)))), .unset, .unset, .unset]) rfl ?_
    exact kt)
  obtain ⟨nb, q_nb⟩ : ∃ z, z = ((p3 &&& (2147483647 : Int32)) % ((p2 &&& (65535 : Int32)) + (1 : Int32))) := ⟨_, rfl⟩
  rw [← q_nb] at g4 hn0 hn1
  obtain ⟨cl, q_cl⟩ : ∃ z, z = (p2 &&& (65535 : Int32)) := ⟨_, rfl⟩
  rw [← q_cl] at g4
  have g5 : own_Go p e below s₁ (entryFrame m #[(.int p1), (.int p2), (.int p3), (.int p4)] maxLocals) T3 (mkF m 46 #[.val (.int p1), .val (.int p2), .val (.int p3), .val (.int p4), .val (.int k), .val (.ref y), .val (.int cl), .val (.int nb), .val (.int (own_bz (p4 &&& (1 : Int32)))), .unset, .unset] []) := fun t kt => g4 t (by
    show Steps p.tables e below (T3.setTop (mkF m 33 #[.val (.int p1), .val (.int p2), .val (.int p3), .val (.int p4), .val (.int k), .val (.ref y), .val (.int cl), .val (.int nb), .unset, .unset, .unset] [])) _
    refine XS.iloadN X3.here hx rfl (hb hby at_33) rfl ?_
    show Steps p.tables e below (T3.setTop (mkF m 34 #[.val (.int p1), .val (.int p2), .val (.int p3), .val (.int p4), .val (.int k), .val (.ref y), .val (.int cl), .val (.int nb), .unset, .unset, .unset] [(.int p4)])) _
    refine XS.iconst X3.here hx rfl (hb hby at_34) ?_
    show Steps p.tables e below (T3.setTop (mkF m 35 #[.val (.int p1), .val (.int p2), .val (.int p3), .val (.int p4), .val (.int k), .val (.ref y), .val (.int cl), .val (.int nb), .unset, .unset, .unset] [(.int (1 : Int32)), (.int p4)])) _
    refine XS.iand X3.here hx rfl (hb hby at_35) rfl ?_
    show Steps p.tables e below (T3.setTop (mkF m 36 #[.val (.int p1), .val (.int p2), .val (.int p3), .val (.int p4), .val (.int k), .val (.ref y), .val (.int cl), .val (.int nb), .unset, .unset, .unset] [(.int (p4 &&& (1 : Int32)))])) _
    refine own_bool X3 hx (hb hby at_36) (hb hby at_39) (hb hby at_40) (hb hby at_43) _ ?_
    show Steps p.tables e below (T3.setTop (mkF m 44 #[.val (.int p1), .val (.int p2), .val (.int p3), .val (.int p4), .val (.int k), .val (.ref y), .val (.int cl), .val (.int nb), .unset, .unset, .unset] [(.int (own_bz (p4 &&& (1 : Int32))))])) _
    refine XS.istore X3.here hx rfl (hb hby at_44) rfl (l' := #[.val (.int p1), .val (.int p2), .val (.int p3), .val (.int p4), .val (.int k), .val (.ref y), .val (.int cl), .val (.int nb), .val (.int (own_bz (p4 &&& (1 : Int32)))), .unset, .unset]) rfl ?_
    exact kt)
  obtain ⟨r, q_r⟩ : ∃ z, z = (own_bz (p4 &&& (1 : Int32))) := ⟨_, rfl⟩
  rw [← q_r] at g5
  have g6 : own_Go p e below s₁ (entryFrame m #[(.int p1), (.int p2), (.int p3), (.int p4)] maxLocals) T3 (mkF m 66 #[.val (.int p1), .val (.int p2), .val (.int p3), .val (.int p4), .val (.int k), .val (.ref y), .val (.int cl), .val (.int nb), .val (.int r), .val (.int ((nb >>> ((3 : Int32) &&& 31)) + (own_bz (nb &&& (7 : Int32))))), .unset] []) := fun t kt => g5 t (by
    show Steps p.tables e below (T3.setTop (mkF m 46 #[.val (.int p1), .val (.int p2), .val (.int p3), .val (.int p4), .val (.int k), .val (.ref y), .val (.int cl), .val (.int nb), .val (.int r), .unset, .unset] [])) _
    refine XS.iload X3.here hx rfl (hb hby at_46) rfl ?_
    show Steps p.tables e below (T3.setTop (mkF m 48 #[.val (.int p1), .val (.int p2), .val (.int p3), .val (.int p4), .val (.int k), .val (.ref y), .val (.int cl), .val (.int nb), .val (.int r), .unset, .unset] [(.int nb)])) _
    refine XS.iconst X3.here hx rfl (hb hby at_48) ?_
    show Steps p.tables e below (T3.setTop (mkF m 49 #[.val (.int p1), .val (.int p2), .val (.int p3), .val (.int p4), .val (.int k), .val (.ref y), .val (.int cl), .val (.int nb), .val (.int r), .unset, .unset] [(.int (3 : Int32)), (.int nb)])) _
    refine XS.ishr X3.here hx rfl (hb hby at_49) rfl ?_
    show Steps p.tables e below (T3.setTop (mkF m 50 #[.val (.int p1), .val (.int p2), .val (.int p3), .val (.int p4), .val (.int k), .val (.ref y), .val (.int cl), .val (.int nb), .val (.int r), .unset, .unset] [(.int (nb >>> ((3 : Int32) &&& 31)))])) _
    refine XS.iload X3.here hx rfl (hb hby at_50) rfl ?_
    show Steps p.tables e below (T3.setTop (mkF m 52 #[.val (.int p1), .val (.int p2), .val (.int p3), .val (.int p4), .val (.int k), .val (.ref y), .val (.int cl), .val (.int nb), .val (.int r), .unset, .unset] [(.int nb), (.int (nb >>> ((3 : Int32) &&& 31)))])) _
    refine XS.bipush X3.here hx rfl (hb hby at_52) ?_
    show Steps p.tables e below (T3.setTop (mkF m 54 #[.val (.int p1), .val (.int p2), .val (.int p3), .val (.int p4), .val (.int k), .val (.ref y), .val (.int cl), .val (.int nb), .val (.int r), .unset, .unset] [(.int (7 : Int32)), (.int nb), (.int (nb >>> ((3 : Int32) &&& 31)))])) _
    refine XS.iand X3.here hx rfl (hb hby at_54) rfl ?_
    show Steps p.tables e below (T3.setTop (mkF m 55 #[.val (.int p1), .val (.int p2), .val (.int p3), .val (.int p4), .val (.int k), .val (.ref y), .val (.int cl), .val (.int nb), .val (.int r), .unset, .unset] [(.int (nb &&& (7 : Int32))), (.int (nb >>> ((3 : Int32) &&& 31)))])) _
    refine own_bool X3 hx (hb hby at_55) (hb hby at_58) (hb hby at_59) (hb hby at_62) _ ?_
    show Steps p.tables e below (T3.setTop (mkF m 63 #[.val (.int p1), .val (.int p2), .val (.int p3), .val (.int p4), .val (.int k), .val (.ref y), .val (.int cl), .val (.int nb), .val (.int r), .unset, .unset] [(.int (own_bz (nb &&& (7 : Int32)))), (.int (nb >>> ((3 : Int32) &&& 31)))])) _
    refine XS.iadd X3.here hx rfl (hb hby at_63) rfl ?_
    show Steps p.tables e below (T3.setTop (mkF m 64 #[.val (.int p1), .val (.int p2), .val (.int p3), .val (.int p4), .val (.int k), .val (.ref y), .val (.int cl), .val (.int nb), .val (.int r), .unset, .unset] [(.int ((nb >>> ((3 : Int32) &&& 31)) + (own_bz (nb &&& (7 : Int32)))))])) _
    refine XS.istore X3.here hx rfl (hb hby at_64) rfl (l' := #[.val (.int p1), .val (.int p2), .val (.int p3), .val (.int p4), .val (.int k), .val (.ref y), .val (.int cl), .val (.int nb), .val (.int r), .val (.int ((nb >>> ((3 : Int32) &&& 31)) + (own_bz (nb &&& (7 : Int32))))), .unset]) rfl ?_
    exact kt)
  have g7 : own_Go p e below s₁ (entryFrame m #[(.int p1), (.int p2), (.int p3), (.int p4)] maxLocals) T3 (mkF m 69 #[.val (.int p1), .val (.int p2), .val (.int p3), .val (.int p4), .val (.int k), .val (.ref y), .val (.int cl), .val (.int nb), .val (.int r), .val (.int (own_fb nb)), .unset] [(.int (4 : Int32)), (.int k)]) := fun t kt => g6 t (by
    show Steps p.tables e below (T3.setTop (mkF m 66 #[.val (.int p1), .val (.int p2), .val (.int p3), .val (.int p4), .val (.int k), .val (.ref y), .val (.int cl), .val (.int nb), .val (.int r), .val (.int (own_fb nb)), .unset] [])) _
    refine XS.iload X3.here hx rfl (hb hby at_66) rfl ?_
    show Steps p.tables e below (T3.setTop (mkF m 68 #[.val (.int p1), .val (.int p2), .val (.int p3), .val (.int p4), .val (.int k), .val (.ref y), .val (.int cl), .val (.int nb), .val (.int r), .val (.int (own_fb nb)), .unset] [(.int k)])) _
    refine XS.iconst X3.here hx rfl (hb hby at_68) ?_
    exact kt)
  obtain ⟨xp, q_xp⟩ : ∃ z, z = own_exp k cl nb r := ⟨_, rfl⟩
  have g8 : own_Go p e below s₁ (entryFrame m #[(.int p1), (.int p2), (.int p3), (.int p4)] maxLocals) T3 (mkF m 123 #[.val (.int p1), .val (.int p2), .val (.int p3), .val (.int p4), .val (.int k), .val (.ref y), .val (.int cl), .val (.int nb), .val (.int r), .val (.int (own_fb nb)), .val (.int xp)] []) := by
    rcases (show (k = 4 ∧ r = 0) ∨ (k = 4 ∧ ¬ r = 0) ∨ (¬ k = 4 ∧ r = 0) ∨ (¬ k = 4 ∧ ¬ r = 0) from by by_cases hk : k = 4 <;> by_cases hr : r = 0 <;> simp [hk, hr]) with ⟨hk, hr⟩ | ⟨hk, hr⟩ | ⟨hk, hr⟩ | ⟨hk, hr⟩
    · rw [show xp = 2 * cl + 23 from by rw [q_xp]; simp [own_exp, hk, hr]]
      have g9 : own_Go p e below s₁ (entryFrame m #[(.int p1), (.int p2), (.int p3), (.int p4)] maxLocals) T3 (mkF m 123 #[.val (.int p1), .val (.int p2), .val (.int p3), .val (.int p4), .val (.int k), .val (.ref y), .val (.int cl), .val (.int nb), .val (.int r), .val (.int (own_fb nb)), .val (.int (((2 : Int32) * cl) + (23 : Int32)))] []) := fun t kt => g7 t (by
        show Steps p.tables e below (T3.setTop (mkF m 69 #[.val (.int p1), .val (.int p2), .val (.int p3), .val (.int p4), .val (.int k), .val (.ref y), .val (.int cl), .val (.int nb), .val (.int r), .val (.int (own_fb nb)), .unset] [(.int (4 : Int32)), (.int k)])) _
        refine XS.icmpNo X3.here hx rfl (hb hby at_69) rfl (teq hk).2 ?_
        show Steps p.tables e below (T3.setTop (mkF m 72 #[.val (.int p1), .val (.int p2), .val (.int p3), .val (.int p4), .val (.int k), .val (.ref y), .val (.int cl), .val (.int nb), .val (.int r), .val (.int (own_fb nb)), .unset] [])) _
        refine XS.iload X3.here hx rfl (hb hby at_72) rfl ?_
        show Steps p.tables e below (T3.setTop (mkF m 74 #[.val (.int p1), .val (.int p2), .val (.int p3), .val (.int p4), .val (.int k), .val (.ref y), .val (.int cl), .val (.int nb), .val (.int r), .val (.int (own_fb nb)), .unset] [(.int r)])) _
        refine XS.ifYes X3.here hx rfl (pc0 := 74) (pc' := 89) rfl (hb hby at_74) rfl ((if0 _ _).trans (teq hr).1) (by decide) (by decide) ?_
        show Steps p.tables e below (T3.setTop (mkF m 89 #[.val (.int p1), .val (.int p2), .val (.int p3), .val (.int p4), .val (.int k), .val (.ref y), .val (.int cl), .val (.int nb), .val (.int r), .val (.int (own_fb nb)), .unset] [])) _
        refine XS.iconst X3.here hx rfl (hb hby at_89) ?_
        show Steps p.tables e below (T3.setTop (mkF m 90 #[.val (.int p1), .val (.int p2), .val (.int p3), .val (.int p4), .val (.int k), .val (.ref y), .val (.int cl), .val (.int nb), .val (.int r), .val (.int (own_fb nb)), .unset] [(.int (2 : Int32))])) _
        refine XS.iload X3.here hx rfl (hb hby at_90) rfl ?_
        show Steps p.tables e below (T3.setTop (mkF m 92 #[.val (.int p1), .val (.int p2), .val (.int p3), .val (.int p4), .val (.int k), .val (.ref y), .val (.int cl), .val (.int nb), .val (.int r), .val (.int (own_fb nb)), .unset] [(.int cl), (.int (2 : Int32))])) _
        refine XS.imul X3.here hx rfl (hb hby at_92) rfl ?_
        show Steps p.tables e below (T3.setTop (mkF m 93 #[.val (.int p1), .val (.int p2), .val (.int p3), .val (.int p4), .val (.int k), .val (.ref y), .val (.int cl), .val (.int nb), .val (.int r), .val (.int (own_fb nb)), .unset] [(.int ((2 : Int32) * cl))])) _
        refine XS.bipush X3.here hx rfl (hb hby at_93) ?_
        show Steps p.tables e below (T3.setTop (mkF m 95 #[.val (.int p1), .val (.int p2), .val (.int p3), .val (.int p4), .val (.int k), .val (.ref y), .val (.int cl), .val (.int nb), .val (.int r), .val (.int (own_fb nb)), .unset] [(.int (23 : Int32)), (.int ((2 : Int32) * cl))])) _
        refine XS.iadd X3.here hx rfl (hb hby at_95) rfl ?_
        show Steps p.tables e below (T3.setTop (mkF m 96 #[.val (.int p1), .val (.int p2), .val (.int p3), .val (.int p4), .val (.int k), .val (.ref y), .val (.int cl), .val (.int nb), .val (.int r), .val (.int (own_fb nb)), .unset] [(.int (((2 : Int32) * cl) + (23 : Int32)))])) _
        refine XS.istore X3.here hx rfl (hb hby at_96) rfl (l' := #[.val (.int p1), .val (.int p2), .val (.int p3), .val (.int p4), .val (.int k), .val (.ref y), .val (.int cl), .val (.int nb), .val (.int r), .val (.int (own_fb nb)), .val (.int (((2 : Int32) * cl) + (23 : Int32)))]) rfl ?_
        show Steps p.tables e below (T3.setTop (mkF m 98 #[.val (.int p1), .val (.int p2), .val (.int p3), .val (.int p4), .val (.int k), .val (.ref y), .val (.int cl), .val (.int nb), .val (.int r), .val (.int (own_fb nb)), .val (.int (((2 : Int32) * cl) + (23 : Int32)))] [])) _
        refine XS.goto X3.here hx rfl (pc0 := 98) (pc' := 123) rfl (hb hby at_98) (by decide) (by decide) ?_
        exact kt)
      exact g9
    · rw [show xp = 2 * cl + 31 from by rw [q_xp]; simp [own_exp, hk, hr]]
      have g10 : own_Go p e below s₁ (entryFrame m #[(.int p1), (.int p2), (.int p3), (.int p4)] maxLocals) T3 (mkF m 123 #[.val (.int p1), .val (.int p2), .val (.int p3), .val (.int p4), .val (.int k), .val (.ref y), .val (.int cl), .val (.int nb), .val (.int r), .val (.int (own_fb nb)), .val (.int (((2 : Int32) * cl) + (31 : Int32)))] []) := fun t kt => g7 t (by
        show Steps p.tables e below (T3.setTop (mkF m 69 #[.val (.int p1), .val (.int p2), .val (.int p3), .val (.int p4), .val (.int k), .val (.ref y), .val (.int cl), .val (.int nb), .val (.int r), .val (.int (own_fb nb)), .unset] [(.int (4 : Int32)), (.int k)])) _
        refine XS.icmpNo X3.here hx rfl (hb hby at_69) rfl (teq hk).2 ?_
        show Steps p.tables e below (T3.setTop (mkF m 72 #[.val (.int p1), .val (.int p2), .val (.int p3), .val (.int p4), .val (.int k), .val (.ref y), .val (.int cl), .val (.int nb), .val (.int r), .val (.int (own_fb nb)), .unset] [])) _
        refine XS.iload X3.here hx rfl (hb hby at_72) rfl ?_
        show Steps p.tables e below (T3.setTop (mkF m 74 #[.val (.int p1), .val (.int p2), .val (.int p3), .val (.int p4), .val (.int k), .val (.ref y), .val (.int cl), .val (.int nb), .val (.int r), .val (.int (own_fb nb)), .unset] [(.int r)])) _
        refine XS.ifNo X3.here hx rfl (hb hby at_74) rfl ((if0 _ _).trans (feq hr).1) ?_
        show Steps p.tables e below (T3.setTop (mkF m 77 #[.val (.int p1), .val (.int p2), .val (.int p3), .val (.int p4), .val (.int k), .val (.ref y), .val (.int cl), .val (.int nb), .val (.int r), .val (.int (own_fb nb)), .unset] [])) _
        refine XS.iconst X3.here hx rfl (hb hby at_77) ?_
        show Steps p.tables e below (T3.setTop (mkF m 78 #[.val (.int p1), .val (.int p2), .val (.int p3), .val (.int p4), .val (.int k), .val (.ref y), .val (.int cl), .val (.int nb), .val (.int r), .val (.int (own_fb nb)), .unset] [(.int (2 : Int32))])) _
        refine XS.iload X3.here hx rfl (hb hby at_78) rfl ?_
        show Steps p.tables e below (T3.setTop (mkF m 80 #[.val (.int p1), .val (.int p2), .val (.int p3), .val (.int p4), .val (.int k), .val (.ref y), .val (.int cl), .val (.int nb), .val (.int r), .val (.int (own_fb nb)), .unset] [(.int cl), (.int (2 : Int32))])) _
        refine XS.imul X3.here hx rfl (hb hby at_80) rfl ?_
        show Steps p.tables e below (T3.setTop (mkF m 81 #[.val (.int p1), .val (.int p2), .val (.int p3), .val (.int p4), .val (.int k), .val (.ref y), .val (.int cl), .val (.int nb), .val (.int r), .val (.int (own_fb nb)), .unset] [(.int ((2 : Int32) * cl))])) _
        refine XS.bipush X3.here hx rfl (hb hby at_81) ?_
        show Steps p.tables e below (T3.setTop (mkF m 83 #[.val (.int p1), .val (.int p2), .val (.int p3), .val (.int p4), .val (.int k), .val (.ref y), .val (.int cl), .val (.int nb), .val (.int r), .val (.int (own_fb nb)), .unset] [(.int (31 : Int32)), (.int ((2 : Int32) * cl))])) _
        refine XS.iadd X3.here hx rfl (hb hby at_83) rfl ?_
        show Steps p.tables e below (T3.setTop (mkF m 84 #[.val (.int p1), .val (.int p2), .val (.int p3), .val (.int p4), .val (.int k), .val (.ref y), .val (.int cl), .val (.int nb), .val (.int r), .val (.int (own_fb nb)), .unset] [(.int (((2 : Int32) * cl) + (31 : Int32)))])) _
        refine XS.istore X3.here hx rfl (hb hby at_84) rfl (l' := #[.val (.int p1), .val (.int p2), .val (.int p3), .val (.int p4), .val (.int k), .val (.ref y), .val (.int cl), .val (.int nb), .val (.int r), .val (.int (own_fb nb)), .val (.int (((2 : Int32) * cl) + (31 : Int32)))]) rfl ?_
        show Steps p.tables e below (T3.setTop (mkF m 86 #[.val (.int p1), .val (.int p2), .val (.int p3), .val (.int p4), .val (.int k), .val (.ref y), .val (.int cl), .val (.int nb), .val (.int r), .val (.int (own_fb nb)), .val (.int (((2 : Int32) * cl) + (31 : Int32)))] [])) _
        refine XS.goto X3.here hx rfl (pc0 := 86) (pc' := 123) rfl (hb hby at_86) (by decide) (by decide) ?_
        exact kt)
      exact g10
    · rw [show xp = 18 + own_fb nb from by rw [q_xp]; simp [own_exp, hk, hr]]
      have g11 : own_Go p e below s₁ (entryFrame m #[(.int p1), (.int p2), (.int p3), (.int p4)] maxLocals) T3 (mkF m 123 #[.val (.int p1), .val (.int p2), .val (.int p3), .val (.int p4), .val (.int k), .val (.ref y), .val (.int cl), .val (.int nb), .val (.int r), .val (.int (own_fb nb)), .val (.int ((18 : Int32) + (own_fb nb)))] []) := fun t kt => g7 t (by
        show Steps p.tables e below (T3.setTop (mkF m 69 #[.val (.int p1), .val (.int p2), .val (.int p3), .val (.int p4), .val (.int k), .val (.ref y), .val (.int cl), .val (.int nb), .val (.int r), .val (.int (own_fb nb)), .unset] [(.int (4 : Int32)), (.int k)])) _
        refine XS.icmpYes X3.here hx rfl (pc0 := 69) (pc' := 101) rfl (hb hby at_69) rfl (feq hk).2 (by decide) (by decide) ?_
        show Steps p.tables e below (T3.setTop (mkF m 101 #[.val (.int p1), .val (.int p2), .val (.int p3), .val (.int p4), .val (.int k), .val (.ref y), .val (.int cl), .val (.int nb), .val (.int r), .val (.int (own_fb nb)), .unset] [])) _
        refine XS.iload X3.here hx rfl (hb hby at_101) rfl ?_
        show Steps p.tables e below (T3.setTop (mkF m 103 #[.val (.int p1), .val (.int p2), .val (.int p3), .val (.int p4), .val (.int k), .val (.ref y), .val (.int cl), .val (.int nb), .val (.int r), .val (.int (own_fb nb)), .unset] [(.int r)])) _
        refine XS.ifYes X3.here hx rfl (pc0 := 103) (pc' := 116) rfl (hb hby at_103) rfl ((if0 _ _).trans (teq hr).1) (by decide) (by decide) ?_
        show Steps p.tables e below (T3.setTop (mkF m 116 #[.val (.int p1), .val (.int p2), .val (.int p3), .val (.int p4), .val (.int k), .val (.ref y), .val (.int cl), .val (.int nb), .val (.int r), .val (.int (own_fb nb)), .unset] [])) _
        refine XS.bipush X3.here hx rfl (hb hby at_116) ?_
        show Steps p.tables e below (T3.setTop (mkF m 118 #[.val (.int p1), .val (.int p2), .val (.int p3), .val (.int p4), .val (.int k), .val (.ref y), .val (.int cl), .val (.int nb), .val (.int r), .val (.int (own_fb nb)), .unset] [(.int (18 : Int32))])) _
        refine XS.iload X3.here hx rfl (hb hby at_118) rfl ?_
        show Steps p.tables e below (T3.setTop (mkF m 120 #[.val (.int p1), .val (.int p2), .val (.int p3), .val (.int p4), .val (.int k), .val (.ref y), .val (.int cl), .val (.int nb), .val (.int r), .val (.int (own_fb nb)), .unset] [(.int (own_fb nb)), (.int (18 : Int32))])) _
        refine XS.iadd X3.here hx rfl (hb hby at_120) rfl ?_
        show Steps p.tables e below (T3.setTop (mkF m 121 #[.val (.int p1), .val (.int p2), .val (.int p3), .val (.int p4), .val (.int k), .val (.ref y), .val (.int cl), .val (.int nb), .val (.int r), .val (.int (own_fb nb)), .unset] [(.int ((18 : Int32) + (own_fb nb)))])) _
        refine XS.istore X3.here hx rfl (hb hby at_121) rfl (l' := #[.val (.int p1), .val (.int p2), .val (.int p3), .val (.int p4), .val (.int k), .val (.ref y), .val (.int cl), .val (.int nb), .val (.int r), .val (.int (own_fb nb)), .val (.int ((18 : Int32) + (own_fb nb)))]) rfl ?_
        exact kt)
      exact g11
    · rw [show xp = 24 + own_fb nb from by rw [q_xp]; simp [own_exp, hk, hr]]
      have g12 : own_Go p e below s₁ (entryFrame m #[(.int p1), (.int p2), (.int p3), (.int p4)] maxLocals) T3 (mkF m 123 #[.val (.int p1), .val (.int p2), .val (.int p3), .val (.int p4), .val (.int k), .val (.ref y), .val (.int cl), .val (.int nb), .val (.int r), .val (.int (own_fb nb)), .val (.int ((24 : Int32) + (own_fb nb)))] []) := fun t kt => g7 t (by
        show Steps p.tables e below (T3.setTop (mkF m 69 #[.val (.int p1), .val (.int p2), .val (.int p3), .val (.int p4), .val (.int k), .val (.ref y), .val (.int cl), .val (.int nb), .val (.int r), .val (.int (own_fb nb)), .unset] [(.int (4 : Int32)), (.int k)])) _
        refine XS.icmpYes X3.here hx rfl (pc0 := 69) (pc' := 101) rfl (hb hby at_69) rfl (feq hk).2 (by decide) (by decide) ?_
        show Steps p.tables e below (T3.setTop (mkF m 101 #[.val (.int p1), .val (.int p2), .val (.int p3), .val (.int p4), .val (.int k), .val (.ref y), .val (.int cl), .val (.int nb), .val (.int r), .val (.int (own_fb nb)), .unset] [])) _
        refine XS.iload X3.here hx rfl (hb hby at_101) rfl ?_
        show Steps p.tables e below (T3.setTop (mkF m 103 #[.val (.int p1), .val (.int p2), .val (.int p3), .val (.int p4), .val (.int k), .val (.ref y), .val (.int cl), .val (.int nb), .val (.int r), .val (.int (own_fb nb)), .unset] [(.int r)])) _
        refine XS.ifNo X3.here hx rfl (hb hby at_103) rfl ((if0 _ _).trans (feq hr).1) ?_
        show Steps p.tables e below (T3.setTop (mkF m 106 #[.val (.int p1), .val (.int p2), .val (.int p3), .val (.int p4), .val (.int k), .val (.ref y), .val (.int cl), .val (.int nb), .val (.int r), .val (.int (own_fb nb)), .unset] [])) _
        refine XS.bipush X3.here hx rfl (hb hby at_106) ?_
        show Steps p.tables e below (T3.setTop (mkF m 108 #[.val (.int p1), .val (.int p2), .val (.int p3), .val (.int p4), .val (.int k), .val (.ref y), .val (.int cl), .val (.int nb), .val (.int r), .val (.int (own_fb nb)), .unset] [(.int (24 : Int32))])) _
        refine XS.iload X3.here hx rfl (hb hby at_108) rfl ?_
        show Steps p.tables e below (T3.setTop (mkF m 110 #[.val (.int p1), .val (.int p2), .val (.int p3), .val (.int p4), .val (.int k), .val (.ref y), .val (.int cl), .val (.int nb), .val (.int r), .val (.int (own_fb nb)), .unset] [(.int (own_fb nb)), (.int (24 : Int32))])) _
        refine XS.iadd X3.here hx rfl (hb hby at_110) rfl ?_
        show Steps p.tables e below (T3.setTop (mkF m 111 #[.val (.int p1), .val (.int p2), .val (.int p3), .val (.int p4), .val (.int k), .val (.ref y), .val (.int cl), .val (.int nb), .val (.int r), .val (.int (own_fb nb)), .unset] [(.int ((24 : Int32) + (own_fb nb)))])) _
        refine XS.istore X3.here hx rfl (hb hby at_111) rfl (l' := #[.val (.int p1), .val (.int p2), .val (.int p3), .val (.int p4), .val (.int k), .val (.ref y), .val (.int cl), .val (.int nb), .val (.int r), .val (.int (own_fb nb)), .val (.int ((24 : Int32) + (own_fb nb)))]) rfl ?_
        show Steps p.tables e below (T3.setTop (mkF m 113 #[.val (.int p1), .val (.int p2), .val (.int p3), .val (.int p4), .val (.int k), .val (.ref y), .val (.int cl), .val (.int nb), .val (.int r), .val (.int (own_fb nb)), .val (.int ((24 : Int32) + (own_fb nb)))] [])) _
        refine XS.goto X3.here hx rfl (pc0 := 113) (pc' := 123) rfl (hb hby at_113) (by decide) (by decide) ?_
        exact kt)
      exact g12
  have g13 : own_Go p e below s₁ (entryFrame m #[(.int p1), (.int p2), (.int p3), (.int p4)] maxLocals) T3 (mkF m 131 #[.val (.int p1), .val (.int p2), .val (.int p3), .val (.int p4), .val (.int k), .val (.ref y), .val (.int cl), .val (.int nb), .val (.int r), .val (.int (own_fb nb)), .val (.int xp)] [(.int r), (.int nb), (.int cl), (.ref y)]) := fun t kt => g8 t (by
    show Steps p.tables e below (T3.setTop (mkF m 123 #[.val (.int p1), .val (.int p2), .val (.int p3), .val (.int p4), .val (.int k), .val (.ref y), .val (.int cl), .val (.int nb), .val (.int r), .val (.int (own_fb nb)), .val (.int xp)] [])) _
    refine XS.aload X3.here hx rfl (hb hby at_123) rfl rfl ?_
    show Steps p.tables e below (T3.setTop (mkF m 125 #[.val (.int p1), .val (.int p2), .val (.int p3), .val (.int p4), .val (.int k), .val (.ref y), .val (.int cl), .val (.int nb), .val (.int r), .val (.int (own_fb nb)), .val (.int xp)] [(.ref y)])) _
    refine XS.iload X3.here hx rfl (hb hby at_125) rfl ?_
    show Steps p.tables e below (T3.setTop (mkF m 127 #[.val (.int p1), .val (.int p2), .val (.int p3), .val (.int p4), .val (.int k), .val (.ref y), .val (.int cl), .val (.int nb), .val (.int r), .val (.int (own_fb nb)), .val (.int xp)] [(.int cl), (.ref y)])) _
    refine XS.iload X3.here hx rfl (hb hby at_127) rfl ?_
    show Steps p.tables e below (T3.setTop (mkF m 129 #[.val (.int p1), .val (.int p2), .val (.int p3), .val (.int p4), .val (.int k), .val (.ref y), .val (.int cl), .val (.int nb), .val (.int r), .val (.int (own_fb nb)), .val (.int xp)] [(.int nb), (.int cl), (.ref y)])) _
    refine XS.iload X3.here hx rfl (hb hby at_129) rfl ?_
    exact kt)
  obtain ⟨cq14, kq14, q14a, q14b, q14c⟩ := isOf hZ E3' EF.1
  obtain ⟨_, _, ⟨T14, L14, k14, n14⟩, -, X14, ⟨Lc14, hQ14, l14, y14, z14⟩, st14⟩ := X3.virtualBack hx (y := (⟨"com/example/prudent_alter/prudentalter/RowFormat", "recordOverhead", "(IIZ)I"⟩ : MethodName)) (z := (⟨"com/example/prudent_alter/prudentalter/RowFormat", "recordOverhead", "(IIZ)I"⟩ : MethodName)) hown (mvT hZ (hw _ (List.mem_of_getElem? (i := 9) rfl))) (mvT hZ (hw _ (List.mem_of_getElem? (i := 10) rfl))) (notFace_of_selects (args := #[]) (mvT hZ (hw _ (List.mem_of_getElem? (i := 12) rfl)))) (mvT hZ (hw _ (List.mem_of_getElem? (i := 12) rfl))) (mvT hZ (hw _ (List.mem_of_getElem? (i := 11) rfl))) (by decide) (backOf (W := 0) (rm2 l Z a0 hw [] y cl nb r (own_cmp k) h0 n0 (Nat.le_trans Z0 K0.1) EF.2) hZ (hw _ (List.mem_of_getElem? (i := 13) rfl)) (hw _ (List.mem_of_getElem? (i := 6) rfl)) (by decide) (by decide)) q14a q14c (g := (mkF m 131 #[.val (.int p1), .val (.int p2), .val (.int p3), .val (.int p4), .val (.int k), .val (.ref y), .val (.int cl), .val (.int nb), .val (.int r), .val (.int (own_fb nb)), .val (.int xp)] [(.int r), (.int nb), (.int cl), (.ref y)])) rfl (by rw [hml]; rfl) (Steps.refl _) (argsL := [(.int cl), (.int nb), (.int r)]) (rest := []) (lenOf pd_1 rfl) rfl (by show 2 * 0 + _ ≤ _; exact Nat.le_of_eq rfl) (hb hby at_131) (fun _ _ => ⟨rfl, E3', (by decide : 0 + 0 ≤ _), (by decide : 0 + 0 ≤ _)⟩)
  dsimp only [Pt.U, Pt.locs, Pt.cells, Pt.slots] at X14 l14 y14 z14 st14 hQ14
  subst l14 y14 z14
  obtain ⟨rfl, N14q, Eq14⟩ := hQ14
  have N14 := Fr.app N3 N14q
  have g14 : own_Go p e below s₁ (entryFrame m #[(.int p1), (.int p2), (.int p3), (.int p4)] maxLocals) T14 (mkF m 134 #[.val (.int p1), .val (.int p2), .val (.int p3), .val (.int p4), .val (.int k), .val (.ref y), .val (.int cl), .val (.int nb), .val (.int r), .val (.int (own_fb nb)), .val (.int xp)] [(.int (own_over cl nb r (own_cmp k)))]) := fun t kt => g13 t (st14.trans kt)
  have E14' : T14.heap = h0 := Eq14
  have g15 : own_Go p e below s₁ (entryFrame m #[(.int p1), (.int p2), (.int p3), (.int p4)] maxLocals) T14 (mkF m 144 #[.val (.int p1), .val (.int p2), .val (.int p3), .val (.int p4), .val (.int k), .val (.ref y), .val (.int cl), .val (.int nb), .val (.int r), .val (.int (own_fb nb)), .val (.int xp)] [(.int (1 : Int32))]) := fun t kt => g14 t (by
    show Steps p.tables e below (T14.setTop (mkF m 134 #[.val (.int p1), .val (.int p2), .val (.int p3), .val (.int p4), .val (.int k), .val (.ref y), .val (.int cl), .val (.int nb), .val (.int r), .val (.int (own_fb nb)), .val (.int xp)] [(.int (own_over cl nb r (own_cmp k)))])) _
    refine XS.iload X14.here hx rfl (hb hby at_134) rfl ?_
    show Steps p.tables e below (T14.setTop (mkF m 136 #[.val (.int p1), .val (.int p2), .val (.int p3), .val (.int p4), .val (.int k), .val (.ref y), .val (.int cl), .val (.int nb), .val (.int r), .val (.int (own_fb nb)), .val (.int xp)] [(.int xp), (.int (own_over cl nb r (own_cmp k)))])) _
    refine XS.icmpNo X14.here hx rfl (hb hby at_136) rfl (teq ((own_exp_over k cl nb r hn0 hn1).trans q_xp.symm)).2 ?_
    show Steps p.tables e below (T14.setTop (mkF m 139 #[.val (.int p1), .val (.int p2), .val (.int p3), .val (.int p4), .val (.int k), .val (.ref y), .val (.int cl), .val (.int nb), .val (.int r), .val (.int (own_fb nb)), .val (.int xp)] [])) _
    refine XS.iconst X14.here hx rfl (hb hby at_139) ?_
    show Steps p.tables e below (T14.setTop (mkF m 140 #[.val (.int p1), .val (.int p2), .val (.int p3), .val (.int p4), .val (.int k), .val (.ref y), .val (.int cl), .val (.int nb), .val (.int r), .val (.int (own_fb nb)), .val (.int xp)] [(.int (1 : Int32))])) _
    refine XS.goto X14.here hx rfl (pc0 := 140) (pc' := 144) rfl (hb hby at_140) (by decide) (by decide) ?_
    exact kt)
  obtain ⟨fs, hr, hrun, hended, hW, hsame⟩ := X14.leave (v := some (.int (1 : Int32))) (fun h => by rw [Bd.returns] at h; cases h)
  refine ⟨_, _, g15 _ (retN X14 hx (t := .boolean) Bd.returns (by simp) (hb hby at_144) hr), hrun, hended, _, _, rfl, ?_, ⟨_, rfl⟩, hW, hsame.mono (by decide) (by decide)⟩
  show Q_rm0 Z p1 p2 p3 p4 h0 n0 _ T14.heap _
  rw [E14']
  exact ⟨rfl, N14⟩
set_option maxRecDepth 65536 in
set_option maxHeartbeats 40000000 in
theorem comes_1 {Post : Tables → Env → Array Value → State → Outcome → State → Prop} (hpost : ∀ tb e args s v u, (limb_1_1.after args s (.returned v) u = true ∧ limb_1_2.after args s (.returned v) u = true ∧ True) → FrameEnd s (.returned v) u (Jvm.fieldLocs frame_1_writes args s ++ Jvm.arrayLocs frame_1_arrays args s ++ Jvm.staticLocs frame_1_statics s) 0 0 → Post tb e args s (.returned v) u) :
    ArmFor flags0 classFile x code maxLocals ret World_1 tables_1 room_1 Calls_1 rest_1 Pre_1 Post := by
  intro l hfl _ _ p e ha hc hk s m args below hf hA hF happ hP
  obtain ⟨hcalls, hrest, hpre⟩ := hP
  obtain ⟨-, -, -, hnamed, -, -, -, hat⟩ := (Spec.applies_iff hf).mp happ
  obtain ⟨hg, hn⟩ := and_e (Cond.before_iff.mp (show (Jvm.Cond.and given_1 narrow_1).before args s = true from hpre))
  obtain ⟨hcnt, r0⟩ := and_e hg
  obtain ⟨a0, r1⟩ := and_e r0
  obtain ⟨a1, r2⟩ := and_e r1
  obtain ⟨a2, r3⟩ := and_e r2
  obtain ⟨w0, w1, w2, w3, rfl⟩ : ∃ w0 w1 w2 w3 : Value, args = #[w0, w1, w2, w3] := by
    have hs : args.size = 4 := by simpa [Cond.value, given_1] using hcnt
    obtain ⟨L⟩ := args
    match L, hs with
    | [w0, w1, w2, w3], _ => exact ⟨w0, w1, w2, w3, rfl⟩
  have hw := fun d (hd : d ∈ tables_1) => atoms_spec (ws := Jvm.Cond.code x code maxLocals ret :: tables_1) hat d (List.mem_cons_of_mem _ hd)
  have hfit : Fit s := fun {y c} hc i hi => by
    obtain ⟨ha, rfl⟩ := Array.getElem?_eq_some_iff.mp hc
    have q := List.all_eq_true.mp ((Array.all_eq_true_iff_forall_mem.mp hF) _ (Array.getElem_mem ha)) i (List.mem_range.mpr hi)
    simpa [Array.getElem?_eq_getElem hi] using q
  obtain ⟨i0, ei0⟩ := is_v a0
  obtain rfl : w0 = (.int i0) := Option.some.inj ei0
  obtain ⟨i1, ei1⟩ := is_v a1
  obtain rfl : w1 = (.int i1) := Option.some.inj ei1
  obtain ⟨i2, ei2⟩ := is_v a2
  obtain rfl : w2 = (.int i2) := Option.some.inj ei2
  obtain ⟨i3, ei3⟩ := is_v r3
  obtain rfl : w3 = (.int i3) := Option.some.inj ei3
  have hn' := hn
  obtain ⟨m0a, t0⟩ := and_e hn
  obtain ⟨m0b, u0⟩ := and_e t0
  obtain ⟨x0, S0, E0, F0⟩ := own_row m0a m0b (hw _ (List.mem_of_getElem? (i := 6) rfl)) (hw _ (List.mem_of_getElem? (i := 7) rfl))
  obtain ⟨m1a, t1⟩ := and_e u0
  obtain ⟨m1b, u1⟩ := and_e t1
  obtain ⟨x1, S1, E1, F1⟩ := own_row m1a m1b (hw _ (List.mem_of_getElem? (i := 6) rfl)) (hw _ (List.mem_of_getElem? (i := 17) rfl))
  obtain ⟨m4a, t4⟩ := and_e u1
  obtain ⟨m4b, u4⟩ := and_e t4
  obtain ⟨x4, S4, E4, F4⟩ := own_row m4a m4b (hw _ (List.mem_of_getElem? (i := 6) rfl)) (hw _ (List.mem_of_getElem? (i := 19) rfl))
  obtain ⟨m3a, t3⟩ := and_e u4
  obtain ⟨m3b, u3⟩ := and_e t3
  obtain ⟨x3, S3, E3, F3⟩ := own_row m3a m3b (hw _ (List.mem_of_getElem? (i := 6) rfl)) (hw _ (List.mem_of_getElem? (i := 21) rfl))
  obtain ⟨m5a, t5⟩ := and_e u3
  obtain ⟨m5b, u5⟩ := and_e t5
  obtain ⟨x5, S5, E5, F5⟩ := own_row m5a m5b (hw _ (List.mem_of_getElem? (i := 6) rfl)) (hw _ (List.mem_of_getElem? (i := 23) rfl))
  obtain ⟨m2a, t2⟩ := and_e u5
  obtain ⟨x2, S2, E2, F2⟩ := own_row m2a t2 (hw _ (List.mem_of_getElem? (i := 6) rfl)) (hw _ (List.mem_of_getElem? (i := 25) rfl))
  obtain ⟨n, o, h1, h2, h3, _, L, rfl, ⟨rfl, N⟩, hq⟩ := rm0 l s _ hw tables_1 i0 i1 i2 i3 x0 x1 x2 x3 x4 x5 s.heap s.heap.size (Nat.le_refl _) S0 S1 S2 S3 S4 S5 E0 E1 E2 E3 E4 E5 F0 F1 F2 F3 F4 F5 p e ha hc hk s m _ below hf ((Spec.applies_iff_loose hf).mp happ).1 ⟨rfl, State.Warmed39.refl s, rfl⟩ trivial
  refine ⟨n, _, h1, h2, h3, hpost _ _ _ _ _ _ ⟨Cond.after_iff.mpr rfl, Cond.after_iff.mpr (eq_i res_at (Term.int_eval (1)) rfl), trivial⟩ ⟨hq.1, hq.2.1, (hq.2.2.sift fun y hy => Or.inr (N y hy)).mono (by decide) (by decide)⟩⟩
theorem main_1_1 : Claimed_1_1 := comes_1 fun _ _ _ _ _ _ h hF => ⟨h.1, hF⟩
theorem main_1_2 : Claimed_1_2 := comes_1 fun _ _ _ _ _ _ h hF => ⟨h.2.1, hF⟩
end Jvm.Pilot.@@N@@
namespace Jvm.Pilot.@@N@@
open Jvm Jvm.ClassFile Sem Op Lib Jvm.Free Jvm.Stand Jvm.Pilot.@@N@@.Jvm.D
/-! MADE BY PROGRAM (witnessworld.py) out of the Statement's table words and the real class files: 12 classes; the members and pool entries that the words name. The judged class is class 1, her method 2. -/
namespace start1
open Jvm.ClassFile
def u (s : String) : CpInfo := .utf8 (stringToUtf16 s)
/-- a pool by its gaps: so many unusable entries, then the entry; so many at the end -/
def gap : Nat → List CpInfo → List CpInfo
  | 0, r => r
  | n + 1, r => .unusable :: gap n r
def poolList (es : List (Nat × CpInfo)) (last : Nat) : List CpInfo := es.foldr (fun e r => gap e.1 (e.2 :: r)) (gap last [])
def pool (es : List (Nat × CpInfo)) (last : Nat) : Array CpInfo := ⟨poolList es last⟩
def fileOf (pool : Array CpInfo) (this : Nat) (attrs : Array Attribute := #[]) (ms : Array MethodInfo := #[]) (fl : Nat := 33) (sup : Nat := 0) (ifs : Array Nat := #[]) (fds : Array FieldInfo := #[]) : ClassFile where
  minorVersion := 0
  majorVersion := 65
  constantPool := pool
  accessFlags := fl
  thisClass := this
  superClass := sup
  interfaces := ifs
  fields := fds
  methods := ms
  attributes := attrs
def plain (name : String) (sup : Option ClassId) : Class where
  name := name
  kind := .ordinary
  loader := none
  accessFlags := 33
  super := sup
  interfaces := #[]
  cf := none
  fields := #[]
  methods := #[]
  instanceTypes := #[]
  staticTypes := #[]
  resolved := #[]
  callSites := []
  init := .initialized
  statics := none
  mirror := none

def pool0 : Array CpInfo := pool [(5, u "<init>"), (0, u "()V"), (1, .class_ 10), (1, u "java/lang/Object")] 113

def k0m0 : Method := { name := "<init>", desc := "()V", sig := { parameters := [], returnType := none }, accessFlags := 1, code := none }
/-- java/lang/Object -/
def k0 : Class := { plain "java/lang/Object" none with
  accessFlags := 33
  interfaces := #[]
  cf := some (fileOf pool0 8 #[] #[{ accessFlags := 1, nameIndex := 5, descriptorIndex := 6, attributes := #[] }] 33 0 #[] #[])
  fields := #[]
  methods := #[k0m0]
  instanceTypes := #[]
  staticTypes := #[]
  resolved := Array.replicate 124 none
  statics := none }

def pool1 : Array CpInfo := pool [(2, .class_ 4), (1, u "java/lang/Object"), (0, u "<init>"), (0, u "()V"), (0, .fieldref 8 9), (0, .class_ 10), (0, .nameAndType 11 12), (0, u "com/example/prudent_alter/prudentalter/RowFormat"), (0, u "DEFAULT"), (0, u "Lcom/example/prudent_alter/prudentalter/RowFormat;"), (0, .fieldref 8 14), (0, .nameAndType 15 12), (0, u "DYNAMIC"), (0, .fieldref 8 17), (0, .nameAndType 18 12), (0, u "FIXED"), (0, .fieldref 8 20), (0, .nameAndType 21 12), (0, u "COMPRESSED"), (0, .fieldref 8 23), (0, .nameAndType 24 12), (0, u "REDUNDANT"), (0, .fieldref 8 26), (0, .nameAndType 27 12), (0, u "COMPACT"), (0, .integer 2147483647), (0, .methodref 30 31), (0, .class_ 32), (0, .nameAndType 33 34), (0, u "com/example/prudent_alter/prudentalter/RowFormatRecordOverheadPinLaw"), (0, u "pick"), (0, u "(I)Lcom/example/prudent_alter/prudentalter/RowFormat;"), (0, .integer 65535), (0, .methodref 8 37), (0, .nameAndType 38 39), (0, u "recordOverhead"), (0, u "(IIZ)I"), (3, u "law"), (0, u "(IIII)Z")] 2

def k1m0 : Method := { name := "<init>", desc := "()V", sig := { parameters := [], returnType := none }, accessFlags := 1, code := none }
def k1c1 : Code := { maxStack := 2, maxLocals := 1, code := method_2_code, exceptionTable := #[], attributes := #[] }
def k1m1 : Method := { name := "pick", desc := "(I)Lcom/example/prudent_alter/prudentalter/RowFormat;", sig := { parameters := [.int], returnType := some (.object "com/example/prudent_alter/prudentalter/RowFormat") }, accessFlags := 10, code := some k1c1 }
def k1c2 : Code := { maxStack := 4, maxLocals := 11, code := code, exceptionTable := #[], attributes := #[] }
def k1m2 : Method := { name := "law", desc := "(IIII)Z", sig := { parameters := [.int, .int, .int, .int], returnType := some .boolean }, accessFlags := 9, code := some k1c2 }
/-- com/example/prudent_alter/prudentalter/RowFormatRecordOverheadPinLaw -/
def k1 : Class := { plain "com/example/prudent_alter/prudentalter/RowFormatRecordOverheadPinLaw" (some 0) with
  accessFlags := 49
  interfaces := #[]
  cf := some (fileOf pool1 30 #[] #[{ accessFlags := 1, nameIndex := 5, descriptorIndex := 6, attributes := #[] }, { accessFlags := 10, nameIndex := 33, descriptorIndex := 34, attributes := #[] }, { accessFlags := 9, nameIndex := 43, descriptorIndex := 44, attributes := #[] }] 49 2 #[] #[])
  fields := #[]
  methods := #[k1m0, k1m1, k1m2]
  instanceTypes := #[]
  staticTypes := #[]
  resolved := Array.replicate 47 none
  statics := none }

def pool2 : Array CpInfo := pool [(1, .class_ 2), (0, u "java/lang/constant/Constable"), (0, .class_ 4), (0, u "java/lang/Object")] 6

/-- java/lang/constant/Constable -/
def k2 : Class := { plain "java/lang/constant/Constable" (some 0) with
  accessFlags := 1537
  interfaces := #[]
  cf := some (fileOf pool2 1 #[] #[] 1537 3 #[] #[])
  fields := #[]
  methods := #[]
  instanceTypes := #[]
  staticTypes := #[]
  resolved := Array.replicate 11 none
  statics := none }

def pool3 : Array CpInfo := pool [(1, .class_ 2), (0, u "java/lang/Comparable"), (0, .class_ 4), (0, u "java/lang/Object")] 7

/-- java/lang/Comparable -/
def k3 : Class := { plain "java/lang/Comparable" (some 0) with
  accessFlags := 1537
  interfaces := #[]
  cf := some (fileOf pool3 1 #[] #[] 1537 3 #[] #[])
  fields := #[]
  methods := #[]
  instanceTypes := #[]
  staticTypes := #[]
  resolved := Array.replicate 12 none
  statics := none }

def pool4 : Array CpInfo := pool [(1, .class_ 2), (0, u "java/io/Serializable"), (0, .class_ 4), (0, u "java/lang/Object")] 2

/-- java/io/Serializable -/
def k4 : Class := { plain "java/io/Serializable" (some 0) with
  accessFlags := 1537
  interfaces := #[]
  cf := some (fileOf pool4 1 #[] #[] 1537 3 #[] #[])
  fields := #[]
  methods := #[]
  instanceTypes := #[]
  staticTypes := #[]
  resolved := Array.replicate 7 none
  statics := none }

def pool5 : Array CpInfo := pool [(2, .class_ 4), (1, u "java/lang/Enum"), (0, u "name"), (0, u "Ljava/lang/String;"), (2, u "ordinal"), (0, u "I"), (1, .class_ 14), (1, u "java/lang/Object"), (4, u "hash"), (86, .class_ 108), (1, u "java/lang/Enum$EnumDesc"), (2, .class_ 112), (0, u "java/lang/constant/Constable"), (0, .class_ 114), (0, u "java/lang/Comparable"), (0, .class_ 116), (0, u "java/io/Serializable")] 87

/-- java/lang/Enum -/
def k5 : Class := { plain "java/lang/Enum" (some 0) with
  accessFlags := 1057
  interfaces := #[2, 3, 4]
  cf := some (fileOf pool5 2 #[.nestMembers #[106]] #[] 1057 12 #[111, 113, 115] #[{ accessFlags := 18, nameIndex := 5, descriptorIndex := 6, attributes := #[] }, { accessFlags := 18, nameIndex := 9, descriptorIndex := 10, attributes := #[] }, { accessFlags := 2, nameIndex := 19, descriptorIndex := 10, attributes := #[] }])
  fields := #[{ name := "name", type := (.object "java/lang/String"), accessFlags := 18, slot := 0, constantValue := 0 }, { name := "ordinal", type := .int, accessFlags := 18, slot := 1, constantValue := 0 }, { name := "hash", type := .int, accessFlags := 2, slot := 2, constantValue := 0 }]
  methods := #[]
  instanceTypes := #[(.object "java/lang/String"), .int, .int]
  staticTypes := #[]
  resolved := Array.replicate 204 none
  statics := none }

def pool6 : Array CpInfo := pool [(1, .class_ 2), (0, u "com/example/prudent_alter/prudentalter/RowFormat"), (2, u "DEFAULT"), (0, u "Lcom/example/prudent_alter/prudentalter/RowFormat;"), (2, u "DYNAMIC"), (2, u "FIXED"), (2, u "COMPRESSED"), (2, u "REDUNDANT"), (2, u "COMPACT"), (2, u "$VALUES"), (0, u "[Lcom/example/prudent_alter/prudentalter/RowFormat;"), (6, .class_ 34), (1, u "java/lang/Enum"), (8, u "longestKeyPart"), (0, u "I"), (0, .fieldref 1 46), (0, .nameAndType 47 48), (0, u "compactRecords"), (0, u "Z"), (41, u "COMPACT_HEADER_BYTES"), (2, u "REDUNDANT_HEADER_BYTES"), (1, u "FIELD_OFFSET_BYTES"), (1, u "SYSTEM_FIELD_BYTES"), (1, u "ROW_ID_BYTES"), (0, u "COMPACT_RECORD_BOUND"), (1, u "REDUNDANT_RECORD_BOUND"), (12, u "recordOverhead"), (0, u "(IIZ)I")] 6

def k6c0 : Code := { maxStack := 3, maxLocals := 6, code := prog_108_method_7_code, exceptionTable := #[], attributes := #[] }
def k6m0 : Method := { name := "recordOverhead", desc := "(IIZ)I", sig := { parameters := [.int, .int, .boolean], returnType := some .int }, accessFlags := 0, code := some k6c0 }
/-- com/example/prudent_alter/prudentalter/RowFormat -/
def k6 : Class := { plain "com/example/prudent_alter/prudentalter/RowFormat" (some 5) with
  accessFlags := 16432
  interfaces := #[]
  cf := some (fileOf pool6 1 #[] #[{ accessFlags := 0, nameIndex := 115, descriptorIndex := 116, attributes := #[] }] 16432 32 #[] #[{ accessFlags := 16409, nameIndex := 5, descriptorIndex := 6, attributes := #[] }, { accessFlags := 16409, nameIndex := 9, descriptorIndex := 6, attributes := #[] }, { accessFlags := 16409, nameIndex := 12, descriptorIndex := 6, attributes := #[] }, { accessFlags := 16409, nameIndex := 15, descriptorIndex := 6, attributes := #[] }, { accessFlags := 16409, nameIndex := 18, descriptorIndex := 6, attributes := #[] }, { accessFlags := 16409, nameIndex := 21, descriptorIndex := 6, attributes := #[] }, { accessFlags := 26, nameIndex := 90, descriptorIndex := 44, attributes := #[] }, { accessFlags := 26, nameIndex := 93, descriptorIndex := 44, attributes := #[] }, { accessFlags := 26, nameIndex := 95, descriptorIndex := 44, attributes := #[] }, { accessFlags := 26, nameIndex := 97, descriptorIndex := 44, attributes := #[] }, { accessFlags := 26, nameIndex := 99, descriptorIndex := 44, attributes := #[] }, { accessFlags := 26, nameIndex := 100, descriptorIndex := 44, attributes := #[] }, { accessFlags := 26, nameIndex := 102, descriptorIndex := 44, attributes := #[] }, { accessFlags := 18, nameIndex := 43, descriptorIndex := 44, attributes := #[] }, { accessFlags := 18, nameIndex := 47, descriptorIndex := 48, attributes := #[] }, { accessFlags := 4122, nameIndex := 24, descriptorIndex := 25, attributes := #[] }])
  fields := #[{ name := "DEFAULT", type := (.object "com/example/prudent_alter/prudentalter/RowFormat"), accessFlags := 16409, slot := 0, constantValue := 0 }, { name := "DYNAMIC", type := (.object "com/example/prudent_alter/prudentalter/RowFormat"), accessFlags := 16409, slot := 1, constantValue := 0 }, { name := "FIXED", type := (.object "com/example/prudent_alter/prudentalter/RowFormat"), accessFlags := 16409, slot := 2, constantValue := 0 }, { name := "COMPRESSED", type := (.object "com/example/prudent_alter/prudentalter/RowFormat"), accessFlags := 16409, slot := 3, constantValue := 0 }, { name := "REDUNDANT", type := (.object "com/example/prudent_alter/prudentalter/RowFormat"), accessFlags := 16409, slot := 4, constantValue := 0 }, { name := "COMPACT", type := (.object "com/example/prudent_alter/prudentalter/RowFormat"), accessFlags := 16409, slot := 5, constantValue := 0 }, { name := "COMPACT_HEADER_BYTES", type := .int, accessFlags := 26, slot := 6, constantValue := 0 }, { name := "REDUNDANT_HEADER_BYTES", type := .int, accessFlags := 26, slot := 7, constantValue := 0 }, { name := "FIELD_OFFSET_BYTES", type := .int, accessFlags := 26, slot := 8, constantValue := 0 }, { name := "SYSTEM_FIELD_BYTES", type := .int, accessFlags := 26, slot := 9, constantValue := 0 }, { name := "ROW_ID_BYTES", type := .int, accessFlags := 26, slot := 10, constantValue := 0 }, { name := "COMPACT_RECORD_BOUND", type := .int, accessFlags := 26, slot := 11, constantValue := 0 }, { name := "REDUNDANT_RECORD_BOUND", type := .int, accessFlags := 26, slot := 12, constantValue := 0 }, { name := "longestKeyPart", type := .int, accessFlags := 18, slot := 3, constantValue := 0 }, { name := "compactRecords", type := .boolean, accessFlags := 18, slot := 4, constantValue := 0 }, { name := "$VALUES", type := (.array (.object "com/example/prudent_alter/prudentalter/RowFormat")), accessFlags := 4122, slot := 13, constantValue := 0 }]
  methods := #[k6m0]
  instanceTypes := #[(.object "java/lang/String"), .int, .int, .int, .boolean]
  staticTypes := #[(.object "com/example/prudent_alter/prudentalter/RowFormat"), (.object "com/example/prudent_alter/prudentalter/RowFormat"), (.object "com/example/prudent_alter/prudentalter/RowFormat"), (.object "com/example/prudent_alter/prudentalter/RowFormat"), (.object "com/example/prudent_alter/prudentalter/RowFormat"), (.object "com/example/prudent_alter/prudentalter/RowFormat"), .int, .int, .int, .int, .int, .int, .int, (.array (.object "com/example/prudent_alter/prudentalter/RowFormat"))]
  resolved := Array.replicate 123 none
  statics := some 0 }

def pool7 : Array CpInfo := pool [(1, u "java/lang/Cloneable"), (0, .class_ 1), (0, u "java/lang/Object"), (0, .class_ 3)] 3

/-- java/lang/Cloneable -/
def k7 : Class := { plain "java/lang/Cloneable" (some 0) with
  accessFlags := 1537
  interfaces := #[]
  cf := some (fileOf pool7 2 #[] #[] 1537 4 #[] #[])
  fields := #[]
  methods := #[]
  instanceTypes := #[]
  staticTypes := #[]
  resolved := Array.replicate 8 none
  statics := none }

/-- the primitive byte -/
def k8 : Class := { plain "byte" none with kind := .primitive 'B', accessFlags := 0x411 }
/-- [B -/
def k9 : Class := { plain "[B" (some 0) with kind := .array 8 .byte, interfaces := #[7, 4], accessFlags := 1041 }

/-- the primitive int -/
def k10 : Class := { plain "int" none with kind := .primitive 'I', accessFlags := 0x411 }
/-- [I -/
def k11 : Class := { plain "[I" (some 0) with kind := .array 10 .int, interfaces := #[7, 4], accessFlags := 1041 }

def heap : Heap := #[{ cls := 6, slots := #[.ref 1, .ref 1, .ref 1, .ref 1, .ref 2, .ref 1, .int 0, .int 0, .int 0, .int 0, .int 0, .int 0, .int 0, .null], vm := .statics 6 },
  { cls := 6, slots := #[.null, .int 0, .int 0, .int 0, .int 1], vm := .none },
  { cls := 6, slots := #[.null, .int 0, .int 0, .int 0, .int 0], vm := .none }]
def classes : Array Class := #[k0, k1, k2, k3, k4, k5, k6, k7, k8, k9, k10, k11]
def interned : List (Array UInt16 × Addr) := []
def slotsUsed : Nat := 24
def theMethod : MethodId := ⟨1, 2⟩
def args0 : Array Value := #[.int 5, .int 3, .int 7, .int 1]
def aboutOver (below : List Frame) : State where
  vm := { classes := classes, interned := interned.toArray }
  heap := heap
  slotsUsed := slotsUsed
  threads := #[{ frames := .invoking theMethod args0 :: below }]
def below0 : List Frame := [.native { method := ⟨0, 0⟩, args := #[] }]
def about1 : State := aboutOver below0
def p0 : Program := .bare "" "" ""
def e0 : Env := launch0.env 0 0 0
theorem w_frames : about1.frames = Frame.invoking theMethod args0 :: below0 := rfl
set_option maxRecDepth 65536 in
theorem w_args : argsFit about1.vm theMethod args0 = true := by decide +kernel
set_option maxRecDepth 65536 in
theorem w_heap : heapFits about1 = true := by decide +kernel
set_option maxRecDepth 65536 in
theorem w_runnable : about1.curStatus? = some .runnable := by decide +kernel
set_option maxRecDepth 65536 in
theorem w_alone : about1.alone = true := by decide +kernel
set_option maxRecDepth 65536 in
theorem w_named : about1.methodNamed? x = some theMethod := by decide +kernel
set_option maxRecDepth 65536 in
theorem w_hears : about1.hears theMethod below0 = true := by decide +kernel
set_option maxRecDepth 65536 in
theorem w_ripe : about1.ripe theMethod args0 below0 = true := by decide +kernel
theorem w_running : about1.status = .running := rfl
set_option maxRecDepth 65536 in
theorem w_room : about1.hasRoom e0.platform room_1 = true :=
  launch0.hasRoom_least _ room_1 (by decide +kernel) (by decide +kernel) (by decide +kernel) (by decide +kernel) (by decide +kernel) (by decide +kernel)
theorem allAtoms_all (ts : List Jvm.Cond) (a : Array Jvm.Value) (st : Jvm.State) : (allAtoms ts).before a st = ts.all (fun c => c.before a st) := by
  induction ts with
  | nil => rfl
  | cons c t ih =>
    show (Jvm.Cond.and c (allAtoms t)).before a st = _
    rw [Jvm.Cond.before_and, ih, List.all_cons]
def words1 : List Jvm.Cond := Jvm.Cond.code x code maxLocals ret :: tables_1
/-- a 'code' word, met by the world's own term for the bytes: nothing is compared byte by byte -/
theorem code_word {y : MethodName} {bytes : ByteArray} {mx : Nat} {rt : Option FieldType} {a : Array Value} {s : State} {m : MethodId} {meth : Method} {c : Code} (h1 : s.methodNamed? y = some m) (h2 : s.vm.method? m = some meth) (h3 : meth.code = some c) (h4 : c.code = bytes)
    (h5 : (c.maxLocals == mx && c.exceptionTable.isEmpty && decide (c.maxStack ≤ mostOperands) && decide (meth.sig.returnType = rt) && !meth.locks && decide (parseMethodDescriptor y.desc = some meth.sig)) = true) : (Jvm.Cond.code y bytes mx rt).before a s = true := by
  simp only [Bool.and_eq_true, beq_iff_eq, Bool.not_eq_true', decide_eq_true_eq] at h5
  obtain ⟨⟨⟨⟨⟨g1, g2⟩, g3⟩, g4⟩, g5⟩, g6⟩ := h5
  simp [Cond.before, Cond.holds, Cond.value, h1, h2, h3, h4, g1, g2, g3, g4, g5, g6]
def isCode : Jvm.Cond → Bool
  | .code _ _ _ _ => true
  | _ => false
theorem all_split {L : List Jvm.Cond} {P : Jvm.Cond → Bool} (h1 : L.all (fun c => isCode c || P c) = true) (h2 : ∀ c ∈ L.filter isCode, P c = true) : L.all P = true := by
  refine List.all_eq_true.mpr fun c hc => ?_
  have h := List.all_eq_true.mp h1 c hc
  rcases Bool.eq_false_or_eq_true (isCode c) with hi | hi
  · exact h2 c (List.mem_filter.mpr ⟨hc, hi⟩)
  · simpa [hi] using h
set_option maxRecDepth 65536 in
theorem w_c0 : (Jvm.Cond.code x code maxLocals ret).before args0 about1 = true := code_word (m := ⟨1, 2⟩) (meth := k1m2) (c := k1c2) (by decide +kernel) rfl rfl rfl (by decide +kernel)
set_option maxRecDepth 65536 in
theorem w_c1 : (Jvm.Cond.code ({ cls := "com/example/prudent_alter/prudentalter/RowFormatRecordOverheadPinLaw", name := "pick", desc := "(I)Lcom/example/prudent_alter/prudentalter/RowFormat;" } : Jvm.MethodName) method_2_code (1 : Nat) (Option.some (Jvm.ClassFile.FieldType.object "com/example/prudent_alter/prudentalter/RowFormat"))).before args0 about1 = true := code_word (m := ⟨1, 1⟩) (meth := k1m1) (c := k1c1) (by decide +kernel) rfl rfl rfl (by decide +kernel)
set_option maxRecDepth 65536 in
theorem w_c2 : (Jvm.Cond.code ({ cls := "com/example/prudent_alter/prudentalter/RowFormat", name := "recordOverhead", desc := "(IIZ)I" } : Jvm.MethodName) prog_108_method_7_code (6 : Nat) (Option.some Jvm.ClassFile.FieldType.int)).before args0 about1 = true := code_word (m := ⟨6, 0⟩) (meth := k6m0) (c := k6c0) (by decide +kernel) rfl rfl rfl (by decide +kernel)
def codes1 : List Jvm.Cond := [Jvm.Cond.code x code maxLocals ret, Jvm.Cond.code ({ cls := "com/example/prudent_alter/prudentalter/RowFormatRecordOverheadPinLaw", name := "pick", desc := "(I)Lcom/example/prudent_alter/prudentalter/RowFormat;" } : Jvm.MethodName) method_2_code (1 : Nat) (Option.some (Jvm.ClassFile.FieldType.object "com/example/prudent_alter/prudentalter/RowFormat")), Jvm.Cond.code ({ cls := "com/example/prudent_alter/prudentalter/RowFormat", name := "recordOverhead", desc := "(IIZ)I" } : Jvm.MethodName) prog_108_method_7_code (6 : Nat) (Option.some Jvm.ClassFile.FieldType.int)]
set_option maxRecDepth 65536 in
theorem codes_eq : words1.filter isCode = codes1 := rfl
theorem w_codes : ∀ c ∈ words1.filter isCode, c.before args0 about1 = true := by
  rw [codes_eq]
  intro c hc
  simp only [codes1, List.mem_cons, List.not_mem_nil, or_false] at hc
  rcases hc with rfl | rfl | rfl
  · exact w_c0
  · exact w_c1
  · exact w_c2
set_option maxRecDepth 65536 in
theorem w_t1 : (words1.take 24).all (fun c => isCode c || c.before args0 about1) = true := by decide +kernel
set_option maxRecDepth 65536 in
theorem w_t2 : (words1.drop 24).all (fun c => isCode c || c.before args0 about1) = true := by decide +kernel
theorem w_tables : (allAtoms (Jvm.Cond.code x code maxLocals ret :: tables_1)).before args0 about1 = true := by
  rw [allAtoms_all]
  show words1.all (fun c => c.before args0 about1) = true
  refine all_split ?_ w_codes
  rw [← List.take_append_drop 24 words1, List.all_append, w_t1, w_t2]
  rfl
set_option maxRecDepth 65536 in
theorem w_case : (Jvm.Cond.and given_1 narrow_1).before args0 about1 = true := by decide +kernel
theorem w_applies : (headSpec (Jvm.Cond.code x code maxLocals ret :: tables_1) room_1).applies x e0.platform about1 = true :=
  (Spec.applies_iff w_frames).mpr ⟨w_running, w_runnable, w_alone, w_named, w_hears, w_ripe, w_room, w_tables⟩
theorem atStart : AtStart classFile x code maxLocals ret World_1 tables_1 room_1 Calls_1 rest_1 Pre_1 launch0 p0 e0 about1 theMethod args0 below0 :=
  ⟨lists_1, trivial, launch0.admits_env _ _ _, launch0.least_env, fairChoices_fair.cas, fairChoices_fair.clock, w_frames, w_args, w_heap, w_applies, trivial, trivial, w_case⟩
end start1
theorem witness_1 : WitnessClaimed_1 := ⟨start1.p0, start1.e0, start1.about1, start1.theMethod, start1.args0, start1.below0, start1.atStart⟩
end Jvm.Pilot.@@N@@
