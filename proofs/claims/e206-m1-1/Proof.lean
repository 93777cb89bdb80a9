import JvmDerived
import JvmDerived.Pilot.@@N@@Statement
import JvmDerived.Pilot.@@N@@Code
set_option linter.unusedVariables false
set_option linter.unusedSimpArgs false
namespace Jvm.RoadKit
open Sem ClassFile Op Lib Jvm.Stand Jvm.Free Jvm.LawKit
section New
variable {p : Program} {l : Launch} {e : Env} {R : Room} {s : State} {m : MethodId} {args : Array Value} {below : List Frame} {meth : Method} {c : Code} {T : State} {locs : List Loc} {cells slots : Nat}
theorem retI (X : Stand p l e R s m args below meth c T locs cells slots) (hx : p.tables.exec = Jvm.exec) {pc : Nat} {Ls : Array Slot} {z : Int32} {rest : List Value} (hret : meth.sig.returnType = some .int) (hd : decode c.code pc = .ok (.ireturn, 1)) {fs : List Frame}
    (hl : ∀ (f : JFrame) (acts : List Action), f.method = m → f.locked = none → f.entered = [] → (doReturn e (T.setTop f) acts (some (.int z))).1 = T.setFrames fs) : Steps p.tables e below (T.setTop (mkF m pc Ls (.int z :: rest))) (T.setFrames fs) := by
  have hm' : T.vm.method? m = some meth := X.method'
  have hn : narrow .int (.int z) = .int z := rfl
  show Steps p.tables e below (T.setTop { method := m, pc := pc, locals := Ls, stack := _ :: rest, locked := none }) _
  jvm_step X.here [X.here.top, hx, hd, hm', hret, hn]
  first | (intro acts; rw [hl _ acts rfl rfl rfl]) | rw [hl _ _ rfl rfl rfl]
  exact Steps.refl _
end New
end Jvm.RoadKit
namespace Jvm.Pilot.@@N@@
open Jvm Jvm.ClassFile Sem Op Lib Jvm.Free Jvm.Stand Jvm.LawKit Jvm.RoadKit Bundle Jvm.Pilot.@@N@@.Jvm.D
/-- from (T, g) the run comes to (T', g') -/
abbrev own_Go (p : Program) (e : Env) (below : List Frame) (T : State) (g : JFrame) (T' : State) (g' : JFrame) : Prop := ∀ t, Steps p.tables e below (T'.setTop g') t → Steps p.tables e below (T.setTop g) t
def own_bz (z : Int32) : Int32 := if z = 0 then 0 else 1
theorem own_bz_and (z : Int32) : own_bz z &&& 1 = own_bz z := by unfold own_bz; split <;> decide
section OwnBool
variable {p : Program} {l : Launch} {e : Env} {R : Room} {s : State} {m : MethodId} {args : Array Value} {below : List Frame} {meth : Method} {c : Code} {T : State} {locs : List Loc} {cells slots : Nat}
/-- 'z != 0 ? 1 : 0' as javac lays it: ifeq +7, iconst_1, goto +4, iconst_0 -/
theorem own_bool (X : Stand p l e R s m args below meth c T locs cells slots) (hx : p.tables.exec = Jvm.exec) {pc : Nat} {Ls : Array Slot} {z : Int32} {rest : List Value}
    (d0 : decode c.code pc = .ok (.ifCond .eq 7, 3)) (d1 : decode c.code (pc + 3) = .ok (.iconst 1, 1)) (d2 : decode c.code (pc + 4) = .ok (.goto 4, 3)) (d3 : decode c.code (pc + 7) = .ok (.iconst 0, 1)) :
    own_Go p e below T (mkF m pc Ls (.int z :: rest)) T (mkF m (pc + 8) Ls (.int (own_bz z) :: rest)) := by
  intro t hr
  by_cases h : z = 0
  · have hv : own_bz z = 0 := by simp [own_bz, h]
    rw [hv] at hr
    refine XS.ifYes X.here hx rfl (pc0 := pc) (pc' := pc + 7) rfl d0 rfl ((if0 _ _).trans (teq h).1) (by omega) (by omega) ?_
    exact XS.iconst X.here hx rfl d3 hr
  · have hv : own_bz z = 1 := by simp [own_bz, h]
    rw [hv] at hr
    refine XS.ifNo X.here hx rfl d0 rfl ((if0 _ _).trans (feq h).1) ?_
    refine XS.iconst X.here hx rfl d1 ?_
    exact XS.goto X.here hx rfl (pc0 := pc + 4) (pc' := pc + 8) rfl d2 (by omega) (by omega) hr
end OwnBool
/-! arrays of longs and ints, said by plain lists -/
def own_LJ (Z : State) (h : Heap) (a : Addr) (k : ClassId) (n : Int32) (ks : List Int64) : Prop := Arv Z h a k .long n (ks.map Value.long) (.long 0) ∧ n.toNatClampNeg = ks.length
def own_LI (Z : State) (h : Heap) (a : Addr) (k : ClassId) (n : Int32) (ks : List Int32) : Prop := Arv Z h a k .int n (ks.map Value.int) (.int 0) ∧ n.toNatClampNeg = ks.length
section OwnArr
variable {p : Program} {l : Launch} {e : Env} {R : Room} {s : State} {m : MethodId} {args : Array Value} {below : List Frame} {meth : Method} {c : Code} {T : State} {locs : List Loc} {cells slots : Nat} {Z : State} {h h' : Heap} {a b : Addr} {k : ClassId} {n : Int32} {ks : List Int64} {is : List Int32} {sl : Nat} {v : Value} {ws : List Addr}
theorem own_LJ.lt (F : own_LJ Z h a k n ks) : a < h.size := F.1.lt
theorem own_LJ.ext (F : own_LJ Z h a k n ks) (E : Ext h h') : own_LJ Z h' a k n ks := ⟨F.1.ext E, F.2⟩
theorem own_LJ.other (F : own_LJ Z h a k n ks) (W : Wr h h' b sl v) (q : a ≠ b) : own_LJ Z h' a k n ks := ⟨F.1.other W q, F.2⟩
theorem own_LJ.keep (F : own_LJ Z h a k n ks) (K : Keep h h' ws) (q : a ∉ ws) : own_LJ Z h' a k n ks := ⟨F.1.keep K q, F.2⟩
theorem own_LI.lt (F : own_LI Z h a k n is) : a < h.size := F.1.lt
theorem own_LI.ext (F : own_LI Z h a k n is) (E : Ext h h') : own_LI Z h' a k n is := ⟨F.1.ext E, F.2⟩
theorem own_LI.other (F : own_LI Z h a k n is) (W : Wr h h' b sl v) (q : a ≠ b) : own_LI Z h' a k n is := ⟨F.1.other W q, F.2⟩
theorem own_LI.keep (F : own_LI Z h a k n is) (K : Keep h h' ws) (q : a ∉ ws) : own_LI Z h' a k n is := ⟨F.1.keep K q, F.2⟩
theorem own_getJ (ks : List Int64) (i : Nat) : (ks.map Value.long).getD i (.long 0) = .long (ks.getD i 0) := by
  simp only [List.getD_eq_getElem?_getD, List.getElem?_map]
  cases ks[i]? <;> rfl
theorem own_getI (ks : List Int32) (i : Nat) : (ks.map Value.int).getD i (.int 0) = .int (ks.getD i 0) := by
  simp only [List.getD_eq_getElem?_getD, List.getElem?_map]
  cases ks[i]? <;> rfl
theorem own_ldJ (X : Stand p l e R s m args below meth c T locs cells slots) (hx : p.tables.exec = Jvm.exec) (hZ : Z.Warmed39 s.vm) (eT : T.heap = h) (A : own_LJ Z h a k n ks) {j : Int32} (i : Nat) (hj : ¬ j < 0 ∧ j.toNatClampNeg = i) (hi : i < ks.length) {pc : Nat} {Ls : Array Slot} {rest : List Value} (hd : decode c.code pc = .ok (.laload, 1)) :
    own_Go p e below T (mkF m pc Ls (.int j :: .ref a :: rest)) T (mkF m (pc + 1) Ls (.long (ks.getD i 0) :: rest)) := by
  obtain ⟨⟨cl, Ar, q, S, N, H, G⟩, hn⟩ := A
  have hin : ¬ (j < 0 ∨ cl.slots.size ≤ j.toNatClampNeg) := fun z => z.elim hj.1 fun z => by rw [S, hn, hj.2] at z; omega
  have hat := Has.at H hin (v := .long (ks.getD i 0)) (by rw [hj.2]; exact own_getJ ks i)
  exact fun t kt => X.laload hx (j := j) (v := .long (ks.getD i 0)) (by rw [eT]; exact Ar.1) (State.isArrayOf_alike hZ.alike Ar.2.1) Ar.2.2 hin hat (g := mkF m pc Ls (.int j :: .ref a :: rest)) rfl rfl hd _ kt
theorem own_ldI (X : Stand p l e R s m args below meth c T locs cells slots) (hx : p.tables.exec = Jvm.exec) (hZ : Z.Warmed39 s.vm) (eT : T.heap = h) (A : own_LI Z h a k n is) {j : Int32} (i : Nat) (hj : ¬ j < 0 ∧ j.toNatClampNeg = i) (hi : i < is.length) {pc : Nat} {Ls : Array Slot} {rest : List Value} (hd : decode c.code pc = .ok (.iaload, 1)) :
    own_Go p e below T (mkF m pc Ls (.int j :: .ref a :: rest)) T (mkF m (pc + 1) Ls (.int (is.getD i 0) :: rest)) := by
  obtain ⟨⟨cl, Ar, q, S, N, H, G⟩, hn⟩ := A
  have hin : ¬ (j < 0 ∨ cl.slots.size ≤ j.toNatClampNeg) := fun z => z.elim hj.1 fun z => by rw [S, hn, hj.2] at z; omega
  have hat := Has.at H hin (v := .int (is.getD i 0)) (by rw [hj.2]; exact own_getI is i)
  exact fun t kt => X.iaload hx (j := j) (v := .int (is.getD i 0)) (by rw [eT]; exact Ar.1) (State.isArrayOf_alike hZ.alike Ar.2.1) Ar.2.2 hin hat (g := mkF m pc Ls (.int j :: .ref a :: rest)) rfl rfl hd _ kt
theorem own_stJ (X : Stand p l e R s m args below meth c T locs cells slots) (hx : p.tables.exec = Jvm.exec) (hZ : Z.Warmed39 s.vm) (eT : T.heap = h) (A : own_LJ Z h a k n ks) {j : Int32} {x : Int64} (i : Nat) (hj : ¬ j < 0 ∧ j.toNatClampNeg = i) (hi : i < ks.length) {pc : Nat} {Ls : Array Slot} {rest : List Value} (hd : decode c.code pc = .ok (.lastore, 1)) :
    ∃ T' h', Stand p l e R s m args below meth c T' (locs ++ [⟨a, i⟩]) cells slots ∧ T'.heap = h' ∧ Wr h h' a i (.long x) ∧ own_LJ Z h' a k n (ks.set i x) ∧ own_Go p e below T (mkF m pc Ls (.long x :: .int j :: .ref a :: rest)) T' (mkF m (pc + 1) Ls rest) := by
  obtain ⟨⟨cl, Ar, q, S, N, H, G⟩, hn⟩ := A
  have hin : ¬ (j < 0 ∨ cl.slots.size ≤ j.toNatClampNeg) := fun z => z.elim hj.1 fun z => by rw [S, hn, hj.2] at z; omega
  obtain ⟨T', h', X', e', W, st⟩ := stJ X hx hZ eT Ar (j := j) (x := x) hin (g := mkF m pc Ls (.long x :: .int j :: .ref a :: rest)) rfl rfl hd
  have V := Arv.set Ar q S N H G (v := .long x) rfl W i hj.2 (by simpa using hi)
  rw [hj.2] at X' W
  refine ⟨T', h', X', e', W, ⟨?_, by simpa using hn⟩, st⟩
  rw [List.map_set]; exact V
theorem own_stI (X : Stand p l e R s m args below meth c T locs cells slots) (hx : p.tables.exec = Jvm.exec) (hZ : Z.Warmed39 s.vm) (eT : T.heap = h) (A : own_LI Z h a k n is) {j : Int32} {x : Int32} (i : Nat) (hj : ¬ j < 0 ∧ j.toNatClampNeg = i) (hi : i < is.length) {pc : Nat} {Ls : Array Slot} {rest : List Value} (hd : decode c.code pc = .ok (.iastore, 1)) :
    ∃ T' h', Stand p l e R s m args below meth c T' (locs ++ [⟨a, i⟩]) cells slots ∧ T'.heap = h' ∧ Wr h h' a i (.int x) ∧ own_LI Z h' a k n (is.set i x) ∧ own_Go p e below T (mkF m pc Ls (.int x :: .int j :: .ref a :: rest)) T' (mkF m (pc + 1) Ls rest) := by
  obtain ⟨⟨cl, Ar, q, S, N, H, G⟩, hn⟩ := A
  have hin : ¬ (j < 0 ∨ cl.slots.size ≤ j.toNatClampNeg) := fun z => z.elim hj.1 fun z => by rw [S, hn, hj.2] at z; omega
  obtain ⟨T', h', X', e', W, st⟩ := stI X hx hZ eT Ar (j := j) (x := x) hin (g := mkF m pc Ls (.int x :: .int j :: .ref a :: rest)) rfl rfl hd
  have V := Arv.set Ar q S N H G (v := .int x) rfl W i hj.2 (by simpa using hi)
  rw [hj.2] at X' W
  refine ⟨T', h', X', e', W, ⟨?_, by simpa using hn⟩, st⟩
  rw [List.map_set]; exact V
theorem own_lenJ (X : Stand p l e R s m args below meth c T locs cells slots) (hx : p.tables.exec = Jvm.exec) (hZ : Z.Warmed39 s.vm) (eT : T.heap = h) (A : own_LJ Z h a k n ks) {pc : Nat} {Ls : Array Slot} {rest : List Value} (hd : decode c.code pc = .ok (.arraylength, 1)) :
    own_Go p e below T (mkF m pc Ls (.ref a :: rest)) T (mkF m (pc + 1) Ls (.int n :: rest)) := by
  obtain ⟨⟨cl, Ar, q, S, N, H, G⟩, hn⟩ := A
  intro t kt
  refine X.arraylength hx (by rw [eT]; exact Ar.1) (State.isArrayOf_alike hZ.alike Ar.2.1) (g := mkF m pc Ls (.ref a :: rest)) rfl rfl hd _ ?_
  rw [len_of S N]; exact kt
theorem own_newJ {z : Int32} (A : Arr Z h a (newA k .long z) .long) (q : ¬ z < 0) (N : Nat) (hN : z.toNatClampNeg = N) : own_LJ Z h a k z (List.replicate N 0) := by
  refine ⟨?_, by simpa using hN⟩
  have hpad := (Arv.new A q).pad (pad_rep [] (.long 0) N)
  rw [List.nil_append] at hpad
  rw [List.map_replicate]
  exact hpad
theorem own_newI {z : Int32} (A : Arr Z h a (newA k .int z) .int) (q : ¬ z < 0) (N : Nat) (hN : z.toNatClampNeg = N) : own_LI Z h a k z (List.replicate N 0) := by
  refine ⟨?_, by simpa using hN⟩
  have hpad := (Arv.new A q).pad (pad_rep [] (.int 0) N)
  rw [List.nil_append] at hpad
  rw [List.map_replicate]
  exact hpad
end OwnArr
/-! ## small numbers -/
theorem own_ix : ∀ i, i < 64 → ¬ (Int32.ofNat i) < 0 ∧ (Int32.ofNat i).toNatClampNeg = i := by decide +kernel
theorem own_par : ∀ i, i < 16 → ¬ i = 0 → (Int32.ofNat i - 1) / 2 = Int32.ofNat ((i - 1) / 2) := by decide +kernel
theorem own_dbl : ∀ i, i < 16 → 2 * Int32.ofNat i + 1 = Int32.ofNat (2 * i + 1) := by decide +kernel
theorem own_inc : ∀ i, i < 64 → Int32.ofNat i + 1 = Int32.ofNat (i + 1) := by decide +kernel
theorem own_dec : ∀ i, i < 64 → Int32.ofNat (i + 1) - 1 = Int32.ofNat i := by decide +kernel
theorem own_not16 : ∀ i, i < 16 → ¬ Int32.ofNat i = 16 := by decide +kernel
theorem own_pos : ∀ i, i < 16 → (0 < Int32.ofNat i ↔ ¬ i = 0) := by decide +kernel
theorem own_lts {x y : Nat} (hx : x < 2 ^ 31) (hy : y < 2 ^ 31) : Int32.ofNat x < Int32.ofNat y ↔ x < y := by
  rw [Int32.lt_iff_toInt_lt, Int32.toInt_ofNat_small hx, Int32.toInt_ofNat_small hy]; omega
/-! ## the heap, by plain lists -/
def own_MH (Z : State) (h : Heap) (a ka : Addr) (kc : ClassId) (ia : Addr) (ic : ClassId) (ks : List Int64) (is : List Int32) (z : Int32) : Prop :=
  Exa Z h a "com/example/pincer/pincer/engine/MinHeap" ∧ Fld Z h a "com/example/pincer/pincer/engine/MinHeap" "keys" "[J" (.ref ka) ∧ Fld Z h a "com/example/pincer/pincer/engine/MinHeap" "items" "[I" (.ref ia) ∧ Fld Z h a "com/example/pincer/pincer/engine/MinHeap" "size" "I" (.int z) ∧ own_LJ Z h ka kc 16 ks ∧ own_LI Z h ia ic 16 is ∧ a ≠ ka ∧ a ≠ ia ∧ ka ≠ ia ∧ ks.length = 16 ∧ is.length = 16
def own_upF : Nat → List Int64 → List Int32 → Int64 → Nat → List Int64 × List Int32 × Nat
  | 0, ks, is, _, h => (ks, is, h)
  | f + 1, ks, is, key, h => if h = 0 then (ks, is, h) else if key < ks.getD ((h - 1) / 2) 0 then own_upF f (ks.set h (ks.getD ((h - 1) / 2) 0)) (is.set h (is.getD ((h - 1) / 2) 0)) key ((h - 1) / 2) else (ks, is, h)
def own_ch (ks : List Int64) (n c : Nat) : Nat := if c + 1 < n ∧ ks.getD (c + 1) 0 < ks.getD c 0 then c + 1 else c
def own_dnF : Nat → List Int64 → List Int32 → Int64 → Nat → Nat → List Int64 × List Int32 × Nat
  | 0, ks, is, _, _, h => (ks, is, h)
  | f + 1, ks, is, key, n, h => if 2 * h + 1 < n then (if ks.getD (own_ch ks n (2 * h + 1)) 0 < key then own_dnF f (ks.set h (ks.getD (own_ch ks n (2 * h + 1)) 0)) (is.set h (is.getD (own_ch ks n (2 * h + 1)) 0)) key n (own_ch ks n (2 * h + 1)) else (ks, is, h)) else (ks, is, h)
theorem own_upF_le : ∀ (f : Nat) (ks : List Int64) (is : List Int32) (key : Int64) (h : Nat), (own_upF f ks is key h).2.2 ≤ h
  | 0, _, _, _, _ => Nat.le_refl _
  | f + 1, ks, is, key, h => by
    unfold own_upF
    split
    · exact Nat.le_refl _
    split
    · exact Nat.le_trans (own_upF_le f _ _ _ _) (by omega)
    · exact Nat.le_refl _
theorem own_ch_lt {ks : List Int64} {n c : Nat} (h : c < n) : own_ch ks n c < n ∧ c ≤ own_ch ks n c := by
  unfold own_ch; split <;> omega
theorem own_dnF_lt : ∀ (f : Nat) (ks : List Int64) (is : List Int32) (key : Int64) (n h B : Nat), n ≤ B → h < B → (own_dnF f ks is key n h).2.2 < B
  | 0, _, _, _, _, _, _, _, hh => hh
  | f + 1, ks, is, key, n, h, B, hn, hh => by
    unfold own_dnF
    split
    · rename_i q
      split
      · exact own_dnF_lt f _ _ _ _ _ B hn (Nat.lt_of_lt_of_le (own_ch_lt q).1 hn)
      · exact hh
    · exact hh
def own_push (ks : List Int64) (is : List Int32) (n : Nat) (key : Int64) (item : Int32) : List Int64 × List Int32 := ((own_upF 16 ks is key n).1.set (own_upF 16 ks is key n).2.2 key, (own_upF 16 ks is key n).2.1.set (own_upF 16 ks is key n).2.2 item)
def own_pop (ks : List Int64) (is : List Int32) (n : Nat) : List Int64 × List Int32 := ((own_dnF 16 ks is (ks.getD n 0) n 0).1.set (own_dnF 16 ks is (ks.getD n 0) n 0).2.2 (ks.getD n 0), (own_dnF 16 ks is (ks.getD n 0) n 0).2.1.set (own_dnF 16 ks is (ks.getD n 0) n 0).2.2 (is.getD n 0))
theorem d1_0 : decode prog_99_method_1_code 0 = .ok (.aload_n 0, 1) := by decide +kernel
theorem d1_1 : decode prog_99_method_1_code 1 = .ok (.invokespecial 1, 3) := by decide +kernel
theorem d1_4 : decode prog_99_method_1_code 4 = .ok (.aload_n 0, 1) := by decide +kernel
theorem d1_5 : decode prog_99_method_1_code 5 = .ok (.bipush 16, 2) := by decide +kernel
theorem d1_7 : decode prog_99_method_1_code 7 = .ok (.newarray .long, 2) := by decide +kernel
theorem d1_9 : decode prog_99_method_1_code 9 = .ok (.putfield 7, 3) := by decide +kernel
theorem d1_12 : decode prog_99_method_1_code 12 = .ok (.aload_n 0, 1) := by decide +kernel
theorem d1_13 : decode prog_99_method_1_code 13 = .ok (.bipush 16, 2) := by decide +kernel
theorem d1_15 : decode prog_99_method_1_code 15 = .ok (.newarray .int, 2) := by decide +kernel
theorem d1_17 : decode prog_99_method_1_code 17 = .ok (.putfield 13, 3) := by decide +kernel
theorem d1_20 : decode prog_99_method_1_code 20 = .ok (.return_, 1) := by decide +kernel
theorem pn_1 : plainName "com/example/pincer/pincer/engine/MinHeap" = true := by first | (simp [plainName, overriddenIn]; done) | decide +kernel
theorem ef_rm1 (m : MethodId) (x0 : Addr) : entryFrame m #[(.ref x0)] 1 = mkF m 0 #[.val (.ref x0)] [] := by first | (simp [entryFrame, mkF, argsToLocals, Value.category]; done) | rfl
def Q_rm1 (Z : State) (a : Addr) (h0 : Heap) (n0 : Nat) (v : Option Value) (h : Heap) (L : List Loc) : Prop := v = none ∧ Fr n0 L ∧ Keep h0 h [a] ∧ ∃ (ka : Addr) (kc : ClassId) (ia : Addr) (ic : ClassId), h0.size ≤ ka ∧ h0.size ≤ ia ∧ own_MH Z h a ka kc ia ic (List.replicate 16 0) (List.replicate 16 0) 0
set_option maxRecDepth 65536 in
set_option maxHeartbeats 40000000 in
theorem rm1 (l : Launch) (Z : State) (a0 : Array Value) (hw : ∀ d ∈ tables_1, d.before a0 Z = true) (ws : List Jvm.Cond) (a : Addr)  (h0 : Heap) (n0 : Nat) (Z0 : n0 ≤ h0.size) (F_k : Fld Z h0 a "com/example/pincer/pincer/engine/MinHeap" "keys" "[J" .null) (F_i : Fld Z h0 a "com/example/pincer/pincer/engine/MinHeap" "items" "[I" .null) (F_s : Fld Z h0 a "com/example/pincer/pincer/engine/MinHeap" "size" "I" (.int (0 : Int32))) (E_a : Exa Z h0 a "com/example/pincer/pincer/engine/MinHeap") (g_a : n0 ≤ a) :
    MetFree l (⟨"com/example/pincer/pincer/engine/MinHeap", "<init>", "()V"⟩ : MethodName) (head1 (Jvm.Cond.code (⟨"com/example/pincer/pincer/engine/MinHeap", "<init>", "()V"⟩ : MethodName) prog_99_method_1_code 1 none :: ws) ({ frames := 1, cells := 2, slots := 32, locals := 12 } : Room)) (fun args_ U => args_ = #[(.ref a)] ∧ Z.Warmed39 U.vm ∧ U.heap = h0) (fun _ _ _ _ _ => True) (fun _ U o U' => ∃ v L, o = .returned v ∧ Q_rm1 Z a h0 n0 v U'.heap L ∧ FrameEnd U o U' L (({ frames := 1, cells := 2, slots := 32, locals := 12 } : Room)).cells (({ frames := 1, cells := 2, slots := 32, locals := 12 } : Room)).slots) := by
  refine MetFree.of_bodySF (plainFor_of_name pn_1) hisR ?_
  intro p e s m args below meth c s₁ Bd hml0 hP hK
  obtain ⟨rfl, hZ, hh⟩ := hP
  have hx := Bd.exec
  have hby := Bd.bytes
  have hml : c.maxLocals = 1 := hml0
  have hown : s.vm.findClass "com/example/pincer/pincer/engine/MinHeap" = some m.cls := findClass_of_methodNamed Bd.named
  have hnm := (name_of_methodNamed Bd.named Bd.method).1
  have X0 : Stand p l e ({ frames := 1, cells := 2, slots := 32, locals := 12 } : Room) s m #[(.ref a)] below meth c s₁ [] 0 0 := Stand.of_body Bd
  have e0 : s₁.heap = h0 := by rw [← hh, Bd.state]; rfl
  have N0 := Fr.nil n0
  have g0 : own_Go p e below s₁ (entryFrame m #[(.ref a)] 1) s₁ (mkF m 0 #[.val (.ref a)] []) := fun t k => castTop (ef_rm1 m a) k
  have K0 : Keep h0 h0 [a] := Keep.refl h0 _
  have g1 : own_Go p e below s₁ (entryFrame m #[(.ref a)] 1) s₁ (mkF m 1 #[.val (.ref a)] [(.ref a)]) := fun t kt => g0 t (by
    show Steps p.tables e below (s₁.setTop (mkF m 0 #[.val (.ref a)] [])) _
    refine XS.aloadN X0.here hx rfl (hb hby d1_0) rfl rfl ?_
    exact kt)
  obtain ⟨T2, X2, e2, st2⟩ := initO X0 hx hZ hown (hw _ (List.mem_of_getElem? (i := 7) rfl)) (hw _ (List.mem_of_getElem? (i := 8) rfl)) (hw _ (List.mem_of_getElem? (i := 9) rfl)) e0 (g := (mkF m 1 #[.val (.ref a)] [(.ref a)])) rfl (by rw [hml]; rfl) rfl (hb hby d1_1) (by decide) (W := 0) (by show 2 * 0 + _ ≤ _; exact Nat.le_of_eq rfl) (by decide)
  have g2 : own_Go p e below s₁ (entryFrame m #[(.ref a)] 1) T2 (mkF m 4 #[.val (.ref a)] []) := fun t kt => g1 t (st2 _ kt)
  have g3 : own_Go p e below s₁ (entryFrame m #[(.ref a)] 1) T2 (mkF m 7 #[.val (.ref a)] [(.int (16 : Int32)), (.ref a)]) := fun t kt => g2 t (by
    show Steps p.tables e below (T2.setTop (mkF m 4 #[.val (.ref a)] [])) _
    refine XS.aloadN X2.here hx rfl (hb hby d1_4) rfl rfl ?_
    show Steps p.tables e below (T2.setTop (mkF m 5 #[.val (.ref a)] [(.ref a)])) _
    refine XS.bipush X2.here hx rfl (hb hby d1_5) ?_
    exact kt)
  obtain ⟨T4, h4, k_ka, X4, e4, E4, A4, st4⟩ := newP X2 hx hZ (hw _ (List.mem_of_getElem? (i := 0) rfl)) e2 (g := (mkF m 7 #[.val (.ref a)] [(.int (16 : Int32)), (.ref a)])) rfl (hb hby d1_7) rfl (by decide) (cap := 16) (by decide) (by decide) (by decide) (by decide)
  obtain ⟨ka, q_ka⟩ : ∃ z, z = h0.size := ⟨_, rfl⟩
  rw [← q_ka] at A4 st4
  have ne_a_ka : a ≠ ka := Nat.ne_of_lt (Nat.lt_of_lt_of_le E_a.lt (Nat.le_of_eq q_ka.symm))
  have sz_ka : h0.size ≤ ka := Nat.le_trans K0.1 (Nat.le_of_eq q_ka.symm)
  have g_ka : n0 ≤ ka := Nat.le_trans Z0 sz_ka
  have f5 := E_a.ext E4
  have f6 := F_k.ext E4
  have f7 := F_i.ext E4
  have f8 := F_s.ext E4
  have V4 := own_newJ A4 (by decide) 16 (by decide)
  have K4 : Keep h0 h4 [a] := K0.ext E4
  have g4 : own_Go p e below s₁ (entryFrame m #[(.ref a)] 1) T4 (mkF m 9 #[.val (.ref a)] [(.ref ka), (.ref a)]) := fun t kt => g3 t (st4 _ kt)
  obtain ⟨T9, h9, X9, e9, W9, st9⟩ := putF X4 hx hZ hown (host := "") (Or.inl (hw _ (List.mem_of_getElem? (i := 10) rfl))) Via.refl e4 f6 f5 (Or.inl (hw _ (List.mem_of_getElem? (i := 11) rfl))) (hw _ (List.mem_of_getElem? (i := 2) rfl)) (ty := (.array .long)) (by decide) rfl rfl (g := (mkF m 9 #[.val (.ref a)] [(.ref ka), (.ref a)])) rfl rfl (hb hby d1_9)
  have f10 := f5.wr W9
  have f12 := f7.other W9 (Or.inr (slot_ne (Or.inl (hw _ (List.mem_of_getElem? (i := 14) rfl))) (Or.inl (hw _ (List.mem_of_getElem? (i := 11) rfl))) (by decide) (t := (.array .int)) (t' := (.array .long)) (by decide) (by decide)))
  have f13 := f8.other W9 (Or.inr (slot_ne (Or.inl (hw _ (List.mem_of_getElem? (i := 21) rfl))) (Or.inl (hw _ (List.mem_of_getElem? (i := 11) rfl))) (by decide) (t := .int) (t' := (.array .long)) (by decide) (by decide)))
  have f14 := V4.other W9 (Ne.symm ne_a_ka)
  have f9w := f6.same W9
  have N9 := Fr.snoc X9 N0 g_a
  have K9 : Keep h0 h9 [a] := K4.wr W9 (Or.inl (List.mem_of_getElem? (i := 0) rfl))
  have g9 : own_Go p e below s₁ (entryFrame m #[(.ref a)] 1) T9 (mkF m 12 #[.val (.ref a)] []) := fun t kt => g4 t (st9 _ kt)
  have g15 : own_Go p e below s₁ (entryFrame m #[(.ref a)] 1) T9 (mkF m 15 #[.val (.ref a)] [(.int (16 : Int32)), (.ref a)]) := fun t kt => g9 t (by
    show Steps p.tables e below (T9.setTop (mkF m 12 #[.val (.ref a)] [])) _
    refine XS.aloadN X9.here hx rfl (hb hby d1_12) rfl rfl ?_
    show Steps p.tables e below (T9.setTop (mkF m 13 #[.val (.ref a)] [(.ref a)])) _
    refine XS.bipush X9.here hx rfl (hb hby d1_13) ?_
    exact kt)
  obtain ⟨T16, h16, k_ia, X16, e16, E16, A16, st16⟩ := newP X9 hx hZ (hw _ (List.mem_of_getElem? (i := 12) rfl)) e9 (g := (mkF m 15 #[.val (.ref a)] [(.int (16 : Int32)), (.ref a)])) rfl (hb hby d1_15) rfl (by decide) (cap := 16) (by decide) (by decide) (by decide) (by decide)
  obtain ⟨ia, q_ia⟩ : ∃ z, z = h9.size := ⟨_, rfl⟩
  rw [← q_ia] at A16 st16
  have ne_a_ia : a ≠ ia := Nat.ne_of_lt (Nat.lt_of_lt_of_le f10.lt (Nat.le_of_eq q_ia.symm))
  have ne_ka_ia : ka ≠ ia := Nat.ne_of_lt (Nat.lt_of_lt_of_le f14.lt (Nat.le_of_eq q_ia.symm))
  have sz_ia : h0.size ≤ ia := Nat.le_trans K9.1 (Nat.le_of_eq q_ia.symm)
  have g_ia : n0 ≤ ia := Nat.le_trans Z0 sz_ia
  have f17 := f10.ext E16
  have f18 := f9w.ext E16
  have f19 := f12.ext E16
  have f20 := f13.ext E16
  have f21 := f14.ext E16
  have V16 := own_newI A16 (by decide) 16 (by decide)
  have K16 : Keep h0 h16 [a] := K9.ext E16
  have g16 : own_Go p e below s₁ (entryFrame m #[(.ref a)] 1) T16 (mkF m 17 #[.val (.ref a)] [(.ref ia), (.ref a)]) := fun t kt => g15 t (st16 _ kt)
  obtain ⟨T22, h22, X22, e22, W22, st22⟩ := putF X16 hx hZ hown (host := "") (Or.inl (hw _ (List.mem_of_getElem? (i := 13) rfl))) Via.refl e16 f19 f17 (Or.inl (hw _ (List.mem_of_getElem? (i := 14) rfl))) (hw _ (List.mem_of_getElem? (i := 2) rfl)) (ty := (.array .int)) (by decide) rfl rfl (g := (mkF m 17 #[.val (.ref a)] [(.ref ia), (.ref a)])) rfl rfl (hb hby d1_17)
  have f23 := f17.wr W22
  have f24 := f18.other W22 (Or.inr (slot_ne (Or.inl (hw _ (List.mem_of_getElem? (i := 11) rfl))) (Or.inl (hw _ (List.mem_of_getElem? (i := 14) rfl))) (by decide) (t := (.array .long)) (t' := (.array .int)) (by decide) (by decide)))
  have f26 := f20.other W22 (Or.inr (slot_ne (Or.inl (hw _ (List.mem_of_getElem? (i := 21) rfl))) (Or.inl (hw _ (List.mem_of_getElem? (i := 14) rfl))) (by decide) (t := .int) (t' := (.array .int)) (by decide) (by decide)))
  have f27 := f21.other W22 (Ne.symm ne_a_ka)
  have f28 := V16.other W22 (Ne.symm ne_a_ia)
  have f22w := f19.same W22
  have N22 := Fr.snoc X22 N9 g_a
  have K22 : Keep h0 h22 [a] := K16.wr W22 (Or.inl (List.mem_of_getElem? (i := 0) rfl))
  have g22 : own_Go p e below s₁ (entryFrame m #[(.ref a)] 1) T22 (mkF m 20 #[.val (.ref a)] []) := fun t kt => g16 t (st22 _ kt)
  obtain ⟨fs, hr, hrun, hended, hW, hsame⟩ := X22.leave (v := none) (fun _ => rfl)
  refine ⟨_, _, g22 _ (X22.returnOut hx Bd.returns (hb hby d1_20) hr), hrun, hended, _, _, rfl, ?_, ⟨_, rfl⟩, hW, hsame.mono (by decide) (by decide)⟩
  show Q_rm1 Z a h0 n0 _ T22.heap _
  rw [e22]
  exact ⟨rfl, N22, K22, ka, k_ka, ia, k_ia, sz_ka, sz_ia, f23, f24, f22w, f26, f27, f28, ne_a_ka, ne_a_ia, ne_ka_ia, rfl, rfl⟩
theorem d3_0 : decode prog_99_method_3_code 0 = .ok (.aload_n 0, 1) := by decide +kernel
theorem d3_1 : decode prog_99_method_3_code 1 = .ok (.getfield 17, 3) := by decide +kernel
theorem d3_4 : decode prog_99_method_3_code 4 = .ok (.aload_n 0, 1) := by decide +kernel
theorem d3_5 : decode prog_99_method_3_code 5 = .ok (.getfield 7, 3) := by decide +kernel
theorem d3_8 : decode prog_99_method_3_code 8 = .ok (.arraylength, 1) := by decide +kernel
theorem d3_9 : decode prog_99_method_3_code 9 = .ok (.if_icmp .ne 37, 3) := by decide +kernel
theorem d3_12 : decode prog_99_method_3_code 12 = .ok (.aload_n 0, 1) := by decide +kernel
theorem d3_13 : decode prog_99_method_3_code 13 = .ok (.aload_n 0, 1) := by decide +kernel
theorem d3_14 : decode prog_99_method_3_code 14 = .ok (.getfield 7, 3) := by decide +kernel
theorem d3_17 : decode prog_99_method_3_code 17 = .ok (.iconst 2, 1) := by decide +kernel
theorem d3_18 : decode prog_99_method_3_code 18 = .ok (.aload_n 0, 1) := by decide +kernel
theorem d3_19 : decode prog_99_method_3_code 19 = .ok (.getfield 17, 3) := by decide +kernel
theorem d3_22 : decode prog_99_method_3_code 22 = .ok (.imul, 1) := by decide +kernel
theorem d3_23 : decode prog_99_method_3_code 23 = .ok (.invokestatic 21, 3) := by decide +kernel
theorem d3_26 : decode prog_99_method_3_code 26 = .ok (.putfield 7, 3) := by decide +kernel
theorem d3_29 : decode prog_99_method_3_code 29 = .ok (.aload_n 0, 1) := by decide +kernel
theorem d3_30 : decode prog_99_method_3_code 30 = .ok (.aload_n 0, 1) := by decide +kernel
theorem d3_31 : decode prog_99_method_3_code 31 = .ok (.getfield 13, 3) := by decide +kernel
theorem d3_34 : decode prog_99_method_3_code 34 = .ok (.iconst 2, 1) := by decide +kernel
theorem d3_35 : decode prog_99_method_3_code 35 = .ok (.aload_n 0, 1) := by decide +kernel
theorem d3_36 : decode prog_99_method_3_code 36 = .ok (.getfield 17, 3) := by decide +kernel
theorem d3_39 : decode prog_99_method_3_code 39 = .ok (.imul, 1) := by decide +kernel
theorem d3_40 : decode prog_99_method_3_code 40 = .ok (.invokestatic 27, 3) := by decide +kernel
theorem d3_43 : decode prog_99_method_3_code 43 = .ok (.putfield 13, 3) := by decide +kernel
theorem d3_46 : decode prog_99_method_3_code 46 = .ok (.aload_n 0, 1) := by decide +kernel
theorem d3_47 : decode prog_99_method_3_code 47 = .ok (.dup, 1) := by decide +kernel
theorem d3_48 : decode prog_99_method_3_code 48 = .ok (.getfield 17, 3) := by decide +kernel
theorem d3_51 : decode prog_99_method_3_code 51 = .ok (.dup_x1, 1) := by decide +kernel
theorem d3_52 : decode prog_99_method_3_code 52 = .ok (.iconst 1, 1) := by decide +kernel
theorem d3_53 : decode prog_99_method_3_code 53 = .ok (.iadd, 1) := by decide +kernel
theorem d3_54 : decode prog_99_method_3_code 54 = .ok (.putfield 17, 3) := by decide +kernel
theorem d3_57 : decode prog_99_method_3_code 57 = .ok (.istore 4, 2) := by decide +kernel
theorem d3_59 : decode prog_99_method_3_code 59 = .ok (.iload 4, 2) := by decide +kernel
theorem d3_61 : decode prog_99_method_3_code 61 = .ok (.ifCond .le 66, 3) := by decide +kernel
theorem d3_64 : decode prog_99_method_3_code 64 = .ok (.aload_n 0, 1) := by decide +kernel
theorem d3_65 : decode prog_99_method_3_code 65 = .ok (.getfield 7, 3) := by decide +kernel
theorem d3_68 : decode prog_99_method_3_code 68 = .ok (.iload 4, 2) := by decide +kernel
theorem d3_70 : decode prog_99_method_3_code 70 = .ok (.iconst 1, 1) := by decide +kernel
theorem d3_71 : decode prog_99_method_3_code 71 = .ok (.isub, 1) := by decide +kernel
theorem d3_72 : decode prog_99_method_3_code 72 = .ok (.iconst 2, 1) := by decide +kernel
theorem d3_73 : decode prog_99_method_3_code 73 = .ok (.idiv, 1) := by decide +kernel
theorem d3_74 : decode prog_99_method_3_code 74 = .ok (.laload, 1) := by decide +kernel
theorem d3_75 : decode prog_99_method_3_code 75 = .ok (.lload_n 1, 1) := by decide +kernel
theorem d3_76 : decode prog_99_method_3_code 76 = .ok (.lcmp, 1) := by decide +kernel
theorem d3_77 : decode prog_99_method_3_code 77 = .ok (.ifCond .le 50, 3) := by decide +kernel
theorem d3_80 : decode prog_99_method_3_code 80 = .ok (.aload_n 0, 1) := by decide +kernel
theorem d3_81 : decode prog_99_method_3_code 81 = .ok (.getfield 7, 3) := by decide +kernel
theorem d3_84 : decode prog_99_method_3_code 84 = .ok (.iload 4, 2) := by decide +kernel
theorem d3_86 : decode prog_99_method_3_code 86 = .ok (.aload_n 0, 1) := by decide +kernel
theorem d3_87 : decode prog_99_method_3_code 87 = .ok (.getfield 7, 3) := by decide +kernel
theorem d3_90 : decode prog_99_method_3_code 90 = .ok (.iload 4, 2) := by decide +kernel
theorem d3_92 : decode prog_99_method_3_code 92 = .ok (.iconst 1, 1) := by decide +kernel
theorem d3_93 : decode prog_99_method_3_code 93 = .ok (.isub, 1) := by decide +kernel
theorem d3_94 : decode prog_99_method_3_code 94 = .ok (.iconst 2, 1) := by decide +kernel
theorem d3_95 : decode prog_99_method_3_code 95 = .ok (.idiv, 1) := by decide +kernel
theorem d3_96 : decode prog_99_method_3_code 96 = .ok (.laload, 1) := by decide +kernel
theorem d3_97 : decode prog_99_method_3_code 97 = .ok (.lastore, 1) := by decide +kernel
theorem d3_98 : decode prog_99_method_3_code 98 = .ok (.aload_n 0, 1) := by decide +kernel
theorem d3_99 : decode prog_99_method_3_code 99 = .ok (.getfield 13, 3) := by decide +kernel
theorem d3_102 : decode prog_99_method_3_code 102 = .ok (.iload 4, 2) := by decide +kernel
theorem d3_104 : decode prog_99_method_3_code 104 = .ok (.aload_n 0, 1) := by decide +kernel
theorem d3_105 : decode prog_99_method_3_code 105 = .ok (.getfield 13, 3) := by decide +kernel
theorem d3_108 : decode prog_99_method_3_code 108 = .ok (.iload 4, 2) := by decide +kernel
theorem d3_110 : decode prog_99_method_3_code 110 = .ok (.iconst 1, 1) := by decide +kernel
theorem d3_111 : decode prog_99_method_3_code 111 = .ok (.isub, 1) := by decide +kernel
theorem d3_112 : decode prog_99_method_3_code 112 = .ok (.iconst 2, 1) := by decide +kernel
theorem d3_113 : decode prog_99_method_3_code 113 = .ok (.idiv, 1) := by decide +kernel
theorem d3_114 : decode prog_99_method_3_code 114 = .ok (.iaload, 1) := by decide +kernel
theorem d3_115 : decode prog_99_method_3_code 115 = .ok (.iastore, 1) := by decide +kernel
theorem d3_116 : decode prog_99_method_3_code 116 = .ok (.iload 4, 2) := by decide +kernel
theorem d3_118 : decode prog_99_method_3_code 118 = .ok (.iconst 1, 1) := by decide +kernel
theorem d3_119 : decode prog_99_method_3_code 119 = .ok (.isub, 1) := by decide +kernel
theorem d3_120 : decode prog_99_method_3_code 120 = .ok (.iconst 2, 1) := by decide +kernel
theorem d3_121 : decode prog_99_method_3_code 121 = .ok (.idiv, 1) := by decide +kernel
theorem d3_122 : decode prog_99_method_3_code 122 = .ok (.istore 4, 2) := by decide +kernel
theorem d3_124 : decode prog_99_method_3_code 124 = .ok (.goto (-65), 3) := by decide +kernel
theorem d3_127 : decode prog_99_method_3_code 127 = .ok (.aload_n 0, 1) := by decide +kernel
theorem d3_128 : decode prog_99_method_3_code 128 = .ok (.getfield 7, 3) := by decide +kernel
theorem d3_131 : decode prog_99_method_3_code 131 = .ok (.iload 4, 2) := by decide +kernel
theorem d3_133 : decode prog_99_method_3_code 133 = .ok (.lload_n 1, 1) := by decide +kernel
theorem d3_134 : decode prog_99_method_3_code 134 = .ok (.lastore, 1) := by decide +kernel
theorem d3_135 : decode prog_99_method_3_code 135 = .ok (.aload_n 0, 1) := by decide +kernel
theorem d3_136 : decode prog_99_method_3_code 136 = .ok (.getfield 13, 3) := by decide +kernel
theorem d3_139 : decode prog_99_method_3_code 139 = .ok (.iload 4, 2) := by decide +kernel
theorem d3_141 : decode prog_99_method_3_code 141 = .ok (.iload_n 3, 1) := by decide +kernel
theorem d3_142 : decode prog_99_method_3_code 142 = .ok (.iastore, 1) := by decide +kernel
theorem d3_143 : decode prog_99_method_3_code 143 = .ok (.return_, 1) := by decide +kernel
theorem pn_3 : plainName "com/example/pincer/pincer/engine/MinHeap" = true := by first | (simp [plainName, overriddenIn]; done) | decide +kernel
set_option maxRecDepth 65536 in
set_option maxHeartbeats 40000000 in
theorem own_upL {p : Program} {l : Launch} {e : Env} {R : Room} {s : State} {m : MethodId} {args : Array Value} {below : List Frame} {meth : Method} {c : Code} {cells slots : Nat} {Z : State} {a0 : Array Value} {h0 : Heap} {n0 : Nat} {a ka : Addr} {kc : ClassId} {ia : Addr} {ic : ClassId} (key : Int64) (item : Int32) (n : Nat) (hx : p.tables.exec = Jvm.exec) (hZ : Z.Warmed39 s.vm) (hw : ∀ d ∈ tables_1, d.before a0 Z = true) (hby : c.code = prog_99_method_3_code) (hown : s.vm.findClass "com/example/pincer/pincer/engine/MinHeap" = some m.cls) (g_a : n0 ≤ a) (g_ka : n0 ≤ ka) (g_ia : n0 ≤ ia) (hn : n ≤ 16) :
    ∀ (f : Nat) (h : Nat) (T : State) (locs : List Loc) (H : Heap) (ks : List Int64) (is : List Int32) (X0 : Stand p l e R s m args below meth c T locs cells slots) (e0 : T.heap = H) (M : own_MH Z H a ka kc ia ic ks is (Int32.ofNat n)) (N0 : Fr n0 locs) (K0 : Keep h0 H [a, ka, ia]) (h16 : h < 16) (hf : h ≤ f),
      ∃ (T' : State) (locs' : List Loc) (H' : Heap), Stand p l e R s m args below meth c T' locs' cells slots ∧ T'.heap = H' ∧ own_MH Z H' a ka kc ia ic (own_upF f ks is key h).1 (own_upF f ks is key h).2.1 (Int32.ofNat n) ∧ Fr n0 locs' ∧ Keep h0 H' [a, ka, ia] ∧ own_Go p e below T (mkF m 59 #[.val (.ref a), .val (.long key), .second, .val (.int item), .val (.int (Int32.ofNat h))] []) T' (mkF m 127 #[.val (.ref a), .val (.long key), .second, .val (.int item), .val (.int (Int32.ofNat (own_upF f ks is key h).2.2))] [])
  | 0, h, T, locs, H, ks, is, X0, e0, M, N0, K0, h16, hf => by
    have g0 : own_Go p e below T (mkF m 59 #[.val (.ref a), .val (.long key), .second, .val (.int item), .val (.int (Int32.ofNat h))] []) T (mkF m 59 #[.val (.ref a), .val (.long key), .second, .val (.int item), .val (.int (Int32.ofNat h))] []) := fun t k => k
    have M' := M
    obtain ⟨E_a, F_k, F_i, F_s, V_k, V_i, ne_a_ka, ne_a_ia, ne_ka_ia, len_k, len_i⟩ := M
    have hz : h = 0 := by omega
    have g1 : own_Go p e below T (mkF m 59 #[.val (.ref a), .val (.long key), .second, .val (.int item), .val (.int (Int32.ofNat h))] []) T (mkF m 127 #[.val (.ref a), .val (.long key), .second, .val (.int item), .val (.int (Int32.ofNat h))] []) := fun t kt => g0 t (by
      show Steps p.tables e below (T.setTop (mkF m 59 #[.val (.ref a), .val (.long key), .second, .val (.int item), .val (.int (Int32.ofNat h))] [])) _
      refine XS.iload X0.here hx rfl (hb hby d3_59) rfl ?_
      show Steps p.tables e below (T.setTop (mkF m 61 #[.val (.ref a), .val (.long key), .second, .val (.int item), .val (.int (Int32.ofNat h))] [(.int (Int32.ofNat h))])) _
      refine XS.ifYes X0.here hx rfl (pc0 := 61) (pc' := 127) rfl (hb hby d3_61) rfl ((if0 _ _).trans (flt (fun z => (own_pos h h16).mp z hz)).2.2.2) (by decide) (by decide) ?_
      exact kt)
    exact ⟨T, locs, H, X0, e0, M', N0, K0, g1⟩
  | f + 1, h, T, locs, H, ks, is, X0, e0, M, N0, K0, h16, hf => by
    have g0 : own_Go p e below T (mkF m 59 #[.val (.ref a), .val (.long key), .second, .val (.int item), .val (.int (Int32.ofNat h))] []) T (mkF m 59 #[.val (.ref a), .val (.long key), .second, .val (.int item), .val (.int (Int32.ofNat h))] []) := fun t k => k
    have M' := M
    obtain ⟨E_a, F_k, F_i, F_s, V_k, V_i, ne_a_ka, ne_a_ia, ne_ka_ia, len_k, len_i⟩ := M
    by_cases hz : h = 0
    · have g2 : own_Go p e below T (mkF m 59 #[.val (.ref a), .val (.long key), .second, .val (.int item), .val (.int (Int32.ofNat h))] []) T (mkF m 127 #[.val (.ref a), .val (.long key), .second, .val (.int item), .val (.int (Int32.ofNat h))] []) := fun t kt => g0 t (by
        show Steps p.tables e below (T.setTop (mkF m 59 #[.val (.ref a), .val (.long key), .second, .val (.int item), .val (.int (Int32.ofNat h))] [])) _
        refine XS.iload X0.here hx rfl (hb hby d3_59) rfl ?_
        show Steps p.tables e below (T.setTop (mkF m 61 #[.val (.ref a), .val (.long key), .second, .val (.int item), .val (.int (Int32.ofNat h))] [(.int (Int32.ofNat h))])) _
        refine XS.ifYes X0.here hx rfl (pc0 := 61) (pc' := 127) rfl (hb hby d3_61) rfl ((if0 _ _).trans (flt (fun z => (own_pos h h16).mp z hz)).2.2.2) (by decide) (by decide) ?_
        exact kt)
      rw [show own_upF (f + 1) ks is key h = (ks, is, h) from by simp [own_upF, hz]]
      exact ⟨T, locs, H, X0, e0, M', N0, K0, g2⟩
    · have g3 : own_Go p e below T (mkF m 59 #[.val (.ref a), .val (.long key), .second, .val (.int item), .val (.int (Int32.ofNat h))] []) T (mkF m 65 #[.val (.ref a), .val (.long key), .second, .val (.int item), .val (.int (Int32.ofNat h))] [(.ref a)]) := fun t kt => g0 t (by
        show Steps p.tables e below (T.setTop (mkF m 59 #[.val (.ref a), .val (.long key), .second, .val (.int item), .val (.int (Int32.ofNat h))] [])) _
        refine XS.iload X0.here hx rfl (hb hby d3_59) rfl ?_
        show Steps p.tables e below (T.setTop (mkF m 61 #[.val (.ref a), .val (.long key), .second, .val (.int item), .val (.int (Int32.ofNat h))] [(.int (Int32.ofNat h))])) _
        refine XS.ifNo X0.here hx rfl (hb hby d3_61) rfl ((if0 _ _).trans (tlt ((own_pos h h16).mpr hz)).2.2.2) ?_
        show Steps p.tables e below (T.setTop (mkF m 64 #[.val (.ref a), .val (.long key), .second, .val (.int item), .val (.int (Int32.ofNat h))] [])) _
        refine XS.aloadN X0.here hx rfl (hb hby d3_64) rfl rfl ?_
        exact kt)
      obtain ⟨T4, X4, e4, st4⟩ := getF X0 hx hZ hown (host := "") (Or.inl (hw _ (List.mem_of_getElem? (i := 10) rfl))) Via.refl e0 F_k (g := (mkF m 65 #[.val (.ref a), .val (.long key), .second, .val (.int item), .val (.int (Int32.ofNat h))] [(.ref a)])) rfl rfl (hb hby d3_65)
      have g4 : own_Go p e below T (mkF m 59 #[.val (.ref a), .val (.long key), .second, .val (.int item), .val (.int (Int32.ofNat h))] []) T4 (mkF m 68 #[.val (.ref a), .val (.long key), .second, .val (.int item), .val (.int (Int32.ofNat h))] [(.ref ka)]) := fun t kt => g3 t (st4 _ kt)
      have g5 : own_Go p e below T (mkF m 59 #[.val (.ref a), .val (.long key), .second, .val (.int item), .val (.int (Int32.ofNat h))] []) T4 (mkF m 74 #[.val (.ref a), .val (.long key), .second, .val (.int item), .val (.int (Int32.ofNat h))] [(.int (((Int32.ofNat h) - (1 : Int32)) / (2 : Int32))), (.ref ka)]) := fun t kt => g4 t (by
        show Steps p.tables e below (T4.setTop (mkF m 68 #[.val (.ref a), .val (.long key), .second, .val (.int item), .val (.int (Int32.ofNat h))] [(.ref ka)])) _
        refine XS.iload X4.here hx rfl (hb hby d3_68) rfl ?_
        show Steps p.tables e below (T4.setTop (mkF m 70 #[.val (.ref a), .val (.long key), .second, .val (.int item), .val (.int (Int32.ofNat h))] [(.int (Int32.ofNat h)), (.ref ka)])) _
        refine XS.iconst X4.here hx rfl (hb hby d3_70) ?_
        show Steps p.tables e below (T4.setTop (mkF m 71 #[.val (.ref a), .val (.long key), .second, .val (.int item), .val (.int (Int32.ofNat h))] [(.int (1 : Int32)), (.int (Int32.ofNat h)), (.ref ka)])) _
        refine XS.isub X4.here hx rfl (hb hby d3_71) rfl ?_
        show Steps p.tables e below (T4.setTop (mkF m 72 #[.val (.ref a), .val (.long key), .second, .val (.int item), .val (.int (Int32.ofNat h))] [(.int ((Int32.ofNat h) - (1 : Int32))), (.ref ka)])) _
        refine XS.iconst X4.here hx rfl (hb hby d3_72) ?_
        show Steps p.tables e below (T4.setTop (mkF m 73 #[.val (.ref a), .val (.long key), .second, .val (.int item), .val (.int (Int32.ofNat h))] [(.int (2 : Int32)), (.int ((Int32.ofNat h) - (1 : Int32))), (.ref ka)])) _
        refine XS.idiv X4.here hx rfl (hb hby d3_73) rfl (by decide) ?_
        exact kt)
      have g6 : own_Go p e below T (mkF m 59 #[.val (.ref a), .val (.long key), .second, .val (.int item), .val (.int (Int32.ofNat h))] []) T4 (mkF m 74 #[.val (.ref a), .val (.long key), .second, .val (.int item), .val (.int (Int32.ofNat h))] [(.int (Int32.ofNat ((h - 1) / 2))), (.ref ka)]) := by have hcv := g5; rw [show (((Int32.ofNat h) - (1 : Int32)) / (2 : Int32)) = (Int32.ofNat ((h - 1) / 2)) from own_par h h16 hz] at hcv; exact hcv
      have hp : (h - 1) / 2 < 16 := by omega
      have g7 : own_Go p e below T (mkF m 59 #[.val (.ref a), .val (.long key), .second, .val (.int item), .val (.int (Int32.ofNat h))] []) T4 (mkF m 77 #[.val (.ref a), .val (.long key), .second, .val (.int item), .val (.int (Int32.ofNat h))] [(.int (lcmpW (ks.getD ((h - 1) / 2) 0) key))]) := fun t kt => g6 t (by
        show Steps p.tables e below (T4.setTop (mkF m 74 #[.val (.ref a), .val (.long key), .second, .val (.int item), .val (.int (Int32.ofNat h))] [(.int (Int32.ofNat ((h - 1) / 2))), (.ref ka)])) _
        refine own_ldJ X4 hx hZ e4 V_k ((h - 1) / 2) (own_ix _ (by omega)) (by rw [len_k]; omega) (hb hby d3_74) _ ?_
        show Steps p.tables e below (T4.setTop (mkF m 75 #[.val (.ref a), .val (.long key), .second, .val (.int item), .val (.int (Int32.ofNat h))] [(.long (ks.getD ((h - 1) / 2) 0))])) _
        refine XS.lloadN X4.here hx rfl (hb hby d3_75) rfl ?_
        show Steps p.tables e below (T4.setTop (mkF m 76 #[.val (.ref a), .val (.long key), .second, .val (.int item), .val (.int (Int32.ofNat h))] [(.long key), (.long (ks.getD ((h - 1) / 2) 0))])) _
        refine XS.lcmp X4.here hx rfl (hb hby d3_76) rfl ?_
        exact kt)
      by_cases hk : key < ks.getD ((h - 1) / 2) 0
      · have g8 : own_Go p e below T (mkF m 59 #[.val (.ref a), .val (.long key), .second, .val (.int item), .val (.int (Int32.ofNat h))] []) T4 (mkF m 81 #[.val (.ref a), .val (.long key), .second, .val (.int item), .val (.int (Int32.ofNat h))] [(.ref a)]) := fun t kt => g7 t (by
          show Steps p.tables e below (T4.setTop (mkF m 77 #[.val (.ref a), .val (.long key), .second, .val (.int item), .val (.int (Int32.ofNat h))] [(.int (lcmpW (ks.getD ((h - 1) / 2) 0) key))])) _
          refine XS.ifNo X4.here hx rfl (hb hby d3_77) rfl ((if0 _ _).trans (tlt ((lw_gt _ _).mpr hk)).2.2.2) ?_
          show Steps p.tables e below (T4.setTop (mkF m 80 #[.val (.ref a), .val (.long key), .second, .val (.int item), .val (.int (Int32.ofNat h))] [])) _
          refine XS.aloadN X4.here hx rfl (hb hby d3_80) rfl rfl ?_
          exact kt)
        obtain ⟨T9, X9, e9, st9⟩ := getF X4 hx hZ hown (host := "") (Or.inl (hw _ (List.mem_of_getElem? (i := 10) rfl))) Via.refl e4 F_k (g := (mkF m 81 #[.val (.ref a), .val (.long key), .second, .val (.int item), .val (.int (Int32.ofNat h))] [(.ref a)])) rfl rfl (hb hby d3_81)
        have g9 : own_Go p e below T (mkF m 59 #[.val (.ref a), .val (.long key), .second, .val (.int item), .val (.int (Int32.ofNat h))] []) T9 (mkF m 84 #[.val (.ref a), .val (.long key), .second, .val (.int item), .val (.int (Int32.ofNat h))] [(.ref ka)]) := fun t kt => g8 t (st9 _ kt)
        have g10 : own_Go p e below T (mkF m 59 #[.val (.ref a), .val (.long key), .second, .val (.int item), .val (.int (Int32.ofNat h))] []) T9 (mkF m 87 #[.val (.ref a), .val (.long key), .second, .val (.int item), .val (.int (Int32.ofNat h))] [(.ref a), (.int (Int32.ofNat h)), (.ref ka)]) := fun t kt => g9 t (by
          show Steps p.tables e below (T9.setTop (mkF m 84 #[.val (.ref a), .val (.long key), .second, .val (.int item), .val (.int (Int32.ofNat h))] [(.ref ka)])) _
          refine XS.iload X9.here hx rfl (hb hby d3_84) rfl ?_
          show Steps p.tables e below (T9.setTop (mkF m 86 #[.val (.ref a), .val (.long key), .second, .val (.int item), .val (.int (Int32.ofNat h))] [(.int (Int32.ofNat h)), (.ref ka)])) _
          refine XS.aloadN X9.here hx rfl (hb hby d3_86) rfl rfl ?_
          exact kt)
        obtain ⟨T11, X11, e11, st11⟩ := getF X9 hx hZ hown (host := "") (Or.inl (hw _ (List.mem_of_getElem? (i := 10) rfl))) Via.refl e9 F_k (g := (mkF m 87 #[.val (.ref a), .val (.long key), .second, .val (.int item), .val (.int (Int32.ofNat h))] [(.ref a), (.int (Int32.ofNat h)), (.ref ka)])) rfl rfl (hb hby d3_87)
        have g11 : own_Go p e below T (mkF m 59 #[.val (.ref a), .val (.long key), .second, .val (.int item), .val (.int (Int32.ofNat h))] []) T11 (mkF m 90 #[.val (.ref a), .val (.long key), .second, .val (.int item), .val (.int (Int32.ofNat h))] [(.ref ka), (.int (Int32.ofNat h)), (.ref ka)]) := fun t kt => g10 t (st11 _ kt)
        have g12 : own_Go p e below T (mkF m 59 #[.val (.ref a), .val (.long key), .second, .val (.int item), .val (.int (Int32.ofNat h))] []) T11 (mkF m 96 #[.val (.ref a), .val (.long key), .second, .val (.int item), .val (.int (Int32.ofNat h))] [(.int (((Int32.ofNat h) - (1 : Int32)) / (2 : Int32))), (.ref ka), (.int (Int32.ofNat h)), (.ref ka)]) := fun t kt => g11 t (by
          show Steps p.tables e below (T11.setTop (mkF m 90 #[.val (.ref a), .val (.long key), .second, .val (.int item), .val (.int (Int32.ofNat h))] [(.ref ka), (.int (Int32.ofNat h)), (.ref ka)])) _
          refine XS.iload X11.here hx rfl (hb hby d3_90) rfl ?_
          show Steps p.tables e below (T11.setTop (mkF m 92 #[.val (.ref a), .val (.long key), .second, .val (.int item), .val (.int (Int32.ofNat h))] [(.int (Int32.ofNat h)), (.ref ka), (.int (Int32.ofNat h)), (.ref ka)])) _
          refine XS.iconst X11.here hx rfl (hb hby d3_92) ?_
          show Steps p.tables e below (T11.setTop (mkF m 93 #[.val (.ref a), .val (.long key), .second, .val (.int item), .val (.int (Int32.ofNat h))] [(.int (1 : Int32)), (.int (Int32.ofNat h)), (.ref ka), (.int (Int32.ofNat h)), (.ref ka)])) _
          refine XS.isub X11.here hx rfl (hb hby d3_93) rfl ?_
          show Steps p.tables e below (T11.setTop (mkF m 94 #[.val (.ref a), .val (.long key), .second, .val (.int item), .val (.int (Int32.ofNat h))] [(.int ((Int32.ofNat h) - (1 : Int32))), (.ref ka), (.int (Int32.ofNat h)), (.ref ka)])) _
          refine XS.iconst X11.here hx rfl (hb hby d3_94) ?_
          show Steps p.tables e below (T11.setTop (mkF m 95 #[.val (.ref a), .val (.long key), .second, .val (.int item), .val (.int (Int32.ofNat h))] [(.int (2 : Int32)), (.int ((Int32.ofNat h) - (1 : Int32))), (.ref ka), (.int (Int32.ofNat h)), (.ref ka)])) _
          refine XS.idiv X11.here hx rfl (hb hby d3_95) rfl (by decide) ?_
          exact kt)
        have g13 : own_Go p e below T (mkF m 59 #[.val (.ref a), .val (.long key), .second, .val (.int item), .val (.int (Int32.ofNat h))] []) T11 (mkF m 96 #[.val (.ref a), .val (.long key), .second, .val (.int item), .val (.int (Int32.ofNat h))] [(.int (Int32.ofNat ((h - 1) / 2))), (.ref ka), (.int (Int32.ofNat h)), (.ref ka)]) := by have hcv := g12; rw [show (((Int32.ofNat h) - (1 : Int32)) / (2 : Int32)) = (Int32.ofNat ((h - 1) / 2)) from own_par h h16 hz] at hcv; exact hcv
        have g14 : own_Go p e below T (mkF m 59 #[.val (.ref a), .val (.long key), .second, .val (.int item), .val (.int (Int32.ofNat h))] []) T11 (mkF m 97 #[.val (.ref a), .val (.long key), .second, .val (.int item), .val (.int (Int32.ofNat h))] [(.long (ks.getD ((h - 1) / 2) 0)), (.int (Int32.ofNat h)), (.ref ka)]) := fun t kt => g13 t (by
          show Steps p.tables e below (T11.setTop (mkF m 96 #[.val (.ref a), .val (.long key), .second, .val (.int item), .val (.int (Int32.ofNat h))] [(.int (Int32.ofNat ((h - 1) / 2))), (.ref ka), (.int (Int32.ofNat h)), (.ref ka)])) _
          refine own_ldJ X11 hx hZ e11 V_k ((h - 1) / 2) (own_ix _ (by omega)) (by rw [len_k]; omega) (hb hby d3_96) _ ?_
          exact kt)
        obtain ⟨T15, h15, X15, e15, W15, V15, st15⟩ := own_stJ X11 hx hZ e11 V_k (j := (Int32.ofNat h)) (x := (ks.getD ((h - 1) / 2) 0)) h (own_ix _ (by omega)) (by rw [len_k]; omega) (Ls := #[.val (.ref a), .val (.long key), .second, .val (.int item), .val (.int (Int32.ofNat h))]) (rest := []) (hb hby d3_97)
        have f16 := E_a.wr W15
        have f17 := F_k.other W15 (Or.inl ne_a_ka)
        have f18 := F_i.other W15 (Or.inl ne_a_ka)
        have f19 := F_s.other W15 (Or.inl ne_a_ka)
        have f21 := V_i.other W15 (Ne.symm ne_ka_ia)
        have N15 := Fr.snoc X15 N0 g_ka
        have K15 : Keep h0 h15 [a, ka, ia] := K0.wr W15 (Or.inl (List.mem_of_getElem? (i := 1) rfl))
        have g15 : own_Go p e below T (mkF m 59 #[.val (.ref a), .val (.long key), .second, .val (.int item), .val (.int (Int32.ofNat h))] []) T15 (mkF m 98 #[.val (.ref a), .val (.long key), .second, .val (.int item), .val (.int (Int32.ofNat h))] []) := fun t kt => g14 t (st15 _ kt)
        have g22 : own_Go p e below T (mkF m 59 #[.val (.ref a), .val (.long key), .second, .val (.int item), .val (.int (Int32.ofNat h))] []) T15 (mkF m 99 #[.val (.ref a), .val (.long key), .second, .val (.int item), .val (.int (Int32.ofNat h))] [(.ref a)]) := fun t kt => g15 t (by
          show Steps p.tables e below (T15.setTop (mkF m 98 #[.val (.ref a), .val (.long key), .second, .val (.int item), .val (.int (Int32.ofNat h))] [])) _
          refine XS.aloadN X15.here hx rfl (hb hby d3_98) rfl rfl ?_
          exact kt)
        obtain ⟨T23, X23, e23, st23⟩ := getF X15 hx hZ hown (host := "") (Or.inl (hw _ (List.mem_of_getElem? (i := 13) rfl))) Via.refl e15 f18 (g := (mkF m 99 #[.val (.ref a), .val (.long key), .second, .val (.int item), .val (.int (Int32.ofNat h))] [(.ref a)])) rfl rfl (hb hby d3_99)
        have g23 : own_Go p e below T (mkF m 59 #[.val (.ref a), .val (.long key), .second, .val (.int item), .val (.int (Int32.ofNat h))] []) T23 (mkF m 102 #[.val (.ref a), .val (.long key), .second, .val (.int item), .val (.int (Int32.ofNat h))] [(.ref ia)]) := fun t kt => g22 t (st23 _ kt)
        have g24 : own_Go p e below T (mkF m 59 #[.val (.ref a), .val (.long key), .second, .val (.int item), .val (.int (Int32.ofNat h))] []) T23 (mkF m 105 #[.val (.ref a), .val (.long key), .second, .val (.int item), .val (.int (Int32.ofNat h))] [(.ref a), (.int (Int32.ofNat h)), (.ref ia)]) := fun t kt => g23 t (by
          show Steps p.tables e below (T23.setTop (mkF m 102 #[.val (.ref a), .val (.long key), .second, .val (.int item), .val (.int (Int32.ofNat h))] [(.ref ia)])) _
          refine XS.iload X23.here hx rfl (hb hby d3_102) rfl ?_
          show Steps p.tables e below (T23.setTop (mkF m 104 #[.val (.ref a), .val (.long key), .second, .val (.int item), .val (.int (Int32.ofNat h))] [(.int (Int32.ofNat h)), (.ref ia)])) _
          refine XS.aloadN X23.here hx rfl (hb hby d3_104) rfl rfl ?_
          exact kt)
        obtain ⟨T25, X25, e25, st25⟩ := getF X23 hx hZ hown (host := "") (Or.inl (hw _ (List.mem_of_getElem? (i := 13) rfl))) Via.refl e23 f18 (g := (mkF m 105 #[.val (.ref a), .val (.long key), .second, .val (.int item), .val (.int (Int32.ofNat h))] [(.ref a), (.int (Int32.ofNat h)), (.ref ia)])) rfl rfl (hb hby d3_105)
        have g25 : own_Go p e below T (mkF m 59 #[.val (.ref a), .val (.long key), .second, .val (.int item), .val (.int (Int32.ofNat h))] []) T25 (mkF m 108 #[.val (.ref a), .val (.long key), .second, .val (.int item), .val (.int (Int32.ofNat h))] [(.ref ia), (.int (Int32.ofNat h)), (.ref ia)]) := fun t kt => g24 t (st25 _ kt)
        have g26 : own_Go p e below T (mkF m 59 #[.val (.ref a), .val (.long key), .second, .val (.int item), .val (.int (Int32.ofNat h))] []) T25 (mkF m 114 #[.val (.ref a), .val (.long key), .second, .val (.int item), .val (.int (Int32.ofNat h))] [(.int (((Int32.ofNat h) - (1 : Int32)) / (2 : Int32))), (.ref ia), (.int (Int32.ofNat h)), (.ref ia)]) := fun t kt => g25 t (by
          show Steps p.tables e below (T25.setTop (mkF m 108 #[.val (.ref a), .val (.long key), .second, .val (.int item), .val (.int (Int32.ofNat h))] [(.ref ia), (.int (Int32.ofNat h)), (.ref ia)])) _
          refine XS.iload X25.here hx rfl (hb hby d3_108) rfl ?_
          show Steps p.tables e below (T25.setTop (mkF m 110 #[.val (.ref a), .val (.long key), .second, .val (.int item), .val (.int (Int32.ofNat h))] [(.int (Int32.ofNat h)), (.ref ia), (.int (Int32.ofNat h)), (.ref ia)])) _
          refine XS.iconst X25.here hx rfl (hb hby d3_110) ?_
          show Steps p.tables e below (T25.setTop (mkF m 111 #[.val (.ref a), .val (.long key), .second, .val (.int item), .val (.int (Int32.ofNat h))] [(.int (1 : Int32)), (.int (Int32.ofNat h)), (.ref ia), (.int (Int32.ofNat h)), (.ref ia)])) _
          refine XS.isub X25.here hx rfl (hb hby d3_111) rfl ?_
          show Steps p.tables e below (T25.setTop (mkF m 112 #[.val (.ref a), .val (.long key), .second, .val (.int item), .val (.int (Int32.ofNat h))] [(.int ((Int32.ofNat h) - (1 : Int32))), (.ref ia), (.int (Int32.ofNat h)), (.ref ia)])) _
          refine XS.iconst X25.here hx rfl (hb hby d3_112) ?_
          show Steps p.tables e below (T25.setTop (mkF m 113 #[.val (.ref a), .val (.long key), .second, .val (.int item), .val (.int (Int32.ofNat h))] [(.int (2 : Int32)), (.int ((Int32.ofNat h) - (1 : Int32))), (.ref ia), (.int (Int32.ofNat h)), (.ref ia)])) _
          refine XS.idiv X25.here hx rfl (hb hby d3_113) rfl (by decide) ?_
          exact kt)
        have g27 : own_Go p e below T (mkF m 59 #[.val (.ref a), .val (.long key), .second, .val (.int item), .val (.int (Int32.ofNat h))] []) T25 (mkF m 114 #[.val (.ref a), .val (.long key), .second, .val (.int item), .val (.int (Int32.ofNat h))] [(.int (Int32.ofNat ((h - 1) / 2))), (.ref ia), (.int (Int32.ofNat h)), (.ref ia)]) := by have hcv := g26; rw [show (((Int32.ofNat h) - (1 : Int32)) / (2 : Int32)) = (Int32.ofNat ((h - 1) / 2)) from own_par h h16 hz] at hcv; exact hcv
        have g28 : own_Go p e below T (mkF m 59 #[.val (.ref a), .val (.long key), .second, .val (.int item), .val (.int (Int32.ofNat h))] []) T25 (mkF m 115 #[.val (.ref a), .val (.long key), .second, .val (.int item), .val (.int (Int32.ofNat h))] [(.int (is.getD ((h - 1) / 2) 0)), (.int (Int32.ofNat h)), (.ref ia)]) := fun t kt => g27 t (by
          show Steps p.tables e below (T25.setTop (mkF m 114 #[.val (.ref a), .val (.long key), .second, .val (.int item), .val (.int (Int32.ofNat h))] [(.int (Int32.ofNat ((h - 1) / 2))), (.ref ia), (.int (Int32.ofNat h)), (.ref ia)])) _
          refine own_ldI X25 hx hZ e25 f21 ((h - 1) / 2) (own_ix _ (by omega)) (by rw [len_i]; omega) (hb hby d3_114) _ ?_
          exact kt)
        obtain ⟨T29, h29, X29, e29, W29, V29, st29⟩ := own_stI X25 hx hZ e25 f21 (j := (Int32.ofNat h)) (x := (is.getD ((h - 1) / 2) 0)) h (own_ix _ (by omega)) (by rw [len_i]; omega) (Ls := #[.val (.ref a), .val (.long key), .second, .val (.int item), .val (.int (Int32.ofNat h))]) (rest := []) (hb hby d3_115)
        have f30 := f16.wr W29
        have f31 := f17.other W29 (Or.inl ne_a_ia)
        have f32 := f18.other W29 (Or.inl ne_a_ia)
        have f33 := f19.other W29 (Or.inl ne_a_ia)
        have f34 := V15.other W29 ne_ka_ia
        have N29 := Fr.snoc X29 N15 g_ia
        have K29 : Keep h0 h29 [a, ka, ia] := K15.wr W29 (Or.inl (List.mem_of_getElem? (i := 2) rfl))
        have g29 : own_Go p e below T (mkF m 59 #[.val (.ref a), .val (.long key), .second, .val (.int item), .val (.int (Int32.ofNat h))] []) T29 (mkF m 116 #[.val (.ref a), .val (.long key), .second, .val (.int item), .val (.int (Int32.ofNat h))] []) := fun t kt => g28 t (st29 _ kt)
        have g36 : own_Go p e below T (mkF m 59 #[.val (.ref a), .val (.long key), .second, .val (.int item), .val (.int (Int32.ofNat h))] []) T29 (mkF m 122 #[.val (.ref a), .val (.long key), .second, .val (.int item), .val (.int (Int32.ofNat h))] [(.int (((Int32.ofNat h) - (1 : Int32)) / (2 : Int32)))]) := fun t kt => g29 t (by
          show Steps p.tables e below (T29.setTop (mkF m 116 #[.val (.ref a), .val (.long key), .second, .val (.int item), .val (.int (Int32.ofNat h))] [])) _
          refine XS.iload X29.here hx rfl (hb hby d3_116) rfl ?_
          show Steps p.tables e below (T29.setTop (mkF m 118 #[.val (.ref a), .val (.long key), .second, .val (.int item), .val (.int (Int32.ofNat h))] [(.int (Int32.ofNat h))])) _
          refine XS.iconst X29.here hx rfl (hb hby d3_118) ?_
          show Steps p.tables e below (T29.setTop (mkF m 119 #[.val (.ref a), .val (.long key), .second, .val (.int item), .val (.int (Int32.ofNat h))] [(.int (1 : Int32)), (.int (Int32.ofNat h))])) _
          refine XS.isub X29.here hx rfl (hb hby d3_119) rfl ?_
          show Steps p.tables e below (T29.setTop (mkF m 120 #[.val (.ref a), .val (.long key), .second, .val (.int item), .val (.int (Int32.ofNat h))] [(.int ((Int32.ofNat h) - (1 : Int32)))])) _
          refine XS.iconst X29.here hx rfl (hb hby d3_120) ?_
          show Steps p.tables e below (T29.setTop (mkF m 121 #[.val (.ref a), .val (.long key), .second, .val (.int item), .val (.int (Int32.ofNat h))] [(.int (2 : Int32)), (.int ((Int32.ofNat h) - (1 : Int32)))])) _
          refine XS.idiv X29.here hx rfl (hb hby d3_121) rfl (by decide) ?_
          exact kt)
        have g37 : own_Go p e below T (mkF m 59 #[.val (.ref a), .val (.long key), .second, .val (.int item), .val (.int (Int32.ofNat h))] []) T29 (mkF m 122 #[.val (.ref a), .val (.long key), .second, .val (.int item), .val (.int (Int32.ofNat h))] [(.int (Int32.ofNat ((h - 1) / 2)))]) := by have hcv := g36; rw [show (((Int32.ofNat h) - (1 : Int32)) / (2 : Int32)) = (Int32.ofNat ((h - 1) / 2)) from own_par h h16 hz] at hcv; exact hcv
        have g38 : own_Go p e below T (mkF m 59 #[.val (.ref a), .val (.long key), .second, .val (.int item), .val (.int (Int32.ofNat h))] []) T29 (mkF m 59 #[.val (.ref a), .val (.long key), .second, .val (.int item), .val (.int (Int32.ofNat ((h - 1) / 2)))] []) := fun t kt => g37 t (by
          show Steps p.tables e below (T29.setTop (mkF m 122 #[.val (.ref a), .val (.long key), .second, .val (.int item), .val (.int (Int32.ofNat h))] [(.int (Int32.ofNat ((h - 1) / 2)))])) _
          refine XS.istore X29.here hx rfl (hb hby d3_122) rfl (l' := #[.val (.ref a), .val (.long key), .second, .val (.int item), .val (.int (Int32.ofNat ((h - 1) / 2)))]) rfl ?_
          show Steps p.tables e below (T29.setTop (mkF m 124 #[.val (.ref a), .val (.long key), .second, .val (.int item), .val (.int (Int32.ofNat ((h - 1) / 2)))] [])) _
          refine XS.goto X29.here hx rfl (pc0 := 124) (pc' := 59) rfl (hb hby d3_124) (by decide) (by decide) ?_
          exact kt)
        obtain ⟨T', locs', H', Y, eY, MY, NY, KY, gY⟩ := own_upL key item n hx hZ hw hby hown g_a g_ka g_ia hn f ((h - 1) / 2) _ _ _ (ks.set h (ks.getD ((h - 1) / 2) 0)) (is.set h (is.getD ((h - 1) / 2) 0)) X29 e29 ⟨f30, f31, f32, f33, f34, V29, ne_a_ka, ne_a_ia, ne_ka_ia, (by simpa using len_k), (by simpa using len_i)⟩ N29 K29 (by omega) (by omega)
        rw [show own_upF (f + 1) ks is key h = own_upF f (ks.set h (ks.getD ((h - 1) / 2) 0)) (is.set h (is.getD ((h - 1) / 2) 0)) key ((h - 1) / 2) from by simp only [own_upF, if_neg hz, if_pos hk]]
        exact ⟨T', locs', H', Y, eY, MY, NY, KY, fun t kt => g38 t (gY t kt)⟩
      · have g39 : own_Go p e below T (mkF m 59 #[.val (.ref a), .val (.long key), .second, .val (.int item), .val (.int (Int32.ofNat h))] []) T4 (mkF m 127 #[.val (.ref a), .val (.long key), .second, .val (.int item), .val (.int (Int32.ofNat h))] []) := fun t kt => g7 t (by
          show Steps p.tables e below (T4.setTop (mkF m 77 #[.val (.ref a), .val (.long key), .second, .val (.int item), .val (.int (Int32.ofNat h))] [(.int (lcmpW (ks.getD ((h - 1) / 2) 0) key))])) _
          refine XS.ifYes X4.here hx rfl (pc0 := 77) (pc' := 127) rfl (hb hby d3_77) rfl ((if0 _ _).trans (flt (fun z => hk ((lw_gt _ _).mp z))).2.2.2) (by decide) (by decide) ?_
          exact kt)
        rw [show own_upF (f + 1) ks is key h = (ks, is, h) from by simp only [own_upF, if_neg hz, if_neg hk]]
        exact ⟨T4, locs, H, X4, e4, M', N0, K0, g39⟩
theorem ef_rm3 (m : MethodId) (x0 : Addr) (x1 : Int64) (x2 : Int32) : entryFrame m #[(.ref x0), (.long x1), (.int x2)] 5 = mkF m 0 #[.val (.ref x0), .val (.long x1), .second, .val (.int x2), .unset] [] := by first | (simp [entryFrame, mkF, argsToLocals, Value.category]; done) | rfl
def Q_rm3 (Z : State) (a : Addr) (key : Int64) (item : Int32) (ka : Addr) (kc : ClassId) (ia : Addr) (ic : ClassId) (ks : List Int64) (is : List Int32) (n : Nat) (h0 : Heap) (n0 : Nat) (v : Option Value) (h : Heap) (L : List Loc) : Prop := v = none ∧ Fr n0 L ∧ Keep h0 h [a, ka, ia] ∧ own_MH Z h a ka kc ia ic (own_push ks is n key item).1 (own_push ks is n key item).2 (Int32.ofNat (n + 1))
set_option maxRecDepth 65536 in
set_option maxHeartbeats 40000000 in
theorem rm3 (l : Launch) (Z : State) (a0 : Array Value) (hw : ∀ d ∈ tables_1, d.before a0 Z = true) (ws : List Jvm.Cond) (a : Addr) (key : Int64) (item : Int32) (ka : Addr) (kc : ClassId) (ia : Addr) (ic : ClassId) (ks : List Int64) (is : List Int32) (n : Nat) (h0 : Heap) (n0 : Nat) (Z0 : n0 ≤ h0.size) (M : own_MH Z h0 a ka kc ia ic ks is (Int32.ofNat n)) (hn : n < 16) (g_a : n0 ≤ a) (g_ka : n0 ≤ ka) (g_ia : n0 ≤ ia) :
    MetFree l (⟨"com/example/pincer/pincer/engine/MinHeap", "push", "(JI)V"⟩ : MethodName) (head1 (Jvm.Cond.code (⟨"com/example/pincer/pincer/engine/MinHeap", "push", "(JI)V"⟩ : MethodName) prog_99_method_3_code 5 none :: ws) ({ frames := 0, cells := 0, slots := 0, locals := 0 } : Room)) (fun args_ U => args_ = #[(.ref a), (.long key), (.int item)] ∧ Z.Warmed39 U.vm ∧ U.heap = h0) (fun _ _ _ _ _ => True) (fun _ U o U' => ∃ v L, o = .returned v ∧ Q_rm3 Z a key item ka kc ia ic ks is n h0 n0 v U'.heap L ∧ FrameEnd U o U' L (({ frames := 0, cells := 0, slots := 0, locals := 0 } : Room)).cells (({ frames := 0, cells := 0, slots := 0, locals := 0 } : Room)).slots) := by
  refine MetFree.of_bodySF (plainFor_of_name pn_3) hisR ?_
  intro p e s m args below meth c s₁ Bd hml0 hP hK
  obtain ⟨rfl, hZ, hh⟩ := hP
  have hx := Bd.exec
  have hby := Bd.bytes
  have hml : c.maxLocals = 5 := hml0
  have hown : s.vm.findClass "com/example/pincer/pincer/engine/MinHeap" = some m.cls := findClass_of_methodNamed Bd.named
  have hnm := (name_of_methodNamed Bd.named Bd.method).1
  have X0 : Stand p l e ({ frames := 0, cells := 0, slots := 0, locals := 0 } : Room) s m #[(.ref a), (.long key), (.int item)] below meth c s₁ [] 0 0 := Stand.of_body Bd
  have e0 : s₁.heap = h0 := by rw [← hh, Bd.state]; rfl
  have N0 := Fr.nil n0
  have g0 : own_Go p e below s₁ (entryFrame m #[(.ref a), (.long key), (.int item)] 5) s₁ (mkF m 0 #[.val (.ref a), .val (.long key), .second, .val (.int item), .unset] []) := fun t k => castTop (ef_rm3 m a key item) k
  obtain ⟨E_a, F_k, F_i, F_s, V_k, V_i, ne_a_ka, ne_a_ia, ne_ka_ia, len_k, len_i⟩ := M
  have K0 : Keep h0 h0 [a, ka, ia] := Keep.refl h0 _
  have g1 : own_Go p e below s₁ (entryFrame m #[(.ref a), (.long key), (.int item)] 5) s₁ (mkF m 1 #[.val (.ref a), .val (.long key), .second, .val (.int item), .unset] [(.ref a)]) := fun t kt => g0 t (by
    show Steps p.tables e below (s₁.setTop (mkF m 0 #[.val (.ref a), .val (.long key), .second, .val (.int item), .unset] [])) _
    refine XS.aloadN X0.here hx rfl (hb hby d3_0) rfl rfl ?_
    exact kt)
  obtain ⟨T2, X2, e2, st2⟩ := getF X0 hx hZ hown (host := "") (Or.inl (hw _ (List.mem_of_getElem? (i := 20) rfl))) Via.refl e0 F_s (g := (mkF m 1 #[.val (.ref a), .val (.long key), .second, .val (.int item), .unset] [(.ref a)])) rfl rfl (hb hby d3_1)
  have g2 : own_Go p e below s₁ (entryFrame m #[(.ref a), (.long key), (.int item)] 5) T2 (mkF m 4 #[.val (.ref a), .val (.long key), .second, .val (.int item), .unset] [(.int (Int32.ofNat n))]) := fun t kt => g1 t (st2 _ kt)
  have g3 : own_Go p e below s₁ (entryFrame m #[(.ref a), (.long key), (.int item)] 5) T2 (mkF m 5 #[.val (.ref a), .val (.long key), .second, .val (.int item), .unset] [(.ref a), (.int (Int32.ofNat n))]) := fun t kt => g2 t (by
    show Steps p.tables e below (T2.setTop (mkF m 4 #[.val (.ref a), .val (.long key), .second, .val (.int item), .unset] [(.int (Int32.ofNat n))])) _
    refine XS.aloadN X2.here hx rfl (hb hby d3_4) rfl rfl ?_
    exact kt)
  obtain ⟨T4, X4, e4, st4⟩ := getF X2 hx hZ hown (host := "") (Or.inl (hw _ (List.mem_of_getElem? (i := 10) rfl))) Via.refl e2 F_k (g := (mkF m 5 #[.val (.ref a), .val (.long key), .second, .val (.int item), .unset] [(.ref a), (.int (Int32.ofNat n))])) rfl rfl (hb hby d3_5)
  have g4 : own_Go p e below s₁ (entryFrame m #[(.ref a), (.long key), (.int item)] 5) T4 (mkF m 8 #[.val (.ref a), .val (.long key), .second, .val (.int item), .unset] [(.ref ka), (.int (Int32.ofNat n))]) := fun t kt => g3 t (st4 _ kt)
  have g5 : own_Go p e below s₁ (entryFrame m #[(.ref a), (.long key), (.int item)] 5) T4 (mkF m 48 #[.val (.ref a), .val (.long key), .second, .val (.int item), .unset] [(.ref a), (.ref a)]) := fun t kt => g4 t (by
    show Steps p.tables e below (T4.setTop (mkF m 8 #[.val (.ref a), .val (.long key), .second, .val (.int item), .unset] [(.ref ka), (.int (Int32.ofNat n))])) _
    refine own_lenJ X4 hx hZ e4 V_k (hb hby d3_8) _ ?_
    show Steps p.tables e below (T4.setTop (mkF m 9 #[.val (.ref a), .val (.long key), .second, .val (.int item), .unset] [(.int (16 : Int32)), (.int (Int32.ofNat n))])) _
    refine XS.icmpYes X4.here hx rfl (pc0 := 9) (pc' := 46) rfl (hb hby d3_9) rfl (feq (own_not16 n hn)).2 (by decide) (by decide) ?_
    show Steps p.tables e below (T4.setTop (mkF m 46 #[.val (.ref a), .val (.long key), .second, .val (.int item), .unset] [])) _
    refine XS.aloadN X4.here hx rfl (hb hby d3_46) rfl rfl ?_
    show Steps p.tables e below (T4.setTop (mkF m 47 #[.val (.ref a), .val (.long key), .second, .val (.int item), .unset] [(.ref a)])) _
    refine XS.dup X4.here hx rfl (hb hby d3_47) rfl rfl ?_
    exact kt)
  obtain ⟨T6, X6, e6, st6⟩ := getF X4 hx hZ hown (host := "") (Or.inl (hw _ (List.mem_of_getElem? (i := 20) rfl))) Via.refl e4 F_s (g := (mkF m 48 #[.val (.ref a), .val (.long key), .second, .val (.int item), .unset] [(.ref a), (.ref a)])) rfl rfl (hb hby d3_48)
  have g6 : own_Go p e below s₁ (entryFrame m #[(.ref a), (.long key), (.int item)] 5) T6 (mkF m 51 #[.val (.ref a), .val (.long key), .second, .val (.int item), .unset] [(.int (Int32.ofNat n)), (.ref a)]) := fun t kt => g5 t (st6 _ kt)
  have g7 : own_Go p e below s₁ (entryFrame m #[(.ref a), (.long key), (.int item)] 5) T6 (mkF m 54 #[.val (.ref a), .val (.long key), .second, .val (.int item), .unset] [(.int ((Int32.ofNat n) + (1 : Int32))), (.ref a), (.int (Int32.ofNat n))]) := fun t kt => g6 t (by
    show Steps p.tables e below (T6.setTop (mkF m 51 #[.val (.ref a), .val (.long key), .second, .val (.int item), .unset] [(.int (Int32.ofNat n)), (.ref a)])) _
    refine XS.dupX1 X6.here hx rfl (hb hby d3_51) rfl rfl rfl ?_
    show Steps p.tables e below (T6.setTop (mkF m 52 #[.val (.ref a), .val (.long key), .second, .val (.int item), .unset] [(.int (Int32.ofNat n)), (.ref a), (.int (Int32.ofNat n))])) _
    refine XS.iconst X6.here hx rfl (hb hby d3_52) ?_
    show Steps p.tables e below (T6.setTop (mkF m 53 #[.val (.ref a), .val (.long key), .second, .val (.int item), .unset] [(.int (1 : Int32)), (.int (Int32.ofNat n)), (.ref a), (.int (Int32.ofNat n))])) _
    refine XS.iadd X6.here hx rfl (hb hby d3_53) rfl ?_
    exact kt)
  have g8 : own_Go p e below s₁ (entryFrame m #[(.ref a), (.long key), (.int item)] 5) T6 (mkF m 54 #[.val (.ref a), .val (.long key), .second, .val (.int item), .unset] [(.int (Int32.ofNat (n + 1))), (.ref a), (.int (Int32.ofNat n))]) := by have hcv := g7; rw [show ((Int32.ofNat n) + (1 : Int32)) = (Int32.ofNat (n + 1)) from own_inc n (by omega)] at hcv; exact hcv
  obtain ⟨T9, h9, X9, e9, W9, st9⟩ := putF X6 hx hZ hown (host := "") (Or.inl (hw _ (List.mem_of_getElem? (i := 20) rfl))) Via.refl e6 F_s E_a (Or.inl (hw _ (List.mem_of_getElem? (i := 21) rfl))) (hw _ (List.mem_of_getElem? (i := 2) rfl)) (ty := .int) (by decide) rfl rfl (g := (mkF m 54 #[.val (.ref a), .val (.long key), .second, .val (.int item), .unset] [(.int (Int32.ofNat (n + 1))), (.ref a), (.int (Int32.ofNat n))])) rfl rfl (hb hby d3_54)
  have f10 := E_a.wr W9
  have f11 := F_k.other W9 (Or.inr (slot_ne (Or.inl (hw _ (List.mem_of_getElem? (i := 11) rfl))) (Or.inl (hw _ (List.mem_of_getElem? (i := 21) rfl))) (by decide) (t := (.array .long)) (t' := .int) (by decide) (by decide)))
  have f12 := F_i.other W9 (Or.inr (slot_ne (Or.inl (hw _ (List.mem_of_getElem? (i := 14) rfl))) (Or.inl (hw _ (List.mem_of_getElem? (i := 21) rfl))) (by decide) (t := (.array .int)) (t' := .int) (by decide) (by decide)))
  have f14 := V_k.other W9 (Ne.symm ne_a_ka)
  have f15 := V_i.other W9 (Ne.symm ne_a_ia)
  have f9w := F_s.same W9
  have N9 := Fr.snoc X9 N0 g_a
  have K9 : Keep h0 h9 [a, ka, ia] := K0.wr W9 (Or.inl (List.mem_of_getElem? (i := 0) rfl))
  have g9 : own_Go p e below s₁ (entryFrame m #[(.ref a), (.long key), (.int item)] 5) T9 (mkF m 57 #[.val (.ref a), .val (.long key), .second, .val (.int item), .unset] [(.int (Int32.ofNat n))]) := fun t kt => g8 t (st9 _ kt)
  have g16 : own_Go p e below s₁ (entryFrame m #[(.ref a), (.long key), (.int item)] 5) T9 (mkF m 59 #[.val (.ref a), .val (.long key), .second, .val (.int item), .val (.int (Int32.ofNat n))] []) := fun t kt => g9 t (by
    show Steps p.tables e below (T9.setTop (mkF m 57 #[.val (.ref a), .val (.long key), .second, .val (.int item), .unset] [(.int (Int32.ofNat n))])) _
    refine XS.istore X9.here hx rfl (hb hby d3_57) rfl (l' := #[.val (.ref a), .val (.long key), .second, .val (.int item), .val (.int (Int32.ofNat n))]) rfl ?_
    exact kt)
  obtain ⟨TL, locsL, HL, XL, eL, ML, NL, KL, gL⟩ := own_upL key item (n + 1) hx hZ hw hby hown g_a g_ka g_ia (by omega) 16 n _ _ _ ks is X9 e9 ⟨f10, f11, f12, f9w, f14, f15, ne_a_ka, ne_a_ia, ne_ka_ia, len_k, len_i⟩ N9 K9 hn (by omega)
  have hle := own_upF_le 16 ks is key n
  have hlt : (own_upF 16 ks is key n).2.2 < 16 := by omega
  have gM : own_Go p e below s₁ (entryFrame m #[(.ref a), (.long key), (.int item)] 5) TL (mkF m 127 #[.val (.ref a), .val (.long key), .second, .val (.int item), .val (.int (Int32.ofNat (own_upF 16 ks is key n).2.2))] []) := fun t kt => g16 t (gL t kt)
  obtain ⟨E_b, F_kb, F_ib, F_sb, V_kb, V_ib, -, -, -, len_kb, len_ib⟩ := ML
  have g17 : own_Go p e below s₁ (entryFrame m #[(.ref a), (.long key), (.int item)] 5) TL (mkF m 128 #[.val (.ref a), .val (.long key), .second, .val (.int item), .val (.int (Int32.ofNat (own_upF 16 ks is key n).2.2))] [(.ref a)]) := fun t kt => gM t (by
    show Steps p.tables e below (TL.setTop (mkF m 127 #[.val (.ref a), .val (.long key), .second, .val (.int item), .val (.int (Int32.ofNat (own_upF 16 ks is key n).2.2))] [])) _
    refine XS.aloadN XL.here hx rfl (hb hby d3_127) rfl rfl ?_
    exact kt)
  obtain ⟨T18, X18, e18, st18⟩ := getF XL hx hZ hown (host := "") (Or.inl (hw _ (List.mem_of_getElem? (i := 10) rfl))) Via.refl eL F_kb (g := (mkF m 128 #[.val (.ref a), .val (.long key), .second, .val (.int item), .val (.int (Int32.ofNat (own_upF 16 ks is key n).2.2))] [(.ref a)])) rfl rfl (hb hby d3_128)
  have g18 : own_Go p e below s₁ (entryFrame m #[(.ref a), (.long key), (.int item)] 5) T18 (mkF m 131 #[.val (.ref a), .val (.long key), .second, .val (.int item), .val (.int (Int32.ofNat (own_upF 16 ks is key n).2.2))] [(.ref ka)]) := fun t kt => g17 t (st18 _ kt)
  have g19 : own_Go p e below s₁ (entryFrame m #[(.ref a), (.long key), (.int item)] 5) T18 (mkF m 134 #[.val (.ref a), .val (.long key), .second, .val (.int item), .val (.int (Int32.ofNat (own_upF 16 ks is key n).2.2))] [(.long key), (.int (Int32.ofNat (own_upF 16 ks is key n).2.2)), (.ref ka)]) := fun t kt => g18 t (by
    show Steps p.tables e below (T18.setTop (mkF m 131 #[.val (.ref a), .val (.long key), .second, .val (.int item), .val (.int (Int32.ofNat (own_upF 16 ks is key n).2.2))] [(.ref ka)])) _
    refine XS.iload X18.here hx rfl (hb hby d3_131) rfl ?_
    show Steps p.tables e below (T18.setTop (mkF m 133 #[.val (.ref a), .val (.long key), .second, .val (.int item), .val (.int (Int32.ofNat (own_upF 16 ks is key n).2.2))] [(.int (Int32.ofNat (own_upF 16 ks is key n).2.2)), (.ref ka)])) _
    refine XS.lloadN X18.here hx rfl (hb hby d3_133) rfl ?_
    exact kt)
  obtain ⟨T20, h20, X20, e20, W20, V20, st20⟩ := own_stJ X18 hx hZ e18 V_kb (j := (Int32.ofNat (own_upF 16 ks is key n).2.2)) (x := key) (own_upF 16 ks is key n).2.2 (own_ix _ (by omega)) (by rw [len_kb]; exact hlt) (Ls := #[.val (.ref a), .val (.long key), .second, .val (.int item), .val (.int (Int32.ofNat (own_upF 16 ks is key n).2.2))]) (rest := []) (hb hby d3_134)
  have f21 := E_b.wr W20
  have f22 := F_kb.other W20 (Or.inl ne_a_ka)
  have f23 := F_ib.other W20 (Or.inl ne_a_ka)
  have f24 := F_sb.other W20 (Or.inl ne_a_ka)
  have f26 := V_ib.other W20 (Ne.symm ne_ka_ia)
  have N20 := Fr.snoc X20 NL g_ka
  have K20 : Keep h0 h20 [a, ka, ia] := KL.wr W20 (Or.inl (List.mem_of_getElem? (i := 1) rfl))
  have g20 : own_Go p e below s₁ (entryFrame m #[(.ref a), (.long key), (.int item)] 5) T20 (mkF m 135 #[.val (.ref a), .val (.long key), .second, .val (.int item), .val (.int (Int32.ofNat (own_upF 16 ks is key n).2.2))] []) := fun t kt => g19 t (st20 _ kt)
  have g27 : own_Go p e below s₁ (entryFrame m #[(.ref a), (.long key), (.int item)] 5) T20 (mkF m 136 #[.val (.ref a), .val (.long key), .second, .val (.int item), .val (.int (Int32.ofNat (own_upF 16 ks is key n).2.2))] [(.ref a)]) := fun t kt => g20 t (by
    show Steps p.tables e below (T20.setTop (mkF m 135 #[.val (.ref a), .val (.long key), .second, .val (.int item), .val (.int (Int32.ofNat (own_upF 16 ks is key n).2.2))] [])) _
    refine XS.aloadN X20.here hx rfl (hb hby d3_135) rfl rfl ?_
    exact kt)
  obtain ⟨T28, X28, e28, st28⟩ := getF X20 hx hZ hown (host := "") (Or.inl (hw _ (List.mem_of_getElem? (i := 13) rfl))) Via.refl e20 f23 (g := (mkF m 136 #[.val (.ref a), .val (.long key), .second, .val (.int item), .val (.int (Int32.ofNat (own_upF 16 ks is key n).2.2))] [(.ref a)])) rfl rfl (hb hby d3_136)
  have g28 : own_Go p e below s₁ (entryFrame m #[(.ref a), (.long key), (.int item)] 5) T28 (mkF m 139 #[.val (.ref a), .val (.long key), .second, .val (.int item), .val (.int (Int32.ofNat (own_upF 16 ks is key n).2.2))] [(.ref ia)]) := fun t kt => g27 t (st28 _ kt)
  have g29 : own_Go p e below s₁ (entryFrame m #[(.ref a), (.long key), (.int item)] 5) T28 (mkF m 142 #[.val (.ref a), .val (.long key), .second, .val (.int item), .val (.int (Int32.ofNat (own_upF 16 ks is key n).2.2))] [(.int item), (.int (Int32.ofNat (own_upF 16 ks is key n).2.2)), (.ref ia)]) := fun t kt => g28 t (by
    show Steps p.tables e below (T28.setTop (mkF m 139 #[.val (.ref a), .val (.long key), .second, .val (.int item), .val (.int (Int32.ofNat (own_upF 16 ks is key n).2.2))] [(.ref ia)])) _
    refine XS.iload X28.here hx rfl (hb hby d3_139) rfl ?_
    show Steps p.tables e below (T28.setTop (mkF m 141 #[.val (.ref a), .val (.long key), .second, .val (.int item), .val (.int (Int32.ofNat (own_upF 16 ks is key n).2.2))] [(.int (Int32.ofNat (own_upF 16 ks is key n).2.2)), (.ref ia)])) _
    refine XS.iloadN X28.here hx rfl (hb hby d3_141) rfl ?_
    exact kt)
  obtain ⟨T30, h30, X30, e30, W30, V30, st30⟩ := own_stI X28 hx hZ e28 f26 (j := (Int32.ofNat (own_upF 16 ks is key n).2.2)) (x := item) (own_upF 16 ks is key n).2.2 (own_ix _ (by omega)) (by rw [len_ib]; exact hlt) (Ls := #[.val (.ref a), .val (.long key), .second, .val (.int item), .val (.int (Int32.ofNat (own_upF 16 ks is key n).2.2))]) (rest := []) (hb hby d3_142)
  have f31 := f21.wr W30
  have f32 := f22.other W30 (Or.inl ne_a_ia)
  have f33 := f23.other W30 (Or.inl ne_a_ia)
  have f34 := f24.other W30 (Or.inl ne_a_ia)
  have f35 := V20.other W30 ne_ka_ia
  have N30 := Fr.snoc X30 N20 g_ia
  have K30 : Keep h0 h30 [a, ka, ia] := K20.wr W30 (Or.inl (List.mem_of_getElem? (i := 2) rfl))
  have g30 : own_Go p e below s₁ (entryFrame m #[(.ref a), (.long key), (.int item)] 5) T30 (mkF m 143 #[.val (.ref a), .val (.long key), .second, .val (.int item), .val (.int (Int32.ofNat (own_upF 16 ks is key n).2.2))] []) := fun t kt => g29 t (st30 _ kt)
  obtain ⟨fs, hr, hrun, hended, hW, hsame⟩ := X30.leave (v := none) (fun _ => rfl)
  refine ⟨_, _, g30 _ (X30.returnOut hx Bd.returns (hb hby d3_143) hr), hrun, hended, _, _, rfl, ?_, ⟨_, rfl⟩, hW, hsame.mono (by decide) (by decide)⟩
  show Q_rm3 Z a key item ka kc ia ic ks is n h0 n0 _ T30.heap _
  rw [e30]
  exact ⟨rfl, N30, K30, ⟨f31, f32, f33, f34, f35, V30, ne_a_ka, ne_a_ia, ne_ka_ia, (by simpa [own_push] using len_kb), (by simpa [own_push] using len_ib)⟩⟩
theorem d4_0 : decode prog_99_method_5_code 0 = .ok (.aload_n 0, 1) := by decide +kernel
theorem d4_1 : decode prog_99_method_5_code 1 = .ok (.getfield 13, 3) := by decide +kernel
theorem d4_4 : decode prog_99_method_5_code 4 = .ok (.iconst 0, 1) := by decide +kernel
theorem d4_5 : decode prog_99_method_5_code 5 = .ok (.iaload, 1) := by decide +kernel
theorem d4_6 : decode prog_99_method_5_code 6 = .ok (.istore_n 1, 1) := by decide +kernel
theorem d4_7 : decode prog_99_method_5_code 7 = .ok (.aload_n 0, 1) := by decide +kernel
theorem d4_8 : decode prog_99_method_5_code 8 = .ok (.getfield 7, 3) := by decide +kernel
theorem d4_11 : decode prog_99_method_5_code 11 = .ok (.aload_n 0, 1) := by decide +kernel
theorem d4_12 : decode prog_99_method_5_code 12 = .ok (.dup, 1) := by decide +kernel
theorem d4_13 : decode prog_99_method_5_code 13 = .ok (.getfield 17, 3) := by decide +kernel
theorem d4_16 : decode prog_99_method_5_code 16 = .ok (.iconst 1, 1) := by decide +kernel
theorem d4_17 : decode prog_99_method_5_code 17 = .ok (.isub, 1) := by decide +kernel
theorem d4_18 : decode prog_99_method_5_code 18 = .ok (.dup_x1, 1) := by decide +kernel
theorem d4_19 : decode prog_99_method_5_code 19 = .ok (.putfield 17, 3) := by decide +kernel
theorem d4_22 : decode prog_99_method_5_code 22 = .ok (.laload, 1) := by decide +kernel
theorem d4_23 : decode prog_99_method_5_code 23 = .ok (.lstore_n 2, 1) := by decide +kernel
theorem d4_24 : decode prog_99_method_5_code 24 = .ok (.aload_n 0, 1) := by decide +kernel
theorem d4_25 : decode prog_99_method_5_code 25 = .ok (.getfield 13, 3) := by decide +kernel
theorem d4_28 : decode prog_99_method_5_code 28 = .ok (.aload_n 0, 1) := by decide +kernel
theorem d4_29 : decode prog_99_method_5_code 29 = .ok (.getfield 17, 3) := by decide +kernel
theorem d4_32 : decode prog_99_method_5_code 32 = .ok (.iaload, 1) := by decide +kernel
theorem d4_33 : decode prog_99_method_5_code 33 = .ok (.istore 4, 2) := by decide +kernel
theorem d4_35 : decode prog_99_method_5_code 35 = .ok (.iconst 0, 1) := by decide +kernel
theorem d4_36 : decode prog_99_method_5_code 36 = .ok (.istore 5, 2) := by decide +kernel
theorem d4_38 : decode prog_99_method_5_code 38 = .ok (.iconst 2, 1) := by decide +kernel
theorem d4_39 : decode prog_99_method_5_code 39 = .ok (.iload 5, 2) := by decide +kernel
theorem d4_41 : decode prog_99_method_5_code 41 = .ok (.imul, 1) := by decide +kernel
theorem d4_42 : decode prog_99_method_5_code 42 = .ok (.iconst 1, 1) := by decide +kernel
theorem d4_43 : decode prog_99_method_5_code 43 = .ok (.iadd, 1) := by decide +kernel
theorem d4_44 : decode prog_99_method_5_code 44 = .ok (.aload_n 0, 1) := by decide +kernel
theorem d4_45 : decode prog_99_method_5_code 45 = .ok (.getfield 17, 3) := by decide +kernel
theorem d4_48 : decode prog_99_method_5_code 48 = .ok (.if_icmp .ge 95, 3) := by decide +kernel
theorem d4_51 : decode prog_99_method_5_code 51 = .ok (.iconst 2, 1) := by decide +kernel
theorem d4_52 : decode prog_99_method_5_code 52 = .ok (.iload 5, 2) := by decide +kernel
theorem d4_54 : decode prog_99_method_5_code 54 = .ok (.imul, 1) := by decide +kernel
theorem d4_55 : decode prog_99_method_5_code 55 = .ok (.iconst 1, 1) := by decide +kernel
theorem d4_56 : decode prog_99_method_5_code 56 = .ok (.iadd, 1) := by decide +kernel
theorem d4_57 : decode prog_99_method_5_code 57 = .ok (.istore 6, 2) := by decide +kernel
theorem d4_59 : decode prog_99_method_5_code 59 = .ok (.iload 6, 2) := by decide +kernel
theorem d4_61 : decode prog_99_method_5_code 61 = .ok (.iconst 1, 1) := by decide +kernel
theorem d4_62 : decode prog_99_method_5_code 62 = .ok (.iadd, 1) := by decide +kernel
theorem d4_63 : decode prog_99_method_5_code 63 = .ok (.aload_n 0, 1) := by decide +kernel
theorem d4_64 : decode prog_99_method_5_code 64 = .ok (.getfield 17, 3) := by decide +kernel
theorem d4_67 : decode prog_99_method_5_code 67 = .ok (.if_icmp .ge 26, 3) := by decide +kernel
theorem d4_70 : decode prog_99_method_5_code 70 = .ok (.aload_n 0, 1) := by decide +kernel
theorem d4_71 : decode prog_99_method_5_code 71 = .ok (.getfield 7, 3) := by decide +kernel
theorem d4_74 : decode prog_99_method_5_code 74 = .ok (.iload 6, 2) := by decide +kernel
theorem d4_76 : decode prog_99_method_5_code 76 = .ok (.iconst 1, 1) := by decide +kernel
theorem d4_77 : decode prog_99_method_5_code 77 = .ok (.iadd, 1) := by decide +kernel
theorem d4_78 : decode prog_99_method_5_code 78 = .ok (.laload, 1) := by decide +kernel
theorem d4_79 : decode prog_99_method_5_code 79 = .ok (.aload_n 0, 1) := by decide +kernel
theorem d4_80 : decode prog_99_method_5_code 80 = .ok (.getfield 7, 3) := by decide +kernel
theorem d4_83 : decode prog_99_method_5_code 83 = .ok (.iload 6, 2) := by decide +kernel
theorem d4_85 : decode prog_99_method_5_code 85 = .ok (.laload, 1) := by decide +kernel
theorem d4_86 : decode prog_99_method_5_code 86 = .ok (.lcmp, 1) := by decide +kernel
theorem d4_87 : decode prog_99_method_5_code 87 = .ok (.ifCond .ge 6, 3) := by decide +kernel
theorem d4_90 : decode prog_99_method_5_code 90 = .ok (.iinc 6 1, 3) := by decide +kernel
theorem d4_93 : decode prog_99_method_5_code 93 = .ok (.aload_n 0, 1) := by decide +kernel
theorem d4_94 : decode prog_99_method_5_code 94 = .ok (.getfield 7, 3) := by decide +kernel
theorem d4_97 : decode prog_99_method_5_code 97 = .ok (.iload 6, 2) := by decide +kernel
theorem d4_99 : decode prog_99_method_5_code 99 = .ok (.laload, 1) := by decide +kernel
theorem d4_100 : decode prog_99_method_5_code 100 = .ok (.lload_n 2, 1) := by decide +kernel
theorem d4_101 : decode prog_99_method_5_code 101 = .ok (.lcmp, 1) := by decide +kernel
theorem d4_102 : decode prog_99_method_5_code 102 = .ok (.ifCond .lt 6, 3) := by decide +kernel
theorem d4_105 : decode prog_99_method_5_code 105 = .ok (.goto 38, 3) := by decide +kernel
theorem d4_108 : decode prog_99_method_5_code 108 = .ok (.aload_n 0, 1) := by decide +kernel
theorem d4_109 : decode prog_99_method_5_code 109 = .ok (.getfield 7, 3) := by decide +kernel
theorem d4_112 : decode prog_99_method_5_code 112 = .ok (.iload 5, 2) := by decide +kernel
theorem d4_114 : decode prog_99_method_5_code 114 = .ok (.aload_n 0, 1) := by decide +kernel
theorem d4_115 : decode prog_99_method_5_code 115 = .ok (.getfield 7, 3) := by decide +kernel
theorem d4_118 : decode prog_99_method_5_code 118 = .ok (.iload 6, 2) := by decide +kernel
theorem d4_120 : decode prog_99_method_5_code 120 = .ok (.laload, 1) := by decide +kernel
theorem d4_121 : decode prog_99_method_5_code 121 = .ok (.lastore, 1) := by decide +kernel
theorem d4_122 : decode prog_99_method_5_code 122 = .ok (.aload_n 0, 1) := by decide +kernel
theorem d4_123 : decode prog_99_method_5_code 123 = .ok (.getfield 13, 3) := by decide +kernel
theorem d4_126 : decode prog_99_method_5_code 126 = .ok (.iload 5, 2) := by decide +kernel
theorem d4_128 : decode prog_99_method_5_code 128 = .ok (.aload_n 0, 1) := by decide +kernel
theorem d4_129 : decode prog_99_method_5_code 129 = .ok (.getfield 13, 3) := by decide +kernel
theorem d4_132 : decode prog_99_method_5_code 132 = .ok (.iload 6, 2) := by decide +kernel
theorem d4_134 : decode prog_99_method_5_code 134 = .ok (.iaload, 1) := by decide +kernel
theorem d4_135 : decode prog_99_method_5_code 135 = .ok (.iastore, 1) := by decide +kernel
theorem d4_136 : decode prog_99_method_5_code 136 = .ok (.iload 6, 2) := by decide +kernel
theorem d4_138 : decode prog_99_method_5_code 138 = .ok (.istore 5, 2) := by decide +kernel
theorem d4_140 : decode prog_99_method_5_code 140 = .ok (.goto (-102), 3) := by decide +kernel
theorem d4_143 : decode prog_99_method_5_code 143 = .ok (.aload_n 0, 1) := by decide +kernel
theorem d4_144 : decode prog_99_method_5_code 144 = .ok (.getfield 7, 3) := by decide +kernel
theorem d4_147 : decode prog_99_method_5_code 147 = .ok (.iload 5, 2) := by decide +kernel
theorem d4_149 : decode prog_99_method_5_code 149 = .ok (.lload_n 2, 1) := by decide +kernel
theorem d4_150 : decode prog_99_method_5_code 150 = .ok (.lastore, 1) := by decide +kernel
theorem d4_151 : decode prog_99_method_5_code 151 = .ok (.aload_n 0, 1) := by decide +kernel
theorem d4_152 : decode prog_99_method_5_code 152 = .ok (.getfield 13, 3) := by decide +kernel
theorem d4_155 : decode prog_99_method_5_code 155 = .ok (.iload 5, 2) := by decide +kernel
theorem d4_157 : decode prog_99_method_5_code 157 = .ok (.iload 4, 2) := by decide +kernel
theorem d4_159 : decode prog_99_method_5_code 159 = .ok (.iastore, 1) := by decide +kernel
theorem d4_160 : decode prog_99_method_5_code 160 = .ok (.iload_n 1, 1) := by decide +kernel
theorem d4_161 : decode prog_99_method_5_code 161 = .ok (.ireturn, 1) := by decide +kernel
theorem pn_4 : plainName "com/example/pincer/pincer/engine/MinHeap" = true := by first | (simp [plainName, overriddenIn]; done) | decide +kernel
theorem own_os6 {a : Addr} {r item hh v : Int32} {key : Int64} {s6 : Slot} (h : One s6) : storeLocals #[.val (.ref a), .val (.int r), .val (.long key), .second, .val (.int item), .val (.int hh), s6] 6 (.int v) = some #[.val (.ref a), .val (.int r), .val (.long key), .second, .val (.int item), .val (.int hh), .val (.int v)] := by
  rcases h with rfl | ⟨w, rfl, hw⟩
  · rfl
  · cases w <;> first | rfl | (simp [Value.category] at hw)
set_option maxRecDepth 65536 in
set_option maxHeartbeats 40000000 in
theorem own_dnL {p : Program} {l : Launch} {e : Env} {R : Room} {s : State} {m : MethodId} {args : Array Value} {below : List Frame} {meth : Method} {c : Code} {cells slots : Nat} {Z : State} {a0 : Array Value} {h0 : Heap} {n0 : Nat} {a ka : Addr} {kc : ClassId} {ia : Addr} {ic : ClassId} (key : Int64) (item : Int32) (n : Nat) (r : Int32) (hx : p.tables.exec = Jvm.exec) (hZ : Z.Warmed39 s.vm) (hw : ∀ d ∈ tables_1, d.before a0 Z = true) (hby : c.code = prog_99_method_5_code) (hown : s.vm.findClass "com/example/pincer/pincer/engine/MinHeap" = some m.cls) (g_a : n0 ≤ a) (g_ka : n0 ≤ ka) (g_ia : n0 ≤ ia) (hn : n ≤ 16) :
    ∀ (f : Nat) (h : Nat) (T : State) (locs : List Loc) (H : Heap) (ks : List Int64) (is : List Int32) (s6 : Slot) (o6 : One s6) (X0 : Stand p l e R s m args below meth c T locs cells slots) (e0 : T.heap = H) (M : own_MH Z H a ka kc ia ic ks is (Int32.ofNat n)) (N0 : Fr n0 locs) (K0 : Keep h0 H [a, ka, ia]) (h16 : h < 16) (hf : n ≤ h + f),
      ∃ (T' : State) (locs' : List Loc) (H' : Heap) (s6' : Slot), Stand p l e R s m args below meth c T' locs' cells slots ∧ T'.heap = H' ∧ own_MH Z H' a ka kc ia ic (own_dnF f ks is key n h).1 (own_dnF f ks is key n h).2.1 (Int32.ofNat n) ∧ Fr n0 locs' ∧ Keep h0 H' [a, ka, ia] ∧ own_Go p e below T (mkF m 38 #[.val (.ref a), .val (.int r), .val (.long key), .second, .val (.int item), .val (.int (Int32.ofNat h)), s6] []) T' (mkF m 143 #[.val (.ref a), .val (.int r), .val (.long key), .second, .val (.int item), .val (.int (Int32.ofNat (own_dnF f ks is key n h).2.2)), s6'] [])
  | 0, h, T, locs, H, ks, is, s6, o6, X0, e0, M, N0, K0, h16, hf => by
    have g0 : own_Go p e below T (mkF m 38 #[.val (.ref a), .val (.int r), .val (.long key), .second, .val (.int item), .val (.int (Int32.ofNat h)), s6] []) T (mkF m 38 #[.val (.ref a), .val (.int r), .val (.long key), .second, .val (.int item), .val (.int (Int32.ofNat h)), s6] []) := fun t k => k
    have M' := M
    obtain ⟨E_a, F_k, F_i, F_s, V_k, V_i, ne_a_ka, ne_a_ia, ne_ka_ia, len_k, len_i⟩ := M
    have hz : ¬ (2 * h + 1 < n) := by omega
    have g1 : own_Go p e below T (mkF m 38 #[.val (.ref a), .val (.int r), .val (.long key), .second, .val (.int item), .val (.int (Int32.ofNat h)), s6] []) T (mkF m 44 #[.val (.ref a), .val (.int r), .val (.long key), .second, .val (.int item), .val (.int (Int32.ofNat h)), s6] [(.int (((2 : Int32) * (Int32.ofNat h)) + (1 : Int32)))]) := fun t kt => g0 t (by
      show Steps p.tables e below (T.setTop (mkF m 38 #[.val (.ref a), .val (.int r), .val (.long key), .second, .val (.int item), .val (.int (Int32.ofNat h)), s6] [])) _
      refine XS.iconst X0.here hx rfl (hb hby d4_38) ?_
      show Steps p.tables e below (T.setTop (mkF m 39 #[.val (.ref a), .val (.int r), .val (.long key), .second, .val (.int item), .val (.int (Int32.ofNat h)), s6] [(.int (2 : Int32))])) _
      refine XS.iload X0.here hx rfl (hb hby d4_39) rfl ?_
      show Steps p.tables e below (T.setTop (mkF m 41 #[.val (.ref a), .val (.int r), .val (.long key), .second, .val (.int item), .val (.int (Int32.ofNat h)), s6] [(.int (Int32.ofNat h)), (.int (2 : Int32))])) _
      refine XS.imul X0.here hx rfl (hb hby d4_41) rfl ?_
      show Steps p.tables e below (T.setTop (mkF m 42 #[.val (.ref a), .val (.int r), .val (.long key), .second, .val (.int item), .val (.int (Int32.ofNat h)), s6] [(.int ((2 : Int32) * (Int32.ofNat h)))])) _
      refine XS.iconst X0.here hx rfl (hb hby d4_42) ?_
      show Steps p.tables e below (T.setTop (mkF m 43 #[.val (.ref a), .val (.int r), .val (.long key), .second, .val (.int item), .val (.int (Int32.ofNat h)), s6] [(.int (1 : Int32)), (.int ((2 : Int32) * (Int32.ofNat h)))])) _
      refine XS.iadd X0.here hx rfl (hb hby d4_43) rfl ?_
      exact kt)
    have g2 : own_Go p e below T (mkF m 38 #[.val (.ref a), .val (.int r), .val (.long key), .second, .val (.int item), .val (.int (Int32.ofNat h)), s6] []) T (mkF m 44 #[.val (.ref a), .val (.int r), .val (.long key), .second, .val (.int item), .val (.int (Int32.ofNat h)), s6] [(.int (Int32.ofNat (2 * h + 1)))]) := by have hcv := g1; rw [show (((2 : Int32) * (Int32.ofNat h)) + (1 : Int32)) = (Int32.ofNat (2 * h + 1)) from own_dbl h h16] at hcv; exact hcv
    have g3 : own_Go p e below T (mkF m 38 #[.val (.ref a), .val (.int r), .val (.long key), .second, .val (.int item), .val (.int (Int32.ofNat h)), s6] []) T (mkF m 45 #[.val (.ref a), .val (.int r), .val (.long key), .second, .val (.int item), .val (.int (Int32.ofNat h)), s6] [(.ref a), (.int (Int32.ofNat (2 * h + 1)))]) := fun t kt => g2 t (by
      show Steps p.tables e below (T.setTop (mkF m 44 #[.val (.ref a), .val (.int r), .val (.long key), .second, .val (.int item), .val (.int (Int32.ofNat h)), s6] [(.int (Int32.ofNat (2 * h + 1)))])) _
      refine XS.aloadN X0.here hx rfl (hb hby d4_44) rfl rfl ?_
      exact kt)
    obtain ⟨T4, X4, e4, st4⟩ := getF X0 hx hZ hown (host := "") (Or.inl (hw _ (List.mem_of_getElem? (i := 20) rfl))) Via.refl e0 F_s (g := (mkF m 45 #[.val (.ref a), .val (.int r), .val (.long key), .second, .val (.int item), .val (.int (Int32.ofNat h)), s6] [(.ref a), (.int (Int32.ofNat (2 * h + 1)))])) rfl rfl (hb hby d4_45)
    have g4 : own_Go p e below T (mkF m 38 #[.val (.ref a), .val (.int r), .val (.long key), .second, .val (.int item), .val (.int (Int32.ofNat h)), s6] []) T4 (mkF m 48 #[.val (.ref a), .val (.int r), .val (.long key), .second, .val (.int item), .val (.int (Int32.ofNat h)), s6] [(.int (Int32.ofNat n)), (.int (Int32.ofNat (2 * h + 1)))]) := fun t kt => g3 t (st4 _ kt)
    have g5 : own_Go p e below T (mkF m 38 #[.val (.ref a), .val (.int r), .val (.long key), .second, .val (.int item), .val (.int (Int32.ofNat h)), s6] []) T4 (mkF m 143 #[.val (.ref a), .val (.int r), .val (.long key), .second, .val (.int item), .val (.int (Int32.ofNat h)), s6] []) := fun t kt => g4 t (by
      show Steps p.tables e below (T4.setTop (mkF m 48 #[.val (.ref a), .val (.int r), .val (.long key), .second, .val (.int item), .val (.int (Int32.ofNat h)), s6] [(.int (Int32.ofNat n)), (.int (Int32.ofNat (2 * h + 1)))])) _
      refine XS.icmpYes X4.here hx rfl (pc0 := 48) (pc' := 143) rfl (hb hby d4_48) rfl (flt (fun z => hz ((own_lts (by omega) (by omega)).mp z))).2.1 (by decide) (by decide) ?_
      exact kt)
    exact ⟨T4, locs, H, s6, X4, e4, M', N0, K0, g5⟩
  | f + 1, h, T, locs, H, ks, is, s6, o6, X0, e0, M, N0, K0, h16, hf => by
    have g0 : own_Go p e below T (mkF m 38 #[.val (.ref a), .val (.int r), .val (.long key), .second, .val (.int item), .val (.int (Int32.ofNat h)), s6] []) T (mkF m 38 #[.val (.ref a), .val (.int r), .val (.long key), .second, .val (.int item), .val (.int (Int32.ofNat h)), s6] []) := fun t k => k
    have M' := M
    obtain ⟨E_a, F_k, F_i, F_s, V_k, V_i, ne_a_ka, ne_a_ia, ne_ka_ia, len_k, len_i⟩ := M
    have g6 : own_Go p e below T (mkF m 38 #[.val (.ref a), .val (.int r), .val (.long key), .second, .val (.int item), .val (.int (Int32.ofNat h)), s6] []) T (mkF m 44 #[.val (.ref a), .val (.int r), .val (.long key), .second, .val (.int item), .val (.int (Int32.ofNat h)), s6] [(.int (((2 : Int32) * (Int32.ofNat h)) + (1 : Int32)))]) := fun t kt => g0 t (by
      show Steps p.tables e below (T.setTop (mkF m 38 #[.val (.ref a), .val (.int r), .val (.long key), .second, .val (.int item), .val (.int (Int32.ofNat h)), s6] [])) _
      refine XS.iconst X0.here hx rfl (hb hby d4_38) ?_
      show Steps p.tables e below (T.setTop (mkF m 39 #[.val (.ref a), .val (.int r), .val (.long key), .second, .val (.int item), .val (.int (Int32.ofNat h)), s6] [(.int (2 : Int32))])) _
      refine XS.iload X0.here hx rfl (hb hby d4_39) rfl ?_
      show Steps p.tables e below (T.setTop (mkF m 41 #[.val (.ref a), .val (.int r), .val (.long key), .second, .val (.int item), .val (.int (Int32.ofNat h)), s6] [(.int (Int32.ofNat h)), (.int (2 : Int32))])) _
      refine XS.imul X0.here hx rfl (hb hby d4_41) rfl ?_
      show Steps p.tables e below (T.setTop (mkF m 42 #[.val (.ref a), .val (.int r), .val (.long key), .second, .val (.int item), .val (.int (Int32.ofNat h)), s6] [(.int ((2 : Int32) * (Int32.ofNat h)))])) _
      refine XS.iconst X0.here hx rfl (hb hby d4_42) ?_
      show Steps p.tables e below (T.setTop (mkF m 43 #[.val (.ref a), .val (.int r), .val (.long key), .second, .val (.int item), .val (.int (Int32.ofNat h)), s6] [(.int (1 : Int32)), (.int ((2 : Int32) * (Int32.ofNat h)))])) _
      refine XS.iadd X0.here hx rfl (hb hby d4_43) rfl ?_
      exact kt)
    have g7 : own_Go p e below T (mkF m 38 #[.val (.ref a), .val (.int r), .val (.long key), .second, .val (.int item), .val (.int (Int32.ofNat h)), s6] []) T (mkF m 44 #[.val (.ref a), .val (.int r), .val (.long key), .second, .val (.int item), .val (.int (Int32.ofNat h)), s6] [(.int (Int32.ofNat (2 * h + 1)))]) := by have hcv := g6; rw [show (((2 : Int32) * (Int32.ofNat h)) + (1 : Int32)) = (Int32.ofNat (2 * h + 1)) from own_dbl h h16] at hcv; exact hcv
    have g8 : own_Go p e below T (mkF m 38 #[.val (.ref a), .val (.int r), .val (.long key), .second, .val (.int item), .val (.int (Int32.ofNat h)), s6] []) T (mkF m 45 #[.val (.ref a), .val (.int r), .val (.long key), .second, .val (.int item), .val (.int (Int32.ofNat h)), s6] [(.ref a), (.int (Int32.ofNat (2 * h + 1)))]) := fun t kt => g7 t (by
      show Steps p.tables e below (T.setTop (mkF m 44 #[.val (.ref a), .val (.int r), .val (.long key), .second, .val (.int item), .val (.int (Int32.ofNat h)), s6] [(.int (Int32.ofNat (2 * h + 1)))])) _
      refine XS.aloadN X0.here hx rfl (hb hby d4_44) rfl rfl ?_
      exact kt)
    obtain ⟨T9, X9, e9, st9⟩ := getF X0 hx hZ hown (host := "") (Or.inl (hw _ (List.mem_of_getElem? (i := 20) rfl))) Via.refl e0 F_s (g := (mkF m 45 #[.val (.ref a), .val (.int r), .val (.long key), .second, .val (.int item), .val (.int (Int32.ofNat h)), s6] [(.ref a), (.int (Int32.ofNat (2 * h + 1)))])) rfl rfl (hb hby d4_45)
    have g9 : own_Go p e below T (mkF m 38 #[.val (.ref a), .val (.int r), .val (.long key), .second, .val (.int item), .val (.int (Int32.ofNat h)), s6] []) T9 (mkF m 48 #[.val (.ref a), .val (.int r), .val (.long key), .second, .val (.int item), .val (.int (Int32.ofNat h)), s6] [(.int (Int32.ofNat n)), (.int (Int32.ofNat (2 * h + 1)))]) := fun t kt => g8 t (st9 _ kt)
    by_cases hz : 2 * h + 1 < n
    · have g10 : own_Go p e below T (mkF m 38 #[.val (.ref a), .val (.int r), .val (.long key), .second, .val (.int item), .val (.int (Int32.ofNat h)), s6] []) T9 (mkF m 57 #[.val (.ref a), .val (.int r), .val (.long key), .second, .val (.int item), .val (.int (Int32.ofNat h)), s6] [(.int (((2 : Int32) * (Int32.ofNat h)) + (1 : Int32)))]) := fun t kt => g9 t (by
        show Steps p.tables e below (T9.setTop (mkF m 48 #[.val (.ref a), .val (.int r), .val (.long key), .second, .val (.int item), .val (.int (Int32.ofNat h)), s6] [(.int (Int32.ofNat n)), (.int (Int32.ofNat (2 * h + 1)))])) _
        refine XS.icmpNo X9.here hx rfl (hb hby d4_48) rfl (tlt ((own_lts (by omega) (by omega)).mpr hz)).2.1 ?_
        show Steps p.tables e below (T9.setTop (mkF m 51 #[.val (.ref a), .val (.int r), .val (.long key), .second, .val (.int item), .val (.int (Int32.ofNat h)), s6] [])) _
        refine XS.iconst X9.here hx rfl (hb hby d4_51) ?_
        show Steps p.tables e below (T9.setTop (mkF m 52 #[.val (.ref a), .val (.int r), .val (.long key), .second, .val (.int item), .val (.int (Int32.ofNat h)), s6] [(.int (2 : Int32))])) _
        refine XS.iload X9.here hx rfl (hb hby d4_52) rfl ?_
        show Steps p.tables e below (T9.setTop (mkF m 54 #[.val (.ref a), .val (.int r), .val (.long key), .second, .val (.int item), .val (.int (Int32.ofNat h)), s6] [(.int (Int32.ofNat h)), (.int (2 : Int32))])) _
        refine XS.imul X9.here hx rfl (hb hby d4_54) rfl ?_
        show Steps p.tables e below (T9.setTop (mkF m 55 #[.val (.ref a), .val (.int r), .val (.long key), .second, .val (.int item), .val (.int (Int32.ofNat h)), s6] [(.int ((2 : Int32) * (Int32.ofNat h)))])) _
        refine XS.iconst X9.here hx rfl (hb hby d4_55) ?_
        show Steps p.tables e below (T9.setTop (mkF m 56 #[.val (.ref a), .val (.int r), .val (.long key), .second, .val (.int item), .val (.int (Int32.ofNat h)), s6] [(.int (1 : Int32)), (.int ((2 : Int32) * (Int32.ofNat h)))])) _
        refine XS.iadd X9.here hx rfl (hb hby d4_56) rfl ?_
        exact kt)
      have g11 : own_Go p e below T (mkF m 38 #[.val (.ref a), .val (.int r), .val (.long key), .second, .val (.int item), .val (.int (Int32.ofNat h)), s6] []) T9 (mkF m 57 #[.val (.ref a), .val (.int r), .val (.long key), .second, .val (.int item), .val (.int (Int32.ofNat h)), s6] [(.int (Int32.ofNat (2 * h + 1)))]) := by have hcv := g10; rw [show (((2 : Int32) * (Int32.ofNat h)) + (1 : Int32)) = (Int32.ofNat (2 * h + 1)) from own_dbl h h16] at hcv; exact hcv
      have g12 : own_Go p e below T (mkF m 38 #[.val (.ref a), .val (.int r), .val (.long key), .second, .val (.int item), .val (.int (Int32.ofNat h)), s6] []) T9 (mkF m 63 #[.val (.ref a), .val (.int r), .val (.long key), .second, .val (.int item), .val (.int (Int32.ofNat h)), .val (.int (Int32.ofNat (2 * h + 1)))] [(.int ((Int32.ofNat (2 * h + 1)) + (1 : Int32)))]) := fun t kt => g11 t (by
        show Steps p.tables e below (T9.setTop (mkF m 57 #[.val (.ref a), .val (.int r), .val (.long key), .second, .val (.int item), .val (.int (Int32.ofNat h)), s6] [(.int (Int32.ofNat (2 * h + 1)))])) _
        refine XS.istore X9.here hx rfl (hb hby d4_57) rfl (l' := #[.val (.ref a), .val (.int r), .val (.long key), .second, .val (.int item), .val (.int (Int32.ofNat h)), .val (.int (Int32.ofNat (2 * h + 1)))]) (own_os6 o6) ?_
        show Steps p.tables e below (T9.setTop (mkF m 59 #[.val (.ref a), .val (.int r), .val (.long key), .second, .val (.int item), .val (.int (Int32.ofNat h)), .val (.int (Int32.ofNat (2 * h + 1)))] [])) _
        refine XS.iload X9.here hx rfl (hb hby d4_59) rfl ?_
        show Steps p.tables e below (T9.setTop (mkF m 61 #[.val (.ref a), .val (.int r), .val (.long key), .second, .val (.int item), .val (.int (Int32.ofNat h)), .val (.int (Int32.ofNat (2 * h + 1)))] [(.int (Int32.ofNat (2 * h + 1)))])) _
        refine XS.iconst X9.here hx rfl (hb hby d4_61) ?_
        show Steps p.tables e below (T9.setTop (mkF m 62 #[.val (.ref a), .val (.int r), .val (.long key), .second, .val (.int item), .val (.int (Int32.ofNat h)), .val (.int (Int32.ofNat (2 * h + 1)))] [(.int (1 : Int32)), (.int (Int32.ofNat (2 * h + 1)))])) _
        refine XS.iadd X9.here hx rfl (hb hby d4_62) rfl ?_
        exact kt)
      have g13 : own_Go p e below T (mkF m 38 #[.val (.ref a), .val (.int r), .val (.long key), .second, .val (.int item), .val (.int (Int32.ofNat h)), s6] []) T9 (mkF m 63 #[.val (.ref a), .val (.int r), .val (.long key), .second, .val (.int item), .val (.int (Int32.ofNat h)), .val (.int (Int32.ofNat (2 * h + 1)))] [(.int (Int32.ofNat (2 * h + 1 + 1)))]) := by have hcv := g12; rw [show ((Int32.ofNat (2 * h + 1)) + (1 : Int32)) = (Int32.ofNat (2 * h + 1 + 1)) from own_inc _ (by omega)] at hcv; exact hcv
      have g14 : own_Go p e below T (mkF m 38 #[.val (.ref a), .val (.int r), .val (.long key), .second, .val (.int item), .val (.int (Int32.ofNat h)), s6] []) T9 (mkF m 64 #[.val (.ref a), .val (.int r), .val (.long key), .second, .val (.int item), .val (.int (Int32.ofNat h)), .val (.int (Int32.ofNat (2 * h + 1)))] [(.ref a), (.int (Int32.ofNat (2 * h + 1 + 1)))]) := fun t kt => g13 t (by
        show Steps p.tables e below (T9.setTop (mkF m 63 #[.val (.ref a), .val (.int r), .val (.long key), .second, .val (.int item), .val (.int (Int32.ofNat h)), .val (.int (Int32.ofNat (2 * h + 1)))] [(.int (Int32.ofNat (2 * h + 1 + 1)))])) _
        refine XS.aloadN X9.here hx rfl (hb hby d4_63) rfl rfl ?_
        exact kt)
      obtain ⟨T15, X15, e15, st15⟩ := getF X9 hx hZ hown (host := "") (Or.inl (hw _ (List.mem_of_getElem? (i := 20) rfl))) Via.refl e9 F_s (g := (mkF m 64 #[.val (.ref a), .val (.int r), .val (.long key), .second, .val (.int item), .val (.int (Int32.ofNat h)), .val (.int (Int32.ofNat (2 * h + 1)))] [(.ref a), (.int (Int32.ofNat (2 * h + 1 + 1)))])) rfl rfl (hb hby d4_64)
      have g15 : own_Go p e below T (mkF m 38 #[.val (.ref a), .val (.int r), .val (.long key), .second, .val (.int item), .val (.int (Int32.ofNat h)), s6] []) T15 (mkF m 67 #[.val (.ref a), .val (.int r), .val (.long key), .second, .val (.int item), .val (.int (Int32.ofNat h)), .val (.int (Int32.ofNat (2 * h + 1)))] [(.int (Int32.ofNat n)), (.int (Int32.ofNat (2 * h + 1 + 1)))]) := fun t kt => g14 t (st15 _ kt)
      obtain ⟨T16, X16, e16, g16⟩ : ∃ T16 : State, Stand p l e R s m args below meth c T16 locs cells slots ∧ T16.heap = H ∧ own_Go p e below T (mkF m 38 #[.val (.ref a), .val (.int r), .val (.long key), .second, .val (.int item), .val (.int (Int32.ofNat h)), s6] []) T16 (mkF m 93 #[.val (.ref a), .val (.int r), .val (.long key), .second, .val (.int item), .val (.int (Int32.ofNat h)), .val (.int (Int32.ofNat (own_ch ks n (2 * h + 1))))] []) := by
        rcases (show (2 * h + 1 + 1 < n ∧ ks.getD (2 * h + 1 + 1) 0 < ks.getD (2 * h + 1) 0) ∨ (2 * h + 1 + 1 < n ∧ ¬ ks.getD (2 * h + 1 + 1) 0 < ks.getD (2 * h + 1) 0) ∨ ¬ (2 * h + 1 + 1 < n) from by by_cases hq : 2 * h + 1 + 1 < n <;> by_cases hr : ks.getD (2 * h + 1 + 1) 0 < ks.getD (2 * h + 1) 0 <;> simp only [hq, hr, not_true, not_false_iff, true_and, and_true, true_or, or_true, false_or, or_false, and_false, false_and]) with ⟨hq, hr⟩ | ⟨hq, hr⟩ | hq
        · rw [show own_ch ks n (2 * h + 1) = 2 * h + 1 + 1 from if_pos ⟨hq, hr⟩]
          have g17 : own_Go p e below T (mkF m 38 #[.val (.ref a), .val (.int r), .val (.long key), .second, .val (.int item), .val (.int (Int32.ofNat h)), s6] []) T15 (mkF m 71 #[.val (.ref a), .val (.int r), .val (.long key), .second, .val (.int item), .val (.int (Int32.ofNat h)), .val (.int (Int32.ofNat (2 * h + 1)))] [(.ref a)]) := fun t kt => g15 t (by
            show Steps p.tables e below (T15.setTop (mkF m 67 #[.val (.ref a), .val (.int r), .val (.long key), .second, .val (.int item), .val (.int (Int32.ofNat h)), .val (.int (Int32.ofNat (2 * h + 1)))] [(.int (Int32.ofNat n)), (.int (Int32.ofNat (2 * h + 1 + 1)))])) _
            refine XS.icmpNo X15.here hx rfl (hb hby d4_67) rfl (tlt ((own_lts (by omega) (by omega)).mpr hq)).2.1 ?_
            show Steps p.tables e below (T15.setTop (mkF m 70 #[.val (.ref a), .val (.int r), .val (.long key), .second, .val (.int item), .val (.int (Int32.ofNat h)), .val (.int (Int32.ofNat (2 * h + 1)))] [])) _
            refine XS.aloadN X15.here hx rfl (hb hby d4_70) rfl rfl ?_
            exact kt)
          obtain ⟨T18, X18, e18, st18⟩ := getF X15 hx hZ hown (host := "") (Or.inl (hw _ (List.mem_of_getElem? (i := 10) rfl))) Via.refl e15 F_k (g := (mkF m 71 #[.val (.ref a), .val (.int r), .val (.long key), .second, .val (.int item), .val (.int (Int32.ofNat h)), .val (.int (Int32.ofNat (2 * h + 1)))] [(.ref a)])) rfl rfl (hb hby d4_71)
          have g18 : own_Go p e below T (mkF m 38 #[.val (.ref a), .val (.int r), .val (.long key), .second, .val (.int item), .val (.int (Int32.ofNat h)), s6] []) T18 (mkF m 74 #[.val (.ref a), .val (.int r), .val (.long key), .second, .val (.int item), .val (.int (Int32.ofNat h)), .val (.int (Int32.ofNat (2 * h + 1)))] [(.ref ka)]) := fun t kt => g17 t (st18 _ kt)
          have g19 : own_Go p e below T (mkF m 38 #[.val (.ref a), .val (.int r), .val (.long key), .second, .val (.int item), .val (.int (Int32.ofNat h)), s6] []) T18 (mkF m 78 #[.val (.ref a), .val (.int r), .val (.long key), .second, .val (.int item), .val (.int (Int32.ofNat h)), .val (.int (Int32.ofNat (2 * h + 1)))] [(.int ((Int32.ofNat (2 * h + 1)) + (1 : Int32))), (.ref ka)]) := fun t kt => g18 t (by
            show Steps p.tables e below (T18.setTop (mkF m 74 #[.val (.ref a), .val (.int r), .val (.long key), .second, .val (.int item), .val (.int (Int32.ofNat h)), .val (.int (Int32.ofNat (2 * h + 1)))] [(.ref ka)])) _
            refine XS.iload X18.here hx rfl (hb hby d4_74) rfl ?_
            show Steps p.tables e below (T18.setTop (mkF m 76 #[.val (.ref a), .val (.int r), .val (.long key), .second, .val (.int item), .val (.int (Int32.ofNat h)), .val (.int (Int32.ofNat (2 * h + 1)))] [(.int (Int32.ofNat (2 * h + 1))), (.ref ka)])) _
            refine XS.iconst X18.here hx rfl (hb hby d4_76) ?_
            show Steps p.tables e below (T18.setTop (mkF m 77 #[.val (.ref a), .val (.int r), .val (.long key), .second, .val (.int item), .val (.int (Int32.ofNat h)), .val (.int (Int32.ofNat (2 * h + 1)))] [(.int (1 : Int32)), (.int (Int32.ofNat (2 * h + 1))), (.ref ka)])) _
            refine XS.iadd X18.here hx rfl (hb hby d4_77) rfl ?_
            exact kt)
          have g20 : own_Go p e below T (mkF m 38 #[.val (.ref a), .val (.int r), .val (.long key), .second, .val (.int item), .val (.int (Int32.ofNat h)), s6] []) T18 (mkF m 78 #[.val (.ref a), .val (.int r), .val (.long key), .second, .val (.int item), .val (.int (Int32.ofNat h)), .val (.int (Int32.ofNat (2 * h + 1)))] [(.int (Int32.ofNat (2 * h + 1 + 1))), (.ref ka)]) := by have hcv := g19; rw [show ((Int32.ofNat (2 * h + 1)) + (1 : Int32)) = (Int32.ofNat (2 * h + 1 + 1)) from own_inc _ (by omega)] at hcv; exact hcv
          have g21 : own_Go p e below T (mkF m 38 #[.val (.ref a), .val (.int r), .val (.long key), .second, .val (.int item), .val (.int (Int32.ofNat h)), s6] []) T18 (mkF m 80 #[.val (.ref a), .val (.int r), .val (.long key), .second, .val (.int item), .val (.int (Int32.ofNat h)), .val (.int (Int32.ofNat (2 * h + 1)))] [(.ref a), (.long (ks.getD (2 * h + 1 + 1) 0))]) := fun t kt => g20 t (by
            show Steps p.tables e below (T18.setTop (mkF m 78 #[.val (.ref a), .val (.int r), .val (.long key), .second, .val (.int item), .val (.int (Int32.ofNat h)), .val (.int (Int32.ofNat (2 * h + 1)))] [(.int (Int32.ofNat (2 * h + 1 + 1))), (.ref ka)])) _
            refine own_ldJ X18 hx hZ e18 V_k (2 * h + 1 + 1) (own_ix _ (by omega)) (by rw [len_k]; omega) (hb hby d4_78) _ ?_
            show Steps p.tables e below (T18.setTop (mkF m 79 #[.val (.ref a), .val (.int r), .val (.long key), .second, .val (.int item), .val (.int (Int32.ofNat h)), .val (.int (Int32.ofNat (2 * h + 1)))] [(.long (ks.getD (2 * h + 1 + 1) 0))])) _
            refine XS.aloadN X18.here hx rfl (hb hby d4_79) rfl rfl ?_
            exact kt)
          obtain ⟨T22, X22, e22, st22⟩ := getF X18 hx hZ hown (host := "") (Or.inl (hw _ (List.mem_of_getElem? (i := 10) rfl))) Via.refl e18 F_k (g := (mkF m 80 #[.val (.ref a), .val (.int r), .val (.long key), .second, .val (.int item), .val (.int (Int32.ofNat h)), .val (.int (Int32.ofNat (2 * h + 1)))] [(.ref a), (.long (ks.getD (2 * h + 1 + 1) 0))])) rfl rfl (hb hby d4_80)
          have g22 : own_Go p e below T (mkF m 38 #[.val (.ref a), .val (.int r), .val (.long key), .second, .val (.int item), .val (.int (Int32.ofNat h)), s6] []) T22 (mkF m 83 #[.val (.ref a), .val (.int r), .val (.long key), .second, .val (.int item), .val (.int (Int32.ofNat h)), .val (.int (Int32.ofNat (2 * h + 1)))] [(.ref ka), (.long (ks.getD (2 * h + 1 + 1) 0))]) := fun t kt => g21 t (st22 _ kt)
          have g23 : own_Go p e below T (mkF m 38 #[.val (.ref a), .val (.int r), .val (.long key), .second, .val (.int item), .val (.int (Int32.ofNat h)), s6] []) T22 (mkF m 93 #[.val (.ref a), .val (.int r), .val (.long key), .second, .val (.int item), .val (.int (Int32.ofNat h)), .val (.int ((Int32.ofNat (2 * h + 1)) + (1 : Int32)))] []) := fun t kt => g22 t (by
            show Steps p.tables e below (T22.setTop (mkF m 83 #[.val (.ref a), .val (.int r), .val (.long key), .second, .val (.int item), .val (.int (Int32.ofNat h)), .val (.int (Int32.ofNat (2 * h + 1)))] [(.ref ka), (.long (ks.getD (2 * h + 1 + 1) 0))])) _
            refine XS.iload X22.here hx rfl (hb hby d4_83) rfl ?_
            show Steps p.tables e below (T22.setTop (mkF m 85 #[.val (.ref a), .val (.int r), .val (.long key), .second, .val (.int item), .val (.int (Int32.ofNat h)), .val (.int (Int32.ofNat (2 * h + 1)))] [(.int (Int32.ofNat (2 * h + 1))), (.ref ka), (.long (ks.getD (2 * h + 1 + 1) 0))])) _
            refine own_ldJ X22 hx hZ e22 V_k (2 * h + 1) (own_ix _ (by omega)) (by rw [len_k]; omega) (hb hby d4_85) _ ?_
            show Steps p.tables e below (T22.setTop (mkF m 86 #[.val (.ref a), .val (.int r), .val (.long key), .second, .val (.int item), .val (.int (Int32.ofNat h)), .val (.int (Int32.ofNat (2 * h + 1)))] [(.long (ks.getD (2 * h + 1) 0)), (.long (ks.getD (2 * h + 1 + 1) 0))])) _
            refine XS.lcmp X22.here hx rfl (hb hby d4_86) rfl ?_
            show Steps p.tables e below (T22.setTop (mkF m 87 #[.val (.ref a), .val (.int r), .val (.long key), .second, .val (.int item), .val (.int (Int32.ofNat h)), .val (.int (Int32.ofNat (2 * h + 1)))] [(.int (lcmpW (ks.getD (2 * h + 1 + 1) 0) (ks.getD (2 * h + 1) 0)))])) _
            refine XS.ifNo X22.here hx rfl (hb hby d4_87) rfl ((if0 _ _).trans (tlt ((lw_lt _ _).mpr hr)).2.1) ?_
            show Steps p.tables e below (T22.setTop (mkF m 90 #[.val (.ref a), .val (.int r), .val (.long key), .second, .val (.int item), .val (.int (Int32.ofNat h)), .val (.int (Int32.ofNat (2 * h + 1)))] [])) _
            refine XS.iinc X22.here hx rfl (hb hby d4_90) rfl (l' := #[.val (.ref a), .val (.int r), .val (.long key), .second, .val (.int item), .val (.int (Int32.ofNat h)), .val (.int ((Int32.ofNat (2 * h + 1)) + (1 : Int32)))]) rfl ?_
            exact kt)
          have g24 : own_Go p e below T (mkF m 38 #[.val (.ref a), .val (.int r), .val (.long key), .second, .val (.int item), .val (.int (Int32.ofNat h)), s6] []) T22 (mkF m 93 #[.val (.ref a), .val (.int r), .val (.long key), .second, .val (.int item), .val (.int (Int32.ofNat h)), .val (.int (Int32.ofNat (2 * h + 1 + 1)))] []) := by have hcv := g23; rw [show (Int32.ofNat (2 * h + 1) + (1 : Int32)) = (Int32.ofNat (2 * h + 1 + 1)) from own_inc _ (by omega)] at hcv; exact hcv
          exact ⟨_, X22, e22, g24⟩
        · rw [show own_ch ks n (2 * h + 1) = 2 * h + 1 from if_neg fun z => hr z.2]
          have g25 : own_Go p e below T (mkF m 38 #[.val (.ref a), .val (.int r), .val (.long key), .second, .val (.int item), .val (.int (Int32.ofNat h)), s6] []) T15 (mkF m 71 #[.val (.ref a), .val (.int r), .val (.long key), .second, .val (.int item), .val (.int (Int32.ofNat h)), .val (.int (Int32.ofNat (2 * h + 1)))] [(.ref a)]) := fun t kt => g15 t (by
            show Steps p.tables e below (T15.setTop (mkF m 67 #[.val (.ref a), .val (.int r), .val (.long key), .second, .val (.int item), .val (.int (Int32.ofNat h)), .val (.int (Int32.ofNat (2 * h + 1)))] [(.int (Int32.ofNat n)), (.int (Int32.ofNat (2 * h + 1 + 1)))])) _
            refine XS.icmpNo X15.here hx rfl (hb hby d4_67) rfl (tlt ((own_lts (by omega) (by omega)).mpr hq)).2.1 ?_
            show Steps p.tables e below (T15.setTop (mkF m 70 #[.val (.ref a), .val (.int r), .val (.long key), .second, .val (.int item), .val (.int (Int32.ofNat h)), .val (.int (Int32.ofNat (2 * h + 1)))] [])) _
            refine XS.aloadN X15.here hx rfl (hb hby d4_70) rfl rfl ?_
            exact kt)
          obtain ⟨T26, X26, e26, st26⟩ := getF X15 hx hZ hown (host := "") (Or.inl (hw _ (List.mem_of_getElem? (i := 10) rfl))) Via.refl e15 F_k (g := (mkF m 71 #[.val (.ref a), .val (.int r), .val (.long key), .second, .val (.int item), .val (.int (Int32.ofNat h)), .val (.int (Int32.ofNat (2 * h + 1)))] [(.ref a)])) rfl rfl (hb hby d4_71)
          have g26 : own_Go p e below T (mkF m 38 #[.val (.ref a), .val (.int r), .val (.long key), .second, .val (.int item), .val (.int (Int32.ofNat h)), s6] []) T26 (mkF m 74 #[.val (.ref a), .val (.int r), .val (.long key), .second, .val (.int item), .val (.int (Int32.ofNat h)), .val (.int (Int32.ofNat (2 * h + 1)))] [(.ref ka)]) := fun t kt => g25 t (st26 _ kt)
          have g27 : own_Go p e below T (mkF m 38 #[.val (.ref a), .val (.int r), .val (.long key), .second, .val (.int item), .val (.int (Int32.ofNat h)), s6] []) T26 (mkF m 78 #[.val (.ref a), .val (.int r), .val (.long key), .second, .val (.int item), .val (.int (Int32.ofNat h)), .val (.int (Int32.ofNat (2 * h + 1)))] [(.int ((Int32.ofNat (2 * h + 1)) + (1 : Int32))), (.ref ka)]) := fun t kt => g26 t (by
            show Steps p.tables e below (T26.setTop (mkF m 74 #[.val (.ref a), .val (.int r), .val (.long key), .second, .val (.int item), .val (.int (Int32.ofNat h)), .val (.int (Int32.ofNat (2 * h + 1)))] [(.ref ka)])) _
            refine XS.iload X26.here hx rfl (hb hby d4_74) rfl ?_
            show Steps p.tables e below (T26.setTop (mkF m 76 #[.val (.ref a), .val (.int r), .val (.long key), .second, .val (.int item), .val (.int (Int32.ofNat h)), .val (.int (Int32.ofNat (2 * h + 1)))] [(.int (Int32.ofNat (2 * h + 1))), (.ref ka)])) _
            refine XS.iconst X26.here hx rfl (hb hby d4_76) ?_
            show Steps p.tables e below (T26.setTop (mkF m 77 #[.val (.ref a), .val (.int r), .val (.long key), .second, .val (.int item), .val (.int (Int32.ofNat h)), .val (.int (Int32.ofNat (2 * h + 1)))] [(.int (1 : Int32)), (.int (Int32.ofNat (2 * h + 1))), (.ref ka)])) _
            refine XS.iadd X26.here hx rfl (hb hby d4_77) rfl ?_
            exact kt)
          have g28 : own_Go p e below T (mkF m 38 #[.val (.ref a), .val (.int r), .val (.long key), .second, .val (.int item), .val (.int (Int32.ofNat h)), s6] []) T26 (mkF m 78 #[.val (.ref a), .val (.int r), .val (.long key), .second, .val (.int item), .val (.int (Int32.ofNat h)), .val (.int (Int32.ofNat (2 * h + 1)))] [(.int (Int32.ofNat (2 * h + 1 + 1))), (.ref ka)]) := by have hcv := g27; rw [show ((Int32.ofNat (2 * h + 1)) + (1 : Int32)) = (Int32.ofNat (2 * h + 1 + 1)) from own_inc _ (by omega)] at hcv; exact hcv
          have g29 : own_Go p e below T (mkF m 38 #[.val (.ref a), .val (.int r), .val (.long key), .second, .val (.int item), .val (.int (Int32.ofNat h)), s6] []) T26 (mkF m 80 #[.val (.ref a), .val (.int r), .val (.long key), .second, .val (.int item), .val (.int (Int32.ofNat h)), .val (.int (Int32.ofNat (2 * h + 1)))] [(.ref a), (.long (ks.getD (2 * h + 1 + 1) 0))]) := fun t kt => g28 t (by
            show Steps p.tables e below (T26.setTop (mkF m 78 #[.val (.ref a), .val (.int r), .val (.long key), .second, .val (.int item), .val (.int (Int32.ofNat h)), .val (.int (Int32.ofNat (2 * h + 1)))] [(.int (Int32.ofNat (2 * h + 1 + 1))), (.ref ka)])) _
            refine own_ldJ X26 hx hZ e26 V_k (2 * h + 1 + 1) (own_ix _ (by omega)) (by rw [len_k]; omega) (hb hby d4_78) _ ?_
            show Steps p.tables e below (T26.setTop (mkF m 79 #[.val (.ref a), .val (.int r), .val (.long key), .second, .val (.int item), .val (.int (Int32.ofNat h)), .val (.int (Int32.ofNat (2 * h + 1)))] [(.long (ks.getD (2 * h + 1 + 1) 0))])) _
            refine XS.aloadN X26.here hx rfl (hb hby d4_79) rfl rfl ?_
            exact kt)
          obtain ⟨T30, X30, e30, st30⟩ := getF X26 hx hZ hown (host := "") (Or.inl (hw _ (List.mem_of_getElem? (i := 10) rfl))) Via.refl e26 F_k (g := (mkF m 80 #[.val (.ref a), .val (.int r), .val (.long key), .second, .val (.int item), .val (.int (Int32.ofNat h)), .val (.int (Int32.ofNat (2 * h + 1)))] [(.ref a), (.long (ks.getD (2 * h + 1 + 1) 0))])) rfl rfl (hb hby d4_80)
          have g30 : own_Go p e below T (mkF m 38 #[.val (.ref a), .val (.int r), .val (.long key), .second, .val (.int item), .val (.int (Int32.ofNat h)), s6] []) T30 (mkF m 83 #[.val (.ref a), .val (.int r), .val (.long key), .second, .val (.int item), .val (.int (Int32.ofNat h)), .val (.int (Int32.ofNat (2 * h + 1)))] [(.ref ka), (.long (ks.getD (2 * h + 1 + 1) 0))]) := fun t kt => g29 t (st30 _ kt)
          have g31 : own_Go p e below T (mkF m 38 #[.val (.ref a), .val (.int r), .val (.long key), .second, .val (.int item), .val (.int (Int32.ofNat h)), s6] []) T30 (mkF m 93 #[.val (.ref a), .val (.int r), .val (.long key), .second, .val (.int item), .val (.int (Int32.ofNat h)), .val (.int (Int32.ofNat (2 * h + 1)))] []) := fun t kt => g30 t (by
            show Steps p.tables e below (T30.setTop (mkF m 83 #[.val (.ref a), .val (.int r), .val (.long key), .second, .val (.int item), .val (.int (Int32.ofNat h)), .val (.int (Int32.ofNat (2 * h + 1)))] [(.ref ka), (.long (ks.getD (2 * h + 1 + 1) 0))])) _
            refine XS.iload X30.here hx rfl (hb hby d4_83) rfl ?_
            show Steps p.tables e below (T30.setTop (mkF m 85 #[.val (.ref a), .val (.int r), .val (.long key), .second, .val (.int item), .val (.int (Int32.ofNat h)), .val (.int (Int32.ofNat (2 * h + 1)))] [(.int (Int32.ofNat (2 * h + 1))), (.ref ka), (.long (ks.getD (2 * h + 1 + 1) 0))])) _
            refine own_ldJ X30 hx hZ e30 V_k (2 * h + 1) (own_ix _ (by omega)) (by rw [len_k]; omega) (hb hby d4_85) _ ?_
            show Steps p.tables e below (T30.setTop (mkF m 86 #[.val (.ref a), .val (.int r), .val (.long key), .second, .val (.int item), .val (.int (Int32.ofNat h)), .val (.int (Int32.ofNat (2 * h + 1)))] [(.long (ks.getD (2 * h + 1) 0)), (.long (ks.getD (2 * h + 1 + 1) 0))])) _
            refine XS.lcmp X30.here hx rfl (hb hby d4_86) rfl ?_
            show Steps p.tables e below (T30.setTop (mkF m 87 #[.val (.ref a), .val (.int r), .val (.long key), .second, .val (.int item), .val (.int (Int32.ofNat h)), .val (.int (Int32.ofNat (2 * h + 1)))] [(.int (lcmpW (ks.getD (2 * h + 1 + 1) 0) (ks.getD (2 * h + 1) 0)))])) _
            refine XS.ifYes X30.here hx rfl (pc0 := 87) (pc' := 93) rfl (hb hby d4_87) rfl ((if0 _ _).trans (flt (fun z => hr ((lw_lt _ _).mp z))).2.1) (by decide) (by decide) ?_
            exact kt)
          exact ⟨_, X30, e30, g31⟩
        · rw [show own_ch ks n (2 * h + 1) = 2 * h + 1 from if_neg fun z => hq z.1]
          have g32 : own_Go p e below T (mkF m 38 #[.val (.ref a), .val (.int r), .val (.long key), .second, .val (.int item), .val (.int (Int32.ofNat h)), s6] []) T15 (mkF m 93 #[.val (.ref a), .val (.int r), .val (.long key), .second, .val (.int item), .val (.int (Int32.ofNat h)), .val (.int (Int32.ofNat (2 * h + 1)))] []) := fun t kt => g15 t (by
            show Steps p.tables e below (T15.setTop (mkF m 67 #[.val (.ref a), .val (.int r), .val (.long key), .second, .val (.int item), .val (.int (Int32.ofNat h)), .val (.int (Int32.ofNat (2 * h + 1)))] [(.int (Int32.ofNat n)), (.int (Int32.ofNat (2 * h + 1 + 1)))])) _
            refine XS.icmpYes X15.here hx rfl (pc0 := 67) (pc' := 93) rfl (hb hby d4_67) rfl (flt (fun z => hq ((own_lts (by omega) (by omega)).mp z))).2.1 (by decide) (by decide) ?_
            exact kt)
          exact ⟨_, X15, e15, g32⟩
      obtain ⟨hc1, hc2⟩ := own_ch_lt (ks := ks) hz
      obtain ⟨ch, q_ch⟩ : ∃ z, z = own_ch ks n (2 * h + 1) := ⟨_, rfl⟩
      rw [← q_ch] at g16 hc1 hc2
      have g33 : own_Go p e below T (mkF m 38 #[.val (.ref a), .val (.int r), .val (.long key), .second, .val (.int item), .val (.int (Int32.ofNat h)), s6] []) T16 (mkF m 94 #[.val (.ref a), .val (.int r), .val (.long key), .second, .val (.int item), .val (.int (Int32.ofNat h)), .val (.int (Int32.ofNat ch))] [(.ref a)]) := fun t kt => g16 t (by
        show Steps p.tables e below (T16.setTop (mkF m 93 #[.val (.ref a), .val (.int r), .val (.long key), .second, .val (.int item), .val (.int (Int32.ofNat h)), .val (.int (Int32.ofNat ch))] [])) _
        refine XS.aloadN X16.here hx rfl (hb hby d4_93) rfl rfl ?_
        exact kt)
      obtain ⟨T34, X34, e34, st34⟩ := getF X16 hx hZ hown (host := "") (Or.inl (hw _ (List.mem_of_getElem? (i := 10) rfl))) Via.refl e16 F_k (g := (mkF m 94 #[.val (.ref a), .val (.int r), .val (.long key), .second, .val (.int item), .val (.int (Int32.ofNat h)), .val (.int (Int32.ofNat ch))] [(.ref a)])) rfl rfl (hb hby d4_94)
      have g34 : own_Go p e below T (mkF m 38 #[.val (.ref a), .val (.int r), .val (.long key), .second, .val (.int item), .val (.int (Int32.ofNat h)), s6] []) T34 (mkF m 97 #[.val (.ref a), .val (.int r), .val (.long key), .second, .val (.int item), .val (.int (Int32.ofNat h)), .val (.int (Int32.ofNat ch))] [(.ref ka)]) := fun t kt => g33 t (st34 _ kt)
      have g35 : own_Go p e below T (mkF m 38 #[.val (.ref a), .val (.int r), .val (.long key), .second, .val (.int item), .val (.int (Int32.ofNat h)), s6] []) T34 (mkF m 102 #[.val (.ref a), .val (.int r), .val (.long key), .second, .val (.int item), .val (.int (Int32.ofNat h)), .val (.int (Int32.ofNat ch))] [(.int (lcmpW (ks.getD ch 0) key))]) := fun t kt => g34 t (by
        show Steps p.tables e below (T34.setTop (mkF m 97 #[.val (.ref a), .val (.int r), .val (.long key), .second, .val (.int item), .val (.int (Int32.ofNat h)), .val (.int (Int32.ofNat ch))] [(.ref ka)])) _
        refine XS.iload X34.here hx rfl (hb hby d4_97) rfl ?_
        show Steps p.tables e below (T34.setTop (mkF m 99 #[.val (.ref a), .val (.int r), .val (.long key), .second, .val (.int item), .val (.int (Int32.ofNat h)), .val (.int (Int32.ofNat ch))] [(.int (Int32.ofNat ch)), (.ref ka)])) _
        refine own_ldJ X34 hx hZ e34 V_k ch (own_ix _ (by omega)) (by rw [len_k]; omega) (hb hby d4_99) _ ?_
        show Steps p.tables e below (T34.setTop (mkF m 100 #[.val (.ref a), .val (.int r), .val (.long key), .second, .val (.int item), .val (.int (Int32.ofNat h)), .val (.int (Int32.ofNat ch))] [(.long (ks.getD ch 0))])) _
        refine XS.lloadN X34.here hx rfl (hb hby d4_100) rfl ?_
        show Steps p.tables e below (T34.setTop (mkF m 101 #[.val (.ref a), .val (.int r), .val (.long key), .second, .val (.int item), .val (.int (Int32.ofNat h)), .val (.int (Int32.ofNat ch))] [(.long key), (.long (ks.getD ch 0))])) _
        refine XS.lcmp X34.here hx rfl (hb hby d4_101) rfl ?_
        exact kt)
      by_cases hk : ks.getD ch 0 < key
      · have g36 : own_Go p e below T (mkF m 38 #[.val (.ref a), .val (.int r), .val (.long key), .second, .val (.int item), .val (.int (Int32.ofNat h)), s6] []) T34 (mkF m 109 #[.val (.ref a), .val (.int r), .val (.long key), .second, .val (.int item), .val (.int (Int32.ofNat h)), .val (.int (Int32.ofNat ch))] [(.ref a)]) := fun t kt => g35 t (by
          show Steps p.tables e below (T34.setTop (mkF m 102 #[.val (.ref a), .val (.int r), .val (.long key), .second, .val (.int item), .val (.int (Int32.ofNat h)), .val (.int (Int32.ofNat ch))] [(.int (lcmpW (ks.getD ch 0) key))])) _
          refine XS.ifYes X34.here hx rfl (pc0 := 102) (pc' := 108) rfl (hb hby d4_102) rfl ((if0 _ _).trans (tlt ((lw_lt _ _).mpr hk)).1) (by decide) (by decide) ?_
          show Steps p.tables e below (T34.setTop (mkF m 108 #[.val (.ref a), .val (.int r), .val (.long key), .second, .val (.int item), .val (.int (Int32.ofNat h)), .val (.int (Int32.ofNat ch))] [])) _
          refine XS.aloadN X34.here hx rfl (hb hby d4_108) rfl rfl ?_
          exact kt)
        obtain ⟨T37, X37, e37, st37⟩ := getF X34 hx hZ hown (host := "") (Or.inl (hw _ (List.mem_of_getElem? (i := 10) rfl))) Via.refl e34 F_k (g := (mkF m 109 #[.val (.ref a), .val (.int r), .val (.long key), .second, .val (.int item), .val (.int (Int32.ofNat h)), .val (.int (Int32.ofNat ch))] [(.ref a)])) rfl rfl (hb hby d4_109)
        have g37 : own_Go p e below T (mkF m 38 #[.val (.ref a), .val (.int r), .val (.long key), .second, .val (.int item), .val (.int (Int32.ofNat h)), s6] []) T37 (mkF m 112 #[.val (.ref a), .val (.int r), .val (.long key), .second, .val (.int item), .val (.int (Int32.ofNat h)), .val (.int (Int32.ofNat ch))] [(.ref ka)]) := fun t kt => g36 t (st37 _ kt)
        have g38 : own_Go p e below T (mkF m 38 #[.val (.ref a), .val (.int r), .val (.long key), .second, .val (.int item), .val (.int (Int32.ofNat h)), s6] []) T37 (mkF m 115 #[.val (.ref a), .val (.int r), .val (.long key), .second, .val (.int item), .val (.int (Int32.ofNat h)), .val (.int (Int32.ofNat ch))] [(.ref a), (.int (Int32.ofNat h)), (.ref ka)]) := fun t kt => g37 t (by
          show Steps p.tables e below (T37.setTop (mkF m 112 #[.val (.ref a), .val (.int r), .val (.long key), .second, .val (.int item), .val (.int (Int32.ofNat h)), .val (.int (Int32.ofNat ch))] [(.ref ka)])) _
          refine XS.iload X37.here hx rfl (hb hby d4_112) rfl ?_
          show Steps p.tables e below (T37.setTop (mkF m 114 #[.val (.ref a), .val (.int r), .val (.long key), .second, .val (.int item), .val (.int (Int32.ofNat h)), .val (.int (Int32.ofNat ch))] [(.int (Int32.ofNat h)), (.ref ka)])) _
          refine XS.aloadN X37.here hx rfl (hb hby d4_114) rfl rfl ?_
          exact kt)
        obtain ⟨T39, X39, e39, st39⟩ := getF X37 hx hZ hown (host := "") (Or.inl (hw _ (List.mem_of_getElem? (i := 10) rfl))) Via.refl e37 F_k (g := (mkF m 115 #[.val (.ref a), .val (.int r), .val (.long key), .second, .val (.int item), .val (.int (Int32.ofNat h)), .val (.int (Int32.ofNat ch))] [(.ref a), (.int (Int32.ofNat h)), (.ref ka)])) rfl rfl (hb hby d4_115)
        have g39 : own_Go p e below T (mkF m 38 #[.val (.ref a), .val (.int r), .val (.long key), .second, .val (.int item), .val (.int (Int32.ofNat h)), s6] []) T39 (mkF m 118 #[.val (.ref a), .val (.int r), .val (.long key), .second, .val (.int item), .val (.int (Int32.ofNat h)), .val (.int (Int32.ofNat ch))] [(.ref ka), (.int (Int32.ofNat h)), (.ref ka)]) := fun t kt => g38 t (st39 _ kt)
        have g40 : own_Go p e below T (mkF m 38 #[.val (.ref a), .val (.int r), .val (.long key), .second, .val (.int item), .val (.int (Int32.ofNat h)), s6] []) T39 (mkF m 121 #[.val (.ref a), .val (.int r), .val (.long key), .second, .val (.int item), .val (.int (Int32.ofNat h)), .val (.int (Int32.ofNat ch))] [(.long (ks.getD ch 0)), (.int (Int32.ofNat h)), (.ref ka)]) := fun t kt => g39 t (by
          show Steps p.tables e below (T39.setTop (mkF m 118 #[.val (.ref a), .val (.int r), .val (.long key), .second, .val (.int item), .val (.int (Int32.ofNat h)), .val (.int (Int32.ofNat ch))] [(.ref ka), (.int (Int32.ofNat h)), (.ref ka)])) _
          refine XS.iload X39.here hx rfl (hb hby d4_118) rfl ?_
          show Steps p.tables e below (T39.setTop (mkF m 120 #[.val (.ref a), .val (.int r), .val (.long key), .second, .val (.int item), .val (.int (Int32.ofNat h)), .val (.int (Int32.ofNat ch))] [(.int (Int32.ofNat ch)), (.ref ka), (.int (Int32.ofNat h)), (.ref ka)])) _
          refine own_ldJ X39 hx hZ e39 V_k ch (own_ix _ (by omega)) (by rw [len_k]; omega) (hb hby d4_120) _ ?_
          exact kt)
        obtain ⟨T41, h41, X41, e41, W41, V41, st41⟩ := own_stJ X39 hx hZ e39 V_k (j := (Int32.ofNat h)) (x := (ks.getD ch 0)) h (own_ix _ (by omega)) (by rw [len_k]; omega) (Ls := #[.val (.ref a), .val (.int r), .val (.long key), .second, .val (.int item), .val (.int (Int32.ofNat h)), .val (.int (Int32.ofNat ch))]) (rest := []) (hb hby d4_121)
        have f42 := E_a.wr W41
        have f43 := F_k.other W41 (Or.inl ne_a_ka)
        have f44 := F_i.other W41 (Or.inl ne_a_ka)
        have f45 := F_s.other W41 (Or.inl ne_a_ka)
        have f47 := V_i.other W41 (Ne.symm ne_ka_ia)
        have N41 := Fr.snoc X41 N0 g_ka
        have K41 : Keep h0 h41 [a, ka, ia] := K0.wr W41 (Or.inl (List.mem_of_getElem? (i := 1) rfl))
        have g41 : own_Go p e below T (mkF m 38 #[.val (.ref a), .val (.int r), .val (.long key), .second, .val (.int item), .val (.int (Int32.ofNat h)), s6] []) T41 (mkF m 122 #[.val (.ref a), .val (.int r), .val (.long key), .second, .val (.int item), .val (.int (Int32.ofNat h)), .val (.int (Int32.ofNat ch))] []) := fun t kt => g40 t (st41 _ kt)
        have g48 : own_Go p e below T (mkF m 38 #[.val (.ref a), .val (.int r), .val (.long key), .second, .val (.int item), .val (.int (Int32.ofNat h)), s6] []) T41 (mkF m 123 #[.val (.ref a), .val (.int r), .val (.long key), .second, .val (.int item), .val (.int (Int32.ofNat h)), .val (.int (Int32.ofNat ch))] [(.ref a)]) := fun t kt => g41 t (by
          show Steps p.tables e below (T41.setTop (mkF m 122 #[.val (.ref a), .val (.int r), .val (.long key), .second, .val (.int item), .val (.int (Int32.ofNat h)), .val (.int (Int32.ofNat ch))] [])) _
          refine XS.aloadN X41.here hx rfl (hb hby d4_122) rfl rfl ?_
          exact kt)
        obtain ⟨T49, X49, e49, st49⟩ := getF X41 hx hZ hown (host := "") (Or.inl (hw _ (List.mem_of_getElem? (i := 13) rfl))) Via.refl e41 f44 (g := (mkF m 123 #[.val (.ref a), .val (.int r), .val (.long key), .second, .val (.int item), .val (.int (Int32.ofNat h)), .val (.int (Int32.ofNat ch))] [(.ref a)])) rfl rfl (hb hby d4_123)
        have g49 : own_Go p e below T (mkF m 38 #[.val (.ref a), .val (.int r), .val (.long key), .second, .val (.int item), .val (.int (Int32.ofNat h)), s6] []) T49 (mkF m 126 #[.val (.ref a), .val (.int r), .val (.long key), .second, .val (.int item), .val (.int (Int32.ofNat h)), .val (.int (Int32.ofNat ch))] [(.ref ia)]) := fun t kt => g48 t (st49 _ kt)
        have g50 : own_Go p e below T (mkF m 38 #[.val (.ref a), .val (.int r), .val (.long key), .second, .val (.int item), .val (.int (Int32.ofNat h)), s6] []) T49 (mkF m 129 #[.val (.ref a), .val (.int r), .val (.long key), .second, .val (.int item), .val (.int (Int32.ofNat h)), .val (.int (Int32.ofNat ch))] [(.ref a), (.int (Int32.ofNat h)), (.ref ia)]) := fun t kt => g49 t (by
          show Steps p.tables e below (T49.setTop (mkF m 126 #[.val (.ref a), .val (.int r), .val (.long key), .second, .val (.int item), .val (.int (Int32.ofNat h)), .val (.int (Int32.ofNat ch))] [(.ref ia)])) _
          refine XS.iload X49.here hx rfl (hb hby d4_126) rfl ?_
          show Steps p.tables e below (T49.setTop (mkF m 128 #[.val (.ref a), .val (.int r), .val (.long key), .second, .val (.int item), .val (.int (Int32.ofNat h)), .val (.int (Int32.ofNat ch))] [(.int (Int32.ofNat h)), (.ref ia)])) _
          refine XS.aloadN X49.here hx rfl (hb hby d4_128) rfl rfl ?_
          exact kt)
        obtain ⟨T51, X51, e51, st51⟩ := getF X49 hx hZ hown (host := "") (Or.inl (hw _ (List.mem_of_getElem? (i := 13) rfl))) Via.refl e49 f44 (g := (mkF m 129 #[.val (.ref a), .val (.int r), .val (.long key), .second, .val (.int item), .val (.int (Int32.ofNat h)), .val (.int (Int32.ofNat ch))] [(.ref a), (.int (Int32.ofNat h)), (.ref ia)])) rfl rfl (hb hby d4_129)
        have g51 : own_Go p e below T (mkF m 38 #[.val (.ref a), .val (.int r), .val (.long key), .second, .val (.int item), .val (.int (Int32.ofNat h)), s6] []) T51 (mkF m 132 #[.val (.ref a), .val (.int r), .val (.long key), .second, .val (.int item), .val (.int (Int32.ofNat h)), .val (.int (Int32.ofNat ch))] [(.ref ia), (.int (Int32.ofNat h)), (.ref ia)]) := fun t kt => g50 t (st51 _ kt)
        have g52 : own_Go p e below T (mkF m 38 #[.val (.ref a), .val (.int r), .val (.long key), .second, .val (.int item), .val (.int (Int32.ofNat h)), s6] []) T51 (mkF m 135 #[.val (.ref a), .val (.int r), .val (.long key), .second, .val (.int item), .val (.int (Int32.ofNat h)), .val (.int (Int32.ofNat ch))] [(.int (is.getD ch 0)), (.int (Int32.ofNat h)), (.ref ia)]) := fun t kt => g51 t (by
          show Steps p.tables e below (T51.setTop (mkF m 132 #[.val (.ref a), .val (.int r), .val (.long key), .second, .val (.int item), .val (.int (Int32.ofNat h)), .val (.int (Int32.ofNat ch))] [(.ref ia), (.int (Int32.ofNat h)), (.ref ia)])) _
          refine XS.iload X51.here hx rfl (hb hby d4_132) rfl ?_
          show Steps p.tables e below (T51.setTop (mkF m 134 #[.val (.ref a), .val (.int r), .val (.long key), .second, .val (.int item), .val (.int (Int32.ofNat h)), .val (.int (Int32.ofNat ch))] [(.int (Int32.ofNat ch)), (.ref ia), (.int (Int32.ofNat h)), (.ref ia)])) _
          refine own_ldI X51 hx hZ e51 f47 ch (own_ix _ (by omega)) (by rw [len_i]; omega) (hb hby d4_134) _ ?_
          exact kt)
        obtain ⟨T53, h53, X53, e53, W53, V53, st53⟩ := own_stI X51 hx hZ e51 f47 (j := (Int32.ofNat h)) (x := (is.getD ch 0)) h (own_ix _ (by omega)) (by rw [len_i]; omega) (Ls := #[.val (.ref a), .val (.int r), .val (.long key), .second, .val (.int item), .val (.int (Int32.ofNat h)), .val (.int (Int32.ofNat ch))]) (rest := []) (hb hby d4_135)
        have f54 := f42.wr W53
        have f55 := f43.other W53 (Or.inl ne_a_ia)
        have f56 := f44.other W53 (Or.inl ne_a_ia)
        have f57 := f45.other W53 (Or.inl ne_a_ia)
        have f58 := V41.other W53 ne_ka_ia
        have N53 := Fr.snoc X53 N41 g_ia
        have K53 : Keep h0 h53 [a, ka, ia] := K41.wr W53 (Or.inl (List.mem_of_getElem? (i := 2) rfl))
        have g53 : own_Go p e below T (mkF m 38 #[.val (.ref a), .val (.int r), .val (.long key), .second, .val (.int item), .val (.int (Int32.ofNat h)), s6] []) T53 (mkF m 136 #[.val (.ref a), .val (.int r), .val (.long key), .second, .val (.int item), .val (.int (Int32.ofNat h)), .val (.int (Int32.ofNat ch))] []) := fun t kt => g52 t (st53 _ kt)
        have g60 : own_Go p e below T (mkF m 38 #[.val (.ref a), .val (.int r), .val (.long key), .second, .val (.int item), .val (.int (Int32.ofNat h)), s6] []) T53 (mkF m 38 #[.val (.ref a), .val (.int r), .val (.long key), .second, .val (.int item), .val (.int (Int32.ofNat ch)), .val (.int (Int32.ofNat ch))] []) := fun t kt => g53 t (by
          show Steps p.tables e below (T53.setTop (mkF m 136 #[.val (.ref a), .val (.int r), .val (.long key), .second, .val (.int item), .val (.int (Int32.ofNat h)), .val (.int (Int32.ofNat ch))] [])) _
          refine XS.iload X53.here hx rfl (hb hby d4_136) rfl ?_
          show Steps p.tables e below (T53.setTop (mkF m 138 #[.val (.ref a), .val (.int r), .val (.long key), .second, .val (.int item), .val (.int (Int32.ofNat h)), .val (.int (Int32.ofNat ch))] [(.int (Int32.ofNat ch))])) _
          refine XS.istore X53.here hx rfl (hb hby d4_138) rfl (l' := #[.val (.ref a), .val (.int r), .val (.long key), .second, .val (.int item), .val (.int (Int32.ofNat ch)), .val (.int (Int32.ofNat ch))]) rfl ?_
          show Steps p.tables e below (T53.setTop (mkF m 140 #[.val (.ref a), .val (.int r), .val (.long key), .second, .val (.int item), .val (.int (Int32.ofNat ch)), .val (.int (Int32.ofNat ch))] [])) _
          refine XS.goto X53.here hx rfl (pc0 := 140) (pc' := 38) rfl (hb hby d4_140) (by decide) (by decide) ?_
          exact kt)
        obtain ⟨T', locs', H', s6', Y, eY, MY, NY, KY, gY⟩ := own_dnL key item n r hx hZ hw hby hown g_a g_ka g_ia hn f ch _ _ _ (ks.set h (ks.getD ch 0)) (is.set h (is.getD ch 0)) _ (One.val (w := .int (Int32.ofNat ch)) rfl) X53 e53 ⟨f54, f55, f56, f57, f58, V53, ne_a_ka, ne_a_ia, ne_ka_ia, (by simpa using len_k), (by simpa using len_i)⟩ N53 K53 (by omega) (by omega)
        rw [show own_dnF (f + 1) ks is key n h = own_dnF f (ks.set h (ks.getD ch 0)) (is.set h (is.getD ch 0)) key n ch from by simp only [own_dnF, ← q_ch, if_pos hz, if_pos hk]]
        exact ⟨T', locs', H', s6', Y, eY, MY, NY, KY, fun t kt => g60 t (gY t kt)⟩
      · have g61 : own_Go p e below T (mkF m 38 #[.val (.ref a), .val (.int r), .val (.long key), .second, .val (.int item), .val (.int (Int32.ofNat h)), s6] []) T34 (mkF m 143 #[.val (.ref a), .val (.int r), .val (.long key), .second, .val (.int item), .val (.int (Int32.ofNat h)), .val (.int (Int32.ofNat ch))] []) := fun t kt => g35 t (by
          show Steps p.tables e below (T34.setTop (mkF m 102 #[.val (.ref a), .val (.int r), .val (.long key), .second, .val (.int item), .val (.int (Int32.ofNat h)), .val (.int (Int32.ofNat ch))] [(.int (lcmpW (ks.getD ch 0) key))])) _
          refine XS.ifNo X34.here hx rfl (hb hby d4_102) rfl ((if0 _ _).trans (flt (fun z => hk ((lw_lt _ _).mp z))).1) ?_
          show Steps p.tables e below (T34.setTop (mkF m 105 #[.val (.ref a), .val (.int r), .val (.long key), .second, .val (.int item), .val (.int (Int32.ofNat h)), .val (.int (Int32.ofNat ch))] [])) _
          refine XS.goto X34.here hx rfl (pc0 := 105) (pc' := 143) rfl (hb hby d4_105) (by decide) (by decide) ?_
          exact kt)
        rw [show own_dnF (f + 1) ks is key n h = (ks, is, h) from by simp only [own_dnF, ← q_ch, if_pos hz, if_neg hk]]
        exact ⟨T34, locs, H, _, X34, e34, M', N0, K0, g61⟩
    · have g62 : own_Go p e below T (mkF m 38 #[.val (.ref a), .val (.int r), .val (.long key), .second, .val (.int item), .val (.int (Int32.ofNat h)), s6] []) T9 (mkF m 143 #[.val (.ref a), .val (.int r), .val (.long key), .second, .val (.int item), .val (.int (Int32.ofNat h)), s6] []) := fun t kt => g9 t (by
        show Steps p.tables e below (T9.setTop (mkF m 48 #[.val (.ref a), .val (.int r), .val (.long key), .second, .val (.int item), .val (.int (Int32.ofNat h)), s6] [(.int (Int32.ofNat n)), (.int (Int32.ofNat (2 * h + 1)))])) _
        refine XS.icmpYes X9.here hx rfl (pc0 := 48) (pc' := 143) rfl (hb hby d4_48) rfl (flt (fun z => hz ((own_lts (by omega) (by omega)).mp z))).2.1 (by decide) (by decide) ?_
        exact kt)
      rw [show own_dnF (f + 1) ks is key n h = (ks, is, h) from by simp only [own_dnF, if_neg hz]]
      exact ⟨T9, locs, H, s6, X9, e9, M', N0, K0, g62⟩
theorem ef_rm4 (m : MethodId) (x0 : Addr) : entryFrame m #[(.ref x0)] 7 = mkF m 0 #[.val (.ref x0), .unset, .unset, .unset, .unset, .unset, .unset] [] := by first | (simp [entryFrame, mkF, argsToLocals, Value.category]; done) | rfl
def Q_rm4 (Z : State) (a : Addr) (ka : Addr) (kc : ClassId) (ia : Addr) (ic : ClassId) (ks : List Int64) (is : List Int32) (n : Nat) (h0 : Heap) (n0 : Nat) (v : Option Value) (h : Heap) (L : List Loc) : Prop := v = some (.int (is.getD 0 0)) ∧ Fr n0 L ∧ Keep h0 h [a, ka, ia] ∧ own_MH Z h a ka kc ia ic (own_pop ks is n).1 (own_pop ks is n).2 (Int32.ofNat n)
set_option maxRecDepth 65536 in
set_option maxHeartbeats 40000000 in
theorem rm4 (l : Launch) (Z : State) (a0 : Array Value) (hw : ∀ d ∈ tables_1, d.before a0 Z = true) (ws : List Jvm.Cond) (a : Addr) (ka : Addr) (kc : ClassId) (ia : Addr) (ic : ClassId) (ks : List Int64) (is : List Int32) (n : Nat) (h0 : Heap) (n0 : Nat) (Z0 : n0 ≤ h0.size) (M : own_MH Z h0 a ka kc ia ic ks is (Int32.ofNat (n + 1))) (hn : n < 16) (g_a : n0 ≤ a) (g_ka : n0 ≤ ka) (g_ia : n0 ≤ ia) :
    MetFree l (⟨"com/example/pincer/pincer/engine/MinHeap", "pop", "()I"⟩ : MethodName) (head1 (Jvm.Cond.code (⟨"com/example/pincer/pincer/engine/MinHeap", "pop", "()I"⟩ : MethodName) prog_99_method_5_code 7 (some .int) :: ws) ({ frames := 0, cells := 0, slots := 0, locals := 0 } : Room)) (fun args_ U => args_ = #[(.ref a)] ∧ Z.Warmed39 U.vm ∧ U.heap = h0) (fun _ _ _ _ _ => True) (fun _ U o U' => ∃ v L, o = .returned v ∧ Q_rm4 Z a ka kc ia ic ks is n h0 n0 v U'.heap L ∧ FrameEnd U o U' L (({ frames := 0, cells := 0, slots := 0, locals := 0 } : Room)).cells (({ frames := 0, cells := 0, slots := 0, locals := 0 } : Room)).slots) := by
  refine MetFree.of_bodySF (plainFor_of_name pn_4) hisR ?_
  intro p e s m args below meth c s₁ Bd hml0 hP hK
  obtain ⟨rfl, hZ, hh⟩ := hP
  have hx := Bd.exec
  have hby := Bd.bytes
  have hml : c.maxLocals = 7 := hml0
  have hown : s.vm.findClass "com/example/pincer/pincer/engine/MinHeap" = some m.cls := findClass_of_methodNamed Bd.named
  have hnm := (name_of_methodNamed Bd.named Bd.method).1
  have X0 : Stand p l e ({ frames := 0, cells := 0, slots := 0, locals := 0 } : Room) s m #[(.ref a)] below meth c s₁ [] 0 0 := Stand.of_body Bd
  have e0 : s₁.heap = h0 := by rw [← hh, Bd.state]; rfl
  have N0 := Fr.nil n0
  have g0 : own_Go p e below s₁ (entryFrame m #[(.ref a)] 7) s₁ (mkF m 0 #[.val (.ref a), .unset, .unset, .unset, .unset, .unset, .unset] []) := fun t k => castTop (ef_rm4 m a) k
  obtain ⟨E_a, F_k, F_i, F_s, V_k, V_i, ne_a_ka, ne_a_ia, ne_ka_ia, len_k, len_i⟩ := M
  have K0 : Keep h0 h0 [a, ka, ia] := Keep.refl h0 _
  have g1 : own_Go p e below s₁ (entryFrame m #[(.ref a)] 7) s₁ (mkF m 1 #[.val (.ref a), .unset, .unset, .unset, .unset, .unset, .unset] [(.ref a)]) := fun t kt => g0 t (by
    show Steps p.tables e below (s₁.setTop (mkF m 0 #[.val (.ref a), .unset, .unset, .unset, .unset, .unset, .unset] [])) _
    refine XS.aloadN X0.here hx rfl (hb hby d4_0) rfl rfl ?_
    exact kt)
  obtain ⟨T2, X2, e2, st2⟩ := getF X0 hx hZ hown (host := "") (Or.inl (hw _ (List.mem_of_getElem? (i := 13) rfl))) Via.refl e0 F_i (g := (mkF m 1 #[.val (.ref a), .unset, .unset, .unset, .unset, .unset, .unset] [(.ref a)])) rfl rfl (hb hby d4_1)
  have g2 : own_Go p e below s₁ (entryFrame m #[(.ref a)] 7) T2 (mkF m 4 #[.val (.ref a), .unset, .unset, .unset, .unset, .unset, .unset] [(.ref ia)]) := fun t kt => g1 t (st2 _ kt)
  have g3 : own_Go p e below s₁ (entryFrame m #[(.ref a)] 7) T2 (mkF m 8 #[.val (.ref a), .val (.int (is.getD 0 0)), .unset, .unset, .unset, .unset, .unset] [(.ref a)]) := fun t kt => g2 t (by
    show Steps p.tables e below (T2.setTop (mkF m 4 #[.val (.ref a), .unset, .unset, .unset, .unset, .unset, .unset] [(.ref ia)])) _
    refine XS.iconst X2.here hx rfl (hb hby d4_4) ?_
    show Steps p.tables e below (T2.setTop (mkF m 5 #[.val (.ref a), .unset, .unset, .unset, .unset, .unset, .unset] [(.int (0 : Int32)), (.ref ia)])) _
    refine own_ldI X2 hx hZ e2 V_i 0 (by decide) (by rw [len_i]; omega) (hb hby d4_5) _ ?_
    show Steps p.tables e below (T2.setTop (mkF m 6 #[.val (.ref a), .unset, .unset, .unset, .unset, .unset, .unset] [(.int (is.getD 0 0))])) _
    refine XS.istoreN X2.here hx rfl (hb hby d4_6) rfl (l' := #[.val (.ref a), .val (.int (is.getD 0 0)), .unset, .unset, .unset, .unset, .unset]) rfl ?_
    show Steps p.tables e below (T2.setTop (mkF m 7 #[.val (.ref a), .val (.int (is.getD 0 0)), .unset, .unset, .unset, .unset, .unset] [])) _
    refine XS.aloadN X2.here hx rfl (hb hby d4_7) rfl rfl ?_
    exact kt)
  obtain ⟨T4, X4, e4, st4⟩ := getF X2 hx hZ hown (host := "") (Or.inl (hw _ (List.mem_of_getElem? (i := 10) rfl))) Via.refl e2 F_k (g := (mkF m 8 #[.val (.ref a), .val (.int (is.getD 0 0)), .unset, .unset, .unset, .unset, .unset] [(.ref a)])) rfl rfl (hb hby d4_8)
  have g4 : own_Go p e below s₁ (entryFrame m #[(.ref a)] 7) T4 (mkF m 11 #[.val (.ref a), .val (.int (is.getD 0 0)), .unset, .unset, .unset, .unset, .unset] [(.ref ka)]) := fun t kt => g3 t (st4 _ kt)
  have g5 : own_Go p e below s₁ (entryFrame m #[(.ref a)] 7) T4 (mkF m 13 #[.val (.ref a), .val (.int (is.getD 0 0)), .unset, .unset, .unset, .unset, .unset] [(.ref a), (.ref a), (.ref ka)]) := fun t kt => g4 t (by
    show Steps p.tables e below (T4.setTop (mkF m 11 #[.val (.ref a), .val (.int (is.getD 0 0)), .unset, .unset, .unset, .unset, .unset] [(.ref ka)])) _
    refine XS.aloadN X4.here hx rfl (hb hby d4_11) rfl rfl ?_
    show Steps p.tables e below (T4.setTop (mkF m 12 #[.val (.ref a), .val (.int (is.getD 0 0)), .unset, .unset, .unset, .unset, .unset] [(.ref a), (.ref ka)])) _
    refine XS.dup X4.here hx rfl (hb hby d4_12) rfl rfl ?_
    exact kt)
  obtain ⟨T6, X6, e6, st6⟩ := getF X4 hx hZ hown (host := "") (Or.inl (hw _ (List.mem_of_getElem? (i := 20) rfl))) Via.refl e4 F_s (g := (mkF m 13 #[.val (.ref a), .val (.int (is.getD 0 0)), .unset, .unset, .unset, .unset, .unset] [(.ref a), (.ref a), (.ref ka)])) rfl rfl (hb hby d4_13)
  have g6 : own_Go p e below s₁ (entryFrame m #[(.ref a)] 7) T6 (mkF m 16 #[.val (.ref a), .val (.int (is.getD 0 0)), .unset, .unset, .unset, .unset, .unset] [(.int (Int32.ofNat (n + 1))), (.ref a), (.ref ka)]) := fun t kt => g5 t (st6 _ kt)
  have g7 : own_Go p e below s₁ (entryFrame m #[(.ref a)] 7) T6 (mkF m 18 #[.val (.ref a), .val (.int (is.getD 0 0)), .unset, .unset, .unset, .unset, .unset] [(.int ((Int32.ofNat (n + 1)) - (1 : Int32))), (.ref a), (.ref ka)]) := fun t kt => g6 t (by
    show Steps p.tables e below (T6.setTop (mkF m 16 #[.val (.ref a), .val (.int (is.getD 0 0)), .unset, .unset, .unset, .unset, .unset] [(.int (Int32.ofNat (n + 1))), (.ref a), (.ref ka)])) _
    refine XS.iconst X6.here hx rfl (hb hby d4_16) ?_
    show Steps p.tables e below (T6.setTop (mkF m 17 #[.val (.ref a), .val (.int (is.getD 0 0)), .unset, .unset, .unset, .unset, .unset] [(.int (1 : Int32)), (.int (Int32.ofNat (n + 1))), (.ref a), (.ref ka)])) _
    refine XS.isub X6.here hx rfl (hb hby d4_17) rfl ?_
    exact kt)
  have g8 : own_Go p e below s₁ (entryFrame m #[(.ref a)] 7) T6 (mkF m 18 #[.val (.ref a), .val (.int (is.getD 0 0)), .unset, .unset, .unset, .unset, .unset] [(.int (Int32.ofNat n)), (.ref a), (.ref ka)]) := by have hcv := g7; rw [show ((Int32.ofNat (n + 1)) - (1 : Int32)) = (Int32.ofNat n) from own_dec n (by omega)] at hcv; exact hcv
  have g9 : own_Go p e below s₁ (entryFrame m #[(.ref a)] 7) T6 (mkF m 19 #[.val (.ref a), .val (.int (is.getD 0 0)), .unset, .unset, .unset, .unset, .unset] [(.int (Int32.ofNat n)), (.ref a), (.int (Int32.ofNat n)), (.ref ka)]) := fun t kt => g8 t (by
    show Steps p.tables e below (T6.setTop (mkF m 18 #[.val (.ref a), .val (.int (is.getD 0 0)), .unset, .unset, .unset, .unset, .unset] [(.int (Int32.ofNat n)), (.ref a), (.ref ka)])) _
    refine XS.dupX1 X6.here hx rfl (hb hby d4_18) rfl rfl rfl ?_
    exact kt)
  obtain ⟨T10, h10, X10, e10, W10, st10⟩ := putF X6 hx hZ hown (host := "") (Or.inl (hw _ (List.mem_of_getElem? (i := 20) rfl))) Via.refl e6 F_s E_a (Or.inl (hw _ (List.mem_of_getElem? (i := 21) rfl))) (hw _ (List.mem_of_getElem? (i := 2) rfl)) (ty := .int) (by decide) rfl rfl (g := (mkF m 19 #[.val (.ref a), .val (.int (is.getD 0 0)), .unset, .unset, .unset, .unset, .unset] [(.int (Int32.ofNat n)), (.ref a), (.int (Int32.ofNat n)), (.ref ka)])) rfl rfl (hb hby d4_19)
  have f11 := E_a.wr W10
  have f12 := F_k.other W10 (Or.inr (slot_ne (Or.inl (hw _ (List.mem_of_getElem? (i := 11) rfl))) (Or.inl (hw _ (List.mem_of_getElem? (i := 21) rfl))) (by decide) (t := (.array .long)) (t' := .int) (by decide) (by decide)))
  have f13 := F_i.other W10 (Or.inr (slot_ne (Or.inl (hw _ (List.mem_of_getElem? (i := 14) rfl))) (Or.inl (hw _ (List.mem_of_getElem? (i := 21) rfl))) (by decide) (t := (.array .int)) (t' := .int) (by decide) (by decide)))
  have f15 := V_k.other W10 (Ne.symm ne_a_ka)
  have f16 := V_i.other W10 (Ne.symm ne_a_ia)
  have f10w := F_s.same W10
  have N10 := Fr.snoc X10 N0 g_a
  have K10 : Keep h0 h10 [a, ka, ia] := K0.wr W10 (Or.inl (List.mem_of_getElem? (i := 0) rfl))
  have g10 : own_Go p e below s₁ (entryFrame m #[(.ref a)] 7) T10 (mkF m 22 #[.val (.ref a), .val (.int (is.getD 0 0)), .unset, .unset, .unset, .unset, .unset] [(.int (Int32.ofNat n)), (.ref ka)]) := fun t kt => g9 t (st10 _ kt)
  have g17 : own_Go p e below s₁ (entryFrame m #[(.ref a)] 7) T10 (mkF m 25 #[.val (.ref a), .val (.int (is.getD 0 0)), .val (.long (ks.getD n 0)), .second, .unset, .unset, .unset] [(.ref a)]) := fun t kt => g10 t (by
    show Steps p.tables e below (T10.setTop (mkF m 22 #[.val (.ref a), .val (.int (is.getD 0 0)), .unset, .unset, .unset, .unset, .unset] [(.int (Int32.ofNat n)), (.ref ka)])) _
    refine own_ldJ X10 hx hZ e10 f15 n (own_ix _ (by omega)) (by rw [len_k]; exact hn) (hb hby d4_22) _ ?_
    show Steps p.tables e below (T10.setTop (mkF m 23 #[.val (.ref a), .val (.int (is.getD 0 0)), .unset, .unset, .unset, .unset, .unset] [(.long (ks.getD n 0))])) _
    refine XS.lstoreN X10.here hx rfl (hb hby d4_23) rfl (l' := #[.val (.ref a), .val (.int (is.getD 0 0)), .val (.long (ks.getD n 0)), .second, .unset, .unset, .unset]) rfl ?_
    show Steps p.tables e below (T10.setTop (mkF m 24 #[.val (.ref a), .val (.int (is.getD 0 0)), .val (.long (ks.getD n 0)), .second, .unset, .unset, .unset] [])) _
    refine XS.aloadN X10.here hx rfl (hb hby d4_24) rfl rfl ?_
    exact kt)
  obtain ⟨T18, X18, e18, st18⟩ := getF X10 hx hZ hown (host := "") (Or.inl (hw _ (List.mem_of_getElem? (i := 13) rfl))) Via.refl e10 f13 (g := (mkF m 25 #[.val (.ref a), .val (.int (is.getD 0 0)), .val (.long (ks.getD n 0)), .second, .unset, .unset, .unset] [(.ref a)])) rfl rfl (hb hby d4_25)
  have g18 : own_Go p e below s₁ (entryFrame m #[(.ref a)] 7) T18 (mkF m 28 #[.val (.ref a), .val (.int (is.getD 0 0)), .val (.long (ks.getD n 0)), .second, .unset, .unset, .unset] [(.ref ia)]) := fun t kt => g17 t (st18 _ kt)
  have g19 : own_Go p e below s₁ (entryFrame m #[(.ref a)] 7) T18 (mkF m 29 #[.val (.ref a), .val (.int (is.getD 0 0)), .val (.long (ks.getD n 0)), .second, .unset, .unset, .unset] [(.ref a), (.ref ia)]) := fun t kt => g18 t (by
    show Steps p.tables e below (T18.setTop (mkF m 28 #[.val (.ref a), .val (.int (is.getD 0 0)), .val (.long (ks.getD n 0)), .second, .unset, .unset, .unset] [(.ref ia)])) _
    refine XS.aloadN X18.here hx rfl (hb hby d4_28) rfl rfl ?_
    exact kt)
  obtain ⟨T20, X20, e20, st20⟩ := getF X18 hx hZ hown (host := "") (Or.inl (hw _ (List.mem_of_getElem? (i := 20) rfl))) Via.refl e18 f10w (g := (mkF m 29 #[.val (.ref a), .val (.int (is.getD 0 0)), .val (.long (ks.getD n 0)), .second, .unset, .unset, .unset] [(.ref a), (.ref ia)])) rfl rfl (hb hby d4_29)
  have g20 : own_Go p e below s₁ (entryFrame m #[(.ref a)] 7) T20 (mkF m 32 #[.val (.ref a), .val (.int (is.getD 0 0)), .val (.long (ks.getD n 0)), .second, .unset, .unset, .unset] [(.int (Int32.ofNat n)), (.ref ia)]) := fun t kt => g19 t (st20 _ kt)
  have g21 : own_Go p e below s₁ (entryFrame m #[(.ref a)] 7) T20 (mkF m 38 #[.val (.ref a), .val (.int (is.getD 0 0)), .val (.long (ks.getD n 0)), .second, .val (.int (is.getD n 0)), .val (.int (0 : Int32)), .unset] []) := fun t kt => g20 t (by
    show Steps p.tables e below (T20.setTop (mkF m 32 #[.val (.ref a), .val (.int (is.getD 0 0)), .val (.long (ks.getD n 0)), .second, .unset, .unset, .unset] [(.int (Int32.ofNat n)), (.ref ia)])) _
    refine own_ldI X20 hx hZ e20 f16 n (own_ix _ (by omega)) (by rw [len_i]; exact hn) (hb hby d4_32) _ ?_
    show Steps p.tables e below (T20.setTop (mkF m 33 #[.val (.ref a), .val (.int (is.getD 0 0)), .val (.long (ks.getD n 0)), .second, .unset, .unset, .unset] [(.int (is.getD n 0))])) _
    refine XS.istore X20.here hx rfl (hb hby d4_33) rfl (l' := #[.val (.ref a), .val (.int (is.getD 0 0)), .val (.long (ks.getD n 0)), .second, .val (.int (is.getD n 0)), .unset, .unset]) rfl ?_
    show Steps p.tables e below (T20.setTop (mkF m 35 #[.val (.ref a), .val (.int (is.getD 0 0)), .val (.long (ks.getD n 0)), .second, .val (.int (is.getD n 0)), .unset, .unset] [])) _
    refine XS.iconst X20.here hx rfl (hb hby d4_35) ?_
    show Steps p.tables e below (T20.setTop (mkF m 36 #[.val (.ref a), .val (.int (is.getD 0 0)), .val (.long (ks.getD n 0)), .second, .val (.int (is.getD n 0)), .unset, .unset] [(.int (0 : Int32))])) _
    refine XS.istore X20.here hx rfl (hb hby d4_36) rfl (l' := #[.val (.ref a), .val (.int (is.getD 0 0)), .val (.long (ks.getD n 0)), .second, .val (.int (is.getD n 0)), .val (.int (0 : Int32)), .unset]) rfl ?_
    exact kt)
  have gz : own_Go p e below s₁ (entryFrame m #[(.ref a)] 7) T20 (mkF m 38 #[.val (.ref a), .val (.int (is.getD 0 0)), .val (.long (ks.getD n 0)), .second, .val (.int (is.getD n 0)), .val (.int (Int32.ofNat 0)), .unset] []) := g21
  obtain ⟨TL, locsL, HL, s6', XL, eL, ML, NL, KL, gL⟩ := own_dnL (ks.getD n 0) (is.getD n 0) n (is.getD 0 0) hx hZ hw hby hown g_a g_ka g_ia (by omega) 16 0 _ _ _ ks is .unset One.u X20 e20 ⟨f11, f12, f13, f10w, f15, f16, ne_a_ka, ne_a_ia, ne_ka_ia, len_k, len_i⟩ N10 K10 (by omega) (by omega)
  have hlt := own_dnF_lt 16 ks is (ks.getD n 0) n 0 16 (by omega) (by omega)
  have gM : own_Go p e below s₁ (entryFrame m #[(.ref a)] 7) TL (mkF m 143 #[.val (.ref a), .val (.int (is.getD 0 0)), .val (.long (ks.getD n 0)), .second, .val (.int (is.getD n 0)), .val (.int (Int32.ofNat (own_dnF 16 ks is (ks.getD n 0) n 0).2.2)), s6'] []) := fun t kt => gz t (gL t kt)
  obtain ⟨E_b, F_kb, F_ib, F_sb, V_kb, V_ib, -, -, -, len_kb, len_ib⟩ := ML
  have g22 : own_Go p e below s₁ (entryFrame m #[(.ref a)] 7) TL (mkF m 144 #[.val (.ref a), .val (.int (is.getD 0 0)), .val (.long (ks.getD n 0)), .second, .val (.int (is.getD n 0)), .val (.int (Int32.ofNat (own_dnF 16 ks is (ks.getD n 0) n 0).2.2)), s6'] [(.ref a)]) := fun t kt => gM t (by
    show Steps p.tables e below (TL.setTop (mkF m 143 #[.val (.ref a), .val (.int (is.getD 0 0)), .val (.long (ks.getD n 0)), .second, .val (.int (is.getD n 0)), .val (.int (Int32.ofNat (own_dnF 16 ks is (ks.getD n 0) n 0).2.2)), s6'] [])) _
    refine XS.aloadN XL.here hx rfl (hb hby d4_143) rfl rfl ?_
    exact kt)
  obtain ⟨T23, X23, e23, st23⟩ := getF XL hx hZ hown (host := "") (Or.inl (hw _ (List.mem_of_getElem? (i := 10) rfl))) Via.refl eL F_kb (g := (mkF m 144 #[.val (.ref a), .val (.int (is.getD 0 0)), .val (.long (ks.getD n 0)), .second, .val (.int (is.getD n 0)), .val (.int (Int32.ofNat (own_dnF 16 ks is (ks.getD n 0) n 0).2.2)), s6'] [(.ref a)])) rfl rfl (hb hby d4_144)
  have g23 : own_Go p e below s₁ (entryFrame m #[(.ref a)] 7) T23 (mkF m 147 #[.val (.ref a), .val (.int (is.getD 0 0)), .val (.long (ks.getD n 0)), .second, .val (.int (is.getD n 0)), .val (.int (Int32.ofNat (own_dnF 16 ks is (ks.getD n 0) n 0).2.2)), s6'] [(.ref ka)]) := fun t kt => g22 t (st23 _ kt)
  have g24 : own_Go p e below s₁ (entryFrame m #[(.ref a)] 7) T23 (mkF m 150 #[.val (.ref a), .val (.int (is.getD 0 0)), .val (.long (ks.getD n 0)), .second, .val (.int (is.getD n 0)), .val (.int (Int32.ofNat (own_dnF 16 ks is (ks.getD n 0) n 0).2.2)), s6'] [(.long (ks.getD n 0)), (.int (Int32.ofNat (own_dnF 16 ks is (ks.getD n 0) n 0).2.2)), (.ref ka)]) := fun t kt => g23 t (by
    show Steps p.tables e below (T23.setTop (mkF m 147 #[.val (.ref a), .val (.int (is.getD 0 0)), .val (.long (ks.getD n 0)), .second, .val (.int (is.getD n 0)), .val (.int (Int32.ofNat (own_dnF 16 ks is (ks.getD n 0) n 0).2.2)), s6'] [(.ref ka)])) _
    refine XS.iload X23.here hx rfl (hb hby d4_147) rfl ?_
    show Steps p.tables e below (T23.setTop (mkF m 149 #[.val (.ref a), .val (.int (is.getD 0 0)), .val (.long (ks.getD n 0)), .second, .val (.int (is.getD n 0)), .val (.int (Int32.ofNat (own_dnF 16 ks is (ks.getD n 0) n 0).2.2)), s6'] [(.int (Int32.ofNat (own_dnF 16 ks is (ks.getD n 0) n 0).2.2)), (.ref ka)])) _
    refine XS.lloadN X23.here hx rfl (hb hby d4_149) rfl ?_
    exact kt)
  obtain ⟨T25, h25, X25, e25, W25, V25, st25⟩ := own_stJ X23 hx hZ e23 V_kb (j := (Int32.ofNat (own_dnF 16 ks is (ks.getD n 0) n 0).2.2)) (x := (ks.getD n 0)) (own_dnF 16 ks is (ks.getD n 0) n 0).2.2 (own_ix _ (by omega)) (by rw [len_kb]; exact hlt) (Ls := #[.val (.ref a), .val (.int (is.getD 0 0)), .val (.long (ks.getD n 0)), .second, .val (.int (is.getD n 0)), .val (.int (Int32.ofNat (own_dnF 16 ks is (ks.getD n 0) n 0).2.2)), s6']) (rest := []) (hb hby d4_150)
  have f26 := E_b.wr W25
  have f27 := F_kb.other W25 (Or.inl ne_a_ka)
  have f28 := F_ib.other W25 (Or.inl ne_a_ka)
  have f29 := F_sb.other W25 (Or.inl ne_a_ka)
  have f31 := V_ib.other W25 (Ne.symm ne_ka_ia)
  have N25 := Fr.snoc X25 NL g_ka
  have K25 : Keep h0 h25 [a, ka, ia] := KL.wr W25 (Or.inl (List.mem_of_getElem? (i := 1) rfl))
  have g25 : own_Go p e below s₁ (entryFrame m #[(.ref a)] 7) T25 (mkF m 151 #[.val (.ref a), .val (.int (is.getD 0 0)), .val (.long (ks.getD n 0)), .second, .val (.int (is.getD n 0)), .val (.int (Int32.ofNat (own_dnF 16 ks is (ks.getD n 0) n 0).2.2)), s6'] []) := fun t kt => g24 t (st25 _ kt)
  have g32 : own_Go p e below s₁ (entryFrame m #[(.ref a)] 7) T25 (mkF m 152 #[.val (.ref a), .val (.int (is.getD 0 0)), .val (.long (ks.getD n 0)), .second, .val (.int (is.getD n 0)), .val (.int (Int32.ofNat (own_dnF 16 ks is (ks.getD n 0) n 0).2.2)), s6'] [(.ref a)]) := fun t kt => g25 t (by
    show Steps p.tables e below (T25.setTop (mkF m 151 #[.val (.ref a), .val (.int (is.getD 0 0)), .val (.long (ks.getD n 0)), .second, .val (.int (is.getD n 0)), .val (.int (Int32.ofNat (own_dnF 16 ks is (ks.getD n 0) n 0).2.2)), s6'] [])) _
    refine XS.aloadN X25.here hx rfl (hb hby d4_151) rfl rfl ?_
    exact kt)
  obtain ⟨T33, X33, e33, st33⟩ := getF X25 hx hZ hown (host := "") (Or.inl (hw _ (List.mem_of_getElem? (i := 13) rfl))) Via.refl e25 f28 (g := (mkF m 152 #[.val (.ref a), .val (.int (is.getD 0 0)), .val (.long (ks.getD n 0)), .second, .val (.int (is.getD n 0)), .val (.int (Int32.ofNat (own_dnF 16 ks is (ks.getD n 0) n 0).2.2)), s6'] [(.ref a)])) rfl rfl (hb hby d4_152)
  have g33 : own_Go p e below s₁ (entryFrame m #[(.ref a)] 7) T33 (mkF m 155 #[.val (.ref a), .val (.int (is.getD 0 0)), .val (.long (ks.getD n 0)), .second, .val (.int (is.getD n 0)), .val (.int (Int32.ofNat (own_dnF 16 ks is (ks.getD n 0) n 0).2.2)), s6'] [(.ref ia)]) := fun t kt => g32 t (st33 _ kt)
  have g34 : own_Go p e below s₁ (entryFrame m #[(.ref a)] 7) T33 (mkF m 159 #[.val (.ref a), .val (.int (is.getD 0 0)), .val (.long (ks.getD n 0)), .second, .val (.int (is.getD n 0)), .val (.int (Int32.ofNat (own_dnF 16 ks is (ks.getD n 0) n 0).2.2)), s6'] [(.int (is.getD n 0)), (.int (Int32.ofNat (own_dnF 16 ks is (ks.getD n 0) n 0).2.2)), (.ref ia)]) := fun t kt => g33 t (by
    show Steps p.tables e below (T33.setTop (mkF m 155 #[.val (.ref a), .val (.int (is.getD 0 0)), .val (.long (ks.getD n 0)), .second, .val (.int (is.getD n 0)), .val (.int (Int32.ofNat (own_dnF 16 ks is (ks.getD n 0) n 0).2.2)), s6'] [(.ref ia)])) _
    refine XS.iload X33.here hx rfl (hb hby d4_155) rfl ?_
    show Steps p.tables e below (T33.setTop (mkF m 157 #[.val (.ref a), .val (.int (is.getD 0 0)), .val (.long (ks.getD n 0)), .second, .val (.int (is.getD n 0)), .val (.int (Int32.ofNat (own_dnF 16 ks is (ks.getD n 0) n 0).2.2)), s6'] [(.int (Int32.ofNat (own_dnF 16 ks is (ks.getD n 0) n 0).2.2)), (.ref ia)])) _
    refine XS.iload X33.here hx rfl (hb hby d4_157) rfl ?_
    exact kt)
  obtain ⟨T35, h35, X35, e35, W35, V35, st35⟩ := own_stI X33 hx hZ e33 f31 (j := (Int32.ofNat (own_dnF 16 ks is (ks.getD n 0) n 0).2.2)) (x := (is.getD n 0)) (own_dnF 16 ks is (ks.getD n 0) n 0).2.2 (own_ix _ (by omega)) (by rw [len_ib]; exact hlt) (Ls := #[.val (.ref a), .val (.int (is.getD 0 0)), .val (.long (ks.getD n 0)), .second, .val (.int (is.getD n 0)), .val (.int (Int32.ofNat (own_dnF 16 ks is (ks.getD n 0) n 0).2.2)), s6']) (rest := []) (hb hby d4_159)
  have f36 := f26.wr W35
  have f37 := f27.other W35 (Or.inl ne_a_ia)
  have f38 := f28.other W35 (Or.inl ne_a_ia)
  have f39 := f29.other W35 (Or.inl ne_a_ia)
  have f40 := V25.other W35 ne_ka_ia
  have N35 := Fr.snoc X35 N25 g_ia
  have K35 : Keep h0 h35 [a, ka, ia] := K25.wr W35 (Or.inl (List.mem_of_getElem? (i := 2) rfl))
  have g35 : own_Go p e below s₁ (entryFrame m #[(.ref a)] 7) T35 (mkF m 160 #[.val (.ref a), .val (.int (is.getD 0 0)), .val (.long (ks.getD n 0)), .second, .val (.int (is.getD n 0)), .val (.int (Int32.ofNat (own_dnF 16 ks is (ks.getD n 0) n 0).2.2)), s6'] []) := fun t kt => g34 t (st35 _ kt)
  have g42 : own_Go p e below s₁ (entryFrame m #[(.ref a)] 7) T35 (mkF m 161 #[.val (.ref a), .val (.int (is.getD 0 0)), .val (.long (ks.getD n 0)), .second, .val (.int (is.getD n 0)), .val (.int (Int32.ofNat (own_dnF 16 ks is (ks.getD n 0) n 0).2.2)), s6'] [(.int (is.getD 0 0))]) := fun t kt => g35 t (by
    show Steps p.tables e below (T35.setTop (mkF m 160 #[.val (.ref a), .val (.int (is.getD 0 0)), .val (.long (ks.getD n 0)), .second, .val (.int (is.getD n 0)), .val (.int (Int32.ofNat (own_dnF 16 ks is (ks.getD n 0) n 0).2.2)), s6'] [])) _
    refine XS.iloadN X35.here hx rfl (hb hby d4_160) rfl ?_
    exact kt)
  obtain ⟨fs, hr, hrun, hended, hW, hsame⟩ := X35.leave (v := some (.int (is.getD 0 0))) (fun h => by rw [Bd.returns] at h; cases h)
  refine ⟨_, _, g42 _ (retI X35 hx Bd.returns (hb hby d4_161) hr), hrun, hended, _, _, rfl, ?_, ⟨_, rfl⟩, hW, hsame.mono (by decide) (by decide)⟩
  show Q_rm4 Z a ka kc ia ic ks is n h0 n0 _ T35.heap _
  rw [e35]
  exact ⟨rfl, N35, K35, ⟨f36, f37, f38, f39, f40, V35, ne_a_ka, ne_a_ia, ne_ka_ia, (by simpa [own_pop] using len_kb), (by simpa [own_pop] using len_ib)⟩⟩
theorem d5_0 : decode method_2_code 0 = .ok (.iload_n 2, 1) := by decide +kernel
theorem d5_1 : decode method_2_code 1 = .ok (.ifCond .lt 8, 3) := by decide +kernel
theorem d5_4 : decode method_2_code 4 = .ok (.iload_n 2, 1) := by decide +kernel
theorem d5_5 : decode method_2_code 5 = .ok (.iconst 4, 1) := by decide +kernel
theorem d5_6 : decode method_2_code 6 = .ok (.if_icmp .le 5, 3) := by decide +kernel
theorem d5_9 : decode method_2_code 9 = .ok (.iconst 0, 1) := by decide +kernel
theorem d5_10 : decode method_2_code 10 = .ok (.ireturn, 1) := by decide +kernel
theorem d5_11 : decode method_2_code 11 = .ok (.iload_n 1, 1) := by decide +kernel
theorem d5_12 : decode method_2_code 12 = .ok (.iload_n 2, 1) := by decide +kernel
theorem d5_13 : decode method_2_code 13 = .ok (.ishr, 1) := by decide +kernel
theorem d5_14 : decode method_2_code 14 = .ok (.iconst 1, 1) := by decide +kernel
theorem d5_15 : decode method_2_code 15 = .ok (.iand, 1) := by decide +kernel
theorem d5_16 : decode method_2_code 16 = .ok (.ifCond .eq 5, 3) := by decide +kernel
theorem d5_19 : decode method_2_code 19 = .ok (.iconst 0, 1) := by decide +kernel
theorem d5_20 : decode method_2_code 20 = .ok (.ireturn, 1) := by decide +kernel
theorem d5_21 : decode method_2_code 21 = .ok (.aload_n 0, 1) := by decide +kernel
theorem d5_22 : decode method_2_code 22 = .ok (.iload_n 2, 1) := by decide +kernel
theorem d5_23 : decode method_2_code 23 = .ok (.laload, 1) := by decide +kernel
theorem d5_24 : decode method_2_code 24 = .ok (.lstore_n 3, 1) := by decide +kernel
theorem d5_25 : decode method_2_code 25 = .ok (.iload_n 1, 1) := by decide +kernel
theorem d5_26 : decode method_2_code 26 = .ok (.iconst 1, 1) := by decide +kernel
theorem d5_27 : decode method_2_code 27 = .ok (.iand, 1) := by decide +kernel
theorem d5_28 : decode method_2_code 28 = .ok (.ifCond .ne 13, 3) := by decide +kernel
theorem d5_31 : decode method_2_code 31 = .ok (.aload_n 0, 1) := by decide +kernel
theorem d5_32 : decode method_2_code 32 = .ok (.iconst 0, 1) := by decide +kernel
theorem d5_33 : decode method_2_code 33 = .ok (.laload, 1) := by decide +kernel
theorem d5_34 : decode method_2_code 34 = .ok (.lload_n 3, 1) := by decide +kernel
theorem d5_35 : decode method_2_code 35 = .ok (.lcmp, 1) := by decide +kernel
theorem d5_36 : decode method_2_code 36 = .ok (.ifCond .ge 5, 3) := by decide +kernel
theorem d5_39 : decode method_2_code 39 = .ok (.iconst 0, 1) := by decide +kernel
theorem d5_40 : decode method_2_code 40 = .ok (.ireturn, 1) := by decide +kernel
theorem d5_41 : decode method_2_code 41 = .ok (.iload_n 1, 1) := by decide +kernel
theorem d5_42 : decode method_2_code 42 = .ok (.iconst 2, 1) := by decide +kernel
theorem d5_43 : decode method_2_code 43 = .ok (.iand, 1) := by decide +kernel
theorem d5_44 : decode method_2_code 44 = .ok (.ifCond .ne 13, 3) := by decide +kernel
theorem d5_47 : decode method_2_code 47 = .ok (.aload_n 0, 1) := by decide +kernel
theorem d5_48 : decode method_2_code 48 = .ok (.iconst 1, 1) := by decide +kernel
theorem d5_49 : decode method_2_code 49 = .ok (.laload, 1) := by decide +kernel
theorem d5_50 : decode method_2_code 50 = .ok (.lload_n 3, 1) := by decide +kernel
theorem d5_51 : decode method_2_code 51 = .ok (.lcmp, 1) := by decide +kernel
theorem d5_52 : decode method_2_code 52 = .ok (.ifCond .ge 5, 3) := by decide +kernel
theorem d5_55 : decode method_2_code 55 = .ok (.iconst 0, 1) := by decide +kernel
theorem d5_56 : decode method_2_code 56 = .ok (.ireturn, 1) := by decide +kernel
theorem d5_57 : decode method_2_code 57 = .ok (.iload_n 1, 1) := by decide +kernel
theorem d5_58 : decode method_2_code 58 = .ok (.iconst 4, 1) := by decide +kernel
theorem d5_59 : decode method_2_code 59 = .ok (.iand, 1) := by decide +kernel
theorem d5_60 : decode method_2_code 60 = .ok (.ifCond .ne 13, 3) := by decide +kernel
theorem d5_63 : decode method_2_code 63 = .ok (.aload_n 0, 1) := by decide +kernel
theorem d5_64 : decode method_2_code 64 = .ok (.iconst 2, 1) := by decide +kernel
theorem d5_65 : decode method_2_code 65 = .ok (.laload, 1) := by decide +kernel
theorem d5_66 : decode method_2_code 66 = .ok (.lload_n 3, 1) := by decide +kernel
theorem d5_67 : decode method_2_code 67 = .ok (.lcmp, 1) := by decide +kernel
theorem d5_68 : decode method_2_code 68 = .ok (.ifCond .ge 5, 3) := by decide +kernel
theorem d5_71 : decode method_2_code 71 = .ok (.iconst 0, 1) := by decide +kernel
theorem d5_72 : decode method_2_code 72 = .ok (.ireturn, 1) := by decide +kernel
theorem d5_73 : decode method_2_code 73 = .ok (.iload_n 1, 1) := by decide +kernel
theorem d5_74 : decode method_2_code 74 = .ok (.bipush 8, 2) := by decide +kernel
theorem d5_76 : decode method_2_code 76 = .ok (.iand, 1) := by decide +kernel
theorem d5_77 : decode method_2_code 77 = .ok (.ifCond .ne 13, 3) := by decide +kernel
theorem d5_80 : decode method_2_code 80 = .ok (.aload_n 0, 1) := by decide +kernel
theorem d5_81 : decode method_2_code 81 = .ok (.iconst 3, 1) := by decide +kernel
theorem d5_82 : decode method_2_code 82 = .ok (.laload, 1) := by decide +kernel
theorem d5_83 : decode method_2_code 83 = .ok (.lload_n 3, 1) := by decide +kernel
theorem d5_84 : decode method_2_code 84 = .ok (.lcmp, 1) := by decide +kernel
theorem d5_85 : decode method_2_code 85 = .ok (.ifCond .ge 5, 3) := by decide +kernel
theorem d5_88 : decode method_2_code 88 = .ok (.iconst 0, 1) := by decide +kernel
theorem d5_89 : decode method_2_code 89 = .ok (.ireturn, 1) := by decide +kernel
theorem d5_90 : decode method_2_code 90 = .ok (.iload_n 1, 1) := by decide +kernel
theorem d5_91 : decode method_2_code 91 = .ok (.bipush 16, 2) := by decide +kernel
theorem d5_93 : decode method_2_code 93 = .ok (.iand, 1) := by decide +kernel
theorem d5_94 : decode method_2_code 94 = .ok (.ifCond .ne 13, 3) := by decide +kernel
theorem d5_97 : decode method_2_code 97 = .ok (.aload_n 0, 1) := by decide +kernel
theorem d5_98 : decode method_2_code 98 = .ok (.iconst 4, 1) := by decide +kernel
theorem d5_99 : decode method_2_code 99 = .ok (.laload, 1) := by decide +kernel
theorem d5_100 : decode method_2_code 100 = .ok (.lload_n 3, 1) := by decide +kernel
theorem d5_101 : decode method_2_code 101 = .ok (.lcmp, 1) := by decide +kernel
theorem d5_102 : decode method_2_code 102 = .ok (.ifCond .ge 5, 3) := by decide +kernel
theorem d5_105 : decode method_2_code 105 = .ok (.iconst 0, 1) := by decide +kernel
theorem d5_106 : decode method_2_code 106 = .ok (.ireturn, 1) := by decide +kernel
theorem d5_107 : decode method_2_code 107 = .ok (.iconst 1, 1) := by decide +kernel
theorem d5_108 : decode method_2_code 108 = .ok (.ireturn, 1) := by decide +kernel
theorem pn_5 : plainName "com/example/pincer/pincer/engine/MinHeapPopPinLaw" = true := by first | (simp [plainName, overriddenIn]; done) | decide +kernel
theorem ef_rm5 (m : MethodId) (x0 : Addr) (x1 : Int32) (x2 : Int32) : entryFrame m #[(.ref x0), (.int x1), (.int x2)] 5 = mkF m 0 #[.val (.ref x0), .val (.int x1), .val (.int x2), .unset, .unset] [] := by first | (simp [entryFrame, mkF, argsToLocals, Value.category]; done) | rfl
def Q_rm5 (Z : State) (h0 : Heap) (n0 : Nat) (v : Option Value) (h : Heap) (L : List Loc) : Prop := v = some (.int (1 : Int32)) ∧ Fr n0 L ∧ h = h0
set_option maxRecDepth 65536 in
set_option maxHeartbeats 40000000 in
theorem rm5 (l : Launch) (Z : State) (a0 : Array Value) (hw : ∀ d ∈ tables_1, d.before a0 Z = true) (ws : List Jvm.Cond) (kk : Addr) (mask : Int32) (rr : Int32) (kc : ClassId) (K : List Int64) (r : Nat) (h0 : Heap) (n0 : Nat) (Z0 : n0 ≤ h0.size) (V0 : own_LJ Z h0 kk kc 5 K) (hl : K.length = 5) (hr : r < 5) (hrr : rr = Int32.ofNat r) (hbit : ((mask >>> (rr &&& 31)) &&& 1) = 0) (hj0 : mask &&& 1 = 0 → ¬ (K.getD 0 0 < K.getD r 0)) (hj1 : mask &&& 2 = 0 → ¬ (K.getD 1 0 < K.getD r 0)) (hj2 : mask &&& 4 = 0 → ¬ (K.getD 2 0 < K.getD r 0)) (hj3 : mask &&& 8 = 0 → ¬ (K.getD 3 0 < K.getD r 0)) (hj4 : mask &&& 16 = 0 → ¬ (K.getD 4 0 < K.getD r 0)) :
    MetFree l (⟨"com/example/pincer/pincer/engine/MinHeapPopPinLaw", "ok", "([JII)Z"⟩ : MethodName) (head1 (Jvm.Cond.code (⟨"com/example/pincer/pincer/engine/MinHeapPopPinLaw", "ok", "([JII)Z"⟩ : MethodName) method_2_code 5 (some .boolean) :: ws) ({ frames := 0, cells := 0, slots := 0, locals := 0 } : Room)) (fun args_ U => args_ = #[(.ref kk), (.int mask), (.int rr)] ∧ Z.Warmed39 U.vm ∧ U.heap = h0) (fun _ _ _ _ _ => True) (fun _ U o U' => ∃ v L, o = .returned v ∧ Q_rm5 Z  h0 n0 v U'.heap L ∧ FrameEnd U o U' L (({ frames := 0, cells := 0, slots := 0, locals := 0 } : Room)).cells (({ frames := 0, cells := 0, slots := 0, locals := 0 } : Room)).slots) := by
  refine MetFree.of_bodySF (plainFor_of_name pn_5) hisR ?_
  intro p e s m args below meth c s₁ Bd hml0 hP hK
  obtain ⟨rfl, hZ, hh⟩ := hP
  have hx := Bd.exec
  have hby := Bd.bytes
  have hml : c.maxLocals = 5 := hml0
  have hown : s.vm.findClass "com/example/pincer/pincer/engine/MinHeapPopPinLaw" = some m.cls := findClass_of_methodNamed Bd.named
  have hnm := (name_of_methodNamed Bd.named Bd.method).1
  have X0 : Stand p l e ({ frames := 0, cells := 0, slots := 0, locals := 0 } : Room) s m #[(.ref kk), (.int mask), (.int rr)] below meth c s₁ [] 0 0 := Stand.of_body Bd
  have e0 : s₁.heap = h0 := by rw [← hh, Bd.state]; rfl
  have N0 := Fr.nil n0
  have g0 : own_Go p e below s₁ (entryFrame m #[(.ref kk), (.int mask), (.int rr)] 5) s₁ (mkF m 0 #[.val (.ref kk), .val (.int mask), .val (.int rr), .unset, .unset] []) := fun t k => castTop (ef_rm5 m kk mask rr) k
  have hr0 : ¬ rr < 0 := by rw [hrr]; exact (own_ix r (by omega)).1
  have hr4 : ¬ (4 : Int32) < rr := by rw [hrr]; exact fun z => by have := (own_lts (x := 4) (y := r) (by omega) (by omega)).mp z; omega
  have hri : ¬ rr < 0 ∧ rr.toNatClampNeg = r := by rw [hrr]; exact own_ix r (by omega)
  have g1 : own_Go p e below s₁ (entryFrame m #[(.ref kk), (.int mask), (.int rr)] 5) s₁ (mkF m 28 #[.val (.ref kk), .val (.int mask), .val (.int rr), .val (.long (K.getD r 0)), .second] [(.int (mask &&& (1 : Int32)))]) := fun t kt => g0 t (by
    show Steps p.tables e below (s₁.setTop (mkF m 0 #[.val (.ref kk), .val (.int mask), .val (.int rr), .unset, .unset] [])) _
    refine XS.iloadN X0.here hx rfl (hb hby d5_0) rfl ?_
    show Steps p.tables e below (s₁.setTop (mkF m 1 #[.val (.ref kk), .val (.int mask), .val (.int rr), .unset, .unset] [(.int rr)])) _
    refine XS.ifNo X0.here hx rfl (hb hby d5_1) rfl ((if0 _ _).trans (flt hr0).1) ?_
    show Steps p.tables e below (s₁.setTop (mkF m 4 #[.val (.ref kk), .val (.int mask), .val (.int rr), .unset, .unset] [])) _
    refine XS.iloadN X0.here hx rfl (hb hby d5_4) rfl ?_
    show Steps p.tables e below (s₁.setTop (mkF m 5 #[.val (.ref kk), .val (.int mask), .val (.int rr), .unset, .unset] [(.int rr)])) _
    refine XS.iconst X0.here hx rfl (hb hby d5_5) ?_
    show Steps p.tables e below (s₁.setTop (mkF m 6 #[.val (.ref kk), .val (.int mask), .val (.int rr), .unset, .unset] [(.int (4 : Int32)), (.int rr)])) _
    refine XS.icmpYes X0.here hx rfl (pc0 := 6) (pc' := 11) rfl (hb hby d5_6) rfl (flt hr4).2.2.2 (by decide) (by decide) ?_
    show Steps p.tables e below (s₁.setTop (mkF m 11 #[.val (.ref kk), .val (.int mask), .val (.int rr), .unset, .unset] [])) _
    refine XS.iloadN X0.here hx rfl (hb hby d5_11) rfl ?_
    show Steps p.tables e below (s₁.setTop (mkF m 12 #[.val (.ref kk), .val (.int mask), .val (.int rr), .unset, .unset] [(.int mask)])) _
    refine XS.iloadN X0.here hx rfl (hb hby d5_12) rfl ?_
    show Steps p.tables e below (s₁.setTop (mkF m 13 #[.val (.ref kk), .val (.int mask), .val (.int rr), .unset, .unset] [(.int rr), (.int mask)])) _
    refine XS.ishr X0.here hx rfl (hb hby d5_13) rfl ?_
    show Steps p.tables e below (s₁.setTop (mkF m 14 #[.val (.ref kk), .val (.int mask), .val (.int rr), .unset, .unset] [(.int (mask >>> (rr &&& 31)))])) _
    refine XS.iconst X0.here hx rfl (hb hby d5_14) ?_
    show Steps p.tables e below (s₁.setTop (mkF m 15 #[.val (.ref kk), .val (.int mask), .val (.int rr), .unset, .unset] [(.int (1 : Int32)), (.int (mask >>> (rr &&& 31)))])) _
    refine XS.iand X0.here hx rfl (hb hby d5_15) rfl ?_
    show Steps p.tables e below (s₁.setTop (mkF m 16 #[.val (.ref kk), .val (.int mask), .val (.int rr), .unset, .unset] [(.int ((mask >>> (rr &&& 31)) &&& (1 : Int32)))])) _
    refine XS.ifYes X0.here hx rfl (pc0 := 16) (pc' := 21) rfl (hb hby d5_16) rfl ((if0 _ _).trans (teq hbit).1) (by decide) (by decide) ?_
    show Steps p.tables e below (s₁.setTop (mkF m 21 #[.val (.ref kk), .val (.int mask), .val (.int rr), .unset, .unset] [])) _
    refine XS.aloadN X0.here hx rfl (hb hby d5_21) rfl rfl ?_
    show Steps p.tables e below (s₁.setTop (mkF m 22 #[.val (.ref kk), .val (.int mask), .val (.int rr), .unset, .unset] [(.ref kk)])) _
    refine XS.iloadN X0.here hx rfl (hb hby d5_22) rfl ?_
    show Steps p.tables e below (s₁.setTop (mkF m 23 #[.val (.ref kk), .val (.int mask), .val (.int rr), .unset, .unset] [(.int rr), (.ref kk)])) _
    refine own_ldJ X0 hx hZ e0 V0 r hri (by rw [hl]; exact hr) (hb hby d5_23) _ ?_
    show Steps p.tables e below (s₁.setTop (mkF m 24 #[.val (.ref kk), .val (.int mask), .val (.int rr), .unset, .unset] [(.long (K.getD r 0))])) _
    refine XS.lstoreN X0.here hx rfl (hb hby d5_24) rfl (l' := #[.val (.ref kk), .val (.int mask), .val (.int rr), .val (.long (K.getD r 0)), .second]) rfl ?_
    show Steps p.tables e below (s₁.setTop (mkF m 25 #[.val (.ref kk), .val (.int mask), .val (.int rr), .val (.long (K.getD r 0)), .second] [])) _
    refine XS.iloadN X0.here hx rfl (hb hby d5_25) rfl ?_
    show Steps p.tables e below (s₁.setTop (mkF m 26 #[.val (.ref kk), .val (.int mask), .val (.int rr), .val (.long (K.getD r 0)), .second] [(.int mask)])) _
    refine XS.iconst X0.here hx rfl (hb hby d5_26) ?_
    show Steps p.tables e below (s₁.setTop (mkF m 27 #[.val (.ref kk), .val (.int mask), .val (.int rr), .val (.long (K.getD r 0)), .second] [(.int (1 : Int32)), (.int mask)])) _
    refine XS.iand X0.here hx rfl (hb hby d5_27) rfl ?_
    exact kt)
  have g2 : own_Go p e below s₁ (entryFrame m #[(.ref kk), (.int mask), (.int rr)] 5) s₁ (mkF m 41 #[.val (.ref kk), .val (.int mask), .val (.int rr), .val (.long (K.getD r 0)), .second] []) := by
    by_cases hm : mask &&& 1 = 0
    · have g3 : own_Go p e below s₁ (entryFrame m #[(.ref kk), (.int mask), (.int rr)] 5) s₁ (mkF m 41 #[.val (.ref kk), .val (.int mask), .val (.int rr), .val (.long (K.getD r 0)), .second] []) := fun t kt => g1 t (by
        show Steps p.tables e below (s₁.setTop (mkF m 28 #[.val (.ref kk), .val (.int mask), .val (.int rr), .val (.long (K.getD r 0)), .second] [(.int (mask &&& (1 : Int32)))])) _
        refine XS.ifNo X0.here hx rfl (hb hby d5_28) rfl ((if0 _ _).trans (teq hm).2) ?_
        show Steps p.tables e below (s₁.setTop (mkF m 31 #[.val (.ref kk), .val (.int mask), .val (.int rr), .val (.long (K.getD r 0)), .second] [])) _
        refine XS.aloadN X0.here hx rfl (hb hby d5_31) rfl rfl ?_
        show Steps p.tables e below (s₁.setTop (mkF m 32 #[.val (.ref kk), .val (.int mask), .val (.int rr), .val (.long (K.getD r 0)), .second] [(.ref kk)])) _
        refine XS.iconst X0.here hx rfl (hb hby d5_32) ?_
        show Steps p.tables e below (s₁.setTop (mkF m 33 #[.val (.ref kk), .val (.int mask), .val (.int rr), .val (.long (K.getD r 0)), .second] [(.int (0 : Int32)), (.ref kk)])) _
        refine own_ldJ X0 hx hZ e0 V0 0 (by decide) (by rw [hl]; decide) (hb hby d5_33) _ ?_
        show Steps p.tables e below (s₁.setTop (mkF m 34 #[.val (.ref kk), .val (.int mask), .val (.int rr), .val (.long (K.getD r 0)), .second] [(.long (K.getD 0 0))])) _
        refine XS.lloadN X0.here hx rfl (hb hby d5_34) rfl ?_
        show Steps p.tables e below (s₁.setTop (mkF m 35 #[.val (.ref kk), .val (.int mask), .val (.int rr), .val (.long (K.getD r 0)), .second] [(.long (K.getD r 0)), (.long (K.getD 0 0))])) _
        refine XS.lcmp X0.here hx rfl (hb hby d5_35) rfl ?_
        show Steps p.tables e below (s₁.setTop (mkF m 36 #[.val (.ref kk), .val (.int mask), .val (.int rr), .val (.long (K.getD r 0)), .second] [(.int (lcmpW (K.getD 0 0) (K.getD r 0)))])) _
        refine XS.ifYes X0.here hx rfl (pc0 := 36) (pc' := 41) rfl (hb hby d5_36) rfl ((if0 _ _).trans (flt (fun z => hj0 hm ((lw_lt _ _).mp z))).2.1) (by decide) (by decide) ?_
        exact kt)
      exact g3
    · have g4 : own_Go p e below s₁ (entryFrame m #[(.ref kk), (.int mask), (.int rr)] 5) s₁ (mkF m 41 #[.val (.ref kk), .val (.int mask), .val (.int rr), .val (.long (K.getD r 0)), .second] []) := fun t kt => g1 t (by
        show Steps p.tables e below (s₁.setTop (mkF m 28 #[.val (.ref kk), .val (.int mask), .val (.int rr), .val (.long (K.getD r 0)), .second] [(.int (mask &&& (1 : Int32)))])) _
        refine XS.ifYes X0.here hx rfl (pc0 := 28) (pc' := 41) rfl (hb hby d5_28) rfl ((if0 _ _).trans (feq hm).2) (by decide) (by decide) ?_
        exact kt)
      exact g4
  have g5 : own_Go p e below s₁ (entryFrame m #[(.ref kk), (.int mask), (.int rr)] 5) s₁ (mkF m 44 #[.val (.ref kk), .val (.int mask), .val (.int rr), .val (.long (K.getD r 0)), .second] [(.int (mask &&& (2 : Int32)))]) := fun t kt => g2 t (by
    show Steps p.tables e below (s₁.setTop (mkF m 41 #[.val (.ref kk), .val (.int mask), .val (.int rr), .val (.long (K.getD r 0)), .second] [])) _
    refine XS.iloadN X0.here hx rfl (hb hby d5_41) rfl ?_
    show Steps p.tables e below (s₁.setTop (mkF m 42 #[.val (.ref kk), .val (.int mask), .val (.int rr), .val (.long (K.getD r 0)), .second] [(.int mask)])) _
    refine XS.iconst X0.here hx rfl (hb hby d5_42) ?_
    show Steps p.tables e below (s₁.setTop (mkF m 43 #[.val (.ref kk), .val (.int mask), .val (.int rr), .val (.long (K.getD r 0)), .second] [(.int (2 : Int32)), (.int mask)])) _
    refine XS.iand X0.here hx rfl (hb hby d5_43) rfl ?_
    exact kt)
  have g6 : own_Go p e below s₁ (entryFrame m #[(.ref kk), (.int mask), (.int rr)] 5) s₁ (mkF m 57 #[.val (.ref kk), .val (.int mask), .val (.int rr), .val (.long (K.getD r 0)), .second] []) := by
    by_cases hm : mask &&& 2 = 0
    · have g7 : own_Go p e below s₁ (entryFrame m #[(.ref kk), (.int mask), (.int rr)] 5) s₁ (mkF m 57 #[.val (.ref kk), .val (.int mask), .val (.int rr), .val (.long (K.getD r 0)), .second] []) := fun t kt => g5 t (by
        show Steps p.tables e below (s₁.setTop (mkF m 44 #[.val (.ref kk), .val (.int mask), .val (.int rr), .val (.long (K.getD r 0)), .second] [(.int (mask &&& (2 : Int32)))])) _
        refine XS.ifNo X0.here hx rfl (hb hby d5_44) rfl ((if0 _ _).trans (teq hm).2) ?_
        show Steps p.tables e below (s₁.setTop (mkF m 47 #[.val (.ref kk), .val (.int mask), .val (.int rr), .val (.long (K.getD r 0)), .second] [])) _
        refine XS.aloadN X0.here hx rfl (hb hby d5_47) rfl rfl ?_
        show Steps p.tables e below (s₁.setTop (mkF m 48 #[.val (.ref kk), .val (.int mask), .val (.int rr), .val (.long (K.getD r 0)), .second] [(.ref kk)])) _
        refine XS.iconst X0.here hx rfl (hb hby d5_48) ?_
        show Steps p.tables e below (s₁.setTop (mkF m 49 #[.val (.ref kk), .val (.int mask), .val (.int rr), .val (.long (K.getD r 0)), .second] [(.int (1 : Int32)), (.ref kk)])) _
        refine own_ldJ X0 hx hZ e0 V0 1 (by decide) (by rw [hl]; decide) (hb hby d5_49) _ ?_
        show Steps p.tables e below (s₁.setTop (mkF m 50 #[.val (.ref kk), .val (.int mask), .val (.int rr), .val (.long (K.getD r 0)), .second] [(.long (K.getD 1 0))])) _
        refine XS.lloadN X0.here hx rfl (hb hby d5_50) rfl ?_
        show Steps p.tables e below (s₁.setTop (mkF m 51 #[.val (.ref kk), .val (.int mask), .val (.int rr), .val (.long (K.getD r 0)), .second] [(.long (K.getD r 0)), (.long (K.getD 1 0))])) _
        refine XS.lcmp X0.here hx rfl (hb hby d5_51) rfl ?_
        show Steps p.tables e below (s₁.setTop (mkF m 52 #[.val (.ref kk), .val (.int mask), .val (.int rr), .val (.long (K.getD r 0)), .second] [(.int (lcmpW (K.getD 1 0) (K.getD r 0)))])) _
        refine XS.ifYes X0.here hx rfl (pc0 := 52) (pc' := 57) rfl (hb hby d5_52) rfl ((if0 _ _).trans (flt (fun z => hj1 hm ((lw_lt _ _).mp z))).2.1) (by decide) (by decide) ?_
        exact kt)
      exact g7
    · have g8 : own_Go p e below s₁ (entryFrame m #[(.ref kk), (.int mask), (.int rr)] 5) s₁ (mkF m 57 #[.val (.ref kk), .val (.int mask), .val (.int rr), .val (.long (K.getD r 0)), .second] []) := fun t kt => g5 t (by
        show Steps p.tables e below (s₁.setTop (mkF m 44 #[.val (.ref kk), .val (.int mask), .val (.int rr), .val (.long (K.getD r 0)), .second] [(.int (mask &&& (2 : Int32)))])) _
        refine XS.ifYes X0.here hx rfl (pc0 := 44) (pc' := 57) rfl (hb hby d5_44) rfl ((if0 _ _).trans (feq hm).2) (by decide) (by decide) ?_
        exact kt)
      exact g8
  have g9 : own_Go p e below s₁ (entryFrame m #[(.ref kk), (.int mask), (.int rr)] 5) s₁ (mkF m 60 #[.val (.ref kk), .val (.int mask), .val (.int rr), .val (.long (K.getD r 0)), .second] [(.int (mask &&& (4 : Int32)))]) := fun t kt => g6 t (by
    show Steps p.tables e below (s₁.setTop (mkF m 57 #[.val (.ref kk), .val (.int mask), .val (.int rr), .val (.long (K.getD r 0)), .second] [])) _
    refine XS.iloadN X0.here hx rfl (hb hby d5_57) rfl ?_
    show Steps p.tables e below (s₁.setTop (mkF m 58 #[.val (.ref kk), .val (.int mask), .val (.int rr), .val (.long (K.getD r 0)), .second] [(.int mask)])) _
    refine XS.iconst X0.here hx rfl (hb hby d5_58) ?_
    show Steps p.tables e below (s₁.setTop (mkF m 59 #[.val (.ref kk), .val (.int mask), .val (.int rr), .val (.long (K.getD r 0)), .second] [(.int (4 : Int32)), (.int mask)])) _
    refine XS.iand X0.here hx rfl (hb hby d5_59) rfl ?_
    exact kt)
  have g10 : own_Go p e below s₁ (entryFrame m #[(.ref kk), (.int mask), (.int rr)] 5) s₁ (mkF m 73 #[.val (.ref kk), .val (.int mask), .val (.int rr), .val (.long (K.getD r 0)), .second] []) := by
    by_cases hm : mask &&& 4 = 0
    · have g11 : own_Go p e below s₁ (entryFrame m #[(.ref kk), (.int mask), (.int rr)] 5) s₁ (mkF m 73 #[.val (.ref kk), .val (.int mask), .val (.int rr), .val (.long (K.getD r 0)), .second] []) := fun t kt => g9 t (by
        show Steps p.tables e below (s₁.setTop (mkF m 60 #[.val (.ref kk), .val (.int mask), .val (.int rr), .val (.long (K.getD r 0)), .second] [(.int (mask &&& (4 : Int32)))])) _
        refine XS.ifNo X0.here hx rfl (hb hby d5_60) rfl ((if0 _ _).trans (teq hm).2) ?_
        show Steps p.tables e below (s₁.setTop (mkF m 63 #[.val (.ref kk), .val (.int mask), .val (.int rr), .val (.long (K.getD r 0)), .second] [])) _
        refine XS.aloadN X0.here hx rfl (hb hby d5_63) rfl rfl ?_
        show Steps p.tables e below (s₁.setTop (mkF m 64 #[.val (.ref kk), .val (.int mask), .val (.int rr), .val (.long (K.getD r 0)), .second] [(.ref kk)])) _
        refine XS.iconst X0.here hx rfl (hb hby d5_64) ?_
        show Steps p.tables e below (s₁.setTop (mkF m 65 #[.val (.ref kk), .val (.int mask), .val (.int rr), .val (.long (K.getD r 0)), .second] [(.int (2 : Int32)), (.ref kk)])) _
        refine own_ldJ X0 hx hZ e0 V0 2 (by decide) (by rw [hl]; decide) (hb hby d5_65) _ ?_
        show Steps p.tables e below (s₁.setTop (mkF m 66 #[.val (.ref kk), .val (.int mask), .val (.int rr), .val (.long (K.getD r 0)), .second] [(.long (K.getD 2 0))])) _
        refine XS.lloadN X0.here hx rfl (hb hby d5_66) rfl ?_
        show Steps p.tables e below (s₁.setTop (mkF m 67 #[.val (.ref kk), .val (.int mask), .val (.int rr), .val (.long (K.getD r 0)), .second] [(.long (K.getD r 0)), (.long (K.getD 2 0))])) _
        refine XS.lcmp X0.here hx rfl (hb hby d5_67) rfl ?_
        show Steps p.tables e below (s₁.setTop (mkF m 68 #[.val (.ref kk), .val (.int mask), .val (.int rr), .val (.long (K.getD r 0)), .second] [(.int (lcmpW (K.getD 2 0) (K.getD r 0)))])) _
        refine XS.ifYes X0.here hx rfl (pc0 := 68) (pc' := 73) rfl (hb hby d5_68) rfl ((if0 _ _).trans (flt (fun z => hj2 hm ((lw_lt _ _).mp z))).2.1) (by decide) (by decide) ?_
        exact kt)
      exact g11
    · have g12 : own_Go p e below s₁ (entryFrame m #[(.ref kk), (.int mask), (.int rr)] 5) s₁ (mkF m 73 #[.val (.ref kk), .val (.int mask), .val (.int rr), .val (.long (K.getD r 0)), .second] []) := fun t kt => g9 t (by
        show Steps p.tables e below (s₁.setTop (mkF m 60 #[.val (.ref kk), .val (.int mask), .val (.int rr), .val (.long (K.getD r 0)), .second] [(.int (mask &&& (4 : Int32)))])) _
        refine XS.ifYes X0.here hx rfl (pc0 := 60) (pc' := 73) rfl (hb hby d5_60) rfl ((if0 _ _).trans (feq hm).2) (by decide) (by decide) ?_
        exact kt)
      exact g12
  have g13 : own_Go p e below s₁ (entryFrame m #[(.ref kk), (.int mask), (.int rr)] 5) s₁ (mkF m 77 #[.val (.ref kk), .val (.int mask), .val (.int rr), .val (.long (K.getD r 0)), .second] [(.int (mask &&& (8 : Int32)))]) := fun t kt => g10 t (by
    show Steps p.tables e below (s₁.setTop (mkF m 73 #[.val (.ref kk), .val (.int mask), .val (.int rr), .val (.long (K.getD r 0)), .second] [])) _
    refine XS.iloadN X0.here hx rfl (hb hby d5_73) rfl ?_
    show Steps p.tables e below (s₁.setTop (mkF m 74 #[.val (.ref kk), .val (.int mask), .val (.int rr), .val (.long (K.getD r 0)), .second] [(.int mask)])) _
    refine XS.bipush X0.here hx rfl (hb hby d5_74) ?_
    show Steps p.tables e below (s₁.setTop (mkF m 76 #[.val (.ref kk), .val (.int mask), .val (.int rr), .val (.long (K.getD r 0)), .second] [(.int (8 : Int32)), (.int mask)])) _
    refine XS.iand X0.here hx rfl (hb hby d5_76) rfl ?_
    exact kt)
  have g14 : own_Go p e below s₁ (entryFrame m #[(.ref kk), (.int mask), (.int rr)] 5) s₁ (mkF m 90 #[.val (.ref kk), .val (.int mask), .val (.int rr), .val (.long (K.getD r 0)), .second] []) := by
    by_cases hm : mask &&& 8 = 0
    · have g15 : own_Go p e below s₁ (entryFrame m #[(.ref kk), (.int mask), (.int rr)] 5) s₁ (mkF m 90 #[.val (.ref kk), .val (.int mask), .val (.int rr), .val (.long (K.getD r 0)), .second] []) := fun t kt => g13 t (by
        show Steps p.tables e below (s₁.setTop (mkF m 77 #[.val (.ref kk), .val (.int mask), .val (.int rr), .val (.long (K.getD r 0)), .second] [(.int (mask &&& (8 : Int32)))])) _
        refine XS.ifNo X0.here hx rfl (hb hby d5_77) rfl ((if0 _ _).trans (teq hm).2) ?_
        show Steps p.tables e below (s₁.setTop (mkF m 80 #[.val (.ref kk), .val (.int mask), .val (.int rr), .val (.long (K.getD r 0)), .second] [])) _
        refine XS.aloadN X0.here hx rfl (hb hby d5_80) rfl rfl ?_
        show Steps p.tables e below (s₁.setTop (mkF m 81 #[.val (.ref kk), .val (.int mask), .val (.int rr), .val (.long (K.getD r 0)), .second] [(.ref kk)])) _
        refine XS.iconst X0.here hx rfl (hb hby d5_81) ?_
        show Steps p.tables e below (s₁.setTop (mkF m 82 #[.val (.ref kk), .val (.int mask), .val (.int rr), .val (.long (K.getD r 0)), .second] [(.int (3 : Int32)), (.ref kk)])) _
        refine own_ldJ X0 hx hZ e0 V0 3 (by decide) (by rw [hl]; decide) (hb hby d5_82) _ ?_
        show Steps p.tables e below (s₁.setTop (mkF m 83 #[.val (.ref kk), .val (.int mask), .val (.int rr), .val (.long (K.getD r 0)), .second] [(.long (K.getD 3 0))])) _
        refine XS.lloadN X0.here hx rfl (hb hby d5_83) rfl ?_
        show Steps p.tables e below (s₁.setTop (mkF m 84 #[.val (.ref kk), .val (.int mask), .val (.int rr), .val (.long (K.getD r 0)), .second] [(.long (K.getD r 0)), (.long (K.getD 3 0))])) _
        refine XS.lcmp X0.here hx rfl (hb hby d5_84) rfl ?_
        show Steps p.tables e below (s₁.setTop (mkF m 85 #[.val (.ref kk), .val (.int mask), .val (.int rr), .val (.long (K.getD r 0)), .second] [(.int (lcmpW (K.getD 3 0) (K.getD r 0)))])) _
        refine XS.ifYes X0.here hx rfl (pc0 := 85) (pc' := 90) rfl (hb hby d5_85) rfl ((if0 _ _).trans (flt (fun z => hj3 hm ((lw_lt _ _).mp z))).2.1) (by decide) (by decide) ?_
        exact kt)
      exact g15
    · have g16 : own_Go p e below s₁ (entryFrame m #[(.ref kk), (.int mask), (.int rr)] 5) s₁ (mkF m 90 #[.val (.ref kk), .val (.int mask), .val (.int rr), .val (.long (K.getD r 0)), .second] []) := fun t kt => g13 t (by
        show Steps p.tables e below (s₁.setTop (mkF m 77 #[.val (.ref kk), .val (.int mask), .val (.int rr), .val (.long (K.getD r 0)), .second] [(.int (mask &&& (8 : Int32)))])) _
        refine XS.ifYes X0.here hx rfl (pc0 := 77) (pc' := 90) rfl (hb hby d5_77) rfl ((if0 _ _).trans (feq hm).2) (by decide) (by decide) ?_
        exact kt)
      exact g16
  have g17 : own_Go p e below s₁ (entryFrame m #[(.ref kk), (.int mask), (.int rr)] 5) s₁ (mkF m 94 #[.val (.ref kk), .val (.int mask), .val (.int rr), .val (.long (K.getD r 0)), .second] [(.int (mask &&& (16 : Int32)))]) := fun t kt => g14 t (by
    show Steps p.tables e below (s₁.setTop (mkF m 90 #[.val (.ref kk), .val (.int mask), .val (.int rr), .val (.long (K.getD r 0)), .second] [])) _
    refine XS.iloadN X0.here hx rfl (hb hby d5_90) rfl ?_
    show Steps p.tables e below (s₁.setTop (mkF m 91 #[.val (.ref kk), .val (.int mask), .val (.int rr), .val (.long (K.getD r 0)), .second] [(.int mask)])) _
    refine XS.bipush X0.here hx rfl (hb hby d5_91) ?_
    show Steps p.tables e below (s₁.setTop (mkF m 93 #[.val (.ref kk), .val (.int mask), .val (.int rr), .val (.long (K.getD r 0)), .second] [(.int (16 : Int32)), (.int mask)])) _
    refine XS.iand X0.here hx rfl (hb hby d5_93) rfl ?_
    exact kt)
  have g18 : own_Go p e below s₁ (entryFrame m #[(.ref kk), (.int mask), (.int rr)] 5) s₁ (mkF m 107 #[.val (.ref kk), .val (.int mask), .val (.int rr), .val (.long (K.getD r 0)), .second] []) := by
    by_cases hm : mask &&& 16 = 0
    · have g19 : own_Go p e below s₁ (entryFrame m #[(.ref kk), (.int mask), (.int rr)] 5) s₁ (mkF m 107 #[.val (.ref kk), .val (.int mask), .val (.int rr), .val (.long (K.getD r 0)), .second] []) := fun t kt => g17 t (by
        show Steps p.tables e below (s₁.setTop (mkF m 94 #[.val (.ref kk), .val (.int mask), .val (.int rr), .val (.long (K.getD r 0)), .second] [(.int (mask &&& (16 : Int32)))])) _
        refine XS.ifNo X0.here hx rfl (hb hby d5_94) rfl ((if0 _ _).trans (teq hm).2) ?_
        show Steps p.tables e below (s₁.setTop (mkF m 97 #[.val (.ref kk), .val (.int mask), .val (.int rr), .val (.long (K.getD r 0)), .second] [])) _
        refine XS.aloadN X0.here hx rfl (hb hby d5_97) rfl rfl ?_
        show Steps p.tables e below (s₁.setTop (mkF m 98 #[.val (.ref kk), .val (.int mask), .val (.int rr), .val (.long (K.getD r 0)), .second] [(.ref kk)])) _
        refine XS.iconst X0.here hx rfl (hb hby d5_98) ?_
        show Steps p.tables e below (s₁.setTop (mkF m 99 #[.val (.ref kk), .val (.int mask), .val (.int rr), .val (.long (K.getD r 0)), .second] [(.int (4 : Int32)), (.ref kk)])) _
        refine own_ldJ X0 hx hZ e0 V0 4 (by decide) (by rw [hl]; decide) (hb hby d5_99) _ ?_
        show Steps p.tables e below (s₁.setTop (mkF m 100 #[.val (.ref kk), .val (.int mask), .val (.int rr), .val (.long (K.getD r 0)), .second] [(.long (K.getD 4 0))])) _
        refine XS.lloadN X0.here hx rfl (hb hby d5_100) rfl ?_
        show Steps p.tables e below (s₁.setTop (mkF m 101 #[.val (.ref kk), .val (.int mask), .val (.int rr), .val (.long (K.getD r 0)), .second] [(.long (K.getD r 0)), (.long (K.getD 4 0))])) _
        refine XS.lcmp X0.here hx rfl (hb hby d5_101) rfl ?_
        show Steps p.tables e below (s₁.setTop (mkF m 102 #[.val (.ref kk), .val (.int mask), .val (.int rr), .val (.long (K.getD r 0)), .second] [(.int (lcmpW (K.getD 4 0) (K.getD r 0)))])) _
        refine XS.ifYes X0.here hx rfl (pc0 := 102) (pc' := 107) rfl (hb hby d5_102) rfl ((if0 _ _).trans (flt (fun z => hj4 hm ((lw_lt _ _).mp z))).2.1) (by decide) (by decide) ?_
        exact kt)
      exact g19
    · have g20 : own_Go p e below s₁ (entryFrame m #[(.ref kk), (.int mask), (.int rr)] 5) s₁ (mkF m 107 #[.val (.ref kk), .val (.int mask), .val (.int rr), .val (.long (K.getD r 0)), .second] []) := fun t kt => g17 t (by
        show Steps p.tables e below (s₁.setTop (mkF m 94 #[.val (.ref kk), .val (.int mask), .val (.int rr), .val (.long (K.getD r 0)), .second] [(.int (mask &&& (16 : Int32)))])) _
        refine XS.ifYes X0.here hx rfl (pc0 := 94) (pc' := 107) rfl (hb hby d5_94) rfl ((if0 _ _).trans (feq hm).2) (by decide) (by decide) ?_
        exact kt)
      exact g20
  have g21 : own_Go p e below s₁ (entryFrame m #[(.ref kk), (.int mask), (.int rr)] 5) s₁ (mkF m 108 #[.val (.ref kk), .val (.int mask), .val (.int rr), .val (.long (K.getD r 0)), .second] [(.int (1 : Int32))]) := fun t kt => g18 t (by
    show Steps p.tables e below (s₁.setTop (mkF m 107 #[.val (.ref kk), .val (.int mask), .val (.int rr), .val (.long (K.getD r 0)), .second] [])) _
    refine XS.iconst X0.here hx rfl (hb hby d5_107) ?_
    exact kt)
  obtain ⟨fs, hr, hrun, hended, hW, hsame⟩ := X0.leave (v := some (.int (1 : Int32))) (fun h => by rw [Bd.returns] at h; cases h)
  refine ⟨_, _, g21 _ (retN X0 hx (t := .boolean) Bd.returns (by simp) (hb hby d5_108) hr), hrun, hended, _, _, rfl, ?_, ⟨_, rfl⟩, hW, hsame.mono (by decide) (by decide)⟩
  show Q_rm5 Z  h0 n0 _ s₁.heap _
  rw [e0]
  exact ⟨rfl, N0, rfl⟩
theorem d6_0 : decode prog_99_method_2_code 0 = .ok (.aload_n 0, 1) := by decide +kernel
theorem d6_1 : decode prog_99_method_2_code 1 = .ok (.getfield 17, 3) := by decide +kernel
theorem d6_4 : decode prog_99_method_2_code 4 = .ok (.ifCond .ne 7, 3) := by decide +kernel
theorem d6_7 : decode prog_99_method_2_code 7 = .ok (.iconst 1, 1) := by decide +kernel
theorem d6_8 : decode prog_99_method_2_code 8 = .ok (.goto 4, 3) := by decide +kernel
theorem d6_11 : decode prog_99_method_2_code 11 = .ok (.iconst 0, 1) := by decide +kernel
theorem d6_12 : decode prog_99_method_2_code 12 = .ok (.ireturn, 1) := by decide +kernel
theorem pn_6 : plainName "com/example/pincer/pincer/engine/MinHeap" = true := by first | (simp [plainName, overriddenIn]; done) | decide +kernel
theorem ef_rm6 (m : MethodId) (x0 : Addr) : entryFrame m #[(.ref x0)] 1 = mkF m 0 #[.val (.ref x0)] [] := by first | (simp [entryFrame, mkF, argsToLocals, Value.category]; done) | rfl
def Q_rm6 (Z : State) (h0 : Heap) (n0 : Nat) (v : Option Value) (h : Heap) (L : List Loc) : Prop := v = some (.int (1 : Int32)) ∧ Fr n0 L ∧ h = h0
set_option maxRecDepth 65536 in
set_option maxHeartbeats 40000000 in
theorem rm6 (l : Launch) (Z : State) (a0 : Array Value) (hw : ∀ d ∈ tables_1, d.before a0 Z = true) (ws : List Jvm.Cond) (a : Addr)  (h0 : Heap) (n0 : Nat) (Z0 : n0 ≤ h0.size) (F_s : Fld Z h0 a "com/example/pincer/pincer/engine/MinHeap" "size" "I" (.int (0 : Int32))) :
    MetFree l (⟨"com/example/pincer/pincer/engine/MinHeap", "isEmpty", "()Z"⟩ : MethodName) (head1 (Jvm.Cond.code (⟨"com/example/pincer/pincer/engine/MinHeap", "isEmpty", "()Z"⟩ : MethodName) prog_99_method_2_code 1 (some .boolean) :: ws) ({ frames := 0, cells := 0, slots := 0, locals := 0 } : Room)) (fun args_ U => args_ = #[(.ref a)] ∧ Z.Warmed39 U.vm ∧ U.heap = h0) (fun _ _ _ _ _ => True) (fun _ U o U' => ∃ v L, o = .returned v ∧ Q_rm6 Z  h0 n0 v U'.heap L ∧ FrameEnd U o U' L (({ frames := 0, cells := 0, slots := 0, locals := 0 } : Room)).cells (({ frames := 0, cells := 0, slots := 0, locals := 0 } : Room)).slots) := by
  refine MetFree.of_bodySF (plainFor_of_name pn_6) hisR ?_
  intro p e s m args below meth c s₁ Bd hml0 hP hK
  obtain ⟨rfl, hZ, hh⟩ := hP
  have hx := Bd.exec
  have hby := Bd.bytes
  have hml : c.maxLocals = 1 := hml0
  have hown : s.vm.findClass "com/example/pincer/pincer/engine/MinHeap" = some m.cls := findClass_of_methodNamed Bd.named
  have hnm := (name_of_methodNamed Bd.named Bd.method).1
  have X0 : Stand p l e ({ frames := 0, cells := 0, slots := 0, locals := 0 } : Room) s m #[(.ref a)] below meth c s₁ [] 0 0 := Stand.of_body Bd
  have e0 : s₁.heap = h0 := by rw [← hh, Bd.state]; rfl
  have N0 := Fr.nil n0
  have g0 : own_Go p e below s₁ (entryFrame m #[(.ref a)] 1) s₁ (mkF m 0 #[.val (.ref a)] []) := fun t k => castTop (ef_rm6 m a) k
  have g1 : own_Go p e below s₁ (entryFrame m #[(.ref a)] 1) s₁ (mkF m 1 #[.val (.ref a)] [(.ref a)]) := fun t kt => g0 t (by
    show Steps p.tables e below (s₁.setTop (mkF m 0 #[.val (.ref a)] [])) _
    refine XS.aloadN X0.here hx rfl (hb hby d6_0) rfl rfl ?_
    exact kt)
  obtain ⟨T2, X2, e2, st2⟩ := getF X0 hx hZ hown (host := "") (Or.inl (hw _ (List.mem_of_getElem? (i := 20) rfl))) Via.refl e0 F_s (g := (mkF m 1 #[.val (.ref a)] [(.ref a)])) rfl rfl (hb hby d6_1)
  have g2 : own_Go p e below s₁ (entryFrame m #[(.ref a)] 1) T2 (mkF m 4 #[.val (.ref a)] [(.int (0 : Int32))]) := fun t kt => g1 t (st2 _ kt)
  have g3 : own_Go p e below s₁ (entryFrame m #[(.ref a)] 1) T2 (mkF m 12 #[.val (.ref a)] [(.int (1 : Int32))]) := fun t kt => g2 t (by
    show Steps p.tables e below (T2.setTop (mkF m 4 #[.val (.ref a)] [(.int (0 : Int32))])) _
    refine XS.ifNo X2.here hx rfl (hb hby d6_4) rfl ((if0 _ _).trans (teq rfl).2) ?_
    show Steps p.tables e below (T2.setTop (mkF m 7 #[.val (.ref a)] [])) _
    refine XS.iconst X2.here hx rfl (hb hby d6_7) ?_
    show Steps p.tables e below (T2.setTop (mkF m 8 #[.val (.ref a)] [(.int (1 : Int32))])) _
    refine XS.goto X2.here hx rfl (pc0 := 8) (pc' := 12) rfl (hb hby d6_8) (by decide) (by decide) ?_
    exact kt)
  obtain ⟨fs, hr, hrun, hended, hW, hsame⟩ := X2.leave (v := some (.int (1 : Int32))) (fun h => by rw [Bd.returns] at h; cases h)
  refine ⟨_, _, g3 _ (retN X2 hx (t := .boolean) Bd.returns (by simp) (hb hby d6_12) hr), hrun, hended, _, _, rfl, ?_, ⟨_, rfl⟩, hW, hsame.mono (by decide) (by decide)⟩
  show Q_rm6 Z  h0 n0 _ T2.heap _
  rw [e2]
  exact ⟨rfl, N0, rfl⟩
def own_Good (K : List Int64) (m : Nat) (L : List (Int64 × Nat)) : Prop := m < 32 ∧ (∀ q ∈ L, q.2 < 5 ∧ q.1 = K.getD q.2 0 ∧ m.testBit q.2 = false) ∧ (∀ j, j < 5 → m.testBit j = false → (K.getD j 0, j) ∈ L) ∧ (L.map Prod.snd).Nodup
theorem own_Good.perm {K : List Int64} {m : Nat} {L L' : List (Int64 × Nat)} (G : own_Good K m L) (P : L'.Perm L) : own_Good K m L' := ⟨G.1, fun q hq => G.2.1 q (P.mem_iff.mp hq), fun j h1 h2 => P.mem_iff.mpr (G.2.2.1 j h1 h2), (P.map Prod.snd).nodup_iff.mpr G.2.2.2⟩
theorem own_b1 : ∀ m, m < 32 → ∀ r, r < 5 → m.testBit r = false → ((Int32.ofNat m >>> (Int32.ofNat r &&& 31)) &&& 1) = 0 := by decide +kernel
theorem own_b2 : ∀ m, m < 32 → ∀ r, r < 5 → (Int32.ofNat m ||| ((1 : Int32) <<< (Int32.ofNat r &&& 31))) = Int32.ofNat (m ||| 2 ^ r) ∧ m ||| 2 ^ r < 32 := by decide +kernel
theorem own_b3 : ∀ m, m < 32 → ∀ r, r < 5 → ∀ j, j < 5 → (m ||| 2 ^ r).testBit j = (m.testBit j || j == r) := by decide +kernel
theorem own_b4 : ∀ m, m < 32 → (Int32.ofNat m &&& 1 = 0 → m.testBit 0 = false) ∧ (Int32.ofNat m &&& 2 = 0 → m.testBit 1 = false) ∧ (Int32.ofNat m &&& 4 = 0 → m.testBit 2 = false) ∧ (Int32.ofNat m &&& 8 = 0 → m.testBit 3 = false) ∧ (Int32.ofNat m &&& 16 = 0 → m.testBit 4 = false) := by decide +kernel
theorem own_b5 : ∀ m, m < 32 → (∀ j, j < 5 → m.testBit j = true) → m = 31 := by decide +kernel
theorem own_good_pop {K : List Int64} {m r : Nat} {x : Int64} {L : List (Int64 × Nat)} (G : own_Good K m ((x, r) :: L)) : own_Good K (m ||| 2 ^ r) L := by
  obtain ⟨g1, g2, g3, g4⟩ := G
  have hr : r < 5 := (g2 (x, r) (List.mem_cons_self ..)).1
  simp only [List.map_cons, List.nodup_cons] at g4
  refine ⟨(own_b2 m g1 r hr).2, fun q hq => ?_, fun j hj ht => ?_, g4.2⟩
  · obtain ⟨a1, a2, a3⟩ := g2 q (List.mem_cons_of_mem _ hq)
    refine ⟨a1, a2, ?_⟩
    have hne : q.2 ≠ r := fun e => g4.1 (e ▸ List.mem_map_of_mem hq)
    rw [own_b3 m g1 r hr q.2 a1, a3]; simp [hne]
  · rw [own_b3 m g1 r hr j hj] at ht
    simp only [Bool.or_eq_false_iff, beq_eq_false_iff_ne] at ht
    rcases List.mem_cons.mp (g3 j hj ht.1) with e | e
    · exact absurd (congrArg Prod.snd e) ht.2
    · exact e
theorem own_good_min {K : List Int64} {m r : Nat} {x : Int64} {L : List (Int64 × Nat)} (G : own_Good K m ((x, r) :: L)) (hmin : ∀ q ∈ L, x ≤ q.1) :
    r < 5 ∧ ((Int32.ofNat m >>> (Int32.ofNat r &&& 31)) &&& 1) = 0 ∧ (Int32.ofNat m &&& 1 = 0 → ¬ K.getD 0 0 < K.getD r 0) ∧ (Int32.ofNat m &&& 2 = 0 → ¬ K.getD 1 0 < K.getD r 0) ∧ (Int32.ofNat m &&& 4 = 0 → ¬ K.getD 2 0 < K.getD r 0) ∧ (Int32.ofNat m &&& 8 = 0 → ¬ K.getD 3 0 < K.getD r 0) ∧ (Int32.ofNat m &&& 16 = 0 → ¬ K.getD 4 0 < K.getD r 0) := by
  obtain ⟨g1, g2, g3, g4⟩ := G
  obtain ⟨hr, hx, hb⟩ := g2 (x, r) (List.mem_cons_self ..)
  simp only at hr hx hb
  have key : ∀ j, j < 5 → m.testBit j = false → ¬ K.getD j 0 < K.getD r 0 := fun j hj ht => by
    rw [← hx]
    rcases List.mem_cons.mp (g3 j hj ht) with e | e
    · have e' : K.getD j 0 = x := congrArg Prod.fst e
      rw [e']; exact Int64.lt_irrefl
    · exact Int64.not_lt.mpr (hmin _ e)
  obtain ⟨b0, b1, b2, b3, b4⟩ := own_b4 m g1
  exact ⟨hr, own_b1 m g1 r hr hb, fun h => key 0 (by omega) (b0 h), fun h => key 1 (by omega) (b1 h), fun h => key 2 (by omega) (b2 h), fun h => key 3 (by omega) (b3 h), fun h => key 4 (by omega) (b4 h)⟩
theorem own_good_start (a b c d e : Int64) : own_Good [a, b, c, d, e] 0 [(e, 4), (d, 3), (c, 2), (b, 1), (a, 0)] := by
  refine ⟨by decide, fun q hq => ?_, fun j hj _ => ?_, by simp⟩
  · simp only [List.mem_cons, List.not_mem_nil, or_false] at hq
    rcases hq with rfl | rfl | rfl | rfl | rfl <;> exact ⟨by simp, rfl, by simp⟩
  · match j, hj with
    | 0, _ => simp
    | 1, _ => simp
    | 2, _ => simp
    | 3, _ => simp
    | 4, _ => simp
theorem own_good_end {K : List Int64} {m : Nat} (G : own_Good K m []) : m = 31 := own_b5 m G.1 fun j hj => by
  cases h : m.testBit j with
  | true => rfl
  | false => exact nomatch (G.2.2.1 j hj h)

set_option maxHeartbeats 4000000 in
theorem own_push0 ( z key : Int64) ( w it : Nat) (wi : Int32) (tk : List Int64) (ti : List Int32)  : ∃ (y0 : Int64) (i0 : Nat), own_push (z :: tk) (wi :: ti) 0 key (Int32.ofNat it) = (y0 :: tk, Int32.ofNat i0 :: ti) ∧ [(y0, i0)].Perm ((key, it) :: []) := by
  refine ⟨key, it, ?_, (List.Perm.cons _ (List.Perm.refl _))⟩
  simp only [own_push, own_upF]
  simp [*]
set_option maxHeartbeats 4000000 in
theorem own_push1 (x0 z key : Int64) (j0 w it : Nat) (wi : Int32) (tk : List Int64) (ti : List Int32)  : ∃ (y0 y1 : Int64) (i0 i1 : Nat), own_push (x0 :: z :: tk) (Int32.ofNat j0 :: wi :: ti) 1 key (Int32.ofNat it) = (y0 :: y1 :: tk, Int32.ofNat i0 :: Int32.ofNat i1 :: ti) ∧ y0 ≤ y1 ∧ [(y0, i0), (y1, i1)].Perm ((key, it) :: [(x0, j0)]) := by
  by_cases c1 : key < x0
  · have c1' := c1
    rw [Int64.lt_iff_toInt_lt] at c1'
    refine ⟨key, x0, it, j0, ?_, Int64.le_iff_toInt_le.mpr (by omega), (List.Perm.cons _ (List.Perm.cons _ (List.Perm.refl _)))⟩
    simp only [own_push, own_upF]
    simp [*]
  · have c1' := c1
    rw [Int64.lt_iff_toInt_lt] at c1'
    refine ⟨x0, key, j0, it, ?_, Int64.le_iff_toInt_le.mpr (by omega), ((List.Perm.cons _ (List.Perm.cons _ (List.Perm.refl _))).trans (List.perm_middle (l₁ := [(key, it)]) (a := (x0, j0)) (l₂ := [])).symm)⟩
    simp only [own_push, own_upF]
    simp [*]
set_option maxHeartbeats 4000000 in
theorem own_push2 (x0 x1 z key : Int64) (j0 j1 w it : Nat) (wi : Int32) (tk : List Int64) (ti : List Int32) (o0 : x0 ≤ x1) : ∃ (y0 y1 y2 : Int64) (i0 i1 i2 : Nat), own_push (x0 :: x1 :: z :: tk) (Int32.ofNat j0 :: Int32.ofNat j1 :: wi :: ti) 2 key (Int32.ofNat it) = (y0 :: y1 :: y2 :: tk, Int32.ofNat i0 :: Int32.ofNat i1 :: Int32.ofNat i2 :: ti) ∧ y0 ≤ y1 ∧ y0 ≤ y2 ∧ [(y0, i0), (y1, i1), (y2, i2)].Perm ((key, it) :: [(x0, j0), (x1, j1)]) := by
  have o0' := o0
  rw [Int64.le_iff_toInt_le] at o0'
  by_cases c1 : key < x0
  · have c1' := c1
    rw [Int64.lt_iff_toInt_lt] at c1'
    refine ⟨key, x1, x0, it, j1, j0, ?_, Int64.le_iff_toInt_le.mpr (by omega), Int64.le_iff_toInt_le.mpr (by omega), (List.Perm.cons _ ((List.Perm.cons _ (List.Perm.cons _ (List.Perm.refl _))).trans (List.perm_middle (l₁ := [(x0, j0)]) (a := (x1, j1)) (l₂ := [])).symm))⟩
    simp only [own_push, own_upF]
    simp [*]
  · have c1' := c1
    rw [Int64.lt_iff_toInt_lt] at c1'
    refine ⟨x0, x1, key, j0, j1, it, ?_, Int64.le_iff_toInt_le.mpr (by omega), Int64.le_iff_toInt_le.mpr (by omega), ((List.Perm.cons _ ((List.Perm.cons _ (List.Perm.cons _ (List.Perm.refl _))).trans (List.perm_middle (l₁ := [(key, it)]) (a := (x1, j1)) (l₂ := [])).symm)).trans (List.perm_middle (l₁ := [(key, it)]) (a := (x0, j0)) (l₂ := [(x1, j1)])).symm)⟩
    simp only [own_push, own_upF]
    simp [*]
set_option maxHeartbeats 4000000 in
theorem own_push3 (x0 x1 x2 z key : Int64) (j0 j1 j2 w it : Nat) (wi : Int32) (tk : List Int64) (ti : List Int32) (o0 : x0 ≤ x1) (o1 : x0 ≤ x2) : ∃ (y0 y1 y2 y3 : Int64) (i0 i1 i2 i3 : Nat), own_push (x0 :: x1 :: x2 :: z :: tk) (Int32.ofNat j0 :: Int32.ofNat j1 :: Int32.ofNat j2 :: wi :: ti) 3 key (Int32.ofNat it) = (y0 :: y1 :: y2 :: y3 :: tk, Int32.ofNat i0 :: Int32.ofNat i1 :: Int32.ofNat i2 :: Int32.ofNat i3 :: ti) ∧ y0 ≤ y1 ∧ y0 ≤ y2 ∧ y1 ≤ y3 ∧ [(y0, i0), (y1, i1), (y2, i2), (y3, i3)].Perm ((key, it) :: [(x0, j0), (x1, j1), (x2, j2)]) := by
  have o0' := o0
  rw [Int64.le_iff_toInt_le] at o0'
  have o1' := o1
  rw [Int64.le_iff_toInt_le] at o1'
  by_cases c1 : key < x1
  · have c1' := c1
    rw [Int64.lt_iff_toInt_lt] at c1'
    by_cases c2 : key < x0
    · have c2' := c2
      rw [Int64.lt_iff_toInt_lt] at c2'
      refine ⟨key, x0, x2, x1, it, j0, j2, j1, ?_, Int64.le_iff_toInt_le.mpr (by omega), Int64.le_iff_toInt_le.mpr (by omega), Int64.le_iff_toInt_le.mpr (by omega), (List.Perm.cons _ (List.Perm.cons _ ((List.Perm.cons _ (List.Perm.cons _ (List.Perm.refl _))).trans (List.perm_middle (l₁ := [(x1, j1)]) (a := (x2, j2)) (l₂ := [])).symm)))⟩
      simp only [own_push, own_upF]
      simp [*]
    · have c2' := c2
      rw [Int64.lt_iff_toInt_lt] at c2'
      refine ⟨x0, key, x2, x1, j0, it, j2, j1, ?_, Int64.le_iff_toInt_le.mpr (by omega), Int64.le_iff_toInt_le.mpr (by omega), Int64.le_iff_toInt_le.mpr (by omega), ((List.Perm.cons _ (List.Perm.cons _ ((List.Perm.cons _ (List.Perm.cons _ (List.Perm.refl _))).trans (List.perm_middle (l₁ := [(x1, j1)]) (a := (x2, j2)) (l₂ := [])).symm))).trans (List.perm_middle (l₁ := [(key, it)]) (a := (x0, j0)) (l₂ := [(x1, j1), (x2, j2)])).symm)⟩
      simp only [own_push, own_upF]
      simp [*]
  · have c1' := c1
    rw [Int64.lt_iff_toInt_lt] at c1'
    refine ⟨x0, x1, x2, key, j0, j1, j2, it, ?_, Int64.le_iff_toInt_le.mpr (by omega), Int64.le_iff_toInt_le.mpr (by omega), Int64.le_iff_toInt_le.mpr (by omega), ((List.Perm.cons _ ((List.Perm.cons _ ((List.Perm.cons _ (List.Perm.cons _ (List.Perm.refl _))).trans (List.perm_middle (l₁ := [(key, it)]) (a := (x2, j2)) (l₂ := [])).symm)).trans (List.perm_middle (l₁ := [(key, it)]) (a := (x1, j1)) (l₂ := [(x2, j2)])).symm)).trans (List.perm_middle (l₁ := [(key, it)]) (a := (x0, j0)) (l₂ := [(x1, j1), (x2, j2)])).symm)⟩
    simp only [own_push, own_upF]
    simp [*]
set_option maxHeartbeats 4000000 in
theorem own_push4 (x0 x1 x2 x3 z key : Int64) (j0 j1 j2 j3 w it : Nat) (wi : Int32) (tk : List Int64) (ti : List Int32) (o0 : x0 ≤ x1) (o1 : x0 ≤ x2) (o2 : x1 ≤ x3) : ∃ (y0 y1 y2 y3 y4 : Int64) (i0 i1 i2 i3 i4 : Nat), own_push (x0 :: x1 :: x2 :: x3 :: z :: tk) (Int32.ofNat j0 :: Int32.ofNat j1 :: Int32.ofNat j2 :: Int32.ofNat j3 :: wi :: ti) 4 key (Int32.ofNat it) = (y0 :: y1 :: y2 :: y3 :: y4 :: tk, Int32.ofNat i0 :: Int32.ofNat i1 :: Int32.ofNat i2 :: Int32.ofNat i3 :: Int32.ofNat i4 :: ti) ∧ y0 ≤ y1 ∧ y0 ≤ y2 ∧ y1 ≤ y3 ∧ y1 ≤ y4 ∧ [(y0, i0), (y1, i1), (y2, i2), (y3, i3), (y4, i4)].Perm ((key, it) :: [(x0, j0), (x1, j1), (x2, j2), (x3, j3)]) := by
  have o0' := o0
  rw [Int64.le_iff_toInt_le] at o0'
  have o1' := o1
  rw [Int64.le_iff_toInt_le] at o1'
  have o2' := o2
  rw [Int64.le_iff_toInt_le] at o2'
  by_cases c1 : key < x1
  · have c1' := c1
    rw [Int64.lt_iff_toInt_lt] at c1'
    by_cases c2 : key < x0
    · have c2' := c2
      rw [Int64.lt_iff_toInt_lt] at c2'
      refine ⟨key, x0, x2, x3, x1, it, j0, j2, j3, j1, ?_, Int64.le_iff_toInt_le.mpr (by omega), Int64.le_iff_toInt_le.mpr (by omega), Int64.le_iff_toInt_le.mpr (by omega), Int64.le_iff_toInt_le.mpr (by omega), (List.Perm.cons _ (List.Perm.cons _ ((List.Perm.cons _ ((List.Perm.cons _ (List.Perm.cons _ (List.Perm.refl _))).trans (List.perm_middle (l₁ := [(x1, j1)]) (a := (x3, j3)) (l₂ := [])).symm)).trans (List.perm_middle (l₁ := [(x1, j1)]) (a := (x2, j2)) (l₂ := [(x3, j3)])).symm)))⟩
      simp only [own_push, own_upF]
      simp [*]
    · have c2' := c2
      rw [Int64.lt_iff_toInt_lt] at c2'
      refine ⟨x0, key, x2, x3, x1, j0, it, j2, j3, j1, ?_, Int64.le_iff_toInt_le.mpr (by omega), Int64.le_iff_toInt_le.mpr (by omega), Int64.le_iff_toInt_le.mpr (by omega), Int64.le_iff_toInt_le.mpr (by omega), ((List.Perm.cons _ (List.Perm.cons _ ((List.Perm.cons _ ((List.Perm.cons _ (List.Perm.cons _ (List.Perm.refl _))).trans (List.perm_middle (l₁ := [(x1, j1)]) (a := (x3, j3)) (l₂ := [])).symm)).trans (List.perm_middle (l₁ := [(x1, j1)]) (a := (x2, j2)) (l₂ := [(x3, j3)])).symm))).trans (List.perm_middle (l₁ := [(key, it)]) (a := (x0, j0)) (l₂ := [(x1, j1), (x2, j2), (x3, j3)])).symm)⟩
      simp only [own_push, own_upF]
      simp [*]
  · have c1' := c1
    rw [Int64.lt_iff_toInt_lt] at c1'
    refine ⟨x0, x1, x2, x3, key, j0, j1, j2, j3, it, ?_, Int64.le_iff_toInt_le.mpr (by omega), Int64.le_iff_toInt_le.mpr (by omega), Int64.le_iff_toInt_le.mpr (by omega), Int64.le_iff_toInt_le.mpr (by omega), ((List.Perm.cons _ ((List.Perm.cons _ ((List.Perm.cons _ ((List.Perm.cons _ (List.Perm.cons _ (List.Perm.refl _))).trans (List.perm_middle (l₁ := [(key, it)]) (a := (x3, j3)) (l₂ := [])).symm)).trans (List.perm_middle (l₁ := [(key, it)]) (a := (x2, j2)) (l₂ := [(x3, j3)])).symm)).trans (List.perm_middle (l₁ := [(key, it)]) (a := (x1, j1)) (l₂ := [(x2, j2), (x3, j3)])).symm)).trans (List.perm_middle (l₁ := [(key, it)]) (a := (x0, j0)) (l₂ := [(x1, j1), (x2, j2), (x3, j3)])).symm)⟩
    simp only [own_push, own_upF]
    simp [*]
set_option maxHeartbeats 4000000 in
theorem own_pop0 (x0 : Int64) (j0 : Nat) (tk : List Int64) (ti : List Int32)  : own_pop (x0 :: tk) (Int32.ofNat j0 :: ti) 0 = (x0 :: tk, Int32.ofNat j0 :: ti) ∧ ([] : List (Int64 × Nat)).Perm [] := by
  refine ⟨?_, (List.Perm.refl _)⟩
  simp only [own_pop, own_dnF, own_ch]
  simp [*]
set_option maxHeartbeats 4000000 in
theorem own_pop1 (x0 x1 : Int64) (j0 j1 : Nat) (tk : List Int64) (ti : List Int32) (o0 : x0 ≤ x1) : ∃ (y0 : Int64) (i0 : Nat), own_pop (x0 :: x1 :: tk) (Int32.ofNat j0 :: Int32.ofNat j1 :: ti) 1 = (y0 :: x1 :: tk, Int32.ofNat i0 :: Int32.ofNat j1 :: ti) ∧ ([(y0, i0)] : List (Int64 × Nat)).Perm [(x1, j1)] := by
  have o0' := o0
  rw [Int64.le_iff_toInt_le] at o0'
  refine ⟨x1, j1, ?_, (List.Perm.cons _ (List.Perm.refl _))⟩
  simp only [own_pop, own_dnF, own_ch]
  simp [*]
set_option maxHeartbeats 4000000 in
theorem own_pop2 (x0 x1 x2 : Int64) (j0 j1 j2 : Nat) (tk : List Int64) (ti : List Int32) (o0 : x0 ≤ x1) (o1 : x0 ≤ x2) : ∃ (y0 y1 : Int64) (i0 i1 : Nat), own_pop (x0 :: x1 :: x2 :: tk) (Int32.ofNat j0 :: Int32.ofNat j1 :: Int32.ofNat j2 :: ti) 2 = (y0 :: y1 :: x2 :: tk, Int32.ofNat i0 :: Int32.ofNat i1 :: Int32.ofNat j2 :: ti) ∧ y0 ≤ y1 ∧ ([(y0, i0), (y1, i1)] : List (Int64 × Nat)).Perm [(x1, j1), (x2, j2)] := by
  have o0' := o0
  rw [Int64.le_iff_toInt_le] at o0'
  have o1' := o1
  rw [Int64.le_iff_toInt_le] at o1'
  by_cases c1 : x1 < x2
  · have c1' := c1
    rw [Int64.lt_iff_toInt_lt] at c1'
    refine ⟨x1, x2, j1, j2, ?_, Int64.le_iff_toInt_le.mpr (by omega), (List.Perm.cons _ (List.Perm.cons _ (List.Perm.refl _)))⟩
    simp only [own_pop, own_dnF, own_ch]
    simp [*]
  · have c1' := c1
    rw [Int64.lt_iff_toInt_lt] at c1'
    refine ⟨x2, x1, j2, j1, ?_, Int64.le_iff_toInt_le.mpr (by omega), ((List.Perm.cons _ (List.Perm.cons _ (List.Perm.refl _))).trans (List.perm_middle (l₁ := [(x1, j1)]) (a := (x2, j2)) (l₂ := [])).symm)⟩
    simp only [own_pop, own_dnF, own_ch]
    simp [*]
set_option maxHeartbeats 4000000 in
theorem own_pop3 (x0 x1 x2 x3 : Int64) (j0 j1 j2 j3 : Nat) (tk : List Int64) (ti : List Int32) (o0 : x0 ≤ x1) (o1 : x0 ≤ x2) (o2 : x1 ≤ x3) : ∃ (y0 y1 y2 : Int64) (i0 i1 i2 : Nat), own_pop (x0 :: x1 :: x2 :: x3 :: tk) (Int32.ofNat j0 :: Int32.ofNat j1 :: Int32.ofNat j2 :: Int32.ofNat j3 :: ti) 3 = (y0 :: y1 :: y2 :: x3 :: tk, Int32.ofNat i0 :: Int32.ofNat i1 :: Int32.ofNat i2 :: Int32.ofNat j3 :: ti) ∧ y0 ≤ y1 ∧ y0 ≤ y2 ∧ ([(y0, i0), (y1, i1), (y2, i2)] : List (Int64 × Nat)).Perm [(x1, j1), (x2, j2), (x3, j3)] := by
  have o0' := o0
  rw [Int64.le_iff_toInt_le] at o0'
  have o1' := o1
  rw [Int64.le_iff_toInt_le] at o1'
  have o2' := o2
  rw [Int64.le_iff_toInt_le] at o2'
  by_cases c1 : x2 < x1
  · have c1' := c1
    rw [Int64.lt_iff_toInt_lt] at c1'
    by_cases c2 : x2 < x3
    · have c2' := c2
      rw [Int64.lt_iff_toInt_lt] at c2'
      refine ⟨x2, x1, x3, j2, j1, j3, ?_, Int64.le_iff_toInt_le.mpr (by omega), Int64.le_iff_toInt_le.mpr (by omega), ((List.Perm.cons _ (List.Perm.cons _ (List.Perm.cons _ (List.Perm.refl _)))).trans (List.perm_middle (l₁ := [(x1, j1)]) (a := (x2, j2)) (l₂ := [(x3, j3)])).symm)⟩
      simp only [own_pop, own_dnF, own_ch]
      simp [*]
    · have c2' := c2
      rw [Int64.lt_iff_toInt_lt] at c2'
      refine ⟨x3, x1, x2, j3, j1, j2, ?_, Int64.le_iff_toInt_le.mpr (by omega), Int64.le_iff_toInt_le.mpr (by omega), ((List.Perm.cons _ (List.Perm.cons _ (List.Perm.cons _ (List.Perm.refl _)))).trans (List.perm_middle (l₁ := [(x1, j1), (x2, j2)]) (a := (x3, j3)) (l₂ := [])).symm)⟩
      simp only [own_pop, own_dnF, own_ch]
      simp [*]
  · have c1' := c1
    rw [Int64.lt_iff_toInt_lt] at c1'
    by_cases c3 : x1 < x3
    · have c3' := c3
      rw [Int64.lt_iff_toInt_lt] at c3'
      refine ⟨x1, x3, x2, j1, j3, j2, ?_, Int64.le_iff_toInt_le.mpr (by omega), Int64.le_iff_toInt_le.mpr (by omega), (List.Perm.cons _ ((List.Perm.cons _ (List.Perm.cons _ (List.Perm.refl _))).trans (List.perm_middle (l₁ := [(x2, j2)]) (a := (x3, j3)) (l₂ := [])).symm))⟩
      simp only [own_pop, own_dnF, own_ch]
      simp [*]
    · have c3' := c3
      rw [Int64.lt_iff_toInt_lt] at c3'
      refine ⟨x3, x1, x2, j3, j1, j2, ?_, Int64.le_iff_toInt_le.mpr (by omega), Int64.le_iff_toInt_le.mpr (by omega), ((List.Perm.cons _ (List.Perm.cons _ (List.Perm.cons _ (List.Perm.refl _)))).trans (List.perm_middle (l₁ := [(x1, j1), (x2, j2)]) (a := (x3, j3)) (l₂ := [])).symm)⟩
      simp only [own_pop, own_dnF, own_ch]
      simp [*]
set_option maxHeartbeats 4000000 in
theorem own_pop4 (x0 x1 x2 x3 x4 : Int64) (j0 j1 j2 j3 j4 : Nat) (tk : List Int64) (ti : List Int32) (o0 : x0 ≤ x1) (o1 : x0 ≤ x2) (o2 : x1 ≤ x3) (o3 : x1 ≤ x4) : ∃ (y0 y1 y2 y3 : Int64) (i0 i1 i2 i3 : Nat), own_pop (x0 :: x1 :: x2 :: x3 :: x4 :: tk) (Int32.ofNat j0 :: Int32.ofNat j1 :: Int32.ofNat j2 :: Int32.ofNat j3 :: Int32.ofNat j4 :: ti) 4 = (y0 :: y1 :: y2 :: y3 :: x4 :: tk, Int32.ofNat i0 :: Int32.ofNat i1 :: Int32.ofNat i2 :: Int32.ofNat i3 :: Int32.ofNat j4 :: ti) ∧ y0 ≤ y1 ∧ y0 ≤ y2 ∧ y1 ≤ y3 ∧ ([(y0, i0), (y1, i1), (y2, i2), (y3, i3)] : List (Int64 × Nat)).Perm [(x1, j1), (x2, j2), (x3, j3), (x4, j4)] := by
  have o0' := o0
  rw [Int64.le_iff_toInt_le] at o0'
  have o1' := o1
  rw [Int64.le_iff_toInt_le] at o1'
  have o2' := o2
  rw [Int64.le_iff_toInt_le] at o2'
  have o3' := o3
  rw [Int64.le_iff_toInt_le] at o3'
  by_cases c1 : x2 < x1
  · have c1' := c1
    rw [Int64.lt_iff_toInt_lt] at c1'
    by_cases c2 : x2 < x4
    · have c2' := c2
      rw [Int64.lt_iff_toInt_lt] at c2'
      refine ⟨x2, x1, x4, x3, j2, j1, j4, j3, ?_, Int64.le_iff_toInt_le.mpr (by omega), Int64.le_iff_toInt_le.mpr (by omega), Int64.le_iff_toInt_le.mpr (by omega), ((List.Perm.cons _ (List.Perm.cons _ ((List.Perm.cons _ (List.Perm.cons _ (List.Perm.refl _))).trans (List.perm_middle (l₁ := [(x3, j3)]) (a := (x4, j4)) (l₂ := [])).symm))).trans (List.perm_middle (l₁ := [(x1, j1)]) (a := (x2, j2)) (l₂ := [(x3, j3), (x4, j4)])).symm)⟩
      simp only [own_pop, own_dnF, own_ch]
      simp [*]
    · have c2' := c2
      rw [Int64.lt_iff_toInt_lt] at c2'
      refine ⟨x4, x1, x2, x3, j4, j1, j2, j3, ?_, Int64.le_iff_toInt_le.mpr (by omega), Int64.le_iff_toInt_le.mpr (by omega), Int64.le_iff_toInt_le.mpr (by omega), ((List.Perm.cons _ (List.Perm.cons _ (List.Perm.cons _ (List.Perm.cons _ (List.Perm.refl _))))).trans (List.perm_middle (l₁ := [(x1, j1), (x2, j2), (x3, j3)]) (a := (x4, j4)) (l₂ := [])).symm)⟩
      simp only [own_pop, own_dnF, own_ch]
      simp [*]
  · have c1' := c1
    rw [Int64.lt_iff_toInt_lt] at c1'
    by_cases c3 : x1 < x4
    · have c3' := c3
      rw [Int64.lt_iff_toInt_lt] at c3'
      by_cases c4 : x3 < x4
      · have c4' := c4
        rw [Int64.lt_iff_toInt_lt] at c4'
        refine ⟨x1, x3, x2, x4, j1, j3, j2, j4, ?_, Int64.le_iff_toInt_le.mpr (by omega), Int64.le_iff_toInt_le.mpr (by omega), Int64.le_iff_toInt_le.mpr (by omega), (List.Perm.cons _ ((List.Perm.cons _ (List.Perm.cons _ (List.Perm.cons _ (List.Perm.refl _)))).trans (List.perm_middle (l₁ := [(x2, j2)]) (a := (x3, j3)) (l₂ := [(x4, j4)])).symm))⟩
        simp only [own_pop, own_dnF, own_ch]
        simp [*]
      · have c4' := c4
        rw [Int64.lt_iff_toInt_lt] at c4'
        refine ⟨x1, x4, x2, x3, j1, j4, j2, j3, ?_, Int64.le_iff_toInt_le.mpr (by omega), Int64.le_iff_toInt_le.mpr (by omega), Int64.le_iff_toInt_le.mpr (by omega), (List.Perm.cons _ ((List.Perm.cons _ (List.Perm.cons _ (List.Perm.cons _ (List.Perm.refl _)))).trans (List.perm_middle (l₁ := [(x2, j2), (x3, j3)]) (a := (x4, j4)) (l₂ := [])).symm))⟩
        simp only [own_pop, own_dnF, own_ch]
        simp [*]
    · have c3' := c3
      rw [Int64.lt_iff_toInt_lt] at c3'
      refine ⟨x4, x1, x2, x3, j4, j1, j2, j3, ?_, Int64.le_iff_toInt_le.mpr (by omega), Int64.le_iff_toInt_le.mpr (by omega), Int64.le_iff_toInt_le.mpr (by omega), ((List.Perm.cons _ (List.Perm.cons _ (List.Perm.cons _ (List.Perm.cons _ (List.Perm.refl _))))).trans (List.perm_middle (l₁ := [(x1, j1), (x2, j2), (x3, j3)]) (a := (x4, j4)) (l₂ := [])).symm)⟩
      simp only [own_pop, own_dnF, own_ch]
      simp [*]
theorem own_min1 (x0 : Int64) (j0 : Nat)  : ∀ q ∈ ([] : List (Int64 × Nat)), x0 ≤ q.1 := by
  intro q hq
  simp only [List.mem_cons, List.not_mem_nil, or_false] at hq
theorem own_min2 (x0 x1 : Int64) (j0 j1 : Nat) (o0 : x0 ≤ x1) : ∀ q ∈ ([(x1, j1)] : List (Int64 × Nat)), x0 ≤ q.1 := by
  intro q hq
  simp only [List.mem_cons, List.not_mem_nil, or_false] at hq
  rw [Int64.le_iff_toInt_le] at o0
  rcases hq with rfl <;> (dsimp only; exact Int64.le_iff_toInt_le.mpr (by omega))
theorem own_min3 (x0 x1 x2 : Int64) (j0 j1 j2 : Nat) (o0 : x0 ≤ x1) (o1 : x0 ≤ x2) : ∀ q ∈ ([(x1, j1), (x2, j2)] : List (Int64 × Nat)), x0 ≤ q.1 := by
  intro q hq
  simp only [List.mem_cons, List.not_mem_nil, or_false] at hq
  rw [Int64.le_iff_toInt_le] at o0
  rw [Int64.le_iff_toInt_le] at o1
  rcases hq with rfl | rfl <;> (dsimp only; exact Int64.le_iff_toInt_le.mpr (by omega))
theorem own_min4 (x0 x1 x2 x3 : Int64) (j0 j1 j2 j3 : Nat) (o0 : x0 ≤ x1) (o1 : x0 ≤ x2) (o2 : x1 ≤ x3) : ∀ q ∈ ([(x1, j1), (x2, j2), (x3, j3)] : List (Int64 × Nat)), x0 ≤ q.1 := by
  intro q hq
  simp only [List.mem_cons, List.not_mem_nil, or_false] at hq
  rw [Int64.le_iff_toInt_le] at o0
  rw [Int64.le_iff_toInt_le] at o1
  rw [Int64.le_iff_toInt_le] at o2
  rcases hq with rfl | rfl | rfl <;> (dsimp only; exact Int64.le_iff_toInt_le.mpr (by omega))
theorem own_min5 (x0 x1 x2 x3 x4 : Int64) (j0 j1 j2 j3 j4 : Nat) (o0 : x0 ≤ x1) (o1 : x0 ≤ x2) (o2 : x1 ≤ x3) (o3 : x1 ≤ x4) : ∀ q ∈ ([(x1, j1), (x2, j2), (x3, j3), (x4, j4)] : List (Int64 × Nat)), x0 ≤ q.1 := by
  intro q hq
  simp only [List.mem_cons, List.not_mem_nil, or_false] at hq
  rw [Int64.le_iff_toInt_le] at o0
  rw [Int64.le_iff_toInt_le] at o1
  rw [Int64.le_iff_toInt_le] at o2
  rw [Int64.le_iff_toInt_le] at o3
  rcases hq with rfl | rfl | rfl | rfl <;> (dsimp only; exact Int64.le_iff_toInt_le.mpr (by omega))
theorem pn_0 : plainName "com/example/pincer/pincer/engine/MinHeapPopPinLaw" = true := by first | (simp [plainName, overriddenIn]; done) | decide +kernel
theorem pd_0 : parseMethodDescriptor "()V" = some ⟨[], none⟩ := by decide +kernel
theorem pd_1 : parseMethodDescriptor "(JI)V" = some ⟨[.long, .int], none⟩ := by decide +kernel
theorem pd_2 : parseMethodDescriptor "()I" = some ⟨[], some .int⟩ := by decide +kernel
theorem pd_3 : parseMethodDescriptor "([JII)Z" = some ⟨[(.array .long), .int, .int], some .boolean⟩ := by decide +kernel
theorem pd_4 : parseMethodDescriptor "()Z" = some ⟨[], some .boolean⟩ := by decide +kernel
theorem ef_rm0 (m : MethodId) (x0 : Int64) (x1 : Int64) (x2 : Int64) (x3 : Int64) (x4 : Int64) : entryFrame m #[(.long x0), (.long x1), (.long x2), (.long x3), (.long x4)] maxLocals = mkF m 0 #[.val (.long x0), .second, .val (.long x1), .second, .val (.long x2), .second, .val (.long x3), .second, .val (.long x4), .second, .unset, .unset, .unset, .unset] [] := by first | (simp [entryFrame, mkF, argsToLocals, Value.category, maxLocals]; done) | rfl
def Q_rm0 (Z : State) (p1 p2 p3 p4 p5 : Int64) (h0 : Heap) (n0 : Nat) (v : Option Value) (h : Heap) (L : List Loc) : Prop := v = some (.int (1 : Int32)) ∧ Fr n0 L
set_option maxRecDepth 65536 in
set_option maxHeartbeats 40000000 in
theorem rm0 (l : Launch) (Z : State) (a0 : Array Value) (hw : ∀ d ∈ tables_1, d.before a0 Z = true) (ws : List Jvm.Cond) (p1 : Int64) (p2 : Int64) (p3 : Int64) (p4 : Int64) (p5 : Int64)  (h0 : Heap) (n0 : Nat) (Z0 : n0 ≤ h0.size)  :
    MetFree l x (head1 (Jvm.Cond.code x code maxLocals ret :: ws) room_1) (fun args_ U => args_ = #[(.long p1), (.long p2), (.long p3), (.long p4), (.long p5)] ∧ Z.Warmed39 U.vm ∧ U.heap = h0) (fun _ _ _ _ _ => True) (fun _ U o U' => ∃ v L, o = .returned v ∧ Q_rm0 Z p1 p2 p3 p4 p5 h0 n0 v U'.heap L ∧ FrameEnd U o U' L (room_1).cells (room_1).slots) := by
  refine MetFree.of_bodySF (plainFor_of_name pn_0) hisR ?_
  intro p e s m args below meth c s₁ Bd hml0 hP hK
  obtain ⟨rfl, hZ, hh⟩ := hP
  have hx := Bd.exec
  have hby := Bd.bytes
  have hml : c.maxLocals = 14 := hml0
  have hown : s.vm.findClass "com/example/pincer/pincer/engine/MinHeapPopPinLaw" = some m.cls := findClass_of_methodNamed Bd.named
  have hnm := (name_of_methodNamed Bd.named Bd.method).1
  have X0 : Stand p l e room_1 s m #[(.long p1), (.long p2), (.long p3), (.long p4), (.long p5)] below meth c s₁ [] 0 0 := Stand.of_body Bd
  have e0 : s₁.heap = h0 := by rw [← hh, Bd.state]; rfl
  have N0 := Fr.nil n0
  have g0 : own_Go p e below s₁ (entryFrame m #[(.long p1), (.long p2), (.long p3), (.long p4), (.long p5)] maxLocals) s₁ (mkF m 0 #[.val (.long p1), .second, .val (.long p2), .second, .val (.long p3), .second, .val (.long p4), .second, .val (.long p5), .second, .unset, .unset, .unset, .unset] []) := fun t k => castTop (ef_rm0 m p1 p2 p3 p4 p5) k
  have K0 : Keep h0 h0 [] := Keep.refl h0 _
  have g1 : own_Go p e below s₁ (entryFrame m #[(.long p1), (.long p2), (.long p3), (.long p4), (.long p5)] maxLocals) s₁ (mkF m 1 #[.val (.long p1), .second, .val (.long p2), .second, .val (.long p3), .second, .val (.long p4), .second, .val (.long p5), .second, .unset, .unset, .unset, .unset] [(.int (5 : Int32))]) := fun t kt => g0 t (by
    show Steps p.tables e below (s₁.setTop (mkF m 0 #[.val (.long p1), .second, .val (.long p2), .second, .val (.long p3), .second, .val (.long p4), .second, .val (.long p5), .second, .unset, .unset, .unset, .unset] [])) _
    refine XS.iconst X0.here hx rfl (hb hby at_0) ?_
    exact kt)
  obtain ⟨T2, h2, k_kk, X2, e2, E2, A2, st2⟩ := newP X0 hx hZ (hw _ (List.mem_of_getElem? (i := 0) rfl)) e0 (g := (mkF m 1 #[.val (.long p1), .second, .val (.long p2), .second, .val (.long p3), .second, .val (.long p4), .second, .val (.long p5), .second, .unset, .unset, .unset, .unset] [(.int (5 : Int32))])) rfl (hb hby at_1) rfl (by decide) (cap := 5) (by decide) (by decide) (by decide) (by decide)
  obtain ⟨kk, q_kk⟩ : ∃ z, z = h0.size := ⟨_, rfl⟩
  rw [← q_kk] at A2 st2
  have sz_kk : h0.size ≤ kk := Nat.le_trans K0.1 (Nat.le_of_eq q_kk.symm)
  have g_kk : n0 ≤ kk := Nat.le_trans Z0 sz_kk
  have V2 := own_newJ A2 (by decide) 5 (by decide)
  have K2 : Keep h0 h2 [] := K0.ext E2
  have g2 : own_Go p e below s₁ (entryFrame m #[(.long p1), (.long p2), (.long p3), (.long p4), (.long p5)] maxLocals) T2 (mkF m 3 #[.val (.long p1), .second, .val (.long p2), .second, .val (.long p3), .second, .val (.long p4), .second, .val (.long p5), .second, .unset, .unset, .unset, .unset] [(.ref kk)]) := fun t kt => g1 t (st2 _ kt)
  have g3 : own_Go p e below s₁ (entryFrame m #[(.long p1), (.long p2), (.long p3), (.long p4), (.long p5)] maxLocals) T2 (mkF m 9 #[.val (.long p1), .second, .val (.long p2), .second, .val (.long p3), .second, .val (.long p4), .second, .val (.long p5), .second, .val (.ref kk), .unset, .unset, .unset] [(.long p1), (.int (0 : Int32)), (.ref kk)]) := fun t kt => g2 t (by
    show Steps p.tables e below (T2.setTop (mkF m 3 #[.val (.long p1), .second, .val (.long p2), .second, .val (.long p3), .second, .val (.long p4), .second, .val (.long p5), .second, .unset, .unset, .unset, .unset] [(.ref kk)])) _
    refine XS.astore X2.here hx rfl (hb hby at_3) rfl rfl (l' := #[.val (.long p1), .second, .val (.long p2), .second, .val (.long p3), .second, .val (.long p4), .second, .val (.long p5), .second, .val (.ref kk), .unset, .unset, .unset]) rfl ?_
    show Steps p.tables e below (T2.setTop (mkF m 5 #[.val (.long p1), .second, .val (.long p2), .second, .val (.long p3), .second, .val (.long p4), .second, .val (.long p5), .second, .val (.ref kk), .unset, .unset, .unset] [])) _
    refine XS.aload X2.here hx rfl (hb hby at_5) rfl rfl ?_
    show Steps p.tables e below (T2.setTop (mkF m 7 #[.val (.long p1), .second, .val (.long p2), .second, .val (.long p3), .second, .val (.long p4), .second, .val (.long p5), .second, .val (.ref kk), .unset, .unset, .unset] [(.ref kk)])) _
    refine XS.iconst X2.here hx rfl (hb hby at_7) ?_
    show Steps p.tables e below (T2.setTop (mkF m 8 #[.val (.long p1), .second, .val (.long p2), .second, .val (.long p3), .second, .val (.long p4), .second, .val (.long p5), .second, .val (.ref kk), .unset, .unset, .unset] [(.int (0 : Int32)), (.ref kk)])) _
    refine XS.lloadN X2.here hx rfl (hb hby at_8) rfl ?_
    exact kt)
  obtain ⟨T4, h4, X4, e4, W4, V4, st4⟩ := own_stJ X2 hx hZ e2 V2 (j := (0 : Int32)) (x := p1) 0 (by decide) (by simp) (Ls := #[.val (.long p1), .second, .val (.long p2), .second, .val (.long p3), .second, .val (.long p4), .second, .val (.long p5), .second, .val (.ref kk), .unset, .unset, .unset]) (rest := []) (hb hby at_9)
  have N4 := Fr.snoc X4 N0 g_kk
  have K4 : Keep h0 h4 [] := K2.wr W4 (Or.inr sz_kk)
  have g4 : own_Go p e below s₁ (entryFrame m #[(.long p1), (.long p2), (.long p3), (.long p4), (.long p5)] maxLocals) T4 (mkF m 10 #[.val (.long p1), .second, .val (.long p2), .second, .val (.long p3), .second, .val (.long p4), .second, .val (.long p5), .second, .val (.ref kk), .unset, .unset, .unset] []) := fun t kt => g3 t (st4 _ kt)
  have g6 : own_Go p e below s₁ (entryFrame m #[(.long p1), (.long p2), (.long p3), (.long p4), (.long p5)] maxLocals) T4 (mkF m 14 #[.val (.long p1), .second, .val (.long p2), .second, .val (.long p3), .second, .val (.long p4), .second, .val (.long p5), .second, .val (.ref kk), .unset, .unset, .unset] [(.long p2), (.int (1 : Int32)), (.ref kk)]) := fun t kt => g4 t (by
    show Steps p.tables e below (T4.setTop (mkF m 10 #[.val (.long p1), .second, .val (.long p2), .second, .val (.long p3), .second, .val (.long p4), .second, .val (.long p5), .second, .val (.ref kk), .unset, .unset, .unset] [])) _
    refine XS.aload X4.here hx rfl (hb hby at_10) rfl rfl ?_
    show Steps p.tables e below (T4.setTop (mkF m 12 #[.val (.long p1), .second, .val (.long p2), .second, .val (.long p3), .second, .val (.long p4), .second, .val (.long p5), .second, .val (.ref kk), .unset, .unset, .unset] [(.ref kk)])) _
    refine XS.iconst X4.here hx rfl (hb hby at_12) ?_
    show Steps p.tables e below (T4.setTop (mkF m 13 #[.val (.long p1), .second, .val (.long p2), .second, .val (.long p3), .second, .val (.long p4), .second, .val (.long p5), .second, .val (.ref kk), .unset, .unset, .unset] [(.int (1 : Int32)), (.ref kk)])) _
    refine XS.lloadN X4.here hx rfl (hb hby at_13) rfl ?_
    exact kt)
  obtain ⟨T7, h7, X7, e7, W7, V7, st7⟩ := own_stJ X4 hx hZ e4 V4 (j := (1 : Int32)) (x := p2) 1 (by decide) (by simp) (Ls := #[.val (.long p1), .second, .val (.long p2), .second, .val (.long p3), .second, .val (.long p4), .second, .val (.long p5), .second, .val (.ref kk), .unset, .unset, .unset]) (rest := []) (hb hby at_14)
  have N7 := Fr.snoc X7 N4 g_kk
  have K7 : Keep h0 h7 [] := K4.wr W7 (Or.inr sz_kk)
  have g7 : own_Go p e below s₁ (entryFrame m #[(.long p1), (.long p2), (.long p3), (.long p4), (.long p5)] maxLocals) T7 (mkF m 15 #[.val (.long p1), .second, .val (.long p2), .second, .val (.long p3), .second, .val (.long p4), .second, .val (.long p5), .second, .val (.ref kk), .unset, .unset, .unset] []) := fun t kt => g6 t (st7 _ kt)
  have g9 : own_Go p e below s₁ (entryFrame m #[(.long p1), (.long p2), (.long p3), (.long p4), (.long p5)] maxLocals) T7 (mkF m 20 #[.val (.long p1), .second, .val (.long p2), .second, .val (.long p3), .second, .val (.long p4), .second, .val (.long p5), .second, .val (.ref kk), .unset, .unset, .unset] [(.long p3), (.int (2 : Int32)), (.ref kk)]) := fun t kt => g7 t (by
    show Steps p.tables e below (T7.setTop (mkF m 15 #[.val (.long p1), .second, .val (.long p2), .second, .val (.long p3), .second, .val (.long p4), .second, .val (.long p5), .second, .val (.ref kk), .unset, .unset, .unset] [])) _
    refine XS.aload X7.here hx rfl (hb hby at_15) rfl rfl ?_
    show Steps p.tables e below (T7.setTop (mkF m 17 #[.val (.long p1), .second, .val (.long p2), .second, .val (.long p3), .second, .val (.long p4), .second, .val (.long p5), .second, .val (.ref kk), .unset, .unset, .unset] [(.ref kk)])) _
    refine XS.iconst X7.here hx rfl (hb hby at_17) ?_
    show Steps p.tables e below (T7.setTop (mkF m 18 #[.val (.long p1), .second, .val (.long p2), .second, .val (.long p3), .second, .val (.long p4), .second, .val (.long p5), .second, .val (.ref kk), .unset, .unset, .unset] [(.int (2 : Int32)), (.ref kk)])) _
    refine XS.lload X7.here hx rfl (hb hby at_18) rfl ?_
    exact kt)
  obtain ⟨T10, h10, X10, e10, W10, V10, st10⟩ := own_stJ X7 hx hZ e7 V7 (j := (2 : Int32)) (x := p3) 2 (by decide) (by simp) (Ls := #[.val (.long p1), .second, .val (.long p2), .second, .val (.long p3), .second, .val (.long p4), .second, .val (.long p5), .second, .val (.ref kk), .unset, .unset, .unset]) (rest := []) (hb hby at_20)
  have N10 := Fr.snoc X10 N7 g_kk
  have K10 : Keep h0 h10 [] := K7.wr W10 (Or.inr sz_kk)
  have g10 : own_Go p e below s₁ (entryFrame m #[(.long p1), (.long p2), (.long p3), (.long p4), (.long p5)] maxLocals) T10 (mkF m 21 #[.val (.long p1), .second, .val (.long p2), .second, .val (.long p3), .second, .val (.long p4), .second, .val (.long p5), .second, .val (.ref kk), .unset, .unset, .unset] []) := fun t kt => g9 t (st10 _ kt)
  have g12 : own_Go p e below s₁ (entryFrame m #[(.long p1), (.long p2), (.long p3), (.long p4), (.long p5)] maxLocals) T10 (mkF m 26 #[.val (.long p1), .second, .val (.long p2), .second, .val (.long p3), .second, .val (.long p4), .second, .val (.long p5), .second, .val (.ref kk), .unset, .unset, .unset] [(.long p4), (.int (3 : Int32)), (.ref kk)]) := fun t kt => g10 t (by
    show Steps p.tables e below (T10.setTop (mkF m 21 #[.val (.long p1), .second, .val (.long p2), .second, .val (.long p3), .second, .val (.long p4), .second, .val (.long p5), .second, .val (.ref kk), .unset, .unset, .unset] [])) _
    refine XS.aload X10.here hx rfl (hb hby at_21) rfl rfl ?_
    show Steps p.tables e below (T10.setTop (mkF m 23 #[.val (.long p1), .second, .val (.long p2), .second, .val (.long p3), .second, .val (.long p4), .second, .val (.long p5), .second, .val (.ref kk), .unset, .unset, .unset] [(.ref kk)])) _
    refine XS.iconst X10.here hx rfl (hb hby at_23) ?_
    show Steps p.tables e below (T10.setTop (mkF m 24 #[.val (.long p1), .second, .val (.long p2), .second, .val (.long p3), .second, .val (.long p4), .second, .val (.long p5), .second, .val (.ref kk), .unset, .unset, .unset] [(.int (3 : Int32)), (.ref kk)])) _
    refine XS.lload X10.here hx rfl (hb hby at_24) rfl ?_
    exact kt)
  obtain ⟨T13, h13, X13, e13, W13, V13, st13⟩ := own_stJ X10 hx hZ e10 V10 (j := (3 : Int32)) (x := p4) 3 (by decide) (by simp) (Ls := #[.val (.long p1), .second, .val (.long p2), .second, .val (.long p3), .second, .val (.long p4), .second, .val (.long p5), .second, .val (.ref kk), .unset, .unset, .unset]) (rest := []) (hb hby at_26)
  have N13 := Fr.snoc X13 N10 g_kk
  have K13 : Keep h0 h13 [] := K10.wr W13 (Or.inr sz_kk)
  have g13 : own_Go p e below s₁ (entryFrame m #[(.long p1), (.long p2), (.long p3), (.long p4), (.long p5)] maxLocals) T13 (mkF m 27 #[.val (.long p1), .second, .val (.long p2), .second, .val (.long p3), .second, .val (.long p4), .second, .val (.long p5), .second, .val (.ref kk), .unset, .unset, .unset] []) := fun t kt => g12 t (st13 _ kt)
  have g15 : own_Go p e below s₁ (entryFrame m #[(.long p1), (.long p2), (.long p3), (.long p4), (.long p5)] maxLocals) T13 (mkF m 32 #[.val (.long p1), .second, .val (.long p2), .second, .val (.long p3), .second, .val (.long p4), .second, .val (.long p5), .second, .val (.ref kk), .unset, .unset, .unset] [(.long p5), (.int (4 : Int32)), (.ref kk)]) := fun t kt => g13 t (by
    show Steps p.tables e below (T13.setTop (mkF m 27 #[.val (.long p1), .second, .val (.long p2), .second, .val (.long p3), .second, .val (.long p4), .second, .val (.long p5), .second, .val (.ref kk), .unset, .unset, .unset] [])) _
    refine XS.aload X13.here hx rfl (hb hby at_27) rfl rfl ?_
    show Steps p.tables e below (T13.setTop (mkF m 29 #[.val (.long p1), .second, .val (.long p2), .second, .val (.long p3), .second, .val (.long p4), .second, .val (.long p5), .second, .val (.ref kk), .unset, .unset, .unset] [(.ref kk)])) _
    refine XS.iconst X13.here hx rfl (hb hby at_29) ?_
    show Steps p.tables e below (T13.setTop (mkF m 30 #[.val (.long p1), .second, .val (.long p2), .second, .val (.long p3), .second, .val (.long p4), .second, .val (.long p5), .second, .val (.ref kk), .unset, .unset, .unset] [(.int (4 : Int32)), (.ref kk)])) _
    refine XS.lload X13.here hx rfl (hb hby at_30) rfl ?_
    exact kt)
  obtain ⟨T16, h16, X16, e16, W16, V16, st16⟩ := own_stJ X13 hx hZ e13 V13 (j := (4 : Int32)) (x := p5) 4 (by decide) (by simp) (Ls := #[.val (.long p1), .second, .val (.long p2), .second, .val (.long p3), .second, .val (.long p4), .second, .val (.long p5), .second, .val (.ref kk), .unset, .unset, .unset]) (rest := []) (hb hby at_32)
  have N16 := Fr.snoc X16 N13 g_kk
  have K16 : Keep h0 h16 [] := K13.wr W16 (Or.inr sz_kk)
  have g16 : own_Go p e below s₁ (entryFrame m #[(.long p1), (.long p2), (.long p3), (.long p4), (.long p5)] maxLocals) T16 (mkF m 33 #[.val (.long p1), .second, .val (.long p2), .second, .val (.long p3), .second, .val (.long p4), .second, .val (.long p5), .second, .val (.ref kk), .unset, .unset, .unset] []) := fun t kt => g15 t (st16 _ kt)
  have VK : own_LJ Z h16 kk k_kk 5 [p1, p2, p3, p4, p5] := V16
  obtain ⟨T18, h18, X18, e18, E18, A18, D18, -, st18⟩ := newO X16 hx hZ hown (hw _ (List.mem_of_getElem? (i := 1) rfl)) (hw _ (List.mem_of_getElem? (i := 2) rfl)) (hw _ (List.mem_of_getElem? (i := 3) rfl)) e16 (g := (mkF m 33 #[.val (.long p1), .second, .val (.long p2), .second, .val (.long p3), .second, .val (.long p4), .second, .val (.long p5), .second, .val (.ref kk), .unset, .unset, .unset] [])) rfl (hb hby at_33) (by decide) (by decide)
  obtain ⟨a, q_a⟩ : ∃ z, z = h16.size := ⟨_, rfl⟩
  rw [← q_a] at A18 D18 st18
  have ne_kk_a : kk ≠ a := Nat.ne_of_lt (Nat.lt_of_lt_of_le VK.lt (Nat.le_of_eq q_a.symm))
  have sz_a : h0.size ≤ a := Nat.le_trans K16.1 (Nat.le_of_eq q_a.symm)
  have g_a : n0 ≤ a := Nat.le_trans Z0 sz_a
  have f19 := VK.ext E18
  have F_keys_a : Fld Z h18 a "com/example/pincer/pincer/engine/MinHeap" "keys" "[J" .null := D18 (Or.inl (hw _ (List.mem_of_getElem? (i := 11) rfl))) (ty := (.array .long)) (by decide)
  have F_items_a : Fld Z h18 a "com/example/pincer/pincer/engine/MinHeap" "items" "[I" .null := D18 (Or.inl (hw _ (List.mem_of_getElem? (i := 14) rfl))) (ty := (.array .int)) (by decide)
  have F_size_a : Fld Z h18 a "com/example/pincer/pincer/engine/MinHeap" "size" "I" (.int (0 : Int32)) := D18 (Or.inl (hw _ (List.mem_of_getElem? (i := 21) rfl))) (ty := .int) (by decide)
  have K18 : Keep h0 h18 [] := K16.ext E18
  have g18 : own_Go p e below s₁ (entryFrame m #[(.long p1), (.long p2), (.long p3), (.long p4), (.long p5)] maxLocals) T18 (mkF m 36 #[.val (.long p1), .second, .val (.long p2), .second, .val (.long p3), .second, .val (.long p4), .second, .val (.long p5), .second, .val (.ref kk), .unset, .unset, .unset] [(.ref a)]) := fun t kt => g16 t (st18 _ kt)
  have g20 : own_Go p e below s₁ (entryFrame m #[(.long p1), (.long p2), (.long p3), (.long p4), (.long p5)] maxLocals) T18 (mkF m 37 #[.val (.long p1), .second, .val (.long p2), .second, .val (.long p3), .second, .val (.long p4), .second, .val (.long p5), .second, .val (.ref kk), .unset, .unset, .unset] [(.ref a), (.ref a)]) := fun t kt => g18 t (by
    show Steps p.tables e below (T18.setTop (mkF m 36 #[.val (.long p1), .second, .val (.long p2), .second, .val (.long p3), .second, .val (.long p4), .second, .val (.long p5), .second, .val (.ref kk), .unset, .unset, .unset] [(.ref a)])) _
    refine XS.dup X18.here hx rfl (hb hby at_36) rfl rfl ?_
    exact kt)
  obtain ⟨_, _, ⟨T21, L21, k21, n21⟩, -, X21, ⟨Lc21, hQ21, l21, y21, z21⟩, st21⟩ := X18.specialBack hx (y := (⟨"com/example/pincer/pincer/engine/MinHeap", "<init>", "()V"⟩ : MethodName)) rfl hown (mvT hZ (hw _ (List.mem_of_getElem? (i := 4) rfl))) (mvT hZ (hw _ (List.mem_of_getElem? (i := 5) rfl))) (mvT hZ (hw _ (List.mem_of_getElem? (i := 6) rfl))) (by decide) (backOf (W := 1) (rm1 l Z a0 hw [] a h18 n0 (Nat.le_trans Z0 K18.1) F_keys_a F_items_a F_size_a A18 g_a) hZ (hw _ (List.mem_of_getElem? (i := 6) rfl)) (hw _ (List.mem_of_getElem? (i := 3) rfl)) (by decide) (by decide)) (g := (mkF m 37 #[.val (.long p1), .second, .val (.long p2), .second, .val (.long p3), .second, .val (.long p4), .second, .val (.long p5), .second, .val (.ref kk), .unset, .unset, .unset] [(.ref a), (.ref a)])) rfl (by rw [hml]; rfl) (Steps.refl _) (a := a) (argsL := []) (rest := [(.ref a)]) (lenOf pd_0 rfl) rfl (by show 2 * 0 + _ ≤ _; exact Nat.le_of_eq rfl) (hb hby at_37) (fun _ _ => ⟨rfl, e18, (by decide : 2 + 2 ≤ _), (by decide : 8 + 32 ≤ _)⟩)
  dsimp only [Pt.U, Pt.locs, Pt.cells, Pt.slots] at X21 l21 y21 z21 st21 hQ21
  subst y21 z21
  obtain ⟨rfl, N21q, Kc21, ka, kc, ia, ic, hka, hia, M0⟩ := hQ21
  have N21 : Fr n0 L21 := by rw [l21]; exact Fr.app N16 N21q
  have g21 : own_Go p e below s₁ (entryFrame m #[(.long p1), (.long p2), (.long p3), (.long p4), (.long p5)] maxLocals) T21 (mkF m 40 #[.val (.long p1), .second, .val (.long p2), .second, .val (.long p3), .second, .val (.long p4), .second, .val (.long p5), .second, .val (.ref kk), .unset, .unset, .unset] [(.ref a)]) := fun t kt => g20 t (st21.trans kt)
  have f22 := f19.keep Kc21 (ninS ne_kk_a nin0)
  have f23 := A18.keep Kc21
  have KK21 : Keep h0 T21.heap [] := K18.trans Kc21 (allS (Or.inr sz_a) all0)
  have g_ka : n0 ≤ ka := Nat.le_trans (Nat.le_trans Z0 K18.1) hka
  have g_ia : n0 ≤ ia := Nat.le_trans (Nat.le_trans Z0 K18.1) hia
  have sz_ka : h0.size ≤ ka := Nat.le_trans K18.1 hka
  have sz_ia : h0.size ≤ ia := Nat.le_trans K18.1 hia
  have ne_kk_ka : kk ≠ ka := Nat.ne_of_lt (Nat.lt_of_lt_of_le f19.lt hka)
  have ne_kk_ia : kk ≠ ia := Nat.ne_of_lt (Nat.lt_of_lt_of_le f19.lt hia)
  have g27 : own_Go p e below s₁ (entryFrame m #[(.long p1), (.long p2), (.long p3), (.long p4), (.long p5)] maxLocals) T21 (mkF m 46 #[.val (.long p1), .second, .val (.long p2), .second, .val (.long p3), .second, .val (.long p4), .second, .val (.long p5), .second, .val (.ref kk), .val (.ref a), .unset, .unset] [(.int (0 : Int32)), (.long p1), (.ref a)]) := fun t kt => g21 t (by
    show Steps p.tables e below (T21.setTop (mkF m 40 #[.val (.long p1), .second, .val (.long p2), .second, .val (.long p3), .second, .val (.long p4), .second, .val (.long p5), .second, .val (.ref kk), .unset, .unset, .unset] [(.ref a)])) _
    refine XS.astore X21.here hx rfl (hb hby at_40) rfl rfl (l' := #[.val (.long p1), .second, .val (.long p2), .second, .val (.long p3), .second, .val (.long p4), .second, .val (.long p5), .second, .val (.ref kk), .val (.ref a), .unset, .unset]) rfl ?_
    show Steps p.tables e below (T21.setTop (mkF m 42 #[.val (.long p1), .second, .val (.long p2), .second, .val (.long p3), .second, .val (.long p4), .second, .val (.long p5), .second, .val (.ref kk), .val (.ref a), .unset, .unset] [])) _
    refine XS.aload X21.here hx rfl (hb hby at_42) rfl rfl ?_
    show Steps p.tables e below (T21.setTop (mkF m 44 #[.val (.long p1), .second, .val (.long p2), .second, .val (.long p3), .second, .val (.long p4), .second, .val (.long p5), .second, .val (.ref kk), .val (.ref a), .unset, .unset] [(.ref a)])) _
    refine XS.lloadN X21.here hx rfl (hb hby at_44) rfl ?_
    show Steps p.tables e below (T21.setTop (mkF m 45 #[.val (.long p1), .second, .val (.long p2), .second, .val (.long p3), .second, .val (.long p4), .second, .val (.long p5), .second, .val (.ref kk), .val (.ref a), .unset, .unset] [(.long p1), (.ref a)])) _
    refine XS.iconst X21.here hx rfl (hb hby at_45) ?_
    exact kt)
  obtain ⟨cq28, kq28, q28a, q28b, q28c⟩ := isOf hZ rfl M0.1
  obtain ⟨_, _, ⟨T28, L28, k28, n28⟩, -, X28, ⟨Lc28, hQ28, l28, y28, z28⟩, st28⟩ := X21.virtualBack hx (y := (⟨"com/example/pincer/pincer/engine/MinHeap", "push", "(JI)V"⟩ : MethodName)) (z := (⟨"com/example/pincer/pincer/engine/MinHeap", "push", "(JI)V"⟩ : MethodName)) hown (mvT hZ (hw _ (List.mem_of_getElem? (i := 15) rfl))) (mvT hZ (hw _ (List.mem_of_getElem? (i := 16) rfl))) (notFace_of_selects (args := #[]) (mvT hZ (hw _ (List.mem_of_getElem? (i := 18) rfl)))) (mvT hZ (hw _ (List.mem_of_getElem? (i := 18) rfl))) (mvT hZ (hw _ (List.mem_of_getElem? (i := 17) rfl))) (by decide) (backOf (W := 0) (rm3 l Z a0 hw [] a p1 (0 : Int32) ka kc ia ic (List.replicate 16 0) (List.replicate 16 0) 0 T21.heap n0 (Nat.le_trans Z0 KK21.1) M0 (by decide) g_a g_ka g_ia) hZ (hw _ (List.mem_of_getElem? (i := 19) rfl)) (hw _ (List.mem_of_getElem? (i := 3) rfl)) (by decide) (by decide)) q28a q28c (g := (mkF m 46 #[.val (.long p1), .second, .val (.long p2), .second, .val (.long p3), .second, .val (.long p4), .second, .val (.long p5), .second, .val (.ref kk), .val (.ref a), .unset, .unset] [(.int (0 : Int32)), (.long p1), (.ref a)])) rfl (by rw [hml]; rfl) (Steps.refl _) (argsL := [(.long p1), (.int (0 : Int32))]) (rest := []) (lenOf pd_1 rfl) rfl (by show 2 * 0 + _ ≤ _; exact Nat.le_of_eq rfl) (hb hby at_46) (fun _ _ => ⟨rfl, rfl, (by decide : 4 + 0 ≤ _), (by decide : 40 + 0 ≤ _)⟩)
  dsimp only [Pt.U, Pt.locs, Pt.cells, Pt.slots] at X28 l28 y28 z28 st28 hQ28
  subst y28 z28
  obtain ⟨rfl, N28q, Kc28, M28⟩ := hQ28
  have N28 : Fr n0 L28 := by rw [l28]; exact Fr.app N21 N28q
  have g28 : own_Go p e below s₁ (entryFrame m #[(.long p1), (.long p2), (.long p3), (.long p4), (.long p5)] maxLocals) T28 (mkF m 49 #[.val (.long p1), .second, .val (.long p2), .second, .val (.long p3), .second, .val (.long p4), .second, .val (.long p5), .second, .val (.ref kk), .val (.ref a), .unset, .unset] []) := fun t kt => g27 t (st28.trans kt)
  have f29 := f22.keep Kc28 (ninS ne_kk_a (ninS ne_kk_ka (ninS ne_kk_ia nin0)))
  have f30 := M0.1.keep Kc28
  have KK28 : Keep h0 T28.heap [] := KK21.trans Kc28 (allS (Or.inr sz_a) (allS (Or.inr sz_ka) (allS (Or.inr sz_ia) all0)))
  obtain ⟨xa0_0, ja0_0, eq0, P0⟩ := own_push0  0 p1  0 0 0 (List.replicate 15 0) (List.replicate 15 0) 
  rw [show own_push (List.replicate 16 0) (List.replicate 16 0) 0 p1 (0 : Int32) = (xa0_0 :: List.replicate 15 0, Int32.ofNat ja0_0 :: List.replicate 15 0) from eq0] at M28
  have g31 : own_Go p e below s₁ (entryFrame m #[(.long p1), (.long p2), (.long p3), (.long p4), (.long p5)] maxLocals) T28 (mkF m 53 #[.val (.long p1), .second, .val (.long p2), .second, .val (.long p3), .second, .val (.long p4), .second, .val (.long p5), .second, .val (.ref kk), .val (.ref a), .unset, .unset] [(.int (1 : Int32)), (.long p2), (.ref a)]) := fun t kt => g28 t (by
    show Steps p.tables e below (T28.setTop (mkF m 49 #[.val (.long p1), .second, .val (.long p2), .second, .val (.long p3), .second, .val (.long p4), .second, .val (.long p5), .second, .val (.ref kk), .val (.ref a), .unset, .unset] [])) _
    refine XS.aload X28.here hx rfl (hb hby at_49) rfl rfl ?_
    show Steps p.tables e below (T28.setTop (mkF m 51 #[.val (.long p1), .second, .val (.long p2), .second, .val (.long p3), .second, .val (.long p4), .second, .val (.long p5), .second, .val (.ref kk), .val (.ref a), .unset, .unset] [(.ref a)])) _
    refine XS.lloadN X28.here hx rfl (hb hby at_51) rfl ?_
    show Steps p.tables e below (T28.setTop (mkF m 52 #[.val (.long p1), .second, .val (.long p2), .second, .val (.long p3), .second, .val (.long p4), .second, .val (.long p5), .second, .val (.ref kk), .val (.ref a), .unset, .unset] [(.long p2), (.ref a)])) _
    refine XS.iconst X28.here hx rfl (hb hby at_52) ?_
    exact kt)
  obtain ⟨cq32, kq32, q32a, q32b, q32c⟩ := isOf hZ rfl M28.1
  obtain ⟨_, _, ⟨T32, L32, k32, n32⟩, -, X32, ⟨Lc32, hQ32, l32, y32, z32⟩, st32⟩ := X28.virtualBack hx (y := (⟨"com/example/pincer/pincer/engine/MinHeap", "push", "(JI)V"⟩ : MethodName)) (z := (⟨"com/example/pincer/pincer/engine/MinHeap", "push", "(JI)V"⟩ : MethodName)) hown (mvT hZ (hw _ (List.mem_of_getElem? (i := 15) rfl))) (mvT hZ (hw _ (List.mem_of_getElem? (i := 16) rfl))) (notFace_of_selects (args := #[]) (mvT hZ (hw _ (List.mem_of_getElem? (i := 18) rfl)))) (mvT hZ (hw _ (List.mem_of_getElem? (i := 18) rfl))) (mvT hZ (hw _ (List.mem_of_getElem? (i := 17) rfl))) (by decide) (backOf (W := 0) (rm3 l Z a0 hw [] a p2 (1 : Int32) ka kc ia ic (xa0_0 :: List.replicate 15 0) (Int32.ofNat ja0_0 :: List.replicate 15 0) 1 T28.heap n0 (Nat.le_trans Z0 KK28.1) M28 (by decide) g_a g_ka g_ia) hZ (hw _ (List.mem_of_getElem? (i := 19) rfl)) (hw _ (List.mem_of_getElem? (i := 3) rfl)) (by decide) (by decide)) q32a q32c (g := (mkF m 53 #[.val (.long p1), .second, .val (.long p2), .second, .val (.long p3), .second, .val (.long p4), .second, .val (.long p5), .second, .val (.ref kk), .val (.ref a), .unset, .unset] [(.int (1 : Int32)), (.long p2), (.ref a)])) rfl (by rw [hml]; rfl) (Steps.refl _) (argsL := [(.long p2), (.int (1 : Int32))]) (rest := []) (lenOf pd_1 rfl) rfl (by show 2 * 0 + _ ≤ _; exact Nat.le_of_eq rfl) (hb hby at_53) (fun _ _ => ⟨rfl, rfl, (by decide : 4 + 0 ≤ _), (by decide : 40 + 0 ≤ _)⟩)
  dsimp only [Pt.U, Pt.locs, Pt.cells, Pt.slots] at X32 l32 y32 z32 st32 hQ32
  subst y32 z32
  obtain ⟨rfl, N32q, Kc32, M32⟩ := hQ32
  have N32 : Fr n0 L32 := by rw [l32]; exact Fr.app N28 N32q
  have g32 : own_Go p e below s₁ (entryFrame m #[(.long p1), (.long p2), (.long p3), (.long p4), (.long p5)] maxLocals) T32 (mkF m 56 #[.val (.long p1), .second, .val (.long p2), .second, .val (.long p3), .second, .val (.long p4), .second, .val (.long p5), .second, .val (.ref kk), .val (.ref a), .unset, .unset] []) := fun t kt => g31 t (st32.trans kt)
  have f33 := f29.keep Kc32 (ninS ne_kk_a (ninS ne_kk_ka (ninS ne_kk_ia nin0)))
  have f34 := M28.1.keep Kc32
  have KK32 : Keep h0 T32.heap [] := KK28.trans Kc32 (allS (Or.inr sz_a) (allS (Or.inr sz_ka) (allS (Or.inr sz_ia) all0)))
  obtain ⟨xa1_0, xa1_1, ja1_0, ja1_1, eq1, oa1_1, P1⟩ := own_push1 xa0_0 0 p2 ja0_0 0 1 0 (List.replicate 14 0) (List.replicate 14 0) 
  rw [show own_push (xa0_0 :: List.replicate 15 0) (Int32.ofNat ja0_0 :: List.replicate 15 0) 1 p2 (1 : Int32) = (xa1_0 :: xa1_1 :: List.replicate 14 0, Int32.ofNat ja1_0 :: Int32.ofNat ja1_1 :: List.replicate 14 0) from eq1] at M32
  have g35 : own_Go p e below s₁ (entryFrame m #[(.long p1), (.long p2), (.long p3), (.long p4), (.long p5)] maxLocals) T32 (mkF m 61 #[.val (.long p1), .second, .val (.long p2), .second, .val (.long p3), .second, .val (.long p4), .second, .val (.long p5), .second, .val (.ref kk), .val (.ref a), .unset, .unset] [(.int (2 : Int32)), (.long p3), (.ref a)]) := fun t kt => g32 t (by
    show Steps p.tables e below (T32.setTop (mkF m 56 #[.val (.long p1), .second, .val (.long p2), .second, .val (.long p3), .second, .val (.long p4), .second, .val (.long p5), .second, .val (.ref kk), .val (.ref a), .unset, .unset] [])) _
    refine XS.aload X32.here hx rfl (hb hby at_56) rfl rfl ?_
    show Steps p.tables e below (T32.setTop (mkF m 58 #[.val (.long p1), .second, .val (.long p2), .second, .val (.long p3), .second, .val (.long p4), .second, .val (.long p5), .second, .val (.ref kk), .val (.ref a), .unset, .unset] [(.ref a)])) _
    refine XS.lload X32.here hx rfl (hb hby at_58) rfl ?_
    show Steps p.tables e below (T32.setTop (mkF m 60 #[.val (.long p1), .second, .val (.long p2), .second, .val (.long p3), .second, .val (.long p4), .second, .val (.long p5), .second, .val (.ref kk), .val (.ref a), .unset, .unset] [(.long p3), (.ref a)])) _
    refine XS.iconst X32.here hx rfl (hb hby at_60) ?_
    exact kt)
  obtain ⟨cq36, kq36, q36a, q36b, q36c⟩ := isOf hZ rfl M32.1
  obtain ⟨_, _, ⟨T36, L36, k36, n36⟩, -, X36, ⟨Lc36, hQ36, l36, y36, z36⟩, st36⟩ := X32.virtualBack hx (y := (⟨"com/example/pincer/pincer/engine/MinHeap", "push", "(JI)V"⟩ : MethodName)) (z := (⟨"com/example/pincer/pincer/engine/MinHeap", "push", "(JI)V"⟩ : MethodName)) hown (mvT hZ (hw _ (List.mem_of_getElem? (i := 15) rfl))) (mvT hZ (hw _ (List.mem_of_getElem? (i := 16) rfl))) (notFace_of_selects (args := #[]) (mvT hZ (hw _ (List.mem_of_getElem? (i := 18) rfl)))) (mvT hZ (hw _ (List.mem_of_getElem? (i := 18) rfl))) (mvT hZ (hw _ (List.mem_of_getElem? (i := 17) rfl))) (by decide) (backOf (W := 0) (rm3 l Z a0 hw [] a p3 (2 : Int32) ka kc ia ic (xa1_0 :: xa1_1 :: List.replicate 14 0) (Int32.ofNat ja1_0 :: Int32.ofNat ja1_1 :: List.replicate 14 0) 2 T32.heap n0 (Nat.le_trans Z0 KK32.1) M32 (by decide) g_a g_ka g_ia) hZ (hw _ (List.mem_of_getElem? (i := 19) rfl)) (hw _ (List.mem_of_getElem? (i := 3) rfl)) (by decide) (by decide)) q36a q36c (g := (mkF m 61 #[.val (.long p1), .second, .val (.long p2), .second, .val (.long p3), .second, .val (.long p4), .second, .val (.long p5), .second, .val (.ref kk), .val (.ref a), .unset, .unset] [(.int (2 : Int32)), (.long p3), (.ref a)])) rfl (by rw [hml]; rfl) (Steps.refl _) (argsL := [(.long p3), (.int (2 : Int32))]) (rest := []) (lenOf pd_1 rfl) rfl (by show 2 * 0 + _ ≤ _; exact Nat.le_of_eq rfl) (hb hby at_61) (fun _ _ => ⟨rfl, rfl, (by decide : 4 + 0 ≤ _), (by decide : 40 + 0 ≤ _)⟩)
  dsimp only [Pt.U, Pt.locs, Pt.cells, Pt.slots] at X36 l36 y36 z36 st36 hQ36
  subst y36 z36
  obtain ⟨rfl, N36q, Kc36, M36⟩ := hQ36
  have N36 : Fr n0 L36 := by rw [l36]; exact Fr.app N32 N36q
  have g36 : own_Go p e below s₁ (entryFrame m #[(.long p1), (.long p2), (.long p3), (.long p4), (.long p5)] maxLocals) T36 (mkF m 64 #[.val (.long p1), .second, .val (.long p2), .second, .val (.long p3), .second, .val (.long p4), .second, .val (.long p5), .second, .val (.ref kk), .val (.ref a), .unset, .unset] []) := fun t kt => g35 t (st36.trans kt)
  have f37 := f33.keep Kc36 (ninS ne_kk_a (ninS ne_kk_ka (ninS ne_kk_ia nin0)))
  have f38 := M32.1.keep Kc36
  have KK36 : Keep h0 T36.heap [] := KK32.trans Kc36 (allS (Or.inr sz_a) (allS (Or.inr sz_ka) (allS (Or.inr sz_ia) all0)))
  obtain ⟨xa2_0, xa2_1, xa2_2, ja2_0, ja2_1, ja2_2, eq2, oa2_1, oa2_2, P2⟩ := own_push2 xa1_0 xa1_1 0 p3 ja1_0 ja1_1 0 2 0 (List.replicate 13 0) (List.replicate 13 0) oa1_1
  rw [show own_push (xa1_0 :: xa1_1 :: List.replicate 14 0) (Int32.ofNat ja1_0 :: Int32.ofNat ja1_1 :: List.replicate 14 0) 2 p3 (2 : Int32) = (xa2_0 :: xa2_1 :: xa2_2 :: List.replicate 13 0, Int32.ofNat ja2_0 :: Int32.ofNat ja2_1 :: Int32.ofNat ja2_2 :: List.replicate 13 0) from eq2] at M36
  have g39 : own_Go p e below s₁ (entryFrame m #[(.long p1), (.long p2), (.long p3), (.long p4), (.long p5)] maxLocals) T36 (mkF m 69 #[.val (.long p1), .second, .val (.long p2), .second, .val (.long p3), .second, .val (.long p4), .second, .val (.long p5), .second, .val (.ref kk), .val (.ref a), .unset, .unset] [(.int (3 : Int32)), (.long p4), (.ref a)]) := fun t kt => g36 t (by
    show Steps p.tables e below (T36.setTop (mkF m 64 #[.val (.long p1), .second, .val (.long p2), .second, .val (.long p3), .second, .val (.long p4), .second, .val (.long p5), .second, .val (.ref kk), .val (.ref a), .unset, .unset] [])) _
    refine XS.aload X36.here hx rfl (hb hby at_64) rfl rfl ?_
    show Steps p.tables e below (T36.setTop (mkF m 66 #[.val (.long p1), .second, .val (.long p2), .second, .val (.long p3), .second, .val (.long p4), .second, .val (.long p5), .second, .val (.ref kk), .val (.ref a), .unset, .unset] [(.ref a)])) _
    refine XS.lload X36.here hx rfl (hb hby at_66) rfl ?_
    show Steps p.tables e below (T36.setTop (mkF m 68 #[.val (.long p1), .second, .val (.long p2), .second, .val (.long p3), .second, .val (.long p4), .second, .val (.long p5), .second, .val (.ref kk), .val (.ref a), .unset, .unset] [(.long p4), (.ref a)])) _
    refine XS.iconst X36.here hx rfl (hb hby at_68) ?_
    exact kt)
  obtain ⟨cq40, kq40, q40a, q40b, q40c⟩ := isOf hZ rfl M36.1
  obtain ⟨_, _, ⟨T40, L40, k40, n40⟩, -, X40, ⟨Lc40, hQ40, l40, y40, z40⟩, st40⟩ := X36.virtualBack hx (y := (⟨"com/example/pincer/pincer/engine/MinHeap", "push", "(JI)V"⟩ : MethodName)) (z := (⟨"com/example/pincer/pincer/engine/MinHeap", "push", "(JI)V"⟩ : MethodName)) hown (mvT hZ (hw _ (List.mem_of_getElem? (i := 15) rfl))) (mvT hZ (hw _ (List.mem_of_getElem? (i := 16) rfl))) (notFace_of_selects (args := #[]) (mvT hZ (hw _ (List.mem_of_getElem? (i := 18) rfl)))) (mvT hZ (hw _ (List.mem_of_getElem? (i := 18) rfl))) (mvT hZ (hw _ (List.mem_of_getElem? (i := 17) rfl))) (by decide) (backOf (W := 0) (rm3 l Z a0 hw [] a p4 (3 : Int32) ka kc ia ic (xa2_0 :: xa2_1 :: xa2_2 :: List.replicate 13 0) (Int32.ofNat ja2_0 :: Int32.ofNat ja2_1 :: Int32.ofNat ja2_2 :: List.replicate 13 0) 3 T36.heap n0 (Nat.le_trans Z0 KK36.1) M36 (by decide) g_a g_ka g_ia) hZ (hw _ (List.mem_of_getElem? (i := 19) rfl)) (hw _ (List.mem_of_getElem? (i := 3) rfl)) (by decide) (by decide)) q40a q40c (g := (mkF m 69 #[.val (.long p1), .second, .val (.long p2), .second, .val (.long p3), .second, .val (.long p4), .second, .val (.long p5), .second, .val (.ref kk), .val (.ref a), .unset, .unset] [(.int (3 : Int32)), (.long p4), (.ref a)])) rfl (by rw [hml]; rfl) (Steps.refl _) (argsL := [(.long p4), (.int (3 : Int32))]) (rest := []) (lenOf pd_1 rfl) rfl (by show 2 * 0 + _ ≤ _; exact Nat.le_of_eq rfl) (hb hby at_69) (fun _ _ => ⟨rfl, rfl, (by decide : 4 + 0 ≤ _), (by decide : 40 + 0 ≤ _)⟩)
  dsimp only [Pt.U, Pt.locs, Pt.cells, Pt.slots] at X40 l40 y40 z40 st40 hQ40
  subst y40 z40
  obtain ⟨rfl, N40q, Kc40, M40⟩ := hQ40
  have N40 : Fr n0 L40 := by rw [l40]; exact Fr.app N36 N40q
  have g40 : own_Go p e below s₁ (entryFrame m #[(.long p1), (.long p2), (.long p3), (.long p4), (.long p5)] maxLocals) T40 (mkF m 72 #[.val (.long p1), .second, .val (.long p2), .second, .val (.long p3), .second, .val (.long p4), .second, .val (.long p5), .second, .val (.ref kk), .val (.ref a), .unset, .unset] []) := fun t kt => g39 t (st40.trans kt)
  have f41 := f37.keep Kc40 (ninS ne_kk_a (ninS ne_kk_ka (ninS ne_kk_ia nin0)))
  have f42 := M36.1.keep Kc40
  have KK40 : Keep h0 T40.heap [] := KK36.trans Kc40 (allS (Or.inr sz_a) (allS (Or.inr sz_ka) (allS (Or.inr sz_ia) all0)))
  obtain ⟨xa3_0, xa3_1, xa3_2, xa3_3, ja3_0, ja3_1, ja3_2, ja3_3, eq3, oa3_1, oa3_2, oa3_3, P3⟩ := own_push3 xa2_0 xa2_1 xa2_2 0 p4 ja2_0 ja2_1 ja2_2 0 3 0 (List.replicate 12 0) (List.replicate 12 0) oa2_1 oa2_2
  rw [show own_push (xa2_0 :: xa2_1 :: xa2_2 :: List.replicate 13 0) (Int32.ofNat ja2_0 :: Int32.ofNat ja2_1 :: Int32.ofNat ja2_2 :: List.replicate 13 0) 3 p4 (3 : Int32) = (xa3_0 :: xa3_1 :: xa3_2 :: xa3_3 :: List.replicate 12 0, Int32.ofNat ja3_0 :: Int32.ofNat ja3_1 :: Int32.ofNat ja3_2 :: Int32.ofNat ja3_3 :: List.replicate 12 0) from eq3] at M40
  have g43 : own_Go p e below s₁ (entryFrame m #[(.long p1), (.long p2), (.long p3), (.long p4), (.long p5)] maxLocals) T40 (mkF m 77 #[.val (.long p1), .second, .val (.long p2), .second, .val (.long p3), .second, .val (.long p4), .second, .val (.long p5), .second, .val (.ref kk), .val (.ref a), .unset, .unset] [(.int (4 : Int32)), (.long p5), (.ref a)]) := fun t kt => g40 t (by
    show Steps p.tables e below (T40.setTop (mkF m 72 #[.val (.long p1), .second, .val (.long p2), .second, .val (.long p3), .second, .val (.long p4), .second, .val (.long p5), .second, .val (.ref kk), .val (.ref a), .unset, .unset] [])) _
    refine XS.aload X40.here hx rfl (hb hby at_72) rfl rfl ?_
    show Steps p.tables e below (T40.setTop (mkF m 74 #[.val (.long p1), .second, .val (.long p2), .second, .val (.long p3), .second, .val (.long p4), .second, .val (.long p5), .second, .val (.ref kk), .val (.ref a), .unset, .unset] [(.ref a)])) _
    refine XS.lload X40.here hx rfl (hb hby at_74) rfl ?_
    show Steps p.tables e below (T40.setTop (mkF m 76 #[.val (.long p1), .second, .val (.long p2), .second, .val (.long p3), .second, .val (.long p4), .second, .val (.long p5), .second, .val (.ref kk), .val (.ref a), .unset, .unset] [(.long p5), (.ref a)])) _
    refine XS.iconst X40.here hx rfl (hb hby at_76) ?_
    exact kt)
  obtain ⟨cq44, kq44, q44a, q44b, q44c⟩ := isOf hZ rfl M40.1
  obtain ⟨_, _, ⟨T44, L44, k44, n44⟩, -, X44, ⟨Lc44, hQ44, l44, y44, z44⟩, st44⟩ := X40.virtualBack hx (y := (⟨"com/example/pincer/pincer/engine/MinHeap", "push", "(JI)V"⟩ : MethodName)) (z := (⟨"com/example/pincer/pincer/engine/MinHeap", "push", "(JI)V"⟩ : MethodName)) hown (mvT hZ (hw _ (List.mem_of_getElem? (i := 15) rfl))) (mvT hZ (hw _ (List.mem_of_getElem? (i := 16) rfl))) (notFace_of_selects (args := #[]) (mvT hZ (hw _ (List.mem_of_getElem? (i := 18) rfl)))) (mvT hZ (hw _ (List.mem_of_getElem? (i := 18) rfl))) (mvT hZ (hw _ (List.mem_of_getElem? (i := 17) rfl))) (by decide) (backOf (W := 0) (rm3 l Z a0 hw [] a p5 (4 : Int32) ka kc ia ic (xa3_0 :: xa3_1 :: xa3_2 :: xa3_3 :: List.replicate 12 0) (Int32.ofNat ja3_0 :: Int32.ofNat ja3_1 :: Int32.ofNat ja3_2 :: Int32.ofNat ja3_3 :: List.replicate 12 0) 4 T40.heap n0 (Nat.le_trans Z0 KK40.1) M40 (by decide) g_a g_ka g_ia) hZ (hw _ (List.mem_of_getElem? (i := 19) rfl)) (hw _ (List.mem_of_getElem? (i := 3) rfl)) (by decide) (by decide)) q44a q44c (g := (mkF m 77 #[.val (.long p1), .second, .val (.long p2), .second, .val (.long p3), .second, .val (.long p4), .second, .val (.long p5), .second, .val (.ref kk), .val (.ref a), .unset, .unset] [(.int (4 : Int32)), (.long p5), (.ref a)])) rfl (by rw [hml]; rfl) (Steps.refl _) (argsL := [(.long p5), (.int (4 : Int32))]) (rest := []) (lenOf pd_1 rfl) rfl (by show 2 * 0 + _ ≤ _; exact Nat.le_of_eq rfl) (hb hby at_77) (fun _ _ => ⟨rfl, rfl, (by decide : 4 + 0 ≤ _), (by decide : 40 + 0 ≤ _)⟩)
  dsimp only [Pt.U, Pt.locs, Pt.cells, Pt.slots] at X44 l44 y44 z44 st44 hQ44
  subst y44 z44
  obtain ⟨rfl, N44q, Kc44, M44⟩ := hQ44
  have N44 : Fr n0 L44 := by rw [l44]; exact Fr.app N40 N44q
  have g44 : own_Go p e below s₁ (entryFrame m #[(.long p1), (.long p2), (.long p3), (.long p4), (.long p5)] maxLocals) T44 (mkF m 80 #[.val (.long p1), .second, .val (.long p2), .second, .val (.long p3), .second, .val (.long p4), .second, .val (.long p5), .second, .val (.ref kk), .val (.ref a), .unset, .unset] []) := fun t kt => g43 t (st44.trans kt)
  have f45 := f41.keep Kc44 (ninS ne_kk_a (ninS ne_kk_ka (ninS ne_kk_ia nin0)))
  have f46 := M40.1.keep Kc44
  have KK44 : Keep h0 T44.heap [] := KK40.trans Kc44 (allS (Or.inr sz_a) (allS (Or.inr sz_ka) (allS (Or.inr sz_ia) all0)))
  obtain ⟨xa4_0, xa4_1, xa4_2, xa4_3, xa4_4, ja4_0, ja4_1, ja4_2, ja4_3, ja4_4, eq4, oa4_1, oa4_2, oa4_3, oa4_4, P4⟩ := own_push4 xa3_0 xa3_1 xa3_2 xa3_3 0 p5 ja3_0 ja3_1 ja3_2 ja3_3 0 4 0 (List.replicate 11 0) (List.replicate 11 0) oa3_1 oa3_2 oa3_3
  rw [show own_push (xa3_0 :: xa3_1 :: xa3_2 :: xa3_3 :: List.replicate 12 0) (Int32.ofNat ja3_0 :: Int32.ofNat ja3_1 :: Int32.ofNat ja3_2 :: Int32.ofNat ja3_3 :: List.replicate 12 0) 4 p5 (4 : Int32) = (xa4_0 :: xa4_1 :: xa4_2 :: xa4_3 :: xa4_4 :: List.replicate 11 0, Int32.ofNat ja4_0 :: Int32.ofNat ja4_1 :: Int32.ofNat ja4_2 :: Int32.ofNat ja4_3 :: Int32.ofNat ja4_4 :: List.replicate 11 0) from eq4] at M44
  have G0 : own_Good [p1, p2, p3, p4, p5] 0 [(xa4_0, ja4_0), (xa4_1, ja4_1), (xa4_2, ja4_2), (xa4_3, ja4_3), (xa4_4, ja4_4)] := (own_good_start p1 p2 p3 p4 p5).perm (P4.trans (List.Perm.cons _ (P3.trans (List.Perm.cons _ (P2.trans (List.Perm.cons _ (P1.trans (List.Perm.cons _ P0))))))))
  have g47 : own_Go p e below s₁ (entryFrame m #[(.long p1), (.long p2), (.long p3), (.long p4), (.long p5)] maxLocals) T44 (mkF m 83 #[.val (.long p1), .second, .val (.long p2), .second, .val (.long p3), .second, .val (.long p4), .second, .val (.long p5), .second, .val (.ref kk), .val (.ref a), .val (.int (0 : Int32)), .unset] []) := fun t kt => g44 t (by
    show Steps p.tables e below (T44.setTop (mkF m 80 #[.val (.long p1), .second, .val (.long p2), .second, .val (.long p3), .second, .val (.long p4), .second, .val (.long p5), .second, .val (.ref kk), .val (.ref a), .unset, .unset] [])) _
    refine XS.iconst X44.here hx rfl (hb hby at_80) ?_
    show Steps p.tables e below (T44.setTop (mkF m 81 #[.val (.long p1), .second, .val (.long p2), .second, .val (.long p3), .second, .val (.long p4), .second, .val (.long p5), .second, .val (.ref kk), .val (.ref a), .unset, .unset] [(.int (0 : Int32))])) _
    refine XS.istore X44.here hx rfl (hb hby at_81) rfl (l' := #[.val (.long p1), .second, .val (.long p2), .second, .val (.long p3), .second, .val (.long p4), .second, .val (.long p5), .second, .val (.ref kk), .val (.ref a), .val (.int (0 : Int32)), .unset]) rfl ?_
    exact kt)
  have gz : own_Go p e below s₁ (entryFrame m #[(.long p1), (.long p2), (.long p3), (.long p4), (.long p5)] maxLocals) T44 (mkF m 83 #[.val (.long p1), .second, .val (.long p2), .second, .val (.long p3), .second, .val (.long p4), .second, .val (.long p5), .second, .val (.ref kk), .val (.ref a), .val (.int (Int32.ofNat 0)), .unset] []) := g47
  have g48 : own_Go p e below s₁ (entryFrame m #[(.long p1), (.long p2), (.long p3), (.long p4), (.long p5)] maxLocals) T44 (mkF m 85 #[.val (.long p1), .second, .val (.long p2), .second, .val (.long p3), .second, .val (.long p4), .second, .val (.long p5), .second, .val (.ref kk), .val (.ref a), .val (.int (Int32.ofNat 0)), .unset] [(.ref a)]) := fun t kt => gz t (by
    show Steps p.tables e below (T44.setTop (mkF m 83 #[.val (.long p1), .second, .val (.long p2), .second, .val (.long p3), .second, .val (.long p4), .second, .val (.long p5), .second, .val (.ref kk), .val (.ref a), .val (.int (Int32.ofNat 0)), .unset] [])) _
    refine XS.aload X44.here hx rfl (hb hby at_83) rfl rfl ?_
    exact kt)
  obtain ⟨cq49, kq49, q49a, q49b, q49c⟩ := isOf hZ rfl M44.1
  obtain ⟨_, _, ⟨T49, L49, k49, n49⟩, -, X49, ⟨Lc49, hQ49, l49, y49, z49⟩, st49⟩ := X44.virtualBack hx (y := (⟨"com/example/pincer/pincer/engine/MinHeap", "pop", "()I"⟩ : MethodName)) (z := (⟨"com/example/pincer/pincer/engine/MinHeap", "pop", "()I"⟩ : MethodName)) hown (mvT hZ (hw _ (List.mem_of_getElem? (i := 22) rfl))) (mvT hZ (hw _ (List.mem_of_getElem? (i := 23) rfl))) (notFace_of_selects (args := #[]) (mvT hZ (hw _ (List.mem_of_getElem? (i := 25) rfl)))) (mvT hZ (hw _ (List.mem_of_getElem? (i := 25) rfl))) (mvT hZ (hw _ (List.mem_of_getElem? (i := 24) rfl))) (by decide) (backOf (W := 0) (rm4 l Z a0 hw [] a ka kc ia ic (xa4_0 :: xa4_1 :: xa4_2 :: xa4_3 :: xa4_4 :: List.replicate 11 0) (Int32.ofNat ja4_0 :: Int32.ofNat ja4_1 :: Int32.ofNat ja4_2 :: Int32.ofNat ja4_3 :: Int32.ofNat ja4_4 :: List.replicate 11 0) 4 T44.heap n0 (Nat.le_trans Z0 KK44.1) M44 (by decide) g_a g_ka g_ia) hZ (hw _ (List.mem_of_getElem? (i := 26) rfl)) (hw _ (List.mem_of_getElem? (i := 3) rfl)) (by decide) (by decide)) q49a q49c (g := (mkF m 85 #[.val (.long p1), .second, .val (.long p2), .second, .val (.long p3), .second, .val (.long p4), .second, .val (.long p5), .second, .val (.ref kk), .val (.ref a), .val (.int (Int32.ofNat 0)), .unset] [(.ref a)])) rfl (by rw [hml]; rfl) (Steps.refl _) (argsL := []) (rest := []) (lenOf pd_2 rfl) rfl (by show 2 * 0 + _ ≤ _; exact Nat.le_of_eq rfl) (hb hby at_85) (fun _ _ => ⟨rfl, rfl, (by decide : 4 + 0 ≤ _), (by decide : 40 + 0 ≤ _)⟩)
  dsimp only [Pt.U, Pt.locs, Pt.cells, Pt.slots] at X49 l49 y49 z49 st49 hQ49
  subst y49 z49
  obtain ⟨rfl, N49q, Kc49, M49⟩ := hQ49
  have N49 : Fr n0 L49 := by rw [l49]; exact Fr.app N44 N49q
  have g49 : own_Go p e below s₁ (entryFrame m #[(.long p1), (.long p2), (.long p3), (.long p4), (.long p5)] maxLocals) T49 (mkF m 88 #[.val (.long p1), .second, .val (.long p2), .second, .val (.long p3), .second, .val (.long p4), .second, .val (.long p5), .second, .val (.ref kk), .val (.ref a), .val (.int (Int32.ofNat 0)), .unset] [(.int (Int32.ofNat ja4_0))]) := fun t kt => g48 t (st49.trans kt)
  have f50 := f45.keep Kc49 (ninS ne_kk_a (ninS ne_kk_ka (ninS ne_kk_ia nin0)))
  have f51 := M44.1.keep Kc49
  have KK49 : Keep h0 T49.heap [] := KK44.trans Kc49 (allS (Or.inr sz_a) (allS (Or.inr sz_ka) (allS (Or.inr sz_ia) all0)))
  obtain ⟨xb0_0, xb0_1, xb0_2, xb0_3, jb0_0, jb0_1, jb0_2, jb0_3, eq0p, ob0_1, ob0_2, ob0_3, R0⟩ := own_pop4 xa4_0 xa4_1 xa4_2 xa4_3 xa4_4 ja4_0 ja4_1 ja4_2 ja4_3 ja4_4 (List.replicate 11 0) (List.replicate 11 0) oa4_1 oa4_2 oa4_3 oa4_4
  rw [show own_pop (xa4_0 :: xa4_1 :: xa4_2 :: xa4_3 :: xa4_4 :: List.replicate 11 0) (Int32.ofNat ja4_0 :: Int32.ofNat ja4_1 :: Int32.ofNat ja4_2 :: Int32.ofNat ja4_3 :: Int32.ofNat ja4_4 :: List.replicate 11 0) 4 = (xb0_0 :: xb0_1 :: xb0_2 :: xb0_3 :: xa4_4 :: (List.replicate 11 0), Int32.ofNat jb0_0 :: Int32.ofNat jb0_1 :: Int32.ofNat jb0_2 :: Int32.ofNat jb0_3 :: Int32.ofNat ja4_4 :: (List.replicate 11 0)) from eq0p] at M49
  have hmin0 := own_min5 xa4_0 xa4_1 xa4_2 xa4_3 xa4_4 ja4_0 ja4_1 ja4_2 ja4_3 ja4_4 oa4_1 oa4_2 oa4_3 oa4_4
  obtain ⟨hr0, hb0, u0_0, u1_0, u2_0, u3_0, u4_0⟩ := own_good_min G0 hmin0
  have g52 : own_Go p e below s₁ (entryFrame m #[(.long p1), (.long p2), (.long p3), (.long p4), (.long p5)] maxLocals) T49 (mkF m 96 #[.val (.long p1), .second, .val (.long p2), .second, .val (.long p3), .second, .val (.long p4), .second, .val (.long p5), .second, .val (.ref kk), .val (.ref a), .val (.int (Int32.ofNat 0)), .val (.int (Int32.ofNat ja4_0))] [(.int (Int32.ofNat ja4_0)), (.int (Int32.ofNat 0)), (.ref kk)]) := fun t kt => g49 t (by
    show Steps p.tables e below (T49.setTop (mkF m 88 #[.val (.long p1), .second, .val (.long p2), .second, .val (.long p3), .second, .val (.long p4), .second, .val (.long p5), .second, .val (.ref kk), .val (.ref a), .val (.int (Int32.ofNat 0)), .unset] [(.int (Int32.ofNat ja4_0))])) _
    refine XS.istore X49.here hx rfl (hb hby at_88) rfl (l' := #[.val (.long p1), .second, .val (.long p2), .second, .val (.long p3), .second, .val (.long p4), .second, .val (.long p5), .second, .val (.ref kk), .val (.ref a), .val (.int (Int32.ofNat 0)), .val (.int (Int32.ofNat ja4_0))]) rfl ?_
    show Steps p.tables e below (T49.setTop (mkF m 90 #[.val (.long p1), .second, .val (.long p2), .second, .val (.long p3), .second, .val (.long p4), .second, .val (.long p5), .second, .val (.ref kk), .val (.ref a), .val (.int (Int32.ofNat 0)), .val (.int (Int32.ofNat ja4_0))] [])) _
    refine XS.aload X49.here hx rfl (hb hby at_90) rfl rfl ?_
    show Steps p.tables e below (T49.setTop (mkF m 92 #[.val (.long p1), .second, .val (.long p2), .second, .val (.long p3), .second, .val (.long p4), .second, .val (.long p5), .second, .val (.ref kk), .val (.ref a), .val (.int (Int32.ofNat 0)), .val (.int (Int32.ofNat ja4_0))] [(.ref kk)])) _
    refine XS.iload X49.here hx rfl (hb hby at_92) rfl ?_
    show Steps p.tables e below (T49.setTop (mkF m 94 #[.val (.long p1), .second, .val (.long p2), .second, .val (.long p3), .second, .val (.long p4), .second, .val (.long p5), .second, .val (.ref kk), .val (.ref a), .val (.int (Int32.ofNat 0)), .val (.int (Int32.ofNat ja4_0))] [(.int (Int32.ofNat 0)), (.ref kk)])) _
    refine XS.iload X49.here hx rfl (hb hby at_94) rfl ?_
    exact kt)
  obtain ⟨_, _, ⟨T53, L53, k53, n53⟩, -, X53, ⟨Lc53, hQ53, l53, y53, z53⟩, st53⟩ := Jvm.LawKit.callS X49 hx (y := (⟨"com/example/pincer/pincer/engine/MinHeapPopPinLaw", "ok", "([JII)Z"⟩ : MethodName)) hown (mvT hZ (hw _ (List.mem_of_getElem? (i := 27) rfl))) (mvT hZ (hw _ (List.mem_of_getElem? (i := 28) rfl))) (mvT hZ (hw _ (List.mem_of_getElem? (i := 29) rfl))) (mvT hZ (hw _ (List.mem_of_getElem? (i := 30) rfl))) (by decide) (backOf (W := 0) (rm5 l Z a0 hw [] kk (Int32.ofNat 0) (Int32.ofNat ja4_0) k_kk [p1, p2, p3, p4, p5] ja4_0 T49.heap n0 (Nat.le_trans Z0 KK49.1) f50 rfl hr0 rfl hb0 u0_0 u1_0 u2_0 u3_0 u4_0) hZ (hw _ (List.mem_of_getElem? (i := 30) rfl)) (hw _ (List.mem_of_getElem? (i := 29) rfl)) (by decide) (by decide)) (g := (mkF m 96 #[.val (.long p1), .second, .val (.long p2), .second, .val (.long p3), .second, .val (.long p4), .second, .val (.long p5), .second, .val (.ref kk), .val (.ref a), .val (.int (Int32.ofNat 0)), .val (.int (Int32.ofNat ja4_0))] [(.int (Int32.ofNat ja4_0)), (.int (Int32.ofNat 0)), (.ref kk)])) rfl (by rw [hml]; rfl) (argsL := [(.ref kk), (.int (Int32.ofNat 0)), (.int (Int32.ofNat ja4_0))]) (rest := []) (lenOf pd_3 rfl) rfl (by show 2 * 0 + _ ≤ _; exact Nat.le_of_eq rfl) (hb hby at_96) (fun _ _ => ⟨rfl, rfl, (by decide : 4 + 0 ≤ _), (by decide : 40 + 0 ≤ _)⟩)
  dsimp only [Pt.U, Pt.locs, Pt.cells, Pt.slots] at X53 l53 y53 z53 st53 hQ53
  subst y53 z53
  obtain ⟨rfl, N53q, Eq53⟩ := hQ53
  have N53 : Fr n0 L53 := by rw [l53]; exact Fr.app N49 N53q
  have g53 : own_Go p e below s₁ (entryFrame m #[(.long p1), (.long p2), (.long p3), (.long p4), (.long p5)] maxLocals) T53 (mkF m 99 #[.val (.long p1), .second, .val (.long p2), .second, .val (.long p3), .second, .val (.long p4), .second, .val (.long p5), .second, .val (.ref kk), .val (.ref a), .val (.int (Int32.ofNat 0)), .val (.int (Int32.ofNat ja4_0))] [(.int (1 : Int32))]) := fun t kt => g52 t (st53 _ kt)
  have E53' : T53.heap = T49.heap := Eq53
  have g54 : own_Go p e below s₁ (entryFrame m #[(.long p1), (.long p2), (.long p3), (.long p4), (.long p5)] maxLocals) T53 (mkF m 111 #[.val (.long p1), .second, .val (.long p2), .second, .val (.long p3), .second, .val (.long p4), .second, .val (.long p5), .second, .val (.ref kk), .val (.ref a), .val (.int (Int32.ofNat 0)), .val (.int (Int32.ofNat ja4_0))] [(.int ((Int32.ofNat 0) ||| ((1 : Int32) <<< ((Int32.ofNat ja4_0) &&& 31))))]) := fun t kt => g53 t (by
    show Steps p.tables e below (T53.setTop (mkF m 99 #[.val (.long p1), .second, .val (.long p2), .second, .val (.long p3), .second, .val (.long p4), .second, .val (.long p5), .second, .val (.ref kk), .val (.ref a), .val (.int (Int32.ofNat 0)), .val (.int (Int32.ofNat ja4_0))] [(.int (1 : Int32))])) _
    refine XS.ifYes X53.here hx rfl (pc0 := 99) (pc' := 104) rfl (hb hby at_99) rfl ((if0 _ _).trans (feq (by decide)).2) (by decide) (by decide) ?_
    show Steps p.tables e below (T53.setTop (mkF m 104 #[.val (.long p1), .second, .val (.long p2), .second, .val (.long p3), .second, .val (.long p4), .second, .val (.long p5), .second, .val (.ref kk), .val (.ref a), .val (.int (Int32.ofNat 0)), .val (.int (Int32.ofNat ja4_0))] [])) _
    refine XS.iload X53.here hx rfl (hb hby at_104) rfl ?_
    show Steps p.tables e below (T53.setTop (mkF m 106 #[.val (.long p1), .second, .val (.long p2), .second, .val (.long p3), .second, .val (.long p4), .second, .val (.long p5), .second, .val (.ref kk), .val (.ref a), .val (.int (Int32.ofNat 0)), .val (.int (Int32.ofNat ja4_0))] [(.int (Int32.ofNat 0))])) _
    refine XS.iconst X53.here hx rfl (hb hby at_106) ?_
    show Steps p.tables e below (T53.setTop (mkF m 107 #[.val (.long p1), .second, .val (.long p2), .second, .val (.long p3), .second, .val (.long p4), .second, .val (.long p5), .second, .val (.ref kk), .val (.ref a), .val (.int (Int32.ofNat 0)), .val (.int (Int32.ofNat ja4_0))] [(.int (1 : Int32)), (.int (Int32.ofNat 0))])) _
    refine XS.iload X53.here hx rfl (hb hby at_107) rfl ?_
    show Steps p.tables e below (T53.setTop (mkF m 109 #[.val (.long p1), .second, .val (.long p2), .second, .val (.long p3), .second, .val (.long p4), .second, .val (.long p5), .second, .val (.ref kk), .val (.ref a), .val (.int (Int32.ofNat 0)), .val (.int (Int32.ofNat ja4_0))] [(.int (Int32.ofNat ja4_0)), (.int (1 : Int32)), (.int (Int32.ofNat 0))])) _
    refine XS.ishl X53.here hx rfl (hb hby at_109) rfl ?_
    show Steps p.tables e below (T53.setTop (mkF m 110 #[.val (.long p1), .second, .val (.long p2), .second, .val (.long p3), .second, .val (.long p4), .second, .val (.long p5), .second, .val (.ref kk), .val (.ref a), .val (.int (Int32.ofNat 0)), .val (.int (Int32.ofNat ja4_0))] [(.int ((1 : Int32) <<< ((Int32.ofNat ja4_0) &&& 31))), (.int (Int32.ofNat 0))])) _
    refine XS.ior X53.here hx rfl (hb hby at_110) rfl ?_
    exact kt)
  have g55 : own_Go p e below s₁ (entryFrame m #[(.long p1), (.long p2), (.long p3), (.long p4), (.long p5)] maxLocals) T53 (mkF m 111 #[.val (.long p1), .second, .val (.long p2), .second, .val (.long p3), .second, .val (.long p4), .second, .val (.long p5), .second, .val (.ref kk), .val (.ref a), .val (.int (Int32.ofNat 0)), .val (.int (Int32.ofNat ja4_0))] [(.int (Int32.ofNat (0 ||| 2 ^ ja4_0)))]) := by have hcv := g54; rw [show ((Int32.ofNat 0) ||| ((1 : Int32) <<< ((Int32.ofNat ja4_0) &&& 31))) = (Int32.ofNat (0 ||| 2 ^ ja4_0)) from (own_b2 0 G0.1 ja4_0 hr0).1] at hcv; exact hcv
  have g56 : own_Go p e below s₁ (entryFrame m #[(.long p1), (.long p2), (.long p3), (.long p4), (.long p5)] maxLocals) T53 (mkF m 113 #[.val (.long p1), .second, .val (.long p2), .second, .val (.long p3), .second, .val (.long p4), .second, .val (.long p5), .second, .val (.ref kk), .val (.ref a), .val (.int (Int32.ofNat (0 ||| 2 ^ ja4_0))), .val (.int (Int32.ofNat ja4_0))] []) := fun t kt => g55 t (by
    show Steps p.tables e below (T53.setTop (mkF m 111 #[.val (.long p1), .second, .val (.long p2), .second, .val (.long p3), .second, .val (.long p4), .second, .val (.long p5), .second, .val (.ref kk), .val (.ref a), .val (.int (Int32.ofNat 0)), .val (.int (Int32.ofNat ja4_0))] [(.int (Int32.ofNat (0 ||| 2 ^ ja4_0)))])) _
    refine XS.istore X53.here hx rfl (hb hby at_111) rfl (l' := #[.val (.long p1), .second, .val (.long p2), .second, .val (.long p3), .second, .val (.long p4), .second, .val (.long p5), .second, .val (.ref kk), .val (.ref a), .val (.int (Int32.ofNat (0 ||| 2 ^ ja4_0))), .val (.int (Int32.ofNat ja4_0))]) rfl ?_
    exact kt)
  have G1 : own_Good [p1, p2, p3, p4, p5] (0 ||| 2 ^ ja4_0) [(xb0_0, jb0_0), (xb0_1, jb0_1), (xb0_2, jb0_2), (xb0_3, jb0_3)] := (own_good_pop G0).perm R0
  obtain ⟨m1, q_m1⟩ : ∃ z, z = 0 ||| 2 ^ ja4_0 := ⟨_, rfl⟩
  rw [← q_m1] at G1 g56
  have g57 : own_Go p e below s₁ (entryFrame m #[(.long p1), (.long p2), (.long p3), (.long p4), (.long p5)] maxLocals) T53 (mkF m 115 #[.val (.long p1), .second, .val (.long p2), .second, .val (.long p3), .second, .val (.long p4), .second, .val (.long p5), .second, .val (.ref kk), .val (.ref a), .val (.int (Int32.ofNat m1)), .val (.int (Int32.ofNat ja4_0))] [(.ref a)]) := fun t kt => g56 t (by
    show Steps p.tables e below (T53.setTop (mkF m 113 #[.val (.long p1), .second, .val (.long p2), .second, .val (.long p3), .second, .val (.long p4), .second, .val (.long p5), .second, .val (.ref kk), .val (.ref a), .val (.int (Int32.ofNat m1)), .val (.int (Int32.ofNat ja4_0))] [])) _
    refine XS.aload X53.here hx rfl (hb hby at_113) rfl rfl ?_
    exact kt)
  obtain ⟨cq58, kq58, q58a, q58b, q58c⟩ := isOf hZ E53' M49.1
  obtain ⟨_, _, ⟨T58, L58, k58, n58⟩, -, X58, ⟨Lc58, hQ58, l58, y58, z58⟩, st58⟩ := X53.virtualBack hx (y := (⟨"com/example/pincer/pincer/engine/MinHeap", "pop", "()I"⟩ : MethodName)) (z := (⟨"com/example/pincer/pincer/engine/MinHeap", "pop", "()I"⟩ : MethodName)) hown (mvT hZ (hw _ (List.mem_of_getElem? (i := 22) rfl))) (mvT hZ (hw _ (List.mem_of_getElem? (i := 23) rfl))) (notFace_of_selects (args := #[]) (mvT hZ (hw _ (List.mem_of_getElem? (i := 25) rfl)))) (mvT hZ (hw _ (List.mem_of_getElem? (i := 25) rfl))) (mvT hZ (hw _ (List.mem_of_getElem? (i := 24) rfl))) (by decide) (backOf (W := 0) (rm4 l Z a0 hw [] a ka kc ia ic (xb0_0 :: xb0_1 :: xb0_2 :: xb0_3 :: xa4_4 :: (List.replicate 11 0)) (Int32.ofNat jb0_0 :: Int32.ofNat jb0_1 :: Int32.ofNat jb0_2 :: Int32.ofNat jb0_3 :: Int32.ofNat ja4_4 :: (List.replicate 11 0)) 3 T49.heap n0 (Nat.le_trans Z0 KK49.1) M49 (by decide) g_a g_ka g_ia) hZ (hw _ (List.mem_of_getElem? (i := 26) rfl)) (hw _ (List.mem_of_getElem? (i := 3) rfl)) (by decide) (by decide)) q58a q58c (g := (mkF m 115 #[.val (.long p1), .second, .val (.long p2), .second, .val (.long p3), .second, .val (.long p4), .second, .val (.long p5), .second, .val (.ref kk), .val (.ref a), .val (.int (Int32.ofNat m1)), .val (.int (Int32.ofNat ja4_0))] [(.ref a)])) rfl (by rw [hml]; rfl) (Steps.refl _) (argsL := []) (rest := []) (lenOf pd_2 rfl) rfl (by show 2 * 0 + _ ≤ _; exact Nat.le_of_eq rfl) (hb hby at_115) (fun _ _ => ⟨rfl, E53', (by decide : 4 + 0 ≤ _), (by decide : 40 + 0 ≤ _)⟩)
  dsimp only [Pt.U, Pt.locs, Pt.cells, Pt.slots] at X58 l58 y58 z58 st58 hQ58
  subst y58 z58
  obtain ⟨rfl, N58q, Kc58, M58⟩ := hQ58
  have N58 : Fr n0 L58 := by rw [l58]; exact Fr.app N53 N58q
  have g58 : own_Go p e below s₁ (entryFrame m #[(.long p1), (.long p2), (.long p3), (.long p4), (.long p5)] maxLocals) T58 (mkF m 118 #[.val (.long p1), .second, .val (.long p2), .second, .val (.long p3), .second, .val (.long p4), .second, .val (.long p5), .second, .val (.ref kk), .val (.ref a), .val (.int (Int32.ofNat m1)), .val (.int (Int32.ofNat ja4_0))] [(.int (Int32.ofNat jb0_0))]) := fun t kt => g57 t (st58.trans kt)
  have f59 := f50.keep Kc58 (ninS ne_kk_a (ninS ne_kk_ka (ninS ne_kk_ia nin0)))
  have f60 := M49.1.keep Kc58
  have KK58 : Keep h0 T58.heap [] := KK49.trans Kc58 (allS (Or.inr sz_a) (allS (Or.inr sz_ka) (allS (Or.inr sz_ia) all0)))
  obtain ⟨xb1_0, xb1_1, xb1_2, jb1_0, jb1_1, jb1_2, eq1p, ob1_1, ob1_2, R1⟩ := own_pop3 xb0_0 xb0_1 xb0_2 xb0_3 jb0_0 jb0_1 jb0_2 jb0_3 (xa4_4 :: (List.replicate 11 0)) (Int32.ofNat ja4_4 :: (List.replicate 11 0)) ob0_1 ob0_2 ob0_3
  rw [show own_pop (xb0_0 :: xb0_1 :: xb0_2 :: xb0_3 :: xa4_4 :: (List.replicate 11 0)) (Int32.ofNat jb0_0 :: Int32.ofNat jb0_1 :: Int32.ofNat jb0_2 :: Int32.ofNat jb0_3 :: Int32.ofNat ja4_4 :: (List.replicate 11 0)) 3 = (xb1_0 :: xb1_1 :: xb1_2 :: xb0_3 :: (xa4_4 :: (List.replicate 11 0)), Int32.ofNat jb1_0 :: Int32.ofNat jb1_1 :: Int32.ofNat jb1_2 :: Int32.ofNat jb0_3 :: (Int32.ofNat ja4_4 :: (List.replicate 11 0))) from eq1p] at M58
  have hmin1 := own_min4 xb0_0 xb0_1 xb0_2 xb0_3 jb0_0 jb0_1 jb0_2 jb0_3 ob0_1 ob0_2 ob0_3
  obtain ⟨hr1, hb1, u0_1, u1_1, u2_1, u3_1, u4_1⟩ := own_good_min G1 hmin1
  have g61 : own_Go p e below s₁ (entryFrame m #[(.long p1), (.long p2), (.long p3), (.long p4), (.long p5)] maxLocals) T58 (mkF m 126 #[.val (.long p1), .second, .val (.long p2), .second, .val (.long p3), .second, .val (.long p4), .second, .val (.long p5), .second, .val (.ref kk), .val (.ref a), .val (.int (Int32.ofNat m1)), .val (.int (Int32.ofNat jb0_0))] [(.int (Int32.ofNat jb0_0)), (.int (Int32.ofNat m1)), (.ref kk)]) := fun t kt => g58 t (by
    show Steps p.tables e below (T58.setTop (mkF m 118 #[.val (.long p1), .second, .val (.long p2), .second, .val (.long p3), .second, .val (.long p4), .second, .val (.long p5), .second, .val (.ref kk), .val (.ref a), .val (.int (Int32.ofNat m1)), .val (.int (Int32.ofNat ja4_0))] [(.int (Int32.ofNat jb0_0))])) _
    refine XS.istore X58.here hx rfl (hb hby at_118) rfl (l' := #[.val (.long p1), .second, .val (.long p2), .second, .val (.long p3), .second, .val (.long p4), .second, .val (.long p5), .second, .val (.ref kk), .val (.ref a), .val (.int (Int32.ofNat m1)), .val (.int (Int32.ofNat jb0_0))]) rfl ?_
    show Steps p.tables e below (T58.setTop (mkF m 120 #[.val (.long p1), .second, .val (.long p2), .second, .val (.long p3), .second, .val (.long p4), .second, .val (.long p5), .second, .val (.ref kk), .val (.ref a), .val (.int (Int32.ofNat m1)), .val (.int (Int32.ofNat jb0_0))] [])) _
    refine XS.aload X58.here hx rfl (hb hby at_120) rfl rfl ?_
    show Steps p.tables e below (T58.setTop (mkF m 122 #[.val (.long p1), .second, .val (.long p2), .second, .val (.long p3), .second, .val (.long p4), .second, .val (.long p5), .second, .val (.ref kk), .val (.ref a), .val (.int (Int32.ofNat m1)), .val (.int (Int32.ofNat jb0_0))] [(.ref kk)])) _
    refine XS.iload X58.here hx rfl (hb hby at_122) rfl ?_
    show Steps p.tables e below (T58.setTop (mkF m 124 #[.val (.long p1), .second, .val (.long p2), .second, .val (.long p3), .second, .val (.long p4), .second, .val (.long p5), .second, .val (.ref kk), .val (.ref a), .val (.int (Int32.ofNat m1)), .val (.int (Int32.ofNat jb0_0))] [(.int (Int32.ofNat m1)), (.ref kk)])) _
    refine XS.iload X58.here hx rfl (hb hby at_124) rfl ?_
    exact kt)
  obtain ⟨_, _, ⟨T62, L62, k62, n62⟩, -, X62, ⟨Lc62, hQ62, l62, y62, z62⟩, st62⟩ := Jvm.LawKit.callS X58 hx (y := (⟨"com/example/pincer/pincer/engine/MinHeapPopPinLaw", "ok", "([JII)Z"⟩ : MethodName)) hown (mvT hZ (hw _ (List.mem_of_getElem? (i := 27) rfl))) (mvT hZ (hw _ (List.mem_of_getElem? (i := 28) rfl))) (mvT hZ (hw _ (List.mem_of_getElem? (i := 29) rfl))) (mvT hZ (hw _ (List.mem_of_getElem? (i := 30) rfl))) (by decide) (backOf (W := 0) (rm5 l Z a0 hw [] kk (Int32.ofNat m1) (Int32.ofNat jb0_0) k_kk [p1, p2, p3, p4, p5] jb0_0 T58.heap n0 (Nat.le_trans Z0 KK58.1) f59 rfl hr1 rfl hb1 u0_1 u1_1 u2_1 u3_1 u4_1) hZ (hw _ (List.mem_of_getElem? (i := 30) rfl)) (hw _ (List.mem_of_getElem? (i := 29) rfl)) (by decide) (by decide)) (g := (mkF m 126 #[.val (.long p1), .second, .val (.long p2), .second, .val (.long p3), .second, .val (.long p4), .second, .val (.long p5), .second, .val (.ref kk), .val (.ref a), .val (.int (Int32.ofNat m1)), .val (.int (Int32.ofNat jb0_0))] [(.int (Int32.ofNat jb0_0)), (.int (Int32.ofNat m1)), (.ref kk)])) rfl (by rw [hml]; rfl) (argsL := [(.ref kk), (.int (Int32.ofNat m1)), (.int (Int32.ofNat jb0_0))]) (rest := []) (lenOf pd_3 rfl) rfl (by show 2 * 0 + _ ≤ _; exact Nat.le_of_eq rfl) (hb hby at_126) (fun _ _ => ⟨rfl, rfl, (by decide : 4 + 0 ≤ _), (by decide : 40 + 0 ≤ _)⟩)
  dsimp only [Pt.U, Pt.locs, Pt.cells, Pt.slots] at X62 l62 y62 z62 st62 hQ62
  subst y62 z62
  obtain ⟨rfl, N62q, Eq62⟩ := hQ62
  have N62 : Fr n0 L62 := by rw [l62]; exact Fr.app N58 N62q
  have g62 : own_Go p e below s₁ (entryFrame m #[(.long p1), (.long p2), (.long p3), (.long p4), (.long p5)] maxLocals) T62 (mkF m 129 #[.val (.long p1), .second, .val (.long p2), .second, .val (.long p3), .second, .val (.long p4), .second, .val (.long p5), .second, .val (.ref kk), .val (.ref a), .val (.int (Int32.ofNat m1)), .val (.int (Int32.ofNat jb0_0))] [(.int (1 : Int32))]) := fun t kt => g61 t (st62 _ kt)
  have E62' : T62.heap = T58.heap := Eq62
  have g63 : own_Go p e below s₁ (entryFrame m #[(.long p1), (.long p2), (.long p3), (.long p4), (.long p5)] maxLocals) T62 (mkF m 141 #[.val (.long p1), .second, .val (.long p2), .second, .val (.long p3), .second, .val (.long p4), .second, .val (.long p5), .second, .val (.ref kk), .val (.ref a), .val (.int (Int32.ofNat m1)), .val (.int (Int32.ofNat jb0_0))] [(.int ((Int32.ofNat m1) ||| ((1 : Int32) <<< ((Int32.ofNat jb0_0) &&& 31))))]) := fun t kt => g62 t (by
    show Steps p.tables e below (T62.setTop (mkF m 129 #[.val (.long p1), .second, .val (.long p2), .second, .val (.long p3), .second, .val (.long p4), .second, .val (.long p5), .second, .val (.ref kk), .val (.ref a), .val (.int (Int32.ofNat m1)), .val (.int (Int32.ofNat jb0_0))] [(.int (1 : Int32))])) _
    refine XS.ifYes X62.here hx rfl (pc0 := 129) (pc' := 134) rfl (hb hby at_129) rfl ((if0 _ _).trans (feq (by decide)).2) (by decide) (by decide) ?_
    show Steps p.tables e below (T62.setTop (mkF m 134 #[.val (.long p1), .second, .val (.long p2), .second, .val (.long p3), .second, .val (.long p4), .second, .val (.long p5), .second, .val (.ref kk), .val (.ref a), .val (.int (Int32.ofNat m1)), .val (.int (Int32.ofNat jb0_0))] [])) _
    refine XS.iload X62.here hx rfl (hb hby at_134) rfl ?_
    show Steps p.tables e below (T62.setTop (mkF m 136 #[.val (.long p1), .second, .val (.long p2), .second, .val (.long p3), .second, .val (.long p4), .second, .val (.long p5), .second, .val (.ref kk), .val (.ref a), .val (.int (Int32.ofNat m1)), .val (.int (Int32.ofNat jb0_0))] [(.int (Int32.ofNat m1))])) _
    refine XS.iconst X62.here hx rfl (hb hby at_136) ?_
    show Steps p.tables e below (T62.setTop (mkF m 137 #[.val (.long p1), .second, .val (.long p2), .second, .val (.long p3), .second, .val (.long p4), .second, .val (.long p5), .second, .val (.ref kk), .val (.ref a), .val (.int (Int32.ofNat m1)), .val (.int (Int32.ofNat jb0_0))] [(.int (1 : Int32)), (.int (Int32.ofNat m1))])) _
    refine XS.iload X62.here hx rfl (hb hby at_137) rfl ?_
    show Steps p.tables e below (T62.setTop (mkF m 139 #[.val (.long p1), .second, .val (.long p2), .second, .val (.long p3), .second, .val (.long p4), .second, .val (.long p5), .second, .val (.ref kk), .val (.ref a), .val (.int (Int32.ofNat m1)), .val (.int (Int32.ofNat jb0_0))] [(.int (Int32.ofNat jb0_0)), (.int (1 : Int32)), (.int (Int32.ofNat m1))])) _
    refine XS.ishl X62.here hx rfl (hb hby at_139) rfl ?_
    show Steps p.tables e below (T62.setTop (mkF m 140 #[.val (.long p1), .second, .val (.long p2), .second, .val (.long p3), .second, .val (.long p4), .second, .val (.long p5), .second, .val (.ref kk), .val (.ref a), .val (.int (Int32.ofNat m1)), .val (.int (Int32.ofNat jb0_0))] [(.int ((1 : Int32) <<< ((Int32.ofNat jb0_0) &&& 31))), (.int (Int32.ofNat m1))])) _
    refine XS.ior X62.here hx rfl (hb hby at_140) rfl ?_
    exact kt)
  have g64 : own_Go p e below s₁ (entryFrame m #[(.long p1), (.long p2), (.long p3), (.long p4), (.long p5)] maxLocals) T62 (mkF m 141 #[.val (.long p1), .second, .val (.long p2), .second, .val (.long p3), .second, .val (.long p4), .second, .val (.long p5), .second, .val (.ref kk), .val (.ref a), .val (.int (Int32.ofNat m1)), .val (.int (Int32.ofNat jb0_0))] [(.int (Int32.ofNat (m1 ||| 2 ^ jb0_0)))]) := by have hcv := g63; rw [show ((Int32.ofNat m1) ||| ((1 : Int32) <<< ((Int32.ofNat jb0_0) &&& 31))) = (Int32.ofNat (m1 ||| 2 ^ jb0_0)) from (own_b2 m1 G1.1 jb0_0 hr1).1] at hcv; exact hcv
  have g65 : own_Go p e below s₁ (entryFrame m #[(.long p1), (.long p2), (.long p3), (.long p4), (.long p5)] maxLocals) T62 (mkF m 143 #[.val (.long p1), .second, .val (.long p2), .second, .val (.long p3), .second, .val (.long p4), .second, .val (.long p5), .second, .val (.ref kk), .val (.ref a), .val (.int (Int32.ofNat (m1 ||| 2 ^ jb0_0))), .val (.int (Int32.ofNat jb0_0))] []) := fun t kt => g64 t (by
    show Steps p.tables e below (T62.setTop (mkF m 141 #[.val (.long p1), .second, .val (.long p2), .second, .val (.long p3), .second, .val (.long p4), .second, .val (.long p5), .second, .val (.ref kk), .val (.ref a), .val (.int (Int32.ofNat m1)), .val (.int (Int32.ofNat jb0_0))] [(.int (Int32.ofNat (m1 ||| 2 ^ jb0_0)))])) _
    refine XS.istore X62.here hx rfl (hb hby at_141) rfl (l' := #[.val (.long p1), .second, .val (.long p2), .second, .val (.long p3), .second, .val (.long p4), .second, .val (.long p5), .second, .val (.ref kk), .val (.ref a), .val (.int (Int32.ofNat (m1 ||| 2 ^ jb0_0))), .val (.int (Int32.ofNat jb0_0))]) rfl ?_
    exact kt)
  have G2 : own_Good [p1, p2, p3, p4, p5] (m1 ||| 2 ^ jb0_0) [(xb1_0, jb1_0), (xb1_1, jb1_1), (xb1_2, jb1_2)] := (own_good_pop G1).perm R1
  obtain ⟨m2, q_m2⟩ : ∃ z, z = m1 ||| 2 ^ jb0_0 := ⟨_, rfl⟩
  rw [← q_m2] at G2 g65
  have g66 : own_Go p e below s₁ (entryFrame m #[(.long p1), (.long p2), (.long p3), (.long p4), (.long p5)] maxLocals) T62 (mkF m 145 #[.val (.long p1), .second, .val (.long p2), .second, .val (.long p3), .second, .val (.long p4), .second, .val (.long p5), .second, .val (.ref kk), .val (.ref a), .val (.int (Int32.ofNat m2)), .val (.int (Int32.ofNat jb0_0))] [(.ref a)]) := fun t kt => g65 t (by
    show Steps p.tables e below (T62.setTop (mkF m 143 #[.val (.long p1), .second, .val (.long p2), .second, .val (.long p3), .second, .val (.long p4), .second, .val (.long p5), .second, .val (.ref kk), .val (.ref a), .val (.int (Int32.ofNat m2)), .val (.int (Int32.ofNat jb0_0))] [])) _
    refine XS.aload X62.here hx rfl (hb hby at_143) rfl rfl ?_
    exact kt)
  obtain ⟨cq67, kq67, q67a, q67b, q67c⟩ := isOf hZ E62' M58.1
  obtain ⟨_, _, ⟨T67, L67, k67, n67⟩, -, X67, ⟨Lc67, hQ67, l67, y67, z67⟩, st67⟩ := X62.virtualBack hx (y := (⟨"com/example/pincer/pincer/engine/MinHeap", "pop", "()I"⟩ : MethodName)) (z := (⟨"com/example/pincer/pincer/engine/MinHeap", "pop", "()I"⟩ : MethodName)) hown (mvT hZ (hw _ (List.mem_of_getElem? (i := 22) rfl))) (mvT hZ (hw _ (List.mem_of_getElem? (i := 23) rfl))) (notFace_of_selects (args := #[]) (mvT hZ (hw _ (List.mem_of_getElem? (i := 25) rfl)))) (mvT hZ (hw _ (List.mem_of_getElem? (i := 25) rfl))) (mvT hZ (hw _ (List.mem_of_getElem? (i := 24) rfl))) (by decide) (backOf (W := 0) (rm4 l Z a0 hw [] a ka kc ia ic (xb1_0 :: xb1_1 :: xb1_2 :: xb0_3 :: (xa4_4 :: (List.replicate 11 0))) (Int32.ofNat jb1_0 :: Int32.ofNat jb1_1 :: Int32.ofNat jb1_2 :: Int32.ofNat jb0_3 :: (Int32.ofNat ja4_4 :: (List.replicate 11 0))) 2 T58.heap n0 (Nat.le_trans Z0 KK58.1) M58 (by decide) g_a g_ka g_ia) hZ (hw _ (List.mem_of_getElem? (i := 26) rfl)) (hw _ (List.mem_of_getElem? (i := 3) rfl)) (by decide) (by decide)) q67a q67c (g := (mkF m 145 #[.val (.long p1), .second, .val (.long p2), .second, .val (.long p3), .second, .val (.long p4), .second, .val (.long p5), .second, .val (.ref kk), .val (.ref a), .val (.int (Int32.ofNat m2)), .val (.int (Int32.ofNat jb0_0))] [(.ref a)])) rfl (by rw [hml]; rfl) (Steps.refl _) (argsL := []) (rest := []) (lenOf pd_2 rfl) rfl (by show 2 * 0 + _ ≤ _; exact Nat.le_of_eq rfl) (hb hby at_145) (fun _ _ => ⟨rfl, E62', (by decide : 4 + 0 ≤ _), (by decide : 40 + 0 ≤ _)⟩)
  dsimp only [Pt.U, Pt.locs, Pt.cells, Pt.slots] at X67 l67 y67 z67 st67 hQ67
  subst y67 z67
  obtain ⟨rfl, N67q, Kc67, M67⟩ := hQ67
  have N67 : Fr n0 L67 := by rw [l67]; exact Fr.app N62 N67q
  have g67 : own_Go p e below s₁ (entryFrame m #[(.long p1), (.long p2), (.long p3), (.long p4), (.long p5)] maxLocals) T67 (mkF m 148 #[.val (.long p1), .second, .val (.long p2), .second, .val (.long p3), .second, .val (.long p4), .second, .val (.long p5), .second, .val (.ref kk), .val (.ref a), .val (.int (Int32.ofNat m2)), .val (.int (Int32.ofNat jb0_0))] [(.int (Int32.ofNat jb1_0))]) := fun t kt => g66 t (st67.trans kt)
  have f68 := f59.keep Kc67 (ninS ne_kk_a (ninS ne_kk_ka (ninS ne_kk_ia nin0)))
  have f69 := M58.1.keep Kc67
  have KK67 : Keep h0 T67.heap [] := KK58.trans Kc67 (allS (Or.inr sz_a) (allS (Or.inr sz_ka) (allS (Or.inr sz_ia) all0)))
  obtain ⟨xb2_0, xb2_1, jb2_0, jb2_1, eq2p, ob2_1, R2⟩ := own_pop2 xb1_0 xb1_1 xb1_2 jb1_0 jb1_1 jb1_2 (xb0_3 :: (xa4_4 :: (List.replicate 11 0))) (Int32.ofNat jb0_3 :: (Int32.ofNat ja4_4 :: (List.replicate 11 0))) ob1_1 ob1_2
  rw [show own_pop (xb1_0 :: xb1_1 :: xb1_2 :: xb0_3 :: (xa4_4 :: (List.replicate 11 0))) (Int32.ofNat jb1_0 :: Int32.ofNat jb1_1 :: Int32.ofNat jb1_2 :: Int32.ofNat jb0_3 :: (Int32.ofNat ja4_4 :: (List.replicate 11 0))) 2 = (xb2_0 :: xb2_1 :: xb1_2 :: (xb0_3 :: (xa4_4 :: (List.replicate 11 0))), Int32.ofNat jb2_0 :: Int32.ofNat jb2_1 :: Int32.ofNat jb1_2 :: (Int32.ofNat jb0_3 :: (Int32.ofNat ja4_4 :: (List.replicate 11 0)))) from eq2p] at M67
  have hmin2 := own_min3 xb1_0 xb1_1 xb1_2 jb1_0 jb1_1 jb1_2 ob1_1 ob1_2
  obtain ⟨hr2, hb2, u0_2, u1_2, u2_2, u3_2, u4_2⟩ := own_good_min G2 hmin2
  have g70 : own_Go p e below s₁ (entryFrame m #[(.long p1), (.long p2), (.long p3), (.long p4), (.long p5)] maxLocals) T67 (mkF m 156 #[.val (.long p1), .second, .val (.long p2), .second, .val (.long p3), .second, .val (.long p4), .second, .val (.long p5), .second, .val (.ref kk), .val (.ref a), .val (.int (Int32.ofNat m2)), .val (.int (Int32.ofNat jb1_0))] [(.int (Int32.ofNat jb1_0)), (.int (Int32.ofNat m2)), (.ref kk)]) := fun t kt => g67 t (by
    show Steps p.tables e below (T67.setTop (mkF m 148 #[.val (.long p1), .second, .val (.long p2), .second, .val (.long p3), .second, .val (.long p4), .second, .val (.long p5), .second, .val (.ref kk), .val (.ref a), .val (.int (Int32.ofNat m2)), .val (.int (Int32.ofNat jb0_0))] [(.int (Int32.ofNat jb1_0))])) _
    refine XS.istore X67.here hx rfl (hb hby at_148) rfl (l' := #[.val (.long p1), .second, .val (.long p2), .second, .val (.long p3), .second, .val (.long p4), .second, .val (.long p5), .second, .val (.ref kk), .val (.ref a), .val (.int (Int32.ofNat m2)), .val (.int (Int32.ofNat jb1_0))]) rfl ?_
    show Steps p.tables e below (T67.setTop (mkF m 150 #[.val (.long p1), .second, .val (.long p2), .second, .val (.long p3), .second, .val (.long p4), .second, .val (.long p5), .second, .val (.ref kk), .val (.ref a), .val (.int (Int32.ofNat m2)), .val (.int (Int32.ofNat jb1_0))] [])) _
    refine XS.aload X67.here hx rfl (hb hby at_150) rfl rfl ?_
    show Steps p.tables e below (T67.setTop (mkF m 152 #[.val (.long p1), .second, .val (.long p2), .second, .val (.long p3), .second, .val (.long p4), .second, .val (.long p5), .second, .val (.ref kk), .val (.ref a), .val (.int (Int32.ofNat m2)), .val (.int (Int32.ofNat jb1_0))] [(.ref kk)])) _
    refine XS.iload X67.here hx rfl (hb hby at_152) rfl ?_
    show Steps p.tables e below (T67.setTop (mkF m 154 #[.val (.long p1), .second, .val (.long p2), .second, .val (.long p3), .second, .val (.long p4), .second, .val (.long p5), .second, .val (.ref kk), .val (.ref a), .val (.int (Int32.ofNat m2)), .val (.int (Int32.ofNat jb1_0))] [(.int (Int32.ofNat m2)), (.ref kk)])) _
    refine XS.iload X67.here hx rfl (hb hby at_154) rfl ?_
    exact kt)
  obtain ⟨_, _, ⟨T71, L71, k71, n71⟩, -, X71, ⟨Lc71, hQ71, l71, y71, z71⟩, st71⟩ := Jvm.LawKit.callS X67 hx (y := (⟨"com/example/pincer/pincer/engine/MinHeapPopPinLaw", "ok", "([JII)Z"⟩ : MethodName)) hown (mvT hZ (hw _ (List.mem_of_getElem? (i := 27) rfl))) (mvT hZ (hw _ (List.mem_of_getElem? (i := 28) rfl))) (mvT hZ (hw _ (List.mem_of_getElem? (i := 29) rfl))) (mvT hZ (hw _ (List.mem_of_getElem? (i := 30) rfl))) (by decide) (backOf (W := 0) (rm5 l Z a0 hw [] kk (Int32.ofNat m2) (Int32.ofNat jb1_0) k_kk [p1, p2, p3, p4, p5] jb1_0 T67.heap n0 (Nat.le_trans Z0 KK67.1) f68 rfl hr2 rfl hb2 u0_2 u1_2 u2_2 u3_2 u4_2) hZ (hw _ (List.mem_of_getElem? (i := 30) rfl)) (hw _ (List.mem_of_getElem? (i := 29) rfl)) (by decide) (by decide)) (g := (mkF m 156 #[.val (.long p1), .second, .val (.long p2), .second, .val (.long p3), .second, .val (.long p4), .second, .val (.long p5), .second, .val (.ref kk), .val (.ref a), .val (.int (Int32.ofNat m2)), .val (.int (Int32.ofNat jb1_0))] [(.int (Int32.ofNat jb1_0)), (.int (Int32.ofNat m2)), (.ref kk)])) rfl (by rw [hml]; rfl) (argsL := [(.ref kk), (.int (Int32.ofNat m2)), (.int (Int32.ofNat jb1_0))]) (rest := []) (lenOf pd_3 rfl) rfl (by show 2 * 0 + _ ≤ _; exact Nat.le_of_eq rfl) (hb hby at_156) (fun _ _ => ⟨rfl, rfl, (by decide : 4 + 0 ≤ _), (by decide : 40 + 0 ≤ _)⟩)
  dsimp only [Pt.U, Pt.locs, Pt.cells, Pt.slots] at X71 l71 y71 z71 st71 hQ71
  subst y71 z71
  obtain ⟨rfl, N71q, Eq71⟩ := hQ71
  have N71 : Fr n0 L71 := by rw [l71]; exact Fr.app N67 N71q
  have g71 : own_Go p e below s₁ (entryFrame m #[(.long p1), (.long p2), (.long p3), (.long p4), (.long p5)] maxLocals) T71 (mkF m 159 #[.val (.long p1), .second, .val (.long p2), .second, .val (.long p3), .second, .val (.long p4), .second, .val (.long p5), .second, .val (.ref kk), .val (.ref a), .val (.int (Int32.ofNat m2)), .val (.int (Int32.ofNat jb1_0))] [(.int (1 : Int32))]) := fun t kt => g70 t (st71 _ kt)
  have E71' : T71.heap = T67.heap := Eq71
  have g72 : own_Go p e below s₁ (entryFrame m #[(.long p1), (.long p2), (.long p3), (.long p4), (.long p5)] maxLocals) T71 (mkF m 171 #[.val (.long p1), .second, .val (.long p2), .second, .val (.long p3), .second, .val (.long p4), .second, .val (.long p5), .second, .val (.ref kk), .val (.ref a), .val (.int (Int32.ofNat m2)), .val (.int (Int32.ofNat jb1_0))] [(.int ((Int32.ofNat m2) ||| ((1 : Int32) <<< ((Int32.ofNat jb1_0) &&& 31))))]) := fun t kt => g71 t (by
    show Steps p.tables e below (T71.setTop (mkF m 159 #[.val (.long p1), .second, .val (.long p2), .second, .val (.long p3), .second, .val (.long p4), .second, .val (.long p5), .second, .val (.ref kk), .val (.ref a), .val (.int (Int32.ofNat m2)), .val (.int (Int32.ofNat jb1_0))] [(.int (1 : Int32))])) _
    refine XS.ifYes X71.here hx rfl (pc0 := 159) (pc' := 164) rfl (hb hby at_159) rfl ((if0 _ _).trans (feq (by decide)).2) (by decide) (by decide) ?_
    show Steps p.tables e below (T71.setTop (mkF m 164 #[.val (.long p1), .second, .val (.long p2), .second, .val (.long p3), .second, .val (.long p4), .second, .val (.long p5), .second, .val (.ref kk), .val (.ref a), .val (.int (Int32.ofNat m2)), .val (.int (Int32.ofNat jb1_0))] [])) _
    refine XS.iload X71.here hx rfl (hb hby at_164) rfl ?_
    show Steps p.tables e below (T71.setTop (mkF m 166 #[.val (.long p1), .second, .val (.long p2), .second, .val (.long p3), .second, .val (.long p4), .second, .val (.long p5), .second, .val (.ref kk), .val (.ref a), .val (.int (Int32.ofNat m2)), .val (.int (Int32.ofNat jb1_0))] [(.int (Int32.ofNat m2))])) _
    refine XS.iconst X71.here hx rfl (hb hby at_166) ?_
    show Steps p.tables e below (T71.setTop (mkF m 167 #[.val (.long p1), .second, .val (.long p2), .second, .val (.long p3), .second, .val (.long p4), .second, .val (.long p5), .second, .val (.ref kk), .val (.ref a), .val (.int (Int32.ofNat m2)), .val (.int (Int32.ofNat jb1_0))] [(.int (1 : Int32)), (.int (Int32.ofNat m2))])) _
    refine XS.iload X71.here hx rfl (hb hby at_167) rfl ?_
    show Steps p.tables e below (T71.setTop (mkF m 169 #[.val (.long p1), .second, .val (.long p2), .second, .val (.long p3), .second, .val (.long p4), .second, .val (.long p5), .second, .val (.ref kk), .val (.ref a), .val (.int (Int32.ofNat m2)), .val (.int (Int32.ofNat jb1_0))] [(.int (Int32.ofNat jb1_0)), (.int (1 : Int32)), (.int (Int32.ofNat m2))])) _
    refine XS.ishl X71.here hx rfl (hb hby at_169) rfl ?_
    show Steps p.tables e below (T71.setTop (mkF m 170 #[.val (.long p1), .second, .val (.long p2), .second, .val (.long p3), .second, .val (.long p4), .second, .val (.long p5), .second, .val (.ref kk), .val (.ref a), .val (.int (Int32.ofNat m2)), .val (.int (Int32.ofNat jb1_0))] [(.int ((1 : Int32) <<< ((Int32.ofNat jb1_0) &&& 31))), (.int (Int32.ofNat m2))])) _
    refine XS.ior X71.here hx rfl (hb hby at_170) rfl ?_
    exact kt)
  have g73 : own_Go p e below s₁ (entryFrame m #[(.long p1), (.long p2), (.long p3), (.long p4), (.long p5)] maxLocals) T71 (mkF m 171 #[.val (.long p1), .second, .val (.long p2), .second, .val (.long p3), .second, .val (.long p4), .second, .val (.long p5), .second, .val (.ref kk), .val (.ref a), .val (.int (Int32.ofNat m2)), .val (.int (Int32.ofNat jb1_0))] [(.int (Int32.ofNat (m2 ||| 2 ^ jb1_0)))]) := by have hcv := g72; rw [show ((Int32.ofNat m2) ||| ((1 : Int32) <<< ((Int32.ofNat jb1_0) &&& 31))) = (Int32.ofNat (m2 ||| 2 ^ jb1_0)) from (own_b2 m2 G2.1 jb1_0 hr2).1] at hcv; exact hcv
  have g74 : own_Go p e below s₁ (entryFrame m #[(.long p1), (.long p2), (.long p3), (.long p4), (.long p5)] maxLocals) T71 (mkF m 173 #[.val (.long p1), .second, .val (.long p2), .second, .val (.long p3), .second, .val (.long p4), .second, .val (.long p5), .second, .val (.ref kk), .val (.ref a), .val (.int (Int32.ofNat (m2 ||| 2 ^ jb1_0))), .val (.int (Int32.ofNat jb1_0))] []) := fun t kt => g73 t (by
    show Steps p.tables e below (T71.setTop (mkF m 171 #[.val (.long p1), .second, .val (.long p2), .second, .val (.long p3), .second, .val (.long p4), .second, .val (.long p5), .second, .val (.ref kk), .val (.ref a), .val (.int (Int32.ofNat m2)), .val (.int (Int32.ofNat jb1_0))] [(.int (Int32.ofNat (m2 ||| 2 ^ jb1_0)))])) _
    refine XS.istore X71.here hx rfl (hb hby at_171) rfl (l' := #[.val (.long p1), .second, .val (.long p2), .second, .val (.long p3), .second, .val (.long p4), .second, .val (.long p5), .second, .val (.ref kk), .val (.ref a), .val (.int (Int32.ofNat (m2 ||| 2 ^ jb1_0))), .val (.int (Int32.ofNat jb1_0))]) rfl ?_
    exact kt)
  have G3 : own_Good [p1, p2, p3, p4, p5] (m2 ||| 2 ^ jb1_0) [(xb2_0, jb2_0), (xb2_1, jb2_1)] := (own_good_pop G2).perm R2
  obtain ⟨m3, q_m3⟩ : ∃ z, z = m2 ||| 2 ^ jb1_0 := ⟨_, rfl⟩
  rw [← q_m3] at G3 g74
  have g75 : own_Go p e below s₁ (entryFrame m #[(.long p1), (.long p2), (.long p3), (.long p4), (.long p5)] maxLocals) T71 (mkF m 175 #[.val (.long p1), .second, .val (.long p2), .second, .val (.long p3), .second, .val (.long p4), .second, .val (.long p5), .second, .val (.ref kk), .val (.ref a), .val (.int (Int32.ofNat m3)), .val (.int (Int32.ofNat jb1_0))] [(.ref a)]) := fun t kt => g74 t (by
    show Steps p.tables e below (T71.setTop (mkF m 173 #[.val (.long p1), .second, .val (.long p2), .second, .val (.long p3), .second, .val (.long p4), .second, .val (.long p5), .second, .val (.ref kk), .val (.ref a), .val (.int (Int32.ofNat m3)), .val (.int (Int32.ofNat jb1_0))] [])) _
    refine XS.aload X71.here hx rfl (hb hby at_173) rfl rfl ?_
    exact kt)
  obtain ⟨cq76, kq76, q76a, q76b, q76c⟩ := isOf hZ E71' M67.1
  obtain ⟨_, _, ⟨T76, L76, k76, n76⟩, -, X76, ⟨Lc76, hQ76, l76, y76, z76⟩, st76⟩ := X71.virtualBack hx (y := (⟨"com/example/pincer/pincer/engine/MinHeap", "pop", "()I"⟩ : MethodName)) (z := (⟨"com/example/pincer/pincer/engine/MinHeap", "pop", "()I"⟩ : MethodName)) hown (mvT hZ (hw _ (List.mem_of_getElem? (i := 22) rfl))) (mvT hZ (hw _ (List.mem_of_getElem? (i := 23) rfl))) (notFace_of_selects (args := #[]) (mvT hZ (hw _ (List.mem_of_getElem? (i := 25) rfl)))) (mvT hZ (hw _ (List.mem_of_getElem? (i := 25) rfl))) (mvT hZ (hw _ (List.mem_of_getElem? (i := 24) rfl))) (by decide) (backOf (W := 0) (rm4 l Z a0 hw [] a ka kc ia ic (xb2_0 :: xb2_1 :: xb1_2 :: (xb0_3 :: (xa4_4 :: (List.replicate 11 0)))) (Int32.ofNat jb2_0 :: Int32.ofNat jb2_1 :: Int32.ofNat jb1_2 :: (Int32.ofNat jb0_3 :: (Int32.ofNat ja4_4 :: (List.replicate 11 0)))) 1 T67.heap n0 (Nat.le_trans Z0 KK67.1) M67 (by decide) g_a g_ka g_ia) hZ (hw _ (List.mem_of_getElem? (i := 26) rfl)) (hw _ (List.mem_of_getElem? (i := 3) rfl)) (by decide) (by decide)) q76a q76c (g := (mkF m 175 #[.val (.long p1), .second, .val (.long p2), .second, .val (.long p3), .second, .val (.long p4), .second, .val (.long p5), .second, .val (.ref kk), .val (.ref a), .val (.int (Int32.ofNat m3)), .val (.int (Int32.ofNat jb1_0))] [(.ref a)])) rfl (by rw [hml]; rfl) (Steps.refl _) (argsL := []) (rest := []) (lenOf pd_2 rfl) rfl (by show 2 * 0 + _ ≤ _; exact Nat.le_of_eq rfl) (hb hby at_175) (fun _ _ => ⟨rfl, E71', (by decide : 4 + 0 ≤ _), (by decide : 40 + 0 ≤ _)⟩)
  dsimp only [Pt.U, Pt.locs, Pt.cells, Pt.slots] at X76 l76 y76 z76 st76 hQ76
  subst y76 z76
  obtain ⟨rfl, N76q, Kc76, M76⟩ := hQ76
  have N76 : Fr n0 L76 := by rw [l76]; exact Fr.app N71 N76q
  have g76 : own_Go p e below s₁ (entryFrame m #[(.long p1), (.long p2), (.long p3), (.long p4), (.long p5)] maxLocals) T76 (mkF m 178 #[.val (.long p1), .second, .val (.long p2), .second, .val (.long p3), .second, .val (.long p4), .second, .val (.long p5), .second, .val (.ref kk), .val (.ref a), .val (.int (Int32.ofNat m3)), .val (.int (Int32.ofNat jb1_0))] [(.int (Int32.ofNat jb2_0))]) := fun t kt => g75 t (st76.trans kt)
  have f77 := f68.keep Kc76 (ninS ne_kk_a (ninS ne_kk_ka (ninS ne_kk_ia nin0)))
  have f78 := M67.1.keep Kc76
  have KK76 : Keep h0 T76.heap [] := KK67.trans Kc76 (allS (Or.inr sz_a) (allS (Or.inr sz_ka) (allS (Or.inr sz_ia) all0)))
  obtain ⟨xb3_0, jb3_0, eq3p, R3⟩ := own_pop1 xb2_0 xb2_1 jb2_0 jb2_1 (xb1_2 :: (xb0_3 :: (xa4_4 :: (List.replicate 11 0)))) (Int32.ofNat jb1_2 :: (Int32.ofNat jb0_3 :: (Int32.ofNat ja4_4 :: (List.replicate 11 0)))) ob2_1
  rw [show own_pop (xb2_0 :: xb2_1 :: xb1_2 :: (xb0_3 :: (xa4_4 :: (List.replicate 11 0)))) (Int32.ofNat jb2_0 :: Int32.ofNat jb2_1 :: Int32.ofNat jb1_2 :: (Int32.ofNat jb0_3 :: (Int32.ofNat ja4_4 :: (List.replicate 11 0)))) 1 = (xb3_0 :: xb2_1 :: (xb1_2 :: (xb0_3 :: (xa4_4 :: (List.replicate 11 0)))), Int32.ofNat jb3_0 :: Int32.ofNat jb2_1 :: (Int32.ofNat jb1_2 :: (Int32.ofNat jb0_3 :: (Int32.ofNat ja4_4 :: (List.replicate 11 0))))) from eq3p] at M76
  have hmin3 := own_min2 xb2_0 xb2_1 jb2_0 jb2_1 ob2_1
  obtain ⟨hr3, hb3, u0_3, u1_3, u2_3, u3_3, u4_3⟩ := own_good_min G3 hmin3
  have g79 : own_Go p e below s₁ (entryFrame m #[(.long p1), (.long p2), (.long p3), (.long p4), (.long p5)] maxLocals) T76 (mkF m 186 #[.val (.long p1), .second, .val (.long p2), .second, .val (.long p3), .second, .val (.long p4), .second, .val (.long p5), .second, .val (.ref kk), .val (.ref a), .val (.int (Int32.ofNat m3)), .val (.int (Int32.ofNat jb2_0))] [(.int (Int32.ofNat jb2_0)), (.int (Int32.ofNat m3)), (.ref kk)]) := fun t kt => g76 t (by
    show Steps p.tables e below (T76.setTop (mkF m 178 #[.val (.long p1), .second, .val (.long p2), .second, .val (.long p3), .second, .val (.long p4), .second, .val (.long p5), .second, .val (.ref kk), .val (.ref a), .val (.int (Int32.ofNat m3)), .val (.int (Int32.ofNat jb1_0))] [(.int (Int32.ofNat jb2_0))])) _
    refine XS.istore X76.here hx rfl (hb hby at_178) rfl (l' := #[.val (.long p1), .second, .val (.long p2), .second, .val (.long p3), .second, .val (.long p4), .second, .val (.long p5), .second, .val (.ref kk), .val (.ref a), .val (.int (Int32.ofNat m3)), .val (.int (Int32.ofNat jb2_0))]) rfl ?_
    show Steps p.tables e below (T76.setTop (mkF m 180 #[.val (.long p1), .second, .val (.long p2), .second, .val (.long p3), .second, .val (.long p4), .second, .val (.long p5), .second, .val (.ref kk), .val (.ref a), .val (.int (Int32.ofNat m3)), .val (.int (Int32.ofNat jb2_0))] [])) _
    refine XS.aload X76.here hx rfl (hb hby at_180) rfl rfl ?_
    show Steps p.tables e below (T76.setTop (mkF m 182 #[.val (.long p1), .second, .val (.long p2), .second, .val (.long p3), .second, .val (.long p4), .second, .val (.long p5), .second, .val (.ref kk), .val (.ref a), .val (.int (Int32.ofNat m3)), .val (.int (Int32.ofNat jb2_0))] [(.ref kk)])) _
    refine XS.iload X76.here hx rfl (hb hby at_182) rfl ?_
    show Steps p.tables e below (T76.setTop (mkF m 184 #[.val (.long p1), .second, .val (.long p2), .second, .val (.long p3), .second, .val (.long p4), .second, .val (.long p5), .second, .val (.ref kk), .val (.ref a), .val (.int (Int32.ofNat m3)), .val (.int (Int32.ofNat jb2_0))] [(.int (Int32.ofNat m3)), (.ref kk)])) _
    refine XS.iload X76.here hx rfl (hb hby at_184) rfl ?_
    exact kt)
  obtain ⟨_, _, ⟨T80, L80, k80, n80⟩, -, X80, ⟨Lc80, hQ80, l80, y80, z80⟩, st80⟩ := Jvm.LawKit.callS X76 hx (y := (⟨"com/example/pincer/pincer/engine/MinHeapPopPinLaw", "ok", "([JII)Z"⟩ : MethodName)) hown (mvT hZ (hw _ (List.mem_of_getElem? (i := 27) rfl))) (mvT hZ (hw _ (List.mem_of_getElem? (i := 28) rfl))) (mvT hZ (hw _ (List.mem_of_getElem? (i := 29) rfl))) (mvT hZ (hw _ (List.mem_of_getElem? (i := 30) rfl))) (by decide) (backOf (W := 0) (rm5 l Z a0 hw [] kk (Int32.ofNat m3) (Int32.ofNat jb2_0) k_kk [p1, p2, p3, p4, p5] jb2_0 T76.heap n0 (Nat.le_trans Z0 KK76.1) f77 rfl hr3 rfl hb3 u0_3 u1_3 u2_3 u3_3 u4_3) hZ (hw _ (List.mem_of_getElem? (i := 30) rfl)) (hw _ (List.mem_of_getElem? (i := 29) rfl)) (by decide) (by decide)) (g := (mkF m 186 #[.val (.long p1), .second, .val (.long p2), .second, .val (.long p3), .second, .val (.long p4), .second, .val (.long p5), .second, .val (.ref kk), .val (.ref a), .val (.int (Int32.ofNat m3)), .val (.int (Int32.ofNat jb2_0))] [(.int (Int32.ofNat jb2_0)), (.int (Int32.ofNat m3)), (.ref kk)])) rfl (by rw [hml]; rfl) (argsL := [(.ref kk), (.int (Int32.ofNat m3)), (.int (Int32.ofNat jb2_0))]) (rest := []) (lenOf pd_3 rfl) rfl (by show 2 * 0 + _ ≤ _; exact Nat.le_of_eq rfl) (hb hby at_186) (fun _ _ => ⟨rfl, rfl, (by decide : 4 + 0 ≤ _), (by decide : 40 + 0 ≤ _)⟩)
  dsimp only [Pt.U, Pt.locs, Pt.cells, Pt.slots] at X80 l80 y80 z80 st80 hQ80
  subst y80 z80
  obtain ⟨rfl, N80q, Eq80⟩ := hQ80
  have N80 : Fr n0 L80 := by rw [l80]; exact Fr.app N76 N80q
  have g80 : own_Go p e below s₁ (entryFrame m #[(.long p1), (.long p2), (.long p3), (.long p4), (.long p5)] maxLocals) T80 (mkF m 189 #[.val (.long p1), .second, .val (.long p2), .second, .val (.long p3), .second, .val (.long p4), .second, .val (.long p5), .second, .val (.ref kk), .val (.ref a), .val (.int (Int32.ofNat m3)), .val (.int (Int32.ofNat jb2_0))] [(.int (1 : Int32))]) := fun t kt => g79 t (st80 _ kt)
  have E80' : T80.heap = T76.heap := Eq80
  have g81 : own_Go p e below s₁ (entryFrame m #[(.long p1), (.long p2), (.long p3), (.long p4), (.long p5)] maxLocals) T80 (mkF m 201 #[.val (.long p1), .second, .val (.long p2), .second, .val (.long p3), .second, .val (.long p4), .second, .val (.long p5), .second, .val (.ref kk), .val (.ref a), .val (.int (Int32.ofNat m3)), .val (.int (Int32.ofNat jb2_0))] [(.int ((Int32.ofNat m3) ||| ((1 : Int32) <<< ((Int32.ofNat jb2_0) &&& 31))))]) := fun t kt => g80 t (by
    show Steps p.tables e below (T80.setTop (mkF m 189 #[.val (.long p1), .second, .val (.long p2), .second, .val (.long p3), .second, .val (.long p4), .second, .val (.long p5), .second, .val (.ref kk), .val (.ref a), .val (.int (Int32.ofNat m3)), .val (.int (Int32.ofNat jb2_0))] [(.int (1 : Int32))])) _
    refine XS.ifYes X80.here hx rfl (pc0 := 189) (pc' := 194) rfl (hb hby at_189) rfl ((if0 _ _).trans (feq (by decide)).2) (by decide) (by decide) ?_
    show Steps p.tables e below (T80.setTop (mkF m 194 #[.val (.long p1), .second, .val (.long p2), .second, .val (.long p3), .second, .val (.long p4), .second, .val (.long p5), .second, .val (.ref kk), .val (.ref a), .val (.int (Int32.ofNat m3)), .val (.int (Int32.ofNat jb2_0))] [])) _
    refine XS.iload X80.here hx rfl (hb hby at_194) rfl ?_
    show Steps p.tables e below (T80.setTop (mkF m 196 #[.val (.long p1), .second, .val (.long p2), .second, .val (.long p3), .second, .val (.long p4), .second, .val (.long p5), .second, .val (.ref kk), .val (.ref a), .val (.int (Int32.ofNat m3)), .val (.int (Int32.ofNat jb2_0))] [(.int (Int32.ofNat m3))])) _
    refine XS.iconst X80.here hx rfl (hb hby at_196) ?_
    show Steps p.tables e below (T80.setTop (mkF m 197 #[.val (.long p1), .second, .val (.long p2), .second, .val (.long p3), .second, .val (.long p4), .second, .val (.long p5), .second, .val (.ref kk), .val (.ref a), .val (.int (Int32.ofNat m3)), .val (.int (Int32.ofNat jb2_0))] [(.int (1 : Int32)), (.int (Int32.ofNat m3))])) _
    refine XS.iload X80.here hx rfl (hb hby at_197) rfl ?_
    show Steps p.tables e below (T80.setTop (mkF m 199 #[.val (.long p1), .second, .val (.long p2), .second, .val (.long p3), .second, .val (.long p4), .second, .val (.long p5), .second, .val (.ref kk), .val (.ref a), .val (.int (Int32.ofNat m3)), .val (.int (Int32.ofNat jb2_0))] [(.int (Int32.ofNat jb2_0)), (.int (1 : Int32)), (.int (Int32.ofNat m3))])) _
    refine XS.ishl X80.here hx rfl (hb hby at_199) rfl ?_
    show Steps p.tables e below (T80.setTop (mkF m 200 #[.val (.long p1), .second, .val (.long p2), .second, .val (.long p3), .second, .val (.long p4), .second, .val (.long p5), .second, .val (.ref kk), .val (.ref a), .val (.int (Int32.ofNat m3)), .val (.int (Int32.ofNat jb2_0))] [(.int ((1 : Int32) <<< ((Int32.ofNat jb2_0) &&& 31))), (.int (Int32.ofNat m3))])) _
    refine XS.ior X80.here hx rfl (hb hby at_200) rfl ?_
    exact kt)
  have g82 : own_Go p e below s₁ (entryFrame m #[(.long p1), (.long p2), (.long p3), (.long p4), (.long p5)] maxLocals) T80 (mkF m 201 #[.val (.long p1), .second, .val (.long p2), .second, .val (.long p3), .second, .val (.long p4), .second, .val (.long p5), .second, .val (.ref kk), .val (.ref a), .val (.int (Int32.ofNat m3)), .val (.int (Int32.ofNat jb2_0))] [(.int (Int32.ofNat (m3 ||| 2 ^ jb2_0)))]) := by have hcv := g81; rw [show ((Int32.ofNat m3) ||| ((1 : Int32) <<< ((Int32.ofNat jb2_0) &&& 31))) = (Int32.ofNat (m3 ||| 2 ^ jb2_0)) from (own_b2 m3 G3.1 jb2_0 hr3).1] at hcv; exact hcv
  have g83 : own_Go p e below s₁ (entryFrame m #[(.long p1), (.long p2), (.long p3), (.long p4), (.long p5)] maxLocals) T80 (mkF m 203 #[.val (.long p1), .second, .val (.long p2), .second, .val (.long p3), .second, .val (.long p4), .second, .val (.long p5), .second, .val (.ref kk), .val (.ref a), .val (.int (Int32.ofNat (m3 ||| 2 ^ jb2_0))), .val (.int (Int32.ofNat jb2_0))] []) := fun t kt => g82 t (by
    show Steps p.tables e below (T80.setTop (mkF m 201 #[.val (.long p1), .second, .val (.long p2), .second, .val (.long p3), .second, .val (.long p4), .second, .val (.long p5), .second, .val (.ref kk), .val (.ref a), .val (.int (Int32.ofNat m3)), .val (.int (Int32.ofNat jb2_0))] [(.int (Int32.ofNat (m3 ||| 2 ^ jb2_0)))])) _
    refine XS.istore X80.here hx rfl (hb hby at_201) rfl (l' := #[.val (.long p1), .second, .val (.long p2), .second, .val (.long p3), .second, .val (.long p4), .second, .val (.long p5), .second, .val (.ref kk), .val (.ref a), .val (.int (Int32.ofNat (m3 ||| 2 ^ jb2_0))), .val (.int (Int32.ofNat jb2_0))]) rfl ?_
    exact kt)
  have G4 : own_Good [p1, p2, p3, p4, p5] (m3 ||| 2 ^ jb2_0) [(xb3_0, jb3_0)] := (own_good_pop G3).perm R3
  obtain ⟨m4, q_m4⟩ : ∃ z, z = m3 ||| 2 ^ jb2_0 := ⟨_, rfl⟩
  rw [← q_m4] at G4 g83
  have g84 : own_Go p e below s₁ (entryFrame m #[(.long p1), (.long p2), (.long p3), (.long p4), (.long p5)] maxLocals) T80 (mkF m 205 #[.val (.long p1), .second, .val (.long p2), .second, .val (.long p3), .second, .val (.long p4), .second, .val (.long p5), .second, .val (.ref kk), .val (.ref a), .val (.int (Int32.ofNat m4)), .val (.int (Int32.ofNat jb2_0))] [(.ref a)]) := fun t kt => g83 t (by
    show Steps p.tables e below (T80.setTop (mkF m 203 #[.val (.long p1), .second, .val (.long p2), .second, .val (.long p3), .second, .val (.long p4), .second, .val (.long p5), .second, .val (.ref kk), .val (.ref a), .val (.int (Int32.ofNat m4)), .val (.int (Int32.ofNat jb2_0))] [])) _
    refine XS.aload X80.here hx rfl (hb hby at_203) rfl rfl ?_
    exact kt)
  obtain ⟨cq85, kq85, q85a, q85b, q85c⟩ := isOf hZ E80' M76.1
  obtain ⟨_, _, ⟨T85, L85, k85, n85⟩, -, X85, ⟨Lc85, hQ85, l85, y85, z85⟩, st85⟩ := X80.virtualBack hx (y := (⟨"com/example/pincer/pincer/engine/MinHeap", "pop", "()I"⟩ : MethodName)) (z := (⟨"com/example/pincer/pincer/engine/MinHeap", "pop", "()I"⟩ : MethodName)) hown (mvT hZ (hw _ (List.mem_of_getElem? (i := 22) rfl))) (mvT hZ (hw _ (List.mem_of_getElem? (i := 23) rfl))) (notFace_of_selects (args := #[]) (mvT hZ (hw _ (List.mem_of_getElem? (i := 25) rfl)))) (mvT hZ (hw _ (List.mem_of_getElem? (i := 25) rfl))) (mvT hZ (hw _ (List.mem_of_getElem? (i := 24) rfl))) (by decide) (backOf (W := 0) (rm4 l Z a0 hw [] a ka kc ia ic (xb3_0 :: xb2_1 :: (xb1_2 :: (xb0_3 :: (xa4_4 :: (List.replicate 11 0))))) (Int32.ofNat jb3_0 :: Int32.ofNat jb2_1 :: (Int32.ofNat jb1_2 :: (Int32.ofNat jb0_3 :: (Int32.ofNat ja4_4 :: (List.replicate 11 0))))) 0 T76.heap n0 (Nat.le_trans Z0 KK76.1) M76 (by decide) g_a g_ka g_ia) hZ (hw _ (List.mem_of_getElem? (i := 26) rfl)) (hw _ (List.mem_of_getElem? (i := 3) rfl)) (by decide) (by decide)) q85a q85c (g := (mkF m 205 #[.val (.long p1), .second, .val (.long p2), .second, .val (.long p3), .second, .val (.long p4), .second, .val (.long p5), .second, .val (.ref kk), .val (.ref a), .val (.int (Int32.ofNat m4)), .val (.int (Int32.ofNat jb2_0))] [(.ref a)])) rfl (by rw [hml]; rfl) (Steps.refl _) (argsL := []) (rest := []) (lenOf pd_2 rfl) rfl (by show 2 * 0 + _ ≤ _; exact Nat.le_of_eq rfl) (hb hby at_205) (fun _ _ => ⟨rfl, E80', (by decide : 4 + 0 ≤ _), (by decide : 40 + 0 ≤ _)⟩)
  dsimp only [Pt.U, Pt.locs, Pt.cells, Pt.slots] at X85 l85 y85 z85 st85 hQ85
  subst y85 z85
  obtain ⟨rfl, N85q, Kc85, M85⟩ := hQ85
  have N85 : Fr n0 L85 := by rw [l85]; exact Fr.app N80 N85q
  have g85 : own_Go p e below s₁ (entryFrame m #[(.long p1), (.long p2), (.long p3), (.long p4), (.long p5)] maxLocals) T85 (mkF m 208 #[.val (.long p1), .second, .val (.long p2), .second, .val (.long p3), .second, .val (.long p4), .second, .val (.long p5), .second, .val (.ref kk), .val (.ref a), .val (.int (Int32.ofNat m4)), .val (.int (Int32.ofNat jb2_0))] [(.int (Int32.ofNat jb3_0))]) := fun t kt => g84 t (st85.trans kt)
  have f86 := f77.keep Kc85 (ninS ne_kk_a (ninS ne_kk_ka (ninS ne_kk_ia nin0)))
  have f87 := M76.1.keep Kc85
  have KK85 : Keep h0 T85.heap [] := KK76.trans Kc85 (allS (Or.inr sz_a) (allS (Or.inr sz_ka) (allS (Or.inr sz_ia) all0)))
  obtain ⟨eq4p, R4⟩ := own_pop0 xb3_0 jb3_0 (xb2_1 :: (xb1_2 :: (xb0_3 :: (xa4_4 :: (List.replicate 11 0))))) (Int32.ofNat jb2_1 :: (Int32.ofNat jb1_2 :: (Int32.ofNat jb0_3 :: (Int32.ofNat ja4_4 :: (List.replicate 11 0))))) 
  rw [show own_pop (xb3_0 :: xb2_1 :: (xb1_2 :: (xb0_3 :: (xa4_4 :: (List.replicate 11 0))))) (Int32.ofNat jb3_0 :: Int32.ofNat jb2_1 :: (Int32.ofNat jb1_2 :: (Int32.ofNat jb0_3 :: (Int32.ofNat ja4_4 :: (List.replicate 11 0))))) 0 = (xb3_0 :: (xb2_1 :: (xb1_2 :: (xb0_3 :: (xa4_4 :: (List.replicate 11 0))))), Int32.ofNat jb3_0 :: (Int32.ofNat jb2_1 :: (Int32.ofNat jb1_2 :: (Int32.ofNat jb0_3 :: (Int32.ofNat ja4_4 :: (List.replicate 11 0)))))) from eq4p] at M85
  have hmin4 := own_min1 xb3_0 jb3_0 
  obtain ⟨hr4, hb4, u0_4, u1_4, u2_4, u3_4, u4_4⟩ := own_good_min G4 hmin4
  have g88 : own_Go p e below s₁ (entryFrame m #[(.long p1), (.long p2), (.long p3), (.long p4), (.long p5)] maxLocals) T85 (mkF m 216 #[.val (.long p1), .second, .val (.long p2), .second, .val (.long p3), .second, .val (.long p4), .second, .val (.long p5), .second, .val (.ref kk), .val (.ref a), .val (.int (Int32.ofNat m4)), .val (.int (Int32.ofNat jb3_0))] [(.int (Int32.ofNat jb3_0)), (.int (Int32.ofNat m4)), (.ref kk)]) := fun t kt => g85 t (by
    show Steps p.tables e below (T85.setTop (mkF m 208 #[.val (.long p1), .second, .val (.long p2), .second, .val (.long p3), .second, .val (.long p4), .second, .val (.long p5), .second, .val (.ref kk), .val (.ref a), .val (.int (Int32.ofNat m4)), .val (.int (Int32.ofNat jb2_0))] [(.int (Int32.ofNat jb3_0))])) _
    refine XS.istore X85.here hx rfl (hb hby at_208) rfl (l' := #[.val (.long p1), .second, .val (.long p2), .second, .val (.long p3), .second, .val (.long p4), .second, .val (.long p5), .second, .val (.ref kk), .val (.ref a), .val (.int (Int32.ofNat m4)), .val (.int (Int32.ofNat jb3_0))]) rfl ?_
    show Steps p.tables e below (T85.setTop (mkF m 210 #[.val (.long p1), .second, .val (.long p2), .second, .val (.long p3), .second, .val (.long p4), .second, .val (.long p5), .second, .val (.ref kk), .val (.ref a), .val (.int (Int32.ofNat m4)), .val (.int (Int32.ofNat jb3_0))] [])) _
    refine XS.aload X85.here hx rfl (hb hby at_210) rfl rfl ?_
    show Steps p.tables e below (T85.setTop (mkF m 212 #[.val (.long p1), .second, .val (.long p2), .second, .val (.long p3), .second, .val (.long p4), .second, .val (.long p5), .second, .val (.ref kk), .val (.ref a), .val (.int (Int32.ofNat m4)), .val (.int (Int32.ofNat jb3_0))] [(.ref kk)])) _
    refine XS.iload X85.here hx rfl (hb hby at_212) rfl ?_
    show Steps p.tables e below (T85.setTop (mkF m 214 #[.val (.long p1), .second, .val (.long p2), .second, .val (.long p3), .second, .val (.long p4), .second, .val (.long p5), .second, .val (.ref kk), .val (.ref a), .val (.int (Int32.ofNat m4)), .val (.int (Int32.ofNat jb3_0))] [(.int (Int32.ofNat m4)), (.ref kk)])) _
    refine XS.iload X85.here hx rfl (hb hby at_214) rfl ?_
    exact kt)
  obtain ⟨_, _, ⟨T89, L89, k89, n89⟩, -, X89, ⟨Lc89, hQ89, l89, y89, z89⟩, st89⟩ := Jvm.LawKit.callS X85 hx (y := (⟨"com/example/pincer/pincer/engine/MinHeapPopPinLaw", "ok", "([JII)Z"⟩ : MethodName)) hown (mvT hZ (hw _ (List.mem_of_getElem? (i := 27) rfl))) (mvT hZ (hw _ (List.mem_of_getElem? (i := 28) rfl))) (mvT hZ (hw _ (List.mem_of_getElem? (i := 29) rfl))) (mvT hZ (hw _ (List.mem_of_getElem? (i := 30) rfl))) (by decide) (backOf (W := 0) (rm5 l Z a0 hw [] kk (Int32.ofNat m4) (Int32.ofNat jb3_0) k_kk [p1, p2, p3, p4, p5] jb3_0 T85.heap n0 (Nat.le_trans Z0 KK85.1) f86 rfl hr4 rfl hb4 u0_4 u1_4 u2_4 u3_4 u4_4) hZ (hw _ (List.mem_of_getElem? (i := 30) rfl)) (hw _ (List.mem_of_getElem? (i := 29) rfl)) (by decide) (by decide)) (g := (mkF m 216 #[.val (.long p1), .second, .val (.long p2), .second, .val (.long p3), .second, .val (.long p4), .second, .val (.long p5), .second, .val (.ref kk), .val (.ref a), .val (.int (Int32.ofNat m4)), .val (.int (Int32.ofNat jb3_0))] [(.int (Int32.ofNat jb3_0)), (.int (Int32.ofNat m4)), (.ref kk)])) rfl (by rw [hml]; rfl) (argsL := [(.ref kk), (.int (Int32.ofNat m4)), (.int (Int32.ofNat jb3_0))]) (rest := []) (lenOf pd_3 rfl) rfl (by show 2 * 0 + _ ≤ _; exact Nat.le_of_eq rfl) (hb hby at_216) (fun _ _ => ⟨rfl, rfl, (by decide : 4 + 0 ≤ _), (by decide : 40 + 0 ≤ _)⟩)
  dsimp only [Pt.U, Pt.locs, Pt.cells, Pt.slots] at X89 l89 y89 z89 st89 hQ89
  subst y89 z89
  obtain ⟨rfl, N89q, Eq89⟩ := hQ89
  have N89 : Fr n0 L89 := by rw [l89]; exact Fr.app N85 N89q
  have g89 : own_Go p e below s₁ (entryFrame m #[(.long p1), (.long p2), (.long p3), (.long p4), (.long p5)] maxLocals) T89 (mkF m 219 #[.val (.long p1), .second, .val (.long p2), .second, .val (.long p3), .second, .val (.long p4), .second, .val (.long p5), .second, .val (.ref kk), .val (.ref a), .val (.int (Int32.ofNat m4)), .val (.int (Int32.ofNat jb3_0))] [(.int (1 : Int32))]) := fun t kt => g88 t (st89 _ kt)
  have E89' : T89.heap = T85.heap := Eq89
  have g90 : own_Go p e below s₁ (entryFrame m #[(.long p1), (.long p2), (.long p3), (.long p4), (.long p5)] maxLocals) T89 (mkF m 231 #[.val (.long p1), .second, .val (.long p2), .second, .val (.long p3), .second, .val (.long p4), .second, .val (.long p5), .second, .val (.ref kk), .val (.ref a), .val (.int (Int32.ofNat m4)), .val (.int (Int32.ofNat jb3_0))] [(.int ((Int32.ofNat m4) ||| ((1 : Int32) <<< ((Int32.ofNat jb3_0) &&& 31))))]) := fun t kt => g89 t (by
    show Steps p.tables e below (T89.setTop (mkF m 219 #[.val (.long p1), .second, .val (.long p2), .second, .val (.long p3), .second, .val (.long p4), .second, .val (.long p5), .second, .val (.ref kk), .val (.ref a), .val (.int (Int32.ofNat m4)), .val (.int (Int32.ofNat jb3_0))] [(.int (1 : Int32))])) _
    refine XS.ifYes X89.here hx rfl (pc0 := 219) (pc' := 224) rfl (hb hby at_219) rfl ((if0 _ _).trans (feq (by decide)).2) (by decide) (by decide) ?_
    show Steps p.tables e below (T89.setTop (mkF m 224 #[.val (.long p1), .second, .val (.long p2), .second, .val (.long p3), .second, .val (.long p4), .second, .val (.long p5), .second, .val (.ref kk), .val (.ref a), .val (.int (Int32.ofNat m4)), .val (.int (Int32.ofNat jb3_0))] [])) _
    refine XS.iload X89.here hx rfl (hb hby at_224) rfl ?_
    show Steps p.tables e below (T89.setTop (mkF m 226 #[.val (.long p1), .second, .val (.long p2), .second, .val (.long p3), .second, .val (.long p4), .second, .val (.long p5), .second, .val (.ref kk), .val (.ref a), .val (.int (Int32.ofNat m4)), .val (.int (Int32.ofNat jb3_0))] [(.int (Int32.ofNat m4))])) _
    refine XS.iconst X89.here hx rfl (hb hby at_226) ?_
    show Steps p.tables e below (T89.setTop (mkF m 227 #[.val (.long p1), .second, .val (.long p2), .second, .val (.long p3), .second, .val (.long p4), .second, .val (.long p5), .second, .val (.ref kk), .val (.ref a), .val (.int (Int32.ofNat m4)), .val (.int (Int32.ofNat jb3_0))] [(.int (1 : Int32)), (.int (Int32.ofNat m4))])) _
    refine XS.iload X89.here hx rfl (hb hby at_227) rfl ?_
    show Steps p.tables e below (T89.setTop (mkF m 229 #[.val (.long p1), .second, .val (.long p2), .second, .val (.long p3), .second, .val (.long p4), .second, .val (.long p5), .second, .val (.ref kk), .val (.ref a), .val (.int (Int32.ofNat m4)), .val (.int (Int32.ofNat jb3_0))] [(.int (Int32.ofNat jb3_0)), (.int (1 : Int32)), (.int (Int32.ofNat m4))])) _
    refine XS.ishl X89.here hx rfl (hb hby at_229) rfl ?_
    show Steps p.tables e below (T89.setTop (mkF m 230 #[.val (.long p1), .second, .val (.long p2), .second, .val (.long p3), .second, .val (.long p4), .second, .val (.long p5), .second, .val (.ref kk), .val (.ref a), .val (.int (Int32.ofNat m4)), .val (.int (Int32.ofNat jb3_0))] [(.int ((1 : Int32) <<< ((Int32.ofNat jb3_0) &&& 31))), (.int (Int32.ofNat m4))])) _
    refine XS.ior X89.here hx rfl (hb hby at_230) rfl ?_
    exact kt)
  have g91 : own_Go p e below s₁ (entryFrame m #[(.long p1), (.long p2), (.long p3), (.long p4), (.long p5)] maxLocals) T89 (mkF m 231 #[.val (.long p1), .second, .val (.long p2), .second, .val (.long p3), .second, .val (.long p4), .second, .val (.long p5), .second, .val (.ref kk), .val (.ref a), .val (.int (Int32.ofNat m4)), .val (.int (Int32.ofNat jb3_0))] [(.int (Int32.ofNat (m4 ||| 2 ^ jb3_0)))]) := by have hcv := g90; rw [show ((Int32.ofNat m4) ||| ((1 : Int32) <<< ((Int32.ofNat jb3_0) &&& 31))) = (Int32.ofNat (m4 ||| 2 ^ jb3_0)) from (own_b2 m4 G4.1 jb3_0 hr4).1] at hcv; exact hcv
  have g92 : own_Go p e below s₁ (entryFrame m #[(.long p1), (.long p2), (.long p3), (.long p4), (.long p5)] maxLocals) T89 (mkF m 233 #[.val (.long p1), .second, .val (.long p2), .second, .val (.long p3), .second, .val (.long p4), .second, .val (.long p5), .second, .val (.ref kk), .val (.ref a), .val (.int (Int32.ofNat (m4 ||| 2 ^ jb3_0))), .val (.int (Int32.ofNat jb3_0))] []) := fun t kt => g91 t (by
    show Steps p.tables e below (T89.setTop (mkF m 231 #[.val (.long p1), .second, .val (.long p2), .second, .val (.long p3), .second, .val (.long p4), .second, .val (.long p5), .second, .val (.ref kk), .val (.ref a), .val (.int (Int32.ofNat m4)), .val (.int (Int32.ofNat jb3_0))] [(.int (Int32.ofNat (m4 ||| 2 ^ jb3_0)))])) _
    refine XS.istore X89.here hx rfl (hb hby at_231) rfl (l' := #[.val (.long p1), .second, .val (.long p2), .second, .val (.long p3), .second, .val (.long p4), .second, .val (.long p5), .second, .val (.ref kk), .val (.ref a), .val (.int (Int32.ofNat (m4 ||| 2 ^ jb3_0))), .val (.int (Int32.ofNat jb3_0))]) rfl ?_
    exact kt)
  have G5 : own_Good [p1, p2, p3, p4, p5] (m4 ||| 2 ^ jb3_0) [] := (own_good_pop G4).perm R4
  obtain ⟨m5, q_m5⟩ : ∃ z, z = m4 ||| 2 ^ jb3_0 := ⟨_, rfl⟩
  rw [← q_m5] at G5 g92
  have g93 : own_Go p e below s₁ (entryFrame m #[(.long p1), (.long p2), (.long p3), (.long p4), (.long p5)] maxLocals) T89 (mkF m 242 #[.val (.long p1), .second, .val (.long p2), .second, .val (.long p3), .second, .val (.long p4), .second, .val (.long p5), .second, .val (.ref kk), .val (.ref a), .val (.int (Int32.ofNat m5)), .val (.int (Int32.ofNat jb3_0))] [(.ref a)]) := fun t kt => g92 t (by
    show Steps p.tables e below (T89.setTop (mkF m 233 #[.val (.long p1), .second, .val (.long p2), .second, .val (.long p3), .second, .val (.long p4), .second, .val (.long p5), .second, .val (.ref kk), .val (.ref a), .val (.int (Int32.ofNat m5)), .val (.int (Int32.ofNat jb3_0))] [])) _
    refine XS.iload X89.here hx rfl (hb hby at_233) rfl ?_
    show Steps p.tables e below (T89.setTop (mkF m 235 #[.val (.long p1), .second, .val (.long p2), .second, .val (.long p3), .second, .val (.long p4), .second, .val (.long p5), .second, .val (.ref kk), .val (.ref a), .val (.int (Int32.ofNat m5)), .val (.int (Int32.ofNat jb3_0))] [(.int (Int32.ofNat m5))])) _
    refine XS.bipush X89.here hx rfl (hb hby at_235) ?_
    show Steps p.tables e below (T89.setTop (mkF m 237 #[.val (.long p1), .second, .val (.long p2), .second, .val (.long p3), .second, .val (.long p4), .second, .val (.long p5), .second, .val (.ref kk), .val (.ref a), .val (.int (Int32.ofNat m5)), .val (.int (Int32.ofNat jb3_0))] [(.int (31 : Int32)), (.int (Int32.ofNat m5))])) _
    refine XS.icmpNo X89.here hx rfl (hb hby at_237) rfl (teq (by rw [own_good_end G5]; decide)).2 ?_
    show Steps p.tables e below (T89.setTop (mkF m 240 #[.val (.long p1), .second, .val (.long p2), .second, .val (.long p3), .second, .val (.long p4), .second, .val (.long p5), .second, .val (.ref kk), .val (.ref a), .val (.int (Int32.ofNat m5)), .val (.int (Int32.ofNat jb3_0))] [])) _
    refine XS.aload X89.here hx rfl (hb hby at_240) rfl rfl ?_
    exact kt)
  obtain ⟨cq94, kq94, q94a, q94b, q94c⟩ := isOf hZ E89' M85.1
  obtain ⟨_, _, ⟨T94, L94, k94, n94⟩, -, X94, ⟨Lc94, hQ94, l94, y94, z94⟩, st94⟩ := X89.virtualBack hx (y := (⟨"com/example/pincer/pincer/engine/MinHeap", "isEmpty", "()Z"⟩ : MethodName)) (z := (⟨"com/example/pincer/pincer/engine/MinHeap", "isEmpty", "()Z"⟩ : MethodName)) hown (mvT hZ (hw _ (List.mem_of_getElem? (i := 31) rfl))) (mvT hZ (hw _ (List.mem_of_getElem? (i := 32) rfl))) (notFace_of_selects (args := #[]) (mvT hZ (hw _ (List.mem_of_getElem? (i := 34) rfl)))) (mvT hZ (hw _ (List.mem_of_getElem? (i := 34) rfl))) (mvT hZ (hw _ (List.mem_of_getElem? (i := 33) rfl))) (by decide) (backOf (W := 0) (rm6 l Z a0 hw [] a T85.heap n0 (Nat.le_trans Z0 KK85.1) M85.2.2.2.1) hZ (hw _ (List.mem_of_getElem? (i := 35) rfl)) (hw _ (List.mem_of_getElem? (i := 3) rfl)) (by decide) (by decide)) q94a q94c (g := (mkF m 242 #[.val (.long p1), .second, .val (.long p2), .second, .val (.long p3), .second, .val (.long p4), .second, .val (.long p5), .second, .val (.ref kk), .val (.ref a), .val (.int (Int32.ofNat m5)), .val (.int (Int32.ofNat jb3_0))] [(.ref a)])) rfl (by rw [hml]; rfl) (Steps.refl _) (argsL := []) (rest := []) (lenOf pd_4 rfl) rfl (by show 2 * 0 + _ ≤ _; exact Nat.le_of_eq rfl) (hb hby at_242) (fun _ _ => ⟨rfl, E89', (by decide : 4 + 0 ≤ _), (by decide : 40 + 0 ≤ _)⟩)
  dsimp only [Pt.U, Pt.locs, Pt.cells, Pt.slots] at X94 l94 y94 z94 st94 hQ94
  subst y94 z94
  obtain ⟨rfl, N94q, Eq94⟩ := hQ94
  have N94 : Fr n0 L94 := by rw [l94]; exact Fr.app N89 N94q
  have g94 : own_Go p e below s₁ (entryFrame m #[(.long p1), (.long p2), (.long p3), (.long p4), (.long p5)] maxLocals) T94 (mkF m 245 #[.val (.long p1), .second, .val (.long p2), .second, .val (.long p3), .second, .val (.long p4), .second, .val (.long p5), .second, .val (.ref kk), .val (.ref a), .val (.int (Int32.ofNat m5)), .val (.int (Int32.ofNat jb3_0))] [(.int (1 : Int32))]) := fun t kt => g93 t (st94.trans kt)
  have E94' : T94.heap = T85.heap := Eq94
  have g95 : own_Go p e below s₁ (entryFrame m #[(.long p1), (.long p2), (.long p3), (.long p4), (.long p5)] maxLocals) T94 (mkF m 253 #[.val (.long p1), .second, .val (.long p2), .second, .val (.long p3), .second, .val (.long p4), .second, .val (.long p5), .second, .val (.ref kk), .val (.ref a), .val (.int (Int32.ofNat m5)), .val (.int (Int32.ofNat jb3_0))] [(.int (1 : Int32))]) := fun t kt => g94 t (by
    show Steps p.tables e below (T94.setTop (mkF m 245 #[.val (.long p1), .second, .val (.long p2), .second, .val (.long p3), .second, .val (.long p4), .second, .val (.long p5), .second, .val (.ref kk), .val (.ref a), .val (.int (Int32.ofNat m5)), .val (.int (Int32.ofNat jb3_0))] [(.int (1 : Int32))])) _
    refine XS.ifNo X94.here hx rfl (hb hby at_245) rfl ((if0 _ _).trans (feq (by decide)).1) ?_
    show Steps p.tables e below (T94.setTop (mkF m 248 #[.val (.long p1), .second, .val (.long p2), .second, .val (.long p3), .second, .val (.long p4), .second, .val (.long p5), .second, .val (.ref kk), .val (.ref a), .val (.int (Int32.ofNat m5)), .val (.int (Int32.ofNat jb3_0))] [])) _
    refine XS.iconst X94.here hx rfl (hb hby at_248) ?_
    show Steps p.tables e below (T94.setTop (mkF m 249 #[.val (.long p1), .second, .val (.long p2), .second, .val (.long p3), .second, .val (.long p4), .second, .val (.long p5), .second, .val (.ref kk), .val (.ref a), .val (.int (Int32.ofNat m5)), .val (.int (Int32.ofNat jb3_0))] [(.int (1 : Int32))])) _
    refine XS.goto X94.here hx rfl (pc0 := 249) (pc' := 253) rfl (hb hby at_249) (by decide) (by decide) ?_
    exact kt)
  obtain ⟨fs, hr, hrun, hended, hW, hsame⟩ := X94.leave (v := some (.int (1 : Int32))) (fun h => by rw [Bd.returns] at h; cases h)
  refine ⟨_, _, g95 _ (retN X94 hx (t := .boolean) Bd.returns (by simp) (hb hby at_253) hr), hrun, hended, _, _, rfl, ?_, ⟨_, rfl⟩, hW, hsame.mono (by decide) (by decide)⟩
  show Q_rm0 Z p1 p2 p3 p4 p5 h0 n0 _ T94.heap _
  rw [E94']
  exact ⟨rfl, N94⟩
set_option maxRecDepth 65536 in
set_option maxHeartbeats 40000000 in
theorem comes_1 {Post : Tables → Env → Array Value → State → Outcome → State → Prop} (hpost : ∀ tb e args s v u, (limb_1_1.after args s (.returned v) u = true ∧ limb_1_2.after args s (.returned v) u = true ∧ True) → FrameEnd s (.returned v) u (Jvm.fieldLocs frame_1_writes args s ++ Jvm.arrayLocs frame_1_arrays args s ++ Jvm.staticLocs frame_1_statics s) 16 192 → Post tb e args s (.returned v) u) :
    ArmFor flags0 classFile x code maxLocals ret World_1 tables_1 room_1 Calls_1 rest_1 Pre_1 Post := by
  intro l hfl _ _ p e ha hc hk s m args below hf hA hF happ hP
  obtain ⟨hcalls, hrest, hpre⟩ := hP
  obtain ⟨-, -, -, hnamed, -, -, -, hat⟩ := (Spec.applies_iff hf).mp happ
  obtain ⟨hg, hn⟩ := and_e (Cond.before_iff.mp (show (Jvm.Cond.and given_1 narrow_1).before args s = true from hpre))
  obtain ⟨hcnt, r0⟩ := and_e hg
  obtain ⟨a0, r1⟩ := and_e r0
  obtain ⟨a1, r2⟩ := and_e r1
  obtain ⟨a2, r3⟩ := and_e r2
  obtain ⟨a3, r4⟩ := and_e r3
  obtain ⟨w0, w1, w2, w3, w4, rfl⟩ : ∃ w0 w1 w2 w3 w4 : Value, args = #[w0, w1, w2, w3, w4] := by
    have hs : args.size = 5 := by simpa [Cond.value, given_1] using hcnt
    obtain ⟨L⟩ := args
    match L, hs with
    | [w0, w1, w2, w3, w4], _ => exact ⟨w0, w1, w2, w3, w4, rfl⟩
  have hw := fun d (hd : d ∈ tables_1) => atoms_spec (ws := Jvm.Cond.code x code maxLocals ret :: tables_1) hat d (List.mem_cons_of_mem _ hd)
  have hfit : Fit s := fun {y c} hc i hi => by
    obtain ⟨ha, rfl⟩ := Array.getElem?_eq_some_iff.mp hc
    have q := List.all_eq_true.mp ((Array.all_eq_true_iff_forall_mem.mp hF) _ (Array.getElem_mem ha)) i (List.mem_range.mpr hi)
    simpa [Array.getElem?_eq_getElem hi] using q
  obtain ⟨i0, ei0⟩ := isL_v a0
  obtain rfl : w0 = (.long i0) := Option.some.inj ei0
  obtain ⟨i1, ei1⟩ := isL_v a1
  obtain rfl : w1 = (.long i1) := Option.some.inj ei1
  obtain ⟨i2, ei2⟩ := isL_v a2
  obtain rfl : w2 = (.long i2) := Option.some.inj ei2
  obtain ⟨i3, ei3⟩ := isL_v a3
  obtain rfl : w3 = (.long i3) := Option.some.inj ei3
  obtain ⟨i4, ei4⟩ := isL_v r4
  obtain rfl : w4 = (.long i4) := Option.some.inj ei4
  obtain ⟨n, o, h1, h2, h3, _, L, rfl, ⟨rfl, N⟩, hq⟩ := rm0 l s _ hw tables_1 i0 i1 i2 i3 i4 s.heap s.heap.size (Nat.le_refl _)  p e ha hc hk s m _ below hf ((Spec.applies_iff_loose hf).mp happ).1 ⟨rfl, State.Warmed39.refl s, rfl⟩ trivial
  refine ⟨n, _, h1, h2, h3, hpost _ _ _ _ _ _ ⟨Cond.after_iff.mpr rfl, Cond.after_iff.mpr (eq_i res_at (Term.int_eval (1)) rfl), trivial⟩ ⟨hq.1, hq.2.1, (hq.2.2.sift fun y hy => Or.inr (N y hy)).mono (by decide) (by decide)⟩⟩
theorem main_1_1 : Claimed_1_1 := comes_1 fun _ _ _ _ _ _ h hF => ⟨h.1, hF⟩
theorem main_1_2 : Claimed_1_2 := comes_1 fun _ _ _ _ _ _ h hF => ⟨h.2.1, hF⟩
end Jvm.Pilot.@@N@@
namespace Jvm.Pilot.@@N@@
open Jvm Jvm.ClassFile Sem Op Lib Jvm.Free Jvm.Stand Jvm.Pilot.@@N@@.Jvm.D
/-! MADE BY PROGRAM (witnessworld.py) out of the Statement's table words and the real class files: 11 classes; the members and pool entries that the words name. The judged class is class 1, her method 2. -/
namespace start1
open Jvm.ClassFile
def u (s : String) : CpInfo := .utf8 (stringToUtf16 s)
/-- a pool by its gaps: so many unusable entries, then the entry; so many at the end -/
def gap : Nat → List CpInfo → List CpInfo
  | 0, r => r
  | n + 1, r => .unusable :: gap n r
def poolList (es : List (Nat × CpInfo)) (last : Nat) : List CpInfo := es.foldr (fun e r => gap e.1 (e.2 :: r)) (gap last [])
def pool (es : List (Nat × CpInfo)) (last : Nat) : Array CpInfo := ⟨poolList es last⟩
def fileOf (pool : Array CpInfo) (this : Nat) (attrs : Array Attribute := #[]) (ms : Array MethodInfo := #[]) (fl : Nat := 33) (sup : Nat := 0) (ifs : Array Nat := #[]) (fds : Array FieldInfo := #[]) : ClassFile where
  minorVersion := 0
  majorVersion := 65
  constantPool := pool
  accessFlags := fl
  thisClass := this
  superClass := sup
  interfaces := ifs
  fields := fds
  methods := ms
  attributes := attrs
def plain (name : String) (sup : Option ClassId) : Class where
  name := name
  kind := .ordinary
  loader := none
  accessFlags := 33
  super := sup
  interfaces := #[]
  cf := none
  fields := #[]
  methods := #[]
  instanceTypes := #[]
  staticTypes := #[]
  resolved := #[]
  callSites := []
  init := .initialized
  statics := none
  mirror := none

def pool0 : Array CpInfo := pool [(5, u "<init>"), (0, u "()V"), (1, .class_ 10), (1, u "java/lang/Object")] 113

def k0c0 : Code := { maxStack := 0, maxLocals := 1, code := object_method_1_code, exceptionTable := #[], attributes := #[] }
def k0m0 : Method := { name := "<init>", desc := "()V", sig := { parameters := [], returnType := none }, accessFlags := 1, code := some k0c0 }
/-- java/lang/Object -/
def k0 : Class := { plain "java/lang/Object" none with
  accessFlags := 33
  interfaces := #[]
  cf := some (fileOf pool0 8 #[] #[{ accessFlags := 1, nameIndex := 5, descriptorIndex := 6, attributes := #[] }] 33 0 #[] #[])
  fields := #[]
  methods := #[k0m0]
  instanceTypes := #[]
  staticTypes := #[]
  resolved := Array.replicate 124 none
  statics := none }

def pool1 : Array CpInfo := pool [(2, .class_ 4), (0, .nameAndType 5 6), (0, u "java/lang/Object"), (0, u "<init>"), (0, u "()V"), (0, .class_ 8), (0, u "com/example/pincer/pincer/engine/MinHeap"), (0, .methodref 7 3), (0, .methodref 7 11), (0, .nameAndType 12 13), (0, u "push"), (0, u "(JI)V"), (0, .methodref 7 15), (0, .nameAndType 16 17), (0, u "pop"), (0, u "()I"), (0, .methodref 19 20), (0, .class_ 21), (0, .nameAndType 22 23), (0, u "com/example/pincer/pincer/engine/MinHeapPopPinLaw"), (0, u "ok"), (0, u "([JII)Z"), (0, .methodref 7 25), (0, .nameAndType 26 27), (0, u "isEmpty"), (0, u "()Z"), (3, u "law"), (0, u "(JJJJJ)Z")] 4

def k1m0 : Method := { name := "<init>", desc := "()V", sig := { parameters := [], returnType := none }, accessFlags := 1, code := none }
def k1c1 : Code := { maxStack := 4, maxLocals := 5, code := method_2_code, exceptionTable := #[], attributes := #[] }
def k1m1 : Method := { name := "ok", desc := "([JII)Z", sig := { parameters := [(.array .long), .int, .int], returnType := some .boolean }, accessFlags := 10, code := some k1c1 }
def k1c2 : Code := { maxStack := 4, maxLocals := 14, code := code, exceptionTable := #[], attributes := #[] }
def k1m2 : Method := { name := "law", desc := "(JJJJJ)Z", sig := { parameters := [.long, .long, .long, .long, .long], returnType := some .boolean }, accessFlags := 9, code := some k1c2 }
/-- com/example/pincer/pincer/engine/MinHeapPopPinLaw -/
def k1 : Class := { plain "com/example/pincer/pincer/engine/MinHeapPopPinLaw" (some 0) with
  accessFlags := 49
  interfaces := #[]
  cf := some (fileOf pool1 19 #[] #[{ accessFlags := 1, nameIndex := 5, descriptorIndex := 6, attributes := #[] }, { accessFlags := 10, nameIndex := 22, descriptorIndex := 23, attributes := #[] }, { accessFlags := 9, nameIndex := 31, descriptorIndex := 32, attributes := #[] }] 49 2 #[] #[])
  fields := #[]
  methods := #[k1m0, k1m1, k1m2]
  instanceTypes := #[]
  staticTypes := #[]
  resolved := Array.replicate 37 none
  statics := none }

def pool2 : Array CpInfo := pool [(1, .methodref 2 3), (0, .class_ 4), (0, .nameAndType 5 6), (0, u "java/lang/Object"), (0, u "<init>"), (0, u "()V"), (0, .fieldref 8 9), (0, .class_ 10), (0, .nameAndType 11 12), (0, u "com/example/pincer/pincer/engine/MinHeap"), (0, u "keys"), (0, u "[J"), (0, .fieldref 8 14), (0, .nameAndType 15 16), (0, u "items"), (0, u "[I"), (0, .fieldref 8 18), (0, .nameAndType 19 20), (0, u "size"), (0, u "I"), (11, u "isEmpty"), (0, u "()Z"), (1, u "push"), (0, u "(JI)V"), (2, u "pop"), (0, u "()I")] 2

def k2c0 : Code := { maxStack := 2, maxLocals := 1, code := prog_99_method_1_code, exceptionTable := #[], attributes := #[] }
def k2m0 : Method := { name := "<init>", desc := "()V", sig := { parameters := [], returnType := none }, accessFlags := 0, code := some k2c0 }
def k2c1 : Code := { maxStack := 1, maxLocals := 1, code := prog_99_method_2_code, exceptionTable := #[], attributes := #[] }
def k2m1 : Method := { name := "isEmpty", desc := "()Z", sig := { parameters := [], returnType := some .boolean }, accessFlags := 0, code := some k2c1 }
def k2c2 : Code := { maxStack := 5, maxLocals := 5, code := prog_99_method_3_code, exceptionTable := #[], attributes := #[] }
def k2m2 : Method := { name := "push", desc := "(JI)V", sig := { parameters := [.long, .int], returnType := none }, accessFlags := 0, code := some k2c2 }
def k2c3 : Code := { maxStack := 4, maxLocals := 7, code := prog_99_method_5_code, exceptionTable := #[], attributes := #[] }
def k2m3 : Method := { name := "pop", desc := "()I", sig := { parameters := [], returnType := some .int }, accessFlags := 0, code := some k2c3 }
/-- com/example/pincer/pincer/engine/MinHeap -/
def k2 : Class := { plain "com/example/pincer/pincer/engine/MinHeap" (some 0) with
  accessFlags := 48
  interfaces := #[]
  cf := some (fileOf pool2 8 #[] #[{ accessFlags := 0, nameIndex := 5, descriptorIndex := 6, attributes := #[] }, { accessFlags := 0, nameIndex := 32, descriptorIndex := 33, attributes := #[] }, { accessFlags := 0, nameIndex := 35, descriptorIndex := 36, attributes := #[] }, { accessFlags := 0, nameIndex := 39, descriptorIndex := 40, attributes := #[] }] 48 2 #[] #[{ accessFlags := 2, nameIndex := 11, descriptorIndex := 12, attributes := #[] }, { accessFlags := 2, nameIndex := 15, descriptorIndex := 16, attributes := #[] }, { accessFlags := 2, nameIndex := 19, descriptorIndex := 20, attributes := #[] }])
  fields := #[{ name := "keys", type := (.array .long), accessFlags := 2, slot := 0, constantValue := 0 }, { name := "items", type := (.array .int), accessFlags := 2, slot := 1, constantValue := 0 }, { name := "size", type := .int, accessFlags := 2, slot := 2, constantValue := 0 }]
  methods := #[k2m0, k2m1, k2m2, k2m3]
  instanceTypes := #[(.array .long), (.array .int), .int]
  staticTypes := #[]
  resolved := Array.replicate 43 none
  statics := none }

def pool3 : Array CpInfo := pool [(1, u "java/lang/Cloneable"), (0, .class_ 1), (0, u "java/lang/Object"), (0, .class_ 3)] 3

/-- java/lang/Cloneable -/
def k3 : Class := { plain "java/lang/Cloneable" (some 0) with
  accessFlags := 1537
  interfaces := #[]
  cf := some (fileOf pool3 2 #[] #[] 1537 4 #[] #[])
  fields := #[]
  methods := #[]
  instanceTypes := #[]
  staticTypes := #[]
  resolved := Array.replicate 8 none
  statics := none }

def pool4 : Array CpInfo := pool [(1, u "java/io/Serializable"), (0, .class_ 1), (0, u "java/lang/Object"), (0, .class_ 3)] 3

/-- java/io/Serializable -/
def k4 : Class := { plain "java/io/Serializable" (some 0) with
  accessFlags := 1537
  interfaces := #[]
  cf := some (fileOf pool4 2 #[] #[] 1537 4 #[] #[])
  fields := #[]
  methods := #[]
  instanceTypes := #[]
  staticTypes := #[]
  resolved := Array.replicate 8 none
  statics := none }

/-- the primitive byte -/
def k5 : Class := { plain "byte" none with kind := .primitive 'B', accessFlags := 0x411 }
/-- [B -/
def k6 : Class := { plain "[B" (some 0) with kind := .array 5 .byte, interfaces := #[3, 4], accessFlags := 1041 }

/-- the primitive int -/
def k7 : Class := { plain "int" none with kind := .primitive 'I', accessFlags := 0x411 }
/-- [I -/
def k8 : Class := { plain "[I" (some 0) with kind := .array 7 .int, interfaces := #[3, 4], accessFlags := 1041 }

/-- the primitive long -/
def k9 : Class := { plain "long" none with kind := .primitive 'J', accessFlags := 0x411 }
/-- [J -/
def k10 : Class := { plain "[J" (some 0) with kind := .array 9 .long, interfaces := #[3, 4], accessFlags := 1041 }

def heap : Heap := #[]
def classes : Array Class := #[k0, k1, k2, k3, k4, k5, k6, k7, k8, k9, k10]
def interned : List (Array UInt16 × Addr) := []
def slotsUsed : Nat := 0
def theMethod : MethodId := ⟨1, 2⟩
def args0 : Array Value := #[.long 5, .long 3, .long 7, .long 1, .long 2]
def aboutOver (below : List Frame) : State where
  vm := { classes := classes, interned := interned.toArray }
  heap := heap
  slotsUsed := slotsUsed
  threads := #[{ frames := .invoking theMethod args0 :: below }]
def below0 : List Frame := [.native { method := ⟨0, 0⟩, args := #[] }]
def about1 : State := aboutOver below0
def p0 : Program := .bare "" "" ""
def e0 : Env := launch0.env 0 0 0
theorem w_frames : about1.frames = Frame.invoking theMethod args0 :: below0 := rfl
set_option maxRecDepth 65536 in
theorem w_args : argsFit about1.vm theMethod args0 = true := by decide +kernel
set_option maxRecDepth 65536 in
theorem w_heap : heapFits about1 = true := by decide +kernel
set_option maxRecDepth 65536 in
theorem w_runnable : about1.curStatus? = some .runnable := by decide +kernel
set_option maxRecDepth 65536 in
theorem w_alone : about1.alone = true := by decide +kernel
set_option maxRecDepth 65536 in
theorem w_named : about1.methodNamed? x = some theMethod := by decide +kernel
set_option maxRecDepth 65536 in
theorem w_hears : about1.hears theMethod below0 = true := by decide +kernel
set_option maxRecDepth 65536 in
theorem w_ripe : about1.ripe theMethod args0 below0 = true := by decide +kernel
theorem w_running : about1.status = .running := rfl
set_option maxRecDepth 65536 in
theorem w_room : about1.hasRoom e0.platform room_1 = true :=
  launch0.hasRoom_least _ room_1 (by decide +kernel) (by decide +kernel) (by decide +kernel) (by decide +kernel) (by decide +kernel) (by decide +kernel)
theorem allAtoms_all (ts : List Jvm.Cond) (a : Array Jvm.Value) (st : Jvm.State) : (allAtoms ts).before a st = ts.all (fun c => c.before a st) := by
  induction ts with
  | nil => rfl
  | cons c t ih =>
    show (Jvm.Cond.and c (allAtoms t)).before a st = _
    rw [Jvm.Cond.before_and, ih, List.all_cons]
def words1 : List Jvm.Cond := Jvm.Cond.code x code maxLocals ret :: tables_1
/-- a 'code' word, met by the world's own term for the bytes: nothing is compared byte by byte -/
theorem code_word {y : MethodName} {bytes : ByteArray} {mx : Nat} {rt : Option FieldType} {a : Array Value} {s : State} {m : MethodId} {meth : Method} {c : Code} (h1 : s.methodNamed? y = some m) (h2 : s.vm.method? m = some meth) (h3 : meth.code = some c) (h4 : c.code = bytes)
    (h5 : (c.maxLocals == mx && c.exceptionTable.isEmpty && decide (c.maxStack ≤ mostOperands) && decide (meth.sig.returnType = rt) && !meth.locks && decide (parseMethodDescriptor y.desc = some meth.sig)) = true) : (Jvm.Cond.code y bytes mx rt).before a s = true := by
  simp only [Bool.and_eq_true, beq_iff_eq, Bool.not_eq_true', decide_eq_true_eq] at h5
  obtain ⟨⟨⟨⟨⟨g1, g2⟩, g3⟩, g4⟩, g5⟩, g6⟩ := h5
  simp [Cond.before, Cond.holds, Cond.value, h1, h2, h3, h4, g1, g2, g3, g4, g5, g6]
def isCode : Jvm.Cond → Bool
  | .code _ _ _ _ => true
  | _ => false
theorem all_split {L : List Jvm.Cond} {P : Jvm.Cond → Bool} (h1 : L.all (fun c => isCode c || P c) = true) (h2 : ∀ c ∈ L.filter isCode, P c = true) : L.all P = true := by
  refine List.all_eq_true.mpr fun c hc => ?_
  have h := List.all_eq_true.mp h1 c hc
  rcases Bool.eq_false_or_eq_true (isCode c) with hi | hi
  · exact h2 c (List.mem_filter.mpr ⟨hc, hi⟩)
  · simpa [hi] using h
set_option maxRecDepth 65536 in
theorem w_c0 : (Jvm.Cond.code x code maxLocals ret).before args0 about1 = true := code_word (m := ⟨1, 2⟩) (meth := k1m2) (c := k1c2) (by decide +kernel) rfl rfl rfl (by decide +kernel)
set_option maxRecDepth 65536 in
theorem w_c1 : (Jvm.Cond.code ({ cls := "com/example/pincer/pincer/engine/MinHeap", name := "<init>", desc := "()V" } : Jvm.MethodName) prog_99_method_1_code (1 : Nat) (Option.none : Option Jvm.ClassFile.FieldType)).before args0 about1 = true := code_word (m := ⟨2, 0⟩) (meth := k2m0) (c := k2c0) (by decide +kernel) rfl rfl rfl (by decide +kernel)
set_option maxRecDepth 65536 in
theorem w_c2 : (Jvm.Cond.code ({ cls := "java/lang/Object", name := "<init>", desc := "()V" } : Jvm.MethodName) object_method_1_code (1 : Nat) (Option.none : Option Jvm.ClassFile.FieldType)).before args0 about1 = true := code_word (m := ⟨0, 0⟩) (meth := k0m0) (c := k0c0) (by decide +kernel) rfl rfl rfl (by decide +kernel)
set_option maxRecDepth 65536 in
theorem w_c3 : (Jvm.Cond.code ({ cls := "com/example/pincer/pincer/engine/MinHeap", name := "push", desc := "(JI)V" } : Jvm.MethodName) prog_99_method_3_code (5 : Nat) (Option.none : Option Jvm.ClassFile.FieldType)).before args0 about1 = true := code_word (m := ⟨2, 2⟩) (meth := k2m2) (c := k2c2) (by decide +kernel) rfl rfl rfl (by decide +kernel)
set_option maxRecDepth 65536 in
theorem w_c4 : (Jvm.Cond.code ({ cls := "com/example/pincer/pincer/engine/MinHeap", name := "pop", desc := "()I" } : Jvm.MethodName) prog_99_method_5_code (7 : Nat) (Option.some Jvm.ClassFile.FieldType.int)).before args0 about1 = true := code_word (m := ⟨2, 3⟩) (meth := k2m3) (c := k2c3) (by decide +kernel) rfl rfl rfl (by decide +kernel)
set_option maxRecDepth 65536 in
theorem w_c5 : (Jvm.Cond.code ({ cls := "com/example/pincer/pincer/engine/MinHeapPopPinLaw", name := "ok", desc := "([JII)Z" } : Jvm.MethodName) method_2_code (5 : Nat) (Option.some Jvm.ClassFile.FieldType.boolean)).before args0 about1 = true := code_word (m := ⟨1, 1⟩) (meth := k1m1) (c := k1c1) (by decide +kernel) rfl rfl rfl (by decide +kernel)
set_option maxRecDepth 65536 in
theorem w_c6 : (Jvm.Cond.code ({ cls := "com/example/pincer/pincer/engine/MinHeap", name := "isEmpty", desc := "()Z" } : Jvm.MethodName) prog_99_method_2_code (1 : Nat) (Option.some Jvm.ClassFile.FieldType.boolean)).before args0 about1 = true := code_word (m := ⟨2, 1⟩) (meth := k2m1) (c := k2c1) (by decide +kernel) rfl rfl rfl (by decide +kernel)
def codes1 : List Jvm.Cond := [Jvm.Cond.code x code maxLocals ret, Jvm.Cond.code ({ cls := "com/example/pincer/pincer/engine/MinHeap", name := "<init>", desc := "()V" } : Jvm.MethodName) prog_99_method_1_code (1 : Nat) (Option.none : Option Jvm.ClassFile.FieldType), Jvm.Cond.code ({ cls := "java/lang/Object", name := "<init>", desc := "()V" } : Jvm.MethodName) object_method_1_code (1 : Nat) (Option.none : Option Jvm.ClassFile.FieldType), Jvm.Cond.code ({ cls := "com/example/pincer/pincer/engine/MinHeap", name := "push", desc := "(JI)V" } : Jvm.MethodName) prog_99_method_3_code (5 : Nat) (Option.none : Option Jvm.ClassFile.FieldType), Jvm.Cond.code ({ cls := "com/example/pincer/pincer/engine/MinHeap", name := "pop", desc := "()I" } : Jvm.MethodName) prog_99_method_5_code (7 : Nat) (Option.some Jvm.ClassFile.FieldType.int), Jvm.Cond.code ({ cls := "com/example/pincer/pincer/engine/MinHeapPopPinLaw", name := "ok", desc := "([JII)Z" } : Jvm.MethodName) method_2_code (5 : Nat) (Option.some Jvm.ClassFile.FieldType.boolean), Jvm.Cond.code ({ cls := "com/example/pincer/pincer/engine/MinHeap", name := "isEmpty", desc := "()Z" } : Jvm.MethodName) prog_99_method_2_code (1 : Nat) (Option.some Jvm.ClassFile.FieldType.boolean)]
set_option maxRecDepth 65536 in
theorem codes_eq : words1.filter isCode = codes1 := rfl
theorem w_codes : ∀ c ∈ words1.filter isCode, c.before args0 about1 = true := by
  rw [codes_eq]
  intro c hc
  simp only [codes1, List.mem_cons, List.not_mem_nil, or_false] at hc
  rcases hc with rfl | rfl | rfl | rfl | rfl | rfl | rfl
  · exact w_c0
  · exact w_c1
  · exact w_c2
  · exact w_c3
  · exact w_c4
  · exact w_c5
  · exact w_c6
set_option maxRecDepth 65536 in
theorem w_t1 : (words1.take 24).all (fun c => isCode c || c.before args0 about1) = true := by decide +kernel
set_option maxRecDepth 65536 in
theorem w_t2 : (words1.drop 24).all (fun c => isCode c || c.before args0 about1) = true := by decide +kernel
theorem w_tables : (allAtoms (Jvm.Cond.code x code maxLocals ret :: tables_1)).before args0 about1 = true := by
  rw [allAtoms_all]
  show words1.all (fun c => c.before args0 about1) = true
  refine all_split ?_ w_codes
  rw [← List.take_append_drop 24 words1, List.all_append, w_t1, w_t2]
  rfl
set_option maxRecDepth 65536 in
theorem w_case : (Jvm.Cond.and given_1 narrow_1).before args0 about1 = true := by decide +kernel
theorem w_applies : (headSpec (Jvm.Cond.code x code maxLocals ret :: tables_1) room_1).applies x e0.platform about1 = true :=
  (Spec.applies_iff w_frames).mpr ⟨w_running, w_runnable, w_alone, w_named, w_hears, w_ripe, w_room, w_tables⟩
theorem atStart : AtStart classFile x code maxLocals ret World_1 tables_1 room_1 Calls_1 rest_1 Pre_1 launch0 p0 e0 about1 theMethod args0 below0 :=
  ⟨lists_1, trivial, launch0.admits_env _ _ _, launch0.least_env, fairChoices_fair.cas, fairChoices_fair.clock, w_frames, w_args, w_heap, w_applies, trivial, trivial, w_case⟩
end start1
theorem witness_1 : WitnessClaimed_1 := ⟨start1.p0, start1.e0, start1.about1, start1.theMethod, start1.args0, start1.below0, start1.atStart⟩
end Jvm.Pilot.@@N@@
