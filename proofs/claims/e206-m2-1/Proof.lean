import JvmDerived
import JvmDerived.Pilot.@@N@@Statement
import JvmDerived.Pilot.@@N@@Code
set_option linter.unusedVariables false
set_option linter.unusedSimpArgs false
namespace Jvm.Pilot.@@N@@
open Jvm Jvm.ClassFile Sem Op Lib Jvm.Free Jvm.Stand Jvm.LawKit Jvm.RoadKit Bundle Jvm.Pilot.@@N@@.Jvm.D
/-- from (T, g) the run comes to (T', g') -/
abbrev own_Go (p : Program) (e : Env) (below : List Frame) (T : State) (g : JFrame) (T' : State) (g' : JFrame) : Prop := ∀ t, Steps p.tables e below (T'.setTop g') t → Steps p.tables e below (T.setTop g) t
def own_bz (z : Int32) : Int32 := if z = 0 then 0 else 1
theorem own_bz_and (z : Int32) : own_bz z &&& 1 = own_bz z := by unfold own_bz; split <;> decide
section OwnBool
variable {p : Program} {l : Launch} {e : Env} {R : Room} {s : State} {m : MethodId} {args : Array Value} {below : List Frame} {meth : Method} {c : Code} {T : State} {locs : List Loc} {cells slots : Nat}
/-- 'z != 0 ? 1 : 0' as javac lays it: ifeq +7, iconst_1, goto +4, iconst_0 -/
theorem own_bool (X : Stand p l e R s m args below meth c T locs cells slots) (hx : p.tables.exec = Jvm.exec) {pc : Nat} {Ls : Array Slot} {z : Int32} {rest : List Value}
    (d0 : decode c.code pc = .ok (.ifCond .eq 7, 3)) (d1 : decode c.code (pc + 3) = .ok (.iconst 1, 1)) (d2 : decode c.code (pc + 4) = .ok (.goto 4, 3)) (d3 : decode c.code (pc + 7) = .ok (.iconst 0, 1)) :
    own_Go p e below T (mkF m pc Ls (.int z :: rest)) T (mkF m (pc + 8) Ls (.int (own_bz z) :: rest)) := by
  intro t hr
  by_cases h : z = 0
  · have hv : own_bz z = 0 := by simp [own_bz, h]
    rw [hv] at hr
    refine XS.ifYes X.here hx rfl (pc0 := pc) (pc' := pc + 7) rfl d0 rfl ((if0 _ _).trans (teq h).1) (by omega) (by omega) ?_
    exact XS.iconst X.here hx rfl d3 hr
  · have hv : own_bz z = 1 := by simp [own_bz, h]
    rw [hv] at hr
    refine XS.ifNo X.here hx rfl d0 rfl ((if0 _ _).trans (feq h).1) ?_
    refine XS.iconst X.here hx rfl d1 ?_
    exact XS.goto X.here hx rfl (pc0 := pc + 4) (pc' := pc + 8) rfl d2 (by omega) (by omega) hr
end OwnBool
/-! arrays of doubles, said by plain lists of bits -/
def own_LD (Z : State) (h : Heap) (a : Addr) (k : ClassId) (n : Int32) (ks : List UInt64) : Prop := Arv Z h a k .double n (ks.map Value.double) (.double 0) ∧ n.toNatClampNeg = ks.length
section OwnArr
variable {p : Program} {l : Launch} {e : Env} {R : Room} {s : State} {m : MethodId} {args : Array Value} {below : List Frame} {meth : Method} {c : Code} {T : State} {locs : List Loc} {cells slots : Nat} {Z : State} {h h' : Heap} {a b : Addr} {k : ClassId} {n : Int32} {ks : List UInt64} {sl : Nat} {v : Value} {ws : List Addr}
theorem own_LD.lt (F : own_LD Z h a k n ks) : a < h.size := F.1.lt
theorem own_LD.ext (F : own_LD Z h a k n ks) (E : Ext h h') : own_LD Z h' a k n ks := ⟨F.1.ext E, F.2⟩
theorem own_LD.other (F : own_LD Z h a k n ks) (W : Wr h h' b sl v) (q : a ≠ b) : own_LD Z h' a k n ks := ⟨F.1.other W q, F.2⟩
theorem own_LD.keep (F : own_LD Z h a k n ks) (K : Keep h h' ws) (q : a ∉ ws) : own_LD Z h' a k n ks := ⟨F.1.keep K q, F.2⟩
theorem own_getD' (ks : List UInt64) (i : Nat) : (ks.map Value.double).getD i (.double 0) = .double (ks.getD i 0) := by
  simp only [List.getD_eq_getElem?_getD, List.getElem?_map]
  cases ks[i]? <;> rfl
theorem own_ldD (X : Stand p l e R s m args below meth c T locs cells slots) (hx : p.tables.exec = Jvm.exec) (hZ : Z.Warmed39 s.vm) (eT : T.heap = h) (A : own_LD Z h a k n ks) {j : Int32} (i : Nat) (hj : ¬ j < 0 ∧ j.toNatClampNeg = i) (hi : i < ks.length) {pc : Nat} {Ls : Array Slot} {rest : List Value} (hd : decode c.code pc = .ok (.daload, 1)) :
    own_Go p e below T (mkF m pc Ls (.int j :: .ref a :: rest)) T (mkF m (pc + 1) Ls (.double (ks.getD i 0) :: rest)) := by
  obtain ⟨⟨cl, Ar, q, S, N, H, G⟩, hn⟩ := A
  have hin : ¬ (j < 0 ∨ cl.slots.size ≤ j.toNatClampNeg) := fun z => z.elim hj.1 fun z => by rw [S, hn, hj.2] at z; omega
  have hat := Has.at H hin (v := .double (ks.getD i 0)) (by rw [hj.2]; exact own_getD' ks i)
  exact fun t kt => X.daload hx (j := j) (v := .double (ks.getD i 0)) (by rw [eT]; exact Ar.1) (State.isArrayOf_alike hZ.alike Ar.2.1) Ar.2.2 hin hat (g := mkF m pc Ls (.int j :: .ref a :: rest)) rfl rfl hd _ kt
theorem own_stD (X : Stand p l e R s m args below meth c T locs cells slots) (hx : p.tables.exec = Jvm.exec) (hZ : Z.Warmed39 s.vm) (eT : T.heap = h) (A : own_LD Z h a k n ks) {j : Int32} {x : UInt64} (i : Nat) (hj : ¬ j < 0 ∧ j.toNatClampNeg = i) (hi : i < ks.length) {pc : Nat} {Ls : Array Slot} {rest : List Value} (hd : decode c.code pc = .ok (.dastore, 1)) :
    ∃ T' h', Stand p l e R s m args below meth c T' (locs ++ [⟨a, i⟩]) cells slots ∧ T'.heap = h' ∧ Wr h h' a i (.double x) ∧ own_LD Z h' a k n (ks.set i x) ∧ own_Go p e below T (mkF m pc Ls (.double x :: .int j :: .ref a :: rest)) T' (mkF m (pc + 1) Ls rest) := by
  obtain ⟨⟨cl, Ar, q, S, N, H, G⟩, hn⟩ := A
  have hin : ¬ (j < 0 ∨ cl.slots.size ≤ j.toNatClampNeg) := fun z => z.elim hj.1 fun z => by rw [S, hn, hj.2] at z; omega
  obtain ⟨T', h', X', e', W, st⟩ := stD X hx hZ eT Ar (j := j) (x := x) hin (g := mkF m pc Ls (.double x :: .int j :: .ref a :: rest)) rfl rfl hd
  have V := Arv.set Ar q S N H G (v := .double x) rfl W i hj.2 (by simpa using hi)
  rw [hj.2] at X' W
  refine ⟨T', h', X', e', W, ⟨?_, by simpa using hn⟩, st⟩
  rw [List.map_set]; exact V
theorem own_newD {z : Int32} (A : Arr Z h a (newA k .double z) .double) (q : ¬ z < 0) (N : Nat) (hN : z.toNatClampNeg = N) : own_LD Z h a k z (List.replicate N 0) := by
  refine ⟨?_, by simpa using hN⟩
  have hpad := (Arv.new A q).pad (pad_rep [] (.double 0) N)
  rw [List.nil_append] at hpad
  rw [List.map_replicate]
  exact hpad
end OwnArr
theorem own_set_get (hs : List UInt64) (i : Nat) (x : UInt64) (h : i < hs.length) : (hs.set i x).getD i 0 = x := by
  simp [List.getD_eq_getElem?_getD, h]
/-! ## rounding of whole numbers -/
section OwnFP
open Jvm.FP Jvm.FP.Core
theorem own_leading (n : Nat) (hn : 0 < n) : leading n 1 = (n.log2 : Int) := by
  unfold leading
  have h1 : Nat.log2 1 = 0 := by decide
  have l1 : 2 ^ n.log2 ≤ n := Nat.log2_self_le (by omega)
  simp only [h1]
  rw [if_pos]
  · omega
  · rw [show ((n.log2 : Int) - ((0 : Nat) : Int)).toNat = n.log2 by omega, show (-((n.log2 : Int) - ((0 : Nat) : Int))).toNat = 0 by omega]; simpa using l1
theorem own_big (s : Bool) (n : Nat) (h1 : 2 ^ 53 ≤ n) (h2 : n < 2 ^ 64) : ∃ v : Nat, Whole (signed s v) (roundRatio b64 s n 1 0) ∧ v ≤ n + 2048 ∧ n ≤ v + 2048 := by
  have h0 : n ≠ 0 := by omega
  have l2 : n < 2 ^ (n.log2 + 1) := Nat.lt_log2_self
  have b1 : 53 ≤ n.log2 := (Nat.le_log2 h0).mpr h1
  have b2 : n.log2 < 64 := (Nat.log2_lt h0).mpr h2
  obtain ⟨k, hk⟩ : ∃ k, n.log2 = k + 52 := ⟨n.log2 - 52, by omega⟩
  have hq : quantum b64 n 1 0 = (k : Int) := by
    unfold quantum
    rw [own_leading n (by omega), hk]
    have q1 : b64.qmin = -1074 := by decide
    have q2 : b64.p = 53 := rfl
    rw [q1, q2]; omega
  have hr : roundRatio b64 s n 1 0 = settle b64 s (nearest n (2 ^ k)) (k : Int) := by
    unfold roundRatio
    rw [if_neg h0, hq]
    unfold roundAt unitsNum unitsDen
    rw [show ((0 : Int) - (k : Int)).toNat = 0 by omega, show ((k : Int) - 0).toNat = k by omega]
    simp
  obtain ⟨s1, s2, -⟩ := nearest_spec n (2 ^ k) (Nat.two_pow_pos k)
  have s3 : nearest n (2 ^ k) ≤ 2 ^ 53 := nearest_le (Nat.two_pow_pos k) (by rw [← Nat.pow_add, show 53 + k = n.log2 + 1 by omega]; exact Nat.le_of_lt l2)
  have hkb : 2 ^ k ≤ 2048 := by
    have : (2 : Nat) ^ k ≤ 2 ^ 11 := Nat.pow_le_pow_right (by decide) (by omega)
    simpa using this
  generalize nearest n (2 ^ k) = c at hr s1 s2 s3
  have e1 : (2 * c + 1) * 2 ^ k = 2 * (c * 2 ^ k) + 2 ^ k := by rw [Nat.add_mul, Nat.one_mul, Nat.mul_assoc]
  have e2 : 2 * c * 2 ^ k = 2 * (c * 2 ^ k) := Nat.mul_assoc _ _ _
  rw [e1] at s1; rw [e2] at s2
  refine ⟨c * 2 ^ k, ?_, by generalize c * 2 ^ k = x at *; omega, by generalize c * 2 ^ k = x at *; omega⟩
  rw [hr]
  have qm : b64.qmax = 971 := by decide
  have kk : k ≤ 11 := by omega
  unfold settle bound
  by_cases hc : c < 2 ^ b64.p
  · rw [if_pos hc, if_pos (by rw [qm]; omega)]
    show signed s (c * 2 ^ (k : Int).toNat) = signed s (c * 2 ^ k) * ((2 ^ (-(k : Int)).toNat : Nat) : Int)
    rw [show (k : Int).toNat = k by omega, show (-(k : Int)).toNat = 0 by omega]; simp
  · have hp : (2 : Nat) ^ b64.p = 2 ^ 53 := rfl
    have hc' : c = 2 ^ 53 := by rw [hp] at hc; omega
    rw [if_neg hc, if_pos (by rw [qm]; omega)]
    show signed s (b64.tails * 2 ^ ((k : Int) + 1).toNat) = signed s (c * 2 ^ k) * ((2 ^ (-((k : Int) + 1)).toNat : Nat) : Int)
    rw [show ((k : Int) + 1).toNat = k + 1 by omega, show (-((k : Int) + 1)).toNat = 0 by omega, show b64.tails = 2 ^ 52 from rfl, hc']
    rw [show (2 : Nat) ^ 52 * 2 ^ (k + 1) = 2 ^ 53 * 2 ^ k by rw [← Nat.pow_add, ← Nat.pow_add]; congr 1; omega]
    simp
theorem own_signed_abs (i : Int) : signed (decide (i < 0)) i.natAbs = i := by
  unfold signed
  by_cases h : i < 0 <;> simp [h] <;> omega
/-- a whole number below 2^64 rounds to a whole number near it, whatever way it is written -/
theorem own_rn (i : Int) (hi : i.natAbs < 2 ^ 64) : ∃ v : Int, (∀ d, Whole i d → Whole v (round b64 d)) ∧ v - i ≤ 2048 ∧ i - v ≤ 2048 ∧ (i.natAbs ≤ 2 ^ 53 → v = i) := by
  by_cases h : i.natAbs ≤ 2 ^ 53
  · exact ⟨i, fun d hd => whole_round good_b64 wide_b64 h hd, by omega, by omega, fun _ => rfl⟩
  · obtain ⟨v, h1, h2, h3⟩ := own_big (decide (i < 0)) i.natAbs (by omega) hi
    refine ⟨signed (decide (i < 0)) v, fun d hd => ?_, ?_, ?_, fun q => absurd q h⟩
    · cases d with
      | nan => exact hd.elim
      | inf => exact hd.elim
      | fin s c q => rw [round_whole hd, whole_sign hd (by omega)]; exact h1
    · unfold signed; by_cases hn : i < 0 <;> simp [hn] <;> omega
    · unfold signed; by_cases hn : i < 0 <;> simp [hn] <;> omega
/-- a number of up to 53 digits, shifted, is a double exactly -/
theorem own_shift (a : Int) (k : Nat) (ha : a.natAbs ≤ 2 ^ 52) (hk : k ≤ 64) (d : Datum) (hd : Whole (a * ((2 ^ k : Nat) : Int)) d) : Whole (a * ((2 ^ k : Nat) : Int)) (round b64 d) := by
  by_cases h0 : a = 0
  · subst h0
    simp only [Int.zero_mul] at hd ⊢
    exact whole_round good_b64 wide_b64 (by decide) hd
  cases d with
  | nan => exact hd.elim
  | inf => exact hd.elim
  | fin s c q =>
    obtain ⟨c', q', hfit, hv⟩ := natFit good_b64 wide_b64 s (n := a.natAbs) (by show _ ≤ 2 ^ 53; omega)
    have qm : b64.qmax = 971 := by decide
    have qn : b64.qmin = -1074 := by decide
    obtain ⟨f1, f2, f3, f4⟩ := hfit
    have hcl : c' < 2 ^ 53 := f1
    have hq' : q' ≤ 900 := by
      refine Int.not_lt.mp fun hlt => ?_
      rw [show (0 - q').toNat = 0 by omega] at hv
      have hc0 : c' ≠ 0 := by rintro rfl; simp at hv; omega
      have : 2 ^ 53 ≤ 2 ^ (q' - 0).toNat := Nat.pow_le_pow_right (by decide) (by omega)
      have h5 : a.natAbs = c' * 2 ^ (q' - 0).toNat := by simpa using hv
      have h6 : 1 * 2 ^ (q' - 0).toNat ≤ c' * 2 ^ (q' - 0).toNat := Nat.mul_le_mul_right _ (by omega)
      omega
    have hqn : q' ≠ b64.qmin := by
      rintro rfl
      rw [qn] at hv
      have h7 : a.natAbs * 2 ^ 1074 = c' := by simpa using hv
      have : 1 * 2 ^ 1074 ≤ a.natAbs * 2 ^ 1074 := Nat.mul_le_mul_right _ (by omega)
      have h8 : (2 : Nat) ^ 53 ≤ 1 * 2 ^ 1074 := by rw [Nat.one_mul]; exact Nat.pow_le_pow_right (by decide) (by decide)
      omega
    have hfit' : Core.fits b64 (.fin s c' (q' + k)) := ⟨f1, by omega, by omega, Or.inr (f4.resolve_left hqn)⟩
    have hna : (a * ((2 ^ k : Nat) : Int)).natAbs = a.natAbs * 2 ^ k := by rw [Int.natAbs_mul, Int.natAbs_natCast]
    have hv' : (a * ((2 ^ k : Nat) : Int)).natAbs * 2 ^ (0 - (q' + k)).toNat = c' * 1 * 2 ^ ((q' + k) - 0).toNat := by
      rw [hna]
      have hx : k + (0 - (q' + (k : Int))).toNat + (q' - 0).toNat = (0 - q').toNat + ((q' + (k : Int)) - 0).toNat := by omega
      have p : 0 < 2 ^ (q' - 0).toNat := Nat.two_pow_pos _
      refine Nat.eq_of_mul_eq_mul_right p ?_
      calc a.natAbs * 2 ^ k * 2 ^ (0 - (q' + (k : Int))).toNat * 2 ^ (q' - 0).toNat = a.natAbs * 2 ^ (k + (0 - (q' + (k : Int))).toNat + (q' - 0).toNat) := by rw [Nat.pow_add, Nat.pow_add]; ac_rfl
        _ = (a.natAbs * 2 ^ (0 - q').toNat) * 2 ^ ((q' + (k : Int)) - 0).toNat := by rw [hx, Nat.pow_add]; ac_rfl
        _ = c' * 1 * 2 ^ (q' + (k : Int) - 0).toNat * 2 ^ (q' - 0).toNat := by rw [hv]; ac_rfl
    rw [round_whole hd, roundRatio_exact good_b64 (by decide) hfit' hv']
    -- the datum is that whole number
    show signed s (c' * 2 ^ (q' + (k : Int)).toNat) = _
    rw [show (0 - (q' + (k : Int))).toNat = (-(q' + (k : Int))).toNat by omega, show ((q' + (k : Int)) - 0).toNat = (q' + (k : Int)).toNat by omega, Nat.mul_one] at hv'
    rw [← hv', signed_mul]
    congr 1
    have hne : a * ((2 ^ k : Nat) : Int) ≠ 0 := Int.mul_ne_zero h0 (by have := Nat.two_pow_pos k; omega)
    rw [whole_sign hd hne]
    exact own_signed_abs _

theorem own_nn {i : Int} {x : UInt64} (h : DInt i x) : Jvm.Free.Fl.NoNaN64 x := Jvm.Free.Fl.noNaN64_no.mpr (by
  have q' : val64 x ≠ .nan := fun q' => by
    unfold DInt at h
    rw [q'] at h
    exact h
  exact decide_eq_false q')
/-- a whole number that a double holds rounds to itself, whatever way it is written -/
theorem own_repr {i : Int} {x : UInt64} (h : DInt i x) {d : Datum} (hd : Whole i d) : Whole i (round b64 d) := by
  by_cases h0 : i = 0
  · subst h0; exact whole_round good_b64 wide_b64 (by decide) hd
  · have hx : Whole i (val64 x) := h
    have e : round b64 d = val64 x := by
      rw [← round_of_fits good_b64 (val64_fits x)]
      cases hv : val64 x with
      | nan => rw [hv] at hx; exact hx.elim
      | inf => rw [hv] at hx; exact hx.elim
      | fin t c' q' =>
        rw [hv] at hx
        cases d with
        | nan => exact hd.elim
        | inf => exact hd.elim
        | fin s c q => rw [round_whole hd, round_whole hx, whole_sign hd h0, whole_sign hx h0]
    rw [e]; exact hx
def own_d1 (hi st : UInt64) : UInt64 := FP.dadd hi st
def own_d2 (hi st : UInt64) : UInt64 := FP.dsub (FP.dadd hi st) hi
def own_d7 (hi lo st : UInt64) : UInt64 := FP.dadd (FP.dadd (FP.dsub hi (FP.dsub (FP.dadd hi st) (FP.dsub (FP.dadd hi st) hi))) (FP.dsub st (FP.dsub (FP.dadd hi st) hi))) lo
def own_nh (hi lo st : UInt64) : UInt64 := FP.dadd (FP.dadd hi st) (own_d7 hi lo st)
def own_nl (hi lo st : UInt64) : UInt64 := FP.dsub (own_d7 hi lo st) (FP.dsub (own_nh hi lo st) (FP.dadd hi st))
open Jvm.Free.Fl (NoNaN64)
def own_okS (hi lo st : UInt64) : Prop :=
  NoNaN64 (FP.dadd hi st) ∧ NoNaN64 (FP.dsub (FP.dadd hi st) hi) ∧ NoNaN64 (FP.dsub (FP.dadd hi st) (FP.dsub (FP.dadd hi st) hi)) ∧ NoNaN64 (FP.dsub hi (FP.dsub (FP.dadd hi st) (FP.dsub (FP.dadd hi st) hi))) ∧ NoNaN64 (FP.dsub st (FP.dsub (FP.dadd hi st) hi)) ∧
  NoNaN64 (FP.dadd (FP.dsub hi (FP.dsub (FP.dadd hi st) (FP.dsub (FP.dadd hi st) hi))) (FP.dsub st (FP.dsub (FP.dadd hi st) hi))) ∧ NoNaN64 (own_d7 hi lo st) ∧ NoNaN64 (own_nh hi lo st) ∧ NoNaN64 (FP.dsub (own_nh hi lo st) (FP.dadd hi st)) ∧ NoNaN64 (own_nl hi lo st)
theorem own_step (H L J : Int) (hi lo st : UInt64) (hH : DInt H hi) (hL : DInt L lo) (hJ : DInt J st) (bH : H.natAbs ≤ 4611686018427387904 + 17179869184) (bL : L.natAbs ≤ 4096) (bJ : J.natAbs ≤ 2147483648) :
    own_okS hi lo st ∧ ∃ R : Int, DInt R (own_nh hi lo st) ∧ DInt (H + L + J - R) (own_nl hi lo st) ∧ R - (H + L + J) ≤ 2048 ∧ (H + L + J) - R ≤ 2048 ∧ (∀ d, Whole (H + L + J) d → Whole R (round b64 d)) := by
  obtain ⟨v, hv, a1, a2, -⟩ := own_rn (H + J) (by omega)
  have D1 : DInt v (FP.dadd hi st) := by unfold DInt; rw [val64_dadd]; exact hv _ (whole_sum hH hJ)
  have D2 : DInt (v - H) (FP.dsub (FP.dadd hi st) hi) := dsub_int D1 hH (by omega)
  have D3 : DInt H (FP.dsub (FP.dadd hi st) (FP.dsub (FP.dadd hi st) hi)) := by
    unfold DInt; rw [val64_dsub]
    have := whole_sum D1 (whole_negate D2)
    rw [show v + -(v - H) = H by omega] at this
    exact own_repr hH this
  have D4 : DInt 0 (FP.dsub hi (FP.dsub (FP.dadd hi st) (FP.dsub (FP.dadd hi st) hi))) := by
    have := dsub_int hH D3 (by omega)
    rw [show H - H = 0 by omega] at this; exact this
  have D5 : DInt (J - (v - H)) (FP.dsub st (FP.dsub (FP.dadd hi st) hi)) := dsub_int hJ D2 (by omega)
  have D6 : DInt (0 + (J - (v - H))) _ := dadd_int D4 D5 (by omega)
  have D7 : DInt (0 + (J - (v - H)) + L) (own_d7 hi lo st) := dadd_int D6 hL (by omega)
  obtain ⟨R, hR, b1, b2, -⟩ := own_rn (H + L + J) (by omega)
  have D8 : DInt R (own_nh hi lo st) := by
    unfold DInt own_nh; rw [val64_dadd]
    have := whole_sum D1 D7
    rw [show v + (0 + (J - (v - H)) + L) = H + L + J by omega] at this
    exact hR _ this
  have D9 : DInt (R - v) (FP.dsub (own_nh hi lo st) (FP.dadd hi st)) := dsub_int D8 D1 (by omega)
  have D10 : DInt (0 + (J - (v - H)) + L - (R - v)) (own_nl hi lo st) := dsub_int D7 D9 (by omega)
  rw [show 0 + (J - (v - H)) + L - (R - v) = H + L + J - R by omega] at D10
  exact ⟨⟨own_nn D1, own_nn D2, own_nn D3, own_nn D4, own_nn D5, own_nn D6, own_nn D7, own_nn D8, own_nn D9, own_nn D10⟩, R, D8, D10, b1, b2, hR⟩
theorem own_cmp_eq {i : Int} {x y : UInt64} (hx : DInt i x) (hy : DInt i y) : cmpValue (FP.dcmp x y) .l = 0 := by
  rw [show FP.dcmp x y = some (compare i i) from dcmp_int hx hy]
  simp [compare, compareOfLessAndEq, cmpValue]
theorem own_pin {E R : Int} {q : Int64} {x y : UInt64} (hq : q.toInt = E) (bE : E.natAbs ≤ 4611686018427387904 + 8589934592) (hx : DInt R x) (hy : DInt (E - R) y) (b1 : R - E ≤ 2048) (b2 : E - R ≤ 2048) (hR : ∀ d, Whole E d → Whole R (round b64 d)) :
    cmpValue (FP.dcmp x (FP.l2d q)) .l = 0 ∧ cmpValue (FP.dcmp y (FP.l2d (q - FP.d2l x))) .l = 0 := by
  have h1 : DInt R (FP.l2d q) := by unfold DInt; rw [val64_l2d, hq]; exact hR _ (whole_ofInt _)
  refine ⟨own_cmp_eq hx h1, ?_⟩
  have hr : (Int64.ofInt R).toInt = R := Int64.toInt_ofInt_of_le (by omega) (by omega)
  have h2 : FP.d2l x = Int64.ofInt R := d2l_int (by rw [hr]; exact hx)
  have h3 : (q - Int64.ofInt R).toInt = E - R := by
    rw [Int64.toInt_sub, hr, hq]; exact Int.bmod_eq_of_le (by omega) (by omega)
  rw [h2]
  refine own_cmp_eq hy ?_
  rw [← h3]
  exact l2d_int (by rw [h3]; omega)
theorem own_base (p1 p2 : Int32) (bs : Int64) (q : bs = (p1.toInt64 <<< ((p2 &&& (31 : Int32)) &&& 0x3f).toInt64)) : DInt bs.toInt (FP.l2d bs) ∧ bs.toInt.natAbs ≤ 4611686018427387904 := by
  have a1 := c_mask p2 31 5 (by decide) (by decide)
  have e5 : ((2 ^ 5 : Nat) : Int) = 32 := by decide
  rw [e5] at a1
  obtain ⟨k, hk⟩ : ∃ k : Nat, (p2 &&& 31).toBitVec.toNat % 64 = k := ⟨_, rfl⟩
  have hk2 : k < 32 := by
    have h1 : (p2 &&& 31).toInt = (p2 &&& 31).toBitVec.toInt := rfl
    have h2 := BitVec.toInt_eq_toNat_cond (p2 &&& 31).toBitVec
    rw [h1] at a1
    have := (p2 &&& 31).toBitVec.isLt
    split at h2 <;> omega
  have a2 := c_lshl p1.toInt64 (p2 &&& 31) k hk
  have a3 := c_i2l p1
  have r1 := rng32 p1
  rw [a3, ← q] at a2
  have r2 := rng64 bs
  have hp : 0 < 2 ^ k := Nat.two_pow_pos k
  have hp2 : 2 ^ k ≤ 2147483648 := by
    have : (2 : Nat) ^ k ≤ 2 ^ 31 := Nat.pow_le_pow_right (by decide) (by omega)
    simpa using this
  have hb1 : (p1.toInt * ((2 ^ k : Nat) : Int)).natAbs ≤ 2147483648 * 2147483648 := by
    rw [Int.natAbs_mul, Int.natAbs_natCast]
    exact Nat.mul_le_mul (by omega) hp2
  have e : bs.toInt = p1.toInt * ((2 ^ k : Nat) : Int) := by
    generalize p1.toInt * ((2 ^ k : Nat) : Int) = z at *
    omega
  refine ⟨?_, by rw [e]; omega⟩
  unfold DInt
  rw [val64_l2d, e]
  exact own_shift p1.toInt k (by omega) (by omega) _ (whole_ofInt _)
theorem own_law (p1 p2 p3 p4 : Int32) (bs : Int64) (q : bs = (p1.toInt64 <<< ((p2 &&& (31 : Int32)) &&& 0x3f).toInt64)) :
    own_okS (FP.l2d bs) 0 (FP.i2d p3) ∧ own_okS (own_nh (FP.l2d bs) 0 (FP.i2d p3)) (own_nl (FP.l2d bs) 0 (FP.i2d p3)) (FP.i2d p4) ∧
    cmpValue (FP.dcmp (own_nh (FP.l2d bs) 0 (FP.i2d p3)) (FP.l2d (bs + p3.toInt64))) .l = 0 ∧ cmpValue (FP.dcmp (own_nl (FP.l2d bs) 0 (FP.i2d p3)) (FP.l2d ((bs + p3.toInt64) - FP.d2l (own_nh (FP.l2d bs) 0 (FP.i2d p3))))) .l = 0 ∧
    cmpValue (FP.dcmp (own_nh (own_nh (FP.l2d bs) 0 (FP.i2d p3)) (own_nl (FP.l2d bs) 0 (FP.i2d p3)) (FP.i2d p4)) (FP.l2d ((bs + p3.toInt64) + p4.toInt64))) .l = 0 ∧
    cmpValue (FP.dcmp (own_nl (own_nh (FP.l2d bs) 0 (FP.i2d p3)) (own_nl (FP.l2d bs) 0 (FP.i2d p3)) (FP.i2d p4)) (FP.l2d (((bs + p3.toInt64) + p4.toInt64) - FP.d2l (own_nh (own_nh (FP.l2d bs) 0 (FP.i2d p3)) (own_nl (FP.l2d bs) 0 (FP.i2d p3)) (FP.i2d p4))))) .l = 0 := by
  obtain ⟨DB, bB⟩ := own_base p1 p2 bs q
  have r3 := rng32 p3; have r4 := rng32 p4
  have D0 : DInt 0 (0 : UInt64) := by
    have : DInt (0 : Int64).toInt (FP.l2d 0) := l2d_int (by decide)
    rw [RoadKit.l2d_zero] at this; exact this
  obtain ⟨s1, R, h1, h2, b1, b2, hR⟩ := own_step bs.toInt 0 p3.toInt _ 0 _ DB D0 (i2d_int p3) (by omega) (by omega) (by omega)
  rw [show bs.toInt + 0 + p3.toInt = bs.toInt + p3.toInt by omega] at h2 b1 b2 hR
  have e1 : (bs + p3.toInt64).toInt = bs.toInt + p3.toInt := by
    rw [Int64.toInt_add, c_i2l]; exact Int.bmod_eq_of_le (by omega) (by omega)
  obtain ⟨u1, u2⟩ := own_pin e1 (by omega) h1 h2 b1 b2 hR
  obtain ⟨s2, R2, g1, g2, c1, c2, hR2⟩ := own_step R (bs.toInt + p3.toInt - R) p4.toInt _ _ _ h1 h2 (i2d_int p4) (by omega) (by omega) (by omega)
  rw [show R + (bs.toInt + p3.toInt - R) + p4.toInt = bs.toInt + p3.toInt + p4.toInt by omega] at g2 c1 c2 hR2
  have e2 : ((bs + p3.toInt64) + p4.toInt64).toInt = bs.toInt + p3.toInt + p4.toInt := by
    rw [Int64.toInt_add, c_i2l, e1]; exact Int.bmod_eq_of_le (by omega) (by omega)
  obtain ⟨v1, v2⟩ := own_pin e2 (by omega) g1 g2 c1 c2 hR2
  exact ⟨s1, s2, u1, u2, v1, v2⟩
end OwnFP
def own_PV (Z : State) (h : Heap) (a ha : Addr) (hk : ClassId) (la : Addr) (lk : ClassId) (n : Int32) (N : Nat) (hs ls : List UInt64) : Prop :=
  Exa Z h a "com/example/pincer/pincer/engine/PreciseValues" ∧ Fld Z h a "com/example/pincer/pincer/engine/PreciseValues" "highs" "[D" (.ref ha) ∧ Fld Z h a "com/example/pincer/pincer/engine/PreciseValues" "lows" "[D" (.ref la) ∧ own_LD Z h ha hk n hs ∧ own_LD Z h la lk n ls ∧ a ≠ ha ∧ a ≠ la ∧ ha ≠ la ∧ hs.length = N ∧ ls.length = N
theorem own_PV.keep {Z : State} {h h' : Heap} {a ha : Addr} {hk : ClassId} {la : Addr} {lk : ClassId} {n : Int32} {N : Nat} {hs ls : List UInt64} {ws : List Addr} (M : own_PV Z h a ha hk la lk n N hs ls) (K : Keep h h' ws) (q1 : a ∉ ws) (q2 : ha ∉ ws) (q3 : la ∉ ws) : own_PV Z h' a ha hk la lk n N hs ls :=
  ⟨M.1.keep K, M.2.1.keep K q1, M.2.2.1.keep K q1, M.2.2.2.1.keep K q2, M.2.2.2.2.1.keep K q3, M.2.2.2.2.2⟩
theorem d2_0 : decode prog_107_method_1_code 0 = .ok (.aload_n 0, 1) := by decide +kernel
theorem d2_1 : decode prog_107_method_1_code 1 = .ok (.invokespecial 1, 3) := by decide +kernel
theorem d2_4 : decode prog_107_method_1_code 4 = .ok (.aload_n 0, 1) := by decide +kernel
theorem d2_5 : decode prog_107_method_1_code 5 = .ok (.aload_n 1, 1) := by decide +kernel
theorem d2_6 : decode prog_107_method_1_code 6 = .ok (.putfield 7, 3) := by decide +kernel
theorem d2_9 : decode prog_107_method_1_code 9 = .ok (.aload_n 0, 1) := by decide +kernel
theorem d2_10 : decode prog_107_method_1_code 10 = .ok (.aload_n 2, 1) := by decide +kernel
theorem d2_11 : decode prog_107_method_1_code 11 = .ok (.putfield 13, 3) := by decide +kernel
theorem d2_14 : decode prog_107_method_1_code 14 = .ok (.return_, 1) := by decide +kernel
theorem pn_2 : plainName "com/example/pincer/pincer/engine/PreciseValues" = true := by first | (simp [plainName, overriddenIn]; done) | decide +kernel
theorem ef_rm2 (m : MethodId) (x0 : Addr) (x1 : Addr) (x2 : Addr) : entryFrame m #[(.ref x0), (.ref x1), (.ref x2)] 3 = mkF m 0 #[.val (.ref x0), .val (.ref x1), .val (.ref x2)] [] := by first | (simp [entryFrame, mkF, argsToLocals, Value.category]; done) | rfl
def Q_rm2 (Z : State) (a x y : Addr) (h0 : Heap) (n0 : Nat) (v : Option Value) (h : Heap) (L : List Loc) : Prop := v = none ∧ Fr n0 L ∧ Keep h0 h [a] ∧ Exa Z h a "com/example/pincer/pincer/engine/PreciseValues" ∧ Fld Z h a "com/example/pincer/pincer/engine/PreciseValues" "highs" "[D" (.ref x) ∧ Fld Z h a "com/example/pincer/pincer/engine/PreciseValues" "lows" "[D" (.ref y)
set_option maxRecDepth 65536 in
set_option maxHeartbeats 40000000 in
theorem rm2 (l : Launch) (Z : State) (a0 : Array Value) (hw : ∀ d ∈ tables_1, d.before a0 Z = true) (ws : List Jvm.Cond) (a : Addr) (x : Addr) (y : Addr)  (h0 : Heap) (n0 : Nat) (Z0 : n0 ≤ h0.size) (F_h : Fld Z h0 a "com/example/pincer/pincer/engine/PreciseValues" "highs" "[D" .null) (F_l : Fld Z h0 a "com/example/pincer/pincer/engine/PreciseValues" "lows" "[D" .null) (E_a : Exa Z h0 a "com/example/pincer/pincer/engine/PreciseValues") (g_a : n0 ≤ a) :
    MetFree l (⟨"com/example/pincer/pincer/engine/PreciseValues", "<init>", "([D[D)V"⟩ : MethodName) (head1 (Jvm.Cond.code (⟨"com/example/pincer/pincer/engine/PreciseValues", "<init>", "([D[D)V"⟩ : MethodName) prog_107_method_1_code 3 none :: ws) ({ frames := 1, cells := 0, slots := 0, locals := 12 } : Room)) (fun args_ U => args_ = #[(.ref a), (.ref x), (.ref y)] ∧ Z.Warmed39 U.vm ∧ U.heap = h0) (fun _ _ _ _ _ => True) (fun _ U o U' => ∃ v L, o = .returned v ∧ Q_rm2 Z a x y h0 n0 v U'.heap L ∧ FrameEnd U o U' L (({ frames := 1, cells := 0, slots := 0, locals := 12 } : Room)).cells (({ frames := 1, cells := 0, slots := 0, locals := 12 } : Room)).slots) := by
  refine MetFree.of_bodySF (plainFor_of_name pn_2) hisR ?_
  intro p e s m args below meth c s₁ Bd hml0 hP hK
  obtain ⟨rfl, hZ, hh⟩ := hP
  have hx := Bd.exec
  have hby := Bd.bytes
  have hml : c.maxLocals = 3 := hml0
  have hown : s.vm.findClass "com/example/pincer/pincer/engine/PreciseValues" = some m.cls := findClass_of_methodNamed Bd.named
  have hnm := (name_of_methodNamed Bd.named Bd.method).1
  have X0 : Stand p l e ({ frames := 1, cells := 0, slots := 0, locals := 12 } : Room) s m #[(.ref a), (.ref x), (.ref y)] below meth c s₁ [] 0 0 := Stand.of_body Bd
  have e0 : s₁.heap = h0 := by rw [← hh, Bd.state]; rfl
  have N0 := Fr.nil n0
  have g0 : own_Go p e below s₁ (entryFrame m #[(.ref a), (.ref x), (.ref y)] 3) s₁ (mkF m 0 #[.val (.ref a), .val (.ref x), .val (.ref y)] []) := fun t k => castTop (ef_rm2 m a x y) k
  have K0 : Keep h0 h0 [a] := Keep.refl h0 _
  have g1 : own_Go p e below s₁ (entryFrame m #[(.ref a), (.ref x), (.ref y)] 3) s₁ (mkF m 1 #[.val (.ref a), .val (.ref x), .val (.ref y)] [(.ref a)]) := fun t kt => g0 t (by
    show Steps p.tables e below (s₁.setTop (mkF m 0 #[.val (.ref a), .val (.ref x), .val (.ref y)] [])) _
    refine XS.aloadN X0.here hx rfl (hb hby d2_0) rfl rfl ?_
    exact kt)
  obtain ⟨T2, X2, e2, st2⟩ := initO X0 hx hZ hown (hw _ (List.mem_of_getElem? (i := 10) rfl)) (hw _ (List.mem_of_getElem? (i := 11) rfl)) (hw _ (List.mem_of_getElem? (i := 12) rfl)) e0 (g := (mkF m 1 #[.val (.ref a), .val (.ref x), .val (.ref y)] [(.ref a)])) rfl (by rw [hml]; rfl) rfl (hb hby d2_1) (by decide) (W := 0) (by show 2 * 0 + _ ≤ _; exact Nat.le_of_eq rfl) (by decide)
  have g2 : own_Go p e below s₁ (entryFrame m #[(.ref a), (.ref x), (.ref y)] 3) T2 (mkF m 4 #[.val (.ref a), .val (.ref x), .val (.ref y)] []) := fun t kt => g1 t (st2 _ kt)
  have g3 : own_Go p e below s₁ (entryFrame m #[(.ref a), (.ref x), (.ref y)] 3) T2 (mkF m 6 #[.val (.ref a), .val (.ref x), .val (.ref y)] [(.ref x), (.ref a)]) := fun t kt => g2 t (by
    show Steps p.tables e below (T2.setTop (mkF m 4 #[.val (.ref a), .val (.ref x), .val (.ref y)] [])) _
    refine XS.aloadN X2.here hx rfl (hb hby d2_4) rfl rfl ?_
    show Steps p.tables e below (T2.setTop (mkF m 5 #[.val (.ref a), .val (.ref x), .val (.ref y)] [(.ref a)])) _
    refine XS.aloadN X2.here hx rfl (hb hby d2_5) rfl rfl ?_
    exact kt)
  obtain ⟨T4, h4, X4, e4, W4, st4⟩ := putF X2 hx hZ hown (host := "") (Or.inl (hw _ (List.mem_of_getElem? (i := 13) rfl))) Via.refl e2 F_h E_a (Or.inr ⟨(hw _ (List.mem_of_getElem? (i := 14) rfl)), rfl, hnm⟩) (hw _ (List.mem_of_getElem? (i := 1) rfl)) (ty := (.array .double)) (by decide) rfl rfl (g := (mkF m 6 #[.val (.ref a), .val (.ref x), .val (.ref y)] [(.ref x), (.ref a)])) rfl rfl (hb hby d2_6)
  have f5 := E_a.wr W4
  have f7 := F_l.other W4 (Or.inr (slot_ne (Or.inr (hw _ (List.mem_of_getElem? (i := 16) rfl))) (Or.inr (hw _ (List.mem_of_getElem? (i := 14) rfl))) (by decide) (t := (.array .double)) (t' := (.array .double)) (by decide) (by decide)))
  have f4w := F_h.same W4
  have N4 := Fr.snoc X4 N0 g_a
  have K4 : Keep h0 h4 [a] := K0.wr W4 (Or.inl (List.mem_of_getElem? (i := 0) rfl))
  have g4 : own_Go p e below s₁ (entryFrame m #[(.ref a), (.ref x), (.ref y)] 3) T4 (mkF m 9 #[.val (.ref a), .val (.ref x), .val (.ref y)] []) := fun t kt => g3 t (st4 _ kt)
  have g8 : own_Go p e below s₁ (entryFrame m #[(.ref a), (.ref x), (.ref y)] 3) T4 (mkF m 11 #[.val (.ref a), .val (.ref x), .val (.ref y)] [(.ref y), (.ref a)]) := fun t kt => g4 t (by
    show Steps p.tables e below (T4.setTop (mkF m 9 #[.val (.ref a), .val (.ref x), .val (.ref y)] [])) _
    refine XS.aloadN X4.here hx rfl (hb hby d2_9) rfl rfl ?_
    show Steps p.tables e below (T4.setTop (mkF m 10 #[.val (.ref a), .val (.ref x), .val (.ref y)] [(.ref a)])) _
    refine XS.aloadN X4.here hx rfl (hb hby d2_10) rfl rfl ?_
    exact kt)
  obtain ⟨T9, h9, X9, e9, W9, st9⟩ := putF X4 hx hZ hown (host := "") (Or.inl (hw _ (List.mem_of_getElem? (i := 15) rfl))) Via.refl e4 f7 f5 (Or.inr ⟨(hw _ (List.mem_of_getElem? (i := 16) rfl)), rfl, hnm⟩) (hw _ (List.mem_of_getElem? (i := 1) rfl)) (ty := (.array .double)) (by decide) rfl rfl (g := (mkF m 11 #[.val (.ref a), .val (.ref x), .val (.ref y)] [(.ref y), (.ref a)])) rfl rfl (hb hby d2_11)
  have f10 := f5.wr W9
  have f11 := f4w.other W9 (Or.inr (slot_ne (Or.inr (hw _ (List.mem_of_getElem? (i := 14) rfl))) (Or.inr (hw _ (List.mem_of_getElem? (i := 16) rfl))) (by decide) (t := (.array .double)) (t' := (.array .double)) (by decide) (by decide)))
  have f9w := f7.same W9
  have N9 := Fr.snoc X9 N4 g_a
  have K9 : Keep h0 h9 [a] := K4.wr W9 (Or.inl (List.mem_of_getElem? (i := 0) rfl))
  have g9 : own_Go p e below s₁ (entryFrame m #[(.ref a), (.ref x), (.ref y)] 3) T9 (mkF m 14 #[.val (.ref a), .val (.ref x), .val (.ref y)] []) := fun t kt => g8 t (st9 _ kt)
  obtain ⟨fs, hr, hrun, hended, hW, hsame⟩ := X9.leave (v := none) (fun _ => rfl)
  refine ⟨_, _, g9 _ (X9.returnOut hx Bd.returns (hb hby d2_14) hr), hrun, hended, _, _, rfl, ?_, ⟨_, rfl⟩, hW, hsame.mono (by decide) (by decide)⟩
  show Q_rm2 Z a x y h0 n0 _ T9.heap _
  rw [e9]
  exact ⟨rfl, N9, K9, f10, f11, f9w⟩
theorem d1_0 : decode prog_107_method_2_code 0 = .ok (.aload_n 0, 1) := by decide +kernel
theorem d1_1 : decode prog_107_method_2_code 1 = .ok (.iload_n 1, 1) := by decide +kernel
theorem d1_2 : decode prog_107_method_2_code 2 = .ok (.newarray .double, 2) := by decide +kernel
theorem d1_4 : decode prog_107_method_2_code 4 = .ok (.iload_n 1, 1) := by decide +kernel
theorem d1_5 : decode prog_107_method_2_code 5 = .ok (.newarray .double, 2) := by decide +kernel
theorem d1_7 : decode prog_107_method_2_code 7 = .ok (.invokespecial 16, 3) := by decide +kernel
theorem d1_10 : decode prog_107_method_2_code 10 = .ok (.return_, 1) := by decide +kernel
theorem pn_1 : plainName "com/example/pincer/pincer/engine/PreciseValues" = true := by first | (simp [plainName, overriddenIn]; done) | decide +kernel
theorem pd_0 : parseMethodDescriptor "([D[D)V" = some ⟨[(.array .double), (.array .double)], none⟩ := by decide +kernel
theorem ef_rm1 (m : MethodId) (x0 : Addr) (x1 : Int32) : entryFrame m #[(.ref x0), (.int x1)] 2 = mkF m 0 #[.val (.ref x0), .val (.int x1)] [] := by first | (simp [entryFrame, mkF, argsToLocals, Value.category]; done) | rfl
def Q_rm1 (Z : State) (a : Addr) (n : Int32) (N : Nat) (h0 : Heap) (n0 : Nat) (v : Option Value) (h : Heap) (L : List Loc) : Prop := v = none ∧ Fr n0 L ∧ Keep h0 h [a] ∧ ∃ (ha : Addr) (hk : ClassId) (la : Addr) (lk : ClassId), h0.size ≤ ha ∧ h0.size ≤ la ∧ own_PV Z h a ha hk la lk n N (List.replicate N 0) (List.replicate N 0)
set_option maxRecDepth 65536 in
set_option maxHeartbeats 40000000 in
theorem rm1 (l : Launch) (Z : State) (a0 : Array Value) (hw : ∀ d ∈ tables_1, d.before a0 Z = true) (ws : List Jvm.Cond) (a : Addr) (n : Int32) (N : Nat) (h0 : Heap) (n0 : Nat) (Z0 : n0 ≤ h0.size) (hn : ¬ n < 0) (hN : n.toNatClampNeg = N) (hN2 : N ≤ 2) (F_h : Fld Z h0 a "com/example/pincer/pincer/engine/PreciseValues" "highs" "[D" .null) (F_l : Fld Z h0 a "com/example/pincer/pincer/engine/PreciseValues" "lows" "[D" .null) (E_a : Exa Z h0 a "com/example/pincer/pincer/engine/PreciseValues") (g_a : n0 ≤ a) :
    MetFree l (⟨"com/example/pincer/pincer/engine/PreciseValues", "<init>", "(I)V"⟩ : MethodName) (head1 (Jvm.Cond.code (⟨"com/example/pincer/pincer/engine/PreciseValues", "<init>", "(I)V"⟩ : MethodName) prog_107_method_2_code 2 none :: ws) ({ frames := 2, cells := 2, slots := 4, locals := 26 } : Room)) (fun args_ U => args_ = #[(.ref a), (.int n)] ∧ Z.Warmed39 U.vm ∧ U.heap = h0) (fun _ _ _ _ _ => True) (fun _ U o U' => ∃ v L, o = .returned v ∧ Q_rm1 Z a n N h0 n0 v U'.heap L ∧ FrameEnd U o U' L (({ frames := 2, cells := 2, slots := 4, locals := 26 } : Room)).cells (({ frames := 2, cells := 2, slots := 4, locals := 26 } : Room)).slots) := by
  refine MetFree.of_bodySF (plainFor_of_name pn_1) hisR ?_
  intro p e s m args below meth c s₁ Bd hml0 hP hK
  obtain ⟨rfl, hZ, hh⟩ := hP
  have hx := Bd.exec
  have hby := Bd.bytes
  have hml : c.maxLocals = 2 := hml0
  have hown : s.vm.findClass "com/example/pincer/pincer/engine/PreciseValues" = some m.cls := findClass_of_methodNamed Bd.named
  have hnm := (name_of_methodNamed Bd.named Bd.method).1
  have X0 : Stand p l e ({ frames := 2, cells := 2, slots := 4, locals := 26 } : Room) s m #[(.ref a), (.int n)] below meth c s₁ [] 0 0 := Stand.of_body Bd
  have e0 : s₁.heap = h0 := by rw [← hh, Bd.state]; rfl
  have N0 := Fr.nil n0
  have g0 : own_Go p e below s₁ (entryFrame m #[(.ref a), (.int n)] 2) s₁ (mkF m 0 #[.val (.ref a), .val (.int n)] []) := fun t k => castTop (ef_rm1 m a n) k
  have K0 : Keep h0 h0 [a] := Keep.refl h0 _
  have g1 : own_Go p e below s₁ (entryFrame m #[(.ref a), (.int n)] 2) s₁ (mkF m 2 #[.val (.ref a), .val (.int n)] [(.int n), (.ref a)]) := fun t kt => g0 t (by
    show Steps p.tables e below (s₁.setTop (mkF m 0 #[.val (.ref a), .val (.int n)] [])) _
    refine XS.aloadN X0.here hx rfl (hb hby d1_0) rfl rfl ?_
    show Steps p.tables e below (s₁.setTop (mkF m 1 #[.val (.ref a), .val (.int n)] [(.ref a)])) _
    refine XS.iloadN X0.here hx rfl (hb hby d1_1) rfl ?_
    exact kt)
  obtain ⟨T2, h2, k_ha, X2, e2, E2, A2, st2⟩ := newP X0 hx hZ (hw _ (List.mem_of_getElem? (i := 6) rfl)) e0 (g := (mkF m 2 #[.val (.ref a), .val (.int n)] [(.int n), (.ref a)])) rfl (hb hby d1_2) rfl hn (cap := 2) (by omega) (by decide) (by decide) (by decide)
  obtain ⟨ha, q_ha⟩ : ∃ z, z = h0.size := ⟨_, rfl⟩
  rw [← q_ha] at A2 st2
  have ne_a_ha : a ≠ ha := Nat.ne_of_lt (Nat.lt_of_lt_of_le E_a.lt (Nat.le_of_eq q_ha.symm))
  have sz_ha : h0.size ≤ ha := Nat.le_trans K0.1 (Nat.le_of_eq q_ha.symm)
  have g_ha : n0 ≤ ha := Nat.le_trans Z0 sz_ha
  have f3 := E_a.ext E2
  have f4 := F_h.ext E2
  have f5 := F_l.ext E2
  have V2 := own_newD A2 hn N hN
  have K2 : Keep h0 h2 [a] := K0.ext E2
  have g2 : own_Go p e below s₁ (entryFrame m #[(.ref a), (.int n)] 2) T2 (mkF m 4 #[.val (.ref a), .val (.int n)] [(.ref ha), (.ref a)]) := fun t kt => g1 t (st2 _ kt)
  have g6 : own_Go p e below s₁ (entryFrame m #[(.ref a), (.int n)] 2) T2 (mkF m 5 #[.val (.ref a), .val (.int n)] [(.int n), (.ref ha), (.ref a)]) := fun t kt => g2 t (by
    show Steps p.tables e below (T2.setTop (mkF m 4 #[.val (.ref a), .val (.int n)] [(.ref ha), (.ref a)])) _
    refine XS.iloadN X2.here hx rfl (hb hby d1_4) rfl ?_
    exact kt)
  obtain ⟨T7, h7, k_la, X7, e7, E7, A7, st7⟩ := newP X2 hx hZ (hw _ (List.mem_of_getElem? (i := 6) rfl)) e2 (g := (mkF m 5 #[.val (.ref a), .val (.int n)] [(.int n), (.ref ha), (.ref a)])) rfl (hb hby d1_5) rfl hn (cap := 2) (by omega) (by decide) (by decide) (by decide)
  obtain ⟨la, q_la⟩ : ∃ z, z = h2.size := ⟨_, rfl⟩
  rw [← q_la] at A7 st7
  have ne_a_la : a ≠ la := Nat.ne_of_lt (Nat.lt_of_lt_of_le f3.lt (Nat.le_of_eq q_la.symm))
  have ne_ha_la : ha ≠ la := Nat.ne_of_lt (Nat.lt_of_lt_of_le V2.lt (Nat.le_of_eq q_la.symm))
  have sz_la : h0.size ≤ la := Nat.le_trans K2.1 (Nat.le_of_eq q_la.symm)
  have g_la : n0 ≤ la := Nat.le_trans Z0 sz_la
  have f8 := f3.ext E7
  have f9 := f4.ext E7
  have f10 := f5.ext E7
  have f11 := V2.ext E7
  have V7 := own_newD A7 hn N hN
  have K7 : Keep h0 h7 [a] := K2.ext E7
  have g7 : own_Go p e below s₁ (entryFrame m #[(.ref a), (.int n)] 2) T7 (mkF m 7 #[.val (.ref a), .val (.int n)] [(.ref la), (.ref ha), (.ref a)]) := fun t kt => g6 t (st7 _ kt)
  obtain ⟨_, _, ⟨T12, L12, k12, n12⟩, -, X12, ⟨Lc12, hQ12, l12, y12, z12⟩, st12⟩ := X7.specialBack hx (y := (⟨"com/example/pincer/pincer/engine/PreciseValues", "<init>", "([D[D)V"⟩ : MethodName)) rfl hown (mvT hZ (hw _ (List.mem_of_getElem? (i := 7) rfl))) (mvT hZ (hw _ (List.mem_of_getElem? (i := 8) rfl))) (mvT hZ (hw _ (List.mem_of_getElem? (i := 9) rfl))) (by decide) (backOf (W := 0) (rm2 l Z a0 hw [] a ha la h7 n0 (Nat.le_trans Z0 K7.1) f9 f10 f8 g_a) hZ (hw _ (List.mem_of_getElem? (i := 9) rfl)) (hw _ (List.mem_of_getElem? (i := 2) rfl)) (by decide) (by decide)) (g := (mkF m 7 #[.val (.ref a), .val (.int n)] [(.ref la), (.ref ha), (.ref a)])) rfl (by rw [hml]; rfl) (Steps.refl _) (a := a) (argsL := [(.ref ha), (.ref la)]) (rest := []) (lenOf pd_0 rfl) rfl (by show 2 * 0 + _ ≤ _; exact Nat.le_of_eq rfl) (hb hby d1_7) (fun _ _ => ⟨rfl, e7, (by decide : 2 + 0 ≤ _), (by decide : 4 + 0 ≤ _)⟩)
  dsimp only [Pt.U, Pt.locs, Pt.cells, Pt.slots] at X12 l12 y12 z12 st12 hQ12
  subst l12 y12 z12
  obtain ⟨rfl, N12q, Kc12, Ex12, Fa12, Fb12⟩ := hQ12
  have N12 := Fr.app N0 N12q
  have g12 : own_Go p e below s₁ (entryFrame m #[(.ref a), (.int n)] 2) T12 (mkF m 10 #[.val (.ref a), .val (.int n)] []) := fun t kt => g7 t (st12.trans kt)
  have f13 := f8.keep Kc12
  have f16 := f11.keep Kc12 (ninS (Ne.symm ne_a_ha) nin0)
  have f17 := V7.keep Kc12 (ninS (Ne.symm ne_a_la) nin0)
  have KK12 : Keep h0 T12.heap [a] := K7.trans Kc12 (allS (Or.inl (List.mem_of_getElem? (i := 0) rfl)) all0)
  obtain ⟨fs, hr, hrun, hended, hW, hsame⟩ := X12.leave (v := none) (fun _ => rfl)
  refine ⟨_, _, g12 _ (X12.returnOut hx Bd.returns (hb hby d1_10) hr), hrun, hended, _, _, rfl, ?_, ⟨_, rfl⟩, hW, hsame.mono (by decide) (by decide)⟩
  show Q_rm1 Z a n N h0 n0 _ T12.heap _
  exact ⟨rfl, N12, KK12, ha, k_ha, la, k_la, sz_ha, sz_la, Ex12, Fa12, Fb12, f16, f17, ne_a_ha, ne_a_la, ne_ha_la, by simp, by simp⟩
theorem d4_0 : decode prog_107_method_8_code 0 = .ok (.aload_n 0, 1) := by decide +kernel
theorem d4_1 : decode prog_107_method_8_code 1 = .ok (.getfield 7, 3) := by decide +kernel
theorem d4_4 : decode prog_107_method_8_code 4 = .ok (.iload_n 1, 1) := by decide +kernel
theorem d4_5 : decode prog_107_method_8_code 5 = .ok (.dload_n 2, 1) := by decide +kernel
theorem d4_6 : decode prog_107_method_8_code 6 = .ok (.dastore, 1) := by decide +kernel
theorem d4_7 : decode prog_107_method_8_code 7 = .ok (.aload_n 0, 1) := by decide +kernel
theorem d4_8 : decode prog_107_method_8_code 8 = .ok (.getfield 13, 3) := by decide +kernel
theorem d4_11 : decode prog_107_method_8_code 11 = .ok (.iload_n 1, 1) := by decide +kernel
theorem d4_12 : decode prog_107_method_8_code 12 = .ok (.dconst 0, 1) := by decide +kernel
theorem d4_13 : decode prog_107_method_8_code 13 = .ok (.dastore, 1) := by decide +kernel
theorem d4_14 : decode prog_107_method_8_code 14 = .ok (.return_, 1) := by decide +kernel
theorem pn_4 : plainName "com/example/pincer/pincer/engine/PreciseValues" = true := by first | (simp [plainName, overriddenIn]; done) | decide +kernel
theorem ef_rm4 (m : MethodId) (x0 : Addr) (x1 : Int32) (x2 : UInt64) : entryFrame m #[(.ref x0), (.int x1), (.double x2)] 4 = mkF m 0 #[.val (.ref x0), .val (.int x1), .val (.double x2), .second] [] := by first | (simp [entryFrame, mkF, argsToLocals, Value.category]; done) | rfl
def Q_rm4 (Z : State) (a : Addr) (i : Int32) (x : UInt64) (ha : Addr) (hk : ClassId) (la : Addr) (lk : ClassId) (n : Int32) (N : Nat) (hs ls : List UInt64) (ix : Nat) (h0 : Heap) (n0 : Nat) (v : Option Value) (h : Heap) (L : List Loc) : Prop := v = none ∧ Fr n0 L ∧ Keep h0 h [ha, la] ∧ own_PV Z h a ha hk la lk n N (hs.set ix x) (ls.set ix 0)
set_option maxRecDepth 65536 in
set_option maxHeartbeats 40000000 in
theorem rm4 (l : Launch) (Z : State) (a0 : Array Value) (hw : ∀ d ∈ tables_1, d.before a0 Z = true) (ws : List Jvm.Cond) (a : Addr) (i : Int32) (x : UInt64) (ha : Addr) (hk : ClassId) (la : Addr) (lk : ClassId) (n : Int32) (N : Nat) (hs ls : List UInt64) (ix : Nat) (h0 : Heap) (n0 : Nat) (Z0 : n0 ≤ h0.size) (M : own_PV Z h0 a ha hk la lk n N hs ls) (hi : ¬ i < 0 ∧ i.toNatClampNeg = ix) (hix : ix < N) (g_ha : n0 ≤ ha) (g_la : n0 ≤ la) :
    MetFree l (⟨"com/example/pincer/pincer/engine/PreciseValues", "set", "(ID)V"⟩ : MethodName) (head1 (Jvm.Cond.code (⟨"com/example/pincer/pincer/engine/PreciseValues", "set", "(ID)V"⟩ : MethodName) prog_107_method_8_code 4 none :: ws) ({ frames := 0, cells := 0, slots := 0, locals := 0 } : Room)) (fun args_ U => args_ = #[(.ref a), (.int i), (.double x)] ∧ Z.Warmed39 U.vm ∧ U.heap = h0) (fun _ _ _ _ _ => True) (fun _ U o U' => ∃ v L, o = .returned v ∧ Q_rm4 Z a i x ha hk la lk n N hs ls ix h0 n0 v U'.heap L ∧ FrameEnd U o U' L (({ frames := 0, cells := 0, slots := 0, locals := 0 } : Room)).cells (({ frames := 0, cells := 0, slots := 0, locals := 0 } : Room)).slots) := by
  refine MetFree.of_bodySF (plainFor_of_name pn_4) hisR ?_
  intro p e s m args below meth c s₁ Bd hml0 hP hK
  obtain ⟨rfl, hZ, hh⟩ := hP
  have hx := Bd.exec
  have hby := Bd.bytes
  have hml : c.maxLocals = 4 := hml0
  have hown : s.vm.findClass "com/example/pincer/pincer/engine/PreciseValues" = some m.cls := findClass_of_methodNamed Bd.named
  have hnm := (name_of_methodNamed Bd.named Bd.method).1
  have X0 : Stand p l e ({ frames := 0, cells := 0, slots := 0, locals := 0 } : Room) s m #[(.ref a), (.int i), (.double x)] below meth c s₁ [] 0 0 := Stand.of_body Bd
  have e0 : s₁.heap = h0 := by rw [← hh, Bd.state]; rfl
  have N0 := Fr.nil n0
  have g0 : own_Go p e below s₁ (entryFrame m #[(.ref a), (.int i), (.double x)] 4) s₁ (mkF m 0 #[.val (.ref a), .val (.int i), .val (.double x), .second] []) := fun t k => castTop (ef_rm4 m a i x) k
  obtain ⟨E_a, Fh_a, Fl_a, Vh_a, Vl_a, ne_a_ha, ne_a_la, ne_ha_la, ln_a, lm_a⟩ := M
  have K0 : Keep h0 h0 [ha, la] := Keep.refl h0 _
  have g1 : own_Go p e below s₁ (entryFrame m #[(.ref a), (.int i), (.double x)] 4) s₁ (mkF m 1 #[.val (.ref a), .val (.int i), .val (.double x), .second] [(.ref a)]) := fun t kt => g0 t (by
    show Steps p.tables e below (s₁.setTop (mkF m 0 #[.val (.ref a), .val (.int i), .val (.double x), .second] [])) _
    refine XS.aloadN X0.here hx rfl (hb hby d4_0) rfl rfl ?_
    exact kt)
  obtain ⟨T2, X2, e2, st2⟩ := getF X0 hx hZ hown (host := "") (Or.inl (hw _ (List.mem_of_getElem? (i := 13) rfl))) Via.refl e0 Fh_a (g := (mkF m 1 #[.val (.ref a), .val (.int i), .val (.double x), .second] [(.ref a)])) rfl rfl (hb hby d4_1)
  have g2 : own_Go p e below s₁ (entryFrame m #[(.ref a), (.int i), (.double x)] 4) T2 (mkF m 4 #[.val (.ref a), .val (.int i), .val (.double x), .second] [(.ref ha)]) := fun t kt => g1 t (st2 _ kt)
  have g3 : own_Go p e below s₁ (entryFrame m #[(.ref a), (.int i), (.double x)] 4) T2 (mkF m 6 #[.val (.ref a), .val (.int i), .val (.double x), .second] [(.double x), (.int i), (.ref ha)]) := fun t kt => g2 t (by
    show Steps p.tables e below (T2.setTop (mkF m 4 #[.val (.ref a), .val (.int i), .val (.double x), .second] [(.ref ha)])) _
    refine XS.iloadN X2.here hx rfl (hb hby d4_4) rfl ?_
    show Steps p.tables e below (T2.setTop (mkF m 5 #[.val (.ref a), .val (.int i), .val (.double x), .second] [(.int i), (.ref ha)])) _
    refine XS.dloadN X2.here hx rfl (hb hby d4_5) rfl ?_
    exact kt)
  obtain ⟨T4, h4, X4, e4, W4, V4, st4⟩ := own_stD X2 hx hZ e2 Vh_a (j := i) (x := x) ix hi (by rw [ln_a]; exact hix) (Ls := #[.val (.ref a), .val (.int i), .val (.double x), .second]) (rest := []) (hb hby d4_6)
  have f5 := E_a.wr W4
  have f6 := Fh_a.other W4 (Or.inl ne_a_ha)
  have f7 := Fl_a.other W4 (Or.inl ne_a_ha)
  have f9 := Vl_a.other W4 (Ne.symm ne_ha_la)
  have N4 := Fr.snoc X4 N0 g_ha
  have K4 : Keep h0 h4 [ha, la] := K0.wr W4 (Or.inl (List.mem_of_getElem? (i := 0) rfl))
  have g4 : own_Go p e below s₁ (entryFrame m #[(.ref a), (.int i), (.double x)] 4) T4 (mkF m 7 #[.val (.ref a), .val (.int i), .val (.double x), .second] []) := fun t kt => g3 t (st4 _ kt)
  have g10 : own_Go p e below s₁ (entryFrame m #[(.ref a), (.int i), (.double x)] 4) T4 (mkF m 8 #[.val (.ref a), .val (.int i), .val (.double x), .second] [(.ref a)]) := fun t kt => g4 t (by
    show Steps p.tables e below (T4.setTop (mkF m 7 #[.val (.ref a), .val (.int i), .val (.double x), .second] [])) _
    refine XS.aloadN X4.here hx rfl (hb hby d4_7) rfl rfl ?_
    exact kt)
  obtain ⟨T11, X11, e11, st11⟩ := getF X4 hx hZ hown (host := "") (Or.inl (hw _ (List.mem_of_getElem? (i := 15) rfl))) Via.refl e4 f7 (g := (mkF m 8 #[.val (.ref a), .val (.int i), .val (.double x), .second] [(.ref a)])) rfl rfl (hb hby d4_8)
  have g11 : own_Go p e below s₁ (entryFrame m #[(.ref a), (.int i), (.double x)] 4) T11 (mkF m 11 #[.val (.ref a), .val (.int i), .val (.double x), .second] [(.ref la)]) := fun t kt => g10 t (st11 _ kt)
  have g12 : own_Go p e below s₁ (entryFrame m #[(.ref a), (.int i), (.double x)] 4) T11 (mkF m 13 #[.val (.ref a), .val (.int i), .val (.double x), .second] [(.double (0 : UInt64)), (.int i), (.ref la)]) := fun t kt => g11 t (by
    show Steps p.tables e below (T11.setTop (mkF m 11 #[.val (.ref a), .val (.int i), .val (.double x), .second] [(.ref la)])) _
    refine XS.iloadN X11.here hx rfl (hb hby d4_11) rfl ?_
    show Steps p.tables e below (T11.setTop (mkF m 12 #[.val (.ref a), .val (.int i), .val (.double x), .second] [(.int i), (.ref la)])) _
    refine XS.dconst0 X11.here hx rfl (hb hby d4_12) (rfl : FP.dconst0 = (0 : UInt64)) ?_
    exact kt)
  obtain ⟨T13, h13, X13, e13, W13, V13, st13⟩ := own_stD X11 hx hZ e11 f9 (j := i) (x := (0 : UInt64)) ix hi (by rw [lm_a]; exact hix) (Ls := #[.val (.ref a), .val (.int i), .val (.double x), .second]) (rest := []) (hb hby d4_13)
  have f14 := f5.wr W13
  have f15 := f6.other W13 (Or.inl ne_a_la)
  have f16 := f7.other W13 (Or.inl ne_a_la)
  have f17 := V4.other W13 ne_ha_la
  have N13 := Fr.snoc X13 N4 g_la
  have K13 : Keep h0 h13 [ha, la] := K4.wr W13 (Or.inl (List.mem_of_getElem? (i := 1) rfl))
  have g13 : own_Go p e below s₁ (entryFrame m #[(.ref a), (.int i), (.double x)] 4) T13 (mkF m 14 #[.val (.ref a), .val (.int i), .val (.double x), .second] []) := fun t kt => g12 t (st13 _ kt)
  obtain ⟨fs, hr, hrun, hended, hW, hsame⟩ := X13.leave (v := none) (fun _ => rfl)
  refine ⟨_, _, g13 _ (X13.returnOut hx Bd.returns (hb hby d4_14) hr), hrun, hended, _, _, rfl, ?_, ⟨_, rfl⟩, hW, hsame.mono (by decide) (by decide)⟩
  show Q_rm4 Z a i x ha hk la lk n N hs ls ix h0 n0 _ T13.heap _
  rw [e13]
  exact ⟨rfl, N13, K13, ⟨f14, f15, f16, f17, V13, ne_a_ha, ne_a_la, ne_ha_la, by simpa using ln_a, by simpa using lm_a⟩⟩
theorem d5_0 : decode prog_107_method_9_code 0 = .ok (.aload_n 2, 1) := by decide +kernel
theorem d5_1 : decode prog_107_method_9_code 1 = .ok (.getfield 7, 3) := by decide +kernel
theorem d5_4 : decode prog_107_method_9_code 4 = .ok (.iload_n 3, 1) := by decide +kernel
theorem d5_5 : decode prog_107_method_9_code 5 = .ok (.daload, 1) := by decide +kernel
theorem d5_6 : decode prog_107_method_9_code 6 = .ok (.dstore 6, 2) := by decide +kernel
theorem d5_8 : decode prog_107_method_9_code 8 = .ok (.dload 6, 2) := by decide +kernel
theorem d5_10 : decode prog_107_method_9_code 10 = .ok (.dload 4, 2) := by decide +kernel
theorem d5_12 : decode prog_107_method_9_code 12 = .ok (.dadd, 1) := by decide +kernel
theorem d5_13 : decode prog_107_method_9_code 13 = .ok (.dstore 8, 2) := by decide +kernel
theorem d5_15 : decode prog_107_method_9_code 15 = .ok (.dload 8, 2) := by decide +kernel
theorem d5_17 : decode prog_107_method_9_code 17 = .ok (.dload 6, 2) := by decide +kernel
theorem d5_19 : decode prog_107_method_9_code 19 = .ok (.dsub, 1) := by decide +kernel
theorem d5_20 : decode prog_107_method_9_code 20 = .ok (.dstore 10, 2) := by decide +kernel
theorem d5_22 : decode prog_107_method_9_code 22 = .ok (.dload 6, 2) := by decide +kernel
theorem d5_24 : decode prog_107_method_9_code 24 = .ok (.dload 8, 2) := by decide +kernel
theorem d5_26 : decode prog_107_method_9_code 26 = .ok (.dload 10, 2) := by decide +kernel
theorem d5_28 : decode prog_107_method_9_code 28 = .ok (.dsub, 1) := by decide +kernel
theorem d5_29 : decode prog_107_method_9_code 29 = .ok (.dsub, 1) := by decide +kernel
theorem d5_30 : decode prog_107_method_9_code 30 = .ok (.dload 4, 2) := by decide +kernel
theorem d5_32 : decode prog_107_method_9_code 32 = .ok (.dload 10, 2) := by decide +kernel
theorem d5_34 : decode prog_107_method_9_code 34 = .ok (.dsub, 1) := by decide +kernel
theorem d5_35 : decode prog_107_method_9_code 35 = .ok (.dadd, 1) := by decide +kernel
theorem d5_36 : decode prog_107_method_9_code 36 = .ok (.dstore 12, 2) := by decide +kernel
theorem d5_38 : decode prog_107_method_9_code 38 = .ok (.dload 12, 2) := by decide +kernel
theorem d5_40 : decode prog_107_method_9_code 40 = .ok (.aload_n 2, 1) := by decide +kernel
theorem d5_41 : decode prog_107_method_9_code 41 = .ok (.getfield 13, 3) := by decide +kernel
theorem d5_44 : decode prog_107_method_9_code 44 = .ok (.iload_n 3, 1) := by decide +kernel
theorem d5_45 : decode prog_107_method_9_code 45 = .ok (.daload, 1) := by decide +kernel
theorem d5_46 : decode prog_107_method_9_code 46 = .ok (.dadd, 1) := by decide +kernel
theorem d5_47 : decode prog_107_method_9_code 47 = .ok (.dstore 14, 2) := by decide +kernel
theorem d5_49 : decode prog_107_method_9_code 49 = .ok (.aload_n 0, 1) := by decide +kernel
theorem d5_50 : decode prog_107_method_9_code 50 = .ok (.getfield 7, 3) := by decide +kernel
theorem d5_53 : decode prog_107_method_9_code 53 = .ok (.iload_n 1, 1) := by decide +kernel
theorem d5_54 : decode prog_107_method_9_code 54 = .ok (.dload 8, 2) := by decide +kernel
theorem d5_56 : decode prog_107_method_9_code 56 = .ok (.dload 14, 2) := by decide +kernel
theorem d5_58 : decode prog_107_method_9_code 58 = .ok (.dadd, 1) := by decide +kernel
theorem d5_59 : decode prog_107_method_9_code 59 = .ok (.dastore, 1) := by decide +kernel
theorem d5_60 : decode prog_107_method_9_code 60 = .ok (.aload_n 0, 1) := by decide +kernel
theorem d5_61 : decode prog_107_method_9_code 61 = .ok (.getfield 13, 3) := by decide +kernel
theorem d5_64 : decode prog_107_method_9_code 64 = .ok (.iload_n 1, 1) := by decide +kernel
theorem d5_65 : decode prog_107_method_9_code 65 = .ok (.dload 14, 2) := by decide +kernel
theorem d5_67 : decode prog_107_method_9_code 67 = .ok (.aload_n 0, 1) := by decide +kernel
theorem d5_68 : decode prog_107_method_9_code 68 = .ok (.getfield 7, 3) := by decide +kernel
theorem d5_71 : decode prog_107_method_9_code 71 = .ok (.iload_n 1, 1) := by decide +kernel
theorem d5_72 : decode prog_107_method_9_code 72 = .ok (.daload, 1) := by decide +kernel
theorem d5_73 : decode prog_107_method_9_code 73 = .ok (.dload 8, 2) := by decide +kernel
theorem d5_75 : decode prog_107_method_9_code 75 = .ok (.dsub, 1) := by decide +kernel
theorem d5_76 : decode prog_107_method_9_code 76 = .ok (.dsub, 1) := by decide +kernel
theorem d5_77 : decode prog_107_method_9_code 77 = .ok (.dastore, 1) := by decide +kernel
theorem d5_78 : decode prog_107_method_9_code 78 = .ok (.return_, 1) := by decide +kernel
theorem pn_5 : plainName "com/example/pincer/pincer/engine/PreciseValues" = true := by first | (simp [plainName, overriddenIn]; done) | decide +kernel
theorem ef_rm5 (m : MethodId) (x0 : Addr) (x1 : Int32) (x2 : Addr) (x3 : Int32) (x4 : UInt64) : entryFrame m #[(.ref x0), (.int x1), (.ref x2), (.int x3), (.double x4)] 16 = mkF m 0 #[.val (.ref x0), .val (.int x1), .val (.ref x2), .val (.int x3), .val (.double x4), .second, .unset, .unset, .unset, .unset, .unset, .unset, .unset, .unset, .unset, .unset] [] := by first | (simp [entryFrame, mkF, argsToLocals, Value.category]; done) | rfl
def Q_rm5 (Z : State) (a : Addr) (x : UInt64) (ha : Addr) (hk : ClassId) (la : Addr) (lk : ClassId) (n : Int32) (N : Nat) (hs ls : List UInt64) (ix : Nat) (hi lo : UInt64) (h0 : Heap) (n0 : Nat) (v : Option Value) (h : Heap) (L : List Loc) : Prop := v = none ∧ Fr n0 L ∧ Keep h0 h [ha, la] ∧ own_PV Z h a ha hk la lk n N (hs.set ix (own_nh hi lo x)) (ls.set ix (own_nl hi lo x))
set_option maxRecDepth 65536 in
set_option maxHeartbeats 40000000 in
theorem rm5 (l : Launch) (Z : State) (a0 : Array Value) (hw : ∀ d ∈ tables_1, d.before a0 Z = true) (ws : List Jvm.Cond) (a : Addr) (i : Int32) (b : Addr) (j : Int32) (x : UInt64) (ha : Addr) (hk : ClassId) (la : Addr) (lk : ClassId) (n : Int32) (N : Nat) (hs ls : List UInt64) (ix : Nat) (hB : Addr) (hkb : ClassId) (lB : Addr) (lkb : ClassId) (nb : Int32) (NB jx : Nat) (hs' ls' : List UInt64) (h0 : Heap) (n0 : Nat) (Z0 : n0 ≤ h0.size) (M : own_PV Z h0 a ha hk la lk n N hs ls) (M' : own_PV Z h0 b hB hkb lB lkb nb NB hs' ls') (hi : ¬ i < 0 ∧ i.toNatClampNeg = ix) (hix : ix < N) (hj : ¬ j < 0 ∧ j.toNatClampNeg = jx) (hjx : jx < NB) (g_ha : n0 ≤ ha) (g_la : n0 ≤ la) (hok : own_okS (hs'.getD jx 0) (ls'.getD jx 0) x) :
    MetFree l (⟨"com/example/pincer/pincer/engine/PreciseValues", "setStep", "(ILcom/example/pincer/pincer/engine/PreciseValues;ID)V"⟩ : MethodName) (head1 (Jvm.Cond.code (⟨"com/example/pincer/pincer/engine/PreciseValues", "setStep", "(ILcom/example/pincer/pincer/engine/PreciseValues;ID)V"⟩ : MethodName) prog_107_method_9_code 16 none :: ws) ({ frames := 0, cells := 0, slots := 0, locals := 0 } : Room)) (fun args_ U => args_ = #[(.ref a), (.int i), (.ref b), (.int j), (.double x)] ∧ Z.Warmed39 U.vm ∧ U.heap = h0) (fun _ _ _ _ _ => True) (fun _ U o U' => ∃ v L, o = .returned v ∧ Q_rm5 Z a x ha hk la lk n N hs ls ix (hs'.getD jx 0) (ls'.getD jx 0) h0 n0 v U'.heap L ∧ FrameEnd U o U' L (({ frames := 0, cells := 0, slots := 0, locals := 0 } : Room)).cells (({ frames := 0, cells := 0, slots := 0, locals := 0 } : Room)).slots) := by
  refine MetFree.of_bodySF (plainFor_of_name pn_5) hisR ?_
  intro p e s m args below meth c s₁ Bd hml0 hP hK
  obtain ⟨rfl, hZ, hh⟩ := hP
  have hx := Bd.exec
  have hby := Bd.bytes
  have hml : c.maxLocals = 16 := hml0
  have hown : s.vm.findClass "com/example/pincer/pincer/engine/PreciseValues" = some m.cls := findClass_of_methodNamed Bd.named
  have hnm := (name_of_methodNamed Bd.named Bd.method).1
  have X0 : Stand p l e ({ frames := 0, cells := 0, slots := 0, locals := 0 } : Room) s m #[(.ref a), (.int i), (.ref b), (.int j), (.double x)] below meth c s₁ [] 0 0 := Stand.of_body Bd
  have e0 : s₁.heap = h0 := by rw [← hh, Bd.state]; rfl
  have N0 := Fr.nil n0
  have g0 : own_Go p e below s₁ (entryFrame m #[(.ref a), (.int i), (.ref b), (.int j), (.double x)] 16) s₁ (mkF m 0 #[.val (.ref a), .val (.int i), .val (.ref b), .val (.int j), .val (.double x), .second, .unset, .unset, .unset, .unset, .unset, .unset, .unset, .unset, .unset, .unset] []) := fun t k => castTop (ef_rm5 m a i b j x) k
  have K0 : Keep h0 h0 [ha, la] := Keep.refl h0 _
  obtain ⟨n1, n2, n3, n4, n5, n6, n7, n8, n9, n10⟩ := hok
  obtain ⟨E_b, Fh_b, Fl_b, Vh_b, Vl_b, -, -, -, ln_b, lm_b⟩ := M'
  obtain ⟨E_a, Fh_a, Fl_a, Vh_a, Vl_a, ne_a_ha, ne_a_la, ne_ha_la, ln_a, lm_a⟩ := M
  have g1 : own_Go p e below s₁ (entryFrame m #[(.ref a), (.int i), (.ref b), (.int j), (.double x)] 16) s₁ (mkF m 1 #[.val (.ref a), .val (.int i), .val (.ref b), .val (.int j), .val (.double x), .second, .unset, .unset, .unset, .unset, .unset, .unset, .unset, .unset, .unset, .unset] [(.ref b)]) := fun t kt => g0 t (by
    show Steps p.tables e below (s₁.setTop (mkF m 0 #[.val (.ref a), .val (.int i), .val (.ref b), .val (.int j), .val (.double x), .second, .unset, .unset, .unset, .unset, .unset, .unset, .unset, .unset, .unset, .unset] [])) _
    refine XS.aloadN X0.here hx rfl (hb hby d5_0) rfl rfl ?_
    exact kt)
  obtain ⟨T2, X2, e2, st2⟩ := getF X0 hx hZ hown (host := "") (Or.inl (hw _ (List.mem_of_getElem? (i := 13) rfl))) Via.refl e0 Fh_b (g := (mkF m 1 #[.val (.ref a), .val (.int i), .val (.ref b), .val (.int j), .val (.double x), .second, .unset, .unset, .unset, .unset, .unset, .unset, .unset, .unset, .unset, .unset] [(.ref b)])) rfl rfl (hb hby d5_1)
  have g2 : own_Go p e below s₁ (entryFrame m #[(.ref a), (.int i), (.ref b), (.int j), (.double x)] 16) T2 (mkF m 4 #[.val (.ref a), .val (.int i), .val (.ref b), .val (.int j), .val (.double x), .second, .unset, .unset, .unset, .unset, .unset, .unset, .unset, .unset, .unset, .unset] [(.ref hB)]) := fun t kt => g1 t (st2 _ kt)
  have g3 : own_Go p e below s₁ (entryFrame m #[(.ref a), (.int i), (.ref b), (.int j), (.double x)] 16) T2 (mkF m 41 #[.val (.ref a), .val (.int i), .val (.ref b), .val (.int j), .val (.double x), .second, .val (.double (hs'.getD jx 0)), .second, .val (.double (FP.dadd (hs'.getD jx 0) x)), .second, .val (.double (FP.dsub (FP.dadd (hs'.getD jx 0) x) (hs'.getD jx 0))), .second, .val (.double (FP.dadd (FP.dsub (hs'.getD jx 0) (FP.dsub (FP.dadd (hs'.getD jx 0) x) (FP.dsub (FP.dadd (hs'.getD jx 0) x) (hs'.getD jx 0)))) (FP.dsub x (FP.dsub (FP.dadd (hs'.getD jx 0) x) (hs'.getD jx 0))))), .second, .unset, .unset] [(.ref b), (.double (FP.dadd (FP.dsub (hs'.getD jx 0) (FP.dsub (FP.dadd (hs'.getD jx 0) x) (FP.dsub (FP.dadd (hs'.getD jx 0) x) (hs'.getD jx 0)))) (FP.dsub x (FP.dsub (FP.dadd (hs'.getD jx 0) x) (hs'.getD jx 0)))))]) := fun t kt => g2 t (by
    show Steps p.tables e below (T2.setTop (mkF m 4 #[.val (.ref a), .val (.int i), .val (.ref b), .val (.int j), .val (.double x), .second, .unset, .unset, .unset, .unset, .unset, .unset, .unset, .unset, .unset, .unset] [(.ref hB)])) _
    refine XS.iloadN X2.here hx rfl (hb hby d5_4) rfl ?_
    show Steps p.tables e below (T2.setTop (mkF m 5 #[.val (.ref a), .val (.int i), .val (.ref b), .val (.int j), .val (.double x), .second, .unset, .unset, .unset, .unset, .unset, .unset, .unset, .unset, .unset, .unset] [(.int j), (.ref hB)])) _
    refine own_ldD X2 hx hZ e2 Vh_b jx hj (by rw [ln_b]; exact hjx) (hb hby d5_5) _ ?_
    show Steps p.tables e below (T2.setTop (mkF m 6 #[.val (.ref a), .val (.int i), .val (.ref b), .val (.int j), .val (.double x), .second, .unset, .unset, .unset, .unset, .unset, .unset, .unset, .unset, .unset, .unset] [(.double (hs'.getD jx 0))])) _
    refine XS.dstore X2.here hx rfl (hb hby d5_6) rfl (l' := #[.val (.ref a), .val (.int i), .val (.ref b), .val (.int j), .val (.double x), .second, .val (.double (hs'.getD jx 0)), .second, .unset, .unset, .unset, .unset, .unset, .unset, .unset, .unset]) rfl ?_
    show Steps p.tables e below (T2.setTop (mkF m 8 #[.val (.ref a), .val (.int i), .val (.ref b), .val (.int j), .val (.double x), .second, .val (.double (hs'.getD jx 0)), .second, .unset, .unset, .unset, .unset, .unset, .unset, .unset, .unset] [])) _
    refine XS.dload X2.here hx rfl (hb hby d5_8) rfl ?_
    show Steps p.tables e below (T2.setTop (mkF m 10 #[.val (.ref a), .val (.int i), .val (.ref b), .val (.int j), .val (.double x), .second, .val (.double (hs'.getD jx 0)), .second, .unset, .unset, .unset, .unset, .unset, .unset, .unset, .unset] [(.double (hs'.getD jx 0))])) _
    refine XS.dload X2.here hx rfl (hb hby d5_10) rfl ?_
    show Steps p.tables e below (T2.setTop (mkF m 12 #[.val (.ref a), .val (.int i), .val (.ref b), .val (.int j), .val (.double x), .second, .val (.double (hs'.getD jx 0)), .second, .unset, .unset, .unset, .unset, .unset, .unset, .unset, .unset] [(.double x), (.double (hs'.getD jx 0))])) _
    refine XS.daddS X2.here hx rfl (hb hby d5_12) rfl n1 rfl ?_
    show Steps p.tables e below (T2.setTop (mkF m 13 #[.val (.ref a), .val (.int i), .val (.ref b), .val (.int j), .val (.double x), .second, .val (.double (hs'.getD jx 0)), .second, .unset, .unset, .unset, .unset, .unset, .unset, .unset, .unset] [(.double (FP.dadd (hs'.getD jx 0) x))])) _
    refine XS.dstore X2.here hx rfl (hb hby d5_13) rfl (l' := #[.val (.ref a), .val (.int i), .val (.ref b), .val (.int j), .val (.double x), .second, .val (.double (hs'.getD jx 0)), .second, .val (.double (FP.dadd (hs'.getD jx 0) x)), .second, .unset, .unset, .unset, .unset, .unset, .unset]) rfl ?_
    show Steps p.tables e below (T2.setTop (mkF m 15 #[.val (.ref a), .val (.int i), .val (.ref b), .val (.int j), .val (.double x), .second, .val (.double (hs'.getD jx 0)), .second, .val (.double (FP.dadd (hs'.getD jx 0) x)), .second, .unset, .unset, .unset, .unset, .unset, .unset] [])) _
    refine XS.dload X2.here hx rfl (hb hby d5_15) rfl ?_
    show Steps p.tables e below (T2.setTop (mkF m 17 #[.val (.ref a), .val (.int i), .val (.ref b), .val (.int j), .val (.double x), .second, .val (.double (hs'.getD jx 0)), .second, .val (.double (FP.dadd (hs'.getD jx 0) x)), .second, .unset, .unset, .unset, .unset, .unset, .unset] [(.double (FP.dadd (hs'.getD jx 0) x))])) _
    refine XS.dload X2.here hx rfl (hb hby d5_17) rfl ?_
    show Steps p.tables e below (T2.setTop (mkF m 19 #[.val (.ref a), .val (.int i), .val (.ref b), .val (.int j), .val (.double x), .second, .val (.double (hs'.getD jx 0)), .second, .val (.double (FP.dadd (hs'.getD jx 0) x)), .second, .unset, .unset, .unset, .unset, .unset, .unset] [(.double (hs'.getD jx 0)), (.double (FP.dadd (hs'.getD jx 0) x))])) _
    refine XS.dsubS X2.here hx rfl (hb hby d5_19) rfl n2 rfl ?_
    show Steps p.tables e below (T2.setTop (mkF m 20 #[.val (.ref a), .val (.int i), .val (.ref b), .val (.int j), .val (.double x), .second, .val (.double (hs'.getD jx 0)), .second, .val (.double (FP.dadd (hs'.getD jx 0) x)), .second, .unset, .unset, .unset, .unset, .unset, .unset] [(.double (FP.dsub (FP.dadd (hs'.getD jx 0) x) (hs'.getD jx 0)))])) _
    refine XS.dstore X2.here hx rfl (hb hby d5_20) rfl (l' := #[.val (.ref a), .val (.int i), .val (.ref b), .val (.int j), .val (.double x), .second, .val (.double (hs'.getD jx 0)), .second, .val (.double (FP.dadd (hs'.getD jx 0) x)), .second, .val (.double (FP.dsub (FP.dadd (hs'.getD jx 0) x) (hs'.getD jx 0))), .second, .unset, .unset, .unset, .unset]) rfl ?_
    show Steps p.tables e below (T2.setTop (mkF m 22 #[.val (.ref a), .val (.int i), .val (.ref b), .val (.int j), .val (.double x), .second, .val (.double (hs'.getD jx 0)), .second, .val (.double (FP.dadd (hs'.getD jx 0) x)), .second, .val (.double (FP.dsub (FP.dadd (hs'.getD jx 0) x) (hs'.getD jx 0))), .second, .unset, .unset, .unset, .unset] [])) _
    refine XS.dload X2.here hx rfl (hb hby d5_22) rfl ?_
    show Steps p.tables e below (T2.setTop (mkF m 24 #[.val (.ref a), .val (.int i), .val (.ref b), .val (.int j), .val (.double x), .second, .val (.double (hs'.getD jx 0)), .second, .val (.double (FP.dadd (hs'.getD jx 0) x)), .second, .val (.double (FP.dsub (FP.dadd (hs'.getD jx 0) x) (hs'.getD jx 0))), .second, .unset, .unset, .unset, .unset] [(.double (hs'.getD jx 0))])) _
    refine XS.dload X2.here hx rfl (hb hby d5_24) rfl ?_
    show Steps p.tables e below (T2.setTop (mkF m 26 #[.val (.ref a), .val (.int i), .val (.ref b), .val (.int j), .val (.double x), .second, .val (.double (hs'.getD jx 0)), .second, .val (.double (FP.dadd (hs'.getD jx 0) x)), .second, .val (.double (FP.dsub (FP.dadd (hs'.getD jx 0) x) (hs'.getD jx 0))), .second, .unset, .unset, .unset, .unset] [(.double (FP.dadd (hs'.getD jx 0) x)), (.double (hs'.getD jx 0))])) _
    refine XS.dload X2.here hx rfl (hb hby d5_26) rfl ?_
    show Steps p.tables e below (T2.setTop (mkF m 28 #[.val (.ref a), .val (.int i), .val (.ref b), .val (.int j), .val (.double x), .second, .val (.double (hs'.getD jx 0)), .second, .val (.double (FP.dadd (hs'.getD jx 0) x)), .second, .val (.double (FP.dsub (FP.dadd (hs'.getD jx 0) x) (hs'.getD jx 0))), .second, .unset, .unset, .unset, .unset] [(.double (FP.dsub (FP.dadd (hs'.getD jx 0) x) (hs'.getD jx 0))), (.double (FP.dadd (hs'.getD jx 0) x)), (.double (hs'.getD jx 0))])) _
    refine XS.dsubS X2.here hx rfl (hb hby d5_28) rfl n3 rfl ?_
    show Steps p.tables e below (T2.setTop (mkF m 29 #[.val (.ref a), .val (.int i), .val (.ref b), .val (.int j), .val (.double x), .second, .val (.double (hs'.getD jx 0)), .second, .val (.double (FP.dadd (hs'.getD jx 0) x)), .second, .val (.double (FP.dsub (FP.dadd (hs'.getD jx 0) x) (hs'.getD jx 0))), .second, .unset, .unset, .unset, .unset] [(.double (FP.dsub (FP.dadd (hs'.getD jx 0) x) (FP.dsub (FP.dadd (hs'.getD jx 0) x) (hs'.getD jx 0)))), (.double (hs'.getD jx 0))])) _
    refine XS.dsubS X2.here hx rfl (hb hby d5_29) rfl n4 rfl ?_
    show Steps p.tables e below (T2.setTop (mkF m 30 #[.val (.ref a), .val (.int i), .val (.ref b), .val (.int j), .val (.double x), .second, .val (.double (hs'.getD jx 0)), .second, .val (.double (FP.dadd (hs'.getD jx 0) x)), .second, .val (.double (FP.dsub (FP.dadd (hs'.getD jx 0) x) (hs'.getD jx 0))), .second, .unset, .unset, .unset, .unset] [(.double (FP.dsub (hs'.getD jx 0) (FP.dsub (FP.dadd (hs'.getD jx 0) x) (FP.dsub (FP.dadd (hs'.getD jx 0) x) (hs'.getD jx 0)))))])) _
    refine XS.dload X2.here hx rfl (hb hby d5_30) rfl ?_
    show Steps p.tables e below (T2.setTop (mkF m 32 #[.val (.ref a), .val (.int i), .val (.ref b), .val (.int j), .val (.double x), .second, .val (.double (hs'.getD jx 0)), .second, .val (.double (FP.dadd (hs'.getD jx 0) x)), .second, .val (.double (FP.dsub (FP.dadd (hs'.getD jx 0) x) (hs'.getD jx 0))), .second, .unset, .unset, .unset, .unset] [(.double x), (.double (FP.dsub (hs'.getD jx 0) (FP.dsub (FP.dadd (hs'.getD jx 0) x) (FP.dsub (FP.dadd (hs'.getD jx 0) x) (hs'.getD jx 0)))))])) _
    refine XS.dload X2.here hx rfl (hb hby d5_32) rfl ?_
    show Steps p.tables e below (T2.setTop (mkF m 34 #[.val (.ref a), .val (.int i), .val (.ref b), .val (.int j), .val (.double x), .second, .val (.double (hs'.getD jx 0)), .second, .val (.double (FP.dadd (hs'.getD jx 0) x)), .second, .val (.double (FP.dsub (FP.dadd (hs'.getD jx 0) x) (hs'.getD jx 0))), .second, .unset, .unset, .unset, .unset] [(.double (FP.dsub (FP.dadd (hs'.getD jx 0) x) (hs'.getD jx 0))), (.double x), (.double (FP.dsub (hs'.getD jx 0) (FP.dsub (FP.dadd (hs'.getD jx 0) x) (FP.dsub (FP.dadd (hs'.getD jx 0) x) (hs'.getD jx 0)))))])) _
    refine XS.dsubS X2.here hx rfl (hb hby d5_34) rfl n5 rfl ?_
    show Steps p.tables e below (T2.setTop (mkF m 35 #[.val (.ref a), .val (.int i), .val (.ref b), .val (.int j), .val (.double x), .second, .val (.double (hs'.getD jx 0)), .second, .val (.double (FP.dadd (hs'.getD jx 0) x)), .second, .val (.double (FP.dsub (FP.dadd (hs'.getD jx 0) x) (hs'.getD jx 0))), .second, .unset, .unset, .unset, .unset] [(.double (FP.dsub x (FP.dsub (FP.dadd (hs'.getD jx 0) x) (hs'.getD jx 0)))), (.double (FP.dsub (hs'.getD jx 0) (FP.dsub (FP.dadd (hs'.getD jx 0) x) (FP.dsub (FP.dadd (hs'.getD jx 0) x) (hs'.getD jx 0)))))])) _
    refine XS.daddS X2.here hx rfl (hb hby d5_35) rfl n6 rfl ?_
    show Steps p.tables e below (T2.setTop (mkF m 36 #[.val (.ref a), .val (.int i), .val (.ref b), .val (.int j), .val (.double x), .second, .val (.double (hs'.getD jx 0)), .second, .val (.double (FP.dadd (hs'.getD jx 0) x)), .second, .val (.double (FP.dsub (FP.dadd (hs'.getD jx 0) x) (hs'.getD jx 0))), .second, .unset, .unset, .unset, .unset] [(.double (FP.dadd (FP.dsub (hs'.getD jx 0) (FP.dsub (FP.dadd (hs'.getD jx 0) x) (FP.dsub (FP.dadd (hs'.getD jx 0) x) (hs'.getD jx 0)))) (FP.dsub x (FP.dsub (FP.dadd (hs'.getD jx 0) x) (hs'.getD jx 0)))))])) _
    refine XS.dstore X2.here hx rfl (hb hby d5_36) rfl (l' := #[.val (.ref a), .val (.int i), .val (.ref b), .val (.int j), .val (.double x), .second, .val (.double (hs'.getD jx 0)), .second, .val (.double (FP.dadd (hs'.getD jx 0) x)), .second, .val (.double (FP.dsub (FP.dadd (hs'.getD jx 0) x) (hs'.getD jx 0))), .second, .val (.double (FP.dadd (FP.dsub (hs'.getD jx 0) (FP.dsub (FP.dadd (hs'.getD jx 0) x) (FP.dsub (FP.dadd (hs'.getD jx 0) x) (hs'.getD jx 0)))) (FP.dsub x (FP.dsub (FP.dadd (hs'.getD jx 0) x) (hs'.getD jx 0))))), .second, .unset, .unset]) rfl ?_
    show Steps p.tables e below (T2.setTop (mkF m 38 #[.val (.ref a), .val (.int i), .val (.ref b), .val (.int j), .val (.double x), .second, .val (.double (hs'.getD jx 0)), .second, .val (.double (FP.dadd (hs'.getD jx 0) x)), .second, .val (.double (FP.dsub (FP.dadd (hs'.getD jx 0) x) (hs'.getD jx 0))), .second, .val (.double (FP.dadd (FP.dsub (hs'.getD jx 0) (FP.dsub (FP.dadd (hs'.getD jx 0) x) (FP.dsub (FP.dadd (hs'.getD jx 0) x) (hs'.getD jx 0)))) (FP.dsub x (FP.dsub (FP.dadd (hs'.getD jx 0) x) (hs'.getD jx 0))))), .second, .unset, .unset] [])) _
    refine XS.dload X2.here hx rfl (hb hby d5_38) rfl ?_
    show Steps p.tables e below (T2.setTop (mkF m 40 #[.val (.ref a), .val (.int i), .val (.ref b), .val (.int j), .val (.double x), .second, .val (.double (hs'.getD jx 0)), .second, .val (.double (FP.dadd (hs'.getD jx 0) x)), .second, .val (.double (FP.dsub (FP.dadd (hs'.getD jx 0) x) (hs'.getD jx 0))), .second, .val (.double (FP.dadd (FP.dsub (hs'.getD jx 0) (FP.dsub (FP.dadd (hs'.getD jx 0) x) (FP.dsub (FP.dadd (hs'.getD jx 0) x) (hs'.getD jx 0)))) (FP.dsub x (FP.dsub (FP.dadd (hs'.getD jx 0) x) (hs'.getD jx 0))))), .second, .unset, .unset] [(.double (FP.dadd (FP.dsub (hs'.getD jx 0) (FP.dsub (FP.dadd (hs'.getD jx 0) x) (FP.dsub (FP.dadd (hs'.getD jx 0) x) (hs'.getD jx 0)))) (FP.dsub x (FP.dsub (FP.dadd (hs'.getD jx 0) x) (hs'.getD jx 0)))))])) _
    refine XS.aloadN X2.here hx rfl (hb hby d5_40) rfl rfl ?_
    exact kt)
  obtain ⟨T4, X4, e4, st4⟩ := getF X2 hx hZ hown (host := "") (Or.inl (hw _ (List.mem_of_getElem? (i := 15) rfl))) Via.refl e2 Fl_b (g := (mkF m 41 #[.val (.ref a), .val (.int i), .val (.ref b), .val (.int j), .val (.double x), .second, .val (.double (hs'.getD jx 0)), .second, .val (.double (FP.dadd (hs'.getD jx 0) x)), .second, .val (.double (FP.dsub (FP.dadd (hs'.getD jx 0) x) (hs'.getD jx 0))), .second, .val (.double (FP.dadd (FP.dsub (hs'.getD jx 0) (FP.dsub (FP.dadd (hs'.getD jx 0) x) (FP.dsub (FP.dadd (hs'.getD jx 0) x) (hs'.getD jx 0)))) (FP.dsub x (FP.dsub (FP.dadd (hs'.getD jx 0) x) (hs'.getD jx 0))))), .second, .unset, .unset] [(.ref b), (.double (FP.dadd (FP.dsub (hs'.getD jx 0) (FP.dsub (FP.dadd (hs'.getD jx 0) x) (FP.dsub (FP.dadd (hs'.getD jx 0) x) (hs'.getD jx 0)))) (FP.dsub x (FP.dsub (FP.dadd (hs'.getD jx 0) x) (hs'.getD jx 0)))))])) rfl rfl (hb hby d5_41)
  have g4 : own_Go p e below s₁ (entryFrame m #[(.ref a), (.int i), (.ref b), (.int j), (.double x)] 16) T4 (mkF m 44 #[.val (.ref a), .val (.int i), .val (.ref b), .val (.int j), .val (.double x), .second, .val (.double (hs'.getD jx 0)), .second, .val (.double (FP.dadd (hs'.getD jx 0) x)), .second, .val (.double (FP.dsub (FP.dadd (hs'.getD jx 0) x) (hs'.getD jx 0))), .second, .val (.double (FP.dadd (FP.dsub (hs'.getD jx 0) (FP.dsub (FP.dadd (hs'.getD jx 0) x) (FP.dsub (FP.dadd (hs'.getD jx 0) x) (hs'.getD jx 0)))) (FP.dsub x (FP.dsub (FP.dadd (hs'.getD jx 0) x) (hs'.getD jx 0))))), .second, .unset, .unset] [(.ref lB), (.double (FP.dadd (FP.dsub (hs'.getD jx 0) (FP.dsub (FP.dadd (hs'.getD jx 0) x) (FP.dsub (FP.dadd (hs'.getD jx 0) x) (hs'.getD jx 0)))) (FP.dsub x (FP.dsub (FP.dadd (hs'.getD jx 0) x) (hs'.getD jx 0)))))]) := fun t kt => g3 t (st4 _ kt)
  have g5 : own_Go p e below s₁ (entryFrame m #[(.ref a), (.int i), (.ref b), (.int j), (.double x)] 16) T4 (mkF m 49 #[.val (.ref a), .val (.int i), .val (.ref b), .val (.int j), .val (.double x), .second, .val (.double (hs'.getD jx 0)), .second, .val (.double (FP.dadd (hs'.getD jx 0) x)), .second, .val (.double (FP.dsub (FP.dadd (hs'.getD jx 0) x) (hs'.getD jx 0))), .second, .val (.double (FP.dadd (FP.dsub (hs'.getD jx 0) (FP.dsub (FP.dadd (hs'.getD jx 0) x) (FP.dsub (FP.dadd (hs'.getD jx 0) x) (hs'.getD jx 0)))) (FP.dsub x (FP.dsub (FP.dadd (hs'.getD jx 0) x) (hs'.getD jx 0))))), .second, .val (.double (FP.dadd (FP.dadd (FP.dsub (hs'.getD jx 0) (FP.dsub (FP.dadd (hs'.getD jx 0) x) (FP.dsub (FP.dadd (hs'.getD jx 0) x) (hs'.getD jx 0)))) (FP.dsub x (FP.dsub (FP.dadd (hs'.getD jx 0) x) (hs'.getD jx 0)))) (ls'.getD jx 0))), .second] []) := fun t kt => g4 t (by
    show Steps p.tables e below (T4.setTop (mkF m 44 #[.val (.ref a), .val (.int i), .val (.ref b), .val (.int j), .val (.double x), .second, .val (.double (hs'.getD jx 0)), .second, .val (.double (FP.dadd (hs'.getD jx 0) x)), .second, .val (.double (FP.dsub (FP.dadd (hs'.getD jx 0) x) (hs'.getD jx 0))), .second, .val (.double (FP.dadd (FP.dsub (hs'.getD jx 0) (FP.dsub (FP.dadd (hs'.getD jx 0) x) (FP.dsub (FP.dadd (hs'.getD jx 0) x) (hs'.getD jx 0)))) (FP.dsub x (FP.dsub (FP.dadd (hs'.getD jx 0) x) (hs'.getD jx 0))))), .second, .unset, .unset] [(.ref lB), (.double (FP.dadd (FP.dsub (hs'.getD jx 0) (FP.dsub (FP.dadd (hs'.getD jx 0) x) (FP.dsub (FP.dadd (hs'.getD jx 0) x) (hs'.getD jx 0)))) (FP.dsub x (FP.dsub (FP.dadd (hs'.getD jx 0) x) (hs'.getD jx 0)))))])) _
    refine XS.iloadN X4.here hx rfl (hb hby d5_44) rfl ?_
    show Steps p.tables e below (T4.setTop (mkF m 45 #[.val (.ref a), .val (.int i), .val (.ref b), .val (.int j), .val (.double x), .second, .val (.double (hs'.getD jx 0)), .second, .val (.double (FP.dadd (hs'.getD jx 0) x)), .second, .val (.double (FP.dsub (FP.dadd (hs'.getD jx 0) x) (hs'.getD jx 0))), .second, .val (.double (FP.dadd (FP.dsub (hs'.getD jx 0) (FP.dsub (FP.dadd (hs'.getD jx 0) x) (FP.dsub (FP.dadd (hs'.getD jx 0) x) (hs'.getD jx 0)))) (FP.dsub x (FP.dsub (FP.dadd (hs'.getD jx 0) x) (hs'.getD jx 0))))), .second, .unset, .unset] [(.int j), (.ref lB), (.double (FP.dadd (FP.dsub (hs'.getD jx 0) (FP.dsub (FP.dadd (hs'.getD jx 0) x) (FP.dsub (FP.dadd (hs'.getD jx 0) x) (hs'.getD jx 0)))) (FP.dsub x (FP.dsub (FP.dadd (hs'.getD jx 0) x) (hs'.getD jx 0)))))])) _
    refine own_ldD X4 hx hZ e4 Vl_b jx hj (by rw [lm_b]; exact hjx) (hb hby d5_45) _ ?_
    show Steps p.tables e below (T4.setTop (mkF m 46 #[.val (.ref a), .val (.int i), .val (.ref b), .val (.int j), .val (.double x), .second, .val (.double (hs'.getD jx 0)), .second, .val (.double (FP.dadd (hs'.getD jx 0) x)), .second, .val (.double (FP.dsub (FP.dadd (hs'.getD jx 0) x) (hs'.getD jx 0))), .second, .val (.double (FP.dadd (FP.dsub (hs'.getD jx 0) (FP.dsub (FP.dadd (hs'.getD jx 0) x) (FP.dsub (FP.dadd (hs'.getD jx 0) x) (hs'.getD jx 0)))) (FP.dsub x (FP.dsub (FP.dadd (hs'.getD jx 0) x) (hs'.getD jx 0))))), .second, .unset, .unset] [(.double (ls'.getD jx 0)), (.double (FP.dadd (FP.dsub (hs'.getD jx 0) (FP.dsub (FP.dadd (hs'.getD jx 0) x) (FP.dsub (FP.dadd (hs'.getD jx 0) x) (hs'.getD jx 0)))) (FP.dsub x (FP.dsub (FP.dadd (hs'.getD jx 0) x) (hs'.getD jx 0)))))])) _
    refine XS.daddS X4.here hx rfl (hb hby d5_46) rfl n7 rfl ?_
    show Steps p.tables e below (T4.setTop (mkF m 47 #[.val (.ref a), .val (.int i), .val (.ref b), .val (.int j), .val (.double x), .second, .val (.double (hs'.getD jx 0)), .second, .val (.double (FP.dadd (hs'.getD jx 0) x)), .second, .val (.double (FP.dsub (FP.dadd (hs'.getD jx 0) x) (hs'.getD jx 0))), .second, .val (.double (FP.dadd (FP.dsub (hs'.getD jx 0) (FP.dsub (FP.dadd (hs'.getD jx 0) x) (FP.dsub (FP.dadd (hs'.getD jx 0) x) (hs'.getD jx 0)))) (FP.dsub x (FP.dsub (FP.dadd (hs'.getD jx 0) x) (hs'.getD jx 0))))), .second, .unset, .unset] [(.double (FP.dadd (FP.dadd (FP.dsub (hs'.getD jx 0) (FP.dsub (FP.dadd (hs'.getD jx 0) x) (FP.dsub (FP.dadd (hs'.getD jx 0) x) (hs'.getD jx 0)))) (FP.dsub x (FP.dsub (FP.dadd (hs'.getD jx 0) x) (hs'.getD jx 0)))) (ls'.getD jx 0)))])) _
    refine XS.dstore X4.here hx rfl (hb hby d5_47) rfl (l' := #[.val (.ref a), .val (.int i), .val (.ref b), .val (.int j), .val (.double x), .second, .val (.double (hs'.getD jx 0)), .second, .val (.double (FP.dadd (hs'.getD jx 0) x)), .second, .val (.double (FP.dsub (FP.dadd (hs'.getD jx 0) x) (hs'.getD jx 0))), .second, .val (.double (FP.dadd (FP.dsub (hs'.getD jx 0) (FP.dsub (FP.dadd (hs'.getD jx 0) x) (FP.dsub (FP.dadd (hs'.getD jx 0) x) (hs'.getD jx 0)))) (FP.dsub x (FP.dsub (FP.dadd (hs'.getD jx 0) x) (hs'.getD jx 0))))), .second, .val (.double (FP.dadd (FP.dadd (FP.dsub (hs'.getD jx 0) (FP.dsub (FP.dadd (hs'.getD jx 0) x) (FP.dsub (FP.dadd (hs'.getD jx 0) x) (hs'.getD jx 0)))) (FP.dsub x (FP.dsub (FP.dadd (hs'.getD jx 0) x) (hs'.getD jx 0)))) (ls'.getD jx 0))), .second]) rfl ?_
    exact kt)
  obtain ⟨d1, q_d1⟩ : ∃ z, z = (FP.dadd (hs'.getD jx 0) x) := ⟨_, rfl⟩
  obtain ⟨d7, q_d7⟩ : ∃ z, z = (FP.dadd (FP.dadd (FP.dsub (hs'.getD jx 0) (FP.dsub (FP.dadd (hs'.getD jx 0) x) (FP.dsub (FP.dadd (hs'.getD jx 0) x) (hs'.getD jx 0)))) (FP.dsub x (FP.dsub (FP.dadd (hs'.getD jx 0) x) (hs'.getD jx 0)))) (ls'.getD jx 0)) := ⟨_, rfl⟩
  have g6 : own_Go p e below s₁ (entryFrame m #[(.ref a), (.int i), (.ref b), (.int j), (.double x)] 16) T4 (mkF m 50 #[.val (.ref a), .val (.int i), .val (.ref b), .val (.int j), .val (.double x), .second, .val (.double (hs'.getD jx 0)), .second, .val (.double (FP.dadd (hs'.getD jx 0) x)), .second, .val (.double (FP.dsub (FP.dadd (hs'.getD jx 0) x) (hs'.getD jx 0))), .second, .val (.double (FP.dadd (FP.dsub (hs'.getD jx 0) (FP.dsub (FP.dadd (hs'.getD jx 0) x) (FP.dsub (FP.dadd (hs'.getD jx 0) x) (hs'.getD jx 0)))) (FP.dsub x (FP.dsub (FP.dadd (hs'.getD jx 0) x) (hs'.getD jx 0))))), .second, .val (.double (FP.dadd (FP.dadd (FP.dsub (hs'.getD jx 0) (FP.dsub (FP.dadd (hs'.getD jx 0) x) (FP.dsub (FP.dadd (hs'.getD jx 0) x) (hs'.getD jx 0)))) (FP.dsub x (FP.dsub (FP.dadd (hs'.getD jx 0) x) (hs'.getD jx 0)))) (ls'.getD jx 0))), .second] [(.ref a)]) := fun t kt => g5 t (by
    show Steps p.tables e below (T4.setTop (mkF m 49 #[.val (.ref a), .val (.int i), .val (.ref b), .val (.int j), .val (.double x), .second, .val (.double (hs'.getD jx 0)), .second, .val (.double (FP.dadd (hs'.getD jx 0) x)), .second, .val (.double (FP.dsub (FP.dadd (hs'.getD jx 0) x) (hs'.getD jx 0))), .second, .val (.double (FP.dadd (FP.dsub (hs'.getD jx 0) (FP.dsub (FP.dadd (hs'.getD jx 0) x) (FP.dsub (FP.dadd (hs'.getD jx 0) x) (hs'.getD jx 0)))) (FP.dsub x (FP.dsub (FP.dadd (hs'.getD jx 0) x) (hs'.getD jx 0))))), .second, .val (.double (FP.dadd (FP.dadd (FP.dsub (hs'.getD jx 0) (FP.dsub (FP.dadd (hs'.getD jx 0) x) (FP.dsub (FP.dadd (hs'.getD jx 0) x) (hs'.getD jx 0)))) (FP.dsub x (FP.dsub (FP.dadd (hs'.getD jx 0) x) (hs'.getD jx 0)))) (ls'.getD jx 0))), .second] [])) _
    refine XS.aloadN X4.here hx rfl (hb hby d5_49) rfl rfl ?_
    exact kt)
  obtain ⟨T7, X7, e7, st7⟩ := getF X4 hx hZ hown (host := "") (Or.inl (hw _ (List.mem_of_getElem? (i := 13) rfl))) Via.refl e4 Fh_a (g := (mkF m 50 #[.val (.ref a), .val (.int i), .val (.ref b), .val (.int j), .val (.double x), .second, .val (.double (hs'.getD jx 0)), .second, .val (.double (FP.dadd (hs'.getD jx 0) x)), .second, .val (.double (FP.dsub (FP.dadd (hs'.getD jx 0) x) (hs'.getD jx 0))), .second, .val (.double (FP.dadd (FP.dsub (hs'.getD jx 0) (FP.dsub (FP.dadd (hs'.getD jx 0) x) (FP.dsub (FP.dadd (hs'.getD jx 0) x) (hs'.getD jx 0)))) (FP.dsub x (FP.dsub (FP.dadd (hs'.getD jx 0) x) (hs'.getD jx 0))))), .second, .val (.double (FP.dadd (FP.dadd (FP.dsub (hs'.getD jx 0) (FP.dsub (FP.dadd (hs'.getD jx 0) x) (FP.dsub (FP.dadd (hs'.getD jx 0) x) (hs'.getD jx 0)))) (FP.dsub x (FP.dsub (FP.dadd (hs'.getD jx 0) x) (hs'.getD jx 0)))) (ls'.getD jx 0))), .second] [(.ref a)])) rfl rfl (hb hby d5_50)
  have g7 : own_Go p e below s₁ (entryFrame m #[(.ref a), (.int i), (.ref b), (.int j), (.double x)] 16) T7 (mkF m 53 #[.val (.ref a), .val (.int i), .val (.ref b), .val (.int j), .val (.double x), .second, .val (.double (hs'.getD jx 0)), .second, .val (.double (FP.dadd (hs'.getD jx 0) x)), .second, .val (.double (FP.dsub (FP.dadd (hs'.getD jx 0) x) (hs'.getD jx 0))), .second, .val (.double (FP.dadd (FP.dsub (hs'.getD jx 0) (FP.dsub (FP.dadd (hs'.getD jx 0) x) (FP.dsub (FP.dadd (hs'.getD jx 0) x) (hs'.getD jx 0)))) (FP.dsub x (FP.dsub (FP.dadd (hs'.getD jx 0) x) (hs'.getD jx 0))))), .second, .val (.double (FP.dadd (FP.dadd (FP.dsub (hs'.getD jx 0) (FP.dsub (FP.dadd (hs'.getD jx 0) x) (FP.dsub (FP.dadd (hs'.getD jx 0) x) (hs'.getD jx 0)))) (FP.dsub x (FP.dsub (FP.dadd (hs'.getD jx 0) x) (hs'.getD jx 0)))) (ls'.getD jx 0))), .second] [(.ref ha)]) := fun t kt => g6 t (st7 _ kt)
  have g8 : own_Go p e below s₁ (entryFrame m #[(.ref a), (.int i), (.ref b), (.int j), (.double x)] 16) T7 (mkF m 59 #[.val (.ref a), .val (.int i), .val (.ref b), .val (.int j), .val (.double x), .second, .val (.double (hs'.getD jx 0)), .second, .val (.double (FP.dadd (hs'.getD jx 0) x)), .second, .val (.double (FP.dsub (FP.dadd (hs'.getD jx 0) x) (hs'.getD jx 0))), .second, .val (.double (FP.dadd (FP.dsub (hs'.getD jx 0) (FP.dsub (FP.dadd (hs'.getD jx 0) x) (FP.dsub (FP.dadd (hs'.getD jx 0) x) (hs'.getD jx 0)))) (FP.dsub x (FP.dsub (FP.dadd (hs'.getD jx 0) x) (hs'.getD jx 0))))), .second, .val (.double (FP.dadd (FP.dadd (FP.dsub (hs'.getD jx 0) (FP.dsub (FP.dadd (hs'.getD jx 0) x) (FP.dsub (FP.dadd (hs'.getD jx 0) x) (hs'.getD jx 0)))) (FP.dsub x (FP.dsub (FP.dadd (hs'.getD jx 0) x) (hs'.getD jx 0)))) (ls'.getD jx 0))), .second] [(.double (FP.dadd (FP.dadd (hs'.getD jx 0) x) (FP.dadd (FP.dadd (FP.dsub (hs'.getD jx 0) (FP.dsub (FP.dadd (hs'.getD jx 0) x) (FP.dsub (FP.dadd (hs'.getD jx 0) x) (hs'.getD jx 0)))) (FP.dsub x (FP.dsub (FP.dadd (hs'.getD jx 0) x) (hs'.getD jx 0)))) (ls'.getD jx 0)))), (.int i), (.ref ha)]) := fun t kt => g7 t (by
    show Steps p.tables e below (T7.setTop (mkF m 53 #[.val (.ref a), .val (.int i), .val (.ref b), .val (.int j), .val (.double x), .second, .val (.double (hs'.getD jx 0)), .second, .val (.double (FP.dadd (hs'.getD jx 0) x)), .second, .val (.double (FP.dsub (FP.dadd (hs'.getD jx 0) x) (hs'.getD jx 0))), .second, .val (.double (FP.dadd (FP.dsub (hs'.getD jx 0) (FP.dsub (FP.dadd (hs'.getD jx 0) x) (FP.dsub (FP.dadd (hs'.getD jx 0) x) (hs'.getD jx 0)))) (FP.dsub x (FP.dsub (FP.dadd (hs'.getD jx 0) x) (hs'.getD jx 0))))), .second, .val (.double (FP.dadd (FP.dadd (FP.dsub (hs'.getD jx 0) (FP.dsub (FP.dadd (hs'.getD jx 0) x) (FP.dsub (FP.dadd (hs'.getD jx 0) x) (hs'.getD jx 0)))) (FP.dsub x (FP.dsub (FP.dadd (hs'.getD jx 0) x) (hs'.getD jx 0)))) (ls'.getD jx 0))), .second] [(.ref ha)])) _
    refine XS.iloadN X7.here hx rfl (hb hby d5_53) rfl ?_
    show Steps p.tables e below (T7.setTop (mkF m 54 #[.val (.ref a), .val (.int i), .val (.ref b), .val (.int j), .val (.double x), .second, .val (.double (hs'.getD jx 0)), .second, .val (.double (FP.dadd (hs'.getD jx 0) x)), .second, .val (.double (FP.dsub (FP.dadd (hs'.getD jx 0) x) (hs'.getD jx 0))), .second, .val (.double (FP.dadd (FP.dsub (hs'.getD jx 0) (FP.dsub (FP.dadd (hs'.getD jx 0) x) (FP.dsub (FP.dadd (hs'.getD jx 0) x) (hs'.getD jx 0)))) (FP.dsub x (FP.dsub (FP.dadd (hs'.getD jx 0) x) (hs'.getD jx 0))))), .second, .val (.double (FP.dadd (FP.dadd (FP.dsub (hs'.getD jx 0) (FP.dsub (FP.dadd (hs'.getD jx 0) x) (FP.dsub (FP.dadd (hs'.getD jx 0) x) (hs'.getD jx 0)))) (FP.dsub x (FP.dsub (FP.dadd (hs'.getD jx 0) x) (hs'.getD jx 0)))) (ls'.getD jx 0))), .second] [(.int i), (.ref ha)])) _
    refine XS.dload X7.here hx rfl (hb hby d5_54) rfl ?_
    show Steps p.tables e below (T7.setTop (mkF m 56 #[.val (.ref a), .val (.int i), .val (.ref b), .val (.int j), .val (.double x), .second, .val (.double (hs'.getD jx 0)), .second, .val (.double (FP.dadd (hs'.getD jx 0) x)), .second, .val (.double (FP.dsub (FP.dadd (hs'.getD jx 0) x) (hs'.getD jx 0))), .second, .val (.double (FP.dadd (FP.dsub (hs'.getD jx 0) (FP.dsub (FP.dadd (hs'.getD jx 0) x) (FP.dsub (FP.dadd (hs'.getD jx 0) x) (hs'.getD jx 0)))) (FP.dsub x (FP.dsub (FP.dadd (hs'.getD jx 0) x) (hs'.getD jx 0))))), .second, .val (.double (FP.dadd (FP.dadd (FP.dsub (hs'.getD jx 0) (FP.dsub (FP.dadd (hs'.getD jx 0) x) (FP.dsub (FP.dadd (hs'.getD jx 0) x) (hs'.getD jx 0)))) (FP.dsub x (FP.dsub (FP.dadd (hs'.getD jx 0) x) (hs'.getD jx 0)))) (ls'.getD jx 0))), .second] [(.double (FP.dadd (hs'.getD jx 0) x)), (.int i), (.ref ha)])) _
    refine XS.dload X7.here hx rfl (hb hby d5_56) rfl ?_
    show Steps p.tables e below (T7.setTop (mkF m 58 #[.val (.ref a), .val (.int i), .val (.ref b), .val (.int j), .val (.double x), .second, .val (.double (hs'.getD jx 0)), .second, .val (.double (FP.dadd (hs'.getD jx 0) x)), .second, .val (.double (FP.dsub (FP.dadd (hs'.getD jx 0) x) (hs'.getD jx 0))), .second, .val (.double (FP.dadd (FP.dsub (hs'.getD jx 0) (FP.dsub (FP.dadd (hs'.getD jx 0) x) (FP.dsub (FP.dadd (hs'.getD jx 0) x) (hs'.getD jx 0)))) (FP.dsub x (FP.dsub (FP.dadd (hs'.getD jx 0) x) (hs'.getD jx 0))))), .second, .val (.double (FP.dadd (FP.dadd (FP.dsub (hs'.getD jx 0) (FP.dsub (FP.dadd (hs'.getD jx 0) x) (FP.dsub (FP.dadd (hs'.getD jx 0) x) (hs'.getD jx 0)))) (FP.dsub x (FP.dsub (FP.dadd (hs'.getD jx 0) x) (hs'.getD jx 0)))) (ls'.getD jx 0))), .second] [(.double (FP.dadd (FP.dadd (FP.dsub (hs'.getD jx 0) (FP.dsub (FP.dadd (hs'.getD jx 0) x) (FP.dsub (FP.dadd (hs'.getD jx 0) x) (hs'.getD jx 0)))) (FP.dsub x (FP.dsub (FP.dadd (hs'.getD jx 0) x) (hs'.getD jx 0)))) (ls'.getD jx 0))), (.double (FP.dadd (hs'.getD jx 0) x)), (.int i), (.ref ha)])) _
    refine XS.daddS X7.here hx rfl (hb hby d5_58) rfl n8 rfl ?_
    exact kt)
  obtain ⟨T9, h9, X9, e9, W9, V9, st9⟩ := own_stD X7 hx hZ e7 Vh_a (j := i) (x := (FP.dadd (FP.dadd (hs'.getD jx 0) x) (FP.dadd (FP.dadd (FP.dsub (hs'.getD jx 0) (FP.dsub (FP.dadd (hs'.getD jx 0) x) (FP.dsub (FP.dadd (hs'.getD jx 0) x) (hs'.getD jx 0)))) (FP.dsub x (FP.dsub (FP.dadd (hs'.getD jx 0) x) (hs'.getD jx 0)))) (ls'.getD jx 0)))) ix hi (by rw [ln_a]; exact hix) (Ls := #[.val (.ref a), .val (.int i), .val (.ref b), .val (.int j), .val (.double x), .second, .val (.double (hs'.getD jx 0)), .second, .val (.double (FP.dadd (hs'.getD jx 0) x)), .second, .val (.double (FP.dsub (FP.dadd (hs'.getD jx 0) x) (hs'.getD jx 0))), .second, .val (.double (FP.dadd (FP.dsub (hs'.getD jx 0) (FP.dsub (FP.dadd (hs'.getD jx 0) x) (FP.dsub (FP.dadd (hs'.getD jx 0) x) (hs'.getD jx 0)))) (FP.dsub x (FP.dsub (FP.dadd (hs'.getD jx 0) x) (hs'.getD jx 0))))), .second, .val (.double (FP.dadd (FP.dadd (FP.dsub (hs'.getD jx 0) (FP.dsub (FP.dadd (hs'.getD jx 0) x) (FP.dsub (FP.dadd (hs'.getD jx 0) x) (hs'.getD jx 0)))) (FP.dsub x (FP.dsub (FP.dadd (hs'.getD jx 0) x) (hs'.getD jx 0)))) (ls'.getD jx 0))), .second]) (rest := []) (hb hby d5_59)
  have f10 := E_a.wr W9
  have f11 := Fh_a.other W9 (Or.inl ne_a_ha)
  have f12 := Fl_a.other W9 (Or.inl ne_a_ha)
  have f14 := Vl_a.other W9 (Ne.symm ne_ha_la)
  have N9 := Fr.snoc X9 N0 g_ha
  have K9 : Keep h0 h9 [ha, la] := K0.wr W9 (Or.inl (List.mem_of_getElem? (i := 0) rfl))
  have g9 : own_Go p e below s₁ (entryFrame m #[(.ref a), (.int i), (.ref b), (.int j), (.double x)] 16) T9 (mkF m 60 #[.val (.ref a), .val (.int i), .val (.ref b), .val (.int j), .val (.double x), .second, .val (.double (hs'.getD jx 0)), .second, .val (.double (FP.dadd (hs'.getD jx 0) x)), .second, .val (.double (FP.dsub (FP.dadd (hs'.getD jx 0) x) (hs'.getD jx 0))), .second, .val (.double (FP.dadd (FP.dsub (hs'.getD jx 0) (FP.dsub (FP.dadd (hs'.getD jx 0) x) (FP.dsub (FP.dadd (hs'.getD jx 0) x) (hs'.getD jx 0)))) (FP.dsub x (FP.dsub (FP.dadd (hs'.getD jx 0) x) (hs'.getD jx 0))))), .second, .val (.double (FP.dadd (FP.dadd (FP.dsub (hs'.getD jx 0) (FP.dsub (FP.dadd (hs'.getD jx 0) x) (FP.dsub (FP.dadd (hs'.getD jx 0) x) (hs'.getD jx 0)))) (FP.dsub x (FP.dsub (FP.dadd (hs'.getD jx 0) x) (hs'.getD jx 0)))) (ls'.getD jx 0))), .second] []) := fun t kt => g8 t (st9 _ kt)
  have g15 : own_Go p e below s₁ (entryFrame m #[(.ref a), (.int i), (.ref b), (.int j), (.double x)] 16) T9 (mkF m 61 #[.val (.ref a), .val (.int i), .val (.ref b), .val (.int j), .val (.double x), .second, .val (.double (hs'.getD jx 0)), .second, .val (.double (FP.dadd (hs'.getD jx 0) x)), .second, .val (.double (FP.dsub (FP.dadd (hs'.getD jx 0) x) (hs'.getD jx 0))), .second, .val (.double (FP.dadd (FP.dsub (hs'.getD jx 0) (FP.dsub (FP.dadd (hs'.getD jx 0) x) (FP.dsub (FP.dadd (hs'.getD jx 0) x) (hs'.getD jx 0)))) (FP.dsub x (FP.dsub (FP.dadd (hs'.getD jx 0) x) (hs'.getD jx 0))))), .second, .val (.double (FP.dadd (FP.dadd (FP.dsub (hs'.getD jx 0) (FP.dsub (FP.dadd (hs'.getD jx 0) x) (FP.dsub (FP.dadd (hs'.getD jx 0) x) (hs'.getD jx 0)))) (FP.dsub x (FP.dsub (FP.dadd (hs'.getD jx 0) x) (hs'.getD jx 0)))) (ls'.getD jx 0))), .second] [(.ref a)]) := fun t kt => g9 t (by
    show Steps p.tables e below (T9.setTop (mkF m 60 #[.val (.ref a), .val (.int i), .val (.ref b), .val (.int j), .val (.double x), .second, .val (.double (hs'.getD jx 0)), .second, .val (.double (FP.dadd (hs'.getD jx 0) x)), .second, .val (.double (FP.dsub (FP.dadd (hs'.getD jx 0) x) (hs'.getD jx 0))), .second, .val (.double (FP.dadd (FP.dsub (hs'.getD jx 0) (FP.dsub (FP.dadd (hs'.getD jx 0) x) (FP.dsub (FP.dadd (hs'.getD jx 0) x) (hs'.getD jx 0)))) (FP.dsub x (FP.dsub (FP.dadd (hs'.getD jx 0) x) (hs'.getD jx 0))))), .second, .val (.double (FP.dadd (FP.dadd (FP.dsub (hs'.getD jx 0) (FP.dsub (FP.dadd (hs'.getD jx 0) x) (FP.dsub (FP.dadd (hs'.getD jx 0) x) (hs'.getD jx 0)))) (FP.dsub x (FP.dsub (FP.dadd (hs'.getD jx 0) x) (hs'.getD jx 0)))) (ls'.getD jx 0))), .second] [])) _
    refine XS.aloadN X9.here hx rfl (hb hby d5_60) rfl rfl ?_
    exact kt)
  obtain ⟨T16, X16, e16, st16⟩ := getF X9 hx hZ hown (host := "") (Or.inl (hw _ (List.mem_of_getElem? (i := 15) rfl))) Via.refl e9 f12 (g := (mkF m 61 #[.val (.ref a), .val (.int i), .val (.ref b), .val (.int j), .val (.double x), .second, .val (.double (hs'.getD jx 0)), .second, .val (.double (FP.dadd (hs'.getD jx 0) x)), .second, .val (.double (FP.dsub (FP.dadd (hs'.getD jx 0) x) (hs'.getD jx 0))), .second, .val (.double (FP.dadd (FP.dsub (hs'.getD jx 0) (FP.dsub (FP.dadd (hs'.getD jx 0) x) (FP.dsub (FP.dadd (hs'.getD jx 0) x) (hs'.getD jx 0)))) (FP.dsub x (FP.dsub (FP.dadd (hs'.getD jx 0) x) (hs'.getD jx 0))))), .second, .val (.double (FP.dadd (FP.dadd (FP.dsub (hs'.getD jx 0) (FP.dsub (FP.dadd (hs'.getD jx 0) x) (FP.dsub (FP.dadd (hs'.getD jx 0) x) (hs'.getD jx 0)))) (FP.dsub x (FP.dsub (FP.dadd (hs'.getD jx 0) x) (hs'.getD jx 0)))) (ls'.getD jx 0))), .second] [(.ref a)])) rfl rfl (hb hby d5_61)
  have g16 : own_Go p e below s₁ (entryFrame m #[(.ref a), (.int i), (.ref b), (.int j), (.double x)] 16) T16 (mkF m 64 #[.val (.ref a), .val (.int i), .val (.ref b), .val (.int j), .val (.double x), .second, .val (.double (hs'.getD jx 0)), .second, .val (.double (FP.dadd (hs'.getD jx 0) x)), .second, .val (.double (FP.dsub (FP.dadd (hs'.getD jx 0) x) (hs'.getD jx 0))), .second, .val (.double (FP.dadd (FP.dsub (hs'.getD jx 0) (FP.dsub (FP.dadd (hs'.getD jx 0) x) (FP.dsub (FP.dadd (hs'.getD jx 0) x) (hs'.getD jx 0)))) (FP.dsub x (FP.dsub (FP.dadd (hs'.getD jx 0) x) (hs'.getD jx 0))))), .second, .val (.double (FP.dadd (FP.dadd (FP.dsub (hs'.getD jx 0) (FP.dsub (FP.dadd (hs'.getD jx 0) x) (FP.dsub (FP.dadd (hs'.getD jx 0) x) (hs'.getD jx 0)))) (FP.dsub x (FP.dsub (FP.dadd (hs'.getD jx 0) x) (hs'.getD jx 0)))) (ls'.getD jx 0))), .second] [(.ref la)]) := fun t kt => g15 t (st16 _ kt)
  have g17 : own_Go p e below s₁ (entryFrame m #[(.ref a), (.int i), (.ref b), (.int j), (.double x)] 16) T16 (mkF m 68 #[.val (.ref a), .val (.int i), .val (.ref b), .val (.int j), .val (.double x), .second, .val (.double (hs'.getD jx 0)), .second, .val (.double (FP.dadd (hs'.getD jx 0) x)), .second, .val (.double (FP.dsub (FP.dadd (hs'.getD jx 0) x) (hs'.getD jx 0))), .second, .val (.double (FP.dadd (FP.dsub (hs'.getD jx 0) (FP.dsub (FP.dadd (hs'.getD jx 0) x) (FP.dsub (FP.dadd (hs'.getD jx 0) x) (hs'.getD jx 0)))) (FP.dsub x (FP.dsub (FP.dadd (hs'.getD jx 0) x) (hs'.getD jx 0))))), .second, .val (.double (FP.dadd (FP.dadd (FP.dsub (hs'.getD jx 0) (FP.dsub (FP.dadd (hs'.getD jx 0) x) (FP.dsub (FP.dadd (hs'.getD jx 0) x) (hs'.getD jx 0)))) (FP.dsub x (FP.dsub (FP.dadd (hs'.getD jx 0) x) (hs'.getD jx 0)))) (ls'.getD jx 0))), .second] [(.ref a), (.double (FP.dadd (FP.dadd (FP.dsub (hs'.getD jx 0) (FP.dsub (FP.dadd (hs'.getD jx 0) x) (FP.dsub (FP.dadd (hs'.getD jx 0) x) (hs'.getD jx 0)))) (FP.dsub x (FP.dsub (FP.dadd (hs'.getD jx 0) x) (hs'.getD jx 0)))) (ls'.getD jx 0))), (.int i), (.ref la)]) := fun t kt => g16 t (by
    show Steps p.tables e below (T16.setTop (mkF m 64 #[.val (.ref a), .val (.int i), .val (.ref b), .val (.int j), .val (.double x), .second, .val (.double (hs'.getD jx 0)), .second, .val (.double (FP.dadd (hs'.getD jx 0) x)), .second, .val (.double (FP.dsub (FP.dadd (hs'.getD jx 0) x) (hs'.getD jx 0))), .second, .val (.double (FP.dadd (FP.dsub (hs'.getD jx 0) (FP.dsub (FP.dadd (hs'.getD jx 0) x) (FP.dsub (FP.dadd (hs'.getD jx 0) x) (hs'.getD jx 0)))) (FP.dsub x (FP.dsub (FP.dadd (hs'.getD jx 0) x) (hs'.getD jx 0))))), .second, .val (.double (FP.dadd (FP.dadd (FP.dsub (hs'.getD jx 0) (FP.dsub (FP.dadd (hs'.getD jx 0) x) (FP.dsub (FP.dadd (hs'.getD jx 0) x) (hs'.getD jx 0)))) (FP.dsub x (FP.dsub (FP.dadd (hs'.getD jx 0) x) (hs'.getD jx 0)))) (ls'.getD jx 0))), .second] [(.ref la)])) _
    refine XS.iloadN X16.here hx rfl (hb hby d5_64) rfl ?_
    show Steps p.tables e below (T16.setTop (mkF m 65 #[.val (.ref a), .val (.int i), .val (.ref b), .val (.int j), .val (.double x), .second, .val (.double (hs'.getD jx 0)), .second, .val (.double (FP.dadd (hs'.getD jx 0) x)), .second, .val (.double (FP.dsub (FP.dadd (hs'.getD jx 0) x) (hs'.getD jx 0))), .second, .val (.double (FP.dadd (FP.dsub (hs'.getD jx 0) (FP.dsub (FP.dadd (hs'.getD jx 0) x) (FP.dsub (FP.dadd (hs'.getD jx 0) x) (hs'.getD jx 0)))) (FP.dsub x (FP.dsub (FP.dadd (hs'.getD jx 0) x) (hs'.getD jx 0))))), .second, .val (.double (FP.dadd (FP.dadd (FP.dsub (hs'.getD jx 0) (FP.dsub (FP.dadd (hs'.getD jx 0) x) (FP.dsub (FP.dadd (hs'.getD jx 0) x) (hs'.getD jx 0)))) (FP.dsub x (FP.dsub (FP.dadd (hs'.getD jx 0) x) (hs'.getD jx 0)))) (ls'.getD jx 0))), .second] [(.int i), (.ref la)])) _
    refine XS.dload X16.here hx rfl (hb hby d5_65) rfl ?_
    show Steps p.tables e below (T16.setTop (mkF m 67 #[.val (.ref a), .val (.int i), .val (.ref b), .val (.int j), .val (.double x), .second, .val (.double (hs'.getD jx 0)), .second, .val (.double (FP.dadd (hs'.getD jx 0) x)), .second, .val (.double (FP.dsub (FP.dadd (hs'.getD jx 0) x) (hs'.getD jx 0))), .second, .val (.double (FP.dadd (FP.dsub (hs'.getD jx 0) (FP.dsub (FP.dadd (hs'.getD jx 0) x) (FP.dsub (FP.dadd (hs'.getD jx 0) x) (hs'.getD jx 0)))) (FP.dsub x (FP.dsub (FP.dadd (hs'.getD jx 0) x) (hs'.getD jx 0))))), .second, .val (.double (FP.dadd (FP.dadd (FP.dsub (hs'.getD jx 0) (FP.dsub (FP.dadd (hs'.getD jx 0) x) (FP.dsub (FP.dadd (hs'.getD jx 0) x) (hs'.getD jx 0)))) (FP.dsub x (FP.dsub (FP.dadd (hs'.getD jx 0) x) (hs'.getD jx 0)))) (ls'.getD jx 0))), .second] [(.double (FP.dadd (FP.dadd (FP.dsub (hs'.getD jx 0) (FP.dsub (FP.dadd (hs'.getD jx 0) x) (FP.dsub (FP.dadd (hs'.getD jx 0) x) (hs'.getD jx 0)))) (FP.dsub x (FP.dsub (FP.dadd (hs'.getD jx 0) x) (hs'.getD jx 0)))) (ls'.getD jx 0))), (.int i), (.ref la)])) _
    refine XS.aloadN X16.here hx rfl (hb hby d5_67) rfl rfl ?_
    exact kt)
  obtain ⟨T18, X18, e18, st18⟩ := getF X16 hx hZ hown (host := "") (Or.inl (hw _ (List.mem_of_getElem? (i := 13) rfl))) Via.refl e16 f11 (g := (mkF m 68 #[.val (.ref a), .val (.int i), .val (.ref b), .val (.int j), .val (.double x), .second, .val (.double (hs'.getD jx 0)), .second, .val (.double (FP.dadd (hs'.getD jx 0) x)), .second, .val (.double (FP.dsub (FP.dadd (hs'.getD jx 0) x) (hs'.getD jx 0))), .second, .val (.double (FP.dadd (FP.dsub (hs'.getD jx 0) (FP.dsub (FP.dadd (hs'.getD jx 0) x) (FP.dsub (FP.dadd (hs'.getD jx 0) x) (hs'.getD jx 0)))) (FP.dsub x (FP.dsub (FP.dadd (hs'.getD jx 0) x) (hs'.getD jx 0))))), .second, .val (.double (FP.dadd (FP.dadd (FP.dsub (hs'.getD jx 0) (FP.dsub (FP.dadd (hs'.getD jx 0) x) (FP.dsub (FP.dadd (hs'.getD jx 0) x) (hs'.getD jx 0)))) (FP.dsub x (FP.dsub (FP.dadd (hs'.getD jx 0) x) (hs'.getD jx 0)))) (ls'.getD jx 0))), .second] [(.ref a), (.double (FP.dadd (FP.dadd (FP.dsub (hs'.getD jx 0) (FP.dsub (FP.dadd (hs'.getD jx 0) x) (FP.dsub (FP.dadd (hs'.getD jx 0) x) (hs'.getD jx 0)))) (FP.dsub x (FP.dsub (FP.dadd (hs'.getD jx 0) x) (hs'.getD jx 0)))) (ls'.getD jx 0))), (.int i), (.ref la)])) rfl rfl (hb hby d5_68)
  have g18 : own_Go p e below s₁ (entryFrame m #[(.ref a), (.int i), (.ref b), (.int j), (.double x)] 16) T18 (mkF m 71 #[.val (.ref a), .val (.int i), .val (.ref b), .val (.int j), .val (.double x), .second, .val (.double (hs'.getD jx 0)), .second, .val (.double (FP.dadd (hs'.getD jx 0) x)), .second, .val (.double (FP.dsub (FP.dadd (hs'.getD jx 0) x) (hs'.getD jx 0))), .second, .val (.double (FP.dadd (FP.dsub (hs'.getD jx 0) (FP.dsub (FP.dadd (hs'.getD jx 0) x) (FP.dsub (FP.dadd (hs'.getD jx 0) x) (hs'.getD jx 0)))) (FP.dsub x (FP.dsub (FP.dadd (hs'.getD jx 0) x) (hs'.getD jx 0))))), .second, .val (.double (FP.dadd (FP.dadd (FP.dsub (hs'.getD jx 0) (FP.dsub (FP.dadd (hs'.getD jx 0) x) (FP.dsub (FP.dadd (hs'.getD jx 0) x) (hs'.getD jx 0)))) (FP.dsub x (FP.dsub (FP.dadd (hs'.getD jx 0) x) (hs'.getD jx 0)))) (ls'.getD jx 0))), .second] [(.ref ha), (.double (FP.dadd (FP.dadd (FP.dsub (hs'.getD jx 0) (FP.dsub (FP.dadd (hs'.getD jx 0) x) (FP.dsub (FP.dadd (hs'.getD jx 0) x) (hs'.getD jx 0)))) (FP.dsub x (FP.dsub (FP.dadd (hs'.getD jx 0) x) (hs'.getD jx 0)))) (ls'.getD jx 0))), (.int i), (.ref la)]) := fun t kt => g17 t (st18 _ kt)
  have g19 : own_Go p e below s₁ (entryFrame m #[(.ref a), (.int i), (.ref b), (.int j), (.double x)] 16) T18 (mkF m 73 #[.val (.ref a), .val (.int i), .val (.ref b), .val (.int j), .val (.double x), .second, .val (.double (hs'.getD jx 0)), .second, .val (.double (FP.dadd (hs'.getD jx 0) x)), .second, .val (.double (FP.dsub (FP.dadd (hs'.getD jx 0) x) (hs'.getD jx 0))), .second, .val (.double (FP.dadd (FP.dsub (hs'.getD jx 0) (FP.dsub (FP.dadd (hs'.getD jx 0) x) (FP.dsub (FP.dadd (hs'.getD jx 0) x) (hs'.getD jx 0)))) (FP.dsub x (FP.dsub (FP.dadd (hs'.getD jx 0) x) (hs'.getD jx 0))))), .second, .val (.double (FP.dadd (FP.dadd (FP.dsub (hs'.getD jx 0) (FP.dsub (FP.dadd (hs'.getD jx 0) x) (FP.dsub (FP.dadd (hs'.getD jx 0) x) (hs'.getD jx 0)))) (FP.dsub x (FP.dsub (FP.dadd (hs'.getD jx 0) x) (hs'.getD jx 0)))) (ls'.getD jx 0))), .second] [(.double ((hs.set ix (FP.dadd (FP.dadd (hs'.getD jx 0) x) (FP.dadd (FP.dadd (FP.dsub (hs'.getD jx 0) (FP.dsub (FP.dadd (hs'.getD jx 0) x) (FP.dsub (FP.dadd (hs'.getD jx 0) x) (hs'.getD jx 0)))) (FP.dsub x (FP.dsub (FP.dadd (hs'.getD jx 0) x) (hs'.getD jx 0)))) (ls'.getD jx 0)))).getD ix 0)), (.double (FP.dadd (FP.dadd (FP.dsub (hs'.getD jx 0) (FP.dsub (FP.dadd (hs'.getD jx 0) x) (FP.dsub (FP.dadd (hs'.getD jx 0) x) (hs'.getD jx 0)))) (FP.dsub x (FP.dsub (FP.dadd (hs'.getD jx 0) x) (hs'.getD jx 0)))) (ls'.getD jx 0))), (.int i), (.ref la)]) := fun t kt => g18 t (by
    show Steps p.tables e below (T18.setTop (mkF m 71 #[.val (.ref a), .val (.int i), .val (.ref b), .val (.int j), .val (.double x), .second, .val (.double (hs'.getD jx 0)), .second, .val (.double (FP.dadd (hs'.getD jx 0) x)), .second, .val (.double (FP.dsub (FP.dadd (hs'.getD jx 0) x) (hs'.getD jx 0))), .second, .val (.double (FP.dadd (FP.dsub (hs'.getD jx 0) (FP.dsub (FP.dadd (hs'.getD jx 0) x) (FP.dsub (FP.dadd (hs'.getD jx 0) x) (hs'.getD jx 0)))) (FP.dsub x (FP.dsub (FP.dadd (hs'.getD jx 0) x) (hs'.getD jx 0))))), .second, .val (.double (FP.dadd (FP.dadd (FP.dsub (hs'.getD jx 0) (FP.dsub (FP.dadd (hs'.getD jx 0) x) (FP.dsub (FP.dadd (hs'.getD jx 0) x) (hs'.getD jx 0)))) (FP.dsub x (FP.dsub (FP.dadd (hs'.getD jx 0) x) (hs'.getD jx 0)))) (ls'.getD jx 0))), .second] [(.ref ha), (.double (FP.dadd (FP.dadd (FP.dsub (hs'.getD jx 0) (FP.dsub (FP.dadd (hs'.getD jx 0) x) (FP.dsub (FP.dadd (hs'.getD jx 0) x) (hs'.getD jx 0)))) (FP.dsub x (FP.dsub (FP.dadd (hs'.getD jx 0) x) (hs'.getD jx 0)))) (ls'.getD jx 0))), (.int i), (.ref la)])) _
    refine XS.iloadN X18.here hx rfl (hb hby d5_71) rfl ?_
    show Steps p.tables e below (T18.setTop (mkF m 72 #[.val (.ref a), .val (.int i), .val (.ref b), .val (.int j), .val (.double x), .second, .val (.double (hs'.getD jx 0)), .second, .val (.double (FP.dadd (hs'.getD jx 0) x)), .second, .val (.double (FP.dsub (FP.dadd (hs'.getD jx 0) x) (hs'.getD jx 0))), .second, .val (.double (FP.dadd (FP.dsub (hs'.getD jx 0) (FP.dsub (FP.dadd (hs'.getD jx 0) x) (FP.dsub (FP.dadd (hs'.getD jx 0) x) (hs'.getD jx 0)))) (FP.dsub x (FP.dsub (FP.dadd (hs'.getD jx 0) x) (hs'.getD jx 0))))), .second, .val (.double (FP.dadd (FP.dadd (FP.dsub (hs'.getD jx 0) (FP.dsub (FP.dadd (hs'.getD jx 0) x) (FP.dsub (FP.dadd (hs'.getD jx 0) x) (hs'.getD jx 0)))) (FP.dsub x (FP.dsub (FP.dadd (hs'.getD jx 0) x) (hs'.getD jx 0)))) (ls'.getD jx 0))), .second] [(.int i), (.ref ha), (.double (FP.dadd (FP.dadd (FP.dsub (hs'.getD jx 0) (FP.dsub (FP.dadd (hs'.getD jx 0) x) (FP.dsub (FP.dadd (hs'.getD jx 0) x) (hs'.getD jx 0)))) (FP.dsub x (FP.dsub (FP.dadd (hs'.getD jx 0) x) (hs'.getD jx 0)))) (ls'.getD jx 0))), (.int i), (.ref la)])) _
    refine own_ldD X18 hx hZ e18 V9 ix hi (by simp only [List.length_set]; rw [ln_a]; exact hix) (hb hby d5_72) _ ?_
    exact kt)
  have g20 : own_Go p e below s₁ (entryFrame m #[(.ref a), (.int i), (.ref b), (.int j), (.double x)] 16) T18 (mkF m 73 #[.val (.ref a), .val (.int i), .val (.ref b), .val (.int j), .val (.double x), .second, .val (.double (hs'.getD jx 0)), .second, .val (.double (FP.dadd (hs'.getD jx 0) x)), .second, .val (.double (FP.dsub (FP.dadd (hs'.getD jx 0) x) (hs'.getD jx 0))), .second, .val (.double (FP.dadd (FP.dsub (hs'.getD jx 0) (FP.dsub (FP.dadd (hs'.getD jx 0) x) (FP.dsub (FP.dadd (hs'.getD jx 0) x) (hs'.getD jx 0)))) (FP.dsub x (FP.dsub (FP.dadd (hs'.getD jx 0) x) (hs'.getD jx 0))))), .second, .val (.double (FP.dadd (FP.dadd (FP.dsub (hs'.getD jx 0) (FP.dsub (FP.dadd (hs'.getD jx 0) x) (FP.dsub (FP.dadd (hs'.getD jx 0) x) (hs'.getD jx 0)))) (FP.dsub x (FP.dsub (FP.dadd (hs'.getD jx 0) x) (hs'.getD jx 0)))) (ls'.getD jx 0))), .second] [(.double (FP.dadd (FP.dadd (hs'.getD jx 0) x) (FP.dadd (FP.dadd (FP.dsub (hs'.getD jx 0) (FP.dsub (FP.dadd (hs'.getD jx 0) x) (FP.dsub (FP.dadd (hs'.getD jx 0) x) (hs'.getD jx 0)))) (FP.dsub x (FP.dsub (FP.dadd (hs'.getD jx 0) x) (hs'.getD jx 0)))) (ls'.getD jx 0)))), (.double (FP.dadd (FP.dadd (FP.dsub (hs'.getD jx 0) (FP.dsub (FP.dadd (hs'.getD jx 0) x) (FP.dsub (FP.dadd (hs'.getD jx 0) x) (hs'.getD jx 0)))) (FP.dsub x (FP.dsub (FP.dadd (hs'.getD jx 0) x) (hs'.getD jx 0)))) (ls'.getD jx 0))), (.int i), (.ref la)]) := by have hcv := g19; rw [show ((hs.set ix (FP.dadd (FP.dadd (hs'.getD jx 0) x) (FP.dadd (FP.dadd (FP.dsub (hs'.getD jx 0) (FP.dsub (FP.dadd (hs'.getD jx 0) x) (FP.dsub (FP.dadd (hs'.getD jx 0) x) (hs'.getD jx 0)))) (FP.dsub x (FP.dsub (FP.dadd (hs'.getD jx 0) x) (hs'.getD jx 0)))) (ls'.getD jx 0)))).getD ix 0) = (FP.dadd (FP.dadd (hs'.getD jx 0) x) (FP.dadd (FP.dadd (FP.dsub (hs'.getD jx 0) (FP.dsub (FP.dadd (hs'.getD jx 0) x) (FP.dsub (FP.dadd (hs'.getD jx 0) x) (hs'.getD jx 0)))) (FP.dsub x (FP.dsub (FP.dadd (hs'.getD jx 0) x) (hs'.getD jx 0)))) (ls'.getD jx 0))) from own_set_get hs ix _ (by rw [ln_a]; exact hix)] at hcv; exact hcv
  have g21 : own_Go p e below s₁ (entryFrame m #[(.ref a), (.int i), (.ref b), (.int j), (.double x)] 16) T18 (mkF m 77 #[.val (.ref a), .val (.int i), .val (.ref b), .val (.int j), .val (.double x), .second, .val (.double (hs'.getD jx 0)), .second, .val (.double (FP.dadd (hs'.getD jx 0) x)), .second, .val (.double (FP.dsub (FP.dadd (hs'.getD jx 0) x) (hs'.getD jx 0))), .second, .val (.double (FP.dadd (FP.dsub (hs'.getD jx 0) (FP.dsub (FP.dadd (hs'.getD jx 0) x) (FP.dsub (FP.dadd (hs'.getD jx 0) x) (hs'.getD jx 0)))) (FP.dsub x (FP.dsub (FP.dadd (hs'.getD jx 0) x) (hs'.getD jx 0))))), .second, .val (.double (FP.dadd (FP.dadd (FP.dsub (hs'.getD jx 0) (FP.dsub (FP.dadd (hs'.getD jx 0) x) (FP.dsub (FP.dadd (hs'.getD jx 0) x) (hs'.getD jx 0)))) (FP.dsub x (FP.dsub (FP.dadd (hs'.getD jx 0) x) (hs'.getD jx 0)))) (ls'.getD jx 0))), .second] [(.double (FP.dsub (FP.dadd (FP.dadd (FP.dsub (hs'.getD jx 0) (FP.dsub (FP.dadd (hs'.getD jx 0) x) (FP.dsub (FP.dadd (hs'.getD jx 0) x) (hs'.getD jx 0)))) (FP.dsub x (FP.dsub (FP.dadd (hs'.getD jx 0) x) (hs'.getD jx 0)))) (ls'.getD jx 0)) (FP.dsub (FP.dadd (FP.dadd (hs'.getD jx 0) x) (FP.dadd (FP.dadd (FP.dsub (hs'.getD jx 0) (FP.dsub (FP.dadd (hs'.getD jx 0) x) (FP.dsub (FP.dadd (hs'.getD jx 0) x) (hs'.getD jx 0)))) (FP.dsub x (FP.dsub (FP.dadd (hs'.getD jx 0) x) (hs'.getD jx 0)))) (ls'.getD jx 0))) (FP.dadd (hs'.getD jx 0) x)))), (.int i), (.ref la)]) := fun t kt => g20 t (by
    show Steps p.tables e below (T18.setTop (mkF m 73 #[.val (.ref a), .val (.int i), .val (.ref b), .val (.int j), .val (.double x), .second, .val (.double (hs'.getD jx 0)), .second, .val (.double (FP.dadd (hs'.getD jx 0) x)), .second, .val (.double (FP.dsub (FP.dadd (hs'.getD jx 0) x) (hs'.getD jx 0))), .second, .val (.double (FP.dadd (FP.dsub (hs'.getD jx 0) (FP.dsub (FP.dadd (hs'.getD jx 0) x) (FP.dsub (FP.dadd (hs'.getD jx 0) x) (hs'.getD jx 0)))) (FP.dsub x (FP.dsub (FP.dadd (hs'.getD jx 0) x) (hs'.getD jx 0))))), .second, .val (.double (FP.dadd (FP.dadd (FP.dsub (hs'.getD jx 0) (FP.dsub (FP.dadd (hs'.getD jx 0) x) (FP.dsub (FP.dadd (hs'.getD jx 0) x) (hs'.getD jx 0)))) (FP.dsub x (FP.dsub (FP.dadd (hs'.getD jx 0) x) (hs'.getD jx 0)))) (ls'.getD jx 0))), .second] [(.double (FP.dadd (FP.dadd (hs'.getD jx 0) x) (FP.dadd (FP.dadd (FP.dsub (hs'.getD jx 0) (FP.dsub (FP.dadd (hs'.getD jx 0) x) (FP.dsub (FP.dadd (hs'.getD jx 0) x) (hs'.getD jx 0)))) (FP.dsub x (FP.dsub (FP.dadd (hs'.getD jx 0) x) (hs'.getD jx 0)))) (ls'.getD jx 0)))), (.double (FP.dadd (FP.dadd (FP.dsub (hs'.getD jx 0) (FP.dsub (FP.dadd (hs'.getD jx 0) x) (FP.dsub (FP.dadd (hs'.getD jx 0) x) (hs'.getD jx 0)))) (FP.dsub x (FP.dsub (FP.dadd (hs'.getD jx 0) x) (hs'.getD jx 0)))) (ls'.getD jx 0))), (.int i), (.ref la)])) _
    refine XS.dload X18.here hx rfl (hb hby d5_73) rfl ?_
    show Steps p.tables e below (T18.setTop (mkF m 75 #[.val (.ref a), .val (.int i), .val (.ref b), .val (.int j), .val (.double x), .second, .val (.double (hs'.getD jx 0)), .second, .val (.double (FP.dadd (hs'.getD jx 0) x)), .second, .val (.double (FP.dsub (FP.dadd (hs'.getD jx 0) x) (hs'.getD jx 0))), .second, .val (.double (FP.dadd (FP.dsub (hs'.getD jx 0) (FP.dsub (FP.dadd (hs'.getD jx 0) x) (FP.dsub (FP.dadd (hs'.getD jx 0) x) (hs'.getD jx 0)))) (FP.dsub x (FP.dsub (FP.dadd (hs'.getD jx 0) x) (hs'.getD jx 0))))), .second, .val (.double (FP.dadd (FP.dadd (FP.dsub (hs'.getD jx 0) (FP.dsub (FP.dadd (hs'.getD jx 0) x) (FP.dsub (FP.dadd (hs'.getD jx 0) x) (hs'.getD jx 0)))) (FP.dsub x (FP.dsub (FP.dadd (hs'.getD jx 0) x) (hs'.getD jx 0)))) (ls'.getD jx 0))), .second] [(.double (FP.dadd (hs'.getD jx 0) x)), (.double (FP.dadd (FP.dadd (hs'.getD jx 0) x) (FP.dadd (FP.dadd (FP.dsub (hs'.getD jx 0) (FP.dsub (FP.dadd (hs'.getD jx 0) x) (FP.dsub (FP.dadd (hs'.getD jx 0) x) (hs'.getD jx 0)))) (FP.dsub x (FP.dsub (FP.dadd (hs'.getD jx 0) x) (hs'.getD jx 0)))) (ls'.getD jx 0)))), (.double (FP.dadd (FP.dadd (FP.dsub (hs'.getD jx 0) (FP.dsub (FP.dadd (hs'.getD jx 0) x) (FP.dsub (FP.dadd (hs'.getD jx 0) x) (hs'.getD jx 0)))) (FP.dsub x (FP.dsub (FP.dadd (hs'.getD jx 0) x) (hs'.getD jx 0)))) (ls'.getD jx 0))), (.int i), (.ref la)])) _
    refine XS.dsubS X18.here hx rfl (hb hby d5_75) rfl n9 rfl ?_
    show Steps p.tables e below (T18.setTop (mkF m 76 #[.val (.ref a), .val (.int i), .val (.ref b), .val (.int j), .val (.double x), .second, .val (.double (hs'.getD jx 0)), .second, .val (.double (FP.dadd (hs'.getD jx 0) x)), .second, .val (.double (FP.dsub (FP.dadd (hs'.getD jx 0) x) (hs'.getD jx 0))), .second, .val (.double (FP.dadd (FP.dsub (hs'.getD jx 0) (FP.dsub (FP.dadd (hs'.getD jx 0) x) (FP.dsub (FP.dadd (hs'.getD jx 0) x) (hs'.getD jx 0)))) (FP.dsub x (FP.dsub (FP.dadd (hs'.getD jx 0) x) (hs'.getD jx 0))))), .second, .val (.double (FP.dadd (FP.dadd (FP.dsub (hs'.getD jx 0) (FP.dsub (FP.dadd (hs'.getD jx 0) x) (FP.dsub (FP.dadd (hs'.getD jx 0) x) (hs'.getD jx 0)))) (FP.dsub x (FP.dsub (FP.dadd (hs'.getD jx 0) x) (hs'.getD jx 0)))) (ls'.getD jx 0))), .second] [(.double (FP.dsub (FP.dadd (FP.dadd (hs'.getD jx 0) x) (FP.dadd (FP.dadd (FP.dsub (hs'.getD jx 0) (FP.dsub (FP.dadd (hs'.getD jx 0) x) (FP.dsub (FP.dadd (hs'.getD jx 0) x) (hs'.getD jx 0)))) (FP.dsub x (FP.dsub (FP.dadd (hs'.getD jx 0) x) (hs'.getD jx 0)))) (ls'.getD jx 0))) (FP.dadd (hs'.getD jx 0) x))), (.double (FP.dadd (FP.dadd (FP.dsub (hs'.getD jx 0) (FP.dsub (FP.dadd (hs'.getD jx 0) x) (FP.dsub (FP.dadd (hs'.getD jx 0) x) (hs'.getD jx 0)))) (FP.dsub x (FP.dsub (FP.dadd (hs'.getD jx 0) x) (hs'.getD jx 0)))) (ls'.getD jx 0))), (.int i), (.ref la)])) _
    refine XS.dsubS X18.here hx rfl (hb hby d5_76) rfl n10 rfl ?_
    exact kt)
  obtain ⟨T22, h22, X22, e22, W22, V22, st22⟩ := own_stD X18 hx hZ e18 f14 (j := i) (x := (FP.dsub (FP.dadd (FP.dadd (FP.dsub (hs'.getD jx 0) (FP.dsub (FP.dadd (hs'.getD jx 0) x) (FP.dsub (FP.dadd (hs'.getD jx 0) x) (hs'.getD jx 0)))) (FP.dsub x (FP.dsub (FP.dadd (hs'.getD jx 0) x) (hs'.getD jx 0)))) (ls'.getD jx 0)) (FP.dsub (FP.dadd (FP.dadd (hs'.getD jx 0) x) (FP.dadd (FP.dadd (FP.dsub (hs'.getD jx 0) (FP.dsub (FP.dadd (hs'.getD jx 0) x) (FP.dsub (FP.dadd (hs'.getD jx 0) x) (hs'.getD jx 0)))) (FP.dsub x (FP.dsub (FP.dadd (hs'.getD jx 0) x) (hs'.getD jx 0)))) (ls'.getD jx 0))) (FP.dadd (hs'.getD jx 0) x)))) ix hi (by rw [lm_a]; exact hix) (Ls := #[.val (.ref a), .val (.int i), .val (.ref b), .val (.int j), .val (.double x), .second, .val (.double (hs'.getD jx 0)), .second, .val (.double (FP.dadd (hs'.getD jx 0) x)), .second, .val (.double (FP.dsub (FP.dadd (hs'.getD jx 0) x) (hs'.getD jx 0))), .second, .val (.double (FP.dadd (FP.dsub (hs'.getD jx 0) (FP.dsub (FP.dadd (hs'.getD jx 0) x) (FP.dsub (FP.dadd (hs'.getD jx 0) x) (hs'.getD jx 0)))) (FP.dsub x (FP.dsub (FP.dadd (hs'.getD jx 0) x) (hs'.getD jx 0))))), .second, .val (.double (FP.dadd (FP.dadd (FP.dsub (hs'.getD jx 0) (FP.dsub (FP.dadd (hs'.getD jx 0) x) (FP.dsub (FP.dadd (hs'.getD jx 0) x) (hs'.getD jx 0)))) (FP.dsub x (FP.dsub (FP.dadd (hs'.getD jx 0) x) (hs'.getD jx 0)))) (ls'.getD jx 0))), .second]) (rest := []) (hb hby d5_77)
  have f23 := f10.wr W22
  have f24 := f11.other W22 (Or.inl ne_a_la)
  have f25 := f12.other W22 (Or.inl ne_a_la)
  have f26 := V9.other W22 ne_ha_la
  have N22 := Fr.snoc X22 N9 g_la
  have K22 : Keep h0 h22 [ha, la] := K9.wr W22 (Or.inl (List.mem_of_getElem? (i := 1) rfl))
  have g22 : own_Go p e below s₁ (entryFrame m #[(.ref a), (.int i), (.ref b), (.int j), (.double x)] 16) T22 (mkF m 78 #[.val (.ref a), .val (.int i), .val (.ref b), .val (.int j), .val (.double x), .second, .val (.double (hs'.getD jx 0)), .second, .val (.double (FP.dadd (hs'.getD jx 0) x)), .second, .val (.double (FP.dsub (FP.dadd (hs'.getD jx 0) x) (hs'.getD jx 0))), .second, .val (.double (FP.dadd (FP.dsub (hs'.getD jx 0) (FP.dsub (FP.dadd (hs'.getD jx 0) x) (FP.dsub (FP.dadd (hs'.getD jx 0) x) (hs'.getD jx 0)))) (FP.dsub x (FP.dsub (FP.dadd (hs'.getD jx 0) x) (hs'.getD jx 0))))), .second, .val (.double (FP.dadd (FP.dadd (FP.dsub (hs'.getD jx 0) (FP.dsub (FP.dadd (hs'.getD jx 0) x) (FP.dsub (FP.dadd (hs'.getD jx 0) x) (hs'.getD jx 0)))) (FP.dsub x (FP.dsub (FP.dadd (hs'.getD jx 0) x) (hs'.getD jx 0)))) (ls'.getD jx 0))), .second] []) := fun t kt => g21 t (st22 _ kt)
  obtain ⟨fs, hr, hrun, hended, hW, hsame⟩ := X22.leave (v := none) (fun _ => rfl)
  refine ⟨_, _, g22 _ (X22.returnOut hx Bd.returns (hb hby d5_78) hr), hrun, hended, _, _, rfl, ?_, ⟨_, rfl⟩, hW, hsame.mono (by decide) (by decide)⟩
  show Q_rm5 Z a x ha hk la lk n N hs ls ix (hs'.getD jx 0) (ls'.getD jx 0) h0 n0 _ T22.heap _
  rw [e22]
  exact ⟨rfl, N22, K22, ⟨f23, f24, f25, f26, V22, ne_a_ha, ne_a_la, ne_ha_la, by simpa using ln_a, by simpa using lm_a⟩⟩
theorem d6_0 : decode prog_107_method_4_code 0 = .ok (.aload_n 0, 1) := by decide +kernel
theorem d6_1 : decode prog_107_method_4_code 1 = .ok (.getfield 7, 3) := by decide +kernel
theorem d6_4 : decode prog_107_method_4_code 4 = .ok (.iload_n 1, 1) := by decide +kernel
theorem d6_5 : decode prog_107_method_4_code 5 = .ok (.daload, 1) := by decide +kernel
theorem d6_6 : decode prog_107_method_4_code 6 = .ok (.dreturn, 1) := by decide +kernel
theorem pn_6 : plainName "com/example/pincer/pincer/engine/PreciseValues" = true := by first | (simp [plainName, overriddenIn]; done) | decide +kernel
theorem ef_rm6 (m : MethodId) (x0 : Addr) (x1 : Int32) : entryFrame m #[(.ref x0), (.int x1)] 2 = mkF m 0 #[.val (.ref x0), .val (.int x1)] [] := by first | (simp [entryFrame, mkF, argsToLocals, Value.category]; done) | rfl
def Q_rm6 (Z : State) (hs : List UInt64) (ix : Nat) (h0 : Heap) (n0 : Nat) (v : Option Value) (h : Heap) (L : List Loc) : Prop := v = some (.double (hs.getD ix 0)) ∧ Fr n0 L ∧ h = h0
set_option maxRecDepth 65536 in
set_option maxHeartbeats 40000000 in
theorem rm6 (l : Launch) (Z : State) (a0 : Array Value) (hw : ∀ d ∈ tables_1, d.before a0 Z = true) (ws : List Jvm.Cond) (a : Addr) (i : Int32) (ha : Addr) (hk : ClassId) (la : Addr) (lk : ClassId) (n : Int32) (N : Nat) (hs ls : List UInt64) (ix : Nat) (h0 : Heap) (n0 : Nat) (Z0 : n0 ≤ h0.size) (M : own_PV Z h0 a ha hk la lk n N hs ls) (hi : ¬ i < 0 ∧ i.toNatClampNeg = ix) (hix : ix < N) :
    MetFree l (⟨"com/example/pincer/pincer/engine/PreciseValues", "high", "(I)D"⟩ : MethodName) (head1 (Jvm.Cond.code (⟨"com/example/pincer/pincer/engine/PreciseValues", "high", "(I)D"⟩ : MethodName) prog_107_method_4_code 2 (some .double) :: ws) ({ frames := 0, cells := 0, slots := 0, locals := 0 } : Room)) (fun args_ U => args_ = #[(.ref a), (.int i)] ∧ Z.Warmed39 U.vm ∧ U.heap = h0) (fun _ _ _ _ _ => True) (fun _ U o U' => ∃ v L, o = .returned v ∧ Q_rm6 Z hs ix h0 n0 v U'.heap L ∧ FrameEnd U o U' L (({ frames := 0, cells := 0, slots := 0, locals := 0 } : Room)).cells (({ frames := 0, cells := 0, slots := 0, locals := 0 } : Room)).slots) := by
  refine MetFree.of_bodySF (plainFor_of_name pn_6) hisR ?_
  intro p e s m args below meth c s₁ Bd hml0 hP hK
  obtain ⟨rfl, hZ, hh⟩ := hP
  have hx := Bd.exec
  have hby := Bd.bytes
  have hml : c.maxLocals = 2 := hml0
  have hown : s.vm.findClass "com/example/pincer/pincer/engine/PreciseValues" = some m.cls := findClass_of_methodNamed Bd.named
  have hnm := (name_of_methodNamed Bd.named Bd.method).1
  have X0 : Stand p l e ({ frames := 0, cells := 0, slots := 0, locals := 0 } : Room) s m #[(.ref a), (.int i)] below meth c s₁ [] 0 0 := Stand.of_body Bd
  have e0 : s₁.heap = h0 := by rw [← hh, Bd.state]; rfl
  have N0 := Fr.nil n0
  have g0 : own_Go p e below s₁ (entryFrame m #[(.ref a), (.int i)] 2) s₁ (mkF m 0 #[.val (.ref a), .val (.int i)] []) := fun t k => castTop (ef_rm6 m a i) k
  obtain ⟨E_a, Fh_a, Fl_a, Vh_a, Vl_a, ne_a_ha, ne_a_la, ne_ha_la, ln_a, lm_a⟩ := M
  have g1 : own_Go p e below s₁ (entryFrame m #[(.ref a), (.int i)] 2) s₁ (mkF m 1 #[.val (.ref a), .val (.int i)] [(.ref a)]) := fun t kt => g0 t (by
    show Steps p.tables e below (s₁.setTop (mkF m 0 #[.val (.ref a), .val (.int i)] [])) _
    refine XS.aloadN X0.here hx rfl (hb hby d6_0) rfl rfl ?_
    exact kt)
  obtain ⟨T2, X2, e2, st2⟩ := getF X0 hx hZ hown (host := "") (Or.inl (hw _ (List.mem_of_getElem? (i := 13) rfl))) Via.refl e0 Fh_a (g := (mkF m 1 #[.val (.ref a), .val (.int i)] [(.ref a)])) rfl rfl (hb hby d6_1)
  have g2 : own_Go p e below s₁ (entryFrame m #[(.ref a), (.int i)] 2) T2 (mkF m 4 #[.val (.ref a), .val (.int i)] [(.ref ha)]) := fun t kt => g1 t (st2 _ kt)
  have g3 : own_Go p e below s₁ (entryFrame m #[(.ref a), (.int i)] 2) T2 (mkF m 6 #[.val (.ref a), .val (.int i)] [(.double (hs.getD ix 0))]) := fun t kt => g2 t (by
    show Steps p.tables e below (T2.setTop (mkF m 4 #[.val (.ref a), .val (.int i)] [(.ref ha)])) _
    refine XS.iloadN X2.here hx rfl (hb hby d6_4) rfl ?_
    show Steps p.tables e below (T2.setTop (mkF m 5 #[.val (.ref a), .val (.int i)] [(.int i), (.ref ha)])) _
    refine own_ldD X2 hx hZ e2 Vh_a ix hi (by rw [ln_a]; exact hix) (hb hby d6_5) _ ?_
    exact kt)
  obtain ⟨fs, hr, hrun, hended, hW, hsame⟩ := X2.leave (v := some (.double (hs.getD ix 0))) (fun h => by rw [Bd.returns] at h; cases h)
  refine ⟨_, _, g3 _ (retOut X2 hx (i := .dreturn) Bd.returns rfl (Or.inr (Or.inr (Or.inl ⟨rfl, rfl, _, rfl⟩))) (hb hby d6_6) hr), hrun, hended, _, _, rfl, ?_, ⟨_, rfl⟩, hW, hsame.mono (by decide) (by decide)⟩
  show Q_rm6 Z hs ix h0 n0 _ T2.heap _
  rw [e2]
  exact ⟨rfl, N0, rfl⟩
theorem d7_0 : decode prog_107_method_5_code 0 = .ok (.aload_n 0, 1) := by decide +kernel
theorem d7_1 : decode prog_107_method_5_code 1 = .ok (.getfield 13, 3) := by decide +kernel
theorem d7_4 : decode prog_107_method_5_code 4 = .ok (.iload_n 1, 1) := by decide +kernel
theorem d7_5 : decode prog_107_method_5_code 5 = .ok (.daload, 1) := by decide +kernel
theorem d7_6 : decode prog_107_method_5_code 6 = .ok (.dreturn, 1) := by decide +kernel
theorem pn_7 : plainName "com/example/pincer/pincer/engine/PreciseValues" = true := by first | (simp [plainName, overriddenIn]; done) | decide +kernel
theorem ef_rm7 (m : MethodId) (x0 : Addr) (x1 : Int32) : entryFrame m #[(.ref x0), (.int x1)] 2 = mkF m 0 #[.val (.ref x0), .val (.int x1)] [] := by first | (simp [entryFrame, mkF, argsToLocals, Value.category]; done) | rfl
def Q_rm7 (Z : State) (ls : List UInt64) (ix : Nat) (h0 : Heap) (n0 : Nat) (v : Option Value) (h : Heap) (L : List Loc) : Prop := v = some (.double (ls.getD ix 0)) ∧ Fr n0 L ∧ h = h0
set_option maxRecDepth 65536 in
set_option maxHeartbeats 40000000 in
theorem rm7 (l : Launch) (Z : State) (a0 : Array Value) (hw : ∀ d ∈ tables_1, d.before a0 Z = true) (ws : List Jvm.Cond) (a : Addr) (i : Int32) (ha : Addr) (hk : ClassId) (la : Addr) (lk : ClassId) (n : Int32) (N : Nat) (hs ls : List UInt64) (ix : Nat) (h0 : Heap) (n0 : Nat) (Z0 : n0 ≤ h0.size) (M : own_PV Z h0 a ha hk la lk n N hs ls) (hi : ¬ i < 0 ∧ i.toNatClampNeg = ix) (hix : ix < N) :
    MetFree l (⟨"com/example/pincer/pincer/engine/PreciseValues", "low", "(I)D"⟩ : MethodName) (head1 (Jvm.Cond.code (⟨"com/example/pincer/pincer/engine/PreciseValues", "low", "(I)D"⟩ : MethodName) prog_107_method_5_code 2 (some .double) :: ws) ({ frames := 0, cells := 0, slots := 0, locals := 0 } : Room)) (fun args_ U => args_ = #[(.ref a), (.int i)] ∧ Z.Warmed39 U.vm ∧ U.heap = h0) (fun _ _ _ _ _ => True) (fun _ U o U' => ∃ v L, o = .returned v ∧ Q_rm7 Z ls ix h0 n0 v U'.heap L ∧ FrameEnd U o U' L (({ frames := 0, cells := 0, slots := 0, locals := 0 } : Room)).cells (({ frames := 0, cells := 0, slots := 0, locals := 0 } : Room)).slots) := by
  refine MetFree.of_bodySF (plainFor_of_name pn_7) hisR ?_
  intro p e s m args below meth c s₁ Bd hml0 hP hK
  obtain ⟨rfl, hZ, hh⟩ := hP
  have hx := Bd.exec
  have hby := Bd.bytes
  have hml : c.maxLocals = 2 := hml0
  have hown : s.vm.findClass "com/example/pincer/pincer/engine/PreciseValues" = some m.cls := findClass_of_methodNamed Bd.named
  have hnm := (name_of_methodNamed Bd.named Bd.method).1
  have X0 : Stand p l e ({ frames := 0, cells := 0, slots := 0, locals := 0 } : Room) s m #[(.ref a), (.int i)] below meth c s₁ [] 0 0 := Stand.of_body Bd
  have e0 : s₁.heap = h0 := by rw [← hh, Bd.state]; rfl
  have N0 := Fr.nil n0
  have g0 : own_Go p e below s₁ (entryFrame m #[(.ref a), (.int i)] 2) s₁ (mkF m 0 #[.val (.ref a), .val (.int i)] []) := fun t k => castTop (ef_rm7 m a i) k
  obtain ⟨E_a, Fh_a, Fl_a, Vh_a, Vl_a, ne_a_ha, ne_a_la, ne_ha_la, ln_a, lm_a⟩ := M
  have g1 : own_Go p e below s₁ (entryFrame m #[(.ref a), (.int i)] 2) s₁ (mkF m 1 #[.val (.ref a), .val (.int i)] [(.ref a)]) := fun t kt => g0 t (by
    show Steps p.tables e below (s₁.setTop (mkF m 0 #[.val (.ref a), .val (.int i)] [])) _
    refine XS.aloadN X0.here hx rfl (hb hby d7_0) rfl rfl ?_
    exact kt)
  obtain ⟨T2, X2, e2, st2⟩ := getF X0 hx hZ hown (host := "") (Or.inl (hw _ (List.mem_of_getElem? (i := 15) rfl))) Via.refl e0 Fl_a (g := (mkF m 1 #[.val (.ref a), .val (.int i)] [(.ref a)])) rfl rfl (hb hby d7_1)
  have g2 : own_Go p e below s₁ (entryFrame m #[(.ref a), (.int i)] 2) T2 (mkF m 4 #[.val (.ref a), .val (.int i)] [(.ref la)]) := fun t kt => g1 t (st2 _ kt)
  have g3 : own_Go p e below s₁ (entryFrame m #[(.ref a), (.int i)] 2) T2 (mkF m 6 #[.val (.ref a), .val (.int i)] [(.double (ls.getD ix 0))]) := fun t kt => g2 t (by
    show Steps p.tables e below (T2.setTop (mkF m 4 #[.val (.ref a), .val (.int i)] [(.ref la)])) _
    refine XS.iloadN X2.here hx rfl (hb hby d7_4) rfl ?_
    show Steps p.tables e below (T2.setTop (mkF m 5 #[.val (.ref a), .val (.int i)] [(.int i), (.ref la)])) _
    refine own_ldD X2 hx hZ e2 Vl_a ix hi (by rw [lm_a]; exact hix) (hb hby d7_5) _ ?_
    exact kt)
  obtain ⟨fs, hr, hrun, hended, hW, hsame⟩ := X2.leave (v := some (.double (ls.getD ix 0))) (fun h => by rw [Bd.returns] at h; cases h)
  refine ⟨_, _, g3 _ (retOut X2 hx (i := .dreturn) Bd.returns rfl (Or.inr (Or.inr (Or.inl ⟨rfl, rfl, _, rfl⟩))) (hb hby d7_6) hr), hrun, hended, _, _, rfl, ?_, ⟨_, rfl⟩, hW, hsame.mono (by decide) (by decide)⟩
  show Q_rm7 Z ls ix h0 n0 _ T2.heap _
  rw [e2]
  exact ⟨rfl, N0, rfl⟩
theorem d8_0 : decode method_2_code 0 = .ok (.dload_n 0, 1) := by decide +kernel
theorem d8_1 : decode method_2_code 1 = .ok (.lload 4, 2) := by decide +kernel
theorem d8_3 : decode method_2_code 3 = .ok (.l2d, 1) := by decide +kernel
theorem d8_4 : decode method_2_code 4 = .ok (.dcmp .l, 1) := by decide +kernel
theorem d8_5 : decode method_2_code 5 = .ok (.ifCond .ne 18, 3) := by decide +kernel
theorem d8_8 : decode method_2_code 8 = .ok (.dload_n 2, 1) := by decide +kernel
theorem d8_9 : decode method_2_code 9 = .ok (.lload 4, 2) := by decide +kernel
theorem d8_11 : decode method_2_code 11 = .ok (.dload_n 0, 1) := by decide +kernel
theorem d8_12 : decode method_2_code 12 = .ok (.d2l, 1) := by decide +kernel
theorem d8_13 : decode method_2_code 13 = .ok (.lsub, 1) := by decide +kernel
theorem d8_14 : decode method_2_code 14 = .ok (.l2d, 1) := by decide +kernel
theorem d8_15 : decode method_2_code 15 = .ok (.dcmp .l, 1) := by decide +kernel
theorem d8_16 : decode method_2_code 16 = .ok (.ifCond .ne 7, 3) := by decide +kernel
theorem d8_19 : decode method_2_code 19 = .ok (.iconst 1, 1) := by decide +kernel
theorem d8_20 : decode method_2_code 20 = .ok (.goto 4, 3) := by decide +kernel
theorem d8_23 : decode method_2_code 23 = .ok (.iconst 0, 1) := by decide +kernel
theorem d8_24 : decode method_2_code 24 = .ok (.ireturn, 1) := by decide +kernel
theorem pn_8 : plainName "com/example/pincer/pincer/engine/PreciseValuesSetStepPinLaw" = true := by first | (simp [plainName, overriddenIn]; done) | decide +kernel
theorem ef_rm8 (m : MethodId) (x0 : UInt64) (x1 : UInt64) (x2 : Int64) : entryFrame m #[(.double x0), (.double x1), (.long x2)] 6 = mkF m 0 #[.val (.double x0), .second, .val (.double x1), .second, .val (.long x2), .second] [] := by first | (simp [entryFrame, mkF, argsToLocals, Value.category]; done) | rfl
def Q_rm8 (Z : State) (h0 : Heap) (n0 : Nat) (v : Option Value) (h : Heap) (L : List Loc) : Prop := v = some (.int (1 : Int32)) ∧ Fr n0 L ∧ h = h0
set_option maxRecDepth 65536 in
set_option maxHeartbeats 40000000 in
theorem rm8 (l : Launch) (Z : State) (a0 : Array Value) (hw : ∀ d ∈ tables_1, d.before a0 Z = true) (ws : List Jvm.Cond) (x : UInt64) (y : UInt64) (q : Int64)  (h0 : Heap) (n0 : Nat) (Z0 : n0 ≤ h0.size) (c1 : cmpValue (FP.dcmp x (FP.l2d q)) .l = 0) (c2 : cmpValue (FP.dcmp y (FP.l2d (q - FP.d2l x))) .l = 0) :
    MetFree l (⟨"com/example/pincer/pincer/engine/PreciseValuesSetStepPinLaw", "pinned", "(DDJ)Z"⟩ : MethodName) (head1 (Jvm.Cond.code (⟨"com/example/pincer/pincer/engine/PreciseValuesSetStepPinLaw", "pinned", "(DDJ)Z"⟩ : MethodName) method_2_code 6 (some .boolean) :: ws) ({ frames := 0, cells := 0, slots := 0, locals := 0 } : Room)) (fun args_ U => args_ = #[(.double x), (.double y), (.long q)] ∧ Z.Warmed39 U.vm ∧ U.heap = h0) (fun _ _ _ _ _ => True) (fun _ U o U' => ∃ v L, o = .returned v ∧ Q_rm8 Z  h0 n0 v U'.heap L ∧ FrameEnd U o U' L (({ frames := 0, cells := 0, slots := 0, locals := 0 } : Room)).cells (({ frames := 0, cells := 0, slots := 0, locals := 0 } : Room)).slots) := by
  refine MetFree.of_bodySF (plainFor_of_name pn_8) hisR ?_
  intro p e s m args below meth c s₁ Bd hml0 hP hK
  obtain ⟨rfl, hZ, hh⟩ := hP
  have hx := Bd.exec
  have hby := Bd.bytes
  have hml : c.maxLocals = 6 := hml0
  have hown : s.vm.findClass "com/example/pincer/pincer/engine/PreciseValuesSetStepPinLaw" = some m.cls := findClass_of_methodNamed Bd.named
  have hnm := (name_of_methodNamed Bd.named Bd.method).1
  have X0 : Stand p l e ({ frames := 0, cells := 0, slots := 0, locals := 0 } : Room) s m #[(.double x), (.double y), (.long q)] below meth c s₁ [] 0 0 := Stand.of_body Bd
  have e0 : s₁.heap = h0 := by rw [← hh, Bd.state]; rfl
  have N0 := Fr.nil n0
  have g0 : own_Go p e below s₁ (entryFrame m #[(.double x), (.double y), (.long q)] 6) s₁ (mkF m 0 #[.val (.double x), .second, .val (.double y), .second, .val (.long q), .second] []) := fun t k => castTop (ef_rm8 m x y q) k
  have g1 : own_Go p e below s₁ (entryFrame m #[(.double x), (.double y), (.long q)] 6) s₁ (mkF m 24 #[.val (.double x), .second, .val (.double y), .second, .val (.long q), .second] [(.int (1 : Int32))]) := fun t kt => g0 t (by
    show Steps p.tables e below (s₁.setTop (mkF m 0 #[.val (.double x), .second, .val (.double y), .second, .val (.long q), .second] [])) _
    refine XS.dloadN X0.here hx rfl (hb hby d8_0) rfl ?_
    show Steps p.tables e below (s₁.setTop (mkF m 1 #[.val (.double x), .second, .val (.double y), .second, .val (.long q), .second] [(.double x)])) _
    refine XS.lload X0.here hx rfl (hb hby d8_1) rfl ?_
    show Steps p.tables e below (s₁.setTop (mkF m 3 #[.val (.double x), .second, .val (.double y), .second, .val (.long q), .second] [(.long q), (.double x)])) _
    refine XS.l2dS X0.here hx rfl (hb hby d8_3) rfl rfl ?_
    show Steps p.tables e below (s₁.setTop (mkF m 4 #[.val (.double x), .second, .val (.double y), .second, .val (.long q), .second] [(.double (FP.l2d q)), (.double x)])) _
    refine XS.dcmpS X0.here hx rfl (hb hby d8_4) rfl c1 ?_
    show Steps p.tables e below (s₁.setTop (mkF m 5 #[.val (.double x), .second, .val (.double y), .second, .val (.long q), .second] [(.int (0 : Int32))])) _
    refine XS.ifNo X0.here hx rfl (hb hby d8_5) rfl ((if0 _ _).trans (teq rfl).2) ?_
    show Steps p.tables e below (s₁.setTop (mkF m 8 #[.val (.double x), .second, .val (.double y), .second, .val (.long q), .second] [])) _
    refine XS.dloadN X0.here hx rfl (hb hby d8_8) rfl ?_
    show Steps p.tables e below (s₁.setTop (mkF m 9 #[.val (.double x), .second, .val (.double y), .second, .val (.long q), .second] [(.double y)])) _
    refine XS.lload X0.here hx rfl (hb hby d8_9) rfl ?_
    show Steps p.tables e below (s₁.setTop (mkF m 11 #[.val (.double x), .second, .val (.double y), .second, .val (.long q), .second] [(.long q), (.double y)])) _
    refine XS.dloadN X0.here hx rfl (hb hby d8_11) rfl ?_
    show Steps p.tables e below (s₁.setTop (mkF m 12 #[.val (.double x), .second, .val (.double y), .second, .val (.long q), .second] [(.double x), (.long q), (.double y)])) _
    refine XS.d2lS X0.here hx rfl (hb hby d8_12) rfl rfl ?_
    show Steps p.tables e below (s₁.setTop (mkF m 13 #[.val (.double x), .second, .val (.double y), .second, .val (.long q), .second] [(.long (FP.d2l x)), (.long q), (.double y)])) _
    refine XS.lsub X0.here hx rfl (hb hby d8_13) rfl ?_
    show Steps p.tables e below (s₁.setTop (mkF m 14 #[.val (.double x), .second, .val (.double y), .second, .val (.long q), .second] [(.long (q - (FP.d2l x))), (.double y)])) _
    refine XS.l2dS X0.here hx rfl (hb hby d8_14) rfl rfl ?_
    show Steps p.tables e below (s₁.setTop (mkF m 15 #[.val (.double x), .second, .val (.double y), .second, .val (.long q), .second] [(.double (FP.l2d (q - (FP.d2l x)))), (.double y)])) _
    refine XS.dcmpS X0.here hx rfl (hb hby d8_15) rfl c2 ?_
    show Steps p.tables e below (s₁.setTop (mkF m 16 #[.val (.double x), .second, .val (.double y), .second, .val (.long q), .second] [(.int (0 : Int32))])) _
    refine XS.ifNo X0.here hx rfl (hb hby d8_16) rfl ((if0 _ _).trans (teq rfl).2) ?_
    show Steps p.tables e below (s₁.setTop (mkF m 19 #[.val (.double x), .second, .val (.double y), .second, .val (.long q), .second] [])) _
    refine XS.iconst X0.here hx rfl (hb hby d8_19) ?_
    show Steps p.tables e below (s₁.setTop (mkF m 20 #[.val (.double x), .second, .val (.double y), .second, .val (.long q), .second] [(.int (1 : Int32))])) _
    refine XS.goto X0.here hx rfl (pc0 := 20) (pc' := 24) rfl (hb hby d8_20) (by decide) (by decide) ?_
    exact kt)
  obtain ⟨fs, hr, hrun, hended, hW, hsame⟩ := X0.leave (v := some (.int (1 : Int32))) (fun h => by rw [Bd.returns] at h; cases h)
  refine ⟨_, _, g1 _ (retN X0 hx (t := .boolean) Bd.returns (by simp) (hb hby d8_24) hr), hrun, hended, _, _, rfl, ?_, ⟨_, rfl⟩, hW, hsame.mono (by decide) (by decide)⟩
  show Q_rm8 Z  h0 n0 _ s₁.heap _
  rw [e0]
  exact ⟨rfl, N0, rfl⟩
theorem pn_0 : plainName "com/example/pincer/pincer/engine/PreciseValuesSetStepPinLaw" = true := by first | (simp [plainName, overriddenIn]; done) | decide +kernel
theorem pd_1 : parseMethodDescriptor "(I)V" = some ⟨[.int], none⟩ := by decide +kernel
theorem pd_2 : parseMethodDescriptor "(ID)V" = some ⟨[.int, .double], none⟩ := by decide +kernel
theorem pd_3 : parseMethodDescriptor "(ILcom/example/pincer/pincer/engine/PreciseValues;ID)V" = some ⟨[.int, (.object "com/example/pincer/pincer/engine/PreciseValues"), .int, .double], none⟩ := by decide +kernel
theorem pd_4 : parseMethodDescriptor "(I)D" = some ⟨[.int], some .double⟩ := by decide +kernel
theorem pd_5 : parseMethodDescriptor "(DDJ)Z" = some ⟨[.double, .double, .long], some .boolean⟩ := by decide +kernel
theorem ef_rm0 (m : MethodId) (x0 : Int32) (x1 : Int32) (x2 : Int32) (x3 : Int32) : entryFrame m #[(.int x0), (.int x1), (.int x2), (.int x3)] maxLocals = mkF m 0 #[.val (.int x0), .val (.int x1), .val (.int x2), .val (.int x3), .unset, .unset, .unset, .unset, .unset, .unset, .unset, .unset, .unset, .unset, .unset, .unset, .unset, .unset, .unset, .unset, .unset, .unset, .unset, .unset, .unset, .unset, .unset, .unset] [] := by first | (simp [entryFrame, mkF, argsToLocals, Value.category, maxLocals]; done) | rfl
def Q_rm0 (Z : State) (p1 p2 p3 p4 : Int32) (h0 : Heap) (n0 : Nat) (v : Option Value) (h : Heap) (L : List Loc) : Prop := v = some (.int (1 : Int32)) ∧ Fr n0 L
set_option maxRecDepth 65536 in
set_option maxHeartbeats 40000000 in
theorem rm0 (l : Launch) (Z : State) (a0 : Array Value) (hw : ∀ d ∈ tables_1, d.before a0 Z = true) (ws : List Jvm.Cond) (p1 : Int32) (p2 : Int32) (p3 : Int32) (p4 : Int32)  (h0 : Heap) (n0 : Nat) (Z0 : n0 ≤ h0.size)  :
    MetFree l x (head1 (Jvm.Cond.code x code maxLocals ret :: ws) room_1) (fun args_ U => args_ = #[(.int p1), (.int p2), (.int p3), (.int p4)] ∧ Z.Warmed39 U.vm ∧ U.heap = h0) (fun _ _ _ _ _ => True) (fun _ U o U' => ∃ v L, o = .returned v ∧ Q_rm0 Z p1 p2 p3 p4 h0 n0 v U'.heap L ∧ FrameEnd U o U' L (room_1).cells (room_1).slots) := by
  refine MetFree.of_bodySF (plainFor_of_name pn_0) hisR ?_
  intro p e s m args below meth c s₁ Bd hml0 hP hK
  obtain ⟨rfl, hZ, hh⟩ := hP
  have hx := Bd.exec
  have hby := Bd.bytes
  have hml : c.maxLocals = 28 := hml0
  have hown : s.vm.findClass "com/example/pincer/pincer/engine/PreciseValuesSetStepPinLaw" = some m.cls := findClass_of_methodNamed Bd.named
  have hnm := (name_of_methodNamed Bd.named Bd.method).1
  have X0 : Stand p l e room_1 s m #[(.int p1), (.int p2), (.int p3), (.int p4)] below meth c s₁ [] 0 0 := Stand.of_body Bd
  have e0 : s₁.heap = h0 := by rw [← hh, Bd.state]; rfl
  have N0 := Fr.nil n0
  have g0 : own_Go p e below s₁ (entryFrame m #[(.int p1), (.int p2), (.int p3), (.int p4)] maxLocals) s₁ (mkF m 0 #[.val (.int p1), .val (.int p2), .val (.int p3), .val (.int p4), .unset, .unset, .unset, .unset, .unset, .unset, .unset, .unset, .unset, .unset, .unset, .unset, .unset, .unset, .unset, .unset, .unset, .unset, .unset, .unset, .unset, .unset, .unset, .unset] []) := fun t k => castTop (ef_rm0 m p1 p2 p3 p4) k
  have K0 : Keep h0 h0 [] := Keep.refl h0 _
  have g1 : own_Go p e below s₁ (entryFrame m #[(.int p1), (.int p2), (.int p3), (.int p4)] maxLocals) s₁ (mkF m 13 #[.val (.int p1), .val (.int p2), .val (.int p3), .val (.int p4), .val (.int (p2 &&& (31 : Int32))), .val (.long ((p1.toInt64) <<< ((p2 &&& (31 : Int32)) &&& 0x3f).toInt64)), .second, .unset, .unset, .unset, .unset, .unset, .unset, .unset, .unset, .unset, .unset, .unset, .unset, .unset, .unset, .unset, .unset, .unset, .unset, .unset, .unset, .unset] []) := fun t kt => g0 t (by
    show Steps p.tables e below (s₁.setTop (mkF m 0 #[.val (.int p1), .val (.int p2), .val (.int p3), .val (.int p4), .unset, .unset, .unset, .unset, .unset, .unset, .unset, .unset, .unset, .unset, .unset, .unset, .unset, .unset, .unset, .unset, .unset, .unset, .unset, .unset, .unset, .unset, .unset, .unset] [])) _
    refine XS.iloadN X0.here hx rfl (hb hby at_0) rfl ?_
    show Steps p.tables e below (s₁.setTop (mkF m 1 #[.val (.int p1), .val (.int p2), .val (.int p3), .val (.int p4), .unset, .unset, .unset, .unset, .unset, .unset, .unset, .unset, .unset, .unset, .unset, .unset, .unset, .unset, .unset, .unset, .unset, .unset, .unset, .unset, .unset, .unset, .unset, .unset] [(.int p2)])) _
    refine XS.bipush X0.here hx rfl (hb hby at_1) ?_
    show Steps p.tables e below (s₁.setTop (mkF m 3 #[.val (.int p1), .val (.int p2), .val (.int p3), .val (.int p4), .unset, .unset, .unset, .unset, .unset, .unset, .unset, .unset, .unset, .unset, .unset, .unset, .unset, .unset, .unset, .unset, .unset, .unset, .unset, .unset, .unset, .unset, .unset, .unset] [(.int (31 : Int32)), (.int p2)])) _
    refine XS.iand X0.here hx rfl (hb hby at_3) rfl ?_
    show Steps p.tables e below (s₁.setTop (mkF m 4 #[.val (.int p1), .val (.int p2), .val (.int p3), .val (.int p4), .unset, .unset, .unset, .unset, .unset, .unset, .unset, .unset, .unset, .unset, .unset, .unset, .unset, .unset, .unset, .unset, .unset, .unset, .unset, .unset, .unset, .unset, .unset, .unset] [(.int (p2 &&& (31 : Int32)))])) _
    refine XS.istore X0.here hx rfl (hb hby at_4) rfl (l' := #[.val (.int p1), .val (.int p2), .val (.int p3), .val (.int p4), .val (.int (p2 &&& (31 : Int32))), .unset, .unset, .unset, .unset, .unset, .unset, .unset, .unset, .unset, .unset, .unset, .unset, .unset, .unset, .unset, .unset, .unset, .unset, .unset, .unset, .unset, .unset, .unset]) rfl ?_
    show Steps p.tables e below (s₁.setTop (mkF m 6 #[.val (.int p1), .val (.int p2), .val (.int p3), .val (.int p4), .val (.int (p2 &&& (31 : Int32))), .unset, .unset, .unset, .unset, .unset, .unset, .unset, .unset, .unset, .unset, .unset, .unset, .unset, .unset, .unset, .unset, .unset, .unset, .unset, .unset, .unset, .unset, .unset] [])) _
    refine XS.iloadN X0.here hx rfl (hb hby at_6) rfl ?_
    show Steps p.tables e below (s₁.setTop (mkF m 7 #[.val (.int p1), .val (.int p2), .val (.int p3), .val (.int p4), .val (.int (p2 &&& (31 : Int32))), .unset, .unset, .unset, .unset, .unset, .unset, .unset, .unset, .unset, .unset, .unset, .unset, .unset, .unset, .unset, .unset, .unset, .unset, .unset, .unset, .unset, .unset, .unset] [(.int p1)])) _
    refine XS.i2l X0.here hx rfl (hb hby at_7) rfl ?_
    show Steps p.tables e below (s₁.setTop (mkF m 8 #[.val (.int p1), .val (.int p2), .val (.int p3), .val (.int p4), .val (.int (p2 &&& (31 : Int32))), .unset, .unset, .unset, .unset, .unset, .unset, .unset, .unset, .unset, .unset, .unset, .unset, .unset, .unset, .unset, .unset, .unset, .unset, .unset, .unset, .unset, .unset, .unset] [(.long (p1.toInt64))])) _
    refine XS.iload X0.here hx rfl (hb hby at_8) rfl ?_
    show Steps p.tables e below (s₁.setTop (mkF m 10 #[.val (.int p1), .val (.int p2), .val (.int p3), .val (.int p4), .val (.int (p2 &&& (31 : Int32))), .unset, .unset, .unset, .unset, .unset, .unset, .unset, .unset, .unset, .unset, .unset, .unset, .unset, .unset, .unset, .unset, .unset, .unset, .unset, .unset, .unset, .unset, .unset] [(.int (p2 &&& (31 : Int32))), (.long (p1.toInt64))])) _
    refine XS.lshl X0.here hx rfl (hb hby at_10) rfl ?_
    show Steps p.tables e below (s₁.setTop (mkF m 11 #[.val (.int p1), .val (.int p2), .val (.int p3), .val (.int p4), .val (.int (p2 &&& (31 : Int32))), .unset, .unset, .unset, .unset, .unset, .unset, .unset, .unset, .unset, .unset, .unset, .unset, .unset, .unset, .unset, .unset, .unset, .unset, .unset, .unset, .unset, .unset, .unset] [(.long ((p1.toInt64) <<< ((p2 &&& (31 : Int32)) &&& 0x3f).toInt64))])) _
    refine XS.lstore X0.here hx rfl (hb hby at_11) rfl (l' := #[.val (.int p1), .val (.int p2), .val (.int p3), .val (.int p4), .val (.int (p2 &&& (31 : Int32))), .val (.long ((p1.toInt64) <<< ((p2 &&& (31 : Int32)) &&& 0x3f).toInt64)), .second, .unset, .unset, .unset, .unset, .unset, .unset, .unset, .unset, .unset, .unset, .unset, .unset, .unset, .unset, .unset, .unset, .unset, .unset, .unset, .unset, .unset]) rfl ?_
    exact kt)
  obtain ⟨bs, q_bs⟩ : ∃ z, z = ((p1.toInt64) <<< ((p2 &&& (31 : Int32)) &&& 0x3f).toInt64) := ⟨_, rfl⟩
  rw [← q_bs] at g1
  have g2 : own_Go p e below s₁ (entryFrame m #[(.int p1), (.int p2), (.int p3), (.int p4)] maxLocals) s₁ (mkF m 40 #[.val (.int p1), .val (.int p2), .val (.int p3), .val (.int p4), .val (.int (p2 &&& (31 : Int32))), .val (.long bs), .second, .val (.double (FP.l2d bs)), .second, .val (.double (FP.i2d p3)), .second, .val (.double (FP.i2d p4)), .second, .val (.long (bs + (p3.toInt64))), .second, .val (.long ((bs + (p3.toInt64)) + (p4.toInt64))), .second, .unset, .unset, .unset, .unset, .unset, .unset, .unset, .unset, .unset, .unset, .unset] []) := fun t kt => g1 t (by
    show Steps p.tables e below (s₁.setTop (mkF m 13 #[.val (.int p1), .val (.int p2), .val (.int p3), .val (.int p4), .val (.int (p2 &&& (31 : Int32))), .val (.long bs), .second, .unset, .unset, .unset, .unset, .unset, .unset, .unset, .unset, .unset, .unset, .unset, .unset, .unset, .unset, .unset, .unset, .unset, .unset, .unset, .unset, .unset] [])) _
    refine XS.lload X0.here hx rfl (hb hby at_13) rfl ?_
    show Steps p.tables e below (s₁.setTop (mkF m 15 #[.val (.int p1), .val (.int p2), .val (.int p3), .val (.int p4), .val (.int (p2 &&& (31 : Int32))), .val (.long bs), .second, .unset, .unset, .unset, .unset, .unset, .unset, .unset, .unset, .unset, .unset, .unset, .unset, .unset, .unset, .unset, .unset, .unset, .unset, .unset, .unset, .unset] [(.long bs)])) _
    refine XS.l2dS X0.here hx rfl (hb hby at_15) rfl rfl ?_
    show Steps p.tables e below (s₁.setTop (mkF m 16 #[.val (.int p1), .val (.int p2), .val (.int p3), .val (.int p4), .val (.int (p2 &&& (31 : Int32))), .val (.long bs), .second, .unset, .unset, .unset, .unset, .unset, .unset, .unset, .unset, .unset, .unset, .unset, .unset, .unset, .unset, .unset, .unset, .unset, .unset, .unset, .unset, .unset] [(.double (FP.l2d bs))])) _
    refine XS.dstore X0.here hx rfl (hb hby at_16) rfl (l' := #[.val (.int p1), .val (.int p2), .val (.int p3), .val (.int p4), .val (.int (p2 &&& (31 : Int32))), .val (.long bs), .second, .val (.double (FP.l2d bs)), .second, .unset, .unset, .unset, .unset, .unset, .unset, .unset, .unset, .unset, .unset, .unset, .unset, .unset, .unset, .unset, .unset, .unset, .unset, .unset]) rfl ?_
    show Steps p.tables e below (s₁.setTop (mkF m 18 #[.val (.int p1), .val (.int p2), .val (.int p3), .val (.int p4), .val (.int (p2 &&& (31 : Int32))), .val (.long bs), .second, .val (.double (FP.l2d bs)), .second, .unset, .unset, .unset, .unset, .unset, .unset, .unset, .unset, .unset, .unset, .unset, .unset, .unset, .unset, .unset, .unset, .unset, .unset, .unset] [])) _
    refine XS.iloadN X0.here hx rfl (hb hby at_18) rfl ?_
    show Steps p.tables e below (s₁.setTop (mkF m 19 #[.val (.int p1), .val (.int p2), .val (.int p3), .val (.int p4), .val (.int (p2 &&& (31 : Int32))), .val (.long bs), .second, .val (.double (FP.l2d bs)), .second, .unset, .unset, .unset, .unset, .unset, .unset, .unset, .unset, .unset, .unset, .unset, .unset, .unset, .unset, .unset, .unset, .unset, .unset, .unset] [(.int p3)])) _
    refine XS.i2dS X0.here hx rfl (hb hby at_19) rfl rfl ?_
    show Steps p.tables e below (s₁.setTop (mkF m 20 #[.val (.int p1), .val (.int p2), .val (.int p3), .val (.int p4), .val (.int (p2 &&& (31 : Int32))), .val (.long bs), .second, .val (.double (FP.l2d bs)), .second, .unset, .unset, .unset, .unset, .unset, .unset, .unset, .unset, .unset, .unset, .unset, .unset, .unset, .unset, .unset, .unset, .unset, .unset, .unset] [(.double (FP.i2d p3))])) _
    refine XS.dstore X0.here hx rfl (hb hby at_20) rfl (l' := #[.val (.int p1), .val (.int p2), .val (.int p3), .val (.int p4), .val (.int (p2 &&& (31 : Int32))), .val (.long bs), .second, .val (.double (FP.l2d bs)), .second, .val (.double (FP.i2d p3)), .second, .unset, .unset, .unset, .unset, .unset, .unset, .unset, .unset, .unset, .unset, .unset, .unset, .unset, .unset, .unset, .unset, .unset]) rfl ?_
    show Steps p.tables e below (s₁.setTop (mkF m 22 #[.val (.int p1), .val (.int p2), .val (.int p3), .val (.int p4), .val (.int (p2 &&& (31 : Int32))), .val (.long bs), .second, .val (.double (FP.l2d bs)), .second, .val (.double (FP.i2d p3)), .second, .unset, .unset, .unset, .unset, .unset, .unset, .unset, .unset, .unset, .unset, .unset, .unset, .unset, .unset, .unset, .unset, .unset] [])) _
    refine XS.iloadN X0.here hx rfl (hb hby at_22) rfl ?_
    show Steps p.tables e below (s₁.setTop (mkF m 23 #[.val (.int p1), .val (.int p2), .val (.int p3), .val (.int p4), .val (.int (p2 &&& (31 : Int32))), .val (.long bs), .second, .val (.double (FP.l2d bs)), .second, .val (.double (FP.i2d p3)), .second, .unset, .unset, .unset, .unset, .unset, .unset, .unset, .unset, .unset, .unset, .unset, .unset, .unset, .unset, .unset, .unset, .unset] [(.int p4)])) _
    refine XS.i2dS X0.here hx rfl (hb hby at_23) rfl rfl ?_
    show Steps p.tables e below (s₁.setTop (mkF m 24 #[.val (.int p1), .val (.int p2), .val (.int p3), .val (.int p4), .val (.int (p2 &&& (31 : Int32))), .val (.long bs), .second, .val (.double (FP.l2d bs)), .second, .val (.double (FP.i2d p3)), .second, .unset, .unset, .unset, .unset, .unset, .unset, .unset, .unset, .unset, .unset, .unset, .unset, .unset, .unset, .unset, .unset, .unset] [(.double (FP.i2d p4))])) _
    refine XS.dstore X0.here hx rfl (hb hby at_24) rfl (l' := #[.val (.int p1), .val (.int p2), .val (.int p3), .val (.int p4), .val (.int (p2 &&& (31 : Int32))), .val (.long bs), .second, .val (.double (FP.l2d bs)), .second, .val (.double (FP.i2d p3)), .second, .val (.double (FP.i2d p4)), .second, .unset, .unset, .unset, .unset, .unset, .unset, .unset, .unset, .unset, .unset, .unset, .unset, .unset, .unset, .unset]) rfl ?_
    show Steps p.tables e below (s₁.setTop (mkF m 26 #[.val (.int p1), .val (.int p2), .val (.int p3), .val (.int p4), .val (.int (p2 &&& (31 : Int32))), .val (.long bs), .second, .val (.double (FP.l2d bs)), .second, .val (.double (FP.i2d p3)), .second, .val (.double (FP.i2d p4)), .second, .unset, .unset, .unset, .unset, .unset, .unset, .unset, .unset, .unset, .unset, .unset, .unset, .unset, .unset, .unset] [])) _
    refine XS.lload X0.here hx rfl (hb hby at_26) rfl ?_
    show Steps p.tables e below (s₁.setTop (mkF m 28 #[.val (.int p1), .val (.int p2), .val (.int p3), .val (.int p4), .val (.int (p2 &&& (31 : Int32))), .val (.long bs), .second, .val (.double (FP.l2d bs)), .second, .val (.double (FP.i2d p3)), .second, .val (.double (FP.i2d p4)), .second, .unset, .unset, .unset, .unset, .unset, .unset, .unset, .unset, .unset, .unset, .unset, .unset, .unset, .unset, .unset] [(.long bs)])) _
    refine XS.iloadN X0.here hx rfl (hb hby at_28) rfl ?_
    show Steps p.tables e below (s₁.setTop (mkF m 29 #[.val (.int p1), .val (.int p2), .val (.int p3), .val (.int p4), .val (.int (p2 &&& (31 : Int32))), .val (.long bs), .second, .val (.double (FP.l2d bs)), .second, .val (.double (FP.i2d p3)), .second, .val (.double (FP.i2d p4)), .second, .unset, .unset, .unset, .unset, .unset, .unset, .unset, .unset, .unset, .unset, .unset, .unset, .unset, .unset, .unset] [(.int p3), (.long bs)])) _
    refine XS.i2l X0.here hx rfl (hb hby at_29) rfl ?_
    show Steps p.tables e below (s₁.setTop (mkF m 30 #[.val (.int p1), .val (.int p2), .val (.int p3), .val (.int p4), .val (.int (p2 &&& (31 : Int32))), .val (.long bs), .second, .val (.double (FP.l2d bs)), .second, .val (.double (FP.i2d p3)), .second, .val (.double (FP.i2d p4)), .second, .unset, .unset, .unset, .unset, .unset, .unset, .unset, .unset, .unset, .unset, .unset, .unset, .unset, .unset, .unset] [(.long (p3.toInt64)), (.long bs)])) _
    refine XS.ladd X0.here hx rfl (hb hby at_30) rfl ?_
    show Steps p.tables e below (s₁.setTop (mkF m 31 #[.val (.int p1), .val (.int p2), .val (.int p3), .val (.int p4), .val (.int (p2 &&& (31 : Int32))), .val (.long bs), .second, .val (.double (FP.l2d bs)), .second, .val (.double (FP.i2d p3)), .second, .val (.double (FP.i2d p4)), .second, .unset, .unset, .unset, .unset, .unset, .unset, .unset, .unset, .unset, .unset, .unset, .unset, .unset, .unset, .unset] [(.long (bs + (p3.toInt64)))])) _
    refine XS.lstore X0.here hx rfl (hb hby at_31) rfl (l' := #[.val (.int p1), .val (.int p2), .val (.int p3), .val (.int p4), .val (.int (p2 &&& (31 : Int32))), .val (.long bs), .second, .val (.double (FP.l2d bs)), .second, .val (.double (FP.i2d p3)), .second, .val (.double (FP.i2d p4)), .second, .val (.long (bs + (p3.toInt64))), .second, .unset, .unset, .unset, .unset, .unset, .unset, .unset, .unset, .unset, .unset, .unset, .unset, .unset]) rfl ?_
    show Steps p.tables e below (s₁.setTop (mkF m 33 #[.val (.int p1), .val (.int p2), .val (.int p3), .val (.int p4), .val (.int (p2 &&& (31 : Int32))), .val (.long bs), .second, .val (.double (FP.l2d bs)), .second, .val (.double (FP.i2d p3)), .second, .val (.double (FP.i2d p4)), .second, .val (.long (bs + (p3.toInt64))), .second, .unset, .unset, .unset, .unset, .unset, .unset, .unset, .unset, .unset, .unset, .unset, .unset, .unset] [])) _
    refine XS.lload X0.here hx rfl (hb hby at_33) rfl ?_
    show Steps p.tables e below (s₁.setTop (mkF m 35 #[.val (.int p1), .val (.int p2), .val (.int p3), .val (.int p4), .val (.int (p2 &&& (31 : Int32))), .val (.long bs), .second, .val (.double (FP.l2d bs)), .second, .val (.double (FP.i2d p3)), .second, .val (.double (FP.i2d p4)), .second, .val (.long (bs + (p3.toInt64))), .second, .unset, .unset, .unset, .unset, .unset, .unset, .unset, .unset, .unset, .unset, .unset, .unset, .unset] [(.long (bs + (p3.toInt64)))])) _
    refine XS.iloadN X0.here hx rfl (hb hby at_35) rfl ?_
    show Steps p.tables e below (s₁.setTop (mkF m 36 #[.val (.int p1), .val (.int p2), .val (.int p3), .val (.int p4), .val (.int (p2 &&& (31 : Int32))), .val (.long bs), .second, .val (.double (FP.l2d bs)), .second, .val (.double (FP.i2d p3)), .second, .val (.double (FP.i2d p4)), .second, .val (.long (bs + (p3.toInt64))), .second, .unset, .unset, .unset, .unset, .unset, .unset, .unset, .unset, .unset, .unset, .unset, .unset, .unset] [(.int p4), (.long (bs + (p3.toInt64)))])) _
    refine XS.i2l X0.here hx rfl (hb hby at_36) rfl ?_
    show Steps p.tables e below (s₁.setTop (mkF m 37 #[.val (.int p1), .val (.int p2), .val (.int p3), .val (.int p4), .val (.int (p2 &&& (31 : Int32))), .val (.long bs), .second, .val (.double (FP.l2d bs)), .second, .val (.double (FP.i2d p3)), .second, .val (.double (FP.i2d p4)), .second, .val (.long (bs + (p3.toInt64))), .second, .unset, .unset, .unset, .unset, .unset, .unset, .unset, .unset, .unset, .unset, .unset, .unset, .unset] [(.long (p4.toInt64)), (.long (bs + (p3.toInt64)))])) _
    refine XS.ladd X0.here hx rfl (hb hby at_37) rfl ?_
    show Steps p.tables e below (s₁.setTop (mkF m 38 #[.val (.int p1), .val (.int p2), .val (.int p3), .val (.int p4), .val (.int (p2 &&& (31 : Int32))), .val (.long bs), .second, .val (.double (FP.l2d bs)), .second, .val (.double (FP.i2d p3)), .second, .val (.double (FP.i2d p4)), .second, .val (.long (bs + (p3.toInt64))), .second, .unset, .unset, .unset, .unset, .unset, .unset, .unset, .unset, .unset, .unset, .unset, .unset, .unset] [(.long ((bs + (p3.toInt64)) + (p4.toInt64)))])) _
    refine XS.lstore X0.here hx rfl (hb hby at_38) rfl (l' := #[.val (.int p1), .val (.int p2), .val (.int p3), .val (.int p4), .val (.int (p2 &&& (31 : Int32))), .val (.long bs), .second, .val (.double (FP.l2d bs)), .second, .val (.double (FP.i2d p3)), .second, .val (.double (FP.i2d p4)), .second, .val (.long (bs + (p3.toInt64))), .second, .val (.long ((bs + (p3.toInt64)) + (p4.toInt64))), .second, .unset, .unset, .unset, .unset, .unset, .unset, .unset, .unset, .unset, .unset, .unset]) rfl ?_
    exact kt)
  obtain ⟨s1, s2, u1, u2, v1, v2⟩ := own_law p1 p2 p3 p4 bs q_bs
  obtain ⟨T3, h3, X3, e3, E3, A3, D3, -, st3⟩ := newO X0 hx hZ hown (hw _ (List.mem_of_getElem? (i := 0) rfl)) (hw _ (List.mem_of_getElem? (i := 1) rfl)) (hw _ (List.mem_of_getElem? (i := 2) rfl)) e0 (g := (mkF m 40 #[.val (.int p1), .val (.int p2), .val (.int p3), .val (.int p4), .val (.int (p2 &&& (31 : Int32))), .val (.long bs), .second, .val (.double (FP.l2d bs)), .second, .val (.double (FP.i2d p3)), .second, .val (.double (FP.i2d p4)), .second, .val (.long (bs + (p3.toInt64))), .second, .val (.long ((bs + (p3.toInt64)) + (p4.toInt64))), .second, .unset, .unset, .unset, .unset, .unset, .unset, .unset, .unset, .unset, .unset, .unset] [])) rfl (hb hby at_40) (by decide) (by decide)
  obtain ⟨a, q_a⟩ : ∃ z, z = h0.size := ⟨_, rfl⟩
  rw [← q_a] at A3 D3 st3
  have sz_a : h0.size ≤ a := Nat.le_trans K0.1 (Nat.le_of_eq q_a.symm)
  have g_a : n0 ≤ a := Nat.le_trans Z0 sz_a
  have F_highs_a : Fld Z h3 a "com/example/pincer/pincer/engine/PreciseValues" "highs" "[D" .null := D3 (Or.inr (hw _ (List.mem_of_getElem? (i := 14) rfl))) (ty := (.array .double)) (by decide)
  have F_lows_a : Fld Z h3 a "com/example/pincer/pincer/engine/PreciseValues" "lows" "[D" .null := D3 (Or.inr (hw _ (List.mem_of_getElem? (i := 16) rfl))) (ty := (.array .double)) (by decide)
  have K3 : Keep h0 h3 [] := K0.ext E3
  have g3 : own_Go p e below s₁ (entryFrame m #[(.int p1), (.int p2), (.int p3), (.int p4)] maxLocals) T3 (mkF m 43 #[.val (.int p1), .val (.int p2), .val (.int p3), .val (.int p4), .val (.int (p2 &&& (31 : Int32))), .val (.long bs), .second, .val (.double (FP.l2d bs)), .second, .val (.double (FP.i2d p3)), .second, .val (.double (FP.i2d p4)), .second, .val (.long (bs + (p3.toInt64))), .second, .val (.long ((bs + (p3.toInt64)) + (p4.toInt64))), .second, .unset, .unset, .unset, .unset, .unset, .unset, .unset, .unset, .unset, .unset, .unset] [(.ref a)]) := fun t kt => g2 t (st3 _ kt)
  have g4 : own_Go p e below s₁ (entryFrame m #[(.int p1), (.int p2), (.int p3), (.int p4)] maxLocals) T3 (mkF m 45 #[.val (.int p1), .val (.int p2), .val (.int p3), .val (.int p4), .val (.int (p2 &&& (31 : Int32))), .val (.long bs), .second, .val (.double (FP.l2d bs)), .second, .val (.double (FP.i2d p3)), .second, .val (.double (FP.i2d p4)), .second, .val (.long (bs + (p3.toInt64))), .second, .val (.long ((bs + (p3.toInt64)) + (p4.toInt64))), .second, .unset, .unset, .unset, .unset, .unset, .unset, .unset, .unset, .unset, .unset, .unset] [(.int (2 : Int32)), (.ref a), (.ref a)]) := fun t kt => g3 t (by
    show Steps p.tables e below (T3.setTop (mkF m 43 #[.val (.int p1), .val (.int p2), .val (.int p3), .val (.int p4), .val (.int (p2 &&& (31 : Int32))), .val (.long bs), .second, .val (.double (FP.l2d bs)), .second, .val (.double (FP.i2d p3)), .second, .val (.double (FP.i2d p4)), .second, .val (.long (bs + (p3.toInt64))), .second, .val (.long ((bs + (p3.toInt64)) + (p4.toInt64))), .second, .unset, .unset, .unset, .unset, .unset, .unset, .unset, .unset, .unset, .unset, .unset] [(.ref a)])) _
    refine XS.dup X3.here hx rfl (hb hby at_43) rfl rfl ?_
    show Steps p.tables e below (T3.setTop (mkF m 44 #[.val (.int p1), .val (.int p2), .val (.int p3), .val (.int p4), .val (.int (p2 &&& (31 : Int32))), .val (.long bs), .second, .val (.double (FP.l2d bs)), .second, .val (.double (FP.i2d p3)), .second, .val (.double (FP.i2d p4)), .second, .val (.long (bs + (p3.toInt64))), .second, .val (.long ((bs + (p3.toInt64)) + (p4.toInt64))), .second, .unset, .unset, .unset, .unset, .unset, .unset, .unset, .unset, .unset, .unset, .unset] [(.ref a), (.ref a)])) _
    refine XS.iconst X3.here hx rfl (hb hby at_44) ?_
    exact kt)
  obtain ⟨_, _, ⟨T5, L5, k5, n5⟩, -, X5, ⟨Lc5, hQ5, l5, y5, z5⟩, st5⟩ := X3.specialBack hx (y := (⟨"com/example/pincer/pincer/engine/PreciseValues", "<init>", "(I)V"⟩ : MethodName)) rfl hown (mvT hZ (hw _ (List.mem_of_getElem? (i := 3) rfl))) (mvT hZ (hw _ (List.mem_of_getElem? (i := 4) rfl))) (mvT hZ (hw _ (List.mem_of_getElem? (i := 5) rfl))) (by decide) (backOf (W := 1) (rm1 l Z a0 hw [] a (2 : Int32) 2 h3 n0 (Nat.le_trans Z0 K3.1) (by decide) (by decide) (by decide) F_highs_a F_lows_a A3 g_a) hZ (hw _ (List.mem_of_getElem? (i := 5) rfl)) (hw _ (List.mem_of_getElem? (i := 2) rfl)) (by decide) (by decide)) (g := (mkF m 45 #[.val (.int p1), .val (.int p2), .val (.int p3), .val (.int p4), .val (.int (p2 &&& (31 : Int32))), .val (.long bs), .second, .val (.double (FP.l2d bs)), .second, .val (.double (FP.i2d p3)), .second, .val (.double (FP.i2d p4)), .second, .val (.long (bs + (p3.toInt64))), .second, .val (.long ((bs + (p3.toInt64)) + (p4.toInt64))), .second, .unset, .unset, .unset, .unset, .unset, .unset, .unset, .unset, .unset, .unset, .unset] [(.int (2 : Int32)), (.ref a), (.ref a)])) rfl (by rw [hml]; rfl) (Steps.refl _) (a := a) (argsL := [(.int (2 : Int32))]) (rest := [(.ref a)]) (lenOf pd_1 rfl) rfl (by show 2 * 0 + _ ≤ _; exact Nat.le_of_eq rfl) (hb hby at_45) (fun _ _ => ⟨rfl, e3, (by decide : 1 + 2 ≤ _), (by decide : 2 + 4 ≤ _)⟩)
  dsimp only [Pt.U, Pt.locs, Pt.cells, Pt.slots] at X5 l5 y5 z5 st5 hQ5
  subst l5 y5 z5
  obtain ⟨rfl, N5q, Kc5, ha, hk, la, lk, z_ha, z_la, M5⟩ := hQ5
  have N5 := Fr.app N0 N5q
  have g5 : own_Go p e below s₁ (entryFrame m #[(.int p1), (.int p2), (.int p3), (.int p4)] maxLocals) T5 (mkF m 48 #[.val (.int p1), .val (.int p2), .val (.int p3), .val (.int p4), .val (.int (p2 &&& (31 : Int32))), .val (.long bs), .second, .val (.double (FP.l2d bs)), .second, .val (.double (FP.i2d p3)), .second, .val (.double (FP.i2d p4)), .second, .val (.long (bs + (p3.toInt64))), .second, .val (.long ((bs + (p3.toInt64)) + (p4.toInt64))), .second, .unset, .unset, .unset, .unset, .unset, .unset, .unset, .unset, .unset, .unset, .unset] [(.ref a)]) := fun t kt => g4 t (st5.trans kt)
  have f6 := A3.keep Kc5
  have KK5 : Keep h0 T5.heap [] := K3.trans Kc5 (allS (Or.inr sz_a) all0)
  have g_ha : n0 ≤ ha := Nat.le_trans (Nat.le_trans Z0 K3.1) z_ha
  have sz_ha : h0.size ≤ ha := Nat.le_trans K3.1 z_ha
  have g_la : n0 ≤ la := Nat.le_trans (Nat.le_trans Z0 K3.1) z_la
  have sz_la : h0.size ≤ la := Nat.le_trans K3.1 z_la
  have Mp0 := M5
  obtain ⟨E_p, Fh_p, Fl_p, Vh_p, Vl_p, ne_a_ha, ne_a_la, ne_ha_la, ln_p, lm_p⟩ := Mp0
  have g9 : own_Go p e below s₁ (entryFrame m #[(.int p1), (.int p2), (.int p3), (.int p4)] maxLocals) T5 (mkF m 50 #[.val (.int p1), .val (.int p2), .val (.int p3), .val (.int p4), .val (.int (p2 &&& (31 : Int32))), .val (.long bs), .second, .val (.double (FP.l2d bs)), .second, .val (.double (FP.i2d p3)), .second, .val (.double (FP.i2d p4)), .second, .val (.long (bs + (p3.toInt64))), .second, .val (.long ((bs + (p3.toInt64)) + (p4.toInt64))), .second, .val (.ref a), .unset, .unset, .unset, .unset, .unset, .unset, .unset, .unset, .unset, .unset] []) := fun t kt => g5 t (by
    show Steps p.tables e below (T5.setTop (mkF m 48 #[.val (.int p1), .val (.int p2), .val (.int p3), .val (.int p4), .val (.int (p2 &&& (31 : Int32))), .val (.long bs), .second, .val (.double (FP.l2d bs)), .second, .val (.double (FP.i2d p3)), .second, .val (.double (FP.i2d p4)), .second, .val (.long (bs + (p3.toInt64))), .second, .val (.long ((bs + (p3.toInt64)) + (p4.toInt64))), .second, .unset, .unset, .unset, .unset, .unset, .unset, .unset, .unset, .unset, .unset, .unset] [(.ref a)])) _
    refine XS.astore X5.here hx rfl (hb hby at_48) rfl rfl (l' := #[.val (.int p1), .val (.int p2), .val (.int p3), .val (.int p4), .val (.int (p2 &&& (31 : Int32))), .val (.long bs), .second, .val (.double (FP.l2d bs)), .second, .val (.double (FP.i2d p3)), .second, .val (.double (FP.i2d p4)), .second, .val (.long (bs + (p3.toInt64))), .second, .val (.long ((bs + (p3.toInt64)) + (p4.toInt64))), .second, .val (.ref a), .unset, .unset, .unset, .unset, .unset, .unset, .unset, .unset, .unset, .unset]) rfl ?_
    exact kt)
  obtain ⟨T10, h10, X10, e10, E10, A10, D10, -, st10⟩ := newO X5 hx hZ hown (hw _ (List.mem_of_getElem? (i := 0) rfl)) (hw _ (List.mem_of_getElem? (i := 1) rfl)) (hw _ (List.mem_of_getElem? (i := 2) rfl)) rfl (g := (mkF m 50 #[.val (.int p1), .val (.int p2), .val (.int p3), .val (.int p4), .val (.int (p2 &&& (31 : Int32))), .val (.long bs), .second, .val (.double (FP.l2d bs)), .second, .val (.double (FP.i2d p3)), .second, .val (.double (FP.i2d p4)), .second, .val (.long (bs + (p3.toInt64))), .second, .val (.long ((bs + (p3.toInt64)) + (p4.toInt64))), .second, .val (.ref a), .unset, .unset, .unset, .unset, .unset, .unset, .unset, .unset, .unset, .unset] [])) rfl (hb hby at_50) (by decide) (by decide)
  obtain ⟨b, q_b⟩ : ∃ z, z = T5.heap.size := ⟨_, rfl⟩
  rw [← q_b] at A10 D10 st10
  have ne_a_b : a ≠ b := Nat.ne_of_lt (Nat.lt_of_lt_of_le E_p.lt (Nat.le_of_eq q_b.symm))
  have ne_ha_b : ha ≠ b := Nat.ne_of_lt (Nat.lt_of_lt_of_le Vh_p.lt (Nat.le_of_eq q_b.symm))
  have ne_la_b : la ≠ b := Nat.ne_of_lt (Nat.lt_of_lt_of_le Vl_p.lt (Nat.le_of_eq q_b.symm))
  have sz_b : h0.size ≤ b := Nat.le_trans KK5.1 (Nat.le_of_eq q_b.symm)
  have g_b : n0 ≤ b := Nat.le_trans Z0 sz_b
  have f11 := E_p.ext E10
  have f12 := Fh_p.ext E10
  have f13 := Fl_p.ext E10
  have f14 := Vh_p.ext E10
  have f15 := Vl_p.ext E10
  have F_highs_b : Fld Z h10 b "com/example/pincer/pincer/engine/PreciseValues" "highs" "[D" .null := D10 (Or.inr (hw _ (List.mem_of_getElem? (i := 14) rfl))) (ty := (.array .double)) (by decide)
  have F_lows_b : Fld Z h10 b "com/example/pincer/pincer/engine/PreciseValues" "lows" "[D" .null := D10 (Or.inr (hw _ (List.mem_of_getElem? (i := 16) rfl))) (ty := (.array .double)) (by decide)
  have K10 : Keep h0 h10 [] := KK5.ext E10
  have g10 : own_Go p e below s₁ (entryFrame m #[(.int p1), (.int p2), (.int p3), (.int p4)] maxLocals) T10 (mkF m 53 #[.val (.int p1), .val (.int p2), .val (.int p3), .val (.int p4), .val (.int (p2 &&& (31 : Int32))), .val (.long bs), .second, .val (.double (FP.l2d bs)), .second, .val (.double (FP.i2d p3)), .second, .val (.double (FP.i2d p4)), .second, .val (.long (bs + (p3.toInt64))), .second, .val (.long ((bs + (p3.toInt64)) + (p4.toInt64))), .second, .val (.ref a), .unset, .unset, .unset, .unset, .unset, .unset, .unset, .unset, .unset, .unset] [(.ref b)]) := fun t kt => g9 t (st10 _ kt)
  have g16 : own_Go p e below s₁ (entryFrame m #[(.int p1), (.int p2), (.int p3), (.int p4)] maxLocals) T10 (mkF m 55 #[.val (.int p1), .val (.int p2), .val (.int p3), .val (.int p4), .val (.int (p2 &&& (31 : Int32))), .val (.long bs), .second, .val (.double (FP.l2d bs)), .second, .val (.double (FP.i2d p3)), .second, .val (.double (FP.i2d p4)), .second, .val (.long (bs + (p3.toInt64))), .second, .val (.long ((bs + (p3.toInt64)) + (p4.toInt64))), .second, .val (.ref a), .unset, .unset, .unset, .unset, .unset, .unset, .unset, .unset, .unset, .unset] [(.int (1 : Int32)), (.ref b), (.ref b)]) := fun t kt => g10 t (by
    show Steps p.tables e below (T10.setTop (mkF m 53 #[.val (.int p1), .val (.int p2), .val (.int p3), .val (.int p4), .val (.int (p2 &&& (31 : Int32))), .val (.long bs), .second, .val (.double (FP.l2d bs)), .second, .val (.double (FP.i2d p3)), .second, .val (.double (FP.i2d p4)), .second, .val (.long (bs + (p3.toInt64))), .second, .val (.long ((bs + (p3.toInt64)) + (p4.toInt64))), .second, .val (.ref a), .unset, .unset, .unset, .unset, .unset, .unset, .unset, .unset, .unset, .unset] [(.ref b)])) _
    refine XS.dup X10.here hx rfl (hb hby at_53) rfl rfl ?_
    show Steps p.tables e below (T10.setTop (mkF m 54 #[.val (.int p1), .val (.int p2), .val (.int p3), .val (.int p4), .val (.int (p2 &&& (31 : Int32))), .val (.long bs), .second, .val (.double (FP.l2d bs)), .second, .val (.double (FP.i2d p3)), .second, .val (.double (FP.i2d p4)), .second, .val (.long (bs + (p3.toInt64))), .second, .val (.long ((bs + (p3.toInt64)) + (p4.toInt64))), .second, .val (.ref a), .unset, .unset, .unset, .unset, .unset, .unset, .unset, .unset, .unset, .unset] [(.ref b), (.ref b)])) _
    refine XS.iconst X10.here hx rfl (hb hby at_54) ?_
    exact kt)
  obtain ⟨_, _, ⟨T17, L17, k17, n17⟩, -, X17, ⟨Lc17, hQ17, l17, y17, z17⟩, st17⟩ := X10.specialBack hx (y := (⟨"com/example/pincer/pincer/engine/PreciseValues", "<init>", "(I)V"⟩ : MethodName)) rfl hown (mvT hZ (hw _ (List.mem_of_getElem? (i := 3) rfl))) (mvT hZ (hw _ (List.mem_of_getElem? (i := 4) rfl))) (mvT hZ (hw _ (List.mem_of_getElem? (i := 5) rfl))) (by decide) (backOf (W := 1) (rm1 l Z a0 hw [] b (1 : Int32) 1 h10 n0 (Nat.le_trans Z0 K10.1) (by decide) (by decide) (by decide) F_highs_b F_lows_b A10 g_b) hZ (hw _ (List.mem_of_getElem? (i := 5) rfl)) (hw _ (List.mem_of_getElem? (i := 2) rfl)) (by decide) (by decide)) (g := (mkF m 55 #[.val (.int p1), .val (.int p2), .val (.int p3), .val (.int p4), .val (.int (p2 &&& (31 : Int32))), .val (.long bs), .second, .val (.double (FP.l2d bs)), .second, .val (.double (FP.i2d p3)), .second, .val (.double (FP.i2d p4)), .second, .val (.long (bs + (p3.toInt64))), .second, .val (.long ((bs + (p3.toInt64)) + (p4.toInt64))), .second, .val (.ref a), .unset, .unset, .unset, .unset, .unset, .unset, .unset, .unset, .unset, .unset] [(.int (1 : Int32)), (.ref b), (.ref b)])) rfl (by rw [hml]; rfl) (Steps.refl _) (a := b) (argsL := [(.int (1 : Int32))]) (rest := [(.ref b)]) (lenOf pd_1 rfl) rfl (by show 2 * 0 + _ ≤ _; exact Nat.le_of_eq rfl) (hb hby at_55) (fun _ _ => ⟨rfl, e10, (by decide : 4 + 2 ≤ _), (by decide : 8 + 4 ≤ _)⟩)
  dsimp only [Pt.U, Pt.locs, Pt.cells, Pt.slots] at X17 l17 y17 z17 st17 hQ17
  subst l17 y17 z17
  obtain ⟨rfl, N17q, Kc17, hB, hkb, lB, lkb, z_hB, z_lB, M17⟩ := hQ17
  have N17 := Fr.app N5 N17q
  have g17 : own_Go p e below s₁ (entryFrame m #[(.int p1), (.int p2), (.int p3), (.int p4)] maxLocals) T17 (mkF m 58 #[.val (.int p1), .val (.int p2), .val (.int p3), .val (.int p4), .val (.int (p2 &&& (31 : Int32))), .val (.long bs), .second, .val (.double (FP.l2d bs)), .second, .val (.double (FP.i2d p3)), .second, .val (.double (FP.i2d p4)), .second, .val (.long (bs + (p3.toInt64))), .second, .val (.long ((bs + (p3.toInt64)) + (p4.toInt64))), .second, .val (.ref a), .unset, .unset, .unset, .unset, .unset, .unset, .unset, .unset, .unset, .unset] [(.ref b)]) := fun t kt => g16 t (st17.trans kt)
  have f18 := f11.keep Kc17
  have f19 := f12.keep Kc17 (ninS ne_a_b nin0)
  have f20 := f13.keep Kc17 (ninS ne_a_b nin0)
  have f21 := f14.keep Kc17 (ninS ne_ha_b nin0)
  have f22 := f15.keep Kc17 (ninS ne_la_b nin0)
  have f23 := A10.keep Kc17
  have KK17 : Keep h0 T17.heap [] := K10.trans Kc17 (allS (Or.inr sz_b) all0)
  have g_hB : n0 ≤ hB := Nat.le_trans (Nat.le_trans Z0 K10.1) z_hB
  have sz_hB : h0.size ≤ hB := Nat.le_trans K10.1 z_hB
  have ne_a_hB : a ≠ hB := Nat.ne_of_lt (Nat.lt_of_lt_of_le f11.lt z_hB)
  have ne_ha_hB : ha ≠ hB := Nat.ne_of_lt (Nat.lt_of_lt_of_le f14.lt z_hB)
  have ne_la_hB : la ≠ hB := Nat.ne_of_lt (Nat.lt_of_lt_of_le f15.lt z_hB)
  have g_lB : n0 ≤ lB := Nat.le_trans (Nat.le_trans Z0 K10.1) z_lB
  have sz_lB : h0.size ≤ lB := Nat.le_trans K10.1 z_lB
  have ne_a_lB : a ≠ lB := Nat.ne_of_lt (Nat.lt_of_lt_of_le f11.lt z_lB)
  have ne_ha_lB : ha ≠ lB := Nat.ne_of_lt (Nat.lt_of_lt_of_le f14.lt z_lB)
  have ne_la_lB : la ≠ lB := Nat.ne_of_lt (Nat.lt_of_lt_of_le f15.lt z_lB)
  have Mq0 := M17
  have Mp1 : own_PV Z T17.heap a ha hk la lk 2 2 (List.replicate 2 0) (List.replicate 2 0) := ⟨f18, f19, f20, f21, f22, ne_a_ha, ne_a_la, ne_ha_la, ln_p, lm_p⟩
  have g26 : own_Go p e below s₁ (entryFrame m #[(.int p1), (.int p2), (.int p3), (.int p4)] maxLocals) T17 (mkF m 65 #[.val (.int p1), .val (.int p2), .val (.int p3), .val (.int p4), .val (.int (p2 &&& (31 : Int32))), .val (.long bs), .second, .val (.double (FP.l2d bs)), .second, .val (.double (FP.i2d p3)), .second, .val (.double (FP.i2d p4)), .second, .val (.long (bs + (p3.toInt64))), .second, .val (.long ((bs + (p3.toInt64)) + (p4.toInt64))), .second, .val (.ref a), .val (.ref b), .unset, .unset, .unset, .unset, .unset, .unset, .unset, .unset, .unset] [(.double (FP.l2d bs)), (.int (0 : Int32)), (.ref a)]) := fun t kt => g17 t (by
    show Steps p.tables e below (T17.setTop (mkF m 58 #[.val (.int p1), .val (.int p2), .val (.int p3), .val (.int p4), .val (.int (p2 &&& (31 : Int32))), .val (.long bs), .second, .val (.double (FP.l2d bs)), .second, .val (.double (FP.i2d p3)), .second, .val (.double (FP.i2d p4)), .second, .val (.long (bs + (p3.toInt64))), .second, .val (.long ((bs + (p3.toInt64)) + (p4.toInt64))), .second, .val (.ref a), .unset, .unset, .unset, .unset, .unset, .unset, .unset, .unset, .unset, .unset] [(.ref b)])) _
    refine XS.astore X17.here hx rfl (hb hby at_58) rfl rfl (l' := #[.val (.int p1), .val (.int p2), .val (.int p3), .val (.int p4), .val (.int (p2 &&& (31 : Int32))), .val (.long bs), .second, .val (.double (FP.l2d bs)), .second, .val (.double (FP.i2d p3)), .second, .val (.double (FP.i2d p4)), .second, .val (.long (bs + (p3.toInt64))), .second, .val (.long ((bs + (p3.toInt64)) + (p4.toInt64))), .second, .val (.ref a), .val (.ref b), .unset, .unset, .unset, .unset, .unset, .unset, .unset, .unset, .unset]) rfl ?_
    show Steps p.tables e below (T17.setTop (mkF m 60 #[.val (.int p1), .val (.int p2), .val (.int p3), .val (.int p4), .val (.int (p2 &&& (31 : Int32))), .val (.long bs), .second, .val (.double (FP.l2d bs)), .second, .val (.double (FP.i2d p3)), .second, .val (.double (FP.i2d p4)), .second, .val (.long (bs + (p3.toInt64))), .second, .val (.long ((bs + (p3.toInt64)) + (p4.toInt64))), .second, .val (.ref a), .val (.ref b), .unset, .unset, .unset, .unset, .unset, .unset, .unset, .unset, .unset] [])) _
    refine XS.aload X17.here hx rfl (hb hby at_60) rfl rfl ?_
    show Steps p.tables e below (T17.setTop (mkF m 62 #[.val (.int p1), .val (.int p2), .val (.int p3), .val (.int p4), .val (.int (p2 &&& (31 : Int32))), .val (.long bs), .second, .val (.double (FP.l2d bs)), .second, .val (.double (FP.i2d p3)), .second, .val (.double (FP.i2d p4)), .second, .val (.long (bs + (p3.toInt64))), .second, .val (.long ((bs + (p3.toInt64)) + (p4.toInt64))), .second, .val (.ref a), .val (.ref b), .unset, .unset, .unset, .unset, .unset, .unset, .unset, .unset, .unset] [(.ref a)])) _
    refine XS.iconst X17.here hx rfl (hb hby at_62) ?_
    show Steps p.tables e below (T17.setTop (mkF m 63 #[.val (.int p1), .val (.int p2), .val (.int p3), .val (.int p4), .val (.int (p2 &&& (31 : Int32))), .val (.long bs), .second, .val (.double (FP.l2d bs)), .second, .val (.double (FP.i2d p3)), .second, .val (.double (FP.i2d p4)), .second, .val (.long (bs + (p3.toInt64))), .second, .val (.long ((bs + (p3.toInt64)) + (p4.toInt64))), .second, .val (.ref a), .val (.ref b), .unset, .unset, .unset, .unset, .unset, .unset, .unset, .unset, .unset] [(.int (0 : Int32)), (.ref a)])) _
    refine XS.dload X17.here hx rfl (hb hby at_63) rfl ?_
    exact kt)
  obtain ⟨cq27, kq27, q27a, q27b, q27c⟩ := isOf hZ rfl Mp1.1
  obtain ⟨_, _, ⟨T27, L27, k27, n27⟩, -, X27, ⟨Lc27, hQ27, l27, y27, z27⟩, st27⟩ := X17.virtualBack hx (y := (⟨"com/example/pincer/pincer/engine/PreciseValues", "set", "(ID)V"⟩ : MethodName)) (z := (⟨"com/example/pincer/pincer/engine/PreciseValues", "set", "(ID)V"⟩ : MethodName)) hown (mvT hZ (hw _ (List.mem_of_getElem? (i := 17) rfl))) (mvT hZ (hw _ (List.mem_of_getElem? (i := 18) rfl))) (notFace_of_selects (args := #[]) (mvT hZ (hw _ (List.mem_of_getElem? (i := 20) rfl)))) (mvT hZ (hw _ (List.mem_of_getElem? (i := 20) rfl))) (mvT hZ (hw _ (List.mem_of_getElem? (i := 19) rfl))) (by decide) (backOf (W := 0) (rm4 l Z a0 hw [] a (0 : Int32) (FP.l2d bs) ha hk la lk 2 2 (List.replicate 2 0) (List.replicate 2 0) 0 T17.heap n0 (Nat.le_trans Z0 KK17.1) Mp1 (by decide) (by decide) g_ha g_la) hZ (hw _ (List.mem_of_getElem? (i := 21) rfl)) (hw _ (List.mem_of_getElem? (i := 2) rfl)) (by decide) (by decide)) q27a q27c (g := (mkF m 65 #[.val (.int p1), .val (.int p2), .val (.int p3), .val (.int p4), .val (.int (p2 &&& (31 : Int32))), .val (.long bs), .second, .val (.double (FP.l2d bs)), .second, .val (.double (FP.i2d p3)), .second, .val (.double (FP.i2d p4)), .second, .val (.long (bs + (p3.toInt64))), .second, .val (.long ((bs + (p3.toInt64)) + (p4.toInt64))), .second, .val (.ref a), .val (.ref b), .unset, .unset, .unset, .unset, .unset, .unset, .unset, .unset, .unset] [(.double (FP.l2d bs)), (.int (0 : Int32)), (.ref a)])) rfl (by rw [hml]; rfl) (Steps.refl _) (argsL := [(.int (0 : Int32)), (.double (FP.l2d bs))]) (rest := []) (lenOf pd_2 rfl) rfl (by show 2 * 0 + _ ≤ _; exact Nat.le_of_eq rfl) (hb hby at_65) (fun _ _ => ⟨rfl, rfl, (by decide : 6 + 0 ≤ _), (by decide : 12 + 0 ≤ _)⟩)
  dsimp only [Pt.U, Pt.locs, Pt.cells, Pt.slots] at X27 l27 y27 z27 st27 hQ27
  subst l27 y27 z27
  obtain ⟨rfl, N27q, Kc27, M27⟩ := hQ27
  have N27 := Fr.app N17 N27q
  have g27 : own_Go p e below s₁ (entryFrame m #[(.int p1), (.int p2), (.int p3), (.int p4)] maxLocals) T27 (mkF m 68 #[.val (.int p1), .val (.int p2), .val (.int p3), .val (.int p4), .val (.int (p2 &&& (31 : Int32))), .val (.long bs), .second, .val (.double (FP.l2d bs)), .second, .val (.double (FP.i2d p3)), .second, .val (.double (FP.i2d p4)), .second, .val (.long (bs + (p3.toInt64))), .second, .val (.long ((bs + (p3.toInt64)) + (p4.toInt64))), .second, .val (.ref a), .val (.ref b), .unset, .unset, .unset, .unset, .unset, .unset, .unset, .unset, .unset] []) := fun t kt => g26 t (st27.trans kt)
  have f28 := Mp1.1.keep Kc27
  have KK27 : Keep h0 T27.heap [] := KK17.trans Kc27 (allS (Or.inr sz_ha) (allS (Or.inr sz_la) all0))
  have Mp2 : own_PV Z T27.heap a ha hk la lk 2 2 [(FP.l2d bs), 0] [0, 0] := M27
  have Mq1 := Mq0.keep Kc27 (ninS (Ne.symm ne_ha_b) (ninS (Ne.symm ne_la_b) nin0)) (ninS (Ne.symm ne_ha_hB) (ninS (Ne.symm ne_la_hB) nin0)) (ninS (Ne.symm ne_ha_lB) (ninS (Ne.symm ne_la_lB) nin0))
  have g29 : own_Go p e below s₁ (entryFrame m #[(.int p1), (.int p2), (.int p3), (.int p4)] maxLocals) T27 (mkF m 76 #[.val (.int p1), .val (.int p2), .val (.int p3), .val (.int p4), .val (.int (p2 &&& (31 : Int32))), .val (.long bs), .second, .val (.double (FP.l2d bs)), .second, .val (.double (FP.i2d p3)), .second, .val (.double (FP.i2d p4)), .second, .val (.long (bs + (p3.toInt64))), .second, .val (.long ((bs + (p3.toInt64)) + (p4.toInt64))), .second, .val (.ref a), .val (.ref b), .unset, .unset, .unset, .unset, .unset, .unset, .unset, .unset, .unset] [(.double (FP.i2d p3)), (.int (0 : Int32)), (.ref a), (.int (1 : Int32)), (.ref a)]) := fun t kt => g27 t (by
    show Steps p.tables e below (T27.setTop (mkF m 68 #[.val (.int p1), .val (.int p2), .val (.int p3), .val (.int p4), .val (.int (p2 &&& (31 : Int32))), .val (.long bs), .second, .val (.double (FP.l2d bs)), .second, .val (.double (FP.i2d p3)), .second, .val (.double (FP.i2d p4)), .second, .val (.long (bs + (p3.toInt64))), .second, .val (.long ((bs + (p3.toInt64)) + (p4.toInt64))), .second, .val (.ref a), .val (.ref b), .unset, .unset, .unset, .unset, .unset, .unset, .unset, .unset, .unset] [])) _
    refine XS.aload X27.here hx rfl (hb hby at_68) rfl rfl ?_
    show Steps p.tables e below (T27.setTop (mkF m 70 #[.val (.int p1), .val (.int p2), .val (.int p3), .val (.int p4), .val (.int (p2 &&& (31 : Int32))), .val (.long bs), .second, .val (.double (FP.l2d bs)), .second, .val (.double (FP.i2d p3)), .second, .val (.double (FP.i2d p4)), .second, .val (.long (bs + (p3.toInt64))), .second, .val (.long ((bs + (p3.toInt64)) + (p4.toInt64))), .second, .val (.ref a), .val (.ref b), .unset, .unset, .unset, .unset, .unset, .unset, .unset, .unset, .unset] [(.ref a)])) _
    refine XS.iconst X27.here hx rfl (hb hby at_70) ?_
    show Steps p.tables e below (T27.setTop (mkF m 71 #[.val (.int p1), .val (.int p2), .val (.int p3), .val (.int p4), .val (.int (p2 &&& (31 : Int32))), .val (.long bs), .second, .val (.double (FP.l2d bs)), .second, .val (.double (FP.i2d p3)), .second, .val (.double (FP.i2d p4)), .second, .val (.long (bs + (p3.toInt64))), .second, .val (.long ((bs + (p3.toInt64)) + (p4.toInt64))), .second, .val (.ref a), .val (.ref b), .unset, .unset, .unset, .unset, .unset, .unset, .unset, .unset, .unset] [(.int (1 : Int32)), (.ref a)])) _
    refine XS.aload X27.here hx rfl (hb hby at_71) rfl rfl ?_
    show Steps p.tables e below (T27.setTop (mkF m 73 #[.val (.int p1), .val (.int p2), .val (.int p3), .val (.int p4), .val (.int (p2 &&& (31 : Int32))), .val (.long bs), .second, .val (.double (FP.l2d bs)), .second, .val (.double (FP.i2d p3)), .second, .val (.double (FP.i2d p4)), .second, .val (.long (bs + (p3.toInt64))), .second, .val (.long ((bs + (p3.toInt64)) + (p4.toInt64))), .second, .val (.ref a), .val (.ref b), .unset, .unset, .unset, .unset, .unset, .unset, .unset, .unset, .unset] [(.ref a), (.int (1 : Int32)), (.ref a)])) _
    refine XS.iconst X27.here hx rfl (hb hby at_73) ?_
    show Steps p.tables e below (T27.setTop (mkF m 74 #[.val (.int p1), .val (.int p2), .val (.int p3), .val (.int p4), .val (.int (p2 &&& (31 : Int32))), .val (.long bs), .second, .val (.double (FP.l2d bs)), .second, .val (.double (FP.i2d p3)), .second, .val (.double (FP.i2d p4)), .second, .val (.long (bs + (p3.toInt64))), .second, .val (.long ((bs + (p3.toInt64)) + (p4.toInt64))), .second, .val (.ref a), .val (.ref b), .unset, .unset, .unset, .unset, .unset, .unset, .unset, .unset, .unset] [(.int (0 : Int32)), (.ref a), (.int (1 : Int32)), (.ref a)])) _
    refine XS.dload X27.here hx rfl (hb hby at_74) rfl ?_
    exact kt)
  obtain ⟨cq30, kq30, q30a, q30b, q30c⟩ := isOf hZ rfl Mp2.1
  obtain ⟨_, _, ⟨T30, L30, k30, n30⟩, -, X30, ⟨Lc30, hQ30, l30, y30, z30⟩, st30⟩ := X27.virtualBack hx (y := (⟨"com/example/pincer/pincer/engine/PreciseValues", "setStep", "(ILcom/example/pincer/pincer/engine/PreciseValues;ID)V"⟩ : MethodName)) (z := (⟨"com/example/pincer/pincer/engine/PreciseValues", "setStep", "(ILcom/example/pincer/pincer/engine/PreciseValues;ID)V"⟩ : MethodName)) hown (mvT hZ (hw _ (List.mem_of_getElem? (i := 22) rfl))) (mvT hZ (hw _ (List.mem_of_getElem? (i := 23) rfl))) (notFace_of_selects (args := #[]) (mvT hZ (hw _ (List.mem_of_getElem? (i := 25) rfl)))) (mvT hZ (hw _ (List.mem_of_getElem? (i := 25) rfl))) (mvT hZ (hw _ (List.mem_of_getElem? (i := 24) rfl))) (by decide) (backOf (W := 0) (rm5 l Z a0 hw [] a (1 : Int32) a (0 : Int32) (FP.i2d p3) ha hk la lk 2 2 [(FP.l2d bs), 0] [0, 0] 1 ha hk la lk 2 2 0 [(FP.l2d bs), 0] [0, 0] T27.heap n0 (Nat.le_trans Z0 KK27.1) Mp2 Mp2 (by decide) (by decide) (by decide) (by decide) g_ha g_la s1) hZ (hw _ (List.mem_of_getElem? (i := 26) rfl)) (hw _ (List.mem_of_getElem? (i := 2) rfl)) (by decide) (by decide)) q30a q30c (g := (mkF m 76 #[.val (.int p1), .val (.int p2), .val (.int p3), .val (.int p4), .val (.int (p2 &&& (31 : Int32))), .val (.long bs), .second, .val (.double (FP.l2d bs)), .second, .val (.double (FP.i2d p3)), .second, .val (.double (FP.i2d p4)), .second, .val (.long (bs + (p3.toInt64))), .second, .val (.long ((bs + (p3.toInt64)) + (p4.toInt64))), .second, .val (.ref a), .val (.ref b), .unset, .unset, .unset, .unset, .unset, .unset, .unset, .unset, .unset] [(.double (FP.i2d p3)), (.int (0 : Int32)), (.ref a), (.int (1 : Int32)), (.ref a)])) rfl (by rw [hml]; rfl) (Steps.refl _) (argsL := [(.int (1 : Int32)), (.ref a), (.int (0 : Int32)), (.double (FP.i2d p3))]) (rest := []) (lenOf pd_3 rfl) rfl (by show 2 * 0 + _ ≤ _; exact Nat.le_of_eq rfl) (hb hby at_76) (fun _ _ => ⟨rfl, rfl, (by decide : 6 + 0 ≤ _), (by decide : 12 + 0 ≤ _)⟩)
  dsimp only [Pt.U, Pt.locs, Pt.cells, Pt.slots] at X30 l30 y30 z30 st30 hQ30
  subst l30 y30 z30
  obtain ⟨rfl, N30q, Kc30, M30⟩ := hQ30
  have N30 := Fr.app N27 N30q
  have g30 : own_Go p e below s₁ (entryFrame m #[(.int p1), (.int p2), (.int p3), (.int p4)] maxLocals) T30 (mkF m 79 #[.val (.int p1), .val (.int p2), .val (.int p3), .val (.int p4), .val (.int (p2 &&& (31 : Int32))), .val (.long bs), .second, .val (.double (FP.l2d bs)), .second, .val (.double (FP.i2d p3)), .second, .val (.double (FP.i2d p4)), .second, .val (.long (bs + (p3.toInt64))), .second, .val (.long ((bs + (p3.toInt64)) + (p4.toInt64))), .second, .val (.ref a), .val (.ref b), .unset, .unset, .unset, .unset, .unset, .unset, .unset, .unset, .unset] []) := fun t kt => g29 t (st30.trans kt)
  have f31 := Mp2.1.keep Kc30
  have KK30 : Keep h0 T30.heap [] := KK27.trans Kc30 (allS (Or.inr sz_ha) (allS (Or.inr sz_la) all0))
  have Mp3 : own_PV Z T30.heap a ha hk la lk 2 2 [(FP.l2d bs), (own_nh (FP.l2d bs) 0 (FP.i2d p3))] [0, (own_nl (FP.l2d bs) 0 (FP.i2d p3))] := M30
  have Mq2 := Mq1.keep Kc30 (ninS (Ne.symm ne_ha_b) (ninS (Ne.symm ne_la_b) nin0)) (ninS (Ne.symm ne_ha_hB) (ninS (Ne.symm ne_la_hB) nin0)) (ninS (Ne.symm ne_ha_lB) (ninS (Ne.symm ne_la_lB) nin0))
  have g32 : own_Go p e below s₁ (entryFrame m #[(.int p1), (.int p2), (.int p3), (.int p4)] maxLocals) T30 (mkF m 87 #[.val (.int p1), .val (.int p2), .val (.int p3), .val (.int p4), .val (.int (p2 &&& (31 : Int32))), .val (.long bs), .second, .val (.double (FP.l2d bs)), .second, .val (.double (FP.i2d p3)), .second, .val (.double (FP.i2d p4)), .second, .val (.long (bs + (p3.toInt64))), .second, .val (.long ((bs + (p3.toInt64)) + (p4.toInt64))), .second, .val (.ref a), .val (.ref b), .unset, .unset, .unset, .unset, .unset, .unset, .unset, .unset, .unset] [(.double (FP.i2d p4)), (.int (1 : Int32)), (.ref a), (.int (0 : Int32)), (.ref b)]) := fun t kt => g30 t (by
    show Steps p.tables e below (T30.setTop (mkF m 79 #[.val (.int p1), .val (.int p2), .val (.int p3), .val (.int p4), .val (.int (p2 &&& (31 : Int32))), .val (.long bs), .second, .val (.double (FP.l2d bs)), .second, .val (.double (FP.i2d p3)), .second, .val (.double (FP.i2d p4)), .second, .val (.long (bs + (p3.toInt64))), .second, .val (.long ((bs + (p3.toInt64)) + (p4.toInt64))), .second, .val (.ref a), .val (.ref b), .unset, .unset, .unset, .unset, .unset, .unset, .unset, .unset, .unset] [])) _
    refine XS.aload X30.here hx rfl (hb hby at_79) rfl rfl ?_
    show Steps p.tables e below (T30.setTop (mkF m 81 #[.val (.int p1), .val (.int p2), .val (.int p3), .val (.int p4), .val (.int (p2 &&& (31 : Int32))), .val (.long bs), .second, .val (.double (FP.l2d bs)), .second, .val (.double (FP.i2d p3)), .second, .val (.double (FP.i2d p4)), .second, .val (.long (bs + (p3.toInt64))), .second, .val (.long ((bs + (p3.toInt64)) + (p4.toInt64))), .second, .val (.ref a), .val (.ref b), .unset, .unset, .unset, .unset, .unset, .unset, .unset, .unset, .unset] [(.ref b)])) _
    refine XS.iconst X30.here hx rfl (hb hby at_81) ?_
    show Steps p.tables e below (T30.setTop (mkF m 82 #[.val (.int p1), .val (.int p2), .val (.int p3), .val (.int p4), .val (.int (p2 &&& (31 : Int32))), .val (.long bs), .second, .val (.double (FP.l2d bs)), .second, .val (.double (FP.i2d p3)), .second, .val (.double (FP.i2d p4)), .second, .val (.long (bs + (p3.toInt64))), .second, .val (.long ((bs + (p3.toInt64)) + (p4.toInt64))), .second, .val (.ref a), .val (.ref b), .unset, .unset, .unset, .unset, .unset, .unset, .unset, .unset, .unset] [(.int (0 : Int32)), (.ref b)])) _
    refine XS.aload X30.here hx rfl (hb hby at_82) rfl rfl ?_
    show Steps p.tables e below (T30.setTop (mkF m 84 #[.val (.int p1), .val (.int p2), .val (.int p3), .val (.int p4), .val (.int (p2 &&& (31 : Int32))), .val (.long bs), .second, .val (.double (FP.l2d bs)), .second, .val (.double (FP.i2d p3)), .second, .val (.double (FP.i2d p4)), .second, .val (.long (bs + (p3.toInt64))), .second, .val (.long ((bs + (p3.toInt64)) + (p4.toInt64))), .second, .val (.ref a), .val (.ref b), .unset, .unset, .unset, .unset, .unset, .unset, .unset, .unset, .unset] [(.ref a), (.int (0 : Int32)), (.ref b)])) _
    refine XS.iconst X30.here hx rfl (hb hby at_84) ?_
    show Steps p.tables e below (T30.setTop (mkF m 85 #[.val (.int p1), .val (.int p2), .val (.int p3), .val (.int p4), .val (.int (p2 &&& (31 : Int32))), .val (.long bs), .second, .val (.double (FP.l2d bs)), .second, .val (.double (FP.i2d p3)), .second, .val (.double (FP.i2d p4)), .second, .val (.long (bs + (p3.toInt64))), .second, .val (.long ((bs + (p3.toInt64)) + (p4.toInt64))), .second, .val (.ref a), .val (.ref b), .unset, .unset, .unset, .unset, .unset, .unset, .unset, .unset, .unset] [(.int (1 : Int32)), (.ref a), (.int (0 : Int32)), (.ref b)])) _
    refine XS.dload X30.here hx rfl (hb hby at_85) rfl ?_
    exact kt)
  obtain ⟨cq33, kq33, q33a, q33b, q33c⟩ := isOf hZ rfl Mq2.1
  obtain ⟨_, _, ⟨T33, L33, k33, n33⟩, -, X33, ⟨Lc33, hQ33, l33, y33, z33⟩, st33⟩ := X30.virtualBack hx (y := (⟨"com/example/pincer/pincer/engine/PreciseValues", "setStep", "(ILcom/example/pincer/pincer/engine/PreciseValues;ID)V"⟩ : MethodName)) (z := (⟨"com/example/pincer/pincer/engine/PreciseValues", "setStep", "(ILcom/example/pincer/pincer/engine/PreciseValues;ID)V"⟩ : MethodName)) hown (mvT hZ (hw _ (List.mem_of_getElem? (i := 22) rfl))) (mvT hZ (hw _ (List.mem_of_getElem? (i := 23) rfl))) (notFace_of_selects (args := #[]) (mvT hZ (hw _ (List.mem_of_getElem? (i := 25) rfl)))) (mvT hZ (hw _ (List.mem_of_getElem? (i := 25) rfl))) (mvT hZ (hw _ (List.mem_of_getElem? (i := 24) rfl))) (by decide) (backOf (W := 0) (rm5 l Z a0 hw [] b (0 : Int32) a (1 : Int32) (FP.i2d p4) hB hkb lB lkb 1 1 (List.replicate 1 0) (List.replicate 1 0) 0 ha hk la lk 2 2 1 [(FP.l2d bs), (own_nh (FP.l2d bs) 0 (FP.i2d p3))] [0, (own_nl (FP.l2d bs) 0 (FP.i2d p3))] T30.heap n0 (Nat.le_trans Z0 KK30.1) Mq2 Mp3 (by decide) (by decide) (by decide) (by decide) g_hB g_lB s2) hZ (hw _ (List.mem_of_getElem? (i := 26) rfl)) (hw _ (List.mem_of_getElem? (i := 2) rfl)) (by decide) (by decide)) q33a q33c (g := (mkF m 87 #[.val (.int p1), .val (.int p2), .val (.int p3), .val (.int p4), .val (.int (p2 &&& (31 : Int32))), .val (.long bs), .second, .val (.double (FP.l2d bs)), .second, .val (.double (FP.i2d p3)), .second, .val (.double (FP.i2d p4)), .second, .val (.long (bs + (p3.toInt64))), .second, .val (.long ((bs + (p3.toInt64)) + (p4.toInt64))), .second, .val (.ref a), .val (.ref b), .unset, .unset, .unset, .unset, .unset, .unset, .unset, .unset, .unset] [(.double (FP.i2d p4)), (.int (1 : Int32)), (.ref a), (.int (0 : Int32)), (.ref b)])) rfl (by rw [hml]; rfl) (Steps.refl _) (argsL := [(.int (0 : Int32)), (.ref a), (.int (1 : Int32)), (.double (FP.i2d p4))]) (rest := []) (lenOf pd_3 rfl) rfl (by show 2 * 0 + _ ≤ _; exact Nat.le_of_eq rfl) (hb hby at_87) (fun _ _ => ⟨rfl, rfl, (by decide : 6 + 0 ≤ _), (by decide : 12 + 0 ≤ _)⟩)
  dsimp only [Pt.U, Pt.locs, Pt.cells, Pt.slots] at X33 l33 y33 z33 st33 hQ33
  subst l33 y33 z33
  obtain ⟨rfl, N33q, Kc33, M33⟩ := hQ33
  have N33 := Fr.app N30 N33q
  have g33 : own_Go p e below s₁ (entryFrame m #[(.int p1), (.int p2), (.int p3), (.int p4)] maxLocals) T33 (mkF m 90 #[.val (.int p1), .val (.int p2), .val (.int p3), .val (.int p4), .val (.int (p2 &&& (31 : Int32))), .val (.long bs), .second, .val (.double (FP.l2d bs)), .second, .val (.double (FP.i2d p3)), .second, .val (.double (FP.i2d p4)), .second, .val (.long (bs + (p3.toInt64))), .second, .val (.long ((bs + (p3.toInt64)) + (p4.toInt64))), .second, .val (.ref a), .val (.ref b), .unset, .unset, .unset, .unset, .unset, .unset, .unset, .unset, .unset] []) := fun t kt => g32 t (st33.trans kt)
  have f34 := Mq2.1.keep Kc33
  have KK33 : Keep h0 T33.heap [] := KK30.trans Kc33 (allS (Or.inr sz_hB) (allS (Or.inr sz_lB) all0))
  have Mq3 : own_PV Z T33.heap b hB hkb lB lkb 1 1 [(own_nh (own_nh (FP.l2d bs) 0 (FP.i2d p3)) (own_nl (FP.l2d bs) 0 (FP.i2d p3)) (FP.i2d p4))] [(own_nl (own_nh (FP.l2d bs) 0 (FP.i2d p3)) (own_nl (FP.l2d bs) 0 (FP.i2d p3)) (FP.i2d p4))] := M33
  have Mp4 := Mp3.keep Kc33 (ninS ne_a_hB (ninS ne_a_lB nin0)) (ninS ne_ha_hB (ninS ne_ha_lB nin0)) (ninS ne_la_hB (ninS ne_la_lB nin0))
  have g35 : own_Go p e below s₁ (entryFrame m #[(.int p1), (.int p2), (.int p3), (.int p4)] maxLocals) T33 (mkF m 93 #[.val (.int p1), .val (.int p2), .val (.int p3), .val (.int p4), .val (.int (p2 &&& (31 : Int32))), .val (.long bs), .second, .val (.double (FP.l2d bs)), .second, .val (.double (FP.i2d p3)), .second, .val (.double (FP.i2d p4)), .second, .val (.long (bs + (p3.toInt64))), .second, .val (.long ((bs + (p3.toInt64)) + (p4.toInt64))), .second, .val (.ref a), .val (.ref b), .unset, .unset, .unset, .unset, .unset, .unset, .unset, .unset, .unset] [(.int (1 : Int32)), (.ref a)]) := fun t kt => g33 t (by
    show Steps p.tables e below (T33.setTop (mkF m 90 #[.val (.int p1), .val (.int p2), .val (.int p3), .val (.int p4), .val (.int (p2 &&& (31 : Int32))), .val (.long bs), .second, .val (.double (FP.l2d bs)), .second, .val (.double (FP.i2d p3)), .second, .val (.double (FP.i2d p4)), .second, .val (.long (bs + (p3.toInt64))), .second, .val (.long ((bs + (p3.toInt64)) + (p4.toInt64))), .second, .val (.ref a), .val (.ref b), .unset, .unset, .unset, .unset, .unset, .unset, .unset, .unset, .unset] [])) _
    refine XS.aload X33.here hx rfl (hb hby at_90) rfl rfl ?_
    show Steps p.tables e below (T33.setTop (mkF m 92 #[.val (.int p1), .val (.int p2), .val (.int p3), .val (.int p4), .val (.int (p2 &&& (31 : Int32))), .val (.long bs), .second, .val (.double (FP.l2d bs)), .second, .val (.double (FP.i2d p3)), .second, .val (.double (FP.i2d p4)), .second, .val (.long (bs + (p3.toInt64))), .second, .val (.long ((bs + (p3.toInt64)) + (p4.toInt64))), .second, .val (.ref a), .val (.ref b), .unset, .unset, .unset, .unset, .unset, .unset, .unset, .unset, .unset] [(.ref a)])) _
    refine XS.iconst X33.here hx rfl (hb hby at_92) ?_
    exact kt)
  obtain ⟨cq36, kq36, q36a, q36b, q36c⟩ := isOf hZ rfl Mp4.1
  obtain ⟨_, _, ⟨T36, L36, k36, n36⟩, -, X36, ⟨Lc36, hQ36, l36, y36, z36⟩, st36⟩ := X33.virtualBack hx (y := (⟨"com/example/pincer/pincer/engine/PreciseValues", "high", "(I)D"⟩ : MethodName)) (z := (⟨"com/example/pincer/pincer/engine/PreciseValues", "high", "(I)D"⟩ : MethodName)) hown (mvT hZ (hw _ (List.mem_of_getElem? (i := 27) rfl))) (mvT hZ (hw _ (List.mem_of_getElem? (i := 28) rfl))) (notFace_of_selects (args := #[]) (mvT hZ (hw _ (List.mem_of_getElem? (i := 30) rfl)))) (mvT hZ (hw _ (List.mem_of_getElem? (i := 30) rfl))) (mvT hZ (hw _ (List.mem_of_getElem? (i := 29) rfl))) (by decide) (backOf (W := 0) (rm6 l Z a0 hw [] a (1 : Int32) ha hk la lk 2 2 [(FP.l2d bs), (own_nh (FP.l2d bs) 0 (FP.i2d p3))] [0, (own_nl (FP.l2d bs) 0 (FP.i2d p3))] 1 T33.heap n0 (Nat.le_trans Z0 KK33.1) Mp4 (by decide) (by decide)) hZ (hw _ (List.mem_of_getElem? (i := 31) rfl)) (hw _ (List.mem_of_getElem? (i := 2) rfl)) (by decide) (by decide)) q36a q36c (g := (mkF m 93 #[.val (.int p1), .val (.int p2), .val (.int p3), .val (.int p4), .val (.int (p2 &&& (31 : Int32))), .val (.long bs), .second, .val (.double (FP.l2d bs)), .second, .val (.double (FP.i2d p3)), .second, .val (.double (FP.i2d p4)), .second, .val (.long (bs + (p3.toInt64))), .second, .val (.long ((bs + (p3.toInt64)) + (p4.toInt64))), .second, .val (.ref a), .val (.ref b), .unset, .unset, .unset, .unset, .unset, .unset, .unset, .unset, .unset] [(.int (1 : Int32)), (.ref a)])) rfl (by rw [hml]; rfl) (Steps.refl _) (argsL := [(.int (1 : Int32))]) (rest := []) (lenOf pd_4 rfl) rfl (by show 2 * 0 + _ ≤ _; exact Nat.le_of_eq rfl) (hb hby at_93) (fun _ _ => ⟨rfl, rfl, (by decide : 6 + 0 ≤ _), (by decide : 12 + 0 ≤ _)⟩)
  dsimp only [Pt.U, Pt.locs, Pt.cells, Pt.slots] at X36 l36 y36 z36 st36 hQ36
  subst l36 y36 z36
  obtain ⟨rfl, N36q, Eq36⟩ := hQ36
  have N36 := Fr.app N33 N36q
  have g36 : own_Go p e below s₁ (entryFrame m #[(.int p1), (.int p2), (.int p3), (.int p4)] maxLocals) T36 (mkF m 96 #[.val (.int p1), .val (.int p2), .val (.int p3), .val (.int p4), .val (.int (p2 &&& (31 : Int32))), .val (.long bs), .second, .val (.double (FP.l2d bs)), .second, .val (.double (FP.i2d p3)), .second, .val (.double (FP.i2d p4)), .second, .val (.long (bs + (p3.toInt64))), .second, .val (.long ((bs + (p3.toInt64)) + (p4.toInt64))), .second, .val (.ref a), .val (.ref b), .unset, .unset, .unset, .unset, .unset, .unset, .unset, .unset, .unset] [(.double (own_nh (FP.l2d bs) 0 (FP.i2d p3)))]) := fun t kt => g35 t (st36.trans kt)
  have E36' : T36.heap = T33.heap := Eq36
  have g37 : own_Go p e below s₁ (entryFrame m #[(.int p1), (.int p2), (.int p3), (.int p4)] maxLocals) T36 (mkF m 101 #[.val (.int p1), .val (.int p2), .val (.int p3), .val (.int p4), .val (.int (p2 &&& (31 : Int32))), .val (.long bs), .second, .val (.double (FP.l2d bs)), .second, .val (.double (FP.i2d p3)), .second, .val (.double (FP.i2d p4)), .second, .val (.long (bs + (p3.toInt64))), .second, .val (.long ((bs + (p3.toInt64)) + (p4.toInt64))), .second, .val (.ref a), .val (.ref b), .val (.double (own_nh (FP.l2d bs) 0 (FP.i2d p3))), .second, .unset, .unset, .unset, .unset, .unset, .unset, .unset] [(.int (1 : Int32)), (.ref a)]) := fun t kt => g36 t (by
    show Steps p.tables e below (T36.setTop (mkF m 96 #[.val (.int p1), .val (.int p2), .val (.int p3), .val (.int p4), .val (.int (p2 &&& (31 : Int32))), .val (.long bs), .second, .val (.double (FP.l2d bs)), .second, .val (.double (FP.i2d p3)), .second, .val (.double (FP.i2d p4)), .second, .val (.long (bs + (p3.toInt64))), .second, .val (.long ((bs + (p3.toInt64)) + (p4.toInt64))), .second, .val (.ref a), .val (.ref b), .unset, .unset, .unset, .unset, .unset, .unset, .unset, .unset, .unset] [(.double (own_nh (FP.l2d bs) 0 (FP.i2d p3)))])) _
    refine XS.dstore X36.here hx rfl (hb hby at_96) rfl (l' := #[.val (.int p1), .val (.int p2), .val (.int p3), .val (.int p4), .val (.int (p2 &&& (31 : Int32))), .val (.long bs), .second, .val (.double (FP.l2d bs)), .second, .val (.double (FP.i2d p3)), .second, .val (.double (FP.i2d p4)), .second, .val (.long (bs + (p3.toInt64))), .second, .val (.long ((bs + (p3.toInt64)) + (p4.toInt64))), .second, .val (.ref a), .val (.ref b), .val (.double (own_nh (FP.l2d bs) 0 (FP.i2d p3))), .second, .unset, .unset, .unset, .unset, .unset, .unset, .unset]) rfl ?_
    show Steps p.tables e below (T36.setTop (mkF m 98 #[.val (.int p1), .val (.int p2), .val (.int p3), .val (.int p4), .val (.int (p2 &&& (31 : Int32))), .val (.long bs), .second, .val (.double (FP.l2d bs)), .second, .val (.double (FP.i2d p3)), .second, .val (.double (FP.i2d p4)), .second, .val (.long (bs + (p3.toInt64))), .second, .val (.long ((bs + (p3.toInt64)) + (p4.toInt64))), .second, .val (.ref a), .val (.ref b), .val (.double (own_nh (FP.l2d bs) 0 (FP.i2d p3))), .second, .unset, .unset, .unset, .unset, .unset, .unset, .unset] [])) _
    refine XS.aload X36.here hx rfl (hb hby at_98) rfl rfl ?_
    show Steps p.tables e below (T36.setTop (mkF m 100 #[.val (.int p1), .val (.int p2), .val (.int p3), .val (.int p4), .val (.int (p2 &&& (31 : Int32))), .val (.long bs), .second, .val (.double (FP.l2d bs)), .second, .val (.double (FP.i2d p3)), .second, .val (.double (FP.i2d p4)), .second, .val (.long (bs + (p3.toInt64))), .second, .val (.long ((bs + (p3.toInt64)) + (p4.toInt64))), .second, .val (.ref a), .val (.ref b), .val (.double (own_nh (FP.l2d bs) 0 (FP.i2d p3))), .second, .unset, .unset, .unset, .unset, .unset, .unset, .unset] [(.ref a)])) _
    refine XS.iconst X36.here hx rfl (hb hby at_100) ?_
    exact kt)
  obtain ⟨cq38, kq38, q38a, q38b, q38c⟩ := isOf hZ E36' Mp4.1
  obtain ⟨_, _, ⟨T38, L38, k38, n38⟩, -, X38, ⟨Lc38, hQ38, l38, y38, z38⟩, st38⟩ := X36.virtualBack hx (y := (⟨"com/example/pincer/pincer/engine/PreciseValues", "low", "(I)D"⟩ : MethodName)) (z := (⟨"com/example/pincer/pincer/engine/PreciseValues", "low", "(I)D"⟩ : MethodName)) hown (mvT hZ (hw _ (List.mem_of_getElem? (i := 32) rfl))) (mvT hZ (hw _ (List.mem_of_getElem? (i := 33) rfl))) (notFace_of_selects (args := #[]) (mvT hZ (hw _ (List.mem_of_getElem? (i := 35) rfl)))) (mvT hZ (hw _ (List.mem_of_getElem? (i := 35) rfl))) (mvT hZ (hw _ (List.mem_of_getElem? (i := 34) rfl))) (by decide) (backOf (W := 0) (rm7 l Z a0 hw [] a (1 : Int32) ha hk la lk 2 2 [(FP.l2d bs), (own_nh (FP.l2d bs) 0 (FP.i2d p3))] [0, (own_nl (FP.l2d bs) 0 (FP.i2d p3))] 1 T33.heap n0 (Nat.le_trans Z0 KK33.1) Mp4 (by decide) (by decide)) hZ (hw _ (List.mem_of_getElem? (i := 36) rfl)) (hw _ (List.mem_of_getElem? (i := 2) rfl)) (by decide) (by decide)) q38a q38c (g := (mkF m 101 #[.val (.int p1), .val (.int p2), .val (.int p3), .val (.int p4), .val (.int (p2 &&& (31 : Int32))), .val (.long bs), .second, .val (.double (FP.l2d bs)), .second, .val (.double (FP.i2d p3)), .second, .val (.double (FP.i2d p4)), .second, .val (.long (bs + (p3.toInt64))), .second, .val (.long ((bs + (p3.toInt64)) + (p4.toInt64))), .second, .val (.ref a), .val (.ref b), .val (.double (own_nh (FP.l2d bs) 0 (FP.i2d p3))), .second, .unset, .unset, .unset, .unset, .unset, .unset, .unset] [(.int (1 : Int32)), (.ref a)])) rfl (by rw [hml]; rfl) (Steps.refl _) (argsL := [(.int (1 : Int32))]) (rest := []) (lenOf pd_4 rfl) rfl (by show 2 * 0 + _ ≤ _; exact Nat.le_of_eq rfl) (hb hby at_101) (fun _ _ => ⟨rfl, E36', (by decide : 6 + 0 ≤ _), (by decide : 12 + 0 ≤ _)⟩)
  dsimp only [Pt.U, Pt.locs, Pt.cells, Pt.slots] at X38 l38 y38 z38 st38 hQ38
  subst l38 y38 z38
  obtain ⟨rfl, N38q, Eq38⟩ := hQ38
  have N38 := Fr.app N36 N38q
  have g38 : own_Go p e below s₁ (entryFrame m #[(.int p1), (.int p2), (.int p3), (.int p4)] maxLocals) T38 (mkF m 104 #[.val (.int p1), .val (.int p2), .val (.int p3), .val (.int p4), .val (.int (p2 &&& (31 : Int32))), .val (.long bs), .second, .val (.double (FP.l2d bs)), .second, .val (.double (FP.i2d p3)), .second, .val (.double (FP.i2d p4)), .second, .val (.long (bs + (p3.toInt64))), .second, .val (.long ((bs + (p3.toInt64)) + (p4.toInt64))), .second, .val (.ref a), .val (.ref b), .val (.double (own_nh (FP.l2d bs) 0 (FP.i2d p3))), .second, .unset, .unset, .unset, .unset, .unset, .unset, .unset] [(.double (own_nl (FP.l2d bs) 0 (FP.i2d p3)))]) := fun t kt => g37 t (st38.trans kt)
  have E38' : T38.heap = T33.heap := Eq38
  have g39 : own_Go p e below s₁ (entryFrame m #[(.int p1), (.int p2), (.int p3), (.int p4)] maxLocals) T38 (mkF m 109 #[.val (.int p1), .val (.int p2), .val (.int p3), .val (.int p4), .val (.int (p2 &&& (31 : Int32))), .val (.long bs), .second, .val (.double (FP.l2d bs)), .second, .val (.double (FP.i2d p3)), .second, .val (.double (FP.i2d p4)), .second, .val (.long (bs + (p3.toInt64))), .second, .val (.long ((bs + (p3.toInt64)) + (p4.toInt64))), .second, .val (.ref a), .val (.ref b), .val (.double (own_nh (FP.l2d bs) 0 (FP.i2d p3))), .second, .val (.double (own_nl (FP.l2d bs) 0 (FP.i2d p3))), .second, .unset, .unset, .unset, .unset, .unset] [(.int (0 : Int32)), (.ref b)]) := fun t kt => g38 t (by
    show Steps p.tables e below (T38.setTop (mkF m 104 #[.val (.int p1), .val (.int p2), .val (.int p3), .val (.int p4), .val (.int (p2 &&& (31 : Int32))), .val (.long bs), .second, .val (.double (FP.l2d bs)), .second, .val (.double (FP.i2d p3)), .second, .val (.double (FP.i2d p4)), .second, .val (.long (bs + (p3.toInt64))), .second, .val (.long ((bs + (p3.toInt64)) + (p4.toInt64))), .second, .val (.ref a), .val (.ref b), .val (.double (own_nh (FP.l2d bs) 0 (FP.i2d p3))), .second, .unset, .unset, .unset, .unset, .unset, .unset, .unset] [(.double (own_nl (FP.l2d bs) 0 (FP.i2d p3)))])) _
    refine XS.dstore X38.here hx rfl (hb hby at_104) rfl (l' := #[.val (.int p1), .val (.int p2), .val (.int p3), .val (.int p4), .val (.int (p2 &&& (31 : Int32))), .val (.long bs), .second, .val (.double (FP.l2d bs)), .second, .val (.double (FP.i2d p3)), .second, .val (.double (FP.i2d p4)), .second, .val (.long (bs + (p3.toInt64))), .second, .val (.long ((bs + (p3.toInt64)) + (p4.toInt64))), .second, .val (.ref a), .val (.ref b), .val (.double (own_nh (FP.l2d bs) 0 (FP.i2d p3))), .second, .val (.double (own_nl (FP.l2d bs) 0 (FP.i2d p3))), .second, .unset, .unset, .unset, .unset, .unset]) rfl ?_
    show Steps p.tables e below (T38.setTop (mkF m 106 #[.val (.int p1), .val (.int p2), .val (.int p3), .val (.int p4), .val (.int (p2 &&& (31 : Int32))), .val (.long bs), .second, .val (.double (FP.l2d bs)), .second, .val (.double (FP.i2d p3)), .second, .val (.double (FP.i2d p4)), .second, .val (.long (bs + (p3.toInt64))), .second, .val (.long ((bs + (p3.toInt64)) + (p4.toInt64))), .second, .val (.ref a), .val (.ref b), .val (.double (own_nh (FP.l2d bs) 0 (FP.i2d p3))), .second, .val (.double (own_nl (FP.l2d bs) 0 (FP.i2d p3))), .second, .unset, .unset, .unset, .unset, .unset] [])) _
    refine XS.aload X38.here hx rfl (hb hby at_106) rfl rfl ?_
    show Steps p.tables e below (T38.setTop (mkF m 108 #[.val (.int p1), .val (.int p2), .val (.int p3), .val (.int p4), .val (.int (p2 &&& (31 : Int32))), .val (.long bs), .second, .val (.double (FP.l2d bs)), .second, .val (.double (FP.i2d p3)), .second, .val (.double (FP.i2d p4)), .second, .val (.long (bs + (p3.toInt64))), .second, .val (.long ((bs + (p3.toInt64)) + (p4.toInt64))), .second, .val (.ref a), .val (.ref b), .val (.double (own_nh (FP.l2d bs) 0 (FP.i2d p3))), .second, .val (.double (own_nl (FP.l2d bs) 0 (FP.i2d p3))), .second, .unset, .unset, .unset, .unset, .unset] [(.ref b)])) _
    refine XS.iconst X38.here hx rfl (hb hby at_108) ?_
    exact kt)
  obtain ⟨cq40, kq40, q40a, q40b, q40c⟩ := isOf hZ E38' Mq3.1
  obtain ⟨_, _, ⟨T40, L40, k40, n40⟩, -, X40, ⟨Lc40, hQ40, l40, y40, z40⟩, st40⟩ := X38.virtualBack hx (y := (⟨"com/example/pincer/pincer/engine/PreciseValues", "high", "(I)D"⟩ : MethodName)) (z := (⟨"com/example/pincer/pincer/engine/PreciseValues", "high", "(I)D"⟩ : MethodName)) hown (mvT hZ (hw _ (List.mem_of_getElem? (i := 27) rfl))) (mvT hZ (hw _ (List.mem_of_getElem? (i := 28) rfl))) (notFace_of_selects (args := #[]) (mvT hZ (hw _ (List.mem_of_getElem? (i := 30) rfl)))) (mvT hZ (hw _ (List.mem_of_getElem? (i := 30) rfl))) (mvT hZ (hw _ (List.mem_of_getElem? (i := 29) rfl))) (by decide) (backOf (W := 0) (rm6 l Z a0 hw [] b (0 : Int32) hB hkb lB lkb 1 1 [(own_nh (own_nh (FP.l2d bs) 0 (FP.i2d p3)) (own_nl (FP.l2d bs) 0 (FP.i2d p3)) (FP.i2d p4))] [(own_nl (own_nh (FP.l2d bs) 0 (FP.i2d p3)) (own_nl (FP.l2d bs) 0 (FP.i2d p3)) (FP.i2d p4))] 0 T33.heap n0 (Nat.le_trans Z0 KK33.1) Mq3 (by decide) (by decide)) hZ (hw _ (List.mem_of_getElem? (i := 31) rfl)) (hw _ (List.mem_of_getElem? (i := 2) rfl)) (by decide) (by decide)) q40a q40c (g := (mkF m 109 #[.val (.int p1), .val (.int p2), .val (.int p3), .val (.int p4), .val (.int (p2 &&& (31 : Int32))), .val (.long bs), .second, .val (.double (FP.l2d bs)), .second, .val (.double (FP.i2d p3)), .second, .val (.double (FP.i2d p4)), .second, .val (.long (bs + (p3.toInt64))), .second, .val (.long ((bs + (p3.toInt64)) + (p4.toInt64))), .second, .val (.ref a), .val (.ref b), .val (.double (own_nh (FP.l2d bs) 0 (FP.i2d p3))), .second, .val (.double (own_nl (FP.l2d bs) 0 (FP.i2d p3))), .second, .unset, .unset, .unset, .unset, .unset] [(.int (0 : Int32)), (.ref b)])) rfl (by rw [hml]; rfl) (Steps.refl _) (argsL := [(.int (0 : Int32))]) (rest := []) (lenOf pd_4 rfl) rfl (by show 2 * 0 + _ ≤ _; exact Nat.le_of_eq rfl) (hb hby at_109) (fun _ _ => ⟨rfl, E38', (by decide : 6 + 0 ≤ _), (by decide : 12 + 0 ≤ _)⟩)
  dsimp only [Pt.U, Pt.locs, Pt.cells, Pt.slots] at X40 l40 y40 z40 st40 hQ40
  subst l40 y40 z40
  obtain ⟨rfl, N40q, Eq40⟩ := hQ40
  have N40 := Fr.app N38 N40q
  have g40 : own_Go p e below s₁ (entryFrame m #[(.int p1), (.int p2), (.int p3), (.int p4)] maxLocals) T40 (mkF m 112 #[.val (.int p1), .val (.int p2), .val (.int p3), .val (.int p4), .val (.int (p2 &&& (31 : Int32))), .val (.long bs), .second, .val (.double (FP.l2d bs)), .second, .val (.double (FP.i2d p3)), .second, .val (.double (FP.i2d p4)), .second, .val (.long (bs + (p3.toInt64))), .second, .val (.long ((bs + (p3.toInt64)) + (p4.toInt64))), .second, .val (.ref a), .val (.ref b), .val (.double (own_nh (FP.l2d bs) 0 (FP.i2d p3))), .second, .val (.double (own_nl (FP.l2d bs) 0 (FP.i2d p3))), .second, .unset, .unset, .unset, .unset, .unset] [(.double (own_nh (own_nh (FP.l2d bs) 0 (FP.i2d p3)) (own_nl (FP.l2d bs) 0 (FP.i2d p3)) (FP.i2d p4)))]) := fun t kt => g39 t (st40.trans kt)
  have E40' : T40.heap = T33.heap := Eq40
  have g41 : own_Go p e below s₁ (entryFrame m #[(.int p1), (.int p2), (.int p3), (.int p4)] maxLocals) T40 (mkF m 117 #[.val (.int p1), .val (.int p2), .val (.int p3), .val (.int p4), .val (.int (p2 &&& (31 : Int32))), .val (.long bs), .second, .val (.double (FP.l2d bs)), .second, .val (.double (FP.i2d p3)), .second, .val (.double (FP.i2d p4)), .second, .val (.long (bs + (p3.toInt64))), .second, .val (.long ((bs + (p3.toInt64)) + (p4.toInt64))), .second, .val (.ref a), .val (.ref b), .val (.double (own_nh (FP.l2d bs) 0 (FP.i2d p3))), .second, .val (.double (own_nl (FP.l2d bs) 0 (FP.i2d p3))), .second, .val (.double (own_nh (own_nh (FP.l2d bs) 0 (FP.i2d p3)) (own_nl (FP.l2d bs) 0 (FP.i2d p3)) (FP.i2d p4))), .second, .unset, .unset, .unset] [(.int (0 : Int32)), (.ref b)]) := fun t kt => g40 t (by
    show Steps p.tables e below (T40.setTop (mkF m 112 #[.val (.int p1), .val (.int p2), .val (.int p3), .val (.int p4), .val (.int (p2 &&& (31 : Int32))), .val (.long bs), .second, .val (.double (FP.l2d bs)), .second, .val (.double (FP.i2d p3)), .second, .val (.double (FP.i2d p4)), .second, .val (.long (bs + (p3.toInt64))), .second, .val (.long ((bs + (p3.toInt64)) + (p4.toInt64))), .second, .val (.ref a), .val (.ref b), .val (.double (own_nh (FP.l2d bs) 0 (FP.i2d p3))), .second, .val (.double (own_nl (FP.l2d bs) 0 (FP.i2d p3))), .second, .unset, .unset, .unset, .unset, .unset] [(.double (own_nh (own_nh (FP.l2d bs) 0 (FP.i2d p3)) (own_nl (FP.l2d bs) 0 (FP.i2d p3)) (FP.i2d p4)))])) _
    refine XS.dstore X40.here hx rfl (hb hby at_112) rfl (l' := #[.val (.int p1), .val (.int p2), .val (.int p3), .val (.int p4), .val (.int (p2 &&& (31 : Int32))), .val (.long bs), .second, .val (.double (FP.l2d bs)), .second, .val (.double (FP.i2d p3)), .second, .val (.double (FP.i2d p4)), .second, .val (.long (bs + (p3.toInt64))), .second, .val (.long ((bs + (p3.toInt64)) + (p4.toInt64))), .second, .val (.ref a), .val (.ref b), .val (.double (own_nh (FP.l2d bs) 0 (FP.i2d p3))), .second, .val (.double (own_nl (FP.l2d bs) 0 (FP.i2d p3))), .second, .val (.double (own_nh (own_nh (FP.l2d bs) 0 (FP.i2d p3)) (own_nl (FP.l2d bs) 0 (FP.i2d p3)) (FP.i2d p4))), .second, .unset, .unset, .unset]) rfl ?_
    show Steps p.tables e below (T40.setTop (mkF m 114 #[.val (.int p1), .val (.int p2), .val (.int p3), .val (.int p4), .val (.int (p2 &&& (31 : Int32))), .val (.long bs), .second, .val (.double (FP.l2d bs)), .second, .val (.double (FP.i2d p3)), .second, .val (.double (FP.i2d p4)), .second, .val (.long (bs + (p3.toInt64))), .second, .val (.long ((bs + (p3.toInt64)) + (p4.toInt64))), .second, .val (.ref a), .val (.ref b), .val (.double (own_nh (FP.l2d bs) 0 (FP.i2d p3))), .second, .val (.double (own_nl (FP.l2d bs) 0 (FP.i2d p3))), .second, .val (.double (own_nh (own_nh (FP.l2d bs) 0 (FP.i2d p3)) (own_nl (FP.l2d bs) 0 (FP.i2d p3)) (FP.i2d p4))), .second, .unset, .unset, .unset] [])) _
    refine XS.aload X40.here hx rfl (hb hby at_114) rfl rfl ?_
    show Steps p.tables e below (T40.setTop (mkF m 116 #[.val (.int p1), .val (.int p2), .val (.int p3), .val (.int p4), .val (.int (p2 &&& (31 : Int32))), .val (.long bs), .second, .val (.double (FP.l2d bs)), .second, .val (.double (FP.i2d p3)), .second, .val (.double (FP.i2d p4)), .second, .val (.long (bs + (p3.toInt64))), .second, .val (.long ((bs + (p3.toInt64)) + (p4.toInt64))), .second, .val (.ref a), .val (.ref b), .val (.double (own_nh (FP.l2d bs) 0 (FP.i2d p3))), .second, .val (.double (own_nl (FP.l2d bs) 0 (FP.i2d p3))), .second, .val (.double (own_nh (own_nh (FP.l2d bs) 0 (FP.i2d p3)) (own_nl (FP.l2d bs) 0 (FP.i2d p3)) (FP.i2d p4))), .second, .unset, .unset, .unset] [(.ref b)])) _
    refine XS.iconst X40.here hx rfl (hb hby at_116) ?_
    exact kt)
  obtain ⟨cq42, kq42, q42a, q42b, q42c⟩ := isOf hZ E40' Mq3.1
  obtain ⟨_, _, ⟨T42, L42, k42, n42⟩, -, X42, ⟨Lc42, hQ42, l42, y42, z42⟩, st42⟩ := X40.virtualBack hx (y := (⟨"com/example/pincer/pincer/engine/PreciseValues", "low", "(I)D"⟩ : MethodName)) (z := (⟨"com/example/pincer/pincer/engine/PreciseValues", "low", "(I)D"⟩ : MethodName)) hown (mvT hZ (hw _ (List.mem_of_getElem? (i := 32) rfl))) (mvT hZ (hw _ (List.mem_of_getElem? (i := 33) rfl))) (notFace_of_selects (args := #[]) (mvT hZ (hw _ (List.mem_of_getElem? (i := 35) rfl)))) (mvT hZ (hw _ (List.mem_of_getElem? (i := 35) rfl))) (mvT hZ (hw _ (List.mem_of_getElem? (i := 34) rfl))) (by decide) (backOf (W := 0) (rm7 l Z a0 hw [] b (0 : Int32) hB hkb lB lkb 1 1 [(own_nh (own_nh (FP.l2d bs) 0 (FP.i2d p3)) (own_nl (FP.l2d bs) 0 (FP.i2d p3)) (FP.i2d p4))] [(own_nl (own_nh (FP.l2d bs) 0 (FP.i2d p3)) (own_nl (FP.l2d bs) 0 (FP.i2d p3)) (FP.i2d p4))] 0 T33.heap n0 (Nat.le_trans Z0 KK33.1) Mq3 (by decide) (by decide)) hZ (hw _ (List.mem_of_getElem? (i := 36) rfl)) (hw _ (List.mem_of_getElem? (i := 2) rfl)) (by decide) (by decide)) q42a q42c (g := (mkF m 117 #[.val (.int p1), .val (.int p2), .val (.int p3), .val (.int p4), .val (.int (p2 &&& (31 : Int32))), .val (.long bs), .second, .val (.double (FP.l2d bs)), .second, .val (.double (FP.i2d p3)), .second, .val (.double (FP.i2d p4)), .second, .val (.long (bs + (p3.toInt64))), .second, .val (.long ((bs + (p3.toInt64)) + (p4.toInt64))), .second, .val (.ref a), .val (.ref b), .val (.double (own_nh (FP.l2d bs) 0 (FP.i2d p3))), .second, .val (.double (own_nl (FP.l2d bs) 0 (FP.i2d p3))), .second, .val (.double (own_nh (own_nh (FP.l2d bs) 0 (FP.i2d p3)) (own_nl (FP.l2d bs) 0 (FP.i2d p3)) (FP.i2d p4))), .second, .unset, .unset, .unset] [(.int (0 : Int32)), (.ref b)])) rfl (by rw [hml]; rfl) (Steps.refl _) (argsL := [(.int (0 : Int32))]) (rest := []) (lenOf pd_4 rfl) rfl (by show 2 * 0 + _ ≤ _; exact Nat.le_of_eq rfl) (hb hby at_117) (fun _ _ => ⟨rfl, E40', (by decide : 6 + 0 ≤ _), (by decide : 12 + 0 ≤ _)⟩)
  dsimp only [Pt.U, Pt.locs, Pt.cells, Pt.slots] at X42 l42 y42 z42 st42 hQ42
  subst l42 y42 z42
  obtain ⟨rfl, N42q, Eq42⟩ := hQ42
  have N42 := Fr.app N40 N42q
  have g42 : own_Go p e below s₁ (entryFrame m #[(.int p1), (.int p2), (.int p3), (.int p4)] maxLocals) T42 (mkF m 120 #[.val (.int p1), .val (.int p2), .val (.int p3), .val (.int p4), .val (.int (p2 &&& (31 : Int32))), .val (.long bs), .second, .val (.double (FP.l2d bs)), .second, .val (.double (FP.i2d p3)), .second, .val (.double (FP.i2d p4)), .second, .val (.long (bs + (p3.toInt64))), .second, .val (.long ((bs + (p3.toInt64)) + (p4.toInt64))), .second, .val (.ref a), .val (.ref b), .val (.double (own_nh (FP.l2d bs) 0 (FP.i2d p3))), .second, .val (.double (own_nl (FP.l2d bs) 0 (FP.i2d p3))), .second, .val (.double (own_nh (own_nh (FP.l2d bs) 0 (FP.i2d p3)) (own_nl (FP.l2d bs) 0 (FP.i2d p3)) (FP.i2d p4))), .second, .unset, .unset, .unset] [(.double (own_nl (own_nh (FP.l2d bs) 0 (FP.i2d p3)) (own_nl (FP.l2d bs) 0 (FP.i2d p3)) (FP.i2d p4)))]) := fun t kt => g41 t (st42.trans kt)
  have E42' : T42.heap = T33.heap := Eq42
  have g43 : own_Go p e below s₁ (entryFrame m #[(.int p1), (.int p2), (.int p3), (.int p4)] maxLocals) T42 (mkF m 125 #[.val (.int p1), .val (.int p2), .val (.int p3), .val (.int p4), .val (.int (p2 &&& (31 : Int32))), .val (.long bs), .second, .val (.double (FP.l2d bs)), .second, .val (.double (FP.i2d p3)), .second, .val (.double (FP.i2d p4)), .second, .val (.long (bs + (p3.toInt64))), .second, .val (.long ((bs + (p3.toInt64)) + (p4.toInt64))), .second, .val (.ref a), .val (.ref b), .val (.double (own_nh (FP.l2d bs) 0 (FP.i2d p3))), .second, .val (.double (own_nl (FP.l2d bs) 0 (FP.i2d p3))), .second, .val (.double (own_nh (own_nh (FP.l2d bs) 0 (FP.i2d p3)) (own_nl (FP.l2d bs) 0 (FP.i2d p3)) (FP.i2d p4))), .second, .val (.double (own_nl (own_nh (FP.l2d bs) 0 (FP.i2d p3)) (own_nl (FP.l2d bs) 0 (FP.i2d p3)) (FP.i2d p4))), .second, .unset] [(.int (0 : Int32)), (.ref a)]) := fun t kt => g42 t (by
    show Steps p.tables e below (T42.setTop (mkF m 120 #[.val (.int p1), .val (.int p2), .val (.int p3), .val (.int p4), .val (.int (p2 &&& (31 : Int32))), .val (.long bs), .second, .val (.double (FP.l2d bs)), .second, .val (.double (FP.i2d p3)), .second, .val (.double (FP.i2d p4)), .second, .val (.long (bs + (p3.toInt64))), .second, .val (.long ((bs + (p3.toInt64)) + (p4.toInt64))), .second, .val (.ref a), .val (.ref b), .val (.double (own_nh (FP.l2d bs) 0 (FP.i2d p3))), .second, .val (.double (own_nl (FP.l2d bs) 0 (FP.i2d p3))), .second, .val (.double (own_nh (own_nh (FP.l2d bs) 0 (FP.i2d p3)) (own_nl (FP.l2d bs) 0 (FP.i2d p3)) (FP.i2d p4))), .second, .unset, .unset, .unset] [(.double (own_nl (own_nh (FP.l2d bs) 0 (FP.i2d p3)) (own_nl (FP.l2d bs) 0 (FP.i2d p3)) (FP.i2d p4)))])) _
    refine XS.dstore X42.here hx rfl (hb hby at_120) rfl (l' := #[.val (.int p1), .val (.int p2), .val (.int p3), .val (.int p4), .val (.int (p2 &&& (31 : Int32))), .val (.long bs), .second, .val (.double (FP.l2d bs)), .second, .val (.double (FP.i2d p3)), .second, .val (.double (FP.i2d p4)), .second, .val (.long (bs + (p3.toInt64))), .second, .val (.long ((bs + (p3.toInt64)) + (p4.toInt64))), .second, .val (.ref a), .val (.ref b), .val (.double (own_nh (FP.l2d bs) 0 (FP.i2d p3))), .second, .val (.double (own_nl (FP.l2d bs) 0 (FP.i2d p3))), .second, .val (.double (own_nh (own_nh (FP.l2d bs) 0 (FP.i2d p3)) (own_nl (FP.l2d bs) 0 (FP.i2d p3)) (FP.i2d p4))), .second, .val (.double (own_nl (own_nh (FP.l2d bs) 0 (FP.i2d p3)) (own_nl (FP.l2d bs) 0 (FP.i2d p3)) (FP.i2d p4))), .second, .unset]) rfl ?_
    show Steps p.tables e below (T42.setTop (mkF m 122 #[.val (.int p1), .val (.int p2), .val (.int p3), .val (.int p4), .val (.int (p2 &&& (31 : Int32))), .val (.long bs), .second, .val (.double (FP.l2d bs)), .second, .val (.double (FP.i2d p3)), .second, .val (.double (FP.i2d p4)), .second, .val (.long (bs + (p3.toInt64))), .second, .val (.long ((bs + (p3.toInt64)) + (p4.toInt64))), .second, .val (.ref a), .val (.ref b), .val (.double (own_nh (FP.l2d bs) 0 (FP.i2d p3))), .second, .val (.double (own_nl (FP.l2d bs) 0 (FP.i2d p3))), .second, .val (.double (own_nh (own_nh (FP.l2d bs) 0 (FP.i2d p3)) (own_nl (FP.l2d bs) 0 (FP.i2d p3)) (FP.i2d p4))), .second, .val (.double (own_nl (own_nh (FP.l2d bs) 0 (FP.i2d p3)) (own_nl (FP.l2d bs) 0 (FP.i2d p3)) (FP.i2d p4))), .second, .unset] [])) _
    refine XS.aload X42.here hx rfl (hb hby at_122) rfl rfl ?_
    show Steps p.tables e below (T42.setTop (mkF m 124 #[.val (.int p1), .val (.int p2), .val (.int p3), .val (.int p4), .val (.int (p2 &&& (31 : Int32))), .val (.long bs), .second, .val (.double (FP.l2d bs)), .second, .val (.double (FP.i2d p3)), .second, .val (.double (FP.i2d p4)), .second, .val (.long (bs + (p3.toInt64))), .second, .val (.long ((bs + (p3.toInt64)) + (p4.toInt64))), .second, .val (.ref a), .val (.ref b), .val (.double (own_nh (FP.l2d bs) 0 (FP.i2d p3))), .second, .val (.double (own_nl (FP.l2d bs) 0 (FP.i2d p3))), .second, .val (.double (own_nh (own_nh (FP.l2d bs) 0 (FP.i2d p3)) (own_nl (FP.l2d bs) 0 (FP.i2d p3)) (FP.i2d p4))), .second, .val (.double (own_nl (own_nh (FP.l2d bs) 0 (FP.i2d p3)) (own_nl (FP.l2d bs) 0 (FP.i2d p3)) (FP.i2d p4))), .second, .unset] [(.ref a)])) _
    refine XS.iconst X42.here hx rfl (hb hby at_124) ?_
    exact kt)
  obtain ⟨cq44, kq44, q44a, q44b, q44c⟩ := isOf hZ E42' Mp4.1
  obtain ⟨_, _, ⟨T44, L44, k44, n44⟩, -, X44, ⟨Lc44, hQ44, l44, y44, z44⟩, st44⟩ := X42.virtualBack hx (y := (⟨"com/example/pincer/pincer/engine/PreciseValues", "high", "(I)D"⟩ : MethodName)) (z := (⟨"com/example/pincer/pincer/engine/PreciseValues", "high", "(I)D"⟩ : MethodName)) hown (mvT hZ (hw _ (List.mem_of_getElem? (i := 27) rfl))) (mvT hZ (hw _ (List.mem_of_getElem? (i := 28) rfl))) (notFace_of_selects (args := #[]) (mvT hZ (hw _ (List.mem_of_getElem? (i := 30) rfl)))) (mvT hZ (hw _ (List.mem_of_getElem? (i := 30) rfl))) (mvT hZ (hw _ (List.mem_of_getElem? (i := 29) rfl))) (by decide) (backOf (W := 0) (rm6 l Z a0 hw [] a (0 : Int32) ha hk la lk 2 2 [(FP.l2d bs), (own_nh (FP.l2d bs) 0 (FP.i2d p3))] [0, (own_nl (FP.l2d bs) 0 (FP.i2d p3))] 0 T33.heap n0 (Nat.le_trans Z0 KK33.1) Mp4 (by decide) (by decide)) hZ (hw _ (List.mem_of_getElem? (i := 31) rfl)) (hw _ (List.mem_of_getElem? (i := 2) rfl)) (by decide) (by decide)) q44a q44c (g := (mkF m 125 #[.val (.int p1), .val (.int p2), .val (.int p3), .val (.int p4), .val (.int (p2 &&& (31 : Int32))), .val (.long bs), .second, .val (.double (FP.l2d bs)), .second, .val (.double (FP.i2d p3)), .second, .val (.double (FP.i2d p4)), .second, .val (.long (bs + (p3.toInt64))), .second, .val (.long ((bs + (p3.toInt64)) + (p4.toInt64))), .second, .val (.ref a), .val (.ref b), .val (.double (own_nh (FP.l2d bs) 0 (FP.i2d p3))), .second, .val (.double (own_nl (FP.l2d bs) 0 (FP.i2d p3))), .second, .val (.double (own_nh (own_nh (FP.l2d bs) 0 (FP.i2d p3)) (own_nl (FP.l2d bs) 0 (FP.i2d p3)) (FP.i2d p4))), .second, .val (.double (own_nl (own_nh (FP.l2d bs) 0 (FP.i2d p3)) (own_nl (FP.l2d bs) 0 (FP.i2d p3)) (FP.i2d p4))), .second, .unset] [(.int (0 : Int32)), (.ref a)])) rfl (by rw [hml]; rfl) (Steps.refl _) (argsL := [(.int (0 : Int32))]) (rest := []) (lenOf pd_4 rfl) rfl (by show 2 * 0 + _ ≤ _; exact Nat.le_of_eq rfl) (hb hby at_125) (fun _ _ => ⟨rfl, E42', (by decide : 6 + 0 ≤ _), (by decide : 12 + 0 ≤ _)⟩)
  dsimp only [Pt.U, Pt.locs, Pt.cells, Pt.slots] at X44 l44 y44 z44 st44 hQ44
  subst l44 y44 z44
  obtain ⟨rfl, N44q, Eq44⟩ := hQ44
  have N44 := Fr.app N42 N44q
  have g44 : own_Go p e below s₁ (entryFrame m #[(.int p1), (.int p2), (.int p3), (.int p4)] maxLocals) T44 (mkF m 128 #[.val (.int p1), .val (.int p2), .val (.int p3), .val (.int p4), .val (.int (p2 &&& (31 : Int32))), .val (.long bs), .second, .val (.double (FP.l2d bs)), .second, .val (.double (FP.i2d p3)), .second, .val (.double (FP.i2d p4)), .second, .val (.long (bs + (p3.toInt64))), .second, .val (.long ((bs + (p3.toInt64)) + (p4.toInt64))), .second, .val (.ref a), .val (.ref b), .val (.double (own_nh (FP.l2d bs) 0 (FP.i2d p3))), .second, .val (.double (own_nl (FP.l2d bs) 0 (FP.i2d p3))), .second, .val (.double (own_nh (own_nh (FP.l2d bs) 0 (FP.i2d p3)) (own_nl (FP.l2d bs) 0 (FP.i2d p3)) (FP.i2d p4))), .second, .val (.double (own_nl (own_nh (FP.l2d bs) 0 (FP.i2d p3)) (own_nl (FP.l2d bs) 0 (FP.i2d p3)) (FP.i2d p4))), .second, .unset] [(.double (FP.l2d bs))]) := fun t kt => g43 t (st44.trans kt)
  have E44' : T44.heap = T33.heap := Eq44
  have g45 : own_Go p e below s₁ (entryFrame m #[(.int p1), (.int p2), (.int p3), (.int p4)] maxLocals) T44 (mkF m 152 #[.val (.int p1), .val (.int p2), .val (.int p3), .val (.int p4), .val (.int (p2 &&& (31 : Int32))), .val (.long bs), .second, .val (.double (FP.l2d bs)), .second, .val (.double (FP.i2d p3)), .second, .val (.double (FP.i2d p4)), .second, .val (.long (bs + (p3.toInt64))), .second, .val (.long ((bs + (p3.toInt64)) + (p4.toInt64))), .second, .val (.ref a), .val (.ref b), .val (.double (own_nh (FP.l2d bs) 0 (FP.i2d p3))), .second, .val (.double (own_nl (FP.l2d bs) 0 (FP.i2d p3))), .second, .val (.double (own_nh (own_nh (FP.l2d bs) 0 (FP.i2d p3)) (own_nl (FP.l2d bs) 0 (FP.i2d p3)) (FP.i2d p4))), .second, .val (.double (own_nl (own_nh (FP.l2d bs) 0 (FP.i2d p3)) (own_nl (FP.l2d bs) 0 (FP.i2d p3)) (FP.i2d p4))), .second, .val (.int (1 : Int32))] [(.long (bs + (p3.toInt64))), (.double (own_nl (FP.l2d bs) 0 (FP.i2d p3))), (.double (own_nh (FP.l2d bs) 0 (FP.i2d p3)))]) := fun t kt => g44 t (by
    show Steps p.tables e below (T44.setTop (mkF m 128 #[.val (.int p1), .val (.int p2), .val (.int p3), .val (.int p4), .val (.int (p2 &&& (31 : Int32))), .val (.long bs), .second, .val (.double (FP.l2d bs)), .second, .val (.double (FP.i2d p3)), .second, .val (.double (FP.i2d p4)), .second, .val (.long (bs + (p3.toInt64))), .second, .val (.long ((bs + (p3.toInt64)) + (p4.toInt64))), .second, .val (.ref a), .val (.ref b), .val (.double (own_nh (FP.l2d bs) 0 (FP.i2d p3))), .second, .val (.double (own_nl (FP.l2d bs) 0 (FP.i2d p3))), .second, .val (.double (own_nh (own_nh (FP.l2d bs) 0 (FP.i2d p3)) (own_nl (FP.l2d bs) 0 (FP.i2d p3)) (FP.i2d p4))), .second, .val (.double (own_nl (own_nh (FP.l2d bs) 0 (FP.i2d p3)) (own_nl (FP.l2d bs) 0 (FP.i2d p3)) (FP.i2d p4))), .second, .unset] [(.double (FP.l2d bs))])) _
    refine XS.dload X44.here hx rfl (hb hby at_128) rfl ?_
    show Steps p.tables e below (T44.setTop (mkF m 130 #[.val (.int p1), .val (.int p2), .val (.int p3), .val (.int p4), .val (.int (p2 &&& (31 : Int32))), .val (.long bs), .second, .val (.double (FP.l2d bs)), .second, .val (.double (FP.i2d p3)), .second, .val (.double (FP.i2d p4)), .second, .val (.long (bs + (p3.toInt64))), .second, .val (.long ((bs + (p3.toInt64)) + (p4.toInt64))), .second, .val (.ref a), .val (.ref b), .val (.double (own_nh (FP.l2d bs) 0 (FP.i2d p3))), .second, .val (.double (own_nl (FP.l2d bs) 0 (FP.i2d p3))), .second, .val (.double (own_nh (own_nh (FP.l2d bs) 0 (FP.i2d p3)) (own_nl (FP.l2d bs) 0 (FP.i2d p3)) (FP.i2d p4))), .second, .val (.double (own_nl (own_nh (FP.l2d bs) 0 (FP.i2d p3)) (own_nl (FP.l2d bs) 0 (FP.i2d p3)) (FP.i2d p4))), .second, .unset] [(.double (FP.l2d bs)), (.double (FP.l2d bs))])) _
    refine XS.dcmpS X44.here hx rfl (hb hby at_130) rfl (dcmpV_self (Jvm.Free.Fl.l2d_fin bs).noNaN .l) ?_
    show Steps p.tables e below (T44.setTop (mkF m 131 #[.val (.int p1), .val (.int p2), .val (.int p3), .val (.int p4), .val (.int (p2 &&& (31 : Int32))), .val (.long bs), .second, .val (.double (FP.l2d bs)), .second, .val (.double (FP.i2d p3)), .second, .val (.double (FP.i2d p4)), .second, .val (.long (bs + (p3.toInt64))), .second, .val (.long ((bs + (p3.toInt64)) + (p4.toInt64))), .second, .val (.ref a), .val (.ref b), .val (.double (own_nh (FP.l2d bs) 0 (FP.i2d p3))), .second, .val (.double (own_nl (FP.l2d bs) 0 (FP.i2d p3))), .second, .val (.double (own_nh (own_nh (FP.l2d bs) 0 (FP.i2d p3)) (own_nl (FP.l2d bs) 0 (FP.i2d p3)) (FP.i2d p4))), .second, .val (.double (own_nl (own_nh (FP.l2d bs) 0 (FP.i2d p3)) (own_nl (FP.l2d bs) 0 (FP.i2d p3)) (FP.i2d p4))), .second, .unset] [(.int (0 : Int32))])) _
    refine XS.ifNo X44.here hx rfl (hb hby at_131) rfl ((if0 _ _).trans (teq rfl).2) ?_
    show Steps p.tables e below (T44.setTop (mkF m 134 #[.val (.int p1), .val (.int p2), .val (.int p3), .val (.int p4), .val (.int (p2 &&& (31 : Int32))), .val (.long bs), .second, .val (.double (FP.l2d bs)), .second, .val (.double (FP.i2d p3)), .second, .val (.double (FP.i2d p4)), .second, .val (.long (bs + (p3.toInt64))), .second, .val (.long ((bs + (p3.toInt64)) + (p4.toInt64))), .second, .val (.ref a), .val (.ref b), .val (.double (own_nh (FP.l2d bs) 0 (FP.i2d p3))), .second, .val (.double (own_nl (FP.l2d bs) 0 (FP.i2d p3))), .second, .val (.double (own_nh (own_nh (FP.l2d bs) 0 (FP.i2d p3)) (own_nl (FP.l2d bs) 0 (FP.i2d p3)) (FP.i2d p4))), .second, .val (.double (own_nl (own_nh (FP.l2d bs) 0 (FP.i2d p3)) (own_nl (FP.l2d bs) 0 (FP.i2d p3)) (FP.i2d p4))), .second, .unset] [])) _
    refine XS.iconst X44.here hx rfl (hb hby at_134) ?_
    show Steps p.tables e below (T44.setTop (mkF m 135 #[.val (.int p1), .val (.int p2), .val (.int p3), .val (.int p4), .val (.int (p2 &&& (31 : Int32))), .val (.long bs), .second, .val (.double (FP.l2d bs)), .second, .val (.double (FP.i2d p3)), .second, .val (.double (FP.i2d p4)), .second, .val (.long (bs + (p3.toInt64))), .second, .val (.long ((bs + (p3.toInt64)) + (p4.toInt64))), .second, .val (.ref a), .val (.ref b), .val (.double (own_nh (FP.l2d bs) 0 (FP.i2d p3))), .second, .val (.double (own_nl (FP.l2d bs) 0 (FP.i2d p3))), .second, .val (.double (own_nh (own_nh (FP.l2d bs) 0 (FP.i2d p3)) (own_nl (FP.l2d bs) 0 (FP.i2d p3)) (FP.i2d p4))), .second, .val (.double (own_nl (own_nh (FP.l2d bs) 0 (FP.i2d p3)) (own_nl (FP.l2d bs) 0 (FP.i2d p3)) (FP.i2d p4))), .second, .unset] [(.int (1 : Int32))])) _
    refine XS.goto X44.here hx rfl (pc0 := 135) (pc' := 139) rfl (hb hby at_135) (by decide) (by decide) ?_
    show Steps p.tables e below (T44.setTop (mkF m 139 #[.val (.int p1), .val (.int p2), .val (.int p3), .val (.int p4), .val (.int (p2 &&& (31 : Int32))), .val (.long bs), .second, .val (.double (FP.l2d bs)), .second, .val (.double (FP.i2d p3)), .second, .val (.double (FP.i2d p4)), .second, .val (.long (bs + (p3.toInt64))), .second, .val (.long ((bs + (p3.toInt64)) + (p4.toInt64))), .second, .val (.ref a), .val (.ref b), .val (.double (own_nh (FP.l2d bs) 0 (FP.i2d p3))), .second, .val (.double (own_nl (FP.l2d bs) 0 (FP.i2d p3))), .second, .val (.double (own_nh (own_nh (FP.l2d bs) 0 (FP.i2d p3)) (own_nl (FP.l2d bs) 0 (FP.i2d p3)) (FP.i2d p4))), .second, .val (.double (own_nl (own_nh (FP.l2d bs) 0 (FP.i2d p3)) (own_nl (FP.l2d bs) 0 (FP.i2d p3)) (FP.i2d p4))), .second, .unset] [(.int (1 : Int32))])) _
    refine XS.istore X44.here hx rfl (hb hby at_139) rfl (l' := #[.val (.int p1), .val (.int p2), .val (.int p3), .val (.int p4), .val (.int (p2 &&& (31 : Int32))), .val (.long bs), .second, .val (.double (FP.l2d bs)), .second, .val (.double (FP.i2d p3)), .second, .val (.double (FP.i2d p4)), .second, .val (.long (bs + (p3.toInt64))), .second, .val (.long ((bs + (p3.toInt64)) + (p4.toInt64))), .second, .val (.ref a), .val (.ref b), .val (.double (own_nh (FP.l2d bs) 0 (FP.i2d p3))), .second, .val (.double (own_nl (FP.l2d bs) 0 (FP.i2d p3))), .second, .val (.double (own_nh (own_nh (FP.l2d bs) 0 (FP.i2d p3)) (own_nl (FP.l2d bs) 0 (FP.i2d p3)) (FP.i2d p4))), .second, .val (.double (own_nl (own_nh (FP.l2d bs) 0 (FP.i2d p3)) (own_nl (FP.l2d bs) 0 (FP.i2d p3)) (FP.i2d p4))), .second, .val (.int (1 : Int32))]) rfl ?_
    show Steps p.tables e below (T44.setTop (mkF m 141 #[.val (.int p1), .val (.int p2), .val (.int p3), .val (.int p4), .val (.int (p2 &&& (31 : Int32))), .val (.long bs), .second, .val (.double (FP.l2d bs)), .second, .val (.double (FP.i2d p3)), .second, .val (.double (FP.i2d p4)), .second, .val (.long (bs + (p3.toInt64))), .second, .val (.long ((bs + (p3.toInt64)) + (p4.toInt64))), .second, .val (.ref a), .val (.ref b), .val (.double (own_nh (FP.l2d bs) 0 (FP.i2d p3))), .second, .val (.double (own_nl (FP.l2d bs) 0 (FP.i2d p3))), .second, .val (.double (own_nh (own_nh (FP.l2d bs) 0 (FP.i2d p3)) (own_nl (FP.l2d bs) 0 (FP.i2d p3)) (FP.i2d p4))), .second, .val (.double (own_nl (own_nh (FP.l2d bs) 0 (FP.i2d p3)) (own_nl (FP.l2d bs) 0 (FP.i2d p3)) (FP.i2d p4))), .second, .val (.int (1 : Int32))] [])) _
    refine XS.iload X44.here hx rfl (hb hby at_141) rfl ?_
    show Steps p.tables e below (T44.setTop (mkF m 143 #[.val (.int p1), .val (.int p2), .val (.int p3), .val (.int p4), .val (.int (p2 &&& (31 : Int32))), .val (.long bs), .second, .val (.double (FP.l2d bs)), .second, .val (.double (FP.i2d p3)), .second, .val (.double (FP.i2d p4)), .second, .val (.long (bs + (p3.toInt64))), .second, .val (.long ((bs + (p3.toInt64)) + (p4.toInt64))), .second, .val (.ref a), .val (.ref b), .val (.double (own_nh (FP.l2d bs) 0 (FP.i2d p3))), .second, .val (.double (own_nl (FP.l2d bs) 0 (FP.i2d p3))), .second, .val (.double (own_nh (own_nh (FP.l2d bs) 0 (FP.i2d p3)) (own_nl (FP.l2d bs) 0 (FP.i2d p3)) (FP.i2d p4))), .second, .val (.double (own_nl (own_nh (FP.l2d bs) 0 (FP.i2d p3)) (own_nl (FP.l2d bs) 0 (FP.i2d p3)) (FP.i2d p4))), .second, .val (.int (1 : Int32))] [(.int (1 : Int32))])) _
    refine XS.ifNo X44.here hx rfl (hb hby at_143) rfl ((if0 _ _).trans (feq (by decide)).1) ?_
    show Steps p.tables e below (T44.setTop (mkF m 146 #[.val (.int p1), .val (.int p2), .val (.int p3), .val (.int p4), .val (.int (p2 &&& (31 : Int32))), .val (.long bs), .second, .val (.double (FP.l2d bs)), .second, .val (.double (FP.i2d p3)), .second, .val (.double (FP.i2d p4)), .second, .val (.long (bs + (p3.toInt64))), .second, .val (.long ((bs + (p3.toInt64)) + (p4.toInt64))), .second, .val (.ref a), .val (.ref b), .val (.double (own_nh (FP.l2d bs) 0 (FP.i2d p3))), .second, .val (.double (own_nl (FP.l2d bs) 0 (FP.i2d p3))), .second, .val (.double (own_nh (own_nh (FP.l2d bs) 0 (FP.i2d p3)) (own_nl (FP.l2d bs) 0 (FP.i2d p3)) (FP.i2d p4))), .second, .val (.double (own_nl (own_nh (FP.l2d bs) 0 (FP.i2d p3)) (own_nl (FP.l2d bs) 0 (FP.i2d p3)) (FP.i2d p4))), .second, .val (.int (1 : Int32))] [])) _
    refine XS.dload X44.here hx rfl (hb hby at_146) rfl ?_
    show Steps p.tables e below (T44.setTop (mkF m 148 #[.val (.int p1), .val (.int p2), .val (.int p3), .val (.int p4), .val (.int (p2 &&& (31 : Int32))), .val (.long bs), .second, .val (.double (FP.l2d bs)), .second, .val (.double (FP.i2d p3)), .second, .val (.double (FP.i2d p4)), .second, .val (.long (bs + (p3.toInt64))), .second, .val (.long ((bs + (p3.toInt64)) + (p4.toInt64))), .second, .val (.ref a), .val (.ref b), .val (.double (own_nh (FP.l2d bs) 0 (FP.i2d p3))), .second, .val (.double (own_nl (FP.l2d bs) 0 (FP.i2d p3))), .second, .val (.double (own_nh (own_nh (FP.l2d bs) 0 (FP.i2d p3)) (own_nl (FP.l2d bs) 0 (FP.i2d p3)) (FP.i2d p4))), .second, .val (.double (own_nl (own_nh (FP.l2d bs) 0 (FP.i2d p3)) (own_nl (FP.l2d bs) 0 (FP.i2d p3)) (FP.i2d p4))), .second, .val (.int (1 : Int32))] [(.double (own_nh (FP.l2d bs) 0 (FP.i2d p3)))])) _
    refine XS.dload X44.here hx rfl (hb hby at_148) rfl ?_
    show Steps p.tables e below (T44.setTop (mkF m 150 #[.val (.int p1), .val (.int p2), .val (.int p3), .val (.int p4), .val (.int (p2 &&& (31 : Int32))), .val (.long bs), .second, .val (.double (FP.l2d bs)), .second, .val (.double (FP.i2d p3)), .second, .val (.double (FP.i2d p4)), .second, .val (.long (bs + (p3.toInt64))), .second, .val (.long ((bs + (p3.toInt64)) + (p4.toInt64))), .second, .val (.ref a), .val (.ref b), .val (.double (own_nh (FP.l2d bs) 0 (FP.i2d p3))), .second, .val (.double (own_nl (FP.l2d bs) 0 (FP.i2d p3))), .second, .val (.double (own_nh (own_nh (FP.l2d bs) 0 (FP.i2d p3)) (own_nl (FP.l2d bs) 0 (FP.i2d p3)) (FP.i2d p4))), .second, .val (.double (own_nl (own_nh (FP.l2d bs) 0 (FP.i2d p3)) (own_nl (FP.l2d bs) 0 (FP.i2d p3)) (FP.i2d p4))), .second, .val (.int (1 : Int32))] [(.double (own_nl (FP.l2d bs) 0 (FP.i2d p3))), (.double (own_nh (FP.l2d bs) 0 (FP.i2d p3)))])) _
    refine XS.lload X44.here hx rfl (hb hby at_150) rfl ?_
    exact kt)
  obtain ⟨_, _, ⟨T46, L46, k46, n46⟩, -, X46, ⟨Lc46, hQ46, l46, y46, z46⟩, st46⟩ := Jvm.LawKit.callS X44 hx (y := (⟨"com/example/pincer/pincer/engine/PreciseValuesSetStepPinLaw", "pinned", "(DDJ)Z"⟩ : MethodName)) hown (mvT hZ (hw _ (List.mem_of_getElem? (i := 37) rfl))) (mvT hZ (hw _ (List.mem_of_getElem? (i := 38) rfl))) (mvT hZ (hw _ (List.mem_of_getElem? (i := 39) rfl))) (mvT hZ (hw _ (List.mem_of_getElem? (i := 40) rfl))) (by decide) (backOf (W := 0) (rm8 l Z a0 hw [] (own_nh (FP.l2d bs) 0 (FP.i2d p3)) (own_nl (FP.l2d bs) 0 (FP.i2d p3)) (bs + (p3.toInt64)) T33.heap n0 (Nat.le_trans Z0 KK33.1) u1 u2) hZ (hw _ (List.mem_of_getElem? (i := 40) rfl)) (hw _ (List.mem_of_getElem? (i := 39) rfl)) (by decide) (by decide)) (g := (mkF m 152 #[.val (.int p1), .val (.int p2), .val (.int p3), .val (.int p4), .val (.int (p2 &&& (31 : Int32))), .val (.long bs), .second, .val (.double (FP.l2d bs)), .second, .val (.double (FP.i2d p3)), .second, .val (.double (FP.i2d p4)), .second, .val (.long (bs + (p3.toInt64))), .second, .val (.long ((bs + (p3.toInt64)) + (p4.toInt64))), .second, .val (.ref a), .val (.ref b), .val (.double (own_nh (FP.l2d bs) 0 (FP.i2d p3))), .second, .val (.double (own_nl (FP.l2d bs) 0 (FP.i2d p3))), .second, .val (.double (own_nh (own_nh (FP.l2d bs) 0 (FP.i2d p3)) (own_nl (FP.l2d bs) 0 (FP.i2d p3)) (FP.i2d p4))), .second, .val (.double (own_nl (own_nh (FP.l2d bs) 0 (FP.i2d p3)) (own_nl (FP.l2d bs) 0 (FP.i2d p3)) (FP.i2d p4))), .second, .val (.int (1 : Int32))] [(.long (bs + (p3.toInt64))), (.double (own_nl (FP.l2d bs) 0 (FP.i2d p3))), (.double (own_nh (FP.l2d bs) 0 (FP.i2d p3)))])) rfl (by rw [hml]; rfl) (argsL := [(.double (own_nh (FP.l2d bs) 0 (FP.i2d p3))), (.double (own_nl (FP.l2d bs) 0 (FP.i2d p3))), (.long (bs + (p3.toInt64)))]) (rest := []) (lenOf pd_5 rfl) rfl (by show 2 * 0 + _ ≤ _; exact Nat.le_of_eq rfl) (hb hby at_152) (fun _ _ => ⟨rfl, E44', (by decide : 6 + 0 ≤ _), (by decide : 12 + 0 ≤ _)⟩)
  dsimp only [Pt.U, Pt.locs, Pt.cells, Pt.slots] at X46 l46 y46 z46 st46 hQ46
  subst l46 y46 z46
  obtain ⟨rfl, N46q, Eq46⟩ := hQ46
  have N46 := Fr.app N44 N46q
  have g46 : own_Go p e below s₁ (entryFrame m #[(.int p1), (.int p2), (.int p3), (.int p4)] maxLocals) T46 (mkF m 155 #[.val (.int p1), .val (.int p2), .val (.int p3), .val (.int p4), .val (.int (p2 &&& (31 : Int32))), .val (.long bs), .second, .val (.double (FP.l2d bs)), .second, .val (.double (FP.i2d p3)), .second, .val (.double (FP.i2d p4)), .second, .val (.long (bs + (p3.toInt64))), .second, .val (.long ((bs + (p3.toInt64)) + (p4.toInt64))), .second, .val (.ref a), .val (.ref b), .val (.double (own_nh (FP.l2d bs) 0 (FP.i2d p3))), .second, .val (.double (own_nl (FP.l2d bs) 0 (FP.i2d p3))), .second, .val (.double (own_nh (own_nh (FP.l2d bs) 0 (FP.i2d p3)) (own_nl (FP.l2d bs) 0 (FP.i2d p3)) (FP.i2d p4))), .second, .val (.double (own_nl (own_nh (FP.l2d bs) 0 (FP.i2d p3)) (own_nl (FP.l2d bs) 0 (FP.i2d p3)) (FP.i2d p4))), .second, .val (.int (1 : Int32))] [(.int (1 : Int32))]) := fun t kt => g45 t (st46 _ kt)
  have E46' : T46.heap = T33.heap := Eq46
  have g47 : own_Go p e below s₁ (entryFrame m #[(.int p1), (.int p2), (.int p3), (.int p4)] maxLocals) T46 (mkF m 164 #[.val (.int p1), .val (.int p2), .val (.int p3), .val (.int p4), .val (.int (p2 &&& (31 : Int32))), .val (.long bs), .second, .val (.double (FP.l2d bs)), .second, .val (.double (FP.i2d p3)), .second, .val (.double (FP.i2d p4)), .second, .val (.long (bs + (p3.toInt64))), .second, .val (.long ((bs + (p3.toInt64)) + (p4.toInt64))), .second, .val (.ref a), .val (.ref b), .val (.double (own_nh (FP.l2d bs) 0 (FP.i2d p3))), .second, .val (.double (own_nl (FP.l2d bs) 0 (FP.i2d p3))), .second, .val (.double (own_nh (own_nh (FP.l2d bs) 0 (FP.i2d p3)) (own_nl (FP.l2d bs) 0 (FP.i2d p3)) (FP.i2d p4))), .second, .val (.double (own_nl (own_nh (FP.l2d bs) 0 (FP.i2d p3)) (own_nl (FP.l2d bs) 0 (FP.i2d p3)) (FP.i2d p4))), .second, .val (.int (1 : Int32))] [(.long ((bs + (p3.toInt64)) + (p4.toInt64))), (.double (own_nl (own_nh (FP.l2d bs) 0 (FP.i2d p3)) (own_nl (FP.l2d bs) 0 (FP.i2d p3)) (FP.i2d p4))), (.double (own_nh (own_nh (FP.l2d bs) 0 (FP.i2d p3)) (own_nl (FP.l2d bs) 0 (FP.i2d p3)) (FP.i2d p4)))]) := fun t kt => g46 t (by
    show Steps p.tables e below (T46.setTop (mkF m 155 #[.val (.int p1), .val (.int p2), .val (.int p3), .val (.int p4), .val (.int (p2 &&& (31 : Int32))), .val (.long bs), .second, .val (.double (FP.l2d bs)), .second, .val (.double (FP.i2d p3)), .second, .val (.double (FP.i2d p4)), .second, .val (.long (bs + (p3.toInt64))), .second, .val (.long ((bs + (p3.toInt64)) + (p4.toInt64))), .second, .val (.ref a), .val (.ref b), .val (.double (own_nh (FP.l2d bs) 0 (FP.i2d p3))), .second, .val (.double (own_nl (FP.l2d bs) 0 (FP.i2d p3))), .second, .val (.double (own_nh (own_nh (FP.l2d bs) 0 (FP.i2d p3)) (own_nl (FP.l2d bs) 0 (FP.i2d p3)) (FP.i2d p4))), .second, .val (.double (own_nl (own_nh (FP.l2d bs) 0 (FP.i2d p3)) (own_nl (FP.l2d bs) 0 (FP.i2d p3)) (FP.i2d p4))), .second, .val (.int (1 : Int32))] [(.int (1 : Int32))])) _
    refine XS.ifNo X46.here hx rfl (hb hby at_155) rfl ((if0 _ _).trans (feq (by decide)).1) ?_
    show Steps p.tables e below (T46.setTop (mkF m 158 #[.val (.int p1), .val (.int p2), .val (.int p3), .val (.int p4), .val (.int (p2 &&& (31 : Int32))), .val (.long bs), .second, .val (.double (FP.l2d bs)), .second, .val (.double (FP.i2d p3)), .second, .val (.double (FP.i2d p4)), .second, .val (.long (bs + (p3.toInt64))), .second, .val (.long ((bs + (p3.toInt64)) + (p4.toInt64))), .second, .val (.ref a), .val (.ref b), .val (.double (own_nh (FP.l2d bs) 0 (FP.i2d p3))), .second, .val (.double (own_nl (FP.l2d bs) 0 (FP.i2d p3))), .second, .val (.double (own_nh (own_nh (FP.l2d bs) 0 (FP.i2d p3)) (own_nl (FP.l2d bs) 0 (FP.i2d p3)) (FP.i2d p4))), .second, .val (.double (own_nl (own_nh (FP.l2d bs) 0 (FP.i2d p3)) (own_nl (FP.l2d bs) 0 (FP.i2d p3)) (FP.i2d p4))), .second, .val (.int (1 : Int32))] [])) _
    refine XS.dload X46.here hx rfl (hb hby at_158) rfl ?_
    show Steps p.tables e below (T46.setTop (mkF m 160 #[.val (.int p1), .val (.int p2), .val (.int p3), .val (.int p4), .val (.int (p2 &&& (31 : Int32))), .val (.long bs), .second, .val (.double (FP.l2d bs)), .second, .val (.double (FP.i2d p3)), .second, .val (.double (FP.i2d p4)), .second, .val (.long (bs + (p3.toInt64))), .second, .val (.long ((bs + (p3.toInt64)) + (p4.toInt64))), .second, .val (.ref a), .val (.ref b), .val (.double (own_nh (FP.l2d bs) 0 (FP.i2d p3))), .second, .val (.double (own_nl (FP.l2d bs) 0 (FP.i2d p3))), .second, .val (.double (own_nh (own_nh (FP.l2d bs) 0 (FP.i2d p3)) (own_nl (FP.l2d bs) 0 (FP.i2d p3)) (FP.i2d p4))), .second, .val (.double (own_nl (own_nh (FP.l2d bs) 0 (FP.i2d p3)) (own_nl (FP.l2d bs) 0 (FP.i2d p3)) (FP.i2d p4))), .second, .val (.int (1 : Int32))] [(.double (own_nh (own_nh (FP.l2d bs) 0 (FP.i2d p3)) (own_nl (FP.l2d bs) 0 (FP.i2d p3)) (FP.i2d p4)))])) _
    refine XS.dload X46.here hx rfl (hb hby at_160) rfl ?_
    show Steps p.tables e below (T46.setTop (mkF m 162 #[.val (.int p1), .val (.int p2), .val (.int p3), .val (.int p4), .val (.int (p2 &&& (31 : Int32))), .val (.long bs), .second, .val (.double (FP.l2d bs)), .second, .val (.double (FP.i2d p3)), .second, .val (.double (FP.i2d p4)), .second, .val (.long (bs + (p3.toInt64))), .second, .val (.long ((bs + (p3.toInt64)) + (p4.toInt64))), .second, .val (.ref a), .val (.ref b), .val (.double (own_nh (FP.l2d bs) 0 (FP.i2d p3))), .second, .val (.double (own_nl (FP.l2d bs) 0 (FP.i2d p3))), .second, .val (.double (own_nh (own_nh (FP.l2d bs) 0 (FP.i2d p3)) (own_nl (FP.l2d bs) 0 (FP.i2d p3)) (FP.i2d p4))), .second, .val (.double (own_nl (own_nh (FP.l2d bs) 0 (FP.i2d p3)) (own_nl (FP.l2d bs) 0 (FP.i2d p3)) (FP.i2d p4))), .second, .val (.int (1 : Int32))] [(.double (own_nl (own_nh (FP.l2d bs) 0 (FP.i2d p3)) (own_nl (FP.l2d bs) 0 (FP.i2d p3)) (FP.i2d p4))), (.double (own_nh (own_nh (FP.l2d bs) 0 (FP.i2d p3)) (own_nl (FP.l2d bs) 0 (FP.i2d p3)) (FP.i2d p4)))])) _
    refine XS.lload X46.here hx rfl (hb hby at_162) rfl ?_
    exact kt)
  obtain ⟨_, _, ⟨T48, L48, k48, n48⟩, -, X48, ⟨Lc48, hQ48, l48, y48, z48⟩, st48⟩ := Jvm.LawKit.callS X46 hx (y := (⟨"com/example/pincer/pincer/engine/PreciseValuesSetStepPinLaw", "pinned", "(DDJ)Z"⟩ : MethodName)) hown (mvT hZ (hw _ (List.mem_of_getElem? (i := 37) rfl))) (mvT hZ (hw _ (List.mem_of_getElem? (i := 38) rfl))) (mvT hZ (hw _ (List.mem_of_getElem? (i := 39) rfl))) (mvT hZ (hw _ (List.mem_of_getElem? (i := 40) rfl))) (by decide) (backOf (W := 0) (rm8 l Z a0 hw [] (own_nh (own_nh (FP.l2d bs) 0 (FP.i2d p3)) (own_nl (FP.l2d bs) 0 (FP.i2d p3)) (FP.i2d p4)) (own_nl (own_nh (FP.l2d bs) 0 (FP.i2d p3)) (own_nl (FP.l2d bs) 0 (FP.i2d p3)) (FP.i2d p4)) ((bs + (p3.toInt64)) + (p4.toInt64)) T33.heap n0 (Nat.le_trans Z0 KK33.1) v1 v2) hZ (hw _ (List.mem_of_getElem? (i := 40) rfl)) (hw _ (List.mem_of_getElem? (i := 39) rfl)) (by decide) (by decide)) (g := (mkF m 164 #[.val (.int p1), .val (.int p2), .val (.int p3), .val (.int p4), .val (.int (p2 &&& (31 : Int32))), .val (.long bs), .second, .val (.double (FP.l2d bs)), .second, .val (.double (FP.i2d p3)), .second, .val (.double (FP.i2d p4)), .second, .val (.long (bs + (p3.toInt64))), .second, .val (.long ((bs + (p3.toInt64)) + (p4.toInt64))), .second, .val (.ref a), .val (.ref b), .val (.double (own_nh (FP.l2d bs) 0 (FP.i2d p3))), .second, .val (.double (own_nl (FP.l2d bs) 0 (FP.i2d p3))), .second, .val (.double (own_nh (own_nh (FP.l2d bs) 0 (FP.i2d p3)) (own_nl (FP.l2d bs) 0 (FP.i2d p3)) (FP.i2d p4))), .second, .val (.double (own_nl (own_nh (FP.l2d bs) 0 (FP.i2d p3)) (own_nl (FP.l2d bs) 0 (FP.i2d p3)) (FP.i2d p4))), .second, .val (.int (1 : Int32))] [(.long ((bs + (p3.toInt64)) + (p4.toInt64))), (.double (own_nl (own_nh (FP.l2d bs) 0 (FP.i2d p3)) (own_nl (FP.l2d bs) 0 (FP.i2d p3)) (FP.i2d p4))), (.double (own_nh (own_nh (FP.l2d bs) 0 (FP.i2d p3)) (own_nl (FP.l2d bs) 0 (FP.i2d p3)) (FP.i2d p4)))])) rfl (by rw [hml]; rfl) (argsL := [(.double (own_nh (own_nh (FP.l2d bs) 0 (FP.i2d p3)) (own_nl (FP.l2d bs) 0 (FP.i2d p3)) (FP.i2d p4))), (.double (own_nl (own_nh (FP.l2d bs) 0 (FP.i2d p3)) (own_nl (FP.l2d bs) 0 (FP.i2d p3)) (FP.i2d p4))), (.long ((bs + (p3.toInt64)) + (p4.toInt64)))]) (rest := []) (lenOf pd_5 rfl) rfl (by show 2 * 0 + _ ≤ _; exact Nat.le_of_eq rfl) (hb hby at_164) (fun _ _ => ⟨rfl, E46', (by decide : 6 + 0 ≤ _), (by decide : 12 + 0 ≤ _)⟩)
  dsimp only [Pt.U, Pt.locs, Pt.cells, Pt.slots] at X48 l48 y48 z48 st48 hQ48
  subst l48 y48 z48
  obtain ⟨rfl, N48q, Eq48⟩ := hQ48
  have N48 := Fr.app N46 N48q
  have g48 : own_Go p e below s₁ (entryFrame m #[(.int p1), (.int p2), (.int p3), (.int p4)] maxLocals) T48 (mkF m 167 #[.val (.int p1), .val (.int p2), .val (.int p3), .val (.int p4), .val (.int (p2 &&& (31 : Int32))), .val (.long bs), .second, .val (.double (FP.l2d bs)), .second, .val (.double (FP.i2d p3)), .second, .val (.double (FP.i2d p4)), .second, .val (.long (bs + (p3.toInt64))), .second, .val (.long ((bs + (p3.toInt64)) + (p4.toInt64))), .second, .val (.ref a), .val (.ref b), .val (.double (own_nh (FP.l2d bs) 0 (FP.i2d p3))), .second, .val (.double (own_nl (FP.l2d bs) 0 (FP.i2d p3))), .second, .val (.double (own_nh (own_nh (FP.l2d bs) 0 (FP.i2d p3)) (own_nl (FP.l2d bs) 0 (FP.i2d p3)) (FP.i2d p4))), .second, .val (.double (own_nl (own_nh (FP.l2d bs) 0 (FP.i2d p3)) (own_nl (FP.l2d bs) 0 (FP.i2d p3)) (FP.i2d p4))), .second, .val (.int (1 : Int32))] [(.int (1 : Int32))]) := fun t kt => g47 t (st48 _ kt)
  have E48' : T48.heap = T33.heap := Eq48
  have g49 : own_Go p e below s₁ (entryFrame m #[(.int p1), (.int p2), (.int p3), (.int p4)] maxLocals) T48 (mkF m 175 #[.val (.int p1), .val (.int p2), .val (.int p3), .val (.int p4), .val (.int (p2 &&& (31 : Int32))), .val (.long bs), .second, .val (.double (FP.l2d bs)), .second, .val (.double (FP.i2d p3)), .second, .val (.double (FP.i2d p4)), .second, .val (.long (bs + (p3.toInt64))), .second, .val (.long ((bs + (p3.toInt64)) + (p4.toInt64))), .second, .val (.ref a), .val (.ref b), .val (.double (own_nh (FP.l2d bs) 0 (FP.i2d p3))), .second, .val (.double (own_nl (FP.l2d bs) 0 (FP.i2d p3))), .second, .val (.double (own_nh (own_nh (FP.l2d bs) 0 (FP.i2d p3)) (own_nl (FP.l2d bs) 0 (FP.i2d p3)) (FP.i2d p4))), .second, .val (.double (own_nl (own_nh (FP.l2d bs) 0 (FP.i2d p3)) (own_nl (FP.l2d bs) 0 (FP.i2d p3)) (FP.i2d p4))), .second, .val (.int (1 : Int32))] [(.int (1 : Int32))]) := fun t kt => g48 t (by
    show Steps p.tables e below (T48.setTop (mkF m 167 #[.val (.int p1), .val (.int p2), .val (.int p3), .val (.int p4), .val (.int (p2 &&& (31 : Int32))), .val (.long bs), .second, .val (.double (FP.l2d bs)), .second, .val (.double (FP.i2d p3)), .second, .val (.double (FP.i2d p4)), .second, .val (.long (bs + (p3.toInt64))), .second, .val (.long ((bs + (p3.toInt64)) + (p4.toInt64))), .second, .val (.ref a), .val (.ref b), .val (.double (own_nh (FP.l2d bs) 0 (FP.i2d p3))), .second, .val (.double (own_nl (FP.l2d bs) 0 (FP.i2d p3))), .second, .val (.double (own_nh (own_nh (FP.l2d bs) 0 (FP.i2d p3)) (own_nl (FP.l2d bs) 0 (FP.i2d p3)) (FP.i2d p4))), .second, .val (.double (own_nl (own_nh (FP.l2d bs) 0 (FP.i2d p3)) (own_nl (FP.l2d bs) 0 (FP.i2d p3)) (FP.i2d p4))), .second, .val (.int (1 : Int32))] [(.int (1 : Int32))])) _
    refine XS.ifNo X48.here hx rfl (hb hby at_167) rfl ((if0 _ _).trans (feq (by decide)).1) ?_
    show Steps p.tables e below (T48.setTop (mkF m 170 #[.val (.int p1), .val (.int p2), .val (.int p3), .val (.int p4), .val (.int (p2 &&& (31 : Int32))), .val (.long bs), .second, .val (.double (FP.l2d bs)), .second, .val (.double (FP.i2d p3)), .second, .val (.double (FP.i2d p4)), .second, .val (.long (bs + (p3.toInt64))), .second, .val (.long ((bs + (p3.toInt64)) + (p4.toInt64))), .second, .val (.ref a), .val (.ref b), .val (.double (own_nh (FP.l2d bs) 0 (FP.i2d p3))), .second, .val (.double (own_nl (FP.l2d bs) 0 (FP.i2d p3))), .second, .val (.double (own_nh (own_nh (FP.l2d bs) 0 (FP.i2d p3)) (own_nl (FP.l2d bs) 0 (FP.i2d p3)) (FP.i2d p4))), .second, .val (.double (own_nl (own_nh (FP.l2d bs) 0 (FP.i2d p3)) (own_nl (FP.l2d bs) 0 (FP.i2d p3)) (FP.i2d p4))), .second, .val (.int (1 : Int32))] [])) _
    refine XS.iconst X48.here hx rfl (hb hby at_170) ?_
    show Steps p.tables e below (T48.setTop (mkF m 171 #[.val (.int p1), .val (.int p2), .val (.int p3), .val (.int p4), .val (.int (p2 &&& (31 : Int32))), .val (.long bs), .second, .val (.double (FP.l2d bs)), .second, .val (.double (FP.i2d p3)), .second, .val (.double (FP.i2d p4)), .second, .val (.long (bs + (p3.toInt64))), .second, .val (.long ((bs + (p3.toInt64)) + (p4.toInt64))), .second, .val (.ref a), .val (.ref b), .val (.double (own_nh (FP.l2d bs) 0 (FP.i2d p3))), .second, .val (.double (own_nl (FP.l2d bs) 0 (FP.i2d p3))), .second, .val (.double (own_nh (own_nh (FP.l2d bs) 0 (FP.i2d p3)) (own_nl (FP.l2d bs) 0 (FP.i2d p3)) (FP.i2d p4))), .second, .val (.double (own_nl (own_nh (FP.l2d bs) 0 (FP.i2d p3)) (own_nl (FP.l2d bs) 0 (FP.i2d p3)) (FP.i2d p4))), .second, .val (.int (1 : Int32))] [(.int (1 : Int32))])) _
    refine XS.goto X48.here hx rfl (pc0 := 171) (pc' := 175) rfl (hb hby at_171) (by decide) (by decide) ?_
    exact kt)
  obtain ⟨fs, hr, hrun, hended, hW, hsame⟩ := X48.leave (v := some (.int (1 : Int32))) (fun h => by rw [Bd.returns] at h; cases h)
  refine ⟨_, _, g49 _ (retN X48 hx (t := .boolean) Bd.returns (by simp) (hb hby at_175) hr), hrun, hended, _, _, rfl, ?_, ⟨_, rfl⟩, hW, hsame.mono (by decide) (by decide)⟩
  show Q_rm0 Z p1 p2 p3 p4 h0 n0 _ T48.heap _
  rw [E48']
  exact ⟨rfl, N48⟩
set_option maxRecDepth 65536 in
set_option maxHeartbeats 40000000 in
theorem comes_1 {Post : Tables → Env → Array Value → State → Outcome → State → Prop} (hpost : ∀ tb e args s v u, (limb_1_1.after args s (.returned v) u = true ∧ limb_1_2.after args s (.returned v) u = true ∧ True) → FrameEnd s (.returned v) u (Jvm.fieldLocs frame_1_writes args s ++ Jvm.arrayLocs frame_1_arrays args s ++ Jvm.staticLocs frame_1_statics s) 24 128 → Post tb e args s (.returned v) u) :
    ArmFor flags0 classFile x code maxLocals ret World_1 tables_1 room_1 Calls_1 rest_1 Pre_1 Post := by
  intro l hfl _ _ p e ha hc hk s m args below hf hA hF happ hP
  obtain ⟨hcalls, hrest, hpre⟩ := hP
  obtain ⟨-, -, -, hnamed, -, -, -, hat⟩ := (Spec.applies_iff hf).mp happ
  obtain ⟨hg, hn⟩ := and_e (Cond.before_iff.mp (show (Jvm.Cond.and given_1 narrow_1).before args s = true from hpre))
  obtain ⟨hcnt, r0⟩ := and_e hg
  obtain ⟨a0, r1⟩ := and_e r0
  obtain ⟨a1, r2⟩ := and_e r1
  obtain ⟨a2, r3⟩ := and_e r2
  obtain ⟨w0, w1, w2, w3, rfl⟩ : ∃ w0 w1 w2 w3 : Value, args = #[w0, w1, w2, w3] := by
    have hs : args.size = 4 := by simpa [Cond.value, given_1] using hcnt
    obtain ⟨L⟩ := args
    match L, hs with
    | [w0, w1, w2, w3], _ => exact ⟨w0, w1, w2, w3, rfl⟩
  have hw := fun d (hd : d ∈ tables_1) => atoms_spec (ws := Jvm.Cond.code x code maxLocals ret :: tables_1) hat d (List.mem_cons_of_mem _ hd)
  have hfit : Fit s := fun {y c} hc i hi => by
    obtain ⟨ha, rfl⟩ := Array.getElem?_eq_some_iff.mp hc
    have q := List.all_eq_true.mp ((Array.all_eq_true_iff_forall_mem.mp hF) _ (Array.getElem_mem ha)) i (List.mem_range.mpr hi)
    simpa [Array.getElem?_eq_getElem hi] using q
  obtain ⟨i0, ei0⟩ := is_v a0
  obtain rfl : w0 = (.int i0) := Option.some.inj ei0
  obtain ⟨i1, ei1⟩ := is_v a1
  obtain rfl : w1 = (.int i1) := Option.some.inj ei1
  obtain ⟨i2, ei2⟩ := is_v a2
  obtain rfl : w2 = (.int i2) := Option.some.inj ei2
  obtain ⟨i3, ei3⟩ := is_v r3
  obtain rfl : w3 = (.int i3) := Option.some.inj ei3
  obtain ⟨n, o, h1, h2, h3, _, L, rfl, ⟨rfl, N⟩, hq⟩ := rm0 l s _ hw tables_1 i0 i1 i2 i3 s.heap s.heap.size (Nat.le_refl _)  p e ha hc hk s m _ below hf ((Spec.applies_iff_loose hf).mp happ).1 ⟨rfl, State.Warmed39.refl s, rfl⟩ trivial
  refine ⟨n, _, h1, h2, h3, hpost _ _ _ _ _ _ ⟨Cond.after_iff.mpr rfl, Cond.after_iff.mpr (eq_i res_at (Term.int_eval (1)) rfl), trivial⟩ ⟨hq.1, hq.2.1, (hq.2.2.sift fun y hy => Or.inr (N y hy)).mono (by decide) (by decide)⟩⟩
theorem main_1_1 : Claimed_1_1 := comes_1 fun _ _ _ _ _ _ h hF => ⟨h.1, hF⟩
theorem main_1_2 : Claimed_1_2 := comes_1 fun _ _ _ _ _ _ h hF => ⟨h.2.1, hF⟩
end Jvm.Pilot.@@N@@
namespace Jvm.Pilot.@@N@@
open Jvm Jvm.ClassFile Sem Op Lib Jvm.Free Jvm.Stand Jvm.Pilot.@@N@@.Jvm.D
/-! MADE BY PROGRAM (witnessworld.py) out of the Statement's table words and the real class files: 9 classes; the members and pool entries that the words name. The judged class is class 1, her method 2. -/
namespace start1
open Jvm.ClassFile
def u (s : String) : CpInfo := .utf8 (stringToUtf16 s)
/-- a pool by its gaps: so many unusable entries, then the entry; so many at the end -/
def gap : Nat → List CpInfo → List CpInfo
  | 0, r => r
  | n + 1, r => .unusable :: gap n r
def poolList (es : List (Nat × CpInfo)) (last : Nat) : List CpInfo := es.foldr (fun e r => gap e.1 (e.2 :: r)) (gap last [])
def pool (es : List (Nat × CpInfo)) (last : Nat) : Array CpInfo := ⟨poolList es last⟩
def fileOf (pool : Array CpInfo) (this : Nat) (attrs : Array Attribute := #[]) (ms : Array MethodInfo := #[]) (fl : Nat := 33) (sup : Nat := 0) (ifs : Array Nat := #[]) (fds : Array FieldInfo := #[]) : ClassFile where
  minorVersion := 0
  majorVersion := 65
  constantPool := pool
  accessFlags := fl
  thisClass := this
  superClass := sup
  interfaces := ifs
  fields := fds
  methods := ms
  attributes := attrs
def plain (name : String) (sup : Option ClassId) : Class where
  name := name
  kind := .ordinary
  loader := none
  accessFlags := 33
  super := sup
  interfaces := #[]
  cf := none
  fields := #[]
  methods := #[]
  instanceTypes := #[]
  staticTypes := #[]
  resolved := #[]
  callSites := []
  init := .initialized
  statics := none
  mirror := none

def pool0 : Array CpInfo := pool [(5, u "<init>"), (0, u "()V"), (1, .class_ 10), (1, u "java/lang/Object")] 113

def k0c0 : Code := { maxStack := 0, maxLocals := 1, code := object_method_1_code, exceptionTable := #[], attributes := #[] }
def k0m0 : Method := { name := "<init>", desc := "()V", sig := { parameters := [], returnType := none }, accessFlags := 1, code := some k0c0 }
/-- java/lang/Object -/
def k0 : Class := { plain "java/lang/Object" none with
  accessFlags := 33
  interfaces := #[]
  cf := some (fileOf pool0 8 #[] #[{ accessFlags := 1, nameIndex := 5, descriptorIndex := 6, attributes := #[] }] 33 0 #[] #[])
  fields := #[]
  methods := #[k0m0]
  instanceTypes := #[]
  staticTypes := #[]
  resolved := Array.replicate 124 none
  statics := none }

def pool1 : Array CpInfo := pool [(2, .class_ 4), (1, u "java/lang/Object"), (0, u "<init>"), (0, u "()V"), (0, .class_ 8), (0, u "com/example/pincer/pincer/engine/PreciseValues"), (0, .methodref 7 10), (0, .nameAndType 5 11), (0, u "(I)V"), (0, .methodref 7 13), (0, .nameAndType 14 15), (0, u "set"), (0, u "(ID)V"), (0, .methodref 7 17), (0, .nameAndType 18 19), (0, u "setStep"), (0, u "(ILcom/example/pincer/pincer/engine/PreciseValues;ID)V"), (0, .methodref 7 21), (0, .nameAndType 22 23), (0, u "high"), (0, u "(I)D"), (0, .methodref 7 25), (0, .nameAndType 26 23), (0, u "low"), (0, .methodref 28 29), (0, .class_ 30), (0, .nameAndType 31 32), (0, u "com/example/pincer/pincer/engine/PreciseValuesSetStepPinLaw"), (0, u "pinned"), (0, u "(DDJ)Z"), (3, u "law"), (0, u "(IIII)Z")] 2

def k1m0 : Method := { name := "<init>", desc := "()V", sig := { parameters := [], returnType := none }, accessFlags := 1, code := none }
def k1c1 : Code := { maxStack := 6, maxLocals := 6, code := method_2_code, exceptionTable := #[], attributes := #[] }
def k1m1 : Method := { name := "pinned", desc := "(DDJ)Z", sig := { parameters := [.double, .double, .long], returnType := some .boolean }, accessFlags := 10, code := some k1c1 }
def k1c2 : Code := { maxStack := 6, maxLocals := 28, code := code, exceptionTable := #[], attributes := #[] }
def k1m2 : Method := { name := "law", desc := "(IIII)Z", sig := { parameters := [.int, .int, .int, .int], returnType := some .boolean }, accessFlags := 9, code := some k1c2 }
/-- com/example/pincer/pincer/engine/PreciseValuesSetStepPinLaw -/
def k1 : Class := { plain "com/example/pincer/pincer/engine/PreciseValuesSetStepPinLaw" (some 0) with
  accessFlags := 49
  interfaces := #[]
  cf := some (fileOf pool1 28 #[] #[{ accessFlags := 1, nameIndex := 5, descriptorIndex := 6, attributes := #[] }, { accessFlags := 10, nameIndex := 31, descriptorIndex := 32, attributes := #[] }, { accessFlags := 9, nameIndex := 36, descriptorIndex := 37, attributes := #[] }] 49 2 #[] #[])
  fields := #[]
  methods := #[k1m0, k1m1, k1m2]
  instanceTypes := #[]
  staticTypes := #[]
  resolved := Array.replicate 40 none
  statics := none }

def pool2 : Array CpInfo := pool [(1, .methodref 2 3), (0, .class_ 4), (0, .nameAndType 5 6), (0, u "java/lang/Object"), (0, u "<init>"), (0, u "()V"), (0, .fieldref 8 9), (0, .class_ 10), (0, .nameAndType 11 12), (0, u "com/example/pincer/pincer/engine/PreciseValues"), (0, u "highs"), (0, u "[D"), (0, .fieldref 8 14), (0, .nameAndType 15 12), (0, u "lows"), (0, .methodref 8 17), (0, .nameAndType 5 18), (0, u "([D[D)V"), (19, u "(I)V"), (2, u "high"), (0, u "(I)D"), (0, u "low"), (1, u "set"), (1, u "(ID)V"), (0, u "setStep"), (0, u "(ILcom/example/pincer/pincer/engine/PreciseValues;ID)V")] 9

def k2c0 : Code := { maxStack := 2, maxLocals := 3, code := prog_107_method_1_code, exceptionTable := #[], attributes := #[] }
def k2m0 : Method := { name := "<init>", desc := "([D[D)V", sig := { parameters := [(.array .double), (.array .double)], returnType := none }, accessFlags := 2, code := some k2c0 }
def k2c1 : Code := { maxStack := 3, maxLocals := 2, code := prog_107_method_2_code, exceptionTable := #[], attributes := #[] }
def k2m1 : Method := { name := "<init>", desc := "(I)V", sig := { parameters := [.int], returnType := none }, accessFlags := 0, code := some k2c1 }
def k2c2 : Code := { maxStack := 2, maxLocals := 2, code := prog_107_method_4_code, exceptionTable := #[], attributes := #[] }
def k2m2 : Method := { name := "high", desc := "(I)D", sig := { parameters := [.int], returnType := some .double }, accessFlags := 0, code := some k2c2 }
def k2c3 : Code := { maxStack := 2, maxLocals := 2, code := prog_107_method_5_code, exceptionTable := #[], attributes := #[] }
def k2m3 : Method := { name := "low", desc := "(I)D", sig := { parameters := [.int], returnType := some .double }, accessFlags := 0, code := some k2c3 }
def k2c4 : Code := { maxStack := 4, maxLocals := 4, code := prog_107_method_8_code, exceptionTable := #[], attributes := #[] }
def k2m4 : Method := { name := "set", desc := "(ID)V", sig := { parameters := [.int, .double], returnType := none }, accessFlags := 0, code := some k2c4 }
def k2c5 : Code := { maxStack := 8, maxLocals := 16, code := prog_107_method_9_code, exceptionTable := #[], attributes := #[] }
def k2m5 : Method := { name := "setStep", desc := "(ILcom/example/pincer/pincer/engine/PreciseValues;ID)V", sig := { parameters := [.int, (.object "com/example/pincer/pincer/engine/PreciseValues"), .int, .double], returnType := none }, accessFlags := 0, code := some k2c5 }
/-- com/example/pincer/pincer/engine/PreciseValues -/
def k2 : Class := { plain "com/example/pincer/pincer/engine/PreciseValues" (some 0) with
  accessFlags := 48
  interfaces := #[]
  cf := some (fileOf pool2 8 #[] #[{ accessFlags := 2, nameIndex := 5, descriptorIndex := 18, attributes := #[] }, { accessFlags := 0, nameIndex := 5, descriptorIndex := 38, attributes := #[] }, { accessFlags := 0, nameIndex := 41, descriptorIndex := 42, attributes := #[] }, { accessFlags := 0, nameIndex := 43, descriptorIndex := 42, attributes := #[] }, { accessFlags := 0, nameIndex := 45, descriptorIndex := 47, attributes := #[] }, { accessFlags := 0, nameIndex := 48, descriptorIndex := 49, attributes := #[] }] 48 2 #[] #[{ accessFlags := 18, nameIndex := 11, descriptorIndex := 12, attributes := #[] }, { accessFlags := 18, nameIndex := 15, descriptorIndex := 12, attributes := #[] }])
  fields := #[{ name := "highs", type := (.array .double), accessFlags := 18, slot := 0, constantValue := 0 }, { name := "lows", type := (.array .double), accessFlags := 18, slot := 1, constantValue := 0 }]
  methods := #[k2m0, k2m1, k2m2, k2m3, k2m4, k2m5]
  instanceTypes := #[(.array .double), (.array .double)]
  staticTypes := #[]
  resolved := Array.replicate 59 none
  statics := none }

def pool3 : Array CpInfo := pool [(1, u "java/lang/Cloneable"), (0, .class_ 1), (0, u "java/lang/Object"), (0, .class_ 3)] 3

/-- java/lang/Cloneable -/
def k3 : Class := { plain "java/lang/Cloneable" (some 0) with
  accessFlags := 1537
  interfaces := #[]
  cf := some (fileOf pool3 2 #[] #[] 1537 4 #[] #[])
  fields := #[]
  methods := #[]
  instanceTypes := #[]
  staticTypes := #[]
  resolved := Array.replicate 8 none
  statics := none }

def pool4 : Array CpInfo := pool [(1, u "java/io/Serializable"), (0, .class_ 1), (0, u "java/lang/Object"), (0, .class_ 3)] 3

/-- java/io/Serializable -/
def k4 : Class := { plain "java/io/Serializable" (some 0) with
  accessFlags := 1537
  interfaces := #[]
  cf := some (fileOf pool4 2 #[] #[] 1537 4 #[] #[])
  fields := #[]
  methods := #[]
  instanceTypes := #[]
  staticTypes := #[]
  resolved := Array.replicate 8 none
  statics := none }

/-- the primitive byte -/
def k5 : Class := { plain "byte" none with kind := .primitive 'B', accessFlags := 0x411 }
/-- [B -/
def k6 : Class := { plain "[B" (some 0) with kind := .array 5 .byte, interfaces := #[3, 4], accessFlags := 1041 }

/-- the primitive int -/
def k7 : Class := { plain "int" none with kind := .primitive 'I', accessFlags := 0x411 }
/-- [I -/
def k8 : Class := { plain "[I" (some 0) with kind := .array 7 .int, interfaces := #[3, 4], accessFlags := 1041 }

/-- the primitive double -/
def k9 : Class := { plain "double" none with kind := .primitive 'D', accessFlags := 0x411 }
/-- [D -/
def k10 : Class := { plain "[D" (some 0) with kind := .array 9 .double, interfaces := #[3, 4], accessFlags := 1041 }

def heap : Heap := #[]
def classes : Array Class := #[k0, k1, k2, k3, k4, k5, k6, k7, k8, k9, k10]
def interned : List (Array UInt16 × Addr) := []
def slotsUsed : Nat := 0
def theMethod : MethodId := ⟨1, 2⟩
def args0 : Array Value := #[.int 5, .int 3, .int 7, .int 1]
def aboutOver (below : List Frame) : State where
  vm := { classes := classes, interned := interned.toArray }
  heap := heap
  slotsUsed := slotsUsed
  threads := #[{ frames := .invoking theMethod args0 :: below }]
def below0 : List Frame := [.native { method := ⟨0, 0⟩, args := #[] }]
def about1 : State := aboutOver below0
def p0 : Program := .bare "" "" ""
def e0 : Env := launch0.env 0 0 0
theorem w_frames : about1.frames = Frame.invoking theMethod args0 :: below0 := rfl
set_option maxRecDepth 65536 in
theorem w_args : argsFit about1.vm theMethod args0 = true := by decide +kernel
set_option maxRecDepth 65536 in
theorem w_heap : heapFits about1 = true := by decide +kernel
set_option maxRecDepth 65536 in
theorem w_runnable : about1.curStatus? = some .runnable := by decide +kernel
set_option maxRecDepth 65536 in
theorem w_alone : about1.alone = true := by decide +kernel
set_option maxRecDepth 65536 in
theorem w_named : about1.methodNamed? x = some theMethod := by decide +kernel
set_option maxRecDepth 65536 in
theorem w_hears : about1.hears theMethod below0 = true := by decide +kernel
set_option maxRecDepth 65536 in
theorem w_ripe : about1.ripe theMethod args0 below0 = true := by decide +kernel
theorem w_running : about1.status = .running := rfl
set_option maxRecDepth 65536 in
theorem w_room : about1.hasRoom e0.platform room_1 = true :=
  launch0.hasRoom_least _ room_1 (by decide +kernel) (by decide +kernel) (by decide +kernel) (by decide +kernel) (by decide +kernel) (by decide +kernel)
theorem allAtoms_all (ts : List Jvm.Cond) (a : Array Jvm.Value) (st : Jvm.State) : (allAtoms ts).before a st = ts.all (fun c => c.before a st) := by
  induction ts with
  | nil => rfl
  | cons c t ih =>
    show (Jvm.Cond.and c (allAtoms t)).before a st = _
    rw [Jvm.Cond.before_and, ih, List.all_cons]
def words1 : List Jvm.Cond := Jvm.Cond.code x code maxLocals ret :: tables_1
/-- a 'code' word, met by the world's own term for the bytes: nothing is compared byte by byte -/
theorem code_word {y : MethodName} {bytes : ByteArray} {mx : Nat} {rt : Option FieldType} {a : Array Value} {s : State} {m : MethodId} {meth : Method} {c : Code} (h1 : s.methodNamed? y = some m) (h2 : s.vm.method? m = some meth) (h3 : meth.code = some c) (h4 : c.code = bytes)
    (h5 : (c.maxLocals == mx && c.exceptionTable.isEmpty && decide (c.maxStack ≤ mostOperands) && decide (meth.sig.returnType = rt) && !meth.locks && decide (parseMethodDescriptor y.desc = some meth.sig)) = true) : (Jvm.Cond.code y bytes mx rt).before a s = true := by
  simp only [Bool.and_eq_true, beq_iff_eq, Bool.not_eq_true', decide_eq_true_eq] at h5
  obtain ⟨⟨⟨⟨⟨g1, g2⟩, g3⟩, g4⟩, g5⟩, g6⟩ := h5
  simp [Cond.before, Cond.holds, Cond.value, h1, h2, h3, h4, g1, g2, g3, g4, g5, g6]
def isCode : Jvm.Cond → Bool
  | .code _ _ _ _ => true
  | _ => false
theorem all_split {L : List Jvm.Cond} {P : Jvm.Cond → Bool} (h1 : L.all (fun c => isCode c || P c) = true) (h2 : ∀ c ∈ L.filter isCode, P c = true) : L.all P = true := by
  refine List.all_eq_true.mpr fun c hc => ?_
  have h := List.all_eq_true.mp h1 c hc
  rcases Bool.eq_false_or_eq_true (isCode c) with hi | hi
  · exact h2 c (List.mem_filter.mpr ⟨hc, hi⟩)
  · simpa [hi] using h
set_option maxRecDepth 65536 in
theorem w_c0 : (Jvm.Cond.code x code maxLocals ret).before args0 about1 = true := code_word (m := ⟨1, 2⟩) (meth := k1m2) (c := k1c2) (by decide +kernel) rfl rfl rfl (by decide +kernel)
set_option maxRecDepth 65536 in
theorem w_c1 : (Jvm.Cond.code ({ cls := "com/example/pincer/pincer/engine/PreciseValues", name := "<init>", desc := "(I)V" } : Jvm.MethodName) prog_107_method_2_code (2 : Nat) (Option.none : Option Jvm.ClassFile.FieldType)).before args0 about1 = true := code_word (m := ⟨2, 1⟩) (meth := k2m1) (c := k2c1) (by decide +kernel) rfl rfl rfl (by decide +kernel)
set_option maxRecDepth 65536 in
theorem w_c2 : (Jvm.Cond.code ({ cls := "com/example/pincer/pincer/engine/PreciseValues", name := "<init>", desc := "([D[D)V" } : Jvm.MethodName) prog_107_method_1_code (3 : Nat) (Option.none : Option Jvm.ClassFile.FieldType)).before args0 about1 = true := code_word (m := ⟨2, 0⟩) (meth := k2m0) (c := k2c0) (by decide +kernel) rfl rfl rfl (by decide +kernel)
set_option maxRecDepth 65536 in
theorem w_c3 : (Jvm.Cond.code ({ cls := "java/lang/Object", name := "<init>", desc := "()V" } : Jvm.MethodName) object_method_1_code (1 : Nat) (Option.none : Option Jvm.ClassFile.FieldType)).before args0 about1 = true := code_word (m := ⟨0, 0⟩) (meth := k0m0) (c := k0c0) (by decide +kernel) rfl rfl rfl (by decide +kernel)
set_option maxRecDepth 65536 in
theorem w_c4 : (Jvm.Cond.code ({ cls := "com/example/pincer/pincer/engine/PreciseValues", name := "set", desc := "(ID)V" } : Jvm.MethodName) prog_107_method_8_code (4 : Nat) (Option.none : Option Jvm.ClassFile.FieldType)).before args0 about1 = true := code_word (m := ⟨2, 4⟩) (meth := k2m4) (c := k2c4) (by decide +kernel) rfl rfl rfl (by decide +kernel)
set_option maxRecDepth 65536 in
theorem w_c5 : (Jvm.Cond.code ({ cls := "com/example/pincer/pincer/engine/PreciseValues", name := "setStep", desc := "(ILcom/example/pincer/pincer/engine/PreciseValues;ID)V" } : Jvm.MethodName) prog_107_method_9_code (16 : Nat) (Option.none : Option Jvm.ClassFile.FieldType)).before args0 about1 = true := code_word (m := ⟨2, 5⟩) (meth := k2m5) (c := k2c5) (by decide +kernel) rfl rfl rfl (by decide +kernel)
set_option maxRecDepth 65536 in
theorem w_c6 : (Jvm.Cond.code ({ cls := "com/example/pincer/pincer/engine/PreciseValues", name := "high", desc := "(I)D" } : Jvm.MethodName) prog_107_method_4_code (2 : Nat) (Option.some Jvm.ClassFile.FieldType.double)).before args0 about1 = true := code_word (m := ⟨2, 2⟩) (meth := k2m2) (c := k2c2) (by decide +kernel) rfl rfl rfl (by decide +kernel)
set_option maxRecDepth 65536 in
theorem w_c7 : (Jvm.Cond.code ({ cls := "com/example/pincer/pincer/engine/PreciseValues", name := "low", desc := "(I)D" } : Jvm.MethodName) prog_107_method_5_code (2 : Nat) (Option.some Jvm.ClassFile.FieldType.double)).before args0 about1 = true := code_word (m := ⟨2, 3⟩) (meth := k2m3) (c := k2c3) (by decide +kernel) rfl rfl rfl (by decide +kernel)
set_option maxRecDepth 65536 in
theorem w_c8 : (Jvm.Cond.code ({ cls := "com/example/pincer/pincer/engine/PreciseValuesSetStepPinLaw", name := "pinned", desc := "(DDJ)Z" } : Jvm.MethodName) method_2_code (6 : Nat) (Option.some Jvm.ClassFile.FieldType.boolean)).before args0 about1 = true := code_word (m := ⟨1, 1⟩) (meth := k1m1) (c := k1c1) (by decide +kernel) rfl rfl rfl (by decide +kernel)
def codes1 : List Jvm.Cond := [Jvm.Cond.code x code maxLocals ret, Jvm.Cond.code ({ cls := "com/example/pincer/pincer/engine/PreciseValues", name := "<init>", desc := "(I)V" } : Jvm.MethodName) prog_107_method_2_code (2 : Nat) (Option.none : Option Jvm.ClassFile.FieldType), Jvm.Cond.code ({ cls := "com/example/pincer/pincer/engine/PreciseValues", name := "<init>", desc := "([D[D)V" } : Jvm.MethodName) prog_107_method_1_code (3 : Nat) (Option.none : Option Jvm.ClassFile.FieldType), Jvm.Cond.code ({ cls := "java/lang/Object", name := "<init>", desc := "()V" } : Jvm.MethodName) object_method_1_code (1 : Nat) (Option.none : Option Jvm.ClassFile.FieldType), Jvm.Cond.code ({ cls := "com/example/pincer/pincer/engine/PreciseValues", name := "set", desc := "(ID)V" } : Jvm.MethodName) prog_107_method_8_code (4 : Nat) (Option.none : Option Jvm.ClassFile.FieldType), Jvm.Cond.code ({ cls := "com/example/pincer/pincer/engine/PreciseValues", name := "setStep", desc := "(ILcom/example/pincer/pincer/engine/PreciseValues;ID)V" } : Jvm.MethodName) prog_107_method_9_code (16 : Nat) (Option.none : Option Jvm.ClassFile.FieldType), Jvm.Cond.code ({ cls := "com/example/pincer/pincer/engine/PreciseValues", name := "high", desc := "(I)D" } : Jvm.MethodName) prog_107_method_4_code (2 : Nat) (Option.some Jvm.ClassFile.FieldType.double), Jvm.Cond.code ({ cls := "com/example/pincer/pincer/engine/PreciseValues", name := "low", desc := "(I)D" } : Jvm.MethodName) prog_107_method_5_code (2 : Nat) (Option.some Jvm.ClassFile.FieldType.double), Jvm.Cond.code ({ cls := "com/example/pincer/pincer/engine/PreciseValuesSetStepPinLaw", name := "pinned", desc := "(DDJ)Z" } : Jvm.MethodName) method_2_code (6 : Nat) (Option.some Jvm.ClassFile.FieldType.boolean)]
set_option maxRecDepth 65536 in
theorem codes_eq : words1.filter isCode = codes1 := rfl
theorem w_codes : ∀ c ∈ words1.filter isCode, c.before args0 about1 = true := by
  rw [codes_eq]
  intro c hc
  simp only [codes1, List.mem_cons, List.not_mem_nil, or_false] at hc
  rcases hc with rfl | rfl | rfl | rfl | rfl | rfl | rfl | rfl | rfl
  · exact w_c0
  · exact w_c1
  · exact w_c2
  · exact w_c3
  · exact w_c4
  · exact w_c5
  · exact w_c6
  · exact w_c7
  · exact w_c8
set_option maxRecDepth 65536 in
theorem w_t1 : (words1.take 24).all (fun c => isCode c || c.before args0 about1) = true := by decide +kernel
set_option maxRecDepth 65536 in
theorem w_t2 : (words1.drop 24).all (fun c => isCode c || c.before args0 about1) = true := by decide +kernel
theorem w_tables : (allAtoms (Jvm.Cond.code x code maxLocals ret :: tables_1)).before args0 about1 = true := by
  rw [allAtoms_all]
  show words1.all (fun c => c.before args0 about1) = true
  refine all_split ?_ w_codes
  rw [← List.take_append_drop 24 words1, List.all_append, w_t1, w_t2]
  rfl
set_option maxRecDepth 65536 in
theorem w_case : (Jvm.Cond.and given_1 narrow_1).before args0 about1 = true := by decide +kernel
theorem w_applies : (headSpec (Jvm.Cond.code x code maxLocals ret :: tables_1) room_1).applies x e0.platform about1 = true :=
  (Spec.applies_iff w_frames).mpr ⟨w_running, w_runnable, w_alone, w_named, w_hears, w_ripe, w_room, w_tables⟩
theorem atStart : AtStart classFile x code maxLocals ret World_1 tables_1 room_1 Calls_1 rest_1 Pre_1 launch0 p0 e0 about1 theMethod args0 below0 :=
  ⟨lists_1, trivial, launch0.admits_env _ _ _, launch0.least_env, fairChoices_fair.cas, fairChoices_fair.clock, w_frames, w_args, w_heap, w_applies, trivial, trivial, w_case⟩
end start1
theorem witness_1 : WitnessClaimed_1 := ⟨start1.p0, start1.e0, start1.about1, start1.theMethod, start1.args0, start1.below0, start1.atStart⟩
end Jvm.Pilot.@@N@@
