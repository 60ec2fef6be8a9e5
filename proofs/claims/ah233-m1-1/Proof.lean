import JvmDerived
import JvmDerived.Pilot.@@N@@Statement
import JvmDerived.Pilot.@@N@@Code
set_option linter.unusedVariables false
set_option linter.unusedSimpArgs false
namespace Jvm.RoadKit
open Sem ClassFile Op Lib Jvm.Stand Jvm.Free Jvm.LawKit
section New
variable {p : Program} {l : Launch} {e : Env} {R : Room} {s : State} {m : MethodId} {args : Array Value} {below : List Frame} {meth : Method} {c : Code} {T : State} {locs : List Loc} {cells slots : Nat}
theorem retI (X : Stand p l e R s m args below meth c T locs cells slots) (hx : p.tables.exec = Jvm.exec) {pc : Nat} {Ls : Array Slot} {z : Int32} {rest : List Value} (hret : meth.sig.returnType = some .int) (hd : decode c.code pc = .ok (.ireturn, 1)) {fs : List Frame}
    (hl : ∀ (f : JFrame) (acts : List Action), f.method = m → f.locked = none → f.entered = [] → (doReturn e (T.setTop f) acts (some (.int z))).1 = T.setFrames fs) : Steps p.tables e below (T.setTop (mkF m pc Ls (.int z :: rest))) (T.setFrames fs) := by
  have hm' : T.vm.method? m = some meth := X.method'
  have hn : narrow .int (.int z) = .int z := rfl
  show Steps p.tables e below (T.setTop { method := m, pc := pc, locals := Ls, stack := _ :: rest, locked := none }) _
  jvm_step X.here [X.here.top, hx, hd, hm', hret, hn]
  first | (intro acts; rw [hl _ acts rfl rfl rfl]) | rw [hl _ _ rfl rfl rfl]
  exact Steps.refl _
end New
end Jvm.RoadKit
namespace Jvm.Pilot.@@N@@
open Jvm Jvm.ClassFile Sem Op Lib Jvm.Free Jvm.Stand Jvm.LawKit Jvm.RoadKit Bundle Jvm.Pilot.@@N@@.Jvm.D

def own_t (k j : Int32) : UInt64 := FP.ddiv (FP.i2d j) (FP.i2d k)
def own_el (x y : UInt64) (k j : Int32) : UInt64 := FP.dadd (FP.dmul (FP.dsub (4607182418800017408 : UInt64) (own_t k j)) x) (FP.dmul (own_t k j) y)
theorem own_1m : Fl.Mag64 1059 (4607182418800017408 : UInt64) := by unfold Fl.Mag64; decide
theorem own_big {k : Int32} (h : ¬ k = 0) : Big64 1023 (FP.i2d k) := by
  rw [i2d_w k]
  exact l2d_big (fun q => h (by
    have e := Int32.toInt_toInt64 k
    rw [q] at e
    exact Int32.toInt_inj.mp e.symm))
theorem own_nzd {k : Int32} (h : ¬ k = 0) : Fl.Nz64 (FP.i2d k) := by
  have b := own_big h
  rw [Fl.nz64_iff]
  have := b.1
  omega
theorem own_t_nn {k : Int32} (h : ¬ k = 0) (j : Int32) : Fl.NoNaN64 (FP.ddiv (FP.i2d j) (FP.i2d k)) := Fl.ddiv_out (Fl.i2d_fin j).noNaN (Fl.i2d_fin k) (own_nzd h)
theorem own_t_m {k : Int32} (h : ¬ k = 0) (j : Int32) : Fl.Mag64 1059 (own_t k j) := (ddiv_mag (Fl.i2d_mag j) (own_big h) (by decide) (by decide)).mono (by decide)
theorem own_s_m {k : Int32} (h : ¬ k = 0) (j : Int32) : Fl.Mag64 1061 (FP.dsub (4607182418800017408 : UInt64) (own_t k j)) := Fl.dsub_mag own_1m (own_t_m h j) (by decide)
theorem own_s_nn {k : Int32} (h : ¬ k = 0) (j : Int32) : Fl.NoNaN64 (FP.dsub (4607182418800017408 : UInt64) (own_t k j)) := ((own_s_m h j).fin (by decide)).noNaN
theorem own_a_m {k : Int32} (h : ¬ k = 0) (j : Int32) {x : UInt64} (hx : Fl.Mag64 1056 x) : Fl.Mag64 1095 (FP.dmul (FP.dsub (4607182418800017408 : UInt64) (own_t k j)) x) := (Fl.dmul_mag (own_s_m h j) hx (by decide) (by decide)).mono (by decide)
theorem own_b_m {k : Int32} (h : ¬ k = 0) (j : Int32) {y : UInt64} (hy : Fl.Mag64 1056 y) : Fl.Mag64 1095 (FP.dmul (own_t k j) y) := (Fl.dmul_mag (own_t_m h j) hy (by decide) (by decide)).mono (by decide)
theorem own_a_nn {k : Int32} (h : ¬ k = 0) (j : Int32) {x : UInt64} (hx : Fl.Mag64 1056 x) : Fl.NoNaN64 (FP.dmul (FP.dsub (4607182418800017408 : UInt64) (own_t k j)) x) := ((own_a_m h j hx).fin (by decide)).noNaN
theorem own_b_nn {k : Int32} (h : ¬ k = 0) (j : Int32) {y : UInt64} (hy : Fl.Mag64 1056 y) : Fl.NoNaN64 (FP.dmul (own_t k j) y) := ((own_b_m h j hy).fin (by decide)).noNaN
theorem own_el_nn {k : Int32} (h : ¬ k = 0) (j : Int32) {x y : UInt64} (hx : Fl.Mag64 1056 x) (hy : Fl.Mag64 1056 y) : Fl.NoNaN64 (FP.dadd (FP.dmul (FP.dsub (4607182418800017408 : UInt64) (own_t k j)) x) (FP.dmul (own_t k j) y)) := Fl.dadd_out (own_a_nn h j hx) ((own_b_m h j hy).fin (by decide))
theorem own_cv {a b : UInt64} (h : FP.dcmp a b = some .eq) (o : CmpOp) : cmpValue (FP.dcmp a b) o = (0 : Int32) := by rw [h]; cases o <;> rfl
def own_kk (i : Nat) : Int32 := Int32.ofNat (i + 1)
theorem own_t0 : ∀ i : Fin 15, own_t (own_kk i.val) (0 : Int32) = (0 : UInt64) := by decide +kernel
theorem own_t1 : ∀ i : Fin 15, own_t (own_kk i.val) (own_kk i.val) = (4607182418800017408 : UInt64) := by decide +kernel
theorem own_th : ∀ i : Fin 7, own_t (own_kk (2 * i.val + 1)) (own_kk i.val) = (4602678819172646912 : UInt64) := by decide +kernel
theorem own_10 : FP.dsub (4607182418800017408 : UInt64) (0 : UInt64) = (4607182418800017408 : UInt64) := by decide +kernel
theorem own_11 : FP.dsub (4607182418800017408 : UInt64) (4607182418800017408 : UInt64) = (0 : UInt64) := by decide +kernel
theorem own_1h : FP.dsub (4607182418800017408 : UInt64) (4602678819172646912 : UInt64) = (4602678819172646912 : UInt64) := by decide +kernel
theorem own_dz : FP.Core.DZero (0 : UInt64) := ⟨false, FP.Core.b64.qmin, by decide +kernel⟩
theorem own_first (i : Fin 15) {x y : UInt64} (hx : Fl.Mag64 1056 x) (hy : Fl.Mag64 1056 y) (o : CmpOp) : cmpValue (FP.dcmp (own_el x y (own_kk i.val) (0 : Int32)) x) o = (0 : Int32) := by
  refine own_cv ?_ o
  have fx := Fl.fin64_core.mp (hx.fin (by decide))
  have fy := Fl.fin64_core.mp (hy.fin (by decide))
  unfold own_el
  rw [own_t0 i, own_10, show FP.dmul (4607182418800017408 : UInt64) x = x from FP.Core.one_dmul fx.notNaN]
  exact (FP.Core.dadd_zero_eq fx (by rw [show FP.dmul (0 : UInt64) y = FP.dmul y 0 from FP.Core.dmul_comm _ _]; exact FP.Core.dmul_zero fy own_dz)).1
theorem own_last (i : Fin 15) {x y : UInt64} (hx : Fl.Mag64 1056 x) (hy : Fl.Mag64 1056 y) (o : CmpOp) : cmpValue (FP.dcmp (own_el x y (own_kk i.val) (own_kk i.val)) y) o = (0 : Int32) := by
  refine own_cv ?_ o
  have fx := Fl.fin64_core.mp (hx.fin (by decide))
  have fy := Fl.fin64_core.mp (hy.fin (by decide))
  unfold own_el
  rw [own_t1 i, own_11, show FP.dmul (4607182418800017408 : UInt64) y = y from FP.Core.one_dmul fy.notNaN]
  exact (FP.Core.dadd_zero_eq fy (by rw [show FP.dmul (0 : UInt64) x = FP.dmul x 0 from FP.Core.dmul_comm _ _]; exact FP.Core.dmul_zero fx own_dz)).2
theorem own_unit {k : Int32} (h : ¬ k = 0) (j : Int32) (o : CmpOp) : cmpValue (FP.dcmp (own_el (0 : UInt64) (4607182418800017408 : UInt64) k j) (FP.ddiv (FP.i2d j) (FP.i2d k))) o = (0 : Int32) := by
  refine own_cv ?_ o
  have ft := Fl.fin64_core.mp ((own_t_m h j).fin (by decide))
  have fs := Fl.fin64_core.mp ((own_s_m h j).fin (by decide))
  have e : FP.dmul (own_t k j) (4607182418800017408 : UInt64) = own_t k j := FP.Core.dmul_one ft.ne_nan
  unfold own_el
  rw [e]
  exact (FP.Core.dadd_zero_eq ft (FP.Core.dmul_zero fs own_dz)).2
/-! the middle -/
open FP.Core in
def own_R (a : Int) : Datum := roundRatio b64 (decide (a < 0)) a.natAbs 2 0
open FP.Core in
theorem own_grid (m : Nat) (h2 : m ≤ 9007199254740992) : ∃ V : FP.Core.Datum, FP.Core.fits b64 V ∧ V ≠ .nan ∧ zmag b64 V = m * 2 ^ 1073 := by
  have hq : b64.qmin = -1074 := by decide
  have hx : b64.qmax = 971 := by decide
  have ht : b64.tails = 4503599627370496 := by decide
  have hp : 2 ^ b64.p = 9007199254740992 := by decide
  by_cases h0 : m = 0
  · refine ⟨.fin false 0 b64.qmin, ⟨by rw [hp]; decide, Int.le_refl _, by rw [hq, hx]; decide, Or.inl rfl⟩, nofun, ?_⟩
    subst h0
    show 0 * _ = 0 * _
    rw [Nat.zero_mul, Nat.zero_mul]
  · by_cases h1 : m = 9007199254740992
    · refine ⟨.fin false 4503599627370496 0, ⟨by rw [hp]; decide, by rw [hq]; decide, by rw [hx]; decide, Or.inr (by rw [ht]; decide)⟩, nofun, ?_⟩
      subst h1
      show 4503599627370496 * 2 ^ ((0 : Int) - b64.qmin).toNat = _
      rw [hq, show ((0 : Int) - -1074).toNat = 1074 from rfl, Nat.pow_succ, show (9007199254740992 : Nat) = 4503599627370496 * 2 from rfl]
      generalize (2 : Nat) ^ 1073 = X
      omega
    · have hl : m.log2 ≤ 52 := by
        have : m < 2 ^ 53 := by omega
        have := (Nat.log2_lt h0).mpr this
        omega
      have l1 := Nat.log2_self_le h0
      have l2 : m < 2 ^ (m.log2 + 1) := Nat.lt_log2_self
      have hk : 2 ^ m.log2 * 2 ^ (52 - m.log2) = 4503599627370496 := by
        rw [← Nat.pow_add, show m.log2 + (52 - m.log2) = 52 by omega]
      have p := Nat.two_pow_pos (52 - m.log2)
      refine ⟨.fin false (m * 2 ^ (52 - m.log2)) (-1 - ((52 - m.log2 : Nat) : Int)), ⟨?_, ?_, ?_, Or.inr ?_⟩, nofun, ?_⟩
      · rw [hp]
        have := Nat.mul_lt_mul_of_pos_right l2 p
        rw [Nat.pow_succ, Nat.mul_right_comm, hk] at this
        exact this
      · rw [hq]; omega
      · rw [hx]; omega
      · rw [ht, ← hk]
        exact Nat.mul_le_mul_right _ l1
      · show m * 2 ^ (52 - m.log2) * 2 ^ (-1 - ((52 - m.log2 : Nat) : Int) - b64.qmin).toNat = _
        rw [hq, Nat.mul_assoc, ← Nat.pow_add, show 52 - m.log2 + (-1 - ((52 - m.log2 : Nat) : Int) - -1074).toNat = 1073 by omega]
open FP.Core in
theorem own_R_mag (a : Int) (h : a.natAbs ≤ 9007199254740992) : zmag b64 (own_R a) = a.natAbs * 2 ^ 1073 := by
  have hq : b64.qmin = -1074 := by decide
  obtain ⟨V, f1, n1, z1⟩ := own_grid a.natAbs h
  have P : (2 : Nat) ^ 1074 = 2 ^ 1073 * 2 := Nat.pow_succ 2 1073
  have u1 : zmag b64 (own_R a) ≤ zmag b64 V := by
    refine zmag_roundRatio_le good_b64 (e0 := -1074) (by decide) f1 n1 (by rw [hq]; decide) (by decide) ?_
    rw [z1, hq, show ((-1074 : Int) - -1074).toNat = 0 from rfl, Nat.pow_zero, Nat.mul_one]
    show a.natAbs * 2 ^ ((0 : Int) - -1074).toNat ≤ _
    rw [show ((0 : Int) - -1074).toNat = 1074 from rfl, P, ← Nat.mul_assoc]
    generalize (2 : Nat) ^ 1073 = X
    omega
  have u2 : zmag b64 V ≤ zmag b64 (own_R a) := by
    refine zmag_roundRatio_ge good_b64 (e0 := -1074) (by decide) f1 (by rw [hq]; decide) (by decide) ?_
    rw [z1, hq, show ((-1074 : Int) - -1074).toNat = 0 from rfl, Nat.pow_zero, Nat.mul_one]
    show _ ≤ a.natAbs * 2 ^ ((0 : Int) - -1074).toNat
    rw [show ((0 : Int) - -1074).toNat = 1074 from rfl, P, ← Nat.mul_assoc]
    generalize (2 : Nat) ^ 1073 = X
    omega
  omega
open FP.Core in
theorem own_R_val0 (a : Int) (K : Nat) (h : zmag b64 (own_R a) = a.natAbs * K) : zval b64 (own_R a) = a * (K : Int) := by
  unfold zval
  rw [h]
  have e0 : own_R a = roundRatio b64 (decide (a < 0)) a.natAbs 2 0 := rfl
  have : sgn (own_R a) = decide (a < 0) := by rw [e0]; exact sgn_roundRatio _ _ _ _ _
  rw [this]
  by_cases q : a < 0
  · rw [decide_eq_true q]
    show -((a.natAbs * K : Nat) : Int) = a * (K : Int)
    rw [Int.natCast_mul, show ((a.natAbs : Nat) : Int) = -a by omega, Int.neg_mul, Int.neg_neg]
  · rw [decide_eq_false q]
    show ((a.natAbs * K : Nat) : Int) = a * (K : Int)
    rw [Int.natCast_mul, show ((a.natAbs : Nat) : Int) = a by omega]
open FP.Core in
theorem own_R_val (a : Int) (h : a.natAbs ≤ 9007199254740992) : zval b64 (own_R a) = a * ((2 ^ 1073 : Nat) : Int) := own_R_val0 a _ (own_R_mag a h)
open FP.Core in
theorem own_R_nan (a : Int) : own_R a ≠ .nan := by
  unfold own_R
  rcases roundRatio_cases b64 (decide (a < 0)) a.natAbs 2 0 with ⟨_, _, z⟩ | z <;> rw [z] <;> nofun
open FP.Core in
theorem own_shape {a : Int64} (ha : Small53 a) : ∃ c q, val64 (FP.l2d a) = .fin (decide (a.toInt < 0)) c q ∧ c * 2 ^ q.toNat = a.toInt.natAbs * 2 ^ (-q).toNat := by
  obtain ⟨c, q, e1⟩ := l2d_shape a
  have w1 := l2d_whole ha
  rw [e1] at w1
  refine ⟨c, q, e1, ?_⟩
  have w2 : signed (decide (a.toInt < 0)) (c * 2 ^ q.toNat) = a.toInt * ((2 ^ (-q).toNat : Nat) : Int) := w1
  by_cases z : a.toInt < 0
  · rw [decide_eq_true z] at w2
    have w3 : -((c * 2 ^ q.toNat : Nat) : Int) = a.toInt * ((2 ^ (-q).toNat : Nat) : Int) := w2
    have w4 : ((c * 2 ^ q.toNat : Nat) : Int) = ((a.toInt.natAbs * 2 ^ (-q).toNat : Nat) : Int) := by
      rw [Int.natCast_mul a.toInt.natAbs, show ((a.toInt.natAbs : Nat) : Int) = -a.toInt by omega, Int.neg_mul]
      omega
    exact Int.ofNat.inj w4
  · rw [decide_eq_false z] at w2
    have w3 : ((c * 2 ^ q.toNat : Nat) : Int) = a.toInt * ((2 ^ (-q).toNat : Nat) : Int) := w2
    have w4 : ((c * 2 ^ q.toNat : Nat) : Int) = ((a.toInt.natAbs * 2 ^ (-q).toNat : Nat) : Int) := by
      rw [Int.natCast_mul a.toInt.natAbs, show ((a.toInt.natAbs : Nat) : Int) = a.toInt by omega]
      omega
    exact Int.ofNat.inj w4
theorem own_half_v : FP.Core.val64 (4602678819172646912 : UInt64) = .fin false 4503599627370496 (-53) := by decide +kernel
theorem own_two_v : FP.Core.val64 (4611686018427387904 : UInt64) = .fin false 4503599627370496 (-51) := by decide +kernel
open FP.Core in
theorem own_half {a : Int64} (ha : Small53 a) : val64 (FP.dmul (4602678819172646912 : UInt64) (FP.l2d a)) = own_R a.toInt := by
  obtain ⟨c, q, e1, w⟩ := own_shape ha
  have e0 : val64 (FP.dmul (4602678819172646912 : UInt64) (FP.l2d a)) = round b64 (exactProduct (val64 (4602678819172646912 : UInt64)) (val64 (FP.l2d a))) := val64_dmul _ _
  rw [e0, own_half_v, e1]
  show roundRatio b64 (false != decide (a.toInt < 0)) (4503599627370496 * c) 1 (-53 + q) = roundRatio b64 (decide (a.toInt < 0)) a.toInt.natAbs 2 0
  rw [show (false != decide (a.toInt < 0)) = decide (a.toInt < 0) from by cases decide (a.toInt < 0) <;> rfl]
  refine roundRatio_congr (by decide) (by decide) ?_
  obtain ⟨k, hk⟩ : ∃ k, k = q.toNat + 53 - (-53 + q - 0).toNat := ⟨_, rfl⟩
  have k1 : (-53 + q - 0).toNat + k = q.toNat + 53 := by omega
  have k2 : (0 - (-53 + q)).toNat + k = (-q).toNat + 53 + 53 := by omega
  refine Nat.eq_of_mul_eq_mul_right (Nat.two_pow_pos k) ?_
  rw [Nat.mul_assoc, ← Nat.pow_add, Nat.mul_assoc (a.toInt.natAbs * 1), ← Nat.pow_add, k1, k2, Nat.pow_add 2 q.toNat, Nat.mul_one, Nat.pow_add 2 ((-q).toNat + 53), Nat.pow_add 2 (-q).toNat]
  calc 4503599627370496 * c * 2 * (2 ^ q.toNat * 2 ^ 53) = (c * 2 ^ q.toNat) * (4503599627370496 * 2 * 2 ^ 53) := by ac_rfl
    _ = (a.toInt.natAbs * 2 ^ (-q).toNat) * (2 ^ 53 * 2 ^ 53) := by rw [w]
    _ = a.toInt.natAbs * (2 ^ (-q).toNat * 2 ^ 53 * 2 ^ 53) := by ac_rfl
open FP.Core in
theorem own_by2 {a : Int64} (ha : Small53 a) : val64 (FP.ddiv (FP.l2d a) (4611686018427387904 : UInt64)) = own_R a.toInt := by
  obtain ⟨c, q, e1, w⟩ := own_shape ha
  have e0 : val64 (FP.ddiv (FP.l2d a) (4611686018427387904 : UInt64)) = quotient b64 (val64 (FP.l2d a)) (val64 (4611686018427387904 : UInt64)) := val64_ddiv _ _
  rw [e0, own_two_v, e1]
  have e3 : quotient b64 (.fin (decide (a.toInt < 0)) c q) (.fin false 4503599627370496 (-51)) = roundRatio b64 (decide (a.toInt < 0) != false) c 4503599627370496 (q - -51) := by
    have hd : ¬ ((4503599627370496 : Nat) = 0) := by decide
    generalize (4503599627370496 : Nat) = d at hd ⊢
    show (if d = 0 then _ else _) = _
    rw [if_neg hd]
  rw [e3, show (decide (a.toInt < 0) != false) = decide (a.toInt < 0) from by cases decide (a.toInt < 0) <;> rfl]
  show _ = roundRatio b64 (decide (a.toInt < 0)) a.toInt.natAbs 2 0
  refine roundRatio_congr (by decide) (by decide) ?_
  obtain ⟨k, hk⟩ : ∃ k, k = q.toNat + 51 - (q - -51 - 0).toNat := ⟨_, rfl⟩
  have k1 : (q - -51 - 0).toNat + k = q.toNat + 51 := by omega
  have k2 : (0 - (q - -51)).toNat + k = (-q).toNat := by omega
  refine Nat.eq_of_mul_eq_mul_right (Nat.two_pow_pos k) ?_
  rw [Nat.mul_assoc, ← Nat.pow_add, Nat.mul_assoc (a.toInt.natAbs * 4503599627370496), ← Nat.pow_add, k1, k2, Nat.pow_add 2 q.toNat]
  calc c * 2 * (2 ^ q.toNat * 2 ^ 51) = (c * 2 ^ q.toNat) * (2 * 2 ^ 51) := by ac_rfl
    _ = (a.toInt.natAbs * 2 ^ (-q).toNat) * 4503599627370496 := by rw [w]
    _ = a.toInt.natAbs * 4503599627370496 * 2 ^ (-q).toNat := by ac_rfl
theorem own_sm (x : Int32) : FP.Core.Small53 x.toInt64 := by
  have h1 := x.toInt_lt
  have h2 := x.le_toInt
  have e : x.toInt64.toInt = x.toInt := Int32.toInt_toInt64 x
  exact ⟨by omega, by omega⟩
theorem own_sum (a b : Int32) : (a.toInt64 + b.toInt64).toInt = a.toInt + b.toInt := by
  have h1 := a.toInt_lt
  have h2 := a.le_toInt
  have h3 := b.toInt_lt
  have h4 := b.le_toInt
  have e1 : a.toInt64.toInt = a.toInt := Int32.toInt_toInt64 a
  have e2 : b.toInt64.toInt = b.toInt := Int32.toInt_toInt64 b
  rw [Int64.toInt_add, e1, e2, Int.bmod_eq_of_le] <;> omega
open FP.Core in
theorem own_mid (i : Fin 7) (a b : Int32) (o : CmpOp) : cmpValue (FP.dcmp (own_el (FP.i2d a) (FP.i2d b) (own_kk (2 * i.val + 1)) (own_kk i.val)) (FP.ddiv (FP.l2d ((a.toInt64) + (b.toInt64))) (4611686018427387904 : UInt64))) o = (0 : Int32) := by
  refine own_cv ?_ o
  have hk : ¬ own_kk (2 * i.val + 1) = 0 := (by decide +kernel : ∀ i : Fin 7, ¬ own_kk (2 * i.val + 1) = 0) i
  have h1 := a.toInt_lt
  have h2 := a.le_toInt
  have h3 := b.toInt_lt
  have h4 := b.le_toInt
  have e1 : a.toInt64.toInt = a.toInt := Int32.toInt_toInt64 a
  have e2 : b.toInt64.toInt = b.toInt := Int32.toInt_toInt64 b
  have es := own_sum a b
  have ss : Small53 (a.toInt64 + b.toInt64) := ⟨by omega, by omega⟩
  have v1 := own_half (own_sm a)
  have v2 := own_half (own_sm b)
  have v3 := own_by2 ss
  have el : own_el (FP.i2d a) (FP.i2d b) (own_kk (2 * i.val + 1)) (own_kk i.val) = FP.dadd (FP.dmul (4602678819172646912 : UInt64) (FP.l2d a.toInt64)) (FP.dmul (4602678819172646912 : UInt64) (FP.l2d b.toInt64)) := by
    unfold own_el
    rw [own_th i, own_1h, i2d_w a, i2d_w b]
  have nn := own_el_nn hk (own_kk i.val) (Fl.i2d_mag a) (Fl.i2d_mag b)
  have fa : DFin (FP.dmul (4602678819172646912 : UInt64) (FP.l2d a.toInt64)) := by
    have := Fl.fin64_core.mp ((own_a_m hk (own_kk i.val) (Fl.i2d_mag a)).fin (by decide))
    rwa [own_th i, own_1h, i2d_w a] at this
  have fb : DFin (FP.dmul (4602678819172646912 : UInt64) (FP.l2d b.toInt64)) := by
    have := Fl.fin64_core.mp ((own_b_m hk (own_kk i.val) (Fl.i2d_mag b)).fin (by decide))
    rwa [own_th i, i2d_w b] at this
  rw [el]
  have na : val64 (FP.dadd (FP.dmul (4602678819172646912 : UInt64) (FP.l2d a.toInt64)) (FP.dmul (4602678819172646912 : UInt64) (FP.l2d b.toInt64))) ≠ .nan := by
    rw [← el]
    exact (notNaN_iff _).mp (Fl.noNaN64_no.mp nn)
  have nb : val64 (FP.ddiv (FP.l2d (a.toInt64 + b.toInt64)) (4611686018427387904 : UInt64)) ≠ .nan := by rw [v3]; exact own_R_nan _
  refine dcmp_eq.mpr ⟨na, nb, ?_⟩
  have z1 := own_R_val a.toInt64.toInt (by omega)
  have z2 := own_R_val b.toInt64.toInt (by omega)
  have z3 := own_R_val (a.toInt64 + b.toInt64).toInt (by omega)
  have fit : FP.Core.fits b64 (own_R (a.toInt64 + b.toInt64).toInt) := roundRatio_fits good_b64 _ _ (by decide) _
  have eq : zval b64 (val64 (FP.dmul (4602678819172646912 : UInt64) (FP.l2d a.toInt64))) + zval b64 (val64 (FP.dmul (4602678819172646912 : UInt64) (FP.l2d b.toInt64))) = zval b64 (own_R (a.toInt64 + b.toInt64).toInt) := by
    rw [v1, v2, z1, z2, z3, ← Int.add_mul, es, e1, e2]
  have l1 := sum_le good_b64 fa fb (val64_fits _) (val64_fits _) fit (own_R_nan _) (Int.le_of_eq eq)
  have l2 := sum_ge good_b64 fa fb (val64_fits _) (val64_fits _) fit (own_R_nan _) (Int.le_of_eq eq.symm)
  have e4 : val64 (FP.dadd (FP.dmul (4602678819172646912 : UInt64) (FP.l2d a.toInt64)) (FP.dmul (4602678819172646912 : UInt64) (FP.l2d b.toInt64))) = _ := val64_dadd _ _
  rw [e4, v3]
  omega
def own_vl (x y : UInt64) (k : Int32) (i : Nat) : List Value := (List.range i).map fun j => Value.double (own_el x y k (Int32.ofNat j))
theorem own_vl_len (x y : UInt64) (k : Int32) (i : Nat) : (own_vl x y k i).length = i := by simp [own_vl]
theorem own_vl_set (x y : UInt64) (k : Int32) (i : Nat) : (own_vl x y k i ++ List.replicate 1 (Value.double 0)).set i (Value.double (own_el x y k (Int32.ofNat i))) = own_vl x y k (i + 1) := by
  have h := own_vl_len x y k i
  rw [List.set_append_right _ _ (by omega), h, Nat.sub_self]
  show own_vl x y k i ++ [Value.double (own_el x y k (Int32.ofNat i))] = _
  unfold own_vl
  rw [List.range_succ, List.map_append]
  rfl
theorem own_vl_at (x y : UInt64) (k : Int32) (i j : Nat) (h : j < i) (d : Value) : (own_vl x y k i).getD j d = .double (own_el x y k (Int32.ofNat j)) := by
  unfold own_vl
  rw [List.getD_eq_getElem?_getD, List.getElem?_map, List.getElem?_range h]
  rfl
theorem own_nat {j : Int32} (h : ¬ j < 0) : Int32.ofNat j.toNatClampNeg = j := by
  have e := nat_of h
  rw [← Int32.ofInt_eq_ofNat, ← e, Int32.ofInt_toInt]
theorem own_oi {i : Nat} (h : i < 2147483648) : (Int32.ofNat i).toInt = i := Int32.toInt_ofNat_of_lt h
theorem own_clamp {i : Nat} (h : i < 2147483648) : (Int32.ofNat i).toNatClampNeg = i := by
  have e := own_oi h
  show (Int32.ofNat i).toInt.toNat = i
  omega
theorem own_nneg {i : Nat} (h : i < 2147483648) : ¬ (Int32.ofNat i) < 0 := by
  rw [Int32.lt_iff_toInt_lt, own_oi h]
  have : (0 : Int32).toInt = 0 := by decide
  omega
theorem own_next {i : Nat} (h : i < 1000) : Int32.ofNat i + (1 : Int32) = Int32.ofNat (i + 1) := by
  apply Int32.toInt_inj.mp
  have : (1 : Int32).toInt = 1 := by decide
  rw [Int32.toInt_add, own_oi (by omega), own_oi (by omega), this, Int.bmod_eq_of_le] <;> omega
theorem d1_23 : decode prog_55_method_15_code 23 = .ok (.iload 6, 2) := by decide +kernel
theorem d1_25 : decode prog_55_method_15_code 25 = .ok (.iload 4, 2) := by decide +kernel
theorem d1_27 : decode prog_55_method_15_code 27 = .ok (.if_icmp .ge 36, 3) := by decide +kernel
theorem d1_30 : decode prog_55_method_15_code 30 = .ok (.iload 6, 2) := by decide +kernel
theorem d1_32 : decode prog_55_method_15_code 32 = .ok (.i2d, 1) := by decide +kernel
theorem d1_33 : decode prog_55_method_15_code 33 = .ok (.iload 4, 2) := by decide +kernel
theorem d1_35 : decode prog_55_method_15_code 35 = .ok (.iconst 1, 1) := by decide +kernel
theorem d1_36 : decode prog_55_method_15_code 36 = .ok (.isub, 1) := by decide +kernel
theorem d1_37 : decode prog_55_method_15_code 37 = .ok (.i2d, 1) := by decide +kernel
theorem d1_38 : decode prog_55_method_15_code 38 = .ok (.ddiv, 1) := by decide +kernel
theorem d1_39 : decode prog_55_method_15_code 39 = .ok (.dstore 7, 2) := by decide +kernel
theorem d1_41 : decode prog_55_method_15_code 41 = .ok (.aload 5, 2) := by decide +kernel
theorem d1_43 : decode prog_55_method_15_code 43 = .ok (.iload 6, 2) := by decide +kernel
theorem d1_45 : decode prog_55_method_15_code 45 = .ok (.dconst 1, 1) := by decide +kernel
theorem d1_46 : decode prog_55_method_15_code 46 = .ok (.dload 7, 2) := by decide +kernel
theorem d1_48 : decode prog_55_method_15_code 48 = .ok (.dsub, 1) := by decide +kernel
theorem d1_49 : decode prog_55_method_15_code 49 = .ok (.dload_n 0, 1) := by decide +kernel
theorem d1_50 : decode prog_55_method_15_code 50 = .ok (.dmul, 1) := by decide +kernel
theorem d1_51 : decode prog_55_method_15_code 51 = .ok (.dload 7, 2) := by decide +kernel
theorem d1_53 : decode prog_55_method_15_code 53 = .ok (.dload_n 2, 1) := by decide +kernel
theorem d1_54 : decode prog_55_method_15_code 54 = .ok (.dmul, 1) := by decide +kernel
theorem d1_55 : decode prog_55_method_15_code 55 = .ok (.dadd, 1) := by decide +kernel
theorem d1_56 : decode prog_55_method_15_code 56 = .ok (.dastore, 1) := by decide +kernel
theorem d1_57 : decode prog_55_method_15_code 57 = .ok (.iinc 6 1, 3) := by decide +kernel
theorem d1_60 : decode prog_55_method_15_code 60 = .ok (.goto (-37), 3) := by decide +kernel
set_option maxRecDepth 65536 in
set_option maxHeartbeats 40000000 in
theorem own_turn {p : Program} {l : Launch} {e : Env} {R : Room} {s : State} {m : MethodId} {args : Array Value} {below : List Frame} {meth : Method} {c : Code} {Z : State} {h0 : Heap} {n0 : Nat} {T0 : State} {locs : List Loc} {cells slots : Nat} {hc : Heap} {kc : ClassId} (X0 : Stand p l e R s m args below meth c T0 locs cells slots) (hx : p.tables.exec = Jvm.exec) (hZ : Z.Warmed39 s.vm) (hby : c.code = prog_55_method_15_code) (x1 x2 : UInt64) (p3 : Int32) (a : Addr) (s7 s8 : Slot) (hs : (s7 = .unset ∧ s8 = .unset) ∨ (∃ z : UInt64, s7 = .val (.double z) ∧ s8 = .second)) (i : Nat) (hi : i < 1000) (hlt : (Int32.ofNat i) < p3) (hk : ¬ (p3 - (1 : Int32)) = 0) (m1 : Fl.Mag64 1056 x1) (m2 : Fl.Mag64 1056 x2) (e0 : T0.heap = hc) (N0 : Fr n0 locs) (K0 : Keep h0 hc []) (ga : n0 ≤ a) (sz : h0.size ≤ a) (V0 : Arv Z hc a kc .double p3 (own_vl x1 x2 (p3 - (1 : Int32)) i) (.double 0)) :
    ∃ (T' : State) (h' : Heap) (z : UInt64) (locs' : List Loc), Stand p l e R s m args below meth c T' locs' cells slots ∧ T'.heap = h' ∧ Fr n0 locs' ∧ Keep h0 h' [] ∧ Arv Z h' a kc .double p3 (own_vl x1 x2 (p3 - (1 : Int32)) (i + 1)) (.double 0) ∧ ∀ t, Steps p.tables e below (T'.setTop (mkF m 23 #[.val (.double x1), .second, .val (.double x2), .second, .val (.int p3), .val (.ref a), .val (.int (Int32.ofNat (i + 1))), .val (.double z), .second] [])) t → Steps p.tables e below (T0.setTop (mkF m 23 #[.val (.double x1), .second, .val (.double x2), .second, .val (.int p3), .val (.ref a), .val (.int (Int32.ofNat i)), s7, s8] [])) t := by
  have pre0 : ∀ t, Steps p.tables e below (T0.setTop (mkF m 23 #[.val (.double x1), .second, .val (.double x2), .second, .val (.int p3), .val (.ref a), .val (.int (Int32.ofNat i)), s7, s8] [])) t → Steps p.tables e below (T0.setTop (mkF m 23 #[.val (.double x1), .second, .val (.double x2), .second, .val (.int p3), .val (.ref a), .val (.int (Int32.ofNat i)), s7, s8] [])) t := fun t k => k
  have pre1 : ∀ t, Steps p.tables e below (T0.setTop (mkF m 39 #[.val (.double x1), .second, .val (.double x2), .second, .val (.int p3), .val (.ref a), .val (.int (Int32.ofNat i)), s7, s8] [(.double (own_t (p3 - (1 : Int32)) (Int32.ofNat i)))])) t → Steps p.tables e below (T0.setTop (mkF m 23 #[.val (.double x1), .second, .val (.double x2), .second, .val (.int p3), .val (.ref a), .val (.int (Int32.ofNat i)), s7, s8] [])) t := fun t kt => by
    refine pre0 _ ?_
    show Steps p.tables e below (T0.setTop (mkF m 23 #[.val (.double x1), .second, .val (.double x2), .second, .val (.int p3), .val (.ref a), .val (.int (Int32.ofNat i)), s7, s8] [])) _
    refine XS.iload X0.here hx rfl (hb hby d1_23) rfl ?_
    show Steps p.tables e below (T0.setTop (mkF m 25 #[.val (.double x1), .second, .val (.double x2), .second, .val (.int p3), .val (.ref a), .val (.int (Int32.ofNat i)), s7, s8] [(.int (Int32.ofNat i))])) _
    refine XS.iload X0.here hx rfl (hb hby d1_25) rfl ?_
    show Steps p.tables e below (T0.setTop (mkF m 27 #[.val (.double x1), .second, .val (.double x2), .second, .val (.int p3), .val (.ref a), .val (.int (Int32.ofNat i)), s7, s8] [(.int p3), (.int (Int32.ofNat i))])) _
    refine XS.icmpNo X0.here hx rfl (hb hby d1_27) rfl (tlt (hlt : (Int32.ofNat i) < p3)).2.1 ?_
    show Steps p.tables e below (T0.setTop (mkF m 30 #[.val (.double x1), .second, .val (.double x2), .second, .val (.int p3), .val (.ref a), .val (.int (Int32.ofNat i)), s7, s8] [])) _
    refine XS.iload X0.here hx rfl (hb hby d1_30) rfl ?_
    show Steps p.tables e below (T0.setTop (mkF m 32 #[.val (.double x1), .second, .val (.double x2), .second, .val (.int p3), .val (.ref a), .val (.int (Int32.ofNat i)), s7, s8] [(.int (Int32.ofNat i))])) _
    refine XS.i2dS X0.here hx rfl (hb hby d1_32) rfl rfl ?_
    show Steps p.tables e below (T0.setTop (mkF m 33 #[.val (.double x1), .second, .val (.double x2), .second, .val (.int p3), .val (.ref a), .val (.int (Int32.ofNat i)), s7, s8] [(.double (FP.i2d (Int32.ofNat i)))])) _
    refine XS.iload X0.here hx rfl (hb hby d1_33) rfl ?_
    show Steps p.tables e below (T0.setTop (mkF m 35 #[.val (.double x1), .second, .val (.double x2), .second, .val (.int p3), .val (.ref a), .val (.int (Int32.ofNat i)), s7, s8] [(.int p3), (.double (FP.i2d (Int32.ofNat i)))])) _
    refine XS.iconst X0.here hx rfl (hb hby d1_35) ?_
    show Steps p.tables e below (T0.setTop (mkF m 36 #[.val (.double x1), .second, .val (.double x2), .second, .val (.int p3), .val (.ref a), .val (.int (Int32.ofNat i)), s7, s8] [(.int (1 : Int32)), (.int p3), (.double (FP.i2d (Int32.ofNat i)))])) _
    refine XS.isub X0.here hx rfl (hb hby d1_36) rfl ?_
    show Steps p.tables e below (T0.setTop (mkF m 37 #[.val (.double x1), .second, .val (.double x2), .second, .val (.int p3), .val (.ref a), .val (.int (Int32.ofNat i)), s7, s8] [(.int (p3 - (1 : Int32))), (.double (FP.i2d (Int32.ofNat i)))])) _
    refine XS.i2dS X0.here hx rfl (hb hby d1_37) rfl rfl ?_
    show Steps p.tables e below (T0.setTop (mkF m 38 #[.val (.double x1), .second, .val (.double x2), .second, .val (.int p3), .val (.ref a), .val (.int (Int32.ofNat i)), s7, s8] [(.double (FP.i2d (p3 - (1 : Int32)))), (.double (FP.i2d (Int32.ofNat i)))])) _
    refine XS.ddivS X0.here hx rfl (hb hby d1_38) rfl (own_t_nn hk _) rfl ?_
    exact kt
  have hst : storeLocals #[.val (.double x1), .second, .val (.double x2), .second, .val (.int p3), .val (.ref a), .val (.int (Int32.ofNat i)), s7, s8] 7 (.double (own_t (p3 - (1 : Int32)) (Int32.ofNat i))) = some #[.val (.double x1), .second, .val (.double x2), .second, .val (.int p3), .val (.ref a), .val (.int (Int32.ofNat i)), .val (.double (own_t (p3 - (1 : Int32)) (Int32.ofNat i))), .second] := by rcases hs with ⟨rfl, rfl⟩ | ⟨_, rfl, rfl⟩ <;> rfl
  have pre2 : ∀ t, Steps p.tables e below (T0.setTop (mkF m 56 #[.val (.double x1), .second, .val (.double x2), .second, .val (.int p3), .val (.ref a), .val (.int (Int32.ofNat i)), .val (.double (own_t (p3 - (1 : Int32)) (Int32.ofNat i))), .second] [(.double (own_el x1 x2 (p3 - (1 : Int32)) (Int32.ofNat i))), (.int (Int32.ofNat i)), (.ref a)])) t → Steps p.tables e below (T0.setTop (mkF m 23 #[.val (.double x1), .second, .val (.double x2), .second, .val (.int p3), .val (.ref a), .val (.int (Int32.ofNat i)), s7, s8] [])) t := fun t kt => by
    refine pre1 _ ?_
    show Steps p.tables e below (T0.setTop (mkF m 39 #[.val (.double x1), .second, .val (.double x2), .second, .val (.int p3), .val (.ref a), .val (.int (Int32.ofNat i)), s7, s8] [(.double (own_t (p3 - (1 : Int32)) (Int32.ofNat i)))])) _
    refine XS.dstore X0.here hx rfl (hb hby d1_39) rfl (l' := #[.val (.double x1), .second, .val (.double x2), .second, .val (.int p3), .val (.ref a), .val (.int (Int32.ofNat i)), .val (.double (own_t (p3 - (1 : Int32)) (Int32.ofNat i))), .second]) hst ?_
    show Steps p.tables e below (T0.setTop (mkF m 41 #[.val (.double x1), .second, .val (.double x2), .second, .val (.int p3), .val (.ref a), .val (.int (Int32.ofNat i)), .val (.double (own_t (p3 - (1 : Int32)) (Int32.ofNat i))), .second] [])) _
    refine XS.aload X0.here hx rfl (hb hby d1_41) rfl rfl ?_
    show Steps p.tables e below (T0.setTop (mkF m 43 #[.val (.double x1), .second, .val (.double x2), .second, .val (.int p3), .val (.ref a), .val (.int (Int32.ofNat i)), .val (.double (own_t (p3 - (1 : Int32)) (Int32.ofNat i))), .second] [(.ref a)])) _
    refine XS.iload X0.here hx rfl (hb hby d1_43) rfl ?_
    show Steps p.tables e below (T0.setTop (mkF m 45 #[.val (.double x1), .second, .val (.double x2), .second, .val (.int p3), .val (.ref a), .val (.int (Int32.ofNat i)), .val (.double (own_t (p3 - (1 : Int32)) (Int32.ofNat i))), .second] [(.int (Int32.ofNat i)), (.ref a)])) _
    refine XS.dconst1 X0.here hx rfl (hb hby d1_45) rfl ?_
    show Steps p.tables e below (T0.setTop (mkF m 46 #[.val (.double x1), .second, .val (.double x2), .second, .val (.int p3), .val (.ref a), .val (.int (Int32.ofNat i)), .val (.double (own_t (p3 - (1 : Int32)) (Int32.ofNat i))), .second] [(.double (4607182418800017408 : UInt64)), (.int (Int32.ofNat i)), (.ref a)])) _
    refine XS.dload X0.here hx rfl (hb hby d1_46) rfl ?_
    show Steps p.tables e below (T0.setTop (mkF m 48 #[.val (.double x1), .second, .val (.double x2), .second, .val (.int p3), .val (.ref a), .val (.int (Int32.ofNat i)), .val (.double (own_t (p3 - (1 : Int32)) (Int32.ofNat i))), .second] [(.double (own_t (p3 - (1 : Int32)) (Int32.ofNat i))), (.double (4607182418800017408 : UInt64)), (.int (Int32.ofNat i)), (.ref a)])) _
    refine XS.dsubS X0.here hx rfl (hb hby d1_48) rfl (own_s_nn hk _) rfl ?_
    show Steps p.tables e below (T0.setTop (mkF m 49 #[.val (.double x1), .second, .val (.double x2), .second, .val (.int p3), .val (.ref a), .val (.int (Int32.ofNat i)), .val (.double (own_t (p3 - (1 : Int32)) (Int32.ofNat i))), .second] [(.double (FP.dsub (4607182418800017408 : UInt64) (own_t (p3 - (1 : Int32)) (Int32.ofNat i)))), (.int (Int32.ofNat i)), (.ref a)])) _
    refine XS.dloadN X0.here hx rfl (hb hby d1_49) rfl ?_
    show Steps p.tables e below (T0.setTop (mkF m 50 #[.val (.double x1), .second, .val (.double x2), .second, .val (.int p3), .val (.ref a), .val (.int (Int32.ofNat i)), .val (.double (own_t (p3 - (1 : Int32)) (Int32.ofNat i))), .second] [(.double x1), (.double (FP.dsub (4607182418800017408 : UInt64) (own_t (p3 - (1 : Int32)) (Int32.ofNat i)))), (.int (Int32.ofNat i)), (.ref a)])) _
    refine XS.dmulS X0.here hx rfl (hb hby d1_50) rfl (own_a_nn hk _ m1) rfl ?_
    show Steps p.tables e below (T0.setTop (mkF m 51 #[.val (.double x1), .second, .val (.double x2), .second, .val (.int p3), .val (.ref a), .val (.int (Int32.ofNat i)), .val (.double (own_t (p3 - (1 : Int32)) (Int32.ofNat i))), .second] [(.double (FP.dmul (FP.dsub (4607182418800017408 : UInt64) (own_t (p3 - (1 : Int32)) (Int32.ofNat i))) x1)), (.int (Int32.ofNat i)), (.ref a)])) _
    refine XS.dload X0.here hx rfl (hb hby d1_51) rfl ?_
    show Steps p.tables e below (T0.setTop (mkF m 53 #[.val (.double x1), .second, .val (.double x2), .second, .val (.int p3), .val (.ref a), .val (.int (Int32.ofNat i)), .val (.double (own_t (p3 - (1 : Int32)) (Int32.ofNat i))), .second] [(.double (own_t (p3 - (1 : Int32)) (Int32.ofNat i))), (.double (FP.dmul (FP.dsub (4607182418800017408 : UInt64) (own_t (p3 - (1 : Int32)) (Int32.ofNat i))) x1)), (.int (Int32.ofNat i)), (.ref a)])) _
    refine XS.dloadN X0.here hx rfl (hb hby d1_53) rfl ?_
    show Steps p.tables e below (T0.setTop (mkF m 54 #[.val (.double x1), .second, .val (.double x2), .second, .val (.int p3), .val (.ref a), .val (.int (Int32.ofNat i)), .val (.double (own_t (p3 - (1 : Int32)) (Int32.ofNat i))), .second] [(.double x2), (.double (own_t (p3 - (1 : Int32)) (Int32.ofNat i))), (.double (FP.dmul (FP.dsub (4607182418800017408 : UInt64) (own_t (p3 - (1 : Int32)) (Int32.ofNat i))) x1)), (.int (Int32.ofNat i)), (.ref a)])) _
    refine XS.dmulS X0.here hx rfl (hb hby d1_54) rfl (own_b_nn hk _ m2) rfl ?_
    show Steps p.tables e below (T0.setTop (mkF m 55 #[.val (.double x1), .second, .val (.double x2), .second, .val (.int p3), .val (.ref a), .val (.int (Int32.ofNat i)), .val (.double (own_t (p3 - (1 : Int32)) (Int32.ofNat i))), .second] [(.double (FP.dmul (own_t (p3 - (1 : Int32)) (Int32.ofNat i)) x2)), (.double (FP.dmul (FP.dsub (4607182418800017408 : UInt64) (own_t (p3 - (1 : Int32)) (Int32.ofNat i))) x1)), (.int (Int32.ofNat i)), (.ref a)])) _
    refine XS.daddS X0.here hx rfl (hb hby d1_55) rfl (own_el_nn hk _ m1 m2) rfl ?_
    exact kt
  obtain ⟨cl, Ar, qk, Sz, Nn, Hh, Gg⟩ := V0.pad (pad_rep _ _ 1)
  have hin : ¬ ((Int32.ofNat i) < 0 ∨ cl.slots.size ≤ ((Int32.ofNat i)).toNatClampNeg) := inb_of Sz ⟨own_nneg (by omega), hlt⟩
  obtain ⟨T3, h3, X3, e3, W3, st3⟩ := stD X0 hx hZ e0 Ar (j := (Int32.ofNat i)) hin (g := (mkF m 56 #[.val (.double x1), .second, .val (.double x2), .second, .val (.int p3), .val (.ref a), .val (.int (Int32.ofNat i)), .val (.double (own_t (p3 - (1 : Int32)) (Int32.ofNat i))), .second] [(.double (own_el x1 x2 (p3 - (1 : Int32)) (Int32.ofNat i))), (.int (Int32.ofNat i)), (.ref a)])) rfl rfl (hb hby d1_56)
  have V3 := Arv.set Ar qk Sz Nn Hh Gg rfl W3 i (own_clamp (by omega)) (by rw [List.length_append, own_vl_len]; exact Nat.lt_succ_self i)
  rw [own_vl_set] at V3
  have N3 := Fr.snoc X3 N0 ga
  have K3 : Keep h0 h3 [] := K0.wr W3 (Or.inr sz)
  have pre4 : ∀ t, Steps p.tables e below (T3.setTop (mkF m 57 #[.val (.double x1), .second, .val (.double x2), .second, .val (.int p3), .val (.ref a), .val (.int (Int32.ofNat i)), .val (.double (own_t (p3 - (1 : Int32)) (Int32.ofNat i))), .second] [])) t → Steps p.tables e below (T0.setTop (mkF m 23 #[.val (.double x1), .second, .val (.double x2), .second, .val (.int p3), .val (.ref a), .val (.int (Int32.ofNat i)), s7, s8] [])) t := fun t kt => pre2 _ (st3 _ kt)
  have pre5 : ∀ t, Steps p.tables e below (T3.setTop (mkF m 23 #[.val (.double x1), .second, .val (.double x2), .second, .val (.int p3), .val (.ref a), .val (.int (Int32.ofNat (i + 1))), .val (.double (own_t (p3 - (1 : Int32)) (Int32.ofNat i))), .second] [])) t → Steps p.tables e below (T0.setTop (mkF m 23 #[.val (.double x1), .second, .val (.double x2), .second, .val (.int p3), .val (.ref a), .val (.int (Int32.ofNat i)), s7, s8] [])) t := fun t kt => by
    refine pre4 _ ?_
    show Steps p.tables e below (T3.setTop (mkF m 57 #[.val (.double x1), .second, .val (.double x2), .second, .val (.int p3), .val (.ref a), .val (.int (Int32.ofNat i)), .val (.double (own_t (p3 - (1 : Int32)) (Int32.ofNat i))), .second] [])) _
    refine XS.iinc X3.here hx rfl (hb hby d1_57) rfl (l' := #[.val (.double x1), .second, .val (.double x2), .second, .val (.int p3), .val (.ref a), .val (.int ((Int32.ofNat i) + (1 : Int32))), .val (.double (own_t (p3 - (1 : Int32)) (Int32.ofNat i))), .second]) rfl ?_
    show Steps p.tables e below (T3.setTop (mkF m 60 #[.val (.double x1), .second, .val (.double x2), .second, .val (.int p3), .val (.ref a), .val (.int ((Int32.ofNat i) + (1 : Int32))), .val (.double (own_t (p3 - (1 : Int32)) (Int32.ofNat i))), .second] [])) _
    rw [show ((Int32.ofNat i) + (1 : Int32)) = (Int32.ofNat (i + 1)) from own_next hi]
    show Steps p.tables e below (T3.setTop (mkF m 60 #[.val (.double x1), .second, .val (.double x2), .second, .val (.int p3), .val (.ref a), .val (.int (Int32.ofNat (i + 1))), .val (.double (own_t (p3 - (1 : Int32)) (Int32.ofNat i))), .second] [])) _
    refine XS.goto X3.here hx rfl (pc0 := 60) (pc' := 23) rfl (hb hby d1_60) (by decide) (by decide) ?_
    exact kt
  exact ⟨T3, h3, (own_t (p3 - (1 : Int32)) (Int32.ofNat i)), _, X3, e3, N3, K3, V3, pre5⟩
set_option maxRecDepth 65536 in
set_option maxHeartbeats 40000000 in
theorem own_loop {p : Program} {l : Launch} {e : Env} {R : Room} {s : State} {m : MethodId} {args : Array Value} {below : List Frame} {meth : Method} {c : Code} {Z : State} {h0 : Heap} {n0 : Nat} {kc : ClassId} {cells slots : Nat} (hx : p.tables.exec = Jvm.exec) (hZ : Z.Warmed39 s.vm) (hby : c.code = prog_55_method_15_code) (x1 x2 : UInt64) (p3 : Int32) (a : Addr) (N : Nat) (hN : p3.toInt = (N : Int)) (hN2 : N < 1000) (hk : ¬ (p3 - (1 : Int32)) = 0) (m1 : Fl.Mag64 1056 x1) (m2 : Fl.Mag64 1056 x2) (ga : n0 ≤ a) (sz : h0.size ≤ a) : ∀ (k i : Nat), i + k = N → ∀ (T0 : State) (hc : Heap) (locs : List Loc) (s7 s8 : Slot), ((s7 = .unset ∧ s8 = .unset) ∨ (∃ z : UInt64, s7 = .val (.double z) ∧ s8 = .second)) → Stand p l e R s m args below meth c T0 locs cells slots → T0.heap = hc → Fr n0 locs → Keep h0 hc [] → Arv Z hc a kc .double p3 (own_vl x1 x2 (p3 - (1 : Int32)) i) (.double 0) →
    ∃ (T' : State) (h' : Heap) (s7' s8' : Slot) (locs' : List Loc), Stand p l e R s m args below meth c T' locs' cells slots ∧ T'.heap = h' ∧ Fr n0 locs' ∧ Keep h0 h' [] ∧ Arv Z h' a kc .double p3 (own_vl x1 x2 (p3 - (1 : Int32)) N) (.double 0) ∧ ∀ t, Steps p.tables e below (T'.setTop (mkF m 23 #[.val (.double x1), .second, .val (.double x2), .second, .val (.int p3), .val (.ref a), .val (.int (Int32.ofNat N)), s7', s8'] [])) t → Steps p.tables e below (T0.setTop (mkF m 23 #[.val (.double x1), .second, .val (.double x2), .second, .val (.int p3), .val (.ref a), .val (.int (Int32.ofNat i)), s7, s8] [])) t := by
  intro k
  induction k with
  | zero =>
    intro i hi T0 hc locs s7 s8 hs X0 e0 N0 K0 V0
    obtain rfl : i = N := hi
    exact ⟨T0, hc, s7, s8, locs, X0, e0, N0, K0, V0, fun t q => q⟩
  | succ k ih =>
    intro i hi T0 hc locs s7 s8 hs X0 e0 N0 K0 V0
    have hlt : (Int32.ofNat i) < p3 := by rw [Int32.lt_iff_toInt_lt, own_oi (by omega)]; omega
    obtain ⟨T1, h1, z, locs1, X1, e1, N1, K1, V1, st1⟩ := own_turn X0 hx hZ hby x1 x2 p3 a s7 s8 hs i (by omega) hlt hk m1 m2 e0 N0 K0 ga sz V0
    obtain ⟨T2, h2, s7', s8', locs2, X2, e2, N2, K2, V2, st2⟩ := ih (i + 1) (by omega) T1 h1 locs1 _ _ (Or.inr ⟨z, rfl, rfl⟩) X1 e1 N1 K1 V1
    exact ⟨T2, h2, s7', s8', locs2, X2, e2, N2, K2, V2, fun t q => st1 t (st2 t q)⟩
theorem pn_0 : plainName "com/example/tesserae/tesserae/problems/Zdt" = true := by first | (simp [plainName, overriddenIn]; done) | decide +kernel
theorem ef_1a (m : MethodId) (x1 : UInt64) (x2 : UInt64) : entryFrame m #[(.double x1), (.double x2), (.int (1 : Int32))] 9 = (mkF m 0 #[.val (.double x1), .second, .val (.double x2), .second, .val (.int (1 : Int32)), .unset, .unset, .unset, .unset] []) := by first | (simp [entryFrame, mkF, argsToLocals, Value.category]; done) | rfl
theorem d1_0 : decode prog_55_method_15_code 0 = .ok (.iload 4, 2) := by decide +kernel
theorem d1_2 : decode prog_55_method_15_code 2 = .ok (.iconst 1, 1) := by decide +kernel
theorem d1_3 : decode prog_55_method_15_code 3 = .ok (.if_icmp .ne 11, 3) := by decide +kernel
theorem d1_6 : decode prog_55_method_15_code 6 = .ok (.iconst 1, 1) := by decide +kernel
theorem d1_7 : decode prog_55_method_15_code 7 = .ok (.newarray .double, 2) := by decide +kernel
theorem d1_9 : decode prog_55_method_15_code 9 = .ok (.dup, 1) := by decide +kernel
theorem d1_10 : decode prog_55_method_15_code 10 = .ok (.iconst 0, 1) := by decide +kernel
theorem d1_11 : decode prog_55_method_15_code 11 = .ok (.dload_n 0, 1) := by decide +kernel
theorem d1_12 : decode prog_55_method_15_code 12 = .ok (.dastore, 1) := by decide +kernel
theorem d1_13 : decode prog_55_method_15_code 13 = .ok (.areturn, 1) := by decide +kernel
def Q1a (Z : State) (x1 : UInt64) (x2 : UInt64) (h0 : Heap) (n0 : Nat) (v : Option Value) (h : Heap) (L : List Loc) : Prop := v = some (.ref h0.size) ∧ Fr n0 L ∧ Keep h0 h [] ∧ ∃ k : ClassId, Arv Z h h0.size k .double (1 : Int32) [(.double x1)] (.double 0)
set_option maxRecDepth 65536 in
set_option maxHeartbeats 40000000 in
theorem rm1a (l : Launch) (Z : State) (a0 : Array Value) (hw : ∀ d ∈ tables_1, d.before a0 Z = true) (ws : List Jvm.Cond) (x1 : UInt64) (x2 : UInt64) (h0 : Heap) (n0 : Nat) (Z0 : n0 ≤ h0.size) :
    MetFree l (⟨"com/example/tesserae/tesserae/problems/Zdt", "evenlySpaced", "(DDI)[D"⟩ : MethodName) (head1 (Jvm.Cond.code (⟨"com/example/tesserae/tesserae/problems/Zdt", "evenlySpaced", "(DDI)[D"⟩ : MethodName) prog_55_method_15_code 9 (some (.array .double)) :: ws) ({ frames := 0, cells := 1, slots := 1, locals := 0 } : Room)) (fun a U => a = #[(.double x1), (.double x2), (.int (1 : Int32))] ∧ Z.Warmed39 U.vm ∧ U.heap = h0) (fun _ _ _ _ _ => True) (fun _ U o U' => ∃ v L, o = .returned v ∧ Q1a Z x1 x2 h0 n0 v U'.heap L ∧ FrameEnd U o U' L ({ frames := 0, cells := 1, slots := 1, locals := 0 } : Room).cells ({ frames := 0, cells := 1, slots := 1, locals := 0 } : Room).slots) := by
  refine MetFree.of_bodySF (plainFor_of_name pn_0) hisR ?_
  intro p e s m args below meth c s₁ Bd hml0 hP hK
  obtain ⟨rfl, hZ, hh⟩ := hP
  have hx := Bd.exec
  have hby := Bd.bytes
  have hml : c.maxLocals = 9 := hml0
  have hown : s.vm.findClass "com/example/tesserae/tesserae/problems/Zdt" = some m.cls := findClass_of_methodNamed Bd.named
  have hnm := (name_of_methodNamed Bd.named Bd.method).1
  have X0 : Stand p l e ({ frames := 0, cells := 1, slots := 1, locals := 0 } : Room) s m #[(.double x1), (.double x2), (.int (1 : Int32))] below meth c s₁ [] 0 0 := Stand.of_body Bd
  have e0 : s₁.heap = h0 := by rw [← hh, Bd.state]; rfl
  have N0 := Fr.nil n0
  have K0 : Keep h0 h0 [] := Keep.refl _ _
  have pre0 : ∀ t, Steps p.tables e below (s₁.setTop (mkF m 0 #[.val (.double x1), .second, .val (.double x2), .second, .val (.int (1 : Int32)), .unset, .unset, .unset, .unset] [])) t → Steps p.tables e below (s₁.setTop (entryFrame m #[(.double x1), (.double x2), (.int (1 : Int32))] 9)) t := fun t k => castTop (ef_1a m x1 x2) k
  have pre1 : ∀ t, Steps p.tables e below (s₁.setTop (mkF m 7 #[.val (.double x1), .second, .val (.double x2), .second, .val (.int (1 : Int32)), .unset, .unset, .unset, .unset] [(.int (1 : Int32))])) t → Steps p.tables e below (s₁.setTop (entryFrame m #[(.double x1), (.double x2), (.int (1 : Int32))] 9)) t := fun t kt => by
    refine pre0 _ ?_
    show Steps p.tables e below (s₁.setTop (mkF m 0 #[.val (.double x1), .second, .val (.double x2), .second, .val (.int (1 : Int32)), .unset, .unset, .unset, .unset] [])) _
    refine XS.iload X0.here hx rfl (hb hby d1_0) rfl ?_
    show Steps p.tables e below (s₁.setTop (mkF m 2 #[.val (.double x1), .second, .val (.double x2), .second, .val (.int (1 : Int32)), .unset, .unset, .unset, .unset] [(.int (1 : Int32))])) _
    refine XS.iconst X0.here hx rfl (hb hby d1_2) ?_
    show Steps p.tables e below (s₁.setTop (mkF m 3 #[.val (.double x1), .second, .val (.double x2), .second, .val (.int (1 : Int32)), .unset, .unset, .unset, .unset] [(.int (1 : Int32)), (.int (1 : Int32))])) _
    refine XS.icmpNo X0.here hx rfl (hb hby d1_3) rfl (teq (by decide : (1 : Int32) = (1 : Int32))).2 ?_
    show Steps p.tables e below (s₁.setTop (mkF m 6 #[.val (.double x1), .second, .val (.double x2), .second, .val (.int (1 : Int32)), .unset, .unset, .unset, .unset] [])) _
    refine XS.iconst X0.here hx rfl (hb hby d1_6) ?_
    exact kt
  obtain ⟨T2, h2, k2, X2, e2, E2, A2, st2⟩ := newP X0 hx hZ (hw _ (List.mem_of_getElem? (i := 4) rfl)) e0 (g := (mkF m 7 #[.val (.double x1), .second, .val (.double x2), .second, .val (.int (1 : Int32)), .unset, .unset, .unset, .unset] [(.int (1 : Int32))])) rfl (hb hby d1_7) rfl (by decide) (cap := 1) (by decide) (by decide) (by decide) (by decide)
  obtain ⟨b2, gq2⟩ : ∃ z, z = h0.size := ⟨_, rfl⟩
  rw [← gq2] at A2 st2
  have gg_b2 : n0 ≤ b2 := Nat.le_trans Z0 (Nat.le_of_eq gq2.symm)
  have sz_b2 : h0.size ≤ b2 := Nat.le_trans K0.1 (Nat.le_of_eq gq2.symm)
  have V2 : Arv Z h2 b2 k2 .double (1 : Int32) [(.double 0)] (.double 0) := (Arv.new A2 (by decide)).pad (pad_rep [] (.double 0) 1)
  have pre3 : ∀ t, Steps p.tables e below (T2.setTop (mkF m 9 #[.val (.double x1), .second, .val (.double x2), .second, .val (.int (1 : Int32)), .unset, .unset, .unset, .unset] [(.ref b2)])) t → Steps p.tables e below (s₁.setTop (entryFrame m #[(.double x1), (.double x2), (.int (1 : Int32))] 9)) t := fun t kt => pre1 _ (st2 _ kt)
  obtain ⟨cl4, Ar4, qk4, Sz4, Nn4, Hh4, Gg4⟩ := id V2
  have hin4 : ¬ ((0 : Int32) < 0 ∨ cl4.slots.size ≤ ((0 : Int32)).toNatClampNeg) := inb_of Sz4 ⟨by decide, by decide⟩
  have pre5 : ∀ t, Steps p.tables e below (T2.setTop (mkF m 12 #[.val (.double x1), .second, .val (.double x2), .second, .val (.int (1 : Int32)), .unset, .unset, .unset, .unset] [(.double x1), (.int (0 : Int32)), (.ref b2), (.ref b2)])) t → Steps p.tables e below (s₁.setTop (entryFrame m #[(.double x1), (.double x2), (.int (1 : Int32))] 9)) t := fun t kt => by
    refine pre3 _ ?_
    show Steps p.tables e below (T2.setTop (mkF m 9 #[.val (.double x1), .second, .val (.double x2), .second, .val (.int (1 : Int32)), .unset, .unset, .unset, .unset] [(.ref b2)])) _
    refine XS.dup X2.here hx rfl (hb hby d1_9) rfl rfl ?_
    show Steps p.tables e below (T2.setTop (mkF m 10 #[.val (.double x1), .second, .val (.double x2), .second, .val (.int (1 : Int32)), .unset, .unset, .unset, .unset] [(.ref b2), (.ref b2)])) _
    refine XS.iconst X2.here hx rfl (hb hby d1_10) ?_
    show Steps p.tables e below (T2.setTop (mkF m 11 #[.val (.double x1), .second, .val (.double x2), .second, .val (.int (1 : Int32)), .unset, .unset, .unset, .unset] [(.int (0 : Int32)), (.ref b2), (.ref b2)])) _
    refine XS.dloadN X2.here hx rfl (hb hby d1_11) rfl ?_
    exact kt
  obtain ⟨T6, h6, X6, e6, W6, st6⟩ := stD X2 hx hZ e2 Ar4 (j := (0 : Int32)) hin4 (g := (mkF m 12 #[.val (.double x1), .second, .val (.double x2), .second, .val (.int (1 : Int32)), .unset, .unset, .unset, .unset] [(.double x1), (.int (0 : Int32)), (.ref b2), (.ref b2)])) rfl rfl (hb hby d1_12)
  have V6 := Arv.set Ar4 qk4 Sz4 Nn4 Hh4 Gg4 rfl W6 0 rfl (Nat.le_of_ble_eq_true rfl)
  have V6' : Arv Z h6 b2 k2 .double (1 : Int32) [(.double x1)] (.double 0) := V6
  have N6 := Fr.snoc X6 N0 gg_b2
  have pre7 : ∀ t, Steps p.tables e below (T6.setTop (mkF m 13 #[.val (.double x1), .second, .val (.double x2), .second, .val (.int (1 : Int32)), .unset, .unset, .unset, .unset] [(.ref b2)])) t → Steps p.tables e below (s₁.setTop (entryFrame m #[(.double x1), (.double x2), (.int (1 : Int32))] 9)) t := fun t kt => pre5 _ (st6 _ kt)
  have k8 : Keep h0 h6 [] := ((K0.ext E2).wr W6 (Or.inr sz_b2))
  obtain ⟨fs, hr, hrun, hended, hW, hsame⟩ := X6.leave (v := (some (.ref b2))) (fun h => by rw [Bd.returns] at h; cases h)
  refine ⟨_, _, pre7 _ ?_, hrun, hended, _, _, rfl, ?_, ⟨_, rfl⟩, hW, hsame.mono (by decide) (by decide)⟩
  · show Steps p.tables e below (T6.setTop (mkF m 13 #[.val (.double x1), .second, .val (.double x2), .second, .val (.int (1 : Int32)), .unset, .unset, .unset, .unset] [(.ref b2)])) _
    exact retOut X6 hx (t := (.array .double)) Bd.returns rfl (Or.inr (Or.inr (Or.inr (Or.inr ⟨rfl, rfl, rfl⟩)))) (hb hby d1_13) hr
  · show Q1a Z x1 x2 h0 n0 _ T6.heap _
    rw [e6]
    exact ⟨by rw [gq2], N6, k8, _, by rw [← gq2]; exact V6'⟩
theorem ef_1b (m : MethodId) (x1 : UInt64) (x2 : UInt64) (p3 : Int32) : entryFrame m #[(.double x1), (.double x2), (.int p3)] 9 = (mkF m 0 #[.val (.double x1), .second, .val (.double x2), .second, .val (.int p3), .unset, .unset, .unset, .unset] []) := by first | (simp [entryFrame, mkF, argsToLocals, Value.category]; done) | rfl
theorem d1_14 : decode prog_55_method_15_code 14 = .ok (.iload 4, 2) := by decide +kernel
theorem d1_16 : decode prog_55_method_15_code 16 = .ok (.newarray .double, 2) := by decide +kernel
theorem d1_18 : decode prog_55_method_15_code 18 = .ok (.astore 5, 2) := by decide +kernel
theorem d1_20 : decode prog_55_method_15_code 20 = .ok (.iconst 0, 1) := by decide +kernel
theorem d1_21 : decode prog_55_method_15_code 21 = .ok (.istore 6, 2) := by decide +kernel
theorem d1_63 : decode prog_55_method_15_code 63 = .ok (.aload 5, 2) := by decide +kernel
theorem d1_65 : decode prog_55_method_15_code 65 = .ok (.areturn, 1) := by decide +kernel
def Q1b (Z : State) (x1 : UInt64) (x2 : UInt64) (p3 : Int32) (N : Nat) (h0 : Heap) (n0 : Nat) (v : Option Value) (h : Heap) (L : List Loc) : Prop := v = some (.ref h0.size) ∧ Fr n0 L ∧ Keep h0 h [] ∧ ∃ k : ClassId, Arv Z h h0.size k .double p3 (own_vl x1 x2 (p3 - (1 : Int32)) N) (.double 0)
set_option maxRecDepth 65536 in
set_option maxHeartbeats 40000000 in
theorem rm1b (l : Launch) (Z : State) (a0 : Array Value) (hw : ∀ d ∈ tables_1, d.before a0 Z = true) (ws : List Jvm.Cond) (x1 : UInt64) (x2 : UInt64) (p3 : Int32) (N : Nat) (h0 : Heap) (n0 : Nat) (Z0 : n0 ≤ h0.size) (hN : p3.toInt = (N : Int)) (hN1 : 1 < N) (hN2 : N ≤ 16) (m1 : Fl.Mag64 1056 x1) (m2 : Fl.Mag64 1056 x2) :
    MetFree l (⟨"com/example/tesserae/tesserae/problems/Zdt", "evenlySpaced", "(DDI)[D"⟩ : MethodName) (head1 (Jvm.Cond.code (⟨"com/example/tesserae/tesserae/problems/Zdt", "evenlySpaced", "(DDI)[D"⟩ : MethodName) prog_55_method_15_code 9 (some (.array .double)) :: ws) ({ frames := 0, cells := 1, slots := 16, locals := 0 } : Room)) (fun a U => a = #[(.double x1), (.double x2), (.int p3)] ∧ Z.Warmed39 U.vm ∧ U.heap = h0) (fun _ _ _ _ _ => True) (fun _ U o U' => ∃ v L, o = .returned v ∧ Q1b Z x1 x2 p3 N h0 n0 v U'.heap L ∧ FrameEnd U o U' L ({ frames := 0, cells := 1, slots := 16, locals := 0 } : Room).cells ({ frames := 0, cells := 1, slots := 16, locals := 0 } : Room).slots) := by
  refine MetFree.of_bodySF (plainFor_of_name pn_0) hisR ?_
  intro p e s m args below meth c s₁ Bd hml0 hP hK
  obtain ⟨rfl, hZ, hh⟩ := hP
  have hx := Bd.exec
  have hby := Bd.bytes
  have hml : c.maxLocals = 9 := hml0
  have hown : s.vm.findClass "com/example/tesserae/tesserae/problems/Zdt" = some m.cls := findClass_of_methodNamed Bd.named
  have hnm := (name_of_methodNamed Bd.named Bd.method).1
  have X0 : Stand p l e ({ frames := 0, cells := 1, slots := 16, locals := 0 } : Room) s m #[(.double x1), (.double x2), (.int p3)] below meth c s₁ [] 0 0 := Stand.of_body Bd
  have e0 : s₁.heap = h0 := by rw [← hh, Bd.state]; rfl
  have N0 := Fr.nil n0
  have K0 : Keep h0 h0 [] := Keep.refl _ _
  have pre0 : ∀ t, Steps p.tables e below (s₁.setTop (mkF m 0 #[.val (.double x1), .second, .val (.double x2), .second, .val (.int p3), .unset, .unset, .unset, .unset] [])) t → Steps p.tables e below (s₁.setTop (entryFrame m #[(.double x1), (.double x2), (.int p3)] 9)) t := fun t k => castTop (ef_1b m x1 x2 p3) k
  have hp1 : ¬ p3 = (1 : Int32) := fun q => by rw [q] at hN; have : (1 : Int32).toInt = 1 := (by decide); omega
  have hp0 : ¬ p3 < 0 := by rw [Int32.lt_iff_toInt_lt]; have : (0 : Int32).toInt = 0 := (by decide); omega
  have hpc : p3.toNatClampNeg ≤ 16 := by show p3.toInt.toNat ≤ 16; omega
  have hk : ¬ (p3 - (1 : Int32)) = 0 := fun q => by have e : (p3 - (1 : Int32)).toInt = p3.toInt - 1 := (by have : (1 : Int32).toInt = 1 := (by decide); rw [Int32.toInt_sub, this, Int.bmod_eq_of_le] <;> omega); rw [q] at e; have : (0 : Int32).toInt = 0 := (by decide); omega
  have pre1 : ∀ t, Steps p.tables e below (s₁.setTop (mkF m 16 #[.val (.double x1), .second, .val (.double x2), .second, .val (.int p3), .unset, .unset, .unset, .unset] [(.int p3)])) t → Steps p.tables e below (s₁.setTop (entryFrame m #[(.double x1), (.double x2), (.int p3)] 9)) t := fun t kt => by
    refine pre0 _ ?_
    show Steps p.tables e below (s₁.setTop (mkF m 0 #[.val (.double x1), .second, .val (.double x2), .second, .val (.int p3), .unset, .unset, .unset, .unset] [])) _
    refine XS.iload X0.here hx rfl (hb hby d1_0) rfl ?_
    show Steps p.tables e below (s₁.setTop (mkF m 2 #[.val (.double x1), .second, .val (.double x2), .second, .val (.int p3), .unset, .unset, .unset, .unset] [(.int p3)])) _
    refine XS.iconst X0.here hx rfl (hb hby d1_2) ?_
    show Steps p.tables e below (s₁.setTop (mkF m 3 #[.val (.double x1), .second, .val (.double x2), .second, .val (.int p3), .unset, .unset, .unset, .unset] [(.int (1 : Int32)), (.int p3)])) _
    refine XS.icmpYes X0.here hx rfl (pc0 := 3) (pc' := 14) rfl (hb hby d1_3) rfl (feq (hp1 : ¬ (p3 = (1 : Int32)))).2 (by decide) (by decide) ?_
    show Steps p.tables e below (s₁.setTop (mkF m 14 #[.val (.double x1), .second, .val (.double x2), .second, .val (.int p3), .unset, .unset, .unset, .unset] [])) _
    refine XS.iload X0.here hx rfl (hb hby d1_14) rfl ?_
    exact kt
  obtain ⟨T2, h2, k2, X2, e2, E2, A2, st2⟩ := newP X0 hx hZ (hw _ (List.mem_of_getElem? (i := 4) rfl)) e0 (g := (mkF m 16 #[.val (.double x1), .second, .val (.double x2), .second, .val (.int p3), .unset, .unset, .unset, .unset] [(.int p3)])) rfl (hb hby d1_16) rfl hp0 (cap := 16) hpc (by decide) (by decide) (by decide)
  obtain ⟨b2, gq2⟩ : ∃ z, z = h0.size := ⟨_, rfl⟩
  rw [← gq2] at A2 st2
  have gg_b2 : n0 ≤ b2 := Nat.le_trans Z0 (Nat.le_of_eq gq2.symm)
  have sz_b2 : h0.size ≤ b2 := Nat.le_trans K0.1 (Nat.le_of_eq gq2.symm)
  have V2 : Arv Z h2 b2 k2 .double p3 [] (.double 0) := Arv.new A2 hp0
  have pre3 : ∀ t, Steps p.tables e below (T2.setTop (mkF m 18 #[.val (.double x1), .second, .val (.double x2), .second, .val (.int p3), .unset, .unset, .unset, .unset] [(.ref b2)])) t → Steps p.tables e below (s₁.setTop (entryFrame m #[(.double x1), (.double x2), (.int p3)] 9)) t := fun t kt => pre1 _ (st2 _ kt)
  have pre4 : ∀ t, Steps p.tables e below (T2.setTop (mkF m 23 #[.val (.double x1), .second, .val (.double x2), .second, .val (.int p3), .val (.ref b2), .val (.int (0 : Int32)), .unset, .unset] [])) t → Steps p.tables e below (s₁.setTop (entryFrame m #[(.double x1), (.double x2), (.int p3)] 9)) t := fun t kt => by
    refine pre3 _ ?_
    show Steps p.tables e below (T2.setTop (mkF m 18 #[.val (.double x1), .second, .val (.double x2), .second, .val (.int p3), .unset, .unset, .unset, .unset] [(.ref b2)])) _
    refine XS.astore X2.here hx rfl (hb hby d1_18) rfl rfl (l' := #[.val (.double x1), .second, .val (.double x2), .second, .val (.int p3), .val (.ref b2), .unset, .unset, .unset]) rfl ?_
    show Steps p.tables e below (T2.setTop (mkF m 20 #[.val (.double x1), .second, .val (.double x2), .second, .val (.int p3), .val (.ref b2), .unset, .unset, .unset] [])) _
    refine XS.iconst X2.here hx rfl (hb hby d1_20) ?_
    show Steps p.tables e below (T2.setTop (mkF m 21 #[.val (.double x1), .second, .val (.double x2), .second, .val (.int p3), .val (.ref b2), .unset, .unset, .unset] [(.int (0 : Int32))])) _
    refine XS.istore X2.here hx rfl (hb hby d1_21) rfl (l' := #[.val (.double x1), .second, .val (.double x2), .second, .val (.int p3), .val (.ref b2), .val (.int (0 : Int32)), .unset, .unset]) rfl ?_
    exact kt
  have k5 : Keep h0 h2 [] := (K0.ext E2)
  obtain ⟨T', h', s7', s8', locs', X', e', N', K', V', st'⟩ := own_loop hx hZ hby x1 x2 p3 b2 N hN (by omega) hk m1 m2 gg_b2 sz_b2 N 0 (Nat.zero_add N) T2 h2 _ .unset .unset (Or.inl ⟨rfl, rfl⟩) X2 e2 N0 k5 V2
  have preL : ∀ t, Steps p.tables e below (T'.setTop (mkF m 23 #[.val (.double x1), .second, .val (.double x2), .second, .val (.int p3), .val (.ref b2), .val (.int (Int32.ofNat N)), s7', s8'] [])) t → Steps p.tables e below (s₁.setTop (entryFrame m #[(.double x1), (.double x2), (.int p3)] 9)) t := fun t kt => pre4 _ (st' t kt)
  have hge : ¬ ((Int32.ofNat N) < p3) := by rw [Int32.lt_iff_toInt_lt, own_oi (by omega)]; omega
  have pre6 : ∀ t, Steps p.tables e below (T'.setTop (mkF m 65 #[.val (.double x1), .second, .val (.double x2), .second, .val (.int p3), .val (.ref b2), .val (.int (Int32.ofNat N)), s7', s8'] [(.ref b2)])) t → Steps p.tables e below (s₁.setTop (entryFrame m #[(.double x1), (.double x2), (.int p3)] 9)) t := fun t kt => by
    refine preL _ ?_
    show Steps p.tables e below (T'.setTop (mkF m 23 #[.val (.double x1), .second, .val (.double x2), .second, .val (.int p3), .val (.ref b2), .val (.int (Int32.ofNat N)), s7', s8'] [])) _
    refine XS.iload X'.here hx rfl (hb hby d1_23) rfl ?_
    show Steps p.tables e below (T'.setTop (mkF m 25 #[.val (.double x1), .second, .val (.double x2), .second, .val (.int p3), .val (.ref b2), .val (.int (Int32.ofNat N)), s7', s8'] [(.int (Int32.ofNat N))])) _
    refine XS.iload X'.here hx rfl (hb hby d1_25) rfl ?_
    show Steps p.tables e below (T'.setTop (mkF m 27 #[.val (.double x1), .second, .val (.double x2), .second, .val (.int p3), .val (.ref b2), .val (.int (Int32.ofNat N)), s7', s8'] [(.int p3), (.int (Int32.ofNat N))])) _
    refine XS.icmpYes X'.here hx rfl (pc0 := 27) (pc' := 63) rfl (hb hby d1_27) rfl (flt (hge : ¬ ((Int32.ofNat N) < p3))).2.1 (by decide) (by decide) ?_
    show Steps p.tables e below (T'.setTop (mkF m 63 #[.val (.double x1), .second, .val (.double x2), .second, .val (.int p3), .val (.ref b2), .val (.int (Int32.ofNat N)), s7', s8'] [])) _
    refine XS.aload X'.here hx rfl (hb hby d1_63) rfl rfl ?_
    exact kt
  obtain ⟨fs, hr, hrun, hended, hW, hsame⟩ := X'.leave (v := (some (.ref b2))) (fun h => by rw [Bd.returns] at h; cases h)
  refine ⟨_, _, pre6 _ ?_, hrun, hended, _, _, rfl, ?_, ⟨_, rfl⟩, hW, hsame.mono (by decide) (by decide)⟩
  · show Steps p.tables e below (T'.setTop (mkF m 65 #[.val (.double x1), .second, .val (.double x2), .second, .val (.int p3), .val (.ref b2), .val (.int (Int32.ofNat N)), s7', s8'] [(.ref b2)])) _
    exact retOut X' hx (t := (.array .double)) Bd.returns rfl (Or.inr (Or.inr (Or.inr (Or.inr ⟨rfl, rfl, rfl⟩)))) (hb hby d1_65) hr
  · show Q1b Z x1 x2 p3 N h0 n0 _ T'.heap _
    rw [e']
    exact ⟨by rw [gq2], N', K', _, by rw [← gq2]; exact V'⟩

def own_n (p : Int32) : Int32 := ((p &&& (15 : Int32)) + (1 : Int32))
theorem own_nb (p : Int32) : ∃ N : Nat, 1 ≤ N ∧ N ≤ 16 ∧ own_n p = Int32.ofNat N := by
  have h : (p &&& (15 : Int32)).toBitVec.toNat ≤ 15 := by
    rw [Int32.toBitVec_and, BitVec.toNat_and]
    exact Nat.le_trans Nat.and_le_right (by decide)
  have e : (p &&& (15 : Int32)) = Int32.ofNat (p &&& (15 : Int32)).toBitVec.toNat := by
    apply Int32.toBitVec_inj.mp
    apply BitVec.eq_of_toNat_eq
    show _ = (BitVec.ofNat 32 _).toNat
    rw [BitVec.toNat_ofNat, Nat.mod_eq_of_lt (by omega)]
  refine ⟨(p &&& (15 : Int32)).toBitVec.toNat + 1, by omega, by omega, ?_⟩
  unfold own_n
  rw [e, own_next (by omega), ← e]
def own_k (p n : Int32) : Int32 := ((p &&& (2147483647 : Int32)) % n)
theorem own_k_b (p n : Int32) (hn : 0 < n.toInt) : ¬ own_k p n < 0 ∧ own_k p n < n := by
  have h : (p &&& (2147483647 : Int32)).toBitVec.toNat ≤ 2147483647 := by
    rw [Int32.toBitVec_and, BitVec.toNat_and]
    exact Nat.le_trans Nat.and_le_right (by decide)
  have e : (p &&& (2147483647 : Int32)).toInt = ((p &&& (2147483647 : Int32)).toBitVec.toNat : Int) := BitVec.toInt_eq_toNat_of_lt (by omega)
  have z : (0 : Int32).toInt = 0 := by decide
  have b1 : 0 ≤ (own_k p n).toInt := by unfold own_k; rw [Int32.toInt_mod]; exact Int.tmod_nonneg _ (by omega)
  have b2 : (own_k p n).toInt < n.toInt := by unfold own_k; rw [Int32.toInt_mod]; exact Int.tmod_lt_of_pos _ hn
  exact ⟨by rw [Int32.lt_iff_toInt_lt]; omega, by rw [Int32.lt_iff_toInt_lt]; omega⟩
/-- what is needed of a literal count above one -/
theorem own_cnt : ∀ i : Fin 15, (Int32.ofNat (i.val + 2) - (1 : Int32)) = own_kk i.val ∧ ¬ own_kk i.val = 0 ∧ ¬ own_kk i.val < 0 ∧ own_kk i.val < Int32.ofNat (i.val + 2) ∧ (own_kk i.val).toNatClampNeg = i.val + 1 ∧ ¬ Int32.ofNat (i.val + 2) = (1 : Int32) ∧ (0 : Int32) < Int32.ofNat (i.val + 2) ∧ (Int32.ofNat (i.val + 2)).toInt = ((i.val + 2 : Nat) : Int) := by decide +kernel
theorem own_odd : ∀ i : Fin 15, (Int32.ofNat (i.val + 2) &&& (1 : Int32)) = (1 : Int32) → ¬ (Int32.ofNat (i.val + 2) < (3 : Int32)) → ∃ j : Fin 7, i.val = 2 * j.val + 1 ∧ (own_kk i.val / (2 : Int32)) = own_kk j.val := by decide +kernel
theorem own_mid_b : ∀ (j : Fin 7), ¬ own_kk j.val < 0 ∧ own_kk j.val < Int32.ofNat (2 * j.val + 1 + 2) ∧ (own_kk j.val).toNatClampNeg = j.val + 1 := by decide +kernel
theorem own_0m : Fl.Mag64 1056 (0 : UInt64) := by unfold Fl.Mag64; decide
theorem own_1m' : Fl.Mag64 1056 (4607182418800017408 : UInt64) := by unfold Fl.Mag64; decide
theorem own_2_nn (a : Int64) : Fl.NoNaN64 (FP.ddiv (FP.l2d a) (4611686018427387904 : UInt64)) := Fl.ddiv_out (Fl.l2d_fin a).noNaN (by unfold Fl.Fin64; decide) (by unfold Fl.Nz64; decide)
theorem own_0m_nn : Fl.NoNaN64 (0 : UInt64) := (own_0m.fin (by decide)).noNaN
theorem pn_1 : plainName "com/example/tesserae/tesserae/problems/ZdtEvenlySpacedPinLaw" = true := by first | (simp [plainName, overriddenIn]; done) | decide +kernel
theorem ef_0 (m : MethodId) (p0 : Int32) (p1 : Int32) (p2 : Int32) (p3 : Int32) : entryFrame m #[(.int p0), (.int p1), (.int p2), (.int p3)] maxLocals = (mkF m 0 #[.val (.int p0), .val (.int p1), .val (.int p2), .val (.int p3), .unset, .unset, .unset, .unset, .unset, .unset, .unset, .unset, .unset, .unset, .unset, .unset] []) := by first | (simp [entryFrame, mkF, argsToLocals, Value.category, maxLocals]; done) | rfl
theorem pd_0 : parseMethodDescriptor "(DDI)[D" = some ⟨[.double, .double, .int], some (.array .double)⟩ := by decide +kernel
def Q0 (Z : State) (p0 : Int32) (p1 : Int32) (p2 : Int32) (p3 : Int32) (h0 : Heap) (n0 : Nat) (v : Option Value) (h : Heap) (L : List Loc) : Prop := v = some (.int (1 : Int32)) ∧ Fr n0 L
set_option maxRecDepth 65536 in
set_option maxHeartbeats 40000000 in
theorem rm0 (l : Launch) (Z : State) (a0 : Array Value) (hw : ∀ d ∈ tables_1, d.before a0 Z = true) (ws : List Jvm.Cond) (p0 : Int32) (p1 : Int32) (p2 : Int32) (p3 : Int32) (h0 : Heap) (n0 : Nat) (Z0 : n0 ≤ h0.size) :
    MetFree l x (head1 (Jvm.Cond.code x code maxLocals ret :: ws) room_1) (fun a U => a = #[(.int p0), (.int p1), (.int p2), (.int p3)] ∧ Z.Warmed39 U.vm ∧ U.heap = h0) (fun _ _ _ _ _ => True) (fun _ U o U' => ∃ v L, o = .returned v ∧ Q0 Z p0 p1 p2 p3 h0 n0 v U'.heap L ∧ FrameEnd U o U' L room_1.cells room_1.slots) := by
  refine MetFree.of_bodySF (plainFor_of_name pn_1) hisR ?_
  intro p e s m args below meth c s₁ Bd hml0 hP hK
  obtain ⟨rfl, hZ, hh⟩ := hP
  have hx := Bd.exec
  have hby := Bd.bytes
  have hml : c.maxLocals = 16 := hml0
  have hown : s.vm.findClass "com/example/tesserae/tesserae/problems/ZdtEvenlySpacedPinLaw" = some m.cls := findClass_of_methodNamed Bd.named
  have hnm := (name_of_methodNamed Bd.named Bd.method).1
  have X0 : Stand p l e room_1 s m #[(.int p0), (.int p1), (.int p2), (.int p3)] below meth c s₁ [] 0 0 := Stand.of_body Bd
  have e0 : s₁.heap = h0 := by rw [← hh, Bd.state]; rfl
  have N0 := Fr.nil n0
  have pre0 : ∀ t, Steps p.tables e below (s₁.setTop (mkF m 0 #[.val (.int p0), .val (.int p1), .val (.int p2), .val (.int p3), .unset, .unset, .unset, .unset, .unset, .unset, .unset, .unset, .unset, .unset, .unset, .unset] [])) t → Steps p.tables e below (s₁.setTop (entryFrame m #[(.int p0), (.int p1), (.int p2), (.int p3)] maxLocals)) t := fun t k => castTop (ef_0 m p0 p1 p2 p3) k
  have pre1 : ∀ t, Steps p.tables e below (s₁.setTop (mkF m 6 #[.val (.int p0), .val (.int p1), .val (.int p2), .val (.int p3), .unset, .unset, .unset, .unset, .unset, .unset, .unset, .unset, .unset, .unset, .unset, .unset] [(.int (own_n p2))])) t → Steps p.tables e below (s₁.setTop (entryFrame m #[(.int p0), (.int p1), (.int p2), (.int p3)] maxLocals)) t := fun t kt => by
    refine pre0 _ ?_
    show Steps p.tables e below (s₁.setTop (mkF m 0 #[.val (.int p0), .val (.int p1), .val (.int p2), .val (.int p3), .unset, .unset, .unset, .unset, .unset, .unset, .unset, .unset, .unset, .unset, .unset, .unset] [])) _
    refine XS.iloadN X0.here hx rfl (hb hby at_0) rfl ?_
    show Steps p.tables e below (s₁.setTop (mkF m 1 #[.val (.int p0), .val (.int p1), .val (.int p2), .val (.int p3), .unset, .unset, .unset, .unset, .unset, .unset, .unset, .unset, .unset, .unset, .unset, .unset] [(.int p2)])) _
    refine XS.bipush X0.here hx rfl (hb hby at_1) ?_
    show Steps p.tables e below (s₁.setTop (mkF m 3 #[.val (.int p0), .val (.int p1), .val (.int p2), .val (.int p3), .unset, .unset, .unset, .unset, .unset, .unset, .unset, .unset, .unset, .unset, .unset, .unset] [(.int (15 : Int32)), (.int p2)])) _
    refine XS.iand X0.here hx rfl (hb hby at_3) rfl ?_
    show Steps p.tables e below (s₁.setTop (mkF m 4 #[.val (.int p0), .val (.int p1), .val (.int p2), .val (.int p3), .unset, .unset, .unset, .unset, .unset, .unset, .unset, .unset, .unset, .unset, .unset, .unset] [(.int (p2 &&& (15 : Int32)))])) _
    refine XS.iconst X0.here hx rfl (hb hby at_4) ?_
    show Steps p.tables e below (s₁.setTop (mkF m 5 #[.val (.int p0), .val (.int p1), .val (.int p2), .val (.int p3), .unset, .unset, .unset, .unset, .unset, .unset, .unset, .unset, .unset, .unset, .unset, .unset] [(.int (1 : Int32)), (.int (p2 &&& (15 : Int32)))])) _
    refine XS.iadd X0.here hx rfl (hb hby at_5) rfl ?_
    show Steps p.tables e below (s₁.setTop (mkF m 6 #[.val (.int p0), .val (.int p1), .val (.int p2), .val (.int p3), .unset, .unset, .unset, .unset, .unset, .unset, .unset, .unset, .unset, .unset, .unset, .unset] [(.int (own_n p2))])) _
    exact kt
  obtain ⟨M, hM1, hM2, hn⟩ := own_nb p2
  by_cases h1 : M = 1
  · subst h1
    have pre2 : ∀ t, Steps p.tables e below (s₁.setTop (mkF m 22 #[.val (.int p0), .val (.int p1), .val (.int p2), .val (.int p3), .val (.int (1 : Int32)), .val (.double (FP.i2d p0)), .second, .val (.double (FP.i2d p1)), .second, .unset, .unset, .unset, .unset, .unset, .unset, .unset] [(.int (1 : Int32)), (.double (FP.i2d p1)), (.double (FP.i2d p0))])) t → Steps p.tables e below (s₁.setTop (entryFrame m #[(.int p0), (.int p1), (.int p2), (.int p3)] maxLocals)) t := fun t kt => by
      refine pre1 _ ?_
      show Steps p.tables e below (s₁.setTop (mkF m 6 #[.val (.int p0), .val (.int p1), .val (.int p2), .val (.int p3), .unset, .unset, .unset, .unset, .unset, .unset, .unset, .unset, .unset, .unset, .unset, .unset] [(.int (own_n p2))])) _
      rw [show (own_n p2) = (1 : Int32) from hn]
      show Steps p.tables e below (s₁.setTop (mkF m 6 #[.val (.int p0), .val (.int p1), .val (.int p2), .val (.int p3), .unset, .unset, .unset, .unset, .unset, .unset, .unset, .unset, .unset, .unset, .unset, .unset] [(.int (1 : Int32))])) _
      refine XS.istore X0.here hx rfl (hb hby at_6) rfl (l' := #[.val (.int p0), .val (.int p1), .val (.int p2), .val (.int p3), .val (.int (1 : Int32)), .unset, .unset, .unset, .unset, .unset, .unset, .unset, .unset, .unset, .unset, .unset]) rfl ?_
      show Steps p.tables e below (s₁.setTop (mkF m 8 #[.val (.int p0), .val (.int p1), .val (.int p2), .val (.int p3), .val (.int (1 : Int32)), .unset, .unset, .unset, .unset, .unset, .unset, .unset, .unset, .unset, .unset, .unset] [])) _
      refine XS.iloadN X0.here hx rfl (hb hby at_8) rfl ?_
      show Steps p.tables e below (s₁.setTop (mkF m 9 #[.val (.int p0), .val (.int p1), .val (.int p2), .val (.int p3), .val (.int (1 : Int32)), .unset, .unset, .unset, .unset, .unset, .unset, .unset, .unset, .unset, .unset, .unset] [(.int p0)])) _
      refine XS.i2dS X0.here hx rfl (hb hby at_9) rfl rfl ?_
      show Steps p.tables e below (s₁.setTop (mkF m 10 #[.val (.int p0), .val (.int p1), .val (.int p2), .val (.int p3), .val (.int (1 : Int32)), .unset, .unset, .unset, .unset, .unset, .unset, .unset, .unset, .unset, .unset, .unset] [(.double (FP.i2d p0))])) _
      refine XS.dstore X0.here hx rfl (hb hby at_10) rfl (l' := #[.val (.int p0), .val (.int p1), .val (.int p2), .val (.int p3), .val (.int (1 : Int32)), .val (.double (FP.i2d p0)), .second, .unset, .unset, .unset, .unset, .unset, .unset, .unset, .unset, .unset]) rfl ?_
      show Steps p.tables e below (s₁.setTop (mkF m 12 #[.val (.int p0), .val (.int p1), .val (.int p2), .val (.int p3), .val (.int (1 : Int32)), .val (.double (FP.i2d p0)), .second, .unset, .unset, .unset, .unset, .unset, .unset, .unset, .unset, .unset] [])) _
      refine XS.iloadN X0.here hx rfl (hb hby at_12) rfl ?_
      show Steps p.tables e below (s₁.setTop (mkF m 13 #[.val (.int p0), .val (.int p1), .val (.int p2), .val (.int p3), .val (.int (1 : Int32)), .val (.double (FP.i2d p0)), .second, .unset, .unset, .unset, .unset, .unset, .unset, .unset, .unset, .unset] [(.int p1)])) _
      refine XS.i2dS X0.here hx rfl (hb hby at_13) rfl rfl ?_
      show Steps p.tables e below (s₁.setTop (mkF m 14 #[.val (.int p0), .val (.int p1), .val (.int p2), .val (.int p3), .val (.int (1 : Int32)), .val (.double (FP.i2d p0)), .second, .unset, .unset, .unset, .unset, .unset, .unset, .unset, .unset, .unset] [(.double (FP.i2d p1))])) _
      refine XS.dstore X0.here hx rfl (hb hby at_14) rfl (l' := #[.val (.int p0), .val (.int p1), .val (.int p2), .val (.int p3), .val (.int (1 : Int32)), .val (.double (FP.i2d p0)), .second, .val (.double (FP.i2d p1)), .second, .unset, .unset, .unset, .unset, .unset, .unset, .unset]) rfl ?_
      show Steps p.tables e below (s₁.setTop (mkF m 16 #[.val (.int p0), .val (.int p1), .val (.int p2), .val (.int p3), .val (.int (1 : Int32)), .val (.double (FP.i2d p0)), .second, .val (.double (FP.i2d p1)), .second, .unset, .unset, .unset, .unset, .unset, .unset, .unset] [])) _
      refine XS.dload X0.here hx rfl (hb hby at_16) rfl ?_
      show Steps p.tables e below (s₁.setTop (mkF m 18 #[.val (.int p0), .val (.int p1), .val (.int p2), .val (.int p3), .val (.int (1 : Int32)), .val (.double (FP.i2d p0)), .second, .val (.double (FP.i2d p1)), .second, .unset, .unset, .unset, .unset, .unset, .unset, .unset] [(.double (FP.i2d p0))])) _
      refine XS.dload X0.here hx rfl (hb hby at_18) rfl ?_
      show Steps p.tables e below (s₁.setTop (mkF m 20 #[.val (.int p0), .val (.int p1), .val (.int p2), .val (.int p3), .val (.int (1 : Int32)), .val (.double (FP.i2d p0)), .second, .val (.double (FP.i2d p1)), .second, .unset, .unset, .unset, .unset, .unset, .unset, .unset] [(.double (FP.i2d p1)), (.double (FP.i2d p0))])) _
      refine XS.iload X0.here hx rfl (hb hby at_20) rfl ?_
      exact kt
    obtain ⟨_, _, ⟨T3, L3, kc3, nc3⟩, -, X3, ⟨Lc3, hQ3, l3, y3, z3⟩, st3⟩ := Jvm.LawKit.callS X0 hx (y := (⟨"com/example/tesserae/tesserae/problems/Zdt", "evenlySpaced", "(DDI)[D"⟩ : MethodName)) hown (mvT hZ (hw _ (List.mem_of_getElem? (i := 0) rfl))) (mvT hZ (hw _ (List.mem_of_getElem? (i := 1) rfl))) (mvT hZ (hw _ (List.mem_of_getElem? (i := 2) rfl))) (mvT hZ (hw _ (List.mem_of_getElem? (i := 3) rfl))) (by decide) (backOf (W := 0) (rm1a l Z a0 hw [] (FP.i2d p0) (FP.i2d p1) h0 n0 Z0) hZ (hw _ (List.mem_of_getElem? (i := 3) rfl)) (hw _ (List.mem_of_getElem? (i := 2) rfl)) (by decide) (by decide)) (g := (mkF m 22 #[.val (.int p0), .val (.int p1), .val (.int p2), .val (.int p3), .val (.int (1 : Int32)), .val (.double (FP.i2d p0)), .second, .val (.double (FP.i2d p1)), .second, .unset, .unset, .unset, .unset, .unset, .unset, .unset] [(.int (1 : Int32)), (.double (FP.i2d p1)), (.double (FP.i2d p0))])) rfl (by rw [hml]; rfl) (argsL := [(.double (FP.i2d p0)), (.double (FP.i2d p1)), (.int (1 : Int32))]) (rest := []) (lenOf pd_0 rfl) rfl (by show 2 * 0 + _ ≤ _; exact Nat.le_of_eq rfl) (hb hby at_22) (fun _ _ => ⟨rfl, e0, (by decide : 0 + 1 ≤ _), (by decide : 0 + 1 ≤ _)⟩)
    dsimp only [Pt.U, Pt.locs, Pt.cells, Pt.slots] at X3 l3 y3 z3 st3 hQ3
    subst l3 y3 z3
    obtain ⟨rfl, N3q, K3, ⟨kk3, Va3⟩⟩ := hQ3
    have N3 := Fr.app N0 N3q
    obtain ⟨b3, gq3⟩ : ∃ z, z = h0.size := ⟨_, rfl⟩
    rw [← gq3] at Va3 st3
    have gg_b3 : n0 ≤ b3 := Nat.le_trans Z0 (Nat.le_of_eq gq3.symm)
    have pre4 : ∀ t, Steps p.tables e below (T3.setTop (mkF m 25 #[.val (.int p0), .val (.int p1), .val (.int p2), .val (.int p3), .val (.int (1 : Int32)), .val (.double (FP.i2d p0)), .second, .val (.double (FP.i2d p1)), .second, .unset, .unset, .unset, .unset, .unset, .unset, .unset] [(.ref b3)])) t → Steps p.tables e below (s₁.setTop (entryFrame m #[(.int p0), (.int p1), (.int p2), (.int p3)] maxLocals)) t := fun t kt => pre2 _ (st3 _ kt)
    have pre5 : ∀ t, Steps p.tables e below (T3.setTop (mkF m 29 #[.val (.int p0), .val (.int p1), .val (.int p2), .val (.int p3), .val (.int (1 : Int32)), .val (.double (FP.i2d p0)), .second, .val (.double (FP.i2d p1)), .second, .val (.ref b3), .unset, .unset, .unset, .unset, .unset, .unset] [(.ref b3)])) t → Steps p.tables e below (s₁.setTop (entryFrame m #[(.int p0), (.int p1), (.int p2), (.int p3)] maxLocals)) t := fun t kt => by
      refine pre4 _ ?_
      show Steps p.tables e below (T3.setTop (mkF m 25 #[.val (.int p0), .val (.int p1), .val (.int p2), .val (.int p3), .val (.int (1 : Int32)), .val (.double (FP.i2d p0)), .second, .val (.double (FP.i2d p1)), .second, .unset, .unset, .unset, .unset, .unset, .unset, .unset] [(.ref b3)])) _
      refine XS.astore X3.here hx rfl (hb hby at_25) rfl rfl (l' := #[.val (.int p0), .val (.int p1), .val (.int p2), .val (.int p3), .val (.int (1 : Int32)), .val (.double (FP.i2d p0)), .second, .val (.double (FP.i2d p1)), .second, .val (.ref b3), .unset, .unset, .unset, .unset, .unset, .unset]) rfl ?_
      show Steps p.tables e below (T3.setTop (mkF m 27 #[.val (.int p0), .val (.int p1), .val (.int p2), .val (.int p3), .val (.int (1 : Int32)), .val (.double (FP.i2d p0)), .second, .val (.double (FP.i2d p1)), .second, .val (.ref b3), .unset, .unset, .unset, .unset, .unset, .unset] [])) _
      refine XS.aload X3.here hx rfl (hb hby at_27) rfl rfl ?_
      exact kt
    obtain ⟨cl6, Ar6, qk6, Sz6, Nn6, Hh6, Gg6⟩ := id Va3
    have pre7 : ∀ t, Steps p.tables e below (T3.setTop (mkF m 40 #[.val (.int p0), .val (.int p1), .val (.int p2), .val (.int p3), .val (.int (1 : Int32)), .val (.double (FP.i2d p0)), .second, .val (.double (FP.i2d p1)), .second, .val (.ref b3), .unset, .unset, .unset, .unset, .unset, .unset] [(.int (0 : Int32)), (.ref b3)])) t → Steps p.tables e below (s₁.setTop (entryFrame m #[(.int p0), (.int p1), (.int p2), (.int p3)] maxLocals)) t := fun t kt => by
      refine pre5 _ ?_
      show Steps p.tables e below (T3.setTop (mkF m 29 #[.val (.int p0), .val (.int p1), .val (.int p2), .val (.int p3), .val (.int (1 : Int32)), .val (.double (FP.i2d p0)), .second, .val (.double (FP.i2d p1)), .second, .val (.ref b3), .unset, .unset, .unset, .unset, .unset, .unset] [(.ref b3)])) _
      refine X3.arraylength hx Ar6.1 (State.isArrayOf_alike hZ.alike Ar6.2.1) (g := (mkF m 29 #[.val (.int p0), .val (.int p1), .val (.int p2), .val (.int p3), .val (.int (1 : Int32)), .val (.double (FP.i2d p0)), .second, .val (.double (FP.i2d p1)), .second, .val (.ref b3), .unset, .unset, .unset, .unset, .unset, .unset] [(.ref b3)])) rfl rfl (hb hby at_29) _ ?_
      rw [len_of Sz6 Nn6]
      show Steps p.tables e below (T3.setTop (mkF m 30 #[.val (.int p0), .val (.int p1), .val (.int p2), .val (.int p3), .val (.int (1 : Int32)), .val (.double (FP.i2d p0)), .second, .val (.double (FP.i2d p1)), .second, .val (.ref b3), .unset, .unset, .unset, .unset, .unset, .unset] [(.int (1 : Int32))])) _
      refine XS.iload X3.here hx rfl (hb hby at_30) rfl ?_
      show Steps p.tables e below (T3.setTop (mkF m 32 #[.val (.int p0), .val (.int p1), .val (.int p2), .val (.int p3), .val (.int (1 : Int32)), .val (.double (FP.i2d p0)), .second, .val (.double (FP.i2d p1)), .second, .val (.ref b3), .unset, .unset, .unset, .unset, .unset, .unset] [(.int (1 : Int32)), (.int (1 : Int32))])) _
      refine XS.icmpYes X3.here hx rfl (pc0 := 32) (pc' := 37) rfl (hb hby at_32) rfl (teq (by decide : (1 : Int32) = (1 : Int32))).1 (by decide) (by decide) ?_
      show Steps p.tables e below (T3.setTop (mkF m 37 #[.val (.int p0), .val (.int p1), .val (.int p2), .val (.int p3), .val (.int (1 : Int32)), .val (.double (FP.i2d p0)), .second, .val (.double (FP.i2d p1)), .second, .val (.ref b3), .unset, .unset, .unset, .unset, .unset, .unset] [])) _
      refine XS.aload X3.here hx rfl (hb hby at_37) rfl rfl ?_
      show Steps p.tables e below (T3.setTop (mkF m 39 #[.val (.int p0), .val (.int p1), .val (.int p2), .val (.int p3), .val (.int (1 : Int32)), .val (.double (FP.i2d p0)), .second, .val (.double (FP.i2d p1)), .second, .val (.ref b3), .unset, .unset, .unset, .unset, .unset, .unset] [(.ref b3)])) _
      refine XS.iconst X3.here hx rfl (hb hby at_39) ?_
      exact kt
    obtain ⟨cl8, Ar8, qk8, Sz8, Nn8, Hh8, Gg8⟩ := id Va3
    have hin8 : ¬ ((0 : Int32) < 0 ∨ cl8.slots.size ≤ ((0 : Int32)).toNatClampNeg) := inb_of Sz8 ⟨by decide, by decide⟩
    have hat8 : cl8.slots[((0 : Int32)).toNatClampNeg]? = some (.double (FP.i2d p0)) := Hh8.at hin8 rfl
    have pre9 : ∀ t, Steps p.tables e below (T3.setTop (mkF m 70 #[.val (.int p0), .val (.int p1), .val (.int p2), .val (.int p3), .val (.int (1 : Int32)), .val (.double (FP.i2d p0)), .second, .val (.double (FP.i2d p1)), .second, .val (.ref b3), .val (.double (FP.i2d p0)), .second, .unset, .unset, .unset, .unset] [(.int (0 : Int32)), (.ref b3)])) t → Steps p.tables e below (s₁.setTop (entryFrame m #[(.int p0), (.int p1), (.int p2), (.int p3)] maxLocals)) t := fun t kt => by
      refine pre7 _ ?_
      show Steps p.tables e below (T3.setTop (mkF m 40 #[.val (.int p0), .val (.int p1), .val (.int p2), .val (.int p3), .val (.int (1 : Int32)), .val (.double (FP.i2d p0)), .second, .val (.double (FP.i2d p1)), .second, .val (.ref b3), .unset, .unset, .unset, .unset, .unset, .unset] [(.int (0 : Int32)), (.ref b3)])) _
      refine X3.daload hx (j := (0 : Int32)) (v := (.double (FP.i2d p0))) Ar8.1 (State.isArrayOf_alike hZ.alike Ar8.2.1) Ar8.2.2 hin8 hat8 (g := (mkF m 40 #[.val (.int p0), .val (.int p1), .val (.int p2), .val (.int p3), .val (.int (1 : Int32)), .val (.double (FP.i2d p0)), .second, .val (.double (FP.i2d p1)), .second, .val (.ref b3), .unset, .unset, .unset, .unset, .unset, .unset] [(.int (0 : Int32)), (.ref b3)])) rfl rfl (hb hby at_40) _ ?_
      show Steps p.tables e below (T3.setTop (mkF m 41 #[.val (.int p0), .val (.int p1), .val (.int p2), .val (.int p3), .val (.int (1 : Int32)), .val (.double (FP.i2d p0)), .second, .val (.double (FP.i2d p1)), .second, .val (.ref b3), .unset, .unset, .unset, .unset, .unset, .unset] [(.double (FP.i2d p0))])) _
      refine XS.dload X3.here hx rfl (hb hby at_41) rfl ?_
      show Steps p.tables e below (T3.setTop (mkF m 43 #[.val (.int p0), .val (.int p1), .val (.int p2), .val (.int p3), .val (.int (1 : Int32)), .val (.double (FP.i2d p0)), .second, .val (.double (FP.i2d p1)), .second, .val (.ref b3), .unset, .unset, .unset, .unset, .unset, .unset] [(.double (FP.i2d p0)), (.double (FP.i2d p0))])) _
      refine XS.dcmpS X3.here hx rfl (hb hby at_43) rfl (v := (0 : Int32)) (dcmpV_self (Fl.i2d_fin p0).noNaN _) ?_
      show Steps p.tables e below (T3.setTop (mkF m 44 #[.val (.int p0), .val (.int p1), .val (.int p2), .val (.int p3), .val (.int (1 : Int32)), .val (.double (FP.i2d p0)), .second, .val (.double (FP.i2d p1)), .second, .val (.ref b3), .unset, .unset, .unset, .unset, .unset, .unset] [(.int (0 : Int32))])) _
      refine XS.ifYes X3.here hx rfl (pc0 := 44) (pc' := 49) rfl (hb hby at_44) rfl ((if0 _ _).trans (teq (by decide : (0 : Int32) = (0 : Int32))).1) (by decide) (by decide) ?_
      show Steps p.tables e below (T3.setTop (mkF m 49 #[.val (.int p0), .val (.int p1), .val (.int p2), .val (.int p3), .val (.int (1 : Int32)), .val (.double (FP.i2d p0)), .second, .val (.double (FP.i2d p1)), .second, .val (.ref b3), .unset, .unset, .unset, .unset, .unset, .unset] [])) _
      refine XS.iload X3.here hx rfl (hb hby at_49) rfl ?_
      show Steps p.tables e below (T3.setTop (mkF m 51 #[.val (.int p0), .val (.int p1), .val (.int p2), .val (.int p3), .val (.int (1 : Int32)), .val (.double (FP.i2d p0)), .second, .val (.double (FP.i2d p1)), .second, .val (.ref b3), .unset, .unset, .unset, .unset, .unset, .unset] [(.int (1 : Int32))])) _
      refine XS.iconst X3.here hx rfl (hb hby at_51) ?_
      show Steps p.tables e below (T3.setTop (mkF m 52 #[.val (.int p0), .val (.int p1), .val (.int p2), .val (.int p3), .val (.int (1 : Int32)), .val (.double (FP.i2d p0)), .second, .val (.double (FP.i2d p1)), .second, .val (.ref b3), .unset, .unset, .unset, .unset, .unset, .unset] [(.int (1 : Int32)), (.int (1 : Int32))])) _
      refine XS.icmpNo X3.here hx rfl (hb hby at_52) rfl (teq (by decide : (1 : Int32) = (1 : Int32))).2 ?_
      show Steps p.tables e below (T3.setTop (mkF m 55 #[.val (.int p0), .val (.int p1), .val (.int p2), .val (.int p3), .val (.int (1 : Int32)), .val (.double (FP.i2d p0)), .second, .val (.double (FP.i2d p1)), .second, .val (.ref b3), .unset, .unset, .unset, .unset, .unset, .unset] [])) _
      refine XS.dload X3.here hx rfl (hb hby at_55) rfl ?_
      show Steps p.tables e below (T3.setTop (mkF m 57 #[.val (.int p0), .val (.int p1), .val (.int p2), .val (.int p3), .val (.int (1 : Int32)), .val (.double (FP.i2d p0)), .second, .val (.double (FP.i2d p1)), .second, .val (.ref b3), .unset, .unset, .unset, .unset, .unset, .unset] [(.double (FP.i2d p0))])) _
      refine XS.goto X3.here hx rfl (pc0 := 57) (pc' := 62) rfl (hb hby at_57) (by decide) (by decide) ?_
      show Steps p.tables e below (T3.setTop (mkF m 62 #[.val (.int p0), .val (.int p1), .val (.int p2), .val (.int p3), .val (.int (1 : Int32)), .val (.double (FP.i2d p0)), .second, .val (.double (FP.i2d p1)), .second, .val (.ref b3), .unset, .unset, .unset, .unset, .unset, .unset] [(.double (FP.i2d p0))])) _
      refine XS.dstore X3.here hx rfl (hb hby at_62) rfl (l' := #[.val (.int p0), .val (.int p1), .val (.int p2), .val (.int p3), .val (.int (1 : Int32)), .val (.double (FP.i2d p0)), .second, .val (.double (FP.i2d p1)), .second, .val (.ref b3), .val (.double (FP.i2d p0)), .second, .unset, .unset, .unset, .unset]) rfl ?_
      show Steps p.tables e below (T3.setTop (mkF m 64 #[.val (.int p0), .val (.int p1), .val (.int p2), .val (.int p3), .val (.int (1 : Int32)), .val (.double (FP.i2d p0)), .second, .val (.double (FP.i2d p1)), .second, .val (.ref b3), .val (.double (FP.i2d p0)), .second, .unset, .unset, .unset, .unset] [])) _
      refine XS.aload X3.here hx rfl (hb hby at_64) rfl rfl ?_
      show Steps p.tables e below (T3.setTop (mkF m 66 #[.val (.int p0), .val (.int p1), .val (.int p2), .val (.int p3), .val (.int (1 : Int32)), .val (.double (FP.i2d p0)), .second, .val (.double (FP.i2d p1)), .second, .val (.ref b3), .val (.double (FP.i2d p0)), .second, .unset, .unset, .unset, .unset] [(.ref b3)])) _
      refine XS.iload X3.here hx rfl (hb hby at_66) rfl ?_
      show Steps p.tables e below (T3.setTop (mkF m 68 #[.val (.int p0), .val (.int p1), .val (.int p2), .val (.int p3), .val (.int (1 : Int32)), .val (.double (FP.i2d p0)), .second, .val (.double (FP.i2d p1)), .second, .val (.ref b3), .val (.double (FP.i2d p0)), .second, .unset, .unset, .unset, .unset] [(.int (1 : Int32)), (.ref b3)])) _
      refine XS.iconst X3.here hx rfl (hb hby at_68) ?_
      show Steps p.tables e below (T3.setTop (mkF m 69 #[.val (.int p0), .val (.int p1), .val (.int p2), .val (.int p3), .val (.int (1 : Int32)), .val (.double (FP.i2d p0)), .second, .val (.double (FP.i2d p1)), .second, .val (.ref b3), .val (.double (FP.i2d p0)), .second, .unset, .unset, .unset, .unset] [(.int (1 : Int32)), (.int (1 : Int32)), (.ref b3)])) _
      refine XS.isub X3.here hx rfl (hb hby at_69) rfl ?_
      show Steps p.tables e below (T3.setTop (mkF m 70 #[.val (.int p0), .val (.int p1), .val (.int p2), .val (.int p3), .val (.int (1 : Int32)), .val (.double (FP.i2d p0)), .second, .val (.double (FP.i2d p1)), .second, .val (.ref b3), .val (.double (FP.i2d p0)), .second, .unset, .unset, .unset, .unset] [(.int ((1 : Int32) - (1 : Int32))), (.ref b3)])) _
      exact kt
    obtain ⟨cl10, Ar10, qk10, Sz10, Nn10, Hh10, Gg10⟩ := id Va3
    have hin10 : ¬ ((0 : Int32) < 0 ∨ cl10.slots.size ≤ ((0 : Int32)).toNatClampNeg) := inb_of Sz10 ⟨by decide, by decide⟩
    have hat10 : cl10.slots[((0 : Int32)).toNatClampNeg]? = some (.double (FP.i2d p0)) := Hh10.at hin10 rfl
    have z11 : n0 ≤ T3.heap.size := (Nat.le_trans Z0 K3.1)
    have pre12 : ∀ t, Steps p.tables e below (T3.setTop (mkF m 126 #[.val (.int p0), .val (.int p1), .val (.int p2), .val (.int p3), .val (.int (1 : Int32)), .val (.double (FP.i2d p0)), .second, .val (.double (FP.i2d p1)), .second, .val (.ref b3), .val (.double (FP.i2d p0)), .second, .unset, .unset, .unset, .unset] [(.int (1 : Int32)), (.double (4607182418800017408 : UInt64)), (.double (0 : UInt64))])) t → Steps p.tables e below (s₁.setTop (entryFrame m #[(.int p0), (.int p1), (.int p2), (.int p3)] maxLocals)) t := fun t kt => by
      refine pre9 _ ?_
      show Steps p.tables e below (T3.setTop (mkF m 70 #[.val (.int p0), .val (.int p1), .val (.int p2), .val (.int p3), .val (.int (1 : Int32)), .val (.double (FP.i2d p0)), .second, .val (.double (FP.i2d p1)), .second, .val (.ref b3), .val (.double (FP.i2d p0)), .second, .unset, .unset, .unset, .unset] [(.int (0 : Int32)), (.ref b3)])) _
      refine X3.daload hx (j := (0 : Int32)) (v := (.double (FP.i2d p0))) Ar10.1 (State.isArrayOf_alike hZ.alike Ar10.2.1) Ar10.2.2 hin10 hat10 (g := (mkF m 70 #[.val (.int p0), .val (.int p1), .val (.int p2), .val (.int p3), .val (.int (1 : Int32)), .val (.double (FP.i2d p0)), .second, .val (.double (FP.i2d p1)), .second, .val (.ref b3), .val (.double (FP.i2d p0)), .second, .unset, .unset, .unset, .unset] [(.int (0 : Int32)), (.ref b3)])) rfl rfl (hb hby at_70) _ ?_
      show Steps p.tables e below (T3.setTop (mkF m 71 #[.val (.int p0), .val (.int p1), .val (.int p2), .val (.int p3), .val (.int (1 : Int32)), .val (.double (FP.i2d p0)), .second, .val (.double (FP.i2d p1)), .second, .val (.ref b3), .val (.double (FP.i2d p0)), .second, .unset, .unset, .unset, .unset] [(.double (FP.i2d p0))])) _
      refine XS.dload X3.here hx rfl (hb hby at_71) rfl ?_
      show Steps p.tables e below (T3.setTop (mkF m 73 #[.val (.int p0), .val (.int p1), .val (.int p2), .val (.int p3), .val (.int (1 : Int32)), .val (.double (FP.i2d p0)), .second, .val (.double (FP.i2d p1)), .second, .val (.ref b3), .val (.double (FP.i2d p0)), .second, .unset, .unset, .unset, .unset] [(.double (FP.i2d p0)), (.double (FP.i2d p0))])) _
      refine XS.dcmpS X3.here hx rfl (hb hby at_73) rfl (v := (0 : Int32)) (dcmpV_self (Fl.i2d_fin p0).noNaN _) ?_
      show Steps p.tables e below (T3.setTop (mkF m 74 #[.val (.int p0), .val (.int p1), .val (.int p2), .val (.int p3), .val (.int (1 : Int32)), .val (.double (FP.i2d p0)), .second, .val (.double (FP.i2d p1)), .second, .val (.ref b3), .val (.double (FP.i2d p0)), .second, .unset, .unset, .unset, .unset] [(.int (0 : Int32))])) _
      refine XS.ifYes X3.here hx rfl (pc0 := 74) (pc' := 79) rfl (hb hby at_74) rfl ((if0 _ _).trans (teq (by decide : (0 : Int32) = (0 : Int32))).1) (by decide) (by decide) ?_
      show Steps p.tables e below (T3.setTop (mkF m 79 #[.val (.int p0), .val (.int p1), .val (.int p2), .val (.int p3), .val (.int (1 : Int32)), .val (.double (FP.i2d p0)), .second, .val (.double (FP.i2d p1)), .second, .val (.ref b3), .val (.double (FP.i2d p0)), .second, .unset, .unset, .unset, .unset] [])) _
      refine XS.iload X3.here hx rfl (hb hby at_79) rfl ?_
      show Steps p.tables e below (T3.setTop (mkF m 81 #[.val (.int p0), .val (.int p1), .val (.int p2), .val (.int p3), .val (.int (1 : Int32)), .val (.double (FP.i2d p0)), .second, .val (.double (FP.i2d p1)), .second, .val (.ref b3), .val (.double (FP.i2d p0)), .second, .unset, .unset, .unset, .unset] [(.int (1 : Int32))])) _
      refine XS.iconst X3.here hx rfl (hb hby at_81) ?_
      show Steps p.tables e below (T3.setTop (mkF m 82 #[.val (.int p0), .val (.int p1), .val (.int p2), .val (.int p3), .val (.int (1 : Int32)), .val (.double (FP.i2d p0)), .second, .val (.double (FP.i2d p1)), .second, .val (.ref b3), .val (.double (FP.i2d p0)), .second, .unset, .unset, .unset, .unset] [(.int (1 : Int32)), (.int (1 : Int32))])) _
      refine XS.iand X3.here hx rfl (hb hby at_82) rfl ?_
      show Steps p.tables e below (T3.setTop (mkF m 83 #[.val (.int p0), .val (.int p1), .val (.int p2), .val (.int p3), .val (.int (1 : Int32)), .val (.double (FP.i2d p0)), .second, .val (.double (FP.i2d p1)), .second, .val (.ref b3), .val (.double (FP.i2d p0)), .second, .unset, .unset, .unset, .unset] [(.int ((1 : Int32) &&& (1 : Int32)))])) _
      show Steps p.tables e below (T3.setTop (mkF m 83 #[.val (.int p0), .val (.int p1), .val (.int p2), .val (.int p3), .val (.int (1 : Int32)), .val (.double (FP.i2d p0)), .second, .val (.double (FP.i2d p1)), .second, .val (.ref b3), .val (.double (FP.i2d p0)), .second, .unset, .unset, .unset, .unset] [(.int (1 : Int32))])) _
      refine XS.iconst X3.here hx rfl (hb hby at_83) ?_
      show Steps p.tables e below (T3.setTop (mkF m 84 #[.val (.int p0), .val (.int p1), .val (.int p2), .val (.int p3), .val (.int (1 : Int32)), .val (.double (FP.i2d p0)), .second, .val (.double (FP.i2d p1)), .second, .val (.ref b3), .val (.double (FP.i2d p0)), .second, .unset, .unset, .unset, .unset] [(.int (1 : Int32)), (.int (1 : Int32))])) _
      refine XS.icmpNo X3.here hx rfl (hb hby at_84) rfl (teq (by decide : (1 : Int32) = (1 : Int32))).2 ?_
      show Steps p.tables e below (T3.setTop (mkF m 87 #[.val (.int p0), .val (.int p1), .val (.int p2), .val (.int p3), .val (.int (1 : Int32)), .val (.double (FP.i2d p0)), .second, .val (.double (FP.i2d p1)), .second, .val (.ref b3), .val (.double (FP.i2d p0)), .second, .unset, .unset, .unset, .unset] [])) _
      refine XS.iload X3.here hx rfl (hb hby at_87) rfl ?_
      show Steps p.tables e below (T3.setTop (mkF m 89 #[.val (.int p0), .val (.int p1), .val (.int p2), .val (.int p3), .val (.int (1 : Int32)), .val (.double (FP.i2d p0)), .second, .val (.double (FP.i2d p1)), .second, .val (.ref b3), .val (.double (FP.i2d p0)), .second, .unset, .unset, .unset, .unset] [(.int (1 : Int32))])) _
      refine XS.iconst X3.here hx rfl (hb hby at_89) ?_
      show Steps p.tables e below (T3.setTop (mkF m 90 #[.val (.int p0), .val (.int p1), .val (.int p2), .val (.int p3), .val (.int (1 : Int32)), .val (.double (FP.i2d p0)), .second, .val (.double (FP.i2d p1)), .second, .val (.ref b3), .val (.double (FP.i2d p0)), .second, .unset, .unset, .unset, .unset] [(.int (3 : Int32)), (.int (1 : Int32))])) _
      refine XS.icmpYes X3.here hx rfl (pc0 := 90) (pc' := 122) rfl (hb hby at_90) rfl (tlt (by decide : (1 : Int32) < (3 : Int32))).1 (by decide) (by decide) ?_
      show Steps p.tables e below (T3.setTop (mkF m 122 #[.val (.int p0), .val (.int p1), .val (.int p2), .val (.int p3), .val (.int (1 : Int32)), .val (.double (FP.i2d p0)), .second, .val (.double (FP.i2d p1)), .second, .val (.ref b3), .val (.double (FP.i2d p0)), .second, .unset, .unset, .unset, .unset] [])) _
      refine XS.dconst0 X3.here hx rfl (hb hby at_122) rfl ?_
      show Steps p.tables e below (T3.setTop (mkF m 123 #[.val (.int p0), .val (.int p1), .val (.int p2), .val (.int p3), .val (.int (1 : Int32)), .val (.double (FP.i2d p0)), .second, .val (.double (FP.i2d p1)), .second, .val (.ref b3), .val (.double (FP.i2d p0)), .second, .unset, .unset, .unset, .unset] [(.double (0 : UInt64))])) _
      refine XS.dconst1 X3.here hx rfl (hb hby at_123) rfl ?_
      show Steps p.tables e below (T3.setTop (mkF m 124 #[.val (.int p0), .val (.int p1), .val (.int p2), .val (.int p3), .val (.int (1 : Int32)), .val (.double (FP.i2d p0)), .second, .val (.double (FP.i2d p1)), .second, .val (.ref b3), .val (.double (FP.i2d p0)), .second, .unset, .unset, .unset, .unset] [(.double (4607182418800017408 : UInt64)), (.double (0 : UInt64))])) _
      refine XS.iload X3.here hx rfl (hb hby at_124) rfl ?_
      exact kt
    obtain ⟨_, _, ⟨T13, L13, kc13, nc13⟩, -, X13, ⟨Lc13, hQ13, l13, y13, z13⟩, st13⟩ := Jvm.LawKit.callS X3 hx (y := (⟨"com/example/tesserae/tesserae/problems/Zdt", "evenlySpaced", "(DDI)[D"⟩ : MethodName)) hown (mvT hZ (hw _ (List.mem_of_getElem? (i := 0) rfl))) (mvT hZ (hw _ (List.mem_of_getElem? (i := 1) rfl))) (mvT hZ (hw _ (List.mem_of_getElem? (i := 2) rfl))) (mvT hZ (hw _ (List.mem_of_getElem? (i := 3) rfl))) (by decide) (backOf (W := 0) (rm1a l Z a0 hw [] (0 : UInt64) (4607182418800017408 : UInt64) T3.heap n0 z11) hZ (hw _ (List.mem_of_getElem? (i := 3) rfl)) (hw _ (List.mem_of_getElem? (i := 2) rfl)) (by decide) (by decide)) (g := (mkF m 126 #[.val (.int p0), .val (.int p1), .val (.int p2), .val (.int p3), .val (.int (1 : Int32)), .val (.double (FP.i2d p0)), .second, .val (.double (FP.i2d p1)), .second, .val (.ref b3), .val (.double (FP.i2d p0)), .second, .unset, .unset, .unset, .unset] [(.int (1 : Int32)), (.double (4607182418800017408 : UInt64)), (.double (0 : UInt64))])) rfl (by rw [hml]; rfl) (argsL := [(.double (0 : UInt64)), (.double (4607182418800017408 : UInt64)), (.int (1 : Int32))]) (rest := []) (lenOf pd_0 rfl) rfl (by show 2 * 0 + _ ≤ _; exact Nat.le_of_eq rfl) (hb hby at_126) (fun _ _ => ⟨rfl, rfl, (by decide : 1 + 1 ≤ _), (by decide : 1 + 1 ≤ _)⟩)
    dsimp only [Pt.U, Pt.locs, Pt.cells, Pt.slots] at X13 l13 y13 z13 st13 hQ13
    subst l13 y13 z13
    obtain ⟨rfl, N13q, K13, ⟨kk13, Va13⟩⟩ := hQ13
    have N13 := Fr.app N3 N13q
    obtain ⟨b13, gq13⟩ : ∃ z, z = T3.heap.size := ⟨_, rfl⟩
    rw [← gq13] at Va13 st13
    have gg_b13 : n0 ≤ b13 := Nat.le_trans z11 (Nat.le_of_eq gq13.symm)
    have pre14 : ∀ t, Steps p.tables e below (T13.setTop (mkF m 129 #[.val (.int p0), .val (.int p1), .val (.int p2), .val (.int p3), .val (.int (1 : Int32)), .val (.double (FP.i2d p0)), .second, .val (.double (FP.i2d p1)), .second, .val (.ref b3), .val (.double (FP.i2d p0)), .second, .unset, .unset, .unset, .unset] [(.ref b13)])) t → Steps p.tables e below (s₁.setTop (entryFrame m #[(.int p0), (.int p1), (.int p2), (.int p3)] maxLocals)) t := fun t kt => pre12 _ (st13 _ kt)
    have pre15 : ∀ t, Steps p.tables e below (T13.setTop (mkF m 133 #[.val (.int p0), .val (.int p1), .val (.int p2), .val (.int p3), .val (.int (1 : Int32)), .val (.double (FP.i2d p0)), .second, .val (.double (FP.i2d p1)), .second, .val (.ref b3), .val (.double (FP.i2d p0)), .second, .val (.ref b13), .unset, .unset, .unset] [(.ref b13)])) t → Steps p.tables e below (s₁.setTop (entryFrame m #[(.int p0), (.int p1), (.int p2), (.int p3)] maxLocals)) t := fun t kt => by
      refine pre14 _ ?_
      show Steps p.tables e below (T13.setTop (mkF m 129 #[.val (.int p0), .val (.int p1), .val (.int p2), .val (.int p3), .val (.int (1 : Int32)), .val (.double (FP.i2d p0)), .second, .val (.double (FP.i2d p1)), .second, .val (.ref b3), .val (.double (FP.i2d p0)), .second, .unset, .unset, .unset, .unset] [(.ref b13)])) _
      refine XS.astore X13.here hx rfl (hb hby at_129) rfl rfl (l' := #[.val (.int p0), .val (.int p1), .val (.int p2), .val (.int p3), .val (.int (1 : Int32)), .val (.double (FP.i2d p0)), .second, .val (.double (FP.i2d p1)), .second, .val (.ref b3), .val (.double (FP.i2d p0)), .second, .val (.ref b13), .unset, .unset, .unset]) rfl ?_
      show Steps p.tables e below (T13.setTop (mkF m 131 #[.val (.int p0), .val (.int p1), .val (.int p2), .val (.int p3), .val (.int (1 : Int32)), .val (.double (FP.i2d p0)), .second, .val (.double (FP.i2d p1)), .second, .val (.ref b3), .val (.double (FP.i2d p0)), .second, .val (.ref b13), .unset, .unset, .unset] [])) _
      refine XS.aload X13.here hx rfl (hb hby at_131) rfl rfl ?_
      exact kt
    obtain ⟨cl16, Ar16, qk16, Sz16, Nn16, Hh16, Gg16⟩ := id Va13
    have pre17 : ∀ t, Steps p.tables e below (T13.setTop (mkF m 175 #[.val (.int p0), .val (.int p1), .val (.int p2), .val (.int p3), .val (.int (1 : Int32)), .val (.double (FP.i2d p0)), .second, .val (.double (FP.i2d p1)), .second, .val (.ref b3), .val (.double (FP.i2d p0)), .second, .val (.ref b13), .val (.int (0 : Int32)), .val (.double (0 : UInt64)), .second] [(.int (0 : Int32)), (.ref b13)])) t → Steps p.tables e below (s₁.setTop (entryFrame m #[(.int p0), (.int p1), (.int p2), (.int p3)] maxLocals)) t := fun t kt => by
      refine pre15 _ ?_
      show Steps p.tables e below (T13.setTop (mkF m 133 #[.val (.int p0), .val (.int p1), .val (.int p2), .val (.int p3), .val (.int (1 : Int32)), .val (.double (FP.i2d p0)), .second, .val (.double (FP.i2d p1)), .second, .val (.ref b3), .val (.double (FP.i2d p0)), .second, .val (.ref b13), .unset, .unset, .unset] [(.ref b13)])) _
      refine X13.arraylength hx Ar16.1 (State.isArrayOf_alike hZ.alike Ar16.2.1) (g := (mkF m 133 #[.val (.int p0), .val (.int p1), .val (.int p2), .val (.int p3), .val (.int (1 : Int32)), .val (.double (FP.i2d p0)), .second, .val (.double (FP.i2d p1)), .second, .val (.ref b3), .val (.double (FP.i2d p0)), .second, .val (.ref b13), .unset, .unset, .unset] [(.ref b13)])) rfl rfl (hb hby at_133) _ ?_
      rw [len_of Sz16 Nn16]
      show Steps p.tables e below (T13.setTop (mkF m 134 #[.val (.int p0), .val (.int p1), .val (.int p2), .val (.int p3), .val (.int (1 : Int32)), .val (.double (FP.i2d p0)), .second, .val (.double (FP.i2d p1)), .second, .val (.ref b3), .val (.double (FP.i2d p0)), .second, .val (.ref b13), .unset, .unset, .unset] [(.int (1 : Int32))])) _
      refine XS.iload X13.here hx rfl (hb hby at_134) rfl ?_
      show Steps p.tables e below (T13.setTop (mkF m 136 #[.val (.int p0), .val (.int p1), .val (.int p2), .val (.int p3), .val (.int (1 : Int32)), .val (.double (FP.i2d p0)), .second, .val (.double (FP.i2d p1)), .second, .val (.ref b3), .val (.double (FP.i2d p0)), .second, .val (.ref b13), .unset, .unset, .unset] [(.int (1 : Int32)), (.int (1 : Int32))])) _
      refine XS.icmpYes X13.here hx rfl (pc0 := 136) (pc' := 141) rfl (hb hby at_136) rfl (teq (by decide : (1 : Int32) = (1 : Int32))).1 (by decide) (by decide) ?_
      show Steps p.tables e below (T13.setTop (mkF m 141 #[.val (.int p0), .val (.int p1), .val (.int p2), .val (.int p3), .val (.int (1 : Int32)), .val (.double (FP.i2d p0)), .second, .val (.double (FP.i2d p1)), .second, .val (.ref b3), .val (.double (FP.i2d p0)), .second, .val (.ref b13), .unset, .unset, .unset] [])) _
      refine XS.iloadN X13.here hx rfl (hb hby at_141) rfl ?_
      show Steps p.tables e below (T13.setTop (mkF m 142 #[.val (.int p0), .val (.int p1), .val (.int p2), .val (.int p3), .val (.int (1 : Int32)), .val (.double (FP.i2d p0)), .second, .val (.double (FP.i2d p1)), .second, .val (.ref b3), .val (.double (FP.i2d p0)), .second, .val (.ref b13), .unset, .unset, .unset] [(.int p3)])) _
      refine X13.ldcInt hx hown (mvT hZ (hw _ (List.mem_of_getElem? (i := 6) rfl))) (g := (mkF m 142 #[.val (.int p0), .val (.int p1), .val (.int p2), .val (.int p3), .val (.int (1 : Int32)), .val (.double (FP.i2d p0)), .second, .val (.double (FP.i2d p1)), .second, .val (.ref b3), .val (.double (FP.i2d p0)), .second, .val (.ref b13), .unset, .unset, .unset] [(.int p3)])) rfl (hb hby at_142) _ ?_
      show Steps p.tables e below (T13.setTop (mkF m 144 #[.val (.int p0), .val (.int p1), .val (.int p2), .val (.int p3), .val (.int (1 : Int32)), .val (.double (FP.i2d p0)), .second, .val (.double (FP.i2d p1)), .second, .val (.ref b3), .val (.double (FP.i2d p0)), .second, .val (.ref b13), .unset, .unset, .unset] [(.int (2147483647 : Int32)), (.int p3)])) _
      refine XS.iand X13.here hx rfl (hb hby at_144) rfl ?_
      show Steps p.tables e below (T13.setTop (mkF m 145 #[.val (.int p0), .val (.int p1), .val (.int p2), .val (.int p3), .val (.int (1 : Int32)), .val (.double (FP.i2d p0)), .second, .val (.double (FP.i2d p1)), .second, .val (.ref b3), .val (.double (FP.i2d p0)), .second, .val (.ref b13), .unset, .unset, .unset] [(.int (p3 &&& (2147483647 : Int32)))])) _
      refine XS.iload X13.here hx rfl (hb hby at_145) rfl ?_
      show Steps p.tables e below (T13.setTop (mkF m 147 #[.val (.int p0), .val (.int p1), .val (.int p2), .val (.int p3), .val (.int (1 : Int32)), .val (.double (FP.i2d p0)), .second, .val (.double (FP.i2d p1)), .second, .val (.ref b3), .val (.double (FP.i2d p0)), .second, .val (.ref b13), .unset, .unset, .unset] [(.int (1 : Int32)), (.int (p3 &&& (2147483647 : Int32)))])) _
      refine Jvm.RoadKit.iremM X13 hx rfl (hb hby at_147) rfl (by decide) ?_
      show Steps p.tables e below (T13.setTop (mkF m 148 #[.val (.int p0), .val (.int p1), .val (.int p2), .val (.int p3), .val (.int (1 : Int32)), .val (.double (FP.i2d p0)), .second, .val (.double (FP.i2d p1)), .second, .val (.ref b3), .val (.double (FP.i2d p0)), .second, .val (.ref b13), .unset, .unset, .unset] [(.int (own_k p3 (1 : Int32)))])) _
      show Steps p.tables e below (T13.setTop (mkF m 148 #[.val (.int p0), .val (.int p1), .val (.int p2), .val (.int p3), .val (.int (1 : Int32)), .val (.double (FP.i2d p0)), .second, .val (.double (FP.i2d p1)), .second, .val (.ref b3), .val (.double (FP.i2d p0)), .second, .val (.ref b13), .unset, .unset, .unset] [(.int (own_k p3 (1 : Int32)))])) _
      rw [show (own_k p3 (1 : Int32)) = (0 : Int32) from by have h := own_k_b p3 1 (by decide); have z0 : (0 : Int32).toInt = 0 := (by decide); have z1 : (1 : Int32).toInt = 1 := (by decide); rw [Int32.lt_iff_toInt_lt, Int32.lt_iff_toInt_lt] at h; exact Int32.toInt_inj.mp (by omega)]
      show Steps p.tables e below (T13.setTop (mkF m 148 #[.val (.int p0), .val (.int p1), .val (.int p2), .val (.int p3), .val (.int (1 : Int32)), .val (.double (FP.i2d p0)), .second, .val (.double (FP.i2d p1)), .second, .val (.ref b3), .val (.double (FP.i2d p0)), .second, .val (.ref b13), .unset, .unset, .unset] [(.int (0 : Int32))])) _
      refine XS.istore X13.here hx rfl (hb hby at_148) rfl (l' := #[.val (.int p0), .val (.int p1), .val (.int p2), .val (.int p3), .val (.int (1 : Int32)), .val (.double (FP.i2d p0)), .second, .val (.double (FP.i2d p1)), .second, .val (.ref b3), .val (.double (FP.i2d p0)), .second, .val (.ref b13), .val (.int (0 : Int32)), .unset, .unset]) rfl ?_
      show Steps p.tables e below (T13.setTop (mkF m 150 #[.val (.int p0), .val (.int p1), .val (.int p2), .val (.int p3), .val (.int (1 : Int32)), .val (.double (FP.i2d p0)), .second, .val (.double (FP.i2d p1)), .second, .val (.ref b3), .val (.double (FP.i2d p0)), .second, .val (.ref b13), .val (.int (0 : Int32)), .unset, .unset] [])) _
      refine XS.iload X13.here hx rfl (hb hby at_150) rfl ?_
      show Steps p.tables e below (T13.setTop (mkF m 152 #[.val (.int p0), .val (.int p1), .val (.int p2), .val (.int p3), .val (.int (1 : Int32)), .val (.double (FP.i2d p0)), .second, .val (.double (FP.i2d p1)), .second, .val (.ref b3), .val (.double (FP.i2d p0)), .second, .val (.ref b13), .val (.int (0 : Int32)), .unset, .unset] [(.int (1 : Int32))])) _
      refine XS.iconst X13.here hx rfl (hb hby at_152) ?_
      show Steps p.tables e below (T13.setTop (mkF m 153 #[.val (.int p0), .val (.int p1), .val (.int p2), .val (.int p3), .val (.int (1 : Int32)), .val (.double (FP.i2d p0)), .second, .val (.double (FP.i2d p1)), .second, .val (.ref b3), .val (.double (FP.i2d p0)), .second, .val (.ref b13), .val (.int (0 : Int32)), .unset, .unset] [(.int (1 : Int32)), (.int (1 : Int32))])) _
      refine XS.icmpNo X13.here hx rfl (hb hby at_153) rfl (teq (by decide : (1 : Int32) = (1 : Int32))).2 ?_
      show Steps p.tables e below (T13.setTop (mkF m 156 #[.val (.int p0), .val (.int p1), .val (.int p2), .val (.int p3), .val (.int (1 : Int32)), .val (.double (FP.i2d p0)), .second, .val (.double (FP.i2d p1)), .second, .val (.ref b3), .val (.double (FP.i2d p0)), .second, .val (.ref b13), .val (.int (0 : Int32)), .unset, .unset] [])) _
      refine XS.dconst0 X13.here hx rfl (hb hby at_156) rfl ?_
      show Steps p.tables e below (T13.setTop (mkF m 157 #[.val (.int p0), .val (.int p1), .val (.int p2), .val (.int p3), .val (.int (1 : Int32)), .val (.double (FP.i2d p0)), .second, .val (.double (FP.i2d p1)), .second, .val (.ref b3), .val (.double (FP.i2d p0)), .second, .val (.ref b13), .val (.int (0 : Int32)), .unset, .unset] [(.double (0 : UInt64))])) _
      refine XS.goto X13.here hx rfl (pc0 := 157) (pc' := 169) rfl (hb hby at_157) (by decide) (by decide) ?_
      show Steps p.tables e below (T13.setTop (mkF m 169 #[.val (.int p0), .val (.int p1), .val (.int p2), .val (.int p3), .val (.int (1 : Int32)), .val (.double (FP.i2d p0)), .second, .val (.double (FP.i2d p1)), .second, .val (.ref b3), .val (.double (FP.i2d p0)), .second, .val (.ref b13), .val (.int (0 : Int32)), .unset, .unset] [(.double (0 : UInt64))])) _
      refine XS.dstore X13.here hx rfl (hb hby at_169) rfl (l' := #[.val (.int p0), .val (.int p1), .val (.int p2), .val (.int p3), .val (.int (1 : Int32)), .val (.double (FP.i2d p0)), .second, .val (.double (FP.i2d p1)), .second, .val (.ref b3), .val (.double (FP.i2d p0)), .second, .val (.ref b13), .val (.int (0 : Int32)), .val (.double (0 : UInt64)), .second]) rfl ?_
      show Steps p.tables e below (T13.setTop (mkF m 171 #[.val (.int p0), .val (.int p1), .val (.int p2), .val (.int p3), .val (.int (1 : Int32)), .val (.double (FP.i2d p0)), .second, .val (.double (FP.i2d p1)), .second, .val (.ref b3), .val (.double (FP.i2d p0)), .second, .val (.ref b13), .val (.int (0 : Int32)), .val (.double (0 : UInt64)), .second] [])) _
      refine XS.aload X13.here hx rfl (hb hby at_171) rfl rfl ?_
      show Steps p.tables e below (T13.setTop (mkF m 173 #[.val (.int p0), .val (.int p1), .val (.int p2), .val (.int p3), .val (.int (1 : Int32)), .val (.double (FP.i2d p0)), .second, .val (.double (FP.i2d p1)), .second, .val (.ref b3), .val (.double (FP.i2d p0)), .second, .val (.ref b13), .val (.int (0 : Int32)), .val (.double (0 : UInt64)), .second] [(.ref b13)])) _
      refine XS.iload X13.here hx rfl (hb hby at_173) rfl ?_
      exact kt
    obtain ⟨cl18, Ar18, qk18, Sz18, Nn18, Hh18, Gg18⟩ := id Va13
    have hin18 : ¬ ((0 : Int32) < 0 ∨ cl18.slots.size ≤ ((0 : Int32)).toNatClampNeg) := inb_of Sz18 ⟨by decide, by decide⟩
    have hat18 : cl18.slots[((0 : Int32)).toNatClampNeg]? = some (.double (0 : UInt64)) := Hh18.at hin18 rfl
    have pre19 : ∀ t, Steps p.tables e below (T13.setTop (mkF m 187 #[.val (.int p0), .val (.int p1), .val (.int p2), .val (.int p3), .val (.int (1 : Int32)), .val (.double (FP.i2d p0)), .second, .val (.double (FP.i2d p1)), .second, .val (.ref b3), .val (.double (FP.i2d p0)), .second, .val (.ref b13), .val (.int (0 : Int32)), .val (.double (0 : UInt64)), .second] [(.int (1 : Int32))])) t → Steps p.tables e below (s₁.setTop (entryFrame m #[(.int p0), (.int p1), (.int p2), (.int p3)] maxLocals)) t := fun t kt => by
      refine pre17 _ ?_
      show Steps p.tables e below (T13.setTop (mkF m 175 #[.val (.int p0), .val (.int p1), .val (.int p2), .val (.int p3), .val (.int (1 : Int32)), .val (.double (FP.i2d p0)), .second, .val (.double (FP.i2d p1)), .second, .val (.ref b3), .val (.double (FP.i2d p0)), .second, .val (.ref b13), .val (.int (0 : Int32)), .val (.double (0 : UInt64)), .second] [(.int (0 : Int32)), (.ref b13)])) _
      refine X13.daload hx (j := (0 : Int32)) (v := (.double (0 : UInt64))) Ar18.1 (State.isArrayOf_alike hZ.alike Ar18.2.1) Ar18.2.2 hin18 hat18 (g := (mkF m 175 #[.val (.int p0), .val (.int p1), .val (.int p2), .val (.int p3), .val (.int (1 : Int32)), .val (.double (FP.i2d p0)), .second, .val (.double (FP.i2d p1)), .second, .val (.ref b3), .val (.double (FP.i2d p0)), .second, .val (.ref b13), .val (.int (0 : Int32)), .val (.double (0 : UInt64)), .second] [(.int (0 : Int32)), (.ref b13)])) rfl rfl (hb hby at_175) _ ?_
      show Steps p.tables e below (T13.setTop (mkF m 176 #[.val (.int p0), .val (.int p1), .val (.int p2), .val (.int p3), .val (.int (1 : Int32)), .val (.double (FP.i2d p0)), .second, .val (.double (FP.i2d p1)), .second, .val (.ref b3), .val (.double (FP.i2d p0)), .second, .val (.ref b13), .val (.int (0 : Int32)), .val (.double (0 : UInt64)), .second] [(.double (0 : UInt64))])) _
      refine XS.dload X13.here hx rfl (hb hby at_176) rfl ?_
      show Steps p.tables e below (T13.setTop (mkF m 178 #[.val (.int p0), .val (.int p1), .val (.int p2), .val (.int p3), .val (.int (1 : Int32)), .val (.double (FP.i2d p0)), .second, .val (.double (FP.i2d p1)), .second, .val (.ref b3), .val (.double (FP.i2d p0)), .second, .val (.ref b13), .val (.int (0 : Int32)), .val (.double (0 : UInt64)), .second] [(.double (0 : UInt64)), (.double (0 : UInt64))])) _
      refine XS.dcmpS X13.here hx rfl (hb hby at_178) rfl (v := (0 : Int32)) (dcmpV_self own_0m_nn _) ?_
      show Steps p.tables e below (T13.setTop (mkF m 179 #[.val (.int p0), .val (.int p1), .val (.int p2), .val (.int p3), .val (.int (1 : Int32)), .val (.double (FP.i2d p0)), .second, .val (.double (FP.i2d p1)), .second, .val (.ref b3), .val (.double (FP.i2d p0)), .second, .val (.ref b13), .val (.int (0 : Int32)), .val (.double (0 : UInt64)), .second] [(.int (0 : Int32))])) _
      refine XS.ifNo X13.here hx rfl (hb hby at_179) rfl ((if0 _ _).trans (teq (by decide : (0 : Int32) = (0 : Int32))).2) ?_
      show Steps p.tables e below (T13.setTop (mkF m 182 #[.val (.int p0), .val (.int p1), .val (.int p2), .val (.int p3), .val (.int (1 : Int32)), .val (.double (FP.i2d p0)), .second, .val (.double (FP.i2d p1)), .second, .val (.ref b3), .val (.double (FP.i2d p0)), .second, .val (.ref b13), .val (.int (0 : Int32)), .val (.double (0 : UInt64)), .second] [])) _
      refine XS.iconst X13.here hx rfl (hb hby at_182) ?_
      show Steps p.tables e below (T13.setTop (mkF m 183 #[.val (.int p0), .val (.int p1), .val (.int p2), .val (.int p3), .val (.int (1 : Int32)), .val (.double (FP.i2d p0)), .second, .val (.double (FP.i2d p1)), .second, .val (.ref b3), .val (.double (FP.i2d p0)), .second, .val (.ref b13), .val (.int (0 : Int32)), .val (.double (0 : UInt64)), .second] [(.int (1 : Int32))])) _
      refine XS.goto X13.here hx rfl (pc0 := 183) (pc' := 187) rfl (hb hby at_183) (by decide) (by decide) ?_
      exact kt
    obtain ⟨fs, hr, hrun, hended, hW, hsame⟩ := X13.leave (v := (some (.int (1 : Int32)))) (fun h => by rw [Bd.returns] at h; cases h)
    refine ⟨_, _, pre19 _ ?_, hrun, hended, _, _, rfl, ?_, ⟨_, rfl⟩, hW, hsame.mono (by decide) (by decide)⟩
    · show Steps p.tables e below (T13.setTop (mkF m 187 #[.val (.int p0), .val (.int p1), .val (.int p2), .val (.int p3), .val (.int (1 : Int32)), .val (.double (FP.i2d p0)), .second, .val (.double (FP.i2d p1)), .second, .val (.ref b3), .val (.double (FP.i2d p0)), .second, .val (.ref b13), .val (.int (0 : Int32)), .val (.double (0 : UInt64)), .second] [(.int (1 : Int32))])) _
      exact retN X13 hx (t := .boolean) Bd.returns (by simp) (hb hby at_187) hr
    · show Q0 Z p0 p1 p2 p3 h0 n0 _ T13.heap _
      exact ⟨rfl, N13⟩
  · obtain ⟨i, hi⟩ : ∃ i : Fin 15, M = i.val + 2 := ⟨⟨M - 2, by omega⟩, by show M = M - 2 + 2; omega⟩
    subst hi
    obtain ⟨c1, c2, c3, c4, c5, c6, c7, c8⟩ := own_cnt i
    have pre20 : ∀ t, Steps p.tables e below (s₁.setTop (mkF m 22 #[.val (.int p0), .val (.int p1), .val (.int p2), .val (.int p3), .val (.int (Int32.ofNat (i.val + 2))), .val (.double (FP.i2d p0)), .second, .val (.double (FP.i2d p1)), .second, .unset, .unset, .unset, .unset, .unset, .unset, .unset] [(.int (Int32.ofNat (i.val + 2))), (.double (FP.i2d p1)), (.double (FP.i2d p0))])) t → Steps p.tables e below (s₁.setTop (entryFrame m #[(.int p0), (.int p1), (.int p2), (.int p3)] maxLocals)) t := fun t kt => by
      refine pre1 _ ?_
      show Steps p.tables e below (s₁.setTop (mkF m 6 #[.val (.int p0), .val (.int p1), .val (.int p2), .val (.int p3), .unset, .unset, .unset, .unset, .unset, .unset, .unset, .unset, .unset, .unset, .unset, .unset] [(.int (own_n p2))])) _
      rw [show (own_n p2) = (Int32.ofNat (i.val + 2)) from hn]
      show Steps p.tables e below (s₁.setTop (mkF m 6 #[.val (.int p0), .val (.int p1), .val (.int p2), .val (.int p3), .unset, .unset, .unset, .unset, .unset, .unset, .unset, .unset, .unset, .unset, .unset, .unset] [(.int (Int32.ofNat (i.val + 2)))])) _
      refine XS.istore X0.here hx rfl (hb hby at_6) rfl (l' := #[.val (.int p0), .val (.int p1), .val (.int p2), .val (.int p3), .val (.int (Int32.ofNat (i.val + 2))), .unset, .unset, .unset, .unset, .unset, .unset, .unset, .unset, .unset, .unset, .unset]) rfl ?_
      show Steps p.tables e below (s₁.setTop (mkF m 8 #[.val (.int p0), .val (.int p1), .val (.int p2), .val (.int p3), .val (.int (Int32.ofNat (i.val + 2))), .unset, .unset, .unset, .unset, .unset, .unset, .unset, .unset, .unset, .unset, .unset] [])) _
      refine XS.iloadN X0.here hx rfl (hb hby at_8) rfl ?_
      show Steps p.tables e below (s₁.setTop (mkF m 9 #[.val (.int p0), .val (.int p1), .val (.int p2), .val (.int p3), .val (.int (Int32.ofNat (i.val + 2))), .unset, .unset, .unset, .unset, .unset, .unset, .unset, .unset, .unset, .unset, .unset] [(.int p0)])) _
      refine XS.i2dS X0.here hx rfl (hb hby at_9) rfl rfl ?_
      show Steps p.tables e below (s₁.setTop (mkF m 10 #[.val (.int p0), .val (.int p1), .val (.int p2), .val (.int p3), .val (.int (Int32.ofNat (i.val + 2))), .unset, .unset, .unset, .unset, .unset, .unset, .unset, .unset, .unset, .unset, .unset] [(.double (FP.i2d p0))])) _
      refine XS.dstore X0.here hx rfl (hb hby at_10) rfl (l' := #[.val (.int p0), .val (.int p1), .val (.int p2), .val (.int p3), .val (.int (Int32.ofNat (i.val + 2))), .val (.double (FP.i2d p0)), .second, .unset, .unset, .unset, .unset, .unset, .unset, .unset, .unset, .unset]) rfl ?_
      show Steps p.tables e below (s₁.setTop (mkF m 12 #[.val (.int p0), .val (.int p1), .val (.int p2), .val (.int p3), .val (.int (Int32.ofNat (i.val + 2))), .val (.double (FP.i2d p0)), .second, .unset, .unset, .unset, .unset, .unset, .unset, .unset, .unset, .unset] [])) _
      refine XS.iloadN X0.here hx rfl (hb hby at_12) rfl ?_
      show Steps p.tables e below (s₁.setTop (mkF m 13 #[.val (.int p0), .val (.int p1), .val (.int p2), .val (.int p3), .val (.int (Int32.ofNat (i.val + 2))), .val (.double (FP.i2d p0)), .second, .unset, .unset, .unset, .unset, .unset, .unset, .unset, .unset, .unset] [(.int p1)])) _
      refine XS.i2dS X0.here hx rfl (hb hby at_13) rfl rfl ?_
      show Steps p.tables e below (s₁.setTop (mkF m 14 #[.val (.int p0), .val (.int p1), .val (.int p2), .val (.int p3), .val (.int (Int32.ofNat (i.val + 2))), .val (.double (FP.i2d p0)), .second, .unset, .unset, .unset, .unset, .unset, .unset, .unset, .unset, .unset] [(.double (FP.i2d p1))])) _
      refine XS.dstore X0.here hx rfl (hb hby at_14) rfl (l' := #[.val (.int p0), .val (.int p1), .val (.int p2), .val (.int p3), .val (.int (Int32.ofNat (i.val + 2))), .val (.double (FP.i2d p0)), .second, .val (.double (FP.i2d p1)), .second, .unset, .unset, .unset, .unset, .unset, .unset, .unset]) rfl ?_
      show Steps p.tables e below (s₁.setTop (mkF m 16 #[.val (.int p0), .val (.int p1), .val (.int p2), .val (.int p3), .val (.int (Int32.ofNat (i.val + 2))), .val (.double (FP.i2d p0)), .second, .val (.double (FP.i2d p1)), .second, .unset, .unset, .unset, .unset, .unset, .unset, .unset] [])) _
      refine XS.dload X0.here hx rfl (hb hby at_16) rfl ?_
      show Steps p.tables e below (s₁.setTop (mkF m 18 #[.val (.int p0), .val (.int p1), .val (.int p2), .val (.int p3), .val (.int (Int32.ofNat (i.val + 2))), .val (.double (FP.i2d p0)), .second, .val (.double (FP.i2d p1)), .second, .unset, .unset, .unset, .unset, .unset, .unset, .unset] [(.double (FP.i2d p0))])) _
      refine XS.dload X0.here hx rfl (hb hby at_18) rfl ?_
      show Steps p.tables e below (s₁.setTop (mkF m 20 #[.val (.int p0), .val (.int p1), .val (.int p2), .val (.int p3), .val (.int (Int32.ofNat (i.val + 2))), .val (.double (FP.i2d p0)), .second, .val (.double (FP.i2d p1)), .second, .unset, .unset, .unset, .unset, .unset, .unset, .unset] [(.double (FP.i2d p1)), (.double (FP.i2d p0))])) _
      refine XS.iload X0.here hx rfl (hb hby at_20) rfl ?_
      exact kt
    obtain ⟨_, _, ⟨T21, L21, kc21, nc21⟩, -, X21, ⟨Lc21, hQ21, l21, y21, z21⟩, st21⟩ := Jvm.LawKit.callS X0 hx (y := (⟨"com/example/tesserae/tesserae/problems/Zdt", "evenlySpaced", "(DDI)[D"⟩ : MethodName)) hown (mvT hZ (hw _ (List.mem_of_getElem? (i := 0) rfl))) (mvT hZ (hw _ (List.mem_of_getElem? (i := 1) rfl))) (mvT hZ (hw _ (List.mem_of_getElem? (i := 2) rfl))) (mvT hZ (hw _ (List.mem_of_getElem? (i := 3) rfl))) (by decide) (backOf (W := 0) (rm1b l Z a0 hw [] (FP.i2d p0) (FP.i2d p1) (Int32.ofNat (i.val + 2)) (i.val + 2) h0 n0 Z0 c8 (by omega) (by have := i.isLt; omega) (Fl.i2d_mag p0) (Fl.i2d_mag p1)) hZ (hw _ (List.mem_of_getElem? (i := 3) rfl)) (hw _ (List.mem_of_getElem? (i := 2) rfl)) (by decide) (by decide)) (g := (mkF m 22 #[.val (.int p0), .val (.int p1), .val (.int p2), .val (.int p3), .val (.int (Int32.ofNat (i.val + 2))), .val (.double (FP.i2d p0)), .second, .val (.double (FP.i2d p1)), .second, .unset, .unset, .unset, .unset, .unset, .unset, .unset] [(.int (Int32.ofNat (i.val + 2))), (.double (FP.i2d p1)), (.double (FP.i2d p0))])) rfl (by rw [hml]; rfl) (argsL := [(.double (FP.i2d p0)), (.double (FP.i2d p1)), (.int (Int32.ofNat (i.val + 2)))]) (rest := []) (lenOf pd_0 rfl) rfl (by show 2 * 0 + _ ≤ _; exact Nat.le_of_eq rfl) (hb hby at_22) (fun _ _ => ⟨rfl, e0, (by decide : 0 + 1 ≤ _), (by decide : 0 + 16 ≤ _)⟩)
    dsimp only [Pt.U, Pt.locs, Pt.cells, Pt.slots] at X21 l21 y21 z21 st21 hQ21
    subst l21 y21 z21
    obtain ⟨rfl, N21q, K21, ⟨kk21, Va21⟩⟩ := hQ21
    have N21 := Fr.app N0 N21q
    obtain ⟨b21, gq21⟩ : ∃ z, z = h0.size := ⟨_, rfl⟩
    rw [← gq21] at Va21 st21
    have gg_b21 : n0 ≤ b21 := Nat.le_trans Z0 (Nat.le_of_eq gq21.symm)
    have pre22 : ∀ t, Steps p.tables e below (T21.setTop (mkF m 25 #[.val (.int p0), .val (.int p1), .val (.int p2), .val (.int p3), .val (.int (Int32.ofNat (i.val + 2))), .val (.double (FP.i2d p0)), .second, .val (.double (FP.i2d p1)), .second, .unset, .unset, .unset, .unset, .unset, .unset, .unset] [(.ref b21)])) t → Steps p.tables e below (s₁.setTop (entryFrame m #[(.int p0), (.int p1), (.int p2), (.int p3)] maxLocals)) t := fun t kt => pre20 _ (st21 _ kt)
    rw [c1] at Va21
    have pre23 : ∀ t, Steps p.tables e below (T21.setTop (mkF m 29 #[.val (.int p0), .val (.int p1), .val (.int p2), .val (.int p3), .val (.int (Int32.ofNat (i.val + 2))), .val (.double (FP.i2d p0)), .second, .val (.double (FP.i2d p1)), .second, .val (.ref b21), .unset, .unset, .unset, .unset, .unset, .unset] [(.ref b21)])) t → Steps p.tables e below (s₁.setTop (entryFrame m #[(.int p0), (.int p1), (.int p2), (.int p3)] maxLocals)) t := fun t kt => by
      refine pre22 _ ?_
      show Steps p.tables e below (T21.setTop (mkF m 25 #[.val (.int p0), .val (.int p1), .val (.int p2), .val (.int p3), .val (.int (Int32.ofNat (i.val + 2))), .val (.double (FP.i2d p0)), .second, .val (.double (FP.i2d p1)), .second, .unset, .unset, .unset, .unset, .unset, .unset, .unset] [(.ref b21)])) _
      refine XS.astore X21.here hx rfl (hb hby at_25) rfl rfl (l' := #[.val (.int p0), .val (.int p1), .val (.int p2), .val (.int p3), .val (.int (Int32.ofNat (i.val + 2))), .val (.double (FP.i2d p0)), .second, .val (.double (FP.i2d p1)), .second, .val (.ref b21), .unset, .unset, .unset, .unset, .unset, .unset]) rfl ?_
      show Steps p.tables e below (T21.setTop (mkF m 27 #[.val (.int p0), .val (.int p1), .val (.int p2), .val (.int p3), .val (.int (Int32.ofNat (i.val + 2))), .val (.double (FP.i2d p0)), .second, .val (.double (FP.i2d p1)), .second, .val (.ref b21), .unset, .unset, .unset, .unset, .unset, .unset] [])) _
      refine XS.aload X21.here hx rfl (hb hby at_27) rfl rfl ?_
      exact kt
    obtain ⟨cl24, Ar24, qk24, Sz24, Nn24, Hh24, Gg24⟩ := id Va21
    have pre25 : ∀ t, Steps p.tables e below (T21.setTop (mkF m 40 #[.val (.int p0), .val (.int p1), .val (.int p2), .val (.int p3), .val (.int (Int32.ofNat (i.val + 2))), .val (.double (FP.i2d p0)), .second, .val (.double (FP.i2d p1)), .second, .val (.ref b21), .unset, .unset, .unset, .unset, .unset, .unset] [(.int (0 : Int32)), (.ref b21)])) t → Steps p.tables e below (s₁.setTop (entryFrame m #[(.int p0), (.int p1), (.int p2), (.int p3)] maxLocals)) t := fun t kt => by
      refine pre23 _ ?_
      show Steps p.tables e below (T21.setTop (mkF m 29 #[.val (.int p0), .val (.int p1), .val (.int p2), .val (.int p3), .val (.int (Int32.ofNat (i.val + 2))), .val (.double (FP.i2d p0)), .second, .val (.double (FP.i2d p1)), .second, .val (.ref b21), .unset, .unset, .unset, .unset, .unset, .unset] [(.ref b21)])) _
      refine X21.arraylength hx Ar24.1 (State.isArrayOf_alike hZ.alike Ar24.2.1) (g := (mkF m 29 #[.val (.int p0), .val (.int p1), .val (.int p2), .val (.int p3), .val (.int (Int32.ofNat (i.val + 2))), .val (.double (FP.i2d p0)), .second, .val (.double (FP.i2d p1)), .second, .val (.ref b21), .unset, .unset, .unset, .unset, .unset, .unset] [(.ref b21)])) rfl rfl (hb hby at_29) _ ?_
      rw [len_of Sz24 Nn24]
      show Steps p.tables e below (T21.setTop (mkF m 30 #[.val (.int p0), .val (.int p1), .val (.int p2), .val (.int p3), .val (.int (Int32.ofNat (i.val + 2))), .val (.double (FP.i2d p0)), .second, .val (.double (FP.i2d p1)), .second, .val (.ref b21), .unset, .unset, .unset, .unset, .unset, .unset] [(.int (Int32.ofNat (i.val + 2)))])) _
      refine XS.iload X21.here hx rfl (hb hby at_30) rfl ?_
      show Steps p.tables e below (T21.setTop (mkF m 32 #[.val (.int p0), .val (.int p1), .val (.int p2), .val (.int p3), .val (.int (Int32.ofNat (i.val + 2))), .val (.double (FP.i2d p0)), .second, .val (.double (FP.i2d p1)), .second, .val (.ref b21), .unset, .unset, .unset, .unset, .unset, .unset] [(.int (Int32.ofNat (i.val + 2))), (.int (Int32.ofNat (i.val + 2)))])) _
      refine XS.icmpYes X21.here hx rfl (pc0 := 32) (pc' := 37) rfl (hb hby at_32) rfl (teq (rfl : (Int32.ofNat (i.val + 2)) = (Int32.ofNat (i.val + 2)))).1 (by decide) (by decide) ?_
      show Steps p.tables e below (T21.setTop (mkF m 37 #[.val (.int p0), .val (.int p1), .val (.int p2), .val (.int p3), .val (.int (Int32.ofNat (i.val + 2))), .val (.double (FP.i2d p0)), .second, .val (.double (FP.i2d p1)), .second, .val (.ref b21), .unset, .unset, .unset, .unset, .unset, .unset] [])) _
      refine XS.aload X21.here hx rfl (hb hby at_37) rfl rfl ?_
      show Steps p.tables e below (T21.setTop (mkF m 39 #[.val (.int p0), .val (.int p1), .val (.int p2), .val (.int p3), .val (.int (Int32.ofNat (i.val + 2))), .val (.double (FP.i2d p0)), .second, .val (.double (FP.i2d p1)), .second, .val (.ref b21), .unset, .unset, .unset, .unset, .unset, .unset] [(.ref b21)])) _
      refine XS.iconst X21.here hx rfl (hb hby at_39) ?_
      exact kt
    obtain ⟨cl26, Ar26, qk26, Sz26, Nn26, Hh26, Gg26⟩ := id Va21
    have hin26 : ¬ ((0 : Int32) < 0 ∨ cl26.slots.size ≤ ((0 : Int32)).toNatClampNeg) := inb_of Sz26 ⟨by decide, c7⟩
    have hat26 : cl26.slots[((0 : Int32)).toNatClampNeg]? = some (.double (own_el (FP.i2d p0) (FP.i2d p1) (own_kk i.val) (0 : Int32))) := Hh26.at hin26 (own_vl_at _ _ _ _ 0 (by omega) _)
    have pre27 : ∀ t, Steps p.tables e below (T21.setTop (mkF m 70 #[.val (.int p0), .val (.int p1), .val (.int p2), .val (.int p3), .val (.int (Int32.ofNat (i.val + 2))), .val (.double (FP.i2d p0)), .second, .val (.double (FP.i2d p1)), .second, .val (.ref b21), .val (.double (FP.i2d p1)), .second, .unset, .unset, .unset, .unset] [(.int (own_kk i.val)), (.ref b21)])) t → Steps p.tables e below (s₁.setTop (entryFrame m #[(.int p0), (.int p1), (.int p2), (.int p3)] maxLocals)) t := fun t kt => by
      refine pre25 _ ?_
      show Steps p.tables e below (T21.setTop (mkF m 40 #[.val (.int p0), .val (.int p1), .val (.int p2), .val (.int p3), .val (.int (Int32.ofNat (i.val + 2))), .val (.double (FP.i2d p0)), .second, .val (.double (FP.i2d p1)), .second, .val (.ref b21), .unset, .unset, .unset, .unset, .unset, .unset] [(.int (0 : Int32)), (.ref b21)])) _
      refine X21.daload hx (j := (0 : Int32)) (v := (.double (own_el (FP.i2d p0) (FP.i2d p1) (own_kk i.val) (0 : Int32)))) Ar26.1 (State.isArrayOf_alike hZ.alike Ar26.2.1) Ar26.2.2 hin26 hat26 (g := (mkF m 40 #[.val (.int p0), .val (.int p1), .val (.int p2), .val (.int p3), .val (.int (Int32.ofNat (i.val + 2))), .val (.double (FP.i2d p0)), .second, .val (.double (FP.i2d p1)), .second, .val (.ref b21), .unset, .unset, .unset, .unset, .unset, .unset] [(.int (0 : Int32)), (.ref b21)])) rfl rfl (hb hby at_40) _ ?_
      show Steps p.tables e below (T21.setTop (mkF m 41 #[.val (.int p0), .val (.int p1), .val (.int p2), .val (.int p3), .val (.int (Int32.ofNat (i.val + 2))), .val (.double (FP.i2d p0)), .second, .val (.double (FP.i2d p1)), .second, .val (.ref b21), .unset, .unset, .unset, .unset, .unset, .unset] [(.double (own_el (FP.i2d p0) (FP.i2d p1) (own_kk i.val) (0 : Int32)))])) _
      refine XS.dload X21.here hx rfl (hb hby at_41) rfl ?_
      show Steps p.tables e below (T21.setTop (mkF m 43 #[.val (.int p0), .val (.int p1), .val (.int p2), .val (.int p3), .val (.int (Int32.ofNat (i.val + 2))), .val (.double (FP.i2d p0)), .second, .val (.double (FP.i2d p1)), .second, .val (.ref b21), .unset, .unset, .unset, .unset, .unset, .unset] [(.double (FP.i2d p0)), (.double (own_el (FP.i2d p0) (FP.i2d p1) (own_kk i.val) (0 : Int32)))])) _
      refine XS.dcmpS X21.here hx rfl (hb hby at_43) rfl (v := (0 : Int32)) (own_first i (Fl.i2d_mag p0) (Fl.i2d_mag p1) _) ?_
      show Steps p.tables e below (T21.setTop (mkF m 44 #[.val (.int p0), .val (.int p1), .val (.int p2), .val (.int p3), .val (.int (Int32.ofNat (i.val + 2))), .val (.double (FP.i2d p0)), .second, .val (.double (FP.i2d p1)), .second, .val (.ref b21), .unset, .unset, .unset, .unset, .unset, .unset] [(.int (0 : Int32))])) _
      refine XS.ifYes X21.here hx rfl (pc0 := 44) (pc' := 49) rfl (hb hby at_44) rfl ((if0 _ _).trans (teq (by decide : (0 : Int32) = (0 : Int32))).1) (by decide) (by decide) ?_
      show Steps p.tables e below (T21.setTop (mkF m 49 #[.val (.int p0), .val (.int p1), .val (.int p2), .val (.int p3), .val (.int (Int32.ofNat (i.val + 2))), .val (.double (FP.i2d p0)), .second, .val (.double (FP.i2d p1)), .second, .val (.ref b21), .unset, .unset, .unset, .unset, .unset, .unset] [])) _
      refine XS.iload X21.here hx rfl (hb hby at_49) rfl ?_
      show Steps p.tables e below (T21.setTop (mkF m 51 #[.val (.int p0), .val (.int p1), .val (.int p2), .val (.int p3), .val (.int (Int32.ofNat (i.val + 2))), .val (.double (FP.i2d p0)), .second, .val (.double (FP.i2d p1)), .second, .val (.ref b21), .unset, .unset, .unset, .unset, .unset, .unset] [(.int (Int32.ofNat (i.val + 2)))])) _
      refine XS.iconst X21.here hx rfl (hb hby at_51) ?_
      show Steps p.tables e below (T21.setTop (mkF m 52 #[.val (.int p0), .val (.int p1), .val (.int p2), .val (.int p3), .val (.int (Int32.ofNat (i.val + 2))), .val (.double (FP.i2d p0)), .second, .val (.double (FP.i2d p1)), .second, .val (.ref b21), .unset, .unset, .unset, .unset, .unset, .unset] [(.int (1 : Int32)), (.int (Int32.ofNat (i.val + 2)))])) _
      refine XS.icmpYes X21.here hx rfl (pc0 := 52) (pc' := 60) rfl (hb hby at_52) rfl (feq (c6 : ¬ ((Int32.ofNat (i.val + 2)) = (1 : Int32)))).2 (by decide) (by decide) ?_
      show Steps p.tables e below (T21.setTop (mkF m 60 #[.val (.int p0), .val (.int p1), .val (.int p2), .val (.int p3), .val (.int (Int32.ofNat (i.val + 2))), .val (.double (FP.i2d p0)), .second, .val (.double (FP.i2d p1)), .second, .val (.ref b21), .unset, .unset, .unset, .unset, .unset, .unset] [])) _
      refine XS.dload X21.here hx rfl (hb hby at_60) rfl ?_
      show Steps p.tables e below (T21.setTop (mkF m 62 #[.val (.int p0), .val (.int p1), .val (.int p2), .val (.int p3), .val (.int (Int32.ofNat (i.val + 2))), .val (.double (FP.i2d p0)), .second, .val (.double (FP.i2d p1)), .second, .val (.ref b21), .unset, .unset, .unset, .unset, .unset, .unset] [(.double (FP.i2d p1))])) _
      refine XS.dstore X21.here hx rfl (hb hby at_62) rfl (l' := #[.val (.int p0), .val (.int p1), .val (.int p2), .val (.int p3), .val (.int (Int32.ofNat (i.val + 2))), .val (.double (FP.i2d p0)), .second, .val (.double (FP.i2d p1)), .second, .val (.ref b21), .val (.double (FP.i2d p1)), .second, .unset, .unset, .unset, .unset]) rfl ?_
      show Steps p.tables e below (T21.setTop (mkF m 64 #[.val (.int p0), .val (.int p1), .val (.int p2), .val (.int p3), .val (.int (Int32.ofNat (i.val + 2))), .val (.double (FP.i2d p0)), .second, .val (.double (FP.i2d p1)), .second, .val (.ref b21), .val (.double (FP.i2d p1)), .second, .unset, .unset, .unset, .unset] [])) _
      refine XS.aload X21.here hx rfl (hb hby at_64) rfl rfl ?_
      show Steps p.tables e below (T21.setTop (mkF m 66 #[.val (.int p0), .val (.int p1), .val (.int p2), .val (.int p3), .val (.int (Int32.ofNat (i.val + 2))), .val (.double (FP.i2d p0)), .second, .val (.double (FP.i2d p1)), .second, .val (.ref b21), .val (.double (FP.i2d p1)), .second, .unset, .unset, .unset, .unset] [(.ref b21)])) _
      refine XS.iload X21.here hx rfl (hb hby at_66) rfl ?_
      show Steps p.tables e below (T21.setTop (mkF m 68 #[.val (.int p0), .val (.int p1), .val (.int p2), .val (.int p3), .val (.int (Int32.ofNat (i.val + 2))), .val (.double (FP.i2d p0)), .second, .val (.double (FP.i2d p1)), .second, .val (.ref b21), .val (.double (FP.i2d p1)), .second, .unset, .unset, .unset, .unset] [(.int (Int32.ofNat (i.val + 2))), (.ref b21)])) _
      refine XS.iconst X21.here hx rfl (hb hby at_68) ?_
      show Steps p.tables e below (T21.setTop (mkF m 69 #[.val (.int p0), .val (.int p1), .val (.int p2), .val (.int p3), .val (.int (Int32.ofNat (i.val + 2))), .val (.double (FP.i2d p0)), .second, .val (.double (FP.i2d p1)), .second, .val (.ref b21), .val (.double (FP.i2d p1)), .second, .unset, .unset, .unset, .unset] [(.int (1 : Int32)), (.int (Int32.ofNat (i.val + 2))), (.ref b21)])) _
      refine XS.isub X21.here hx rfl (hb hby at_69) rfl ?_
      show Steps p.tables e below (T21.setTop (mkF m 70 #[.val (.int p0), .val (.int p1), .val (.int p2), .val (.int p3), .val (.int (Int32.ofNat (i.val + 2))), .val (.double (FP.i2d p0)), .second, .val (.double (FP.i2d p1)), .second, .val (.ref b21), .val (.double (FP.i2d p1)), .second, .unset, .unset, .unset, .unset] [(.int ((Int32.ofNat (i.val + 2)) - (1 : Int32))), (.ref b21)])) _
      rw [show ((Int32.ofNat (i.val + 2)) - (1 : Int32)) = (own_kk i.val) from c1]
      exact kt
    obtain ⟨cl28, Ar28, qk28, Sz28, Nn28, Hh28, Gg28⟩ := id Va21
    have hin28 : ¬ ((own_kk i.val) < 0 ∨ cl28.slots.size ≤ ((own_kk i.val)).toNatClampNeg) := inb_of Sz28 ⟨c3, c4⟩
    have hat28 : cl28.slots[((own_kk i.val)).toNatClampNeg]? = some (.double (own_el (FP.i2d p0) (FP.i2d p1) (own_kk i.val) (own_kk i.val))) := Hh28.at hin28 (by rw [c5, own_vl_at _ _ _ _ _ (by omega)]; rfl)
    have pre29 : ∀ t, Steps p.tables e below (T21.setTop (mkF m 84 #[.val (.int p0), .val (.int p1), .val (.int p2), .val (.int p3), .val (.int (Int32.ofNat (i.val + 2))), .val (.double (FP.i2d p0)), .second, .val (.double (FP.i2d p1)), .second, .val (.ref b21), .val (.double (FP.i2d p1)), .second, .unset, .unset, .unset, .unset] [(.int (1 : Int32)), (.int ((Int32.ofNat (i.val + 2)) &&& (1 : Int32)))])) t → Steps p.tables e below (s₁.setTop (entryFrame m #[(.int p0), (.int p1), (.int p2), (.int p3)] maxLocals)) t := fun t kt => by
      refine pre27 _ ?_
      show Steps p.tables e below (T21.setTop (mkF m 70 #[.val (.int p0), .val (.int p1), .val (.int p2), .val (.int p3), .val (.int (Int32.ofNat (i.val + 2))), .val (.double (FP.i2d p0)), .second, .val (.double (FP.i2d p1)), .second, .val (.ref b21), .val (.double (FP.i2d p1)), .second, .unset, .unset, .unset, .unset] [(.int (own_kk i.val)), (.ref b21)])) _
      refine X21.daload hx (j := (own_kk i.val)) (v := (.double (own_el (FP.i2d p0) (FP.i2d p1) (own_kk i.val) (own_kk i.val)))) Ar28.1 (State.isArrayOf_alike hZ.alike Ar28.2.1) Ar28.2.2 hin28 hat28 (g := (mkF m 70 #[.val (.int p0), .val (.int p1), .val (.int p2), .val (.int p3), .val (.int (Int32.ofNat (i.val + 2))), .val (.double (FP.i2d p0)), .second, .val (.double (FP.i2d p1)), .second, .val (.ref b21), .val (.double (FP.i2d p1)), .second, .unset, .unset, .unset, .unset] [(.int (own_kk i.val)), (.ref b21)])) rfl rfl (hb hby at_70) _ ?_
      show Steps p.tables e below (T21.setTop (mkF m 71 #[.val (.int p0), .val (.int p1), .val (.int p2), .val (.int p3), .val (.int (Int32.ofNat (i.val + 2))), .val (.double (FP.i2d p0)), .second, .val (.double (FP.i2d p1)), .second, .val (.ref b21), .val (.double (FP.i2d p1)), .second, .unset, .unset, .unset, .unset] [(.double (own_el (FP.i2d p0) (FP.i2d p1) (own_kk i.val) (own_kk i.val)))])) _
      refine XS.dload X21.here hx rfl (hb hby at_71) rfl ?_
      show Steps p.tables e below (T21.setTop (mkF m 73 #[.val (.int p0), .val (.int p1), .val (.int p2), .val (.int p3), .val (.int (Int32.ofNat (i.val + 2))), .val (.double (FP.i2d p0)), .second, .val (.double (FP.i2d p1)), .second, .val (.ref b21), .val (.double (FP.i2d p1)), .second, .unset, .unset, .unset, .unset] [(.double (FP.i2d p1)), (.double (own_el (FP.i2d p0) (FP.i2d p1) (own_kk i.val) (own_kk i.val)))])) _
      refine XS.dcmpS X21.here hx rfl (hb hby at_73) rfl (v := (0 : Int32)) (own_last i (Fl.i2d_mag p0) (Fl.i2d_mag p1) _) ?_
      show Steps p.tables e below (T21.setTop (mkF m 74 #[.val (.int p0), .val (.int p1), .val (.int p2), .val (.int p3), .val (.int (Int32.ofNat (i.val + 2))), .val (.double (FP.i2d p0)), .second, .val (.double (FP.i2d p1)), .second, .val (.ref b21), .val (.double (FP.i2d p1)), .second, .unset, .unset, .unset, .unset] [(.int (0 : Int32))])) _
      refine XS.ifYes X21.here hx rfl (pc0 := 74) (pc' := 79) rfl (hb hby at_74) rfl ((if0 _ _).trans (teq (by decide : (0 : Int32) = (0 : Int32))).1) (by decide) (by decide) ?_
      show Steps p.tables e below (T21.setTop (mkF m 79 #[.val (.int p0), .val (.int p1), .val (.int p2), .val (.int p3), .val (.int (Int32.ofNat (i.val + 2))), .val (.double (FP.i2d p0)), .second, .val (.double (FP.i2d p1)), .second, .val (.ref b21), .val (.double (FP.i2d p1)), .second, .unset, .unset, .unset, .unset] [])) _
      refine XS.iload X21.here hx rfl (hb hby at_79) rfl ?_
      show Steps p.tables e below (T21.setTop (mkF m 81 #[.val (.int p0), .val (.int p1), .val (.int p2), .val (.int p3), .val (.int (Int32.ofNat (i.val + 2))), .val (.double (FP.i2d p0)), .second, .val (.double (FP.i2d p1)), .second, .val (.ref b21), .val (.double (FP.i2d p1)), .second, .unset, .unset, .unset, .unset] [(.int (Int32.ofNat (i.val + 2)))])) _
      refine XS.iconst X21.here hx rfl (hb hby at_81) ?_
      show Steps p.tables e below (T21.setTop (mkF m 82 #[.val (.int p0), .val (.int p1), .val (.int p2), .val (.int p3), .val (.int (Int32.ofNat (i.val + 2))), .val (.double (FP.i2d p0)), .second, .val (.double (FP.i2d p1)), .second, .val (.ref b21), .val (.double (FP.i2d p1)), .second, .unset, .unset, .unset, .unset] [(.int (1 : Int32)), (.int (Int32.ofNat (i.val + 2)))])) _
      refine XS.iand X21.here hx rfl (hb hby at_82) rfl ?_
      show Steps p.tables e below (T21.setTop (mkF m 83 #[.val (.int p0), .val (.int p1), .val (.int p2), .val (.int p3), .val (.int (Int32.ofNat (i.val + 2))), .val (.double (FP.i2d p0)), .second, .val (.double (FP.i2d p1)), .second, .val (.ref b21), .val (.double (FP.i2d p1)), .second, .unset, .unset, .unset, .unset] [(.int ((Int32.ofNat (i.val + 2)) &&& (1 : Int32)))])) _
      refine XS.iconst X21.here hx rfl (hb hby at_83) ?_
      exact kt
    by_cases o1 : ((Int32.ofNat (i.val + 2)) &&& (1 : Int32)) = (1 : Int32)
    · have pre30 : ∀ t, Steps p.tables e below (T21.setTop (mkF m 90 #[.val (.int p0), .val (.int p1), .val (.int p2), .val (.int p3), .val (.int (Int32.ofNat (i.val + 2))), .val (.double (FP.i2d p0)), .second, .val (.double (FP.i2d p1)), .second, .val (.ref b21), .val (.double (FP.i2d p1)), .second, .unset, .unset, .unset, .unset] [(.int (3 : Int32)), (.int (Int32.ofNat (i.val + 2)))])) t → Steps p.tables e below (s₁.setTop (entryFrame m #[(.int p0), (.int p1), (.int p2), (.int p3)] maxLocals)) t := fun t kt => by
        refine pre29 _ ?_
        show Steps p.tables e below (T21.setTop (mkF m 84 #[.val (.int p0), .val (.int p1), .val (.int p2), .val (.int p3), .val (.int (Int32.ofNat (i.val + 2))), .val (.double (FP.i2d p0)), .second, .val (.double (FP.i2d p1)), .second, .val (.ref b21), .val (.double (FP.i2d p1)), .second, .unset, .unset, .unset, .unset] [(.int (1 : Int32)), (.int ((Int32.ofNat (i.val + 2)) &&& (1 : Int32)))])) _
        refine XS.icmpNo X21.here hx rfl (hb hby at_84) rfl (teq (o1 : ((Int32.ofNat (i.val + 2)) &&& (1 : Int32)) = (1 : Int32))).2 ?_
        show Steps p.tables e below (T21.setTop (mkF m 87 #[.val (.int p0), .val (.int p1), .val (.int p2), .val (.int p3), .val (.int (Int32.ofNat (i.val + 2))), .val (.double (FP.i2d p0)), .second, .val (.double (FP.i2d p1)), .second, .val (.ref b21), .val (.double (FP.i2d p1)), .second, .unset, .unset, .unset, .unset] [])) _
        refine XS.iload X21.here hx rfl (hb hby at_87) rfl ?_
        show Steps p.tables e below (T21.setTop (mkF m 89 #[.val (.int p0), .val (.int p1), .val (.int p2), .val (.int p3), .val (.int (Int32.ofNat (i.val + 2))), .val (.double (FP.i2d p0)), .second, .val (.double (FP.i2d p1)), .second, .val (.ref b21), .val (.double (FP.i2d p1)), .second, .unset, .unset, .unset, .unset] [(.int (Int32.ofNat (i.val + 2)))])) _
        refine XS.iconst X21.here hx rfl (hb hby at_89) ?_
        exact kt
      by_cases o2 : (Int32.ofNat (i.val + 2)) < (3 : Int32)
      · have z31 : n0 ≤ T21.heap.size := (Nat.le_trans Z0 K21.1)
        have pre32 : ∀ t, Steps p.tables e below (T21.setTop (mkF m 126 #[.val (.int p0), .val (.int p1), .val (.int p2), .val (.int p3), .val (.int (Int32.ofNat (i.val + 2))), .val (.double (FP.i2d p0)), .second, .val (.double (FP.i2d p1)), .second, .val (.ref b21), .val (.double (FP.i2d p1)), .second, .unset, .unset, .unset, .unset] [(.int (Int32.ofNat (i.val + 2))), (.double (4607182418800017408 : UInt64)), (.double (0 : UInt64))])) t → Steps p.tables e below (s₁.setTop (entryFrame m #[(.int p0), (.int p1), (.int p2), (.int p3)] maxLocals)) t := fun t kt => by
          refine pre30 _ ?_
          show Steps p.tables e below (T21.setTop (mkF m 90 #[.val (.int p0), .val (.int p1), .val (.int p2), .val (.int p3), .val (.int (Int32.ofNat (i.val + 2))), .val (.double (FP.i2d p0)), .second, .val (.double (FP.i2d p1)), .second, .val (.ref b21), .val (.double (FP.i2d p1)), .second, .unset, .unset, .unset, .unset] [(.int (3 : Int32)), (.int (Int32.ofNat (i.val + 2)))])) _
          refine XS.icmpYes X21.here hx rfl (pc0 := 90) (pc' := 122) rfl (hb hby at_90) rfl (tlt (o2 : (Int32.ofNat (i.val + 2)) < (3 : Int32))).1 (by decide) (by decide) ?_
          show Steps p.tables e below (T21.setTop (mkF m 122 #[.val (.int p0), .val (.int p1), .val (.int p2), .val (.int p3), .val (.int (Int32.ofNat (i.val + 2))), .val (.double (FP.i2d p0)), .second, .val (.double (FP.i2d p1)), .second, .val (.ref b21), .val (.double (FP.i2d p1)), .second, .unset, .unset, .unset, .unset] [])) _
          refine XS.dconst0 X21.here hx rfl (hb hby at_122) rfl ?_
          show Steps p.tables e below (T21.setTop (mkF m 123 #[.val (.int p0), .val (.int p1), .val (.int p2), .val (.int p3), .val (.int (Int32.ofNat (i.val + 2))), .val (.double (FP.i2d p0)), .second, .val (.double (FP.i2d p1)), .second, .val (.ref b21), .val (.double (FP.i2d p1)), .second, .unset, .unset, .unset, .unset] [(.double (0 : UInt64))])) _
          refine XS.dconst1 X21.here hx rfl (hb hby at_123) rfl ?_
          show Steps p.tables e below (T21.setTop (mkF m 124 #[.val (.int p0), .val (.int p1), .val (.int p2), .val (.int p3), .val (.int (Int32.ofNat (i.val + 2))), .val (.double (FP.i2d p0)), .second, .val (.double (FP.i2d p1)), .second, .val (.ref b21), .val (.double (FP.i2d p1)), .second, .unset, .unset, .unset, .unset] [(.double (4607182418800017408 : UInt64)), (.double (0 : UInt64))])) _
          refine XS.iload X21.here hx rfl (hb hby at_124) rfl ?_
          exact kt
        obtain ⟨_, _, ⟨T33, L33, kc33, nc33⟩, -, X33, ⟨Lc33, hQ33, l33, y33, z33⟩, st33⟩ := Jvm.LawKit.callS X21 hx (y := (⟨"com/example/tesserae/tesserae/problems/Zdt", "evenlySpaced", "(DDI)[D"⟩ : MethodName)) hown (mvT hZ (hw _ (List.mem_of_getElem? (i := 0) rfl))) (mvT hZ (hw _ (List.mem_of_getElem? (i := 1) rfl))) (mvT hZ (hw _ (List.mem_of_getElem? (i := 2) rfl))) (mvT hZ (hw _ (List.mem_of_getElem? (i := 3) rfl))) (by decide) (backOf (W := 0) (rm1b l Z a0 hw [] (0 : UInt64) (4607182418800017408 : UInt64) (Int32.ofNat (i.val + 2)) (i.val + 2) T21.heap n0 z31 c8 (by omega) (by have := i.isLt; omega) own_0m own_1m') hZ (hw _ (List.mem_of_getElem? (i := 3) rfl)) (hw _ (List.mem_of_getElem? (i := 2) rfl)) (by decide) (by decide)) (g := (mkF m 126 #[.val (.int p0), .val (.int p1), .val (.int p2), .val (.int p3), .val (.int (Int32.ofNat (i.val + 2))), .val (.double (FP.i2d p0)), .second, .val (.double (FP.i2d p1)), .second, .val (.ref b21), .val (.double (FP.i2d p1)), .second, .unset, .unset, .unset, .unset] [(.int (Int32.ofNat (i.val + 2))), (.double (4607182418800017408 : UInt64)), (.double (0 : UInt64))])) rfl (by rw [hml]; rfl) (argsL := [(.double (0 : UInt64)), (.double (4607182418800017408 : UInt64)), (.int (Int32.ofNat (i.val + 2)))]) (rest := []) (lenOf pd_0 rfl) rfl (by show 2 * 0 + _ ≤ _; exact Nat.le_of_eq rfl) (hb hby at_126) (fun _ _ => ⟨rfl, rfl, (by decide : 1 + 1 ≤ _), (by decide : 16 + 16 ≤ _)⟩)
        dsimp only [Pt.U, Pt.locs, Pt.cells, Pt.slots] at X33 l33 y33 z33 st33 hQ33
        subst l33 y33 z33
        obtain ⟨rfl, N33q, K33, ⟨kk33, Va33⟩⟩ := hQ33
        have N33 := Fr.app N21 N33q
        obtain ⟨b33, gq33⟩ : ∃ z, z = T21.heap.size := ⟨_, rfl⟩
        rw [← gq33] at Va33 st33
        have gg_b33 : n0 ≤ b33 := Nat.le_trans z31 (Nat.le_of_eq gq33.symm)
        have pre34 : ∀ t, Steps p.tables e below (T33.setTop (mkF m 129 #[.val (.int p0), .val (.int p1), .val (.int p2), .val (.int p3), .val (.int (Int32.ofNat (i.val + 2))), .val (.double (FP.i2d p0)), .second, .val (.double (FP.i2d p1)), .second, .val (.ref b21), .val (.double (FP.i2d p1)), .second, .unset, .unset, .unset, .unset] [(.ref b33)])) t → Steps p.tables e below (s₁.setTop (entryFrame m #[(.int p0), (.int p1), (.int p2), (.int p3)] maxLocals)) t := fun t kt => pre32 _ (st33 _ kt)
        rw [c1] at Va33
        have pre35 : ∀ t, Steps p.tables e below (T33.setTop (mkF m 133 #[.val (.int p0), .val (.int p1), .val (.int p2), .val (.int p3), .val (.int (Int32.ofNat (i.val + 2))), .val (.double (FP.i2d p0)), .second, .val (.double (FP.i2d p1)), .second, .val (.ref b21), .val (.double (FP.i2d p1)), .second, .val (.ref b33), .unset, .unset, .unset] [(.ref b33)])) t → Steps p.tables e below (s₁.setTop (entryFrame m #[(.int p0), (.int p1), (.int p2), (.int p3)] maxLocals)) t := fun t kt => by
          refine pre34 _ ?_
          show Steps p.tables e below (T33.setTop (mkF m 129 #[.val (.int p0), .val (.int p1), .val (.int p2), .val (.int p3), .val (.int (Int32.ofNat (i.val + 2))), .val (.double (FP.i2d p0)), .second, .val (.double (FP.i2d p1)), .second, .val (.ref b21), .val (.double (FP.i2d p1)), .second, .unset, .unset, .unset, .unset] [(.ref b33)])) _
          refine XS.astore X33.here hx rfl (hb hby at_129) rfl rfl (l' := #[.val (.int p0), .val (.int p1), .val (.int p2), .val (.int p3), .val (.int (Int32.ofNat (i.val + 2))), .val (.double (FP.i2d p0)), .second, .val (.double (FP.i2d p1)), .second, .val (.ref b21), .val (.double (FP.i2d p1)), .second, .val (.ref b33), .unset, .unset, .unset]) rfl ?_
          show Steps p.tables e below (T33.setTop (mkF m 131 #[.val (.int p0), .val (.int p1), .val (.int p2), .val (.int p3), .val (.int (Int32.ofNat (i.val + 2))), .val (.double (FP.i2d p0)), .second, .val (.double (FP.i2d p1)), .second, .val (.ref b21), .val (.double (FP.i2d p1)), .second, .val (.ref b33), .unset, .unset, .unset] [])) _
          refine XS.aload X33.here hx rfl (hb hby at_131) rfl rfl ?_
          exact kt
        obtain ⟨cl36, Ar36, qk36, Sz36, Nn36, Hh36, Gg36⟩ := id Va33
        have pre37 : ∀ t, Steps p.tables e below (T33.setTop (mkF m 175 #[.val (.int p0), .val (.int p1), .val (.int p2), .val (.int p3), .val (.int (Int32.ofNat (i.val + 2))), .val (.double (FP.i2d p0)), .second, .val (.double (FP.i2d p1)), .second, .val (.ref b21), .val (.double (FP.i2d p1)), .second, .val (.ref b33), .val (.int (own_k p3 (Int32.ofNat (i.val + 2)))), .val (.double (FP.ddiv (FP.i2d (own_k p3 (Int32.ofNat (i.val + 2)))) (FP.i2d (own_kk i.val)))), .second] [(.int (own_k p3 (Int32.ofNat (i.val + 2)))), (.ref b33)])) t → Steps p.tables e below (s₁.setTop (entryFrame m #[(.int p0), (.int p1), (.int p2), (.int p3)] maxLocals)) t := fun t kt => by
          refine pre35 _ ?_
          show Steps p.tables e below (T33.setTop (mkF m 133 #[.val (.int p0), .val (.int p1), .val (.int p2), .val (.int p3), .val (.int (Int32.ofNat (i.val + 2))), .val (.double (FP.i2d p0)), .second, .val (.double (FP.i2d p1)), .second, .val (.ref b21), .val (.double (FP.i2d p1)), .second, .val (.ref b33), .unset, .unset, .unset] [(.ref b33)])) _
          refine X33.arraylength hx Ar36.1 (State.isArrayOf_alike hZ.alike Ar36.2.1) (g := (mkF m 133 #[.val (.int p0), .val (.int p1), .val (.int p2), .val (.int p3), .val (.int (Int32.ofNat (i.val + 2))), .val (.double (FP.i2d p0)), .second, .val (.double (FP.i2d p1)), .second, .val (.ref b21), .val (.double (FP.i2d p1)), .second, .val (.ref b33), .unset, .unset, .unset] [(.ref b33)])) rfl rfl (hb hby at_133) _ ?_
          rw [len_of Sz36 Nn36]
          show Steps p.tables e below (T33.setTop (mkF m 134 #[.val (.int p0), .val (.int p1), .val (.int p2), .val (.int p3), .val (.int (Int32.ofNat (i.val + 2))), .val (.double (FP.i2d p0)), .second, .val (.double (FP.i2d p1)), .second, .val (.ref b21), .val (.double (FP.i2d p1)), .second, .val (.ref b33), .unset, .unset, .unset] [(.int (Int32.ofNat (i.val + 2)))])) _
          refine XS.iload X33.here hx rfl (hb hby at_134) rfl ?_
          show Steps p.tables e below (T33.setTop (mkF m 136 #[.val (.int p0), .val (.int p1), .val (.int p2), .val (.int p3), .val (.int (Int32.ofNat (i.val + 2))), .val (.double (FP.i2d p0)), .second, .val (.double (FP.i2d p1)), .second, .val (.ref b21), .val (.double (FP.i2d p1)), .second, .val (.ref b33), .unset, .unset, .unset] [(.int (Int32.ofNat (i.val + 2))), (.int (Int32.ofNat (i.val + 2)))])) _
          refine XS.icmpYes X33.here hx rfl (pc0 := 136) (pc' := 141) rfl (hb hby at_136) rfl (teq (rfl : (Int32.ofNat (i.val + 2)) = (Int32.ofNat (i.val + 2)))).1 (by decide) (by decide) ?_
          show Steps p.tables e below (T33.setTop (mkF m 141 #[.val (.int p0), .val (.int p1), .val (.int p2), .val (.int p3), .val (.int (Int32.ofNat (i.val + 2))), .val (.double (FP.i2d p0)), .second, .val (.double (FP.i2d p1)), .second, .val (.ref b21), .val (.double (FP.i2d p1)), .second, .val (.ref b33), .unset, .unset, .unset] [])) _
          refine XS.iloadN X33.here hx rfl (hb hby at_141) rfl ?_
          show Steps p.tables e below (T33.setTop (mkF m 142 #[.val (.int p0), .val (.int p1), .val (.int p2), .val (.int p3), .val (.int (Int32.ofNat (i.val + 2))), .val (.double (FP.i2d p0)), .second, .val (.double (FP.i2d p1)), .second, .val (.ref b21), .val (.double (FP.i2d p1)), .second, .val (.ref b33), .unset, .unset, .unset] [(.int p3)])) _
          refine X33.ldcInt hx hown (mvT hZ (hw _ (List.mem_of_getElem? (i := 6) rfl))) (g := (mkF m 142 #[.val (.int p0), .val (.int p1), .val (.int p2), .val (.int p3), .val (.int (Int32.ofNat (i.val + 2))), .val (.double (FP.i2d p0)), .second, .val (.double (FP.i2d p1)), .second, .val (.ref b21), .val (.double (FP.i2d p1)), .second, .val (.ref b33), .unset, .unset, .unset] [(.int p3)])) rfl (hb hby at_142) _ ?_
          show Steps p.tables e below (T33.setTop (mkF m 144 #[.val (.int p0), .val (.int p1), .val (.int p2), .val (.int p3), .val (.int (Int32.ofNat (i.val + 2))), .val (.double (FP.i2d p0)), .second, .val (.double (FP.i2d p1)), .second, .val (.ref b21), .val (.double (FP.i2d p1)), .second, .val (.ref b33), .unset, .unset, .unset] [(.int (2147483647 : Int32)), (.int p3)])) _
          refine XS.iand X33.here hx rfl (hb hby at_144) rfl ?_
          show Steps p.tables e below (T33.setTop (mkF m 145 #[.val (.int p0), .val (.int p1), .val (.int p2), .val (.int p3), .val (.int (Int32.ofNat (i.val + 2))), .val (.double (FP.i2d p0)), .second, .val (.double (FP.i2d p1)), .second, .val (.ref b21), .val (.double (FP.i2d p1)), .second, .val (.ref b33), .unset, .unset, .unset] [(.int (p3 &&& (2147483647 : Int32)))])) _
          refine XS.iload X33.here hx rfl (hb hby at_145) rfl ?_
          show Steps p.tables e below (T33.setTop (mkF m 147 #[.val (.int p0), .val (.int p1), .val (.int p2), .val (.int p3), .val (.int (Int32.ofNat (i.val + 2))), .val (.double (FP.i2d p0)), .second, .val (.double (FP.i2d p1)), .second, .val (.ref b21), .val (.double (FP.i2d p1)), .second, .val (.ref b33), .unset, .unset, .unset] [(.int (Int32.ofNat (i.val + 2))), (.int (p3 &&& (2147483647 : Int32)))])) _
          refine Jvm.RoadKit.iremM X33 hx rfl (hb hby at_147) rfl (fun q => by rw [q] at c7; exact absurd c7 (by decide)) ?_
          show Steps p.tables e below (T33.setTop (mkF m 148 #[.val (.int p0), .val (.int p1), .val (.int p2), .val (.int p3), .val (.int (Int32.ofNat (i.val + 2))), .val (.double (FP.i2d p0)), .second, .val (.double (FP.i2d p1)), .second, .val (.ref b21), .val (.double (FP.i2d p1)), .second, .val (.ref b33), .unset, .unset, .unset] [(.int (own_k p3 (Int32.ofNat (i.val + 2))))])) _
          show Steps p.tables e below (T33.setTop (mkF m 148 #[.val (.int p0), .val (.int p1), .val (.int p2), .val (.int p3), .val (.int (Int32.ofNat (i.val + 2))), .val (.double (FP.i2d p0)), .second, .val (.double (FP.i2d p1)), .second, .val (.ref b21), .val (.double (FP.i2d p1)), .second, .val (.ref b33), .unset, .unset, .unset] [(.int (own_k p3 (Int32.ofNat (i.val + 2))))])) _
          refine XS.istore X33.here hx rfl (hb hby at_148) rfl (l' := #[.val (.int p0), .val (.int p1), .val (.int p2), .val (.int p3), .val (.int (Int32.ofNat (i.val + 2))), .val (.double (FP.i2d p0)), .second, .val (.double (FP.i2d p1)), .second, .val (.ref b21), .val (.double (FP.i2d p1)), .second, .val (.ref b33), .val (.int (own_k p3 (Int32.ofNat (i.val + 2)))), .unset, .unset]) rfl ?_
          show Steps p.tables e below (T33.setTop (mkF m 150 #[.val (.int p0), .val (.int p1), .val (.int p2), .val (.int p3), .val (.int (Int32.ofNat (i.val + 2))), .val (.double (FP.i2d p0)), .second, .val (.double (FP.i2d p1)), .second, .val (.ref b21), .val (.double (FP.i2d p1)), .second, .val (.ref b33), .val (.int (own_k p3 (Int32.ofNat (i.val + 2)))), .unset, .unset] [])) _
          refine XS.iload X33.here hx rfl (hb hby at_150) rfl ?_
          show Steps p.tables e below (T33.setTop (mkF m 152 #[.val (.int p0), .val (.int p1), .val (.int p2), .val (.int p3), .val (.int (Int32.ofNat (i.val + 2))), .val (.double (FP.i2d p0)), .second, .val (.double (FP.i2d p1)), .second, .val (.ref b21), .val (.double (FP.i2d p1)), .second, .val (.ref b33), .val (.int (own_k p3 (Int32.ofNat (i.val + 2)))), .unset, .unset] [(.int (Int32.ofNat (i.val + 2)))])) _
          refine XS.iconst X33.here hx rfl (hb hby at_152) ?_
          show Steps p.tables e below (T33.setTop (mkF m 153 #[.val (.int p0), .val (.int p1), .val (.int p2), .val (.int p3), .val (.int (Int32.ofNat (i.val + 2))), .val (.double (FP.i2d p0)), .second, .val (.double (FP.i2d p1)), .second, .val (.ref b21), .val (.double (FP.i2d p1)), .second, .val (.ref b33), .val (.int (own_k p3 (Int32.ofNat (i.val + 2)))), .unset, .unset] [(.int (1 : Int32)), (.int (Int32.ofNat (i.val + 2)))])) _
          refine XS.icmpYes X33.here hx rfl (pc0 := 153) (pc' := 160) rfl (hb hby at_153) rfl (feq (c6 : ¬ ((Int32.ofNat (i.val + 2)) = (1 : Int32)))).2 (by decide) (by decide) ?_
          show Steps p.tables e below (T33.setTop (mkF m 160 #[.val (.int p0), .val (.int p1), .val (.int p2), .val (.int p3), .val (.int (Int32.ofNat (i.val + 2))), .val (.double (FP.i2d p0)), .second, .val (.double (FP.i2d p1)), .second, .val (.ref b21), .val (.double (FP.i2d p1)), .second, .val (.ref b33), .val (.int (own_k p3 (Int32.ofNat (i.val + 2)))), .unset, .unset] [])) _
          refine XS.iload X33.here hx rfl (hb hby at_160) rfl ?_
          show Steps p.tables e below (T33.setTop (mkF m 162 #[.val (.int p0), .val (.int p1), .val (.int p2), .val (.int p3), .val (.int (Int32.ofNat (i.val + 2))), .val (.double (FP.i2d p0)), .second, .val (.double (FP.i2d p1)), .second, .val (.ref b21), .val (.double (FP.i2d p1)), .second, .val (.ref b33), .val (.int (own_k p3 (Int32.ofNat (i.val + 2)))), .unset, .unset] [(.int (own_k p3 (Int32.ofNat (i.val + 2))))])) _
          refine XS.i2dS X33.here hx rfl (hb hby at_162) rfl rfl ?_
          show Steps p.tables e below (T33.setTop (mkF m 163 #[.val (.int p0), .val (.int p1), .val (.int p2), .val (.int p3), .val (.int (Int32.ofNat (i.val + 2))), .val (.double (FP.i2d p0)), .second, .val (.double (FP.i2d p1)), .second, .val (.ref b21), .val (.double (FP.i2d p1)), .second, .val (.ref b33), .val (.int (own_k p3 (Int32.ofNat (i.val + 2)))), .unset, .unset] [(.double (FP.i2d (own_k p3 (Int32.ofNat (i.val + 2)))))])) _
          refine XS.iload X33.here hx rfl (hb hby at_163) rfl ?_
          show Steps p.tables e below (T33.setTop (mkF m 165 #[.val (.int p0), .val (.int p1), .val (.int p2), .val (.int p3), .val (.int (Int32.ofNat (i.val + 2))), .val (.double (FP.i2d p0)), .second, .val (.double (FP.i2d p1)), .second, .val (.ref b21), .val (.double (FP.i2d p1)), .second, .val (.ref b33), .val (.int (own_k p3 (Int32.ofNat (i.val + 2)))), .unset, .unset] [(.int (Int32.ofNat (i.val + 2))), (.double (FP.i2d (own_k p3 (Int32.ofNat (i.val + 2)))))])) _
          refine XS.iconst X33.here hx rfl (hb hby at_165) ?_
          show Steps p.tables e below (T33.setTop (mkF m 166 #[.val (.int p0), .val (.int p1), .val (.int p2), .val (.int p3), .val (.int (Int32.ofNat (i.val + 2))), .val (.double (FP.i2d p0)), .second, .val (.double (FP.i2d p1)), .second, .val (.ref b21), .val (.double (FP.i2d p1)), .second, .val (.ref b33), .val (.int (own_k p3 (Int32.ofNat (i.val + 2)))), .unset, .unset] [(.int (1 : Int32)), (.int (Int32.ofNat (i.val + 2))), (.double (FP.i2d (own_k p3 (Int32.ofNat (i.val + 2)))))])) _
          refine XS.isub X33.here hx rfl (hb hby at_166) rfl ?_
          show Steps p.tables e below (T33.setTop (mkF m 167 #[.val (.int p0), .val (.int p1), .val (.int p2), .val (.int p3), .val (.int (Int32.ofNat (i.val + 2))), .val (.double (FP.i2d p0)), .second, .val (.double (FP.i2d p1)), .second, .val (.ref b21), .val (.double (FP.i2d p1)), .second, .val (.ref b33), .val (.int (own_k p3 (Int32.ofNat (i.val + 2)))), .unset, .unset] [(.int ((Int32.ofNat (i.val + 2)) - (1 : Int32))), (.double (FP.i2d (own_k p3 (Int32.ofNat (i.val + 2)))))])) _
          rw [show ((Int32.ofNat (i.val + 2)) - (1 : Int32)) = (own_kk i.val) from c1]
          show Steps p.tables e below (T33.setTop (mkF m 167 #[.val (.int p0), .val (.int p1), .val (.int p2), .val (.int p3), .val (.int (Int32.ofNat (i.val + 2))), .val (.double (FP.i2d p0)), .second, .val (.double (FP.i2d p1)), .second, .val (.ref b21), .val (.double (FP.i2d p1)), .second, .val (.ref b33), .val (.int (own_k p3 (Int32.ofNat (i.val + 2)))), .unset, .unset] [(.int (own_kk i.val)), (.double (FP.i2d (own_k p3 (Int32.ofNat (i.val + 2)))))])) _
          refine XS.i2dS X33.here hx rfl (hb hby at_167) rfl rfl ?_
          show Steps p.tables e below (T33.setTop (mkF m 168 #[.val (.int p0), .val (.int p1), .val (.int p2), .val (.int p3), .val (.int (Int32.ofNat (i.val + 2))), .val (.double (FP.i2d p0)), .second, .val (.double (FP.i2d p1)), .second, .val (.ref b21), .val (.double (FP.i2d p1)), .second, .val (.ref b33), .val (.int (own_k p3 (Int32.ofNat (i.val + 2)))), .unset, .unset] [(.double (FP.i2d (own_kk i.val))), (.double (FP.i2d (own_k p3 (Int32.ofNat (i.val + 2)))))])) _
          refine XS.ddivS X33.here hx rfl (hb hby at_168) rfl (own_t_nn c2 _) rfl ?_
          show Steps p.tables e below (T33.setTop (mkF m 169 #[.val (.int p0), .val (.int p1), .val (.int p2), .val (.int p3), .val (.int (Int32.ofNat (i.val + 2))), .val (.double (FP.i2d p0)), .second, .val (.double (FP.i2d p1)), .second, .val (.ref b21), .val (.double (FP.i2d p1)), .second, .val (.ref b33), .val (.int (own_k p3 (Int32.ofNat (i.val + 2)))), .unset, .unset] [(.double (FP.ddiv (FP.i2d (own_k p3 (Int32.ofNat (i.val + 2)))) (FP.i2d (own_kk i.val))))])) _
          refine XS.dstore X33.here hx rfl (hb hby at_169) rfl (l' := #[.val (.int p0), .val (.int p1), .val (.int p2), .val (.int p3), .val (.int (Int32.ofNat (i.val + 2))), .val (.double (FP.i2d p0)), .second, .val (.double (FP.i2d p1)), .second, .val (.ref b21), .val (.double (FP.i2d p1)), .second, .val (.ref b33), .val (.int (own_k p3 (Int32.ofNat (i.val + 2)))), .val (.double (FP.ddiv (FP.i2d (own_k p3 (Int32.ofNat (i.val + 2)))) (FP.i2d (own_kk i.val)))), .second]) rfl ?_
          show Steps p.tables e below (T33.setTop (mkF m 171 #[.val (.int p0), .val (.int p1), .val (.int p2), .val (.int p3), .val (.int (Int32.ofNat (i.val + 2))), .val (.double (FP.i2d p0)), .second, .val (.double (FP.i2d p1)), .second, .val (.ref b21), .val (.double (FP.i2d p1)), .second, .val (.ref b33), .val (.int (own_k p3 (Int32.ofNat (i.val + 2)))), .val (.double (FP.ddiv (FP.i2d (own_k p3 (Int32.ofNat (i.val + 2)))) (FP.i2d (own_kk i.val)))), .second] [])) _
          refine XS.aload X33.here hx rfl (hb hby at_171) rfl rfl ?_
          show Steps p.tables e below (T33.setTop (mkF m 173 #[.val (.int p0), .val (.int p1), .val (.int p2), .val (.int p3), .val (.int (Int32.ofNat (i.val + 2))), .val (.double (FP.i2d p0)), .second, .val (.double (FP.i2d p1)), .second, .val (.ref b21), .val (.double (FP.i2d p1)), .second, .val (.ref b33), .val (.int (own_k p3 (Int32.ofNat (i.val + 2)))), .val (.double (FP.ddiv (FP.i2d (own_k p3 (Int32.ofNat (i.val + 2)))) (FP.i2d (own_kk i.val)))), .second] [(.ref b33)])) _
          refine XS.iload X33.here hx rfl (hb hby at_173) rfl ?_
          exact kt
        have kb := own_k_b p3 (Int32.ofNat (i.val + 2)) (by rw [c8]; omega)
        obtain ⟨cl38, Ar38, qk38, Sz38, Nn38, Hh38, Gg38⟩ := id Va33
        have hin38 : ¬ ((own_k p3 (Int32.ofNat (i.val + 2))) < 0 ∨ cl38.slots.size ≤ ((own_k p3 (Int32.ofNat (i.val + 2)))).toNatClampNeg) := inb_of Sz38 kb
        have hat38 : cl38.slots[((own_k p3 (Int32.ofNat (i.val + 2)))).toNatClampNeg]? = some (.double (own_el (0 : UInt64) (4607182418800017408 : UInt64) (own_kk i.val) (own_k p3 (Int32.ofNat (i.val + 2))))) := Hh38.at hin38 (by rw [own_vl_at _ _ _ _ _ (by have h := kb.2; rw [Int32.lt_iff_toInt_lt, c8] at h; show (own_k p3 (Int32.ofNat (i.val + 2))).toInt.toNat < _; omega), own_nat kb.1])
        have pre39 : ∀ t, Steps p.tables e below (T33.setTop (mkF m 187 #[.val (.int p0), .val (.int p1), .val (.int p2), .val (.int p3), .val (.int (Int32.ofNat (i.val + 2))), .val (.double (FP.i2d p0)), .second, .val (.double (FP.i2d p1)), .second, .val (.ref b21), .val (.double (FP.i2d p1)), .second, .val (.ref b33), .val (.int (own_k p3 (Int32.ofNat (i.val + 2)))), .val (.double (FP.ddiv (FP.i2d (own_k p3 (Int32.ofNat (i.val + 2)))) (FP.i2d (own_kk i.val)))), .second] [(.int (1 : Int32))])) t → Steps p.tables e below (s₁.setTop (entryFrame m #[(.int p0), (.int p1), (.int p2), (.int p3)] maxLocals)) t := fun t kt => by
          refine pre37 _ ?_
          show Steps p.tables e below (T33.setTop (mkF m 175 #[.val (.int p0), .val (.int p1), .val (.int p2), .val (.int p3), .val (.int (Int32.ofNat (i.val + 2))), .val (.double (FP.i2d p0)), .second, .val (.double (FP.i2d p1)), .second, .val (.ref b21), .val (.double (FP.i2d p1)), .second, .val (.ref b33), .val (.int (own_k p3 (Int32.ofNat (i.val + 2)))), .val (.double (FP.ddiv (FP.i2d (own_k p3 (Int32.ofNat (i.val + 2)))) (FP.i2d (own_kk i.val)))), .second] [(.int (own_k p3 (Int32.ofNat (i.val + 2)))), (.ref b33)])) _
          refine X33.daload hx (j := (own_k p3 (Int32.ofNat (i.val + 2)))) (v := (.double (own_el (0 : UInt64) (4607182418800017408 : UInt64) (own_kk i.val) (own_k p3 (Int32.ofNat (i.val + 2)))))) Ar38.1 (State.isArrayOf_alike hZ.alike Ar38.2.1) Ar38.2.2 hin38 hat38 (g := (mkF m 175 #[.val (.int p0), .val (.int p1), .val (.int p2), .val (.int p3), .val (.int (Int32.ofNat (i.val + 2))), .val (.double (FP.i2d p0)), .second, .val (.double (FP.i2d p1)), .second, .val (.ref b21), .val (.double (FP.i2d p1)), .second, .val (.ref b33), .val (.int (own_k p3 (Int32.ofNat (i.val + 2)))), .val (.double (FP.ddiv (FP.i2d (own_k p3 (Int32.ofNat (i.val + 2)))) (FP.i2d (own_kk i.val)))), .second] [(.int (own_k p3 (Int32.ofNat (i.val + 2)))), (.ref b33)])) rfl rfl (hb hby at_175) _ ?_
          show Steps p.tables e below (T33.setTop (mkF m 176 #[.val (.int p0), .val (.int p1), .val (.int p2), .val (.int p3), .val (.int (Int32.ofNat (i.val + 2))), .val (.double (FP.i2d p0)), .second, .val (.double (FP.i2d p1)), .second, .val (.ref b21), .val (.double (FP.i2d p1)), .second, .val (.ref b33), .val (.int (own_k p3 (Int32.ofNat (i.val + 2)))), .val (.double (FP.ddiv (FP.i2d (own_k p3 (Int32.ofNat (i.val + 2)))) (FP.i2d (own_kk i.val)))), .second] [(.double (own_el (0 : UInt64) (4607182418800017408 : UInt64) (own_kk i.val) (own_k p3 (Int32.ofNat (i.val + 2)))))])) _
          refine XS.dload X33.here hx rfl (hb hby at_176) rfl ?_
          show Steps p.tables e below (T33.setTop (mkF m 178 #[.val (.int p0), .val (.int p1), .val (.int p2), .val (.int p3), .val (.int (Int32.ofNat (i.val + 2))), .val (.double (FP.i2d p0)), .second, .val (.double (FP.i2d p1)), .second, .val (.ref b21), .val (.double (FP.i2d p1)), .second, .val (.ref b33), .val (.int (own_k p3 (Int32.ofNat (i.val + 2)))), .val (.double (FP.ddiv (FP.i2d (own_k p3 (Int32.ofNat (i.val + 2)))) (FP.i2d (own_kk i.val)))), .second] [(.double (FP.ddiv (FP.i2d (own_k p3 (Int32.ofNat (i.val + 2)))) (FP.i2d (own_kk i.val)))), (.double (own_el (0 : UInt64) (4607182418800017408 : UInt64) (own_kk i.val) (own_k p3 (Int32.ofNat (i.val + 2)))))])) _
          refine XS.dcmpS X33.here hx rfl (hb hby at_178) rfl (v := (0 : Int32)) (own_unit c2 (own_k p3 (Int32.ofNat (i.val + 2))) _) ?_
          show Steps p.tables e below (T33.setTop (mkF m 179 #[.val (.int p0), .val (.int p1), .val (.int p2), .val (.int p3), .val (.int (Int32.ofNat (i.val + 2))), .val (.double (FP.i2d p0)), .second, .val (.double (FP.i2d p1)), .second, .val (.ref b21), .val (.double (FP.i2d p1)), .second, .val (.ref b33), .val (.int (own_k p3 (Int32.ofNat (i.val + 2)))), .val (.double (FP.ddiv (FP.i2d (own_k p3 (Int32.ofNat (i.val + 2)))) (FP.i2d (own_kk i.val)))), .second] [(.int (0 : Int32))])) _
          refine XS.ifNo X33.here hx rfl (hb hby at_179) rfl ((if0 _ _).trans (teq (by decide : (0 : Int32) = (0 : Int32))).2) ?_
          show Steps p.tables e below (T33.setTop (mkF m 182 #[.val (.int p0), .val (.int p1), .val (.int p2), .val (.int p3), .val (.int (Int32.ofNat (i.val + 2))), .val (.double (FP.i2d p0)), .second, .val (.double (FP.i2d p1)), .second, .val (.ref b21), .val (.double (FP.i2d p1)), .second, .val (.ref b33), .val (.int (own_k p3 (Int32.ofNat (i.val + 2)))), .val (.double (FP.ddiv (FP.i2d (own_k p3 (Int32.ofNat (i.val + 2)))) (FP.i2d (own_kk i.val)))), .second] [])) _
          refine XS.iconst X33.here hx rfl (hb hby at_182) ?_
          show Steps p.tables e below (T33.setTop (mkF m 183 #[.val (.int p0), .val (.int p1), .val (.int p2), .val (.int p3), .val (.int (Int32.ofNat (i.val + 2))), .val (.double (FP.i2d p0)), .second, .val (.double (FP.i2d p1)), .second, .val (.ref b21), .val (.double (FP.i2d p1)), .second, .val (.ref b33), .val (.int (own_k p3 (Int32.ofNat (i.val + 2)))), .val (.double (FP.ddiv (FP.i2d (own_k p3 (Int32.ofNat (i.val + 2)))) (FP.i2d (own_kk i.val)))), .second] [(.int (1 : Int32))])) _
          refine XS.goto X33.here hx rfl (pc0 := 183) (pc' := 187) rfl (hb hby at_183) (by decide) (by decide) ?_
          exact kt
        obtain ⟨fs, hr, hrun, hended, hW, hsame⟩ := X33.leave (v := (some (.int (1 : Int32)))) (fun h => by rw [Bd.returns] at h; cases h)
        refine ⟨_, _, pre39 _ ?_, hrun, hended, _, _, rfl, ?_, ⟨_, rfl⟩, hW, hsame.mono (by decide) (by decide)⟩
        · show Steps p.tables e below (T33.setTop (mkF m 187 #[.val (.int p0), .val (.int p1), .val (.int p2), .val (.int p3), .val (.int (Int32.ofNat (i.val + 2))), .val (.double (FP.i2d p0)), .second, .val (.double (FP.i2d p1)), .second, .val (.ref b21), .val (.double (FP.i2d p1)), .second, .val (.ref b33), .val (.int (own_k p3 (Int32.ofNat (i.val + 2)))), .val (.double (FP.ddiv (FP.i2d (own_k p3 (Int32.ofNat (i.val + 2)))) (FP.i2d (own_kk i.val)))), .second] [(.int (1 : Int32))])) _
          exact retN X33 hx (t := .boolean) Bd.returns (by simp) (hb hby at_187) hr
        · show Q0 Z p0 p1 p2 p3 h0 n0 _ T33.heap _
          exact ⟨rfl, N33⟩
      · obtain ⟨j, hj, hd⟩ := own_odd i o1 o2
        have pre40 : ∀ t, Steps p.tables e below (T21.setTop (mkF m 113 #[.val (.int p0), .val (.int p1), .val (.int p2), .val (.int p3), .val (.int (Int32.ofNat (i.val + 2))), .val (.double (FP.i2d p0)), .second, .val (.double (FP.i2d p1)), .second, .val (.ref b21), .val (.double (FP.i2d p1)), .second, .val (.double (FP.ddiv (FP.l2d ((p0.toInt64) + (p1.toInt64))) (4611686018427387904 : UInt64))), .second, .unset, .unset] [(.int (own_kk j.val)), (.ref b21)])) t → Steps p.tables e below (s₁.setTop (entryFrame m #[(.int p0), (.int p1), (.int p2), (.int p3)] maxLocals)) t := fun t kt => by
          refine pre30 _ ?_
          show Steps p.tables e below (T21.setTop (mkF m 90 #[.val (.int p0), .val (.int p1), .val (.int p2), .val (.int p3), .val (.int (Int32.ofNat (i.val + 2))), .val (.double (FP.i2d p0)), .second, .val (.double (FP.i2d p1)), .second, .val (.ref b21), .val (.double (FP.i2d p1)), .second, .unset, .unset, .unset, .unset] [(.int (3 : Int32)), (.int (Int32.ofNat (i.val + 2)))])) _
          refine XS.icmpNo X21.here hx rfl (hb hby at_90) rfl (flt (o2 : ¬ ((Int32.ofNat (i.val + 2)) < (3 : Int32)))).1 ?_
          show Steps p.tables e below (T21.setTop (mkF m 93 #[.val (.int p0), .val (.int p1), .val (.int p2), .val (.int p3), .val (.int (Int32.ofNat (i.val + 2))), .val (.double (FP.i2d p0)), .second, .val (.double (FP.i2d p1)), .second, .val (.ref b21), .val (.double (FP.i2d p1)), .second, .unset, .unset, .unset, .unset] [])) _
          refine XS.iloadN X21.here hx rfl (hb hby at_93) rfl ?_
          show Steps p.tables e below (T21.setTop (mkF m 94 #[.val (.int p0), .val (.int p1), .val (.int p2), .val (.int p3), .val (.int (Int32.ofNat (i.val + 2))), .val (.double (FP.i2d p0)), .second, .val (.double (FP.i2d p1)), .second, .val (.ref b21), .val (.double (FP.i2d p1)), .second, .unset, .unset, .unset, .unset] [(.int p0)])) _
          refine XS.i2l X21.here hx rfl (hb hby at_94) rfl ?_
          show Steps p.tables e below (T21.setTop (mkF m 95 #[.val (.int p0), .val (.int p1), .val (.int p2), .val (.int p3), .val (.int (Int32.ofNat (i.val + 2))), .val (.double (FP.i2d p0)), .second, .val (.double (FP.i2d p1)), .second, .val (.ref b21), .val (.double (FP.i2d p1)), .second, .unset, .unset, .unset, .unset] [(.long (p0.toInt64))])) _
          refine XS.iloadN X21.here hx rfl (hb hby at_95) rfl ?_
          show Steps p.tables e below (T21.setTop (mkF m 96 #[.val (.int p0), .val (.int p1), .val (.int p2), .val (.int p3), .val (.int (Int32.ofNat (i.val + 2))), .val (.double (FP.i2d p0)), .second, .val (.double (FP.i2d p1)), .second, .val (.ref b21), .val (.double (FP.i2d p1)), .second, .unset, .unset, .unset, .unset] [(.int p1), (.long (p0.toInt64))])) _
          refine XS.i2l X21.here hx rfl (hb hby at_96) rfl ?_
          show Steps p.tables e below (T21.setTop (mkF m 97 #[.val (.int p0), .val (.int p1), .val (.int p2), .val (.int p3), .val (.int (Int32.ofNat (i.val + 2))), .val (.double (FP.i2d p0)), .second, .val (.double (FP.i2d p1)), .second, .val (.ref b21), .val (.double (FP.i2d p1)), .second, .unset, .unset, .unset, .unset] [(.long (p1.toInt64)), (.long (p0.toInt64))])) _
          refine XS.ladd X21.here hx rfl (hb hby at_97) rfl ?_
          show Steps p.tables e below (T21.setTop (mkF m 98 #[.val (.int p0), .val (.int p1), .val (.int p2), .val (.int p3), .val (.int (Int32.ofNat (i.val + 2))), .val (.double (FP.i2d p0)), .second, .val (.double (FP.i2d p1)), .second, .val (.ref b21), .val (.double (FP.i2d p1)), .second, .unset, .unset, .unset, .unset] [(.long ((p0.toInt64) + (p1.toInt64)))])) _
          refine XS.l2dS X21.here hx rfl (hb hby at_98) rfl rfl ?_
          show Steps p.tables e below (T21.setTop (mkF m 99 #[.val (.int p0), .val (.int p1), .val (.int p2), .val (.int p3), .val (.int (Int32.ofNat (i.val + 2))), .val (.double (FP.i2d p0)), .second, .val (.double (FP.i2d p1)), .second, .val (.ref b21), .val (.double (FP.i2d p1)), .second, .unset, .unset, .unset, .unset] [(.double (FP.l2d ((p0.toInt64) + (p1.toInt64))))])) _
          refine X21.ldc2DoubleC hx hown (mvT hZ (hw _ (List.mem_of_getElem? (i := 5) rfl))) (g := (mkF m 99 #[.val (.int p0), .val (.int p1), .val (.int p2), .val (.int p3), .val (.int (Int32.ofNat (i.val + 2))), .val (.double (FP.i2d p0)), .second, .val (.double (FP.i2d p1)), .second, .val (.ref b21), .val (.double (FP.i2d p1)), .second, .unset, .unset, .unset, .unset] [(.double (FP.l2d ((p0.toInt64) + (p1.toInt64))))])) rfl (hb hby at_99) _ ?_
          show Steps p.tables e below (T21.setTop (mkF m 102 #[.val (.int p0), .val (.int p1), .val (.int p2), .val (.int p3), .val (.int (Int32.ofNat (i.val + 2))), .val (.double (FP.i2d p0)), .second, .val (.double (FP.i2d p1)), .second, .val (.ref b21), .val (.double (FP.i2d p1)), .second, .unset, .unset, .unset, .unset] [(.double (4611686018427387904 : UInt64)), (.double (FP.l2d ((p0.toInt64) + (p1.toInt64))))])) _
          refine XS.ddivS X21.here hx rfl (hb hby at_102) rfl (own_2_nn _) rfl ?_
          show Steps p.tables e below (T21.setTop (mkF m 103 #[.val (.int p0), .val (.int p1), .val (.int p2), .val (.int p3), .val (.int (Int32.ofNat (i.val + 2))), .val (.double (FP.i2d p0)), .second, .val (.double (FP.i2d p1)), .second, .val (.ref b21), .val (.double (FP.i2d p1)), .second, .unset, .unset, .unset, .unset] [(.double (FP.ddiv (FP.l2d ((p0.toInt64) + (p1.toInt64))) (4611686018427387904 : UInt64)))])) _
          refine XS.dstore X21.here hx rfl (hb hby at_103) rfl (l' := #[.val (.int p0), .val (.int p1), .val (.int p2), .val (.int p3), .val (.int (Int32.ofNat (i.val + 2))), .val (.double (FP.i2d p0)), .second, .val (.double (FP.i2d p1)), .second, .val (.ref b21), .val (.double (FP.i2d p1)), .second, .val (.double (FP.ddiv (FP.l2d ((p0.toInt64) + (p1.toInt64))) (4611686018427387904 : UInt64))), .second, .unset, .unset]) rfl ?_
          show Steps p.tables e below (T21.setTop (mkF m 105 #[.val (.int p0), .val (.int p1), .val (.int p2), .val (.int p3), .val (.int (Int32.ofNat (i.val + 2))), .val (.double (FP.i2d p0)), .second, .val (.double (FP.i2d p1)), .second, .val (.ref b21), .val (.double (FP.i2d p1)), .second, .val (.double (FP.ddiv (FP.l2d ((p0.toInt64) + (p1.toInt64))) (4611686018427387904 : UInt64))), .second, .unset, .unset] [])) _
          refine XS.aload X21.here hx rfl (hb hby at_105) rfl rfl ?_
          show Steps p.tables e below (T21.setTop (mkF m 107 #[.val (.int p0), .val (.int p1), .val (.int p2), .val (.int p3), .val (.int (Int32.ofNat (i.val + 2))), .val (.double (FP.i2d p0)), .second, .val (.double (FP.i2d p1)), .second, .val (.ref b21), .val (.double (FP.i2d p1)), .second, .val (.double (FP.ddiv (FP.l2d ((p0.toInt64) + (p1.toInt64))) (4611686018427387904 : UInt64))), .second, .unset, .unset] [(.ref b21)])) _
          refine XS.iload X21.here hx rfl (hb hby at_107) rfl ?_
          show Steps p.tables e below (T21.setTop (mkF m 109 #[.val (.int p0), .val (.int p1), .val (.int p2), .val (.int p3), .val (.int (Int32.ofNat (i.val + 2))), .val (.double (FP.i2d p0)), .second, .val (.double (FP.i2d p1)), .second, .val (.ref b21), .val (.double (FP.i2d p1)), .second, .val (.double (FP.ddiv (FP.l2d ((p0.toInt64) + (p1.toInt64))) (4611686018427387904 : UInt64))), .second, .unset, .unset] [(.int (Int32.ofNat (i.val + 2))), (.ref b21)])) _
          refine XS.iconst X21.here hx rfl (hb hby at_109) ?_
          show Steps p.tables e below (T21.setTop (mkF m 110 #[.val (.int p0), .val (.int p1), .val (.int p2), .val (.int p3), .val (.int (Int32.ofNat (i.val + 2))), .val (.double (FP.i2d p0)), .second, .val (.double (FP.i2d p1)), .second, .val (.ref b21), .val (.double (FP.i2d p1)), .second, .val (.double (FP.ddiv (FP.l2d ((p0.toInt64) + (p1.toInt64))) (4611686018427387904 : UInt64))), .second, .unset, .unset] [(.int (1 : Int32)), (.int (Int32.ofNat (i.val + 2))), (.ref b21)])) _
          refine XS.isub X21.here hx rfl (hb hby at_110) rfl ?_
          show Steps p.tables e below (T21.setTop (mkF m 111 #[.val (.int p0), .val (.int p1), .val (.int p2), .val (.int p3), .val (.int (Int32.ofNat (i.val + 2))), .val (.double (FP.i2d p0)), .second, .val (.double (FP.i2d p1)), .second, .val (.ref b21), .val (.double (FP.i2d p1)), .second, .val (.double (FP.ddiv (FP.l2d ((p0.toInt64) + (p1.toInt64))) (4611686018427387904 : UInt64))), .second, .unset, .unset] [(.int ((Int32.ofNat (i.val + 2)) - (1 : Int32))), (.ref b21)])) _
          rw [show ((Int32.ofNat (i.val + 2)) - (1 : Int32)) = (own_kk i.val) from c1]
          show Steps p.tables e below (T21.setTop (mkF m 111 #[.val (.int p0), .val (.int p1), .val (.int p2), .val (.int p3), .val (.int (Int32.ofNat (i.val + 2))), .val (.double (FP.i2d p0)), .second, .val (.double (FP.i2d p1)), .second, .val (.ref b21), .val (.double (FP.i2d p1)), .second, .val (.double (FP.ddiv (FP.l2d ((p0.toInt64) + (p1.toInt64))) (4611686018427387904 : UInt64))), .second, .unset, .unset] [(.int (own_kk i.val)), (.ref b21)])) _
          refine XS.iconst X21.here hx rfl (hb hby at_111) ?_
          show Steps p.tables e below (T21.setTop (mkF m 112 #[.val (.int p0), .val (.int p1), .val (.int p2), .val (.int p3), .val (.int (Int32.ofNat (i.val + 2))), .val (.double (FP.i2d p0)), .second, .val (.double (FP.i2d p1)), .second, .val (.ref b21), .val (.double (FP.i2d p1)), .second, .val (.double (FP.ddiv (FP.l2d ((p0.toInt64) + (p1.toInt64))) (4611686018427387904 : UInt64))), .second, .unset, .unset] [(.int (2 : Int32)), (.int (own_kk i.val)), (.ref b21)])) _
          refine XS.idiv X21.here hx rfl (hb hby at_112) rfl (by decide) ?_
          show Steps p.tables e below (T21.setTop (mkF m 113 #[.val (.int p0), .val (.int p1), .val (.int p2), .val (.int p3), .val (.int (Int32.ofNat (i.val + 2))), .val (.double (FP.i2d p0)), .second, .val (.double (FP.i2d p1)), .second, .val (.ref b21), .val (.double (FP.i2d p1)), .second, .val (.double (FP.ddiv (FP.l2d ((p0.toInt64) + (p1.toInt64))) (4611686018427387904 : UInt64))), .second, .unset, .unset] [(.int ((own_kk i.val) / (2 : Int32))), (.ref b21)])) _
          rw [show ((own_kk i.val) / (2 : Int32)) = (own_kk j.val) from hd]
          exact kt
        obtain ⟨d1, d2, d3⟩ := own_mid_b j
        obtain ⟨cl41, Ar41, qk41, Sz41, Nn41, Hh41, Gg41⟩ := id Va21
        have hin41 : ¬ ((own_kk j.val) < 0 ∨ cl41.slots.size ≤ ((own_kk j.val)).toNatClampNeg) := inb_of Sz41 ⟨d1, by rw [hj]; exact d2⟩
        have hat41 : cl41.slots[((own_kk j.val)).toNatClampNeg]? = some (.double (own_el (FP.i2d p0) (FP.i2d p1) (own_kk i.val) (own_kk j.val))) := Hh41.at hin41 (by rw [d3, own_vl_at _ _ _ _ _ (by omega)]; rfl)
        have z42 : n0 ≤ T21.heap.size := (Nat.le_trans Z0 K21.1)
        have pre43 : ∀ t, Steps p.tables e below (T21.setTop (mkF m 126 #[.val (.int p0), .val (.int p1), .val (.int p2), .val (.int p3), .val (.int (Int32.ofNat (i.val + 2))), .val (.double (FP.i2d p0)), .second, .val (.double (FP.i2d p1)), .second, .val (.ref b21), .val (.double (FP.i2d p1)), .second, .val (.double (FP.ddiv (FP.l2d ((p0.toInt64) + (p1.toInt64))) (4611686018427387904 : UInt64))), .second, .unset, .unset] [(.int (Int32.ofNat (i.val + 2))), (.double (4607182418800017408 : UInt64)), (.double (0 : UInt64))])) t → Steps p.tables e below (s₁.setTop (entryFrame m #[(.int p0), (.int p1), (.int p2), (.int p3)] maxLocals)) t := fun t kt => by
          refine pre40 _ ?_
          show Steps p.tables e below (T21.setTop (mkF m 113 #[.val (.int p0), .val (.int p1), .val (.int p2), .val (.int p3), .val (.int (Int32.ofNat (i.val + 2))), .val (.double (FP.i2d p0)), .second, .val (.double (FP.i2d p1)), .second, .val (.ref b21), .val (.double (FP.i2d p1)), .second, .val (.double (FP.ddiv (FP.l2d ((p0.toInt64) + (p1.toInt64))) (4611686018427387904 : UInt64))), .second, .unset, .unset] [(.int (own_kk j.val)), (.ref b21)])) _
          refine X21.daload hx (j := (own_kk j.val)) (v := (.double (own_el (FP.i2d p0) (FP.i2d p1) (own_kk i.val) (own_kk j.val)))) Ar41.1 (State.isArrayOf_alike hZ.alike Ar41.2.1) Ar41.2.2 hin41 hat41 (g := (mkF m 113 #[.val (.int p0), .val (.int p1), .val (.int p2), .val (.int p3), .val (.int (Int32.ofNat (i.val + 2))), .val (.double (FP.i2d p0)), .second, .val (.double (FP.i2d p1)), .second, .val (.ref b21), .val (.double (FP.i2d p1)), .second, .val (.double (FP.ddiv (FP.l2d ((p0.toInt64) + (p1.toInt64))) (4611686018427387904 : UInt64))), .second, .unset, .unset] [(.int (own_kk j.val)), (.ref b21)])) rfl rfl (hb hby at_113) _ ?_
          show Steps p.tables e below (T21.setTop (mkF m 114 #[.val (.int p0), .val (.int p1), .val (.int p2), .val (.int p3), .val (.int (Int32.ofNat (i.val + 2))), .val (.double (FP.i2d p0)), .second, .val (.double (FP.i2d p1)), .second, .val (.ref b21), .val (.double (FP.i2d p1)), .second, .val (.double (FP.ddiv (FP.l2d ((p0.toInt64) + (p1.toInt64))) (4611686018427387904 : UInt64))), .second, .unset, .unset] [(.double (own_el (FP.i2d p0) (FP.i2d p1) (own_kk i.val) (own_kk j.val)))])) _
          refine XS.dload X21.here hx rfl (hb hby at_114) rfl ?_
          show Steps p.tables e below (T21.setTop (mkF m 116 #[.val (.int p0), .val (.int p1), .val (.int p2), .val (.int p3), .val (.int (Int32.ofNat (i.val + 2))), .val (.double (FP.i2d p0)), .second, .val (.double (FP.i2d p1)), .second, .val (.ref b21), .val (.double (FP.i2d p1)), .second, .val (.double (FP.ddiv (FP.l2d ((p0.toInt64) + (p1.toInt64))) (4611686018427387904 : UInt64))), .second, .unset, .unset] [(.double (FP.ddiv (FP.l2d ((p0.toInt64) + (p1.toInt64))) (4611686018427387904 : UInt64))), (.double (own_el (FP.i2d p0) (FP.i2d p1) (own_kk i.val) (own_kk j.val)))])) _
          refine XS.dcmpS X21.here hx rfl (hb hby at_116) rfl (v := (0 : Int32)) (by rw [show i.val = 2 * j.val + 1 from hj]; exact own_mid j p0 p1 _) ?_
          show Steps p.tables e below (T21.setTop (mkF m 117 #[.val (.int p0), .val (.int p1), .val (.int p2), .val (.int p3), .val (.int (Int32.ofNat (i.val + 2))), .val (.double (FP.i2d p0)), .second, .val (.double (FP.i2d p1)), .second, .val (.ref b21), .val (.double (FP.i2d p1)), .second, .val (.double (FP.ddiv (FP.l2d ((p0.toInt64) + (p1.toInt64))) (4611686018427387904 : UInt64))), .second, .unset, .unset] [(.int (0 : Int32))])) _
          refine XS.ifYes X21.here hx rfl (pc0 := 117) (pc' := 122) rfl (hb hby at_117) rfl ((if0 _ _).trans (teq (by decide : (0 : Int32) = (0 : Int32))).1) (by decide) (by decide) ?_
          show Steps p.tables e below (T21.setTop (mkF m 122 #[.val (.int p0), .val (.int p1), .val (.int p2), .val (.int p3), .val (.int (Int32.ofNat (i.val + 2))), .val (.double (FP.i2d p0)), .second, .val (.double (FP.i2d p1)), .second, .val (.ref b21), .val (.double (FP.i2d p1)), .second, .val (.double (FP.ddiv (FP.l2d ((p0.toInt64) + (p1.toInt64))) (4611686018427387904 : UInt64))), .second, .unset, .unset] [])) _
          refine XS.dconst0 X21.here hx rfl (hb hby at_122) rfl ?_
          show Steps p.tables e below (T21.setTop (mkF m 123 #[.val (.int p0), .val (.int p1), .val (.int p2), .val (.int p3), .val (.int (Int32.ofNat (i.val + 2))), .val (.double (FP.i2d p0)), .second, .val (.double (FP.i2d p1)), .second, .val (.ref b21), .val (.double (FP.i2d p1)), .second, .val (.double (FP.ddiv (FP.l2d ((p0.toInt64) + (p1.toInt64))) (4611686018427387904 : UInt64))), .second, .unset, .unset] [(.double (0 : UInt64))])) _
          refine XS.dconst1 X21.here hx rfl (hb hby at_123) rfl ?_
          show Steps p.tables e below (T21.setTop (mkF m 124 #[.val (.int p0), .val (.int p1), .val (.int p2), .val (.int p3), .val (.int (Int32.ofNat (i.val + 2))), .val (.double (FP.i2d p0)), .second, .val (.double (FP.i2d p1)), .second, .val (.ref b21), .val (.double (FP.i2d p1)), .second, .val (.double (FP.ddiv (FP.l2d ((p0.toInt64) + (p1.toInt64))) (4611686018427387904 : UInt64))), .second, .unset, .unset] [(.double (4607182418800017408 : UInt64)), (.double (0 : UInt64))])) _
          refine XS.iload X21.here hx rfl (hb hby at_124) rfl ?_
          exact kt
        obtain ⟨_, _, ⟨T44, L44, kc44, nc44⟩, -, X44, ⟨Lc44, hQ44, l44, y44, z44⟩, st44⟩ := Jvm.LawKit.callS X21 hx (y := (⟨"com/example/tesserae/tesserae/problems/Zdt", "evenlySpaced", "(DDI)[D"⟩ : MethodName)) hown (mvT hZ (hw _ (List.mem_of_getElem? (i := 0) rfl))) (mvT hZ (hw _ (List.mem_of_getElem? (i := 1) rfl))) (mvT hZ (hw _ (List.mem_of_getElem? (i := 2) rfl))) (mvT hZ (hw _ (List.mem_of_getElem? (i := 3) rfl))) (by decide) (backOf (W := 0) (rm1b l Z a0 hw [] (0 : UInt64) (4607182418800017408 : UInt64) (Int32.ofNat (i.val + 2)) (i.val + 2) T21.heap n0 z42 c8 (by omega) (by have := i.isLt; omega) own_0m own_1m') hZ (hw _ (List.mem_of_getElem? (i := 3) rfl)) (hw _ (List.mem_of_getElem? (i := 2) rfl)) (by decide) (by decide)) (g := (mkF m 126 #[.val (.int p0), .val (.int p1), .val (.int p2), .val (.int p3), .val (.int (Int32.ofNat (i.val + 2))), .val (.double (FP.i2d p0)), .second, .val (.double (FP.i2d p1)), .second, .val (.ref b21), .val (.double (FP.i2d p1)), .second, .val (.double (FP.ddiv (FP.l2d ((p0.toInt64) + (p1.toInt64))) (4611686018427387904 : UInt64))), .second, .unset, .unset] [(.int (Int32.ofNat (i.val + 2))), (.double (4607182418800017408 : UInt64)), (.double (0 : UInt64))])) rfl (by rw [hml]; rfl) (argsL := [(.double (0 : UInt64)), (.double (4607182418800017408 : UInt64)), (.int (Int32.ofNat (i.val + 2)))]) (rest := []) (lenOf pd_0 rfl) rfl (by show 2 * 0 + _ ≤ _; exact Nat.le_of_eq rfl) (hb hby at_126) (fun _ _ => ⟨rfl, rfl, (by decide : 1 + 1 ≤ _), (by decide : 16 + 16 ≤ _)⟩)
        dsimp only [Pt.U, Pt.locs, Pt.cells, Pt.slots] at X44 l44 y44 z44 st44 hQ44
        subst l44 y44 z44
        obtain ⟨rfl, N44q, K44, ⟨kk44, Va44⟩⟩ := hQ44
        have N44 := Fr.app N21 N44q
        obtain ⟨b44, gq44⟩ : ∃ z, z = T21.heap.size := ⟨_, rfl⟩
        rw [← gq44] at Va44 st44
        have gg_b44 : n0 ≤ b44 := Nat.le_trans z42 (Nat.le_of_eq gq44.symm)
        have pre45 : ∀ t, Steps p.tables e below (T44.setTop (mkF m 129 #[.val (.int p0), .val (.int p1), .val (.int p2), .val (.int p3), .val (.int (Int32.ofNat (i.val + 2))), .val (.double (FP.i2d p0)), .second, .val (.double (FP.i2d p1)), .second, .val (.ref b21), .val (.double (FP.i2d p1)), .second, .val (.double (FP.ddiv (FP.l2d ((p0.toInt64) + (p1.toInt64))) (4611686018427387904 : UInt64))), .second, .unset, .unset] [(.ref b44)])) t → Steps p.tables e below (s₁.setTop (entryFrame m #[(.int p0), (.int p1), (.int p2), (.int p3)] maxLocals)) t := fun t kt => pre43 _ (st44 _ kt)
        rw [c1] at Va44
        have pre46 : ∀ t, Steps p.tables e below (T44.setTop (mkF m 133 #[.val (.int p0), .val (.int p1), .val (.int p2), .val (.int p3), .val (.int (Int32.ofNat (i.val + 2))), .val (.double (FP.i2d p0)), .second, .val (.double (FP.i2d p1)), .second, .val (.ref b21), .val (.double (FP.i2d p1)), .second, .val (.ref b44), .unset, .unset, .unset] [(.ref b44)])) t → Steps p.tables e below (s₁.setTop (entryFrame m #[(.int p0), (.int p1), (.int p2), (.int p3)] maxLocals)) t := fun t kt => by
          refine pre45 _ ?_
          show Steps p.tables e below (T44.setTop (mkF m 129 #[.val (.int p0), .val (.int p1), .val (.int p2), .val (.int p3), .val (.int (Int32.ofNat (i.val + 2))), .val (.double (FP.i2d p0)), .second, .val (.double (FP.i2d p1)), .second, .val (.ref b21), .val (.double (FP.i2d p1)), .second, .val (.double (FP.ddiv (FP.l2d ((p0.toInt64) + (p1.toInt64))) (4611686018427387904 : UInt64))), .second, .unset, .unset] [(.ref b44)])) _
          refine XS.astore X44.here hx rfl (hb hby at_129) rfl rfl (l' := #[.val (.int p0), .val (.int p1), .val (.int p2), .val (.int p3), .val (.int (Int32.ofNat (i.val + 2))), .val (.double (FP.i2d p0)), .second, .val (.double (FP.i2d p1)), .second, .val (.ref b21), .val (.double (FP.i2d p1)), .second, .val (.ref b44), .unset, .unset, .unset]) rfl ?_
          show Steps p.tables e below (T44.setTop (mkF m 131 #[.val (.int p0), .val (.int p1), .val (.int p2), .val (.int p3), .val (.int (Int32.ofNat (i.val + 2))), .val (.double (FP.i2d p0)), .second, .val (.double (FP.i2d p1)), .second, .val (.ref b21), .val (.double (FP.i2d p1)), .second, .val (.ref b44), .unset, .unset, .unset] [])) _
          refine XS.aload X44.here hx rfl (hb hby at_131) rfl rfl ?_
          exact kt
        obtain ⟨cl47, Ar47, qk47, Sz47, Nn47, Hh47, Gg47⟩ := id Va44
        have pre48 : ∀ t, Steps p.tables e below (T44.setTop (mkF m 175 #[.val (.int p0), .val (.int p1), .val (.int p2), .val (.int p3), .val (.int (Int32.ofNat (i.val + 2))), .val (.double (FP.i2d p0)), .second, .val (.double (FP.i2d p1)), .second, .val (.ref b21), .val (.double (FP.i2d p1)), .second, .val (.ref b44), .val (.int (own_k p3 (Int32.ofNat (i.val + 2)))), .val (.double (FP.ddiv (FP.i2d (own_k p3 (Int32.ofNat (i.val + 2)))) (FP.i2d (own_kk i.val)))), .second] [(.int (own_k p3 (Int32.ofNat (i.val + 2)))), (.ref b44)])) t → Steps p.tables e below (s₁.setTop (entryFrame m #[(.int p0), (.int p1), (.int p2), (.int p3)] maxLocals)) t := fun t kt => by
          refine pre46 _ ?_
          show Steps p.tables e below (T44.setTop (mkF m 133 #[.val (.int p0), .val (.int p1), .val (.int p2), .val (.int p3), .val (.int (Int32.ofNat (i.val + 2))), .val (.double (FP.i2d p0)), .second, .val (.double (FP.i2d p1)), .second, .val (.ref b21), .val (.double (FP.i2d p1)), .second, .val (.ref b44), .unset, .unset, .unset] [(.ref b44)])) _
          refine X44.arraylength hx Ar47.1 (State.isArrayOf_alike hZ.alike Ar47.2.1) (g := (mkF m 133 #[.val (.int p0), .val (.int p1), .val (.int p2), .val (.int p3), .val (.int (Int32.ofNat (i.val + 2))), .val (.double (FP.i2d p0)), .second, .val (.double (FP.i2d p1)), .second, .val (.ref b21), .val (.double (FP.i2d p1)), .second, .val (.ref b44), .unset, .unset, .unset] [(.ref b44)])) rfl rfl (hb hby at_133) _ ?_
          rw [len_of Sz47 Nn47]
          show Steps p.tables e below (T44.setTop (mkF m 134 #[.val (.int p0), .val (.int p1), .val (.int p2), .val (.int p3), .val (.int (Int32.ofNat (i.val + 2))), .val (.double (FP.i2d p0)), .second, .val (.double (FP.i2d p1)), .second, .val (.ref b21), .val (.double (FP.i2d p1)), .second, .val (.ref b44), .unset, .unset, .unset] [(.int (Int32.ofNat (i.val + 2)))])) _
          refine XS.iload X44.here hx rfl (hb hby at_134) rfl ?_
          show Steps p.tables e below (T44.setTop (mkF m 136 #[.val (.int p0), .val (.int p1), .val (.int p2), .val (.int p3), .val (.int (Int32.ofNat (i.val + 2))), .val (.double (FP.i2d p0)), .second, .val (.double (FP.i2d p1)), .second, .val (.ref b21), .val (.double (FP.i2d p1)), .second, .val (.ref b44), .unset, .unset, .unset] [(.int (Int32.ofNat (i.val + 2))), (.int (Int32.ofNat (i.val + 2)))])) _
          refine XS.icmpYes X44.here hx rfl (pc0 := 136) (pc' := 141) rfl (hb hby at_136) rfl (teq (rfl : (Int32.ofNat (i.val + 2)) = (Int32.ofNat (i.val + 2)))).1 (by decide) (by decide) ?_
          show Steps p.tables e below (T44.setTop (mkF m 141 #[.val (.int p0), .val (.int p1), .val (.int p2), .val (.int p3), .val (.int (Int32.ofNat (i.val + 2))), .val (.double (FP.i2d p0)), .second, .val (.double (FP.i2d p1)), .second, .val (.ref b21), .val (.double (FP.i2d p1)), .second, .val (.ref b44), .unset, .unset, .unset] [])) _
          refine XS.iloadN X44.here hx rfl (hb hby at_141) rfl ?_
          show Steps p.tables e below (T44.setTop (mkF m 142 #[.val (.int p0), .val (.int p1), .val (.int p2), .val (.int p3), .val (.int (Int32.ofNat (i.val + 2))), .val (.double (FP.i2d p0)), .second, .val (.double (FP.i2d p1)), .second, .val (.ref b21), .val (.double (FP.i2d p1)), .second, .val (.ref b44), .unset, .unset, .unset] [(.int p3)])) _
          refine X44.ldcInt hx hown (mvT hZ (hw _ (List.mem_of_getElem? (i := 6) rfl))) (g := (mkF m 142 #[.val (.int p0), .val (.int p1), .val (.int p2), .val (.int p3), .val (.int (Int32.ofNat (i.val + 2))), .val (.double (FP.i2d p0)), .second, .val (.double (FP.i2d p1)), .second, .val (.ref b21), .val (.double (FP.i2d p1)), .second, .val (.ref b44), .unset, .unset, .unset] [(.int p3)])) rfl (hb hby at_142) _ ?_
          show Steps p.tables e below (T44.setTop (mkF m 144 #[.val (.int p0), .val (.int p1), .val (.int p2), .val (.int p3), .val (.int (Int32.ofNat (i.val + 2))), .val (.double (FP.i2d p0)), .second, .val (.double (FP.i2d p1)), .second, .val (.ref b21), .val (.double (FP.i2d p1)), .second, .val (.ref b44), .unset, .unset, .unset] [(.int (2147483647 : Int32)), (.int p3)])) _
          refine XS.iand X44.here hx rfl (hb hby at_144) rfl ?_
          show Steps p.tables e below (T44.setTop (mkF m 145 #[.val (.int p0), .val (.int p1), .val (.int p2), .val (.int p3), .val (.int (Int32.ofNat (i.val + 2))), .val (.double (FP.i2d p0)), .second, .val (.double (FP.i2d p1)), .second, .val (.ref b21), .val (.double (FP.i2d p1)), .second, .val (.ref b44), .unset, .unset, .unset] [(.int (p3 &&& (2147483647 : Int32)))])) _
          refine XS.iload X44.here hx rfl (hb hby at_145) rfl ?_
          show Steps p.tables e below (T44.setTop (mkF m 147 #[.val (.int p0), .val (.int p1), .val (.int p2), .val (.int p3), .val (.int (Int32.ofNat (i.val + 2))), .val (.double (FP.i2d p0)), .second, .val (.double (FP.i2d p1)), .second, .val (.ref b21), .val (.double (FP.i2d p1)), .second, .val (.ref b44), .unset, .unset, .unset] [(.int (Int32.ofNat (i.val + 2))), (.int (p3 &&& (2147483647 : Int32)))])) _
          refine Jvm.RoadKit.iremM X44 hx rfl (hb hby at_147) rfl (fun q => by rw [q] at c7; exact absurd c7 (by decide)) ?_
          show Steps p.tables e below (T44.setTop (mkF m 148 #[.val (.int p0), .val (.int p1), .val (.int p2), .val (.int p3), .val (.int (Int32.ofNat (i.val + 2))), .val (.double (FP.i2d p0)), .second, .val (.double (FP.i2d p1)), .second, .val (.ref b21), .val (.double (FP.i2d p1)), .second, .val (.ref b44), .unset, .unset, .unset] [(.int (own_k p3 (Int32.ofNat (i.val + 2))))])) _
          show Steps p.tables e below (T44.setTop (mkF m 148 #[.val (.int p0), .val (.int p1), .val (.int p2), .val (.int p3), .val (.int (Int32.ofNat (i.val + 2))), .val (.double (FP.i2d p0)), .second, .val (.double (FP.i2d p1)), .second, .val (.ref b21), .val (.double (FP.i2d p1)), .second, .val (.ref b44), .unset, .unset, .unset] [(.int (own_k p3 (Int32.ofNat (i.val + 2))))])) _
          refine XS.istore X44.here hx rfl (hb hby at_148) rfl (l' := #[.val (.int p0), .val (.int p1), .val (.int p2), .val (.int p3), .val (.int (Int32.ofNat (i.val + 2))), .val (.double (FP.i2d p0)), .second, .val (.double (FP.i2d p1)), .second, .val (.ref b21), .val (.double (FP.i2d p1)), .second, .val (.ref b44), .val (.int (own_k p3 (Int32.ofNat (i.val + 2)))), .unset, .unset]) rfl ?_
          show Steps p.tables e below (T44.setTop (mkF m 150 #[.val (.int p0), .val (.int p1), .val (.int p2), .val (.int p3), .val (.int (Int32.ofNat (i.val + 2))), .val (.double (FP.i2d p0)), .second, .val (.double (FP.i2d p1)), .second, .val (.ref b21), .val (.double (FP.i2d p1)), .second, .val (.ref b44), .val (.int (own_k p3 (Int32.ofNat (i.val + 2)))), .unset, .unset] [])) _
          refine XS.iload X44.here hx rfl (hb hby at_150) rfl ?_
          show Steps p.tables e below (T44.setTop (mkF m 152 #[.val (.int p0), .val (.int p1), .val (.int p2), .val (.int p3), .val (.int (Int32.ofNat (i.val + 2))), .val (.double (FP.i2d p0)), .second, .val (.double (FP.i2d p1)), .second, .val (.ref b21), .val (.double (FP.i2d p1)), .second, .val (.ref b44), .val (.int (own_k p3 (Int32.ofNat (i.val + 2)))), .unset, .unset] [(.int (Int32.ofNat (i.val + 2)))])) _
          refine XS.iconst X44.here hx rfl (hb hby at_152) ?_
          show Steps p.tables e below (T44.setTop (mkF m 153 #[.val (.int p0), .val (.int p1), .val (.int p2), .val (.int p3), .val (.int (Int32.ofNat (i.val + 2))), .val (.double (FP.i2d p0)), .second, .val (.double (FP.i2d p1)), .second, .val (.ref b21), .val (.double (FP.i2d p1)), .second, .val (.ref b44), .val (.int (own_k p3 (Int32.ofNat (i.val + 2)))), .unset, .unset] [(.int (1 : Int32)), (.int (Int32.ofNat (i.val + 2)))])) _
          refine XS.icmpYes X44.here hx rfl (pc0 := 153) (pc' := 160) rfl (hb hby at_153) rfl (feq (c6 : ¬ ((Int32.ofNat (i.val + 2)) = (1 : Int32)))).2 (by decide) (by decide) ?_
          show Steps p.tables e below (T44.setTop (mkF m 160 #[.val (.int p0), .val (.int p1), .val (.int p2), .val (.int p3), .val (.int (Int32.ofNat (i.val + 2))), .val (.double (FP.i2d p0)), .second, .val (.double (FP.i2d p1)), .second, .val (.ref b21), .val (.double (FP.i2d p1)), .second, .val (.ref b44), .val (.int (own_k p3 (Int32.ofNat (i.val + 2)))), .unset, .unset] [])) _
          refine XS.iload X44.here hx rfl (hb hby at_160) rfl ?_
          show Steps p.tables e below (T44.setTop (mkF m 162 #[.val (.int p0), .val (.int p1), .val (.int p2), .val (.int p3), .val (.int (Int32.ofNat (i.val + 2))), .val (.double (FP.i2d p0)), .second, .val (.double (FP.i2d p1)), .second, .val (.ref b21), .val (.double (FP.i2d p1)), .second, .val (.ref b44), .val (.int (own_k p3 (Int32.ofNat (i.val + 2)))), .unset, .unset] [(.int (own_k p3 (Int32.ofNat (i.val + 2))))])) _
          refine XS.i2dS X44.here hx rfl (hb hby at_162) rfl rfl ?_
          show Steps p.tables e below (T44.setTop (mkF m 163 #[.val (.int p0), .val (.int p1), .val (.int p2), .val (.int p3), .val (.int (Int32.ofNat (i.val + 2))), .val (.double (FP.i2d p0)), .second, .val (.double (FP.i2d p1)), .second, .val (.ref b21), .val (.double (FP.i2d p1)), .second, .val (.ref b44), .val (.int (own_k p3 (Int32.ofNat (i.val + 2)))), .unset, .unset] [(.double (FP.i2d (own_k p3 (Int32.ofNat (i.val + 2)))))])) _
          refine XS.iload X44.here hx rfl (hb hby at_163) rfl ?_
          show Steps p.tables e below (T44.setTop (mkF m 165 #[.val (.int p0), .val (.int p1), .val (.int p2), .val (.int p3), .val (.int (Int32.ofNat (i.val + 2))), .val (.double (FP.i2d p0)), .second, .val (.double (FP.i2d p1)), .second, .val (.ref b21), .val (.double (FP.i2d p1)), .second, .val (.ref b44), .val (.int (own_k p3 (Int32.ofNat (i.val + 2)))), .unset, .unset] [(.int (Int32.ofNat (i.val + 2))), (.double (FP.i2d (own_k p3 (Int32.ofNat (i.val + 2)))))])) _
          refine XS.iconst X44.here hx rfl (hb hby at_165) ?_
          show Steps p.tables e below (T44.setTop (mkF m 166 #[.val (.int p0), .val (.int p1), .val (.int p2), .val (.int p3), .val (.int (Int32.ofNat (i.val + 2))), .val (.double (FP.i2d p0)), .second, .val (.double (FP.i2d p1)), .second, .val (.ref b21), .val (.double (FP.i2d p1)), .second, .val (.ref b44), .val (.int (own_k p3 (Int32.ofNat (i.val + 2)))), .unset, .unset] [(.int (1 : Int32)), (.int (Int32.ofNat (i.val + 2))), (.double (FP.i2d (own_k p3 (Int32.ofNat (i.val + 2)))))])) _
          refine XS.isub X44.here hx rfl (hb hby at_166) rfl ?_
          show Steps p.tables e below (T44.setTop (mkF m 167 #[.val (.int p0), .val (.int p1), .val (.int p2), .val (.int p3), .val (.int (Int32.ofNat (i.val + 2))), .val (.double (FP.i2d p0)), .second, .val (.double (FP.i2d p1)), .second, .val (.ref b21), .val (.double (FP.i2d p1)), .second, .val (.ref b44), .val (.int (own_k p3 (Int32.ofNat (i.val + 2)))), .unset, .unset] [(.int ((Int32.ofNat (i.val + 2)) - (1 : Int32))), (.double (FP.i2d (own_k p3 (Int32.ofNat (i.val + 2)))))])) _
          rw [show ((Int32.ofNat (i.val + 2)) - (1 : Int32)) = (own_kk i.val) from c1]
          show Steps p.tables e below (T44.setTop (mkF m 167 #[.val (.int p0), .val (.int p1), .val (.int p2), .val (.int p3), .val (.int (Int32.ofNat (i.val + 2))), .val (.double (FP.i2d p0)), .second, .val (.double (FP.i2d p1)), .second, .val (.ref b21), .val (.double (FP.i2d p1)), .second, .val (.ref b44), .val (.int (own_k p3 (Int32.ofNat (i.val + 2)))), .unset, .unset] [(.int (own_kk i.val)), (.double (FP.i2d (own_k p3 (Int32.ofNat (i.val + 2)))))])) _
          refine XS.i2dS X44.here hx rfl (hb hby at_167) rfl rfl ?_
          show Steps p.tables e below (T44.setTop (mkF m 168 #[.val (.int p0), .val (.int p1), .val (.int p2), .val (.int p3), .val (.int (Int32.ofNat (i.val + 2))), .val (.double (FP.i2d p0)), .second, .val (.double (FP.i2d p1)), .second, .val (.ref b21), .val (.double (FP.i2d p1)), .second, .val (.ref b44), .val (.int (own_k p3 (Int32.ofNat (i.val + 2)))), .unset, .unset] [(.double (FP.i2d (own_kk i.val))), (.double (FP.i2d (own_k p3 (Int32.ofNat (i.val + 2)))))])) _
          refine XS.ddivS X44.here hx rfl (hb hby at_168) rfl (own_t_nn c2 _) rfl ?_
          show Steps p.tables e below (T44.setTop (mkF m 169 #[.val (.int p0), .val (.int p1), .val (.int p2), .val (.int p3), .val (.int (Int32.ofNat (i.val + 2))), .val (.double (FP.i2d p0)), .second, .val (.double (FP.i2d p1)), .second, .val (.ref b21), .val (.double (FP.i2d p1)), .second, .val (.ref b44), .val (.int (own_k p3 (Int32.ofNat (i.val + 2)))), .unset, .unset] [(.double (FP.ddiv (FP.i2d (own_k p3 (Int32.ofNat (i.val + 2)))) (FP.i2d (own_kk i.val))))])) _
          refine XS.dstore X44.here hx rfl (hb hby at_169) rfl (l' := #[.val (.int p0), .val (.int p1), .val (.int p2), .val (.int p3), .val (.int (Int32.ofNat (i.val + 2))), .val (.double (FP.i2d p0)), .second, .val (.double (FP.i2d p1)), .second, .val (.ref b21), .val (.double (FP.i2d p1)), .second, .val (.ref b44), .val (.int (own_k p3 (Int32.ofNat (i.val + 2)))), .val (.double (FP.ddiv (FP.i2d (own_k p3 (Int32.ofNat (i.val + 2)))) (FP.i2d (own_kk i.val)))), .second]) rfl ?_
          show Steps p.tables e below (T44.setTop (mkF m 171 #[.val (.int p0), .val (.int p1), .val (.int p2), .val (.int p3), .val (.int (Int32.ofNat (i.val + 2))), .val (.double (FP.i2d p0)), .second, .val (.double (FP.i2d p1)), .second, .val (.ref b21), .val (.double (FP.i2d p1)), .second, .val (.ref b44), .val (.int (own_k p3 (Int32.ofNat (i.val + 2)))), .val (.double (FP.ddiv (FP.i2d (own_k p3 (Int32.ofNat (i.val + 2)))) (FP.i2d (own_kk i.val)))), .second] [])) _
          refine XS.aload X44.here hx rfl (hb hby at_171) rfl rfl ?_
          show Steps p.tables e below (T44.setTop (mkF m 173 #[.val (.int p0), .val (.int p1), .val (.int p2), .val (.int p3), .val (.int (Int32.ofNat (i.val + 2))), .val (.double (FP.i2d p0)), .second, .val (.double (FP.i2d p1)), .second, .val (.ref b21), .val (.double (FP.i2d p1)), .second, .val (.ref b44), .val (.int (own_k p3 (Int32.ofNat (i.val + 2)))), .val (.double (FP.ddiv (FP.i2d (own_k p3 (Int32.ofNat (i.val + 2)))) (FP.i2d (own_kk i.val)))), .second] [(.ref b44)])) _
          refine XS.iload X44.here hx rfl (hb hby at_173) rfl ?_
          exact kt
        have kb := own_k_b p3 (Int32.ofNat (i.val + 2)) (by rw [c8]; omega)
        obtain ⟨cl49, Ar49, qk49, Sz49, Nn49, Hh49, Gg49⟩ := id Va44
        have hin49 : ¬ ((own_k p3 (Int32.ofNat (i.val + 2))) < 0 ∨ cl49.slots.size ≤ ((own_k p3 (Int32.ofNat (i.val + 2)))).toNatClampNeg) := inb_of Sz49 kb
        have hat49 : cl49.slots[((own_k p3 (Int32.ofNat (i.val + 2)))).toNatClampNeg]? = some (.double (own_el (0 : UInt64) (4607182418800017408 : UInt64) (own_kk i.val) (own_k p3 (Int32.ofNat (i.val + 2))))) := Hh49.at hin49 (by rw [own_vl_at _ _ _ _ _ (by have h := kb.2; rw [Int32.lt_iff_toInt_lt, c8] at h; show (own_k p3 (Int32.ofNat (i.val + 2))).toInt.toNat < _; omega), own_nat kb.1])
        have pre50 : ∀ t, Steps p.tables e below (T44.setTop (mkF m 187 #[.val (.int p0), .val (.int p1), .val (.int p2), .val (.int p3), .val (.int (Int32.ofNat (i.val + 2))), .val (.double (FP.i2d p0)), .second, .val (.double (FP.i2d p1)), .second, .val (.ref b21), .val (.double (FP.i2d p1)), .second, .val (.ref b44), .val (.int (own_k p3 (Int32.ofNat (i.val + 2)))), .val (.double (FP.ddiv (FP.i2d (own_k p3 (Int32.ofNat (i.val + 2)))) (FP.i2d (own_kk i.val)))), .second] [(.int (1 : Int32))])) t → Steps p.tables e below (s₁.setTop (entryFrame m #[(.int p0), (.int p1), (.int p2), (.int p3)] maxLocals)) t := fun t kt => by
          refine pre48 _ ?_
          show Steps p.tables e below (T44.setTop (mkF m 175 #[.val (.int p0), .val (.int p1), .val (.int p2), .val (.int p3), .val (.int (Int32.ofNat (i.val + 2))), .val (.double (FP.i2d p0)), .second, .val (.double (FP.i2d p1)), .second, .val (.ref b21), .val (.double (FP.i2d p1)), .second, .val (.ref b44), .val (.int (own_k p3 (Int32.ofNat (i.val + 2)))), .val (.double (FP.ddiv (FP.i2d (own_k p3 (Int32.ofNat (i.val + 2)))) (FP.i2d (own_kk i.val)))), .second] [(.int (own_k p3 (Int32.ofNat (i.val + 2)))), (.ref b44)])) _
          refine X44.daload hx (j := (own_k p3 (Int32.ofNat (i.val + 2)))) (v := (.double (own_el (0 : UInt64) (4607182418800017408 : UInt64) (own_kk i.val) (own_k p3 (Int32.ofNat (i.val + 2)))))) Ar49.1 (State.isArrayOf_alike hZ.alike Ar49.2.1) Ar49.2.2 hin49 hat49 (g := (mkF m 175 #[.val (.int p0), .val (.int p1), .val (.int p2), .val (.int p3), .val (.int (Int32.ofNat (i.val + 2))), .val (.double (FP.i2d p0)), .second, .val (.double (FP.i2d p1)), .second, .val (.ref b21), .val (.double (FP.i2d p1)), .second, .val (.ref b44), .val (.int (own_k p3 (Int32.ofNat (i.val + 2)))), .val (.double (FP.ddiv (FP.i2d (own_k p3 (Int32.ofNat (i.val + 2)))) (FP.i2d (own_kk i.val)))), .second] [(.int (own_k p3 (Int32.ofNat (i.val + 2)))), (.ref b44)])) rfl rfl (hb hby at_175) _ ?_
          show Steps p.tables e below (T44.setTop (mkF m 176 #[.val (.int p0), .val (.int p1), .val (.int p2), .val (.int p3), .val (.int (Int32.ofNat (i.val + 2))), .val (.double (FP.i2d p0)), .second, .val (.double (FP.i2d p1)), .second, .val (.ref b21), .val (.double (FP.i2d p1)), .second, .val (.ref b44), .val (.int (own_k p3 (Int32.ofNat (i.val + 2)))), .val (.double (FP.ddiv (FP.i2d (own_k p3 (Int32.ofNat (i.val + 2)))) (FP.i2d (own_kk i.val)))), .second] [(.double (own_el (0 : UInt64) (4607182418800017408 : UInt64) (own_kk i.val) (own_k p3 (Int32.ofNat (i.val + 2)))))])) _
          refine XS.dload X44.here hx rfl (hb hby at_176) rfl ?_
          show Steps p.tables e below (T44.setTop (mkF m 178 #[.val (.int p0), .val (.int p1), .val (.int p2), .val (.int p3), .val (.int (Int32.ofNat (i.val + 2))), .val (.double (FP.i2d p0)), .second, .val (.double (FP.i2d p1)), .second, .val (.ref b21), .val (.double (FP.i2d p1)), .second, .val (.ref b44), .val (.int (own_k p3 (Int32.ofNat (i.val + 2)))), .val (.double (FP.ddiv (FP.i2d (own_k p3 (Int32.ofNat (i.val + 2)))) (FP.i2d (own_kk i.val)))), .second] [(.double (FP.ddiv (FP.i2d (own_k p3 (Int32.ofNat (i.val + 2)))) (FP.i2d (own_kk i.val)))), (.double (own_el (0 : UInt64) (4607182418800017408 : UInt64) (own_kk i.val) (own_k p3 (Int32.ofNat (i.val + 2)))))])) _
          refine XS.dcmpS X44.here hx rfl (hb hby at_178) rfl (v := (0 : Int32)) (own_unit c2 (own_k p3 (Int32.ofNat (i.val + 2))) _) ?_
          show Steps p.tables e below (T44.setTop (mkF m 179 #[.val (.int p0), .val (.int p1), .val (.int p2), .val (.int p3), .val (.int (Int32.ofNat (i.val + 2))), .val (.double (FP.i2d p0)), .second, .val (.double (FP.i2d p1)), .second, .val (.ref b21), .val (.double (FP.i2d p1)), .second, .val (.ref b44), .val (.int (own_k p3 (Int32.ofNat (i.val + 2)))), .val (.double (FP.ddiv (FP.i2d (own_k p3 (Int32.ofNat (i.val + 2)))) (FP.i2d (own_kk i.val)))), .second] [(.int (0 : Int32))])) _
          refine XS.ifNo X44.here hx rfl (hb hby at_179) rfl ((if0 _ _).trans (teq (by decide : (0 : Int32) = (0 : Int32))).2) ?_
          show Steps p.tables e below (T44.setTop (mkF m 182 #[.val (.int p0), .val (.int p1), .val (.int p2), .val (.int p3), .val (.int (Int32.ofNat (i.val + 2))), .val (.double (FP.i2d p0)), .second, .val (.double (FP.i2d p1)), .second, .val (.ref b21), .val (.double (FP.i2d p1)), .second, .val (.ref b44), .val (.int (own_k p3 (Int32.ofNat (i.val + 2)))), .val (.double (FP.ddiv (FP.i2d (own_k p3 (Int32.ofNat (i.val + 2)))) (FP.i2d (own_kk i.val)))), .second] [])) _
          refine XS.iconst X44.here hx rfl (hb hby at_182) ?_
          show Steps p.tables e below (T44.setTop (mkF m 183 #[.val (.int p0), .val (.int p1), .val (.int p2), .val (.int p3), .val (.int (Int32.ofNat (i.val + 2))), .val (.double (FP.i2d p0)), .second, .val (.double (FP.i2d p1)), .second, .val (.ref b21), .val (.double (FP.i2d p1)), .second, .val (.ref b44), .val (.int (own_k p3 (Int32.ofNat (i.val + 2)))), .val (.double (FP.ddiv (FP.i2d (own_k p3 (Int32.ofNat (i.val + 2)))) (FP.i2d (own_kk i.val)))), .second] [(.int (1 : Int32))])) _
          refine XS.goto X44.here hx rfl (pc0 := 183) (pc' := 187) rfl (hb hby at_183) (by decide) (by decide) ?_
          exact kt
        obtain ⟨fs, hr, hrun, hended, hW, hsame⟩ := X44.leave (v := (some (.int (1 : Int32)))) (fun h => by rw [Bd.returns] at h; cases h)
        refine ⟨_, _, pre50 _ ?_, hrun, hended, _, _, rfl, ?_, ⟨_, rfl⟩, hW, hsame.mono (by decide) (by decide)⟩
        · show Steps p.tables e below (T44.setTop (mkF m 187 #[.val (.int p0), .val (.int p1), .val (.int p2), .val (.int p3), .val (.int (Int32.ofNat (i.val + 2))), .val (.double (FP.i2d p0)), .second, .val (.double (FP.i2d p1)), .second, .val (.ref b21), .val (.double (FP.i2d p1)), .second, .val (.ref b44), .val (.int (own_k p3 (Int32.ofNat (i.val + 2)))), .val (.double (FP.ddiv (FP.i2d (own_k p3 (Int32.ofNat (i.val + 2)))) (FP.i2d (own_kk i.val)))), .second] [(.int (1 : Int32))])) _
          exact retN X44 hx (t := .boolean) Bd.returns (by simp) (hb hby at_187) hr
        · show Q0 Z p0 p1 p2 p3 h0 n0 _ T44.heap _
          exact ⟨rfl, N44⟩
    · have z51 : n0 ≤ T21.heap.size := (Nat.le_trans Z0 K21.1)
      have pre52 : ∀ t, Steps p.tables e below (T21.setTop (mkF m 126 #[.val (.int p0), .val (.int p1), .val (.int p2), .val (.int p3), .val (.int (Int32.ofNat (i.val + 2))), .val (.double (FP.i2d p0)), .second, .val (.double (FP.i2d p1)), .second, .val (.ref b21), .val (.double (FP.i2d p1)), .second, .unset, .unset, .unset, .unset] [(.int (Int32.ofNat (i.val + 2))), (.double (4607182418800017408 : UInt64)), (.double (0 : UInt64))])) t → Steps p.tables e below (s₁.setTop (entryFrame m #[(.int p0), (.int p1), (.int p2), (.int p3)] maxLocals)) t := fun t kt => by
        refine pre29 _ ?_
        show Steps p.tables e below (T21.setTop (mkF m 84 #[.val (.int p0), .val (.int p1), .val (.int p2), .val (.int p3), .val (.int (Int32.ofNat (i.val + 2))), .val (.double (FP.i2d p0)), .second, .val (.double (FP.i2d p1)), .second, .val (.ref b21), .val (.double (FP.i2d p1)), .second, .unset, .unset, .unset, .unset] [(.int (1 : Int32)), (.int ((Int32.ofNat (i.val + 2)) &&& (1 : Int32)))])) _
        refine XS.icmpYes X21.here hx rfl (pc0 := 84) (pc' := 122) rfl (hb hby at_84) rfl (feq (o1 : ¬ (((Int32.ofNat (i.val + 2)) &&& (1 : Int32)) = (1 : Int32)))).2 (by decide) (by decide) ?_
        show Steps p.tables e below (T21.setTop (mkF m 122 #[.val (.int p0), .val (.int p1), .val (.int p2), .val (.int p3), .val (.int (Int32.ofNat (i.val + 2))), .val (.double (FP.i2d p0)), .second, .val (.double (FP.i2d p1)), .second, .val (.ref b21), .val (.double (FP.i2d p1)), .second, .unset, .unset, .unset, .unset] [])) _
        refine XS.dconst0 X21.here hx rfl (hb hby at_122) rfl ?_
        show Steps p.tables e below (T21.setTop (mkF m 123 #[.val (.int p0), .val (.int p1), .val (.int p2), .val (.int p3), .val (.int (Int32.ofNat (i.val + 2))), .val (.double (FP.i2d p0)), .second, .val (.double (FP.i2d p1)), .second, .val (.ref b21), .val (.double (FP.i2d p1)), .second, .unset, .unset, .unset, .unset] [(.double (0 : UInt64))])) _
        refine XS.dconst1 X21.here hx rfl (hb hby at_123) rfl ?_
        show Steps p.tables e below (T21.setTop (mkF m 124 #[.val (.int p0), .val (.int p1), .val (.int p2), .val (.int p3), .val (.int (Int32.ofNat (i.val + 2))), .val (.double (FP.i2d p0)), .second, .val (.double (FP.i2d p1)), .second, .val (.ref b21), .val (.double (FP.i2d p1)), .second, .unset, .unset, .unset, .unset] [(.double (4607182418800017408 : UInt64)), (.double (0 : UInt64))])) _
        refine XS.iload X21.here hx rfl (hb hby at_124) rfl ?_
        exact kt
      obtain ⟨_, _, ⟨T53, L53, kc53, nc53⟩, -, X53, ⟨Lc53, hQ53, l53, y53, z53⟩, st53⟩ := Jvm.LawKit.callS X21 hx (y := (⟨"com/example/tesserae/tesserae/problems/Zdt", "evenlySpaced", "(DDI)[D"⟩ : MethodName)) hown (mvT hZ (hw _ (List.mem_of_getElem? (i := 0) rfl))) (mvT hZ (hw _ (List.mem_of_getElem? (i := 1) rfl))) (mvT hZ (hw _ (List.mem_of_getElem? (i := 2) rfl))) (mvT hZ (hw _ (List.mem_of_getElem? (i := 3) rfl))) (by decide) (backOf (W := 0) (rm1b l Z a0 hw [] (0 : UInt64) (4607182418800017408 : UInt64) (Int32.ofNat (i.val + 2)) (i.val + 2) T21.heap n0 z51 c8 (by omega) (by have := i.isLt; omega) own_0m own_1m') hZ (hw _ (List.mem_of_getElem? (i := 3) rfl)) (hw _ (List.mem_of_getElem? (i := 2) rfl)) (by decide) (by decide)) (g := (mkF m 126 #[.val (.int p0), .val (.int p1), .val (.int p2), .val (.int p3), .val (.int (Int32.ofNat (i.val + 2))), .val (.double (FP.i2d p0)), .second, .val (.double (FP.i2d p1)), .second, .val (.ref b21), .val (.double (FP.i2d p1)), .second, .unset, .unset, .unset, .unset] [(.int (Int32.ofNat (i.val + 2))), (.double (4607182418800017408 : UInt64)), (.double (0 : UInt64))])) rfl (by rw [hml]; rfl) (argsL := [(.double (0 : UInt64)), (.double (4607182418800017408 : UInt64)), (.int (Int32.ofNat (i.val + 2)))]) (rest := []) (lenOf pd_0 rfl) rfl (by show 2 * 0 + _ ≤ _; exact Nat.le_of_eq rfl) (hb hby at_126) (fun _ _ => ⟨rfl, rfl, (by decide : 1 + 1 ≤ _), (by decide : 16 + 16 ≤ _)⟩)
      dsimp only [Pt.U, Pt.locs, Pt.cells, Pt.slots] at X53 l53 y53 z53 st53 hQ53
      subst l53 y53 z53
      obtain ⟨rfl, N53q, K53, ⟨kk53, Va53⟩⟩ := hQ53
      have N53 := Fr.app N21 N53q
      obtain ⟨b53, gq53⟩ : ∃ z, z = T21.heap.size := ⟨_, rfl⟩
      rw [← gq53] at Va53 st53
      have gg_b53 : n0 ≤ b53 := Nat.le_trans z51 (Nat.le_of_eq gq53.symm)
      have pre54 : ∀ t, Steps p.tables e below (T53.setTop (mkF m 129 #[.val (.int p0), .val (.int p1), .val (.int p2), .val (.int p3), .val (.int (Int32.ofNat (i.val + 2))), .val (.double (FP.i2d p0)), .second, .val (.double (FP.i2d p1)), .second, .val (.ref b21), .val (.double (FP.i2d p1)), .second, .unset, .unset, .unset, .unset] [(.ref b53)])) t → Steps p.tables e below (s₁.setTop (entryFrame m #[(.int p0), (.int p1), (.int p2), (.int p3)] maxLocals)) t := fun t kt => pre52 _ (st53 _ kt)
      rw [c1] at Va53
      have pre55 : ∀ t, Steps p.tables e below (T53.setTop (mkF m 133 #[.val (.int p0), .val (.int p1), .val (.int p2), .val (.int p3), .val (.int (Int32.ofNat (i.val + 2))), .val (.double (FP.i2d p0)), .second, .val (.double (FP.i2d p1)), .second, .val (.ref b21), .val (.double (FP.i2d p1)), .second, .val (.ref b53), .unset, .unset, .unset] [(.ref b53)])) t → Steps p.tables e below (s₁.setTop (entryFrame m #[(.int p0), (.int p1), (.int p2), (.int p3)] maxLocals)) t := fun t kt => by
        refine pre54 _ ?_
        show Steps p.tables e below (T53.setTop (mkF m 129 #[.val (.int p0), .val (.int p1), .val (.int p2), .val (.int p3), .val (.int (Int32.ofNat (i.val + 2))), .val (.double (FP.i2d p0)), .second, .val (.double (FP.i2d p1)), .second, .val (.ref b21), .val (.double (FP.i2d p1)), .second, .unset, .unset, .unset, .unset] [(.ref b53)])) _
        refine XS.astore X53.here hx rfl (hb hby at_129) rfl rfl (l' := #[.val (.int p0), .val (.int p1), .val (.int p2), .val (.int p3), .val (.int (Int32.ofNat (i.val + 2))), .val (.double (FP.i2d p0)), .second, .val (.double (FP.i2d p1)), .second, .val (.ref b21), .val (.double (FP.i2d p1)), .second, .val (.ref b53), .unset, .unset, .unset]) rfl ?_
        show Steps p.tables e below (T53.setTop (mkF m 131 #[.val (.int p0), .val (.int p1), .val (.int p2), .val (.int p3), .val (.int (Int32.ofNat (i.val + 2))), .val (.double (FP.i2d p0)), .second, .val (.double (FP.i2d p1)), .second, .val (.ref b21), .val (.double (FP.i2d p1)), .second, .val (.ref b53), .unset, .unset, .unset] [])) _
        refine XS.aload X53.here hx rfl (hb hby at_131) rfl rfl ?_
        exact kt
      obtain ⟨cl56, Ar56, qk56, Sz56, Nn56, Hh56, Gg56⟩ := id Va53
      have pre57 : ∀ t, Steps p.tables e below (T53.setTop (mkF m 175 #[.val (.int p0), .val (.int p1), .val (.int p2), .val (.int p3), .val (.int (Int32.ofNat (i.val + 2))), .val (.double (FP.i2d p0)), .second, .val (.double (FP.i2d p1)), .second, .val (.ref b21), .val (.double (FP.i2d p1)), .second, .val (.ref b53), .val (.int (own_k p3 (Int32.ofNat (i.val + 2)))), .val (.double (FP.ddiv (FP.i2d (own_k p3 (Int32.ofNat (i.val + 2)))) (FP.i2d (own_kk i.val)))), .second] [(.int (own_k p3 (Int32.ofNat (i.val + 2)))), (.ref b53)])) t → Steps p.tables e below (s₁.setTop (entryFrame m #[(.int p0), (.int p1), (.int p2), (.int p3)] maxLocals)) t := fun t kt => by
        refine pre55 _ ?_
        show Steps p.tables e below (T53.setTop (mkF m 133 #[.val (.int p0), .val (.int p1), .val (.int p2), .val (.int p3), .val (.int (Int32.ofNat (i.val + 2))), .val (.double (FP.i2d p0)), .second, .val (.double (FP.i2d p1)), .second, .val (.ref b21), .val (.double (FP.i2d p1)), .second, .val (.ref b53), .unset, .unset, .unset] [(.ref b53)])) _
        refine X53.arraylength hx Ar56.1 (State.isArrayOf_alike hZ.alike Ar56.2.1) (g := (mkF m 133 #[.val (.int p0), .val (.int p1), .val (.int p2), .val (.int p3), .val (.int (Int32.ofNat (i.val + 2))), .val (.double (FP.i2d p0)), .second, .val (.double (FP.i2d p1)), .second, .val (.ref b21), .val (.double (FP.i2d p1)), .second, .val (.ref b53), .unset, .unset, .unset] [(.ref b53)])) rfl rfl (hb hby at_133) _ ?_
        rw [len_of Sz56 Nn56]
        show Steps p.tables e below (T53.setTop (mkF m 134 #[.val (.int p0), .val (.int p1), .val (.int p2), .val (.int p3), .val (.int (Int32.ofNat (i.val + 2))), .val (.double (FP.i2d p0)), .second, .val (.double (FP.i2d p1)), .second, .val (.ref b21), .val (.double (FP.i2d p1)), .second, .val (.ref b53), .unset, .unset, .unset] [(.int (Int32.ofNat (i.val + 2)))])) _
        refine XS.iload X53.here hx rfl (hb hby at_134) rfl ?_
        show Steps p.tables e below (T53.setTop (mkF m 136 #[.val (.int p0), .val (.int p1), .val (.int p2), .val (.int p3), .val (.int (Int32.ofNat (i.val + 2))), .val (.double (FP.i2d p0)), .second, .val (.double (FP.i2d p1)), .second, .val (.ref b21), .val (.double (FP.i2d p1)), .second, .val (.ref b53), .unset, .unset, .unset] [(.int (Int32.ofNat (i.val + 2))), (.int (Int32.ofNat (i.val + 2)))])) _
        refine XS.icmpYes X53.here hx rfl (pc0 := 136) (pc' := 141) rfl (hb hby at_136) rfl (teq (rfl : (Int32.ofNat (i.val + 2)) = (Int32.ofNat (i.val + 2)))).1 (by decide) (by decide) ?_
        show Steps p.tables e below (T53.setTop (mkF m 141 #[.val (.int p0), .val (.int p1), .val (.int p2), .val (.int p3), .val (.int (Int32.ofNat (i.val + 2))), .val (.double (FP.i2d p0)), .second, .val (.double (FP.i2d p1)), .second, .val (.ref b21), .val (.double (FP.i2d p1)), .second, .val (.ref b53), .unset, .unset, .unset] [])) _
        refine XS.iloadN X53.here hx rfl (hb hby at_141) rfl ?_
        show Steps p.tables e below (T53.setTop (mkF m 142 #[.val (.int p0), .val (.int p1), .val (.int p2), .val (.int p3), .val (.int (Int32.ofNat (i.val + 2))), .val (.double (FP.i2d p0)), .second, .val (.double (FP.i2d p1)), .second, .val (.ref b21), .val (.double (FP.i2d p1)), .second, .val (.ref b53), .unset, .unset, .unset] [(.int p3)])) _
        refine X53.ldcInt hx hown (mvT hZ (hw _ (List.mem_of_getElem? (i := 6) rfl))) (g := (mkF m 142 #[.val (.int p0), .val (.int p1), .val (.int p2), .val (.int p3), .val (.int (Int32.ofNat (i.val + 2))), .val (.double (FP.i2d p0)), .second, .val (.double (FP.i2d p1)), .second, .val (.ref b21), .val (.double (FP.i2d p1)), .second, .val (.ref b53), .unset, .unset, .unset] [(.int p3)])) rfl (hb hby at_142) _ ?_
        show Steps p.tables e below (T53.setTop (mkF m 144 #[.val (.int p0), .val (.int p1), .val (.int p2), .val (.int p3), .val (.int (Int32.ofNat (i.val + 2))), .val (.double (FP.i2d p0)), .second, .val (.double (FP.i2d p1)), .second, .val (.ref b21), .val (.double (FP.i2d p1)), .second, .val (.ref b53), .unset, .unset, .unset] [(.int (2147483647 : Int32)), (.int p3)])) _
        refine XS.iand X53.here hx rfl (hb hby at_144) rfl ?_
        show Steps p.tables e below (T53.setTop (mkF m 145 #[.val (.int p0), .val (.int p1), .val (.int p2), .val (.int p3), .val (.int (Int32.ofNat (i.val + 2))), .val (.double (FP.i2d p0)), .second, .val (.double (FP.i2d p1)), .second, .val (.ref b21), .val (.double (FP.i2d p1)), .second, .val (.ref b53), .unset, .unset, .unset] [(.int (p3 &&& (2147483647 : Int32)))])) _
        refine XS.iload X53.here hx rfl (hb hby at_145) rfl ?_
        show Steps p.tables e below (T53.setTop (mkF m 147 #[.val (.int p0), .val (.int p1), .val (.int p2), .val (.int p3), .val (.int (Int32.ofNat (i.val + 2))), .val (.double (FP.i2d p0)), .second, .val (.double (FP.i2d p1)), .second, .val (.ref b21), .val (.double (FP.i2d p1)), .second, .val (.ref b53), .unset, .unset, .unset] [(.int (Int32.ofNat (i.val + 2))), (.int (p3 &&& (2147483647 : Int32)))])) _
        refine Jvm.RoadKit.iremM X53 hx rfl (hb hby at_147) rfl (fun q => by rw [q] at c7; exact absurd c7 (by decide)) ?_
        show Steps p.tables e below (T53.setTop (mkF m 148 #[.val (.int p0), .val (.int p1), .val (.int p2), .val (.int p3), .val (.int (Int32.ofNat (i.val + 2))), .val (.double (FP.i2d p0)), .second, .val (.double (FP.i2d p1)), .second, .val (.ref b21), .val (.double (FP.i2d p1)), .second, .val (.ref b53), .unset, .unset, .unset] [(.int (own_k p3 (Int32.ofNat (i.val + 2))))])) _
        show Steps p.tables e below (T53.setTop (mkF m 148 #[.val (.int p0), .val (.int p1), .val (.int p2), .val (.int p3), .val (.int (Int32.ofNat (i.val + 2))), .val (.double (FP.i2d p0)), .second, .val (.double (FP.i2d p1)), .second, .val (.ref b21), .val (.double (FP.i2d p1)), .second, .val (.ref b53), .unset, .unset, .unset] [(.int (own_k p3 (Int32.ofNat (i.val + 2))))])) _
        refine XS.istore X53.here hx rfl (hb hby at_148) rfl (l' := #[.val (.int p0), .val (.int p1), .val (.int p2), .val (.int p3), .val (.int (Int32.ofNat (i.val + 2))), .val (.double (FP.i2d p0)), .second, .val (.double (FP.i2d p1)), .second, .val (.ref b21), .val (.double (FP.i2d p1)), .second, .val (.ref b53), .val (.int (own_k p3 (Int32.ofNat (i.val + 2)))), .unset, .unset]) rfl ?_
        show Steps p.tables e below (T53.setTop (mkF m 150 #[.val (.int p0), .val (.int p1), .val (.int p2), .val (.int p3), .val (.int (Int32.ofNat (i.val + 2))), .val (.double (FP.i2d p0)), .second, .val (.double (FP.i2d p1)), .second, .val (.ref b21), .val (.double (FP.i2d p1)), .second, .val (.ref b53), .val (.int (own_k p3 (Int32.ofNat (i.val + 2)))), .unset, .unset] [])) _
        refine XS.iload X53.here hx rfl (hb hby at_150) rfl ?_
        show Steps p.tables e below (T53.setTop (mkF m 152 #[.val (.int p0), .val (.int p1), .val (.int p2), .val (.int p3), .val (.int (Int32.ofNat (i.val + 2))), .val (.double (FP.i2d p0)), .second, .val (.double (FP.i2d p1)), .second, .val (.ref b21), .val (.double (FP.i2d p1)), .second, .val (.ref b53), .val (.int (own_k p3 (Int32.ofNat (i.val + 2)))), .unset, .unset] [(.int (Int32.ofNat (i.val + 2)))])) _
        refine XS.iconst X53.here hx rfl (hb hby at_152) ?_
        show Steps p.tables e below (T53.setTop (mkF m 153 #[.val (.int p0), .val (.int p1), .val (.int p2), .val (.int p3), .val (.int (Int32.ofNat (i.val + 2))), .val (.double (FP.i2d p0)), .second, .val (.double (FP.i2d p1)), .second, .val (.ref b21), .val (.double (FP.i2d p1)), .second, .val (.ref b53), .val (.int (own_k p3 (Int32.ofNat (i.val + 2)))), .unset, .unset] [(.int (1 : Int32)), (.int (Int32.ofNat (i.val + 2)))])) _
        refine XS.icmpYes X53.here hx rfl (pc0 := 153) (pc' := 160) rfl (hb hby at_153) rfl (feq (c6 : ¬ ((Int32.ofNat (i.val + 2)) = (1 : Int32)))).2 (by decide) (by decide) ?_
        show Steps p.tables e below (T53.setTop (mkF m 160 #[.val (.int p0), .val (.int p1), .val (.int p2), .val (.int p3), .val (.int (Int32.ofNat (i.val + 2))), .val (.double (FP.i2d p0)), .second, .val (.double (FP.i2d p1)), .second, .val (.ref b21), .val (.double (FP.i2d p1)), .second, .val (.ref b53), .val (.int (own_k p3 (Int32.ofNat (i.val + 2)))), .unset, .unset] [])) _
        refine XS.iload X53.here hx rfl (hb hby at_160) rfl ?_
        show Steps p.tables e below (T53.setTop (mkF m 162 #[.val (.int p0), .val (.int p1), .val (.int p2), .val (.int p3), .val (.int (Int32.ofNat (i.val + 2))), .val (.double (FP.i2d p0)), .second, .val (.double (FP.i2d p1)), .second, .val (.ref b21), .val (.double (FP.i2d p1)), .second, .val (.ref b53), .val (.int (own_k p3 (Int32.ofNat (i.val + 2)))), .unset, .unset] [(.int (own_k p3 (Int32.ofNat (i.val + 2))))])) _
        refine XS.i2dS X53.here hx rfl (hb hby at_162) rfl rfl ?_
        show Steps p.tables e below (T53.setTop (mkF m 163 #[.val (.int p0), .val (.int p1), .val (.int p2), .val (.int p3), .val (.int (Int32.ofNat (i.val + 2))), .val (.double (FP.i2d p0)), .second, .val (.double (FP.i2d p1)), .second, .val (.ref b21), .val (.double (FP.i2d p1)), .second, .val (.ref b53), .val (.int (own_k p3 (Int32.ofNat (i.val + 2)))), .unset, .unset] [(.double (FP.i2d (own_k p3 (Int32.ofNat (i.val + 2)))))])) _
        refine XS.iload X53.here hx rfl (hb hby at_163) rfl ?_
        show Steps p.tables e below (T53.setTop (mkF m 165 #[.val (.int p0), .val (.int p1), .val (.int p2), .val (.int p3), .val (.int (Int32.ofNat (i.val + 2))), .val (.double (FP.i2d p0)), .second, .val (.double (FP.i2d p1)), .second, .val (.ref b21), .val (.double (FP.i2d p1)), .second, .val (.ref b53), .val (.int (own_k p3 (Int32.ofNat (i.val + 2)))), .unset, .unset] [(.int (Int32.ofNat (i.val + 2))), (.double (FP.i2d (own_k p3 (Int32.ofNat (i.val + 2)))))])) _
        refine XS.iconst X53.here hx rfl (hb hby at_165) ?_
        show Steps p.tables e below (T53.setTop (mkF m 166 #[.val (.int p0), .val (.int p1), .val (.int p2), .val (.int p3), .val (.int (Int32.ofNat (i.val + 2))), .val (.double (FP.i2d p0)), .second, .val (.double (FP.i2d p1)), .second, .val (.ref b21), .val (.double (FP.i2d p1)), .second, .val (.ref b53), .val (.int (own_k p3 (Int32.ofNat (i.val + 2)))), .unset, .unset] [(.int (1 : Int32)), (.int (Int32.ofNat (i.val + 2))), (.double (FP.i2d (own_k p3 (Int32.ofNat (i.val + 2)))))])) _
        refine XS.isub X53.here hx rfl (hb hby at_166) rfl ?_
        show Steps p.tables e below (T53.setTop (mkF m 167 #[.val (.int p0), .val (.int p1), .val (.int p2), .val (.int p3), .val (.int (Int32.ofNat (i.val + 2))), .val (.double (FP.i2d p0)), .second, .val (.double (FP.i2d p1)), .second, .val (.ref b21), .val (.double (FP.i2d p1)), .second, .val (.ref b53), .val (.int (own_k p3 (Int32.ofNat (i.val + 2)))), .unset, .unset] [(.int ((Int32.ofNat (i.val + 2)) - (1 : Int32))), (.double (FP.i2d (own_k p3 (Int32.ofNat (i.val + 2)))))])) _
        rw [show ((Int32.ofNat (i.val + 2)) - (1 : Int32)) = (own_kk i.val) from c1]
        show Steps p.tables e below (T53.setTop (mkF m 167 #[.val (.int p0), .val (.int p1), .val (.int p2), .val (.int p3), .val (.int (Int32.ofNat (i.val + 2))), .val (.double (FP.i2d p0)), .second, .val (.double (FP.i2d p1)), .second, .val (.ref b21), .val (.double (FP.i2d p1)), .second, .val (.ref b53), .val (.int (own_k p3 (Int32.ofNat (i.val + 2)))), .unset, .unset] [(.int (own_kk i.val)), (.double (FP.i2d (own_k p3 (Int32.ofNat (i.val + 2)))))])) _
        refine XS.i2dS X53.here hx rfl (hb hby at_167) rfl rfl ?_
        show Steps p.tables e below (T53.setTop (mkF m 168 #[.val (.int p0), .val (.int p1), .val (.int p2), .val (.int p3), .val (.int (Int32.ofNat (i.val + 2))), .val (.double (FP.i2d p0)), .second, .val (.double (FP.i2d p1)), .second, .val (.ref b21), .val (.double (FP.i2d p1)), .second, .val (.ref b53), .val (.int (own_k p3 (Int32.ofNat (i.val + 2)))), .unset, .unset] [(.double (FP.i2d (own_kk i.val))), (.double (FP.i2d (own_k p3 (Int32.ofNat (i.val + 2)))))])) _
        refine XS.ddivS X53.here hx rfl (hb hby at_168) rfl (own_t_nn c2 _) rfl ?_
        show Steps p.tables e below (T53.setTop (mkF m 169 #[.val (.int p0), .val (.int p1), .val (.int p2), .val (.int p3), .val (.int (Int32.ofNat (i.val + 2))), .val (.double (FP.i2d p0)), .second, .val (.double (FP.i2d p1)), .second, .val (.ref b21), .val (.double (FP.i2d p1)), .second, .val (.ref b53), .val (.int (own_k p3 (Int32.ofNat (i.val + 2)))), .unset, .unset] [(.double (FP.ddiv (FP.i2d (own_k p3 (Int32.ofNat (i.val + 2)))) (FP.i2d (own_kk i.val))))])) _
        refine XS.dstore X53.here hx rfl (hb hby at_169) rfl (l' := #[.val (.int p0), .val (.int p1), .val (.int p2), .val (.int p3), .val (.int (Int32.ofNat (i.val + 2))), .val (.double (FP.i2d p0)), .second, .val (.double (FP.i2d p1)), .second, .val (.ref b21), .val (.double (FP.i2d p1)), .second, .val (.ref b53), .val (.int (own_k p3 (Int32.ofNat (i.val + 2)))), .val (.double (FP.ddiv (FP.i2d (own_k p3 (Int32.ofNat (i.val + 2)))) (FP.i2d (own_kk i.val)))), .second]) rfl ?_
        show Steps p.tables e below (T53.setTop (mkF m 171 #[.val (.int p0), .val (.int p1), .val (.int p2), .val (.int p3), .val (.int (Int32.ofNat (i.val + 2))), .val (.double (FP.i2d p0)), .second, .val (.double (FP.i2d p1)), .second, .val (.ref b21), .val (.double (FP.i2d p1)), .second, .val (.ref b53), .val (.int (own_k p3 (Int32.ofNat (i.val + 2)))), .val (.double (FP.ddiv (FP.i2d (own_k p3 (Int32.ofNat (i.val + 2)))) (FP.i2d (own_kk i.val)))), .second] [])) _
        refine XS.aload X53.here hx rfl (hb hby at_171) rfl rfl ?_
        show Steps p.tables e below (T53.setTop (mkF m 173 #[.val (.int p0), .val (.int p1), .val (.int p2), .val (.int p3), .val (.int (Int32.ofNat (i.val + 2))), .val (.double (FP.i2d p0)), .second, .val (.double (FP.i2d p1)), .second, .val (.ref b21), .val (.double (FP.i2d p1)), .second, .val (.ref b53), .val (.int (own_k p3 (Int32.ofNat (i.val + 2)))), .val (.double (FP.ddiv (FP.i2d (own_k p3 (Int32.ofNat (i.val + 2)))) (FP.i2d (own_kk i.val)))), .second] [(.ref b53)])) _
        refine XS.iload X53.here hx rfl (hb hby at_173) rfl ?_
        exact kt
      have kb := own_k_b p3 (Int32.ofNat (i.val + 2)) (by rw [c8]; omega)
      obtain ⟨cl58, Ar58, qk58, Sz58, Nn58, Hh58, Gg58⟩ := id Va53
      have hin58 : ¬ ((own_k p3 (Int32.ofNat (i.val + 2))) < 0 ∨ cl58.slots.size ≤ ((own_k p3 (Int32.ofNat (i.val + 2)))).toNatClampNeg) := inb_of Sz58 kb
      have hat58 : cl58.slots[((own_k p3 (Int32.ofNat (i.val + 2)))).toNatClampNeg]? = some (.double (own_el (0 : UInt64) (4607182418800017408 : UInt64) (own_kk i.val) (own_k p3 (Int32.ofNat (i.val + 2))))) := Hh58.at hin58 (by rw [own_vl_at _ _ _ _ _ (by have h := kb.2; rw [Int32.lt_iff_toInt_lt, c8] at h; show (own_k p3 (Int32.ofNat (i.val + 2))).toInt.toNat < _; omega), own_nat kb.1])
      have pre59 : ∀ t, Steps p.tables e below (T53.setTop (mkF m 187 #[.val (.int p0), .val (.int p1), .val (.int p2), .val (.int p3), .val (.int (Int32.ofNat (i.val + 2))), .val (.double (FP.i2d p0)), .second, .val (.double (FP.i2d p1)), .second, .val (.ref b21), .val (.double (FP.i2d p1)), .second, .val (.ref b53), .val (.int (own_k p3 (Int32.ofNat (i.val + 2)))), .val (.double (FP.ddiv (FP.i2d (own_k p3 (Int32.ofNat (i.val + 2)))) (FP.i2d (own_kk i.val)))), .second] [(.int (1 : Int32))])) t → Steps p.tables e below (s₁.setTop (entryFrame m #[(.int p0), (.int p1), (.int p2), (.int p3)] maxLocals)) t := fun t kt => by
        refine pre57 _ ?_
        show Steps p.tables e below (T53.setTop (mkF m 175 #[.val (.int p0), .val (.int p1), .val (.int p2), .val (.int p3), .val (.int (Int32.ofNat (i.val + 2))), .val (.double (FP.i2d p0)), .second, .val (.double (FP.i2d p1)), .second, .val (.ref b21), .val (.double (FP.i2d p1)), .second, .val (.ref b53), .val (.int (own_k p3 (Int32.ofNat (i.val + 2)))), .val (.double (FP.ddiv (FP.i2d (own_k p3 (Int32.ofNat (i.val + 2)))) (FP.i2d (own_kk i.val)))), .second] [(.int (own_k p3 (Int32.ofNat (i.val + 2)))), (.ref b53)])) _
        refine X53.daload hx (j := (own_k p3 (Int32.ofNat (i.val + 2)))) (v := (.double (own_el (0 : UInt64) (4607182418800017408 : UInt64) (own_kk i.val) (own_k p3 (Int32.ofNat (i.val + 2)))))) Ar58.1 (State.isArrayOf_alike hZ.alike Ar58.2.1) Ar58.2.2 hin58 hat58 (g := (mkF m 175 #[.val (.int p0), .val (.int p1), .val (.int p2), .val (.int p3), .val (.int (Int32.ofNat (i.val + 2))), .val (.double (FP.i2d p0)), .second, .val (.double (FP.i2d p1)), .second, .val (.ref b21), .val (.double (FP.i2d p1)), .second, .val (.ref b53), .val (.int (own_k p3 (Int32.ofNat (i.val + 2)))), .val (.double (FP.ddiv (FP.i2d (own_k p3 (Int32.ofNat (i.val + 2)))) (FP.i2d (own_kk i.val)))), .second] [(.int (own_k p3 (Int32.ofNat (i.val + 2)))), (.ref b53)])) rfl rfl (hb hby at_175) _ ?_
        show Steps p.tables e below (T53.setTop (mkF m 176 #[.val (.int p0), .val (.int p1), .val (.int p2), .val (.int p3), .val (.int (Int32.ofNat (i.val + 2))), .val (.double (FP.i2d p0)), .second, .val (.double (FP.i2d p1)), .second, .val (.ref b21), .val (.double (FP.i2d p1)), .second, .val (.ref b53), .val (.int (own_k p3 (Int32.ofNat (i.val + 2)))), .val (.double (FP.ddiv (FP.i2d (own_k p3 (Int32.ofNat (i.val + 2)))) (FP.i2d (own_kk i.val)))), .second] [(.double (own_el (0 : UInt64) (4607182418800017408 : UInt64) (own_kk i.val) (own_k p3 (Int32.ofNat (i.val + 2)))))])) _
        refine XS.dload X53.here hx rfl (hb hby at_176) rfl ?_
        show Steps p.tables e below (T53.setTop (mkF m 178 #[.val (.int p0), .val (.int p1), .val (.int p2), .val (.int p3), .val (.int (Int32.ofNat (i.val + 2))), .val (.double (FP.i2d p0)), .second, .val (.double (FP.i2d p1)), .second, .val (.ref b21), .val (.double (FP.i2d p1)), .second, .val (.ref b53), .val (.int (own_k p3 (Int32.ofNat (i.val + 2)))), .val (.double (FP.ddiv (FP.i2d (own_k p3 (Int32.ofNat (i.val + 2)))) (FP.i2d (own_kk i.val)))), .second] [(.double (FP.ddiv (FP.i2d (own_k p3 (Int32.ofNat (i.val + 2)))) (FP.i2d (own_kk i.val)))), (.double (own_el (0 : UInt64) (4607182418800017408 : UInt64) (own_kk i.val) (own_k p3 (Int32.ofNat (i.val + 2)))))])) _
        refine XS.dcmpS X53.here hx rfl (hb hby at_178) rfl (v := (0 : Int32)) (own_unit c2 (own_k p3 (Int32.ofNat (i.val + 2))) _) ?_
        show Steps p.tables e below (T53.setTop (mkF m 179 #[.val (.int p0), .val (.int p1), .val (.int p2), .val (.int p3), .val (.int (Int32.ofNat (i.val + 2))), .val (.double (FP.i2d p0)), .second, .val (.double (FP.i2d p1)), .second, .val (.ref b21), .val (.double (FP.i2d p1)), .second, .val (.ref b53), .val (.int (own_k p3 (Int32.ofNat (i.val + 2)))), .val (.double (FP.ddiv (FP.i2d (own_k p3 (Int32.ofNat (i.val + 2)))) (FP.i2d (own_kk i.val)))), .second] [(.int (0 : Int32))])) _
        refine XS.ifNo X53.here hx rfl (hb hby at_179) rfl ((if0 _ _).trans (teq (by decide : (0 : Int32) = (0 : Int32))).2) ?_
        show Steps p.tables e below (T53.setTop (mkF m 182 #[.val (.int p0), .val (.int p1), .val (.int p2), .val (.int p3), .val (.int (Int32.ofNat (i.val + 2))), .val (.double (FP.i2d p0)), .second, .val (.double (FP.i2d p1)), .second, .val (.ref b21), .val (.double (FP.i2d p1)), .second, .val (.ref b53), .val (.int (own_k p3 (Int32.ofNat (i.val + 2)))), .val (.double (FP.ddiv (FP.i2d (own_k p3 (Int32.ofNat (i.val + 2)))) (FP.i2d (own_kk i.val)))), .second] [])) _
        refine XS.iconst X53.here hx rfl (hb hby at_182) ?_
        show Steps p.tables e below (T53.setTop (mkF m 183 #[.val (.int p0), .val (.int p1), .val (.int p2), .val (.int p3), .val (.int (Int32.ofNat (i.val + 2))), .val (.double (FP.i2d p0)), .second, .val (.double (FP.i2d p1)), .second, .val (.ref b21), .val (.double (FP.i2d p1)), .second, .val (.ref b53), .val (.int (own_k p3 (Int32.ofNat (i.val + 2)))), .val (.double (FP.ddiv (FP.i2d (own_k p3 (Int32.ofNat (i.val + 2)))) (FP.i2d (own_kk i.val)))), .second] [(.int (1 : Int32))])) _
        refine XS.goto X53.here hx rfl (pc0 := 183) (pc' := 187) rfl (hb hby at_183) (by decide) (by decide) ?_
        exact kt
      obtain ⟨fs, hr, hrun, hended, hW, hsame⟩ := X53.leave (v := (some (.int (1 : Int32)))) (fun h => by rw [Bd.returns] at h; cases h)
      refine ⟨_, _, pre59 _ ?_, hrun, hended, _, _, rfl, ?_, ⟨_, rfl⟩, hW, hsame.mono (by decide) (by decide)⟩
      · show Steps p.tables e below (T53.setTop (mkF m 187 #[.val (.int p0), .val (.int p1), .val (.int p2), .val (.int p3), .val (.int (Int32.ofNat (i.val + 2))), .val (.double (FP.i2d p0)), .second, .val (.double (FP.i2d p1)), .second, .val (.ref b21), .val (.double (FP.i2d p1)), .second, .val (.ref b53), .val (.int (own_k p3 (Int32.ofNat (i.val + 2)))), .val (.double (FP.ddiv (FP.i2d (own_k p3 (Int32.ofNat (i.val + 2)))) (FP.i2d (own_kk i.val)))), .second] [(.int (1 : Int32))])) _
        exact retN X53 hx (t := .boolean) Bd.returns (by simp) (hb hby at_187) hr
      · show Q0 Z p0 p1 p2 p3 h0 n0 _ T53.heap _
        exact ⟨rfl, N53⟩
set_option maxRecDepth 65536 in
set_option maxHeartbeats 40000000 in
theorem comes_1 {Post : Tables → Env → Array Value → State → Outcome → State → Prop} (hpost : ∀ tb e args s v u, (limb_1_1.after args s (.returned v) u = true ∧ limb_1_2.after args s (.returned v) u = true ∧ True) → FrameEnd s (.returned v) u (Jvm.fieldLocs frame_1_writes args s ++ Jvm.arrayLocs frame_1_arrays args s ++ Jvm.staticLocs frame_1_statics s) 16 128 → Post tb e args s (.returned v) u) :
    ArmFor flags0 classFile x code maxLocals ret World_1 tables_1 room_1 Calls_1 rest_1 Pre_1 Post := by
  intro l hfl _ _ p e ha hc hk s m args below hf hA hF happ hP
  obtain ⟨hcalls, hrest, hpre⟩ := hP
  obtain ⟨-, -, -, hnamed, -, -, -, hat⟩ := (Spec.applies_iff hf).mp happ
  obtain ⟨hg, hn⟩ := and_e (Cond.before_iff.mp (show (Jvm.Cond.and given_1 narrow_1).before args s = true from hpre))
  obtain ⟨gc, g0⟩ := and_e hg
  obtain ⟨gg0, g1⟩ := and_e g0
  obtain ⟨gg1, g2⟩ := and_e g1
  obtain ⟨gg2, g3⟩ := and_e g2
  obtain ⟨w0, w1, w2, w3, rfl⟩ : ∃ w0 w1 w2 w3 : Value, args = #[w0, w1, w2, w3] := by
    have hs : args.size = 4 := by simpa [Cond.value, given_1] using gc
    obtain ⟨L⟩ := args
    match L, hs with
    | [w0, w1, w2, w3], _ => exact ⟨w0, w1, w2, w3, rfl⟩
  have hw := fun d (hd : d ∈ tables_1) => atoms_spec (ws := Jvm.Cond.code x code maxLocals ret :: tables_1) hat d (List.mem_cons_of_mem _ hd)
  have hfit : Fit s := fun {y c} hc i hi => by
    obtain ⟨ha, rfl⟩ := Array.getElem?_eq_some_iff.mp hc
    have q := List.all_eq_true.mp ((Array.all_eq_true_iff_forall_mem.mp hF) _ (Array.getElem_mem ha)) i (List.mem_range.mpr hi)
    simpa [Array.getElem?_eq_getElem hi] using q
  obtain ⟨i0, ei0⟩ := is_v gg0
  obtain rfl : w0 = (.int i0) := Option.some.inj ei0
  obtain ⟨i1, ei1⟩ := is_v gg1
  obtain rfl : w1 = (.int i1) := Option.some.inj ei1
  obtain ⟨i2, ei2⟩ := is_v gg2
  obtain rfl : w2 = (.int i2) := Option.some.inj ei2
  obtain ⟨i3, ei3⟩ := is_v g3
  obtain rfl : w3 = (.int i3) := Option.some.inj ei3
  obtain ⟨n, o, h1, h2, h3, _, L, rfl, ⟨rfl, N⟩, hq⟩ := rm0 l s _ hw tables_1 i0 i1 i2 i3  s.heap s.heap.size (Nat.le_refl _)  p e ha hc hk s m _ below hf ((Spec.applies_iff_loose hf).mp happ).1 ⟨rfl, State.Warmed39.refl s, rfl⟩ trivial
  refine ⟨n, _, h1, h2, h3, hpost _ _ _ _ _ _ ⟨Cond.after_iff.mpr rfl, Cond.after_iff.mpr (eq_i res_at (Term.int_eval (1)) rfl), trivial⟩ ⟨hq.1, hq.2.1, (hq.2.2.sift fun y hy => Or.inr (N y hy)).mono (by decide) (by decide)⟩⟩
theorem main_1_1 : Claimed_1_1 := comes_1 fun _ _ _ _ _ _ h hF => ⟨h.1, hF⟩
theorem main_1_2 : Claimed_1_2 := comes_1 fun _ _ _ _ _ _ h hF => ⟨h.2.1, hF⟩
end Jvm.Pilot.@@N@@
namespace Jvm.Pilot.@@N@@
open Jvm Jvm.ClassFile Sem Op Lib Jvm.Free Jvm.Stand Jvm.Pilot.@@N@@.Jvm.D
/-! MADE BY PROGRAM (witnessworld.py) out of the Statement's table words and the real class files: 13 classes; the members and pool entries that the words name. The judged class is class 1, her method 1. -/
namespace start1
open Jvm.ClassFile
def u (s : String) : CpInfo := .utf8 (stringToUtf16 s)
/-- a pool by its gaps: so many unusable entries, then the entry; so many at the end -/
def gap : Nat → List CpInfo → List CpInfo
  | 0, r => r
  | n + 1, r => .unusable :: gap n r
def poolList (es : List (Nat × CpInfo)) (last : Nat) : List CpInfo := es.foldr (fun e r => gap e.1 (e.2 :: r)) (gap last [])
def pool (es : List (Nat × CpInfo)) (last : Nat) : Array CpInfo := ⟨poolList es last⟩
def fileOf (pool : Array CpInfo) (this : Nat) (attrs : Array Attribute := #[]) (ms : Array MethodInfo := #[]) (fl : Nat := 33) (sup : Nat := 0) (ifs : Array Nat := #[]) (fds : Array FieldInfo := #[]) : ClassFile where
  minorVersion := 0
  majorVersion := 65
  constantPool := pool
  accessFlags := fl
  thisClass := this
  superClass := sup
  interfaces := ifs
  fields := fds
  methods := ms
  attributes := attrs
def plain (name : String) (sup : Option ClassId) : Class where
  name := name
  kind := .ordinary
  loader := none
  accessFlags := 33
  super := sup
  interfaces := #[]
  cf := none
  fields := #[]
  methods := #[]
  instanceTypes := #[]
  staticTypes := #[]
  resolved := #[]
  callSites := []
  init := .initialized
  statics := none
  mirror := none

def pool0 : Array CpInfo := pool [(5, u "<init>"), (0, u "()V"), (1, .class_ 10), (1, u "java/lang/Object")] 113

def k0m0 : Method := { name := "<init>", desc := "()V", sig := { parameters := [], returnType := none }, accessFlags := 1, code := none }
/-- java/lang/Object -/
def k0 : Class := { plain "java/lang/Object" none with
  accessFlags := 33
  interfaces := #[]
  cf := some (fileOf pool0 8 #[] #[{ accessFlags := 1, nameIndex := 5, descriptorIndex := 6, attributes := #[] }] 33 0 #[] #[])
  fields := #[]
  methods := #[k0m0]
  instanceTypes := #[]
  staticTypes := #[]
  resolved := Array.replicate 124 none
  statics := none }

def pool1 : Array CpInfo := pool [(2, .class_ 4), (1, u "java/lang/Object"), (0, u "<init>"), (0, u "()V"), (0, .methodref 8 9), (0, .class_ 10), (0, .nameAndType 11 12), (0, u "com/example/tesserae/tesserae/problems/Zdt"), (0, u "evenlySpaced"), (0, u "(DDI)[D"), (0, .double 4611686018427387904), (1, .integer 2147483647), (0, .class_ 17), (0, u "com/example/tesserae/tesserae/problems/ZdtEvenlySpacedPinLaw"), (2, u "law"), (0, u "(IIII)Z")] 5

def k1m0 : Method := { name := "<init>", desc := "()V", sig := { parameters := [], returnType := none }, accessFlags := 1, code := none }
def k1c1 : Code := { maxStack := 5, maxLocals := 16, code := code, exceptionTable := #[], attributes := #[] }
def k1m1 : Method := { name := "law", desc := "(IIII)Z", sig := { parameters := [.int, .int, .int, .int], returnType := some .boolean }, accessFlags := 9, code := some k1c1 }
/-- com/example/tesserae/tesserae/problems/ZdtEvenlySpacedPinLaw -/
def k1 : Class := { plain "com/example/tesserae/tesserae/problems/ZdtEvenlySpacedPinLaw" (some 0) with
  accessFlags := 49
  interfaces := #[]
  cf := some (fileOf pool1 16 #[] #[{ accessFlags := 1, nameIndex := 5, descriptorIndex := 6, attributes := #[] }, { accessFlags := 9, nameIndex := 20, descriptorIndex := 21, attributes := #[] }] 49 2 #[] #[])
  fields := #[]
  methods := #[k1m0, k1m1]
  instanceTypes := #[]
  staticTypes := #[]
  resolved := Array.replicate 27 none
  statics := none }

def pool2 : Array CpInfo := pool [(2, .class_ 4), (1, u "com/example/tesserae/tesserae/core/Problem"), (16, .class_ 22), (0, u "java/lang/Object")] 59

/-- com/example/tesserae/tesserae/core/Problem -/
def k2 : Class := { plain "com/example/tesserae/tesserae/core/Problem" (some 0) with
  accessFlags := 1537
  interfaces := #[]
  cf := some (fileOf pool2 2 #[] #[] 1537 21 #[] #[])
  fields := #[]
  methods := #[]
  instanceTypes := #[]
  staticTypes := #[]
  resolved := Array.replicate 82 none
  statics := none }

def pool3 : Array CpInfo := pool [(1, .class_ 2), (0, u "com/example/tesserae/tesserae/problems/Benchmark"), (8, .class_ 12), (0, u "java/lang/Object"), (0, .class_ 14), (0, u "com/example/tesserae/tesserae/core/Problem"), (0, u "REFERENCE_POINTS"), (0, u "I")] 9

/-- com/example/tesserae/tesserae/problems/Benchmark -/
def k3 : Class := { plain "com/example/tesserae/tesserae/problems/Benchmark" (some 0) with
  accessFlags := 1537
  interfaces := #[2]
  cf := some (fileOf pool3 1 #[] #[] 1537 11 #[13] #[{ accessFlags := 25, nameIndex := 15, descriptorIndex := 16, attributes := #[] }])
  fields := #[{ name := "REFERENCE_POINTS", type := .int, accessFlags := 25, slot := 0, constantValue := 0 }]
  methods := #[]
  instanceTypes := #[]
  staticTypes := #[.int]
  resolved := Array.replicate 26 none
  statics := none }

def pool4 : Array CpInfo := pool [(2, .class_ 4), (1, u "java/lang/Object"), (18, .class_ 25), (1, u "com/example/tesserae/tesserae/problems/Zdt"), (0, u "name"), (0, u "Ljava/lang/String;"), (7, u "bounds"), (0, u "Lcom/example/tesserae/tesserae/core/Bounds;"), (46, u "evenlySpaced"), (0, u "(DDI)[D"), (12, .class_ 98), (0, u "com/example/tesserae/tesserae/problems/Benchmark")] 58

def k4c0 : Code := { maxStack := 8, maxLocals := 9, code := prog_55_method_15_code, exceptionTable := #[], attributes := #[] }
def k4m0 : Method := { name := "evenlySpaced", desc := "(DDI)[D", sig := { parameters := [.double, .double, .int], returnType := some (.array .double) }, accessFlags := 8, code := some k4c0 }
/-- com/example/tesserae/tesserae/problems/Zdt -/
def k4 : Class := { plain "com/example/tesserae/tesserae/problems/Zdt" (some 0) with
  accessFlags := 1056
  interfaces := #[3]
  cf := some (fileOf pool4 23 #[] #[{ accessFlags := 8, nameIndex := 83, descriptorIndex := 84, attributes := #[] }] 1056 2 #[97] #[{ accessFlags := 18, nameIndex := 26, descriptorIndex := 27, attributes := #[] }, { accessFlags := 18, nameIndex := 35, descriptorIndex := 36, attributes := #[] }])
  fields := #[{ name := "name", type := (.object "java/lang/String"), accessFlags := 18, slot := 0, constantValue := 0 }, { name := "bounds", type := (.object "com/example/tesserae/tesserae/core/Bounds"), accessFlags := 18, slot := 1, constantValue := 0 }]
  methods := #[k4m0]
  instanceTypes := #[(.object "java/lang/String"), (.object "com/example/tesserae/tesserae/core/Bounds")]
  staticTypes := #[]
  resolved := Array.replicate 157 none
  statics := none }

def pool5 : Array CpInfo := pool [(1, u "java/lang/Cloneable"), (0, .class_ 1), (0, u "java/lang/Object"), (0, .class_ 3)] 3

/-- java/lang/Cloneable -/
def k5 : Class := { plain "java/lang/Cloneable" (some 0) with
  accessFlags := 1537
  interfaces := #[]
  cf := some (fileOf pool5 2 #[] #[] 1537 4 #[] #[])
  fields := #[]
  methods := #[]
  instanceTypes := #[]
  staticTypes := #[]
  resolved := Array.replicate 8 none
  statics := none }

def pool6 : Array CpInfo := pool [(1, u "java/io/Serializable"), (0, .class_ 1), (0, u "java/lang/Object"), (0, .class_ 3)] 3

/-- java/io/Serializable -/
def k6 : Class := { plain "java/io/Serializable" (some 0) with
  accessFlags := 1537
  interfaces := #[]
  cf := some (fileOf pool6 2 #[] #[] 1537 4 #[] #[])
  fields := #[]
  methods := #[]
  instanceTypes := #[]
  staticTypes := #[]
  resolved := Array.replicate 8 none
  statics := none }

/-- the primitive byte -/
def k7 : Class := { plain "byte" none with kind := .primitive 'B', accessFlags := 0x411 }
/-- [B -/
def k8 : Class := { plain "[B" (some 0) with kind := .array 7 .byte, interfaces := #[5, 6], accessFlags := 1041 }

/-- the primitive double -/
def k9 : Class := { plain "double" none with kind := .primitive 'D', accessFlags := 0x411 }
/-- [D -/
def k10 : Class := { plain "[D" (some 0) with kind := .array 9 .double, interfaces := #[5, 6], accessFlags := 1041 }

/-- the primitive int -/
def k11 : Class := { plain "int" none with kind := .primitive 'I', accessFlags := 0x411 }
/-- [I -/
def k12 : Class := { plain "[I" (some 0) with kind := .array 11 .int, interfaces := #[5, 6], accessFlags := 1041 }

def heap : Heap := #[]
def classes : Array Class := #[k0, k1, k2, k3, k4, k5, k6, k7, k8, k9, k10, k11, k12]
def interned : List (Array UInt16 × Addr) := []
def slotsUsed : Nat := 0
def theMethod : MethodId := ⟨1, 1⟩
def args0 : Array Value := #[.int 5, .int 5, .int 5, .int 5]
def aboutOver (below : List Frame) : State where
  vm := { classes := classes, interned := interned.toArray }
  heap := heap
  slotsUsed := slotsUsed
  threads := #[{ frames := .invoking theMethod args0 :: below }]
def below0 : List Frame := [.native { method := ⟨0, 0⟩, args := #[] }]
def about1 : State := aboutOver below0
def p0 : Program := .bare "" "" ""
def e0 : Env := launch0.env 0 0 0
theorem w_frames : about1.frames = Frame.invoking theMethod args0 :: below0 := rfl
set_option maxRecDepth 65536 in
theorem w_args : argsFit about1.vm theMethod args0 = true := by decide +kernel
set_option maxRecDepth 65536 in
theorem w_heap : heapFits about1 = true := by decide +kernel
set_option maxRecDepth 65536 in
theorem w_runnable : about1.curStatus? = some .runnable := by decide +kernel
set_option maxRecDepth 65536 in
theorem w_alone : about1.alone = true := by decide +kernel
set_option maxRecDepth 65536 in
theorem w_named : about1.methodNamed? x = some theMethod := by decide +kernel
set_option maxRecDepth 65536 in
theorem w_hears : about1.hears theMethod below0 = true := by decide +kernel
set_option maxRecDepth 65536 in
theorem w_ripe : about1.ripe theMethod args0 below0 = true := by decide +kernel
theorem w_running : about1.status = .running := rfl
set_option maxRecDepth 65536 in
theorem w_room : about1.hasRoom e0.platform room_1 = true :=
  launch0.hasRoom_least _ room_1 (by decide +kernel) (by decide +kernel) (by decide +kernel) (by decide +kernel) (by decide +kernel) (by decide +kernel)
theorem allAtoms_all (ts : List Jvm.Cond) (a : Array Jvm.Value) (st : Jvm.State) : (allAtoms ts).before a st = ts.all (fun c => c.before a st) := by
  induction ts with
  | nil => rfl
  | cons c t ih =>
    show (Jvm.Cond.and c (allAtoms t)).before a st = _
    rw [Jvm.Cond.before_and, ih, List.all_cons]
def words1 : List Jvm.Cond := Jvm.Cond.code x code maxLocals ret :: tables_1
/-- a 'code' word, met by the world's own term for the bytes: nothing is compared byte by byte -/
theorem code_word {y : MethodName} {bytes : ByteArray} {mx : Nat} {rt : Option FieldType} {a : Array Value} {s : State} {m : MethodId} {meth : Method} {c : Code} (h1 : s.methodNamed? y = some m) (h2 : s.vm.method? m = some meth) (h3 : meth.code = some c) (h4 : c.code = bytes)
    (h5 : (c.maxLocals == mx && c.exceptionTable.isEmpty && decide (c.maxStack ≤ mostOperands) && decide (meth.sig.returnType = rt) && !meth.locks && decide (parseMethodDescriptor y.desc = some meth.sig)) = true) : (Jvm.Cond.code y bytes mx rt).before a s = true := by
  simp only [Bool.and_eq_true, beq_iff_eq, Bool.not_eq_true', decide_eq_true_eq] at h5
  obtain ⟨⟨⟨⟨⟨g1, g2⟩, g3⟩, g4⟩, g5⟩, g6⟩ := h5
  simp [Cond.before, Cond.holds, Cond.value, h1, h2, h3, h4, g1, g2, g3, g4, g5, g6]
def isCode : Jvm.Cond → Bool
  | .code _ _ _ _ => true
  | _ => false
theorem all_split {L : List Jvm.Cond} {P : Jvm.Cond → Bool} (h1 : L.all (fun c => isCode c || P c) = true) (h2 : ∀ c ∈ L.filter isCode, P c = true) : L.all P = true := by
  refine List.all_eq_true.mpr fun c hc => ?_
  have h := List.all_eq_true.mp h1 c hc
  rcases Bool.eq_false_or_eq_true (isCode c) with hi | hi
  · exact h2 c (List.mem_filter.mpr ⟨hc, hi⟩)
  · simpa [hi] using h
set_option maxRecDepth 65536 in
theorem w_c0 : (Jvm.Cond.code x code maxLocals ret).before args0 about1 = true := code_word (m := ⟨1, 1⟩) (meth := k1m1) (c := k1c1) (by decide +kernel) rfl rfl rfl (by decide +kernel)
set_option maxRecDepth 65536 in
theorem w_c1 : (Jvm.Cond.code ({ cls := "com/example/tesserae/tesserae/problems/Zdt", name := "evenlySpaced", desc := "(DDI)[D" } : Jvm.MethodName) prog_55_method_15_code (9 : Nat) (Option.some (Jvm.ClassFile.FieldType.array Jvm.ClassFile.FieldType.double))).before args0 about1 = true := code_word (m := ⟨4, 0⟩) (meth := k4m0) (c := k4c0) (by decide +kernel) rfl rfl rfl (by decide +kernel)
def codes1 : List Jvm.Cond := [Jvm.Cond.code x code maxLocals ret, Jvm.Cond.code ({ cls := "com/example/tesserae/tesserae/problems/Zdt", name := "evenlySpaced", desc := "(DDI)[D" } : Jvm.MethodName) prog_55_method_15_code (9 : Nat) (Option.some (Jvm.ClassFile.FieldType.array Jvm.ClassFile.FieldType.double))]
set_option maxRecDepth 65536 in
theorem codes_eq : words1.filter isCode = codes1 := rfl
theorem w_codes : ∀ c ∈ words1.filter isCode, c.before args0 about1 = true := by
  rw [codes_eq]
  intro c hc
  simp only [codes1, List.mem_cons, List.not_mem_nil, or_false] at hc
  rcases hc with rfl | rfl
  · exact w_c0
  · exact w_c1
set_option maxRecDepth 65536 in
theorem w_t1 : words1.all (fun c => isCode c || c.before args0 about1) = true := by decide +kernel
theorem w_tables : (allAtoms (Jvm.Cond.code x code maxLocals ret :: tables_1)).before args0 about1 = true := by
  rw [allAtoms_all]
  show words1.all (fun c => c.before args0 about1) = true
  refine all_split ?_ w_codes
  rw [w_t1]
set_option maxRecDepth 65536 in
theorem w_case : (Jvm.Cond.and given_1 narrow_1).before args0 about1 = true := by decide +kernel
theorem w_applies : (headSpec (Jvm.Cond.code x code maxLocals ret :: tables_1) room_1).applies x e0.platform about1 = true :=
  (Spec.applies_iff w_frames).mpr ⟨w_running, w_runnable, w_alone, w_named, w_hears, w_ripe, w_room, w_tables⟩
theorem atStart : AtStart classFile x code maxLocals ret World_1 tables_1 room_1 Calls_1 rest_1 Pre_1 launch0 p0 e0 about1 theMethod args0 below0 :=
  ⟨lists_1, trivial, launch0.admits_env _ _ _, launch0.least_env, fairChoices_fair.cas, fairChoices_fair.clock, w_frames, w_args, w_heap, w_applies, trivial, trivial, w_case⟩
end start1
theorem witness_1 : WitnessClaimed_1 := ⟨start1.p0, start1.e0, start1.about1, start1.theMethod, start1.args0, start1.below0, start1.atStart⟩
end Jvm.Pilot.@@N@@
