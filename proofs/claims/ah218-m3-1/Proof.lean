import JvmDerived
import JvmDerived.Pilot.@@N@@Statement
import JvmDerived.Pilot.@@N@@Code
set_option linter.unusedVariables false
set_option linter.unusedSimpArgs false
namespace Jvm.RoadKit
open Sem ClassFile Op Lib Jvm.Stand Jvm.Free Jvm.LawKit
section New
variable {p : Program} {l : Launch} {e : Env} {R : Room} {s : State} {m : MethodId} {args : Array Value} {below : List Frame} {meth : Method} {c : Code} {T : State} {locs : List Loc} {cells slots : Nat}
theorem retI (X : Stand p l e R s m args below meth c T locs cells slots) (hx : p.tables.exec = Jvm.exec) {pc : Nat} {Ls : Array Slot} {z : Int32} {rest : List Value} (hret : meth.sig.returnType = some .int) (hd : decode c.code pc = .ok (.ireturn, 1)) {fs : List Frame}
    (hl : ∀ (f : JFrame) (acts : List Action), f.method = m → f.locked = none → f.entered = [] → (doReturn e (T.setTop f) acts (some (.int z))).1 = T.setFrames fs) : Steps p.tables e below (T.setTop (mkF m pc Ls (.int z :: rest))) (T.setFrames fs) := by
  have hm' : T.vm.method? m = some meth := X.method'
  have hn : narrow .int (.int z) = .int z := rfl
  show Steps p.tables e below (T.setTop { method := m, pc := pc, locals := Ls, stack := _ :: rest, locked := none }) _
  jvm_step X.here [X.here.top, hx, hd, hm', hret, hn]
  first | (intro acts; rw [hl _ acts rfl rfl rfl]) | rw [hl _ _ rfl rfl rfl]
  exact Steps.refl _
end New
end Jvm.RoadKit
namespace Jvm.Pilot.@@N@@
open Jvm Jvm.ClassFile Sem Op Lib Jvm.Free Jvm.Stand Jvm.LawKit Jvm.RoadKit Bundle Jvm.Pilot.@@N@@.Jvm.D

open FP.Core in
theorem own_grid (m : Nat) (h2 : m ≤ 9007199254740992) : ∃ V : FP.Core.Datum, FP.Core.fits b64 V ∧ V ≠ .nan ∧ zmag b64 V = m * 2 ^ 1021 := by
  have hq : b64.qmin = -1074 := by decide
  have hx : b64.qmax = 971 := by decide
  have ht : b64.tails = 4503599627370496 := by decide
  have hp : 2 ^ b64.p = 9007199254740992 := by decide
  by_cases h0 : m = 0
  · refine ⟨.fin false 0 b64.qmin, ⟨by rw [hp]; decide, Int.le_refl _, by rw [hq, hx]; decide, Or.inl rfl⟩, nofun, ?_⟩
    subst h0
    show 0 * _ = 0 * _
    rw [Nat.zero_mul, Nat.zero_mul]
  · by_cases h1 : m = 9007199254740992
    · refine ⟨.fin false 4503599627370496 (-52), ⟨by rw [hp]; decide, by rw [hq]; decide, by rw [hx]; decide, Or.inr (by rw [ht]; decide)⟩, nofun, ?_⟩
      subst h1
      show 4503599627370496 * 2 ^ ((-52 : Int) - b64.qmin).toNat = _
      rw [hq, show ((-52 : Int) - -1074).toNat = 1022 from rfl, Nat.pow_succ, show (9007199254740992 : Nat) = 4503599627370496 * 2 from rfl]
      generalize (2 : Nat) ^ 1021 = X
      omega
    · have hl : m.log2 ≤ 52 := by
        have : m < 2 ^ 53 := by omega
        have := (Nat.log2_lt h0).mpr this
        omega
      have l1 := Nat.log2_self_le h0
      have l2 : m < 2 ^ (m.log2 + 1) := Nat.lt_log2_self
      have hk : 2 ^ m.log2 * 2 ^ (52 - m.log2) = 4503599627370496 := by
        rw [← Nat.pow_add, show m.log2 + (52 - m.log2) = 52 by omega]
      have p := Nat.two_pow_pos (52 - m.log2)
      refine ⟨.fin false (m * 2 ^ (52 - m.log2)) (-53 - ((52 - m.log2 : Nat) : Int)), ⟨?_, ?_, ?_, Or.inr ?_⟩, nofun, ?_⟩
      · rw [hp]
        have := Nat.mul_lt_mul_of_pos_right l2 p
        rw [Nat.pow_succ, Nat.mul_right_comm, hk] at this
        exact this
      · rw [hq]; omega
      · rw [hx]; omega
      · rw [ht, ← hk]
        exact Nat.mul_le_mul_right _ l1
      · show m * 2 ^ (52 - m.log2) * 2 ^ (-53 - ((52 - m.log2 : Nat) : Int) - b64.qmin).toNat = _
        rw [hq, Nat.mul_assoc, ← Nat.pow_add, show 52 - m.log2 + (-53 - ((52 - m.log2 : Nat) : Int) - -1074).toNat = 1021 by omega]
open FP.Core in
theorem own_sep {s s' : Bool} {A B A' B' : Nat} (hB : 0 < B) (hB' : 0 < B') (hA' : A' ≤ B') (h : A * B' < A' * B) (hb : 2 * (B * B') ≤ 9007199254740992) : zmag b64 (roundRatio b64 s A B 0) < zmag b64 (roundRatio b64 s' A' B' 0) := by
  have hq : b64.qmin = -1074 := by decide
  obtain ⟨m1, e1⟩ : ∃ m1, m1 = (A * 9007199254740992 + B - 1) / B := ⟨_, rfl⟩
  obtain ⟨m2, e2⟩ : ∃ m2, m2 = A' * 9007199254740992 / B' := ⟨_, rfl⟩
  have a1 : A * 9007199254740992 ≤ m1 * B := by
    have := Nat.div_add_mod (A * 9007199254740992 + B - 1) B
    have l := Nat.mod_lt (A * 9007199254740992 + B - 1) hB
    rw [← e1, Nat.mul_comm] at this
    omega
  have a2 : m1 * B < A * 9007199254740992 + B := by
    have := Nat.div_mul_le_self (A * 9007199254740992 + B - 1) B
    rw [← e1] at this
    omega
  have a3 : m2 * B' ≤ A' * 9007199254740992 := by
    have := Nat.div_mul_le_self (A' * 9007199254740992) B'
    rwa [← e2] at this
  have a4 : A' * 9007199254740992 < m2 * B' + B' := by
    have := Nat.div_add_mod (A' * 9007199254740992) B'
    have l := Nat.mod_lt (A' * 9007199254740992) hB'
    rw [← e2, Nat.mul_comm] at this
    omega
  have hm : m1 < m2 := by
    refine Nat.lt_of_not_le fun q => ?_
    have b1 : m1 * B * B' < (A * 9007199254740992 + B) * B' := Nat.mul_lt_mul_of_pos_right a2 hB'
    have b2 : A' * 9007199254740992 * B < (m2 * B' + B') * B := Nat.mul_lt_mul_of_pos_right a4 hB
    have b3 : m2 * B' * B ≤ m1 * B * B' := by
      rw [Nat.mul_assoc, Nat.mul_assoc, Nat.mul_comm B' B]
      exact Nat.mul_le_mul_right _ q
    have b4 : (A * B' + 1) * 9007199254740992 ≤ A' * B * 9007199254740992 := Nat.mul_le_mul_right _ h
    have c1 : (A * 9007199254740992 + B) * B' = A * B' * 9007199254740992 + B * B' := by rw [Nat.add_mul, Nat.mul_right_comm]
    have c2 : (m2 * B' + B') * B = m2 * B' * B + B * B' := by rw [Nat.add_mul, Nat.mul_comm B' B]
    have c3 : A' * 9007199254740992 * B = A' * B * 9007199254740992 := Nat.mul_right_comm _ _ _
    rw [c1] at b1
    rw [c2, c3] at b2
    omega
  have hm2 : m2 ≤ 9007199254740992 := by
    refine Nat.le_of_not_lt fun q => ?_
    have t1 : (9007199254740992 + 1) * B' ≤ m2 * B' := Nat.mul_le_mul_right _ q
    have t2 : A' * 9007199254740992 ≤ B' * 9007199254740992 := Nat.mul_le_mul_right _ hA'
    rw [Nat.add_mul] at t1
    omega
  obtain ⟨V1, f1, n1, z1⟩ := own_grid m1 (by omega)
  obtain ⟨V2, f2, n2, z2⟩ := own_grid m2 hm2
  have P : (2 : Nat) ^ 1074 = 9007199254740992 * 2 ^ 1021 := by rw [show (9007199254740992 : Nat) = 2 ^ 53 from rfl, ← Nat.pow_add]
  have u1 : zmag b64 (roundRatio b64 s A B 0) ≤ zmag b64 V1 := by
    refine zmag_roundRatio_le good_b64 (e0 := -1074) hB f1 n1 (by rw [hq]; decide) (by decide) ?_
    rw [z1, hq, show ((-1074 : Int) - -1074).toNat = 0 from rfl, Nat.pow_zero, Nat.mul_one]
    show A * 2 ^ ((0 : Int) - -1074).toNat ≤ _
    rw [show ((0 : Int) - -1074).toNat = 1074 from rfl, P, ← Nat.mul_assoc, Nat.mul_right_comm]
    generalize (2 : Nat) ^ 1021 = X
    refine Nat.le_trans (Nat.le_of_eq ?_) (Nat.le_trans (Nat.mul_le_mul_right X a1) (Nat.le_of_eq ?_)) <;> ac_rfl
  have u2 : zmag b64 V2 ≤ zmag b64 (roundRatio b64 s' A' B' 0) := by
    refine zmag_roundRatio_ge good_b64 (e0 := -1074) hB' f2 (by rw [hq]; decide) (by decide) ?_
    rw [z2, hq, show ((-1074 : Int) - -1074).toNat = 0 from rfl, Nat.pow_zero, Nat.mul_one]
    show _ ≤ A' * 2 ^ ((0 : Int) - -1074).toNat
    rw [show ((0 : Int) - -1074).toNat = 1074 from rfl, P, ← Nat.mul_assoc, Nat.mul_right_comm]
    generalize (2 : Nat) ^ 1021 = X
    refine Nat.le_trans (Nat.le_of_eq ?_) (Nat.le_trans (Nat.mul_le_mul_right X a3) (Nat.le_of_eq ?_)) <;> ac_rfl
  have u3 : zmag b64 V1 < zmag b64 V2 := by
    rw [z1, z2]
    exact Nat.mul_lt_mul_of_pos_right hm (Nat.two_pow_pos _)
  omega
open FP.Core in
theorem own_cross {c S d U : Nat} {q r : Int} (h1 : c * 2 ^ q.toNat = S * 2 ^ (-q).toNat) (h2 : d * 2 ^ r.toNat = U * 2 ^ (-r).toNat) : c * U * 2 ^ (q - r - 0).toNat = S * d * 2 ^ (0 - (q - r)).toNat := by
  obtain ⟨k, hk⟩ : ∃ k, k = q.toNat + (-r).toNat - (q - r - 0).toNat := ⟨_, rfl⟩
  have e1 : (q - r - 0).toNat + k = q.toNat + (-r).toNat := by omega
  have e2 : (0 - (q - r)).toNat + k = (-q).toNat + r.toNat := by omega
  refine Nat.eq_of_mul_eq_mul_right (Nat.two_pow_pos k) ?_
  rw [Nat.mul_assoc, Nat.mul_assoc (S * d), ← Nat.pow_add, ← Nat.pow_add, e1, e2, Nat.pow_add, Nat.pow_add]
  have : c * 2 ^ q.toNat * (U * 2 ^ (-r).toNat) = S * 2 ^ (-q).toNat * (d * 2 ^ r.toNat) := by rw [h1, h2]
  calc c * U * (2 ^ q.toNat * 2 ^ (-r).toNat) = c * 2 ^ q.toNat * (U * 2 ^ (-r).toNat) := by ac_rfl
    _ = S * 2 ^ (-q).toNat * (d * 2 ^ r.toNat) := this
    _ = S * d * (2 ^ (-q).toNat * 2 ^ r.toNat) := by ac_rfl
open FP.Core in
theorem own_quot {a b : Int64} (ha : Small53 a) (hb : Small53 b) (h1 : 0 ≤ a.toInt) (h2 : 0 < b.toInt) : val64 (FP.ddiv (FP.l2d a) (FP.l2d b)) = roundRatio b64 false a.toInt.toNat b.toInt.toNat 0 := by
  have e0 : val64 (FP.ddiv (FP.l2d a) (FP.l2d b)) = quotient b64 (val64 (FP.l2d a)) (val64 (FP.l2d b)) := val64_ddiv _ _
  obtain ⟨c, q, e1⟩ := l2d_shape a
  obtain ⟨d, r, e2⟩ := l2d_shape b
  have w1 := l2d_whole ha
  have w2 := l2d_whole hb
  rw [e1, decide_eq_false (by omega)] at w1
  rw [e2, decide_eq_false (by omega)] at w2
  have w1' : ((c * 2 ^ q.toNat : Nat) : Int) = a.toInt * ((2 ^ (-q).toNat : Nat) : Int) := w1
  have w2' : ((d * 2 ^ r.toNat : Nat) : Int) = b.toInt * ((2 ^ (-r).toNat : Nat) : Int) := w2
  have v1 : c * 2 ^ q.toNat = a.toInt.toNat * 2 ^ (-q).toNat := by
    have t : ((a.toInt.toNat : Nat) : Int) = a.toInt := by omega
    rw [← t, ← Int.natCast_mul] at w1'
    exact Int.ofNat.inj w1'
  have v2 : d * 2 ^ r.toNat = b.toInt.toNat * 2 ^ (-r).toNat := by
    have t : ((b.toInt.toNat : Nat) : Int) = b.toInt := by omega
    rw [← t, ← Int.natCast_mul] at w2'
    exact Int.ofNat.inj w2'
  have hd : ¬ d = 0 := fun z => by
    rw [z, Nat.zero_mul] at v2
    have := Nat.mul_pos (show 0 < b.toInt.toNat by omega) (Nat.two_pow_pos (-r).toNat)
    omega
  have e3 : quotient b64 (.fin false c q) (.fin false d r) = roundRatio b64 (false != false) c d (q - r) := by
    show (if d = 0 then _ else _) = _
    rw [if_neg hd]
  have e1' : val64 (FP.l2d a) = .fin false c q := by
    have := e1
    rw [decide_eq_false (by omega)] at this
    exact this
  have e2' : val64 (FP.l2d b) = .fin false d r := by
    have := e2
    rw [decide_eq_false (by omega)] at this
    exact this
  rw [e0, e1', e2', e3]
  exact roundRatio_congr (by omega) (by omega) (own_cross v1 v2)
/-- what the two quotients' comparison says -/
theorem own_main {s u d : Int64} (hs0 : 0 ≤ s.toInt) (hsu : s.toInt ≤ u.toInt) (hu0 : 0 < u.toInt) (hu1 : u.toInt ≤ 2147483648) (hd0 : 0 < d.toInt) (hd1 : d.toInt ≤ 1000000) :
    (s.toInt * 1000000 < d.toInt * u.toInt ∧ cmpValue (FP.dcmp (FP.ddiv (FP.l2d s) (FP.l2d u)) (FP.ddiv (FP.l2d d) (FP.l2d (1000000 : Int64)))) .l = (-1 : Int32)) ∨
    (s.toInt * 1000000 = d.toInt * u.toInt ∧ cmpValue (FP.dcmp (FP.ddiv (FP.l2d s) (FP.l2d u)) (FP.ddiv (FP.l2d d) (FP.l2d (1000000 : Int64)))) .l = (0 : Int32)) ∨
    (d.toInt * u.toInt < s.toInt * 1000000 ∧ cmpValue (FP.dcmp (FP.ddiv (FP.l2d s) (FP.l2d u)) (FP.ddiv (FP.l2d d) (FP.l2d (1000000 : Int64)))) .l = (1 : Int32)) := by
  have em : (1000000 : Int64).toInt = 1000000 := by decide
  have q1 := own_quot (a := s) (b := u) ⟨by omega, by omega⟩ ⟨by omega, by omega⟩ hs0 hu0
  have q2 := own_quot (a := d) (b := (1000000 : Int64)) ⟨by omega, by omega⟩ ⟨by omega, by omega⟩ (by omega) (by omega)
  rw [em, show (1000000 : Int).toNat = 1000000 from rfl] at q2
  have f1 : FP.Core.fits FP.Core.b64 (FP.Core.roundRatio FP.Core.b64 false s.toInt.toNat u.toInt.toNat 0) := FP.Core.roundRatio_fits FP.Core.good_b64 _ _ (by omega) _
  have n1 : FP.Core.val64 (FP.ddiv (FP.l2d s) (FP.l2d u)) ≠ .nan := by
    rw [q1]
    rcases FP.Core.roundRatio_cases FP.Core.b64 false s.toInt.toNat u.toInt.toNat 0 with ⟨_, _, z⟩ | z <;> rw [z] <;> nofun
  have n2 : FP.Core.val64 (FP.ddiv (FP.l2d d) (FP.l2d (1000000 : Int64))) ≠ .nan := by
    rw [q2]
    rcases FP.Core.roundRatio_cases FP.Core.b64 false d.toInt.toNat 1000000 0 with ⟨_, _, z⟩ | z <;> rw [z] <;> nofun
  have dz := FP.Core.dcmp_zval n1 n2
  rw [q1, q2] at dz
  have g1 : FP.Core.zval FP.Core.b64 (FP.Core.roundRatio FP.Core.b64 false s.toInt.toNat u.toInt.toNat 0) = (FP.Core.zmag FP.Core.b64 (FP.Core.roundRatio FP.Core.b64 false s.toInt.toNat u.toInt.toNat 0) : Int) := by
    unfold FP.Core.zval
    rw [FP.Core.sgn_roundRatio]
    rfl
  have g2 : FP.Core.zval FP.Core.b64 (FP.Core.roundRatio FP.Core.b64 false d.toInt.toNat 1000000 0) = (FP.Core.zmag FP.Core.b64 (FP.Core.roundRatio FP.Core.b64 false d.toInt.toNat 1000000 0) : Int) := by
    unfold FP.Core.zval
    rw [FP.Core.sgn_roundRatio]
    rfl
  rw [g1, g2] at dz
  have dz' : FP.dcmp (FP.ddiv (FP.l2d s) (FP.l2d u)) (FP.ddiv (FP.l2d d) (FP.l2d (1000000 : Int64))) = _ := dz
  have x1 : ((s.toInt.toNat * 1000000 : Nat) : Int) = s.toInt * 1000000 := by omega
  have x2 : ((d.toInt.toNat * u.toInt.toNat : Nat) : Int) = d.toInt * u.toInt := by
    rw [Int.natCast_mul, show ((d.toInt.toNat : Nat) : Int) = d.toInt by omega, show ((u.toInt.toNat : Nat) : Int) = u.toInt by omega]
  have hb : 2 * (u.toInt.toNat * 1000000) ≤ 9007199254740992 := by omega
  rcases Nat.lt_trichotomy (s.toInt.toNat * 1000000) (d.toInt.toNat * u.toInt.toNat) with t | t | t
  · refine Or.inl ⟨by omega, ?_⟩
    have k := own_sep (s := false) (s' := false) (show 0 < u.toInt.toNat by omega) (show 0 < 1000000 by decide) (show d.toInt.toNat ≤ 1000000 by omega) t hb
    rw [dz', show compare (_ : Int) (_ : Int) = Ordering.lt from Int.compare_eq_lt.mpr (by exact Int.ofNat_lt.mpr k)]
    rfl
  · refine Or.inr (Or.inl ⟨by omega, ?_⟩)
    have k : FP.Core.roundRatio FP.Core.b64 false s.toInt.toNat u.toInt.toNat 0 = FP.Core.roundRatio FP.Core.b64 false d.toInt.toNat 1000000 0 := FP.Core.roundRatio_congr (by omega) (by decide) (by rw [t])
    rw [dz', k, show compare (_ : Int) (_ : Int) = Ordering.eq from Int.compare_eq_eq.mpr rfl]
    rfl
  · refine Or.inr (Or.inr ⟨by omega, ?_⟩)
    have k := own_sep (s := false) (s' := false) (show 0 < 1000000 by decide) (show 0 < u.toInt.toNat by omega) (show s.toInt.toNat ≤ u.toInt.toNat by omega) t (by omega)
    rw [dz', show compare (_ : Int) (_ : Int) = Ordering.gt from Int.compare_eq_gt.mpr (by exact Int.ofNat_lt.mpr k)]
    rfl
def own_uni (q : Int64) : Int64 := ((q &&& (2147483647 : Int64)) + (1 : Int64))
def own_sh (p q : Int64) : Int64 := ((p &&& (2147483647 : Int64)) - (((p &&& (2147483647 : Int64)) / (own_uni q + (1 : Int64))) * (own_uni q + (1 : Int64))))
def own_dg (p : Int32) : Int64 := ((((p &&& (2147483647 : Int32)) % (1000000 : Int32)).toInt64) + (1 : Int64))
theorem own_and64 (a : Int64) : 0 ≤ (a &&& (2147483647 : Int64)).toInt ∧ (a &&& (2147483647 : Int64)).toInt ≤ 2147483647 := by
  have h : (a &&& (2147483647 : Int64)).toBitVec.toNat ≤ 2147483647 := by
    rw [Int64.toBitVec_and, BitVec.toNat_and]
    exact Nat.le_trans Nat.and_le_right (by decide)
  have e : (a &&& (2147483647 : Int64)).toInt = ((a &&& (2147483647 : Int64)).toBitVec.toNat : Int) := BitVec.toInt_eq_toNat_of_lt (by omega)
  omega
theorem own_add1 (a : Int64) (h0 : 0 ≤ a.toInt) (h : a.toInt ≤ 4294967296) : (a + (1 : Int64)).toInt = a.toInt + 1 := by
  have : (1 : Int64).toInt = 1 := by decide
  rw [Int64.toInt_add, this, Int.bmod_eq_of_le] <;> omega
theorem own_uni_b (q : Int64) : 0 < (own_uni q).toInt ∧ (own_uni q).toInt ≤ 2147483648 := by
  have h := own_and64 q
  unfold own_uni
  rw [own_add1 _ h.1 (by omega)]
  omega
theorem own_nz (q : Int64) : ¬ (own_uni q + (1 : Int64)) = (0 : Int64) := fun e => by
  have h := own_uni_b q
  have := own_add1 (own_uni q) (by omega) (by omega)
  rw [e] at this
  have z : (0 : Int64).toInt = 0 := by decide
  omega
theorem own_sh_b (p q : Int64) : 0 ≤ (own_sh p q).toInt ∧ (own_sh p q).toInt ≤ (own_uni q).toInt := by
  have h := own_uni_b q
  have a := own_and64 p
  have e := own_add1 (own_uni q) (by omega) (by omega)
  have c := (c_lrem (p &&& (2147483647 : Int64)) (own_uni q + (1 : Int64)) _ e).1 a.1
  have c' : (own_sh p q).toInt = (p &&& (2147483647 : Int64)).toInt % ((own_uni q).toInt + 1) := c
  have m1 := Int.emod_nonneg (p &&& (2147483647 : Int64)).toInt (show (own_uni q).toInt + 1 ≠ 0 by omega)
  have m2 := Int.emod_lt_of_pos (p &&& (2147483647 : Int64)).toInt (show 0 < (own_uni q).toInt + 1 by omega)
  omega
theorem own_dg_b (p : Int32) : 0 < (own_dg p).toInt ∧ (own_dg p).toInt ≤ 1000000 := by
  have h : (p &&& (2147483647 : Int32)).toBitVec.toNat ≤ 2147483647 := by
    rw [Int32.toBitVec_and, BitVec.toNat_and]
    exact Nat.le_trans Nat.and_le_right (by decide)
  have e : (p &&& (2147483647 : Int32)).toInt = ((p &&& (2147483647 : Int32)).toBitVec.toNat : Int) := BitVec.toInt_eq_toNat_of_lt (by omega)
  have em : (1000000 : Int32).toInt = 1000000 := by decide
  have b1 : 0 ≤ ((p &&& (2147483647 : Int32)) % (1000000 : Int32)).toInt := by rw [Int32.toInt_mod]; exact Int.tmod_nonneg _ (by omega)
  have b2 : ((p &&& (2147483647 : Int32)) % (1000000 : Int32)).toInt < 1000000 := by rw [Int32.toInt_mod, em]; exact Int.tmod_lt_of_pos _ (by decide)
  have e2 : (((p &&& (2147483647 : Int32)) % (1000000 : Int32)).toInt64).toInt = ((p &&& (2147483647 : Int32)) % (1000000 : Int32)).toInt := Int32.toInt_toInt64 _
  unfold own_dg
  rw [own_add1 _ (by omega) (by omega)]
  omega
theorem own_fin (a : Int64) : Fl.Fin64 (FP.l2d a) := Fl.l2d_fin a
theorem own_nzd {a : Int64} (h : ¬ a = 0) : Fl.Nz64 (FP.l2d a) := by
  have b := l2d_big h
  rw [Fl.nz64_iff]
  have := b.1
  omega
theorem own_nn {a b : Int64} (h : ¬ b = 0) : Fl.NoNaN64 (FP.ddiv (FP.l2d a) (FP.l2d b)) := Fl.ddiv_out (own_fin a).noNaN (own_fin b) (own_nzd h)
theorem own_mil : (4696837146684686336 : UInt64) = FP.l2d (1000000 : Int64) := by decide +kernel
theorem own_uni_nz (q : Int64) : ¬ own_uni q = 0 := fun e => by
  have h := own_uni_b q
  rw [e] at h
  exact absurd h.1 (by decide)
def own_re (x y : UInt64) : Int32 := if cmpValue (FP.dcmp x y) .l < (0 : Int32) then 0 else 1
def own_ex (a b : Int64) : Int32 := if lcmpW a b < (0 : Int32) then 0 else 1
theorem own_lc1 {a b : Int64} (h : a.toInt < b.toInt) : lcmpW a b = (-1 : Int32) := by
  show (if a > b then (1 : Int32) else if a = b then 0 else -1) = -1
  rw [if_neg (by show ¬ b < a; rw [Int64.lt_iff_toInt_lt]; omega), if_neg (fun e => by rw [e] at h; omega)]
theorem own_lc2 {a b : Int64} (h : b.toInt < a.toInt) : lcmpW a b = (1 : Int32) := by
  show (if a > b then (1 : Int32) else if a = b then 0 else -1) = 1
  rw [if_pos (by show b < a; rw [Int64.lt_iff_toInt_lt]; omega)]
theorem own_lc0 {a b : Int64} (h : a.toInt = b.toInt) : lcmpW a b = (0 : Int32) := by
  show (if a > b then (1 : Int32) else if a = b then 0 else -1) = 0
  rw [if_neg (by show ¬ b < a; rw [Int64.lt_iff_toInt_lt]; omega), if_pos (Int64.toInt_inj.mp h)]
theorem own_law (p q : Int64) (r : Int32) : own_re (FP.ddiv (FP.l2d (own_sh p q)) (FP.l2d (own_uni q))) (FP.ddiv (FP.l2d (own_dg r)) (FP.l2d (1000000 : Int64))) = own_ex (own_sh p q * (1000000 : Int64)) (own_dg r * own_uni q) := by
  have hs := own_sh_b p q
  have hu := own_uni_b q
  have hd := own_dg_b r
  have em : (1000000 : Int64).toInt = 1000000 := by decide
  have e1 : (own_sh p q * (1000000 : Int64)).toInt = (own_sh p q).toInt * 1000000 := by
    rw [Int64.toInt_mul, em, Int.bmod_eq_of_le] <;> omega
  have e2 : (own_dg r * own_uni q).toInt = (own_dg r).toInt * (own_uni q).toInt := by
    have l1 : (own_dg r).toInt * (own_uni q).toInt ≤ 1000000 * 2147483648 := Int.mul_le_mul hd.2 hu.2 (by omega) (by decide)
    have l0 : 0 ≤ (own_dg r).toInt * (own_uni q).toInt := Int.mul_nonneg (by omega) (by omega)
    rw [Int64.toInt_mul, Int.bmod_eq_of_le] <;> omega
  rcases own_main hs.1 hs.2 hu.1 hu.2 hd.1 hd.2 with ⟨t, k⟩ | ⟨t, k⟩ | ⟨t, k⟩
  · unfold own_re own_ex
    rw [k, own_lc1 (by rw [e1, e2]; exact t)]
  · unfold own_re own_ex
    rw [k, own_lc0 (by rw [e1, e2]; exact t)]
  · unfold own_re own_ex
    rw [k, own_lc2 (by rw [e1, e2]; exact t)]
theorem pn_0 : plainName "com/example/libshingle/libshingle/service/Discovery" = true := by first | (simp [plainName, overriddenIn]; done) | decide +kernel
theorem ef_1 (m : MethodId) (x1 : UInt64) (x2 : UInt64) : entryFrame m #[(.double x1), (.double x2)] 4 = (mkF m 0 #[.val (.double x1), .second, .val (.double x2), .second] []) := by first | (simp [entryFrame, mkF, argsToLocals, Value.category]; done) | rfl
theorem d1_0 : decode prog_20_method_4_code 0 = .ok (.dload_n 0, 1) := by decide +kernel
theorem d1_1 : decode prog_20_method_4_code 1 = .ok (.dload_n 2, 1) := by decide +kernel
theorem d1_2 : decode prog_20_method_4_code 2 = .ok (.dcmp .l, 1) := by decide +kernel
theorem d1_3 : decode prog_20_method_4_code 3 = .ok (.ifCond .lt 7, 3) := by decide +kernel
theorem d1_10 : decode prog_20_method_4_code 10 = .ok (.iconst 0, 1) := by decide +kernel
theorem d1_11 : decode prog_20_method_4_code 11 = .ok (.ireturn, 1) := by decide +kernel
theorem d1_6 : decode prog_20_method_4_code 6 = .ok (.iconst 1, 1) := by decide +kernel
theorem d1_7 : decode prog_20_method_4_code 7 = .ok (.goto 4, 3) := by decide +kernel
def Q1 (Z : State) (x1 : UInt64) (x2 : UInt64) (h0 : Heap) (n0 : Nat) (v : Option Value) (h : Heap) (L : List Loc) : Prop := v = some (.int (own_re x1 x2)) ∧ Fr n0 L ∧ h = h0
set_option maxRecDepth 65536 in
set_option maxHeartbeats 40000000 in
theorem rm1 (l : Launch) (Z : State) (a0 : Array Value) (hw : ∀ d ∈ tables_1, d.before a0 Z = true) (ws : List Jvm.Cond) (x1 : UInt64) (x2 : UInt64) (h0 : Heap) (n0 : Nat) (Z0 : n0 ≤ h0.size) :
    MetFree l (⟨"com/example/libshingle/libshingle/service/Discovery", "reaches", "(DD)Z"⟩ : MethodName) (head1 (Jvm.Cond.code (⟨"com/example/libshingle/libshingle/service/Discovery", "reaches", "(DD)Z"⟩ : MethodName) prog_20_method_4_code 4 (some .boolean) :: ws) ({ frames := 0, cells := 0, slots := 0, locals := 0 } : Room)) (fun a U => a = #[(.double x1), (.double x2)] ∧ Z.Warmed39 U.vm ∧ U.heap = h0) (fun _ _ _ _ _ => True) (fun _ U o U' => ∃ v L, o = .returned v ∧ Q1 Z x1 x2 h0 n0 v U'.heap L ∧ FrameEnd U o U' L ({ frames := 0, cells := 0, slots := 0, locals := 0 } : Room).cells ({ frames := 0, cells := 0, slots := 0, locals := 0 } : Room).slots) := by
  refine MetFree.of_bodySF (plainFor_of_name pn_0) hisR ?_
  intro p e s m args below meth c s₁ Bd hml0 hP hK
  obtain ⟨rfl, hZ, hh⟩ := hP
  have hx := Bd.exec
  have hby := Bd.bytes
  have hml : c.maxLocals = 4 := hml0
  have hown : s.vm.findClass "com/example/libshingle/libshingle/service/Discovery" = some m.cls := findClass_of_methodNamed Bd.named
  have hnm := (name_of_methodNamed Bd.named Bd.method).1
  have X0 : Stand p l e ({ frames := 0, cells := 0, slots := 0, locals := 0 } : Room) s m #[(.double x1), (.double x2)] below meth c s₁ [] 0 0 := Stand.of_body Bd
  have e0 : s₁.heap = h0 := by rw [← hh, Bd.state]; rfl
  have N0 := Fr.nil n0
  have pre0 : ∀ t, Steps p.tables e below (s₁.setTop (mkF m 0 #[.val (.double x1), .second, .val (.double x2), .second] [])) t → Steps p.tables e below (s₁.setTop (entryFrame m #[(.double x1), (.double x2)] 4)) t := fun t k => castTop (ef_1 m x1 x2) k
  have pre1 : ∀ t, Steps p.tables e below (s₁.setTop (mkF m 3 #[.val (.double x1), .second, .val (.double x2), .second] [(.int (cmpValue (FP.dcmp x1 x2) .l))])) t → Steps p.tables e below (s₁.setTop (entryFrame m #[(.double x1), (.double x2)] 4)) t := fun t kt => by
    refine pre0 _ ?_
    show Steps p.tables e below (s₁.setTop (mkF m 0 #[.val (.double x1), .second, .val (.double x2), .second] [])) _
    refine XS.dloadN X0.here hx rfl (hb hby d1_0) rfl ?_
    show Steps p.tables e below (s₁.setTop (mkF m 1 #[.val (.double x1), .second, .val (.double x2), .second] [(.double x1)])) _
    refine XS.dloadN X0.here hx rfl (hb hby d1_1) rfl ?_
    show Steps p.tables e below (s₁.setTop (mkF m 2 #[.val (.double x1), .second, .val (.double x2), .second] [(.double x2), (.double x1)])) _
    refine XS.dcmpS X0.here hx rfl (hb hby d1_2) rfl rfl ?_
    exact kt
  by_cases c1 : (cmpValue (FP.dcmp x1 x2) .l) < (0 : Int32)
  · have pre2 : ∀ t, Steps p.tables e below (s₁.setTop (mkF m 11 #[.val (.double x1), .second, .val (.double x2), .second] [(.int (0 : Int32))])) t → Steps p.tables e below (s₁.setTop (entryFrame m #[(.double x1), (.double x2)] 4)) t := fun t kt => by
      refine pre1 _ ?_
      show Steps p.tables e below (s₁.setTop (mkF m 3 #[.val (.double x1), .second, .val (.double x2), .second] [(.int (cmpValue (FP.dcmp x1 x2) .l))])) _
      refine XS.ifYes X0.here hx rfl (pc0 := 3) (pc' := 10) rfl (hb hby d1_3) rfl ((if0 _ _).trans (tlt (c1 : (cmpValue (FP.dcmp x1 x2) .l) < (0 : Int32))).1) (by decide) (by decide) ?_
      show Steps p.tables e below (s₁.setTop (mkF m 10 #[.val (.double x1), .second, .val (.double x2), .second] [])) _
      refine XS.iconst X0.here hx rfl (hb hby d1_10) ?_
      exact kt
    have ev : own_re x1 x2 = (0 : Int32) := if_pos c1
    obtain ⟨fs, hr, hrun, hended, hW, hsame⟩ := X0.leave (v := (some (.int (0 : Int32)))) (fun h => by rw [Bd.returns] at h; cases h)
    refine ⟨_, _, pre2 _ ?_, hrun, hended, _, _, rfl, ?_, ⟨_, rfl⟩, hW, hsame.mono (by decide) (by decide)⟩
    · show Steps p.tables e below (s₁.setTop (mkF m 11 #[.val (.double x1), .second, .val (.double x2), .second] [(.int (0 : Int32))])) _
      exact retN X0 hx (t := .boolean) Bd.returns (by simp) (hb hby d1_11) hr
    · show Q1 Z x1 x2 h0 n0 _ s₁.heap _
      rw [e0]
      exact ⟨by rw [ev], N0, rfl⟩
  · have pre3 : ∀ t, Steps p.tables e below (s₁.setTop (mkF m 11 #[.val (.double x1), .second, .val (.double x2), .second] [(.int (1 : Int32))])) t → Steps p.tables e below (s₁.setTop (entryFrame m #[(.double x1), (.double x2)] 4)) t := fun t kt => by
      refine pre1 _ ?_
      show Steps p.tables e below (s₁.setTop (mkF m 3 #[.val (.double x1), .second, .val (.double x2), .second] [(.int (cmpValue (FP.dcmp x1 x2) .l))])) _
      refine XS.ifNo X0.here hx rfl (hb hby d1_3) rfl ((if0 _ _).trans (flt (c1 : ¬ ((cmpValue (FP.dcmp x1 x2) .l) < (0 : Int32)))).1) ?_
      show Steps p.tables e below (s₁.setTop (mkF m 6 #[.val (.double x1), .second, .val (.double x2), .second] [])) _
      refine XS.iconst X0.here hx rfl (hb hby d1_6) ?_
      show Steps p.tables e below (s₁.setTop (mkF m 7 #[.val (.double x1), .second, .val (.double x2), .second] [(.int (1 : Int32))])) _
      refine XS.goto X0.here hx rfl (pc0 := 7) (pc' := 11) rfl (hb hby d1_7) (by decide) (by decide) ?_
      exact kt
    have ev : own_re x1 x2 = (1 : Int32) := if_neg c1
    obtain ⟨fs, hr, hrun, hended, hW, hsame⟩ := X0.leave (v := (some (.int (1 : Int32)))) (fun h => by rw [Bd.returns] at h; cases h)
    refine ⟨_, _, pre3 _ ?_, hrun, hended, _, _, rfl, ?_, ⟨_, rfl⟩, hW, hsame.mono (by decide) (by decide)⟩
    · show Steps p.tables e below (s₁.setTop (mkF m 11 #[.val (.double x1), .second, .val (.double x2), .second] [(.int (1 : Int32))])) _
      exact retN X0 hx (t := .boolean) Bd.returns (by simp) (hb hby d1_11) hr
    · show Q1 Z x1 x2 h0 n0 _ s₁.heap _
      rw [e0]
      exact ⟨by rw [ev], N0, rfl⟩
theorem pn_1 : plainName "com/example/libshingle/libshingle/service/DiscoveryReachesPinLaw" = true := by first | (simp [plainName, overriddenIn]; done) | decide +kernel
theorem ef_0 (m : MethodId) (q0 : Int64) (q1 : Int64) (p2 : Int32) : entryFrame m #[(.long q0), (.long q1), (.int p2)] maxLocals = (mkF m 0 #[.val (.long q0), .second, .val (.long q1), .second, .val (.int p2), .unset, .unset, .unset, .unset, .unset, .unset, .unset, .unset, .unset, .unset, .unset] []) := by first | (simp [entryFrame, mkF, argsToLocals, Value.category, maxLocals]; done) | rfl
theorem pd_0 : parseMethodDescriptor "(DD)Z" = some ⟨[.double, .double], some .boolean⟩ := by decide +kernel
def Q0 (Z : State) (q0 : Int64) (q1 : Int64) (p2 : Int32) (h0 : Heap) (n0 : Nat) (v : Option Value) (h : Heap) (L : List Loc) : Prop := v = some (.int (1 : Int32)) ∧ Fr n0 L
set_option maxRecDepth 65536 in
set_option maxHeartbeats 40000000 in
theorem rm0 (l : Launch) (Z : State) (a0 : Array Value) (hw : ∀ d ∈ tables_1, d.before a0 Z = true) (ws : List Jvm.Cond) (q0 : Int64) (q1 : Int64) (p2 : Int32) (h0 : Heap) (n0 : Nat) (Z0 : n0 ≤ h0.size) :
    MetFree l x (head1 (Jvm.Cond.code x code maxLocals ret :: ws) room_1) (fun a U => a = #[(.long q0), (.long q1), (.int p2)] ∧ Z.Warmed39 U.vm ∧ U.heap = h0) (fun _ _ _ _ _ => True) (fun _ U o U' => ∃ v L, o = .returned v ∧ Q0 Z q0 q1 p2 h0 n0 v U'.heap L ∧ FrameEnd U o U' L room_1.cells room_1.slots) := by
  refine MetFree.of_bodySF (plainFor_of_name pn_1) hisR ?_
  intro p e s m args below meth c s₁ Bd hml0 hP hK
  obtain ⟨rfl, hZ, hh⟩ := hP
  have hx := Bd.exec
  have hby := Bd.bytes
  have hml : c.maxLocals = 16 := hml0
  have hown : s.vm.findClass "com/example/libshingle/libshingle/service/DiscoveryReachesPinLaw" = some m.cls := findClass_of_methodNamed Bd.named
  have hnm := (name_of_methodNamed Bd.named Bd.method).1
  have X0 : Stand p l e room_1 s m #[(.long q0), (.long q1), (.int p2)] below meth c s₁ [] 0 0 := Stand.of_body Bd
  have e0 : s₁.heap = h0 := by rw [← hh, Bd.state]; rfl
  have N0 := Fr.nil n0
  have pre0 : ∀ t, Steps p.tables e below (s₁.setTop (mkF m 0 #[.val (.long q0), .second, .val (.long q1), .second, .val (.int p2), .unset, .unset, .unset, .unset, .unset, .unset, .unset, .unset, .unset, .unset, .unset] [])) t → Steps p.tables e below (s₁.setTop (entryFrame m #[(.long q0), (.long q1), (.int p2)] maxLocals)) t := fun t k => castTop (ef_0 m q0 q1 p2) k
  have pre1 : ∀ t, Steps p.tables e below (s₁.setTop (mkF m 64 #[.val (.long q0), .second, .val (.long q1), .second, .val (.int p2), .val (.long (own_uni q1)), .second, .val (.long (own_sh q0 q1)), .second, .val (.long (own_dg p2)), .second, .val (.double (FP.ddiv (FP.l2d (own_sh q0 q1)) (FP.l2d (own_uni q1)))), .second, .val (.double (FP.ddiv (FP.l2d (own_dg p2)) (FP.l2d (1000000 : Int64)))), .second, .unset] [(.int (lcmpW ((own_sh q0 q1) * (1000000 : Int64)) ((own_dg p2) * (own_uni q1))))])) t → Steps p.tables e below (s₁.setTop (entryFrame m #[(.long q0), (.long q1), (.int p2)] maxLocals)) t := fun t kt => by
    refine pre0 _ ?_
    show Steps p.tables e below (s₁.setTop (mkF m 0 #[.val (.long q0), .second, .val (.long q1), .second, .val (.int p2), .unset, .unset, .unset, .unset, .unset, .unset, .unset, .unset, .unset, .unset, .unset] [])) _
    refine XS.lloadN X0.here hx rfl (hb hby at_0) rfl ?_
    show Steps p.tables e below (s₁.setTop (mkF m 1 #[.val (.long q0), .second, .val (.long q1), .second, .val (.int p2), .unset, .unset, .unset, .unset, .unset, .unset, .unset, .unset, .unset, .unset, .unset] [(.long q1)])) _
    refine X0.ldc2Long hx hown (mvT hZ (hw _ (List.mem_of_getElem? (i := 0) rfl))) (g := (mkF m 1 #[.val (.long q0), .second, .val (.long q1), .second, .val (.int p2), .unset, .unset, .unset, .unset, .unset, .unset, .unset, .unset, .unset, .unset, .unset] [(.long q1)])) rfl (hb hby at_1) _ ?_
    show Steps p.tables e below (s₁.setTop (mkF m 4 #[.val (.long q0), .second, .val (.long q1), .second, .val (.int p2), .unset, .unset, .unset, .unset, .unset, .unset, .unset, .unset, .unset, .unset, .unset] [(.long (2147483647 : Int64)), (.long q1)])) _
    refine XS.land X0.here hx rfl (hb hby at_4) rfl ?_
    show Steps p.tables e below (s₁.setTop (mkF m 5 #[.val (.long q0), .second, .val (.long q1), .second, .val (.int p2), .unset, .unset, .unset, .unset, .unset, .unset, .unset, .unset, .unset, .unset, .unset] [(.long (q1 &&& (2147483647 : Int64)))])) _
    refine XS.lconst X0.here hx rfl (hb hby at_5) ?_
    show Steps p.tables e below (s₁.setTop (mkF m 6 #[.val (.long q0), .second, .val (.long q1), .second, .val (.int p2), .unset, .unset, .unset, .unset, .unset, .unset, .unset, .unset, .unset, .unset, .unset] [(.long (1 : Int64)), (.long (q1 &&& (2147483647 : Int64)))])) _
    refine XS.ladd X0.here hx rfl (hb hby at_6) rfl ?_
    show Steps p.tables e below (s₁.setTop (mkF m 7 #[.val (.long q0), .second, .val (.long q1), .second, .val (.int p2), .unset, .unset, .unset, .unset, .unset, .unset, .unset, .unset, .unset, .unset, .unset] [(.long (own_uni q1))])) _
    show Steps p.tables e below (s₁.setTop (mkF m 7 #[.val (.long q0), .second, .val (.long q1), .second, .val (.int p2), .unset, .unset, .unset, .unset, .unset, .unset, .unset, .unset, .unset, .unset, .unset] [(.long (own_uni q1))])) _
    refine XS.lstore X0.here hx rfl (hb hby at_7) rfl (l' := #[.val (.long q0), .second, .val (.long q1), .second, .val (.int p2), .val (.long (own_uni q1)), .second, .unset, .unset, .unset, .unset, .unset, .unset, .unset, .unset, .unset]) rfl ?_
    show Steps p.tables e below (s₁.setTop (mkF m 9 #[.val (.long q0), .second, .val (.long q1), .second, .val (.int p2), .val (.long (own_uni q1)), .second, .unset, .unset, .unset, .unset, .unset, .unset, .unset, .unset, .unset] [])) _
    refine XS.lloadN X0.here hx rfl (hb hby at_9) rfl ?_
    show Steps p.tables e below (s₁.setTop (mkF m 10 #[.val (.long q0), .second, .val (.long q1), .second, .val (.int p2), .val (.long (own_uni q1)), .second, .unset, .unset, .unset, .unset, .unset, .unset, .unset, .unset, .unset] [(.long q0)])) _
    refine X0.ldc2Long hx hown (mvT hZ (hw _ (List.mem_of_getElem? (i := 0) rfl))) (g := (mkF m 10 #[.val (.long q0), .second, .val (.long q1), .second, .val (.int p2), .val (.long (own_uni q1)), .second, .unset, .unset, .unset, .unset, .unset, .unset, .unset, .unset, .unset] [(.long q0)])) rfl (hb hby at_10) _ ?_
    show Steps p.tables e below (s₁.setTop (mkF m 13 #[.val (.long q0), .second, .val (.long q1), .second, .val (.int p2), .val (.long (own_uni q1)), .second, .unset, .unset, .unset, .unset, .unset, .unset, .unset, .unset, .unset] [(.long (2147483647 : Int64)), (.long q0)])) _
    refine XS.land X0.here hx rfl (hb hby at_13) rfl ?_
    show Steps p.tables e below (s₁.setTop (mkF m 14 #[.val (.long q0), .second, .val (.long q1), .second, .val (.int p2), .val (.long (own_uni q1)), .second, .unset, .unset, .unset, .unset, .unset, .unset, .unset, .unset, .unset] [(.long (q0 &&& (2147483647 : Int64)))])) _
    refine XS.lload X0.here hx rfl (hb hby at_14) rfl ?_
    show Steps p.tables e below (s₁.setTop (mkF m 16 #[.val (.long q0), .second, .val (.long q1), .second, .val (.int p2), .val (.long (own_uni q1)), .second, .unset, .unset, .unset, .unset, .unset, .unset, .unset, .unset, .unset] [(.long (own_uni q1)), (.long (q0 &&& (2147483647 : Int64)))])) _
    refine XS.lconst X0.here hx rfl (hb hby at_16) ?_
    show Steps p.tables e below (s₁.setTop (mkF m 17 #[.val (.long q0), .second, .val (.long q1), .second, .val (.int p2), .val (.long (own_uni q1)), .second, .unset, .unset, .unset, .unset, .unset, .unset, .unset, .unset, .unset] [(.long (1 : Int64)), (.long (own_uni q1)), (.long (q0 &&& (2147483647 : Int64)))])) _
    refine XS.ladd X0.here hx rfl (hb hby at_17) rfl ?_
    show Steps p.tables e below (s₁.setTop (mkF m 18 #[.val (.long q0), .second, .val (.long q1), .second, .val (.int p2), .val (.long (own_uni q1)), .second, .unset, .unset, .unset, .unset, .unset, .unset, .unset, .unset, .unset] [(.long ((own_uni q1) + (1 : Int64))), (.long (q0 &&& (2147483647 : Int64)))])) _
    refine XT.lrem X0.here hx rfl (hb hby at_18) rfl (own_nz q1) ?_
    show Steps p.tables e below (s₁.setTop (mkF m 19 #[.val (.long q0), .second, .val (.long q1), .second, .val (.int p2), .val (.long (own_uni q1)), .second, .unset, .unset, .unset, .unset, .unset, .unset, .unset, .unset, .unset] [(.long (own_sh q0 q1))])) _
    show Steps p.tables e below (s₁.setTop (mkF m 19 #[.val (.long q0), .second, .val (.long q1), .second, .val (.int p2), .val (.long (own_uni q1)), .second, .unset, .unset, .unset, .unset, .unset, .unset, .unset, .unset, .unset] [(.long (own_sh q0 q1))])) _
    refine XS.lstore X0.here hx rfl (hb hby at_19) rfl (l' := #[.val (.long q0), .second, .val (.long q1), .second, .val (.int p2), .val (.long (own_uni q1)), .second, .val (.long (own_sh q0 q1)), .second, .unset, .unset, .unset, .unset, .unset, .unset, .unset]) rfl ?_
    show Steps p.tables e below (s₁.setTop (mkF m 21 #[.val (.long q0), .second, .val (.long q1), .second, .val (.int p2), .val (.long (own_uni q1)), .second, .val (.long (own_sh q0 q1)), .second, .unset, .unset, .unset, .unset, .unset, .unset, .unset] [])) _
    refine XS.iload X0.here hx rfl (hb hby at_21) rfl ?_
    show Steps p.tables e below (s₁.setTop (mkF m 23 #[.val (.long q0), .second, .val (.long q1), .second, .val (.int p2), .val (.long (own_uni q1)), .second, .val (.long (own_sh q0 q1)), .second, .unset, .unset, .unset, .unset, .unset, .unset, .unset] [(.int p2)])) _
    refine X0.ldcInt hx hown (mvT hZ (hw _ (List.mem_of_getElem? (i := 1) rfl))) (g := (mkF m 23 #[.val (.long q0), .second, .val (.long q1), .second, .val (.int p2), .val (.long (own_uni q1)), .second, .val (.long (own_sh q0 q1)), .second, .unset, .unset, .unset, .unset, .unset, .unset, .unset] [(.int p2)])) rfl (hb hby at_23) _ ?_
    show Steps p.tables e below (s₁.setTop (mkF m 25 #[.val (.long q0), .second, .val (.long q1), .second, .val (.int p2), .val (.long (own_uni q1)), .second, .val (.long (own_sh q0 q1)), .second, .unset, .unset, .unset, .unset, .unset, .unset, .unset] [(.int (2147483647 : Int32)), (.int p2)])) _
    refine XS.iand X0.here hx rfl (hb hby at_25) rfl ?_
    show Steps p.tables e below (s₁.setTop (mkF m 26 #[.val (.long q0), .second, .val (.long q1), .second, .val (.int p2), .val (.long (own_uni q1)), .second, .val (.long (own_sh q0 q1)), .second, .unset, .unset, .unset, .unset, .unset, .unset, .unset] [(.int (p2 &&& (2147483647 : Int32)))])) _
    refine X0.ldcInt hx hown (mvT hZ (hw _ (List.mem_of_getElem? (i := 2) rfl))) (g := (mkF m 26 #[.val (.long q0), .second, .val (.long q1), .second, .val (.int p2), .val (.long (own_uni q1)), .second, .val (.long (own_sh q0 q1)), .second, .unset, .unset, .unset, .unset, .unset, .unset, .unset] [(.int (p2 &&& (2147483647 : Int32)))])) rfl (hb hby at_26) _ ?_
    show Steps p.tables e below (s₁.setTop (mkF m 28 #[.val (.long q0), .second, .val (.long q1), .second, .val (.int p2), .val (.long (own_uni q1)), .second, .val (.long (own_sh q0 q1)), .second, .unset, .unset, .unset, .unset, .unset, .unset, .unset] [(.int (1000000 : Int32)), (.int (p2 &&& (2147483647 : Int32)))])) _
    refine Jvm.RoadKit.iremM X0 hx rfl (hb hby at_28) rfl (by decide) ?_
    show Steps p.tables e below (s₁.setTop (mkF m 29 #[.val (.long q0), .second, .val (.long q1), .second, .val (.int p2), .val (.long (own_uni q1)), .second, .val (.long (own_sh q0 q1)), .second, .unset, .unset, .unset, .unset, .unset, .unset, .unset] [(.int ((p2 &&& (2147483647 : Int32)) % (1000000 : Int32)))])) _
    refine XS.i2l X0.here hx rfl (hb hby at_29) rfl ?_
    show Steps p.tables e below (s₁.setTop (mkF m 30 #[.val (.long q0), .second, .val (.long q1), .second, .val (.int p2), .val (.long (own_uni q1)), .second, .val (.long (own_sh q0 q1)), .second, .unset, .unset, .unset, .unset, .unset, .unset, .unset] [(.long (((p2 &&& (2147483647 : Int32)) % (1000000 : Int32)).toInt64))])) _
    refine XS.lconst X0.here hx rfl (hb hby at_30) ?_
    show Steps p.tables e below (s₁.setTop (mkF m 31 #[.val (.long q0), .second, .val (.long q1), .second, .val (.int p2), .val (.long (own_uni q1)), .second, .val (.long (own_sh q0 q1)), .second, .unset, .unset, .unset, .unset, .unset, .unset, .unset] [(.long (1 : Int64)), (.long (((p2 &&& (2147483647 : Int32)) % (1000000 : Int32)).toInt64))])) _
    refine XS.ladd X0.here hx rfl (hb hby at_31) rfl ?_
    show Steps p.tables e below (s₁.setTop (mkF m 32 #[.val (.long q0), .second, .val (.long q1), .second, .val (.int p2), .val (.long (own_uni q1)), .second, .val (.long (own_sh q0 q1)), .second, .unset, .unset, .unset, .unset, .unset, .unset, .unset] [(.long (own_dg p2))])) _
    show Steps p.tables e below (s₁.setTop (mkF m 32 #[.val (.long q0), .second, .val (.long q1), .second, .val (.int p2), .val (.long (own_uni q1)), .second, .val (.long (own_sh q0 q1)), .second, .unset, .unset, .unset, .unset, .unset, .unset, .unset] [(.long (own_dg p2))])) _
    refine XS.lstore X0.here hx rfl (hb hby at_32) rfl (l' := #[.val (.long q0), .second, .val (.long q1), .second, .val (.int p2), .val (.long (own_uni q1)), .second, .val (.long (own_sh q0 q1)), .second, .val (.long (own_dg p2)), .second, .unset, .unset, .unset, .unset, .unset]) rfl ?_
    show Steps p.tables e below (s₁.setTop (mkF m 34 #[.val (.long q0), .second, .val (.long q1), .second, .val (.int p2), .val (.long (own_uni q1)), .second, .val (.long (own_sh q0 q1)), .second, .val (.long (own_dg p2)), .second, .unset, .unset, .unset, .unset, .unset] [])) _
    refine XS.lload X0.here hx rfl (hb hby at_34) rfl ?_
    show Steps p.tables e below (s₁.setTop (mkF m 36 #[.val (.long q0), .second, .val (.long q1), .second, .val (.int p2), .val (.long (own_uni q1)), .second, .val (.long (own_sh q0 q1)), .second, .val (.long (own_dg p2)), .second, .unset, .unset, .unset, .unset, .unset] [(.long (own_sh q0 q1))])) _
    refine XS.l2dS X0.here hx rfl (hb hby at_36) rfl rfl ?_
    show Steps p.tables e below (s₁.setTop (mkF m 37 #[.val (.long q0), .second, .val (.long q1), .second, .val (.int p2), .val (.long (own_uni q1)), .second, .val (.long (own_sh q0 q1)), .second, .val (.long (own_dg p2)), .second, .unset, .unset, .unset, .unset, .unset] [(.double (FP.l2d (own_sh q0 q1)))])) _
    refine XS.lload X0.here hx rfl (hb hby at_37) rfl ?_
    show Steps p.tables e below (s₁.setTop (mkF m 39 #[.val (.long q0), .second, .val (.long q1), .second, .val (.int p2), .val (.long (own_uni q1)), .second, .val (.long (own_sh q0 q1)), .second, .val (.long (own_dg p2)), .second, .unset, .unset, .unset, .unset, .unset] [(.long (own_uni q1)), (.double (FP.l2d (own_sh q0 q1)))])) _
    refine XS.l2dS X0.here hx rfl (hb hby at_39) rfl rfl ?_
    show Steps p.tables e below (s₁.setTop (mkF m 40 #[.val (.long q0), .second, .val (.long q1), .second, .val (.int p2), .val (.long (own_uni q1)), .second, .val (.long (own_sh q0 q1)), .second, .val (.long (own_dg p2)), .second, .unset, .unset, .unset, .unset, .unset] [(.double (FP.l2d (own_uni q1))), (.double (FP.l2d (own_sh q0 q1)))])) _
    refine XS.ddivS X0.here hx rfl (hb hby at_40) rfl (own_nn (own_uni_nz q1)) rfl ?_
    show Steps p.tables e below (s₁.setTop (mkF m 41 #[.val (.long q0), .second, .val (.long q1), .second, .val (.int p2), .val (.long (own_uni q1)), .second, .val (.long (own_sh q0 q1)), .second, .val (.long (own_dg p2)), .second, .unset, .unset, .unset, .unset, .unset] [(.double (FP.ddiv (FP.l2d (own_sh q0 q1)) (FP.l2d (own_uni q1))))])) _
    refine XS.dstore X0.here hx rfl (hb hby at_41) rfl (l' := #[.val (.long q0), .second, .val (.long q1), .second, .val (.int p2), .val (.long (own_uni q1)), .second, .val (.long (own_sh q0 q1)), .second, .val (.long (own_dg p2)), .second, .val (.double (FP.ddiv (FP.l2d (own_sh q0 q1)) (FP.l2d (own_uni q1)))), .second, .unset, .unset, .unset]) rfl ?_
    show Steps p.tables e below (s₁.setTop (mkF m 43 #[.val (.long q0), .second, .val (.long q1), .second, .val (.int p2), .val (.long (own_uni q1)), .second, .val (.long (own_sh q0 q1)), .second, .val (.long (own_dg p2)), .second, .val (.double (FP.ddiv (FP.l2d (own_sh q0 q1)) (FP.l2d (own_uni q1)))), .second, .unset, .unset, .unset] [])) _
    refine XS.lload X0.here hx rfl (hb hby at_43) rfl ?_
    show Steps p.tables e below (s₁.setTop (mkF m 45 #[.val (.long q0), .second, .val (.long q1), .second, .val (.int p2), .val (.long (own_uni q1)), .second, .val (.long (own_sh q0 q1)), .second, .val (.long (own_dg p2)), .second, .val (.double (FP.ddiv (FP.l2d (own_sh q0 q1)) (FP.l2d (own_uni q1)))), .second, .unset, .unset, .unset] [(.long (own_dg p2))])) _
    refine XS.l2dS X0.here hx rfl (hb hby at_45) rfl rfl ?_
    show Steps p.tables e below (s₁.setTop (mkF m 46 #[.val (.long q0), .second, .val (.long q1), .second, .val (.int p2), .val (.long (own_uni q1)), .second, .val (.long (own_sh q0 q1)), .second, .val (.long (own_dg p2)), .second, .val (.double (FP.ddiv (FP.l2d (own_sh q0 q1)) (FP.l2d (own_uni q1)))), .second, .unset, .unset, .unset] [(.double (FP.l2d (own_dg p2)))])) _
    refine X0.ldc2DoubleC hx hown (mvT hZ (hw _ (List.mem_of_getElem? (i := 3) rfl))) (g := (mkF m 46 #[.val (.long q0), .second, .val (.long q1), .second, .val (.int p2), .val (.long (own_uni q1)), .second, .val (.long (own_sh q0 q1)), .second, .val (.long (own_dg p2)), .second, .val (.double (FP.ddiv (FP.l2d (own_sh q0 q1)) (FP.l2d (own_uni q1)))), .second, .unset, .unset, .unset] [(.double (FP.l2d (own_dg p2)))])) rfl (hb hby at_46) _ ?_
    show Steps p.tables e below (s₁.setTop (mkF m 49 #[.val (.long q0), .second, .val (.long q1), .second, .val (.int p2), .val (.long (own_uni q1)), .second, .val (.long (own_sh q0 q1)), .second, .val (.long (own_dg p2)), .second, .val (.double (FP.ddiv (FP.l2d (own_sh q0 q1)) (FP.l2d (own_uni q1)))), .second, .unset, .unset, .unset] [(.double (4696837146684686336 : UInt64)), (.double (FP.l2d (own_dg p2)))])) _
    refine XS.ddivS X0.here hx rfl (hb hby at_49) rfl (by rw [own_mil]; exact own_nn (by decide)) (by rw [own_mil]) ?_
    show Steps p.tables e below (s₁.setTop (mkF m 50 #[.val (.long q0), .second, .val (.long q1), .second, .val (.int p2), .val (.long (own_uni q1)), .second, .val (.long (own_sh q0 q1)), .second, .val (.long (own_dg p2)), .second, .val (.double (FP.ddiv (FP.l2d (own_sh q0 q1)) (FP.l2d (own_uni q1)))), .second, .unset, .unset, .unset] [(.double (FP.ddiv (FP.l2d (own_dg p2)) (FP.l2d (1000000 : Int64))))])) _
    refine XS.dstore X0.here hx rfl (hb hby at_50) rfl (l' := #[.val (.long q0), .second, .val (.long q1), .second, .val (.int p2), .val (.long (own_uni q1)), .second, .val (.long (own_sh q0 q1)), .second, .val (.long (own_dg p2)), .second, .val (.double (FP.ddiv (FP.l2d (own_sh q0 q1)) (FP.l2d (own_uni q1)))), .second, .val (.double (FP.ddiv (FP.l2d (own_dg p2)) (FP.l2d (1000000 : Int64)))), .second, .unset]) rfl ?_
    show Steps p.tables e below (s₁.setTop (mkF m 52 #[.val (.long q0), .second, .val (.long q1), .second, .val (.int p2), .val (.long (own_uni q1)), .second, .val (.long (own_sh q0 q1)), .second, .val (.long (own_dg p2)), .second, .val (.double (FP.ddiv (FP.l2d (own_sh q0 q1)) (FP.l2d (own_uni q1)))), .second, .val (.double (FP.ddiv (FP.l2d (own_dg p2)) (FP.l2d (1000000 : Int64)))), .second, .unset] [])) _
    refine XS.lload X0.here hx rfl (hb hby at_52) rfl ?_
    show Steps p.tables e below (s₁.setTop (mkF m 54 #[.val (.long q0), .second, .val (.long q1), .second, .val (.int p2), .val (.long (own_uni q1)), .second, .val (.long (own_sh q0 q1)), .second, .val (.long (own_dg p2)), .second, .val (.double (FP.ddiv (FP.l2d (own_sh q0 q1)) (FP.l2d (own_uni q1)))), .second, .val (.double (FP.ddiv (FP.l2d (own_dg p2)) (FP.l2d (1000000 : Int64)))), .second, .unset] [(.long (own_sh q0 q1))])) _
    refine X0.ldc2Long hx hown (mvT hZ (hw _ (List.mem_of_getElem? (i := 4) rfl))) (g := (mkF m 54 #[.val (.long q0), .second, .val (.long q1), .second, .val (.int p2), .val (.long (own_uni q1)), .second, .val (.long (own_sh q0 q1)), .second, .val (.long (own_dg p2)), .second, .val (.double (FP.ddiv (FP.l2d (own_sh q0 q1)) (FP.l2d (own_uni q1)))), .second, .val (.double (FP.ddiv (FP.l2d (own_dg p2)) (FP.l2d (1000000 : Int64)))), .second, .unset] [(.long (own_sh q0 q1))])) rfl (hb hby at_54) _ ?_
    show Steps p.tables e below (s₁.setTop (mkF m 57 #[.val (.long q0), .second, .val (.long q1), .second, .val (.int p2), .val (.long (own_uni q1)), .second, .val (.long (own_sh q0 q1)), .second, .val (.long (own_dg p2)), .second, .val (.double (FP.ddiv (FP.l2d (own_sh q0 q1)) (FP.l2d (own_uni q1)))), .second, .val (.double (FP.ddiv (FP.l2d (own_dg p2)) (FP.l2d (1000000 : Int64)))), .second, .unset] [(.long (1000000 : Int64)), (.long (own_sh q0 q1))])) _
    refine XS.lmul X0.here hx rfl (hb hby at_57) rfl ?_
    show Steps p.tables e below (s₁.setTop (mkF m 58 #[.val (.long q0), .second, .val (.long q1), .second, .val (.int p2), .val (.long (own_uni q1)), .second, .val (.long (own_sh q0 q1)), .second, .val (.long (own_dg p2)), .second, .val (.double (FP.ddiv (FP.l2d (own_sh q0 q1)) (FP.l2d (own_uni q1)))), .second, .val (.double (FP.ddiv (FP.l2d (own_dg p2)) (FP.l2d (1000000 : Int64)))), .second, .unset] [(.long ((own_sh q0 q1) * (1000000 : Int64)))])) _
    refine XS.lload X0.here hx rfl (hb hby at_58) rfl ?_
    show Steps p.tables e below (s₁.setTop (mkF m 60 #[.val (.long q0), .second, .val (.long q1), .second, .val (.int p2), .val (.long (own_uni q1)), .second, .val (.long (own_sh q0 q1)), .second, .val (.long (own_dg p2)), .second, .val (.double (FP.ddiv (FP.l2d (own_sh q0 q1)) (FP.l2d (own_uni q1)))), .second, .val (.double (FP.ddiv (FP.l2d (own_dg p2)) (FP.l2d (1000000 : Int64)))), .second, .unset] [(.long (own_dg p2)), (.long ((own_sh q0 q1) * (1000000 : Int64)))])) _
    refine XS.lload X0.here hx rfl (hb hby at_60) rfl ?_
    show Steps p.tables e below (s₁.setTop (mkF m 62 #[.val (.long q0), .second, .val (.long q1), .second, .val (.int p2), .val (.long (own_uni q1)), .second, .val (.long (own_sh q0 q1)), .second, .val (.long (own_dg p2)), .second, .val (.double (FP.ddiv (FP.l2d (own_sh q0 q1)) (FP.l2d (own_uni q1)))), .second, .val (.double (FP.ddiv (FP.l2d (own_dg p2)) (FP.l2d (1000000 : Int64)))), .second, .unset] [(.long (own_uni q1)), (.long (own_dg p2)), (.long ((own_sh q0 q1) * (1000000 : Int64)))])) _
    refine XS.lmul X0.here hx rfl (hb hby at_62) rfl ?_
    show Steps p.tables e below (s₁.setTop (mkF m 63 #[.val (.long q0), .second, .val (.long q1), .second, .val (.int p2), .val (.long (own_uni q1)), .second, .val (.long (own_sh q0 q1)), .second, .val (.long (own_dg p2)), .second, .val (.double (FP.ddiv (FP.l2d (own_sh q0 q1)) (FP.l2d (own_uni q1)))), .second, .val (.double (FP.ddiv (FP.l2d (own_dg p2)) (FP.l2d (1000000 : Int64)))), .second, .unset] [(.long ((own_dg p2) * (own_uni q1))), (.long ((own_sh q0 q1) * (1000000 : Int64)))])) _
    refine XS.lcmp X0.here hx rfl (hb hby at_63) rfl ?_
    exact kt
  have pre2 : ∀ t, Steps p.tables e below (s₁.setTop (mkF m 72 #[.val (.long q0), .second, .val (.long q1), .second, .val (.int p2), .val (.long (own_uni q1)), .second, .val (.long (own_sh q0 q1)), .second, .val (.long (own_dg p2)), .second, .val (.double (FP.ddiv (FP.l2d (own_sh q0 q1)) (FP.l2d (own_uni q1)))), .second, .val (.double (FP.ddiv (FP.l2d (own_dg p2)) (FP.l2d (1000000 : Int64)))), .second, .unset] [(.int (own_ex ((own_sh q0 q1) * (1000000 : Int64)) ((own_dg p2) * (own_uni q1))))])) t → Steps p.tables e below (s₁.setTop (entryFrame m #[(.long q0), (.long q1), (.int p2)] maxLocals)) t := fun t kt => by
    by_cases c1 : (lcmpW ((own_sh q0 q1) * (1000000 : Int64)) ((own_dg p2) * (own_uni q1))) < (0 : Int32)
    · have pre3 : ∀ t, Steps p.tables e below (s₁.setTop (mkF m 72 #[.val (.long q0), .second, .val (.long q1), .second, .val (.int p2), .val (.long (own_uni q1)), .second, .val (.long (own_sh q0 q1)), .second, .val (.long (own_dg p2)), .second, .val (.double (FP.ddiv (FP.l2d (own_sh q0 q1)) (FP.l2d (own_uni q1)))), .second, .val (.double (FP.ddiv (FP.l2d (own_dg p2)) (FP.l2d (1000000 : Int64)))), .second, .unset] [(.int (0 : Int32))])) t → Steps p.tables e below (s₁.setTop (entryFrame m #[(.long q0), (.long q1), (.int p2)] maxLocals)) t := fun t kt => by
        refine pre1 _ ?_
        show Steps p.tables e below (s₁.setTop (mkF m 64 #[.val (.long q0), .second, .val (.long q1), .second, .val (.int p2), .val (.long (own_uni q1)), .second, .val (.long (own_sh q0 q1)), .second, .val (.long (own_dg p2)), .second, .val (.double (FP.ddiv (FP.l2d (own_sh q0 q1)) (FP.l2d (own_uni q1)))), .second, .val (.double (FP.ddiv (FP.l2d (own_dg p2)) (FP.l2d (1000000 : Int64)))), .second, .unset] [(.int (lcmpW ((own_sh q0 q1) * (1000000 : Int64)) ((own_dg p2) * (own_uni q1))))])) _
        refine XS.ifYes X0.here hx rfl (pc0 := 64) (pc' := 71) rfl (hb hby at_64) rfl ((if0 _ _).trans (tlt (c1 : (lcmpW ((own_sh q0 q1) * (1000000 : Int64)) ((own_dg p2) * (own_uni q1))) < (0 : Int32))).1) (by decide) (by decide) ?_
        show Steps p.tables e below (s₁.setTop (mkF m 71 #[.val (.long q0), .second, .val (.long q1), .second, .val (.int p2), .val (.long (own_uni q1)), .second, .val (.long (own_sh q0 q1)), .second, .val (.long (own_dg p2)), .second, .val (.double (FP.ddiv (FP.l2d (own_sh q0 q1)) (FP.l2d (own_uni q1)))), .second, .val (.double (FP.ddiv (FP.l2d (own_dg p2)) (FP.l2d (1000000 : Int64)))), .second, .unset] [])) _
        refine XS.iconst X0.here hx rfl (hb hby at_71) ?_
        exact kt
      rw [show (own_ex ((own_sh q0 q1) * (1000000 : Int64)) ((own_dg p2) * (own_uni q1))) = (0 : Int32) from if_pos c1] at kt
      exact pre3 _ kt
    · have pre4 : ∀ t, Steps p.tables e below (s₁.setTop (mkF m 72 #[.val (.long q0), .second, .val (.long q1), .second, .val (.int p2), .val (.long (own_uni q1)), .second, .val (.long (own_sh q0 q1)), .second, .val (.long (own_dg p2)), .second, .val (.double (FP.ddiv (FP.l2d (own_sh q0 q1)) (FP.l2d (own_uni q1)))), .second, .val (.double (FP.ddiv (FP.l2d (own_dg p2)) (FP.l2d (1000000 : Int64)))), .second, .unset] [(.int (1 : Int32))])) t → Steps p.tables e below (s₁.setTop (entryFrame m #[(.long q0), (.long q1), (.int p2)] maxLocals)) t := fun t kt => by
        refine pre1 _ ?_
        show Steps p.tables e below (s₁.setTop (mkF m 64 #[.val (.long q0), .second, .val (.long q1), .second, .val (.int p2), .val (.long (own_uni q1)), .second, .val (.long (own_sh q0 q1)), .second, .val (.long (own_dg p2)), .second, .val (.double (FP.ddiv (FP.l2d (own_sh q0 q1)) (FP.l2d (own_uni q1)))), .second, .val (.double (FP.ddiv (FP.l2d (own_dg p2)) (FP.l2d (1000000 : Int64)))), .second, .unset] [(.int (lcmpW ((own_sh q0 q1) * (1000000 : Int64)) ((own_dg p2) * (own_uni q1))))])) _
        refine XS.ifNo X0.here hx rfl (hb hby at_64) rfl ((if0 _ _).trans (flt (c1 : ¬ ((lcmpW ((own_sh q0 q1) * (1000000 : Int64)) ((own_dg p2) * (own_uni q1))) < (0 : Int32)))).1) ?_
        show Steps p.tables e below (s₁.setTop (mkF m 67 #[.val (.long q0), .second, .val (.long q1), .second, .val (.int p2), .val (.long (own_uni q1)), .second, .val (.long (own_sh q0 q1)), .second, .val (.long (own_dg p2)), .second, .val (.double (FP.ddiv (FP.l2d (own_sh q0 q1)) (FP.l2d (own_uni q1)))), .second, .val (.double (FP.ddiv (FP.l2d (own_dg p2)) (FP.l2d (1000000 : Int64)))), .second, .unset] [])) _
        refine XS.iconst X0.here hx rfl (hb hby at_67) ?_
        show Steps p.tables e below (s₁.setTop (mkF m 68 #[.val (.long q0), .second, .val (.long q1), .second, .val (.int p2), .val (.long (own_uni q1)), .second, .val (.long (own_sh q0 q1)), .second, .val (.long (own_dg p2)), .second, .val (.double (FP.ddiv (FP.l2d (own_sh q0 q1)) (FP.l2d (own_uni q1)))), .second, .val (.double (FP.ddiv (FP.l2d (own_dg p2)) (FP.l2d (1000000 : Int64)))), .second, .unset] [(.int (1 : Int32))])) _
        refine XS.goto X0.here hx rfl (pc0 := 68) (pc' := 72) rfl (hb hby at_68) (by decide) (by decide) ?_
        exact kt
      rw [show (own_ex ((own_sh q0 q1) * (1000000 : Int64)) ((own_dg p2) * (own_uni q1))) = (1 : Int32) from if_neg c1] at kt
      exact pre4 _ kt
  have pre5 : ∀ t, Steps p.tables e below (s₁.setTop (mkF m 78 #[.val (.long q0), .second, .val (.long q1), .second, .val (.int p2), .val (.long (own_uni q1)), .second, .val (.long (own_sh q0 q1)), .second, .val (.long (own_dg p2)), .second, .val (.double (FP.ddiv (FP.l2d (own_sh q0 q1)) (FP.l2d (own_uni q1)))), .second, .val (.double (FP.ddiv (FP.l2d (own_dg p2)) (FP.l2d (1000000 : Int64)))), .second, .val (.int (own_ex ((own_sh q0 q1) * (1000000 : Int64)) ((own_dg p2) * (own_uni q1))))] [(.double (FP.ddiv (FP.l2d (own_dg p2)) (FP.l2d (1000000 : Int64)))), (.double (FP.ddiv (FP.l2d (own_sh q0 q1)) (FP.l2d (own_uni q1))))])) t → Steps p.tables e below (s₁.setTop (entryFrame m #[(.long q0), (.long q1), (.int p2)] maxLocals)) t := fun t kt => by
    refine pre2 _ ?_
    show Steps p.tables e below (s₁.setTop (mkF m 72 #[.val (.long q0), .second, .val (.long q1), .second, .val (.int p2), .val (.long (own_uni q1)), .second, .val (.long (own_sh q0 q1)), .second, .val (.long (own_dg p2)), .second, .val (.double (FP.ddiv (FP.l2d (own_sh q0 q1)) (FP.l2d (own_uni q1)))), .second, .val (.double (FP.ddiv (FP.l2d (own_dg p2)) (FP.l2d (1000000 : Int64)))), .second, .unset] [(.int (own_ex ((own_sh q0 q1) * (1000000 : Int64)) ((own_dg p2) * (own_uni q1))))])) _
    refine XS.istore X0.here hx rfl (hb hby at_72) rfl (l' := #[.val (.long q0), .second, .val (.long q1), .second, .val (.int p2), .val (.long (own_uni q1)), .second, .val (.long (own_sh q0 q1)), .second, .val (.long (own_dg p2)), .second, .val (.double (FP.ddiv (FP.l2d (own_sh q0 q1)) (FP.l2d (own_uni q1)))), .second, .val (.double (FP.ddiv (FP.l2d (own_dg p2)) (FP.l2d (1000000 : Int64)))), .second, .val (.int (own_ex ((own_sh q0 q1) * (1000000 : Int64)) ((own_dg p2) * (own_uni q1))))]) rfl ?_
    show Steps p.tables e below (s₁.setTop (mkF m 74 #[.val (.long q0), .second, .val (.long q1), .second, .val (.int p2), .val (.long (own_uni q1)), .second, .val (.long (own_sh q0 q1)), .second, .val (.long (own_dg p2)), .second, .val (.double (FP.ddiv (FP.l2d (own_sh q0 q1)) (FP.l2d (own_uni q1)))), .second, .val (.double (FP.ddiv (FP.l2d (own_dg p2)) (FP.l2d (1000000 : Int64)))), .second, .val (.int (own_ex ((own_sh q0 q1) * (1000000 : Int64)) ((own_dg p2) * (own_uni q1))))] [])) _
    refine XS.dload X0.here hx rfl (hb hby at_74) rfl ?_
    show Steps p.tables e below (s₁.setTop (mkF m 76 #[.val (.long q0), .second, .val (.long q1), .second, .val (.int p2), .val (.long (own_uni q1)), .second, .val (.long (own_sh q0 q1)), .second, .val (.long (own_dg p2)), .second, .val (.double (FP.ddiv (FP.l2d (own_sh q0 q1)) (FP.l2d (own_uni q1)))), .second, .val (.double (FP.ddiv (FP.l2d (own_dg p2)) (FP.l2d (1000000 : Int64)))), .second, .val (.int (own_ex ((own_sh q0 q1) * (1000000 : Int64)) ((own_dg p2) * (own_uni q1))))] [(.double (FP.ddiv (FP.l2d (own_sh q0 q1)) (FP.l2d (own_uni q1))))])) _
    refine XS.dload X0.here hx rfl (hb hby at_76) rfl ?_
    exact kt
  obtain ⟨_, _, ⟨T6, L6, kc6, nc6⟩, -, X6, ⟨Lc6, hQ6, l6, y6, z6⟩, st6⟩ := Jvm.LawKit.callS X0 hx (y := (⟨"com/example/libshingle/libshingle/service/Discovery", "reaches", "(DD)Z"⟩ : MethodName)) hown (mvT hZ (hw _ (List.mem_of_getElem? (i := 5) rfl))) (mvT hZ (hw _ (List.mem_of_getElem? (i := 6) rfl))) (mvT hZ (hw _ (List.mem_of_getElem? (i := 7) rfl))) (mvT hZ (hw _ (List.mem_of_getElem? (i := 8) rfl))) (by decide) (backOf (W := 0) (rm1 l Z a0 hw [] (FP.ddiv (FP.l2d (own_sh q0 q1)) (FP.l2d (own_uni q1))) (FP.ddiv (FP.l2d (own_dg p2)) (FP.l2d (1000000 : Int64))) h0 n0 Z0) hZ (hw _ (List.mem_of_getElem? (i := 8) rfl)) (hw _ (List.mem_of_getElem? (i := 7) rfl)) (by decide) (by decide)) (g := (mkF m 78 #[.val (.long q0), .second, .val (.long q1), .second, .val (.int p2), .val (.long (own_uni q1)), .second, .val (.long (own_sh q0 q1)), .second, .val (.long (own_dg p2)), .second, .val (.double (FP.ddiv (FP.l2d (own_sh q0 q1)) (FP.l2d (own_uni q1)))), .second, .val (.double (FP.ddiv (FP.l2d (own_dg p2)) (FP.l2d (1000000 : Int64)))), .second, .val (.int (own_ex ((own_sh q0 q1) * (1000000 : Int64)) ((own_dg p2) * (own_uni q1))))] [(.double (FP.ddiv (FP.l2d (own_dg p2)) (FP.l2d (1000000 : Int64)))), (.double (FP.ddiv (FP.l2d (own_sh q0 q1)) (FP.l2d (own_uni q1))))])) rfl (by rw [hml]; rfl) (argsL := [(.double (FP.ddiv (FP.l2d (own_sh q0 q1)) (FP.l2d (own_uni q1)))), (.double (FP.ddiv (FP.l2d (own_dg p2)) (FP.l2d (1000000 : Int64))))]) (rest := []) (lenOf pd_0 rfl) rfl (by show 2 * 0 + _ ≤ _; exact Nat.le_of_eq rfl) (hb hby at_78) (fun _ _ => ⟨rfl, e0, (by decide : 0 + 0 ≤ _), (by decide : 0 + 0 ≤ _)⟩)
  dsimp only [Pt.U, Pt.locs, Pt.cells, Pt.slots] at X6 l6 y6 z6 st6 hQ6
  subst l6 y6 z6
  obtain ⟨rfl, N6q, he6⟩ := hQ6
  have N6 := Fr.app N0 N6q
  have pre7 : ∀ t, Steps p.tables e below (T6.setTop (mkF m 81 #[.val (.long q0), .second, .val (.long q1), .second, .val (.int p2), .val (.long (own_uni q1)), .second, .val (.long (own_sh q0 q1)), .second, .val (.long (own_dg p2)), .second, .val (.double (FP.ddiv (FP.l2d (own_sh q0 q1)) (FP.l2d (own_uni q1)))), .second, .val (.double (FP.ddiv (FP.l2d (own_dg p2)) (FP.l2d (1000000 : Int64)))), .second, .val (.int (own_ex ((own_sh q0 q1) * (1000000 : Int64)) ((own_dg p2) * (own_uni q1))))] [(.int (own_re (FP.ddiv (FP.l2d (own_sh q0 q1)) (FP.l2d (own_uni q1))) (FP.ddiv (FP.l2d (own_dg p2)) (FP.l2d (1000000 : Int64)))))])) t → Steps p.tables e below (s₁.setTop (entryFrame m #[(.long q0), (.long q1), (.int p2)] maxLocals)) t := fun t kt => pre5 _ (st6 _ kt)
  have pre8 : ∀ t, Steps p.tables e below (T6.setTop (mkF m 91 #[.val (.long q0), .second, .val (.long q1), .second, .val (.int p2), .val (.long (own_uni q1)), .second, .val (.long (own_sh q0 q1)), .second, .val (.long (own_dg p2)), .second, .val (.double (FP.ddiv (FP.l2d (own_sh q0 q1)) (FP.l2d (own_uni q1)))), .second, .val (.double (FP.ddiv (FP.l2d (own_dg p2)) (FP.l2d (1000000 : Int64)))), .second, .val (.int (own_ex ((own_sh q0 q1) * (1000000 : Int64)) ((own_dg p2) * (own_uni q1))))] [(.int (1 : Int32))])) t → Steps p.tables e below (s₁.setTop (entryFrame m #[(.long q0), (.long q1), (.int p2)] maxLocals)) t := fun t kt => by
    refine pre7 _ ?_
    show Steps p.tables e below (T6.setTop (mkF m 81 #[.val (.long q0), .second, .val (.long q1), .second, .val (.int p2), .val (.long (own_uni q1)), .second, .val (.long (own_sh q0 q1)), .second, .val (.long (own_dg p2)), .second, .val (.double (FP.ddiv (FP.l2d (own_sh q0 q1)) (FP.l2d (own_uni q1)))), .second, .val (.double (FP.ddiv (FP.l2d (own_dg p2)) (FP.l2d (1000000 : Int64)))), .second, .val (.int (own_ex ((own_sh q0 q1) * (1000000 : Int64)) ((own_dg p2) * (own_uni q1))))] [(.int (own_re (FP.ddiv (FP.l2d (own_sh q0 q1)) (FP.l2d (own_uni q1))) (FP.ddiv (FP.l2d (own_dg p2)) (FP.l2d (1000000 : Int64)))))])) _
    refine XS.iload X6.here hx rfl (hb hby at_81) rfl ?_
    show Steps p.tables e below (T6.setTop (mkF m 83 #[.val (.long q0), .second, .val (.long q1), .second, .val (.int p2), .val (.long (own_uni q1)), .second, .val (.long (own_sh q0 q1)), .second, .val (.long (own_dg p2)), .second, .val (.double (FP.ddiv (FP.l2d (own_sh q0 q1)) (FP.l2d (own_uni q1)))), .second, .val (.double (FP.ddiv (FP.l2d (own_dg p2)) (FP.l2d (1000000 : Int64)))), .second, .val (.int (own_ex ((own_sh q0 q1) * (1000000 : Int64)) ((own_dg p2) * (own_uni q1))))] [(.int (own_ex ((own_sh q0 q1) * (1000000 : Int64)) ((own_dg p2) * (own_uni q1)))), (.int (own_re (FP.ddiv (FP.l2d (own_sh q0 q1)) (FP.l2d (own_uni q1))) (FP.ddiv (FP.l2d (own_dg p2)) (FP.l2d (1000000 : Int64)))))])) _
    refine XS.icmpNo X6.here hx rfl (hb hby at_83) rfl (teq (own_law q0 q1 p2 : (own_re (FP.ddiv (FP.l2d (own_sh q0 q1)) (FP.l2d (own_uni q1))) (FP.ddiv (FP.l2d (own_dg p2)) (FP.l2d (1000000 : Int64)))) = (own_ex ((own_sh q0 q1) * (1000000 : Int64)) ((own_dg p2) * (own_uni q1))))).2 ?_
    show Steps p.tables e below (T6.setTop (mkF m 86 #[.val (.long q0), .second, .val (.long q1), .second, .val (.int p2), .val (.long (own_uni q1)), .second, .val (.long (own_sh q0 q1)), .second, .val (.long (own_dg p2)), .second, .val (.double (FP.ddiv (FP.l2d (own_sh q0 q1)) (FP.l2d (own_uni q1)))), .second, .val (.double (FP.ddiv (FP.l2d (own_dg p2)) (FP.l2d (1000000 : Int64)))), .second, .val (.int (own_ex ((own_sh q0 q1) * (1000000 : Int64)) ((own_dg p2) * (own_uni q1))))] [])) _
    refine XS.iconst X6.here hx rfl (hb hby at_86) ?_
    show Steps p.tables e below (T6.setTop (mkF m 87 #[.val (.long q0), .second, .val (.long q1), .second, .val (.int p2), .val (.long (own_uni q1)), .second, .val (.long (own_sh q0 q1)), .second, .val (.long (own_dg p2)), .second, .val (.double (FP.ddiv (FP.l2d (own_sh q0 q1)) (FP.l2d (own_uni q1)))), .second, .val (.double (FP.ddiv (FP.l2d (own_dg p2)) (FP.l2d (1000000 : Int64)))), .second, .val (.int (own_ex ((own_sh q0 q1) * (1000000 : Int64)) ((own_dg p2) * (own_uni q1))))] [(.int (1 : Int32))])) _
    refine XS.goto X6.here hx rfl (pc0 := 87) (pc' := 91) rfl (hb hby at_87) (by decide) (by decide) ?_
    exact kt
  obtain ⟨fs, hr, hrun, hended, hW, hsame⟩ := X6.leave (v := (some (.int (1 : Int32)))) (fun h => by rw [Bd.returns] at h; cases h)
  refine ⟨_, _, pre8 _ ?_, hrun, hended, _, _, rfl, ?_, ⟨_, rfl⟩, hW, hsame.mono (by decide) (by decide)⟩
  · show Steps p.tables e below (T6.setTop (mkF m 91 #[.val (.long q0), .second, .val (.long q1), .second, .val (.int p2), .val (.long (own_uni q1)), .second, .val (.long (own_sh q0 q1)), .second, .val (.long (own_dg p2)), .second, .val (.double (FP.ddiv (FP.l2d (own_sh q0 q1)) (FP.l2d (own_uni q1)))), .second, .val (.double (FP.ddiv (FP.l2d (own_dg p2)) (FP.l2d (1000000 : Int64)))), .second, .val (.int (own_ex ((own_sh q0 q1) * (1000000 : Int64)) ((own_dg p2) * (own_uni q1))))] [(.int (1 : Int32))])) _
    exact retN X6 hx (t := .boolean) Bd.returns (by simp) (hb hby at_91) hr
  · show Q0 Z q0 q1 p2 h0 n0 _ T6.heap _
    rw [he6]
    exact ⟨rfl, N6⟩
set_option maxRecDepth 65536 in
set_option maxHeartbeats 40000000 in
theorem comes_1 {Post : Tables → Env → Array Value → State → Outcome → State → Prop} (hpost : ∀ tb e args s v u, (limb_1_1.after args s (.returned v) u = true ∧ limb_1_2.after args s (.returned v) u = true ∧ True) → FrameEnd s (.returned v) u (Jvm.fieldLocs frame_1_writes args s ++ Jvm.arrayLocs frame_1_arrays args s ++ Jvm.staticLocs frame_1_statics s) 0 0 → Post tb e args s (.returned v) u) :
    ArmFor flags0 classFile x code maxLocals ret World_1 tables_1 room_1 Calls_1 rest_1 Pre_1 Post := by
  intro l hfl _ _ p e ha hc hk s m args below hf hA hF happ hP
  obtain ⟨hcalls, hrest, hpre⟩ := hP
  obtain ⟨-, -, -, hnamed, -, -, -, hat⟩ := (Spec.applies_iff hf).mp happ
  obtain ⟨hg, hn⟩ := and_e (Cond.before_iff.mp (show (Jvm.Cond.and given_1 narrow_1).before args s = true from hpre))
  obtain ⟨gc, g0⟩ := and_e hg
  obtain ⟨gg0, g1⟩ := and_e g0
  obtain ⟨gg1, g2⟩ := and_e g1
  obtain ⟨w0, w1, w2, rfl⟩ : ∃ w0 w1 w2 : Value, args = #[w0, w1, w2] := by
    have hs : args.size = 3 := by simpa [Cond.value, given_1] using gc
    obtain ⟨L⟩ := args
    match L, hs with
    | [w0, w1, w2], _ => exact ⟨w0, w1, w2, rfl⟩
  have hw := fun d (hd : d ∈ tables_1) => atoms_spec (ws := Jvm.Cond.code x code maxLocals ret :: tables_1) hat d (List.mem_cons_of_mem _ hd)
  have hfit : Fit s := fun {y c} hc i hi => by
    obtain ⟨ha, rfl⟩ := Array.getElem?_eq_some_iff.mp hc
    have q := List.all_eq_true.mp ((Array.all_eq_true_iff_forall_mem.mp hF) _ (Array.getElem_mem ha)) i (List.mem_range.mpr hi)
    simpa [Array.getElem?_eq_getElem hi] using q
  obtain ⟨i0, ei0⟩ := isL_v gg0
  obtain rfl : w0 = (.long i0) := Option.some.inj ei0
  obtain ⟨i1, ei1⟩ := isL_v gg1
  obtain rfl : w1 = (.long i1) := Option.some.inj ei1
  obtain ⟨i2, ei2⟩ := is_v g2
  obtain rfl : w2 = (.int i2) := Option.some.inj ei2
  obtain ⟨n, o, h1, h2, h3, _, L, rfl, ⟨rfl, N⟩, hq⟩ := rm0 l s _ hw tables_1 i0 i1 i2  s.heap s.heap.size (Nat.le_refl _)  p e ha hc hk s m _ below hf ((Spec.applies_iff_loose hf).mp happ).1 ⟨rfl, State.Warmed39.refl s, rfl⟩ trivial
  refine ⟨n, _, h1, h2, h3, hpost _ _ _ _ _ _ ⟨Cond.after_iff.mpr rfl, Cond.after_iff.mpr (eq_i res_at (Term.int_eval (1)) rfl), trivial⟩ ⟨hq.1, hq.2.1, (hq.2.2.sift fun y hy => Or.inr (N y hy)).mono (by decide) (by decide)⟩⟩
theorem main_1_1 : Claimed_1_1 := comes_1 fun _ _ _ _ _ _ h hF => ⟨h.1, hF⟩
theorem main_1_2 : Claimed_1_2 := comes_1 fun _ _ _ _ _ _ h hF => ⟨h.2.1, hF⟩
end Jvm.Pilot.@@N@@
namespace Jvm.Pilot.@@N@@
open Jvm Jvm.ClassFile Sem Op Lib Jvm.Free Jvm.Stand Jvm.Pilot.@@N@@.Jvm.D
/-! MADE BY PROGRAM (witnessworld.py) out of the Statement's table words and the real class files: 9 classes; the members and pool entries that the words name. The judged class is class 1, her method 1. -/
namespace start1
open Jvm.ClassFile
def u (s : String) : CpInfo := .utf8 (stringToUtf16 s)
/-- a pool by its gaps: so many unusable entries, then the entry; so many at the end -/
def gap : Nat → List CpInfo → List CpInfo
  | 0, r => r
  | n + 1, r => .unusable :: gap n r
def poolList (es : List (Nat × CpInfo)) (last : Nat) : List CpInfo := es.foldr (fun e r => gap e.1 (e.2 :: r)) (gap last [])
def pool (es : List (Nat × CpInfo)) (last : Nat) : Array CpInfo := ⟨poolList es last⟩
def fileOf (pool : Array CpInfo) (this : Nat) (attrs : Array Attribute := #[]) (ms : Array MethodInfo := #[]) (fl : Nat := 33) (sup : Nat := 0) (ifs : Array Nat := #[]) (fds : Array FieldInfo := #[]) : ClassFile where
  minorVersion := 0
  majorVersion := 65
  constantPool := pool
  accessFlags := fl
  thisClass := this
  superClass := sup
  interfaces := ifs
  fields := fds
  methods := ms
  attributes := attrs
def plain (name : String) (sup : Option ClassId) : Class where
  name := name
  kind := .ordinary
  loader := none
  accessFlags := 33
  super := sup
  interfaces := #[]
  cf := none
  fields := #[]
  methods := #[]
  instanceTypes := #[]
  staticTypes := #[]
  resolved := #[]
  callSites := []
  init := .initialized
  statics := none
  mirror := none

def pool0 : Array CpInfo := pool [(5, u "<init>"), (0, u "()V"), (1, .class_ 10), (1, u "java/lang/Object")] 113

def k0m0 : Method := { name := "<init>", desc := "()V", sig := { parameters := [], returnType := none }, accessFlags := 1, code := none }
/-- java/lang/Object -/
def k0 : Class := { plain "java/lang/Object" none with
  accessFlags := 33
  interfaces := #[]
  cf := some (fileOf pool0 8 #[] #[{ accessFlags := 1, nameIndex := 5, descriptorIndex := 6, attributes := #[] }] 33 0 #[] #[])
  fields := #[]
  methods := #[k0m0]
  instanceTypes := #[]
  staticTypes := #[]
  resolved := Array.replicate 124 none
  statics := none }

def pool1 : Array CpInfo := pool [(2, .class_ 4), (1, u "java/lang/Object"), (0, u "<init>"), (0, u "()V"), (0, .long 2147483647), (1, .integer 2147483647), (0, .integer 1000000), (0, .double 4696837146684686336), (1, .long 1000000), (1, .methodref 16 17), (0, .class_ 18), (0, .nameAndType 19 20), (0, u "com/example/libshingle/libshingle/service/Discovery"), (0, u "reaches"), (0, u "(DD)Z"), (0, .class_ 22), (0, u "com/example/libshingle/libshingle/service/DiscoveryReachesPinLaw"), (2, u "law"), (0, u "(JJI)Z")] 3

def k1m0 : Method := { name := "<init>", desc := "()V", sig := { parameters := [], returnType := none }, accessFlags := 1, code := none }
def k1c1 : Code := { maxStack := 6, maxLocals := 16, code := code, exceptionTable := #[], attributes := #[] }
def k1m1 : Method := { name := "law", desc := "(JJI)Z", sig := { parameters := [.long, .long, .int], returnType := some .boolean }, accessFlags := 9, code := some k1c1 }
/-- com/example/libshingle/libshingle/service/DiscoveryReachesPinLaw -/
def k1 : Class := { plain "com/example/libshingle/libshingle/service/DiscoveryReachesPinLaw" (some 0) with
  accessFlags := 49
  interfaces := #[]
  cf := some (fileOf pool1 21 #[] #[{ accessFlags := 1, nameIndex := 5, descriptorIndex := 6, attributes := #[] }, { accessFlags := 9, nameIndex := 25, descriptorIndex := 26, attributes := #[] }] 49 2 #[] #[])
  fields := #[]
  methods := #[k1m0, k1m1]
  instanceTypes := #[]
  staticTypes := #[]
  resolved := Array.replicate 30 none
  statics := none }

def pool2 : Array CpInfo := pool [(2, .class_ 4), (1, u "java/lang/Object"), (0, u "<init>"), (0, u "()V"), (9, .class_ 18), (1, u "com/example/libshingle/libshingle/service/Discovery"), (77, u "PAIR_ORDER"), (0, u "Ljava/util/Comparator;"), (66, u "reaches"), (0, u "(DD)Z")] 83

def k2m0 : Method := { name := "<init>", desc := "()V", sig := { parameters := [], returnType := none }, accessFlags := 2, code := none }
def k2c1 : Code := { maxStack := 4, maxLocals := 4, code := prog_20_method_4_code, exceptionTable := #[], attributes := #[] }
def k2m1 : Method := { name := "reaches", desc := "(DD)Z", sig := { parameters := [.double, .double], returnType := some .boolean }, accessFlags := 8, code := some k2c1 }
/-- com/example/libshingle/libshingle/service/Discovery -/
def k2 : Class := { plain "com/example/libshingle/libshingle/service/Discovery" (some 0) with
  accessFlags := 49
  interfaces := #[]
  cf := some (fileOf pool2 16 #[] #[{ accessFlags := 2, nameIndex := 5, descriptorIndex := 6, attributes := #[] }, { accessFlags := 8, nameIndex := 164, descriptorIndex := 165, attributes := #[] }] 49 2 #[] #[{ accessFlags := 24, nameIndex := 96, descriptorIndex := 97, attributes := #[] }])
  fields := #[{ name := "PAIR_ORDER", type := (.object "java/util/Comparator"), accessFlags := 24, slot := 0, constantValue := 0 }]
  methods := #[k2m0, k2m1]
  instanceTypes := #[]
  staticTypes := #[(.object "java/util/Comparator")]
  resolved := Array.replicate 249 none
  statics := none }

def pool3 : Array CpInfo := pool [(1, u "java/lang/Cloneable"), (0, .class_ 1), (0, u "java/lang/Object"), (0, .class_ 3)] 3

/-- java/lang/Cloneable -/
def k3 : Class := { plain "java/lang/Cloneable" (some 0) with
  accessFlags := 1537
  interfaces := #[]
  cf := some (fileOf pool3 2 #[] #[] 1537 4 #[] #[])
  fields := #[]
  methods := #[]
  instanceTypes := #[]
  staticTypes := #[]
  resolved := Array.replicate 8 none
  statics := none }

def pool4 : Array CpInfo := pool [(1, u "java/io/Serializable"), (0, .class_ 1), (0, u "java/lang/Object"), (0, .class_ 3)] 3

/-- java/io/Serializable -/
def k4 : Class := { plain "java/io/Serializable" (some 0) with
  accessFlags := 1537
  interfaces := #[]
  cf := some (fileOf pool4 2 #[] #[] 1537 4 #[] #[])
  fields := #[]
  methods := #[]
  instanceTypes := #[]
  staticTypes := #[]
  resolved := Array.replicate 8 none
  statics := none }

/-- the primitive byte -/
def k5 : Class := { plain "byte" none with kind := .primitive 'B', accessFlags := 0x411 }
/-- [B -/
def k6 : Class := { plain "[B" (some 0) with kind := .array 5 .byte, interfaces := #[3, 4], accessFlags := 1041 }

/-- the primitive int -/
def k7 : Class := { plain "int" none with kind := .primitive 'I', accessFlags := 0x411 }
/-- [I -/
def k8 : Class := { plain "[I" (some 0) with kind := .array 7 .int, interfaces := #[3, 4], accessFlags := 1041 }

def heap : Heap := #[]
def classes : Array Class := #[k0, k1, k2, k3, k4, k5, k6, k7, k8]
def interned : List (Array UInt16 × Addr) := []
def slotsUsed : Nat := 0
def theMethod : MethodId := ⟨1, 1⟩
def args0 : Array Value := #[.long 5, .long 5, .int 5]
def aboutOver (below : List Frame) : State where
  vm := { classes := classes, interned := interned.toArray }
  heap := heap
  slotsUsed := slotsUsed
  threads := #[{ frames := .invoking theMethod args0 :: below }]
def below0 : List Frame := [.native { method := ⟨0, 0⟩, args := #[] }]
def about1 : State := aboutOver below0
def p0 : Program := .bare "" "" ""
def e0 : Env := launch0.env 0 0 0
theorem w_frames : about1.frames = Frame.invoking theMethod args0 :: below0 := rfl
set_option maxRecDepth 65536 in
theorem w_args : argsFit about1.vm theMethod args0 = true := by decide +kernel
set_option maxRecDepth 65536 in
theorem w_heap : heapFits about1 = true := by decide +kernel
set_option maxRecDepth 65536 in
theorem w_runnable : about1.curStatus? = some .runnable := by decide +kernel
set_option maxRecDepth 65536 in
theorem w_alone : about1.alone = true := by decide +kernel
set_option maxRecDepth 65536 in
theorem w_named : about1.methodNamed? x = some theMethod := by decide +kernel
set_option maxRecDepth 65536 in
theorem w_hears : about1.hears theMethod below0 = true := by decide +kernel
set_option maxRecDepth 65536 in
theorem w_ripe : about1.ripe theMethod args0 below0 = true := by decide +kernel
theorem w_running : about1.status = .running := rfl
set_option maxRecDepth 65536 in
theorem w_room : about1.hasRoom e0.platform room_1 = true :=
  launch0.hasRoom_least _ room_1 (by decide +kernel) (by decide +kernel) (by decide +kernel) (by decide +kernel) (by decide +kernel) (by decide +kernel)
theorem allAtoms_all (ts : List Jvm.Cond) (a : Array Jvm.Value) (st : Jvm.State) : (allAtoms ts).before a st = ts.all (fun c => c.before a st) := by
  induction ts with
  | nil => rfl
  | cons c t ih =>
    show (Jvm.Cond.and c (allAtoms t)).before a st = _
    rw [Jvm.Cond.before_and, ih, List.all_cons]
def words1 : List Jvm.Cond := Jvm.Cond.code x code maxLocals ret :: tables_1
/-- a 'code' word, met by the world's own term for the bytes: nothing is compared byte by byte -/
theorem code_word {y : MethodName} {bytes : ByteArray} {mx : Nat} {rt : Option FieldType} {a : Array Value} {s : State} {m : MethodId} {meth : Method} {c : Code} (h1 : s.methodNamed? y = some m) (h2 : s.vm.method? m = some meth) (h3 : meth.code = some c) (h4 : c.code = bytes)
    (h5 : (c.maxLocals == mx && c.exceptionTable.isEmpty && decide (c.maxStack ≤ mostOperands) && decide (meth.sig.returnType = rt) && !meth.locks && decide (parseMethodDescriptor y.desc = some meth.sig)) = true) : (Jvm.Cond.code y bytes mx rt).before a s = true := by
  simp only [Bool.and_eq_true, beq_iff_eq, Bool.not_eq_true', decide_eq_true_eq] at h5
  obtain ⟨⟨⟨⟨⟨g1, g2⟩, g3⟩, g4⟩, g5⟩, g6⟩ := h5
  simp [Cond.before, Cond.holds, Cond.value, h1, h2, h3, h4, g1, g2, g3, g4, g5, g6]
def isCode : Jvm.Cond → Bool
  | .code _ _ _ _ => true
  | _ => false
theorem all_split {L : List Jvm.Cond} {P : Jvm.Cond → Bool} (h1 : L.all (fun c => isCode c || P c) = true) (h2 : ∀ c ∈ L.filter isCode, P c = true) : L.all P = true := by
  refine List.all_eq_true.mpr fun c hc => ?_
  have h := List.all_eq_true.mp h1 c hc
  rcases Bool.eq_false_or_eq_true (isCode c) with hi | hi
  · exact h2 c (List.mem_filter.mpr ⟨hc, hi⟩)
  · simpa [hi] using h
set_option maxRecDepth 65536 in
theorem w_c0 : (Jvm.Cond.code x code maxLocals ret).before args0 about1 = true := code_word (m := ⟨1, 1⟩) (meth := k1m1) (c := k1c1) (by decide +kernel) rfl rfl rfl (by decide +kernel)
set_option maxRecDepth 65536 in
theorem w_c1 : (Jvm.Cond.code ({ cls := "com/example/libshingle/libshingle/service/Discovery", name := "reaches", desc := "(DD)Z" } : Jvm.MethodName) prog_20_method_4_code (4 : Nat) (Option.some Jvm.ClassFile.FieldType.boolean)).before args0 about1 = true := code_word (m := ⟨2, 1⟩) (meth := k2m1) (c := k2c1) (by decide +kernel) rfl rfl rfl (by decide +kernel)
def codes1 : List Jvm.Cond := [Jvm.Cond.code x code maxLocals ret, Jvm.Cond.code ({ cls := "com/example/libshingle/libshingle/service/Discovery", name := "reaches", desc := "(DD)Z" } : Jvm.MethodName) prog_20_method_4_code (4 : Nat) (Option.some Jvm.ClassFile.FieldType.boolean)]
set_option maxRecDepth 65536 in
theorem codes_eq : words1.filter isCode = codes1 := rfl
theorem w_codes : ∀ c ∈ words1.filter isCode, c.before args0 about1 = true := by
  rw [codes_eq]
  intro c hc
  simp only [codes1, List.mem_cons, List.not_mem_nil, or_false] at hc
  rcases hc with rfl | rfl
  · exact w_c0
  · exact w_c1
set_option maxRecDepth 65536 in
theorem w_t1 : words1.all (fun c => isCode c || c.before args0 about1) = true := by decide +kernel
theorem w_tables : (allAtoms (Jvm.Cond.code x code maxLocals ret :: tables_1)).before args0 about1 = true := by
  rw [allAtoms_all]
  show words1.all (fun c => c.before args0 about1) = true
  refine all_split ?_ w_codes
  rw [w_t1]
set_option maxRecDepth 65536 in
theorem w_case : (Jvm.Cond.and given_1 narrow_1).before args0 about1 = true := by decide +kernel
theorem w_applies : (headSpec (Jvm.Cond.code x code maxLocals ret :: tables_1) room_1).applies x e0.platform about1 = true :=
  (Spec.applies_iff w_frames).mpr ⟨w_running, w_runnable, w_alone, w_named, w_hears, w_ripe, w_room, w_tables⟩
theorem atStart : AtStart classFile x code maxLocals ret World_1 tables_1 room_1 Calls_1 rest_1 Pre_1 launch0 p0 e0 about1 theMethod args0 below0 :=
  ⟨lists_1, trivial, launch0.admits_env _ _ _, launch0.least_env, fairChoices_fair.cas, fairChoices_fair.clock, w_frames, w_args, w_heap, w_applies, trivial, trivial, w_case⟩
end start1
theorem witness_1 : WitnessClaimed_1 := ⟨start1.p0, start1.e0, start1.about1, start1.theMethod, start1.args0, start1.below0, start1.atStart⟩
end Jvm.Pilot.@@N@@
