import JvmDerived
import JvmDerived.Pilot.@@N@@Statement
import JvmDerived.Pilot.@@N@@Code
set_option linter.unusedVariables false
set_option linter.unusedSimpArgs false
namespace Jvm.Own244
open Jvm.FP.Core Jvm.RoadKit Jvm.LawKit
theorem own_fl {B n s m : Nat} (hB : B < 2 ^ 52) (hn : 0 < n) (h1 : n * 2 ^ 52 ≤ B * 2 ^ (s + 1)) (hm : m = B * 2 ^ (s + 1) / n ∨ (m = B * 2 ^ (s + 1) / n + 1 ∧ n ≤ 2 * (B * 2 ^ (s + 1) % n))) : m / 2 ^ s = 2 * B / n := by
  have hp : 0 < 2 ^ s := Nat.two_pow_pos s
  have e0 : B * 2 ^ (s + 1) = 2 * B * 2 ^ s := by rw [Nat.pow_succ, Nat.mul_comm 2 B, Nat.mul_assoc, Nat.mul_comm (2 ^ s) 2]
  have e1 : B * 2 ^ (s + 1) / n / 2 ^ s = 2 * B / n := by rw [Nat.div_div_eq_div_mul, e0, Nat.mul_div_mul_right _ _ hp]
  rcases hm with rfl | ⟨rfl, h2⟩
  · exact e1
  · have d1 := Nat.div_add_mod (B * 2 ^ (s + 1)) n
    have r1 := Nat.mod_lt (B * 2 ^ (s + 1)) hn
    have d2 := Nat.div_add_mod (B * 2 ^ (s + 1) / n) (2 ^ s)
    have r2 := Nat.mod_lt (B * 2 ^ (s + 1) / n) hp
    rw [e1] at d2
    generalize hQ : B * 2 ^ (s + 1) / n = Q at *
    generalize hr : B * 2 ^ (s + 1) % n = r at *
    generalize hF : 2 * B / n = F at *
    generalize ht : Q % 2 ^ s = t at *
    by_cases hc : t + 1 < 2 ^ s
    · rw [show Q + 1 = 2 ^ s * F + (t + 1) from by omega, Nat.mul_add_div hp, Nat.div_eq_of_lt hc]; rfl
    · exfalso
      have e2 : Q + 1 = 2 ^ s * (F + 1) := by rw [Nat.mul_succ]; omega
      -- n * (F + 1) * 2^s = N + (n - r)
      have e3 : n * (F + 1) * 2 ^ s = 2 * B * 2 ^ s + (n - r) := by
        have q1 : n * (Q + 1) = n * Q + n := Nat.mul_succ n Q
        rw [← e0, ← d1]
        rw [show n * (F + 1) * 2 ^ s = n * (2 ^ s * (F + 1)) from by rw [Nat.mul_comm (2 ^ s), Nat.mul_assoc], ← e2, q1]
        omega
      have e4 : 2 * B < n * (F + 1) := by
        have q2 : 2 * B * 2 ^ s < n * (F + 1) * 2 ^ s := by omega
        exact Nat.lt_of_mul_lt_mul_right q2
      have e5 : (2 * B + 1) * 2 ^ s ≤ n * (F + 1) * 2 ^ s := Nat.mul_le_mul_right _ e4
      have e6 : 2 ^ s ≤ n - r := by rw [Nat.succ_mul] at e5; omega
      have e7 : 2 ^ (s + 1) ≤ n := by rw [Nat.pow_succ]; omega
      have e8 : B * 2 ^ (s + 1) ≤ B * n := Nat.mul_le_mul_left _ e7
      have e9 : n * 2 ^ 52 ≤ n * B := by rw [Nat.mul_comm n B]; exact Nat.le_trans h1 e8
      have := Nat.le_of_mul_le_mul_left e9 hn
      omega
theorem own_near (N n : Nat) : nearest N n = N / n ∨ (nearest N n = N / n + 1 ∧ n ≤ 2 * (N % n)) := by
  unfold nearest
  by_cases h : 2 * (N % n) < n
  · rw [if_pos h]; exact Or.inl rfl
  · rw [if_neg h]
    by_cases h2 : n < 2 * (N % n)
    · rw [if_pos h2]; exact Or.inr ⟨rfl, by omega⟩
    · rw [if_neg h2]
      rcases Nat.mod_two_eq_zero_or_one (N / n) with k | k
      · rw [k]; exact Or.inl rfl
      · rw [k]; exact Or.inr ⟨rfl, by omega⟩
theorem own_core {B n : Nat} (hB0 : 0 < B) (hB : B < 2 ^ 52) (hn : 0 < n) (hn2 : n ≤ 2 ^ 52) :
    ∃ (c : Nat) (e : Int), roundRatio b64 false B n 0 = .fin false c e ∧ 2 ^ 52 ≤ c ∧ c < 2 ^ 53 ∧ -1000 < e ∧ e ≤ -1 ∧ c / 2 ^ (-1 - e).toNat = 2 * B / n := by
  obtain ⟨l1, l2⟩ := leading_spec hB0 hn
  generalize hk : leading B n = k at *
  have k1 : k ≤ 51 := by
    refine Int.lt_add_one_iff.mp (Int.lt_of_not_ge fun q => l1 (below_mono q ((below_iff B n 52 0).mpr ?_)))
    have := Nat.mul_le_mul_right (2 ^ 52) hn
    omega
  have k2 : -52 ≤ k := by
    refine Int.le_of_lt_add_one (Int.lt_of_not_ge fun q => ?_)
    have := below_mono (b := ((0 : Nat) : Int) - (52 : Nat)) (by omega) l2
    rw [below_iff] at this
    have := Nat.mul_le_mul_right (2 ^ 52) hB0
    omega
  obtain ⟨s, hs⟩ : ∃ s : Nat, (s : Int) = 51 - k := ⟨(51 - k).toNat, by omega⟩
  have b1 : n * 2 ^ 52 ≤ B * 2 ^ (s + 1) := Nat.le_of_not_lt fun q => l1 (by rw [show k = ((52 : Nat) : Int) - ((s + 1 : Nat) : Int) from by omega]; exact (below_iff _ _ _ _).mpr q)
  have b2 : B * 2 ^ (s + 1) < n * 2 ^ 53 := (below_iff _ _ _ _).mp (by rw [show ((53 : Nat) : Int) - ((s + 1 : Nat) : Int) = k + 1 from by omega]; exact l2)
  have hq : quantum b64 B n 0 = k - 52 := by
    unfold quantum; rw [hk, show b64.qmin = -1074 from by decide, show (b64.p : Int) = 53 from rfl]; omega
  have hN : unitsNum B 0 (k - 52) = B * 2 ^ (s + 1) := by unfold unitsNum; rw [show ((0 : Int) - (k - 52)).toNat = s + 1 from by omega]
  have hD : unitsDen n 0 (k - 52) = n := by unfold unitsDen; rw [show (k - 52 - (0 : Int)).toNat = 0 from by omega, Nat.pow_zero, Nat.mul_one]
  have hr : roundRatio b64 false B n 0 = settle b64 false (nearest (B * 2 ^ (s + 1)) n) (k - 52) := by
    unfold roundRatio; rw [if_neg (by omega)]; unfold roundAt; rw [hq, hN, hD]
  have hm := own_near (B * 2 ^ (s + 1)) n
  have hf := own_fl hB hn b1 hm
  have m1 : 2 ^ 52 ≤ B * 2 ^ (s + 1) / n := (Nat.le_div_iff_mul_le hn).mpr (by rw [Nat.mul_comm]; exact b1)
  have m2 : B * 2 ^ (s + 1) / n < 2 ^ 53 := (Nat.div_lt_iff_lt_mul hn).mpr (by rw [Nat.mul_comm (2 ^ 53) n]; exact b2)
  generalize nearest (B * 2 ^ (s + 1)) n = m at *
  by_cases hc : m < 2 ^ 53
  · refine ⟨m, k - 52, ?_, by omega, hc, by omega, by omega, ?_⟩
    · rw [hr]; unfold settle; rw [if_pos (show m < 2 ^ b64.p from hc)]; unfold bound; rw [if_pos (by rw [show b64.qmax = 971 from by decide]; omega)]
    · rw [show (-1 - (k - 52)).toNat = s from by omega]; exact hf
  · have hm53 : m = 2 ^ 53 := by omega
    have hs2 : 53 < s := by
      refine Nat.lt_of_not_le fun q => ?_
      have e1 : 2 * B / n < 2 ^ (53 - s) := by
        rw [Nat.div_lt_iff_lt_mul hn]
        have p1 := Nat.two_pow_pos s
        refine Nat.lt_of_mul_lt_mul_right (a := 2 ^ s) ?_
        rw [show 2 ^ (53 - s) * n * 2 ^ s = n * 2 ^ 53 from by rw [Nat.mul_comm (2 ^ (53 - s)) n, Nat.mul_assoc, ← Nat.pow_add, show 53 - s + s = 53 from by omega]]
        rw [show 2 * B * 2 ^ s = B * 2 ^ (s + 1) from by rw [Nat.pow_succ, Nat.mul_comm 2 B, Nat.mul_assoc, Nat.mul_comm (2 ^ s) 2]]
        exact b2
      rw [← hf, hm53, Nat.pow_div q (by decide)] at e1
      omega
    refine ⟨2 ^ 52, k - 51, ?_, by omega, by omega, by omega, by omega, ?_⟩
    · rw [hr]; unfold settle; rw [if_neg (show ¬ m < 2 ^ b64.p from hc)]; unfold bound; rw [if_pos (by rw [show b64.qmax = 971 from by decide]; omega), show b64.tails = 2 ^ 52 from rfl, show k - 52 + 1 = k - 51 from by omega]
    · rw [show (-1 - (k - 51)).toNat = s - 1 from by omega, ← hf, hm53, Nat.div_eq_of_lt (Nat.pow_lt_pow_right (by decide) (by omega)), Nat.div_eq_of_lt (Nat.pow_lt_pow_right (by decide) (by omega))]
theorem own_bits {a b : UInt64} {B n : Nat} (ha : DInt (B : Int) a) (hb : DInt (n : Int) b) (hB0 : 0 < B) (hB : B < 2 ^ 52) (hn : 0 < n) (hn2 : n ≤ 2 ^ 52) :
    ∃ (c : Nat) (e : Int), 2 ^ 52 ≤ c ∧ c < 2 ^ 53 ∧ -1000 < e ∧ e ≤ -1 ∧ c / 2 ^ (-1 - e).toNat = 2 * B / n ∧ val64 (ddiv a b) = .fin false c e ∧ (ddiv a b).toNat = (e + 1075).toNat * 2 ^ 52 + (c - 2 ^ 52) := by
  obtain ⟨c, e, h0, h1, h2, h3, h4, h5⟩ := own_core hB0 hB hn hn2
  have hv : val64 (ddiv a b) = .fin false c e := by
    rw [val64_ddiv, ← h0]
    unfold DInt at ha hb
    cases hva : val64 a with
    | nan => rw [hva] at ha; exact absurd ha id
    | inf s => rw [hva] at ha; exact absurd ha id
    | fin s1 c1 q1 =>
      cases hvb : val64 b with
      | nan => rw [hvb] at hb; exact absurd hb id
      | inf s => rw [hvb] at hb; exact absurd hb id
      | fin s2 c2 q2 =>
        rw [hva] at ha; rw [hvb] at hb
        have s1' := whole_sign ha (by omega)
        have s2' := whole_sign hb (by omega)
        rw [decide_eq_false (by omega)] at s1' s2'
        subst s1' s2'
        have n1 := whole_natAbs ha
        have n2 := whole_natAbs hb
        have z2 : c2 ≠ 0 := fun k => by have := (whole_zero hb).mp k; omega
        show (if c2 = 0 then _ else roundRatio b64 (false != false) c1 c2 (q1 - q2)) = _
        rw [if_neg z2]
        refine roundRatio_congr (by omega) hn ?_
        rw [Int.natAbs_natCast] at n1 n2
        have ex : 2 ^ (q1 - q2 - 0).toNat * 2 ^ q2.toNat * 2 ^ (-q1).toNat = 2 ^ (0 - (q1 - q2)).toNat * 2 ^ q1.toNat * 2 ^ (-q2).toNat := by
          rw [← Nat.pow_add, ← Nat.pow_add, ← Nat.pow_add, ← Nat.pow_add]; congr 1; omega
        refine Nat.eq_of_mul_eq_mul_right (Nat.mul_pos (Nat.two_pow_pos q1.toNat) (Nat.two_pow_pos (-q2).toNat)) ?_
        generalize 2 ^ (q1 - q2 - 0).toNat = X at *
        generalize 2 ^ (0 - (q1 - q2)).toNat = Y at *
        generalize 2 ^ q1.toNat = x1 at *
        generalize 2 ^ q2.toNat = x2 at *
        generalize 2 ^ (-q1).toNat = y1 at *
        generalize 2 ^ (-q2).toNat = y2 at *
        calc c1 * n * X * (x1 * y2) = (c1 * x1) * (n * y2) * X := by ac_rfl
          _ = (B * y1) * (c2 * x2) * X := by rw [n1, n2]
          _ = B * c2 * (X * x2 * y1) := by ac_rfl
          _ = B * c2 * (Y * x1 * y2) := by rw [ex]
          _ = B * c2 * Y * (x1 * y2) := by ac_rfl
  refine ⟨c, e, h1, h2, h3, h4, h5, hv, ?_⟩
  have hf : (ddiv a b).toNat = encode b64 (val64 (ddiv a b)) := by
    rw [val64_ddiv]; exact toNat_of64 (quotient_fits good_b64 _ _)
  rw [hf, hv]
  show (if c < b64.tails then _ else assemble b64 false ((e - b64.qmin).toNat + 1) (c - b64.tails)) = _
  rw [if_neg (by show ¬ c < 2 ^ 52; omega)]
  show ((false : Bool).toNat * b64.exps + ((e - b64.qmin).toNat + 1)) * b64.tails + (c - b64.tails) = _
  rw [show b64.tails = 2 ^ 52 from rfl, show b64.qmin = -1074 from by decide, show (false : Bool).toNat * b64.exps = 0 from by decide, show (0 + ((e - -1074).toNat + 1)) = (e + 1075).toNat from by omega]
theorem own_oN {a : Nat} (h : a < 2 ^ 63) : (Int64.ofNat a).toInt = a := Int64.toInt_ofNat_of_lt h
theorem own_oE {x : Int64} {a : Nat} (h : a < 2 ^ 63) (e : x.toInt = a) : x = Int64.ofNat a := Int64.toInt_inj.mp (by rw [own_oN h]; exact e)
theorem own_oand (a b : Nat) : (Int64.ofNat a &&& Int64.ofNat b) = Int64.ofNat (a &&& b) := by
  apply Int64.toBitVec_inj.mp
  show BitVec.ofNat 64 a &&& BitVec.ofNat 64 b = BitVec.ofNat 64 (a &&& b)
  rw [BitVec.ofNat_and]
theorem own_oor (a b : Nat) : (Int64.ofNat a ||| Int64.ofNat b) = Int64.ofNat (a ||| b) := by
  apply Int64.toBitVec_inj.mp
  show BitVec.ofNat 64 a ||| BitVec.ofNat 64 b = BitVec.ofNat 64 (a ||| b)
  rw [BitVec.ofNat_or]
theorem own_osh (a : Nat) (q : Int32) (k : Nat) (hk : q.toBitVec.toNat % 64 = k) (h : a < 2 ^ 63) : (Int64.ofNat a >>> (q &&& 0x3f).toInt64) = Int64.ofNat (a / 2 ^ k) := by
  refine own_oE (Nat.lt_of_le_of_lt (Nat.div_le_self _ _) h) ?_
  rw [c_lshr _ q k hk, own_oN h]; rfl
theorem own_u64 (u : UInt64) : u.toInt64 = Int64.ofNat u.toNat := by
  apply Int64.toBitVec_inj.mp
  show u.toBitVec = BitVec.ofNat 64 u.toNat
  exact (BitVec.ofNat_toNat 64 u.toBitVec).symm.trans rfl |>.symm ▸ rfl
def own_rnd (u0 : UInt64) (R : Int64) : Prop := ¬ (u0.toInt64 < (0 : Int64)) ∧ ((((1074 : Int64) - ((u0.toInt64 &&& (9218868437227405312 : Int64)) >>> ((52 : Int32) &&& 0x3f).toInt64)) &&& (-64 : Int64)) = (0 : Int64) → (((((u0.toInt64 &&& (4503599627370495 : Int64)) ||| (4503599627370496 : Int64)) >>> (((1074 : Int64) - ((u0.toInt64 &&& (9218868437227405312 : Int64)) >>> ((52 : Int32) &&& 0x3f).toInt64)).toInt32 &&& 0x3f).toInt64) + (1 : Int64)) >>> ((1 : Int32) &&& 0x3f).toInt64) = R) ∧ (¬ ((((1074 : Int64) - ((u0.toInt64 &&& (9218868437227405312 : Int64)) >>> ((52 : Int32) &&& 0x3f).toInt64)) &&& (-64 : Int64)) = (0 : Int64)) → FP.d2l u0 = R)
theorem own_g64 : ∀ g : Fin 1024, (Int64.ofNat g.val &&& (-64 : Int64)) = (0 : Int64) ↔ g.val < 64 := by decide +kernel
theorem own_g32 : ∀ g : Fin 64, (Int64.ofNat g.val).toInt32.toBitVec.toNat % 64 = g.val := by decide +kernel
theorem own_rof {u0 : UInt64} {E t g : Nat} (hu : u0.toNat = E * 2 ^ 52 + t) (ht : t < 2 ^ 52) (hE : E + g = 1074) (hg : g < 1000) (hv : val64 u0 = .fin false (2 ^ 52 + t) (-1 - (g : Int))) : own_rnd u0 (Int64.ofNat (((2 ^ 52 + t) / 2 ^ g + 1) / 2)) := by
  have hX : E * 2 ^ 52 + t < 2 ^ 63 := by omega
  have e4 : ((u0.toInt64 &&& (9218868437227405312 : Int64)) >>> ((52 : Int32) &&& 0x3f).toInt64) = Int64.ofNat E := by
    rw [own_u64, hu, show (9218868437227405312 : Int64) = Int64.ofNat 9218868437227405312 from rfl, own_oand, own_osh _ 52 52 (by decide) (Nat.lt_of_le_of_lt Nat.and_le_left hX)]
    rw [← Nat.shiftRight_eq_div_pow, Nat.shiftRight_and_distrib, show 9218868437227405312 >>> 52 = 2 ^ 11 - 1 from by decide, Nat.and_two_pow_sub_one_eq_mod, Nat.shiftRight_eq_div_pow]
    congr 1
    omega
  have e6 : ((1074 : Int64) - Int64.ofNat E) = Int64.ofNat g := by
    refine own_oE (by omega) ?_
    have h1 := c_lsub 1074 (Int64.ofNat E)
    have h2 := rng64 ((1074 : Int64) - Int64.ofNat E)
    have h3 : (1074 : Int64).toInt = 1074 := rfl
    rw [own_oN (by omega), h3] at h1
    omega
  have e8 : ((u0.toInt64 &&& (4503599627370495 : Int64)) ||| (4503599627370496 : Int64)) = Int64.ofNat (2 ^ 52 + t) := by
    rw [own_u64, hu, show (4503599627370495 : Int64) = Int64.ofNat (2 ^ 52 - 1) from rfl, own_oand, show (4503599627370496 : Int64) = Int64.ofNat (2 ^ 52) from rfl, own_oor, Nat.and_two_pow_sub_one_eq_mod]
    rw [show (E * 2 ^ 52 + t) % 2 ^ 52 = t from by omega, Nat.or_comm]
    have := Nat.two_pow_add_eq_or_of_lt ht 1
    rw [Nat.mul_one] at this
    rw [this]
  unfold own_rnd
  rw [e4, e6, e8]
  refine ⟨?_, fun hc => ?_, fun hc => ?_⟩
  · rw [own_u64, hu, Int64.lt_iff_toInt_lt, own_oN hX]; have : (0 : Int64).toInt = 0 := rfl; omega
  · have g64 := (own_g64 ⟨g, by omega⟩).mp hc
    rw [own_osh _ _ g (own_g32 ⟨g, g64⟩) (by omega)]
    have hd : (2 ^ 52 + t) / 2 ^ g ≤ 2 ^ 52 + t := Nat.div_le_self _ _
    generalize (2 ^ 52 + t) / 2 ^ g = F at *
    rw [show (Int64.ofNat F + (1 : Int64)) = Int64.ofNat (F + 1) from by
      refine own_oE (by omega) ?_
      have h1 := c_ladd (Int64.ofNat F) 1
      have h2 := rng64 (Int64.ofNat F + (1 : Int64))
      have h3 : (1 : Int64).toInt = 1 := rfl
      rw [own_oN (by omega), h3] at h1
      omega]
    rw [own_osh _ 1 1 (by decide) (by omega), Nat.pow_one]
  · have g64 : ¬ g < 64 := fun k => hc ((own_g64 ⟨g, by omega⟩).mpr k)
    have hz : (2 ^ 52 + t) / 2 ^ g = 0 := Nat.div_eq_of_lt (Nat.lt_of_lt_of_le (show 2 ^ 52 + t < 2 ^ 53 by omega) (Nat.pow_le_pow_right (by decide) (by omega)))
    rw [hz]
    show toL (val64 u0) = _
    rw [hv]
    have hz2 : (2 ^ 52 + t) * 2 ^ (-1 - (g : Int)).toNat / 2 ^ (-(-1 - (g : Int))).toNat = 0 := by
      rw [show (-1 - (g : Int)).toNat = 0 from by omega, Nat.pow_zero, Nat.mul_one, show (-(-1 - (g : Int))).toNat = g + 1 from by omega]
      exact Nat.div_eq_of_lt (Nat.lt_of_lt_of_le (show 2 ^ 52 + t < 2 ^ 53 by omega) (Nat.pow_le_pow_right (by decide) (by omega)))
    show Int64.ofInt (max _ (min _ (signed false ((2 ^ 52 + t) * 2 ^ (-1 - (g : Int)).toNat / 2 ^ (-(-1 - (g : Int))).toNat)))) = _
    rw [hz2]
    decide
theorem own_nn {i : Int} {a : UInt64} (h : DInt i a) : Jvm.Free.Fl.NoNaN64 a := by
  rw [Jvm.Free.Fl.noNaN64_no, ← Bool.not_eq_true, dIsNaN_iff]
  intro k
  unfold DInt at h
  rw [k] at h
  exact h
theorem own_K : (4741671816366391296 : UInt64) = l2d 1000000000 := by decide +kernel
theorem own_half (B n : Nat) (hn : 0 < n) : (2 * B + n) / (2 * n) = (2 * B / n + 1) / 2 := by
  rw [Nat.mul_comm 2 n, ← Nat.div_div_eq_div_mul, Nat.add_div_right _ hn]
theorem own_m2 (x : Int64) (a : Nat) (h : x.toInt = a) (ha : a < 4611686018427387904) : ((2 : Int64) * x).toInt = ((2 * a : Nat) : Int) := by
  have h1 := c_lmul 2 x
  have h2 := rng64 ((2 : Int64) * x)
  rw [show (2 : Int64).toInt = 2 from rfl, h] at h1
  generalize ((2 : Int64) * x).toInt = y at *
  omega
theorem own_mk (x : Int64) (a : Nat) (h : x.toInt = a) (ha : a < 4194304) : (x * (1000000000 : Int64)).toInt = ((a * 1000000000 : Nat) : Int) := by
  have h1 := c_lmul x 1000000000
  have h2 := rng64 (x * (1000000000 : Int64))
  rw [show (1000000000 : Int64).toInt = 1000000000 from rfl, h] at h1
  generalize (x * (1000000000 : Int64)).toInt = y at *
  omega
theorem own_ad (x z : Int64) (a b : Nat) (h : x.toInt = a) (k : z.toInt = b) (ha : a + b < 9223372036854775808) : (x + z).toInt = ((a + b : Nat) : Int) := by
  have h1 := c_ladd x z
  have h2 := rng64 (x + z)
  rw [h, k] at h1
  generalize (x + z).toInt = y at *
  omega
theorem own_dv (x z : Int64) (a b : Nat) (h : x.toInt = a) (k : z.toInt = b) (hb : 0 < b) (ha : a < 9223372036854775808) : x / z = Int64.ofNat (a / b) := by
  have hne : z ≠ -1 := fun q => by rw [q] at k; have : (-1 : Int64).toInt = -1 := rfl; omega
  refine own_oE (Nat.lt_of_le_of_lt (Nat.div_le_self _ _) ha) ?_
  rw [(c_ldiv _ _ _ k hne).1 (by rw [h]; omega), h]; rfl
theorem own_zero {b : UInt64} {n : Nat} (hb : DInt (n : Int) b) (hn : 0 < n) : ddiv 0 b = 0 := by
  have hz : val64 0 = .fin false 0 b64.qmin := by decide +kernel
  have hv : val64 (ddiv 0 b) = val64 0 := by
    rw [val64_ddiv, hz]
    unfold DInt at hb
    cases hvb : val64 b with
    | nan => rw [hvb] at hb; exact absurd hb id
    | inf s => rw [hvb] at hb; exact absurd hb id
    | fin s2 c2 q2 =>
      rw [hvb] at hb
      have s2' := whole_sign hb (by omega)
      rw [decide_eq_false (by omega)] at s2'
      subst s2'
      have z2 : c2 ≠ 0 := fun k => by have := (whole_zero hb).mp k; omega
      show (if c2 = 0 then _ else roundRatio b64 (false != false) 0 c2 (b64.qmin - q2)) = _
      rw [if_neg z2]; rfl
  exact val64_inj (by rw [hv, hz]; exact fun k => by cases k) hv
theorem own_z0 : dmul (l2d 0) (4741671816366391296 : UInt64) = 0 := by decide +kernel
theorem own_r0 : own_rnd 0 0 := by unfold own_rnd; decide +kernel
theorem own_iM {d : Int64} {D : Nat} (hD : d.toInt = D) (h : D < 4194304) : DInt ((D * 1000000000 : Nat) : Int) (dmul (l2d d) (4741671816366391296 : UInt64)) := by
  have iD : DInt (D : Int) (l2d d) := hD ▸ l2d_int (a := d) (by omega)
  have iK : DInt ((1000000000 : Int64).toInt) (4741671816366391296 : UInt64) := by rw [own_K]; exact l2d_int (a := 1000000000) (by decide)
  rw [show (1000000000 : Int64).toInt = 1000000000 from rfl] at iK
  have q := dmul_int iD iK (by omega)
  rw [show ((D * 1000000000 : Nat) : Int) = (D : Int) * 1000000000 from by omega]
  exact q
theorem own_q {d n : Int64} {D m : Nat} (hD : d.toInt = D) (h : D < 4194304) (hm : n.toInt = m) (hm0 : 0 < m) (hm1 : m ≤ 4503599627370496) :
    Jvm.Free.Fl.NoNaN64 (ddiv (dmul (l2d d) (4741671816366391296 : UInt64)) (l2d n)) ∧ own_rnd (ddiv (dmul (l2d d) (4741671816366391296 : UInt64)) (l2d n)) (Int64.ofNat ((2 * (D * 1000000000) / m + 1) / 2)) := by
  have iN : DInt (m : Int) (l2d n) := hm ▸ l2d_int (a := n) (by omega)
  have iM := own_iM hD h
  rcases Nat.eq_zero_or_pos D with rfl | hp
  · have ed : d = 0 := Int64.toInt_inj.mp (by rw [hD]; rfl)
    rw [ed, own_z0, own_zero iN hm0, Nat.zero_mul, Nat.mul_zero, Nat.zero_div]
    exact ⟨by unfold Jvm.Free.Fl.NoNaN64; decide, own_r0⟩
  · generalize dmul (l2d d) (4741671816366391296 : UInt64) = a at *
    generalize l2d n = b at *
    obtain ⟨c, e, h1, h2, h3, h4, h5, hv, hu⟩ := own_bits iM iN (by omega) (by omega) hm0 (by omega)
    refine ⟨(by rw [Jvm.Free.Fl.noNaN64_no, ← Bool.not_eq_true, dIsNaN_iff, hv]; intro k; cases k), ?_⟩
    rw [← h5]
    obtain ⟨t, rfl⟩ : ∃ t, c = 2 ^ 52 + t := ⟨c - 2 ^ 52, by omega⟩
    obtain ⟨g, rfl⟩ : ∃ g : Nat, e = -1 - (g : Int) := ⟨(-1 - e).toNat, by omega⟩
    rw [show (-1 - (-1 - (g : Int))).toNat = g from by omega]
    exact own_rof (E := (-1 - (g : Int) + 1075).toNat) (t := t) (by rw [hu]; omega) (by omega) (by omega) (by omega) hv
theorem own_main (d n : Int64) (hd0 : 0 ≤ d.toInt) (hd1 : d.toInt < 4194304) (hn0 : 1 ≤ n.toInt) (hn1 : n.toInt ≤ 4503599627370496) :
    Jvm.Free.Fl.NoNaN64 (FP.dmul (FP.l2d d) (4741671816366391296 : UInt64)) ∧ Jvm.Free.Fl.NoNaN64 (FP.ddiv (FP.dmul (FP.l2d d) (4741671816366391296 : UInt64)) (FP.l2d n)) ∧ ((2 : Int64) * n) ≠ 0 ∧
    own_rnd (FP.ddiv (FP.dmul (FP.l2d d) (4741671816366391296 : UInt64)) (FP.l2d n)) ((((2 : Int64) * (d * (1000000000 : Int64))) + n) / ((2 : Int64) * n)) := by
  obtain ⟨D, hD⟩ : ∃ D : Nat, d.toInt = D := ⟨d.toInt.toNat, by omega⟩
  obtain ⟨m, hm⟩ : ∃ m : Nat, n.toInt = m := ⟨n.toInt.toNat, by omega⟩
  have t1 := own_m2 n m hm (by omega)
  have t2 := own_mk d D hD (by omega)
  have t3 := own_m2 _ _ t2 (by omega)
  have t4 := own_ad _ _ _ _ t3 hm (by omega)
  have t5 := own_dv _ _ _ _ t4 t1 (by omega) (by omega)
  have q := own_q (d := d) (n := n) hD (by omega) hm (by omega) (by omega)
  refine ⟨own_nn (own_iM hD (by omega)), q.1, fun k => ?_, ?_⟩
  · rw [k] at t1; have e0 : (0 : Int64).toInt = 0 := rfl; omega
  · rw [t5, own_half _ _ (by omega)]; exact q.2
end Jvm.Own244
namespace Jvm.RoadKit
open Sem ClassFile Op Lib Jvm.Stand Jvm.Free Jvm.LawKit
section New
variable {p : Program} {l : Launch} {e : Env} {R : Room} {s : State} {m : MethodId} {args : Array Value} {below : List Frame} {meth : Method} {c : Code} {T : State} {locs : List Loc} {cells slots : Nat}
theorem retI (X : Stand p l e R s m args below meth c T locs cells slots) (hx : p.tables.exec = Jvm.exec) {pc : Nat} {Ls : Array Slot} {z : Int32} {rest : List Value} (hret : meth.sig.returnType = some .int) (hd : decode c.code pc = .ok (.ireturn, 1)) {fs : List Frame}
    (hl : ∀ (f : JFrame) (acts : List Action), f.method = m → f.locked = none → f.entered = [] → (doReturn e (T.setTop f) acts (some (.int z))).1 = T.setFrames fs) : Steps p.tables e below (T.setTop (mkF m pc Ls (.int z :: rest))) (T.setFrames fs) := by
  have hm' : T.vm.method? m = some meth := X.method'
  have hn : narrow .int (.int z) = .int z := rfl
  show Steps p.tables e below (T.setTop { method := m, pc := pc, locals := Ls, stack := _ :: rest, locked := none }) _
  jvm_step X.here [X.here.top, hx, hd, hm', hret, hn]
  first | (intro acts; rw [hl _ acts rfl rfl rfl]) | rw [hl _ _ rfl rfl rfl]
  exact Steps.refl _
end New
end Jvm.RoadKit
namespace Jvm.Pilot.@@N@@
open Jvm Jvm.ClassFile Sem Op Lib Jvm.Free Jvm.Stand Jvm.LawKit Jvm.RoadKit Bundle Jvm.Pilot.@@N@@.Jvm.D
/-- a truth value as the machine holds it -/
def bi (P : Prop) [Decidable P] : Int32 := if P then 1 else 0
theorem bi_t {P : Prop} [Decidable P] (h : P) : bi P = 1 := if_pos h
theorem bi_f {P : Prop} [Decidable P] (h : ¬ P) : bi P = 0 := if_neg h
theorem bi_n {P : Prop} [Decidable P] (h : P) : ¬ (bi P = 0) := by rw [bi_t h]; decide
theorem bi_nar {P : Prop} [Decidable P] : nar .boolean (bi P) = bi P := by
  by_cases h : P
  · rw [bi_t h]; rfl
  · rw [bi_f h]; rfl
theorem bi_c {P Q : Prop} [Decidable P] [Decidable Q] (h : P ↔ Q) : bi P = bi Q := by
  by_cases k : P
  · rw [bi_t k, bi_t (h.mp k)]
  · rw [bi_f k, bi_f fun x => k (h.mpr x)]
theorem own_ext {h h' : Heap} (K : Keep h h' []) : Ext h h' := ⟨K.1, fun a c r => K.2.1 a c r nin0⟩
theorem own_staN {Z : State} {h h' : Heap} {C n d : String} {v : Value} {ws : List Addr} (F : Sta Z h C n d v) (K : Keep h h' ws) (r : ∀ x ∈ ws, ∀ cell : Cell, h[x]? = some cell → cell.vm.isStatics = false) : Sta Z h' C n d v := by
  obtain ⟨cf, i, k, f, st, cell, h1, h2, h3, h4, h5, h6, h7⟩ := F
  refine ⟨cf, i, k, f, st, cell, h1, h2, h3, h4, K.2.1 _ _ h5 (fun u => ?_), h6, h7⟩
  have q := r st u cell h5
  rw [h6] at q; cases q
theorem own_nE {Z : State} {h : Heap} {x : Addr} {D : String} (E : Exa Z h x D) : ∀ cell : Cell, h[x]? = some cell → cell.vm.isStatics = false := fun cell q => by
  obtain ⟨c2, k2, g1, g2, g3, g4, g5⟩ := E
  cases q.symm.trans g1
  exact g4
theorem own_nV {Z : State} {h : Heap} {x : Addr} {k : ClassId} {ty : FieldType} {z : Int32} {vs : List Value} {d : Value} (V : Arv Z h x k ty z vs d) : ∀ cell : Cell, h[x]? = some cell → cell.vm.isStatics = false := fun cell q => by
  obtain ⟨c2, A, -⟩ := V
  cases q.symm.trans A.1
  exact A.plain
theorem own_eqI {args : Array Value} {s : State} {t : Term} {n : Int32} (h : (Jvm.Cond.eq t (.int n)).value args s none s [] = some true) : t.eval args s none [] s = some (.int n) := by
  obtain ⟨x, y, h1, h2, k1, k2⟩ := cmp_v (Or.inl h)
  cases (Term.int_eval n).symm.trans h2
  obtain ⟨z, rfl⟩ := k2
  have u := gotT (show (Jvm.Cond.eq t (.int n)).value args s none s [] = some (decide (z = n)) from by simp [Cond.value, h1, Term.eval]) h
  rw [h1, u]
theorem own_eqL {args : Array Value} {s : State} {t : Term} {n : Int64} (h : (Jvm.Cond.eq t (.long n)).value args s none s [] = some true) : t.eval args s none [] s = some (.long n) := by
  obtain ⟨x, y, h1, h2, k1, k2⟩ := cmp_v (Or.inl h)
  cases (long_at n).symm.trans h2
  obtain ⟨z, rfl⟩ := k2
  have u := gotT (eq_L h1 (long_at n)) h
  rw [h1, u]
open Jvm.Own244
theorem d2_0 : decode jdk_30_method_1_code 0 = .ok (.aload_n 0, 1) := by decide +kernel
theorem d2_1 : decode jdk_30_method_1_code 1 = .ok (.invokespecial 1, 3) := by decide +kernel
theorem d2_4 : decode jdk_30_method_1_code 4 = .ok (.return_, 1) := by decide +kernel
theorem pn_2 : plainName "java/lang/Record" = true := by first | (simp [plainName, overriddenIn]; done) | decide +kernel
theorem ef_rmRec (m : MethodId) (o0 : Addr) : entryFrame m #[(.ref o0)] 1 = mkF m 0 #[.val (.ref o0)] [] := by first | (simp [entryFrame, mkF, argsToLocals, Value.category]; done) | rfl
def QrmRec (Z : State) (o0 : Addr) (h0 : Heap) (n0 : Nat) (v : Option Value) (h : Heap) (L : List Loc) : Prop := v = none ∧ Fr n0 L ∧ h = h0
set_option maxRecDepth 65536 in
set_option maxHeartbeats 40000000 in
theorem rmRec (l : Launch) (Z : State) (a0 : Array Value) (hw : ∀ d ∈ tables_1, d.before a0 Z = true) (ws : List Jvm.Cond) (o0 : Addr) (h0 : Heap) (n0 : Nat) (Z0 : n0 ≤ h0.size) :
    MetFree l (⟨"java/lang/Record", "<init>", "()V"⟩ : MethodName) (head1 (Jvm.Cond.code (⟨"java/lang/Record", "<init>", "()V"⟩ : MethodName) jdk_30_method_1_code 1 none :: ws) ({ frames := 1, cells := 0, slots := 0, locals := 12 } : Room)) (fun a U => a = #[(.ref o0)] ∧ Z.Warmed39 U.vm ∧ U.heap = h0) (fun _ _ _ _ _ => True) (fun _ U o U' => ∃ v L, o = .returned v ∧ QrmRec Z o0 h0 n0 v U'.heap L ∧ FrameEnd U o U' L ({ frames := 1, cells := 0, slots := 0, locals := 12 } : Room).cells ({ frames := 1, cells := 0, slots := 0, locals := 12 } : Room).slots) := by
  refine MetFree.of_bodySF (plainFor_of_name pn_2) hisR ?_
  intro p e s m args below meth c s₁ Bd hml0 hP hK
  obtain ⟨rfl, hZ, hh⟩ := hP
  have hx := Bd.exec
  have hby := Bd.bytes
  have hml : c.maxLocals = 1 := hml0
  have hown : s.vm.findClass "java/lang/Record" = some m.cls := findClass_of_methodNamed Bd.named
  have hnm := (name_of_methodNamed Bd.named Bd.method).1
  have X0 : Stand p l e ({ frames := 1, cells := 0, slots := 0, locals := 12 } : Room) s m #[(.ref o0)] below meth c s₁ [] 0 0 := Stand.of_body Bd
  have e0 : s₁.heap = h0 := by rw [← hh, Bd.state]; rfl
  have N0 := Fr.nil n0
  have pre0 : ∀ t, Steps p.tables e below (s₁.setTop (mkF m 0 #[.val (.ref o0)] [])) t → Steps p.tables e below (s₁.setTop (entryFrame m #[(.ref o0)] 1)) t := fun t k => castTop (ef_rmRec m o0) k
  have KC0 : Keep h0 h0 [] := Keep.refl _ _
  obtain ⟨T1, X1, e1, st1⟩ := initO X0 hx hZ hown (hw _ (List.mem_of_getElem? (i := 14) rfl)) (hw _ (List.mem_of_getElem? (i := 15) rfl)) (hw _ (List.mem_of_getElem? (i := 16) rfl)) e0 (g := (mkF m 1 #[.val (.ref o0)] [(.ref o0)])) rfl (by rw [hml]; rfl) rfl (hb hby d2_1) (by decide) (W := 0) (by show 2 * 0 + _ ≤ _; exact Nat.le_of_eq rfl) (by decide)
  obtain ⟨fs, hr, hrun, hended, hW, hsame⟩ := X1.leave (v := none) (fun _ => rfl)
  refine ⟨_, _, pre0 _ ?_, hrun, hended, _, _, rfl, ?_, ⟨_, rfl⟩, hW, hsame.mono (by decide) (by decide)⟩
  · show Steps p.tables e below (s₁.setTop (mkF m 0 #[.val (.ref o0)] [])) _
    refine XS.aloadN X0.here hx rfl (hb hby d2_0) rfl rfl ?_
    show Steps p.tables e below (s₁.setTop (mkF m 1 #[.val (.ref o0)] [(.ref o0)])) _
    refine st1 _ ?_
    show Steps p.tables e below (T1.setTop (mkF m 4 #[.val (.ref o0)] [])) _
    exact X1.returnOut hx Bd.returns (hb hby d2_4) hr
  · show QrmRec Z o0 h0 n0 _ T1.heap _
    rw [e1]
    exact ⟨rfl, N0, rfl⟩
theorem d1_0 : decode prog_6_method_1_code 0 = .ok (.aload_n 0, 1) := by decide +kernel
theorem d1_1 : decode prog_6_method_1_code 1 = .ok (.invokespecial 1, 3) := by decide +kernel
theorem pd_0 : parseMethodDescriptor "()V" = some ⟨[], none⟩ := by decide +kernel
theorem d1_4 : decode prog_6_method_1_code 4 = .ok (.aload_n 0, 1) := by decide +kernel
theorem d1_5 : decode prog_6_method_1_code 5 = .ok (.lload_n 1, 1) := by decide +kernel
theorem d1_6 : decode prog_6_method_1_code 6 = .ok (.putfield 7, 3) := by decide +kernel
theorem d1_9 : decode prog_6_method_1_code 9 = .ok (.aload_n 0, 1) := by decide +kernel
theorem d1_10 : decode prog_6_method_1_code 10 = .ok (.lload_n 3, 1) := by decide +kernel
theorem d1_11 : decode prog_6_method_1_code 11 = .ok (.putfield 13, 3) := by decide +kernel
theorem d1_14 : decode prog_6_method_1_code 14 = .ok (.aload_n 0, 1) := by decide +kernel
theorem d1_15 : decode prog_6_method_1_code 15 = .ok (.lload 5, 2) := by decide +kernel
theorem d1_17 : decode prog_6_method_1_code 17 = .ok (.putfield 16, 3) := by decide +kernel
theorem d1_20 : decode prog_6_method_1_code 20 = .ok (.aload_n 0, 1) := by decide +kernel
theorem d1_21 : decode prog_6_method_1_code 21 = .ok (.lload 7, 2) := by decide +kernel
theorem d1_23 : decode prog_6_method_1_code 23 = .ok (.putfield 19, 3) := by decide +kernel
theorem d1_26 : decode prog_6_method_1_code 26 = .ok (.aload_n 0, 1) := by decide +kernel
theorem d1_27 : decode prog_6_method_1_code 27 = .ok (.lload 9, 2) := by decide +kernel
theorem d1_29 : decode prog_6_method_1_code 29 = .ok (.putfield 22, 3) := by decide +kernel
theorem d1_32 : decode prog_6_method_1_code 32 = .ok (.aload_n 0, 1) := by decide +kernel
theorem d1_33 : decode prog_6_method_1_code 33 = .ok (.aload 11, 2) := by decide +kernel
theorem d1_35 : decode prog_6_method_1_code 35 = .ok (.putfield 25, 3) := by decide +kernel
theorem d1_38 : decode prog_6_method_1_code 38 = .ok (.return_, 1) := by decide +kernel
theorem pn_1 : plainName "com/example/klepsydra/bench/Run" = true := by first | (simp [plainName, overriddenIn]; done) | decide +kernel
theorem ef_rmIni (m : MethodId) (o0 : Addr) (q1 : Int64) (q2 : Int64) (q3 : Int64) (q4 : Int64) (q5 : Int64) (o6 : Addr) : entryFrame m #[(.ref o0), (.long q1), (.long q2), (.long q3), (.long q4), (.long q5), (.ref o6)] 12 = mkF m 0 #[.val (.ref o0), .val (.long q1), .second, .val (.long q2), .second, .val (.long q3), .second, .val (.long q4), .second, .val (.long q5), .second, .val (.ref o6)] [] := by first | (simp [entryFrame, mkF, argsToLocals, Value.category]; done) | rfl
def QrmIni (Z : State) (o0 : Addr) (q1 : Int64) (q2 : Int64) (q3 : Int64) (q4 : Int64) (q5 : Int64) (o6 : Addr) (h0 : Heap) (n0 : Nat) (v : Option Value) (h : Heap) (L : List Loc) : Prop := v = none ∧ Fr n0 L ∧ Keep h0 h [o0] ∧ Exa Z h o0 "com/example/klepsydra/bench/Run" ∧ Fld Z h o0 "com/example/klepsydra/bench/Run" "decisions" "J" (.long q1) ∧ Fld Z h o0 "com/example/klepsydra/bench/Run" "nanos" "J" (.long q5)
set_option maxRecDepth 65536 in
set_option maxHeartbeats 40000000 in
theorem rmIni (l : Launch) (Z : State) (a0 : Array Value) (hw : ∀ d ∈ tables_1, d.before a0 Z = true) (ws : List Jvm.Cond) (o0 : Addr) (q1 : Int64) (q2 : Int64) (q3 : Int64) (q4 : Int64) (q5 : Int64) (o6 : Addr) (h0 : Heap) (n0 : Nat) (Z0 : n0 ≤ h0.size) (H0 : Exa Z h0 o0 "com/example/klepsydra/bench/Run") (H1 : Fld Z h0 o0 "com/example/klepsydra/bench/Run" "decisions" "J" (.long (0 : Int64))) (H2 : Fld Z h0 o0 "com/example/klepsydra/bench/Run" "refused" "J" (.long (0 : Int64))) (H3 : Fld Z h0 o0 "com/example/klepsydra/bench/Run" "degraded" "J" (.long (0 : Int64))) (H4 : Fld Z h0 o0 "com/example/klepsydra/bench/Run" "failed" "J" (.long (0 : Int64))) (H5 : Fld Z h0 o0 "com/example/klepsydra/bench/Run" "nanos" "J" (.long (0 : Int64))) (H6 : Fld Z h0 o0 "com/example/klepsydra/bench/Run" "latencies" "[J" .null) (H7 : n0 ≤ o0) :
    MetFree l (⟨"com/example/klepsydra/bench/Run", "<init>", "(JJJJJ[J)V"⟩ : MethodName) (head1 (Jvm.Cond.code (⟨"com/example/klepsydra/bench/Run", "<init>", "(JJJJJ[J)V"⟩ : MethodName) prog_6_method_1_code 12 none :: ws) ({ frames := 2, cells := 0, slots := 0, locals := 24 } : Room)) (fun a U => a = #[(.ref o0), (.long q1), (.long q2), (.long q3), (.long q4), (.long q5), (.ref o6)] ∧ Z.Warmed39 U.vm ∧ U.heap = h0) (fun _ _ _ _ _ => True) (fun _ U o U' => ∃ v L, o = .returned v ∧ QrmIni Z o0 q1 q2 q3 q4 q5 o6 h0 n0 v U'.heap L ∧ FrameEnd U o U' L ({ frames := 2, cells := 0, slots := 0, locals := 24 } : Room).cells ({ frames := 2, cells := 0, slots := 0, locals := 24 } : Room).slots) := by
  refine MetFree.of_bodySF (plainFor_of_name pn_1) hisR ?_
  intro p e s m args below meth c s₁ Bd hml0 hP hK
  obtain ⟨rfl, hZ, hh⟩ := hP
  have hx := Bd.exec
  have hby := Bd.bytes
  have hml : c.maxLocals = 12 := hml0
  have hown : s.vm.findClass "com/example/klepsydra/bench/Run" = some m.cls := findClass_of_methodNamed Bd.named
  have hnm := (name_of_methodNamed Bd.named Bd.method).1
  have X0 : Stand p l e ({ frames := 2, cells := 0, slots := 0, locals := 24 } : Room) s m #[(.ref o0), (.long q1), (.long q2), (.long q3), (.long q4), (.long q5), (.ref o6)] below meth c s₁ [] 0 0 := Stand.of_body Bd
  have e0 : s₁.heap = h0 := by rw [← hh, Bd.state]; rfl
  have N0 := Fr.nil n0
  have pre0 : ∀ t, Steps p.tables e below (s₁.setTop (mkF m 0 #[.val (.ref o0), .val (.long q1), .second, .val (.long q2), .second, .val (.long q3), .second, .val (.long q4), .second, .val (.long q5), .second, .val (.ref o6)] [])) t → Steps p.tables e below (s₁.setTop (entryFrame m #[(.ref o0), (.long q1), (.long q2), (.long q3), (.long q4), (.long q5), (.ref o6)] 12)) t := fun t k => castTop (ef_rmIni m o0 q1 q2 q3 q4 q5 o6) k
  have z2 : @LT.lt Nat _ o0 (Array.size h0) := H0.lt
  have z3 : @LT.lt Nat _ o0 (Array.size h0) := H1.lt
  have z4 : @LT.lt Nat _ o0 (Array.size h0) := H2.lt
  have z5 : @LT.lt Nat _ o0 (Array.size h0) := H3.lt
  have z6 : @LT.lt Nat _ o0 (Array.size h0) := H4.lt
  have z7 : @LT.lt Nat _ o0 (Array.size h0) := H5.lt
  have z8 : @LT.lt Nat _ o0 (Array.size h0) := H6.lt
  have KC0 : Keep h0 h0 [o0] := Keep.refl _ _
  obtain ⟨_, _, ⟨T9, L9, k9, n9⟩, -, X9, ⟨Lc9, hQ9, l9, y9, z9⟩, st9⟩ := X0.specialBack hx (y := (⟨"java/lang/Record", "<init>", "()V"⟩ : MethodName)) rfl hown (mvT hZ (hw _ (List.mem_of_getElem? (i := 9) rfl))) (mvT hZ (hw _ (List.mem_of_getElem? (i := 10) rfl))) (mvT hZ (hw _ (List.mem_of_getElem? (i := 13) rfl))) (by decide) (backOf (W := 0) (rmRec l Z a0 hw [] o0 h0 n0 (by omega)) hZ (hw _ (List.mem_of_getElem? (i := 13) rfl)) (hw _ (List.mem_of_getElem? (i := 12) rfl)) (by decide) (by decide)) (g := (mkF m 1 #[.val (.ref o0), .val (.long q1), .second, .val (.long q2), .second, .val (.long q3), .second, .val (.long q4), .second, .val (.long q5), .second, .val (.ref o6)] [(.ref o0)])) rfl (by rw [hml]; rfl) (Steps.refl _) (a := o0) (argsL := []) (rest := []) (lenOf pd_0 rfl) rfl (by show 2 * 0 + _ ≤ _; exact Nat.le_of_eq rfl) (hb hby d1_1) (fun _ _ => ⟨rfl, e0, (by decide : 0 + 0 ≤ _), (by decide : 0 + 0 ≤ _)⟩)
  dsimp only [Pt.U, Pt.locs, Pt.cells, Pt.slots] at X9 l9 y9 z9 st9 hQ9
  subst l9 y9 z9
  obtain ⟨rfl, N9q, e9⟩ := hQ9
  have N9 := Fr.app N0 N9q
  obtain ⟨T10, h10, X10, e10, W10, st10⟩ := putF X9 hx hZ hown (host := "") (Or.inl (hw _ (List.mem_of_getElem? (i := 17) rfl))) Via.refl e9 H1 H0 (Or.inr ⟨(hw _ (List.mem_of_getElem? (i := 18) rfl)), rfl, hnm⟩) (hw _ (List.mem_of_getElem? (i := 3) rfl)) (ty := .long) (by decide) rfl rfl (g := (mkF m 6 #[.val (.ref o0), .val (.long q1), .second, .val (.long q2), .second, .val (.long q3), .second, .val (.long q4), .second, .val (.long q5), .second, .val (.ref o6)] [(.long q1), (.ref o0)])) rfl rfl (hb hby d1_6)
  have z11 := W10.size
  have N10 := Fr.snoc X10 N9 (by omega : n0 ≤ o0)
  have KC12 : Keep h0 h10 [o0] := KC0.wr W10 (Or.inl (List.mem_of_getElem? (i := 0) rfl))
  have Fw10 := H1.same W10
  have Fc13 := (H0.wr W10)
  have Fc14 := (H2.other W10 (Or.inr (slot_ne (Or.inr (hw _ (List.mem_of_getElem? (i := 20) rfl))) (Or.inr (hw _ (List.mem_of_getElem? (i := 18) rfl))) (by decide) (t := .long) (t' := .long) (by decide) (by decide))))
  obtain ⟨T15, h15, X15, e15, W15, st15⟩ := putF X10 hx hZ hown (host := "") (Or.inl (hw _ (List.mem_of_getElem? (i := 19) rfl))) Via.refl e10 Fc14 Fc13 (Or.inr ⟨(hw _ (List.mem_of_getElem? (i := 20) rfl)), rfl, hnm⟩) (hw _ (List.mem_of_getElem? (i := 3) rfl)) (ty := .long) (by decide) rfl rfl (g := (mkF m 11 #[.val (.ref o0), .val (.long q1), .second, .val (.long q2), .second, .val (.long q3), .second, .val (.long q4), .second, .val (.long q5), .second, .val (.ref o6)] [(.long q2), (.ref o0)])) rfl rfl (hb hby d1_11)
  have z16 := W15.size
  have N15 := Fr.snoc X15 N10 (by omega : n0 ≤ o0)
  have KC17 : Keep h0 h15 [o0] := KC12.wr W15 (Or.inl (List.mem_of_getElem? (i := 0) rfl))
  have Fw15 := Fc14.same W15
  have Fc18 := (Fc13.wr W15)
  have Fc19 := ((H3.other W10 (Or.inr (slot_ne (Or.inr (hw _ (List.mem_of_getElem? (i := 22) rfl))) (Or.inr (hw _ (List.mem_of_getElem? (i := 18) rfl))) (by decide) (t := .long) (t' := .long) (by decide) (by decide)))).other W15 (Or.inr (slot_ne (Or.inr (hw _ (List.mem_of_getElem? (i := 22) rfl))) (Or.inr (hw _ (List.mem_of_getElem? (i := 20) rfl))) (by decide) (t := .long) (t' := .long) (by decide) (by decide))))
  obtain ⟨T20, h20, X20, e20, W20, st20⟩ := putF X15 hx hZ hown (host := "") (Or.inl (hw _ (List.mem_of_getElem? (i := 21) rfl))) Via.refl e15 Fc19 Fc18 (Or.inr ⟨(hw _ (List.mem_of_getElem? (i := 22) rfl)), rfl, hnm⟩) (hw _ (List.mem_of_getElem? (i := 3) rfl)) (ty := .long) (by decide) rfl rfl (g := (mkF m 17 #[.val (.ref o0), .val (.long q1), .second, .val (.long q2), .second, .val (.long q3), .second, .val (.long q4), .second, .val (.long q5), .second, .val (.ref o6)] [(.long q3), (.ref o0)])) rfl rfl (hb hby d1_17)
  have z21 := W20.size
  have N20 := Fr.snoc X20 N15 (by omega : n0 ≤ o0)
  have KC22 : Keep h0 h20 [o0] := KC17.wr W20 (Or.inl (List.mem_of_getElem? (i := 0) rfl))
  have Fw20 := Fc19.same W20
  have Fc23 := (Fc18.wr W20)
  have Fc24 := (((H4.other W10 (Or.inr (slot_ne (Or.inr (hw _ (List.mem_of_getElem? (i := 24) rfl))) (Or.inr (hw _ (List.mem_of_getElem? (i := 18) rfl))) (by decide) (t := .long) (t' := .long) (by decide) (by decide)))).other W15 (Or.inr (slot_ne (Or.inr (hw _ (List.mem_of_getElem? (i := 24) rfl))) (Or.inr (hw _ (List.mem_of_getElem? (i := 20) rfl))) (by decide) (t := .long) (t' := .long) (by decide) (by decide)))).other W20 (Or.inr (slot_ne (Or.inr (hw _ (List.mem_of_getElem? (i := 24) rfl))) (Or.inr (hw _ (List.mem_of_getElem? (i := 22) rfl))) (by decide) (t := .long) (t' := .long) (by decide) (by decide))))
  obtain ⟨T25, h25, X25, e25, W25, st25⟩ := putF X20 hx hZ hown (host := "") (Or.inl (hw _ (List.mem_of_getElem? (i := 23) rfl))) Via.refl e20 Fc24 Fc23 (Or.inr ⟨(hw _ (List.mem_of_getElem? (i := 24) rfl)), rfl, hnm⟩) (hw _ (List.mem_of_getElem? (i := 3) rfl)) (ty := .long) (by decide) rfl rfl (g := (mkF m 23 #[.val (.ref o0), .val (.long q1), .second, .val (.long q2), .second, .val (.long q3), .second, .val (.long q4), .second, .val (.long q5), .second, .val (.ref o6)] [(.long q4), (.ref o0)])) rfl rfl (hb hby d1_23)
  have z26 := W25.size
  have N25 := Fr.snoc X25 N20 (by omega : n0 ≤ o0)
  have KC27 : Keep h0 h25 [o0] := KC22.wr W25 (Or.inl (List.mem_of_getElem? (i := 0) rfl))
  have Fw25 := Fc24.same W25
  have Fc28 := (Fc23.wr W25)
  have Fc29 := ((((H5.other W10 (Or.inr (slot_ne (Or.inr (hw _ (List.mem_of_getElem? (i := 26) rfl))) (Or.inr (hw _ (List.mem_of_getElem? (i := 18) rfl))) (by decide) (t := .long) (t' := .long) (by decide) (by decide)))).other W15 (Or.inr (slot_ne (Or.inr (hw _ (List.mem_of_getElem? (i := 26) rfl))) (Or.inr (hw _ (List.mem_of_getElem? (i := 20) rfl))) (by decide) (t := .long) (t' := .long) (by decide) (by decide)))).other W20 (Or.inr (slot_ne (Or.inr (hw _ (List.mem_of_getElem? (i := 26) rfl))) (Or.inr (hw _ (List.mem_of_getElem? (i := 22) rfl))) (by decide) (t := .long) (t' := .long) (by decide) (by decide)))).other W25 (Or.inr (slot_ne (Or.inr (hw _ (List.mem_of_getElem? (i := 26) rfl))) (Or.inr (hw _ (List.mem_of_getElem? (i := 24) rfl))) (by decide) (t := .long) (t' := .long) (by decide) (by decide))))
  obtain ⟨T30, h30, X30, e30, W30, st30⟩ := putF X25 hx hZ hown (host := "") (Or.inl (hw _ (List.mem_of_getElem? (i := 25) rfl))) Via.refl e25 Fc29 Fc28 (Or.inr ⟨(hw _ (List.mem_of_getElem? (i := 26) rfl)), rfl, hnm⟩) (hw _ (List.mem_of_getElem? (i := 3) rfl)) (ty := .long) (by decide) rfl rfl (g := (mkF m 29 #[.val (.ref o0), .val (.long q1), .second, .val (.long q2), .second, .val (.long q3), .second, .val (.long q4), .second, .val (.long q5), .second, .val (.ref o6)] [(.long q5), (.ref o0)])) rfl rfl (hb hby d1_29)
  have z31 := W30.size
  have N30 := Fr.snoc X30 N25 (by omega : n0 ≤ o0)
  have KC32 : Keep h0 h30 [o0] := KC27.wr W30 (Or.inl (List.mem_of_getElem? (i := 0) rfl))
  have Fw30 := Fc29.same W30
  have Fc33 := (Fc28.wr W30)
  have Fc34 := (((((H6.other W10 (Or.inr (slot_ne (Or.inr (hw _ (List.mem_of_getElem? (i := 28) rfl))) (Or.inr (hw _ (List.mem_of_getElem? (i := 18) rfl))) (by decide) (t := (.array .long)) (t' := .long) (by decide) (by decide)))).other W15 (Or.inr (slot_ne (Or.inr (hw _ (List.mem_of_getElem? (i := 28) rfl))) (Or.inr (hw _ (List.mem_of_getElem? (i := 20) rfl))) (by decide) (t := (.array .long)) (t' := .long) (by decide) (by decide)))).other W20 (Or.inr (slot_ne (Or.inr (hw _ (List.mem_of_getElem? (i := 28) rfl))) (Or.inr (hw _ (List.mem_of_getElem? (i := 22) rfl))) (by decide) (t := (.array .long)) (t' := .long) (by decide) (by decide)))).other W25 (Or.inr (slot_ne (Or.inr (hw _ (List.mem_of_getElem? (i := 28) rfl))) (Or.inr (hw _ (List.mem_of_getElem? (i := 24) rfl))) (by decide) (t := (.array .long)) (t' := .long) (by decide) (by decide)))).other W30 (Or.inr (slot_ne (Or.inr (hw _ (List.mem_of_getElem? (i := 28) rfl))) (Or.inr (hw _ (List.mem_of_getElem? (i := 26) rfl))) (by decide) (t := (.array .long)) (t' := .long) (by decide) (by decide))))
  obtain ⟨T35, h35, X35, e35, W35, st35⟩ := putF X30 hx hZ hown (host := "") (Or.inl (hw _ (List.mem_of_getElem? (i := 27) rfl))) Via.refl e30 Fc34 Fc33 (Or.inr ⟨(hw _ (List.mem_of_getElem? (i := 28) rfl)), rfl, hnm⟩) (hw _ (List.mem_of_getElem? (i := 3) rfl)) (ty := (.array .long)) (by decide) rfl rfl (g := (mkF m 35 #[.val (.ref o0), .val (.long q1), .second, .val (.long q2), .second, .val (.long q3), .second, .val (.long q4), .second, .val (.long q5), .second, .val (.ref o6)] [(.ref o6), (.ref o0)])) rfl rfl (hb hby d1_35)
  have z36 := W35.size
  have N35 := Fr.snoc X35 N30 (by omega : n0 ≤ o0)
  have KC37 : Keep h0 h35 [o0] := KC32.wr W35 (Or.inl (List.mem_of_getElem? (i := 0) rfl))
  have Fw35 := Fc34.same W35
  obtain ⟨fs, hr, hrun, hended, hW, hsame⟩ := X35.leave (v := none) (fun _ => rfl)
  have Fc38 := (Fc33.wr W35)
  have Fc39 := (((((Fw10.other W15 (Or.inr (slot_ne (Or.inr (hw _ (List.mem_of_getElem? (i := 18) rfl))) (Or.inr (hw _ (List.mem_of_getElem? (i := 20) rfl))) (by decide) (t := .long) (t' := .long) (by decide) (by decide)))).other W20 (Or.inr (slot_ne (Or.inr (hw _ (List.mem_of_getElem? (i := 18) rfl))) (Or.inr (hw _ (List.mem_of_getElem? (i := 22) rfl))) (by decide) (t := .long) (t' := .long) (by decide) (by decide)))).other W25 (Or.inr (slot_ne (Or.inr (hw _ (List.mem_of_getElem? (i := 18) rfl))) (Or.inr (hw _ (List.mem_of_getElem? (i := 24) rfl))) (by decide) (t := .long) (t' := .long) (by decide) (by decide)))).other W30 (Or.inr (slot_ne (Or.inr (hw _ (List.mem_of_getElem? (i := 18) rfl))) (Or.inr (hw _ (List.mem_of_getElem? (i := 26) rfl))) (by decide) (t := .long) (t' := .long) (by decide) (by decide)))).other W35 (Or.inr (slot_ne (Or.inr (hw _ (List.mem_of_getElem? (i := 18) rfl))) (Or.inr (hw _ (List.mem_of_getElem? (i := 28) rfl))) (by decide) (t := .long) (t' := (.array .long)) (by decide) (by decide))))
  have Fc40 := (Fw30.other W35 (Or.inr (slot_ne (Or.inr (hw _ (List.mem_of_getElem? (i := 26) rfl))) (Or.inr (hw _ (List.mem_of_getElem? (i := 28) rfl))) (by decide) (t := .long) (t' := (.array .long)) (by decide) (by decide))))
  refine ⟨_, _, pre0 _ ?_, hrun, hended, _, _, rfl, ?_, ⟨_, rfl⟩, hW, hsame.mono (by decide) (by decide)⟩
  · show Steps p.tables e below (s₁.setTop (mkF m 0 #[.val (.ref o0), .val (.long q1), .second, .val (.long q2), .second, .val (.long q3), .second, .val (.long q4), .second, .val (.long q5), .second, .val (.ref o6)] [])) _
    refine XS.aloadN X0.here hx rfl (hb hby d1_0) rfl rfl ?_
    show Steps p.tables e below (s₁.setTop (mkF m 1 #[.val (.ref o0), .val (.long q1), .second, .val (.long q2), .second, .val (.long q3), .second, .val (.long q4), .second, .val (.long q5), .second, .val (.ref o6)] [(.ref o0)])) _
    refine st9.trans ?_
    show Steps p.tables e below (T9.setTop (mkF m 4 #[.val (.ref o0), .val (.long q1), .second, .val (.long q2), .second, .val (.long q3), .second, .val (.long q4), .second, .val (.long q5), .second, .val (.ref o6)] [])) _
    refine XS.aloadN X9.here hx rfl (hb hby d1_4) rfl rfl ?_
    show Steps p.tables e below (T9.setTop (mkF m 5 #[.val (.ref o0), .val (.long q1), .second, .val (.long q2), .second, .val (.long q3), .second, .val (.long q4), .second, .val (.long q5), .second, .val (.ref o6)] [(.ref o0)])) _
    refine XS.lloadN X9.here hx rfl (hb hby d1_5) rfl ?_
    show Steps p.tables e below (T9.setTop (mkF m 6 #[.val (.ref o0), .val (.long q1), .second, .val (.long q2), .second, .val (.long q3), .second, .val (.long q4), .second, .val (.long q5), .second, .val (.ref o6)] [(.long q1), (.ref o0)])) _
    refine st10 _ ?_
    show Steps p.tables e below (T10.setTop (mkF m 9 #[.val (.ref o0), .val (.long q1), .second, .val (.long q2), .second, .val (.long q3), .second, .val (.long q4), .second, .val (.long q5), .second, .val (.ref o6)] [])) _
    refine XS.aloadN X10.here hx rfl (hb hby d1_9) rfl rfl ?_
    show Steps p.tables e below (T10.setTop (mkF m 10 #[.val (.ref o0), .val (.long q1), .second, .val (.long q2), .second, .val (.long q3), .second, .val (.long q4), .second, .val (.long q5), .second, .val (.ref o6)] [(.ref o0)])) _
    refine XS.lloadN X10.here hx rfl (hb hby d1_10) rfl ?_
    show Steps p.tables e below (T10.setTop (mkF m 11 #[.val (.ref o0), .val (.long q1), .second, .val (.long q2), .second, .val (.long q3), .second, .val (.long q4), .second, .val (.long q5), .second, .val (.ref o6)] [(.long q2), (.ref o0)])) _
    refine st15 _ ?_
    show Steps p.tables e below (T15.setTop (mkF m 14 #[.val (.ref o0), .val (.long q1), .second, .val (.long q2), .second, .val (.long q3), .second, .val (.long q4), .second, .val (.long q5), .second, .val (.ref o6)] [])) _
    refine XS.aloadN X15.here hx rfl (hb hby d1_14) rfl rfl ?_
    show Steps p.tables e below (T15.setTop (mkF m 15 #[.val (.ref o0), .val (.long q1), .second, .val (.long q2), .second, .val (.long q3), .second, .val (.long q4), .second, .val (.long q5), .second, .val (.ref o6)] [(.ref o0)])) _
    refine XS.lload X15.here hx rfl (hb hby d1_15) rfl ?_
    show Steps p.tables e below (T15.setTop (mkF m 17 #[.val (.ref o0), .val (.long q1), .second, .val (.long q2), .second, .val (.long q3), .second, .val (.long q4), .second, .val (.long q5), .second, .val (.ref o6)] [(.long q3), (.ref o0)])) _
    refine st20 _ ?_
    show Steps p.tables e below (T20.setTop (mkF m 20 #[.val (.ref o0), .val (.long q1), .second, .val (.long q2), .second, .val (.long q3), .second, .val (.long q4), .second, .val (.long q5), .second, .val (.ref o6)] [])) _
    refine XS.aloadN X20.here hx rfl (hb hby d1_20) rfl rfl ?_
    show Steps p.tables e below (T20.setTop (mkF m 21 #[.val (.ref o0), .val (.long q1), .second, .val (.long q2), .second, .val (.long q3), .second, .val (.long q4), .second, .val (.long q5), .second, .val (.ref o6)] [(.ref o0)])) _
    refine XS.lload X20.here hx rfl (hb hby d1_21) rfl ?_
    show Steps p.tables e below (T20.setTop (mkF m 23 #[.val (.ref o0), .val (.long q1), .second, .val (.long q2), .second, .val (.long q3), .second, .val (.long q4), .second, .val (.long q5), .second, .val (.ref o6)] [(.long q4), (.ref o0)])) _
    refine st25 _ ?_
    show Steps p.tables e below (T25.setTop (mkF m 26 #[.val (.ref o0), .val (.long q1), .second, .val (.long q2), .second, .val (.long q3), .second, .val (.long q4), .second, .val (.long q5), .second, .val (.ref o6)] [])) _
    refine XS.aloadN X25.here hx rfl (hb hby d1_26) rfl rfl ?_
    show Steps p.tables e below (T25.setTop (mkF m 27 #[.val (.ref o0), .val (.long q1), .second, .val (.long q2), .second, .val (.long q3), .second, .val (.long q4), .second, .val (.long q5), .second, .val (.ref o6)] [(.ref o0)])) _
    refine XS.lload X25.here hx rfl (hb hby d1_27) rfl ?_
    show Steps p.tables e below (T25.setTop (mkF m 29 #[.val (.ref o0), .val (.long q1), .second, .val (.long q2), .second, .val (.long q3), .second, .val (.long q4), .second, .val (.long q5), .second, .val (.ref o6)] [(.long q5), (.ref o0)])) _
    refine st30 _ ?_
    show Steps p.tables e below (T30.setTop (mkF m 32 #[.val (.ref o0), .val (.long q1), .second, .val (.long q2), .second, .val (.long q3), .second, .val (.long q4), .second, .val (.long q5), .second, .val (.ref o6)] [])) _
    refine XS.aloadN X30.here hx rfl (hb hby d1_32) rfl rfl ?_
    show Steps p.tables e below (T30.setTop (mkF m 33 #[.val (.ref o0), .val (.long q1), .second, .val (.long q2), .second, .val (.long q3), .second, .val (.long q4), .second, .val (.long q5), .second, .val (.ref o6)] [(.ref o0)])) _
    refine XS.aload X30.here hx rfl (hb hby d1_33) rfl rfl ?_
    show Steps p.tables e below (T30.setTop (mkF m 35 #[.val (.ref o0), .val (.long q1), .second, .val (.long q2), .second, .val (.long q3), .second, .val (.long q4), .second, .val (.long q5), .second, .val (.ref o6)] [(.ref o6), (.ref o0)])) _
    refine st35 _ ?_
    show Steps p.tables e below (T35.setTop (mkF m 38 #[.val (.ref o0), .val (.long q1), .second, .val (.long q2), .second, .val (.long q3), .second, .val (.long q4), .second, .val (.long q5), .second, .val (.ref o6)] [])) _
    exact X35.returnOut hx Bd.returns (hb hby d1_38) hr
  · show QrmIni Z o0 q1 q2 q3 q4 q5 o6 h0 n0 _ T35.heap _
    rw [e35]
    exact ⟨rfl, N35, KC37, Fc38, Fc39, Fc40⟩
theorem d5_0 : decode jdk_29_method_22_code 0 = .ok (.dload_n 0, 1) := by decide +kernel
theorem d5_1 : decode jdk_29_method_22_code 1 = .ok (.invokestatic 79, 3) := by decide +kernel
theorem d5_4 : decode jdk_29_method_22_code 4 = .ok (.lstore_n 2, 1) := by decide +kernel
theorem d5_5 : decode jdk_29_method_22_code 5 = .ok (.lload_n 2, 1) := by decide +kernel
theorem d5_6 : decode jdk_29_method_22_code 6 = .ok (.ldc2_w 87, 3) := by decide +kernel
theorem d5_9 : decode jdk_29_method_22_code 9 = .ok (.land, 1) := by decide +kernel
theorem d5_10 : decode jdk_29_method_22_code 10 = .ok (.bipush 52, 2) := by decide +kernel
theorem d5_12 : decode jdk_29_method_22_code 12 = .ok (.lshr, 1) := by decide +kernel
theorem d5_13 : decode jdk_29_method_22_code 13 = .ok (.lstore 4, 2) := by decide +kernel
theorem d5_15 : decode jdk_29_method_22_code 15 = .ok (.ldc2_w 89, 3) := by decide +kernel
theorem d5_18 : decode jdk_29_method_22_code 18 = .ok (.lload 4, 2) := by decide +kernel
theorem d5_20 : decode jdk_29_method_22_code 20 = .ok (.lsub, 1) := by decide +kernel
theorem d5_21 : decode jdk_29_method_22_code 21 = .ok (.lstore 6, 2) := by decide +kernel
theorem d5_23 : decode jdk_29_method_22_code 23 = .ok (.lload 6, 2) := by decide +kernel
theorem d5_25 : decode jdk_29_method_22_code 25 = .ok (.ldc2_w 91, 3) := by decide +kernel
theorem d5_28 : decode jdk_29_method_22_code 28 = .ok (.land, 1) := by decide +kernel
theorem d5_29 : decode jdk_29_method_22_code 29 = .ok (.lconst 0, 1) := by decide +kernel
theorem d5_30 : decode jdk_29_method_22_code 30 = .ok (.lcmp, 1) := by decide +kernel
theorem d5_31 : decode jdk_29_method_22_code 31 = .ok (.ifCond .ne 36, 3) := by decide +kernel
theorem d5_34 : decode jdk_29_method_22_code 34 = .ok (.lload_n 2, 1) := by decide +kernel
theorem d5_35 : decode jdk_29_method_22_code 35 = .ok (.ldc2_w 93, 3) := by decide +kernel
theorem d5_38 : decode jdk_29_method_22_code 38 = .ok (.land, 1) := by decide +kernel
theorem d5_39 : decode jdk_29_method_22_code 39 = .ok (.ldc2_w 95, 3) := by decide +kernel
theorem d5_42 : decode jdk_29_method_22_code 42 = .ok (.lor, 1) := by decide +kernel
theorem d5_43 : decode jdk_29_method_22_code 43 = .ok (.lstore 8, 2) := by decide +kernel
theorem d5_45 : decode jdk_29_method_22_code 45 = .ok (.lload_n 2, 1) := by decide +kernel
theorem d5_46 : decode jdk_29_method_22_code 46 = .ok (.lconst 0, 1) := by decide +kernel
theorem d5_47 : decode jdk_29_method_22_code 47 = .ok (.lcmp, 1) := by decide +kernel
theorem d5_48 : decode jdk_29_method_22_code 48 = .ok (.ifCond .ge 8, 3) := by decide +kernel
theorem d5_56 : decode jdk_29_method_22_code 56 = .ok (.lload 8, 2) := by decide +kernel
theorem d5_58 : decode jdk_29_method_22_code 58 = .ok (.lload 6, 2) := by decide +kernel
theorem d5_60 : decode jdk_29_method_22_code 60 = .ok (.l2i, 1) := by decide +kernel
theorem d5_61 : decode jdk_29_method_22_code 61 = .ok (.lshr, 1) := by decide +kernel
theorem d5_62 : decode jdk_29_method_22_code 62 = .ok (.lconst 1, 1) := by decide +kernel
theorem d5_63 : decode jdk_29_method_22_code 63 = .ok (.ladd, 1) := by decide +kernel
theorem d5_64 : decode jdk_29_method_22_code 64 = .ok (.iconst 1, 1) := by decide +kernel
theorem d5_65 : decode jdk_29_method_22_code 65 = .ok (.lshr, 1) := by decide +kernel
theorem d5_66 : decode jdk_29_method_22_code 66 = .ok (.lreturn, 1) := by decide +kernel
theorem d5_67 : decode jdk_29_method_22_code 67 = .ok (.dload_n 0, 1) := by decide +kernel
theorem d5_68 : decode jdk_29_method_22_code 68 = .ok (.d2l, 1) := by decide +kernel
theorem d5_69 : decode jdk_29_method_22_code 69 = .ok (.lreturn, 1) := by decide +kernel
theorem ef_rmRnd (m : MethodId) (u0 : UInt64) : entryFrame m #[(.double u0)] 10 = mkF m 0 #[.val (.double u0), .second, .unset, .unset, .unset, .unset, .unset, .unset, .unset, .unset] [] := by first | (simp [entryFrame, mkF, argsToLocals, Value.category]; done) | rfl
def QrmRnd (Z : State) (u0 : UInt64) (R : Int64) (h0 : Heap) (n0 : Nat) (v : Option Value) (h : Heap) (L : List Loc) : Prop := v = some (.long R) ∧ Fr n0 L ∧ h = h0
set_option maxRecDepth 65536 in
set_option maxHeartbeats 40000000 in
theorem rmRnd (l : Launch) (Z : State) (a0 : Array Value) (hw : ∀ d ∈ tables_1, d.before a0 Z = true) (ws : List Jvm.Cond) (u0 : UInt64) (R : Int64) (h0 : Heap) (n0 : Nat) (Z0 : n0 ≤ h0.size) (hrn : own_rnd u0 R) :
    MetFree l (⟨"java/lang/Math", "round", "(D)J"⟩ : MethodName) (head1 (Jvm.Cond.code (⟨"java/lang/Math", "round", "(D)J"⟩ : MethodName) jdk_29_method_22_code 10 (some .long) :: ws) ({ frames := 1, cells := 0, slots := 0, locals := 30 } : Room)) (fun a U => a = #[(.double u0)] ∧ Z.Warmed39 U.vm ∧ U.heap = h0) (fun _ _ _ _ _ => True) (fun _ U o U' => ∃ v L, o = .returned v ∧ QrmRnd Z u0 R h0 n0 v U'.heap L ∧ FrameEnd U o U' L ({ frames := 1, cells := 0, slots := 0, locals := 30 } : Room).cells ({ frames := 1, cells := 0, slots := 0, locals := 30 } : Room).slots) := by
  refine MetFree.of_bodySF (Jvm.Free.JP.mathPlain rfl (by decide +kernel)) hisR ?_
  intro p e s m args below meth c s₁ Bd hml0 hP hK
  obtain ⟨rfl, hZ, hh⟩ := hP
  have hx := Bd.exec
  have hby := Bd.bytes
  have hml : c.maxLocals = 10 := hml0
  have hown : s.vm.findClass "java/lang/Math" = some m.cls := findClass_of_methodNamed Bd.named
  have hnm := (name_of_methodNamed Bd.named Bd.method).1
  have X0 : Stand p l e ({ frames := 1, cells := 0, slots := 0, locals := 30 } : Room) s m #[(.double u0)] below meth c s₁ [] 0 0 := Stand.of_body Bd
  have e0 : s₁.heap = h0 := by rw [← hh, Bd.state]; rfl
  have N0 := Fr.nil n0
  have pre0 : ∀ t, Steps p.tables e below (s₁.setTop (mkF m 0 #[.val (.double u0), .second, .unset, .unset, .unset, .unset, .unset, .unset, .unset, .unset] [])) t → Steps p.tables e below (s₁.setTop (entryFrame m #[(.double u0)] 10)) t := fun t k => castTop (ef_rmRnd m u0) k
  have KC0 : Keep h0 h0 [] := Keep.refl _ _
  obtain ⟨vm41, X41, st41⟩ := X0.doubleToRawLongBits hx hown (mvT hZ (hw _ (List.mem_of_getElem? (i := 39) rfl))) (mvT hZ (hw _ (List.mem_of_getElem? (i := 42) rfl))) (mvT hZ (hw _ (List.mem_of_getElem? (i := 40) rfl))) (mvT hZ (hw _ (List.mem_of_getElem? (i := 41) rfl))) (g := (mkF m 1 #[.val (.double u0), .second, .unset, .unset, .unset, .unset, .unset, .unset, .unset, .unset] [(.double u0)])) rfl (by rw [hml]; rfl) rfl (hb hby d5_1) (by decide) (by show 2 * 0 + 0 + (nativeFrameWords "java/lang/Double" "doubleToRawLongBits" 2 + 11) ≤ _; decide)
  obtain ⟨T41, gT41⟩ : ∃ T', T' = s₁.setVm vm41 := ⟨_, rfl⟩
  rw [← gT41] at X41 st41
  have e41 : T41.heap = h0 := by rw [gT41]; exact e0
  have pre42 : ∀ t, Steps p.tables e below (T41.setTop (mkF m 31 #[.val (.double u0), .second, .val (.long u0.toInt64), .second, .val (.long ((u0.toInt64 &&& (9218868437227405312 : Int64)) >>> ((52 : Int32) &&& 0x3f).toInt64)), .second, .val (.long ((1074 : Int64) - ((u0.toInt64 &&& (9218868437227405312 : Int64)) >>> ((52 : Int32) &&& 0x3f).toInt64))), .second, .unset, .unset] [(.int (lcmpW (((1074 : Int64) - ((u0.toInt64 &&& (9218868437227405312 : Int64)) >>> ((52 : Int32) &&& 0x3f).toInt64)) &&& (-64 : Int64)) (0 : Int64)))])) t → Steps p.tables e below (s₁.setTop (entryFrame m #[(.double u0)] 10)) t := fun t k => by
    refine pre0 _ ?_
    show Steps p.tables e below (s₁.setTop (mkF m 0 #[.val (.double u0), .second, .unset, .unset, .unset, .unset, .unset, .unset, .unset, .unset] [])) _
    refine XS.dloadN X0.here hx rfl (hb hby d5_0) rfl ?_
    show Steps p.tables e below (s₁.setTop (mkF m 1 #[.val (.double u0), .second, .unset, .unset, .unset, .unset, .unset, .unset, .unset, .unset] [(.double u0)])) _
    refine st41 _ ?_
    show Steps p.tables e below (T41.setTop (mkF m 4 #[.val (.double u0), .second, .unset, .unset, .unset, .unset, .unset, .unset, .unset, .unset] [(.long u0.toInt64)])) _
    refine XS.lstoreN X41.here hx rfl (hb hby d5_4) rfl (l' := #[.val (.double u0), .second, .val (.long u0.toInt64), .second, .unset, .unset, .unset, .unset, .unset, .unset]) rfl ?_
    show Steps p.tables e below (T41.setTop (mkF m 5 #[.val (.double u0), .second, .val (.long u0.toInt64), .second, .unset, .unset, .unset, .unset, .unset, .unset] [])) _
    refine XS.lloadN X41.here hx rfl (hb hby d5_5) rfl ?_
    show Steps p.tables e below (T41.setTop (mkF m 6 #[.val (.double u0), .second, .val (.long u0.toInt64), .second, .unset, .unset, .unset, .unset, .unset, .unset] [(.long u0.toInt64)])) _
    refine X41.ldc2Long hx hown (mvT hZ (hw _ (List.mem_of_getElem? (i := 43) rfl))) (g := (mkF m 6 #[.val (.double u0), .second, .val (.long u0.toInt64), .second, .unset, .unset, .unset, .unset, .unset, .unset] [(.long u0.toInt64)])) rfl (hb hby d5_6) _ ?_
    show Steps p.tables e below (T41.setTop (mkF m 9 #[.val (.double u0), .second, .val (.long u0.toInt64), .second, .unset, .unset, .unset, .unset, .unset, .unset] [(.long (9218868437227405312 : Int64)), (.long u0.toInt64)])) _
    refine XS.land X41.here hx rfl (hb hby d5_9) rfl ?_
    show Steps p.tables e below (T41.setTop (mkF m 10 #[.val (.double u0), .second, .val (.long u0.toInt64), .second, .unset, .unset, .unset, .unset, .unset, .unset] [(.long (u0.toInt64 &&& (9218868437227405312 : Int64)))])) _
    refine XS.bipush X41.here hx rfl (hb hby d5_10) ?_
    show Steps p.tables e below (T41.setTop (mkF m 12 #[.val (.double u0), .second, .val (.long u0.toInt64), .second, .unset, .unset, .unset, .unset, .unset, .unset] [(.int (52 : Int32)), (.long (u0.toInt64 &&& (9218868437227405312 : Int64)))])) _
    refine XS.lshr X41.here hx rfl (hb hby d5_12) rfl ?_
    show Steps p.tables e below (T41.setTop (mkF m 13 #[.val (.double u0), .second, .val (.long u0.toInt64), .second, .unset, .unset, .unset, .unset, .unset, .unset] [(.long ((u0.toInt64 &&& (9218868437227405312 : Int64)) >>> ((52 : Int32) &&& 0x3f).toInt64))])) _
    refine XS.lstore X41.here hx rfl (hb hby d5_13) rfl (l' := #[.val (.double u0), .second, .val (.long u0.toInt64), .second, .val (.long ((u0.toInt64 &&& (9218868437227405312 : Int64)) >>> ((52 : Int32) &&& 0x3f).toInt64)), .second, .unset, .unset, .unset, .unset]) rfl ?_
    show Steps p.tables e below (T41.setTop (mkF m 15 #[.val (.double u0), .second, .val (.long u0.toInt64), .second, .val (.long ((u0.toInt64 &&& (9218868437227405312 : Int64)) >>> ((52 : Int32) &&& 0x3f).toInt64)), .second, .unset, .unset, .unset, .unset] [])) _
    refine X41.ldc2Long hx hown (mvT hZ (hw _ (List.mem_of_getElem? (i := 44) rfl))) (g := (mkF m 15 #[.val (.double u0), .second, .val (.long u0.toInt64), .second, .val (.long ((u0.toInt64 &&& (9218868437227405312 : Int64)) >>> ((52 : Int32) &&& 0x3f).toInt64)), .second, .unset, .unset, .unset, .unset] [])) rfl (hb hby d5_15) _ ?_
    show Steps p.tables e below (T41.setTop (mkF m 18 #[.val (.double u0), .second, .val (.long u0.toInt64), .second, .val (.long ((u0.toInt64 &&& (9218868437227405312 : Int64)) >>> ((52 : Int32) &&& 0x3f).toInt64)), .second, .unset, .unset, .unset, .unset] [(.long (1074 : Int64))])) _
    refine XS.lload X41.here hx rfl (hb hby d5_18) rfl ?_
    show Steps p.tables e below (T41.setTop (mkF m 20 #[.val (.double u0), .second, .val (.long u0.toInt64), .second, .val (.long ((u0.toInt64 &&& (9218868437227405312 : Int64)) >>> ((52 : Int32) &&& 0x3f).toInt64)), .second, .unset, .unset, .unset, .unset] [(.long ((u0.toInt64 &&& (9218868437227405312 : Int64)) >>> ((52 : Int32) &&& 0x3f).toInt64)), (.long (1074 : Int64))])) _
    refine XS.lsub X41.here hx rfl (hb hby d5_20) rfl ?_
    show Steps p.tables e below (T41.setTop (mkF m 21 #[.val (.double u0), .second, .val (.long u0.toInt64), .second, .val (.long ((u0.toInt64 &&& (9218868437227405312 : Int64)) >>> ((52 : Int32) &&& 0x3f).toInt64)), .second, .unset, .unset, .unset, .unset] [(.long ((1074 : Int64) - ((u0.toInt64 &&& (9218868437227405312 : Int64)) >>> ((52 : Int32) &&& 0x3f).toInt64)))])) _
    refine XS.lstore X41.here hx rfl (hb hby d5_21) rfl (l' := #[.val (.double u0), .second, .val (.long u0.toInt64), .second, .val (.long ((u0.toInt64 &&& (9218868437227405312 : Int64)) >>> ((52 : Int32) &&& 0x3f).toInt64)), .second, .val (.long ((1074 : Int64) - ((u0.toInt64 &&& (9218868437227405312 : Int64)) >>> ((52 : Int32) &&& 0x3f).toInt64))), .second, .unset, .unset]) rfl ?_
    show Steps p.tables e below (T41.setTop (mkF m 23 #[.val (.double u0), .second, .val (.long u0.toInt64), .second, .val (.long ((u0.toInt64 &&& (9218868437227405312 : Int64)) >>> ((52 : Int32) &&& 0x3f).toInt64)), .second, .val (.long ((1074 : Int64) - ((u0.toInt64 &&& (9218868437227405312 : Int64)) >>> ((52 : Int32) &&& 0x3f).toInt64))), .second, .unset, .unset] [])) _
    refine XS.lload X41.here hx rfl (hb hby d5_23) rfl ?_
    show Steps p.tables e below (T41.setTop (mkF m 25 #[.val (.double u0), .second, .val (.long u0.toInt64), .second, .val (.long ((u0.toInt64 &&& (9218868437227405312 : Int64)) >>> ((52 : Int32) &&& 0x3f).toInt64)), .second, .val (.long ((1074 : Int64) - ((u0.toInt64 &&& (9218868437227405312 : Int64)) >>> ((52 : Int32) &&& 0x3f).toInt64))), .second, .unset, .unset] [(.long ((1074 : Int64) - ((u0.toInt64 &&& (9218868437227405312 : Int64)) >>> ((52 : Int32) &&& 0x3f).toInt64)))])) _
    refine X41.ldc2Long hx hown (mvT hZ (hw _ (List.mem_of_getElem? (i := 45) rfl))) (g := (mkF m 25 #[.val (.double u0), .second, .val (.long u0.toInt64), .second, .val (.long ((u0.toInt64 &&& (9218868437227405312 : Int64)) >>> ((52 : Int32) &&& 0x3f).toInt64)), .second, .val (.long ((1074 : Int64) - ((u0.toInt64 &&& (9218868437227405312 : Int64)) >>> ((52 : Int32) &&& 0x3f).toInt64))), .second, .unset, .unset] [(.long ((1074 : Int64) - ((u0.toInt64 &&& (9218868437227405312 : Int64)) >>> ((52 : Int32) &&& 0x3f).toInt64)))])) rfl (hb hby d5_25) _ ?_
    show Steps p.tables e below (T41.setTop (mkF m 28 #[.val (.double u0), .second, .val (.long u0.toInt64), .second, .val (.long ((u0.toInt64 &&& (9218868437227405312 : Int64)) >>> ((52 : Int32) &&& 0x3f).toInt64)), .second, .val (.long ((1074 : Int64) - ((u0.toInt64 &&& (9218868437227405312 : Int64)) >>> ((52 : Int32) &&& 0x3f).toInt64))), .second, .unset, .unset] [(.long (-64 : Int64)), (.long ((1074 : Int64) - ((u0.toInt64 &&& (9218868437227405312 : Int64)) >>> ((52 : Int32) &&& 0x3f).toInt64)))])) _
    refine XS.land X41.here hx rfl (hb hby d5_28) rfl ?_
    show Steps p.tables e below (T41.setTop (mkF m 29 #[.val (.double u0), .second, .val (.long u0.toInt64), .second, .val (.long ((u0.toInt64 &&& (9218868437227405312 : Int64)) >>> ((52 : Int32) &&& 0x3f).toInt64)), .second, .val (.long ((1074 : Int64) - ((u0.toInt64 &&& (9218868437227405312 : Int64)) >>> ((52 : Int32) &&& 0x3f).toInt64))), .second, .unset, .unset] [(.long (((1074 : Int64) - ((u0.toInt64 &&& (9218868437227405312 : Int64)) >>> ((52 : Int32) &&& 0x3f).toInt64)) &&& (-64 : Int64)))])) _
    refine XS.lconst X41.here hx rfl (hb hby d5_29) ?_
    show Steps p.tables e below (T41.setTop (mkF m 30 #[.val (.double u0), .second, .val (.long u0.toInt64), .second, .val (.long ((u0.toInt64 &&& (9218868437227405312 : Int64)) >>> ((52 : Int32) &&& 0x3f).toInt64)), .second, .val (.long ((1074 : Int64) - ((u0.toInt64 &&& (9218868437227405312 : Int64)) >>> ((52 : Int32) &&& 0x3f).toInt64))), .second, .unset, .unset] [(.long (0 : Int64)), (.long (((1074 : Int64) - ((u0.toInt64 &&& (9218868437227405312 : Int64)) >>> ((52 : Int32) &&& 0x3f).toInt64)) &&& (-64 : Int64)))])) _
    refine XS.lcmp X41.here hx rfl (hb hby d5_30) rfl ?_
    exact k
  by_cases hc43 : (((1074 : Int64) - ((u0.toInt64 &&& (9218868437227405312 : Int64)) >>> ((52 : Int32) &&& 0x3f).toInt64)) &&& (-64 : Int64)) = (0 : Int64)
  · obtain ⟨fs, hr, hrun, hended, hW, hsame⟩ := X41.leave (v := some (.long (((((u0.toInt64 &&& (4503599627370495 : Int64)) ||| (4503599627370496 : Int64)) >>> ((((1074 : Int64) - ((u0.toInt64 &&& (9218868437227405312 : Int64)) >>> ((52 : Int32) &&& 0x3f).toInt64)).toInt32) &&& 0x3f).toInt64) + (1 : Int64)) >>> ((1 : Int32) &&& 0x3f).toInt64))) (fun h => by rw [Bd.returns] at h; cases h)
    refine ⟨_, _, pre42 _ ?_, hrun, hended, _, _, rfl, ?_, ⟨_, rfl⟩, hW, hsame.mono (by decide) (by decide)⟩
    · show Steps p.tables e below (T41.setTop (mkF m 31 #[.val (.double u0), .second, .val (.long u0.toInt64), .second, .val (.long ((u0.toInt64 &&& (9218868437227405312 : Int64)) >>> ((52 : Int32) &&& 0x3f).toInt64)), .second, .val (.long ((1074 : Int64) - ((u0.toInt64 &&& (9218868437227405312 : Int64)) >>> ((52 : Int32) &&& 0x3f).toInt64))), .second, .unset, .unset] [(.int (lcmpW (((1074 : Int64) - ((u0.toInt64 &&& (9218868437227405312 : Int64)) >>> ((52 : Int32) &&& 0x3f).toInt64)) &&& (-64 : Int64)) (0 : Int64)))])) _
      refine XS.ifNo X41.here hx rfl (hb hby d5_31) rfl ((if0 _ _).trans (teq (((lw_eq (((1074 : Int64) - ((u0.toInt64 &&& (9218868437227405312 : Int64)) >>> ((52 : Int32) &&& 0x3f).toInt64)) &&& (-64 : Int64)) (0 : Int64)).mpr hc43) : (lcmpW (((1074 : Int64) - ((u0.toInt64 &&& (9218868437227405312 : Int64)) >>> ((52 : Int32) &&& 0x3f).toInt64)) &&& (-64 : Int64)) (0 : Int64)) = (0 : Int32))).2) ?_
      show Steps p.tables e below (T41.setTop (mkF m 34 #[.val (.double u0), .second, .val (.long u0.toInt64), .second, .val (.long ((u0.toInt64 &&& (9218868437227405312 : Int64)) >>> ((52 : Int32) &&& 0x3f).toInt64)), .second, .val (.long ((1074 : Int64) - ((u0.toInt64 &&& (9218868437227405312 : Int64)) >>> ((52 : Int32) &&& 0x3f).toInt64))), .second, .unset, .unset] [])) _
      refine XS.lloadN X41.here hx rfl (hb hby d5_34) rfl ?_
      show Steps p.tables e below (T41.setTop (mkF m 35 #[.val (.double u0), .second, .val (.long u0.toInt64), .second, .val (.long ((u0.toInt64 &&& (9218868437227405312 : Int64)) >>> ((52 : Int32) &&& 0x3f).toInt64)), .second, .val (.long ((1074 : Int64) - ((u0.toInt64 &&& (9218868437227405312 : Int64)) >>> ((52 : Int32) &&& 0x3f).toInt64))), .second, .unset, .unset] [(.long u0.toInt64)])) _
      refine X41.ldc2Long hx hown (mvT hZ (hw _ (List.mem_of_getElem? (i := 46) rfl))) (g := (mkF m 35 #[.val (.double u0), .second, .val (.long u0.toInt64), .second, .val (.long ((u0.toInt64 &&& (9218868437227405312 : Int64)) >>> ((52 : Int32) &&& 0x3f).toInt64)), .second, .val (.long ((1074 : Int64) - ((u0.toInt64 &&& (9218868437227405312 : Int64)) >>> ((52 : Int32) &&& 0x3f).toInt64))), .second, .unset, .unset] [(.long u0.toInt64)])) rfl (hb hby d5_35) _ ?_
      show Steps p.tables e below (T41.setTop (mkF m 38 #[.val (.double u0), .second, .val (.long u0.toInt64), .second, .val (.long ((u0.toInt64 &&& (9218868437227405312 : Int64)) >>> ((52 : Int32) &&& 0x3f).toInt64)), .second, .val (.long ((1074 : Int64) - ((u0.toInt64 &&& (9218868437227405312 : Int64)) >>> ((52 : Int32) &&& 0x3f).toInt64))), .second, .unset, .unset] [(.long (4503599627370495 : Int64)), (.long u0.toInt64)])) _
      refine XS.land X41.here hx rfl (hb hby d5_38) rfl ?_
      show Steps p.tables e below (T41.setTop (mkF m 39 #[.val (.double u0), .second, .val (.long u0.toInt64), .second, .val (.long ((u0.toInt64 &&& (9218868437227405312 : Int64)) >>> ((52 : Int32) &&& 0x3f).toInt64)), .second, .val (.long ((1074 : Int64) - ((u0.toInt64 &&& (9218868437227405312 : Int64)) >>> ((52 : Int32) &&& 0x3f).toInt64))), .second, .unset, .unset] [(.long (u0.toInt64 &&& (4503599627370495 : Int64)))])) _
      refine X41.ldc2Long hx hown (mvT hZ (hw _ (List.mem_of_getElem? (i := 47) rfl))) (g := (mkF m 39 #[.val (.double u0), .second, .val (.long u0.toInt64), .second, .val (.long ((u0.toInt64 &&& (9218868437227405312 : Int64)) >>> ((52 : Int32) &&& 0x3f).toInt64)), .second, .val (.long ((1074 : Int64) - ((u0.toInt64 &&& (9218868437227405312 : Int64)) >>> ((52 : Int32) &&& 0x3f).toInt64))), .second, .unset, .unset] [(.long (u0.toInt64 &&& (4503599627370495 : Int64)))])) rfl (hb hby d5_39) _ ?_
      show Steps p.tables e below (T41.setTop (mkF m 42 #[.val (.double u0), .second, .val (.long u0.toInt64), .second, .val (.long ((u0.toInt64 &&& (9218868437227405312 : Int64)) >>> ((52 : Int32) &&& 0x3f).toInt64)), .second, .val (.long ((1074 : Int64) - ((u0.toInt64 &&& (9218868437227405312 : Int64)) >>> ((52 : Int32) &&& 0x3f).toInt64))), .second, .unset, .unset] [(.long (4503599627370496 : Int64)), (.long (u0.toInt64 &&& (4503599627370495 : Int64)))])) _
      refine XS.lor X41.here hx rfl (hb hby d5_42) rfl ?_
      show Steps p.tables e below (T41.setTop (mkF m 43 #[.val (.double u0), .second, .val (.long u0.toInt64), .second, .val (.long ((u0.toInt64 &&& (9218868437227405312 : Int64)) >>> ((52 : Int32) &&& 0x3f).toInt64)), .second, .val (.long ((1074 : Int64) - ((u0.toInt64 &&& (9218868437227405312 : Int64)) >>> ((52 : Int32) &&& 0x3f).toInt64))), .second, .unset, .unset] [(.long ((u0.toInt64 &&& (4503599627370495 : Int64)) ||| (4503599627370496 : Int64)))])) _
      refine XS.lstore X41.here hx rfl (hb hby d5_43) rfl (l' := #[.val (.double u0), .second, .val (.long u0.toInt64), .second, .val (.long ((u0.toInt64 &&& (9218868437227405312 : Int64)) >>> ((52 : Int32) &&& 0x3f).toInt64)), .second, .val (.long ((1074 : Int64) - ((u0.toInt64 &&& (9218868437227405312 : Int64)) >>> ((52 : Int32) &&& 0x3f).toInt64))), .second, .val (.long ((u0.toInt64 &&& (4503599627370495 : Int64)) ||| (4503599627370496 : Int64))), .second]) rfl ?_
      show Steps p.tables e below (T41.setTop (mkF m 45 #[.val (.double u0), .second, .val (.long u0.toInt64), .second, .val (.long ((u0.toInt64 &&& (9218868437227405312 : Int64)) >>> ((52 : Int32) &&& 0x3f).toInt64)), .second, .val (.long ((1074 : Int64) - ((u0.toInt64 &&& (9218868437227405312 : Int64)) >>> ((52 : Int32) &&& 0x3f).toInt64))), .second, .val (.long ((u0.toInt64 &&& (4503599627370495 : Int64)) ||| (4503599627370496 : Int64))), .second] [])) _
      refine XS.lloadN X41.here hx rfl (hb hby d5_45) rfl ?_
      show Steps p.tables e below (T41.setTop (mkF m 46 #[.val (.double u0), .second, .val (.long u0.toInt64), .second, .val (.long ((u0.toInt64 &&& (9218868437227405312 : Int64)) >>> ((52 : Int32) &&& 0x3f).toInt64)), .second, .val (.long ((1074 : Int64) - ((u0.toInt64 &&& (9218868437227405312 : Int64)) >>> ((52 : Int32) &&& 0x3f).toInt64))), .second, .val (.long ((u0.toInt64 &&& (4503599627370495 : Int64)) ||| (4503599627370496 : Int64))), .second] [(.long u0.toInt64)])) _
      refine XS.lconst X41.here hx rfl (hb hby d5_46) ?_
      show Steps p.tables e below (T41.setTop (mkF m 47 #[.val (.double u0), .second, .val (.long u0.toInt64), .second, .val (.long ((u0.toInt64 &&& (9218868437227405312 : Int64)) >>> ((52 : Int32) &&& 0x3f).toInt64)), .second, .val (.long ((1074 : Int64) - ((u0.toInt64 &&& (9218868437227405312 : Int64)) >>> ((52 : Int32) &&& 0x3f).toInt64))), .second, .val (.long ((u0.toInt64 &&& (4503599627370495 : Int64)) ||| (4503599627370496 : Int64))), .second] [(.long (0 : Int64)), (.long u0.toInt64)])) _
      refine XS.lcmp X41.here hx rfl (hb hby d5_47) rfl ?_
      show Steps p.tables e below (T41.setTop (mkF m 48 #[.val (.double u0), .second, .val (.long u0.toInt64), .second, .val (.long ((u0.toInt64 &&& (9218868437227405312 : Int64)) >>> ((52 : Int32) &&& 0x3f).toInt64)), .second, .val (.long ((1074 : Int64) - ((u0.toInt64 &&& (9218868437227405312 : Int64)) >>> ((52 : Int32) &&& 0x3f).toInt64))), .second, .val (.long ((u0.toInt64 &&& (4503599627370495 : Int64)) ||| (4503599627370496 : Int64))), .second] [(.int (lcmpW u0.toInt64 (0 : Int64)))])) _
      refine XS.ifYes X41.here hx rfl (pc0 := 48) (pc' := 56) rfl (hb hby d5_48) rfl ((if0 _ _).trans (flt ((fun k => hrn.1 ((lw_lt u0.toInt64 (0 : Int64)).mp k)) : ¬ ((lcmpW u0.toInt64 (0 : Int64)) < (0 : Int32)))).2.1) (by decide) (by decide) ?_
      show Steps p.tables e below (T41.setTop (mkF m 56 #[.val (.double u0), .second, .val (.long u0.toInt64), .second, .val (.long ((u0.toInt64 &&& (9218868437227405312 : Int64)) >>> ((52 : Int32) &&& 0x3f).toInt64)), .second, .val (.long ((1074 : Int64) - ((u0.toInt64 &&& (9218868437227405312 : Int64)) >>> ((52 : Int32) &&& 0x3f).toInt64))), .second, .val (.long ((u0.toInt64 &&& (4503599627370495 : Int64)) ||| (4503599627370496 : Int64))), .second] [])) _
      refine XS.lload X41.here hx rfl (hb hby d5_56) rfl ?_
      show Steps p.tables e below (T41.setTop (mkF m 58 #[.val (.double u0), .second, .val (.long u0.toInt64), .second, .val (.long ((u0.toInt64 &&& (9218868437227405312 : Int64)) >>> ((52 : Int32) &&& 0x3f).toInt64)), .second, .val (.long ((1074 : Int64) - ((u0.toInt64 &&& (9218868437227405312 : Int64)) >>> ((52 : Int32) &&& 0x3f).toInt64))), .second, .val (.long ((u0.toInt64 &&& (4503599627370495 : Int64)) ||| (4503599627370496 : Int64))), .second] [(.long ((u0.toInt64 &&& (4503599627370495 : Int64)) ||| (4503599627370496 : Int64)))])) _
      refine XS.lload X41.here hx rfl (hb hby d5_58) rfl ?_
      show Steps p.tables e below (T41.setTop (mkF m 60 #[.val (.double u0), .second, .val (.long u0.toInt64), .second, .val (.long ((u0.toInt64 &&& (9218868437227405312 : Int64)) >>> ((52 : Int32) &&& 0x3f).toInt64)), .second, .val (.long ((1074 : Int64) - ((u0.toInt64 &&& (9218868437227405312 : Int64)) >>> ((52 : Int32) &&& 0x3f).toInt64))), .second, .val (.long ((u0.toInt64 &&& (4503599627370495 : Int64)) ||| (4503599627370496 : Int64))), .second] [(.long ((1074 : Int64) - ((u0.toInt64 &&& (9218868437227405312 : Int64)) >>> ((52 : Int32) &&& 0x3f).toInt64))), (.long ((u0.toInt64 &&& (4503599627370495 : Int64)) ||| (4503599627370496 : Int64)))])) _
      refine XS.l2i X41.here hx rfl (hb hby d5_60) rfl ?_
      show Steps p.tables e below (T41.setTop (mkF m 61 #[.val (.double u0), .second, .val (.long u0.toInt64), .second, .val (.long ((u0.toInt64 &&& (9218868437227405312 : Int64)) >>> ((52 : Int32) &&& 0x3f).toInt64)), .second, .val (.long ((1074 : Int64) - ((u0.toInt64 &&& (9218868437227405312 : Int64)) >>> ((52 : Int32) &&& 0x3f).toInt64))), .second, .val (.long ((u0.toInt64 &&& (4503599627370495 : Int64)) ||| (4503599627370496 : Int64))), .second] [(.int (((1074 : Int64) - ((u0.toInt64 &&& (9218868437227405312 : Int64)) >>> ((52 : Int32) &&& 0x3f).toInt64)).toInt32)), (.long ((u0.toInt64 &&& (4503599627370495 : Int64)) ||| (4503599627370496 : Int64)))])) _
      refine XS.lshr X41.here hx rfl (hb hby d5_61) rfl ?_
      show Steps p.tables e below (T41.setTop (mkF m 62 #[.val (.double u0), .second, .val (.long u0.toInt64), .second, .val (.long ((u0.toInt64 &&& (9218868437227405312 : Int64)) >>> ((52 : Int32) &&& 0x3f).toInt64)), .second, .val (.long ((1074 : Int64) - ((u0.toInt64 &&& (9218868437227405312 : Int64)) >>> ((52 : Int32) &&& 0x3f).toInt64))), .second, .val (.long ((u0.toInt64 &&& (4503599627370495 : Int64)) ||| (4503599627370496 : Int64))), .second] [(.long (((u0.toInt64 &&& (4503599627370495 : Int64)) ||| (4503599627370496 : Int64)) >>> ((((1074 : Int64) - ((u0.toInt64 &&& (9218868437227405312 : Int64)) >>> ((52 : Int32) &&& 0x3f).toInt64)).toInt32) &&& 0x3f).toInt64))])) _
      refine XS.lconst X41.here hx rfl (hb hby d5_62) ?_
      show Steps p.tables e below (T41.setTop (mkF m 63 #[.val (.double u0), .second, .val (.long u0.toInt64), .second, .val (.long ((u0.toInt64 &&& (9218868437227405312 : Int64)) >>> ((52 : Int32) &&& 0x3f).toInt64)), .second, .val (.long ((1074 : Int64) - ((u0.toInt64 &&& (9218868437227405312 : Int64)) >>> ((52 : Int32) &&& 0x3f).toInt64))), .second, .val (.long ((u0.toInt64 &&& (4503599627370495 : Int64)) ||| (4503599627370496 : Int64))), .second] [(.long (1 : Int64)), (.long (((u0.toInt64 &&& (4503599627370495 : Int64)) ||| (4503599627370496 : Int64)) >>> ((((1074 : Int64) - ((u0.toInt64 &&& (9218868437227405312 : Int64)) >>> ((52 : Int32) &&& 0x3f).toInt64)).toInt32) &&& 0x3f).toInt64))])) _
      refine XS.ladd X41.here hx rfl (hb hby d5_63) rfl ?_
      show Steps p.tables e below (T41.setTop (mkF m 64 #[.val (.double u0), .second, .val (.long u0.toInt64), .second, .val (.long ((u0.toInt64 &&& (9218868437227405312 : Int64)) >>> ((52 : Int32) &&& 0x3f).toInt64)), .second, .val (.long ((1074 : Int64) - ((u0.toInt64 &&& (9218868437227405312 : Int64)) >>> ((52 : Int32) &&& 0x3f).toInt64))), .second, .val (.long ((u0.toInt64 &&& (4503599627370495 : Int64)) ||| (4503599627370496 : Int64))), .second] [(.long ((((u0.toInt64 &&& (4503599627370495 : Int64)) ||| (4503599627370496 : Int64)) >>> ((((1074 : Int64) - ((u0.toInt64 &&& (9218868437227405312 : Int64)) >>> ((52 : Int32) &&& 0x3f).toInt64)).toInt32) &&& 0x3f).toInt64) + (1 : Int64)))])) _
      refine XS.iconst X41.here hx rfl (hb hby d5_64) ?_
      show Steps p.tables e below (T41.setTop (mkF m 65 #[.val (.double u0), .second, .val (.long u0.toInt64), .second, .val (.long ((u0.toInt64 &&& (9218868437227405312 : Int64)) >>> ((52 : Int32) &&& 0x3f).toInt64)), .second, .val (.long ((1074 : Int64) - ((u0.toInt64 &&& (9218868437227405312 : Int64)) >>> ((52 : Int32) &&& 0x3f).toInt64))), .second, .val (.long ((u0.toInt64 &&& (4503599627370495 : Int64)) ||| (4503599627370496 : Int64))), .second] [(.int (1 : Int32)), (.long ((((u0.toInt64 &&& (4503599627370495 : Int64)) ||| (4503599627370496 : Int64)) >>> ((((1074 : Int64) - ((u0.toInt64 &&& (9218868437227405312 : Int64)) >>> ((52 : Int32) &&& 0x3f).toInt64)).toInt32) &&& 0x3f).toInt64) + (1 : Int64)))])) _
      refine XS.lshr X41.here hx rfl (hb hby d5_65) rfl ?_
      show Steps p.tables e below (T41.setTop (mkF m 66 #[.val (.double u0), .second, .val (.long u0.toInt64), .second, .val (.long ((u0.toInt64 &&& (9218868437227405312 : Int64)) >>> ((52 : Int32) &&& 0x3f).toInt64)), .second, .val (.long ((1074 : Int64) - ((u0.toInt64 &&& (9218868437227405312 : Int64)) >>> ((52 : Int32) &&& 0x3f).toInt64))), .second, .val (.long ((u0.toInt64 &&& (4503599627370495 : Int64)) ||| (4503599627370496 : Int64))), .second] [(.long (((((u0.toInt64 &&& (4503599627370495 : Int64)) ||| (4503599627370496 : Int64)) >>> ((((1074 : Int64) - ((u0.toInt64 &&& (9218868437227405312 : Int64)) >>> ((52 : Int32) &&& 0x3f).toInt64)).toInt32) &&& 0x3f).toInt64) + (1 : Int64)) >>> ((1 : Int32) &&& 0x3f).toInt64))])) _
      exact X41.lreturnOut hx Bd.returns (hb hby d5_66) hr
    · show QrmRnd Z u0 R h0 n0 _ T41.heap _
      rw [e41]
      exact ⟨(congrArg (fun x => some (Value.long x)) (hrn.2.1 hc43)), N0, rfl⟩
  · obtain ⟨fs, hr, hrun, hended, hW, hsame⟩ := X41.leave (v := some (.long (FP.d2l u0))) (fun h => by rw [Bd.returns] at h; cases h)
    refine ⟨_, _, pre42 _ ?_, hrun, hended, _, _, rfl, ?_, ⟨_, rfl⟩, hW, hsame.mono (by decide) (by decide)⟩
    · show Steps p.tables e below (T41.setTop (mkF m 31 #[.val (.double u0), .second, .val (.long u0.toInt64), .second, .val (.long ((u0.toInt64 &&& (9218868437227405312 : Int64)) >>> ((52 : Int32) &&& 0x3f).toInt64)), .second, .val (.long ((1074 : Int64) - ((u0.toInt64 &&& (9218868437227405312 : Int64)) >>> ((52 : Int32) &&& 0x3f).toInt64))), .second, .unset, .unset] [(.int (lcmpW (((1074 : Int64) - ((u0.toInt64 &&& (9218868437227405312 : Int64)) >>> ((52 : Int32) &&& 0x3f).toInt64)) &&& (-64 : Int64)) (0 : Int64)))])) _
      refine XS.ifYes X41.here hx rfl (pc0 := 31) (pc' := 67) rfl (hb hby d5_31) rfl ((if0 _ _).trans (feq ((fun k => hc43 ((lw_eq (((1074 : Int64) - ((u0.toInt64 &&& (9218868437227405312 : Int64)) >>> ((52 : Int32) &&& 0x3f).toInt64)) &&& (-64 : Int64)) (0 : Int64)).mp k)) : ¬ ((lcmpW (((1074 : Int64) - ((u0.toInt64 &&& (9218868437227405312 : Int64)) >>> ((52 : Int32) &&& 0x3f).toInt64)) &&& (-64 : Int64)) (0 : Int64)) = (0 : Int32)))).2) (by decide) (by decide) ?_
      show Steps p.tables e below (T41.setTop (mkF m 67 #[.val (.double u0), .second, .val (.long u0.toInt64), .second, .val (.long ((u0.toInt64 &&& (9218868437227405312 : Int64)) >>> ((52 : Int32) &&& 0x3f).toInt64)), .second, .val (.long ((1074 : Int64) - ((u0.toInt64 &&& (9218868437227405312 : Int64)) >>> ((52 : Int32) &&& 0x3f).toInt64))), .second, .unset, .unset] [])) _
      refine XS.dloadN X41.here hx rfl (hb hby d5_67) rfl ?_
      show Steps p.tables e below (T41.setTop (mkF m 68 #[.val (.double u0), .second, .val (.long u0.toInt64), .second, .val (.long ((u0.toInt64 &&& (9218868437227405312 : Int64)) >>> ((52 : Int32) &&& 0x3f).toInt64)), .second, .val (.long ((1074 : Int64) - ((u0.toInt64 &&& (9218868437227405312 : Int64)) >>> ((52 : Int32) &&& 0x3f).toInt64))), .second, .unset, .unset] [(.double u0)])) _
      refine XS.d2lS X41.here hx rfl (hb hby d5_68) rfl rfl ?_
      show Steps p.tables e below (T41.setTop (mkF m 69 #[.val (.double u0), .second, .val (.long u0.toInt64), .second, .val (.long ((u0.toInt64 &&& (9218868437227405312 : Int64)) >>> ((52 : Int32) &&& 0x3f).toInt64)), .second, .val (.long ((1074 : Int64) - ((u0.toInt64 &&& (9218868437227405312 : Int64)) >>> ((52 : Int32) &&& 0x3f).toInt64))), .second, .unset, .unset] [(.long (FP.d2l u0))])) _
      exact X41.lreturnOut hx Bd.returns (hb hby d5_69) hr
    · show QrmRnd Z u0 R h0 n0 _ T41.heap _
      rw [e41]
      exact ⟨(congrArg (fun x => some (Value.long x)) (hrn.2.2 hc43)), N0, rfl⟩
theorem d4_0 : decode prog_6_method_2_code 0 = .ok (.aload_n 0, 1) := by decide +kernel
theorem d4_1 : decode prog_6_method_2_code 1 = .ok (.getfield 7, 3) := by decide +kernel
theorem d4_4 : decode prog_6_method_2_code 4 = .ok (.l2d, 1) := by decide +kernel
theorem d4_5 : decode prog_6_method_2_code 5 = .ok (.ldc2_w 29, 3) := by decide +kernel
theorem d4_8 : decode prog_6_method_2_code 8 = .ok (.dmul, 1) := by decide +kernel
theorem d4_9 : decode prog_6_method_2_code 9 = .ok (.aload_n 0, 1) := by decide +kernel
theorem d4_10 : decode prog_6_method_2_code 10 = .ok (.getfield 22, 3) := by decide +kernel
theorem d4_13 : decode prog_6_method_2_code 13 = .ok (.l2d, 1) := by decide +kernel
theorem d4_14 : decode prog_6_method_2_code 14 = .ok (.ddiv, 1) := by decide +kernel
theorem d4_15 : decode prog_6_method_2_code 15 = .ok (.invokestatic 31, 3) := by decide +kernel
theorem pd_1 : parseMethodDescriptor "(D)J" = some ⟨[.double], some .long⟩ := by decide +kernel
theorem d4_18 : decode prog_6_method_2_code 18 = .ok (.lreturn, 1) := by decide +kernel
theorem ef_rmPer (m : MethodId) (o0 : Addr) : entryFrame m #[(.ref o0)] 1 = mkF m 0 #[.val (.ref o0)] [] := by first | (simp [entryFrame, mkF, argsToLocals, Value.category]; done) | rfl
def QrmPer (Z : State) (o0 : Addr) (dd : Int64) (nn : Int64) (R : Int64) (h0 : Heap) (n0 : Nat) (v : Option Value) (h : Heap) (L : List Loc) : Prop := v = some (.long R) ∧ Fr n0 L ∧ h = h0
set_option maxRecDepth 65536 in
set_option maxHeartbeats 40000000 in
theorem rmPer (l : Launch) (Z : State) (a0 : Array Value) (hw : ∀ d ∈ tables_1, d.before a0 Z = true) (ws : List Jvm.Cond) (o0 : Addr) (dd : Int64) (nn : Int64) (R : Int64) (h0 : Heap) (n0 : Nat) (Z0 : n0 ≤ h0.size) (H0 : Exa Z h0 o0 "com/example/klepsydra/bench/Run") (H1 : Fld Z h0 o0 "com/example/klepsydra/bench/Run" "decisions" "J" (.long dd)) (H2 : Fld Z h0 o0 "com/example/klepsydra/bench/Run" "nanos" "J" (.long nn)) (n1 : Jvm.Free.Fl.NoNaN64 (FP.dmul (FP.l2d dd) (4741671816366391296 : UInt64))) (n2 : Jvm.Free.Fl.NoNaN64 (FP.ddiv (FP.dmul (FP.l2d dd) (4741671816366391296 : UInt64)) (FP.l2d nn))) (hrn : own_rnd (FP.ddiv (FP.dmul (FP.l2d dd) (4741671816366391296 : UInt64)) (FP.l2d nn)) R) :
    MetFree l (⟨"com/example/klepsydra/bench/Run", "perSecond", "()J"⟩ : MethodName) (head1 (Jvm.Cond.code (⟨"com/example/klepsydra/bench/Run", "perSecond", "()J"⟩ : MethodName) prog_6_method_2_code 1 (some .long) :: ws) ({ frames := 2, cells := 0, slots := 0, locals := 51 } : Room)) (fun a U => a = #[(.ref o0)] ∧ Z.Warmed39 U.vm ∧ U.heap = h0) (fun _ _ _ _ _ => True) (fun _ U o U' => ∃ v L, o = .returned v ∧ QrmPer Z o0 dd nn R h0 n0 v U'.heap L ∧ FrameEnd U o U' L ({ frames := 2, cells := 0, slots := 0, locals := 51 } : Room).cells ({ frames := 2, cells := 0, slots := 0, locals := 51 } : Room).slots) := by
  refine MetFree.of_bodySF (plainFor_of_name pn_1) hisR ?_
  intro p e s m args below meth c s₁ Bd hml0 hP hK
  obtain ⟨rfl, hZ, hh⟩ := hP
  have hx := Bd.exec
  have hby := Bd.bytes
  have hml : c.maxLocals = 1 := hml0
  have hown : s.vm.findClass "com/example/klepsydra/bench/Run" = some m.cls := findClass_of_methodNamed Bd.named
  have hnm := (name_of_methodNamed Bd.named Bd.method).1
  have X0 : Stand p l e ({ frames := 2, cells := 0, slots := 0, locals := 51 } : Room) s m #[(.ref o0)] below meth c s₁ [] 0 0 := Stand.of_body Bd
  have e0 : s₁.heap = h0 := by rw [← hh, Bd.state]; rfl
  have N0 := Fr.nil n0
  have pre0 : ∀ t, Steps p.tables e below (s₁.setTop (mkF m 0 #[.val (.ref o0)] [])) t → Steps p.tables e below (s₁.setTop (entryFrame m #[(.ref o0)] 1)) t := fun t k => castTop (ef_rmPer m o0) k
  have z44 : @LT.lt Nat _ o0 (Array.size h0) := H0.lt
  have z45 : @LT.lt Nat _ o0 (Array.size h0) := H1.lt
  have z46 : @LT.lt Nat _ o0 (Array.size h0) := H2.lt
  have KC0 : Keep h0 h0 [] := Keep.refl _ _
  obtain ⟨T47, X47, e47, st47⟩ := getF X0 hx hZ hown (host := "") (Or.inl (hw _ (List.mem_of_getElem? (i := 17) rfl))) Via.refl e0 H1 (g := (mkF m 1 #[.val (.ref o0)] [(.ref o0)])) rfl rfl (hb hby d4_1)
  obtain ⟨T48, X48, e48, st48⟩ := getF X47 hx hZ hown (host := "") (Or.inl (hw _ (List.mem_of_getElem? (i := 25) rfl))) Via.refl e47 H2 (g := (mkF m 10 #[.val (.ref o0)] [(.ref o0), (.double (FP.dmul (FP.l2d dd) (4741671816366391296 : UInt64)))])) rfl rfl (hb hby d4_10)
  obtain ⟨_, _, ⟨T49, L49, k49, n49⟩, -, X49, ⟨Lc49, hQ49, l49, y49, z49⟩, st49⟩ := Jvm.LawKit.callS X48 hx (y := (⟨"java/lang/Math", "round", "(D)J"⟩ : MethodName)) hown (mvT hZ (hw _ (List.mem_of_getElem? (i := 35) rfl))) (mvT hZ (hw _ (List.mem_of_getElem? (i := 36) rfl))) (mvT hZ (hw _ (List.mem_of_getElem? (i := 37) rfl))) (mvT hZ (hw _ (List.mem_of_getElem? (i := 38) rfl))) (by decide) (backOf (W := 0) (rmRnd l Z a0 hw [] (FP.ddiv (FP.dmul (FP.l2d dd) (4741671816366391296 : UInt64)) (FP.l2d nn)) R h0 n0 (by omega) (hrn : own_rnd (FP.ddiv (FP.dmul (FP.l2d dd) (4741671816366391296 : UInt64)) (FP.l2d nn)) R)) hZ (hw _ (List.mem_of_getElem? (i := 38) rfl)) (hw _ (List.mem_of_getElem? (i := 37) rfl)) (by decide) (by decide)) (g := (mkF m 15 #[.val (.ref o0)] [(.double (FP.ddiv (FP.dmul (FP.l2d dd) (4741671816366391296 : UInt64)) (FP.l2d nn)))])) rfl (by rw [hml]; rfl) (argsL := [(.double (FP.ddiv (FP.dmul (FP.l2d dd) (4741671816366391296 : UInt64)) (FP.l2d nn)))]) (rest := []) (lenOf pd_1 rfl) rfl (by show 2 * 0 + _ ≤ _; exact Nat.le_of_eq rfl) (hb hby d4_15) (fun _ _ => ⟨rfl, e48, (by decide : 0 + 0 ≤ _), (by decide : 0 + 0 ≤ _)⟩)
  dsimp only [Pt.U, Pt.locs, Pt.cells, Pt.slots] at X49 l49 y49 z49 st49 hQ49
  subst l49 y49 z49
  obtain ⟨rfl, N49q, e49⟩ := hQ49
  have N49 := Fr.app N0 N49q
  obtain ⟨fs, hr, hrun, hended, hW, hsame⟩ := X49.leave (v := some (.long R)) (fun h => by rw [Bd.returns] at h; cases h)
  refine ⟨_, _, pre0 _ ?_, hrun, hended, _, _, rfl, ?_, ⟨_, rfl⟩, hW, hsame.mono (by decide) (by decide)⟩
  · show Steps p.tables e below (s₁.setTop (mkF m 0 #[.val (.ref o0)] [])) _
    refine XS.aloadN X0.here hx rfl (hb hby d4_0) rfl rfl ?_
    show Steps p.tables e below (s₁.setTop (mkF m 1 #[.val (.ref o0)] [(.ref o0)])) _
    refine st47 _ ?_
    show Steps p.tables e below (T47.setTop (mkF m 4 #[.val (.ref o0)] [(.long dd)])) _
    refine XS.l2dS X47.here hx rfl (hb hby d4_4) rfl rfl ?_
    show Steps p.tables e below (T47.setTop (mkF m 5 #[.val (.ref o0)] [(.double (FP.l2d dd))])) _
    refine X47.ldc2DoubleC hx hown (mvT hZ (hw _ (List.mem_of_getElem? (i := 34) rfl))) (g := (mkF m 5 #[.val (.ref o0)] [(.double (FP.l2d dd))])) rfl (hb hby d4_5) _ ?_
    show Steps p.tables e below (T47.setTop (mkF m 8 #[.val (.ref o0)] [(.double (4741671816366391296 : UInt64)), (.double (FP.l2d dd))])) _
    refine XS.dmulS X47.here hx rfl (hb hby d4_8) rfl n1 rfl ?_
    show Steps p.tables e below (T47.setTop (mkF m 9 #[.val (.ref o0)] [(.double (FP.dmul (FP.l2d dd) (4741671816366391296 : UInt64)))])) _
    refine XS.aloadN X47.here hx rfl (hb hby d4_9) rfl rfl ?_
    show Steps p.tables e below (T47.setTop (mkF m 10 #[.val (.ref o0)] [(.ref o0), (.double (FP.dmul (FP.l2d dd) (4741671816366391296 : UInt64)))])) _
    refine st48 _ ?_
    show Steps p.tables e below (T48.setTop (mkF m 13 #[.val (.ref o0)] [(.long nn), (.double (FP.dmul (FP.l2d dd) (4741671816366391296 : UInt64)))])) _
    refine XS.l2dS X48.here hx rfl (hb hby d4_13) rfl rfl ?_
    show Steps p.tables e below (T48.setTop (mkF m 14 #[.val (.ref o0)] [(.double (FP.l2d nn)), (.double (FP.dmul (FP.l2d dd) (4741671816366391296 : UInt64)))])) _
    refine XS.ddivS X48.here hx rfl (hb hby d4_14) rfl n2 rfl ?_
    show Steps p.tables e below (T48.setTop (mkF m 15 #[.val (.ref o0)] [(.double (FP.ddiv (FP.dmul (FP.l2d dd) (4741671816366391296 : UInt64)) (FP.l2d nn)))])) _
    refine st49 _ ?_
    show Steps p.tables e below (T49.setTop (mkF m 18 #[.val (.ref o0)] [(.long R)])) _
    exact X49.lreturnOut hx Bd.returns (hb hby d4_18) hr
  · show QrmPer Z o0 dd nn R h0 n0 _ T49.heap _
    rw [e49]
    exact ⟨rfl, N49, rfl⟩
theorem own_d (x : Int64) : 0 ≤ (x &&& (4194303 : Int64)).toInt ∧ (x &&& (4194303 : Int64)).toInt < 4194304 := by
  have e : (x &&& (4194303 : Int64)) = Int64.ofNat (x.toBitVec.toNat &&& 4194303) := by
    apply Int64.toBitVec_inj.mp
    show x.toBitVec &&& BitVec.ofNat 64 4194303 = BitVec.ofNat 64 (x.toBitVec.toNat &&& 4194303)
    rw [BitVec.ofNat_and, BitVec.ofNat_toNat]; simp
  have h : x.toBitVec.toNat &&& 4194303 ≤ 4194303 := Nat.and_le_right
  rw [e, own_oN (by omega)]; omega
theorem own_n (x : Int64) : 1 ≤ ((x &&& (4503599627370495 : Int64)) + (1 : Int64)).toInt ∧ ((x &&& (4503599627370495 : Int64)) + (1 : Int64)).toInt ≤ 4503599627370496 := by
  have e : (x &&& (4503599627370495 : Int64)) = Int64.ofNat (x.toBitVec.toNat &&& 4503599627370495) := by
    apply Int64.toBitVec_inj.mp
    show x.toBitVec &&& BitVec.ofNat 64 4503599627370495 = BitVec.ofNat 64 (x.toBitVec.toNat &&& 4503599627370495)
    rw [BitVec.ofNat_and, BitVec.ofNat_toNat]; simp
  have h : x.toBitVec.toNat &&& 4503599627370495 ≤ 4503599627370495 := Nat.and_le_right
  rw [e, own_ad _ 1 _ 1 (own_oN (by omega)) rfl (by omega)]; omega
theorem pd_2 : parseMethodDescriptor "(JJJJJ[J)V" = some ⟨[.long, .long, .long, .long, .long, (.array .long)], none⟩ := by decide +kernel
theorem pd_3 : parseMethodDescriptor "()J" = some ⟨[], some .long⟩ := by decide +kernel
theorem pn_0 : plainName "com/example/klepsydra/bench/RunPerSecondPinLaw" = true := by first | (simp [plainName, overriddenIn]; done) | decide +kernel
theorem ef_rm0 (m : MethodId) (q0 : Int64) (q1 : Int64) (q2 : Int64) (q3 : Int64) (q4 : Int64) : entryFrame m #[(.long q0), (.long q1), (.long q2), (.long q3), (.long q4)] maxLocals = mkF m 0 #[.val (.long q0), .second, .val (.long q1), .second, .val (.long q2), .second, .val (.long q3), .second, .val (.long q4), .second, .unset, .unset, .unset, .unset, .unset, .unset, .unset, .unset, .unset, .unset, .unset] [] := by first | (simp [entryFrame, mkF, argsToLocals, Value.category, maxLocals]; done) | rfl
def Qrm0 (Z : State) (q0 : Int64) (q1 : Int64) (q2 : Int64) (q3 : Int64) (q4 : Int64) (h0 : Heap) (n0 : Nat) (v : Option Value) (h : Heap) (L : List Loc) : Prop := v = some (.int (1 : Int32)) ∧ Fr n0 L ∧ Keep h0 h []
set_option maxRecDepth 65536 in
set_option maxHeartbeats 40000000 in
theorem rm0 (l : Launch) (Z : State) (a0 : Array Value) (hw : ∀ d ∈ tables_1, d.before a0 Z = true) (ws : List Jvm.Cond) (q0 : Int64) (q1 : Int64) (q2 : Int64) (q3 : Int64) (q4 : Int64) (h0 : Heap) (n0 : Nat) (Z0 : n0 ≤ h0.size) :
    MetFree l x (head1 (Jvm.Cond.code x code maxLocals ret :: ws) room_1) (fun a U => a = #[(.long q0), (.long q1), (.long q2), (.long q3), (.long q4)] ∧ Z.Warmed39 U.vm ∧ U.heap = h0) (fun _ _ _ _ _ => True) (fun _ U o U' => ∃ v L, o = .returned v ∧ Qrm0 Z q0 q1 q2 q3 q4 h0 n0 v U'.heap L ∧ FrameEnd U o U' L room_1.cells room_1.slots) := by
  refine MetFree.of_bodySF (plainFor_of_name pn_0) hisR ?_
  intro p e s m args below meth c s₁ Bd hml0 hP hK
  obtain ⟨rfl, hZ, hh⟩ := hP
  have hx := Bd.exec
  have hby := Bd.bytes
  have hml : c.maxLocals = 21 := hml0
  have hown : s.vm.findClass "com/example/klepsydra/bench/RunPerSecondPinLaw" = some m.cls := findClass_of_methodNamed Bd.named
  have hnm := (name_of_methodNamed Bd.named Bd.method).1
  have X0 : Stand p l e room_1 s m #[(.long q0), (.long q1), (.long q2), (.long q3), (.long q4)] below meth c s₁ [] 0 0 := Stand.of_body Bd
  have e0 : s₁.heap = h0 := by rw [← hh, Bd.state]; rfl
  have N0 := Fr.nil n0
  have pre0 : ∀ t, Steps p.tables e below (s₁.setTop (mkF m 0 #[.val (.long q0), .second, .val (.long q1), .second, .val (.long q2), .second, .val (.long q3), .second, .val (.long q4), .second, .unset, .unset, .unset, .unset, .unset, .unset, .unset, .unset, .unset, .unset, .unset] [])) t → Steps p.tables e below (s₁.setTop (entryFrame m #[(.long q0), (.long q1), (.long q2), (.long q3), (.long q4)] maxLocals)) t := fun t k => castTop (ef_rm0 m q0 q1 q2 q3 q4) k
  have KC0 : Keep h0 h0 [] := Keep.refl _ _
  obtain ⟨T50, h50, X50, e50, E50, A50, D50, -, st50⟩ := newO X0 hx hZ hown (hw _ (List.mem_of_getElem? (i := 2) rfl)) (hw _ (List.mem_of_getElem? (i := 3) rfl)) (hw _ (List.mem_of_getElem? (i := 4) rfl)) e0 (g := (mkF m 16 #[.val (.long q0), .second, .val (.long q1), .second, .val (.long q2), .second, .val (.long q3), .second, .val (.long q4), .second, .val (.long (q0 &&& (4194303 : Int64))), .second, .val (.long ((q1 &&& (4503599627370495 : Int64)) + (1 : Int64))), .second, .unset, .unset, .unset, .unset, .unset, .unset, .unset] [])) rfl (hb hby at_16) (by decide) (by decide)
  obtain ⟨b50, g50⟩ : ∃ z, z = h0.size := ⟨_, rfl⟩
  rw [← g50] at A50 D50 st50
  have z51 := E50.1
  have KC52 : Keep h0 h50 [] := KC0.ext E50
  have z53 : @LT.lt Nat _ b50 (Array.size h50) := A50.lt
  have F50_decisions : Fld Z h50 b50 "com/example/klepsydra/bench/Run" "decisions" "J" (.long (0 : Int64)) := D50 (Or.inr (hw _ (List.mem_of_getElem? (i := 18) rfl))) (ty := .long) (by decide)
  have F50_refused : Fld Z h50 b50 "com/example/klepsydra/bench/Run" "refused" "J" (.long (0 : Int64)) := D50 (Or.inr (hw _ (List.mem_of_getElem? (i := 20) rfl))) (ty := .long) (by decide)
  have F50_degraded : Fld Z h50 b50 "com/example/klepsydra/bench/Run" "degraded" "J" (.long (0 : Int64)) := D50 (Or.inr (hw _ (List.mem_of_getElem? (i := 22) rfl))) (ty := .long) (by decide)
  have F50_failed : Fld Z h50 b50 "com/example/klepsydra/bench/Run" "failed" "J" (.long (0 : Int64)) := D50 (Or.inr (hw _ (List.mem_of_getElem? (i := 24) rfl))) (ty := .long) (by decide)
  have F50_nanos : Fld Z h50 b50 "com/example/klepsydra/bench/Run" "nanos" "J" (.long (0 : Int64)) := D50 (Or.inr (hw _ (List.mem_of_getElem? (i := 26) rfl))) (ty := .long) (by decide)
  have F50_latencies : Fld Z h50 b50 "com/example/klepsydra/bench/Run" "latencies" "[J" .null := D50 (Or.inr (hw _ (List.mem_of_getElem? (i := 28) rfl))) (ty := (.array .long)) (by decide)
  obtain ⟨T54, h54, k54, X54, e54, E54, A54, st54⟩ := newP X50 hx hZ (hw _ (List.mem_of_getElem? (i := 5) rfl)) e50 (g := (mkF m 31 #[.val (.long q0), .second, .val (.long q1), .second, .val (.long q2), .second, .val (.long q3), .second, .val (.long q4), .second, .val (.long (q0 &&& (4194303 : Int64))), .second, .val (.long ((q1 &&& (4503599627370495 : Int64)) + (1 : Int64))), .second, .unset, .unset, .unset, .unset, .unset, .unset, .unset] [(.int (0 : Int32)), (.long ((q1 &&& (4503599627370495 : Int64)) + (1 : Int64))), (.long q4), (.long q3), (.long q2), (.long (q0 &&& (4194303 : Int64))), (.ref b50), (.ref b50)])) rfl (hb hby at_31) rfl (by decide) (cap := 0) (by decide) (by decide) (by decide) (by decide)
  obtain ⟨b54, g54⟩ : ∃ z, z = h50.size := ⟨_, rfl⟩
  rw [← g54] at A54 st54
  have z55 := E54.1
  have KC56 : Keep h0 h54 [] := KC52.ext E54
  have V54 : Arv Z h54 b54 k54 .long (0 : Int32) [] (.long (0 : Int64)) := (Arv.new A54 (by decide)).pad (pad_rep [] (.long (0 : Int64)) 0)
  have z57 : @LT.lt Nat _ b54 (Array.size h54) := V54.lt
  have Fc58 := (A50.ext E54)
  have Fc59 := (F50_decisions.ext E54)
  have Fc60 := (F50_refused.ext E54)
  have Fc61 := (F50_degraded.ext E54)
  have Fc62 := (F50_failed.ext E54)
  have Fc63 := (F50_nanos.ext E54)
  have Fc64 := (F50_latencies.ext E54)
  obtain ⟨_, _, ⟨T65, L65, k65, n65⟩, -, X65, ⟨Lc65, hQ65, l65, y65, z65⟩, st65⟩ := X54.specialBack hx (y := (⟨"com/example/klepsydra/bench/Run", "<init>", "(JJJJJ[J)V"⟩ : MethodName)) rfl hown (mvT hZ (hw _ (List.mem_of_getElem? (i := 6) rfl))) (mvT hZ (hw _ (List.mem_of_getElem? (i := 7) rfl))) (mvT hZ (hw _ (List.mem_of_getElem? (i := 8) rfl))) (by decide) (backOf (W := 1) (rmIni l Z a0 hw [] b50 (q0 &&& (4194303 : Int64)) q2 q3 q4 ((q1 &&& (4503599627370495 : Int64)) + (1 : Int64)) b54 h54 n0 (by omega) Fc58 Fc59 Fc60 Fc61 Fc62 Fc63 Fc64 (by omega : n0 ≤ b50)) hZ (hw _ (List.mem_of_getElem? (i := 8) rfl)) (hw _ (List.mem_of_getElem? (i := 4) rfl)) (by decide) (by decide)) (g := (mkF m 33 #[.val (.long q0), .second, .val (.long q1), .second, .val (.long q2), .second, .val (.long q3), .second, .val (.long q4), .second, .val (.long (q0 &&& (4194303 : Int64))), .second, .val (.long ((q1 &&& (4503599627370495 : Int64)) + (1 : Int64))), .second, .unset, .unset, .unset, .unset, .unset, .unset, .unset] [(.ref b54), (.long ((q1 &&& (4503599627370495 : Int64)) + (1 : Int64))), (.long q4), (.long q3), (.long q2), (.long (q0 &&& (4194303 : Int64))), (.ref b50), (.ref b50)])) rfl (by rw [hml]; rfl) (Steps.refl _) (a := b50) (argsL := [(.long (q0 &&& (4194303 : Int64))), (.long q2), (.long q3), (.long q4), (.long ((q1 &&& (4503599627370495 : Int64)) + (1 : Int64))), (.ref b54)]) (rest := [(.ref b50)]) (lenOf pd_2 rfl) rfl (by show 2 * 0 + _ ≤ _; exact Nat.le_of_eq rfl) (hb hby at_33) (fun _ _ => ⟨rfl, e54, (by decide : 2 + 0 ≤ _), (by decide : 6 + 0 ≤ _)⟩)
  dsimp only [Pt.U, Pt.locs, Pt.cells, Pt.slots] at X65 l65 y65 z65 st65 hQ65
  subst l65 y65 z65
  obtain ⟨rfl, N65q, K65, P65_0, P65_1, P65_2⟩ := hQ65
  have N65 := Fr.app N0 N65q
  have z66 := K65.1
  have KC67 : Keep h0 T65.heap [] := KC56.trans K65 (allS (Or.inr (by omega)) all0)
  have z68 : @LT.lt Nat _ b50 (Array.size T65.heap) := P65_0.lt
  have z69 : @LT.lt Nat _ b50 (Array.size T65.heap) := P65_1.lt
  have z70 : @LT.lt Nat _ b50 (Array.size T65.heap) := P65_2.lt
  obtain ⟨cq71, kq71, qa71, qb71, qc71⟩ := isOf hZ rfl P65_0
  obtain ⟨_, _, ⟨T71, L71, k71, n71⟩, -, X71, ⟨Lc71, hQ71, l71, y71, z71⟩, st71⟩ := X65.virtualBack hx (y := (⟨"com/example/klepsydra/bench/Run", "perSecond", "()J"⟩ : MethodName)) (z := (⟨"com/example/klepsydra/bench/Run", "perSecond", "()J"⟩ : MethodName)) hown (mvT hZ (hw _ (List.mem_of_getElem? (i := 29) rfl))) (mvT hZ (hw _ (List.mem_of_getElem? (i := 30) rfl))) (notFace_of_selects (args := #[]) (mvT hZ (hw _ (List.mem_of_getElem? (i := 32) rfl)))) (mvT hZ (hw _ (List.mem_of_getElem? (i := 32) rfl))) (mvT hZ (hw _ (List.mem_of_getElem? (i := 31) rfl))) (by decide) (backOf (W := 0) (rmPer l Z a0 hw [] b50 (q0 &&& (4194303 : Int64)) ((q1 &&& (4503599627370495 : Int64)) + (1 : Int64)) ((((2 : Int64) * ((q0 &&& (4194303 : Int64)) * (1000000000 : Int64))) + ((q1 &&& (4503599627370495 : Int64)) + (1 : Int64))) / ((2 : Int64) * ((q1 &&& (4503599627370495 : Int64)) + (1 : Int64)))) T65.heap n0 (by omega) P65_0 P65_1 P65_2 ((own_main (q0 &&& (4194303 : Int64)) ((q1 &&& (4503599627370495 : Int64)) + (1 : Int64)) (own_d q0).1 (own_d q0).2 (own_n q1).1 (own_n q1).2).1 : Jvm.Free.Fl.NoNaN64 (FP.dmul (FP.l2d (q0 &&& (4194303 : Int64))) (4741671816366391296 : UInt64))) ((own_main (q0 &&& (4194303 : Int64)) ((q1 &&& (4503599627370495 : Int64)) + (1 : Int64)) (own_d q0).1 (own_d q0).2 (own_n q1).1 (own_n q1).2).2.1 : Jvm.Free.Fl.NoNaN64 (FP.ddiv (FP.dmul (FP.l2d (q0 &&& (4194303 : Int64))) (4741671816366391296 : UInt64)) (FP.l2d ((q1 &&& (4503599627370495 : Int64)) + (1 : Int64))))) ((own_main (q0 &&& (4194303 : Int64)) ((q1 &&& (4503599627370495 : Int64)) + (1 : Int64)) (own_d q0).1 (own_d q0).2 (own_n q1).1 (own_n q1).2).2.2.2 : own_rnd (FP.ddiv (FP.dmul (FP.l2d (q0 &&& (4194303 : Int64))) (4741671816366391296 : UInt64)) (FP.l2d ((q1 &&& (4503599627370495 : Int64)) + (1 : Int64)))) ((((2 : Int64) * ((q0 &&& (4194303 : Int64)) * (1000000000 : Int64))) + ((q1 &&& (4503599627370495 : Int64)) + (1 : Int64))) / ((2 : Int64) * ((q1 &&& (4503599627370495 : Int64)) + (1 : Int64)))))) hZ (hw _ (List.mem_of_getElem? (i := 33) rfl)) (hw _ (List.mem_of_getElem? (i := 4) rfl)) (by decide) (by decide)) qa71 qc71 (g := (mkF m 40 #[.val (.long q0), .second, .val (.long q1), .second, .val (.long q2), .second, .val (.long q3), .second, .val (.long q4), .second, .val (.long (q0 &&& (4194303 : Int64))), .second, .val (.long ((q1 &&& (4503599627370495 : Int64)) + (1 : Int64))), .second, .val (.ref b50), .unset, .unset, .unset, .unset, .unset, .unset] [(.ref b50)])) rfl (by rw [hml]; rfl) (Steps.refl _) (argsL := []) (rest := []) (lenOf pd_3 rfl) rfl (by show 2 * 0 + _ ≤ _; exact Nat.le_of_eq rfl) (hb hby at_40) (fun _ _ => ⟨rfl, rfl, (by decide : 2 + 0 ≤ _), (by decide : 6 + 0 ≤ _)⟩)
  dsimp only [Pt.U, Pt.locs, Pt.cells, Pt.slots] at X71 l71 y71 z71 st71 hQ71
  subst l71 y71 z71
  obtain ⟨rfl, N71q, e71⟩ := hQ71
  have N71 := Fr.app N65 N71q
  obtain ⟨fs, hr, hrun, hended, hW, hsame⟩ := X71.leave (v := some (.int (1 : Int32))) (fun h => by rw [Bd.returns] at h; cases h)
  refine ⟨_, _, pre0 _ ?_, hrun, hended, _, _, rfl, ?_, ⟨_, rfl⟩, hW, hsame.mono (by decide) (by decide)⟩
  · show Steps p.tables e below (s₁.setTop (mkF m 0 #[.val (.long q0), .second, .val (.long q1), .second, .val (.long q2), .second, .val (.long q3), .second, .val (.long q4), .second, .unset, .unset, .unset, .unset, .unset, .unset, .unset, .unset, .unset, .unset, .unset] [])) _
    refine XS.lloadN X0.here hx rfl (hb hby at_0) rfl ?_
    show Steps p.tables e below (s₁.setTop (mkF m 1 #[.val (.long q0), .second, .val (.long q1), .second, .val (.long q2), .second, .val (.long q3), .second, .val (.long q4), .second, .unset, .unset, .unset, .unset, .unset, .unset, .unset, .unset, .unset, .unset, .unset] [(.long q0)])) _
    refine X0.ldc2Long hx hown (mvT hZ (hw _ (List.mem_of_getElem? (i := 0) rfl))) (g := (mkF m 1 #[.val (.long q0), .second, .val (.long q1), .second, .val (.long q2), .second, .val (.long q3), .second, .val (.long q4), .second, .unset, .unset, .unset, .unset, .unset, .unset, .unset, .unset, .unset, .unset, .unset] [(.long q0)])) rfl (hb hby at_1) _ ?_
    show Steps p.tables e below (s₁.setTop (mkF m 4 #[.val (.long q0), .second, .val (.long q1), .second, .val (.long q2), .second, .val (.long q3), .second, .val (.long q4), .second, .unset, .unset, .unset, .unset, .unset, .unset, .unset, .unset, .unset, .unset, .unset] [(.long (4194303 : Int64)), (.long q0)])) _
    refine XS.land X0.here hx rfl (hb hby at_4) rfl ?_
    show Steps p.tables e below (s₁.setTop (mkF m 5 #[.val (.long q0), .second, .val (.long q1), .second, .val (.long q2), .second, .val (.long q3), .second, .val (.long q4), .second, .unset, .unset, .unset, .unset, .unset, .unset, .unset, .unset, .unset, .unset, .unset] [(.long (q0 &&& (4194303 : Int64)))])) _
    refine XS.lstore X0.here hx rfl (hb hby at_5) rfl (l' := #[.val (.long q0), .second, .val (.long q1), .second, .val (.long q2), .second, .val (.long q3), .second, .val (.long q4), .second, .val (.long (q0 &&& (4194303 : Int64))), .second, .unset, .unset, .unset, .unset, .unset, .unset, .unset, .unset, .unset]) rfl ?_
    show Steps p.tables e below (s₁.setTop (mkF m 7 #[.val (.long q0), .second, .val (.long q1), .second, .val (.long q2), .second, .val (.long q3), .second, .val (.long q4), .second, .val (.long (q0 &&& (4194303 : Int64))), .second, .unset, .unset, .unset, .unset, .unset, .unset, .unset, .unset, .unset] [])) _
    refine XS.lloadN X0.here hx rfl (hb hby at_7) rfl ?_
    show Steps p.tables e below (s₁.setTop (mkF m 8 #[.val (.long q0), .second, .val (.long q1), .second, .val (.long q2), .second, .val (.long q3), .second, .val (.long q4), .second, .val (.long (q0 &&& (4194303 : Int64))), .second, .unset, .unset, .unset, .unset, .unset, .unset, .unset, .unset, .unset] [(.long q1)])) _
    refine X0.ldc2Long hx hown (mvT hZ (hw _ (List.mem_of_getElem? (i := 1) rfl))) (g := (mkF m 8 #[.val (.long q0), .second, .val (.long q1), .second, .val (.long q2), .second, .val (.long q3), .second, .val (.long q4), .second, .val (.long (q0 &&& (4194303 : Int64))), .second, .unset, .unset, .unset, .unset, .unset, .unset, .unset, .unset, .unset] [(.long q1)])) rfl (hb hby at_8) _ ?_
    show Steps p.tables e below (s₁.setTop (mkF m 11 #[.val (.long q0), .second, .val (.long q1), .second, .val (.long q2), .second, .val (.long q3), .second, .val (.long q4), .second, .val (.long (q0 &&& (4194303 : Int64))), .second, .unset, .unset, .unset, .unset, .unset, .unset, .unset, .unset, .unset] [(.long (4503599627370495 : Int64)), (.long q1)])) _
    refine XS.land X0.here hx rfl (hb hby at_11) rfl ?_
    show Steps p.tables e below (s₁.setTop (mkF m 12 #[.val (.long q0), .second, .val (.long q1), .second, .val (.long q2), .second, .val (.long q3), .second, .val (.long q4), .second, .val (.long (q0 &&& (4194303 : Int64))), .second, .unset, .unset, .unset, .unset, .unset, .unset, .unset, .unset, .unset] [(.long (q1 &&& (4503599627370495 : Int64)))])) _
    refine XS.lconst X0.here hx rfl (hb hby at_12) ?_
    show Steps p.tables e below (s₁.setTop (mkF m 13 #[.val (.long q0), .second, .val (.long q1), .second, .val (.long q2), .second, .val (.long q3), .second, .val (.long q4), .second, .val (.long (q0 &&& (4194303 : Int64))), .second, .unset, .unset, .unset, .unset, .unset, .unset, .unset, .unset, .unset] [(.long (1 : Int64)), (.long (q1 &&& (4503599627370495 : Int64)))])) _
    refine XS.ladd X0.here hx rfl (hb hby at_13) rfl ?_
    show Steps p.tables e below (s₁.setTop (mkF m 14 #[.val (.long q0), .second, .val (.long q1), .second, .val (.long q2), .second, .val (.long q3), .second, .val (.long q4), .second, .val (.long (q0 &&& (4194303 : Int64))), .second, .unset, .unset, .unset, .unset, .unset, .unset, .unset, .unset, .unset] [(.long ((q1 &&& (4503599627370495 : Int64)) + (1 : Int64)))])) _
    refine XS.lstore X0.here hx rfl (hb hby at_14) rfl (l' := #[.val (.long q0), .second, .val (.long q1), .second, .val (.long q2), .second, .val (.long q3), .second, .val (.long q4), .second, .val (.long (q0 &&& (4194303 : Int64))), .second, .val (.long ((q1 &&& (4503599627370495 : Int64)) + (1 : Int64))), .second, .unset, .unset, .unset, .unset, .unset, .unset, .unset]) rfl ?_
    show Steps p.tables e below (s₁.setTop (mkF m 16 #[.val (.long q0), .second, .val (.long q1), .second, .val (.long q2), .second, .val (.long q3), .second, .val (.long q4), .second, .val (.long (q0 &&& (4194303 : Int64))), .second, .val (.long ((q1 &&& (4503599627370495 : Int64)) + (1 : Int64))), .second, .unset, .unset, .unset, .unset, .unset, .unset, .unset] [])) _
    refine st50 _ ?_
    show Steps p.tables e below (T50.setTop (mkF m 19 #[.val (.long q0), .second, .val (.long q1), .second, .val (.long q2), .second, .val (.long q3), .second, .val (.long q4), .second, .val (.long (q0 &&& (4194303 : Int64))), .second, .val (.long ((q1 &&& (4503599627370495 : Int64)) + (1 : Int64))), .second, .unset, .unset, .unset, .unset, .unset, .unset, .unset] [(.ref b50)])) _
    refine XS.dup X50.here hx rfl (hb hby at_19) rfl rfl ?_
    show Steps p.tables e below (T50.setTop (mkF m 20 #[.val (.long q0), .second, .val (.long q1), .second, .val (.long q2), .second, .val (.long q3), .second, .val (.long q4), .second, .val (.long (q0 &&& (4194303 : Int64))), .second, .val (.long ((q1 &&& (4503599627370495 : Int64)) + (1 : Int64))), .second, .unset, .unset, .unset, .unset, .unset, .unset, .unset] [(.ref b50), (.ref b50)])) _
    refine XS.lload X50.here hx rfl (hb hby at_20) rfl ?_
    show Steps p.tables e below (T50.setTop (mkF m 22 #[.val (.long q0), .second, .val (.long q1), .second, .val (.long q2), .second, .val (.long q3), .second, .val (.long q4), .second, .val (.long (q0 &&& (4194303 : Int64))), .second, .val (.long ((q1 &&& (4503599627370495 : Int64)) + (1 : Int64))), .second, .unset, .unset, .unset, .unset, .unset, .unset, .unset] [(.long (q0 &&& (4194303 : Int64))), (.ref b50), (.ref b50)])) _
    refine XS.lload X50.here hx rfl (hb hby at_22) rfl ?_
    show Steps p.tables e below (T50.setTop (mkF m 24 #[.val (.long q0), .second, .val (.long q1), .second, .val (.long q2), .second, .val (.long q3), .second, .val (.long q4), .second, .val (.long (q0 &&& (4194303 : Int64))), .second, .val (.long ((q1 &&& (4503599627370495 : Int64)) + (1 : Int64))), .second, .unset, .unset, .unset, .unset, .unset, .unset, .unset] [(.long q2), (.long (q0 &&& (4194303 : Int64))), (.ref b50), (.ref b50)])) _
    refine XS.lload X50.here hx rfl (hb hby at_24) rfl ?_
    show Steps p.tables e below (T50.setTop (mkF m 26 #[.val (.long q0), .second, .val (.long q1), .second, .val (.long q2), .second, .val (.long q3), .second, .val (.long q4), .second, .val (.long (q0 &&& (4194303 : Int64))), .second, .val (.long ((q1 &&& (4503599627370495 : Int64)) + (1 : Int64))), .second, .unset, .unset, .unset, .unset, .unset, .unset, .unset] [(.long q3), (.long q2), (.long (q0 &&& (4194303 : Int64))), (.ref b50), (.ref b50)])) _
    refine XS.lload X50.here hx rfl (hb hby at_26) rfl ?_
    show Steps p.tables e below (T50.setTop (mkF m 28 #[.val (.long q0), .second, .val (.long q1), .second, .val (.long q2), .second, .val (.long q3), .second, .val (.long q4), .second, .val (.long (q0 &&& (4194303 : Int64))), .second, .val (.long ((q1 &&& (4503599627370495 : Int64)) + (1 : Int64))), .second, .unset, .unset, .unset, .unset, .unset, .unset, .unset] [(.long q4), (.long q3), (.long q2), (.long (q0 &&& (4194303 : Int64))), (.ref b50), (.ref b50)])) _
    refine XS.lload X50.here hx rfl (hb hby at_28) rfl ?_
    show Steps p.tables e below (T50.setTop (mkF m 30 #[.val (.long q0), .second, .val (.long q1), .second, .val (.long q2), .second, .val (.long q3), .second, .val (.long q4), .second, .val (.long (q0 &&& (4194303 : Int64))), .second, .val (.long ((q1 &&& (4503599627370495 : Int64)) + (1 : Int64))), .second, .unset, .unset, .unset, .unset, .unset, .unset, .unset] [(.long ((q1 &&& (4503599627370495 : Int64)) + (1 : Int64))), (.long q4), (.long q3), (.long q2), (.long (q0 &&& (4194303 : Int64))), (.ref b50), (.ref b50)])) _
    refine XS.iconst X50.here hx rfl (hb hby at_30) ?_
    show Steps p.tables e below (T50.setTop (mkF m 31 #[.val (.long q0), .second, .val (.long q1), .second, .val (.long q2), .second, .val (.long q3), .second, .val (.long q4), .second, .val (.long (q0 &&& (4194303 : Int64))), .second, .val (.long ((q1 &&& (4503599627370495 : Int64)) + (1 : Int64))), .second, .unset, .unset, .unset, .unset, .unset, .unset, .unset] [(.int (0 : Int32)), (.long ((q1 &&& (4503599627370495 : Int64)) + (1 : Int64))), (.long q4), (.long q3), (.long q2), (.long (q0 &&& (4194303 : Int64))), (.ref b50), (.ref b50)])) _
    refine st54 _ ?_
    show Steps p.tables e below (T54.setTop (mkF m 33 #[.val (.long q0), .second, .val (.long q1), .second, .val (.long q2), .second, .val (.long q3), .second, .val (.long q4), .second, .val (.long (q0 &&& (4194303 : Int64))), .second, .val (.long ((q1 &&& (4503599627370495 : Int64)) + (1 : Int64))), .second, .unset, .unset, .unset, .unset, .unset, .unset, .unset] [(.ref b54), (.long ((q1 &&& (4503599627370495 : Int64)) + (1 : Int64))), (.long q4), (.long q3), (.long q2), (.long (q0 &&& (4194303 : Int64))), (.ref b50), (.ref b50)])) _
    refine st65.trans ?_
    show Steps p.tables e below (T65.setTop (mkF m 36 #[.val (.long q0), .second, .val (.long q1), .second, .val (.long q2), .second, .val (.long q3), .second, .val (.long q4), .second, .val (.long (q0 &&& (4194303 : Int64))), .second, .val (.long ((q1 &&& (4503599627370495 : Int64)) + (1 : Int64))), .second, .unset, .unset, .unset, .unset, .unset, .unset, .unset] [(.ref b50)])) _
    refine XS.astore X65.here hx rfl (hb hby at_36) rfl rfl (l' := #[.val (.long q0), .second, .val (.long q1), .second, .val (.long q2), .second, .val (.long q3), .second, .val (.long q4), .second, .val (.long (q0 &&& (4194303 : Int64))), .second, .val (.long ((q1 &&& (4503599627370495 : Int64)) + (1 : Int64))), .second, .val (.ref b50), .unset, .unset, .unset, .unset, .unset, .unset]) rfl ?_
    show Steps p.tables e below (T65.setTop (mkF m 38 #[.val (.long q0), .second, .val (.long q1), .second, .val (.long q2), .second, .val (.long q3), .second, .val (.long q4), .second, .val (.long (q0 &&& (4194303 : Int64))), .second, .val (.long ((q1 &&& (4503599627370495 : Int64)) + (1 : Int64))), .second, .val (.ref b50), .unset, .unset, .unset, .unset, .unset, .unset] [])) _
    refine XS.aload X65.here hx rfl (hb hby at_38) rfl rfl ?_
    show Steps p.tables e below (T65.setTop (mkF m 40 #[.val (.long q0), .second, .val (.long q1), .second, .val (.long q2), .second, .val (.long q3), .second, .val (.long q4), .second, .val (.long (q0 &&& (4194303 : Int64))), .second, .val (.long ((q1 &&& (4503599627370495 : Int64)) + (1 : Int64))), .second, .val (.ref b50), .unset, .unset, .unset, .unset, .unset, .unset] [(.ref b50)])) _
    refine st71.trans ?_
    show Steps p.tables e below (T71.setTop (mkF m 43 #[.val (.long q0), .second, .val (.long q1), .second, .val (.long q2), .second, .val (.long q3), .second, .val (.long q4), .second, .val (.long (q0 &&& (4194303 : Int64))), .second, .val (.long ((q1 &&& (4503599627370495 : Int64)) + (1 : Int64))), .second, .val (.ref b50), .unset, .unset, .unset, .unset, .unset, .unset] [(.long ((((2 : Int64) * ((q0 &&& (4194303 : Int64)) * (1000000000 : Int64))) + ((q1 &&& (4503599627370495 : Int64)) + (1 : Int64))) / ((2 : Int64) * ((q1 &&& (4503599627370495 : Int64)) + (1 : Int64)))))])) _
    refine XS.lstore X71.here hx rfl (hb hby at_43) rfl (l' := #[.val (.long q0), .second, .val (.long q1), .second, .val (.long q2), .second, .val (.long q3), .second, .val (.long q4), .second, .val (.long (q0 &&& (4194303 : Int64))), .second, .val (.long ((q1 &&& (4503599627370495 : Int64)) + (1 : Int64))), .second, .val (.ref b50), .val (.long ((((2 : Int64) * ((q0 &&& (4194303 : Int64)) * (1000000000 : Int64))) + ((q1 &&& (4503599627370495 : Int64)) + (1 : Int64))) / ((2 : Int64) * ((q1 &&& (4503599627370495 : Int64)) + (1 : Int64))))), .second, .unset, .unset, .unset, .unset]) rfl ?_
    show Steps p.tables e below (T71.setTop (mkF m 45 #[.val (.long q0), .second, .val (.long q1), .second, .val (.long q2), .second, .val (.long q3), .second, .val (.long q4), .second, .val (.long (q0 &&& (4194303 : Int64))), .second, .val (.long ((q1 &&& (4503599627370495 : Int64)) + (1 : Int64))), .second, .val (.ref b50), .val (.long ((((2 : Int64) * ((q0 &&& (4194303 : Int64)) * (1000000000 : Int64))) + ((q1 &&& (4503599627370495 : Int64)) + (1 : Int64))) / ((2 : Int64) * ((q1 &&& (4503599627370495 : Int64)) + (1 : Int64))))), .second, .unset, .unset, .unset, .unset] [])) _
    refine XS.lload X71.here hx rfl (hb hby at_45) rfl ?_
    show Steps p.tables e below (T71.setTop (mkF m 47 #[.val (.long q0), .second, .val (.long q1), .second, .val (.long q2), .second, .val (.long q3), .second, .val (.long q4), .second, .val (.long (q0 &&& (4194303 : Int64))), .second, .val (.long ((q1 &&& (4503599627370495 : Int64)) + (1 : Int64))), .second, .val (.ref b50), .val (.long ((((2 : Int64) * ((q0 &&& (4194303 : Int64)) * (1000000000 : Int64))) + ((q1 &&& (4503599627370495 : Int64)) + (1 : Int64))) / ((2 : Int64) * ((q1 &&& (4503599627370495 : Int64)) + (1 : Int64))))), .second, .unset, .unset, .unset, .unset] [(.long (q0 &&& (4194303 : Int64)))])) _
    refine X71.ldc2Long hx hown (mvT hZ (hw _ (List.mem_of_getElem? (i := 48) rfl))) (g := (mkF m 47 #[.val (.long q0), .second, .val (.long q1), .second, .val (.long q2), .second, .val (.long q3), .second, .val (.long q4), .second, .val (.long (q0 &&& (4194303 : Int64))), .second, .val (.long ((q1 &&& (4503599627370495 : Int64)) + (1 : Int64))), .second, .val (.ref b50), .val (.long ((((2 : Int64) * ((q0 &&& (4194303 : Int64)) * (1000000000 : Int64))) + ((q1 &&& (4503599627370495 : Int64)) + (1 : Int64))) / ((2 : Int64) * ((q1 &&& (4503599627370495 : Int64)) + (1 : Int64))))), .second, .unset, .unset, .unset, .unset] [(.long (q0 &&& (4194303 : Int64)))])) rfl (hb hby at_47) _ ?_
    show Steps p.tables e below (T71.setTop (mkF m 50 #[.val (.long q0), .second, .val (.long q1), .second, .val (.long q2), .second, .val (.long q3), .second, .val (.long q4), .second, .val (.long (q0 &&& (4194303 : Int64))), .second, .val (.long ((q1 &&& (4503599627370495 : Int64)) + (1 : Int64))), .second, .val (.ref b50), .val (.long ((((2 : Int64) * ((q0 &&& (4194303 : Int64)) * (1000000000 : Int64))) + ((q1 &&& (4503599627370495 : Int64)) + (1 : Int64))) / ((2 : Int64) * ((q1 &&& (4503599627370495 : Int64)) + (1 : Int64))))), .second, .unset, .unset, .unset, .unset] [(.long (1000000000 : Int64)), (.long (q0 &&& (4194303 : Int64)))])) _
    refine XS.lmul X71.here hx rfl (hb hby at_50) rfl ?_
    show Steps p.tables e below (T71.setTop (mkF m 51 #[.val (.long q0), .second, .val (.long q1), .second, .val (.long q2), .second, .val (.long q3), .second, .val (.long q4), .second, .val (.long (q0 &&& (4194303 : Int64))), .second, .val (.long ((q1 &&& (4503599627370495 : Int64)) + (1 : Int64))), .second, .val (.ref b50), .val (.long ((((2 : Int64) * ((q0 &&& (4194303 : Int64)) * (1000000000 : Int64))) + ((q1 &&& (4503599627370495 : Int64)) + (1 : Int64))) / ((2 : Int64) * ((q1 &&& (4503599627370495 : Int64)) + (1 : Int64))))), .second, .unset, .unset, .unset, .unset] [(.long ((q0 &&& (4194303 : Int64)) * (1000000000 : Int64)))])) _
    refine XS.lstore X71.here hx rfl (hb hby at_51) rfl (l' := #[.val (.long q0), .second, .val (.long q1), .second, .val (.long q2), .second, .val (.long q3), .second, .val (.long q4), .second, .val (.long (q0 &&& (4194303 : Int64))), .second, .val (.long ((q1 &&& (4503599627370495 : Int64)) + (1 : Int64))), .second, .val (.ref b50), .val (.long ((((2 : Int64) * ((q0 &&& (4194303 : Int64)) * (1000000000 : Int64))) + ((q1 &&& (4503599627370495 : Int64)) + (1 : Int64))) / ((2 : Int64) * ((q1 &&& (4503599627370495 : Int64)) + (1 : Int64))))), .second, .val (.long ((q0 &&& (4194303 : Int64)) * (1000000000 : Int64))), .second, .unset, .unset]) rfl ?_
    show Steps p.tables e below (T71.setTop (mkF m 53 #[.val (.long q0), .second, .val (.long q1), .second, .val (.long q2), .second, .val (.long q3), .second, .val (.long q4), .second, .val (.long (q0 &&& (4194303 : Int64))), .second, .val (.long ((q1 &&& (4503599627370495 : Int64)) + (1 : Int64))), .second, .val (.ref b50), .val (.long ((((2 : Int64) * ((q0 &&& (4194303 : Int64)) * (1000000000 : Int64))) + ((q1 &&& (4503599627370495 : Int64)) + (1 : Int64))) / ((2 : Int64) * ((q1 &&& (4503599627370495 : Int64)) + (1 : Int64))))), .second, .val (.long ((q0 &&& (4194303 : Int64)) * (1000000000 : Int64))), .second, .unset, .unset] [])) _
    refine X71.ldc2Long hx hown (mvT hZ (hw _ (List.mem_of_getElem? (i := 49) rfl))) (g := (mkF m 53 #[.val (.long q0), .second, .val (.long q1), .second, .val (.long q2), .second, .val (.long q3), .second, .val (.long q4), .second, .val (.long (q0 &&& (4194303 : Int64))), .second, .val (.long ((q1 &&& (4503599627370495 : Int64)) + (1 : Int64))), .second, .val (.ref b50), .val (.long ((((2 : Int64) * ((q0 &&& (4194303 : Int64)) * (1000000000 : Int64))) + ((q1 &&& (4503599627370495 : Int64)) + (1 : Int64))) / ((2 : Int64) * ((q1 &&& (4503599627370495 : Int64)) + (1 : Int64))))), .second, .val (.long ((q0 &&& (4194303 : Int64)) * (1000000000 : Int64))), .second, .unset, .unset] [])) rfl (hb hby at_53) _ ?_
    show Steps p.tables e below (T71.setTop (mkF m 56 #[.val (.long q0), .second, .val (.long q1), .second, .val (.long q2), .second, .val (.long q3), .second, .val (.long q4), .second, .val (.long (q0 &&& (4194303 : Int64))), .second, .val (.long ((q1 &&& (4503599627370495 : Int64)) + (1 : Int64))), .second, .val (.ref b50), .val (.long ((((2 : Int64) * ((q0 &&& (4194303 : Int64)) * (1000000000 : Int64))) + ((q1 &&& (4503599627370495 : Int64)) + (1 : Int64))) / ((2 : Int64) * ((q1 &&& (4503599627370495 : Int64)) + (1 : Int64))))), .second, .val (.long ((q0 &&& (4194303 : Int64)) * (1000000000 : Int64))), .second, .unset, .unset] [(.long (2 : Int64))])) _
    refine XS.lload X71.here hx rfl (hb hby at_56) rfl ?_
    show Steps p.tables e below (T71.setTop (mkF m 58 #[.val (.long q0), .second, .val (.long q1), .second, .val (.long q2), .second, .val (.long q3), .second, .val (.long q4), .second, .val (.long (q0 &&& (4194303 : Int64))), .second, .val (.long ((q1 &&& (4503599627370495 : Int64)) + (1 : Int64))), .second, .val (.ref b50), .val (.long ((((2 : Int64) * ((q0 &&& (4194303 : Int64)) * (1000000000 : Int64))) + ((q1 &&& (4503599627370495 : Int64)) + (1 : Int64))) / ((2 : Int64) * ((q1 &&& (4503599627370495 : Int64)) + (1 : Int64))))), .second, .val (.long ((q0 &&& (4194303 : Int64)) * (1000000000 : Int64))), .second, .unset, .unset] [(.long ((q0 &&& (4194303 : Int64)) * (1000000000 : Int64))), (.long (2 : Int64))])) _
    refine XS.lmul X71.here hx rfl (hb hby at_58) rfl ?_
    show Steps p.tables e below (T71.setTop (mkF m 59 #[.val (.long q0), .second, .val (.long q1), .second, .val (.long q2), .second, .val (.long q3), .second, .val (.long q4), .second, .val (.long (q0 &&& (4194303 : Int64))), .second, .val (.long ((q1 &&& (4503599627370495 : Int64)) + (1 : Int64))), .second, .val (.ref b50), .val (.long ((((2 : Int64) * ((q0 &&& (4194303 : Int64)) * (1000000000 : Int64))) + ((q1 &&& (4503599627370495 : Int64)) + (1 : Int64))) / ((2 : Int64) * ((q1 &&& (4503599627370495 : Int64)) + (1 : Int64))))), .second, .val (.long ((q0 &&& (4194303 : Int64)) * (1000000000 : Int64))), .second, .unset, .unset] [(.long ((2 : Int64) * ((q0 &&& (4194303 : Int64)) * (1000000000 : Int64))))])) _
    refine XS.lload X71.here hx rfl (hb hby at_59) rfl ?_
    show Steps p.tables e below (T71.setTop (mkF m 61 #[.val (.long q0), .second, .val (.long q1), .second, .val (.long q2), .second, .val (.long q3), .second, .val (.long q4), .second, .val (.long (q0 &&& (4194303 : Int64))), .second, .val (.long ((q1 &&& (4503599627370495 : Int64)) + (1 : Int64))), .second, .val (.ref b50), .val (.long ((((2 : Int64) * ((q0 &&& (4194303 : Int64)) * (1000000000 : Int64))) + ((q1 &&& (4503599627370495 : Int64)) + (1 : Int64))) / ((2 : Int64) * ((q1 &&& (4503599627370495 : Int64)) + (1 : Int64))))), .second, .val (.long ((q0 &&& (4194303 : Int64)) * (1000000000 : Int64))), .second, .unset, .unset] [(.long ((q1 &&& (4503599627370495 : Int64)) + (1 : Int64))), (.long ((2 : Int64) * ((q0 &&& (4194303 : Int64)) * (1000000000 : Int64))))])) _
    refine XS.ladd X71.here hx rfl (hb hby at_61) rfl ?_
    show Steps p.tables e below (T71.setTop (mkF m 62 #[.val (.long q0), .second, .val (.long q1), .second, .val (.long q2), .second, .val (.long q3), .second, .val (.long q4), .second, .val (.long (q0 &&& (4194303 : Int64))), .second, .val (.long ((q1 &&& (4503599627370495 : Int64)) + (1 : Int64))), .second, .val (.ref b50), .val (.long ((((2 : Int64) * ((q0 &&& (4194303 : Int64)) * (1000000000 : Int64))) + ((q1 &&& (4503599627370495 : Int64)) + (1 : Int64))) / ((2 : Int64) * ((q1 &&& (4503599627370495 : Int64)) + (1 : Int64))))), .second, .val (.long ((q0 &&& (4194303 : Int64)) * (1000000000 : Int64))), .second, .unset, .unset] [(.long (((2 : Int64) * ((q0 &&& (4194303 : Int64)) * (1000000000 : Int64))) + ((q1 &&& (4503599627370495 : Int64)) + (1 : Int64))))])) _
    refine X71.ldc2Long hx hown (mvT hZ (hw _ (List.mem_of_getElem? (i := 49) rfl))) (g := (mkF m 62 #[.val (.long q0), .second, .val (.long q1), .second, .val (.long q2), .second, .val (.long q3), .second, .val (.long q4), .second, .val (.long (q0 &&& (4194303 : Int64))), .second, .val (.long ((q1 &&& (4503599627370495 : Int64)) + (1 : Int64))), .second, .val (.ref b50), .val (.long ((((2 : Int64) * ((q0 &&& (4194303 : Int64)) * (1000000000 : Int64))) + ((q1 &&& (4503599627370495 : Int64)) + (1 : Int64))) / ((2 : Int64) * ((q1 &&& (4503599627370495 : Int64)) + (1 : Int64))))), .second, .val (.long ((q0 &&& (4194303 : Int64)) * (1000000000 : Int64))), .second, .unset, .unset] [(.long (((2 : Int64) * ((q0 &&& (4194303 : Int64)) * (1000000000 : Int64))) + ((q1 &&& (4503599627370495 : Int64)) + (1 : Int64))))])) rfl (hb hby at_62) _ ?_
    show Steps p.tables e below (T71.setTop (mkF m 65 #[.val (.long q0), .second, .val (.long q1), .second, .val (.long q2), .second, .val (.long q3), .second, .val (.long q4), .second, .val (.long (q0 &&& (4194303 : Int64))), .second, .val (.long ((q1 &&& (4503599627370495 : Int64)) + (1 : Int64))), .second, .val (.ref b50), .val (.long ((((2 : Int64) * ((q0 &&& (4194303 : Int64)) * (1000000000 : Int64))) + ((q1 &&& (4503599627370495 : Int64)) + (1 : Int64))) / ((2 : Int64) * ((q1 &&& (4503599627370495 : Int64)) + (1 : Int64))))), .second, .val (.long ((q0 &&& (4194303 : Int64)) * (1000000000 : Int64))), .second, .unset, .unset] [(.long (2 : Int64)), (.long (((2 : Int64) * ((q0 &&& (4194303 : Int64)) * (1000000000 : Int64))) + ((q1 &&& (4503599627370495 : Int64)) + (1 : Int64))))])) _
    refine XS.lload X71.here hx rfl (hb hby at_65) rfl ?_
    show Steps p.tables e below (T71.setTop (mkF m 67 #[.val (.long q0), .second, .val (.long q1), .second, .val (.long q2), .second, .val (.long q3), .second, .val (.long q4), .second, .val (.long (q0 &&& (4194303 : Int64))), .second, .val (.long ((q1 &&& (4503599627370495 : Int64)) + (1 : Int64))), .second, .val (.ref b50), .val (.long ((((2 : Int64) * ((q0 &&& (4194303 : Int64)) * (1000000000 : Int64))) + ((q1 &&& (4503599627370495 : Int64)) + (1 : Int64))) / ((2 : Int64) * ((q1 &&& (4503599627370495 : Int64)) + (1 : Int64))))), .second, .val (.long ((q0 &&& (4194303 : Int64)) * (1000000000 : Int64))), .second, .unset, .unset] [(.long ((q1 &&& (4503599627370495 : Int64)) + (1 : Int64))), (.long (2 : Int64)), (.long (((2 : Int64) * ((q0 &&& (4194303 : Int64)) * (1000000000 : Int64))) + ((q1 &&& (4503599627370495 : Int64)) + (1 : Int64))))])) _
    refine XS.lmul X71.here hx rfl (hb hby at_67) rfl ?_
    show Steps p.tables e below (T71.setTop (mkF m 68 #[.val (.long q0), .second, .val (.long q1), .second, .val (.long q2), .second, .val (.long q3), .second, .val (.long q4), .second, .val (.long (q0 &&& (4194303 : Int64))), .second, .val (.long ((q1 &&& (4503599627370495 : Int64)) + (1 : Int64))), .second, .val (.ref b50), .val (.long ((((2 : Int64) * ((q0 &&& (4194303 : Int64)) * (1000000000 : Int64))) + ((q1 &&& (4503599627370495 : Int64)) + (1 : Int64))) / ((2 : Int64) * ((q1 &&& (4503599627370495 : Int64)) + (1 : Int64))))), .second, .val (.long ((q0 &&& (4194303 : Int64)) * (1000000000 : Int64))), .second, .unset, .unset] [(.long ((2 : Int64) * ((q1 &&& (4503599627370495 : Int64)) + (1 : Int64)))), (.long (((2 : Int64) * ((q0 &&& (4194303 : Int64)) * (1000000000 : Int64))) + ((q1 &&& (4503599627370495 : Int64)) + (1 : Int64))))])) _
    refine XS.ldiv X71.here hx rfl (hb hby at_68) rfl (own_main (q0 &&& (4194303 : Int64)) ((q1 &&& (4503599627370495 : Int64)) + (1 : Int64)) (own_d q0).1 (own_d q0).2 (own_n q1).1 (own_n q1).2).2.2.1 ?_
    show Steps p.tables e below (T71.setTop (mkF m 69 #[.val (.long q0), .second, .val (.long q1), .second, .val (.long q2), .second, .val (.long q3), .second, .val (.long q4), .second, .val (.long (q0 &&& (4194303 : Int64))), .second, .val (.long ((q1 &&& (4503599627370495 : Int64)) + (1 : Int64))), .second, .val (.ref b50), .val (.long ((((2 : Int64) * ((q0 &&& (4194303 : Int64)) * (1000000000 : Int64))) + ((q1 &&& (4503599627370495 : Int64)) + (1 : Int64))) / ((2 : Int64) * ((q1 &&& (4503599627370495 : Int64)) + (1 : Int64))))), .second, .val (.long ((q0 &&& (4194303 : Int64)) * (1000000000 : Int64))), .second, .unset, .unset] [(.long ((((2 : Int64) * ((q0 &&& (4194303 : Int64)) * (1000000000 : Int64))) + ((q1 &&& (4503599627370495 : Int64)) + (1 : Int64))) / ((2 : Int64) * ((q1 &&& (4503599627370495 : Int64)) + (1 : Int64)))))])) _
    refine XS.lstore X71.here hx rfl (hb hby at_69) rfl (l' := #[.val (.long q0), .second, .val (.long q1), .second, .val (.long q2), .second, .val (.long q3), .second, .val (.long q4), .second, .val (.long (q0 &&& (4194303 : Int64))), .second, .val (.long ((q1 &&& (4503599627370495 : Int64)) + (1 : Int64))), .second, .val (.ref b50), .val (.long ((((2 : Int64) * ((q0 &&& (4194303 : Int64)) * (1000000000 : Int64))) + ((q1 &&& (4503599627370495 : Int64)) + (1 : Int64))) / ((2 : Int64) * ((q1 &&& (4503599627370495 : Int64)) + (1 : Int64))))), .second, .val (.long ((q0 &&& (4194303 : Int64)) * (1000000000 : Int64))), .second, .val (.long ((((2 : Int64) * ((q0 &&& (4194303 : Int64)) * (1000000000 : Int64))) + ((q1 &&& (4503599627370495 : Int64)) + (1 : Int64))) / ((2 : Int64) * ((q1 &&& (4503599627370495 : Int64)) + (1 : Int64))))), .second]) rfl ?_
    show Steps p.tables e below (T71.setTop (mkF m 71 #[.val (.long q0), .second, .val (.long q1), .second, .val (.long q2), .second, .val (.long q3), .second, .val (.long q4), .second, .val (.long (q0 &&& (4194303 : Int64))), .second, .val (.long ((q1 &&& (4503599627370495 : Int64)) + (1 : Int64))), .second, .val (.ref b50), .val (.long ((((2 : Int64) * ((q0 &&& (4194303 : Int64)) * (1000000000 : Int64))) + ((q1 &&& (4503599627370495 : Int64)) + (1 : Int64))) / ((2 : Int64) * ((q1 &&& (4503599627370495 : Int64)) + (1 : Int64))))), .second, .val (.long ((q0 &&& (4194303 : Int64)) * (1000000000 : Int64))), .second, .val (.long ((((2 : Int64) * ((q0 &&& (4194303 : Int64)) * (1000000000 : Int64))) + ((q1 &&& (4503599627370495 : Int64)) + (1 : Int64))) / ((2 : Int64) * ((q1 &&& (4503599627370495 : Int64)) + (1 : Int64))))), .second] [])) _
    refine XS.lload X71.here hx rfl (hb hby at_71) rfl ?_
    show Steps p.tables e below (T71.setTop (mkF m 73 #[.val (.long q0), .second, .val (.long q1), .second, .val (.long q2), .second, .val (.long q3), .second, .val (.long q4), .second, .val (.long (q0 &&& (4194303 : Int64))), .second, .val (.long ((q1 &&& (4503599627370495 : Int64)) + (1 : Int64))), .second, .val (.ref b50), .val (.long ((((2 : Int64) * ((q0 &&& (4194303 : Int64)) * (1000000000 : Int64))) + ((q1 &&& (4503599627370495 : Int64)) + (1 : Int64))) / ((2 : Int64) * ((q1 &&& (4503599627370495 : Int64)) + (1 : Int64))))), .second, .val (.long ((q0 &&& (4194303 : Int64)) * (1000000000 : Int64))), .second, .val (.long ((((2 : Int64) * ((q0 &&& (4194303 : Int64)) * (1000000000 : Int64))) + ((q1 &&& (4503599627370495 : Int64)) + (1 : Int64))) / ((2 : Int64) * ((q1 &&& (4503599627370495 : Int64)) + (1 : Int64))))), .second] [(.long ((((2 : Int64) * ((q0 &&& (4194303 : Int64)) * (1000000000 : Int64))) + ((q1 &&& (4503599627370495 : Int64)) + (1 : Int64))) / ((2 : Int64) * ((q1 &&& (4503599627370495 : Int64)) + (1 : Int64)))))])) _
    refine XS.lload X71.here hx rfl (hb hby at_73) rfl ?_
    show Steps p.tables e below (T71.setTop (mkF m 75 #[.val (.long q0), .second, .val (.long q1), .second, .val (.long q2), .second, .val (.long q3), .second, .val (.long q4), .second, .val (.long (q0 &&& (4194303 : Int64))), .second, .val (.long ((q1 &&& (4503599627370495 : Int64)) + (1 : Int64))), .second, .val (.ref b50), .val (.long ((((2 : Int64) * ((q0 &&& (4194303 : Int64)) * (1000000000 : Int64))) + ((q1 &&& (4503599627370495 : Int64)) + (1 : Int64))) / ((2 : Int64) * ((q1 &&& (4503599627370495 : Int64)) + (1 : Int64))))), .second, .val (.long ((q0 &&& (4194303 : Int64)) * (1000000000 : Int64))), .second, .val (.long ((((2 : Int64) * ((q0 &&& (4194303 : Int64)) * (1000000000 : Int64))) + ((q1 &&& (4503599627370495 : Int64)) + (1 : Int64))) / ((2 : Int64) * ((q1 &&& (4503599627370495 : Int64)) + (1 : Int64))))), .second] [(.long ((((2 : Int64) * ((q0 &&& (4194303 : Int64)) * (1000000000 : Int64))) + ((q1 &&& (4503599627370495 : Int64)) + (1 : Int64))) / ((2 : Int64) * ((q1 &&& (4503599627370495 : Int64)) + (1 : Int64))))), (.long ((((2 : Int64) * ((q0 &&& (4194303 : Int64)) * (1000000000 : Int64))) + ((q1 &&& (4503599627370495 : Int64)) + (1 : Int64))) / ((2 : Int64) * ((q1 &&& (4503599627370495 : Int64)) + (1 : Int64)))))])) _
    refine XS.lcmp X71.here hx rfl (hb hby at_75) rfl ?_
    show Steps p.tables e below (T71.setTop (mkF m 76 #[.val (.long q0), .second, .val (.long q1), .second, .val (.long q2), .second, .val (.long q3), .second, .val (.long q4), .second, .val (.long (q0 &&& (4194303 : Int64))), .second, .val (.long ((q1 &&& (4503599627370495 : Int64)) + (1 : Int64))), .second, .val (.ref b50), .val (.long ((((2 : Int64) * ((q0 &&& (4194303 : Int64)) * (1000000000 : Int64))) + ((q1 &&& (4503599627370495 : Int64)) + (1 : Int64))) / ((2 : Int64) * ((q1 &&& (4503599627370495 : Int64)) + (1 : Int64))))), .second, .val (.long ((q0 &&& (4194303 : Int64)) * (1000000000 : Int64))), .second, .val (.long ((((2 : Int64) * ((q0 &&& (4194303 : Int64)) * (1000000000 : Int64))) + ((q1 &&& (4503599627370495 : Int64)) + (1 : Int64))) / ((2 : Int64) * ((q1 &&& (4503599627370495 : Int64)) + (1 : Int64))))), .second] [(.int (lcmpW ((((2 : Int64) * ((q0 &&& (4194303 : Int64)) * (1000000000 : Int64))) + ((q1 &&& (4503599627370495 : Int64)) + (1 : Int64))) / ((2 : Int64) * ((q1 &&& (4503599627370495 : Int64)) + (1 : Int64)))) ((((2 : Int64) * ((q0 &&& (4194303 : Int64)) * (1000000000 : Int64))) + ((q1 &&& (4503599627370495 : Int64)) + (1 : Int64))) / ((2 : Int64) * ((q1 &&& (4503599627370495 : Int64)) + (1 : Int64))))))])) _
    refine XS.ifNo X71.here hx rfl (hb hby at_76) rfl ((if0 _ _).trans (teq (((lw_eq ((((2 : Int64) * ((q0 &&& (4194303 : Int64)) * (1000000000 : Int64))) + ((q1 &&& (4503599627370495 : Int64)) + (1 : Int64))) / ((2 : Int64) * ((q1 &&& (4503599627370495 : Int64)) + (1 : Int64)))) ((((2 : Int64) * ((q0 &&& (4194303 : Int64)) * (1000000000 : Int64))) + ((q1 &&& (4503599627370495 : Int64)) + (1 : Int64))) / ((2 : Int64) * ((q1 &&& (4503599627370495 : Int64)) + (1 : Int64))))).mpr rfl) : (lcmpW ((((2 : Int64) * ((q0 &&& (4194303 : Int64)) * (1000000000 : Int64))) + ((q1 &&& (4503599627370495 : Int64)) + (1 : Int64))) / ((2 : Int64) * ((q1 &&& (4503599627370495 : Int64)) + (1 : Int64)))) ((((2 : Int64) * ((q0 &&& (4194303 : Int64)) * (1000000000 : Int64))) + ((q1 &&& (4503599627370495 : Int64)) + (1 : Int64))) / ((2 : Int64) * ((q1 &&& (4503599627370495 : Int64)) + (1 : Int64))))) = (0 : Int32))).2) ?_
    show Steps p.tables e below (T71.setTop (mkF m 79 #[.val (.long q0), .second, .val (.long q1), .second, .val (.long q2), .second, .val (.long q3), .second, .val (.long q4), .second, .val (.long (q0 &&& (4194303 : Int64))), .second, .val (.long ((q1 &&& (4503599627370495 : Int64)) + (1 : Int64))), .second, .val (.ref b50), .val (.long ((((2 : Int64) * ((q0 &&& (4194303 : Int64)) * (1000000000 : Int64))) + ((q1 &&& (4503599627370495 : Int64)) + (1 : Int64))) / ((2 : Int64) * ((q1 &&& (4503599627370495 : Int64)) + (1 : Int64))))), .second, .val (.long ((q0 &&& (4194303 : Int64)) * (1000000000 : Int64))), .second, .val (.long ((((2 : Int64) * ((q0 &&& (4194303 : Int64)) * (1000000000 : Int64))) + ((q1 &&& (4503599627370495 : Int64)) + (1 : Int64))) / ((2 : Int64) * ((q1 &&& (4503599627370495 : Int64)) + (1 : Int64))))), .second] [])) _
    refine XS.iconst X71.here hx rfl (hb hby at_79) ?_
    show Steps p.tables e below (T71.setTop (mkF m 80 #[.val (.long q0), .second, .val (.long q1), .second, .val (.long q2), .second, .val (.long q3), .second, .val (.long q4), .second, .val (.long (q0 &&& (4194303 : Int64))), .second, .val (.long ((q1 &&& (4503599627370495 : Int64)) + (1 : Int64))), .second, .val (.ref b50), .val (.long ((((2 : Int64) * ((q0 &&& (4194303 : Int64)) * (1000000000 : Int64))) + ((q1 &&& (4503599627370495 : Int64)) + (1 : Int64))) / ((2 : Int64) * ((q1 &&& (4503599627370495 : Int64)) + (1 : Int64))))), .second, .val (.long ((q0 &&& (4194303 : Int64)) * (1000000000 : Int64))), .second, .val (.long ((((2 : Int64) * ((q0 &&& (4194303 : Int64)) * (1000000000 : Int64))) + ((q1 &&& (4503599627370495 : Int64)) + (1 : Int64))) / ((2 : Int64) * ((q1 &&& (4503599627370495 : Int64)) + (1 : Int64))))), .second] [(.int (1 : Int32))])) _
    refine XS.goto X71.here hx rfl (pc0 := 80) (pc' := 84) rfl (hb hby at_80) (by decide) (by decide) ?_
    show Steps p.tables e below (T71.setTop (mkF m 84 #[.val (.long q0), .second, .val (.long q1), .second, .val (.long q2), .second, .val (.long q3), .second, .val (.long q4), .second, .val (.long (q0 &&& (4194303 : Int64))), .second, .val (.long ((q1 &&& (4503599627370495 : Int64)) + (1 : Int64))), .second, .val (.ref b50), .val (.long ((((2 : Int64) * ((q0 &&& (4194303 : Int64)) * (1000000000 : Int64))) + ((q1 &&& (4503599627370495 : Int64)) + (1 : Int64))) / ((2 : Int64) * ((q1 &&& (4503599627370495 : Int64)) + (1 : Int64))))), .second, .val (.long ((q0 &&& (4194303 : Int64)) * (1000000000 : Int64))), .second, .val (.long ((((2 : Int64) * ((q0 &&& (4194303 : Int64)) * (1000000000 : Int64))) + ((q1 &&& (4503599627370495 : Int64)) + (1 : Int64))) / ((2 : Int64) * ((q1 &&& (4503599627370495 : Int64)) + (1 : Int64))))), .second] [(.int (1 : Int32))])) _
    exact retN X71 hx (t := .boolean) Bd.returns (by simp) (hb hby at_84) hr
  · show Qrm0 Z q0 q1 q2 q3 q4 h0 n0 _ T71.heap _
    rw [e71]
    exact ⟨rfl, N71, KC67⟩
set_option maxRecDepth 65536 in
set_option maxHeartbeats 40000000 in
theorem comes_1 {Post : Tables → Env → Array Value → State → Outcome → State → Prop} (hpost : ∀ tb e args s v u, (limb_1_1.after args s (.returned v) u = true ∧ limb_1_2.after args s (.returned v) u = true ∧ True) → FrameEnd s (.returned v) u (Jvm.fieldLocs frame_1_writes args s ++ Jvm.arrayLocs frame_1_arrays args s ++ Jvm.staticLocs frame_1_statics s) 16 128 → Post tb e args s (.returned v) u) :
    ArmFor flags0 classFile x code maxLocals ret World_1 tables_1 room_1 Calls_1 rest_1 Pre_1 Post := by
  intro l hfl _ _ p e ha hc hk s m args below hf hA hF happ hP
  obtain ⟨hcalls, hrest, hpre⟩ := hP
  obtain ⟨-, -, -, hnamed, -, -, -, hat⟩ := (Spec.applies_iff hf).mp happ
  obtain ⟨hg, hn⟩ := and_e (Cond.before_iff.mp (show (Jvm.Cond.and given_1 narrow_1).before args s = true from hpre))
  obtain ⟨gg0, gr0⟩ := and_e hg
  obtain ⟨gg1, gr1⟩ := and_e gr0
  obtain ⟨gg2, gr2⟩ := and_e gr1
  obtain ⟨gg3, gr3⟩ := and_e gr2
  obtain ⟨gg4, gg5⟩ := and_e gr3
  obtain ⟨w0, w1, w2, w3, w4, rfl⟩ : ∃ w0 w1 w2 w3 w4 : Value, args = #[w0, w1, w2, w3, w4] := by
    have hs : args.size = 5 := by simpa [Cond.value, given_1] using gg0
    obtain ⟨L⟩ := args
    match L, hs with
    | [w0, w1, w2, w3, w4], _ => exact ⟨w0, w1, w2, w3, w4, rfl⟩
  have hw := fun d (hd : d ∈ tables_1) => atoms_spec (ws := Jvm.Cond.code x code maxLocals ret :: tables_1) hat d (List.mem_cons_of_mem _ hd)
  have hfit : Fit s := fun {y c} hc i hi => by
    obtain ⟨ha, rfl⟩ := Array.getElem?_eq_some_iff.mp hc
    have q := List.all_eq_true.mp ((Array.all_eq_true_iff_forall_mem.mp hF) _ (Array.getElem_mem ha)) i (List.mem_range.mpr hi)
    simpa [Array.getElem?_eq_getElem hi] using q
  obtain ⟨i0, ei0⟩ := isL_v gg1
  obtain rfl : w0 = (.long i0) := Option.some.inj ei0
  obtain ⟨i1, ei1⟩ := isL_v gg2
  obtain rfl : w1 = (.long i1) := Option.some.inj ei1
  obtain ⟨i2, ei2⟩ := isL_v gg3
  obtain rfl : w2 = (.long i2) := Option.some.inj ei2
  obtain ⟨i3, ei3⟩ := isL_v gg4
  obtain rfl : w3 = (.long i3) := Option.some.inj ei3
  obtain ⟨i4, ei4⟩ := isL_v gg5
  obtain rfl : w4 = (.long i4) := Option.some.inj ei4
  obtain ⟨n, o, h1, h2, h3, _, L, rfl, ⟨rfl, N, -⟩, hq⟩ := rm0 l s _ hw tables_1 i0 i1 i2 i3 i4 s.heap s.heap.size (Nat.le_refl _) p e ha hc hk s m _ below hf ((Spec.applies_iff_loose hf).mp happ).1 ⟨rfl, State.Warmed39.refl s, rfl⟩ trivial
  exact ⟨n, _, h1, h2, h3, hpost _ _ _ _ _ _ ⟨Cond.after_iff.mpr rfl, Cond.after_iff.mpr (eq_i res_at (Term.int_eval (1)) rfl), trivial⟩ ⟨hq.1, hq.2.1, (hq.2.2.sift fun y hy => Or.inr (N y hy)).mono (by decide) (by decide)⟩⟩
theorem main_1_1 : Claimed_1_1 := comes_1 fun _ _ _ _ _ _ h hF => ⟨h.1, hF⟩
theorem main_1_2 : Claimed_1_2 := comes_1 fun _ _ _ _ _ _ h hF => ⟨h.2.1, hF⟩
end Jvm.Pilot.@@N@@
namespace Jvm.Pilot.@@N@@
open Jvm Jvm.ClassFile Sem Op Lib Jvm.Free Jvm.Stand Jvm.Pilot.@@N@@.Jvm.D
/-! MADE BY PROGRAM (witnessworld.py) out of the Statement's table words and the real class files: 18 classes; the members and pool entries that the words name. The judged class is class 1, her method 1. -/
namespace start1
open Jvm.ClassFile
def u (s : String) : CpInfo := .utf8 (stringToUtf16 s)
/-- a pool by its gaps: so many unusable entries, then the entry; so many at the end -/
def gap : Nat → List CpInfo → List CpInfo
  | 0, r => r
  | n + 1, r => .unusable :: gap n r
def poolList (es : List (Nat × CpInfo)) (last : Nat) : List CpInfo := es.foldr (fun e r => gap e.1 (e.2 :: r)) (gap last [])
def pool (es : List (Nat × CpInfo)) (last : Nat) : Array CpInfo := ⟨poolList es last⟩
def fileOf (pool : Array CpInfo) (this : Nat) (attrs : Array Attribute := #[]) (ms : Array MethodInfo := #[]) (fl : Nat := 33) (sup : Nat := 0) (ifs : Array Nat := #[]) (fds : Array FieldInfo := #[]) : ClassFile where
  minorVersion := 0
  majorVersion := 65
  constantPool := pool
  accessFlags := fl
  thisClass := this
  superClass := sup
  interfaces := ifs
  fields := fds
  methods := ms
  attributes := attrs
def plain (name : String) (sup : Option ClassId) : Class where
  name := name
  kind := .ordinary
  loader := none
  accessFlags := 33
  super := sup
  interfaces := #[]
  cf := none
  fields := #[]
  methods := #[]
  instanceTypes := #[]
  staticTypes := #[]
  resolved := #[]
  callSites := []
  init := .initialized
  statics := none
  mirror := none

def pool0 : Array CpInfo := pool [(5, u "<init>"), (0, u "()V"), (1, .class_ 10), (1, u "java/lang/Object")] 113

def k0c0 : Code := { maxStack := 0, maxLocals := 1, code := object_method_1_code, exceptionTable := #[], attributes := #[] }
def k0m0 : Method := { name := "<init>", desc := "()V", sig := { parameters := [], returnType := none }, accessFlags := 1, code := some k0c0 }
/-- java/lang/Object -/
def k0 : Class := { plain "java/lang/Object" none with
  accessFlags := 33
  interfaces := #[]
  cf := some (fileOf pool0 8 #[] #[{ accessFlags := 1, nameIndex := 5, descriptorIndex := 6, attributes := #[] }] 33 0 #[] #[])
  fields := #[]
  methods := #[k0m0]
  instanceTypes := #[]
  staticTypes := #[]
  resolved := Array.replicate 124 none
  statics := none }

def pool1 : Array CpInfo := pool [(2, .class_ 4), (1, u "java/lang/Object"), (0, u "<init>"), (0, u "()V"), (0, .long 4194303), (1, .long 4503599627370495), (1, .class_ 12), (0, u "com/example/klepsydra/bench/Run"), (0, .methodref 11 14), (0, .nameAndType 5 15), (0, u "(JJJJJ[J)V"), (0, .methodref 11 17), (0, .nameAndType 18 19), (0, u "perSecond"), (0, u "()J"), (0, .long 1000000000), (1, .long 2), (1, .class_ 25), (0, u "com/example/klepsydra/bench/RunPerSecondPinLaw"), (2, u "law"), (0, u "(JJJJJ)Z")] 3

def k1m0 : Method := { name := "<init>", desc := "()V", sig := { parameters := [], returnType := none }, accessFlags := 2, code := none }
def k1c1 : Code := { maxStack := 13, maxLocals := 21, code := code, exceptionTable := #[], attributes := #[] }
def k1m1 : Method := { name := "law", desc := "(JJJJJ)Z", sig := { parameters := [.long, .long, .long, .long, .long], returnType := some .boolean }, accessFlags := 9, code := some k1c1 }
/-- com/example/klepsydra/bench/RunPerSecondPinLaw -/
def k1 : Class := { plain "com/example/klepsydra/bench/RunPerSecondPinLaw" (some 0) with
  accessFlags := 49
  interfaces := #[]
  cf := some (fileOf pool1 24 #[] #[{ accessFlags := 2, nameIndex := 5, descriptorIndex := 6, attributes := #[] }, { accessFlags := 9, nameIndex := 28, descriptorIndex := 29, attributes := #[] }] 49 2 #[] #[])
  fields := #[]
  methods := #[k1m0, k1m1]
  instanceTypes := #[]
  staticTypes := #[]
  resolved := Array.replicate 33 none
  statics := none }

def pool2 : Array CpInfo := pool [(1, .methodref 2 3), (0, .class_ 4), (0, .nameAndType 5 6), (0, u "java/lang/Object"), (0, u "<init>"), (0, u "()V"), (0, .class_ 8), (0, u "java/lang/Record")] 13

def k2c0 : Code := { maxStack := 1, maxLocals := 1, code := jdk_30_method_1_code, exceptionTable := #[], attributes := #[] }
def k2m0 : Method := { name := "<init>", desc := "()V", sig := { parameters := [], returnType := none }, accessFlags := 4, code := some k2c0 }
/-- java/lang/Record -/
def k2 : Class := { plain "java/lang/Record" (some 0) with
  accessFlags := 1057
  interfaces := #[]
  cf := some (fileOf pool2 7 #[] #[{ accessFlags := 4, nameIndex := 5, descriptorIndex := 6, attributes := #[] }] 1057 2 #[] #[])
  fields := #[]
  methods := #[k2m0]
  instanceTypes := #[]
  staticTypes := #[]
  resolved := Array.replicate 22 none
  statics := none }

def pool3 : Array CpInfo := pool [(1, .methodref 2 3), (0, .class_ 4), (0, .nameAndType 5 6), (0, u "java/lang/Record"), (0, u "<init>"), (0, u "()V"), (0, .fieldref 8 9), (0, .class_ 10), (0, .nameAndType 11 12), (0, u "com/example/klepsydra/bench/Run"), (0, u "decisions"), (0, u "J"), (0, .fieldref 8 14), (0, .nameAndType 15 12), (0, u "refused"), (0, .fieldref 8 17), (0, .nameAndType 18 12), (0, u "degraded"), (0, .fieldref 8 20), (0, .nameAndType 21 12), (0, u "failed"), (0, .fieldref 8 23), (0, .nameAndType 24 12), (0, u "nanos"), (0, .fieldref 8 26), (0, .nameAndType 27 28), (0, u "latencies"), (0, u "[J"), (0, .double 4741671816366391296), (1, .methodref 32 33), (0, .class_ 34), (0, .nameAndType 35 36), (0, u "java/lang/Math"), (0, u "round"), (0, u "(D)J"), (12, u "(JJJJJ[J)V"), (3, u "perSecond"), (0, u "()J")] 29

def k3c0 : Code := { maxStack := 3, maxLocals := 12, code := prog_6_method_1_code, exceptionTable := #[], attributes := #[] }
def k3m0 : Method := { name := "<init>", desc := "(JJJJJ[J)V", sig := { parameters := [.long, .long, .long, .long, .long, (.array .long)], returnType := none }, accessFlags := 0, code := some k3c0 }
def k3c1 : Code := { maxStack := 4, maxLocals := 1, code := prog_6_method_2_code, exceptionTable := #[], attributes := #[] }
def k3m1 : Method := { name := "perSecond", desc := "()J", sig := { parameters := [], returnType := some .long }, accessFlags := 0, code := some k3c1 }
/-- com/example/klepsydra/bench/Run -/
def k3 : Class := { plain "com/example/klepsydra/bench/Run" (some 2) with
  accessFlags := 48
  interfaces := #[]
  cf := some (fileOf pool3 8 #[] #[{ accessFlags := 0, nameIndex := 5, descriptorIndex := 49, attributes := #[] }, { accessFlags := 0, nameIndex := 53, descriptorIndex := 54, attributes := #[] }] 48 2 #[] #[{ accessFlags := 18, nameIndex := 11, descriptorIndex := 12, attributes := #[] }, { accessFlags := 18, nameIndex := 15, descriptorIndex := 12, attributes := #[] }, { accessFlags := 18, nameIndex := 18, descriptorIndex := 12, attributes := #[] }, { accessFlags := 18, nameIndex := 21, descriptorIndex := 12, attributes := #[] }, { accessFlags := 18, nameIndex := 24, descriptorIndex := 12, attributes := #[] }, { accessFlags := 18, nameIndex := 27, descriptorIndex := 28, attributes := #[] }])
  fields := #[{ name := "decisions", type := .long, accessFlags := 18, slot := 0, constantValue := 0 }, { name := "refused", type := .long, accessFlags := 18, slot := 1, constantValue := 0 }, { name := "degraded", type := .long, accessFlags := 18, slot := 2, constantValue := 0 }, { name := "failed", type := .long, accessFlags := 18, slot := 3, constantValue := 0 }, { name := "nanos", type := .long, accessFlags := 18, slot := 4, constantValue := 0 }, { name := "latencies", type := (.array .long), accessFlags := 18, slot := 5, constantValue := 0 }]
  methods := #[k3m0, k3m1]
  instanceTypes := #[.long, .long, .long, .long, .long, (.array .long)]
  staticTypes := #[]
  resolved := Array.replicate 84 none
  statics := none }

def pool4 : Array CpInfo := pool [(1, .class_ 2), (0, u "java/lang/Math"), (1, .class_ 6), (1, u "java/lang/Object"), (0, u "<init>"), (0, u "()V"), (70, .methodref 80 81), (0, .class_ 82), (0, .nameAndType 83 84), (0, u "java/lang/Double"), (0, u "doubleToRawLongBits"), (0, u "(D)J"), (2, .long 9218868437227405312), (1, .long 1074), (1, .long 18446744073709551552), (1, .long 4503599627370495), (1, .long 4503599627370496), (2, .class_ 100), (1, u "java/lang/Math$RandomNumberGeneratorHolder"), (71, u "negativeZeroFloatBits"), (0, u "J"), (2, u "negativeZeroDoubleBits"), (68, u "$assertionsDisabled"), (0, u "Z"), (91, u "twoToTheDoubleScaleDown"), (0, u "D"), (4, u "twoToTheDoubleScaleUp"), (9, u "E"), (3, u "PI"), (2, u "TAU"), (2, u "DEGREES_TO_RADIANS"), (0, u "RADIANS_TO_DEGREES"), (17, u "round")] 76

def k4m0 : Method := { name := "<init>", desc := "()V", sig := { parameters := [], returnType := none }, accessFlags := 2, code := none }
def k4c1 : Code := { maxStack := 4, maxLocals := 10, code := jdk_29_method_22_code, exceptionTable := #[], attributes := #[] }
def k4m1 : Method := { name := "round", desc := "(D)J", sig := { parameters := [.double], returnType := some .long }, accessFlags := 9, code := some k4c1 }
/-- java/lang/Math -/
def k4 : Class := { plain "java/lang/Math" (some 0) with
  accessFlags := 49
  interfaces := #[]
  cf := some (fileOf pool4 1 #[.nestMembers #[98]] #[{ accessFlags := 2, nameIndex := 7, descriptorIndex := 8, attributes := #[] }, { accessFlags := 9, nameIndex := 383, descriptorIndex := 84, attributes := #[] }] 49 4 #[] #[{ accessFlags := 25, nameIndex := 354, descriptorIndex := 339, attributes := #[] }, { accessFlags := 25, nameIndex := 358, descriptorIndex := 339, attributes := #[] }, { accessFlags := 25, nameIndex := 361, descriptorIndex := 339, attributes := #[] }, { accessFlags := 26, nameIndex := 364, descriptorIndex := 339, attributes := #[] }, { accessFlags := 26, nameIndex := 365, descriptorIndex := 339, attributes := #[] }, { accessFlags := 26, nameIndex := 172, descriptorIndex := 173, attributes := #[] }, { accessFlags := 26, nameIndex := 176, descriptorIndex := 173, attributes := #[] }, { accessFlags := 8, nameIndex := 344, descriptorIndex := 339, attributes := #[] }, { accessFlags := 8, nameIndex := 338, descriptorIndex := 339, attributes := #[] }, { accessFlags := 4120, nameIndex := 245, descriptorIndex := 246, attributes := #[] }])
  fields := #[{ name := "E", type := .double, accessFlags := 25, slot := 0, constantValue := 0 }, { name := "PI", type := .double, accessFlags := 25, slot := 1, constantValue := 0 }, { name := "TAU", type := .double, accessFlags := 25, slot := 2, constantValue := 0 }, { name := "DEGREES_TO_RADIANS", type := .double, accessFlags := 26, slot := 3, constantValue := 0 }, { name := "RADIANS_TO_DEGREES", type := .double, accessFlags := 26, slot := 4, constantValue := 0 }, { name := "negativeZeroFloatBits", type := .long, accessFlags := 26, slot := 5, constantValue := 0 }, { name := "negativeZeroDoubleBits", type := .long, accessFlags := 26, slot := 6, constantValue := 0 }, { name := "twoToTheDoubleScaleUp", type := .double, accessFlags := 8, slot := 7, constantValue := 0 }, { name := "twoToTheDoubleScaleDown", type := .double, accessFlags := 8, slot := 8, constantValue := 0 }, { name := "$assertionsDisabled", type := .boolean, accessFlags := 4120, slot := 9, constantValue := 0 }]
  methods := #[k4m0, k4m1]
  instanceTypes := #[]
  staticTypes := #[.double, .double, .double, .double, .double, .long, .long, .double, .double, .boolean]
  resolved := Array.replicate 460 none
  statics := none }

def pool5 : Array CpInfo := pool [(1, .class_ 2), (0, u "java/io/Serializable"), (0, .class_ 4), (0, u "java/lang/Object")] 2

/-- java/io/Serializable -/
def k5 : Class := { plain "java/io/Serializable" (some 0) with
  accessFlags := 1537
  interfaces := #[]
  cf := some (fileOf pool5 1 #[] #[] 1537 3 #[] #[])
  fields := #[]
  methods := #[]
  instanceTypes := #[]
  staticTypes := #[]
  resolved := Array.replicate 7 none
  statics := none }

def pool6 : Array CpInfo := pool [(2, .class_ 4), (1, u "java/lang/Object"), (0, u "<init>"), (0, u "()V"), (1, .class_ 10), (1, u "java/lang/Number"), (2, .class_ 14), (0, u "java/io/Serializable"), (0, u "serialVersionUID"), (0, u "J")] 20

def k6m0 : Method := { name := "<init>", desc := "()V", sig := { parameters := [], returnType := none }, accessFlags := 1, code := none }
/-- java/lang/Number -/
def k6 : Class := { plain "java/lang/Number" (some 0) with
  accessFlags := 1057
  interfaces := #[5]
  cf := some (fileOf pool6 8 #[] #[{ accessFlags := 1, nameIndex := 5, descriptorIndex := 6, attributes := #[] }] 1057 2 #[13] #[{ accessFlags := 26, nameIndex := 15, descriptorIndex := 16, attributes := #[] }])
  fields := #[{ name := "serialVersionUID", type := .long, accessFlags := 26, slot := 0, constantValue := 0 }]
  methods := #[k6m0]
  instanceTypes := #[]
  staticTypes := #[.long]
  resolved := Array.replicate 37 none
  statics := none }

def pool7 : Array CpInfo := pool [(1, .class_ 2), (0, u "java/lang/Comparable"), (0, .class_ 4), (0, u "java/lang/Object")] 7

/-- java/lang/Comparable -/
def k7 : Class := { plain "java/lang/Comparable" (some 0) with
  accessFlags := 1537
  interfaces := #[]
  cf := some (fileOf pool7 1 #[] #[] 1537 3 #[] #[])
  fields := #[]
  methods := #[]
  instanceTypes := #[]
  staticTypes := #[]
  resolved := Array.replicate 12 none
  statics := none }

def pool8 : Array CpInfo := pool [(1, .class_ 2), (0, u "java/lang/constant/Constable"), (0, .class_ 4), (0, u "java/lang/Object")] 6

/-- java/lang/constant/Constable -/
def k8 : Class := { plain "java/lang/constant/Constable" (some 0) with
  accessFlags := 1537
  interfaces := #[]
  cf := some (fileOf pool8 1 #[] #[] 1537 3 #[] #[])
  fields := #[]
  methods := #[]
  instanceTypes := #[]
  staticTypes := #[]
  resolved := Array.replicate 11 none
  statics := none }

def pool9 : Array CpInfo := pool [(1, .class_ 2), (0, u "java/lang/constant/ConstantDesc"), (0, .class_ 4), (0, u "java/lang/Object")] 32

/-- java/lang/constant/ConstantDesc -/
def k9 : Class := { plain "java/lang/constant/ConstantDesc" (some 0) with
  accessFlags := 1537
  interfaces := #[]
  cf := some (fileOf pool9 1 #[] #[] 1537 3 #[] #[])
  fields := #[]
  methods := #[]
  instanceTypes := #[]
  staticTypes := #[]
  resolved := Array.replicate 37 none
  statics := none }

def pool10 : Array CpInfo := pool [(1, .class_ 2), (0, u "java/lang/Double"), (46, u "(D)J"), (64, .class_ 116), (1, u "java/lang/Number"), (3, u "value"), (0, u "D"), (14, u "doubleToRawLongBits"), (36, u "TYPE"), (0, u "Ljava/lang/Class;"), (0, .class_ 176), (0, u "java/lang/Comparable"), (0, .class_ 178), (0, u "java/lang/constant/Constable"), (0, .class_ 180), (0, u "java/lang/constant/ConstantDesc"), (0, u "POSITIVE_INFINITY"), (3, u "NEGATIVE_INFINITY"), (2, u "NaN"), (2, u "MAX_VALUE"), (0, u "MIN_NORMAL"), (0, u "MIN_VALUE"), (2, u "SIZE"), (0, u "I"), (1, u "PRECISION"), (1, u "MAX_EXPONENT"), (1, u "MIN_EXPONENT"), (1, u "BYTES"), (3, u "serialVersionUID"), (0, u "J")] 79

def k10m0 : Method := { name := "doubleToRawLongBits", desc := "(D)J", sig := { parameters := [.double], returnType := some .long }, accessFlags := 265, code := none }
/-- java/lang/Double -/
def k10 : Class := { plain "java/lang/Double" (some 6) with
  accessFlags := 49
  interfaces := #[7, 8, 9]
  cf := some (fileOf pool10 1 #[] #[{ accessFlags := 265, nameIndex := 136, descriptorIndex := 49, attributes := #[] }] 49 114 #[175, 177, 179] #[{ accessFlags := 25, nameIndex := 181, descriptorIndex := 121, attributes := #[] }, { accessFlags := 25, nameIndex := 185, descriptorIndex := 121, attributes := #[] }, { accessFlags := 25, nameIndex := 188, descriptorIndex := 121, attributes := #[] }, { accessFlags := 25, nameIndex := 191, descriptorIndex := 121, attributes := #[] }, { accessFlags := 25, nameIndex := 192, descriptorIndex := 121, attributes := #[] }, { accessFlags := 25, nameIndex := 193, descriptorIndex := 121, attributes := #[] }, { accessFlags := 25, nameIndex := 196, descriptorIndex := 197, attributes := #[] }, { accessFlags := 25, nameIndex := 199, descriptorIndex := 197, attributes := #[] }, { accessFlags := 25, nameIndex := 201, descriptorIndex := 197, attributes := #[] }, { accessFlags := 25, nameIndex := 203, descriptorIndex := 197, attributes := #[] }, { accessFlags := 25, nameIndex := 205, descriptorIndex := 197, attributes := #[] }, { accessFlags := 25, nameIndex := 173, descriptorIndex := 174, attributes := #[] }, { accessFlags := 18, nameIndex := 120, descriptorIndex := 121, attributes := #[] }, { accessFlags := 26, nameIndex := 209, descriptorIndex := 210, attributes := #[] }])
  fields := #[{ name := "POSITIVE_INFINITY", type := .double, accessFlags := 25, slot := 0, constantValue := 0 }, { name := "NEGATIVE_INFINITY", type := .double, accessFlags := 25, slot := 1, constantValue := 0 }, { name := "NaN", type := .double, accessFlags := 25, slot := 2, constantValue := 0 }, { name := "MAX_VALUE", type := .double, accessFlags := 25, slot := 3, constantValue := 0 }, { name := "MIN_NORMAL", type := .double, accessFlags := 25, slot := 4, constantValue := 0 }, { name := "MIN_VALUE", type := .double, accessFlags := 25, slot := 5, constantValue := 0 }, { name := "SIZE", type := .int, accessFlags := 25, slot := 6, constantValue := 0 }, { name := "PRECISION", type := .int, accessFlags := 25, slot := 7, constantValue := 0 }, { name := "MAX_EXPONENT", type := .int, accessFlags := 25, slot := 8, constantValue := 0 }, { name := "MIN_EXPONENT", type := .int, accessFlags := 25, slot := 9, constantValue := 0 }, { name := "BYTES", type := .int, accessFlags := 25, slot := 10, constantValue := 0 }, { name := "TYPE", type := (.object "java/lang/Class"), accessFlags := 25, slot := 11, constantValue := 0 }, { name := "value", type := .double, accessFlags := 18, slot := 0, constantValue := 0 }, { name := "serialVersionUID", type := .long, accessFlags := 26, slot := 12, constantValue := 0 }]
  methods := #[k10m0]
  instanceTypes := #[.double]
  staticTypes := #[.double, .double, .double, .double, .double, .double, .int, .int, .int, .int, .int, (.object "java/lang/Class"), .long]
  resolved := Array.replicate 290 none
  statics := none }

def pool11 : Array CpInfo := pool [(1, u "java/lang/Cloneable"), (0, .class_ 1), (0, u "java/lang/Object"), (0, .class_ 3)] 3

/-- java/lang/Cloneable -/
def k11 : Class := { plain "java/lang/Cloneable" (some 0) with
  accessFlags := 1537
  interfaces := #[]
  cf := some (fileOf pool11 2 #[] #[] 1537 4 #[] #[])
  fields := #[]
  methods := #[]
  instanceTypes := #[]
  staticTypes := #[]
  resolved := Array.replicate 8 none
  statics := none }

/-- the primitive byte -/
def k12 : Class := { plain "byte" none with kind := .primitive 'B', accessFlags := 0x411 }
/-- [B -/
def k13 : Class := { plain "[B" (some 0) with kind := .array 12 .byte, interfaces := #[11, 5], accessFlags := 1041 }

/-- the primitive int -/
def k14 : Class := { plain "int" none with kind := .primitive 'I', accessFlags := 0x411 }
/-- [I -/
def k15 : Class := { plain "[I" (some 0) with kind := .array 14 .int, interfaces := #[11, 5], accessFlags := 1041 }

/-- the primitive long -/
def k16 : Class := { plain "long" none with kind := .primitive 'J', accessFlags := 0x411 }
/-- [J -/
def k17 : Class := { plain "[J" (some 0) with kind := .array 16 .long, interfaces := #[11, 5], accessFlags := 1041 }

def heap : Heap := #[]
def classes : Array Class := #[k0, k1, k2, k3, k4, k5, k6, k7, k8, k9, k10, k11, k12, k13, k14, k15, k16, k17]
def interned : List (Array UInt16 × Addr) := []
def slotsUsed : Nat := 0
def theMethod : MethodId := ⟨1, 1⟩
def args0 : Array Value := #[.long 5, .long 7, .long 1, .long 1, .long 1]
def aboutOver (below : List Frame) : State where
  vm := { classes := classes, interned := interned.toArray }
  heap := heap
  slotsUsed := slotsUsed
  threads := #[{ frames := .invoking theMethod args0 :: below }]
def below0 : List Frame := [.native { method := ⟨0, 0⟩, args := #[] }]
def about1 : State := aboutOver below0
def p0 : Program := .bare "" "" ""
def e0 : Env := launch0.env 0 0 0
theorem w_frames : about1.frames = Frame.invoking theMethod args0 :: below0 := rfl
set_option maxRecDepth 65536 in
theorem w_args : argsFit about1.vm theMethod args0 = true := by decide +kernel
set_option maxRecDepth 65536 in
theorem w_heap : heapFits about1 = true := by decide +kernel
set_option maxRecDepth 65536 in
theorem w_runnable : about1.curStatus? = some .runnable := by decide +kernel
set_option maxRecDepth 65536 in
theorem w_alone : about1.alone = true := by decide +kernel
set_option maxRecDepth 65536 in
theorem w_named : about1.methodNamed? x = some theMethod := by decide +kernel
set_option maxRecDepth 65536 in
theorem w_hears : about1.hears theMethod below0 = true := by decide +kernel
set_option maxRecDepth 65536 in
theorem w_ripe : about1.ripe theMethod args0 below0 = true := by decide +kernel
theorem w_running : about1.status = .running := rfl
set_option maxRecDepth 65536 in
theorem w_room : about1.hasRoom e0.platform room_1 = true :=
  launch0.hasRoom_least _ room_1 (by decide +kernel) (by decide +kernel) (by decide +kernel) (by decide +kernel) (by decide +kernel) (by decide +kernel)
theorem allAtoms_all (ts : List Jvm.Cond) (a : Array Jvm.Value) (st : Jvm.State) : (allAtoms ts).before a st = ts.all (fun c => c.before a st) := by
  induction ts with
  | nil => rfl
  | cons c t ih =>
    show (Jvm.Cond.and c (allAtoms t)).before a st = _
    rw [Jvm.Cond.before_and, ih, List.all_cons]
def words1 : List Jvm.Cond := Jvm.Cond.code x code maxLocals ret :: tables_1
/-- a 'code' word, met by the world's own term for the bytes: nothing is compared byte by byte -/
theorem code_word {y : MethodName} {bytes : ByteArray} {mx : Nat} {rt : Option FieldType} {a : Array Value} {s : State} {m : MethodId} {meth : Method} {c : Code} (h1 : s.methodNamed? y = some m) (h2 : s.vm.method? m = some meth) (h3 : meth.code = some c) (h4 : c.code = bytes)
    (h5 : (c.maxLocals == mx && c.exceptionTable.isEmpty && decide (c.maxStack ≤ mostOperands) && decide (meth.sig.returnType = rt) && !meth.locks && decide (parseMethodDescriptor y.desc = some meth.sig)) = true) : (Jvm.Cond.code y bytes mx rt).before a s = true := by
  simp only [Bool.and_eq_true, beq_iff_eq, Bool.not_eq_true', decide_eq_true_eq] at h5
  obtain ⟨⟨⟨⟨⟨g1, g2⟩, g3⟩, g4⟩, g5⟩, g6⟩ := h5
  simp [Cond.before, Cond.holds, Cond.value, h1, h2, h3, h4, g1, g2, g3, g4, g5, g6]
def isCode : Jvm.Cond → Bool
  | .code _ _ _ _ => true
  | _ => false
theorem all_split {L : List Jvm.Cond} {P : Jvm.Cond → Bool} (h1 : L.all (fun c => isCode c || P c) = true) (h2 : ∀ c ∈ L.filter isCode, P c = true) : L.all P = true := by
  refine List.all_eq_true.mpr fun c hc => ?_
  have h := List.all_eq_true.mp h1 c hc
  rcases Bool.eq_false_or_eq_true (isCode c) with hi | hi
  · exact h2 c (List.mem_filter.mpr ⟨hc, hi⟩)
  · simpa [hi] using h
set_option maxRecDepth 65536 in
theorem w_c0 : (Jvm.Cond.code x code maxLocals ret).before args0 about1 = true := code_word (m := ⟨1, 1⟩) (meth := k1m1) (c := k1c1) (by decide +kernel) rfl rfl rfl (by decide +kernel)
set_option maxRecDepth 65536 in
theorem w_c1 : (Jvm.Cond.code ({ cls := "com/example/klepsydra/bench/Run", name := "<init>", desc := "(JJJJJ[J)V" } : Jvm.MethodName) prog_6_method_1_code (12 : Nat) (Option.none : Option Jvm.ClassFile.FieldType)).before args0 about1 = true := code_word (m := ⟨3, 0⟩) (meth := k3m0) (c := k3c0) (by decide +kernel) rfl rfl rfl (by decide +kernel)
set_option maxRecDepth 65536 in
theorem w_c2 : (Jvm.Cond.code ({ cls := "java/lang/Record", name := "<init>", desc := "()V" } : Jvm.MethodName) jdk_30_method_1_code (1 : Nat) (Option.none : Option Jvm.ClassFile.FieldType)).before args0 about1 = true := code_word (m := ⟨2, 0⟩) (meth := k2m0) (c := k2c0) (by decide +kernel) rfl rfl rfl (by decide +kernel)
set_option maxRecDepth 65536 in
theorem w_c3 : (Jvm.Cond.code ({ cls := "java/lang/Object", name := "<init>", desc := "()V" } : Jvm.MethodName) object_method_1_code (1 : Nat) (Option.none : Option Jvm.ClassFile.FieldType)).before args0 about1 = true := code_word (m := ⟨0, 0⟩) (meth := k0m0) (c := k0c0) (by decide +kernel) rfl rfl rfl (by decide +kernel)
set_option maxRecDepth 65536 in
theorem w_c4 : (Jvm.Cond.code ({ cls := "com/example/klepsydra/bench/Run", name := "perSecond", desc := "()J" } : Jvm.MethodName) prog_6_method_2_code (1 : Nat) (Option.some Jvm.ClassFile.FieldType.long)).before args0 about1 = true := code_word (m := ⟨3, 1⟩) (meth := k3m1) (c := k3c1) (by decide +kernel) rfl rfl rfl (by decide +kernel)
set_option maxRecDepth 65536 in
theorem w_c5 : (Jvm.Cond.code ({ cls := "java/lang/Math", name := "round", desc := "(D)J" } : Jvm.MethodName) jdk_29_method_22_code (10 : Nat) (Option.some Jvm.ClassFile.FieldType.long)).before args0 about1 = true := code_word (m := ⟨4, 1⟩) (meth := k4m1) (c := k4c1) (by decide +kernel) rfl rfl rfl (by decide +kernel)
def codes1 : List Jvm.Cond := [Jvm.Cond.code x code maxLocals ret, Jvm.Cond.code ({ cls := "com/example/klepsydra/bench/Run", name := "<init>", desc := "(JJJJJ[J)V" } : Jvm.MethodName) prog_6_method_1_code (12 : Nat) (Option.none : Option Jvm.ClassFile.FieldType), Jvm.Cond.code ({ cls := "java/lang/Record", name := "<init>", desc := "()V" } : Jvm.MethodName) jdk_30_method_1_code (1 : Nat) (Option.none : Option Jvm.ClassFile.FieldType), Jvm.Cond.code ({ cls := "java/lang/Object", name := "<init>", desc := "()V" } : Jvm.MethodName) object_method_1_code (1 : Nat) (Option.none : Option Jvm.ClassFile.FieldType), Jvm.Cond.code ({ cls := "com/example/klepsydra/bench/Run", name := "perSecond", desc := "()J" } : Jvm.MethodName) prog_6_method_2_code (1 : Nat) (Option.some Jvm.ClassFile.FieldType.long), Jvm.Cond.code ({ cls := "java/lang/Math", name := "round", desc := "(D)J" } : Jvm.MethodName) jdk_29_method_22_code (10 : Nat) (Option.some Jvm.ClassFile.FieldType.long)]
set_option maxRecDepth 65536 in
theorem codes_eq : words1.filter isCode = codes1 := rfl
theorem w_codes : ∀ c ∈ words1.filter isCode, c.before args0 about1 = true := by
  rw [codes_eq]
  intro c hc
  simp only [codes1, List.mem_cons, List.not_mem_nil, or_false] at hc
  rcases hc with rfl | rfl | rfl | rfl | rfl | rfl
  · exact w_c0
  · exact w_c1
  · exact w_c2
  · exact w_c3
  · exact w_c4
  · exact w_c5
set_option maxRecDepth 65536 in
theorem w_t1 : (words1.take 24).all (fun c => isCode c || c.before args0 about1) = true := by decide +kernel
set_option maxRecDepth 65536 in
theorem w_t2 : ((words1.drop 24).take 24).all (fun c => isCode c || c.before args0 about1) = true := by decide +kernel
set_option maxRecDepth 65536 in
theorem w_t3 : ((words1.drop 24).drop 24).all (fun c => isCode c || c.before args0 about1) = true := by decide +kernel
theorem w_tables : (allAtoms (Jvm.Cond.code x code maxLocals ret :: tables_1)).before args0 about1 = true := by
  rw [allAtoms_all]
  show words1.all (fun c => c.before args0 about1) = true
  refine all_split ?_ w_codes
  rw [← List.take_append_drop 24 words1, List.all_append, w_t1, ← List.take_append_drop 24 (words1.drop 24), List.all_append, w_t2, w_t3]
  rfl
set_option maxRecDepth 65536 in
theorem w_case : (Jvm.Cond.and given_1 narrow_1).before args0 about1 = true := by decide +kernel
theorem w_applies : (headSpec (Jvm.Cond.code x code maxLocals ret :: tables_1) room_1).applies x e0.platform about1 = true :=
  (Spec.applies_iff w_frames).mpr ⟨w_running, w_runnable, w_alone, w_named, w_hears, w_ripe, w_room, w_tables⟩
theorem atStart : AtStart classFile x code maxLocals ret World_1 tables_1 room_1 Calls_1 rest_1 Pre_1 launch0 p0 e0 about1 theMethod args0 below0 :=
  ⟨lists_1, trivial, launch0.admits_env _ _ _, launch0.least_env, fairChoices_fair.cas, fairChoices_fair.clock, w_frames, w_args, w_heap, w_applies, trivial, trivial, w_case⟩
end start1
theorem witness_1 : WitnessClaimed_1 := ⟨start1.p0, start1.e0, start1.about1, start1.theMethod, start1.args0, start1.below0, start1.atStart⟩
end Jvm.Pilot.@@N@@
