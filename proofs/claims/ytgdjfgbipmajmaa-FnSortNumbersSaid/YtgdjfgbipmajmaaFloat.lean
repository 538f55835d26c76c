/- Plain laws of float32 at whole numbers below 2^24: twice such a number, and a quarter of it, cut. -/
import Derived.Laws.FloatArith
namespace Go.Nl
open Ieee

theorem read_num (e k : Nat) (he : e ≤ 253) (h1 : 8388608 ≤ k) (h2 : k < 16777216) : single.read (e * 8388608 + k) = .number false k ((e : Int) - 149) := by
  have hb : single.binade = 8388608 := by decide
  have hi : single.infRung = 2139095040 := by decide
  have hs : single.signWeight = 2147483648 := by decide
  have hp : single.leastPlace = -149 := by decide
  have e0 : (e * 8388608 + k) / 2147483648 = 0 := by omega
  have e1 : (e * 8388608 + k) % 2147483648 = e * 8388608 + k := by omega
  unfold Format.read
  simp only [hb, hi, hs, hp, e0, e1]
  rw [if_neg (by omega), if_pos (by omega)]
  have e2 : (e * 8388608 + k) / 8388608 - 1 = e := by omega
  have e3 : 8388608 + (e * 8388608 + k) % 8388608 = k := by omega
  rw [e2, e3, show (0 % 2 == 1) = false from rfl, show (-149 : Int) + (e : Int) = (e : Int) - 149 by omega]

theorem log2_mul_pow (k s : Nat) (h1 : 8388608 ≤ k) (h2 : k < 16777216) : (k * 2 ^ s).log2 = 23 + s := by
  have h0 : k * 2 ^ s ≠ 0 := by
    have := Nat.pow_pos (n := s) (show 0 < 2 by omega)
    exact Nat.ne_of_gt (Nat.mul_pos (by omega) this)
  rw [Nat.log2_eq_iff h0]
  constructor
  · rw [Nat.pow_add]; exact Nat.mul_le_mul (by omega) (Nat.le_refl _)
  · rw [show 23 + s + 1 = 24 + s by omega, Nat.pow_add]
    exact Nat.mul_lt_mul_of_pos_right (by omega) (Nat.pow_pos (by omega))

theorem cut_even_exact (k s : Nat) (h : s ≤ 23 + s + 2) (hl : (k * 2 ^ s).log2 = 23 + s) : Toward.even.cut false (k * 2 ^ s) s = k := by
  unfold Toward.cut
  rw [hl, Nat.min_eq_left h, Nat.shiftLeft_eq, Nat.one_mul]
  have hp : 0 < 2 ^ s := Nat.pow_pos (by omega)
  simp only [Nat.mul_mod_left, Nat.mul_div_cancel _ hp]
  have e1 : (decide (2 ^ s < 2 * 0) || (2 ^ s == 2 * 0 && k % 2 == 1)) = false := by
    rw [Bool.or_eq_false_iff]
    refine ⟨decide_eq_false (by omega), ?_⟩
    rw [Bool.and_eq_false_iff]
    exact Or.inl (beq_eq_false_iff_ne.2 (by omega))
  rw [e1]
  rfl

theorem write_num (k s : Nat) (p : Int) (h1 : 8388608 ≤ k) (h2 : k < 16777216) (hp : -149 ≤ p + s) (hq : p + s ≤ 100) :
    single.write (.number false (k * 2 ^ s) p) = (p + s + 149).toNat * 8388608 + k := by
  have hb : single.binade = 8388608 := by decide
  have hi : single.infRung = 2139095040 := by decide
  have hpl : single.leastPlace = -149 := by decide
  have hf : single.fractionBits = 23 := by decide
  have hl := log2_mul_pow k s h1 h2
  have h0 : k * 2 ^ s ≠ 0 := by
    have := Nat.pow_pos (n := s) (show 0 < 2 by omega)
    exact Nat.ne_of_gt (Nat.mul_pos (by omega) this)
  unfold Format.write Format.nearest
  simp only [hb, hi, hpl, hf, hl]
  rw [if_neg h0]
  have e1 : max (p + ((23 + s : Nat) : Int) - ((23 : Nat) : Int)) (-149) = p + s := by omega
  rw [e1, show (p - (p + s)).toNat = 0 by omega, show (p + (s : Int) - p).toNat = s by omega, Nat.shiftLeft_zero, cut_even_exact k s (by omega) hl]
  unfold Format.word
  simp only [Bool.false_eq_true, if_false]
  rw [show p + (s : Int) - -149 = p + s + 149 by omega]
  have hz : (p + (s : Int) + 149).toNat ≤ 249 := by omega
  generalize (p + (s : Int) + 149).toNat = z at hz ⊢
  exact Nat.min_eq_left (by omega)

/-- The float of a whole number below 2^24: its significand and its place. -/
theorem near_num (n : Nat) (h0 : 0 < n) (h : n < 16777216) : ∃ l k, l ≤ 23 ∧ 8388608 ≤ k ∧ k < 16777216 ∧ k = n * 2 ^ (23 - l) ∧ FloatKind.f32.nearest (n : Int) = (l + 126) * 8388608 + k := by
  have hb : single.binade = 8388608 := by decide
  have hi : single.infRung = 2139095040 := by decide
  have hpl : single.leastPlace = -149 := by decide
  have hf : single.fractionBits = 23 := by decide
  have hne : n ≠ 0 := by omega
  have h3 := Nat.log2_self_le hne
  have h4 := @Nat.lt_log2_self n
  have hl : n.log2 ≤ 23 := by
    have h5 : n.log2 < 24 := (Nat.log2_lt hne).2 (by omega)
    omega
  generalize hll : n.log2 = l at *
  have k1 : 8388608 ≤ n * 2 ^ (23 - l) := by
    have := Nat.mul_le_mul_right (2 ^ (23 - l)) h3
    rw [← Nat.pow_add, show l + (23 - l) = 23 by omega] at this
    omega
  have k2 : n * 2 ^ (23 - l) < 16777216 := by
    have := Nat.mul_lt_mul_of_pos_right h4 (Nat.pow_pos (n := 23 - l) (show 0 < 2 by omega))
    rw [← Nat.pow_add, show l + 1 + (23 - l) = 24 by omega] at this
    omega
  refine ⟨l, n * 2 ^ (23 - l), hl, k1, k2, rfl, ?_⟩
  unfold FloatKind.nearest FloatKind.encode FloatKind.format
  rw [show ((n : Int).natAbs) = n from rfl, show (decide ((n : Int) < 0)) = false from decide_eq_false (by omega)]
  unfold Format.write Format.nearest
  simp only [hb, hi, hpl, hf, hll]
  rw [if_neg hne]
  have e1 : max ((0 : Int) + ((l : Nat) : Int) - ((23 : Nat) : Int)) (-149) = (l : Int) - 23 := by omega
  rw [e1, show ((0 : Int) - ((l : Int) - 23)).toNat = 23 - l by omega, show ((l : Int) - 23 - 0).toNat = 0 by omega, Nat.shiftLeft_eq]
  have hc : Toward.even.cut false (n * 2 ^ (23 - l)) 0 = n * 2 ^ (23 - l) := by
    have := cut_even_exact (n * 2 ^ (23 - l)) 0 (by omega) (log2_mul_pow _ 0 k1 k2)
    simpa using this
  rw [hc]
  unfold Format.word
  simp only [Bool.false_eq_true, if_false]
  rw [show ((l : Int) - 23 - -149).toNat = l + 126 by omega]
  generalize n * 2 ^ (23 - l) = z at k1 k2 ⊢
  exact Nat.min_eq_left (by omega)

theorem cut_zero (k d : Nat) (h1 : 8388608 ≤ k) (h2 : k < 16777216) (hd : d ≤ 25) : Toward.zero.cut false k d = k / 2 ^ d := by
  unfold Toward.cut
  have hl := log2_mul_pow k 0 h1 h2
  rw [Nat.pow_zero, Nat.mul_one] at hl
  rw [hl, Nat.min_eq_left (by omega), Nat.shiftLeft_eq, Nat.one_mul]
  simp

theorem toInt_num (k : Nat) (p : Int) (h1 : 8388608 ≤ k) (h2 : k < 16777216) (hp : -25 ≤ p) (hq : p ≤ 0) : (Datum.number false k p).toInt .zero = some ((k / 2 ^ (-p).toNat : Nat) : Int) := by
  unfold Datum.toInt Datum.integral
  simp only []
  rw [show p.toNat = 0 by omega, Nat.shiftLeft_zero, cut_zero k _ h1 h2 (by omega)]
  unfold signed
  simp

theorem toInt_num1 (k : Nat) (h1 : 8388608 ≤ k) (h2 : k < 16777216) : (Datum.number false k 1).toInt .zero = some ((2 * k : Nat) : Int) := by
  unfold Datum.toInt Datum.integral
  simp only []
  have e : Toward.zero.cut false (k <<< (1 : Int).toNat) (-(1 : Int)).toNat = 2 * k := by
    unfold Toward.cut
    have hl := log2_mul_pow k 1 h1 h2
    rw [show (-(1 : Int)).toNat = 0 from rfl, show (1 : Int).toNat = 1 from rfl, Nat.shiftLeft_eq]
    simp
    omega
  rw [e]
  unfold signed
  simp

theorem ftiv {src : FloatKind} {bits : Nat} {dst : IntKind} {n : Int} (h : (src.decode bits).toInt .zero = some n) (hb : dst.min ≤ n ∧ n ≤ dst.max) : floatToIntVal src bits dst = some n := by
  unfold floatToIntVal
  rw [h]
  simp only []
  rw [if_pos hb]

/-- 2.0 * float32(n). -/
def twiceBits (n : Nat) : Nat := (floatBits .mul .f32 1073741824 (FloatKind.f32.nearest (n : Int))).getD 0
/-- float32(n) * 0.25. -/
def quarterBits (n : Nat) : Nat := (floatBits .mul .f32 (FloatKind.f32.nearest (n : Int)) 1048576000).getD 0

theorem twice_ok (n : Nat) (h : n < 8388608) : floatBits .mul .f32 1073741824 (FloatKind.f32.nearest (n : Int)) = some (twiceBits n) ∧ floatToIntVal .f32 (twiceBits n) .i64 = some ((2 * n : Nat) : Int) := by
  have hmm : IntKind.i64.min = -9223372036854775808 ∧ IntKind.i64.max = 9223372036854775807 := by decide
  by_cases h0 : n = 0
  · subst h0
    constructor
    · unfold twiceBits; decide +kernel
    · decide +kernel
  · obtain ⟨l, k, hl, k1, k2, hk, hn⟩ := near_num n (by omega) (by omega)
    have hm : floatBits .mul .f32 1073741824 (FloatKind.f32.nearest (n : Int)) = some ((l + 127) * 8388608 + k) := by
      have e : ∀ x, floatBits .mul .f32 1073741824 x = ((single.read 1073741824).product (single.read x)).map single.write := fun _ => rfl
      rw [e, hn]
      rw [read_num (l + 126) k (by omega) k1 k2]
      have e0 : single.read 1073741824 = .number false 8388608 (-22) := by
        have := read_num 127 8388608 (by omega) (by omega) (by omega)
        simpa using this
      rw [e0]
      unfold Datum.product
      simp only [Bool.xor_false, Option.map_some]
      rw [show (8388608 : Nat) * k = k * 2 ^ 23 by omega]
      rw [write_num k 23 ((-22 : Int) + (((l + 126 : Nat) : Int) - 149)) k1 k2 (by omega) (by omega)]
      rw [show ((-22 : Int) + (((l + 126 : Nat) : Int) - 149) + ((23 : Nat) : Int) + 149).toNat = l + 127 by omega]
    have ht : twiceBits n = (l + 127) * 8388608 + k := by unfold twiceBits; simp only [hm, Option.getD_some]
    refine ⟨by rw [ht]; exact hm, ?_⟩
    rw [ht]
    have hti : ((FloatKind.f32.decode ((l + 127) * 8388608 + k)).toInt .zero) = some ((2 * n : Nat) : Int) := by
      have e : ∀ x, FloatKind.f32.decode x = single.read x := fun _ => rfl
      rw [e, read_num (l + 127) k (by omega) k1 k2]
      by_cases hl23 : l = 23
      · subst hl23
        rw [show (((23 + 127 : Nat) : Int) - 149) = 1 by omega, toInt_num1 k k1 k2]
        rw [hk]; simp
      · rw [toInt_num k (((l + 127 : Nat) : Int) - 149) k1 k2 (by omega) (by omega), show (-(((l + 127 : Nat) : Int) - 149)).toNat = 22 - l by omega, hk,
          show 23 - l = 1 + (22 - l) by omega, Nat.pow_add, ← Nat.mul_assoc, Nat.mul_div_cancel _ (Nat.pow_pos (by omega))]
        have e : n * 2 ^ 1 = 2 * n := by omega
        rw [e]
    have hb : IntKind.i64.min ≤ ((2 * n : Nat) : Int) ∧ ((2 * n : Nat) : Int) ≤ IntKind.i64.max := by rw [hmm.1, hmm.2]; omega
    exact ftiv hti hb

theorem quarter_ok (n : Nat) (h : n < 16777216) : floatBits .mul .f32 (FloatKind.f32.nearest (n : Int)) 1048576000 = some (quarterBits n) ∧ floatToIntVal .f32 (quarterBits n) .i64 = some ((n / 4 : Nat) : Int) := by
  have hmm : IntKind.i64.min = -9223372036854775808 ∧ IntKind.i64.max = 9223372036854775807 := by decide
  by_cases h0 : n = 0
  · subst h0
    constructor
    · unfold quarterBits; decide +kernel
    · decide +kernel
  · obtain ⟨l, k, hl, k1, k2, hk, hn⟩ := near_num n (by omega) (by omega)
    have hm : floatBits .mul .f32 (FloatKind.f32.nearest (n : Int)) 1048576000 = some ((l + 124) * 8388608 + k) := by
      have e : ∀ x, floatBits .mul .f32 x 1048576000 = ((single.read x).product (single.read 1048576000)).map single.write := fun _ => rfl
      rw [e, hn]
      rw [read_num (l + 126) k (by omega) k1 k2]
      have e0 : single.read 1048576000 = .number false 8388608 (-25) := by
        have := read_num 124 8388608 (by omega) (by omega) (by omega)
        simpa using this
      rw [e0]
      unfold Datum.product
      simp only [Bool.xor_false, Option.map_some]
      rw [show k * 8388608 = k * 2 ^ 23 by omega]
      rw [write_num k 23 ((((l + 126 : Nat) : Int) - 149) + (-25 : Int)) k1 k2 (by omega) (by omega)]
      rw [show ((((l + 126 : Nat) : Int) - 149) + (-25 : Int) + ((23 : Nat) : Int) + 149).toNat = l + 124 by omega]
    have ht : quarterBits n = (l + 124) * 8388608 + k := by unfold quarterBits; simp only [hm, Option.getD_some]
    refine ⟨by rw [ht]; exact hm, ?_⟩
    rw [ht]
    have hti : ((FloatKind.f32.decode ((l + 124) * 8388608 + k)).toInt .zero) = some ((n / 4 : Nat) : Int) := by
      have e : ∀ x, FloatKind.f32.decode x = single.read x := fun _ => rfl
      rw [e, read_num (l + 124) k (by omega) k1 k2]
      rw [toInt_num k (((l + 124 : Nat) : Int) - 149) k1 k2 (by omega) (by omega), show (-(((l + 124 : Nat) : Int) - 149)).toNat = 25 - l by omega, hk,
        show 25 - l = (23 - l) + 2 by omega, Nat.pow_add, Nat.mul_comm (2 ^ (23 - l)) (2 ^ 2), Nat.mul_div_mul_right _ _ (Nat.pow_pos (by omega))]
    have hb : IntKind.i64.min ≤ ((n / 4 : Nat) : Int) ∧ ((n / 4 : Nat) : Int) ≤ IntKind.i64.max := by rw [hmm.1, hmm.2]; omega
    exact ftiv hti hb
end Go.Nl
