/- The numbers that sort.Sort reckons by: bits.Len, nextPowerOfTwo, xorshift.Next. -/
import Derived.Test.YtgdjfgbipmajmaaSVE
import Derived.Sort.LotD5
import Derived.Laws.Bits64
import Derived.Laws.Bits64b
import Derived.Test.YtgdjfgbipmajmaaBits
namespace Go.Nl
open Go.RowKit Go.Sort Go.Proofs

theorem bitLen_bits (x : Nat) (h : x < 2 ^ 64) : Lib.bitLen x = bitsLen x := by
  induction x using Nat.strongRecOn with
  | _ x ih =>
    by_cases h0 : x = 0
    · subst h0; rfl
    · rw [Lib.bitLen_half x h0 h, ih (x / 2) (by omega) (by omega)]
      unfold bitsLen
      rw [if_neg h0, Nat.log2_def x]
      by_cases h2 : 2 ≤ x
      · rw [if_pos h2, if_neg (by omega)]; omega
      · obtain rfl : x = 1 := by omega
        simp

theorem bitsLen_any (n : Nat) (hn : n < 4611686018427387904) (w : World) :
    Calls Try.prog 86 #[.int .u64 n] w fun e w' => e = .returned (.int .i64 (bitsLen n : Nat)) ∧ w' = w := by
  have h : ∀ w, Calls Try.prog 94 #[.int .u64 (n : Int)] w fun e w' => e = .returned (.int .i64 (bitsLen n : Nat)) ∧ w' = w := fun w => by
    have h := len64_any (n : Int) w (by omega) (by omega)
    rwa [Int.toNat_natCast, bitLen_bits _ (by omega)] at h
  generalize bitsLen n = q at *
  go_enter Try.func86, Try.ntmps86
  go_wp2_with (go_at_call 94; refine (h _).mono ?_; rintro e w' ⟨rfl, rfl⟩)
  go_ret
  exact ⟨rfl, rfl⟩

theorem wrap_pow (k : Nat) (hk : k ≤ 62) : IntKind.u64.wrap ((2 : Int) ^ k) = ((1 <<< k : Nat) : Int) := by
  have h : (2 : Nat) ^ k ≤ 2 ^ 62 := Nat.pow_le_pow_right (by decide) hk
  rw [IntKind.wrap_u64, Nat.one_shiftLeft, show ((2 : Int) ^ k) = ((2 ^ k : Nat) : Int) by push_cast; rfl]
  generalize (2 : Nat) ^ k = p at h
  omega

/-- nextPowerOfTwo: some number above n, at most twice it. -/
theorem nextPow_any (n : Nat) (h0 : 0 < n) (hn : n ≤ 1048576) (w : World) :
    Calls Try.prog 106 #[.int .i64 n] w fun e w' => ∃ M : Nat, e = .returned (.int .u64 M) ∧ 1 ≤ M ∧ M ≤ 2 * n ∧ w' = w := by
  have hLen := fun w => bitsLen_any n (by omega) w
  have hk : bitsLen n ≤ 62 := (bitsLen_le_iff n 62).2 (by omega)
  have hp := wrap_pow (bitsLen n) hk
  have hM1 : 1 ≤ 1 <<< bitsLen n := by rw [Nat.one_shiftLeft]; exact Nat.two_pow_pos _
  have hM2 : 1 <<< bitsLen n ≤ 2 * n := by rw [Nat.one_shiftLeft]; exact two_pow_bitsLen_le h0
  generalize bitsLen n = q at *
  go_enter Try.func106, Try.ntmps106
  go_wp2_with (go_at_call 86; refine (hLen _).mono ?_; rintro e w' ⟨rfl, rfl⟩)
  go_ret
  exact ⟨_, rfl, hM1, hM2, rfl⟩

theorem setCell_twice (w : World) (blk off : Nat) (v v' : Value) : (w.setCell ⟨blk, off, none⟩ v).setCell ⟨blk, off, none⟩ v' = w.setCell ⟨blk, off, none⟩ v' := by
  rw [setCell_eq, setCell_eq, mapBlock_mapBlock, setCell_eq]
  congr 1
  funext c
  simp

theorem xorNext_any (rb X : Nat) (hX : X < 18446744073709551616) (w : World) (hc : w.cell? ⟨rb, 0, none⟩ = some (.int .u64 X)) (hf : w.frozen? ⟨rb, 0, none⟩ = false) :
    Calls Try.prog 107 #[.pointer (some ⟨rb, 0, none⟩)] w fun e w' => e = .returned (.int .u64 (xorNextN X : Nat)) ∧ w' = (w.setCell ⟨rb, 0, none⟩ (.int .u64 (xorNextN X : Nat))).drewN 3 := by
  obtain ⟨A, hA⟩ : ∃ A : Nat, A = X ^^^ (X * 8192 % 18446744073709551616) := ⟨_, rfl⟩
  obtain ⟨B, hB⟩ : ∃ B : Nat, B = A ^^^ (A / 128) := ⟨_, rfl⟩
  obtain ⟨C, hC⟩ : ∃ C : Nat, C = B ^^^ (B * 131072 % 18446744073709551616) := ⟨_, rfl⟩
  have lA : A < 18446744073709551616 := by rw [hA]; exact Nat.xor_lt_two_pow (n := 64) (by omega) (by omega)
  have lB : B < 18446744073709551616 := by rw [hB]; exact Nat.xor_lt_two_pow (n := 64) (by omega) (by omega)
  have e1 : bits .xor .u64 (X : Int) (IntKind.u64.wrap ((X : Int) * 8192)) = (A : Int) := by
    rw [IntKind.wrap_u64, show ((X : Int) * 8192 % 18446744073709551616) = ((X * 8192 % 18446744073709551616 : Nat) : Int) by omega, bits_xor_u64_nat _ _ hX (by omega), hA]
  have e2 : bits .xor .u64 (A : Int) ((A : Int) / 128) = (B : Int) := by
    rw [show ((A : Int) / 128) = ((A / 128 : Nat) : Int) by omega, bits_xor_u64_nat _ _ lA (by omega), hB]
  have e3 : bits .xor .u64 (B : Int) (IntKind.u64.wrap ((B : Int) * 131072)) = (C : Int) := by
    rw [IntKind.wrap_u64, show ((B : Int) * 131072 % 18446744073709551616) = ((B * 131072 % 18446744073709551616 : Nat) : Int) by omega, bits_xor_u64_nat _ _ lB (by omega), hC]
  have hv : xorNextN X = C := by unfold xorNextN; simp only []; rw [← hA, ← hB, ← hC]
  rw [hv]
  clear hA hB hC hv
  have hss : ∀ v v', (w.setCell ⟨rb, 0, none⟩ v).setCell ⟨rb, 0, none⟩ v' = w.setCell ⟨rb, 0, none⟩ v' := setCell_twice w rb 0
  go_enter Try.func107, Try.ntmps107
  go_wp2
  go_region
  all_goals go_wp2
  all_goals go_region
  all_goals go_wp2
  all_goals go_region
  all_goals go_wp2
  go_ret
  exact ⟨rfl, rfl⟩

end Go.Nl
