/- The iterator's small functions: where a level begins and ends; size, empty, index. -/
import Derived.Test.YtgdjfgbipmajmaaLevels
namespace Go.Nl
open Go.RowKit Go.Sort Go.Proofs

/-- How many bits a number has. -/
def bl (n : Nat) : Nat := if n = 0 then 0 else Nat.log2 n + 1

theorem bl_half {n : Nat} (h : n ≠ 0) : bl n = bl (n / 2) + 1 := by
  unfold bl
  rw [if_neg h]
  by_cases h2 : 2 ≤ n
  · rw [if_neg (by omega), Nat.log2_def, if_pos h2]
  · obtain rfl : n = 1 := by omega
    rfl

theorem numBits_any (n : Nat) (w : World) (hn : n ≤ 4194304) :
    Calls Try.prog 138 #[.int .i64 n] w fun e w' => e = .returned (.int .u64 (bl n)) ∧ w = w' := by
  go_enter Try.func138, Try.ntmps138
  go_wp2_with fail
  go_loopg [0, 3] (n + 1) (fun gg s0 s3 wr => ∃ m c : Nat, s0 = .int .i64 m ∧ s3 = .int .u64 c ∧ m ≤ n ∧ c + m ≤ n ∧ m + 1 ≤ gg ∧ Hid (c + bl m = bl n) ∧ w = wr)
  case atStart => exact ⟨n, 0, rfl, rfl, by omega, by omega, by omega, (show _ + _ = _ from by omega), rfl⟩
  case round =>
    obtain ⟨m, c, rfl, rfl, hm, hc, hg, HB, rfl⟩ := hrel
    by_cases h0 : m = 0
    · subst h0
      go_wp2_with fail
      go_ret
      exact ⟨by rw [← HB.out]; rfl, rfl⟩
    · have hh := bl_half h0
      have HH := Lib.hid hh; clear hh
      have h0' : ((m : Int) != 0) = true := by simp; omega
      go_wp2_with fail
      go_roundg (m / 2 + 1)
      case measure => omega
      case rel => exact ⟨m / 2, c + 1, by go_num, by go_num, by omega, by omega, by omega, (show _ + _ = _ from by have := HB.out; rw [HH.out] at this; omega), rfl⟩

/-- Where the level of a place begins, and where it ends. -/
theorem range_any (k : Nat) (w : World) (hk : k ≤ 2097152) :
    Calls Try.prog 137 #[.int .i64 k] w fun e w' => e = .returned (.tuple #[.int .i64 (lvStart k), .int .i64 ((2 ^ Nat.log2 (k + 1) - 1 + 2 ^ Nat.log2 (k + 1) : Nat))]) ∧ w = w' := by
  have hn := fun w => numBits_any (k + 1) w (by omega)
  unfold bl at hn
  rw [if_neg (by omega)] at hn
  have hlt : Nat.log2 (k + 1) < 22 := (Nat.log2_lt (by omega)).2 (by omega)
  have hp := lv_bounds k
  unfold lvStart at hp ⊢
  generalize Nat.log2 (k + 1) = b at *
  have hle : 2 ^ b ≤ 2 ^ 22 := Nat.pow_le_pow_right (by omega) (by omega)
  obtain ⟨P, hP⟩ : ∃ P : Nat, 2 ^ b = P := ⟨_, rfl⟩
  rw [hP] at hp hle ⊢
  have HN := Lib.hid hn; have HP := Lib.hid hP; clear hn hP
  go_enter Try.func137, Try.ntmps137
  go_wp2_with fail
  refine (HN.out _).mono ?_
  rintro e w' ⟨rfl, rfl⟩
  go_wp2_with fail
  go_ret2
  have e0 : (2 : Int) ^ b = (P : Int) := by rw [← HP.out]; simp
  have e1 : wrap64 ((2 : Int) ^ b) = (P : Int) := by rw [e0]; exact IntWalk.wrap64_in _ (by omega)
  have e2 : wrap64 ((P : Int) - 1) = ((P - 1 : Nat) : Int) := by rw [IntWalk.wrap64_in _ (by omega)]; omega
  have e3 : wrap64 (((P - 1 : Nat) : Int) + (P : Int)) = ((P - 1 + P : Nat) : Int) := by rw [IntWalk.wrap64_in _ (by omega)]; omega
  refine ⟨?_, rfl⟩
  simp [e1, e2, e3]

section
variable {w : World} {hb lb : Nat} {ao : Option Nat} {c ob : Nat} {kind m : Int} {d : Array Int}

theorem heapSize_any (h : HO w hb lb ao c ob kind m d) : Calls Try.prog 129 #[.pointer (some ⟨hb, 0, none⟩)] w fun e w' => e = .returned (.int .i64 d.size) ∧ w = w' := by
  have c0 := h.c0
  have hs := size_any lb d.size w h.heap.list.sizeCell
  have HS := Lib.hid hs; clear hs h
  go_enter Try.func129, Try.ntmps129
  go_wp2_with fail
  refine HS.out.mono ?_
  rintro e w' ⟨rfl, rfl⟩
  go_wp2_with fail
  go_ret
  exact ⟨rfl, rfl⟩

theorem heapEmpty_any (h : HO w hb lb ao c ob kind m d) : Calls Try.prog 128 #[.pointer (some ⟨hb, 0, none⟩)] w fun e w' => e = .returned (.bool ((d.size : Int) == 0)) ∧ w = w' := by
  have c0 := h.c0
  have hs := empty_any lb d.size w h.heap.list.sizeCell
  have HS := Lib.hid hs; clear hs h
  go_enter Try.func128, Try.ntmps128
  go_wp2_with fail
  refine HS.out.mono ?_
  rintro e w' ⟨rfl, rfl⟩
  go_wp2_with fail
  go_ret
  exact ⟨rfl, rfl⟩

/-- An iterator lies in block ib: over the heap in block hb, at place i. -/
def IterAt (w : World) (ib hb : Nat) (i : Int) : Prop := ∃ t, Blk w ib #[.pointer (some ⟨hb, 0, none⟩), .int .i64 i] t

theorem IterAt.i0 {ib : Nat} {i : Int} (h : IterAt w ib hb i) : w.cell? ⟨ib, 0, none⟩ = some (.pointer (some ⟨hb, 0, none⟩)) := by obtain ⟨t, h⟩ := h; rw [h.cell]; rfl
theorem IterAt.i1 {ib : Nat} {i : Int} (h : IterAt w ib hb i) : w.cell? ⟨ib, 1, none⟩ = some (.int .i64 i) := by obtain ⟨t, h⟩ := h; rw [h.cell]; rfl
theorem IterAt.set {ib : Nat} {i : Int} (h : IterAt w ib hb i) (j : Int) : IterAt (w.setCell ⟨ib, 1, none⟩ (.int .i64 j)) ib hb j := h.elim fun t h => ⟨t, h.set 1 _⟩
theorem IterAt.frozen {ib : Nat} {i : Int} (h : IterAt w ib hb i) (j : Nat) : w.frozen? ⟨ib, j, none⟩ = false := h.elim fun _ h => h.frozen j
theorem IterAt.lt {ib : Nat} {i : Int} (h : IterAt w ib hb i) : ib < w.heap.size := h.elim fun _ h => h.lt
theorem IterAt.keptI {S : Nat → Prop} {w' : World} {ib : Nat} {i : Int} (h : IterAt w ib hb i) (k : Kept S w w') (hS : ¬ S ib) : IterAt w' ib hb i := h.elim fun t h => ⟨t, h.kept k hS⟩

theorem iterIndex_any {ib : Nat} {i : Int} (h : IterAt w ib hb i) : Calls Try.prog 135 #[.pointer (some ⟨ib, 0, none⟩)] w fun e w' => e = .returned (.int .i64 i) ∧ w = w' := by
  have c1 := h.i1
  clear h
  go_enter Try.func135, Try.ntmps135
  go_wp2_with fail
  go_ret
  exact ⟨rfl, rfl⟩

theorem withinRange_any (h : HO w hb lb ao c ob kind m d) (i : Int) : Calls Try.prog 136 #[.pointer (some ⟨hb, 0, none⟩), .int .i64 i] w fun e w' => e = .returned (.bool (decide (0 ≤ i ∧ i < d.size))) ∧ w = w' := by
  have c0 := h.c0
  have hs := size_any lb d.size w h.heap.list.sizeCell
  have HS := Lib.hid hs; clear hs h
  by_cases h0 : 0 ≤ i
  · by_cases h1 : i < d.size
    · rw [decide_eq_true (⟨h0, h1⟩ : 0 ≤ i ∧ i < (d.size : Int))]
      go_enter Try.func136, Try.ntmps136
      go_wp2_with fail
      refine HS.out.mono ?_
      rintro e w' ⟨rfl, rfl⟩
      go_wp2_with fail
      go_ret
      exact ⟨by simp, rfl⟩
    · rw [decide_eq_false (fun h => h1 h.2 : ¬ (0 ≤ i ∧ i < (d.size : Int)))]
      have h1' : decide (i < (d.size : Int)) = false := decide_eq_false h1
      go_enter Try.func136, Try.ntmps136
      go_wp2_with fail
      refine HS.out.mono ?_
      rintro e w' ⟨rfl, rfl⟩
      go_wp2_with fail
      go_ret
      exact ⟨by simp, rfl⟩
  · rw [decide_eq_false (fun h => h0 h.1 : ¬ (0 ≤ i ∧ i < (d.size : Int)))]
    have h0' : decide (0 ≤ i) = false := decide_eq_false h0
    go_enter Try.func136, Try.ntmps136
    go_wp2_with fail
    go_ret
    exact ⟨rfl, rfl⟩

/-- An iterator moved to the next place. -/
def Moved1 (w : World) (ib hb : Nat) (i : Int) (b : Bool) (e : Ending) (w' : World) : Prop := e = .returned (.bool b) ∧ IterAt w' ib hb i ∧ Kept (fun k => k = ib) w w'

set_option maxHeartbeats 1000000 in
theorem next_any {ib : Nat} {i : Int} (h : HO w hb lb ao c ob kind m d) (hi : IterAt w ib hb i) (h1 : -1 ≤ i) (h2 : i ≤ d.size) (hd : d.size ≤ 4194304) (hn1 : ib ≠ hb) (hn2 : ib ≠ ob) (hn3 : ¬ own lb ao ib) :
    Calls Try.prog 133 #[.pointer (some ⟨ib, 0, none⟩)] w (Moved1 w ib hb (if i < d.size then i + 1 else i) (decide (i + 1 < d.size))) := by
  have i0 := hi.i0
  have i1 := hi.i1
  have f1 : w.frozen? ⟨ib, 1, none⟩ = false := hi.frozen 1
  have hs := fun n => heapSize_any (h.drewN n)
  by_cases hlt : i < d.size
  · have hw : ∀ q W, W = (w.drewN q).setCell ⟨ib, 1, none⟩ (.int .i64 (i + 1)) → W.cell? ⟨ib, 0, none⟩ = some (.pointer (some ⟨hb, 0, none⟩)) ∧ W.cell? ⟨ib, 1, none⟩ = some (.int .i64 (i + 1)) ∧
        (∀ n, Calls Try.prog 136 #[.pointer (some ⟨hb, 0, none⟩), .int .i64 (i + 1)] (W.drewN n) fun e w' => e = .returned (.bool (decide (i + 1 < d.size))) ∧ W.drewN n = w') ∧ (∀ n, IterAt (W.drewN n) ib hb (i + 1) ∧ Kept (fun k => k = ib) w (W.drewN n)) := by
      rintro q W rfl
      have hI : IterAt ((w.drewN q).setCell ⟨ib, 1, none⟩ (.int .i64 (i + 1))) ib hb (i + 1) := IterAt.set (w := w.drewN q) hi (i + 1)
      have hk : Kept (fun k => k = ib) w ((w.drewN q).setCell ⟨ib, 1, none⟩ (.int .i64 (i + 1))) := ((Kept.refl _ w).drewN q).setCell _ _ (fun _ => rfl)
      have hH := h.kept hk (fun j hj e => hn3 (by subst e; exact hj)) (fun e => hn1 e.symm) (fun e => hn2 e.symm)
      refine ⟨hI.i0, hI.i1, fun n => ?_, fun n => ⟨hI, hk.drewN n⟩⟩
      have := withinRange_any (hH.drewN n) (i + 1)
      rwa [show decide (0 ≤ i + 1 ∧ i + 1 < (d.size : Int)) = decide (i + 1 < (d.size : Int)) from by rw [decide_eq_decide]; omega] at this
    rw [if_pos hlt]
    have HS := Lib.hid hs; have HW := Lib.hid hw; clear hs hw h hi
    have t1 : IntKind.i64.wrap (i + 1) = i + 1 := IntWalk.i64_in _ (by omega)
    go_enter Try.func133, Try.ntmps133
    go_wp2_with fail
    go_quiet ((go_at_call 129; with_reducible exact quiet_eq (HS.out _)))
    go_wp2_with fail
    generalize hW2 : (w.drewN nq).setCell ⟨ib, 1, none⟩ (.int .i64 (i + 1)) = W
    obtain ⟨j0, j1, hc, hf⟩ := HW.out nq W hW2.symm
    have HC := Lib.hid hc; have HFI := Lib.hid hf; clear hc hf hW2 i0 i1 f1 HW HS
    go_quiet ((go_at_call 136; with_reducible exact quiet_eq (HC.out _)))
    go_wp2_with fail
    go_ret
    exact ⟨rfl, (HFI.out _).1, (HFI.out _).2⟩
  · have hw : ∀ q W, W = w.drewN q → W.cell? ⟨ib, 0, none⟩ = some (.pointer (some ⟨hb, 0, none⟩)) ∧ W.cell? ⟨ib, 1, none⟩ = some (.int .i64 i) ∧
        (∀ n, Calls Try.prog 136 #[.pointer (some ⟨hb, 0, none⟩), .int .i64 i] (W.drewN n) fun e w' => e = .returned (.bool (decide (i + 1 < d.size))) ∧ W.drewN n = w') ∧ (∀ n, IterAt (W.drewN n) ib hb i ∧ Kept (fun k => k = ib) w (W.drewN n)) := by
      rintro q W rfl
      have hk : Kept (fun k => k = ib) w (w.drewN q) := (Kept.refl _ w).drewN q
      refine ⟨i0, i1, fun n => ?_, fun n => ⟨hi, hk.drewN n⟩⟩
      have := withinRange_any ((h.drewN q).drewN n) i
      rwa [show decide (0 ≤ i ∧ i < (d.size : Int)) = decide (i + 1 < (d.size : Int)) from by rw [decide_eq_decide]; omega] at this
    rw [if_neg hlt]
    have HS := Lib.hid hs; have HW := Lib.hid hw; clear hs hw h hi
    have hlt' : decide (i < (d.size : Int)) = false := decide_eq_false hlt
    go_enter Try.func133, Try.ntmps133
    go_wp2_with fail
    go_quiet ((go_at_call 129; with_reducible exact quiet_eq (HS.out _)))
    go_wp2_with fail
    generalize hW2 : w.drewN nq = W
    obtain ⟨j0, j1, hc, hf⟩ := HW.out nq W hW2.symm
    have HC := Lib.hid hc; have HFI := Lib.hid hf; clear hc hf hW2 i0 i1 f1 HW HS
    go_quiet ((go_at_call 136; with_reducible exact quiet_eq (HC.out _)))
    go_wp2_with fail
    go_ret
    exact ⟨rfl, (HFI.out _).1, (HFI.out _).2⟩
end

end Go.Nl
