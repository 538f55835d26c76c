/- sort.Sort's breakPatterns. (Under way.) -/
import Derived.Test.YtgdjfgbipmajmaaSVG
namespace Go.Nl
open Go.RowKit Go.Sort Go.Proofs

theorem SV.keptOff {w w' : World} {g cap ob : Nat} {kind m : Int} {d : Array Int} {S : Nat → Prop} (h : SV w g cap ob kind m d) (k : Kept S w w') (hg : ¬ S g) (ho : ¬ S ob) : SV w' g cap ob kind m d := ⟨h.nums.kept k hg, h.ord.kept k ho, h.ne⟩

/-- The generator's block c holds a number below 2^64. -/
def Rnd (t : TypeId) (w : World) (c : Nat) : Prop := ∃ X : Nat, X < 18446744073709551616 ∧ Blk w c #[.int .u64 X] t

/-- A number of the generator's, cut to the modulus. -/
theorem rnd_and (R M : Nat) (hR : R < 18446744073709551616) (hM : 1 ≤ M) (hM2 : M ≤ 4194304) : ∃ O : Nat, O + 1 ≤ M ∧ bits .and .u64 (R : Int) ((M : Int) - 1) = (O : Int) := by
  refine ⟨R &&& (M - 1), ?_, ?_⟩
  · have : R &&& (M - 1) ≤ M - 1 := Nat.and_le_right
    omega
  · rw [show ((M : Int) - 1) = ((M - 1 : Nat) : Int) by omega, bits_and_u64_nat _ _ hR (by omega)]

/-- The generator's number has been stored. -/
theorem rnd_next {w wr : World} {g cap ob c : Nat} {kind m : Int} {D : Array Int} {t : TypeId} (h : SVTo w g cap ob kind m D wr) (hR : Rnd t wr c) (hc : w.heap.size ≤ c) (hcg : c ≠ g) (hco : c ≠ ob) (Y : Nat) (hY : Y < 18446744073709551616) (k : Nat) :
    SVTo w g cap ob kind m D ((wr.setCell ⟨c, 0, none⟩ (.int .u64 Y)).drewN k) ∧ Rnd t ((wr.setCell ⟨c, 0, none⟩ (.int .u64 Y)).drewN k) c := by
  obtain ⟨X, _, hB⟩ := hR
  have k1 : Kept (fun i => i = c) wr ((wr.setCell ⟨c, 0, none⟩ (.int .u64 Y)).drewN k) := ((Kept.refl (fun i => i = c) wr).setCell ⟨c, 0, none⟩ _ (fun _ => rfl)).drewN k
  refine ⟨⟨h.1.keptOff k1 (fun e => hcg e.symm) (fun e => hco e.symm), ?_⟩, Y, hY, (hB.set 0 _).drewN k⟩
  exact (h.2.setCell ⟨c, 0, none⟩ _ (fun hlt => absurd hlt (by show ¬ c < _; omega))).drewN k

theorem Rnd.kept {t : TypeId} {w w' : World} {c : Nat} {S : Nat → Prop} (h : Rnd t w c) (k : Kept S w w') (hS : ¬ S c) : Rnd t w' c := by
  obtain ⟨X, hX, hB⟩ := h
  exact ⟨X, hX, hB.kept k hS⟩

set_option maxHeartbeats 4000000 in
set_option maxRecDepth 100000 in
theorem svBreak_any {w : World} {g cap ob n : Nat} {kind m : Int} {d : Array Int} (h : SV w g cap ob kind m d) (hn : d.size = n) (hb : n ≤ 1048576) (a b : Nat) (h8 : a + 8 ≤ b) (hbn : b ≤ n) :
    Calls Try.prog 97 #[.iface 100 (rvOf g n cap ob), .int .i64 a, .int .i64 b] w fun e w' => e = .returned (.tuple #[]) ∧ ∃ R : Array Int, Hid (PermIn a b d R ∧ SVTo w g cap ob kind m R w') := by
  have m2 := meth_swap g n cap ob
  obtain ⟨L, hL1, hL2⟩ : ∃ L : Nat, a + L ≤ b ∧ b ≤ a + L := ⟨b - a, by omega, by omega⟩
  obtain ⟨q, hq1, hq2⟩ : ∃ q : Nat, 4 * q ≤ L ∧ L < 4 * q + 4 := ⟨L / 4, by omega, by omega⟩
  obtain ⟨i0, hi1, hi2⟩ : ∃ i0 : Nat, i0 + 1 ≤ a + 2 * q ∧ a + 2 * q ≤ i0 + 1 := ⟨a + 2 * q - 1, by omega, by omega⟩
  obtain ⟨i2, hi3, hi4⟩ : ∃ i2 : Nat, i2 ≤ i0 + 2 ∧ i0 + 2 ≤ i2 := ⟨_, Nat.le_refl _, Nat.le_refl _⟩
  have t1 : IntKind.i64.wrap ((b : Int) - (a : Int)) = (L : Int) := by rw [IntWalk.i64_in _ (by omega)]; omega
  have t2 : (L : Int).tdiv 4 = (q : Int) := by rw [Int.tdiv_eq_ediv_of_nonneg (by omega)]; omega
  have t3 : (a : Int) + (q : Int) * 2 - 1 = (i0 : Int) := by omega
  have t4 : (a : Int) + (q : Int) * 2 + 1 = (i2 : Int) := by omega
  have hNP := fun w => nextPow_any L (by omega) (by omega) w
  have HNP := Lib.hid hNP; clear hNP
  have hc : w.heap.size ≠ g := by have := h.nums.lt; omega
  have ho : w.heap.size ≠ ob := by have := h.ord.lt; omega
  have k0 : Kept No w (w.alloc (.cells #[.int .u64 (L : Int)] 140)) := (Kept.refl No w).alloc _
  have HS : Hid (SVTo w g cap ob kind m d (w.alloc (.cells #[.int .u64 (L : Int)] 140)) ∧ Rnd 140 (w.alloc (.cells #[.int .u64 (L : Int)] 140)) w.heap.size) :=
    Lib.hid ⟨(SVTo.refl h).no k0, L, by omega, Blk.new _ _ _⟩
  have HN := Lib.hid hn; have HC := Lib.hid hc; have HCO := Lib.hid ho; clear h hn hc ho k0
  go_enter Try.func97, Try.ntmps97
  go_wp2_with (go_at_call 106; refine (HNP.out _).mono ?_; rintro e w' ⟨M, rfl, hM1, hM2, rfl⟩)
  go_loopg [9] 4 (fun gg si wr => ∃ i : Nat, ∃ D : Array Int, si = .int .i64 i ∧ i0 ≤ i ∧ i ≤ i2 + 1 ∧ i2 + 2 ≤ gg + i ∧ Hid (PermIn a b d D ∧ D.size = n ∧ SVTo w g cap ob kind m D wr ∧ Rnd 140 wr w.heap.size))
  case atStart => exact ⟨i0, d, rfl, by omega, by omega, by omega, (show _ ∧ _ ∧ _ ∧ _ from ⟨permIn_refl _ _ _, HN.out, HS.out.1, HS.out.2⟩)⟩
  case round =>
    obtain ⟨i, D, rfl, h1, h2, hg, HI⟩ := hrel
    by_cases hi : i ≤ i2
    · obtain ⟨X, hX, hB⟩ := HI.out.2.2.2
      have hnx := xorNext_any w.heap.size X hX wr (hB.cell 0) (hB.frozen 0)
      have hY := xorNextN_lt X hX
      generalize xorNextN X = Y at *
      obtain ⟨O, hO1, hO2⟩ := rnd_and Y M hY (by omega) (by omega)
      have hR := rnd_next HI.out.2.2.1 HI.out.2.2.2 (Nat.le_refl _) HC.out HCO.out Y hY 3
      have HNX := Lib.hid hnx; have HR := Lib.hid hR; clear hnx hR hB hX hY
      by_cases hLO : L ≤ O
      · obtain ⟨o, ho1, ho2⟩ : ∃ o : Nat, o + L ≤ O ∧ O ≤ o + L := ⟨O - L, by omega, by omega⟩
        obtain ⟨y, hy1, hy2⟩ : ∃ y : Nat, y ≤ a + o ∧ a + o ≤ y := ⟨_, Nat.le_refl _, Nat.le_refl _⟩
        have t5 : (O : Int) - (L : Int) = (o : Int) := by omega
        have t6 : (a : Int) + (o : Int) = (y : Int) := by omega
        have g1 : (L : Int) ≤ (O : Int) := by omega
        have hsw : ∀ W, SV W g cap ob kind m D → _ := fun W q => swap_row q n HI.out.2.1 i y (by omega) (by omega)
        have hsz : (swp D i y).size = n := by rw [size_swp, HI.out.2.1]
        have hpm : PermIn a b d (swp D i y) := permIn_trans _ _ _ _ _ HI.out.1 (swp_permIn D a b i y (by omega) (by omega) (by omega) (by omega) (by rw [HI.out.2.1]; omega))
        generalize swp D i y = D1 at *
        have HSW := Lib.hid hsw; have HZ := Lib.hid hsz; have HP := Lib.hid hpm; clear hsw hsz hpm
        go_wp2_with fail
        refine HNX.out.mono ?_
        rintro e w2 ⟨rfl, hw2⟩
        rw [← hw2] at HR
        clear hw2
        go_wp2_with fail
        refine (HSW.out w2 HR.out.1.1).mono ?_
        rintro e w3 ⟨rfl, k3⟩
        have HK := Lib.hid (HR.out.1.trans k3); have HRK := Lib.hid (HR.out.2.kept k3.2 HC.out); clear k3
        go_wp2_with fail
        go_roundg (i2 + 2 - (i + 1))
        case measure => omega
        case rel => exact ⟨i + 1, D1, by go_num, by omega, by omega, by omega, (show _ ∧ _ ∧ _ ∧ _ from ⟨HP.out, HZ.out, HK.out, HRK.out⟩)⟩
      · obtain ⟨y, hy1, hy2⟩ : ∃ y : Nat, y ≤ a + O ∧ a + O ≤ y := ⟨_, Nat.le_refl _, Nat.le_refl _⟩
        have t6 : (a : Int) + (O : Int) = (y : Int) := by omega
        have g1 : ¬ (L : Int) ≤ (O : Int) := by omega
        have hsw : ∀ W, SV W g cap ob kind m D → _ := fun W q => swap_row q n HI.out.2.1 i y (by omega) (by omega)
        have hsz : (swp D i y).size = n := by rw [size_swp, HI.out.2.1]
        have hpm : PermIn a b d (swp D i y) := permIn_trans _ _ _ _ _ HI.out.1 (swp_permIn D a b i y (by omega) (by omega) (by omega) (by omega) (by rw [HI.out.2.1]; omega))
        generalize swp D i y = D1 at *
        have HSW := Lib.hid hsw; have HZ := Lib.hid hsz; have HP := Lib.hid hpm; clear hsw hsz hpm
        go_wp2_with fail
        refine HNX.out.mono ?_
        rintro e w2 ⟨rfl, hw2⟩
        rw [← hw2] at HR
        clear hw2
        go_wp2_with fail
        refine (HSW.out w2 HR.out.1.1).mono ?_
        rintro e w3 ⟨rfl, k3⟩
        have HK := Lib.hid (HR.out.1.trans k3); have HRK := Lib.hid (HR.out.2.kept k3.2 HC.out); clear k3
        go_wp2_with fail
        go_roundg (i2 + 2 - (i + 1))
        case measure => omega
        case rel => exact ⟨i + 1, D1, by go_num, by omega, by omega, by omega, (show _ ∧ _ ∧ _ ∧ _ from ⟨HP.out, HZ.out, HK.out, HRK.out⟩)⟩
    · have g1 : ¬ (i : Int) ≤ (i2 : Int) := by omega
      go_wp2_with fail
      go_end0
      exact ⟨rfl, D, (show _ ∧ _ from ⟨HI.out.1, HI.out.2.2.1⟩)⟩

end Go.Nl
