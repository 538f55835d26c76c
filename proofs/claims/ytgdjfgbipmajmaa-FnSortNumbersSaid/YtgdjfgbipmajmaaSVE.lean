/- sort.Sort's reverseRange and the choice of its pivot. -/
import Derived.Test.YtgdjfgbipmajmaaSVA
import Derived.Sort.LotB
namespace Go.Nl
open Go.RowKit Go.Sort Go.Proofs

set_option maxHeartbeats 4000000 in
set_option maxRecDepth 100000 in
theorem svRev_any {w : World} {g cap ob n : Nat} {kind m : Int} {d : Array Int} (h : SV w g cap ob kind m d) (hn : d.size = n) (hb : n ≤ 1048576) (a b : Nat) (hab : a < b) (hbn : b ≤ n) :
    Calls Try.prog 99 #[.iface 100 (rvOf g n cap ob), .int .i64 a, .int .i64 b] w fun e w' => e = .returned (.tuple #[]) ∧ ∃ R : Array Int, Hid (PermIn a b d R ∧ SVTo w g cap ob kind m R w') := by
  have m2 := meth_swap g n cap ob
  have H := Lib.hid h; have HN := Lib.hid hn; clear h hn
  obtain ⟨j0, hj0, hj0'⟩ : ∃ j : Nat, j + 1 ≤ b ∧ b ≤ j + 1 := ⟨b - 1, by omega, by omega⟩
  have t1 : IntKind.i64.wrap ((b : Int) - 1) = (j0 : Int) := by rw [IntWalk.i64_in _ (by omega)]; omega
  go_enter Try.func99, Try.ntmps99
  go_wp2_with fail
  go_loopg [6, 7] (b + 1) (fun gg si sj wr => ∃ i : Nat, ∃ j : Nat, ∃ D : Array Int, si = .int .i64 i ∧ sj = .int .i64 j ∧ a ≤ i ∧ i ≤ b ∧ j < b ∧ b + 1 - i ≤ gg ∧ Hid (PermIn a b d D ∧ D.size = n ∧ SVTo w g cap ob kind m D wr))
  case atStart => exact ⟨a, j0, d, rfl, rfl, by omega, by omega, by omega, by omega, (show _ ∧ _ ∧ _ from ⟨permIn_refl d a b, HN.out, SVTo.refl H.out⟩)⟩
  case round =>
    obtain ⟨i, j, D, rfl, rfl, hia, hib, hjb, hg, HI⟩ := hrel
    by_cases hlt : i < j
    · obtain ⟨p, hp1, hp2⟩ : ∃ p : Nat, p + 1 ≤ j ∧ j ≤ p + 1 := ⟨j - 1, by omega, by omega⟩
      have t2 : IntKind.i64.wrap ((j : Int) - 1) = (p : Int) := by rw [IntWalk.i64_in _ (by omega)]; omega
      have hsw := swap_row HI.out.2.2.1 n HI.out.2.1 i j (by omega) (by omega)
      have hsz : (swp D i j).size = n := by rw [size_swp, HI.out.2.1]
      have hpm : PermIn a b d (swp D i j) := permIn_trans _ _ _ _ _ HI.out.1 (swp_permIn D a b i j (by omega) (by omega) (by omega) (by omega) (by rw [HI.out.2.1]; omega))
      generalize swp D i j = D1 at *
      have HW := Lib.hid hsw; have HZ := Lib.hid hsz; have HP := Lib.hid hpm; clear hsw hsz hpm
      go_wp2_with fail
      refine HW.out.mono ?_
      rintro e w2 ⟨rfl, k2⟩
      have HK := Lib.hid (HI.out.2.2.trans k2); clear k2
      go_wp2_with fail
      go_roundg (b + 1 - (i + 1))
      case measure => omega
      case rel => exact ⟨i + 1, p, D1, by go_num, rfl, by omega, by omega, by omega, by omega, (show _ ∧ _ ∧ _ from ⟨HP.out, HZ.out, HK.out⟩)⟩
    · have g1 : ¬ (i : Int) < (j : Int) := by omega
      go_wp2_with fail
      go_end0
      exact ⟨rfl, D, (show _ ∧ _ from ⟨HI.out.1, HI.out.2.2⟩)⟩

end Go.Nl
