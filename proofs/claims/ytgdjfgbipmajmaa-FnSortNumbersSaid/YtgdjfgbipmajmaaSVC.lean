/- sort.Sort's heap sort. -/
import Derived.Test.YtgdjfgbipmajmaaSVB
import Derived.Sort.LotB
namespace Go.Nl
open Go.RowKit Go.Sort Go.Proofs

theorem sift_size (lt : Int → Int → Bool) (hi f : Nat) : ∀ (n r : Nat) (d : Array Int), hi - r ≤ n → (siftDown lt hi f r d).size = d.size := by
  intro n
  induction n with
  | zero => intro r d h; rw [siftDown, dif_pos (by omega)]
  | succ n ih =>
    intro r d h
    rw [siftDown]
    split
    · rfl
    · split
      · split
        · rfl
        · split
          · rw [ih _ _ (by omega), size_swp]
          · rfl
      · split
        · rfl
        · rw [ih _ _ (by omega), size_swp]

set_option maxHeartbeats 4000000 in
set_option maxRecDepth 100000 in
theorem svHeap_any {w : World} {g cap ob n : Nat} {kind m : Int} {d : Array Int} (h : SV w g cap ob kind m d) (ok : OrdOk kind m) (hn : d.size = n) (hb : n ≤ 1048576) (a b : Nat) (hab : a ≤ b) (hbn : b ≤ n) :
    Calls Try.prog 96 #[.iface 100 (rvOf g n cap ob), .int .i64 a, .int .i64 b] w fun e w' => e = .returned (.tuple #[]) ∧ SVTo w g cap ob kind m (heapSort (ltK kind m) d a b) w' := by
  unfold heapSort
  have m2 := meth_swap g n cap ob
  obtain ⟨l, hl1, hl2⟩ : ∃ l : Nat, l ≤ b - a ∧ b - a ≤ l := ⟨_, Nat.le_refl _, Nat.le_refl _⟩
  have e1 : b - a = l := by omega
  rw [e1]; clear e1
  obtain ⟨q, hq1, hq2⟩ : ∃ q : Nat, q ≤ (l - 1) / 2 ∧ (l - 1) / 2 ≤ q := ⟨_, Nat.le_refl _, Nat.le_refl _⟩
  have e1 : (l - 1) / 2 = q := by omega
  rw [e1]; clear e1
  have t1 : IntKind.i64.wrap ((b : Int) - (a : Int)) = (l : Int) := by rw [IntWalk.i64_in _ (by omega)]; omega
  have t2 : IntKind.i64.wrap ((l : Int) - 1) = (l : Int) - 1 := IntWalk.i64_in _ (by omega)
  have t3 : ((l : Int) - 1).tdiv 2 = (q : Int) := by
    by_cases h0 : l = 0
    · have : q = 0 := by omega
      subst h0; subst this; rfl
    · rw [Int.tdiv_eq_ediv_of_nonneg (by omega)]; omega
  have t4 : IntKind.i64.wrap (q : Int) = (q : Int) := IntWalk.i64_in _ (by omega)
  have H := Lib.hid h; have HN := Lib.hid hn; clear h hn
  go_enter Try.func96, Try.ntmps96
  go_wp2_with fail
  go_loopg [9] (q + 1) (fun gg si wr => ∃ z : Int, ∃ k : Nat, ∃ D : Array Int, si = .int .i64 z ∧ z + 1 = (k : Int) ∧ k ≤ q + 1 ∧ k ≤ gg ∧ Hid (heapBuild (ltK kind m) l a k D = heapBuild (ltK kind m) l a (q + 1) d ∧ D.size = n ∧ SVTo w g cap ob kind m D wr))
  case atStart => exact ⟨q, q + 1, d, rfl, by omega, by omega, by omega, (show _ ∧ _ ∧ _ from ⟨rfl, HN.out, SVTo.refl H.out⟩)⟩
  case round =>
    obtain ⟨z, k, D, rfl, hz, hkq, hg, HI⟩ := hrel
    by_cases hz0 : 0 ≤ z
    · obtain ⟨p, rfl⟩ := Int.eq_ofNat_of_zero_le hz0
      obtain rfl : k = p + 1 := by omega
      have hsd : D.size = n := HI.out.2.1
      have hc := svSift_any HI.out.2.2.1 ok hsd hb p l a (by omega) (by omega)
      have hsz : (siftDown (ltK kind m) l a p D).size = n := by rw [← hsd]; exact sift_size _ _ _ _ _ _ (Nat.le_refl _)
      have HC := Lib.hid hc; have HZ := Lib.hid hsz; clear hc hsz hsd
      have t5 : IntKind.i64.wrap ((p : Int) - 1) = (p : Int) - 1 := IntWalk.i64_in _ (by omega)
      go_wp2_with fail
      refine HC.out.mono ?_
      rintro e w2 ⟨rfl, k2⟩
      have HK := Lib.hid (HI.out.2.2.trans k2); clear k2
      go_wp2_with fail
      go_roundg p
      case measure => omega
      case rel => exact ⟨(p : Int) - 1, p, _, rfl, by omega, by omega, by omega, (show _ ∧ _ ∧ _ from ⟨HI.out.1, HZ.out, HK.out⟩)⟩
    · obtain rfl : k = 0 := by omega
      go_wp2_with fail
      go_loopg [10] l (fun gg si wr => ∃ z : Int, ∃ k : Nat, ∃ E : Array Int, si = .int .i64 z ∧ z + 1 = (k : Int) ∧ k ≤ l ∧ k ≤ gg ∧ Hid (heapPop (ltK kind m) a k E = heapPop (ltK kind m) a l D ∧ E.size = n ∧ SVTo w g cap ob kind m E wr))
      case atStart => exact ⟨(l : Int) - 1, l, D, rfl, by omega, by omega, by omega, (show _ ∧ _ ∧ _ from ⟨rfl, HI.out.2.1, HI.out.2.2⟩)⟩
      case round =>
        obtain ⟨z2, k, E, rfl, hz2, hkl, hg2, HJ⟩ := hrel
        by_cases hz3 : 0 ≤ z2
        · obtain ⟨p, rfl⟩ := Int.eq_ofNat_of_zero_le hz3
          obtain rfl : k = p + 1 := by omega
          have hse : E.size = n := HJ.out.2.1
          have hsw := swap_row HJ.out.2.2.1 n HJ.out.2.1 a (a + p) (by omega) (by omega)
          have hsz : (swp E a (a + p)).size = n := by rw [size_swp, hse]
          have hsz2 : (siftDown (ltK kind m) p a 0 (swp E a (a + p))).size = n := by rw [← hsz]; exact sift_size _ _ _ _ _ _ (Nat.le_refl _)
          have hsf : ∀ W, SV W g cap ob kind m (swp E a (a + p)) → _ := fun W s => svSift_any s ok hsz hb 0 p a (by omega) (by omega)
          obtain ⟨y, hy1, hy2⟩ : ∃ y : Nat, y ≤ a + p ∧ a + p ≤ y := ⟨_, Nat.le_refl _, Nat.le_refl _⟩
          have ey : a + p = y := by omega
          have hun : heapPop (ltK kind m) a (p + 1) E = heapPop (ltK kind m) a p (siftDown (ltK kind m) p a 0 (swp E a (a + p))) := rfl
          rw [ey] at hsw hsz2 hsf hun
          clear ey
          have HSW := Lib.hid hsw; have HZ := Lib.hid hsz2; have HSF := Lib.hid hsf; have HU := Lib.hid hun; clear hsw hsz hsz2 hsf hse hun
          have t5 : IntKind.i64.wrap ((p : Int) - 1) = (p : Int) - 1 := IntWalk.i64_in _ (by omega)
          have t6 : IntKind.i64.wrap ((a : Int) + (p : Int)) = (y : Int) := by rw [IntWalk.i64_in _ (by omega)]; omega
          go_wp2_with fail
          refine HSW.out.mono ?_
          rintro e w2 ⟨rfl, k2⟩
          have HK := Lib.hid (HJ.out.2.2.trans k2)
          have HC := Lib.hid (HSF.out w2 k2.1); clear k2
          go_wp2_with fail
          refine HC.out.mono ?_
          rintro e w3 ⟨rfl, k3⟩
          have HK3 := Lib.hid (HK.out.trans k3); clear k3
          go_wp2_with fail
          go_roundg p
          case measure => omega
          case rel => exact ⟨(p : Int) - 1, p, _, rfl, by omega, by omega, by omega, (show _ ∧ _ ∧ _ from ⟨HU.out.symm.trans HJ.out.1, HZ.out, HK3.out⟩)⟩
        · obtain rfl : k = 0 := by omega
          go_wp2_with fail
          go_end0
          exact ⟨rfl, by rw [← HI.out.1, show heapBuild (ltK kind m) l a 0 D = D from rfl, ← HJ.out.1]; exact HJ.out.2.2⟩

end Go.Nl
