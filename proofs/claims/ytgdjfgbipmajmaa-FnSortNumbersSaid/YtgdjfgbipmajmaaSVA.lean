/- sort.Sort's insertion sort. -/
import Derived.Test.YtgdjfgbipmajmaaSV
import Derived.Test.YtgdjfgbipmajmaaSortC
namespace Go.Nl
open Go.RowKit Go.Sort Go.Proofs

/-- What a part of the sort leaves. -/
def SVTo (w : World) (g cap ob : Nat) (kind m : Int) (d' : Array Int) (w' : World) : Prop := SV w' g cap ob kind m d' ∧ Kept (fun i => i = g) w w'

theorem SVTo.trans {w w1 w2 : World} {g cap ob : Nat} {kind m : Int} {d d' : Array Int} (h : SVTo w g cap ob kind m d w1) (k : SVTo w1 g cap ob kind m d' w2) : SVTo w g cap ob kind m d' w2 := ⟨k.1, h.2.trans k.2 (fun _ _ h => h)⟩
theorem SVTo.no {w w1 w2 : World} {g cap ob : Nat} {kind m : Int} {d : Array Int} (h : SVTo w g cap ob kind m d w1) (k : Kept No w1 w2) : SVTo w g cap ob kind m d w2 := ⟨h.1.keptNo k, h.2.trans k (fun _ _ h => h.elim)⟩
theorem SVTo.refl {w : World} {g cap ob : Nat} {kind m : Int} {d : Array Int} (h : SV w g cap ob kind m d) : SVTo w g cap ob kind m d w := ⟨h, Kept.refl _ _⟩

theorem meth_less (g n cap ob : Nat) (w : World) : (method 266 100 (rvOf g n cap ob) "Less").run Try.prog w = .ok (161, rvOf g n cap ob) w := by kernel_rfl
theorem meth_swap (g n cap ob : Nat) (w : World) : (method 266 100 (rvOf g n cap ob) "Swap").run Try.prog w = .ok (162, rvOf g n cap ob) w := by kernel_rfl
theorem meth_len (g n cap ob : Nat) (w : World) : (method 266 100 (rvOf g n cap ob) "Len").run Try.prog w = .ok (160, rvOf g n cap ob) w := by kernel_rfl

set_option maxHeartbeats 4000000 in
set_option maxRecDepth 100000 in
theorem svIns_any {w : World} {g cap ob n : Nat} {kind m : Int} {d : Array Int} (h : SV w g cap ob kind m d) (ok : OrdOk kind m) (hn : d.size = n) (hb : n ≤ 1048576) (a b : Nat) (hab : a ≤ b) (hbn : b ≤ n) :
    Calls Try.prog 95 #[.iface 100 (rvOf g n cap ob), .int .i64 a, .int .i64 b] w fun e w' => e = .returned (.tuple #[]) ∧ SVTo w g cap ob kind m (insertionSort (ltK kind m) d a b) w' := by
  unfold insertionSort
  have m1 := meth_less g n cap ob
  have m2 := meth_swap g n cap ob
  have H := Lib.hid h; have HN := Lib.hid hn; clear h hn
  go_enter Try.func95, Try.ntmps95
  go_wp2_with fail
  go_loopg [6] (b + 1) (fun gg si wr => ∃ i : Nat, ∃ D : Array Int, si = .int .i64 i ∧ a + 1 ≤ i ∧ i ≤ b + 1 ∧ b + 1 - i ≤ gg ∧ Hid (insOuter (ltK kind m) a b i D = insOuter (ltK kind m) a b (a + 1) d ∧ D.size = n ∧ SVTo w g cap ob kind m D wr))
  case atStart => exact ⟨a + 1, d, by go_num, by omega, by omega, by omega, (show _ ∧ _ ∧ _ from ⟨rfl, HN.out, SVTo.refl H.out⟩)⟩
  case round =>
    obtain ⟨i, D, rfl, hia, hib, hg, HI⟩ := hrel
    by_cases hlt : i < b
    · go_wp2_with fail
      go_loopg [7] (i + 1) (fun gg sj wj => ∃ j : Nat, ∃ E : Array Int, sj = .int .i64 j ∧ j ≤ i ∧ j + 1 ≤ gg ∧ Hid (insInner (ltK kind m) a j E = insInner (ltK kind m) a i D ∧ E.size = n ∧ SVTo w g cap ob kind m E wj))
      case atStart => exact ⟨i, D, rfl, by omega, by omega, (show _ ∧ _ ∧ _ from ⟨rfl, HI.out.2.1, HI.out.2.2⟩)⟩
      case round =>
        obtain ⟨j, E, rfl, hji, hg2, HJ⟩ := hrel
        have HO := Lib.hid (insOuter_go (ltK kind m) a b i D hlt)
        by_cases haj : a < j
        · obtain ⟨p, hp1, hp2⟩ : ∃ p : Nat, p + 1 ≤ j ∧ j ≤ p + 1 := ⟨j - 1, by omega, by omega⟩
          have hjp : j = p + 1 := by omega
          have hl := less_any HJ.out.2.2.1 ok n HJ.out.2.1 j p (by omega) (by omega)
          have t1 : IntKind.i64.wrap ((j : Int) - 1) = (p : Int) := by rw [IntWalk.i64_in _ (by omega)]; omega
          cases hv : ltK kind m E[j]! E[p]! with
          | true =>
            rw [hv] at hl
            have hsw := fun W (q : Kept No wr W) => swap_row (HJ.out.2.2.1.keptNo q) n HJ.out.2.1 j p (by omega) (by omega)
            have hin : insInner (ltK kind m) a j E = insInner (ltK kind m) a p (swp E j p) := by rw [hjp] at hv haj ⊢; exact insInner_go (ltK kind m) a p E haj hv
            have hsz : (swp E j p).size = n := by rw [size_swp, HJ.out.2.1]
            have HL := Lib.hid hl; have HSW := Lib.hid hsw; have HIN := Lib.hid hin; have HSZ := Lib.hid hsz; clear hl hsw hin hsz hv hjp
            go_wp2_with fail
            refine HL.out.mono ?_
            rintro e w2 ⟨rfl, k2⟩
            have HS2 := Lib.hid (HSW.out w2 k2); have HK2 := Lib.hid (HJ.out.2.2.no k2); clear k2
            go_wp2_with fail
            refine HS2.out.mono ?_
            rintro e w3 ⟨rfl, hs3⟩
            have HS3 := Lib.hid (HK2.out.trans hs3); clear hs3
            go_wp2_with fail
            go_roundg (p + 1)
            case measure => omega
            case rel => exact ⟨p, swp E j p, rfl, by omega, by omega, (show _ ∧ _ ∧ _ from ⟨HIN.out.symm.trans HJ.out.1, HSZ.out, HS3.out⟩)⟩
          | false =>
            rw [hv] at hl
            have hin : insInner (ltK kind m) a j E = E := by rw [hjp] at hv ⊢; exact insInner_stop (ltK kind m) a p E hv
            have HL := Lib.hid hl; have HIN := Lib.hid hin; clear hl hin hv hjp
            go_wp2_with fail
            refine HL.out.mono ?_
            rintro e w2 ⟨rfl, k2⟩
            have HK2 := Lib.hid (HJ.out.2.2.no k2); clear k2
            go_wp2_with fail
            go_roundg (b + 1 - (i + 1))
            case measure => omega
            case rel => exact ⟨i + 1, E, by go_num, by omega, by omega, by omega, (show _ ∧ _ ∧ _ from ⟨by rw [← HI.out.1, HO.out, ← HJ.out.1, HIN.out], HJ.out.2.1, HK2.out⟩)⟩
        · have HS := Lib.hid (insInner_low (ltK kind m) a j E (by omega))
          have g1 : ¬ (a : Int) < (j : Int) := by omega
          go_wp2_with fail
          go_roundg (b + 1 - (i + 1))
          case measure => omega
          case rel => exact ⟨i + 1, E, by go_num, by omega, by omega, by omega, (show _ ∧ _ ∧ _ from ⟨by rw [← HI.out.1, HO.out, ← HJ.out.1, HS.out], HJ.out.2.1, HJ.out.2.2⟩)⟩
    · have HO := Lib.hid (insOuter_stop (ltK kind m) a b i D hlt)
      go_wp2_with fail
      go_end0
      exact ⟨rfl, by rw [← HI.out.1, HO.out]; exact HI.out.2.2⟩

end Go.Nl
