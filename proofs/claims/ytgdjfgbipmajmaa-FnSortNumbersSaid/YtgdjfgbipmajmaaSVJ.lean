/- sort.Sort's partialInsertionSort. -/
import Derived.Test.YtgdjfgbipmajmaaSVE
import Derived.Deep.CutBlock
namespace Go.Nl
open Go.RowKit Go.Sort Go.Proofs

set_option maxHeartbeats 8000000 in
set_option maxRecDepth 100000 in
theorem svPins_any {w : World} {g cap ob n : Nat} {kind m : Int} {d : Array Int} (h : SV w g cap ob kind m d) (ok : OrdOk kind m) (hn : d.size = n) (hb : n ≤ 1048576) (a b : Nat) (hab : a < b) (hbn : b ≤ n) :
    Calls Try.prog 100 #[.iface 100 (rvOf g n cap ob), .int .i64 a, .int .i64 b] w fun e w' => ∃ v : Bool, ∃ R : Array Int, e = .returned (.bool v) ∧ Hid (partialInsertionSort (ltK kind m) d a b = (R, v) ∧ SVTo w g cap ob kind m R w') := by
  unfold partialInsertionSort
  have m1 := meth_less g n cap ob
  have m2 := meth_swap g n cap ob
  have H := Lib.hid h; have HN := Lib.hid hn; clear h hn
  go_enter Try.func100, Try.ntmps100
  go_wp2_with fail
  go_loopg [7, 8] 6 (fun gg si ss wr => ∃ i s : Nat, ∃ D : Array Int, si = .int .i64 i ∧ ss = .int .i64 s ∧ s ≤ 5 ∧ a < i ∧ i ≤ b ∧ 6 ≤ gg + s ∧ Hid (partialIns (ltK kind m) a b (5 - s) i D = partialIns (ltK kind m) a b 5 (a + 1) d ∧ D.size = n ∧ SVTo w g cap ob kind m D wr))
  case atStart => exact ⟨a + 1, 0, d, by go_num, rfl, by omega, by omega, by omega, by omega, (show _ ∧ _ ∧ _ from ⟨rfl, HN.out, SVTo.refl H.out⟩)⟩
  case round =>
    obtain ⟨i, s, D, rfl, rfl, hs5, hai, hib, hg, HI⟩ := hrel
    by_cases hs : s < 5
    · have g5 : (s : Int) < 5 := by omega
      go_upto_block 2 with fail
      go_cut [7] (fun sk wc => ∃ k : Nat, sk = .int .i64 k ∧ i ≤ k ∧ k ≤ b ∧ Hid (scanSorted (ltK kind m) D b i = k ∧ SVTo w g cap ob kind m D wc))
      case first =>
        go_wp2_with fail
        go_loopg [7] (b + 1) (fun gg si wr => ∃ k : Nat, si = .int .i64 k ∧ i ≤ k ∧ k ≤ b ∧ b + 1 - k ≤ gg ∧ Hid (scanSorted (ltK kind m) D b i = scanSorted (ltK kind m) D b k ∧ SVTo w g cap ob kind m D wr))
        case atStart => exact ⟨i, rfl, by omega, by omega, by omega, (show _ ∧ _ from ⟨rfl, HI.out.2.2⟩)⟩
        case round =>
          obtain ⟨k, rfl, hik, hkb, hg2, HJ⟩ := hrel
          by_cases hk : k < b
          · obtain ⟨p, hp1, hp2⟩ : ∃ p : Nat, p + 1 ≤ k ∧ k ≤ p + 1 := ⟨k - 1, by omega, by omega⟩
            have t1 : IntKind.i64.wrap ((k : Int) - 1) = (p : Int) := by rw [IntWalk.i64_in _ (by omega)]; omega
            have hl := less_any HJ.out.2.1 ok n HI.out.2.1 k p (by omega) (by omega)
            cases hv : ltK kind m D[k]! D[p]! with
            | true =>
              rw [hv] at hl
              have hst := scanSorted_stops (ltK kind m) D b k (Or.inr (by rw [show k - 1 = p by omega]; exact hv))
              have HL := Lib.hid hl; have HST := Lib.hid hst; clear hl hv hst
              go_wp2_with fail
              refine HL.out.mono ?_
              rintro e w2 ⟨rfl, k2⟩
              have HK := Lib.hid (HJ.out.2.no k2); clear k2
              go_wp2_with fail
              go_meet
              case rel => exact ⟨k, rfl, by omega, by omega, (show _ ∧ _ from ⟨HJ.out.1.trans HST.out, HK.out⟩)⟩
            | false =>
              rw [hv] at hl
              have hst := scanSorted_goes (ltK kind m) D b k hk (by rw [show k - 1 = p by omega]; exact hv)
              have HL := Lib.hid hl; have HST := Lib.hid hst; clear hl hv hst
              go_wp2_with fail
              refine HL.out.mono ?_
              rintro e w2 ⟨rfl, k2⟩
              have HK := Lib.hid (HJ.out.2.no k2); clear k2
              go_wp2_with fail
              go_roundg (b + 1 - (k + 1))
              case measure => omega
              case rel => exact ⟨k + 1, by go_num, by omega, by omega, by omega, (show _ ∧ _ from ⟨HJ.out.1.trans HST.out, HK.out⟩)⟩
          · have g1 : ¬ (k : Int) < (b : Int) := by omega
            have HST := Lib.hid (scanSorted_stops (ltK kind m) D b k (Or.inl hk))
            go_wp2_with fail
            go_meet
            case rel => exact ⟨k, rfl, by omega, by omega, (show _ ∧ _ from ⟨HJ.out.1.trans HST.out, HJ.out.2⟩)⟩
      case rest =>
        obtain ⟨k, rfl, hik, hkb, HC⟩ := hcut
        by_cases hkb' : k = b
        · subst hkb'
          have g1 : ((k : Int) == (k : Int)) = true := by simp
          have hv := pins_true (ltK kind m) a k s i D hs HC.out.1
          have HV := Lib.hid hv; clear hv
          go_wp2_with fail
          refine bodyPost_ret (results_tmp rfl _ _ _) rfl ?_
          exact ⟨true, D, rfl, (show _ ∧ _ from ⟨by rw [← HI.out.1, HV.out], HC.out.2⟩)⟩
        · have g1 : ((k : Int) == (b : Int)) = false := beq_eq_false_iff_ne.2 (by omega)
          by_cases h50 : b - a < 50
          · have t2 : IntKind.i64.wrap ((b : Int) - (a : Int)) = ((b - a : Nat) : Int) := by rw [IntWalk.i64_in _ (by omega)]; omega
            have g2 : ((b - a : Nat) : Int) < 50 := by omega
            have hv := pins_short (ltK kind m) a b s i D hs (by rw [HC.out.1]; exact hkb') h50
            have HV := Lib.hid hv; clear hv
            go_wp2_with fail
            refine bodyPost_ret (results_tmp rfl _ _ _) rfl ?_
            exact ⟨false, D, rfl, (show _ ∧ _ from ⟨by rw [← HI.out.1, HV.out], HC.out.2⟩)⟩
          · obtain ⟨p, hp1, hp2⟩ : ∃ p : Nat, p + 1 ≤ k ∧ k ≤ p + 1 := ⟨k - 1, by omega, by omega⟩
            have t1 : IntKind.i64.wrap ((k : Int) - 1) = (p : Int) := by rw [IntWalk.i64_in _ (by omega)]; omega
            have t2 : IntKind.i64.wrap ((b : Int) - (a : Int)) = ((b - a : Nat) : Int) := by rw [IntWalk.i64_in _ (by omega)]; omega
            have g2 : ¬ ((b - a : Nat) : Int) < 50 := by omega
            have hsw := swap_row HC.out.2.1 n HI.out.2.1 k p (by omega) (by omega)
            have hgo := pins_go (ltK kind m) a b s i k D hs HC.out.1 hkb' h50
            rw [show k - 1 = p by omega] at hgo
            have hsz : (swp D k p).size = n := by rw [size_swp, HI.out.2.1]
            generalize swp D k p = D1 at *
            have HSW := Lib.hid hsw; have HGO := Lib.hid hgo; have HSZ := Lib.hid hsz; clear hsw hgo hsz
            go_upto_if 45 with (refine HSW.out.mono ?_; rintro e w2 ⟨rfl, k2⟩; have HK := Lib.hid (HC.out.2.trans k2); clear k2)
            generalize hdec : decide ((2 : Int) ≤ (k : Int) - (a : Int)) = v45
            go_cut [9] (fun s9 wc => ∃ E : Array Int, Hid (fixDown (ltK kind m) a k D1 = E ∧ E.size = n ∧ SVTo w g cap ob kind m E wc))
            case first =>
              cases v45 with
              | true =>
                have h2 : 2 ≤ k - a := by have := of_decide_eq_true hdec; omega
                clear hdec
                have hfx : fixDown (ltK kind m) a k D1 = shiftDown (ltK kind m) p D1 := by unfold fixDown; rw [if_pos h2, show k - 1 = p by omega]
                have HFX := Lib.hid hfx; clear hfx
                go_wp2_with fail
                go_loopg [9] (b + 1) (fun gg sj wr => ∃ j : Nat, ∃ E : Array Int, sj = .int .i64 j ∧ j ≤ p ∧ j + 1 ≤ gg ∧ Hid (shiftDown (ltK kind m) p D1 = shiftDown (ltK kind m) j E ∧ E.size = n ∧ SVTo w g cap ob kind m E wr))
                case atStart => exact ⟨p, D1, rfl, by omega, by omega, (show _ ∧ _ ∧ _ from ⟨rfl, HSZ.out, HK.out⟩)⟩
                case round =>
                  obtain ⟨j, E, rfl, hjp, hg2, HJ⟩ := hrel
                  by_cases hj : 1 ≤ j
                  · obtain ⟨r, hr1, hr2⟩ : ∃ r : Nat, r + 1 ≤ j ∧ j ≤ r + 1 := ⟨j - 1, by omega, by omega⟩
                    have hjr : j = r + 1 := by omega
                    have t4 : IntKind.i64.wrap ((j : Int) - 1) = (r : Int) := by rw [IntWalk.i64_in _ (by omega)]; omega
                    have hl := less_any HJ.out.2.2.1 ok n HJ.out.2.1 j r (by omega) (by omega)
                    cases hv : ltK kind m E[j]! E[r]! with
                    | true =>
                      rw [hv] at hl
                      have hsw := fun W (q : Kept No wr W) => swap_row (HJ.out.2.2.1.keptNo q) n HJ.out.2.1 j r (by omega) (by omega)
                      have hgo : shiftDown (ltK kind m) j E = shiftDown (ltK kind m) r (swp E j r) := by rw [hjr] at hv ⊢; exact shiftDown_goes (ltK kind m) r E hv
                      have hsz : (swp E j r).size = n := by rw [size_swp, HJ.out.2.1]
                      generalize swp E j r = E1 at *
                      have HL := Lib.hid hl; have HSW2 := Lib.hid hsw; have HG := Lib.hid hgo; have HZ := Lib.hid hsz; clear hl hsw hgo hsz hv hjr
                      go_wp2_with fail
                      refine HL.out.mono ?_
                      rintro e w3 ⟨rfl, k3⟩
                      have HS3 := Lib.hid (HSW2.out w3 k3); have HK3 := Lib.hid (HJ.out.2.2.no k3); clear k3
                      go_wp2_with fail
                      refine HS3.out.mono ?_
                      rintro e w4 ⟨rfl, hs4⟩
                      have HS4 := Lib.hid (HK3.out.trans hs4); clear hs4
                      go_wp2_with fail
                      go_roundg (r + 1)
                      case measure => omega
                      case rel => exact ⟨r, E1, rfl, by omega, by omega, (show _ ∧ _ ∧ _ from ⟨HJ.out.1.trans HG.out, HZ.out, HS4.out⟩)⟩
                    | false =>
                      rw [hv] at hl
                      have hst : shiftDown (ltK kind m) j E = E := by rw [hjr] at hv ⊢; exact shiftDown_stops (ltK kind m) r E hv
                      have HL := Lib.hid hl; have HG := Lib.hid hst; clear hl hst hv hjr
                      go_wp2_with fail
                      refine HL.out.mono ?_
                      rintro e w3 ⟨rfl, k3⟩
                      have HK3 := Lib.hid (HJ.out.2.2.no k3); clear k3
                      go_wp2_with fail
                      go_meet
                      case rel => exact ⟨E, (show _ ∧ _ ∧ _ from ⟨by rw [HFX.out, HJ.out.1, HG.out], HJ.out.2.1, HK3.out⟩)⟩
                  · obtain rfl : j = 0 := by omega
                    have HG : Hid (shiftDown (ltK kind m) 0 E = E) := Lib.hid (by rw [shiftDown])
                    go_wp2_with fail
                    go_meet
                    case rel => exact ⟨E, (show _ ∧ _ ∧ _ from ⟨by rw [HFX.out, HJ.out.1, HG.out], HJ.out.2.1, HJ.out.2.2⟩)⟩
              | false =>
                have h2 : ¬ 2 ≤ k - a := by have := of_decide_eq_false hdec; omega
                clear hdec
                have HFX : Hid (fixDown (ltK kind m) a k D1 = D1) := Lib.hid (by unfold fixDown; rw [if_neg h2])
                go_wp2_with fail
                go_meet
                case rel => exact ⟨D1, (show _ ∧ _ ∧ _ from ⟨HFX.out, HSZ.out, HK.out⟩)⟩
            case rest =>
              obtain ⟨D2, HD⟩ := hcut
              by_cases h2 : 2 ≤ b - k
              · have g3 : (2 : Int) ≤ (b : Int) - (k : Int) := by omega
                have hfx : fixUp (ltK kind m) b k D2 = shiftUp (ltK kind m) b (k + 1) D2 := by unfold fixUp; rw [if_pos h2]
                have HFX := Lib.hid hfx; clear hfx
                go_wp2_with fail
                go_loopg [10] (b + 1) (fun gg sj wr => ∃ j : Nat, ∃ E : Array Int, sj = .int .i64 j ∧ k + 1 ≤ j ∧ j ≤ b ∧ b + 1 - j ≤ gg ∧ Hid (shiftUp (ltK kind m) b (k + 1) D2 = shiftUp (ltK kind m) b j E ∧ E.size = n ∧ SVTo w g cap ob kind m E wr))
                case atStart => exact ⟨k + 1, D2, by go_num, by omega, by omega, by omega, (show _ ∧ _ ∧ _ from ⟨rfl, HD.out.2.1, HD.out.2.2⟩)⟩
                case round =>
                  obtain ⟨j, E, rfl, hjk, hjb, hg2, HJ⟩ := hrel
                  by_cases hj : j < b
                  · obtain ⟨r, hr1, hr2⟩ : ∃ r : Nat, r + 1 ≤ j ∧ j ≤ r + 1 := ⟨j - 1, by omega, by omega⟩
                    have hjr : j - 1 = r := by omega
                    have t4 : IntKind.i64.wrap ((j : Int) - 1) = (r : Int) := by rw [IntWalk.i64_in _ (by omega)]; omega
                    have hl := less_any HJ.out.2.2.1 ok n HJ.out.2.1 j r (by omega) (by omega)
                    cases hv : ltK kind m E[j]! E[r]! with
                    | true =>
                      rw [hv] at hl
                      have hsw := fun W (q : Kept No wr W) => swap_row (HJ.out.2.2.1.keptNo q) n HJ.out.2.1 j r (by omega) (by omega)
                      have hgo := shiftUp_goes (ltK kind m) b j E hj (by rw [hjr]; exact hv)
                      rw [hjr] at hgo
                      have hsz : (swp E j r).size = n := by rw [size_swp, HJ.out.2.1]
                      generalize swp E j r = E1 at *
                      have HL := Lib.hid hl; have HSW2 := Lib.hid hsw; have HG := Lib.hid hgo; have HZ := Lib.hid hsz; clear hl hsw hgo hsz hv hjr
                      go_wp2_with fail
                      refine HL.out.mono ?_
                      rintro e w3 ⟨rfl, k3⟩
                      have HS3 := Lib.hid (HSW2.out w3 k3); have HK3 := Lib.hid (HJ.out.2.2.no k3); clear k3
                      go_wp2_with fail
                      refine HS3.out.mono ?_
                      rintro e w4 ⟨rfl, hs4⟩
                      have HS4 := Lib.hid (HK3.out.trans hs4); clear hs4
                      go_wp2_with fail
                      go_roundg (b + 1 - (j + 1))
                      case measure => omega
                      case rel => exact ⟨j + 1, E1, by go_num, by omega, by omega, by omega, (show _ ∧ _ ∧ _ from ⟨HJ.out.1.trans HG.out, HZ.out, HS4.out⟩)⟩
                    | false =>
                      rw [hv] at hl
                      have hst := shiftUp_stops (ltK kind m) b j E (Or.inr (by rw [hjr]; exact hv))
                      have HL := Lib.hid hl; have HG := Lib.hid hst; clear hl hst hv hjr
                      go_wp2_with fail
                      refine HL.out.mono ?_
                      rintro e w3 ⟨rfl, k3⟩
                      have HK3 := Lib.hid (HJ.out.2.2.no k3); clear k3
                      go_wp2_with fail
                      go_roundg (6 - (s + 1))
                      case measure => omega
                      case rel => exact ⟨k, s + 1, E, rfl, by go_num, by omega, by omega, by omega, by omega, (show _ ∧ _ ∧ _ from ⟨by rw [← HI.out.1, HGO.out, HD.out.1, HFX.out, HJ.out.1, HG.out], HJ.out.2.1, HK3.out⟩)⟩
                  · have g4 : ¬ (j : Int) < (b : Int) := by omega
                    have HG := Lib.hid (shiftUp_stops (ltK kind m) b j E (Or.inl hj))
                    go_wp2_with fail
                    go_roundg (6 - (s + 1))
                    case measure => omega
                    case rel => exact ⟨k, s + 1, E, rfl, by go_num, by omega, by omega, by omega, by omega, (show _ ∧ _ ∧ _ from ⟨by rw [← HI.out.1, HGO.out, HD.out.1, HFX.out, HJ.out.1, HG.out], HJ.out.2.1, HJ.out.2.2⟩)⟩
              · have g3 : ¬ (2 : Int) ≤ (b : Int) - (k : Int) := by omega
                have HFX : Hid (fixUp (ltK kind m) b k D2 = D2) := Lib.hid (by unfold fixUp; rw [if_neg h2])
                go_wp2_with fail
                go_roundg (6 - (s + 1))
                case measure => omega
                case rel => exact ⟨k, s + 1, D2, rfl, by go_num, by omega, by omega, by omega, by omega, (show _ ∧ _ ∧ _ from ⟨by rw [← HI.out.1, HGO.out, HD.out.1, HFX.out], HD.out.2.1, HD.out.2.2⟩)⟩
    · obtain rfl : s = 5 := by omega
      go_wp2_with fail
      refine bodyPost_ret (results_tmp rfl _ _ _) rfl ?_
      exact ⟨false, D, rfl, (show _ ∧ _ from ⟨by rw [← HI.out.1]; rfl, HI.out.2.2⟩)⟩

end Go.Nl
