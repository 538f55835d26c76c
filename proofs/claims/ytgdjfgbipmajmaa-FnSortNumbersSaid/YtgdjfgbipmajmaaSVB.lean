/- sort.Sort's heap sort. -/
import Derived.Test.YtgdjfgbipmajmaaSVA
namespace Go.Nl
open Go.RowKit Go.Sort Go.Proofs

theorem sv_stop (lt : Int → Int → Bool) (hi f r : Nat) (d : Array Int) (h : ¬ 2 * r + 1 < hi) : siftDown lt hi f r d = d := by
  rw [siftDown, dif_pos (by omega)]

theorem sv_step (lt : Int → Int → Bool) (hi f r c : Nat) (d : Array Int) (h : 2 * r + 1 < hi)
    (hc : (2 * r + 2 < hi ∧ lt d[f + (2 * r + 1)]! d[f + (2 * r + 2)]! = true ∧ c = 2 * r + 2) ∨ ((2 * r + 2 < hi → lt d[f + (2 * r + 1)]! d[f + (2 * r + 2)]! = false) ∧ c = 2 * r + 1)) :
    siftDown lt hi f r d = if lt d[f + r]! d[f + c]! = true then siftDown lt hi f c (swp d (f + r) (f + c)) else d := by
  rw [siftDown, dif_neg (by omega)]
  have e : f + (2 * r + 1) + 1 = f + (2 * r + 2) := by omega
  rcases hc with ⟨h2, hl, rfl⟩ | ⟨hl, rfl⟩
  · rw [e, if_pos (by simp [hl]; omega)]
    cases hv : lt d[f + r]! d[f + (2 * r + 2)]! with
    | true => rw [if_neg (by simp), dif_pos h2, if_pos rfl]
    | false => rw [if_pos (by simp), if_neg (by simp)]
  · rw [if_neg (by
      rw [e]
      by_cases h2 : 2 * r + 2 < hi
      · simp [hl h2]
      · simp; omega)]
    cases hv : lt d[f + r]! d[f + (2 * r + 1)]! with
    | true => rw [if_neg (by simp), if_pos rfl]
    | false => rw [if_pos (by simp), if_neg (by simp)]

set_option maxHeartbeats 4000000 in
set_option maxRecDepth 100000 in
theorem svSift_any {w : World} {g cap ob n : Nat} {kind m : Int} {d : Array Int} (h : SV w g cap ob kind m d) (ok : OrdOk kind m) (hn : d.size = n) (hb : n ≤ 1048576) (lo hi f : Nat) (hlo : lo ≤ hi) (hf : f + hi ≤ n) :
    Calls Try.prog 105 #[.iface 100 (rvOf g n cap ob), .int .i64 lo, .int .i64 hi, .int .i64 f] w fun e w' => e = .returned (.tuple #[]) ∧ SVTo w g cap ob kind m (siftDown (ltK kind m) hi f lo d) w' := by
  have m1 := meth_less g n cap ob
  have m2 := meth_swap g n cap ob
  have H := Lib.hid h; have HN := Lib.hid hn; clear h hn
  go_enter Try.func105, Try.ntmps105
  go_wp2_with fail
  go_loopg [8, 9] (hi + 1) (fun gg sr sc wr => ∃ r : Nat, ∃ E : Array Int, sr = .int .i64 r ∧ r ≤ hi ∧ hi + 1 - r ≤ gg ∧ Hid (siftDown (ltK kind m) hi f r E = siftDown (ltK kind m) hi f lo d ∧ E.size = n ∧ SVTo w g cap ob kind m E wr))
  case atStart => exact ⟨lo, d, rfl, by omega, by omega, (show _ ∧ _ ∧ _ from ⟨rfl, HN.out, SVTo.refl H.out⟩)⟩
  case round =>
    obtain ⟨r, E, rfl, hrh, hg, HJ⟩ := hrel
    obtain ⟨c1, hc1, hc1'⟩ : ∃ c : Nat, c ≤ 2 * r + 1 ∧ 2 * r + 1 ≤ c := ⟨_, Nat.le_refl _, Nat.le_refl _⟩
    have t1 : IntKind.i64.wrap (2 * (r : Int)) = 2 * (r : Int) := IntWalk.i64_in _ (by omega)
    have t2 : IntKind.i64.wrap (2 * (r : Int) + 1) = (c1 : Int) := by rw [IntWalk.i64_in _ (by omega)]; omega
    by_cases hs : 2 * r + 1 < hi
    · obtain ⟨c2, hc2, hc2'⟩ : ∃ c : Nat, c ≤ 2 * r + 2 ∧ 2 * r + 2 ≤ c := ⟨_, Nat.le_refl _, Nat.le_refl _⟩
      obtain ⟨x, hx, hx'⟩ : ∃ c : Nat, c ≤ f + r ∧ f + r ≤ c := ⟨_, Nat.le_refl _, Nat.le_refl _⟩
      obtain ⟨p1, hp1, hp1'⟩ : ∃ c : Nat, c ≤ f + (2 * r + 1) ∧ f + (2 * r + 1) ≤ c := ⟨_, Nat.le_refl _, Nat.le_refl _⟩
      obtain ⟨p2, hp2, hp2'⟩ : ∃ c : Nat, c ≤ f + (2 * r + 2) ∧ f + (2 * r + 2) ≤ c := ⟨_, Nat.le_refl _, Nat.le_refl _⟩
      have t3 : IntKind.i64.wrap ((c1 : Int) + 1) = (c2 : Int) := by rw [IntWalk.i64_in _ (by omega)]; omega
      have t4 : IntKind.i64.wrap ((f : Int) + (c1 : Int)) = (p1 : Int) := by rw [IntWalk.i64_in _ (by omega)]; omega
      have t5 : IntKind.i64.wrap ((p1 : Int) + 1) = (p2 : Int) := by rw [IntWalk.i64_in _ (by omega)]; omega
      have t6 : IntKind.i64.wrap ((f : Int) + (c2 : Int)) = (p2 : Int) := by rw [IntWalk.i64_in _ (by omega)]; omega
      have t7 : IntKind.i64.wrap ((f : Int) + (r : Int)) = (x : Int) := by rw [IntWalk.i64_in _ (by omega)]; omega
      have g1 : ¬ (hi : Int) ≤ (c1 : Int) := by omega
      by_cases hr : c2 < hi
      · have hl := less_any HJ.out.2.2.1 ok n HJ.out.2.1 p1 p2 (by omega) (by omega)
        cases hv0 : ltK kind m E[p1]! E[p2]! with
        | true =>
          rw [hv0] at hl
          have HL := Lib.hid hl; clear hl
          go_wp2_with fail
          refine HL.out.mono ?_
          rintro e w2 ⟨rfl, k2⟩
          have HK2 := Lib.hid (HJ.out.2.2.no k2); clear k2
          have hl2 := less_any HK2.out.1 ok n HJ.out.2.1 x p2 (by omega) (by omega)
          have hst := sv_step (ltK kind m) hi f r c2 E hs (Or.inl ⟨by omega, by rw [show f + (2 * r + 1) = p1 by omega, show f + (2 * r + 2) = p2 by omega]; exact hv0, by omega⟩)
          rw [show f + r = x by omega, show f + c2 = p2 by omega] at hst
          cases hv2 : ltK kind m E[x]! E[p2]! with
          | true =>
            rw [hv2] at hl2 hst
            rw [if_pos rfl] at hst
            have hsw := fun W (q : Kept No w2 W) => swap_row (HK2.out.1.keptNo q) n HJ.out.2.1 x p2 (by omega) (by omega)
            have hsz : (swp E x p2).size = n := by rw [size_swp, HJ.out.2.1]
            generalize swp E x p2 = E' at *
            have HL2 := Lib.hid hl2; have HSW := Lib.hid hsw; have HST := Lib.hid hst; have HSZ := Lib.hid hsz; clear hl2 hsw hst hsz hv2
            go_wp2_with fail
            refine HL2.out.mono ?_
            rintro e w3 ⟨rfl, k3⟩
            have HS3 := Lib.hid (HSW.out w3 k3); have HK3 := Lib.hid (HK2.out.no k3); clear k3
            go_wp2_with fail
            refine HS3.out.mono ?_
            rintro e w4 ⟨rfl, hs4⟩
            have HS4 := Lib.hid (HK3.out.trans hs4); clear hs4
            go_wp2_with fail
            go_roundg (hi + 1 - c2)
            case measure => omega
            case rel => exact ⟨c2, E', rfl, by omega, by omega, (show _ ∧ _ ∧ _ from ⟨by rw [← HJ.out.1, HST.out], HSZ.out, HS4.out⟩)⟩
          | false =>
            rw [hv2] at hl2 hst
            rw [if_neg (by simp)] at hst
            have HL2 := Lib.hid hl2; have HST := Lib.hid hst; clear hl2 hst hv2
            go_wp2_with fail
            refine HL2.out.mono ?_
            rintro e w3 ⟨rfl, k3⟩
            have HK3 := Lib.hid (HK2.out.no k3); clear k3
            go_wp2_with fail
            refine bodyPost_ret (results_none rfl _ _ _) rfl ?_
            exact ⟨rfl, by rw [← HJ.out.1, HST.out]; exact HK3.out⟩
        | false =>
          rw [hv0] at hl
          have HL := Lib.hid hl; clear hl
          go_wp2_with fail
          refine HL.out.mono ?_
          rintro e w2 ⟨rfl, k2⟩
          have HK2 := Lib.hid (HJ.out.2.2.no k2); clear k2
          have hl2 := less_any HK2.out.1 ok n HJ.out.2.1 x p1 (by omega) (by omega)
          have hst := sv_step (ltK kind m) hi f r c1 E hs (Or.inr ⟨fun _ => by rw [show f + (2 * r + 1) = p1 by omega, show f + (2 * r + 2) = p2 by omega]; exact hv0, by omega⟩)
          rw [show f + r = x by omega, show f + c1 = p1 by omega] at hst
          cases hv2 : ltK kind m E[x]! E[p1]! with
          | true =>
            rw [hv2] at hl2 hst
            rw [if_pos rfl] at hst
            have hsw := fun W (q : Kept No w2 W) => swap_row (HK2.out.1.keptNo q) n HJ.out.2.1 x p1 (by omega) (by omega)
            have hsz : (swp E x p1).size = n := by rw [size_swp, HJ.out.2.1]
            generalize swp E x p1 = E' at *
            have HL2 := Lib.hid hl2; have HSW := Lib.hid hsw; have HST := Lib.hid hst; have HSZ := Lib.hid hsz; clear hl2 hsw hst hsz hv2
            go_wp2_with fail
            refine HL2.out.mono ?_
            rintro e w3 ⟨rfl, k3⟩
            have HS3 := Lib.hid (HSW.out w3 k3); have HK3 := Lib.hid (HK2.out.no k3); clear k3
            go_wp2_with fail
            refine HS3.out.mono ?_
            rintro e w4 ⟨rfl, hs4⟩
            have HS4 := Lib.hid (HK3.out.trans hs4); clear hs4
            go_wp2_with fail
            go_roundg (hi + 1 - c1)
            case measure => omega
            case rel => exact ⟨c1, E', rfl, by omega, by omega, (show _ ∧ _ ∧ _ from ⟨by rw [← HJ.out.1, HST.out], HSZ.out, HS4.out⟩)⟩
          | false =>
            rw [hv2] at hl2 hst
            rw [if_neg (by simp)] at hst
            have HL2 := Lib.hid hl2; have HST := Lib.hid hst; clear hl2 hst hv2
            go_wp2_with fail
            refine HL2.out.mono ?_
            rintro e w3 ⟨rfl, k3⟩
            have HK3 := Lib.hid (HK2.out.no k3); clear k3
            go_wp2_with fail
            refine bodyPost_ret (results_none rfl _ _ _) rfl ?_
            exact ⟨rfl, by rw [← HJ.out.1, HST.out]; exact HK3.out⟩
      · have g2 : ¬ (c2 : Int) < (hi : Int) := by omega
        have hl2 := less_any HJ.out.2.2.1 ok n HJ.out.2.1 x p1 (by omega) (by omega)
        have hst := sv_step (ltK kind m) hi f r c1 E hs (Or.inr ⟨fun h => absurd h (by omega), by omega⟩)
        rw [show f + r = x by omega, show f + c1 = p1 by omega] at hst
        cases hv2 : ltK kind m E[x]! E[p1]! with
        | true =>
          rw [hv2] at hl2 hst
          rw [if_pos rfl] at hst
          have hsw := fun W (q : Kept No wr W) => swap_row (HJ.out.2.2.1.keptNo q) n HJ.out.2.1 x p1 (by omega) (by omega)
          have hsz : (swp E x p1).size = n := by rw [size_swp, HJ.out.2.1]
          generalize swp E x p1 = E' at *
          have HL2 := Lib.hid hl2; have HSW := Lib.hid hsw; have HST := Lib.hid hst; have HSZ := Lib.hid hsz; clear hl2 hsw hst hsz hv2
          go_wp2_with fail
          refine HL2.out.mono ?_
          rintro e w3 ⟨rfl, k3⟩
          have HS3 := Lib.hid (HSW.out w3 k3); have HK3 := Lib.hid (HJ.out.2.2.no k3); clear k3
          go_wp2_with fail
          refine HS3.out.mono ?_
          rintro e w4 ⟨rfl, hs4⟩
          have HS4 := Lib.hid (HK3.out.trans hs4); clear hs4
          go_wp2_with fail
          go_roundg (hi + 1 - c1)
          case measure => omega
          case rel => exact ⟨c1, E', rfl, by omega, by omega, (show _ ∧ _ ∧ _ from ⟨by rw [← HJ.out.1, HST.out], HSZ.out, HS4.out⟩)⟩
        | false =>
          rw [hv2] at hl2 hst
          rw [if_neg (by simp)] at hst
          have HL2 := Lib.hid hl2; have HST := Lib.hid hst; clear hl2 hst hv2
          go_wp2_with fail
          refine HL2.out.mono ?_
          rintro e w3 ⟨rfl, k3⟩
          have HK3 := Lib.hid (HJ.out.2.2.no k3); clear k3
          go_wp2_with fail
          refine bodyPost_ret (results_none rfl _ _ _) rfl ?_
          exact ⟨rfl, by rw [← HJ.out.1, HST.out]; exact HK3.out⟩
    · have HE := Lib.hid (sv_stop (ltK kind m) hi f r E hs)
      have g1 : (hi : Int) ≤ (c1 : Int) := by omega
      go_wp2_with fail
      go_end0
      exact ⟨rfl, by rw [← HJ.out.1, HE.out]; exact HJ.out.2.2⟩

end Go.Nl
