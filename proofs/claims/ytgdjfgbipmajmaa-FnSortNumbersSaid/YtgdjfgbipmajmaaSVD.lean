/- sort.Sort's partitions. -/
import Derived.Test.YtgdjfgbipmajmaaSVC
import Derived.Deep.CutBlock
namespace Go.Nl
open Go.RowKit Go.Sort Go.Proofs

set_option maxHeartbeats 8000000 in
set_option maxRecDepth 100000 in
theorem svPart_any {w : World} {g cap ob n : Nat} {kind m : Int} {d : Array Int} {x : Int} (h : SV w g cap ob kind m d) (ok : OrdOk kind m) (hn : d.size = n) (hb : n ≤ 1048576) (a b pv : Nat) (hap : a ≤ pv) (hpb : pv < b) (hbn : b ≤ n) (hx : d[pv]! = x) :
    Calls Try.prog 102 #[.iface 100 (rvOf g n cap ob), .int .i64 a, .int .i64 b, .int .i64 pv] w fun e w' => ∃ mid : Nat, ∃ ap : Bool, ∃ R : Array Int, e = .returned (.tuple #[.int .i64 mid, .bool ap]) ∧ Hid (Parted (fun y => ltK kind m y x) a b mid x d R ∧ SVTo w g cap ob kind m R w') := by
  have m1 := meth_less g n cap ob
  have m2 := meth_swap g n cap ob
  have hst : PI (fun y => ltK kind m y x) a b (a + 1) (b - 1) x d (swp d a pv) := by rw [← hx]; exact PI.start hap hpb (by omega)
  have hsw := swap_row h n hn a pv (by omega) (by omega)
  have hsz : (swp d a pv).size = n := by rw [size_swp, hn]
  obtain ⟨i0, hi0, hi0'⟩ : ∃ i : Nat, i ≤ a + 1 ∧ a + 1 ≤ i := ⟨_, Nat.le_refl _, Nat.le_refl _⟩
  obtain ⟨j0, hj0, hj0'⟩ : ∃ j : Nat, j + 1 ≤ b ∧ b ≤ j + 1 := ⟨b - 1, by omega, by omega⟩
  rw [show a + 1 = i0 by omega, show b - 1 = j0 by omega] at hst
  have t0 : IntKind.i64.wrap ((a : Int) + 1) = (i0 : Int) := by rw [IntWalk.i64_in _ (by omega)]; omega
  have t1 : IntKind.i64.wrap ((b : Int) - 1) = (j0 : Int) := by rw [IntWalk.i64_in _ (by omega)]; omega
  generalize swp d a pv = D0 at *
  have HST := Lib.hid hst; have HSW := Lib.hid hsw; have HSZ := Lib.hid hsz; clear hst hsw hsz hx h hn
  go_enter Try.func102, Try.ntmps102
  go_wp2_with fail
  refine HSW.out.mono ?_
  rintro e w1 ⟨rfl, h1⟩
  have H1 : Hid (SVTo w g cap ob kind m D0 w1) := Lib.hid h1; clear h1
  go_upto_block 0 with fail
  go_cut [10] (fun si wc => ∃ i : Nat, si = .int .i64 i ∧ i0 ≤ i ∧ i ≤ j0 + 1 ∧ Hid (PI (fun y => ltK kind m y x) a b i j0 x d D0 ∧ (i ≤ j0 → (fun y => ltK kind m y x) D0[i]! = false) ∧ D0.size = n ∧ SVTo w g cap ob kind m D0 wc))
  case first =>
    go_wp2_with fail
    go_loopg [10] (b + 1) (fun gg si wr => ∃ i : Nat, si = .int .i64 i ∧ i0 ≤ i ∧ i ≤ j0 + 1 ∧ b + 1 - i ≤ gg ∧ Hid (PI (fun y => ltK kind m y x) a b i j0 x d D0 ∧ D0.size = n ∧ SVTo w g cap ob kind m D0 wr))
    case atStart => exact ⟨i0, rfl, by omega, by omega, by omega, (show _ ∧ _ ∧ _ from ⟨HST.out, HSZ.out, H1.out⟩)⟩
    case round =>
      obtain ⟨i, rfl, h1, h2, hg, HI⟩ := hrel
      by_cases hij : i ≤ j0
      · have hl := less_any HI.out.2.2.1 ok n HI.out.2.1 i a (by omega) (by omega)
        rw [HI.out.1.piv] at hl
        cases hv : ltK kind m D0[i]! x with
        | true =>
          rw [hv] at hl
          have hnx := HI.out.1.up hij (hv)
          have HL := Lib.hid hl; have HX := Lib.hid hnx; clear hl hnx hv
          go_wp2_with fail
          refine HL.out.mono ?_
          rintro e w2 ⟨rfl, k2⟩
          have HK := Lib.hid (HI.out.2.2.no k2); clear k2
          go_wp2_with fail
          go_roundg (b + 1 - (i + 1))
          case measure => omega
          case rel => exact ⟨i + 1, by go_num, by omega, by omega, by omega, (show _ ∧ _ ∧ _ from ⟨HX.out, HI.out.2.1, HK.out⟩)⟩
        | false =>
          rw [hv] at hl
          have hpx : (fun y => ltK kind m y x) D0[i]! = false := hv
          have HL := Lib.hid hl; have HX := Lib.hid hpx; clear hl hpx hv
          go_wp2_with fail
          refine HL.out.mono ?_
          rintro e w2 ⟨rfl, k2⟩
          have HK := Lib.hid (HI.out.2.2.no k2); clear k2
          go_wp2_with fail
          go_meet
          case rel => exact ⟨i, rfl, by omega, by omega, (show _ ∧ _ ∧ _ ∧ _ from ⟨HI.out.1, fun _ => HX.out, HI.out.2.1, HK.out⟩)⟩
      · have g1 : ¬ (i : Int) ≤ (j0 : Int) := by omega
        go_wp2_with fail
        go_meet
        case rel => exact ⟨i, rfl, by omega, by omega, (show _ ∧ _ ∧ _ ∧ _ from ⟨HI.out.1, fun h => absurd h hij, HI.out.2.1, HI.out.2.2⟩)⟩
  case rest =>
    obtain ⟨i, rfl, hai, hij1, HC⟩ := hcut
    go_upto_block 2 with fail
    go_cut [11] (fun si wc => ∃ j : Nat, si = .int .i64 j ∧ i ≤ j + 1 ∧ j ≤ j0 ∧ Hid (PI (fun y => ltK kind m y x) a b i j x d D0 ∧ (i ≤ j → (fun y => ltK kind m y x) D0[i]! = false) ∧ (i ≤ j → (fun y => ltK kind m y x) D0[j]! = true) ∧ D0.size = n ∧ SVTo w g cap ob kind m D0 wc))
    case first =>
      go_wp2_with fail
      go_loopg [11] (b + 1) (fun gg si wr => ∃ j : Nat, si = .int .i64 j ∧ i ≤ j + 1 ∧ j ≤ j0 ∧ j + 1 ≤ gg ∧ Hid (PI (fun y => ltK kind m y x) a b i j x d D0 ∧ (i ≤ j → (fun y => ltK kind m y x) D0[i]! = false) ∧ D0.size = n ∧ SVTo w g cap ob kind m D0 wr))
      case atStart => exact ⟨j0, rfl, by omega, by omega, by omega, (show _ ∧ _ ∧ _ ∧ _ from ⟨HC.out.1, HC.out.2.1, HC.out.2.2.1, HC.out.2.2.2⟩)⟩
      case round =>
        obtain ⟨j, rfl, h1, h2, hg, HI⟩ := hrel
        by_cases hij : i ≤ j
        · obtain ⟨p, hp1, hp2⟩ : ∃ p : Nat, p + 1 ≤ j ∧ j ≤ p + 1 := ⟨j - 1, by omega, by omega⟩
          have t1 : IntKind.i64.wrap ((j : Int) - 1) = (p : Int) := by rw [IntWalk.i64_in _ (by omega)]; omega
          have hl := less_any HI.out.2.2.2.1 ok n HI.out.2.2.1 j a (by omega) (by omega)
          rw [HI.out.1.piv] at hl
          cases hv : ltK kind m D0[j]! x with
          | true =>
            rw [hv] at hl
            have hpx : (fun y => ltK kind m y x) D0[j]! = true := hv
            have HL := Lib.hid hl; have HX := Lib.hid hpx; clear hl hpx hv
            go_wp2_with fail
            refine HL.out.mono ?_
            rintro e w2 ⟨rfl, k2⟩
            have HK := Lib.hid (HI.out.2.2.2.no k2); clear k2
            go_wp2_with fail
            go_meet
            case rel => exact ⟨j, rfl, by omega, by omega, (show _ ∧ _ ∧ _ ∧ _ ∧ _ from ⟨HI.out.1, HI.out.2.1, fun _ => HX.out, HI.out.2.2.1, HK.out⟩)⟩
          | false =>
            rw [hv] at hl
            have hnx : PI (fun y => ltK kind m y x) a b i p x d D0 := by
              have e : j = p + 1 := by omega
              have q := HI.out.1
              rw [e] at hv q
              exact q.down (by omega) (hv)
            have HL := Lib.hid hl; have HX := Lib.hid hnx; clear hl hnx hv
            go_wp2_with fail
            refine HL.out.mono ?_
            rintro e w2 ⟨rfl, k2⟩
            have HK := Lib.hid (HI.out.2.2.2.no k2); clear k2
            go_wp2_with fail
            go_roundg (p + 1)
            case measure => omega
            case rel => exact ⟨p, rfl, by omega, by omega, by omega, (show _ ∧ _ ∧ _ ∧ _ from ⟨HX.out, fun _ => HI.out.2.1 hij, HI.out.2.2.1, HK.out⟩)⟩
        · have g1 : ¬ (i : Int) ≤ (j : Int) := by omega
          go_wp2_with fail
          go_meet
          case rel => exact ⟨j, rfl, by omega, by omega, (show _ ∧ _ ∧ _ ∧ _ ∧ _ from ⟨HI.out.1, HI.out.2.1, fun h => absurd h hij, HI.out.2.2.1, HI.out.2.2.2⟩)⟩
    case rest =>
      obtain ⟨j, rfl, hij2, hjb, HD⟩ := hcut
      by_cases hij : i ≤ j
      · have g1 : ¬ (j : Int) < (i : Int) := by omega
        obtain ⟨q, hq1, hq2⟩ : ∃ q : Nat, q + 1 ≤ j ∧ j ≤ q + 1 := ⟨j - 1, by omega, by omega⟩
        have hsw := swap_row HD.out.2.2.2.2.1 n HD.out.2.2.2.1 i j (by omega) (by omega)
        have htn : i < j ∧ PI (fun y => ltK kind m y x) a b (i + 1) q x d (swp D0 i j) := by
          have e : j = q + 1 := by omega
          have q1 := HD.out.1; have q2 := HD.out.2.1 hij; have q3 := HD.out.2.2.1 hij
          rw [e] at q1 q3 ⊢
          exact q1.turn (by omega) q2 q3
        have hsz : (swp D0 i j).size = n := by rw [size_swp, HD.out.2.2.2.1]
        have t2 : IntKind.i64.wrap ((j : Int) - 1) = (q : Int) := by rw [IntWalk.i64_in _ (by omega)]; omega
        have hlt := htn.1
        generalize swp D0 i j = D1 at *
        have HT := Lib.hid htn.2; have HW := Lib.hid hsw; have HZ := Lib.hid hsz; clear htn hsw hsz
        go_wp2_with fail
        refine HW.out.mono ?_
        rintro e w2 ⟨rfl, k2⟩
        have HK := Lib.hid (HD.out.2.2.2.2.trans k2); clear k2

        go_wp2_with fail
        go_loopg [10, 11] (b + 1) (fun gg si sj wr => ∃ i j : Nat, ∃ D : Array Int, si = .int .i64 i ∧ sj = .int .i64 j ∧ a < i ∧ i ≤ j + 1 ∧ j < b ∧ j + 1 - i ≤ gg ∧ Hid (PI (fun y => ltK kind m y x) a b i j x d D ∧ D.size = n ∧ SVTo w g cap ob kind m D wr))
        case atStart => exact ⟨i + 1, q, D1, by go_num, rfl, by omega, by omega, by omega, by omega, (show _ ∧ _ ∧ _ from ⟨HT.out, HZ.out, HK.out⟩)⟩
        case round =>
          clear HD HC HST HSW HSZ H1 HT HW HZ HK
          clear hij hij1 hij2 hq1 hq2 hlt hai hjb g1 t2
          obtain ⟨i1, j1, D2, rfl, rfl, hi1, hij1, hj1, hg, HI⟩ := hrel
          go_upto_block 6 with fail
          go_cut [10] (fun si wc => ∃ i : Nat, si = .int .i64 i ∧ i1 ≤ i ∧ i ≤ j1 + 1 ∧ Hid (PI (fun y => ltK kind m y x) a b i j1 x d D2 ∧ (i ≤ j1 → (fun y => ltK kind m y x) D2[i]! = false) ∧ D2.size = n ∧ SVTo w g cap ob kind m D2 wc))
          case first =>
            go_wp2_with fail
            go_loopg [10] (b + 1) (fun gg si wr => ∃ i : Nat, si = .int .i64 i ∧ i1 ≤ i ∧ i ≤ j1 + 1 ∧ b + 1 - i ≤ gg ∧ Hid (PI (fun y => ltK kind m y x) a b i j1 x d D2 ∧ D2.size = n ∧ SVTo w g cap ob kind m D2 wr))
            case atStart => exact ⟨i1, rfl, by omega, by omega, by omega, (show _ ∧ _ ∧ _ from ⟨HI.out.1, HI.out.2.1, HI.out.2.2⟩)⟩
            case round =>
              obtain ⟨i, rfl, h1, h2, hg, HI⟩ := hrel
              by_cases hij : i ≤ j1
              · have hl := less_any HI.out.2.2.1 ok n HI.out.2.1 i a (by omega) (by omega)
                rw [HI.out.1.piv] at hl
                cases hv : ltK kind m D2[i]! x with
                | true =>
                  rw [hv] at hl
                  have hnx := HI.out.1.up hij (hv)
                  have HL := Lib.hid hl; have HX := Lib.hid hnx; clear hl hnx hv
                  go_wp2_with fail
                  refine HL.out.mono ?_
                  rintro e w2 ⟨rfl, k2⟩
                  have HK := Lib.hid (HI.out.2.2.no k2); clear k2
                  go_wp2_with fail
                  go_roundg (b + 1 - (i + 1))
                  case measure => omega
                  case rel => exact ⟨i + 1, by go_num, by omega, by omega, by omega, (show _ ∧ _ ∧ _ from ⟨HX.out, HI.out.2.1, HK.out⟩)⟩
                | false =>
                  rw [hv] at hl
                  have hpx : (fun y => ltK kind m y x) D2[i]! = false := hv
                  have HL := Lib.hid hl; have HX := Lib.hid hpx; clear hl hpx hv
                  go_wp2_with fail
                  refine HL.out.mono ?_
                  rintro e w2 ⟨rfl, k2⟩
                  have HK := Lib.hid (HI.out.2.2.no k2); clear k2
                  go_wp2_with fail
                  go_meet
                  case rel => exact ⟨i, rfl, by omega, by omega, (show _ ∧ _ ∧ _ ∧ _ from ⟨HI.out.1, fun _ => HX.out, HI.out.2.1, HK.out⟩)⟩
              · have g1 : ¬ (i : Int) ≤ (j1 : Int) := by omega
                go_wp2_with fail
                go_meet
                case rel => exact ⟨i, rfl, by omega, by omega, (show _ ∧ _ ∧ _ ∧ _ from ⟨HI.out.1, fun h => absurd h hij, HI.out.2.1, HI.out.2.2⟩)⟩
          case rest =>
            obtain ⟨i, rfl, hai, hij1', HC⟩ := hcut
            go_upto_block 8 with fail
            go_cut [11] (fun si wc => ∃ j : Nat, si = .int .i64 j ∧ i ≤ j + 1 ∧ j ≤ j1 ∧ Hid (PI (fun y => ltK kind m y x) a b i j x d D2 ∧ (i ≤ j → (fun y => ltK kind m y x) D2[i]! = false) ∧ (i ≤ j → (fun y => ltK kind m y x) D2[j]! = true) ∧ D2.size = n ∧ SVTo w g cap ob kind m D2 wc))
            case first =>
              go_wp2_with fail
              go_loopg [11] (b + 1) (fun gg si wr => ∃ j : Nat, si = .int .i64 j ∧ i ≤ j + 1 ∧ j ≤ j1 ∧ j + 1 ≤ gg ∧ Hid (PI (fun y => ltK kind m y x) a b i j x d D2 ∧ (i ≤ j → (fun y => ltK kind m y x) D2[i]! = false) ∧ D2.size = n ∧ SVTo w g cap ob kind m D2 wr))
              case atStart => exact ⟨j1, rfl, by omega, by omega, by omega, (show _ ∧ _ ∧ _ ∧ _ from ⟨HC.out.1, HC.out.2.1, HC.out.2.2.1, HC.out.2.2.2⟩)⟩
              case round =>
                obtain ⟨j, rfl, h1, h2, hg, HI⟩ := hrel
                by_cases hij : i ≤ j
                · obtain ⟨p, hp1, hp2⟩ : ∃ p : Nat, p + 1 ≤ j ∧ j ≤ p + 1 := ⟨j - 1, by omega, by omega⟩
                  have t1 : IntKind.i64.wrap ((j : Int) - 1) = (p : Int) := by rw [IntWalk.i64_in _ (by omega)]; omega
                  have hl := less_any HI.out.2.2.2.1 ok n HI.out.2.2.1 j a (by omega) (by omega)
                  rw [HI.out.1.piv] at hl
                  cases hv : ltK kind m D2[j]! x with
                  | true =>
                    rw [hv] at hl
                    have hpx : (fun y => ltK kind m y x) D2[j]! = true := hv
                    have HL := Lib.hid hl; have HX := Lib.hid hpx; clear hl hpx hv
                    go_wp2_with fail
                    refine HL.out.mono ?_
                    rintro e w2 ⟨rfl, k2⟩
                    have HK := Lib.hid (HI.out.2.2.2.no k2); clear k2
                    go_wp2_with fail
                    go_meet
                    case rel => exact ⟨j, rfl, by omega, by omega, (show _ ∧ _ ∧ _ ∧ _ ∧ _ from ⟨HI.out.1, HI.out.2.1, fun _ => HX.out, HI.out.2.2.1, HK.out⟩)⟩
                  | false =>
                    rw [hv] at hl
                    have hnx : PI (fun y => ltK kind m y x) a b i p x d D2 := by
                      have e : j = p + 1 := by omega
                      have q := HI.out.1
                      rw [e] at hv q
                      exact q.down (by omega) (hv)
                    have HL := Lib.hid hl; have HX := Lib.hid hnx; clear hl hnx hv
                    go_wp2_with fail
                    refine HL.out.mono ?_
                    rintro e w2 ⟨rfl, k2⟩
                    have HK := Lib.hid (HI.out.2.2.2.no k2); clear k2
                    go_wp2_with fail
                    go_roundg (p + 1)
                    case measure => omega
                    case rel => exact ⟨p, rfl, by omega, by omega, by omega, (show _ ∧ _ ∧ _ ∧ _ from ⟨HX.out, fun _ => HI.out.2.1 hij, HI.out.2.2.1, HK.out⟩)⟩
                · have g1 : ¬ (i : Int) ≤ (j : Int) := by omega
                  go_wp2_with fail
                  go_meet
                  case rel => exact ⟨j, rfl, by omega, by omega, (show _ ∧ _ ∧ _ ∧ _ ∧ _ from ⟨HI.out.1, HI.out.2.1, fun h => absurd h hij, HI.out.2.2.1, HI.out.2.2.2⟩)⟩
            case rest =>
              obtain ⟨j, rfl, hij2, hjb, HD⟩ := hcut
              by_cases hij : i ≤ j
              · have g1 : ¬ (j : Int) < (i : Int) := by omega
                obtain ⟨q, hq1, hq2⟩ : ∃ q : Nat, q + 1 ≤ j ∧ j ≤ q + 1 := ⟨j - 1, by omega, by omega⟩
                have hsw := swap_row HD.out.2.2.2.2.1 n HD.out.2.2.2.1 i j (by omega) (by omega)
                have htn : i < j ∧ PI (fun y => ltK kind m y x) a b (i + 1) q x d (swp D2 i j) := by
                  have e : j = q + 1 := by omega
                  have q1 := HD.out.1; have q2 := HD.out.2.1 hij; have q3 := HD.out.2.2.1 hij
                  rw [e] at q1 q3 ⊢
                  exact q1.turn (by omega) q2 q3
                have hsz : (swp D2 i j).size = n := by rw [size_swp, HD.out.2.2.2.1]
                have t2 : IntKind.i64.wrap ((j : Int) - 1) = (q : Int) := by rw [IntWalk.i64_in _ (by omega)]; omega
                have hlt := htn.1
                generalize swp D2 i j = D1 at *
                have HT := Lib.hid htn.2; have HW := Lib.hid hsw; have HZ := Lib.hid hsz; clear htn hsw hsz
                go_wp2_with fail
                refine HW.out.mono ?_
                rintro e w2 ⟨rfl, k2⟩
                have HK := Lib.hid (HD.out.2.2.2.2.trans k2); clear k2

                go_wp2_with fail
                go_roundg (q + 1 - (i + 1))
                case measure => omega
                case rel => exact ⟨i + 1, q, D1, by go_num, rfl, by omega, by omega, by omega, by omega, (show _ ∧ _ ∧ _ from ⟨HT.out, HZ.out, HK.out⟩)⟩
              · have g1 : (j : Int) < (i : Int) := by omega
                have hdn := HD.out.1.done hij
                have hsw := swap_row HD.out.2.2.2.2.1 n HD.out.2.2.2.1 j a (by omega) (by omega)
                generalize swp D2 j a = R at *
                have HN := Lib.hid hdn; have HW := Lib.hid hsw; clear hdn hsw
                go_wp2_with fail
                refine HW.out.mono ?_
                rintro e w2 ⟨rfl, k2⟩
                have HK := Lib.hid (HD.out.2.2.2.2.trans k2); clear k2
                go_wp2_with fail
                refine bodyPost_ret (results_tmp2 rfl _ _ _) rfl ?_
                exact ⟨j, _, R, rfl, (show _ ∧ _ from ⟨HN.out, HK.out⟩)⟩
      · have g1 : (j : Int) < (i : Int) := by omega
        have hdn := HD.out.1.done hij
        have hsw := swap_row HD.out.2.2.2.2.1 n HD.out.2.2.2.1 j a (by omega) (by omega)
        generalize swp D0 j a = R at *
        have HN := Lib.hid hdn; have HW := Lib.hid hsw; clear hdn hsw
        go_wp2_with fail
        refine HW.out.mono ?_
        rintro e w2 ⟨rfl, k2⟩
        have HK := Lib.hid (HD.out.2.2.2.2.trans k2); clear k2
        go_wp2_with fail
        refine bodyPost_ret (results_tmp2 rfl _ _ _) rfl ?_
        exact ⟨j, _, R, rfl, (show _ ∧ _ from ⟨HN.out, HK.out⟩)⟩

set_option maxHeartbeats 8000000 in
set_option maxRecDepth 100000 in
theorem svPartEq_any {w : World} {g cap ob n : Nat} {kind m : Int} {d : Array Int} {x : Int} (h : SV w g cap ob kind m d) (ok : OrdOk kind m) (hn : d.size = n) (hb : n ≤ 1048576) (a b pv : Nat) (hap : a ≤ pv) (hpb : pv < b) (hbn : b ≤ n) (hx : d[pv]! = x) :
    Calls Try.prog 101 #[.iface 100 (rvOf g n cap ob), .int .i64 a, .int .i64 b, .int .i64 pv] w fun e w' => ∃ mid : Nat, e = .returned (.int .i64 mid) ∧ ∃ R : Array Int, Hid (PartedEq (fun y => !ltK kind m x y) a b mid x d R ∧ SVTo w g cap ob kind m R w') := by
  have m1 := meth_less g n cap ob
  have m2 := meth_swap g n cap ob
  have hst : PI (fun y => !ltK kind m x y) a b (a + 1) (b - 1) x d (swp d a pv) := by rw [← hx]; exact PI.start hap hpb (by omega)
  have hsw := swap_row h n hn a pv (by omega) (by omega)
  have hsz : (swp d a pv).size = n := by rw [size_swp, hn]
  obtain ⟨i0, hi0, hi0'⟩ : ∃ i : Nat, i ≤ a + 1 ∧ a + 1 ≤ i := ⟨_, Nat.le_refl _, Nat.le_refl _⟩
  obtain ⟨j0, hj0, hj0'⟩ : ∃ j : Nat, j + 1 ≤ b ∧ b ≤ j + 1 := ⟨b - 1, by omega, by omega⟩
  rw [show a + 1 = i0 by omega, show b - 1 = j0 by omega] at hst
  have t0 : IntKind.i64.wrap ((a : Int) + 1) = (i0 : Int) := by rw [IntWalk.i64_in _ (by omega)]; omega
  have t1 : IntKind.i64.wrap ((b : Int) - 1) = (j0 : Int) := by rw [IntWalk.i64_in _ (by omega)]; omega
  generalize swp d a pv = D0 at *
  have HST := Lib.hid hst; have HSW := Lib.hid hsw; have HSZ := Lib.hid hsz; clear hst hsw hsz hx h hn
  go_enter Try.func101, Try.ntmps101
  go_wp2_with fail
  refine HSW.out.mono ?_
  rintro e w1 ⟨rfl, h1⟩
  have H1 : Hid (SVTo w g cap ob kind m D0 w1) := Lib.hid h1; clear h1
  go_wp2_with fail
  go_loopg [9, 10] (b + 1) (fun gg si sj wr => ∃ i j : Nat, ∃ D : Array Int, si = .int .i64 i ∧ sj = .int .i64 j ∧ a < i ∧ i ≤ j + 1 ∧ j < b ∧ j + 1 - i ≤ gg ∧ Hid (PI (fun y => !ltK kind m x y) a b i j x d D ∧ D.size = n ∧ SVTo w g cap ob kind m D wr))
  case atStart => exact ⟨i0, j0, D0, rfl, rfl, by omega, by omega, by omega, by omega, (show _ ∧ _ ∧ _ from ⟨HST.out, HSZ.out, H1.out⟩)⟩
  case round =>
    clear HST HSW HSZ H1
    obtain ⟨i1, j1, D2, rfl, rfl, hi1, hij1, hj1, hg, HI⟩ := hrel
    go_upto_block 2 with fail
    go_cut [9] (fun si wc => ∃ i : Nat, si = .int .i64 i ∧ i1 ≤ i ∧ i ≤ j1 + 1 ∧ Hid (PI (fun y => !ltK kind m x y) a b i j1 x d D2 ∧ (i ≤ j1 → (fun y => !ltK kind m x y) D2[i]! = false) ∧ D2.size = n ∧ SVTo w g cap ob kind m D2 wc))
    case first =>
      go_wp2_with fail
      go_loopg [9] (b + 1) (fun gg si wr => ∃ i : Nat, si = .int .i64 i ∧ i1 ≤ i ∧ i ≤ j1 + 1 ∧ b + 1 - i ≤ gg ∧ Hid (PI (fun y => !ltK kind m x y) a b i j1 x d D2 ∧ D2.size = n ∧ SVTo w g cap ob kind m D2 wr))
      case atStart => exact ⟨i1, rfl, by omega, by omega, by omega, (show _ ∧ _ ∧ _ from ⟨HI.out.1, HI.out.2.1, HI.out.2.2⟩)⟩
      case round =>
        obtain ⟨i, rfl, h1, h2, hg, HI⟩ := hrel
        by_cases hij : i ≤ j1
        · have hl := less_any HI.out.2.2.1 ok n HI.out.2.1 a i (by omega) (by omega)
          rw [HI.out.1.piv] at hl
          cases hv : ltK kind m x D2[i]! with
          | true =>
            rw [hv] at hl
            have hpx : (fun y => !ltK kind m x y) D2[i]! = false := by simpa using hv
            have HL := Lib.hid hl; have HX := Lib.hid hpx; clear hl hpx hv
            go_wp2_with fail
            refine HL.out.mono ?_
            rintro e w2 ⟨rfl, k2⟩
            have HK := Lib.hid (HI.out.2.2.no k2); clear k2
            go_wp2_with fail
            go_meet
            case rel => exact ⟨i, rfl, by omega, by omega, (show _ ∧ _ ∧ _ ∧ _ from ⟨HI.out.1, fun _ => HX.out, HI.out.2.1, HK.out⟩)⟩
          | false =>
            rw [hv] at hl
            have hnx := HI.out.1.up hij (by simpa using hv)
            have HL := Lib.hid hl; have HX := Lib.hid hnx; clear hl hnx hv
            go_wp2_with fail
            refine HL.out.mono ?_
            rintro e w2 ⟨rfl, k2⟩
            have HK := Lib.hid (HI.out.2.2.no k2); clear k2
            go_wp2_with fail
            go_roundg (b + 1 - (i + 1))
            case measure => omega
            case rel => exact ⟨i + 1, by go_num, by omega, by omega, by omega, (show _ ∧ _ ∧ _ from ⟨HX.out, HI.out.2.1, HK.out⟩)⟩
        · have g1 : ¬ (i : Int) ≤ (j1 : Int) := by omega
          go_wp2_with fail
          go_meet
          case rel => exact ⟨i, rfl, by omega, by omega, (show _ ∧ _ ∧ _ ∧ _ from ⟨HI.out.1, fun h => absurd h hij, HI.out.2.1, HI.out.2.2⟩)⟩
    case rest =>
      obtain ⟨i, rfl, hai, hij1', HC⟩ := hcut
      go_upto_block 4 with fail
      go_cut [10] (fun si wc => ∃ j : Nat, si = .int .i64 j ∧ i ≤ j + 1 ∧ j ≤ j1 ∧ Hid (PI (fun y => !ltK kind m x y) a b i j x d D2 ∧ (i ≤ j → (fun y => !ltK kind m x y) D2[i]! = false) ∧ (i ≤ j → (fun y => !ltK kind m x y) D2[j]! = true) ∧ D2.size = n ∧ SVTo w g cap ob kind m D2 wc))
      case first =>
        go_wp2_with fail
        go_loopg [10] (b + 1) (fun gg si wr => ∃ j : Nat, si = .int .i64 j ∧ i ≤ j + 1 ∧ j ≤ j1 ∧ j + 1 ≤ gg ∧ Hid (PI (fun y => !ltK kind m x y) a b i j x d D2 ∧ (i ≤ j → (fun y => !ltK kind m x y) D2[i]! = false) ∧ D2.size = n ∧ SVTo w g cap ob kind m D2 wr))
        case atStart => exact ⟨j1, rfl, by omega, by omega, by omega, (show _ ∧ _ ∧ _ ∧ _ from ⟨HC.out.1, HC.out.2.1, HC.out.2.2.1, HC.out.2.2.2⟩)⟩
        case round =>
          obtain ⟨j, rfl, h1, h2, hg, HI⟩ := hrel
          by_cases hij : i ≤ j
          · obtain ⟨p, hp1, hp2⟩ : ∃ p : Nat, p + 1 ≤ j ∧ j ≤ p + 1 := ⟨j - 1, by omega, by omega⟩
            have t1 : IntKind.i64.wrap ((j : Int) - 1) = (p : Int) := by rw [IntWalk.i64_in _ (by omega)]; omega
            have hl := less_any HI.out.2.2.2.1 ok n HI.out.2.2.1 a j (by omega) (by omega)
            rw [HI.out.1.piv] at hl
            cases hv : ltK kind m x D2[j]! with
            | true =>
              rw [hv] at hl
              have hnx : PI (fun y => !ltK kind m x y) a b i p x d D2 := by
                have e : j = p + 1 := by omega
                have q := HI.out.1
                rw [e] at hv q
                exact q.down (by omega) (by simpa using hv)
              have HL := Lib.hid hl; have HX := Lib.hid hnx; clear hl hnx hv
              go_wp2_with fail
              refine HL.out.mono ?_
              rintro e w2 ⟨rfl, k2⟩
              have HK := Lib.hid (HI.out.2.2.2.no k2); clear k2
              go_wp2_with fail
              go_roundg (p + 1)
              case measure => omega
              case rel => exact ⟨p, rfl, by omega, by omega, by omega, (show _ ∧ _ ∧ _ ∧ _ from ⟨HX.out, fun _ => HI.out.2.1 hij, HI.out.2.2.1, HK.out⟩)⟩
            | false =>
              rw [hv] at hl
              have hpx : (fun y => !ltK kind m x y) D2[j]! = true := by simpa using hv
              have HL := Lib.hid hl; have HX := Lib.hid hpx; clear hl hpx hv
              go_wp2_with fail
              refine HL.out.mono ?_
              rintro e w2 ⟨rfl, k2⟩
              have HK := Lib.hid (HI.out.2.2.2.no k2); clear k2
              go_wp2_with fail
              go_meet
              case rel => exact ⟨j, rfl, by omega, by omega, (show _ ∧ _ ∧ _ ∧ _ ∧ _ from ⟨HI.out.1, HI.out.2.1, fun _ => HX.out, HI.out.2.2.1, HK.out⟩)⟩
          · have g1 : ¬ (i : Int) ≤ (j : Int) := by omega
            go_wp2_with fail
            go_meet
            case rel => exact ⟨j, rfl, by omega, by omega, (show _ ∧ _ ∧ _ ∧ _ ∧ _ from ⟨HI.out.1, HI.out.2.1, fun h => absurd h hij, HI.out.2.2.1, HI.out.2.2.2⟩)⟩
      case rest =>
        obtain ⟨j, rfl, hij2, hjb, HD⟩ := hcut
        by_cases hij : i ≤ j
        · have g1 : ¬ (j : Int) < (i : Int) := by omega
          obtain ⟨q, hq1, hq2⟩ : ∃ q : Nat, q + 1 ≤ j ∧ j ≤ q + 1 := ⟨j - 1, by omega, by omega⟩
          have hsw := swap_row HD.out.2.2.2.2.1 n HD.out.2.2.2.1 i j (by omega) (by omega)
          have htn : i < j ∧ PI (fun y => !ltK kind m x y) a b (i + 1) q x d (swp D2 i j) := by
            have e : j = q + 1 := by omega
            have q1 := HD.out.1; have q2 := HD.out.2.1 hij; have q3 := HD.out.2.2.1 hij
            rw [e] at q1 q3 ⊢
            exact q1.turn (by omega) q2 q3
          have hsz : (swp D2 i j).size = n := by rw [size_swp, HD.out.2.2.2.1]
          have t2 : IntKind.i64.wrap ((j : Int) - 1) = (q : Int) := by rw [IntWalk.i64_in _ (by omega)]; omega
          have hlt := htn.1
          generalize swp D2 i j = D1 at *
          have HT := Lib.hid htn.2; have HW := Lib.hid hsw; have HZ := Lib.hid hsz; clear htn hsw hsz
          go_wp2_with fail
          refine HW.out.mono ?_
          rintro e w2 ⟨rfl, k2⟩
          have HK := Lib.hid (HD.out.2.2.2.2.trans k2); clear k2

          go_wp2_with fail
          go_roundg (q + 1 - (i + 1))
          case measure => omega
          case rel => exact ⟨i + 1, q, D1, by go_num, rfl, by omega, by omega, by omega, by omega, (show _ ∧ _ ∧ _ from ⟨HT.out, HZ.out, HK.out⟩)⟩
        · have g1 : (j : Int) < (i : Int) := by omega
          have hdn := HD.out.1.doneEq hij
          have HN := Lib.hid hdn; clear hdn
          go_wp2_with fail
          refine bodyPost_ret (results_tmp rfl _ _ _) rfl ?_
          exact ⟨i, rfl, D2, (show _ ∧ _ from ⟨HN.out, HD.out.2.2.2.2⟩)⟩

end Go.Nl
