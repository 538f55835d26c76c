/- sort.Sort's pdqsort: its loop and its recursion. -/
import Derived.Test.YtgdjfgbipmajmaaSVI
import Derived.Test.YtgdjfgbipmajmaaSVJ
import Derived.Test.YtgdjfgbipmajmaaSVH
import Derived.Test.YtgdjfgbipmajmaaSVD
namespace Go.Nl
open Go.RowKit Go.Sort Go.Proofs

/-- What a sort of [a, b) leaves. -/
def SortsTo (w : World) (g cap ob : Nat) (kind m : Int) (a b : Nat) (d : Array Int) (e : Ending) (w' : World) : Prop :=
  e = .returned (.tuple #[]) ∧ ∃ R : Array Int, Hid (PermIn a b d R ∧ SortedIn (ltK kind m) a b R ∧ SVTo w g cap ob kind m R w')

/-- pdqsort over fewer than N numbers. -/
def Pdqs (g cap ob n : Nat) (kind m : Int) (N : Nat) : Prop := ∀ (a b limit : Nat), b < N + a → a ≤ b → b ≤ n → limit ≤ 64 → ∀ (w : World) (d : Array Int), SV w g cap ob kind m d → d.size = n → Under (ltK kind m) a b d →
  Calls Try.prog 87 #[.iface 100 (rvOf g n cap ob), .int .i64 a, .int .i64 b, .int .i64 limit] w (SortsTo w g cap ob kind m a b d)

/-- The loop's state. -/
def PdqAt (w0 : World) (g cap ob n : Nat) (kind m : Int) (a b : Nat) (d : Array Int) (p q : Nat) (D : Array Int) (w : World) : Prop :=
  PQ (ltK kind m) a b d p q D ∧ D.size = n ∧ SVTo w0 g cap ob kind m D w

section
variable {w0 w w' : World} {g cap ob n a b p q : Nat} {kind m : Int} {d D D' : Array Int}

theorem PdqAt.no (h : PdqAt w0 g cap ob n kind m a b d p q D w) (k : Kept No w w') : PdqAt w0 g cap ob n kind m a b d p q D w' := ⟨h.1, h.2.1, h.2.2.no k⟩
theorem PdqAt.step (h : PdqAt w0 g cap ob n kind m a b d p q D w) (hp : PermIn p q D D') (k : SVTo w g cap ob kind m D' w') : PdqAt w0 g cap ob n kind m a b d p q D' w' :=
  ⟨h.1.step hp, hp.1.trans h.2.1, h.2.2.trans k⟩
theorem PdqAt.fin (h : PdqAt w0 g cap ob n kind m a b d p q D w) (hp : PermIn p q D D') (hs : SortedIn (ltK kind m) p q D') (k : SVTo w g cap ob kind m D' w') : SortsTo w0 g cap ob kind m a b d (.returned (.tuple #[])) w' :=
  ⟨rfl, D', (show _ ∧ _ ∧ _ from ⟨((h.1.step hp).fin hs).1, ((h.1.step hp).fin hs).2, h.2.2.trans k⟩)⟩
theorem PdqAt.sv (h : PdqAt w0 g cap ob n kind m a b d p q D w) : SV w g cap ob kind m D := h.2.2.1
theorem PdqAt.to (h : PdqAt w0 g cap ob n kind m a b d p q D w) {p' q' : Nat} (h1 : PQ (ltK kind m) a b d p' q' D') (h2 : D'.size = n) (k : SVTo w g cap ob kind m D' w') : PdqAt w0 g cap ob n kind m a b d p' q' D' w' := ⟨h1, h2, h.2.2.trans k⟩
end

set_option maxHeartbeats 16000000 in
set_option maxRecDepth 1000000 in
theorem pdq_step {g cap ob n : Nat} {kind m : Int} (ok : OrdOk kind m) (hb : n ≤ 1048576) (N : Nat) (ih : Pdqs g cap ob n kind m N) : Pdqs g cap ob n kind m (N + 1) := by
  intro a b limit hN hab hbn hlim w d h hn hU
  have m1 := meth_less g n cap ob
  have H0 : Hid (PdqAt w g cap ob n kind m a b d a b d w) := (show _ ∧ _ ∧ _ from ⟨PQ.start hab (by omega) hU, hn, SVTo.refl h⟩)
  have IH := Lib.hid ih; clear ih h hU hn
  go_enter Try.func87, Try.ntmps87
  go_wp2_with fail
  go_loopg [1, 2, 3, 8, 9] (b - a + 1) (fun gg s1 s2 s3 s8 s9 wr => ∃ p q lim : Nat, ∃ wb wp : Bool, ∃ D : Array Int, s1 = .int .i64 p ∧ s2 = .int .i64 q ∧ s3 = .int .i64 lim ∧ s8 = .bool wb ∧ s9 = .bool wp ∧
    a ≤ p ∧ p ≤ q ∧ q ≤ b ∧ lim ≤ limit ∧ q + 1 ≤ gg + p ∧ Hid (PdqAt w g cap ob n kind m a b d p q D wr))
  case atStart => exact ⟨a, b, limit, true, true, d, rfl, rfl, rfl, rfl, rfl, by omega, by omega, by omega, by omega, by omega, H0.out⟩
  case round =>
    obtain ⟨p, q, lim, wb, wp, D, rfl, rfl, rfl, rfl, rfl, hap, hpq, hqb, hlm, hg, HI⟩ := hrel
    have t1 : IntKind.i64.wrap ((q : Int) - (p : Int)) = ((q - p : Nat) : Int) := by rw [IntWalk.i64_in _ (by omega)]; omega
    by_cases h12 : q - p ≤ 12
    · have g1 : ((q - p : Nat) : Int) ≤ 12 := by omega
      have hc := svIns_any HI.out.sv ok HI.out.2.1 hb p q hpq (by omega)
      have hp := insertionSort_holds (ltK_swo kind m) D p q hpq (by rw [HI.out.2.1]; omega)
      generalize insertionSort (ltK kind m) D p q = R at *
      have HC := Lib.hid hc; have HP := Lib.hid hp; clear hc hp
      go_wp2_with fail
      refine HC.out.mono ?_
      rintro e w2 ⟨rfl, k2⟩
      have HF := Lib.hid (HI.out.fin HP.out.1 HP.out.2 k2); clear k2
      go_wp2_with fail
      refine bodyPost_ret (results_none rfl _ _ _) rfl ?_
      exact HF.out
    · have g1 : ¬ ((q - p : Nat) : Int) ≤ 12 := by omega
      by_cases hl0 : lim = 0
      · subst hl0
        have hc := svHeap_any HI.out.sv ok HI.out.2.1 hb p q hpq (by omega)
        have hp := heapSort_holds (ltK_swo kind m) D p q hpq (by rw [HI.out.2.1]; omega)
        generalize heapSort (ltK kind m) D p q = R at *
        have HC := Lib.hid hc; have HP := Lib.hid hp; clear hc hp
        go_wp2_with fail
        refine HC.out.mono ?_
        rintro e w2 ⟨rfl, k2⟩
        have HF := Lib.hid (HI.out.fin HP.out.1 HP.out.2 k2); clear k2
        go_wp2_with fail
        refine bodyPost_ret (results_none rfl _ _ _) rfl ?_
        exact HF.out
      · have g2 : ((lim : Int) == 0) = false := beq_eq_false_iff_ne.2 (by omega)
        go_upto_if 35 with fail
        go_cut [3] (fun s3 wc => ∃ lim' : Nat, ∃ D1 : Array Int, s3 = .int .i64 lim' ∧ lim' ≤ limit ∧ Hid (PdqAt w g cap ob n kind m a b d p q D1 wc))
        case first =>
          cases wb with
          | false =>
            have hc := svBreak_any HI.out.sv HI.out.2.1 hb p q (by omega) (by omega)
            have t2 : IntKind.i64.wrap ((lim : Int) - 1) = ((lim - 1 : Nat) : Int) := by rw [IntWalk.i64_in _ (by omega)]; omega
            have HC := Lib.hid hc; clear hc
            go_wp2_with fail
            refine HC.out.mono ?_
            rintro e w2 ⟨rfl, R, k2⟩
            have HK := Lib.hid (HI.out.step k2.out.1 k2.out.2); clear k2
            go_wp2_with fail
            go_meet
            case rel => exact ⟨lim - 1, R, by rfl, by omega, HK.out⟩
          | true =>
            go_wp2_with fail
            go_meet
            case rel => exact ⟨lim, D, rfl, by omega, HI.out⟩
        case rest =>
          obtain ⟨lim', D1, rfl, hlim', H1⟩ := hcut
          have hpv := svPivot_any H1.out.sv ok H1.out.2.1 hb p q (by omega) (by omega)
          have HPV := Lib.hid hpv; clear hpv
          go_upto_if 50 with (go_at_call 98; refine HPV.out.mono ?_; rintro e w2 ⟨pv0, t0, rfl, hpv1, hpv2, k2⟩; have H2 := Lib.hid (H1.out.no k2); clear k2)
          go_cut [11, 12] (fun s11 s12 wc => ∃ pv t : Nat, ∃ D2 : Array Int, s11 = .int .i64 pv ∧ s12 = .int .i64 t ∧ p ≤ pv ∧ pv < q ∧ Hid (PdqAt w g cap ob n kind m a b d p q D2 wc))
          case first =>
            by_cases ht : t0 = 2
            · subst ht
              have hc := svRev_any H2.out.sv H2.out.2.1 hb p q (by omega) (by omega)
              have HC := Lib.hid hc; clear hc
              obtain ⟨pv, hv1, hv2⟩ : ∃ pv : Nat, pv + 1 + pv0 ≤ q + p ∧ q + p ≤ pv + 1 + pv0 := ⟨q + p - 1 - pv0, by omega, by omega⟩
              have t2 : IntKind.i64.wrap ((q : Int) - 1) = (q : Int) - 1 := IntWalk.i64_in _ (by omega)
              have t3 : IntKind.i64.wrap ((pv0 : Int) - (p : Int)) = (pv0 : Int) - (p : Int) := IntWalk.i64_in _ (by omega)
              have t4 : IntKind.i64.wrap ((q : Int) - 1 - ((pv0 : Int) - (p : Int))) = (pv : Int) := by rw [IntWalk.i64_in _ (by omega)]; omega
              go_wp2_with fail
              refine HC.out.mono ?_
              rintro e w3 ⟨rfl, R, k3⟩
              have HK := Lib.hid (H2.out.step k3.out.1 k3.out.2); clear k3
              go_wp2_with fail
              go_meet
              case rel => exact ⟨pv, 1, R, rfl, rfl, by omega, by omega, HK.out⟩
            · have g3 : ((t0 : Int) == 2) = false := beq_eq_false_iff_ne.2 (by omega)
              go_wp2_with fail
              go_meet
              case rel => exact ⟨pv0, t0, D1, rfl, rfl, by omega, by omega, H2.out⟩
          case rest =>
            obtain ⟨pv, t, D2, rfl, rfl, hv1, hv2, H3⟩ := hcut
            go_upto_region 15 with fail
            go_cut [12, 68] (fun s12 s68 wx => ∃ v : Bool, s12 = .int .i64 t ∧ s68 = .bool v ∧ Hid (wx = wc))
            case first =>
              cases ht : ((t : Int) == 1) <;> cases wb <;> cases wp <;>
                (go_wp2_with fail
                 go_meet
                 exact ⟨_, rfl, rfl, rfl⟩)
            case rest =>
              obtain ⟨v, rfl, rfl, HX⟩ := hcut
              obtain rfl := HX.out
              clear HX
              go_upto_if 68 with fail
              go_cut [] (fun wx => ∃ D3 : Array Int, Hid (PdqAt w g cap ob n kind m a b d p q D3 wx))
              case first =>
                cases v with
                | false =>
                  go_wp2_with fail
                  go_meet
                  case rel => exact ⟨D2, H3.out⟩
                | true =>
                  have hc := svPins_any H3.out.sv ok H3.out.2.1 hb p q (by omega) (by omega)
                  have hp := partialInsertionSort_holds (ltK_swo kind m) D2 p q (by omega) (by rw [H3.out.2.1]; omega) H3.out.1.under
                  have HC := Lib.hid hc; have HP := Lib.hid hp; clear hc hp
                  go_wp2_with fail
                  refine HC.out.mono ?_
                  rintro e w3 ⟨v, R, rfl, k3⟩
                  have hq := HP.out
                  rw [k3.out.1] at hq
                  have HQ := Lib.hid hq; clear hq
                  cases v with
                  | true =>
                    have HF := Lib.hid (H3.out.fin HQ.out.1 (HQ.out.2 rfl) k3.out.2)
                    go_wp2_with fail
                    refine bodyPost_ret (results_none rfl _ _ _) rfl ?_
                    exact HF.out
                  | false =>
                    have HK := Lib.hid (H3.out.step HQ.out.1 k3.out.2)
                    go_wp2_with fail
                    go_meet
                    case rel => exact ⟨R, HK.out⟩
              case rest =>
                obtain ⟨D3, H4⟩ := hcut
                go_upto_region 17 with fail
                go_cut [82] (fun s82 wx => ∃ v : Bool, s82 = .bool v ∧ Hid ((v = true → 0 < p ∧ ltK kind m D3[p - 1]! D3[pv]! = false) ∧ PdqAt w g cap ob n kind m a b d p q D3 wx))
                case first =>
                  by_cases hp0 : p = 0
                  · subst hp0
                    go_wp2_with fail
                    go_meet
                    case rel => exact ⟨false, rfl, (show _ ∧ _ from ⟨fun h => (by cases h), H4.out⟩)⟩
                  · have g3 : (0 : Int) < (p : Int) := by omega
                    obtain ⟨p1, hp1, hp2⟩ : ∃ p1 : Nat, p1 + 1 ≤ p ∧ p ≤ p1 + 1 := ⟨p - 1, by omega, by omega⟩
                    have t2 : IntKind.i64.wrap ((p : Int) - 1) = (p1 : Int) := by rw [IntWalk.i64_in _ (by omega)]; omega
                    have hl := less_any H4.out.sv ok n H4.out.2.1 p1 pv (by omega) (by omega)
                    have hv : ∀ r, ltK kind m D3[p1]! D3[pv]! = r → ((!r) = true → 0 < p ∧ ltK kind m D3[p - 1]! D3[pv]! = false) := fun r hr h => by
                      rw [show p - 1 = p1 by omega, hr]
                      exact ⟨by omega, by simpa using h⟩
                    generalize ltK kind m D3[p1]! D3[pv]! = r at *
                    have HL := Lib.hid hl; have HV := Lib.hid (hv r rfl); clear hl hv
                    go_wp2_with fail
                    refine HL.out.mono ?_
                    rintro e w3 ⟨rfl, k3⟩
                    have HK := Lib.hid (H4.out.no k3); clear k3
                    go_wp2_with fail
                    go_meet
                    case rel => exact ⟨!r, rfl, (show _ ∧ _ from ⟨HV.out, HK.out⟩)⟩
                case rest =>
                  obtain ⟨v, rfl, H5⟩ := hcut
                  cases v with
                  | true =>
                    have hp0 := (H5.out.1 rfl).1
                    have HL := Lib.hid (H5.out.1 rfl).2
                    have hc := svPartEq_any H5.out.2.sv ok H5.out.2.2.1 hb p q pv (by omega) (by omega) (by omega) rfl
                    have HC := Lib.hid hc; clear hc
                    go_wp2_with fail
                    refine HC.out.mono ?_
                    rintro e w3 ⟨mid, rfl, R, k3⟩
                    have hlo := k3.out.1.lo; have hhi := k3.out.1.hi
                    have HK := Lib.hid (H5.out.2.to (H5.out.2.1.same (ltK_swo kind m) hp0 HL.out k3.out.1) (k3.out.1.perm.1.trans H5.out.2.2.1) k3.out.2)
                    clear k3
                    go_wp2_with fail
                    go_roundg (q + 1 - mid)
                    case measure => omega
                    case rel => exact ⟨mid, q, lim', wb, wp, R, rfl, rfl, rfl, rfl, rfl, by omega, by omega, by omega, by omega, by omega, HK.out⟩
                  | false =>
                    have hc := svPart_any H5.out.2.sv ok H5.out.2.2.1 hb p q pv (by omega) (by omega) (by omega) rfl
                    have HC := Lib.hid hc; clear hc
                    go_upto_if 108 with (go_at_call 102; refine HC.out.mono ?_; rintro e w3 ⟨mid, ap, R, rfl, k3⟩; have hlo := k3.out.1.lo; have hhi := k3.out.1.hi; have t2 : IntKind.i64.wrap ((mid : Int) - (p : Int)) = (mid : Int) - (p : Int) := IntWalk.i64_in _ (by omega); have t3 : IntKind.i64.wrap ((q : Int) - (mid : Int)) = (q : Int) - (mid : Int) := IntWalk.i64_in _ (by omega))
                    have hpt := H5.out.2.1.part (ltK_swo kind m) k3.out.1
                    have hsz : R.size = n := k3.out.1.perm.1.trans H5.out.2.2.1
                    have HK := Lib.hid (H5.out.2.2.2.trans k3.out.2)
                    clear k3
                    by_cases hlr : mid - p < q - mid
                    · have g3 : (mid : Int) - (p : Int) < (q : Int) - (mid : Int) := by omega
                      have hih := IH.out p mid lim' (by omega) (by omega) (by omega) (by omega) w3 R HK.out.1 hsz hpt.2.1.1
                      have HH := Lib.hid hih; have HP := Lib.hid hpt.2.1.2; have HZ := Lib.hid hsz; clear hih hpt hsz
                      go_wp2_with fail
                      refine HH.out.mono ?_
                      rintro e w4 ⟨rfl, R2, k4⟩
                      have HF : Hid (PdqAt w g cap ob n kind m a b d (mid + 1) q R2 w4) := Lib.hid ⟨HP.out R2 k4.out.1 k4.out.2.1, k4.out.1.1.trans HZ.out, HK.out.trans k4.out.2.2⟩
                      clear k4
                      go_wp2_with fail
                      go_roundg (q + 1 - (mid + 1))
                      case measure => omega
                      case rel => exact ⟨mid + 1, q, lim', _, ap, R2, by go_num, rfl, rfl, rfl, rfl, by omega, by omega, by omega, by omega, by omega, HF.out⟩
                    · have g3 : ¬ (mid : Int) - (p : Int) < (q : Int) - (mid : Int) := by omega
                      obtain ⟨mid1, hm1, hm2⟩ : ∃ mid1 : Nat, mid1 ≤ mid + 1 ∧ mid + 1 ≤ mid1 := ⟨_, Nat.le_refl _, Nat.le_refl _⟩
                      rw [show mid + 1 = mid1 by omega] at hpt
                      have t4 : (mid : Int) + 1 = (mid1 : Int) := by omega
                      have hih := IH.out mid1 q lim' (by omega) (by omega) (by omega) (by omega) w3 R HK.out.1 hsz hpt.2.2.1
                      have HH := Lib.hid hih; have HP := Lib.hid hpt.2.2.2; have HZ := Lib.hid hsz; clear hih hpt hsz
                      go_wp2_with fail
                      refine HH.out.mono ?_
                      rintro e w4 ⟨rfl, R2, k4⟩
                      have HF : Hid (PdqAt w g cap ob n kind m a b d p mid R2 w4) := Lib.hid ⟨HP.out R2 k4.out.1 k4.out.2.1, k4.out.1.1.trans HZ.out, HK.out.trans k4.out.2.2⟩
                      clear k4
                      go_wp2_with fail
                      go_roundg (mid + 1 - p)
                      case measure => omega
                      case rel => exact ⟨p, mid, lim', _, ap, R2, rfl, rfl, rfl, rfl, rfl, by omega, by omega, by omega, by omega, by omega, HF.out⟩

theorem pdqs {g cap ob n : Nat} {kind m : Int} (ok : OrdOk kind m) (hb : n ≤ 1048576) : ∀ N, Pdqs g cap ob n kind m N
  | 0 => fun a b limit h1 h2 => by omega
  | N + 1 => pdq_step ok hb N (pdqs ok hb N)

end Go.Nl
