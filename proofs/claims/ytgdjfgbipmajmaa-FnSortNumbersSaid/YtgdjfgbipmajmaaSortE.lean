/- The stable sort's merge: one element merged in from the right. -/
import Derived.Test.YtgdjfgbipmajmaaSortD
namespace Go.Nl
open Go.RowKit Go.Sort Go.Proofs

set_option maxHeartbeats 4000000 in
set_option maxRecDepth 100000 in
theorem mergeLast_any {w : World} {g cap pb n : Nat} {kind mm : Int} {d : Array Int} (h : SortAt w g cap pb kind mm d) (ok : OrdOk kind mm) (hn : d.size = n) (hb : n ≤ 1048576) (c' a m : Nat) (ham : a + 1 < m) (hmn : m + 1 ≤ n)
    (hs : SortedIn (ltK kind mm) a m d) :
    Calls Try.prog 85 #[.slice (some ⟨g, 0, none⟩) n c', .int .i64 a, .int .i64 m, .int .i64 ((m : Int) + 1), cmpFn pb] w (MergedTo w g cap pb kind mm a (m + 1) d) := by
  have H := Lib.hid h; have HN := Lib.hid hn; have HS := Lib.hid hs; clear h hn hs
  have s1 : IntKind.i64.wrap ((m : Int) - (a : Int)) = ((m - a : Nat) : Int) := by rw [IntWalk.i64_in _ (by omega)]; omega
  have s1' : (((m - a : Nat) : Int) == 1) = false := beq_eq_false_iff_ne.2 (by omega)
  have s2 : IntKind.i64.wrap ((m : Int) + 1 - (m : Int)) = 1 := by rw [IntWalk.i64_in _ (by omega)]; omega
  go_enter Try.func85, Try.ntmps85
  go_wp2_with fail
  go_loopg [14, 15] (m + 1) (fun gg si sj wr => ∃ i j : Nat, si = .int .i64 i ∧ sj = .int .i64 j ∧ a ≤ i ∧ i ≤ j ∧ j ≤ m ∧ j - i + 1 ≤ gg ∧
    Hid ((i = a ∨ ltK kind mm d[m]! d[i - 1]! = false) ∧ (j = m ∨ ltK kind mm d[m]! d[j]! = true) ∧ Kept No w wr))
  case atStart => exact ⟨a, m, rfl, rfl, by omega, by omega, by omega, by omega, (show _ ∧ _ ∧ _ from ⟨Or.inl rfl, Or.inl rfl, Kept.refl _ _⟩)⟩
  case round =>
    obtain ⟨i, j, rfl, rfl, hi, hij, hj, hg, HI⟩ := hrel
    by_cases e : i < j
    · obtain ⟨h, hh⟩ : ∃ h : Nat, ((i : Int) + (j : Int)) / 2 = (h : Int) := ⟨(i + j) / 2, by omega⟩
      have hi1 : i ≤ h := by omega
      have hi2 : h < j := by omega
      have hsA := H.out.keptNo HI.out.2.2
      have cx := hsA.nums.cell h (by rw [HN.out]; omega)
      have cy := hsA.nums.cell m (by rw [HN.out]; omega)
      obtain ⟨r, hr, hcall⟩ := hsA.cmp ok d[m]! d[h]!
      have hz : ∀ w2, Kept No wr.drew w2 → Kept No w w2 ∧ w2.cell? ⟨g, h, none⟩ = some (.int .i64 d[h]!) ∧ w2.cell? ⟨g, m, none⟩ = some (.int .i64 d[m]!) := by
        intro w2 k2
        have k : Kept No wr w2 := ((Kept.refl No wr).drew).trans k2 (fun _ _ h => h)
        exact ⟨HI.out.2.2.trans k (fun _ _ h => h), cell_keptNo cx k, cell_keptNo cy k⟩
      obtain ⟨x, hx⟩ : ∃ x, d[h]! = x := ⟨_, rfl⟩
      obtain ⟨y, hy⟩ : ∃ y, d[m]! = y := ⟨_, rfl⟩
      have HX := Lib.hid hx; have HY := Lib.hid hy
      rw [hx] at cx hr hcall hz
      rw [hy] at cy hr hcall hz
      have HC := Lib.hid hcall; have HZ := Lib.hid hz; have HR := Lib.hid hr; clear hcall hz hr hsA hx hy
      have b2 : (h : Int) < n := by omega
      have b4 : (m : Int) < n := by omega
      by_cases h0 : r < 0
      · go_wp2_with fail
        try rw [hh]
        go_region_held3 (fun w' => w'.cell? ⟨g, h, none⟩ = some (.int .i64 x) ∧ w'.cell? ⟨g, m, none⟩ = some (.int .i64 y)) (go_keep)
          (first | (go_at_call 46; (with_reducible refine (HC.out _ (Kept.drew (Kept.refl No _))).mono ?_); rintro e w2 ⟨rfl, k2⟩; obtain ⟨kz, z0, z1⟩ := HZ.out w2 k2))
        all_goals
          go_wp2_with fail
          go_roundg (h - i + 1)
          case measure => omega
          case rel => exact ⟨i, h, rfl, by go_num, by omega, by omega, by omega, by omega, (show _ ∧ _ ∧ _ from ⟨HI.out.1, Or.inr (by rw [HX.out, HY.out]; exact HR.out.1 h0), kz⟩)⟩
      · have h0' : decide (r < 0) = false := decide_eq_false (by omega)
        go_wp2_with fail
        try rw [hh]
        go_region_held3 (fun w' => w'.cell? ⟨g, h, none⟩ = some (.int .i64 x) ∧ w'.cell? ⟨g, m, none⟩ = some (.int .i64 y)) (go_keep)
          (first | (go_at_call 46; (with_reducible refine (HC.out _ (Kept.drew (Kept.refl No _))).mono ?_); rintro e w2 ⟨rfl, k2⟩; obtain ⟨kz, z0, z1⟩ := HZ.out w2 k2))
        all_goals
          go_wp2_with fail
          go_roundg (j - (h + 1) + 1)
          case measure => omega
          case rel =>
            refine ⟨h + 1, j, by go_num, rfl, by omega, by omega, by omega, by omega, (show _ ∧ _ ∧ _ from ⟨Or.inr ?_, HI.out.2.1, kz⟩)⟩
            rw [Nat.add_sub_cancel, HX.out, HY.out]
            cases hq : ltK kind mm y x with
            | false => rfl
            | true => have := HR.out.2 hq; omega
    · obtain rfl : j = i := by omega
      have hm := merge_last (ltK_swo kind mm) hi hj (by rw [HN.out]; exact hmn) HS.out HI.out.1 HI.out.2.1
      have HM := Lib.hid hm; clear hm
      go_wp2_with fail
      go_loopg [17] (m + 1) (fun gg sk wr => ∃ k : Nat, sk = .int .i64 ((m - k : Nat) : Int) ∧ k ≤ m - j ∧ m - j - k + 1 ≤ gg ∧ Hid (SortedTo w g cap pb kind mm (shD m d k) wr))
      case atStart => exact ⟨0, by go_num, by omega, by omega, (show SortedTo _ _ _ _ _ _ _ _ from ⟨H.out.keptNo HI.out.2.2, HI.out.2.2.mono (fun _ _ h => h.elim)⟩)⟩
      case round =>
        obtain ⟨k, rfl, hk, hg2, HK⟩ := hrel
        by_cases hlt : k < m - j
        · obtain ⟨p, hp⟩ : ∃ p, m - k = p + 1 := ⟨m - k - 1, by omega⟩
          rw [hp]
          have hsz : (shD m d k).size = n := by rw [size_shD, HN.out]
          have hnx : shD m d (k + 1) = swp (shD m d k) (p + 1) p := by show swp _ (m - k) (m - k - 1) = _; rw [hp]; rfl
          generalize shD m d k = D at *
          have cx := HK.out.1.nums.cell (p + 1) (by omega)
          have cy := HK.out.1.nums.cell p (by omega)
          have fx := HK.out.1.nums.frozen (p + 1)
          have fy := HK.out.1.nums.frozen p
          have fin : ∀ q, SortedTo w g cap pb kind mm (swp D (p + 1) p) (((wr.setCell ⟨g, p + 1, none⟩ (.int .i64 D[p]!)).setCell ⟨g, p, none⟩ (.int .i64 D[p + 1]!)).drewN q) := by
            intro q
            have hsw := HK.out.1.nums.swapped (p + 1) p (by omega) (by omega)
            have kq : Kept No ((wr.setCell ⟨g, p + 1, none⟩ (.int .i64 D[p]!)).setCell ⟨g, p, none⟩ (.int .i64 D[p + 1]!)) (((wr.setCell ⟨g, p + 1, none⟩ (.int .i64 D[p]!)).setCell ⟨g, p, none⟩ (.int .i64 D[p + 1]!)).drewN q) := (Kept.refl _ _).drewN q
            have k3 : Kept (fun i => i = g) wr (((wr.setCell ⟨g, p + 1, none⟩ (.int .i64 D[p]!)).setCell ⟨g, p, none⟩ (.int .i64 D[p + 1]!)).drewN q) := (((Kept.refl (fun i => i = g) wr).setCell ⟨g, p + 1, none⟩ _ (fun _ => rfl)).setCell ⟨g, p, none⟩ _ (fun _ => rfl)).drewN q
            exact ⟨HK.out.1.kept (hsw.kept kq (fun h => h)) k3, HK.out.2.trans k3 (fun _ _ h => h)⟩
          generalize D[p]! = y at *
          generalize D[p + 1]! = x at *
          have HF := Lib.hid fin; have HX := Lib.hid hnx; clear fin hnx
          obtain ⟨v', hy'⟩ := cell?_setCell_some (w := wr) (p := ⟨g, p + 1, none⟩) (x := .int .i64 y) (q := ⟨g, p, none⟩) (v := .int .i64 y) cy
          have t1 : IntKind.i64.wrap ((p : Int) + 1 - 1) = (p : Int) := by rw [IntWalk.i64_in _ (by omega)]; omega
          have t4 : IntKind.i64.wrap (p : Int) = (p : Int) := IntWalk.i64_in _ (by omega)
          have t2 : ((p : Int) + 1).toNat = p + 1 := by omega
          have b1 : (0 : Int) ≤ (p : Int) + 1 := by omega
          have b2 : (p : Int) + 1 < n := by omega
          have b3 : (p : Int) < n := by omega
          have b4 : (j : Int) < (p : Int) + 1 := by omega
          have hp' : m - (k + 1) = p := by omega
          go_wp2_with fail
          go_region
          all_goals
            go_wp2_with fail
            go_roundg (m - j - (k + 1) + 1)
            case measure => omega
            case rel =>
              refine ⟨k + 1, by rw [hp'], by omega, by omega, ?_⟩
              show SortedTo _ _ _ _ _ _ _ _
              rw [HX.out]
              exact HF.out _
        · obtain rfl : k = m - j := by omega
          have b4 : ¬ (j : Int) < ((m - (m - j) : Nat) : Int) := by omega
          go_wp2_with fail
          go_end0
          exact ⟨rfl, _, HK.out, HM.out.1, HM.out.2⟩

end Go.Nl
