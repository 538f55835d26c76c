/- The stable sort's merge: one element merged in from the left. (Under way.) -/
import Derived.Test.YtgdjfgbipmajmaaSortC
namespace Go.Nl
open Go.RowKit Go.Sort Go.Proofs

/-- A part has been merged. -/
def MergedTo (w : World) (g cap pb : Nat) (kind m : Int) (a b : Nat) (d : Array Int) (e : Ending) (w' : World) : Prop :=
  e = .returned (.tuple #[]) ∧ ∃ d', SortedTo w g cap pb kind m d' w' ∧ PermIn a b d d' ∧ SortedIn (ltK kind m) a b d'

set_option maxHeartbeats 4000000 in
set_option maxRecDepth 100000 in
theorem mergeFirst_any {w : World} {g cap pb n : Nat} {kind mm : Int} {d : Array Int} (h : SortAt w g cap pb kind mm d) (ok : OrdOk kind mm) (hn : d.size = n) (hb : n ≤ 1048576) (c' a b : Nat) (hab : a + 1 < b) (hbn : b ≤ n)
    (hs : SortedIn (ltK kind mm) (a + 1) b d) :
    Calls Try.prog 85 #[.slice (some ⟨g, 0, none⟩) n c', .int .i64 a, .int .i64 ((a : Int) + 1), .int .i64 b, cmpFn pb] w (MergedTo w g cap pb kind mm a b d) := by
  have H := Lib.hid h; have HN := Lib.hid hn; have HS := Lib.hid hs; clear h hn hs
  have s1 : IntKind.i64.wrap ((a : Int) + 1 - (a : Int)) = 1 := by rw [IntWalk.i64_in _ (by omega)]; omega
  go_enter Try.func85, Try.ntmps85
  go_wp2_with fail
  go_loopg [10, 11] (b + 1) (fun gg si sj wr => ∃ i j : Nat, si = .int .i64 i ∧ sj = .int .i64 j ∧ a + 1 ≤ i ∧ i ≤ j ∧ j ≤ b ∧ j - i + 1 ≤ gg ∧
    Hid ((i = a + 1 ∨ ltK kind mm d[i - 1]! d[a]! = true) ∧ (j = b ∨ ltK kind mm d[j]! d[a]! = false) ∧ Kept No w wr))
  case atStart => exact ⟨a + 1, b, by go_num, rfl, by omega, by omega, by omega, by omega, (show _ ∧ _ ∧ _ from ⟨Or.inl rfl, Or.inl rfl, Kept.refl _ _⟩)⟩
  case round =>
    obtain ⟨i, j, rfl, rfl, hi, hij, hj, hg, HI⟩ := hrel
    by_cases e : i < j
    · obtain ⟨h, hh⟩ : ∃ h : Nat, ((i : Int) + (j : Int)) / 2 = (h : Int) := ⟨(i + j) / 2, by omega⟩
      have hi1 : i ≤ h := by omega
      have hi2 : h < j := by omega
      have hsA := H.out.keptNo HI.out.2.2
      have cx := hsA.nums.cell h (by rw [HN.out]; omega)
      have cy := hsA.nums.cell a (by rw [HN.out]; omega)
      obtain ⟨r, hr, hcall⟩ := hsA.cmp ok d[h]! d[a]!
      have hz : ∀ w2, Kept No wr.drew w2 → Kept No w w2 ∧ w2.cell? ⟨g, h, none⟩ = some (.int .i64 d[h]!) ∧ w2.cell? ⟨g, a, none⟩ = some (.int .i64 d[a]!) := by
        intro w2 k2
        have k : Kept No wr w2 := ((Kept.refl No wr).drew).trans k2 (fun _ _ h => h)
        exact ⟨HI.out.2.2.trans k (fun _ _ h => h), cell_keptNo cx k, cell_keptNo cy k⟩
      obtain ⟨x, hx⟩ : ∃ x, d[h]! = x := ⟨_, rfl⟩
      obtain ⟨y, hy⟩ : ∃ y, d[a]! = y := ⟨_, rfl⟩
      have HX := Lib.hid hx; have HY := Lib.hid hy
      rw [hx] at cx hr hcall hz
      rw [hy] at cy hr hcall hz
      have HC := Lib.hid hcall; have HZ := Lib.hid hz; have HR := Lib.hid hr; clear hcall hz hr hsA hx hy
      have b2 : (h : Int) < n := by omega
      have b4 : (a : Int) < n := by omega
      by_cases h0 : r < 0
      · go_wp2_with fail
        try rw [hh]
        go_region_held3 (fun w' => w'.cell? ⟨g, h, none⟩ = some (.int .i64 x) ∧ w'.cell? ⟨g, a, none⟩ = some (.int .i64 y)) (go_keep)
          (first | (go_at_call 46; (with_reducible refine (HC.out _ (Kept.drew (Kept.refl No _))).mono ?_); rintro e w2 ⟨rfl, k2⟩; obtain ⟨kz, z0, z1⟩ := HZ.out w2 k2))
        all_goals
          go_wp2_with fail
          go_roundg (j - (h + 1) + 1)
          case measure => omega
          case rel => exact ⟨h + 1, j, by go_num, rfl, by omega, by omega, by omega, by omega, (show _ ∧ _ ∧ _ from ⟨Or.inr (by rw [Nat.add_sub_cancel, HX.out, HY.out]; exact HR.out.1 h0), HI.out.2.1, kz⟩)⟩
      · go_wp2_with fail
        try rw [hh]
        go_region_held3 (fun w' => w'.cell? ⟨g, h, none⟩ = some (.int .i64 x) ∧ w'.cell? ⟨g, a, none⟩ = some (.int .i64 y)) (go_keep)
          (first | (go_at_call 46; (with_reducible refine (HC.out _ (Kept.drew (Kept.refl No _))).mono ?_); rintro e w2 ⟨rfl, k2⟩; obtain ⟨kz, z0, z1⟩ := HZ.out w2 k2))
        all_goals
          go_wp2_with fail
          go_roundg (h - i + 1)
          case measure => omega
          case rel =>
            refine ⟨i, h, rfl, by go_num, by omega, by omega, by omega, by omega, (show _ ∧ _ ∧ _ from ⟨HI.out.1, Or.inr ?_, kz⟩)⟩
            rw [HX.out, HY.out]
            cases hq : ltK kind mm x y with
            | false => rfl
            | true => have := HR.out.2 hq; omega
    · obtain rfl : j = i := by omega
      have hm := merge_first (ltK_swo kind mm) hi hj (by rw [HN.out]; exact hbn) HS.out HI.out.1 HI.out.2.1
      have HM := Lib.hid hm; clear hm
      have u1 : IntKind.i64.wrap ((j : Int) - 1) = ((j - 1 : Nat) : Int) := by rw [IntWalk.i64_in _ (by omega)]; omega
      go_wp2_with fail
      go_loopg [13] (b + 1) (fun gg sk wr => ∃ k : Nat, sk = .int .i64 ((a + k : Nat) : Int) ∧ k ≤ j - 1 - a ∧ j - 1 - a - k + 1 ≤ gg ∧ Hid (SortedTo w g cap pb kind mm (shU a d k) wr))
      case atStart => exact ⟨0, by go_num, by omega, by omega, (show SortedTo _ _ _ _ _ _ _ _ from ⟨H.out.keptNo HI.out.2.2, HI.out.2.2.mono (fun _ _ h => h.elim)⟩)⟩
      case round =>
        obtain ⟨k, rfl, hk, hg2, HK⟩ := hrel
        obtain ⟨p, hp⟩ : ∃ p, a + k = p := ⟨_, rfl⟩
        rw [hp]
        by_cases hlt : k < j - 1 - a
        · have hsz : (shU a d k).size = n := by rw [size_shU, HN.out]
          have hnx : shU a d (k + 1) = swp (shU a d k) p (p + 1) := by rw [← hp]; rfl
          generalize shU a d k = D at *
          have cx := HK.out.1.nums.cell p (by omega)
          have cy := HK.out.1.nums.cell (p + 1) (by omega)
          have fx := HK.out.1.nums.frozen p
          have fy := HK.out.1.nums.frozen (p + 1)
          have fin : ∀ q, SortedTo w g cap pb kind mm (swp D p (p + 1)) (((wr.setCell ⟨g, p, none⟩ (.int .i64 D[p + 1]!)).setCell ⟨g, p + 1, none⟩ (.int .i64 D[p]!)).drewN q) := by
            intro q
            have hsw := HK.out.1.nums.swapped p (p + 1) (by omega) (by omega)
            have kq : Kept No ((wr.setCell ⟨g, p, none⟩ (.int .i64 D[p + 1]!)).setCell ⟨g, p + 1, none⟩ (.int .i64 D[p]!)) (((wr.setCell ⟨g, p, none⟩ (.int .i64 D[p + 1]!)).setCell ⟨g, p + 1, none⟩ (.int .i64 D[p]!)).drewN q) := (Kept.refl _ _).drewN q
            have k3 : Kept (fun i => i = g) wr (((wr.setCell ⟨g, p, none⟩ (.int .i64 D[p + 1]!)).setCell ⟨g, p + 1, none⟩ (.int .i64 D[p]!)).drewN q) := (((Kept.refl (fun i => i = g) wr).setCell ⟨g, p, none⟩ _ (fun _ => rfl)).setCell ⟨g, p + 1, none⟩ _ (fun _ => rfl)).drewN q
            exact ⟨HK.out.1.kept (hsw.kept kq (fun h => h)) k3, HK.out.2.trans k3 (fun _ _ h => h)⟩
          generalize D[p]! = x at *
          generalize D[p + 1]! = y at *
          have HF := Lib.hid fin; have HX := Lib.hid hnx; clear fin hnx
          obtain ⟨v', hy'⟩ := cell?_setCell_some (w := wr) (p := ⟨g, p, none⟩) (x := .int .i64 y) (q := ⟨g, p + 1, none⟩) (v := .int .i64 y) cy
          have t1 : IntKind.i64.wrap ((p : Int) + 1) = (p : Int) + 1 := IntWalk.i64_in _ (by omega)
          have t2 : ((p : Int) + 1).toNat = p + 1 := by omega
          have b1 : (0 : Int) ≤ (p : Int) + 1 := by omega
          have b2 : (p : Int) + 1 < n := by omega
          have b3 : (p : Int) < n := by omega
          have b4 : (p : Int) < ((j - 1 : Nat) : Int) := by omega
          go_wp2_with fail
          go_region
          all_goals
            go_wp2_with fail
            go_roundg (j - 1 - a - (k + 1) + 1)
            case measure => omega
            case rel =>
              refine ⟨k + 1, by rw [← Nat.add_assoc, hp]; go_num, by omega, by omega, ?_⟩
              show SortedTo _ _ _ _ _ _ _ _
              rw [HX.out]
              exact HF.out _
        · obtain rfl : k = j - 1 - a := by omega
          have b4 : ¬ (p : Int) < ((j - 1 : Nat) : Int) := by omega
          go_wp2_with fail
          go_end0
          exact ⟨rfl, _, HK.out, HM.out.1, HM.out.2⟩

end Go.Nl
