/- The stable sort's insertion sort. -/
import Derived.Test.YtgdjfgbipmajmaaRun
import Derived.Test.YtgdjfgbipmajmaaSortB
namespace Go.Nl
open Go.RowKit Go.Sort Go.Proofs

/-- What the sort works over: the numbers in block g, the order in block pb. -/
structure SortAt (w : World) (g cap pb : Nat) (kind m : Int) (d : Array Int) : Prop where
  nums : Nums w g cap d
  ord : Blk w pb (ordCells kind m) 23
  ne : pb ≠ g

theorem SortAt.keptNo {w w' : World} {g cap pb : Nat} {kind m : Int} {d : Array Int} (h : SortAt w g cap pb kind m d) (k : Kept No w w') : SortAt w' g cap pb kind m d :=
  ⟨h.nums.kept k (fun h => h), h.ord.kept k (fun h => h), h.ne⟩
theorem SortAt.kept {w w' : World} {g cap pb : Nat} {kind m : Int} {d d' : Array Int} (h : SortAt w g cap pb kind m d) (hn : Nums w' g cap d') (k : Kept (fun i => i = g) w w') : SortAt w' g cap pb kind m d' :=
  ⟨hn, h.ord.kept k h.ne, h.ne⟩

/-- The comparison of two of the numbers, wherever. -/
theorem SortAt.cmp {w : World} {g cap pb : Nat} {kind m : Int} {d : Array Int} (h : SortAt w g cap pb kind m d) (ok : OrdOk kind m) (x y : Int) :
    ∃ r : Int, (r < 0 ↔ ltK kind m x y = true) ∧ ∀ W, Kept No w W → Calls Try.prog 46 #[.int .i64 x, .int .i64 y, .pointer (some ⟨pb, 0, none⟩)] W fun e w' => e = .returned (.int .i64 r) ∧ Kept No W w' :=
  ⟨cmpV kind m x y, cmpV_neg kind m x y, fun W k => cmpS_any kind m x y pb W (h.ord.kept k (fun h => h)) ok⟩

def SortedTo (w : World) (g cap pb : Nat) (kind m : Int) (d' : Array Int) (w' : World) : Prop := SortAt w' g cap pb kind m d' ∧ Kept (fun i => i = g) w w'

theorem size_insInner (lt : Int → Int → Bool) (a : Nat) : ∀ (j : Nat) (d : Array Int), (insInner lt a j d).size = d.size
  | 0, _ => rfl
  | j + 1, d => by
    unfold insInner
    split
    · rw [size_insInner lt a j, size_swp]
    · rfl

theorem insInner_low (lt : Int → Int → Bool) (a j : Nat) (d : Array Int) (h : j ≤ a) : insInner lt a j d = d := by
  cases j with
  | zero => rfl
  | succ j => unfold insInner; rw [if_neg (by simp; omega)]
theorem insInner_stop (lt : Int → Int → Bool) (a j : Nat) (d : Array Int) (h : lt d[j + 1]! d[j]! = false) : insInner lt a (j + 1) d = d := by
  unfold insInner; rw [if_neg (by simp [h])]
theorem insInner_go (lt : Int → Int → Bool) (a j : Nat) (d : Array Int) (ha : a < j + 1) (h : lt d[j + 1]! d[j]! = true) : insInner lt a (j + 1) d = insInner lt a j (swp d (j + 1) j) := by
  rw [insInner, if_pos (by simp [h]; omega)]
theorem insOuter_go (lt : Int → Int → Bool) (a b i : Nat) (d : Array Int) (h : i < b) : insOuter lt a b i d = insOuter lt a b (i + 1) (insInner lt a i d) := by
  rw [insOuter, if_pos h]
theorem insOuter_stop (lt : Int → Int → Bool) (a b i : Nat) (d : Array Int) (h : ¬ i < b) : insOuter lt a b i d = d := by
  rw [insOuter, if_neg h]

set_option maxHeartbeats 4000000 in
set_option maxRecDepth 100000 in
theorem insertion_any {w : World} {g cap pb n : Nat} {kind m : Int} {d : Array Int} (h : SortAt w g cap pb kind m d) (ok : OrdOk kind m) (hn : d.size = n) (hb : n ≤ 1048576) (c' a b : Nat) (hab : a ≤ b) (hbn : b ≤ n) :
    Calls Try.prog 84 #[.slice (some ⟨g, 0, none⟩) n c', .int .i64 a, .int .i64 b, cmpFn pb] w fun e w' => e = .returned (.tuple #[]) ∧ SortedTo w g cap pb kind m (insertionSort (ltK kind m) d a b) w' := by
  unfold insertionSort
  have H := Lib.hid h; have HN := Lib.hid hn; clear h hn
  go_enter Try.func84, Try.ntmps84
  go_wp2_with fail
  go_loopg [8] (b + 1) (fun gg si wr => ∃ i : Nat, ∃ D : Array Int, si = .int .i64 i ∧ a + 1 ≤ i ∧ i ≤ b + 1 ∧ b + 1 - i ≤ gg ∧ Hid (insOuter (ltK kind m) a b i D = insOuter (ltK kind m) a b (a + 1) d ∧ D.size = n ∧ SortedTo w g cap pb kind m D wr))
  case atStart => exact ⟨a + 1, d, by go_num, by omega, by omega, by omega, (show _ ∧ _ ∧ _ from ⟨rfl, HN.out, H.out, Kept.refl _ _⟩)⟩
  case round =>
    obtain ⟨i, D, rfl, hia, hib, hg, HI⟩ := hrel
    by_cases hlt : i < b
    · go_wp2_with fail
      go_loopg [9] (i + 1) (fun gg sj wj => ∃ j : Nat, ∃ E : Array Int, sj = .int .i64 j ∧ j ≤ i ∧ j + 1 ≤ gg ∧ Hid (insInner (ltK kind m) a j E = insInner (ltK kind m) a i D ∧ E.size = n ∧ SortedTo w g cap pb kind m E wj))
      case atStart => exact ⟨i, D, rfl, by omega, by omega, (show _ ∧ _ ∧ _ from ⟨rfl, HI.out.2.1, HI.out.2.2⟩)⟩
      case round =>
        obtain ⟨j, E, rfl, hji, hg2, HJ⟩ := hrel
        have HO := Lib.hid (insOuter_go (ltK kind m) a b i D hlt)
        by_cases haj : a < j
        · obtain ⟨j, rfl⟩ : ∃ j', j = j' + 1 := ⟨j - 1, by omega⟩
          have hEn := HJ.out.2.1
          have cx := HJ.out.2.2.1.nums.cell (j + 1) (by omega)
          have cy := HJ.out.2.2.1.nums.cell j (by omega)
          obtain ⟨r, hr, hcall⟩ := HJ.out.2.2.1.cmp ok E[j + 1]! E[j]!
          have HC := Lib.hid hcall; clear hcall
          have t1 : IntKind.i64.wrap ((j : Int) + 1 - 1) = (j : Int) := by rw [IntWalk.i64_in _ (by omega)]; omega
          have t4 : IntKind.i64.wrap (j : Int) = (j : Int) := IntWalk.i64_in _ (by omega)
          have t2 : ((j : Int) + 1).toNat = j + 1 := by omega
          have b1 : (0 : Int) ≤ (j : Int) + 1 := by omega
          have b2 : (j : Int) + 1 < n := by omega
          have b3 : (0 : Int) ≤ (j : Int) := by omega
          have b4 : (j : Int) < n := by omega
          have g1 : (a : Int) < (j : Int) + 1 := by omega
          by_cases h0 : r < 0
          · have HIN := Lib.hid (insInner_go (ltK kind m) a j E haj (hr.1 h0))
            have fin : ∀ w2, Kept No wr.drew w2 → ∀ q, SortedTo w g cap pb kind m (swp E (j + 1) j) (((w2.setCell ⟨g, j + 1, none⟩ (.int .i64 E[j]!)).setCell ⟨g, j, none⟩ (.int .i64 E[j + 1]!)).drewN q) ∧
                w2.cell? ⟨g, j + 1, none⟩ = some (.int .i64 E[j + 1]!) ∧ w2.cell? ⟨g, j, none⟩ = some (.int .i64 E[j]!) ∧ w2.frozen? ⟨g, j + 1, none⟩ = false ∧ w2.frozen? ⟨g, j, none⟩ = false := by
              intro w2 k2 q
              have k : Kept No wr w2 := ((Kept.refl No wr).drew).trans k2 (fun _ _ h => h)
              have hs2 := HJ.out.2.2.1.keptNo k
              have hsw := hs2.nums.swapped (j + 1) j (by omega) (by omega)
              have k3 : Kept (fun i => i = g) w2 (((w2.setCell ⟨g, j + 1, none⟩ (.int .i64 E[j]!)).setCell ⟨g, j, none⟩ (.int .i64 E[j + 1]!)).drewN q) := (((Kept.refl (fun i => i = g) w2).setCell ⟨g, j + 1, none⟩ _ (fun _ => rfl)).setCell ⟨g, j, none⟩ _ (fun _ => rfl)).drewN q
              have kq : Kept No ((w2.setCell ⟨g, j + 1, none⟩ (.int .i64 E[j]!)).setCell ⟨g, j, none⟩ (.int .i64 E[j + 1]!)) (((w2.setCell ⟨g, j + 1, none⟩ (.int .i64 E[j]!)).setCell ⟨g, j, none⟩ (.int .i64 E[j + 1]!)).drewN q) := (Kept.refl _ _).drewN q
              exact ⟨⟨hs2.kept (hsw.kept kq (fun h => h)) k3, HJ.out.2.2.2.trans ((k.mono (T := No) (S := fun i => i = g) (fun _ _ h => h.elim)).trans k3 (fun _ _ h => h)) (fun _ _ h => h)⟩,
                hs2.nums.cell _ (by omega), hs2.nums.cell _ (by omega), hs2.nums.frozen _, hs2.nums.frozen _⟩
            have hsz : (swp E (j + 1) j).size = n := by rw [size_swp, hEn]
            have HE := Lib.hid HJ.out.1
            generalize swp E (j + 1) j = E' at fin hsz HIN
            generalize E[j + 1]! = x at *
            generalize E[j]! = y at *
            have HF := Lib.hid fin; clear fin hr
            go_wp2_with fail
            go_region_held3 (fun w' => w'.cell? ⟨g, j + 1, none⟩ = some (.int .i64 x) ∧ w'.cell? ⟨g, j, none⟩ = some (.int .i64 y)) (go_keep)
              (first | (go_at_call 46; (with_reducible refine (HC.out _ (Kept.drew (Kept.refl No _))).mono ?_); rintro e w2 ⟨rfl, k2⟩; obtain ⟨_, z0, z1, z2, z3⟩ := HF.out w2 k2 0))
            all_goals
              obtain ⟨v', hy'⟩ := cell?_setCell_some (w := w2) (p := ⟨g, j + 1, none⟩) (x := .int .i64 y) (q := ⟨g, j, none⟩) (v := .int .i64 y) z1
              go_wp2_with fail
              go_region
              all_goals
                go_wp2_with fail
                go_roundg (j + 1)
                case measure => omega
                case rel =>
                  refine ⟨j, E', by go_num, by omega, by omega, ?_⟩
                  show _ ∧ _ ∧ _
                  exact ⟨HIN.out.symm.trans HE.out, hsz, (HF.out w2 k2 _).1⟩
          · have HIN := Lib.hid (insInner_stop (ltK kind m) a j E (by
              cases hq : ltK kind m E[j + 1]! E[j]! with
              | false => rfl
              | true => exact absurd (hr.2 hq) h0))
            generalize E[j + 1]! = x at *
            generalize E[j]! = y at *
            have hz : ∀ w2, Kept No wr.drew w2 → Kept No wr w2 ∧ w2.cell? ⟨g, j + 1, none⟩ = some (.int .i64 x) ∧ w2.cell? ⟨g, j, none⟩ = some (.int .i64 y) := by
              intro w2 k2
              have k : Kept No wr w2 := ((Kept.refl No wr).drew).trans k2 (fun _ _ h => h)
              exact ⟨k, cell_keptNo cx k, cell_keptNo cy k⟩
            have HZ := Lib.hid hz; clear hz hr
            go_wp2_with fail
            go_region_held3 (fun w' => w'.cell? ⟨g, j + 1, none⟩ = some (.int .i64 x) ∧ w'.cell? ⟨g, j, none⟩ = some (.int .i64 y)) (go_keep)
              (first | (go_at_call 46; (with_reducible refine (HC.out _ (Kept.drew (Kept.refl No _))).mono ?_); rintro e w2 ⟨rfl, k2⟩; obtain ⟨kz, z0, z1⟩ := HZ.out w2 k2))
            all_goals
              go_wp2_with fail
              go_roundg (b + 1 - (i + 1))
              case measure => omega
              case rel =>
                have k := kz
                refine ⟨i + 1, E, by go_num, by omega, by omega, by omega, ?_⟩
                show _ ∧ _ ∧ _
                exact ⟨by rw [← HI.out.1, HO.out, ← HJ.out.1, HIN.out], hEn, HJ.out.2.2.1.keptNo k, HJ.out.2.2.2.trans k (fun _ _ h => h.elim)⟩
        · have HS := Lib.hid (insInner_low (ltK kind m) a j E (by omega))
          have g1 : ¬ (a : Int) < (j : Int) := by omega
          go_wp2_with fail
          go_region
          all_goals
            go_wp2_with fail
            go_roundg (b + 1 - (i + 1))
            case measure => omega
            case rel =>
              refine ⟨i + 1, E, by go_num, by omega, by omega, by omega, ?_⟩
              show _ ∧ _ ∧ _
              exact ⟨by rw [← HI.out.1, HO.out, ← HJ.out.1, HS.out], HJ.out.2.1, HJ.out.2.2.1.keptNo (Kept.drewN (Kept.refl _ _) _), HJ.out.2.2.2.drewN _⟩
    · have HO := Lib.hid (insOuter_stop (ltK kind m) a b i D hlt)
      go_wp2_with fail
      go_end0
      refine ⟨rfl, ?_⟩
      rw [← HI.out.1, HO.out]
      exact HI.out.2.2

end Go.Nl
