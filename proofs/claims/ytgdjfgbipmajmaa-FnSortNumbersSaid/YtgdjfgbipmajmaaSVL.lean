/- sort.Sort, utils.Sort, SortNumbers; the reference's InOrder. -/
import Derived.Test.YtgdjfgbipmajmaaSVK
import Derived.Test.YtgdjfgbipmajmaaBag
namespace Go.Nl
open Go.RowKit Go.Sort Go.Proofs

theorem boxV_get (xs : List Int) (j : Nat) (hj : j < xs.length) : (xs.map box)[j]? = some (box xs.toArray[j]!) := by
  rw [List.getElem?_map, List.getElem?_eq_getElem hj, getElem!_pos _ j (by simpa using hj)]
  simp

theorem BNums.ofRow {w : World} {g n cap : Nat} {xs : List Int} (h : RowAt w g n cap 20 1 (xs.map box)) : BNums w g cap xs.toArray := by
  have hl : xs.length = n := by have := h.len; simpa using this
  obtain ⟨cs, hb, hs, ht⟩ := h.row
  refine ⟨by simpa [hl] using h.le, cs, hb, by simpa using hs, fun j hj => ?_⟩
  have hj' : j < xs.length := by simpa using hj
  have := h.cell j _ (boxV_get xs j hj')
  rwa [hb.cell] at this

theorem BNums.cells {w : World} {g cap : Nat} {d : Array Int} (h : BNums w g cap d) : CellsAt w (some ⟨g, 0, none⟩) (d.toList.map box) := by
  intro j v hj
  refine ⟨g, 0, rfl, ?_⟩
  have hj' : j < d.toList.length := by
    rcases Nat.lt_or_ge j d.toList.length with h | h
    · exact h
    · rw [List.getElem?_eq_none (by simpa using h)] at hj; cases hj
  rw [boxV_get _ j hj'] at hj
  injection hj with hj
  subst hj
  rw [Nat.zero_add]
  have := h.cell j (by simpa using hj')
  unfold box
  simpa using this

set_option maxHeartbeats 1000000 in
set_option maxRecDepth 100000 in
theorem svSort_any {w : World} {g cap ob n : Nat} {kind m : Int} {d : Array Int} (h : SV w g cap ob kind m d) (ok : OrdOk kind m) (hn : d.size = n) (hb : n ≤ 1048576) :
    Calls Try.prog 69 #[.iface 100 (rvOf g n cap ob)] w (SortsTo w g cap ob kind m 0 n d) := by
  have m3 := meth_len g n cap ob
  have hlen := len_any (g := g) (cap := cap) (ob := ob) n w
  have H := Lib.hid h; have HN := Lib.hid hn; have HL := Lib.hid hlen; clear h hn hlen
  by_cases h1 : n ≤ 1
  · have g1 : (n : Int) ≤ 1 := by omega
    go_enter Try.func69, Try.ntmps69
    go_wp2_with fail
    refine HL.out.mono ?_
    rintro e w1 ⟨rfl, k1⟩
    have HF : Hid (SortsTo w g cap ob kind m 0 n d (.returned (.tuple #[])) w1) :=
      Lib.hid ⟨rfl, d, (show _ ∧ _ ∧ _ from ⟨permIn_refl _ _ _, fun i j _ _ _ => by omega, (SVTo.refl H.out).no k1⟩)⟩
    clear k1
    go_wp2_with fail
    refine bodyPost_ret (results_none rfl _ _ _) rfl ?_
    exact HF.out
  · have g1 : ¬ (n : Int) ≤ 1 := by omega
    have hLen := fun w => bitsLen_any n (by omega) w
    have hk : bitsLen n ≤ 64 := (bitsLen_le_iff n 64).2 (by omega)
    generalize bitsLen n = q at *
    have hp := fun (W : World) (k : Kept No w W) => pdqs (g := g) (cap := cap) (ob := ob) ok hb (n + 1) 0 n q (by omega) (by omega) (by omega) hk W d (H.out.keptNo k) HN.out (Or.inl rfl)
    have HP := Lib.hid hp; have HB := Lib.hid hLen; clear hp hLen
    go_enter Try.func69, Try.ntmps69
    go_wp2_with fail
    refine HL.out.mono ?_
    rintro e w1 ⟨rfl, k1⟩
    have HK := Lib.hid k1; clear k1
    go_wp2_with (go_at_call 86; refine (HB.out _).mono ?_; rintro e w' ⟨rfl, rfl⟩)
    refine (HP.out _ HK.out).mono ?_
    rintro e w2 ⟨rfl, R, hR⟩
    have HF : Hid (SortsTo w g cap ob kind m 0 n d (.returned (.tuple #[])) w2) :=
      Lib.hid ⟨rfl, R, (show _ ∧ _ ∧ _ from ⟨hR.out.1, hR.out.2.1, hR.out.2.2.1, (HK.out.mono (fun _ _ h => h.elim)).trans hR.out.2.2.2 (fun _ _ h => h)⟩)⟩
    clear hR
    go_wp2_with fail
    go_end0
    exact HF.out

set_option maxHeartbeats 1000000 in
set_option maxRecDepth 100000 in
theorem uSort_any {w : World} {g cap ob n : Nat} {kind m : Int} {d : Array Int} (h : SV w g cap ob kind m d) (ok : OrdOk kind m) (hn : d.size = n) (hb : n ≤ 1048576) :
    Calls Try.prog 51 #[.slice (some ⟨g, 0, none⟩) n cap, fvOf ob] w (SortsTo w g cap ob kind m 0 n d) := by
  have HS := Lib.hid (svSort_any h ok hn hb); clear h hn
  go_enter Try.func51, Try.ntmps51
  go_wp2_with fail
  refine HS.out.mono ?_
  rintro e w1 ⟨rfl, hR⟩
  have HF : Hid (SortsTo w g cap ob kind m 0 n d (.returned (.tuple #[])) w1) := Lib.hid ⟨rfl, hR⟩
  clear hR
  go_wp2_with fail
  go_end0
  exact HF.out

/-- What SortNumbers leaves. -/
def SortedRow (w : World) (kind m : Int) (xs : List Int) (n : Nat) (e : Ending) (w' : World) : Prop :=
  ∃ g cap, e = .returned (.slice (some ⟨g, 0, none⟩) n cap) ∧ Hid (∃ L : List Int, L.Perm xs ∧ InOrd (ltK kind m) L ∧ CellsAt w' (some ⟨g, 0, none⟩) (L.map intV) ∧ Kept No w w')

theorem numbers_of {R : Array Int} {n g cap : Nat} {w : World} (hB : BNums w g cap R) (hR : R.size = n) (hn : n ≤ 1048576) :
    Calls Try.prog 53 #[.slice (some ⟨g, 0, none⟩) n cap] w fun e w' => ∃ g2 cap2, e = .returned (.slice (some ⟨g2, 0, none⟩) n cap2) ∧ CellsAt w' (some ⟨g2, 0, none⟩) (R.toList.map intV) ∧ Kept No w w' := by
  have h := numbers_any R.toList (some ⟨g, 0, none⟩) cap w hB.cells (by simp; omega)
  rw [Array.length_toList, hR] at h
  refine h.mono ?_
  rintro e w' ⟨g2, cap2, rfl, hr, k, _⟩
  exact ⟨g2, cap2, by rw [Array.length_toList, hR], hr.cells, k⟩

theorem boxed_of {xs : List Int} {n n' : Nat} {ad : Option Addr} {w : World} (hx : CellsAt w ad (xs.map intV)) (hl : xs.length = n) (hn : n ≤ 1048576) :
    Calls Try.prog 50 #[.slice ad n n'] w fun e w' => ∃ g cap, e = .returned (.slice (some ⟨g, 0, none⟩) n cap) ∧ BNums w' g cap xs.toArray ∧ Kept No w w' ∧ w.heap.size ≤ g := by
  have h := boxed_any xs ad n' w hx (by omega)
  rw [hl] at h
  refine h.mono ?_
  rintro e w' ⟨g, cap, rfl, hr, k, hg⟩
  exact ⟨g, cap, rfl, BNums.ofRow hr, k, hg⟩

/-- The numbers behind the sort. -/
theorem sorted_fin {xs : List Int} {n : Nat} {R : Array Int} {lt : Int → Int → Bool} (hl : xs.length = n) (hp : PermIn 0 n xs.toArray R) (hs : SortedIn lt 0 n R) : R.size = n ∧ R.toList.Perm xs ∧ InOrd lt R.toList := by
  have hz : R.size = n := by rw [hp.1]; simpa using hl
  refine ⟨hz, ?_, inOrd_of (by rw [hz]; exact hs)⟩
  have h := hp.2.2
  rw [← hz, Array.extract_size, hz, ← hl, show (xs.toArray.extract 0 xs.length) = xs.toArray from by simp] at h
  exact h

set_option maxHeartbeats 1000000 in
set_option maxRecDepth 100000 in
theorem sortNumbers_any {w : World} {ad : Option Addr} {n n' : Nat} {kind m : Int} {xs : List Int} (hx : CellsAt w ad (xs.map intV)) (ok : OrdOk kind m) (hl : xs.length = n) (hn : n ≤ 1048576) :
    Calls Try.prog 34 #[.slice ad n n', .agg #[.int .i64 kind, .int .i64 m]] w (SortedRow w kind m xs n) := by
  have k0 : Kept No w (w.alloc (.cells #[.int .i64 kind, .int .i64 m] 23)) := (Kept.refl No w).alloc _
  have hB0 := Blk.new w #[.int .i64 kind, .int .i64 m] 23
  have hbx := boxed_of (n' := n') (hx.keptNo k0) hl hn
  have hC : ∀ W, Kept No (w.alloc (.cells #[.int .i64 kind, .int .i64 m] 23)) W → W.cell? ⟨w.heap.size, 0, none⟩ = some (.int .i64 kind) ∧ W.cell? ⟨w.heap.size, 1, none⟩ = some (.int .i64 m) := fun W k => by
    have hb1 := hB0.kept k (fun h => h)
    exact ⟨by rw [hb1.cell]; rfl, by rw [hb1.cell]; rfl⟩
  have HC := Lib.hid hC; have HBX := Lib.hid hbx; have K0 := Lib.hid k0; have HL := Lib.hid hl; clear hC hbx k0 hB0 hx hl
  go_enter Try.func34, Try.ntmps34
  go_wp2_with fail
  refine HBX.out.mono ?_
  rintro e w1 ⟨g, cap, rfl, hB, k1, hg⟩
  obtain ⟨c0, c1⟩ := HC.out w1 k1
  have HB := Lib.hid hB; have K1 := Lib.hid (K0.out.trans k1 (fun _ _ h => h)); have HG : Hid (w.heap.size ≤ g) := Lib.hid (by simp at hg; omega); clear hB k1 hg
  have hby := by_any kind m w1
  have HBY := Lib.hid hby; clear hby
  go_wp2_with fail
  refine HBY.out.mono ?_
  rintro e w2 ⟨rfl, hw2⟩
  have hsv : SV w2 g cap w1.heap.size kind m xs.toArray := by
    rw [hw2]
    exact ⟨HB.out.kept (S := No) ((Kept.refl No w1).alloc _) (fun h => h), Blk.new w1 _ _, by have := HB.out.lt; omega⟩
  have hk2 : Kept No w w2 := by rw [hw2]; exact K1.out.alloc _
  have hso := uSort_any hsv ok (by simpa using HL.out) hn
  generalize w1.heap.size = ob at *
  have HSO := Lib.hid hso; have K2 := Lib.hid hk2; clear hso hsv hk2 hw2 HBY
  go_wp2_with fail
  refine HSO.out.mono ?_
  rintro e w3 ⟨rfl, R, hR⟩
  obtain ⟨hz, hpm, hio⟩ := sorted_fin HL.out hR.out.1 hR.out.2.1
  have hnum := numbers_of hR.out.2.2.1.nums hz hn
  have k3 : Kept No w w3 := K2.out.trans hR.out.2.2.2 (fun i hi h => by have := HG.out; omega)
  have HNUM := Lib.hid hnum; have K3 := Lib.hid k3; have HP := Lib.hid hpm; have HI := Lib.hid hio; clear hnum k3 hpm hio hR hz
  go_wp2_with fail
  refine HNUM.out.mono ?_
  rintro e w4 ⟨g2, cap2, rfl, hc, k4⟩
  have HF : Hid (∃ L : List Int, L.Perm xs ∧ InOrd (ltK kind m) L ∧ CellsAt w4 (some ⟨g2, 0, none⟩) (L.map intV) ∧ Kept No w w4) := Lib.hid ⟨R.toList, HP.out, HI.out, hc, K3.out.trans k4 (fun _ _ h => h)⟩
  clear hc k4
  go_wp2_with fail
  go_ret
  exact ⟨g2, cap2, rfl, HF⟩

set_option maxHeartbeats 2000000 in
set_option maxRecDepth 100000 in
theorem inOrder_any {w : World} {ad : Option Addr} {n c : Nat} {kind m : Int} {L : List Int} (hx : CellsAt w ad (L.map intV)) (ok : OrdOk kind m) (ho : InOrd (ltK kind m) L) (hl : L.length = n) (hn : n ≤ 1048576) :
    Calls Try.prog 35 #[.slice ad n c, .agg #[.int .i64 kind, .int .i64 m]] w fun e w' => e = .returned (.bool true) ∧ Kept No w w' := by
  have k0 : Kept No w (w.alloc (.cells #[.int .i64 kind, .int .i64 m] 23)) := (Kept.refl No w).alloc _
  have hB0 := Blk.new w #[.int .i64 kind, .int .i64 m] 23
  have HB := Lib.hid hB0; have HX := Lib.hid (hx.keptNo k0); have HO := Lib.hid ho; have HL := Lib.hid hl
  have hcm := fun (x y : Int) (W : World) => compare_any kind m x y W ok
  have HCM := Lib.hid hcm
  have K0 := Lib.hid k0
  clear hB0 hx ho hl k0 hcm ok
  go_enter Try.func35, Try.ntmps35
  go_wp2_with fail
  go_loopg [5] (n + 2) (fun gg si wr => ∃ k : Nat, si = .int .i64 k ∧ 1 ≤ k ∧ k ≤ n + 1 ∧ n + 2 ≤ gg + k ∧ Hid (Kept No (w.alloc (.cells #[.int .i64 kind, .int .i64 m] 23)) wr))
  case atStart => exact ⟨1, rfl, by omega, by omega, by omega, Kept.refl _ _⟩
  case round =>
    obtain ⟨k, rfl, hk1, hkn, hg, HK⟩ := hrel
    by_cases hk : k < n
    · obtain ⟨p, hp1, hp2⟩ : ∃ p : Nat, p + 1 ≤ k ∧ k ≤ p + 1 := ⟨k - 1, by omega, by omega⟩
      obtain ⟨x, hx⟩ : ∃ x, L[p]? = some x := ⟨_, List.getElem?_eq_getElem (by rw [HL.out]; omega)⟩
      obtain ⟨y, hy⟩ : ∃ y, L[k]? = some y := ⟨_, List.getElem?_eq_getElem (by rw [HL.out]; omega)⟩
      have hxy : ltK kind m y x = false := by
        have := (List.pairwise_iff_getElem.1 HO.out) p k (by rw [HL.out]; omega) (by rw [HL.out]; omega) (by omega)
        rw [List.getElem?_eq_getElem (by rw [HL.out]; omega)] at hx hy
        injection hx with hx; injection hy with hy
        rw [hx, hy] at this; exact this
      have hcv : ¬ 0 < cmpV kind m x y := fun h => by rw [(cmpV_pos kind m x y).1 h] at hxy; cases hxy
      obtain ⟨vb, vo, rfl, cx⟩ := (HX.out.keptNo HK.out) p (intV x) (by rw [List.getElem?_map, hx]; rfl)
      obtain ⟨vb', vo', e2, cy⟩ := (HX.out.keptNo HK.out) k (intV y) (by rw [List.getElem?_map, hy]; rfl)
      injection e2 with e2
      injection e2 with e2 e3
      subst e2; subst e3
      have hb1 := HB.out.kept HK.out (fun h => h)
      have o0 : wr.cell? ⟨w.heap.size, 0, none⟩ = some (.int .i64 kind) := by rw [hb1.cell]; rfl
      have o1 : wr.cell? ⟨w.heap.size, 1, none⟩ = some (.int .i64 m) := by rw [hb1.cell]; rfl
      have hc := HCM.out x y
      unfold intV at cx cy
      generalize cmpV kind m x y = r at *
      have t1 : IntKind.i64.wrap ((k : Int) - 1) = (p : Int) := by rw [IntWalk.i64_in _ (by omega)]; omega
      have b1 : (p : Int) < n := by omega
      have b2 : (k : Int) < n := by omega
      have g0 : ¬ r > 0 := hcv
      have HC := Lib.hid hc
      have hz : ∀ W, Kept No wr W → W.cell? ⟨w.heap.size, 0, none⟩ = some (.int .i64 kind) ∧ W.cell? ⟨w.heap.size, 1, none⟩ = some (.int .i64 m) ∧ W.cell? ⟨vb, vo + p, none⟩ = some (.int .i64 x) ∧ W.cell? ⟨vb, vo + k, none⟩ = some (.int .i64 y) := fun W q => ⟨cell_keptNo o0 q, cell_keptNo o1 q, cell_keptNo cx q, cell_keptNo cy q⟩
      have HZ := Lib.hid hz
      clear hc hx hy hxy hb1 hz
      go_wp2_with fail
      go_region_held3 (fun w' => w'.cell? ⟨w.heap.size, 0, none⟩ = some (.int .i64 kind) ∧ w'.cell? ⟨w.heap.size, 1, none⟩ = some (.int .i64 m) ∧ w'.cell? ⟨vb, vo + p, none⟩ = some (.int .i64 x) ∧ w'.cell? ⟨vb, vo + k, none⟩ = some (.int .i64 y)) (go_keep)
        (first | (go_at_call 32; (with_reducible refine (HC.out _).mono ?_); rintro e wz ⟨rfl, hkz'⟩; have hkz := ((Kept.refl No wr).drew).trans hkz' (fun _ _ h => h); obtain ⟨z0, z1, z2, z3⟩ := HZ.out wz hkz))
      all_goals
        go_wp2_with fail
        go_roundg (n + 2 - (k + 1))
        case measure => omega
        case rel => exact ⟨k + 1, by go_num, by omega, by omega, by omega, (HK.out.trans hkz (fun _ _ h => h))⟩
    · have g1 : ¬ (k : Int) < (n : Int) := by omega
      have HF := Lib.hid (K0.out.trans HK.out (fun _ _ h => h))
      go_wp2_with fail
      go_ret
      exact ⟨rfl, HF.out⟩

end Go.Nl
