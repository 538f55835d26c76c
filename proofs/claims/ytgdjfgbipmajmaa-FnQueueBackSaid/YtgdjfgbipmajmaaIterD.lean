/- What a heap tells of itself. -/
import Derived.Test.YtgdjfgbipmajmaaIterC
import Derived.Test.YtgdjfgbipmajmaaOwn
namespace Go.Nl
open Go.RowKit Go.Sort Go.Proofs

/-- What numbers leaves: a new row of the numbers. -/
def NumbersRow (w : World) (xs : List Int) (e : Ending) (w' : World) : Prop := ∃ g cap, e = .returned (.slice (some ⟨g, 0, none⟩) xs.length cap) ∧ RowAt w' g xs.length cap 3 1 (xs.map intV) ∧ Kept No w w' ∧ w.heap.size ≤ g

theorem take_map_int (xs : List Int) (k : Nat) (hk : k < xs.length) (x : Int) (hx : xs[k]? = some x) : (xs.take k).map intV ++ [intV x] = (xs.take (k + 1)).map intV := by
  rw [List.take_succ_eq_append_getElem hk, List.map_append]
  rw [List.getElem?_eq_getElem hk] at hx
  injection hx with hx
  rw [hx]; rfl

set_option maxHeartbeats 1000000 in
set_option maxRecDepth 100000 in
theorem numbers_any (xs : List Int) (ad : Option Addr) (n' : Nat) (w : World) (hx : CellsAt w ad (xs.map box)) (hn : xs.length ≤ 1048576) :
    Calls Try.prog 53 #[.slice ad xs.length n'] w (NumbersRow w xs) := by
  obtain ⟨i, hi, hz, hs, hb⟩ := i3_parts
  obtain ⟨n, hnn⟩ : ∃ n, xs.length = n := ⟨_, rfl⟩
  rw [hnn] at hn ⊢
  have ta := assert_int
  have Hi := Lib.hid hi; have Hz := Lib.hid hz; have Hs := Lib.hid hs; have Hb := Lib.hid hb; have Hx := Lib.hid hx; have Hn := Lib.hid hnn
  clear hi hz hs hb hx hnn
  go_enter Try.func53, Try.ntmps53
  go_wp2_with fail
  go_loopg [3, 9] (n + 1) (fun g s3 si wr => ∃ k b cap : Nat, s3 = .slice (some ⟨b, 0, none⟩) k cap ∧ si = .int .i64 k ∧ k ≤ n ∧ n + 1 - k ≤ g ∧ Hid (RowAt wr b k cap 3 1 ((xs.take k).map intV) ∧ Kept No w wr ∧ w.heap.size ≤ b))
  case atStart =>
    refine ⟨0, _, 0, rfl, rfl, by omega, by omega, ?_⟩
    show _ ∧ _
    exact ⟨RowAt.new w #[] 3 1 0 rfl, (Kept.refl No w).alloc _, Nat.le_refl _⟩
  case round =>
    obtain ⟨k, b, cap, rfl, rfl, hk, hg, HR⟩ := hrel
    by_cases hkn : k < n
    · have hkl : k < xs.length := by rw [Hn.out]; exact hkn
      obtain ⟨x, hx⟩ : ∃ x, xs[k]? = some x := ⟨_, List.getElem?_eq_getElem hkl⟩
      obtain ⟨vb, vo, had, hc⟩ := (Hx.out.keptNo HR.out.2.1) k (box x) (by rw [List.getElem?_map, hx]; rfl)
      subst had
      have k1 : Kept No wr (wr.alloc (.cells #[intV x] 3)) := (Kept.refl No wr).alloc _
      have hrow := HR.out.1.kept k1 (fun h => h)
      obtain ⟨g', cap', w3, hap, hr3, hk3, hg3⟩ := append_row (P := Try.prog) 29 29 i (.int .i64 0) 1 8 hrow (by kernel_rfl) Hi.out Hz.out Hs.out Hb.out rfl ⟨wr.heap.size, 0, none⟩ 1 1 [intV x] rfl
        (fun j u hu => by
          rw [add_zero_off]
          exact (RowAt.new wr #[intV x] 3 1 1 rfl).cell j u hu) (fun u hu => by simp at hu; subst hu; rfl) (by omega) (by omega)
      rw [take_map_int xs k hkl x hx] at hr3
      have hb0 := HR.out.2.2
      have hks := HR.out.2.1
      have hws := hks.size
      have fin : RowAt w3 g' (k + 1) cap' 3 1 ((xs.take (k + 1)).map intV) ∧ Kept No w w3 ∧ w.heap.size ≤ g' := by
        refine ⟨hr3, hks.trans (Kept.trans (S := fun i => i = b) (k1.mono (fun _ _ h => h.elim)) hk3 (fun _ _ h => h)) (fun i hi h => by omega), ?_⟩
        rcases hg3 with rfl | h
        · exact hb0
        · simp at h; omega
      have HF := Lib.hid fin; have HA := Lib.hid hap
      clear k1 hrow hr3 hk3 hg3 hks hx fin hb0 hap
      unfold box at hc
      unfold intV at *
      go_wp2_with (at_builtin; refine wpList_append_run rfl (.tmp 13) (.tmp 16) 29 rfl _ _ _ rfl rfl HA.out ?_)
      go_roundg (n + 1 - (k + 1))
      case measure => omega
      case rel => exact ⟨k + 1, g', cap', rfl, by go_num, by omega, by omega, HF.out⟩
    · obtain rfl : k = n := by omega
      go_wp2_with fail
      go_ret
      obtain ⟨h1, h2, h3⟩ := HR.out
      rw [List.take_of_length_le (by rw [Hn.out]; omega)] at h1
      exact ⟨b, cap, by rw [Hn.out]; rfl, by rw [Hn.out]; exact h1, h2, h3⟩

/-- What a heap tells of itself. -/
def StatePost (w : World) (vals : List Int) (n : Nat) (e : Ending) (w' : World) : Prop :=
  ∃ g cap, e = .returned (.agg #[.slice (some ⟨g, 0, none⟩) n cap, .int .i64 n, .bool ((n : Int) == 0)]) ∧ CellsAt w' (some ⟨g, 0, none⟩) (vals.map intV) ∧ Kept No w w' ∧ w.heap.size ≤ g

set_option maxHeartbeats 4000000 in
set_option maxRecDepth 100000 in
theorem stateOf_heap {w : World} {hb lb : Nat} {ao : Option Nat} {c ob : Nat} {kind m : Int} {d : Array Int} (h : HO w hb lb ao c ob kind m d) (ok : OrdOk kind m) (hd : d.size ≤ 1000000) :
    Calls Try.prog 47 #[.iface 60 (.pointer (some ⟨hb, 0, none⟩))] w (StatePost w ((List.range d.size).map (valueAt (ltK kind m) d)) d.size) := by
  have m1 : ∀ w, (method 266 60 (.pointer (some ⟨hb, 0, none⟩)) "Values").run Try.prog w = .ok (131, .pointer (some ⟨hb, 0, none⟩)) w := fun _ => by kernel_rfl
  have m2 : ∀ w, (method 266 60 (.pointer (some ⟨hb, 0, none⟩)) "Size").run Try.prog w = .ok (129, .pointer (some ⟨hb, 0, none⟩)) w := fun _ => by kernel_rfl
  have m3 : ∀ w, (method 266 60 (.pointer (some ⟨hb, 0, none⟩)) "Empty").run Try.prog w = .ok (128, .pointer (some ⟨hb, 0, none⟩)) w := fun _ => by kernel_rfl
  have k0 : Kept No w (w.alloc (.cells #[.slice none 0 0, .int .i64 0, .bool false] 42)) := (Kept.refl No w).alloc _
  have h1 := h.kept k0 (fun _ _ h => h) (fun h => h) (fun h => h)
  have hv := values_any h1 ok hd
  have hnum : ∀ w1 g, RowAt w1 g d.size d.size 20 1 (((List.range d.size).map (valueAt (ltK kind m) d)).map box) → Calls Try.prog 53 #[.slice (some ⟨g, 0, none⟩) d.size d.size] w1 fun e w' => ∃ g2 cap, e = .returned (.slice (some ⟨g2, 0, none⟩) d.size cap) ∧ RowAt w' g2 d.size cap 3 1 (((List.range d.size).map (valueAt (ltK kind m) d)).map intV) ∧ Kept No w1 w' ∧ w1.heap.size ≤ g2 := by
    intro w1 g hr
    have := numbers_any ((List.range d.size).map (valueAt (ltK kind m) d)) (some ⟨g, 0, none⟩) d.size w1 hr.cells (by simp; omega)
    simp only [List.length_map, List.length_range] at this
    refine this.mono ?_
    rintro e w' ⟨g2, cap, he, hrow, hk, hg2⟩
    simp only [List.length_map, List.length_range] at he hrow
    exact ⟨g2, cap, he, hrow, hk, hg2⟩
  have hsz : ∀ W, Kept No (w.alloc (.cells #[.slice none 0 0, .int .i64 0, .bool false] 42)) W → Calls Try.prog 129 #[.pointer (some ⟨hb, 0, none⟩)] W fun e w' => e = .returned (.int .i64 d.size) ∧ W = w' :=
    fun W k => heapSize_any (h1.kept k (fun _ _ h => h) (fun h => h) (fun h => h))
  have hem : ∀ W, Kept No (w.alloc (.cells #[.slice none 0 0, .int .i64 0, .bool false] 42)) W → Calls Try.prog 128 #[.pointer (some ⟨hb, 0, none⟩)] W fun e w' => e = .returned (.bool ((d.size : Int) == 0)) ∧ W = w' :=
    fun W k => heapEmpty_any (h1.kept k (fun _ _ h => h) (fun h => h) (fun h => h))
  have HV := Lib.hid hv; have HNU := Lib.hid hnum; have HSZ := Lib.hid hsz; have HEM := Lib.hid hem
  have HK0 := Lib.hid k0
  have HSU := Lib.hid (fun (W : World) (k : Kept No (w.alloc (.cells #[.slice none 0 0, .int .i64 0, .bool false] 42)) W) => k.size)
  have HRB := Lib.hid (Blk.new w #[.slice none 0 0, .int .i64 0, .bool false] 42)
  clear h hv hnum hsz hem h1 k0
  generalize hvs : (List.range d.size).map (valueAt (ltK kind m) d) = vs at *
  have HVS := Lib.hid hvs; clear hvs
  generalize hbe : ((d.size : Int) == 0) = be at *
  have HBE := Lib.hid hbe; clear hbe
  go_enter Try.func47, Try.ntmps47
  go_wp2_with fail
  refine HV.out.mono ?_
  rintro e w1 ⟨g, rfl, hrow, k1⟩
  rw [HVS.out] at hrow
  have HN1 := Lib.hid (HNU.out w1 g hrow); have HK1 := Lib.hid k1; clear hrow k1
  go_wp2_with fail
  refine HN1.out.mono ?_
  rintro e w2 ⟨g2, cap, rfl, hc, k2, hg2⟩
  have hg1 := HSU.out w1 HK1.out
  simp only [World.size_alloc] at hg1
  have HC := Lib.hid hc; have HK2 := Lib.hid (HK1.out.trans k2 (fun _ _ h => h)); clear hc k2
  go_wp2_with fail
  refine (HSZ.out w2 HK2.out).mono ?_
  rintro e w2' ⟨rfl, rfl⟩
  go_wp2_with fail
  refine (HEM.out w2 HK2.out).mono ?_
  rintro e w2' ⟨rfl, rfl⟩
  have hlt := HSU.out w2 HK2.out
  simp only [World.size_alloc] at hlt
  have hrb := HRB.out.kept HK2.out (fun h => h)
  have r0 : w2.cell? ⟨w.heap.size, 0, none⟩ = some (.slice none 0 0) := by rw [hrb.cell]; rfl
  have r1 : w2.cell? ⟨w.heap.size, 1, none⟩ = some (.int .i64 0) := by rw [hrb.cell]; rfl
  have r2 : w2.cell? ⟨w.heap.size, 2, none⟩ = some (.bool false) := by rw [hrb.cell]; rfl
  have f0 := hrb.frozen 0
  have f1 := hrb.frozen 1
  have f2 := hrb.frozen 2
  have hrs := ((hrb.set 0 (.slice (some ⟨g2, 0, none⟩) d.size cap)).set 1 (.int .i64 d.size)).set 2 (.bool be)
  have s0 := hrs.cell 0
  have s1 := hrs.cell 1
  have s2 := hrs.cell 2
  have hkk : Kept No w (((w2.setCell ⟨w.heap.size, 0, none⟩ (.slice (some ⟨g2, 0, none⟩) d.size cap)).setCell ⟨w.heap.size, 1, none⟩ (.int .i64 d.size)).setCell ⟨w.heap.size, 2, none⟩ (.bool be)) :=
    ((((HK0.out.trans HK2.out (fun _ _ h => h)).setCell _ _ (fun h => absurd h (Nat.lt_irrefl _))).setCell _ _ (fun h => absurd h (Nat.lt_irrefl _))).setCell _ _ (fun h => absurd h (Nat.lt_irrefl _)))
  have hcc : CellsAt (((w2.setCell ⟨w.heap.size, 0, none⟩ (.slice (some ⟨g2, 0, none⟩) d.size cap)).setCell ⟨w.heap.size, 1, none⟩ (.int .i64 d.size)).setCell ⟨w.heap.size, 2, none⟩ (.bool be)) (some ⟨g2, 0, none⟩) (vs.map intV) :=
    (HC.out.kept ((((Kept.refl (fun i => i = w.heap.size) w2).setCell ⟨w.heap.size, 0, none⟩ _ (fun _ => rfl)).setCell ⟨w.heap.size, 1, none⟩ _ (fun _ => rfl)).setCell ⟨w.heap.size, 2, none⟩ _ (fun _ => rfl)) (by omega)).cells
  have HKK := Lib.hid hkk; have HCC := Lib.hid hcc; clear hkk hcc hrs hrb
  simp only [List.setIfInBounds_toArray, List.set_cons_zero, List.set_cons_succ] at s0 s1 s2
  go_wp2_with fail
  exact bodyPost_ret (v := .agg #[.slice (some ⟨g2, 0, none⟩) d.size cap, .int .i64 d.size, .bool be]) (by simp [results, Try.results47, go_sem, s0, s1, s2]) rfl ⟨g2, cap, by rw [HBE.out], HCC.out, HKK.out, by omega⟩

end Go.Nl
