/- Reverse of a row of what was seen; the statement's own moves there and back. -/
import Derived.Test.YtgdjfgbipmajmaaSeen
import Derived.Deep.RegionHeld3
namespace Go.Nl
open Go.RowKit Go.Sort Go.Proofs

theorem RowAt.set1 {w : World} {g n cap : Nat} {e : TypeId} {size : Nat} {xs : List Value} (h : RowAt w g n cap e size xs) (k : Nat) (v : Value) : RowAt (w.setCell ⟨g, k, none⟩ v) g n cap e size (xs.set k v) := by
  obtain ⟨cur, hb, hc, ht⟩ := h.row
  refine ⟨by simpa using h.len, h.le, _, hb.set k v, by simpa using hc, ?_⟩
  rw [← ht]
  simp [List.take_set]

theorem RowAt.some {w : World} {g n cap : Nat} {e : TypeId} {size : Nat} {xs : List Value} (h : RowAt w g n cap e size xs) (k : Nat) (hk : k < xs.length) : ∃ u, w.cell? ⟨g, k, none⟩ = some u :=
  ⟨xs[k], h.cell k _ (List.getElem?_eq_getElem hk)⟩

theorem set3 : ∀ (l : List SeenT) (j : Nat) (s : SeenT), j < l.length →
    (((l.flatMap seenCells).set (j * 3) (.bool s.1)).set (j * 3 + 1) (.int .i64 s.2.1)).set (j * 3 + 2) (.int .i64 s.2.2) = (l.set j s).flatMap seenCells
  | [], j, s, h => by simp at h
  | a :: l, 0, s, _ => by simp [seenCells]
  | a :: l, j + 1, s, h => by
    have ih := set3 l j s (by simpa using h)
    rw [List.set_cons_succ, List.flatMap_cons, List.flatMap_cons, ← ih]
    have hl : (seenCells a).length = 3 := rfl
    rw [List.set_append_right _ _ (by omega), List.set_append_right _ _ (by omega), List.set_append_right _ _ (by omega), hl]
    congr 1
    rw [show (j + 1) * 3 - 3 = j * 3 by omega, show (j + 1) * 3 + 1 - 3 = j * 3 + 1 by omega, show (j + 1) * 3 + 2 - 3 = j * 3 + 2 by omega]

/-- Two of them exchanged. -/
def swapAt (w : World) (g i j : Nat) (x y : SeenT) : World :=
  (((((w.setCell ⟨g, i * 3, none⟩ (.bool x.1)).setCell ⟨g, i * 3 + 1, none⟩ (.int .i64 x.2.1)).setCell ⟨g, i * 3 + 2, none⟩ (.int .i64 x.2.2)).setCell ⟨g, j * 3, none⟩ (.bool y.1)).setCell ⟨g, j * 3 + 1, none⟩ (.int .i64 y.2.1)).setCell ⟨g, j * 3 + 2, none⟩ (.int .i64 y.2.2)

theorem swapAt_row {w : World} {g n cap : Nat} {l : List SeenT} (h : RowAt w g n cap 55 3 (l.flatMap seenCells)) (i j : Nat) (x y : SeenT) (hi : i < l.length) (hj : j < l.length) :
    RowAt (swapAt w g i j x y) g n cap 55 3 (((l.set i x).set j y).flatMap seenCells) ∧ Kept (fun b => b = g) w (swapAt w g i j x y) := by
  unfold swapAt
  have h1 := ((h.set1 (i * 3) (.bool x.1)).set1 (i * 3 + 1) (.int .i64 x.2.1)).set1 (i * 3 + 2) (.int .i64 x.2.2)
  rw [set3 l i x hi] at h1
  have h2 := ((h1.set1 (j * 3) (.bool y.1)).set1 (j * 3 + 1) (.int .i64 y.2.1)).set1 (j * 3 + 2) (.int .i64 y.2.2)
  rw [set3 (l.set i x) j y (by simpa using hj)] at h2
  exact ⟨h2, ((((((Kept.refl (fun b => b = g) w).setCell ⟨g, i * 3, none⟩ _ (fun _ => rfl)).setCell ⟨g, i * 3 + 1, none⟩ _ (fun _ => rfl)).setCell ⟨g, i * 3 + 2, none⟩ _ (fun _ => rfl)).setCell ⟨g, j * 3, none⟩ _ (fun _ => rfl)).setCell ⟨g, j * 3 + 1, none⟩ _ (fun _ => rfl)).setCell ⟨g, j * 3 + 2, none⟩ _ (fun _ => rfl)⟩

theorem seenReverse_none (ad : Option Addr) (c : Nat) (w : World) : Calls Try.prog 38 #[.slice ad 0 c] w fun e w' => e = .returned (.tuple #[]) ∧ w = w' := by
  go_enter Try.func38, Try.ntmps38
  go_wp2_with fail
  go_loopg [2, 3] 1 (fun gg s2 s3 wr => s2 = .int .i64 0 ∧ s3 = .int .i64 (-1) ∧ 1 ≤ gg ∧ w = wr)
  case atStart => exact ⟨rfl, rfl, by omega, rfl⟩
  case round =>
    obtain ⟨rfl, rfl, hg, rfl⟩ := hrel
    go_wp2_with fail
    go_end0
    exact ⟨rfl, rfl⟩

set_option maxHeartbeats 4000000 in
set_option maxRecDepth 100000 in
theorem seenReverse_row (l : List SeenT) (n : Nat) (hl : l.length = n) (hn0 : 0 < n) (hn : n ≤ 1000000) {w : World} {g c : Nat} (h : RowAt w g n c 55 3 (l.flatMap seenCells)) :
    Calls Try.prog 38 #[.slice (some ⟨g, 0, none⟩) n c] w fun e w' => e = .returned (.tuple #[]) ∧ RowAt w' g n c 55 3 (l.reverse.flatMap seenCells) ∧ Kept (fun b => b = g) w w' := by
  have H := Lib.hid h; have HL := Lib.hid hl; clear h hl
  have t0 : IntKind.i64.wrap ((n : Int) - 1) = ((n - 1 : Nat) : Int) := by rw [IntWalk.i64_in _ (by omega)]; omega
  go_enter Try.func38, Try.ntmps38
  go_wp2_with fail
  go_loopg [2, 3] (n + 1) (fun gg s2 s3 wr => ∃ k jj : Nat, s2 = .int .i64 k ∧ s3 = .int .i64 jj ∧ jj + k + 1 ≤ n ∧ n ≤ jj + k + 1 ∧ 2 * k ≤ n ∧ n + 1 - k ≤ gg ∧ Hid (RowAt wr g n c 55 3 ((revK l k).flatMap seenCells) ∧ Kept (fun b => b = g) w wr))
  case atStart => exact ⟨0, n - 1, rfl, by go_num, by omega, by omega, by omega, by omega, (show _ ∧ _ from ⟨H.out, Kept.refl _ _⟩)⟩
  case round =>
    obtain ⟨k, jj, rfl, rfl, hj1, hj2, hk, hg, HK⟩ := hrel
    by_cases hlt : k < jj
    · have hD := revK_len l k
      have hlen := HL.out
      have hrev : revK l (k + 1) = ((revK l k).set k ((revK l k).getD jj (false, 0, 0))).set jj ((revK l k).getD k (false, 0, 0)) := by
        rw [revK, show l.length - 1 - k = jj by omega]
      obtain ⟨x, hx⟩ : ∃ x, (revK l k)[jj]? = some x := ⟨_, List.getElem?_eq_getElem (by omega)⟩
      obtain ⟨y, hy⟩ : ∃ y, (revK l k)[k]? = some y := ⟨_, List.getElem?_eq_getElem (by omega)⟩
      rw [List.getD_eq_getElem?_getD, List.getD_eq_getElem?_getD, hx, hy] at hrev
      simp only [Option.getD_some] at hrev
      generalize revK l k = D at *
      obtain ⟨x0, x1, x2⟩ := seen_at D jj x hx
      obtain ⟨y0, y1, y2⟩ := seen_at D k y hy
      have cx0 := HK.out.1.cell _ _ x0; have cx1 := HK.out.1.cell _ _ x1; have cx2 := HK.out.1.cell _ _ x2
      have cy0 := HK.out.1.cell _ _ y0; have cy1 := HK.out.1.cell _ _ y1; have cy2 := HK.out.1.cell _ _ y2
      have fx0 := HK.out.1.frozen (jj * 3); have fx1 := HK.out.1.frozen (jj * 3 + 1); have fx2 := HK.out.1.frozen (jj * 3 + 2)
      have fy0 := HK.out.1.frozen (k * 3); have fy1 := HK.out.1.frozen (k * 3 + 1); have fy2 := HK.out.1.frozen (k * 3 + 2)
      have hsw := swapAt_row HK.out.1 k jj x y (by omega) (by omega)
      rw [← hrev] at hsw
      have hz : (D.flatMap seenCells).length = n * 3 := by rw [seenCells_len]; omega
      have r1 := HK.out.1.set1 (k * 3) (.bool x.1)
      have r2 := r1.set1 (k * 3 + 1) (.int .i64 x.2.1)
      have r3 := r2.set1 (k * 3 + 2) (.int .i64 x.2.2)
      have r4 := r3.set1 (jj * 3) (.bool y.1)
      have r5 := r4.set1 (jj * 3 + 1) (.int .i64 y.2.1)
      obtain ⟨u1, hu1⟩ := r1.some (k * 3 + 1) (by simp only [List.length_set, hz]; omega)
      obtain ⟨u2, hu2⟩ := r2.some (k * 3 + 2) (by simp only [List.length_set, hz]; omega)
      obtain ⟨u3, hu3⟩ := r3.some (jj * 3) (by simp only [List.length_set, hz]; omega)
      obtain ⟨u4, hu4⟩ := r4.some (jj * 3 + 1) (by simp only [List.length_set, hz]; omega)
      obtain ⟨u5, hu5⟩ := r5.some (jj * 3 + 2) (by simp only [List.length_set, hz]; omega)
      have HSW := Lib.hid (show ∀ q, RowAt ((swapAt wr g k jj x y).drewN q) g n c 55 3 ((revK l (k + 1)).flatMap seenCells) ∧ Kept (fun b => b = g) w ((swapAt wr g k jj x y).drewN q) from
        fun q => ⟨hsw.1.kept (S := No) ((Kept.refl _ _).drewN q) (fun h => h), (HK.out.2.trans hsw.2 (fun _ _ h => h)).drewN q⟩)
      unfold swapAt at HSW
      obtain ⟨xb, xi, xv⟩ := x
      obtain ⟨yb, yi, yv⟩ := y
      simp only at *
      have t1 : IntKind.i64.wrap ((jj : Int) - 1) = ((jj - 1 : Nat) : Int) := by rw [IntWalk.i64_in _ (by omega)]; omega
      clear x0 x1 x2 y0 y1 y2 hx hy hrev hsw r1 r2 r3 r4 r5 hz hD hlen
      go_wp2_with fail
      go_region
      all_goals
        go_wp2_with fail
        go_roundg (n + 1 - (k + 1))
        case measure => omega
        case rel => exact ⟨k + 1, jj - 1, by go_num, by go_num, by omega, by omega, by omega, by omega, HSW.out _⟩
    · have hfin : RowAt wr g n c 55 3 (l.reverse.flatMap seenCells) := by
        have := HK.out.1
        rwa [show k = l.length / 2 by have := HL.out; omega, revK_all] at this
      have HF := Lib.hid hfin; clear hfin
      go_wp2_with fail
      go_end0
      exact ⟨rfl, HF.out, HK.out.2⟩

theorem seenReverse {base : Nat} (l : List SeenT) (n : Nat) (hl : l.length = n) (hn : n ≤ 1000000) {w : World} {ad : Option Addr} {c : Nat} (h : OwnRow base w ad n c 55 3 (l.flatMap seenCells)) :
    Calls Try.prog 38 #[.slice ad n c] w fun e w' => e = .returned (.tuple #[]) ∧ OwnRow base w' ad n c 55 3 (l.reverse.flatMap seenCells) ∧ Kept (Mine base ad) w w' := by
  by_cases h0 : n = 0
  · subst h0
    refine (seenReverse_none ad c w).mono ?_
    rintro e w' ⟨he, rfl⟩
    obtain rfl : l = [] := List.eq_nil_of_length_eq_zero hl
    exact ⟨he, h, Kept.refl _ _⟩
  · rcases h with ⟨h, _⟩ | ⟨g, rfl, hg, h⟩
    · exact absurd h h0
    · refine (seenReverse_row l n hl (by omega) hn h).mono ?_
      rintro e w' ⟨he, hr, hk⟩
      exact ⟨he, Or.inr ⟨g, rfl, hg, hr⟩, hk.mono (fun i _ hi => ⟨by omega, by rw [hi]⟩)⟩

/-! ### The statement's own moves there and back -/
/-- What the loop that makes the moves holds. -/
structure BackAt (w : World) (k g7 c7 g8 c8 : Nat) (wr : World) : Prop where
  there : RowAt wr g7 k c7 51 3 (opsCells (List.replicate k 1))
  back : RowAt wr g8 (k + 1) c8 51 3 (opsCells (6 :: List.replicate k 2))
  kept : Kept No w wr
  new7 : w.heap.size ≤ g7
  new8 : w.heap.size ≤ g8
  ne : g7 ≠ g8

theorem ops_app {V X : World} {g k c gT : Nat} {ops : List Int} (h : RowAt V g k c 51 3 (opsCells ops)) (hX : Kept No V X) (o : Int) (hT : CellsAt X (some ⟨gT, 0, none⟩) [.int .i64 o, .int .i64 0, .int .i64 0]) (hk : k ≤ 100000) :
    ∃ g' c' w', (Builtin.append_ #[47, 47] 47 #[.slice (some ⟨g, 0, none⟩) k c, .slice (some ⟨gT, 0, none⟩) 1 1]).run Try.prog X = .ok (.slice (some ⟨g', 0, none⟩) (k + 1) c') w' ∧
      RowAt w' g' (k + 1) c' 51 3 (opsCells (ops ++ [o])) ∧ Kept (fun i => i = g) X w' ∧ (g' = g ∨ X.heap.size ≤ g') := by
  obtain ⟨i, z, hi, hz, hc, hs, hb⟩ := i51_parts
  obtain ⟨g', c', w', hr, hrow, hk, hg⟩ := append_src (P := Try.prog) 47 47 i z 3 24 (h.kept hX (fun h => h)) und47 hi hz hs hb (by rw [hc]; rfl) (by omega) (some ⟨gT, 0, none⟩) 1 1 [.int .i64 o, .int .i64 0, .int .i64 0] rfl hT
    (fun h => by cases h) (fun u hu => by simp at hu; rcases hu with rfl | rfl <;> rfl) (by omega) (by omega)
  refine ⟨g', c', w', hr, ?_, hk, hg⟩
  rw [opsCells_append]
  exact hrow

theorem BackAt.round {w wr : World} {k g7 c7 g8 c8 : Nat} (h : BackAt w k g7 c7 g8 c8 wr) (hk : k ≤ 50000) :
    ∃ g' c' w1, (Builtin.append_ #[47, 47] 47 #[.slice (some ⟨g7, 0, none⟩) k c7, .slice (some ⟨wr.heap.size, 0, none⟩) 1 1]).run Try.prog (wr.alloc (.cells #[.int .i64 1, .int .i64 0, .int .i64 0] 51)) = .ok (.slice (some ⟨g', 0, none⟩) (k + 1) c') w1 ∧
    ∃ g'' c'' w2, (Builtin.append_ #[47, 47] 47 #[.slice (some ⟨g8, 0, none⟩) (k + 1) c8, .slice (some ⟨w1.heap.size, 0, none⟩) 1 1]).run Try.prog (w1.alloc (.cells #[.int .i64 2, .int .i64 0, .int .i64 0] 51)) = .ok (.slice (some ⟨g'', 0, none⟩) (k + 1 + 1) c'') w2 ∧
      BackAt w (k + 1) g' c' g'' c'' w2 := by
  have q1 : Kept No wr (wr.alloc (.cells #[.int .i64 1, .int .i64 0, .int .i64 0] 51)) := (Kept.refl No wr).alloc _
  obtain ⟨g', c', w1, hr1, hrow1, hk1, hg1⟩ := ops_app h.there q1 1 (RowAt.new wr #[.int .i64 1, .int .i64 0, .int .i64 0] 51 3 1 rfl).cells (by omega)
  have s7 := h.there.lt; have s8 := h.back.lt; have sw := h.kept.size; have s1 := hk1.size
  simp only [World.size_alloc] at hg1 s1
  have hw1 := (h.back.kept q1 (fun h => h)).kept hk1 (fun e => h.ne e.symm)
  have q2 : Kept No w1 (w1.alloc (.cells #[.int .i64 2, .int .i64 0, .int .i64 0] 51)) := (Kept.refl No w1).alloc _
  obtain ⟨g'', c'', w2, hr2, hrow2, hk2, hg2⟩ := ops_app hw1 q2 2 (RowAt.new w1 #[.int .i64 2, .int .i64 0, .int .i64 0] 51 3 1 rfl).cells (by omega)
  have s2 := hk2.size
  simp only [World.size_alloc] at hg2 s2
  have n7 := h.new7; have n8 := h.new8; have ne := h.ne
  have hcond : g' ≠ g8 := by rcases hg1 with rfl | h <;> omega
  have s4 := hrow1.lt
  refine ⟨g', c', w1, hr1, g'', c'', w2, hr2, ⟨?_, ?_, (((h.kept.trans q1 (fun _ _ h => h)).trans hk1 (fun i hi e => by omega)).trans q2 (fun _ _ h => h)).trans hk2 (fun i hi e => by omega), ?_, ?_, ?_⟩⟩
  · rw [List.replicate_succ']
    exact (hrow1.kept q2 (fun h => h)).kept hk2 hcond
  · rw [List.replicate_succ', ← List.cons_append]
    exact hrow2
  · rcases hg1 with rfl | h <;> omega
  · rcases hg2 with rfl | h <;> omega
  · rcases hg2 with rfl | h
    · exact hcond
    · omega

theorem back_start (w : World) : BackAt w 0 w.heap.size 0 (w.heap.size + 1) 1 ((w.alloc (.cells #[] 51)).alloc (.cells #[.int .i64 6, .int .i64 0, .int .i64 0] 51)) := by
  have r8 := RowAt.new (w.alloc (.cells #[] 51)) #[.int .i64 6, .int .i64 0, .int .i64 0] 51 3 1 rfl
  simp only [World.size_alloc] at r8
  exact ⟨(RowAt.new w #[] 51 3 0 rfl).kept (S := No) ((Kept.refl No _).alloc _) (fun h => h), r8, ((Kept.refl No w).alloc _).alloc _, Nat.le_refl _, by omega, by omega⟩

theorem seen_tail {w : World} {g : Nat} {s : SeenT} {l : List SeenT} (h : CellsAt w (some ⟨g, 0, none⟩) ((s :: l).flatMap seenCells)) : CellsAt w (some ⟨g, 3, none⟩) (l.flatMap seenCells) := by
  intro j v hj
  obtain ⟨vb, vo, e, hc⟩ := h (j + 3) v (by rw [List.flatMap_cons, List.getElem?_append_right (by simp [seenCells])]; exact hj)
  injection e with e
  injection e with e1 e2
  subst e1 e2
  exact ⟨g, 3, rfl, by rw [show 3 + j = 0 + (j + 3) by omega]; exact hc⟩

end Go.Nl
