/- The statement's own moves there and back. -/
import Derived.Test.YtgdjfgbipmajmaaReverse
namespace Go.Nl
open Go.RowKit Go.Sort Go.Proofs

/-- What the loop that makes the moves holds. -/
structure BackAt (w : World) (k g7 c7 g8 c8 : Nat) (wr : World) : Prop where
  there : RowAt wr g7 k c7 51 3 (opsCells (List.replicate k 1))
  back : RowAt wr g8 (k + 1) c8 51 3 (opsCells (6 :: List.replicate k 2))
  kept : Kept No w wr
  new7 : w.heap.size ≤ g7
  new8 : w.heap.size ≤ g8
  ne : g7 ≠ g8

theorem ops_app {V X : World} {g k c gT : Nat} {ops : List Int} (h : RowAt V g k c 51 3 (opsCells ops)) (hX : Kept No V X) (o : Int) (hT : CellsAt X (some ⟨gT, 0, none⟩) [.int .i64 o, .int .i64 0, .int .i64 0]) (hk : k ≤ 100000) :
    ∃ g' c' w', (Builtin.append_ #[47, 47] 47 #[.slice (some ⟨g, 0, none⟩) k c, .slice (some ⟨gT, 0, none⟩) 1 1]).run Try.prog X = .ok (.slice (some ⟨g', 0, none⟩) (k + 1) c') w' ∧
      RowAt w' g' (k + 1) c' 51 3 (opsCells (ops ++ [o])) ∧ Kept (fun i => i = g) X w' ∧ (g' = g ∨ X.heap.size ≤ g') := by
  obtain ⟨i, z, hi, hz, hc, hs, hb⟩ := i51_parts
  obtain ⟨g', c', w', hr, hrow, hk, hg⟩ := append_src (P := Try.prog) 47 47 i z 3 24 (h.kept hX (fun h => h)) und47 hi hz hs hb (by rw [hc]; rfl) (by omega) (some ⟨gT, 0, none⟩) 1 1 [.int .i64 o, .int .i64 0, .int .i64 0] rfl hT
    (fun h => by cases h) (fun u hu => by simp at hu; rcases hu with rfl | rfl <;> rfl) (by omega) (by omega)
  refine ⟨g', c', w', hr, ?_, hk, hg⟩
  rw [opsCells_append]
  exact hrow

theorem BackAt.round {w wr : World} {k g7 c7 g8 c8 : Nat} (h : BackAt w k g7 c7 g8 c8 wr) (hk : k ≤ 50000) :
    ∃ g' c' w1, (Builtin.append_ #[47, 47] 47 #[.slice (some ⟨g7, 0, none⟩) k c7, .slice (some ⟨wr.heap.size, 0, none⟩) 1 1]).run Try.prog (wr.alloc (.cells #[.int .i64 1, .int .i64 0, .int .i64 0] 51)) = .ok (.slice (some ⟨g', 0, none⟩) (k + 1) c') w1 ∧
    ∃ g'' c'' w2, (Builtin.append_ #[47, 47] 47 #[.slice (some ⟨g8, 0, none⟩) (k + 1) c8, .slice (some ⟨w1.heap.size, 0, none⟩) 1 1]).run Try.prog (w1.alloc (.cells #[.int .i64 2, .int .i64 0, .int .i64 0] 51)) = .ok (.slice (some ⟨g'', 0, none⟩) (k + 1 + 1) c'') w2 ∧
      BackAt w (k + 1) g' c' g'' c'' w2 := by
  have q1 : Kept No wr (wr.alloc (.cells #[.int .i64 1, .int .i64 0, .int .i64 0] 51)) := (Kept.refl No wr).alloc _
  obtain ⟨g', c', w1, hr1, hrow1, hk1, hg1⟩ := ops_app h.there q1 1 (RowAt.new wr #[.int .i64 1, .int .i64 0, .int .i64 0] 51 3 1 rfl).cells (by omega)
  have s7 := h.there.lt; have s8 := h.back.lt; have sw := h.kept.size; have s1 := hk1.size
  simp only [World.size_alloc] at hg1 s1
  have hw1 := (h.back.kept q1 (fun h => h)).kept hk1 (fun e => h.ne e.symm)
  have q2 : Kept No w1 (w1.alloc (.cells #[.int .i64 2, .int .i64 0, .int .i64 0] 51)) := (Kept.refl No w1).alloc _
  obtain ⟨g'', c'', w2, hr2, hrow2, hk2, hg2⟩ := ops_app hw1 q2 2 (RowAt.new w1 #[.int .i64 2, .int .i64 0, .int .i64 0] 51 3 1 rfl).cells (by omega)
  have s2 := hk2.size
  simp only [World.size_alloc] at hg2 s2
  have n7 := h.new7; have n8 := h.new8; have ne := h.ne
  have hcond : g' ≠ g8 := by rcases hg1 with rfl | h <;> omega
  have s4 := hrow1.lt
  refine ⟨g', c', w1, hr1, g'', c'', w2, hr2, ⟨?_, ?_, (((h.kept.trans q1 (fun _ _ h => h)).trans hk1 (fun i hi e => by omega)).trans q2 (fun _ _ h => h)).trans hk2 (fun i hi e => by omega), ?_, ?_, ?_⟩⟩
  · rw [List.replicate_succ']
    exact (hrow1.kept q2 (fun h => h)).kept hk2 hcond
  · rw [List.replicate_succ', ← List.cons_append]
    exact hrow2
  · rcases hg1 with rfl | h <;> omega
  · rcases hg2 with rfl | h <;> omega
  · rcases hg2 with rfl | h
    · exact hcond
    · omega

theorem back_start (w : World) : BackAt w 0 w.heap.size 0 (w.heap.size + 1) 1 ((w.alloc (.cells #[] 51)).alloc (.cells #[.int .i64 6, .int .i64 0, .int .i64 0] 51)) := by
  have r8 := RowAt.new (w.alloc (.cells #[] 51)) #[.int .i64 6, .int .i64 0, .int .i64 0] 51 3 1 rfl
  simp only [World.size_alloc] at r8
  exact ⟨(RowAt.new w #[] 51 3 0 rfl).kept (S := No) ((Kept.refl No _).alloc _) (fun h => h), r8, ((Kept.refl No w).alloc _).alloc _, Nat.le_refl _, by omega, by omega⟩

theorem seen_tail {w : World} {g : Nat} {s : SeenT} {l : List SeenT} (h : CellsAt w (some ⟨g, 0, none⟩) ((s :: l).flatMap seenCells)) : CellsAt w (some ⟨g, 3, none⟩) (l.flatMap seenCells) := by
  intro j v hj
  obtain ⟨vb, vo, e, hc⟩ := h (j + 3) v (by rw [List.flatMap_cons, List.getElem?_append_right (by simp [seenCells])]; exact hj)
  injection e with e
  injection e with e1 e2
  subst e1 e2
  exact ⟨g, 3, rfl, by rw [show 3 + j = 0 + (j + 3) by omega]; exact hc⟩

end Go.Nl
