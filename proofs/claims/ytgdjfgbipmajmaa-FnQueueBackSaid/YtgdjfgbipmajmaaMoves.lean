/- Moves and what was seen, as rows of cells. -/
import Derived.Test.YtgdjfgbipmajmaaHeapWalk
import Derived.Laws.MakeOwn
namespace Go.Nl
open Go.RowKit Go.Sort Go.Proofs

theorem und47 : Try.prog.underlying 47 = some (.slice 51) := by kernel_rfl
theorem info51 : (Try.prog.info? 51).map (fun i => (i.zero.map Value.cells, i.size, i.bytes)) = some (some #[.int .i64 0, .int .i64 0, .int .i64 0], 3, 24) := by kernel_rfl
theorem i51_parts : ∃ i z, Try.prog.info? 51 = some i ∧ i.zero = some z ∧ z.cells = #[.int .i64 0, .int .i64 0, .int .i64 0] ∧ i.size = 3 ∧ i.bytes = 24 := by
  obtain ⟨i, hi, h⟩ := Option.map_eq_some_iff.1 info51
  simp only [Prod.mk.injEq] at h
  obtain ⟨z, hz, hc⟩ := Option.map_eq_some_iff.1 h.1
  exact ⟨i, z, hi, hz, hc, h.2.1, h.2.2⟩

/-- The cells of moves. -/
def opsCells (ops : List Int) : List Value := ops.flatMap fun o => [.int .i64 o, .int .i64 0, .int .i64 0]

theorem opsCells_len (ops : List Int) : (opsCells ops).length = ops.length * 3 := by
  induction ops with
  | nil => rfl
  | cons o l ih => unfold opsCells at *; rw [List.flatMap_cons, List.length_append, ih]; simp; omega

theorem opsCells_append (a b : List Int) : opsCells (a ++ b) = opsCells a ++ opsCells b := List.flatMap_append

theorem three_at {α : Type} (f : α → List Value) (hf : ∀ a, (f a).length = 3) : ∀ (l : List α) (j r : Nat) (x : α), l[j]? = some x → r < 3 → (l.flatMap f)[j * 3 + r]? = (f x)[r]?
  | [], j, r, x, h, _ => by simp at h
  | a :: l, 0, r, x, h, hr => by
    simp at h
    subst h
    rw [List.flatMap_cons, List.getElem?_append_left (by rw [hf]; omega)]
    congr 1
    omega
  | a :: l, j + 1, r, x, h, hr => by
    have ih := three_at f hf l j r x (by simpa using h) hr
    rw [List.flatMap_cons, List.getElem?_append_right (by rw [hf]; omega), hf, ← ih]
    congr 1
    omega

theorem seen_at (l : List SeenT) (j : Nat) (s : SeenT) (h : l[j]? = some s) : (l.flatMap seenCells)[j * 3]? = some (.bool s.1) ∧ (l.flatMap seenCells)[j * 3 + 1]? = some (.int .i64 s.2.1) ∧ (l.flatMap seenCells)[j * 3 + 2]? = some (.int .i64 s.2.2) :=
  ⟨three_at seenCells (fun _ => rfl) l j 0 s h (by omega), three_at seenCells (fun _ => rfl) l j 1 s h (by omega), three_at seenCells (fun _ => rfl) l j 2 s h (by omega)⟩

theorem movesAt_of {w : World} {ad : Option Addr} {ops : List Int} (h : CellsAt w ad (opsCells ops)) : MovesAt w ad ops := by
  intro j hj
  have hg : ops[j]? = some (ops.getD j 0) := by rw [List.getD_eq_getElem?_getD, List.getElem?_eq_getElem hj]; rfl
  have t := fun r (hr : r < 3) => three_at (fun o : Int => [Value.int .i64 o, .int .i64 0, .int .i64 0]) (fun _ => rfl) ops j r _ hg hr
  obtain ⟨b, o, e, c0⟩ := h _ _ (t 0 (by omega))
  obtain ⟨b1, o1, e1, c1⟩ := h _ _ (t 1 (by omega))
  obtain ⟨b2, o2, e2, c2⟩ := h _ _ (t 2 (by omega))
  rw [e] at e1 e2
  injection e1 with e1
  injection e1 with e1 e1'
  injection e2 with e2
  injection e2 with e2 e2'
  subst e1 e1' e2 e2'
  exact ⟨b, o, e, c0, by rw [Nat.add_assoc]; exact c1, by rw [Nat.add_assoc]; exact c2⟩

/-- So many moves on are laid, of m. -/
def onOps (m k : Nat) : List Int := List.replicate k 1 ++ List.replicate (m - k) 0

theorem onOps_set (m k : Nat) (h : k < m) : (opsCells (onOps m k)).set (k * 3) (.int .i64 1) = opsCells (onOps m (k + 1)) := by
  unfold onOps
  rw [opsCells_append, List.set_append_right _ _ (by rw [opsCells_len]; simp), opsCells_len, List.length_replicate, Nat.sub_self]
  obtain ⟨r, hr⟩ : ∃ r, m - k = r + 1 := ⟨m - k - 1, by omega⟩
  rw [hr, show m - (k + 1) = r by omega, List.replicate_succ, List.replicate_succ', opsCells_append, opsCells_append, List.append_assoc]
  rfl

theorem onOps_get (m k : Nat) (h : k < m) : (opsCells (onOps m k))[k * 3]? = some (.int .i64 0) := by
  have hg : (onOps m k)[k]? = some 0 := by
    unfold onOps
    rw [List.getElem?_append_right (by simp), List.length_replicate, Nat.sub_self]
    rw [List.getElem?_replicate]
    simp; omega
  exact three_at (fun o : Int => [Value.int .i64 o, .int .i64 0, .int .i64 0]) (fun _ => rfl) _ k 0 _ hg (by omega)

theorem madeMoves (m : Nat) : madeCells #[Value.int .i64 0, .int .i64 0, .int .i64 0] (m * 3) = (opsCells (onOps m 0)).toArray := by
  have h0 : onOps m 0 = List.replicate m 0 := by simp [onOps]
  rw [h0]
  apply Array.ext
  · simp [madeCells, opsCells_len]
  · intro i h1 h2
    have hi : i < m * 3 := by simpa [madeCells] using h1
    have hg : (List.replicate m (0 : Int))[i / 3]? = some 0 := by rw [List.getElem?_replicate]; simp; omega
    have t := three_at (fun o : Int => [Value.int .i64 o, .int .i64 0, .int .i64 0]) (fun _ => rfl) _ (i / 3) (i % 3) _ hg (by omega)
    rw [show i / 3 * 3 + i % 3 = i by omega] at t
    have t2 : (opsCells (List.replicate m 0))[i]? = some (.int .i64 0) := by
      unfold opsCells
      rw [t]
      have : i % 3 = 0 ∨ i % 3 = 1 ∨ i % 3 = 2 := by omega
      rcases this with h | h | h <;> rw [h] <;> rfl
    have t3 : (opsCells (List.replicate m 0)).toArray[i] = Value.int .i64 0 := by
      have h3 : i < (opsCells (List.replicate m 0)).length := by simpa using h2
      rw [List.getElem?_eq_getElem h3] at t2
      simpa using t2
    rw [t3]
    unfold madeCells
    simp
    have : i % 3 = 0 ∨ i % 3 = 1 ∨ i % 3 = 2 := by omega
    rcases this with h | h | h <;> rw [h] <;> rfl

/-- make of m moves. -/
theorem make_moves (m : Nat) (hm : m ≤ 1048576) (w : World) : (Instr.makeSlice 47 (.int .i64 (m : Int)) (.int .i64 (m : Int))).run Try.prog w = .ok (.slice (some ⟨w.heap.size, 0, none⟩) m m) (w.alloc (.cells (opsCells (onOps m 0)).toArray 51)) := by
  obtain ⟨i, z, hi, hz, hc, hs, hb⟩ := i51_parts
  have := run_make (P := Try.prog) w 47 51 i z und47 hi hz .i64 .i64 m m (by omega) (Int.le_refl _) (by rw [hb]; omega) (by omega)
  rwa [hs, hc, Int.toNat_natCast, madeMoves] at this

end Go.Nl
