/- A slice of one's own: nothing in it and no room, or a row in a new block; what append makes of it. -/
import Derived.Test.YtgdjfgbipmajmaaSteps
namespace Go.Nl
open Go.RowKit Go.Sort Go.Proofs

/-- n elements of size cells each, the cells xs: nothing and no room, or a row of a block from base on. -/
def OwnRow (base : Nat) (w : World) (ad : Option Addr) (n cap : Nat) (e : TypeId) (size : Nat) (xs : List Value) : Prop :=
  (n = 0 ∧ cap = 0 ∧ xs = []) ∨ ∃ g, ad = some ⟨g, 0, none⟩ ∧ base ≤ g ∧ RowAt w g n cap e size xs

/-- The blocks that such a slice has for itself. -/
def Mine (base : Nat) (ad : Option Addr) : Nat → Prop := fun k => base ≤ k ∧ ad = some ⟨k, 0, none⟩

section
variable {base : Nat} {w w' : World} {ad : Option Addr} {n cap : Nat} {e : TypeId} {size : Nat} {xs : List Value}

theorem OwnRow.bare (base : Nat) (w : World) (ad : Option Addr) (e : TypeId) (size : Nat) : OwnRow base w ad 0 0 e size [] := Or.inl ⟨rfl, rfl, rfl⟩

theorem OwnRow.cells (h : OwnRow base w ad n cap e size xs) : CellsAt w ad xs := by
  rcases h with ⟨_, _, rfl⟩ | ⟨g, rfl, _, h⟩
  · intro j v hj; simp at hj
  · exact h.cells

theorem OwnRow.len (h : OwnRow base w ad n cap e size xs) : xs.length = n * size := by
  rcases h with ⟨rfl, _, rfl⟩ | ⟨g, _, _, h⟩
  · simp
  · exact h.len

theorem OwnRow.kept {S : Nat → Prop} (h : OwnRow base w ad n cap e size xs) (k : Kept S w w') (hS : ∀ i, Mine base ad i → ¬ S i) : OwnRow base w' ad n cap e size xs := by
  rcases h with h | ⟨g, rfl, hb, h⟩
  · exact Or.inl h
  · exact Or.inr ⟨g, rfl, hb, h.kept k (hS g ⟨hb, rfl⟩)⟩

/-- Without room it has no block to lose. -/
theorem OwnRow.room {S : Nat → Prop} (h : OwnRow base w ad n cap e size xs) (k : Kept S w w') (hS : 0 < cap → ∀ i, ad = some ⟨i, 0, Option.none⟩ → ¬ S i) : OwnRow base w' ad n cap e size xs := by
  rcases h with h | ⟨g, rfl, hb, h⟩
  · exact Or.inl h
  · by_cases h0 : 0 < cap
    · exact Or.inr ⟨g, rfl, hb, h.kept k (hS h0 g rfl)⟩
    · have h1 := h.le
      have h2 := h.len
      refine Or.inl ⟨by omega, by omega, List.eq_nil_of_length_eq_zero ?_⟩
      rw [h2, show n = 0 by omega, Nat.zero_mul]

theorem OwnRow.block (h : OwnRow base w ad n cap e size xs) (hc : 0 < cap) : ∃ g, ad = some ⟨g, 0, Option.none⟩ ∧ base ≤ g ∧ RowAt w g n cap e size xs := by
  rcases h with h | h
  · omega
  · exact h

theorem OwnRow.keptNo (h : OwnRow base w ad n cap e size xs) (k : Kept No w w') : OwnRow base w' ad n cap e size xs := h.kept k (fun _ _ h => h)

theorem OwnRow.down {b' : Nat} (h : OwnRow base w ad n cap e size xs) (hb : b' ≤ base) : OwnRow b' w ad n cap e size xs := by
  rcases h with h | ⟨g, h1, h2, h3⟩
  · exact Or.inl h
  · exact Or.inr ⟨g, h1, by omega, h3⟩

theorem OwnRow.nil (h : OwnRow base w Option.none n cap e size xs) : n = 0 ∧ cap = 0 := by
  rcases h with h | ⟨g, h1, _⟩
  · exact ⟨h.1, h.2.1⟩
  · cases h1

/-- append(xs, ys...), xs one's own, ys wherever. -/
theorem append_own {P : Program} (t ty : TypeId) (i : TypeInfo) (z : Value) (bytes : Nat) (h : OwnRow base w ad n cap e size xs) (hbase : base ≤ w.heap.size)
    (ht : P.underlying t = some (.slice e)) (hi : P.info? e = some i) (hz : i.zero = some z) (hsize : i.size = size) (hby : i.bytes = bytes) (hzs : z.cells.size = size) (hpos : 0 < size)
    (ad2 : Option Addr) (m c : Nat) (news : List Value) (hl : news.length = m * size) (hnews : CellsAt w ad2 news) (had : ad2 = Option.none → m = 0) (h1 : ∀ u ∈ news, u.oneCell' = true)
    (h63 : n + m ≤ 1073741824) (hbytes : bytes ≤ 64) :
    ∃ ad' cap' w', (Builtin.append_ #[t, t] ty #[.slice ad n cap, .slice ad2 m c]).run P w = .ok (.slice ad' (n + m) cap') w' ∧
      OwnRow base w' ad' (n + m) cap' e size (xs ++ news) ∧ Kept (Mine base ad) w w' ∧ (ad' = ad ∨ ∃ g, ad' = some ⟨g, 0, Option.none⟩ ∧ w.heap.size ≤ g) := by
  rcases h with ⟨rfl, rfl, rfl⟩ | ⟨g, rfl, hb, h⟩
  · by_cases hm : m = 0
    · subst hm
      have hn : news = [] := List.eq_nil_of_length_eq_zero (by simpa using hl)
      subst hn
      refine ⟨ad, 0, w, ?_, Or.inl ⟨rfl, rfl, rfl⟩, Kept.refl _ _, Or.inl rfl⟩
      have hsz : (P.info? e).map (·.size) = some size := by rw [hi]; simp [hsize]
      cases ad <;> cases ad2 <;> simp [Builtin.append_, run_underlying ht, sizeOf, typeInfo, hi, Builtin.lenOf, Builtin.firstCells, loadCells, loadCellsFrom, storeCells]
    · obtain ⟨a2, rfl⟩ : ∃ a, ad2 = some a := by
        cases ad2 with
        | none => exact absurd (had rfl) hm
        | some a => exact ⟨a, rfl⟩
      have hnews' : ∀ j u, news[j]? = some u → w.cell? (a2.add j) = some u := by
        intro j u hu
        obtain ⟨vb, vo, ha, hc⟩ := hnews j u hu
        injection ha with ha
        subst ha
        rw [add_off]; exact hc
      subst hsize
      subst hby
      have hmb := Nat.mul_le_mul (show m ≤ 1073741824 by omega) hbytes
      have grown : OwnRow base (w.drew.alloc (.cells (news.toArray ++ Builtin.zeroCells z.cells (grownCap w m 0 e - m)) e)) (some ⟨w.heap.size, 0, Option.none⟩) (0 + m) (grownCap w m 0 e) e i.size ([] ++ news) ∧
          Kept (Mine base ad) w (w.drew.alloc (.cells (news.toArray ++ Builtin.zeroCells z.cells (grownCap w m 0 e - m)) e)) := by
        have hge := grownCap_ge w m 0 e
        refine ⟨Or.inr ⟨_, rfl, hbase, ⟨by simpa using hl, by omega, _, Blk.new w.drew _ _, ?_, ?_⟩⟩, (Kept.refl _ w).drew.alloc _⟩
        · simp only [Array.size_append, List.size_toArray, size_zeroCells, hzs, hl, ← Nat.add_mul]
          congr 1
          omega
        · simp only [Array.toList_append, Nat.zero_add, List.nil_append, ← hl]
          exact List.take_left
      cases ad with
      | none =>
        have hr := run_append_nil (P := P) w t ty e i z ht hi hz a2 m c news hl hnews' (by omega) (by omega) (by omega)
        exact ⟨_, _, _, by rw [Nat.zero_add]; exact hr, grown.1, grown.2, Or.inr ⟨_, rfl, Nat.le_refl _⟩⟩
      | some a0 =>
        have hr := run_append_grow (P := P) w t ty e i z ht hi hz a0 0 0 [] (by simp) (fun j u hu => by simp at hu) a2 m c news hl hnews' (by omega) (by omega) (growslice_fits (by omega) (by rw [Nat.zero_add]; omega))
        simp only [Nat.zero_add, Array.empty_append] at hr
        exact ⟨_, _, _, by rw [Nat.zero_add]; exact hr, grown.1, grown.2, Or.inr ⟨_, rfl, Nat.le_refl _⟩⟩
  · cases ad2 with
    | none =>
      obtain rfl := had rfl
      have hn : news = [] := List.eq_nil_of_length_eq_zero (by simpa using hl)
      subst hn
      refine ⟨some ⟨g, 0, Option.none⟩, cap, w, ?_, Or.inr ⟨g, rfl, hb, by simpa using h⟩, Kept.refl _ _, Or.inl rfl⟩
      have hle := h.le
      have hsz : (P.info? e).map (·.size) = some size := by rw [hi]; simp [hsize]
      simp [Builtin.append_, run_underlying ht, sizeOf, typeInfo, hi, Builtin.lenOf, Builtin.firstCells, loadCells, storeCells, hle]
    | some a2 =>
    obtain ⟨g', cap', w', hr, hrow, hk, hg⟩ := append_src t ty i z size bytes h ht hi hz hsize hby hzs hpos (some a2) m c news hl hnews (fun h => by cases h) h1 h63 hbytes
    refine ⟨some ⟨g', 0, Option.none⟩, cap', w', hr, Or.inr ⟨g', rfl, ?_, hrow⟩, hk.mono (fun i _ h => by subst h; exact ⟨hb, rfl⟩), ?_⟩
    · rcases hg with rfl | hg <;> omega
    · rcases hg with rfl | hg
      · exact Or.inl rfl
      · exact Or.inr ⟨g', rfl, hg⟩
end

/-- A row of numbers. -/
theorem info3 : (Try.prog.info? 3).map (fun i => (i.zero, i.size, i.bytes)) = some (some (.int .i64 0), 1, 8) := by kernel_rfl
theorem i3_parts : ∃ i, Try.prog.info? 3 = some i ∧ i.zero = some (.int .i64 0) ∧ i.size = 1 ∧ i.bytes = 8 := by
  obtain ⟨i, hi, h⟩ := Option.map_eq_some_iff.1 info3
  simp only [Prod.mk.injEq] at h
  exact ⟨i, hi, h.1, h.2.1, h.2.2⟩

theorem intV_one (xs : List Int) : ∀ u ∈ xs.map intV, u.oneCell' = true := by
  intro u hu
  obtain ⟨x, _, rfl⟩ := List.mem_map.1 hu
  rfl

end Go.Nl
