/- Rows of cells that a call makes, and append. -/
import Derived.Test.YtgdjfgbipmajmaaBase
import Derived.Laws.AppendOwn
namespace Go.Nl
open Go.RowKit

/-- The slice over block g from its head, n elements of size cells each, room for cap, holds the cells xs. -/
structure RowAt (w : World) (g n cap : Nat) (e : TypeId) (size : Nat) (xs : List Value) : Prop where
  len : xs.length = n * size
  le : n ≤ cap
  row : ∃ cur, Blk w g cur e ∧ cur.size = cap * size ∧ cur.toList.take (n * size) = xs

theorem RowAt.lt {w : World} {g n cap : Nat} {e : TypeId} {size : Nat} {xs : List Value} (h : RowAt w g n cap e size xs) : g < w.heap.size := h.row.elim fun _ h => h.1.lt

theorem RowAt.cell {w : World} {g n cap : Nat} {e : TypeId} {size : Nat} {xs : List Value} (h : RowAt w g n cap e size xs) (j : Nat) (v : Value) (hj : xs[j]? = some v) : w.cell? ⟨g, j, none⟩ = some v := by
  obtain ⟨cur, hb, hc, ht⟩ := h.row
  rw [hb.cell]
  rw [← ht, List.getElem?_take] at hj
  split at hj
  · simpa using hj
  · cases hj

theorem RowAt.frozen {w : World} {g n cap : Nat} {e : TypeId} {size : Nat} {xs : List Value} (h : RowAt w g n cap e size xs) (j : Nat) : w.frozen? ⟨g, j, none⟩ = false := by
  obtain ⟨cur, hb, _, _⟩ := h.row
  exact hb.frozen j

theorem RowAt.kept {S : Nat → Prop} {w w' : World} {g n cap : Nat} {e : TypeId} {size : Nat} {xs : List Value} (h : RowAt w g n cap e size xs) (k : Kept S w w') (hS : ¬ S g) : RowAt w' g n cap e size xs := by
  obtain ⟨cur, hb, hc, ht⟩ := h.row
  exact ⟨h.len, h.le, cur, hb.kept k hS, hc, ht⟩

theorem RowAt.new (w : World) (cs : Array Value) (e : TypeId) (size n : Nat) (hs : cs.size = n * size) : RowAt (w.alloc (.cells cs e)) w.heap.size n n e size cs.toList :=
  ⟨by simpa using hs, Nat.le_refl _, cs, Blk.new _ _ _, hs, by rw [List.take_of_length_le]; simp [hs]⟩

theorem add_zero_off (g j : Nat) : ((⟨g, 0, none⟩ : Addr).add j) = ⟨g, j, none⟩ := by unfold Addr.add; split <;> simp_all

theorem add_off (g o j : Nat) : ((⟨g, o, none⟩ : Addr).add j) = ⟨g, o + j, none⟩ := by unfold Addr.add; split <;> simp_all

/-- append(xs, ys...), ys at an address. -/
theorem append_row {P : Program} {w : World} {g n cap : Nat} {e : TypeId} {xs : List Value} (t ty : TypeId) (i : TypeInfo) (z : Value) (size bytes : Nat) (h : RowAt w g n cap e size xs)
    (ht : P.underlying t = some (.slice e)) (hi : P.info? e = some i) (hz : i.zero = some z) (hsize : i.size = size) (hby : i.bytes = bytes) (hzs : z.cells.size = size)
    (a : Addr) (m c : Nat) (news : List Value) (hl : news.length = m * size) (hnews : ∀ j u, news[j]? = some u → w.cell? (a.add j) = some u) (h1 : ∀ u ∈ news, u.oneCell' = true)
    (h63 : n + m ≤ 1073741824) (hbytes : bytes ≤ 64) :
    ∃ g' cap' w', (Builtin.append_ #[t, t] ty #[.slice (some ⟨g, 0, none⟩) n cap, .slice (some a) m c]).run P w = .ok (.slice (some ⟨g', 0, none⟩) (n + m) cap') w' ∧
      RowAt w' g' (n + m) cap' e size (xs ++ news) ∧ Kept (fun k => k = g) w w' ∧ (g' = g ∨ w.heap.size ≤ g') := by
  subst hsize
  subst hby
  obtain ⟨cur, hb, hcs, htake⟩ := h.row
  have hlen : (xs ++ news).length = (n + m) * i.size := by rw [List.length_append, h.len, hl, Nat.add_mul]
  have hb48 : (n + m) * i.bytes ≤ 140737488355328 := by
    have := Nat.mul_le_mul h63 hbytes
    omega
  by_cases hroom : n + m ≤ cap
  · have hfit : n * i.size + news.length ≤ cur.size := by rw [hl, hcs, ← Nat.add_mul]; exact Nat.mul_le_mul_right _ hroom
    have hr := run_append_room (P := P) w t ty e i ht hi g n cap cur hb a m c news hl hnews h1 hroom hfit
    refine ⟨g, cap, _, hr, ⟨hlen, hroom, _, hb.row _, ?_, ?_⟩, (Kept.refl (fun k => k = g) w).setRow _ _ (fun _ => rfl), Or.inl rfl⟩
    · simp only [List.size_toArray, List.length_append, List.length_take, List.length_drop, Array.length_toList]
      omega
    · rw [htake, ← hlen]
      exact List.take_left
  · have holds : ∀ j u, xs[j]? = some u → w.cell? ((⟨g, 0, none⟩ : Addr).add j) = some u := fun j u hu => by rw [add_zero_off]; exact h.cell j u hu
    have hr := run_append_grow (P := P) w t ty e i z ht hi hz ⟨g, 0, none⟩ n cap xs h.len holds a m c news hl hnews (by omega) (by omega) (growslice_fits (by omega) hb48)
    have hge := grownCap_ge w (n + m) cap e
    refine ⟨w.heap.size, _, _, hr, ⟨hlen, hge, _, Blk.new w.drew _ _, ?_, ?_⟩, (Kept.refl _ w).drew.alloc _, Or.inr (Nat.le_refl _)⟩
    · simp only [Array.size_append, List.size_toArray, size_zeroCells, hzs, h.len, hl, ← Nat.add_mul]
      congr 1
      omega
    · simp only [Array.toList_append, List.append_assoc]
      rw [← List.append_assoc, ← hlen]
      exact List.take_left

/-- Cells that lie one behind the other from an address on. -/
def CellsAt (w : World) (ad : Option Addr) (vs : List Value) : Prop :=
  ∀ j v, vs[j]? = some v → ∃ vb vo, ad = some ⟨vb, vo, none⟩ ∧ w.cell? ⟨vb, vo + j, none⟩ = some v

theorem CellsAt.kept {S : Nat → Prop} {w w' : World} {ad : Option Addr} {vs : List Value} (h : CellsAt w ad vs) (k : Kept S w w') (hS : ∀ a, ad = some a → a.block < w.heap.size → ¬ S a.block) : CellsAt w' ad vs := by
  intro j v hj
  obtain ⟨vb, vo, rfl, hc⟩ := h j v hj
  have hlt : vb < w.heap.size := by
    obtain ⟨c, e, fr, hb, _⟩ := Go.Sort.cells_of_cell? hc
    exact (Array.getElem?_eq_some_iff.1 hb).1
  exact ⟨vb, vo, rfl, by rw [← hc]; exact World.cell?_of_block (w := w) (k.block vb hlt (hS _ rfl hlt))⟩

theorem CellsAt.keptNo {w w' : World} {ad : Option Addr} {vs : List Value} (h : CellsAt w ad vs) (k : Kept No w w') : CellsAt w' ad vs := h.kept k (fun _ _ _ h => h)

theorem RowAt.cells {w : World} {g n cap : Nat} {e : TypeId} {size : Nat} {xs : List Value} (h : RowAt w g n cap e size xs) : CellsAt w (some ⟨g, 0, none⟩) xs :=
  fun j v hj => ⟨g, 0, rfl, by rw [Nat.zero_add]; exact h.cell j v hj⟩

/-- append, where its run is known. -/
theorem wpList_append_run {P : Program} {w w' : World} {ops : Array Oper} {rest : List Oper} {o : Oper} {a : Act} {Q : Exit → Act → World → Prop} (hgd : o.guard = none) (s x : Operand) (t : TypeId)
    (ho : o.op = .call { callee := .builtin .append, args := #[s, x], argTypes := #[t, t] }) (v v1 v2 : Value) (hs : a.eval s = v1) (hx : a.eval x = v2)
    (hr : (Builtin.append_ #[t, t] o.type #[v1, v2]).run P w = .ok v w') (h : wpList P ops Q rest (a.put o.dst v) w') : wpList P ops Q (o :: rest) a w :=
  wpList_plain hgd fun _ hK => by
    unfold Oper.wp execOp
    simp only [ho, resolve, invoke, builtin, Sem.run_bind, Sem.run_pure, Result.andThen_ok, List.map_toArray, List.map_cons, List.map_nil, hs, hx, hr]
    exact hK _ _ h

end Go.Nl
