/- What the array list's functions do: range test, size, reading, swapping. -/
import Derived.Test.YtgdjfgbipmajmaaProg
import Derived.Test.YtgdjfgbipmajmaaBase
import Derived.Test.YtgdjfgbipmajmaaFloat
import Derived.BigQuiet
import Derived.BigRegion
import Derived.Deep.QuietTactic
namespace Go.Nl
open Go.RowKit Go.Sort Go.Proofs

theorem within_yes (lb n : Nat) (i : Int) (w : World) (h0 : w.cell? ⟨lb, 1, none⟩ = some (.int .i64 n)) (hi : 0 ≤ i) (hn : i < n) :
    Calls Try.prog 90 #[.pointer (some ⟨lb, 0, none⟩), .int .i64 i] w fun e w' => e = .returned (.bool true) ∧ w = w' := by
  go_enter Try.func90, Try.ntmps90
  go_wp2
  go_ret
  exact ⟨rfl, rfl⟩

theorem within_no (lb n : Nat) (i : Int) (w : World) (h0 : w.cell? ⟨lb, 1, none⟩ = some (.int .i64 n)) (hn : i < 0 ∨ n ≤ i) :
    Calls Try.prog 90 #[.pointer (some ⟨lb, 0, none⟩), .int .i64 i] w fun e w' => e = .returned (.bool false) ∧ w = w' := by
  rcases hn with hn | hn
  · have hn' : ¬ 0 ≤ i := by omega
    go_enter Try.func90, Try.ntmps90
    go_wp2
    go_ret
    exact ⟨rfl, rfl⟩
  · have h1 : (0 : Int) ≤ i := by omega
    have hn' : decide (i < n) = false := decide_eq_false (by omega)
    go_enter Try.func90, Try.ntmps90
    go_wp2
    go_ret
    exact ⟨rfl, rfl⟩

theorem size_any (lb : Nat) (n : Int) (w : World) (h0 : w.cell? ⟨lb, 1, none⟩ = some (.int .i64 n)) :
    Calls Try.prog 77 #[.pointer (some ⟨lb, 0, none⟩)] w fun e w' => e = .returned (.int .i64 n) ∧ w = w' := by
  go_enter Try.func77, Try.ntmps77
  go_wp2
  go_ret
  exact ⟨rfl, rfl⟩

theorem empty_any (lb : Nat) (n : Int) (w : World) (h0 : w.cell? ⟨lb, 1, none⟩ = some (.int .i64 n)) :
    Calls Try.prog 132 #[.pointer (some ⟨lb, 0, none⟩)] w fun e w' => e = .returned (.bool (n == 0)) ∧ w = w' := by
  go_enter Try.func132, Try.ntmps132
  go_wp2
  go_ret
  exact ⟨rfl, rfl⟩

theorem ListAt.sizeCell {w : World} {lb : Nat} {ao : Option Nat} {c : Nat} {d : Array Int} (h : ListAt w lb ao c d) : w.cell? ⟨lb, 1, none⟩ = some (.int .i64 (d.size : Int)) := by
  rw [h.head.cell]; rfl
theorem ListAt.elemCell {w : World} {lb : Nat} {ao : Option Nat} {c : Nat} {d : Array Int} (h : ListAt w lb ao c d) : w.cell? ⟨lb, 0, none⟩ = some (slv ao c) := by
  rw [h.head.cell]; rfl
theorem ListAt.at {w : World} {lb eb : Nat} {c : Nat} {d : Array Int} (h : ListAt w lb (some eb) c d) (j : Nat) (hj : j < d.size) : w.cell? ⟨eb, j, none⟩ = some (box d[j]!) := by
  obtain ⟨_, cs, he⟩ := h.elems
  rw [he.blk.cell]; exact he.cell j hj
theorem ListAt.some_of {w : World} {lb : Nat} {ao : Option Nat} {c : Nat} {d : Array Int} (h : ListAt w lb ao c d) (hd : 0 < c) : ∃ eb, ao = some eb := by
  have := h.elems
  cases ao with
  | none => simp at this; omega
  | some eb => exact ⟨eb, rfl⟩

theorem get_no {lb : Nat} {ao : Option Nat} {c : Nat} {d : Array Int} (i : Int) (w : World) (h : ListAt w lb ao c d) (hn : i < 0 ∨ (d.size : Int) ≤ i) :
    Calls Try.prog 79 #[.pointer (some ⟨lb, 0, none⟩), .int .i64 i] w fun e w' => e = .returned (.tuple #[.nilIface, .bool false]) ∧ w = w' := by
  have h0 := h.sizeCell
  have hc := within_no lb d.size i w h0 hn
  have Hh := Lib.hid h; clear h hn
  go_enter Try.func79, Try.ntmps79
  go_wp2_with (go_at_call 90; refine hc.mono ?_; rintro e w' ⟨rfl, rfl⟩)
  go_ret2
  exact ⟨rfl, rfl⟩

theorem get_yes {lb : Nat} {ao : Option Nat} {c : Nat} {d : Array Int} (i : Int) (w : World) (h : ListAt w lb ao c d) (hi : 0 ≤ i) (hn : i < d.size) :
    Calls Try.prog 79 #[.pointer (some ⟨lb, 0, none⟩), .int .i64 i] w fun e w' => e = .returned (.tuple #[box d[i.toNat]!, .bool true]) ∧ w = w' := by
  have hle := h.le
  obtain ⟨eb, rfl⟩ := h.some_of (by omega)
  have h0 := h.sizeCell
  have h1 := h.elemCell
  have h2 := h.at i.toNat (by omega)
  have hc := within_yes lb d.size i w h0 hi hn
  have hic : i < c := by omega
  obtain ⟨v, hv⟩ : ∃ v, d[i.toNat]! = v := ⟨_, rfl⟩
  rw [hv] at h2 ⊢
  unfold box at h2 ⊢
  unfold slv at h1
  simp only [Option.map_some] at h1
  have Hh := Lib.hid h; clear h hv
  go_enter Try.func79, Try.ntmps79
  go_wp2_with (go_at_call 90; refine hc.mono ?_; rintro e w' ⟨rfl, rfl⟩)
  go_ret2
  exact ⟨rfl, rfl⟩

theorem set_other (cs : Array Value) (i k : Nat) (v : Value) (h : k ≠ i) : (cs.setIfInBounds i v)[k]? = cs[k]? := by
  rw [Array.getElem?_setIfInBounds, if_neg (Ne.symm h)]
theorem set_same (cs : Array Value) (i : Nat) (v : Value) (h : i < cs.size) : (cs.setIfInBounds i v)[i]? = some v := by
  rw [Array.getElem?_setIfInBounds, if_pos rfl, if_pos h]
theorem one_set {cs : Array Value} (h : ∀ v ∈ cs.toList, v.oneCell' = true) (i : Nat) (v : Value) (hv : v.oneCell' = true) : ∀ u ∈ (cs.setIfInBounds i v).toList, u.oneCell' = true := by
  intro u hu
  rw [Array.toList_setIfInBounds] at hu
  rcases List.mem_or_eq_of_mem_set hu with hu | hu
  · exact h u hu
  · rw [hu]; exact hv

/-- One number stored. -/
theorem Elems.store {w : World} {eb c : Nat} {cs : Array Value} {d : Array Int} (h : Elems w eb c cs d) (hd : d.size ≤ c) (i : Nat) (x : Int) (hi : i < d.size) :
    Elems (w.setCell ⟨eb, i, none⟩ (box x)) eb c (cs.setIfInBounds i (box x)) (d.setIfInBounds i x) := by
  have hs := h.size
  refine ⟨h.blk.set i _, by simpa using hs, one_set h.one _ _ rfl, fun j hj => ?_⟩
  rw [Array.size_setIfInBounds] at hj
  by_cases e : j = i
  · subst e
    rw [set_same _ _ _ (by omega), getElem!_set_same d j x hj]
  · rw [set_other _ _ _ _ e, getElem!_set_other d i j x e]
    exact h.cell j hj

theorem ListAt.swapped {w : World} {lb eb c : Nat} {d : Array Int} (h : ListAt w lb (some eb) c d) (i j : Nat) (hi : i < d.size) (hj : j < d.size) :
    ListAt ((w.setCell ⟨eb, i, none⟩ (box d[j]!)).setCell ⟨eb, j, none⟩ (box d[i]!)) lb (some eb) c (swp d i j) := by
  obtain ⟨hne, cs, he⟩ := h.elems
  have hsz : (swp d i j).size = d.size := by simp [swp]
  refine ⟨?_, ⟨hne, _, (he.store h.le i _ hi).store (by rw [Array.size_setIfInBounds]; exact h.le) j _ (by rw [Array.size_setIfInBounds]; exact hj)⟩, by rw [hsz]; exact h.le, h.small⟩
  rw [hsz]
  exact (h.head.other _ _ hne).other _ _ hne

set_option maxHeartbeats 1000000 in
set_option maxRecDepth 100000 in
theorem swap_any {lb eb c : Nat} {d : Array Int} (i j : Nat) (w : World) (h : ListAt w lb (some eb) c d) (hi : i < d.size) (hj : j < d.size) :
    Calls Try.prog 80 #[.pointer (some ⟨lb, 0, none⟩), .int .i64 i, .int .i64 j] w fun e w' => e = .returned (.tuple #[]) ∧ ListAt w' lb (some eb) c (swp d i j) ∧ Kept (fun k => k = eb) w w' := by
  have fin : ∀ (e : Ending) (w' : World), (e = .returned (.tuple #[]) ∧ ∃ q, w' = (((w.setCell ⟨eb, i, none⟩ (box d[j]!)).setCell ⟨eb, j, none⟩ (box d[i]!))).drewN q) → e = .returned (.tuple #[]) ∧ ListAt w' lb (some eb) c (swp d i j) ∧ Kept (fun k => k = eb) w w' := by
    rintro e w' ⟨he, q, rfl⟩
    exact ⟨he, (h.swapped i j hi hj).drewN q, (((Kept.refl (fun k => k = eb) w).setCell ⟨eb, i, none⟩ _ (fun _ => rfl)).setCell ⟨eb, j, none⟩ _ (fun _ => rfl)).drewN q⟩
  refine Calls.mono ?_ fin
  have hle := h.le
  have h0 := h.sizeCell
  have h1 := h.elemCell
  have ci := h.at i hi
  have cj := h.at j hj
  obtain ⟨hne, cs, he⟩ := h.elems
  have fi := he.blk.frozen i
  have fj := he.blk.frozen j
  have w1 := within_yes lb d.size i w h0 (by omega) (by omega)
  have w2 := within_yes lb d.size j w h0 (by omega) (by omega)
  have hic : (i : Int) < c := by omega
  have hjc : (j : Int) < c := by omega
  obtain ⟨vi, hvi⟩ : ∃ v, d[i]! = v := ⟨_, rfl⟩
  obtain ⟨vj, hvj⟩ : ∃ v, d[j]! = v := ⟨_, rfl⟩
  rw [hvi, hvj] 
  rw [hvi] at ci
  rw [hvj] at cj
  unfold box at ci cj ⊢
  unfold slv at h1
  simp only [Option.map_some] at h1
  clear h he hvi hvj fin
  obtain ⟨v', hy'⟩ := cell?_setCell_some (w := w) (p := ⟨eb, i, none⟩) (x := .iface 3 (.int .i64 vj)) (q := ⟨eb, j, none⟩) (v := .iface 3 (.int .i64 vj)) cj
  go_enter Try.func80, Try.ntmps80
  go_wp2_with fail
  refine w1.mono ?_
  rintro e w' ⟨rfl, rfl⟩
  go_wp2_with fail
  refine w2.mono ?_
  rintro e w' ⟨rfl, rfl⟩
  go_wp2_with fail
  go_region
  all_goals (go_end0; exact ⟨rfl, _, rfl⟩)

end Go.Nl
