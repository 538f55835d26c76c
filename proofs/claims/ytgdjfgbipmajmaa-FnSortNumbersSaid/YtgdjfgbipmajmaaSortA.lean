/- Numbers in a block, and what the stable sort's smallest parts make of them. -/
import Derived.Test.YtgdjfgbipmajmaaSpecCmp
import Derived.Test.YtgdjfgbipmajmaaListA
import Derived.Test.YtgdjfgbipmajmaaMerge
import Derived.Deep.RegionHeld3
import Derived.Deep.DeepCutAuto
namespace Go.Nl
open Go.RowKit Go.Sort Go.Proofs

/-- Block g of cap cells holds the numbers d first. -/
structure Nums (w : World) (g cap : Nat) (d : Array Int) : Prop where
  le : d.size ≤ cap
  row : ∃ cs, Blk w g cs 3 ∧ cs.size = cap ∧ ∀ j, j < d.size → cs[j]? = some (.int .i64 d[j]!)

section
variable {w : World} {g cap : Nat} {d : Array Int}

theorem Nums.lt (h : Nums w g cap d) : g < w.heap.size := h.row.elim fun _ h => h.1.lt
theorem Nums.cell (h : Nums w g cap d) (j : Nat) (hj : j < d.size) : w.cell? ⟨g, j, none⟩ = some (.int .i64 d[j]!) := by
  obtain ⟨cs, hb, _, hc⟩ := h.row
  rw [hb.cell]; exact hc j hj
theorem Nums.frozen (h : Nums w g cap d) (j : Nat) : w.frozen? ⟨g, j, none⟩ = false := by
  obtain ⟨cs, hb, _, _⟩ := h.row
  exact hb.frozen j
theorem Nums.kept {S : Nat → Prop} {w' : World} (h : Nums w g cap d) (k : Kept S w w') (hS : ¬ S g) : Nums w' g cap d := by
  obtain ⟨cs, hb, hs, hc⟩ := h.row
  exact ⟨h.le, cs, hb.kept k hS, hs, hc⟩
theorem Nums.store (h : Nums w g cap d) (i : Nat) (x : Int) (hi : i < d.size) : Nums (w.setCell ⟨g, i, none⟩ (.int .i64 x)) g cap (d.setIfInBounds i x) := by
  obtain ⟨cs, hb, hs, hc⟩ := h.row
  have hle := h.le
  refine ⟨by simpa using hle, _, hb.set i _, by simpa using hs, ?_⟩
  intro j hj
  simp only [Array.size_setIfInBounds] at hj
  by_cases hji : j = i
  · subst hji
    rw [set_same _ _ _ (by omega), getElem!_set_same d j x hj]
  · rw [set_other _ _ _ _ hji, getElem!_set_other d i j x hji]
    exact hc j hj
theorem Nums.swapped (h : Nums w g cap d) (i j : Nat) (hi : i < d.size) (hj : j < d.size) :
    Nums ((w.setCell ⟨g, i, none⟩ (.int .i64 d[j]!)).setCell ⟨g, j, none⟩ (.int .i64 d[i]!)) g cap (swp d i j) :=
  (h.store i d[j]! hi).store j d[i]! (by simpa using hj)
end

set_option maxHeartbeats 1000000 in
set_option maxRecDepth 100000 in
theorem swapRange_any {w : World} {g cap n : Nat} {d : Array Int} (h : Nums w g cap d) (hn : d.size = n) (hb : n ≤ 1048576) (c' a b k : Nat) (fv : Value) (h1 : a + k ≤ b) (h2 : b + k ≤ n) :
    Calls Try.prog 104 #[.slice (some ⟨g, 0, none⟩) n c', .int .i64 a, .int .i64 b, .int .i64 k, fv] w fun e w' => e = .returned (.tuple #[]) ∧ Nums w' g cap (swapK a b d k) ∧ Kept (fun i => i = g) w w' := by
  have H := Lib.hid h; have HN := Lib.hid hn; clear h hn
  go_enter Try.func104, Try.ntmps104
  go_wp2_with fail
  go_loopg [10] (k + 1) (fun gg si wr => ∃ i : Nat, si = .int .i64 i ∧ i ≤ k ∧ k + 1 - i ≤ gg ∧ Hid (Nums wr g cap (swapK a b d i) ∧ Kept (fun i => i = g) w wr))
  case atStart => exact ⟨0, rfl, by omega, by omega, (show _ ∧ _ from ⟨H.out, Kept.refl _ _⟩)⟩
  case round =>
    obtain ⟨i, rfl, hi, hg, HI⟩ := hrel
    by_cases hik : i < k
    · have hsz : (swapK a b d i).size = n := by rw [size_swapK, HN.out]
      have hnx : swapK a b d (i + 1) = swp (swapK a b d i) (a + i) (b + i) := rfl
      generalize swapK a b d i = D at *
      have cx := HI.out.1.cell (a + i) (by omega)
      have cy := HI.out.1.cell (b + i) (by omega)
      have fx := HI.out.1.frozen (a + i)
      have fy := HI.out.1.frozen (b + i)
      obtain ⟨x, hx⟩ : ∃ x, D[a + i]! = x := ⟨_, rfl⟩
      obtain ⟨y, hy⟩ : ∃ y, D[b + i]! = y := ⟨_, rfl⟩
      have fin : ∀ q, Nums (((wr.setCell ⟨g, a + i, none⟩ (.int .i64 y)).setCell ⟨g, b + i, none⟩ (.int .i64 x)).drewN q) g cap (swp D (a + i) (b + i)) ∧ Kept (fun i => i = g) w (((wr.setCell ⟨g, a + i, none⟩ (.int .i64 y)).setCell ⟨g, b + i, none⟩ (.int .i64 x)).drewN q) := by
        intro q
        have hs := HI.out.1.swapped (a + i) (b + i) (by omega) (by omega)
        rw [hx, hy] at hs
        have kk : Kept No ((wr.setCell ⟨g, a + i, none⟩ (.int .i64 y)).setCell ⟨g, b + i, none⟩ (.int .i64 x)) (((wr.setCell ⟨g, a + i, none⟩ (.int .i64 y)).setCell ⟨g, b + i, none⟩ (.int .i64 x)).drewN q) := (Kept.refl _ _).drewN q
        refine ⟨hs.kept kk (fun h => h), ?_⟩
        have k2 : Kept (fun i => i = g) wr _ := (((Kept.refl (fun i => i = g) wr).setCell ⟨g, a + i, none⟩ (.int .i64 y) (fun _ => rfl)).setCell ⟨g, b + i, none⟩ (.int .i64 x) (fun _ => rfl)).drewN q
        exact HI.out.2.trans k2 (fun _ _ h => h)
      rw [hx] at cx
      rw [hy] at cy
      have HF := Lib.hid fin; have HX := Lib.hid hnx
      have e1 : ((a : Int) + (i : Int)).toNat = a + i := by omega
      have e2 : ((b : Int) + (i : Int)).toNat = b + i := by omega
      have e3 : IntKind.i64.wrap ((a : Int) + (i : Int)) = (a : Int) + (i : Int) := IntWalk.i64_in _ (by omega)
      have e4 : IntKind.i64.wrap ((b : Int) + (i : Int)) = (b : Int) + (i : Int) := IntWalk.i64_in _ (by omega)
      have b1 : (0 : Int) ≤ (a : Int) + i := by omega
      have b2 : (a : Int) + i < n := by omega
      have b3 : (0 : Int) ≤ (b : Int) + i := by omega
      have b4 : (b : Int) + i < n := by omega
      obtain ⟨v', hy'⟩ := cell?_setCell_some (w := wr) (p := ⟨g, a + i, none⟩) (x := .int .i64 y) (q := ⟨g, b + i, none⟩) (v := .int .i64 y) cy
      clear fin hnx hx hy hsz
      go_wp2_with fail
      go_region
      all_goals
        go_wp2_with fail
        go_roundg (k + 1 - (i + 1))
        case measure => omega
        case rel =>
          refine ⟨i + 1, by go_num, by omega, by omega, ?_⟩
          show _ ∧ _
          rw [HX.out]
          exact HF.out _
    · obtain rfl : i = k := by omega
      go_wp2_with fail
      go_end0
      exact ⟨rfl, HI.out.1, HI.out.2⟩

end Go.Nl
