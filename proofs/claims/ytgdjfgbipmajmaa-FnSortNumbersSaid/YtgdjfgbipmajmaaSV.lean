/- utils.Sort's methods: numbers in interface values, sorted in place. -/
import Derived.Test.YtgdjfgbipmajmaaBoxed
import Derived.Test.YtgdjfgbipmajmaaRun
import Derived.Test.YtgdjfgbipmajmaaPdqP
import Derived.Deep.RegionHeld3
import Derived.Deep.DeepCutAuto
namespace Go.Nl
open Go.RowKit Go.Sort Go.Proofs

/-- Block g of cap cells holds the numbers d first, each in an interface value. -/
structure BNums (w : World) (g cap : Nat) (d : Array Int) : Prop where
  le : d.size ≤ cap
  row : ∃ cs, Blk w g cs 20 ∧ cs.size = cap ∧ ∀ j, j < d.size → cs[j]? = some (box d[j]!)

section
variable {w : World} {g cap : Nat} {d : Array Int}

theorem BNums.lt (h : BNums w g cap d) : g < w.heap.size := h.row.elim fun _ h => h.1.lt
theorem BNums.cell (h : BNums w g cap d) (j : Nat) (hj : j < d.size) : w.cell? ⟨g, j, none⟩ = some (.iface 3 (.int .i64 d[j]!)) := by
  obtain ⟨cs, hb, _, hc⟩ := h.row
  rw [hb.cell]; exact hc j hj
theorem BNums.frozen (h : BNums w g cap d) (j : Nat) : w.frozen? ⟨g, j, none⟩ = false := by
  obtain ⟨cs, hb, _, _⟩ := h.row
  exact hb.frozen j
theorem BNums.kept {S : Nat → Prop} {w' : World} (h : BNums w g cap d) (k : Kept S w w') (hS : ¬ S g) : BNums w' g cap d := by
  obtain ⟨cs, hb, hs, hc⟩ := h.row
  exact ⟨h.le, cs, hb.kept k hS, hs, hc⟩
theorem BNums.store (h : BNums w g cap d) (i : Nat) (x : Int) (hi : i < d.size) : BNums (w.setCell ⟨g, i, none⟩ (.iface 3 (.int .i64 x))) g cap (d.setIfInBounds i x) := by
  obtain ⟨cs, hb, hs, hc⟩ := h.row
  have hle := h.le
  refine ⟨by simpa using hle, _, hb.set i _, by simpa using hs, ?_⟩
  intro j hj
  simp only [Array.size_setIfInBounds] at hj
  by_cases hji : j = i
  · subst hji
    rw [set_same _ _ _ (by omega), getElem!_set_same d j x hj]
    rfl
  · rw [set_other _ _ _ _ hji, getElem!_set_other d i j x hji]
    exact hc j hj
theorem BNums.swapped (h : BNums w g cap d) (i j : Nat) (hi : i < d.size) (hj : j < d.size) :
    BNums ((w.setCell ⟨g, i, none⟩ (.iface 3 (.int .i64 d[j]!))).setCell ⟨g, j, none⟩ (.iface 3 (.int .i64 d[i]!))) g cap (swp d i j) :=
  (h.store i d[j]! hi).store j d[i]! (by simpa using hj)
end

/-- What the sort works over: the numbers in block g, the order in block ob. -/
structure SV (w : World) (g cap ob : Nat) (kind m : Int) (d : Array Int) : Prop where
  nums : BNums w g cap d
  ord : Blk w ob (ordCells kind m) 23
  ne : ob ≠ g

/-- The value with the methods. -/
abbrev rvOf (g n cap ob : Nat) : Value := .agg #[.slice (some ⟨g, 0, none⟩) n cap, fvOf ob]

section
variable {w : World} {g cap ob : Nat} {kind m : Int} {d : Array Int}

theorem SV.keptNo {w' : World} (h : SV w g cap ob kind m d) (k : Kept No w w') : SV w' g cap ob kind m d := ⟨h.nums.kept k (fun h => h), h.ord.kept k (fun h => h), h.ne⟩
theorem SV.kept {w' : World} {d' : Array Int} (h : SV w g cap ob kind m d) (hn : BNums w' g cap d') (k : Kept (fun i => i = g) w w') : SV w' g cap ob kind m d' := ⟨hn, h.ord.kept k h.ne, h.ne⟩

theorem len_any (n : Nat) (w : World) : Calls Try.prog 160 #[rvOf g n cap ob] w fun e w' => e = .returned (.int .i64 n) ∧ Kept No w w' := by
  have k : Kept No w (w.alloc (.cells #[.slice (some ⟨g, 0, none⟩) n cap, fvOf ob] 100)) := (Kept.refl No w).alloc _
  have K := Lib.hid k; clear k
  go_enter Try.func160, Try.ntmps160
  go_wp2_with fail
  go_ret
  exact ⟨rfl, K.out⟩

set_option maxHeartbeats 1000000 in
theorem less_any (h : SV w g cap ob kind m d) (ok : OrdOk kind m) (n : Nat) (hn : d.size = n) (i j : Nat) (hi : i < n) (hj : j < n) :
    Calls Try.prog 161 #[rvOf g n cap ob, .int .i64 i, .int .i64 j] w fun e w' => e = .returned (.bool (ltK kind m d[i]! d[j]!)) ∧ Kept No w w' := by
  have k : Kept No w (w.alloc (.cells #[.slice (some ⟨g, 0, none⟩) n cap, fvOf ob] 100)) := (Kept.refl No w).alloc _
  have h1 := h.keptNo k
  have hB := Blk.new w #[.slice (some ⟨g, 0, none⟩) n cap, fvOf ob] 100
  have b0 : (w.alloc (.cells #[.slice (some ⟨g, 0, none⟩) n cap, fvOf ob] 100)).cell? ⟨w.heap.size, 0, none⟩ = some (.slice (some ⟨g, 0, none⟩) n cap) := by rw [hB.cell]; rfl
  have b1 : (w.alloc (.cells #[.slice (some ⟨g, 0, none⟩) n cap, fvOf ob] 100)).cell? ⟨w.heap.size, 1, none⟩ = some (fvOf ob) := by rw [hB.cell]; rfl
  have ci := h1.nums.cell i (by omega)
  have cj := h1.nums.cell j (by omega)
  have hc := fun q => cmp_any kind m d[i]! d[j]! ob _ (h1.ord.drewN q) ok
  have hneg := cmpV_neg kind m d[i]! d[j]!
  generalize d[i]! = x at *
  generalize d[j]! = y at *
  generalize cmpV kind m x y = r at *
  have hr : ltK kind m x y = decide (r < 0) := by
    cases hq : ltK kind m x y with
    | true => rw [hq] at hneg; simp only [iff_true] at hneg; rw [decide_eq_true hneg]
    | false => rw [hq] at hneg; simp at hneg; rw [decide_eq_false (by omega)]
  rw [hr]
  unfold box at hc
  have HC := Lib.hid hc; have K := Lib.hid k; clear hc hneg hr h h1 hB k
  go_enter Try.func161, Try.ntmps161
  go_wp2_with fail
  generalize hwd : w.alloc (.cells #[.slice (some ⟨g, 0, none⟩) n cap, fvOf ob] 100) = wd at *
  have Hw := Lib.hid hwd; clear hwd
  generalize w.heap.size = sB at *
  go_quiet ((go_at_call 70; with_reducible refine Calls.quiet_of (HC.out _)))
  go_wp2_with fail
  go_ret
  exact ⟨rfl, K.out.drewN _⟩

set_option maxHeartbeats 2000000 in
set_option maxRecDepth 100000 in
theorem swap_row (h : SV w g cap ob kind m d) (n : Nat) (hn : d.size = n) (i j : Nat) (hi : i < n) (hj : j < n) :
    Calls Try.prog 162 #[rvOf g n cap ob, .int .i64 i, .int .i64 j] w fun e w' => e = .returned (.tuple #[]) ∧ SV w' g cap ob kind m (swp d i j) ∧ Kept (fun b => b = g) w w' := by
  have k : Kept No w (w.alloc (.cells #[.slice (some ⟨g, 0, none⟩) n cap, fvOf ob] 100)) := (Kept.refl No w).alloc _
  have h1 := h.keptNo k
  have hB := Blk.new w #[.slice (some ⟨g, 0, none⟩) n cap, fvOf ob] 100
  have b0 : (w.alloc (.cells #[.slice (some ⟨g, 0, none⟩) n cap, fvOf ob] 100)).cell? ⟨w.heap.size, 0, none⟩ = some (.slice (some ⟨g, 0, none⟩) n cap) := by rw [hB.cell]; rfl
  have ci := h1.nums.cell i (by omega)
  have cj := h1.nums.cell j (by omega)
  have fi := h1.nums.frozen i
  have fj := h1.nums.frozen j
  have hgl := h1.nums.lt
  have hg0 := h.nums.lt
  have fin : ∀ q, SV (((((w.alloc (.cells #[.slice (some ⟨g, 0, none⟩) n cap, fvOf ob] 100))).setCell ⟨g, i, none⟩ (.iface 3 (.int .i64 d[j]!))).setCell ⟨g, j, none⟩ (.iface 3 (.int .i64 d[i]!))).drewN q) g cap ob kind m (swp d i j) ∧
      Kept (fun b => b = g) w (((((w.alloc (.cells #[.slice (some ⟨g, 0, none⟩) n cap, fvOf ob] 100))).setCell ⟨g, i, none⟩ (.iface 3 (.int .i64 d[j]!))).setCell ⟨g, j, none⟩ (.iface 3 (.int .i64 d[i]!))).drewN q) := by
    intro q
    have hs := h1.nums.swapped i j (by omega) (by omega)
    have k2 : Kept (fun b => b = g) (w.alloc (.cells #[.slice (some ⟨g, 0, none⟩) n cap, fvOf ob] 100)) (((((w.alloc (.cells #[.slice (some ⟨g, 0, none⟩) n cap, fvOf ob] 100))).setCell ⟨g, i, none⟩ (.iface 3 (.int .i64 d[j]!))).setCell ⟨g, j, none⟩ (.iface 3 (.int .i64 d[i]!))).drewN q) :=
      (((Kept.refl (fun b => b = g) _).setCell ⟨g, i, none⟩ _ (fun _ => rfl)).setCell ⟨g, j, none⟩ _ (fun _ => rfl)).drewN q
    exact ⟨h1.kept (hs.kept (S := No) ((Kept.refl _ _).drewN q) (fun h => h)) k2, (k.mono (fun _ _ h => h.elim)).trans k2 (fun _ _ h => h)⟩
  generalize d[i]! = x at *
  generalize d[j]! = y at *
  have HF := Lib.hid fin; clear fin k h1 hB h
  obtain ⟨v', hy'⟩ := cell?_setCell_some (w := w.alloc (.cells #[.slice (some ⟨g, 0, none⟩) n cap, fvOf ob] 100)) (p := ⟨g, i, none⟩) (x := .iface 3 (.int .i64 y)) (q := ⟨g, j, none⟩) (v := .iface 3 (.int .i64 y)) cj
  go_enter Try.func162, Try.ntmps162
  go_wp2_with fail
  generalize w.alloc (.cells #[.slice (some ⟨g, 0, none⟩) n cap, fvOf ob] 100) = wd at *
  generalize w.heap.size = sB at *
  go_region
  all_goals
    go_wp2_with fail
    go_end0
    exact ⟨rfl, HF.out _⟩
end

end Go.Nl
