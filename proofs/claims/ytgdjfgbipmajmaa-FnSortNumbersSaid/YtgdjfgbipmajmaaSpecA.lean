/- The reference: Clone, Equal. -/
import Derived.Test.YtgdjfgbipmajmaaOwn
import Derived.Lib.SliceRun
namespace Go.Nl
open Go.RowKit Go.Sort Go.Proofs

theorem und29' : Try.prog.underlying 29 = some (.slice 3) := by kernel_rfl

/-- What lies nowhere is nothing. -/
theorem cellsAt_none {w : World} {xs : List Int} (h : CellsAt w none (xs.map intV)) : xs = [] := by
  cases xs with
  | nil => rfl
  | cons x l =>
    obtain ⟨_, _, e, _⟩ := h 0 (intV x) rfl
    cases e

/-- A new slice of the same numbers. -/
def Cloned (w : World) (xs : List Int) (e : Ending) (w' : World) : Prop :=
  ∃ ad c, e = .returned (.slice ad xs.length c) ∧ OwnRow w.heap.size w' ad xs.length c 3 1 (xs.map intV) ∧ Kept No w w'

set_option maxRecDepth 100000 in
theorem clone_any (xs : List Int) (ad : Option Addr) (n' : Nat) (w : World) (hx : CellsAt w ad (xs.map intV)) (had : ad = none → n' = 0) (hn : xs.length ≤ 1048576) :
    Calls Try.prog 44 #[.slice ad xs.length n'] w (Cloned w xs) := by
  cases ad with
  | none =>
    obtain rfl := cellsAt_none hx
    obtain rfl := had rfl
    clear hx had hn
    simp only [List.length_nil]
    have q := fun w => Lib.run_eql_slice_nil (P := Try.prog) w 29 3 none 0 0 0 0 und29'
    simp only [Option.isNone_none] at q
    go_enter Try.func44, Try.ntmps44
    go_wp2
    go_ret
    exact ⟨none, 0, rfl, OwnRow.bare _ _ _ _ _, Kept.refl _ _⟩
  | some a =>
    obtain ⟨i, hi, hz, hs, hb⟩ := i3_parts
    have k1 : Kept No w (w.alloc (.cells #[] 3)) := (Kept.refl No w).alloc _
    have hE : OwnRow w.heap.size (w.alloc (.cells #[] 3)) (some ⟨w.heap.size, 0, none⟩) 0 0 3 1 [] := Or.inl ⟨rfl, rfl, rfl⟩
    obtain ⟨ad', c', w', hr, ho, hk, _⟩ := append_own (P := Try.prog) 29 29 i (.int .i64 0) 8 hE (by simp) und29' hi hz hs hb rfl (by omega) (some a) xs.length n' (xs.map intV) (by simp) (hx.keptNo k1)
      (fun h => by cases h) (intV_one xs) (by omega) (by omega)
    rw [Nat.zero_add] at hr ho
    have HR := Lib.hid hr
    have HF := Lib.hid (show OwnRow w.heap.size w' ad' xs.length c' 3 1 (xs.map intV) ∧ Kept No w w' from ⟨by simpa using ho, k1.trans hk (fun i hi h => by have := h.1; omega)⟩)
    have q := fun w => Lib.run_eql_slice_nil (P := Try.prog) w 29 3 (some a) xs.length n' 0 0 und29'
    simp only [Option.isNone_some] at q
    clear hi hz hs hb k1 hE hr ho hk hx had
    go_enter Try.func44, Try.ntmps44
    go_wp2_with (at_builtin; refine wpList_append_run rfl (.tmp 5) (.tmp 6) 29 rfl _ _ _ rfl rfl HR.out ?_)
    go_ret
    exact ⟨ad', c', rfl, HF.out.1, HF.out.2⟩

set_option maxHeartbeats 1000000 in
set_option maxRecDepth 100000 in
theorem equalInt (xs : List Int) (a1 a2 : Option Addr) (c1 c2 : Nat) (w : World) (h1 : CellsAt w a1 (xs.map intV)) (h2 : CellsAt w a2 (xs.map intV)) (hn : xs.length ≤ 1048576) :
    Calls Try.prog 48 #[.slice a1 xs.length c1, .slice a2 xs.length c2] w fun e w' => e = .returned (.bool true) ∧ Kept No w w' := by
  obtain ⟨n, hnn⟩ : ∃ n, xs.length = n := ⟨_, rfl⟩
  rw [hnn] at hn ⊢
  have H1 := Lib.hid h1; have H2 := Lib.hid h2; have HN := Lib.hid hnn; clear h1 h2 hnn
  go_enter Try.func48, Try.ntmps48
  go_wp2_with fail
  go_loopg [13] (n + 1) (fun g si wr => ∃ k : Nat, si = .int .i64 k ∧ k ≤ n ∧ n + 1 - k ≤ g ∧ Hid (Kept No w wr))
  case atStart => exact ⟨0, rfl, by omega, by omega, Kept.refl _ _⟩
  case round =>
    obtain ⟨k, rfl, hk, hg, HK⟩ := hrel
    by_cases hkn : k < n
    · have hkl : k < xs.length := by rw [HN.out]; exact hkn
      obtain ⟨x, hx⟩ : ∃ x, xs[k]? = some x := ⟨_, List.getElem?_eq_getElem hkl⟩
      have e1 : (xs.map intV)[k]? = some (.int .i64 x) := by rw [List.getElem?_map, hx]; rfl
      obtain ⟨b1, o1, ha1, c10⟩ := (H1.out.keptNo HK.out) _ _ e1
      obtain ⟨b2, o2, ha2, c20⟩ := (H2.out.keptNo HK.out) _ _ e1
      subst ha1 ha2
      clear hx e1
      go_wp2_with fail
      go_region
      go_wp2_with fail
      go_roundg (n + 1 - (k + 1))
      case measure => omega
      case rel => exact ⟨k + 1, by go_num, by omega, by omega, HK.out.drew⟩
    · obtain rfl : k = n := by omega
      go_wp2_with fail
      go_ret
      exact ⟨rfl, HK.out⟩

end Go.Nl
