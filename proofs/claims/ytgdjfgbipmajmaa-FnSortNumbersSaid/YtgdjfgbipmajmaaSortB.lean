/- The stable sort's rotation. -/
import Derived.Test.YtgdjfgbipmajmaaSortA
namespace Go.Nl
open Go.RowKit Go.Sort Go.Proofs

/-- The numbers lie rotated about m, all else as it lay. -/
def Rotated (w : World) (g cap a m b : Nat) (d : Array Int) (w' : World) : Prop :=
  ∃ d', Nums w' g cap d' ∧ d'.size = d.size ∧ PermIn a b d d' ∧ (∀ t, d'[t]! = rotAt d a m b t) ∧ Kept (fun i => i = g) w w'

set_option maxHeartbeats 1000000 in
set_option maxRecDepth 100000 in
theorem rotate_any {w : World} {g cap n : Nat} {d : Array Int} (h : Nums w g cap d) (hn : d.size = n) (hb : n ≤ 1048576) (c' a m b : Nat) (fv : Value) (h1 : a < m) (h2 : m < b) (h3 : b ≤ n) :
    Calls Try.prog 92 #[.slice (some ⟨g, 0, none⟩) n c', .int .i64 a, .int .i64 m, .int .i64 b, fv] w fun e w' => e = .returned (.tuple #[]) ∧ Rotated w g cap a m b d w' := by
  have H := Lib.hid h; have HN := Lib.hid hn; clear h hn
  have s1 : IntKind.i64.wrap ((m : Int) - (a : Int)) = ((m - a : Nat) : Int) := by rw [IntWalk.i64_in _ (by omega)]; omega
  have s2 : IntKind.i64.wrap ((b : Int) - (m : Int)) = ((b - m : Nat) : Int) := by rw [IntWalk.i64_in _ (by omega)]; omega
  go_enter Try.func92, Try.ntmps92
  go_wp2_with fail
  go_loopg [10, 11] (n + n + 1) (fun gg si sj wr => ∃ i j : Nat, ∃ D : Array Int, si = .int .i64 i ∧ sj = .int .i64 j ∧ 0 < i ∧ 0 < j ∧ i + j ≤ n ∧ i ≤ m - a ∧ j ≤ b - m ∧ i + j ≤ gg ∧ Hid (Nums wr g cap D ∧ RotInv a m b d i j D ∧ D.size = n ∧ Kept (fun i => i = g) w wr))
  case atStart => exact ⟨m - a, b - m, d, by go_num, by go_num, by omega, by omega, by omega, by omega, by omega, by omega, (show _ ∧ _ ∧ _ ∧ _ from ⟨H.out, RotInv.start d h1 h2, HN.out, Kept.refl _ _⟩)⟩
  case round =>
    obtain ⟨i, j, D, rfl, rfl, hi0, hj0, hij, him, hjb, hg, HI⟩ := hrel
    have t1 : IntKind.i64.wrap ((m : Int) - (i : Int)) = ((m - i : Nat) : Int) := by rw [IntWalk.i64_in _ (by omega)]; omega
    by_cases e : i = j
    · subst e
      have hc := swapRange_any HI.out.1 HI.out.2.2.1 hb c' (m - i) m i fv (by omega) (by omega)
      have hfin := HI.out.2.1.eq h1 h2 (by rw [HN.out]; exact h3)
      have hsz : (swapK (m - i) m D i).size = d.size := by rw [size_swapK, HI.out.2.2.1, HN.out]
      generalize swapK (m - i) m D i = D' at hc hfin hsz
      have HC := Lib.hid hc; have HF := Lib.hid hfin; clear hc hfin
      go_wp2_with fail
      refine HC.out.mono ?_
      rintro e w' ⟨rfl, hq⟩
      have HQ := Lib.hid hq; clear hq
      go_wp2_with fail
      go_end0
      exact ⟨rfl, D', HQ.out.1, hsz, HF.out.1, HF.out.2, HI.out.2.2.2.trans HQ.out.2 (fun _ _ h => h)⟩
    · have e' : ((i : Int) == (j : Int)) = false := beq_eq_false_iff_ne.2 (by omega)
      by_cases hgt : j < i
      · have hc := swapRange_any HI.out.1 HI.out.2.2.1 hb c' (m - i) m j fv (by omega) (by omega)
        have hfin := HI.out.2.1.gt h1 h2 (by rw [HN.out]; exact h3) hgt
        have hsz : (swapK (m - i) m D j).size = n := by rw [size_swapK, HI.out.2.2.1]
        generalize swapK (m - i) m D j = D' at hc hfin hsz
        have HC := Lib.hid hc; have HF := Lib.hid hfin; clear hc hfin
        have u1 : IntKind.i64.wrap ((i : Int) - (j : Int)) = ((i - j : Nat) : Int) := by rw [IntWalk.i64_in _ (by omega)]; omega
        go_wp2_with fail
        refine HC.out.mono ?_
        rintro e w' ⟨rfl, hq⟩
        have HQ := Lib.hid hq; clear hq
        go_wp2_with fail
        go_roundg (i - j + j)
        case measure => omega
        case rel => exact ⟨i - j, j, D', by go_num, rfl, by omega, by omega, by omega, by omega, by omega, by omega, (show _ ∧ _ ∧ _ ∧ _ from ⟨HQ.out.1, HF.out, hsz, HI.out.2.2.2.trans HQ.out.2 (fun _ _ h => h)⟩)⟩
      · have hc := swapRange_any HI.out.1 HI.out.2.2.1 hb c' (m - i) (m + j - i) i fv (by omega) (by omega)
        have hfin := HI.out.2.1.lt h1 h2 (by rw [HN.out]; exact h3) (by omega)
        have hsz : (swapK (m - i) (m + j - i) D i).size = n := by rw [size_swapK, HI.out.2.2.1]
        generalize swapK (m - i) (m + j - i) D i = D' at hc hfin hsz
        have HC := Lib.hid hc; have HF := Lib.hid hfin; clear hc hfin
        have u1 : IntKind.i64.wrap ((j : Int) - (i : Int)) = ((j - i : Nat) : Int) := by rw [IntWalk.i64_in _ (by omega)]; omega
        have u2 : IntKind.i64.wrap ((m : Int) + (j : Int)) = (m : Int) + (j : Int) := IntWalk.i64_in _ (by omega)
        have u3 : IntKind.i64.wrap ((m : Int) + (j : Int) - (i : Int)) = ((m + j - i : Nat) : Int) := by rw [IntWalk.i64_in _ (by omega)]; omega
        go_wp2_with fail
        refine HC.out.mono ?_
        rintro e w' ⟨rfl, hq⟩
        have HQ := Lib.hid hq; clear hq
        go_wp2_with fail
        go_roundg (i + (j - i))
        case measure => omega
        case rel => exact ⟨i, j - i, D', rfl, by go_num, by omega, by omega, by omega, by omega, by omega, by omega, (show _ ∧ _ ∧ _ ∧ _ from ⟨HQ.out.1, HF.out, hsz, HI.out.2.2.2.trans HQ.out.2 (fun _ _ h => h)⟩)⟩

end Go.Nl
