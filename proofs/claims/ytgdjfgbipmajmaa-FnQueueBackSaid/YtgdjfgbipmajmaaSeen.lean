/- Rows of what was seen: Clone, Reverse, Equal. -/
import Derived.Test.YtgdjfgbipmajmaaMoves
import Derived.Lib.SliceRun
namespace Go.Nl
open Go.RowKit Go.Sort Go.Proofs

theorem seenCells_len (l : List SeenT) : (l.flatMap seenCells).length = l.length * 3 := by
  induction l with
  | nil => rfl
  | cons o l ih => rw [List.flatMap_cons, List.length_append, ih]; simp [seenCells]; omega

theorem seenCells_one (l : List SeenT) : ∀ u ∈ l.flatMap seenCells, u.oneCell' = true := by
  intro u hu
  obtain ⟨s, _, hs⟩ := List.mem_flatMap.1 hu
  simp [seenCells] at hs
  rcases hs with rfl | rfl | rfl <;> rfl

/-- A new slice of the same. -/
def SeenCloned (w : World) (l : List SeenT) (n : Nat) (e : Ending) (w' : World) : Prop :=
  ∃ ad c, e = .returned (.slice ad n c) ∧ OwnRow w.heap.size w' ad n c 55 3 (l.flatMap seenCells) ∧ Kept No w w'

set_option maxRecDepth 100000 in
theorem seenClone (l : List SeenT) (n : Nat) (hl : l.length = n) (a : Addr) (n' : Nat) (w : World) (hx : CellsAt w (some a) (l.flatMap seenCells)) (hn : n ≤ 1048576) :
    Calls Try.prog 37 #[.slice (some a) n n'] w (SeenCloned w l n) := by
  obtain ⟨i, hi, hz, hs, hb⟩ := i55_parts
  have k1 : Kept No w (w.alloc (.cells #[] 55)) := (Kept.refl No w).alloc _
  have hE : OwnRow w.heap.size (w.alloc (.cells #[] 55)) (some ⟨w.heap.size, 0, none⟩) 0 0 55 3 [] := Or.inl ⟨rfl, rfl, rfl⟩
  obtain ⟨ad', c', w', hr, ho, hk, _⟩ := append_own (P := Try.prog) 52 52 i (.agg #[.bool false, .int .i64 0, .int .i64 0]) 24 hE (by simp) und52 hi hz hs hb rfl (by omega) (some a) n n' (l.flatMap seenCells) (by rw [seenCells_len, hl]) (hx.keptNo k1)
    (fun h => by cases h) (seenCells_one l) (by omega) (by omega)
  rw [Nat.zero_add] at hr ho
  have HR := Lib.hid hr
  have HF := Lib.hid (show OwnRow w.heap.size w' ad' n c' 55 3 (l.flatMap seenCells) ∧ Kept No w w' from ⟨by simpa using ho, k1.trans hk (fun i hi h => by have := h.1; omega)⟩)
  have q := fun w => Lib.run_eql_slice_nil (P := Try.prog) w 52 55 (some a) n n' 0 0 und52
  simp only [Option.isNone_some] at q
  clear hi hz hs hb k1 hE hr ho hk hx
  go_enter Try.func37, Try.ntmps37
  go_wp2_with (at_builtin; refine wpList_append_run rfl (.tmp 5) (.tmp 6) 52 rfl _ _ _ rfl rfl HR.out ?_)
  go_ret
  exact ⟨ad', c', rfl, HF.out.1, HF.out.2⟩

set_option maxHeartbeats 1000000 in
set_option maxRecDepth 100000 in
theorem equalSeen (l : List SeenT) (a1 a2 : Option Addr) (c1 c2 n : Nat) (hl : l.length = n) (w : World) (h1 : CellsAt w a1 (l.flatMap seenCells)) (h2 : CellsAt w a2 (l.flatMap seenCells)) (hn : n ≤ 1000000) :
    Calls Try.prog 39 #[.slice a1 n c1, .slice a2 n c2] w fun e w' => e = .returned (.bool true) ∧ Kept No w w' := by
  have H1 := Lib.hid h1; have H2 := Lib.hid h2; have HN := Lib.hid hl; clear h1 h2 hl
  go_enter Try.func39, Try.ntmps39
  go_wp2_with fail
  go_loopg [13] (n + 1) (fun g si wr => ∃ k : Nat, si = .int .i64 k ∧ k ≤ n ∧ n + 1 - k ≤ g ∧ Hid (Kept No w wr))
  case atStart => exact ⟨0, rfl, by omega, by omega, Kept.refl _ _⟩
  case round =>
    obtain ⟨k, rfl, hk, hg, HK⟩ := hrel
    by_cases hkn : k < n
    · have hkl : k < l.length := by rw [HN.out]; exact hkn
      obtain ⟨gt, hgt⟩ : ∃ x, l[k]? = some x := ⟨_, List.getElem?_eq_getElem hkl⟩
      obtain ⟨e1, e2, e3⟩ := seen_at l k gt hgt
      obtain ⟨b1, o1, ha1, c10⟩ := (H1.out.keptNo HK.out) _ _ e1
      obtain ⟨b1', o1', ha1', c11⟩ := (H1.out.keptNo HK.out) _ _ e2
      obtain ⟨b1'', o1'', ha1'', c12⟩ := (H1.out.keptNo HK.out) _ _ e3
      obtain ⟨b2, o2, ha2, c20⟩ := (H2.out.keptNo HK.out) _ _ e1
      obtain ⟨b2', o2', ha2', c21⟩ := (H2.out.keptNo HK.out) _ _ e2
      obtain ⟨b2'', o2'', ha2'', c22⟩ := (H2.out.keptNo HK.out) _ _ e3
      subst ha1 ha2
      injection ha1' with ha1'
      injection ha2' with ha2'
      injection ha1'' with ha1''
      injection ha2'' with ha2''
      injection ha1' with i1 i2 i3
      injection ha2' with j1 j2 j3
      injection ha1'' with p1 p2 p3
      injection ha2'' with q1 q2 q3
      subst i1 i2 j1 j2 p1 p2 q1 q2
      obtain ⟨b, x, y⟩ := gt
      simp only at c10 c11 c12 c20 c21 c22
      rw [← Nat.add_assoc] at c11 c12 c21 c22
      clear hgt e1 e2 e3 i3 j3 p3 q3
      go_wp2_with fail
      go_region
      go_wp2_with fail
      go_roundg (n + 1 - (k + 1))
      case measure => omega
      case rel => exact ⟨k + 1, by go_num, by omega, by omega, HK.out.drew⟩
    · obtain rfl : k = n := by omega
      go_wp2_with fail
      go_ret
      exact ⟨rfl, HK.out⟩

/-! ### Reverse -/
/-- The first k and the last k have changed places. -/
def revK (l : List SeenT) : Nat → List SeenT
  | 0 => l
  | k + 1 => ((revK l k).set k ((revK l k).getD (l.length - 1 - k) (false, 0, 0))).set (l.length - 1 - k) ((revK l k).getD k (false, 0, 0))

theorem revK_len (l : List SeenT) : ∀ k, (revK l k).length = l.length
  | 0 => rfl
  | k + 1 => by simp [revK, revK_len l k]

theorem revK_get (l : List SeenT) : ∀ k, 2 * k ≤ l.length → ∀ t, t < l.length → (revK l k)[t]? = if t < k ∨ l.length - k ≤ t then l[l.length - 1 - t]? else l[t]?
  | 0, _, t, ht => by rw [if_neg (by omega)]; rfl
  | k + 1, hk, t, ht => by
    have ih := revK_get l k (by omega)
    have hl := revK_len l k
    unfold revK
    have g : ∀ t, t < l.length → (revK l k).getD t (false, 0, 0) = ((revK l k)[t]?).getD (false, 0, 0) := fun t _ => List.getD_eq_getElem?_getD
    rw [g _ (by omega), g _ (by omega), ih k (by omega), ih (l.length - 1 - k) (by omega), if_neg (by omega), if_neg (by omega)]
    rw [List.getElem?_set, List.getElem?_set]
    simp only [List.length_set, hl]
    by_cases h1 : l.length - 1 - k = t
    · rw [if_pos h1, if_pos (by omega), if_pos (by omega), ← h1, show l.length - 1 - (l.length - 1 - k) = k by omega, List.getElem?_eq_getElem (by omega : k < l.length)]
      rfl
    · rw [if_neg h1]
      by_cases h2 : k = t
      · rw [if_pos h2, if_pos (by omega), if_pos (by omega), ← h2, List.getElem?_eq_getElem (by omega : l.length - 1 - k < l.length)]
        rfl
      · rw [if_neg h2, ih t ht]
        by_cases h3 : t < k ∨ l.length - k ≤ t
        · rw [if_pos h3, if_pos (by omega)]
        · rw [if_neg h3, if_neg (by omega)]

theorem revK_all (l : List SeenT) : revK l (l.length / 2) = l.reverse := by
  apply List.ext_getElem?
  intro t
  by_cases ht : t < l.length
  · rw [revK_get l _ (by omega) t ht, List.getElem?_reverse ht]
    by_cases h : t < l.length / 2 ∨ l.length - l.length / 2 ≤ t
    · rw [if_pos h]
    · rw [if_neg h]
      congr 1
      omega
  · rw [List.getElem?_eq_none (by rw [revK_len]; omega), List.getElem?_eq_none (by simp; omega)]

end Go.Nl
