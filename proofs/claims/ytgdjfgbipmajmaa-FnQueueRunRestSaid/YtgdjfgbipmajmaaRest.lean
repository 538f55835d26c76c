/- By rests: what is taken and what is left are all that was put in. The plain law. -/
import Derived.Test.YtgdjfgbipmajmaaSpecE
import Derived.Test.YtgdjfgbipmajmaaLevels
namespace Go.Nl
open Go.Sort

/-- All that was put in. -/
def puts : List Step → List Int
  | [] => []
  | s :: l => (if s.1 = 1 then s.2 else []) ++ puts l

theorem puts_append (a b : List Step) : puts (a ++ b) = puts a ++ puts b := by
  induction a with
  | nil => rfl
  | cons s l ih => simp [puts, ih]

theorem puts_snoc (ss : List Step) (k : Nat) (hk : k < ss.length) : puts (ss.take (k + 1)) = puts (ss.take k) ++ (if (ss.getD k (0, [])).1 = 1 then (ss.getD k (0, [])).2 else []) := by
  rw [List.take_succ_eq_append_getElem hk, puts_append, List.getD_eq_getElem?_getD, List.getElem?_eq_getElem hk]
  simp [puts]

theorem puts_len (b : Nat) : ∀ ss : List Step, (∀ s ∈ ss, s.2.length ≤ b) → (puts ss).length ≤ b * ss.length
  | [], _ => by simp [puts]
  | s :: l, h => by
    have ih := puts_len b l (fun s hs => h s (List.mem_cons_of_mem _ hs))
    have h1 := h s (by simp)
    simp only [puts, List.length_append, List.length_cons, Nat.mul_add, Nat.mul_one]
    split <;> simp <;> omega

/-- A run of steps, however numbers are put in. -/
def runP (lt : Int → Int → Bool) (put : Array Int → List Int → Array Int) (ss : List Step) : Array Int × List Got := ss.foldl (stepP lt put) (#[], [])

theorem runP_snoc (lt : Int → Int → Bool) (put : Array Int → List Int → Array Int) (ss : List Step) (k : Nat) (hk : k < ss.length) : runP lt put (ss.take (k + 1)) = stepP lt put (runP lt put (ss.take k)) (ss.getD k (0, [])) := by
  unfold runP
  rw [List.take_succ_eq_append_getElem hk, List.foldl_append, List.getD_eq_getElem?_getD, List.getElem?_eq_getElem hk]
  rfl

/-- What the steps have taken. -/
def tks (lt : Int → Int → Bool) (put : Array Int → List Int → Array Int) (ss : List Step) : Nat → List Int
  | 0 => []
  | k + 1 => tks lt put ss k ++ (if (ss.getD k (0, [])).1 = 2 ∧ (seen (runP lt put (ss.take k)).1).2 = true then [(seen (runP lt put (ss.take k)).1).1] else [])

theorem tks_len (lt : Int → Int → Bool) (put : Array Int → List Int → Array Int) (ss : List Step) : ∀ k, (tks lt put ss k).length ≤ k
  | 0 => by simp [tks]
  | k + 1 => by
    have := tks_len lt put ss k
    simp only [tks, List.length_append]
    split <;> simp <;> omega

theorem rest_all {lt : Int → Int → Bool} (hS : SWO lt) {put : Array Int → List Int → Array Int} (hp : PutOk lt put) (ss : List Step) (hc : ∀ s ∈ ss, s.1 ≠ 4) : ∀ k, k ≤ ss.length →
    HeapOk lt (runP lt put (ss.take k)).1 ∧ ((runP lt put (ss.take k)).1.toList ++ tks lt put ss k).Perm (puts (ss.take k))
  | 0, _ => ⟨heapOk_empty lt, by simp [runP, tks, puts]⟩
  | k + 1, hk => by
    obtain ⟨h1, h2⟩ := rest_all hS hp ss hc k (by omega)
    rw [runP_snoc lt put ss k (by omega), puts_snoc ss k (by omega)]
    have h4 : (ss.getD k (0, [])).1 ≠ 4 := by
      rw [List.getD_eq_getElem?_getD, List.getElem?_eq_getElem (by omega)]
      exact hc _ (List.getElem_mem _)
    unfold tks
    generalize ss.getD k (0, []) = s at *
    generalize runP lt put (ss.take k) = st at *
    unfold stepP
    by_cases o1 : s.1 = 1
    · obtain ⟨p1, p2⟩ := hp st.1 s.2 h1
      rw [if_pos o1, if_pos o1, if_neg (by omega), List.append_nil]
      refine ⟨p1, ((p2.append_right _).trans ?_).trans (h2.append_right s.2)⟩
      rw [List.append_assoc, List.append_assoc]
      exact List.Perm.append_left _ List.perm_append_comm
    rw [if_neg o1, if_neg o1, List.append_nil]
    by_cases o2 : s.1 = 2
    · rw [if_pos o2]
      unfold taken seen
      by_cases h0 : st.1.size = 0
      · rw [if_pos h0, if_pos h0, if_neg (by simp), List.append_nil]
        exact ⟨h1, h2⟩
      · rw [if_neg h0, if_neg h0, if_pos ⟨o2, rfl⟩]
        obtain ⟨p1, p2, _⟩ := popped_spec hS st.1 h1 (by omega)
        refine ⟨p1, List.Perm.trans ?_ h2⟩
        refine List.Perm.trans ?_ (p2.symm.append_right _)
        simp only [List.cons_append]
        rw [← List.append_assoc]
        exact List.perm_append_singleton _ _
    rw [if_neg o2, if_neg (show ¬ (s.1 = 2 ∧ (seen st.1).2 = true) from fun h => o2 h.1), List.append_nil]
    by_cases o3 : s.1 = 3
    · rw [if_pos o3]
      exact ⟨h1, h2⟩
    rw [if_neg o3, if_neg h4]
    exact ⟨h1, h2⟩

/-- What was told stays told. -/
theorem told_prefix (lt : Int → Int → Bool) (put : Array Int → List Int → Array Int) : ∀ (l : List Step) (st : Array Int × List Got), ∃ r, (l.foldl (stepP lt put) st).2 = st.2 ++ r
  | [], st => ⟨[], by simp⟩
  | s :: l, st => by
    obtain ⟨r, hr⟩ := told_prefix lt put l (stepP lt put st s)
    obtain ⟨q, hq⟩ : ∃ q, (stepP lt put st s).2 = st.2 ++ q := by
      unfold stepP
      (repeat' split) <;> first | exact ⟨[], (List.append_nil _).symm⟩ | exact ⟨_, rfl⟩
    refine ⟨q ++ r, ?_⟩
    rw [List.foldl_cons, hr, hq, List.append_assoc]

theorem told_at (lt : Int → Int → Bool) (put : Array Int → List Int → Array Int) (ss : List Step) (k : Nat) (hk : k < ss.length) (ho : (ss.getD k (0, [])).1 = 2 ∨ (ss.getD k (0, [])).1 = 3) :
    (runP lt put ss).2[(runP lt put (ss.take k)).2.length]? = some (seen (runP lt put (ss.take k)).1) ∧ (runP lt put (ss.take (k + 1))).2.length = (runP lt put (ss.take k)).2.length + 1 := by
  have h1 : (runP lt put (ss.take (k + 1))).2 = (runP lt put (ss.take k)).2 ++ [seen (runP lt put (ss.take k)).1] := by
    rw [runP_snoc lt put ss k hk]
    generalize ss.getD k (0, []) = s at *
    unfold stepP
    rcases ho with h | h
    · rw [if_neg (by omega), if_pos h]
    · rw [if_neg (by omega), if_neg (by omega), if_pos h]
  refine ⟨?_, by rw [h1]; simp⟩
  obtain ⟨r, hr⟩ := told_prefix lt put (ss.drop (k + 1)) (runP lt put (ss.take (k + 1)))
  have h2 : (ss.drop (k + 1)).foldl (stepP lt put) (runP lt put (ss.take (k + 1))) = runP lt put ss := by
    unfold runP
    rw [← List.foldl_append, List.take_append_drop]
  rw [h2, h1] at hr
  rw [hr, List.append_assoc, List.getElem?_append_right (Nat.le_refl _), Nat.sub_self]
  rfl

theorem told_not (lt : Int → Int → Bool) (put : Array Int → List Int → Array Int) (ss : List Step) (k : Nat) (hk : k < ss.length) (h2 : (ss.getD k (0, [])).1 ≠ 2) (h3 : (ss.getD k (0, [])).1 ≠ 3) :
    (runP lt put (ss.take (k + 1))).2.length = (runP lt put (ss.take k)).2.length ∧ tks lt put ss (k + 1) = tks lt put ss k := by
  refine ⟨?_, ?_⟩
  · rw [runP_snoc lt put ss k hk]
    unfold stepP
    rw [if_neg h2, if_neg h3]
    (repeat' split) <;> rfl
  · rw [tks, if_neg (fun h => h2 h.1), List.append_nil]

theorem allLike_len {kind m : Int} {a b : List Got} (h : AllLike kind m a b) : a.length = b.length := by
  induction h with
  | nil => rfl
  | snoc _ _ ih => simp [ih]

theorem allLike_at {kind m : Int} {a b : List Got} (h : AllLike kind m a b) : ∀ (j : Nat) (x : Got), a[j]? = some x → ∃ y, b[j]? = some y ∧ GotLike kind m x y := by
  induction h with
  | nil => intro j x hx; simp at hx
  | @snoc a b u v hab huv ih =>
    intro j x hx
    have hl := allLike_len hab
    by_cases hj : j < a.length
    · rw [List.getElem?_append_left hj] at hx
      obtain ⟨y, hy, hg⟩ := ih j x hx
      exact ⟨y, by rw [List.getElem?_append_left (by omega)]; exact hy, hg⟩
    · rw [List.getElem?_append_right (by omega)] at hx
      have hj0 : j - a.length = 0 := by
        by_cases h0 : j - a.length = 0
        · exact h0
        · rw [List.getElem?_eq_none (by simp; omega)] at hx; cases hx
      rw [hj0] at hx
      simp at hx
      subst hx
      exact ⟨v, by rw [List.getElem?_append_right (by omega), show j - b.length = 0 by omega]; rfl, huv⟩

end Go.Nl
