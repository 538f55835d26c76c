/- What an iterator over a heap tells: the numbers of each level, in order. The plain law: all of them are told. -/
import Derived.Test.YtgdjfgbipmajmaaQPeeked
namespace Go.Nl
open Go.Sort

/-- The heap behind so many takings. -/
def pops (lt : Int → Int → Bool) (t : Array Int) : Nat → Array Int
  | 0 => t
  | i + 1 => popped lt (pops lt t i)

theorem size_pops (lt : Int → Int → Bool) (t : Array Int) : ∀ i, (pops lt t i).size = t.size - i
  | 0 => rfl
  | i + 1 => by unfold pops; rw [size_popped, size_pops lt t i]; omega

theorem pops_spec {lt : Int → Int → Bool} (hS : SWO lt) {t : Array Int} (h : HeapOk lt t) : ∀ i, i ≤ t.size → HeapOk lt (pops lt t i) ∧ t.toList.Perm ((List.range i).map (fun j => (pops lt t j)[0]!) ++ (pops lt t i).toList)
  | 0, _ => ⟨h, by simp [pops]⟩
  | i + 1, hi => by
    obtain ⟨h1, h2⟩ := pops_spec hS h i (by omega)
    obtain ⟨p1, p2, _⟩ := popped_spec hS (pops lt t i) h1 (by rw [size_pops]; omega)
    refine ⟨p1, h2.trans ?_⟩
    rw [List.range_succ, List.map_append, List.append_assoc]
    exact List.Perm.append_left _ p2

/-- The numbers from place s up to e, put into a heap one by one. -/
def level (lt : Int → Int → Bool) (d : Array Int) (s e : Nat) : Array Int := ((d.toList.drop s).take (e - s)).foldl (push1 lt) #[]

theorem size_level (lt : Int → Int → Bool) (d : Array Int) (s e : Nat) (he : e ≤ d.size) : (level lt d s e).size = e - s := by
  unfold level
  rw [size_push1s]
  simp
  omega

theorem level_succ (lt : Int → Int → Bool) (d : Array Int) (s j : Nat) (h : s + j < d.size) : level lt d s (s + (j + 1)) = push1 lt (level lt d s (s + j)) d[s + j]! := by
  unfold level
  rw [show s + (j + 1) - s = j + 1 by omega, show s + j - s = j by omega, List.take_succ_eq_append_getElem (by simp; omega), List.foldl_append]
  simp only [List.foldl_cons, List.foldl_nil, List.getElem_drop]
  rw [getElem!_pos d (s + j) h]
  simp

theorem level_spec {lt : Int → Int → Bool} (hS : SWO lt) (d : Array Int) (s e : Nat) : HeapOk lt (level lt d s e) ∧ (level lt d s e).toList.Perm ((d.toList.drop s).take (e - s)) := by
  obtain ⟨h1, h2⟩ := push1s_spec hS ((d.toList.drop s).take (e - s)) #[] (heapOk_empty lt)
  exact ⟨h1, by rw [List.nil_append] at h2; exact h2⟩

/-- The level that a place lies on begins here. -/
def lvStart (k : Nat) : Nat := 2 ^ Nat.log2 (k + 1) - 1
/-- It ends here, or with the heap. -/
def lvEnd (n k : Nat) : Nat := min (2 ^ Nat.log2 (k + 1) - 1 + 2 ^ Nat.log2 (k + 1)) n

theorem lv_bounds (k : Nat) : lvStart k ≤ k ∧ k < 2 ^ Nat.log2 (k + 1) - 1 + 2 ^ Nat.log2 (k + 1) ∧ 1 ≤ 2 ^ Nat.log2 (k + 1) := by
  unfold lvStart
  have h1 := Nat.log2_self_le (n := k + 1) (by omega)
  have h2 := Nat.lt_log2_self (n := k + 1)
  have h3 := Nat.one_le_two_pow (n := Nat.log2 (k + 1))
  rw [Nat.pow_succ] at h2
  omega

/-- What is told at a place. -/
def valueAt (lt : Int → Int → Bool) (d : Array Int) (k : Nat) : Int := (pops lt (level lt d (lvStart k) (lvEnd d.size k)) (k - lvStart k))[0]!

theorem log2_of {b k : Nat} (h1 : 2 ^ b ≤ k) (h2 : k < 2 ^ (b + 1)) : Nat.log2 k = b := by
  have hk : k ≠ 0 := by have := Nat.one_le_two_pow (n := b); omega
  have a := (Nat.le_log2 hk).2 h1
  have c := (Nat.log2_lt hk).2 h2
  omega

/-- What is told of one level. -/
theorem values_level {lt : Int → Int → Bool} (hS : SWO lt) (d : Array Int) (b e : Nat) (he : e = min (2 ^ b - 1 + 2 ^ b) d.size) (_hs : 2 ^ b - 1 ≤ d.size) :
    ((List.range (e - (2 ^ b - 1))).map fun i => valueAt lt d (2 ^ b - 1 + i)).Perm ((d.toList.drop (2 ^ b - 1)).take (e - (2 ^ b - 1))) := by
  have hp := Nat.one_le_two_pow (n := b)
  have hz := size_level lt d (2 ^ b - 1) e (by omega)
  obtain ⟨l1, l2⟩ := level_spec hS d (2 ^ b - 1) e
  obtain ⟨_, p2⟩ := pops_spec hS l1 (e - (2 ^ b - 1)) (by omega)
  have hnil : (pops lt (level lt d (2 ^ b - 1) e) (e - (2 ^ b - 1))).toList = [] := by
    have := size_pops lt (level lt d (2 ^ b - 1) e) (e - (2 ^ b - 1))
    rw [hz, Nat.sub_self] at this
    exact List.eq_nil_of_length_eq_zero (by simpa using this)
  rw [hnil, List.append_nil] at p2
  have hm : (List.range (e - (2 ^ b - 1))).map (fun i => valueAt lt d (2 ^ b - 1 + i)) = (List.range (e - (2 ^ b - 1))).map (fun j => (pops lt (level lt d (2 ^ b - 1) e) j)[0]!) := by
    apply List.map_congr_left
    intro i hi
    have hi' : i < e - (2 ^ b - 1) := List.mem_range.1 hi
    have hlog : Nat.log2 (2 ^ b - 1 + i + 1) = b := log2_of (by omega) (by rw [Nat.pow_succ]; omega)
    unfold valueAt lvStart lvEnd
    rw [hlog, ← he, Nat.add_sub_cancel_left]
  rw [hm]
  exact p2.symm.trans l2

theorem values_upto {lt : Int → Int → Bool} (hS : SWO lt) (d : Array Int) : ∀ b, ((List.range (min (2 ^ b - 1) d.size)).map (valueAt lt d)).Perm (d.toList.take (2 ^ b - 1))
  | 0 => by simp
  | b + 1 => by
    have ih := values_upto hS d b
    have hp := Nat.one_le_two_pow (n := b)
    by_cases hs : 2 ^ b - 1 ≤ d.size
    · have hl := values_level hS d b (min (2 ^ b - 1 + 2 ^ b) d.size) rfl hs
      rw [Nat.min_eq_left hs] at ih
      obtain ⟨j, hj⟩ : ∃ j, min (2 ^ (b + 1) - 1) d.size = 2 ^ b - 1 + j := ⟨min (2 ^ (b + 1) - 1) d.size - (2 ^ b - 1), by rw [Nat.pow_succ]; omega⟩
      have hj2 : min (2 ^ b - 1 + 2 ^ b) d.size - (2 ^ b - 1) = j := by rw [Nat.pow_succ] at hj; omega
      rw [hj2] at hl
      rw [hj, List.range_add, List.map_append, List.map_map]
      have ht : d.toList.take (2 ^ (b + 1) - 1) = d.toList.take (2 ^ b - 1) ++ (d.toList.drop (2 ^ b - 1)).take j := by
        rw [← List.take_add, ← hj]
        by_cases hc : 2 ^ (b + 1) - 1 ≤ d.size
        · rw [Nat.min_eq_left hc]
        · rw [Nat.min_eq_right (by omega), List.take_of_length_le (by simp; omega), List.take_of_length_le (by simp)]
      rw [ht]
      exact ih.append hl
    · rw [Nat.min_eq_right (by omega), List.take_of_length_le (by simp; omega)] at ih
      rw [Nat.min_eq_right (by rw [Nat.pow_succ]; omega), List.take_of_length_le (by rw [Nat.pow_succ]; simp; omega)]
      exact ih

/-- All numbers are told. -/
theorem values_perm {lt : Int → Int → Bool} (hS : SWO lt) (d : Array Int) : ((List.range d.size).map (valueAt lt d)).Perm d.toList := by
  have h := values_upto hS d (d.size + 1)
  have hb : d.size + 1 < 2 ^ (d.size + 1) := Nat.lt_two_pow_self
  rw [Nat.min_eq_right (by omega), List.take_of_length_le (by simp; omega)] at h
  exact h

end Go.Nl
