/- Plain laws of the binary heap over an array of numbers: no program in sight. -/
import Derived.Sort.LotA
import Derived.Sort.LotB
namespace Go.Nl
open Go.Sort

/-- The order turned round. -/
def flp (lt : Int → Int → Bool) : Int → Int → Bool := fun x y => lt y x

theorem flp_swo {lt : Int → Int → Bool} (h : SWO lt) : SWO (flp lt) where
  irrefl x := h.irrefl x
  trans x y z h1 h2 := h.trans z y x h2 h1
  ntrans x y z h1 h2 := h.ntrans z y x h2 h1

/-- No child is ahead of its parent. -/
def HeapOk (lt : Int → Int → Bool) (d : Array Int) : Prop :=
  ∀ i k, (k = 2 * i + 1 ∨ k = 2 * i + 2) → k < d.size → lt d[k]! d[i]! = false

theorem heapOk_iff (lt : Int → Int → Bool) (d : Array Int) : HeapOk lt d ↔ ∀ i, i < d.size → Ok (flp lt) 0 d.size d i := by
  unfold HeapOk Ok flp
  constructor
  · intro h i _ k hk hkh
    rw [Nat.zero_add, Nat.zero_add]; exact h i k hk hkh
  · intro h i k hk hkh
    have := h i (by omega) k hk hkh
    rwa [Nat.zero_add, Nat.zero_add] at this

/-- The bubbling up, from place i. -/
def up (lt : Int → Int → Bool) : Nat → Nat → Array Int → Array Int
  | 0, _, d => d
  | f + 1, i, d => if i = 0 then d else if lt d[i]! d[(i - 1) / 2]! then up lt f ((i - 1) / 2) (swp d i ((i - 1) / 2)) else d

theorem size_up (lt : Int → Int → Bool) : ∀ (f i : Nat) (d : Array Int), (up lt f i d).size = d.size
  | 0, _, _ => rfl
  | f + 1, i, d => by
    unfold up
    split
    · rfl
    · split
      · rw [size_up lt f, size_swp]
      · rfl

structure UpInv (lt : Int → Int → Bool) (d : Array Int) (h : Nat) : Prop where
  rest : ∀ i k, (k = 2 * i + 1 ∨ k = 2 * i + 2) → k < d.size → k ≠ h → lt d[k]! d[i]! = false
  over : ∀ c, (c = 2 * h + 1 ∨ c = 2 * h + 2) → c < d.size → 0 < h → lt d[c]! d[(h - 1) / 2]! = false

theorem upInv_step {lt : Int → Int → Bool} (hS : SWO lt) {d : Array Int} {h p : Nat} (hI : UpInv lt d h) (hh : h < d.size) (h0 : 0 < h) (hp : p = (h - 1) / 2) (hl : lt d[h]! d[p]! = true) : UpInv lt (swp d h p) p := by
  have g1 : (swp d h p)[h]! = d[p]! := swp_left d h p hh (by omega)
  have g2 : (swp d h p)[p]! = d[h]! := swp_right d h p (by omega)
  have gO : ∀ k, k ≠ h → k ≠ p → (swp d h p)[k]! = d[k]! := fun k a b => swp_other d h p k a b
  constructor
  · intro i k hk hks hkp
    rw [size_swp] at hks
    by_cases hkh : k = h
    · subst hkh
      obtain rfl : i = p := by omega
      rw [g1, g2]; exact hS.asym hl
    · rw [gO k hkh hkp]
      by_cases hip : i = p
      · subst hip
        rw [g2]
        have hkk := hI.rest i k hk hks hkh
        cases hc : lt d[k]! d[h]! with
        | false => rfl
        | true => have := hS.trans _ _ _ hc hl; rw [hkk] at this; cases this
      · by_cases hih : i = h
        · subst hih
          rw [g1, hp]; exact hI.over k hk hks h0
        · rw [gO i hih hip]; exact hI.rest i k hk hks hkh
  · intro c hc hcs hp0
    rw [size_swp] at hcs
    rw [gO ((p - 1) / 2) (by omega) (by omega)]
    have hpp : lt d[p]! d[(p - 1) / 2]! = false := hI.rest ((p - 1) / 2) p (by omega) (by omega) (by omega)
    by_cases hch : c = h
    · subst hch; rw [g1]; exact hpp
    · rw [gO c hch (by omega)]
      exact hS.ntrans _ _ _ (hI.rest p c hc hcs hch) hpp

theorem up_spec {lt : Int → Int → Bool} (hS : SWO lt) : ∀ (f i : Nat) (d : Array Int), i ≤ f → i < d.size → UpInv lt d i →
    HeapOk lt (up lt f i d) ∧ PermIn 0 d.size d (up lt f i d)
  | 0, i, d, hf, hi, hI => by
    obtain rfl : i = 0 := by omega
    exact ⟨fun a k hk hks => hI.rest a k hk hks (by omega), permIn_refl _ _ _⟩
  | f + 1, i, d, hf, hi, hI => by
    unfold up
    by_cases h0 : i = 0
    · rw [if_pos h0]
      exact ⟨fun a k hk hks => hI.rest a k hk hks (by omega), permIn_refl _ _ _⟩
    · rw [if_neg h0]
      by_cases hl : lt d[i]! d[(i - 1) / 2]! = true
      · rw [if_pos hl]
        obtain ⟨r1, r2⟩ := up_spec hS f ((i - 1) / 2) (swp d i ((i - 1) / 2)) (by omega) (by rw [size_swp]; omega) (upInv_step hS hI hi (by omega) rfl hl)
        rw [size_swp] at r2
        exact ⟨r1, permIn_trans _ _ _ _ _ (swp_permIn d 0 d.size i ((i - 1) / 2) (by omega) hi (by omega) (by omega) (Nat.le_refl _)) r2⟩
      · rw [if_neg hl]
        refine ⟨fun a k hk hks => ?_, permIn_refl _ _ _⟩
        by_cases hki : k = i
        · subst hki
          obtain rfl : a = (k - 1) / 2 := by omega
          simpa using hl
        · exact hI.rest a k hk hks hki

/-- The heap with one more. -/
def push1 (lt : Int → Int → Bool) (d : Array Int) (x : Int) : Array Int := up lt d.size d.size (d.push x)

theorem permIn_all_toList {d d' : Array Int} (h : PermIn 0 d.size d d') : d'.toList.Perm d.toList := by
  have h1 := h.2.2
  rw [show d.size = d'.size from h.1.symm] at h1
  have e1 : d'.extract 0 d'.size = d' := by simp
  rw [e1, h.1] at h1
  have e2 : d.extract 0 d.size = d := by simp
  rwa [e2] at h1

theorem push_get_lt (d : Array Int) (x : Int) (k : Nat) (h : k < d.size) : (d.push x)[k]! = d[k]! := by
  rw [getElem!_pos _ k (by simp; omega), getElem!_pos d k h, Array.getElem_push_lt h]

theorem push1_spec {lt : Int → Int → Bool} (hS : SWO lt) (d : Array Int) (x : Int) (hd : HeapOk lt d) :
    HeapOk lt (push1 lt d x) ∧ (push1 lt d x).toList.Perm (x :: d.toList) ∧ (push1 lt d x).size = d.size + 1 := by
  have hI : UpInv lt (d.push x) d.size := by
    constructor
    · intro i k hk hks hkn
      rw [Array.size_push] at hks
      rw [push_get_lt d x k (by omega), push_get_lt d x i (by omega)]
      exact hd i k hk (by omega)
    · intro c hc hcs _
      rw [Array.size_push] at hcs
      omega
  obtain ⟨r1, r2⟩ := up_spec hS d.size d.size (d.push x) (Nat.le_refl _) (by simp) hI
  refine ⟨r1, ?_, by unfold push1; rw [size_up]; simp⟩
  refine (permIn_all_toList r2).trans ?_
  rw [Array.toList_push]
  exact List.perm_append_singleton x d.toList

/-- The heap with several more: they are put at the end, and all is heaped anew. -/
def pushN (lt : Int → Int → Bool) (d : Array Int) (xs : List Int) : Array Int :=
  heapBuild (flp lt) (d.size + xs.length) 0 ((d.size + xs.length) / 2 + 2) (d ++ xs.toArray)

theorem pushN_spec {lt : Int → Int → Bool} (hS : SWO lt) (d : Array Int) (xs : List Int) :
    HeapOk lt (pushN lt d xs) ∧ (pushN lt d xs).toList.Perm (d.toList ++ xs) ∧ (pushN lt d xs).size = d.size + xs.length := by
  have hsz : (d ++ xs.toArray).size = d.size + xs.length := by simp
  obtain ⟨r1, r2⟩ := build (flp_swo hS) (d.size + xs.length) 0 ((d.size + xs.length) / 2 + 2) (d ++ xs.toArray) (by omega) (fun i h1 h2 k hk hkh => by omega)
  rw [Nat.zero_add] at r2
  have hs : (pushN lt d xs).size = d.size + xs.length := by unfold pushN; rw [r2.1, hsz]
  refine ⟨(heapOk_iff _ _).2 (by rw [hs]; exact r1), ?_, hs⟩
  have p := permIn_all_toList (d := d ++ xs.toArray) (d' := pushN lt d xs) (by rw [hsz]; exact r2)
  refine p.trans ?_
  simp

/-- The heap without its first. -/
def popped (lt : Int → Int → Bool) (d : Array Int) : Array Int :=
  siftDown (flp lt) (d.size - 1) 0 0 ((swp d 0 (d.size - 1)).pop)

theorem pop_get (d : Array Int) (k : Nat) (h : k < d.size - 1) : d.pop[k]! = d[k]! := by
  rw [getElem!_pos _ k (by simp; omega), getElem!_pos d k (by omega), Array.getElem_pop]

theorem toList_pop_perm (d : Array Int) (h : 0 < d.size) : d.toList.Perm (d[d.size - 1]! :: d.pop.toList) := by
  have e : d = d.pop.push d[d.size - 1]! := by
    apply Array.ext
    · simp; omega
    · intro i h1 h2
      simp only [Array.getElem_push, Array.size_pop, Array.getElem_pop]
      split
      · rfl
      · have : i = d.size - 1 := by omega
        subst this
        rw [getElem!_pos d (d.size - 1) h1]
  have e2 : d.toList = d.pop.toList ++ [d[d.size - 1]!] := by
    conv => lhs; rw [e]
    rw [Array.toList_push]
  rw [e2]
  exact List.perm_append_singleton _ _

theorem popped_spec {lt : Int → Int → Bool} (hS : SWO lt) (d : Array Int) (hd : HeapOk lt d) (h : 0 < d.size) :
    HeapOk lt (popped lt d) ∧ d.toList.Perm (d[0]! :: (popped lt d).toList) ∧ (popped lt d).size = d.size - 1 := by
  have hsz : ((swp d 0 (d.size - 1)).pop).size = d.size - 1 := by simp [size_swp]
  have g : ∀ j, j ≠ 0 → j < d.size - 1 → ((swp d 0 (d.size - 1)).pop)[j]! = d[j]! := fun j h1 h2 => by
    rw [pop_get _ j (by rw [size_swp]; exact h2), swp_other d _ _ _ h1 (by omega)]
  obtain ⟨r1, r2⟩ := sift (flp_swo hS) (d.size - 1) 0 0 (d.size - 1) 0 ((swp d 0 (d.size - 1)).pop) (by omega) (by omega) (Nat.le_refl _)
    (fun i _ h2 h3 k hk hkh => by
      rw [Nat.zero_add, Nat.zero_add, g i h3 h2, g k (by omega) hkh]
      exact hd i k hk (by omega))
    (fun p _ hp => by omega)
  rw [Nat.zero_add] at r2
  have hs : (popped lt d).size = d.size - 1 := by unfold popped; rw [r2.1, hsz]
  refine ⟨(heapOk_iff _ _).2 (by rw [hs]; exact fun i hi => r1 i (Nat.zero_le _) hi), ?_, hs⟩
  have p1 := permIn_all_toList (d := (swp d 0 (d.size - 1)).pop) (d' := popped lt d) (by rw [hsz]; exact r2)
  have p2 := toList_pop_perm (swp d 0 (d.size - 1)) (by rw [size_swp]; exact h)
  rw [size_swp, swp_right d 0 (d.size - 1) (by omega)] at p2
  have p3 := permIn_all_toList (swp_permIn d 0 d.size 0 (d.size - 1) (Nat.le_refl _) h (by omega) (by omega) (Nat.le_refl _))
  refine p3.symm.trans (p2.trans (List.Perm.cons _ ?_))
  exact p1.symm

theorem root_first {lt : Int → Int → Bool} (hS : SWO lt) (d : Array Int) (hd : HeapOk lt d) (i : Nat) (h : i < d.size) : lt d[i]! d[0]! = false := by
  have := root_max (flp_swo hS) ((heapOk_iff lt d).1 hd) i i (Nat.le_refl _) h
  rwa [Nat.zero_add, Nat.zero_add] at this

theorem root_first_mem {lt : Int → Int → Bool} (hS : SWO lt) (d : Array Int) (hd : HeapOk lt d) (x : Int) (h : x ∈ d.toList) : lt x d[0]! = false := by
  obtain ⟨i, hi, e⟩ := List.getElem_of_mem h
  have hi' : i < d.size := by simpa using hi
  have := root_first hS d hd i hi'
  rw [getElem!_pos d i hi'] at this
  have e' : d[i] = x := by simpa using e
  rwa [e'] at this

theorem heapOk_empty (lt : Int → Int → Bool) : HeapOk lt #[] := fun i k _ h => by simp at h

end Go.Nl
