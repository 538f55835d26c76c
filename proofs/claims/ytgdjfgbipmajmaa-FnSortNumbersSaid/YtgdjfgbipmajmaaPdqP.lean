/- The plain law of pdqsort: its loop's invariant, the partitions, partialInsertionSort's steps. -/
import Derived.Sort.LotA
import Derived.Sort.LotB
import Derived.Sort.LotC
namespace Go.Nl
open Go.Sort

section
variable {lt : Int → Int → Bool}

/-- Of [a, b) all pairs are in order but those that lie in [p, q) both. -/
def Out (lt : Int → Int → Bool) (a p q b : Nat) (d : Array Int) : Prop := ∀ i j, a ≤ i → i < j → j < b → i < p ∨ q ≤ j → lt d[j]! d[i]! = false

theorem Out.start (a b : Nat) (d : Array Int) : Out lt a a b b d := fun i j h1 h2 h3 h4 => by omega

theorem Out.perm {a p q b : Nat} {d d' : Array Int} (h : Out lt a p q b d) (hp : PermIn p q d d') (hap : a ≤ p) (hqb : q ≤ b) (hb : b ≤ d.size) : Out lt a p q b d' := by
  intro i j h1 h2 h3 h4
  have o : ∀ t, t < p ∨ q ≤ t → d'[t]! = d[t]! := hp.2.1
  rcases h4 with h4 | h4
  · rw [o i (Or.inl h4)]
    by_cases hj : j < p ∨ q ≤ j
    · rw [o j hj]; exact h i j h1 h2 h3 (Or.inl h4)
    · exact permIn_all d d' p q (fun x => lt x d[i]! = false) (by omega) hp (fun k hk hk' => h i k h1 (by omega) (by omega) (Or.inl h4)) j (by omega) (by omega)
  · rw [o j (Or.inr h4)]
    by_cases hi : i < p ∨ q ≤ i
    · rw [o i hi]; exact h i j h1 h2 h3 (Or.inr h4)
    · exact permIn_all d d' p q (fun x => lt d[j]! x = false) (by omega) hp (fun k hk hk' => h k j (by omega) (by omega) h3 (Or.inr h4)) i (by omega) (by omega)

theorem Out.done {a p q b : Nat} {d : Array Int} (h : Out lt a p q b d) (hs : SortedIn lt p q d) : SortedIn lt a b d := by
  intro i j h1 h2 h3
  by_cases hc : i < p ∨ q ≤ j
  · exact h i j h1 h2 h3 hc
  · exact hs i j (by omega) h2 (by omega)

/-- Nothing in [p, q) is ahead of the one ahead of it. -/
def Under (lt : Int → Int → Bool) (p q : Nat) (d : Array Int) : Prop := p = 0 ∨ ∀ i, p ≤ i → i < q → lt d[i]! d[p - 1]! = false

theorem Under.perm {p q q' : Nat} {d d' : Array Int} (h : Under lt p q d) (hp : PermIn p q d d') (hq : q ≤ d.size) (hq' : q' ≤ q) : Under lt p q' d' := by
  rcases h with h | h
  · exact Or.inl h
  · by_cases h0 : p = 0
    · exact Or.inl h0
    · right
      rw [hp.2.1 (p - 1) (Or.inl (by omega))]
      intro i h1 h2
      exact permIn_all d d' p q (fun x => lt x d[p - 1]! = false) hq hp h i h1 (by omega)

/-- Behind a partition about m: what is left of it is less, what is right of it is not. -/
theorem Out.left {a p q b m : Nat} {d : Array Int} (hS : SWO lt) (h : Out lt a p q b d) (_hpm : p ≤ m) (_hmq : m < q) (hl : ∀ i, p ≤ i → i < m → lt d[i]! d[m]! = true) (hr : ∀ i, m < i → i < q → lt d[i]! d[m]! = false) (hs : SortedIn lt p m d) : Out lt a (m + 1) q b d := by
  intro i j h1 h2 h3 h4
  by_cases hc : i < p ∨ q ≤ j
  · exact h i j h1 h2 h3 hc
  · have hi : i ≤ m := by omega
    by_cases hjm : j < m
    · exact hs i j (by omega) h2 hjm
    · by_cases hje : j = m
      · subst hje
        exact hS.asymmA (hl i (by omega) h2)
      · by_cases him : i = m
        · subst him; exact hr j h2 (by omega)
        · exact hS.ntrans _ _ _ (hr j (by omega) (by omega)) (hS.asymmA (hl i (by omega) (by omega)))

theorem Out.right {a p q b m : Nat} {d : Array Int} (hS : SWO lt) (h : Out lt a p q b d) (_hpm : p ≤ m) (_hmq : m < q) (hl : ∀ i, p ≤ i → i < m → lt d[i]! d[m]! = true) (hr : ∀ i, m < i → i < q → lt d[i]! d[m]! = false) (hs : SortedIn lt (m + 1) q d) : Out lt a p m b d := by
  intro i j h1 h2 h3 h4
  by_cases hc : i < p ∨ q ≤ j
  · exact h i j h1 h2 h3 hc
  · have hj : m ≤ j := by omega
    by_cases him : m < i
    · exact hs i j (by omega) h2 (by omega)
    · by_cases hie : i = m
      · subst hie; exact hr j h2 (by omega)
      · by_cases hjm : j = m
        · subst hjm; exact hS.asymmA (hl i (by omega) h2)
        · exact hS.ntrans _ _ _ (hr j (by omega) (by omega)) (hS.asymmA (hl i (by omega) (by omega)))

/-- Behind a partition of those that are the same as x from those that are behind it. -/
theorem Out.same {a p q b m : Nat} {d : Array Int} {x : Int} (hS : SWO lt) (h : Out lt a p q b d) (_hpm : p < m) (_hmq : m ≤ q) (hx : ∀ i, p ≤ i → i < q → lt d[i]! x = false) (hl : ∀ i, p ≤ i → i < m → lt x d[i]! = false) :
    Out lt a m q b d ∧ Under lt m q d := by
  constructor
  · intro i j h1 h2 h3 h4
    by_cases hc : i < p ∨ q ≤ j
    · exact h i j h1 h2 h3 hc
    · exact hS.ntrans _ _ _ (hx j (by omega) (by omega)) (hl i (by omega) (by omega))
  · right
    intro i h1 h2
    exact hS.ntrans _ _ _ (hx i (by omega) h2) (hl (m - 1) (by omega) (by omega))
end


section
/-- What the partition's loop keeps. -/
structure PI (p : Int → Bool) (a b i j : Nat) (x : Int) (d D : Array Int) : Prop where
  ai : a < i
  ij : i ≤ j + 1
  jb : j < b
  bs : b ≤ d.size
  piv : D[a]! = x
  perm : PermIn a b d D
  left : ∀ t, a < t → t < i → p D[t]! = true
  right : ∀ t, j < t → t < b → p D[t]! = false

variable {p : Int → Bool} {a b i j : Nat} {x : Int} {d D : Array Int}

theorem PI.start {pv : Nat} (hap : a ≤ pv) (hpb : pv < b) (hb : b ≤ d.size) : PI p a b (a + 1) (b - 1) d[pv]! d (swp d a pv) :=
  ⟨by omega, by omega, by omega, hb, by
    by_cases e : a = pv
    · subst e; exact swp_right d a a (by omega)
    · exact swp_left d a pv (by omega) e, swp_permIn d a b a pv (Nat.le_refl _) (by omega) hap hpb hb, fun t h1 h2 => by omega, fun t h1 h2 => by omega⟩

theorem PI.up (h : PI p a b i j x d D) (hij : i ≤ j) (hp : p D[i]! = true) : PI p a b (i + 1) j x d D :=
  ⟨by have := h.ai; omega, by omega, h.jb, h.bs, h.piv, h.perm, fun t h1 h2 => by
    by_cases e : t = i
    · rw [e]; exact hp
    · exact h.left t h1 (by omega), h.right⟩

theorem PI.down (h : PI p a b i (j + 1) x d D) (hij : i ≤ j + 1) (hp : p D[j + 1]! = false) : PI p a b i j x d D :=
  ⟨h.ai, by omega, by have := h.jb; omega, h.bs, h.piv, h.perm, h.left, fun t h1 h2 => by
    by_cases e : t = j + 1
    · rw [e]; exact hp
    · exact h.right t (by omega) h2⟩

theorem PI.turn (h : PI p a b i (j + 1) x d D) (hij : i ≤ j + 1) (h1 : p D[i]! = false) (h2 : p D[j + 1]! = true) : i < j + 1 ∧ PI p a b (i + 1) j x d (swp D i (j + 1)) := by
  have hai := h.ai; have hjb := h.jb; have hbs := h.bs
  have hs : D.size = d.size := h.perm.1
  have hne : i ≠ j + 1 := fun e => by rw [← e, h1] at h2; cases h2
  refine ⟨by omega, by omega, by omega, by omega, hbs, ?_, ?_, ?_, ?_⟩
  · rw [swp_other D i (j + 1) a (by omega) (by omega)]; exact h.piv
  · exact permIn_trans _ _ _ _ _ h.perm (swp_permIn D a b i (j + 1) (by omega) (by omega) (by omega) (by omega) (by omega))
  · intro t k1 k2
    by_cases e : t = i
    · rw [e, swp_left D i (j + 1) (by omega) hne]; exact h2
    · rw [swp_other D i (j + 1) t e (by omega)]; exact h.left t k1 (by omega)
  · intro t k1 k2
    by_cases e : t = j + 1
    · rw [e, swp_right D i (j + 1) (by omega)]; exact h1
    · rw [swp_other D i (j + 1) t (by omega) e]; exact h.right t (by omega) k2

/-- What the partition leaves. -/
structure Parted (p : Int → Bool) (a b m : Nat) (x : Int) (d R : Array Int) : Prop where
  lo : a ≤ m
  hi : m < b
  perm : PermIn a b d R
  at' : R[m]! = x
  left : ∀ t, a ≤ t → t < m → p R[t]! = true
  right : ∀ t, m < t → t < b → p R[t]! = false

theorem PI.done (h : PI p a b i j x d D) (hij : ¬ i ≤ j) : Parted p a b j x d (swp D j a) := by
  have hai := h.ai; have hjb := h.jb; have hbs := h.bs; have hij' := h.ij
  have hs : D.size = d.size := h.perm.1
  refine ⟨by omega, by omega, ?_, ?_, ?_, ?_⟩
  · exact permIn_trans _ _ _ _ _ h.perm (swp_permIn D a b j a (by omega) (by omega) (Nat.le_refl _) (by omega) (by omega))
  · by_cases e : j = a
    · rw [e, swp_right D a a (by omega)]; exact h.piv
    · rw [swp_left D j a (by omega) e]; exact h.piv
  · intro t h1 h2
    by_cases e : t = a
    · rw [e, swp_right D j a (by omega)]; exact h.left j (by omega) (by omega)
    · rw [swp_other D j a t (by omega) e]; exact h.left t (by omega) (by omega)
  · intro t h1 h2
    rw [swp_other D j a t (by omega) (by omega)]; exact h.right t h1 h2

/-- What partitionEqual leaves. -/
structure PartedEq (p : Int → Bool) (a b m : Nat) (x : Int) (d R : Array Int) : Prop where
  at' : R[a]! = x
  lo : a < m
  hi : m ≤ b
  perm : PermIn a b d R
  left : ∀ t, a < t → t < m → p R[t]! = true
  right : ∀ t, m ≤ t → t < b → p R[t]! = false

theorem PI.doneEq (h : PI p a b i j x d D) (hij : ¬ i ≤ j) : PartedEq p a b i x d D :=
  ⟨h.piv, h.ai, by have := h.ij; have := h.jb; omega, h.perm, h.left, fun t h1 h2 => h.right t (by omega) h2⟩
end


section
variable {α : Type} [Inhabited α] (lt : α → α → Bool)
theorem scanSorted_goes (d : Array α) (b i : Nat) (h : i < b) (hl : lt d[i]! d[i - 1]! = false) : scanSorted lt d b i = scanSorted lt d b (i + 1) := by
  rw [scanSorted]; simp [h, hl]
theorem scanSorted_stops (d : Array α) (b i : Nat) (h : ¬ i < b ∨ lt d[i]! d[i - 1]! = true) : scanSorted lt d b i = i := by
  rw [scanSorted]
  rcases h with h | h
  · simp [h]
  · simp [h]
theorem shiftDown_goes (j : Nat) (d : Array α) (hl : lt d[j + 1]! d[j]! = true) : shiftDown lt (j + 1) d = shiftDown lt j (swp d (j + 1) j) := by
  rw [shiftDown]
  simp [hl]
theorem shiftDown_stops (j : Nat) (d : Array α) (hl : lt d[j + 1]! d[j]! = false) : shiftDown lt (j + 1) d = d := by
  rw [shiftDown]
  simp [hl]
theorem shiftUp_goes (b j : Nat) (d : Array α) (hj : j < b) (hl : lt d[j]! d[j - 1]! = true) : shiftUp lt b j d = shiftUp lt b (j + 1) (swp d j (j - 1)) := by
  rw [shiftUp]; simp [hj, hl]
theorem shiftUp_stops (b j : Nat) (d : Array α) (h : ¬ j < b ∨ lt d[j]! d[j - 1]! = false) : shiftUp lt b j d = d := by
  rw [shiftUp]
  rcases h with h | h
  · simp [h]
  · by_cases hj : j < b <;> simp [hj, h]
theorem pins_true (a b s i : Nat) (d : Array α) (hs : s < 5) (hK : scanSorted lt d b i = b) : partialIns lt a b (5 - s) i d = (d, true) := by
  rw [show 5 - s = (4 - s) + 1 by omega, partialIns_succ, if_pos hK]
theorem pins_short (a b s i : Nat) (d : Array α) (hs : s < 5) (hK : scanSorted lt d b i ≠ b) (h50 : b - a < 50) : partialIns lt a b (5 - s) i d = (d, false) := by
  rw [show 5 - s = (4 - s) + 1 by omega, partialIns_succ, if_neg hK, if_pos h50]
theorem pins_go (a b s i k : Nat) (d : Array α) (hs : s < 5) (hK : scanSorted lt d b i = k) (hkb : k ≠ b) (h50 : ¬ b - a < 50) :
    partialIns lt a b (5 - s) i d = partialIns lt a b (5 - (s + 1)) k (fixUp lt b k (fixDown lt a k (swp d k (k - 1)))) := by
  rw [show 5 - s = (4 - s) + 1 by omega, partialIns_succ, hK, if_neg hkb, if_neg h50, show 5 - (s + 1) = 4 - s by omega]
end

/-- What pdqsort's loop keeps: what is left is [p, q). -/
structure PQ (lt : Int → Int → Bool) (a b : Nat) (d : Array Int) (p q : Nat) (D : Array Int) : Prop where
  ap : a ≤ p
  pq : p ≤ q
  qb : q ≤ b
  bs : b ≤ d.size
  perm : PermIn a b d D
  out : Out lt a p q b D
  under : Under lt p q D

section
variable {lt : Int → Int → Bool} {a b p q : Nat} {d D : Array Int}

theorem PQ.size (h : PQ lt a b d p q D) : D.size = d.size := h.perm.1

theorem PQ.start (hab : a ≤ b) (hb : b ≤ d.size) (h : Under lt a b d) : PQ lt a b d a b d :=
  ⟨Nat.le_refl _, hab, Nat.le_refl _, hb, permIn_refl _ _ _, Out.start _ _ _, h⟩

theorem PQ.step {D' : Array Int} (h : PQ lt a b d p q D) (hp : PermIn p q D D') : PQ lt a b d p q D' :=
  ⟨h.ap, h.pq, h.qb, h.bs, permIn_trans _ _ _ _ _ h.perm (permIn_mono _ _ _ _ _ _ h.ap h.qb (by rw [h.size]; exact h.bs) hp),
    h.out.perm hp h.ap h.qb (by rw [h.size]; exact h.bs), h.under.perm hp (by rw [h.size]; exact Nat.le_trans h.qb h.bs) (Nat.le_refl _)⟩

theorem PQ.fin (h : PQ lt a b d p q D) (hs : SortedIn lt p q D) : PermIn a b d D ∧ SortedIn lt a b D := ⟨h.perm, h.out.done hs⟩

/-- What is the same as the one ahead has been put apart. -/
theorem PQ.same {m : Nat} {x : Int} {R : Array Int} (hS : SWO lt) (h : PQ lt a b d p q D) (hp0 : 0 < p) (hl : lt D[p - 1]! x = false)
    (hP : PartedEq (fun y => !lt x y) p q m x D R) : PQ lt a b d m q R := by
  have h' := h.step hP.perm
  have hR : ∀ i, p ≤ i → i < q → lt R[i]! x = false := by
    intro i k1 k2
    rcases h'.under with h0 | hu
    · omega
    · refine hS.ntrans _ _ _ (hu i k1 k2) ?_
      rw [hP.perm.2.1 (p - 1) (Or.inl (by omega))]; exact hl
  have hs := Out.same hS h'.out hP.lo hP.hi hR (fun i k1 k2 => by
    by_cases e : i = p
    · rw [e, hP.at']; exact hS.irrefl _
    · have := hP.left i (by omega) k2
      simpa using this)
  exact ⟨by have := h.ap; have := hP.lo; omega, hP.hi, h.qb, h.bs, h'.perm, hs.1, hs.2⟩

theorem PQ.part {m : Nat} {x : Int} {R : Array Int} (hS : SWO lt) (h : PQ lt a b d p q D) (hP : Parted (fun y => lt y x) p q m x D R) :
    R.size = d.size ∧ (Under lt p m R ∧ ∀ R', PermIn p m R R' → SortedIn lt p m R' → PQ lt a b d (m + 1) q R') ∧ (Under lt (m + 1) q R ∧ ∀ R', PermIn (m + 1) q R R' → SortedIn lt (m + 1) q R' → PQ lt a b d p m R') := by
  have h' := h.step hP.perm
  have hsz := h'.size
  have hqb := h.qb; have hbs := h.bs; have hap := h.ap
  have hlo := hP.lo; have hhi := hP.hi
  have hl : ∀ i, p ≤ i → i < m → lt R[i]! R[m]! = true := fun i k1 k2 => by rw [hP.at']; exact hP.left i k1 k2
  have hr : ∀ i, m < i → i < q → lt R[i]! R[m]! = false := fun i k1 k2 => by rw [hP.at']; exact hP.right i k1 k2
  refine ⟨hsz, ⟨h'.under.perm (permIn_refl _ _ _) (by omega) (by omega), ?_⟩, ⟨Or.inr (fun i k1 k2 => by rw [Nat.add_sub_cancel]; exact hr i (by omega) k2), ?_⟩⟩
  · intro R' hp hs
    have hpq : PermIn p q R R' := permIn_mono _ _ _ _ _ _ (Nat.le_refl _) (by omega) (by omega) hp
    have h2 := h'.step hpq
    have em : R'[m]! = R[m]! := hp.2.1 m (Or.inr (Nat.le_refl _))
    have hl' : ∀ i, p ≤ i → i < m → lt R'[i]! R'[m]! = true := by
      rw [em]; exact permIn_all R R' p m (fun y => lt y R[m]! = true) (by omega) hp hl
    have hr' : ∀ i, m < i → i < q → lt R'[i]! R'[m]! = false := fun i k1 k2 => by rw [em, hp.2.1 i (Or.inr (by omega))]; exact hr i k1 k2
    exact ⟨by omega, by omega, hqb, hbs, h2.perm, h2.out.left hS hlo hhi hl' hr' hs, Or.inr (fun i k1 k2 => by rw [Nat.add_sub_cancel]; exact hr' i (by omega) k2)⟩
  · intro R' hp hs
    have hpq : PermIn p q R R' := permIn_mono _ _ _ _ _ _ (by omega) (Nat.le_refl _) (by omega) hp
    have h2 := h'.step hpq
    have em : R'[m]! = R[m]! := hp.2.1 m (Or.inl (by omega))
    have hl' : ∀ i, p ≤ i → i < m → lt R'[i]! R'[m]! = true := fun i k1 k2 => by rw [em, hp.2.1 i (Or.inl (by omega))]; exact hl i k1 k2
    have hr' : ∀ i, m < i → i < q → lt R'[i]! R'[m]! = false := fun i k1 k2 => by
      rw [em]; exact permIn_all R R' (m + 1) q (fun y => lt y R[m]! = false) (by omega) hp (fun i k1 k2 => hr i (by omega) k2) i (by omega) k2
    exact ⟨hap, hlo, by omega, hbs, h2.perm, h2.out.right hS hlo hhi hl' hr' hs, h2.under.perm (permIn_refl _ _ _) (by rw [h2.size]; omega) (by omega)⟩
end

end Go.Nl
