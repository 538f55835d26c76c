/- Plain laws of the stable sort by symmetric merging, over an array of numbers: no program in sight. -/
import Derived.Sort.LotA
namespace Go.Nl
open Go.Sort

section
variable {α : Type} [Inhabited α]

/-- The exchange of n places from a on with those from b on. -/
def swapK (a b : Nat) (d : Array α) : Nat → Array α
  | 0 => d
  | n + 1 => swp (swapK a b d n) (a + n) (b + n)

/-- What lies at a goes n places up. -/
def shU (a : Nat) (d : Array α) : Nat → Array α
  | 0 => d
  | n + 1 => swp (shU a d n) (a + n) (a + n + 1)

/-- What lies at m goes n places down. -/
def shD (m : Nat) (d : Array α) : Nat → Array α
  | 0 => d
  | n + 1 => swp (shD m d n) (m - n) (m - n - 1)

theorem size_swapK (a b : Nat) (d : Array α) : ∀ n, (swapK a b d n).size = d.size
  | 0 => rfl
  | n + 1 => by unfold swapK; rw [size_swp, size_swapK a b d n]
theorem size_shU (a : Nat) (d : Array α) : ∀ n, (shU a d n).size = d.size
  | 0 => rfl
  | n + 1 => by unfold shU; rw [size_swp, size_shU a d n]
theorem size_shD (a : Nat) (d : Array α) : ∀ n, (shD a d n).size = d.size
  | 0 => rfl
  | n + 1 => by unfold shD; rw [size_swp, size_shD a d n]

theorem swapK_get (a b : Nat) (d : Array α) : ∀ n, a + n ≤ b → b + n ≤ d.size → ∀ t,
    (swapK a b d n)[t]! = if a ≤ t ∧ t < a + n then d[t - a + b]! else if b ≤ t ∧ t < b + n then d[t - b + a]! else d[t]!
  | 0, _, _, t => by rw [if_neg (by omega), if_neg (by omega)]; rfl
  | n + 1, h1, h2, t => by
    have ih := swapK_get a b d n (by omega) (by omega)
    have hs := size_swapK a b d n
    unfold swapK
    rw [swp_get _ (by omega) (by omega)]
    by_cases e1 : t = b + n
    · subst e1
      rw [if_pos rfl, ih, if_neg (by omega), if_neg (by omega), if_neg (by omega), if_pos (by omega), show b + n - b + a = a + n by omega]
    · rw [if_neg e1]
      by_cases e2 : t = a + n
      · subst e2
        rw [if_pos rfl, ih, if_neg (by omega), if_neg (by omega), if_pos (by omega), show a + n - a + b = b + n by omega]
      · rw [if_neg e2, ih]
        (repeat' split) <;> first | rfl | (exfalso; omega)

theorem shU_get (a : Nat) (d : Array α) : ∀ n, a + n < d.size → ∀ t,
    (shU a d n)[t]! = if a ≤ t ∧ t < a + n then d[t + 1]! else if t = a + n then d[a]! else d[t]!
  | 0, _, t => by
    rw [if_neg (by omega)]
    by_cases e : t = a + 0
    · rw [if_pos e, e]; rfl
    · rw [if_neg e]; rfl
  | n + 1, h1, t => by
    have ih := shU_get a d n (by omega)
    have hs := size_shU a d n
    unfold shU
    rw [swp_get _ (by omega) (by omega)]
    by_cases e1 : t = a + n + 1
    · subst e1
      rw [if_pos rfl, ih, if_neg (by omega), if_pos rfl, if_neg (by omega), if_pos (by omega)]
    · rw [if_neg e1]
      by_cases e2 : t = a + n
      · subst e2
        rw [if_pos rfl, ih, if_neg (by omega), if_neg (by omega), if_pos (by omega)]
      · rw [if_neg e2, ih, if_neg e2]
        by_cases c1 : a ≤ t ∧ t < a + n
        · rw [if_pos c1, if_pos (by omega)]
        · rw [if_neg c1, if_neg (by omega), if_neg (by omega)]

theorem shD_get (m : Nat) (d : Array α) (hm : m < d.size) : ∀ n, n ≤ m → ∀ t,
    (shD m d n)[t]! = if m - n < t ∧ t ≤ m then d[t - 1]! else if t = m - n then d[m]! else d[t]!
  | 0, _, t => by
    rw [if_neg (by omega)]
    by_cases e : t = m - 0
    · rw [if_pos e, e]; rfl
    · rw [if_neg e]; rfl
  | n + 1, h1, t => by
    have ih := shD_get m d hm n (by omega)
    have hs := size_shD m d n
    unfold shD
    rw [swp_get _ (by omega) (by omega)]
    by_cases e1 : t = m - n - 1
    · subst e1
      rw [if_pos rfl, ih, if_neg (by omega), if_pos rfl, if_neg (by omega), if_pos (by omega)]
    · rw [if_neg e1]
      by_cases e2 : t = m - n
      · subst e2
        rw [if_pos rfl, ih, if_neg (by omega), if_neg (by omega), if_pos (by omega)]
      · rw [if_neg e2, ih, if_neg e2]
        by_cases c1 : m - n < t ∧ t ≤ m
        · rw [if_pos c1, if_pos (by omega)]
        · rw [if_neg c1, if_neg (by omega), if_neg (by omega)]

theorem swapK_perm (a b lo hi : Nat) (d : Array α) : ∀ n, lo ≤ a → a + n ≤ b → b + n ≤ hi → hi ≤ d.size → PermIn lo hi d (swapK a b d n)
  | 0, _, _, _, _ => permIn_refl _ _ _
  | n + 1, h1, h2, h3, h4 => by
    unfold swapK
    exact permIn_trans _ _ _ _ _ (swapK_perm a b lo hi d n h1 (by omega) (by omega) h4) (swp_permIn _ lo hi _ _ (by omega) (by omega) (by omega) (by omega) (by rw [size_swapK]; exact h4))

theorem shU_perm (a lo hi : Nat) (d : Array α) : ∀ n, lo ≤ a → a + n < hi → hi ≤ d.size → PermIn lo hi d (shU a d n)
  | 0, _, _, _ => permIn_refl _ _ _
  | n + 1, h1, h2, h4 => by
    unfold shU
    exact permIn_trans _ _ _ _ _ (shU_perm a lo hi d n h1 (by omega) h4) (swp_permIn _ lo hi _ _ (by omega) (by omega) (by omega) (by omega) (by rw [size_shU]; exact h4))

theorem shD_perm (m lo hi : Nat) (d : Array α) : ∀ n, lo + n ≤ m → m < hi → hi ≤ d.size → PermIn lo hi d (shD m d n)
  | 0, _, _, _ => permIn_refl _ _ _
  | n + 1, h1, h2, h4 => by
    unfold shD
    exact permIn_trans _ _ _ _ _ (shD_perm m lo hi d n (by omega) h2 h4) (swp_permIn _ lo hi _ _ (by omega) (by omega) (by omega) (by omega) (by rw [size_shD]; exact h4))

/-- What lies at t when the blocks [a, m) and [m, b) have changed places. -/
def rotAt (d : Array α) (a m b t : Nat) : α :=
  if a ≤ t ∧ t < a + (b - m) then d[t + (m - a)]! else if a + (b - m) ≤ t ∧ t < b then d[t - (b - m)]! else d[t]!

/-- What is still to be changed: the i places ahead of m with the j places from m on. -/
structure RotInv (a m b : Nat) (d : Array α) (i j : Nat) (dk : Array α) : Prop where
  i1 : 1 ≤ i
  j1 : 1 ≤ j
  im : i ≤ m - a
  jb : j ≤ b - m
  perm : PermIn a b d dk
  left : ∀ t, rotAt dk (m - i) m (m + j) t = rotAt d a m b t

theorem RotInv.start {a m b : Nat} (d : Array α) (h1 : a < m) (h2 : m < b) : RotInv a m b d (m - a) (b - m) d :=
  ⟨by omega, by omega, by omega, by omega, permIn_refl _ _ _, fun t => by rw [show m - (m - a) = a by omega, show m + (b - m) = b by omega]⟩

theorem RotInv.gt {a m b i j : Nat} {d dk : Array α} (h : RotInv a m b d i j dk) (ham : a < m) (hmb : m < b) (hb : b ≤ d.size) (hij : j < i) : RotInv a m b d (i - j) j (swapK (m - i) m dk j) where
  i1 := by omega
  j1 := h.j1
  im := by have := h.im; omega
  jb := h.jb
  perm := permIn_trans _ _ _ _ _ h.perm (swapK_perm _ _ _ _ _ _ (by have := h.im; omega) (by have := h.im; omega) (by have := h.jb; omega) (by rw [h.perm.1]; exact hb))
  left := fun t => by
    have h1 := h.im; have h2 := h.jb; have h3 := h.i1; have h4 := h.j1
    rw [← h.left t]
    have g := swapK_get (m - i) m dk j (by omega) (by rw [h.perm.1]; omega)
    unfold rotAt
    simp only [g]
    (repeat' split) <;> first | rfl | (exfalso; omega) | (congr 1; omega)

theorem RotInv.lt {a m b i j : Nat} {d dk : Array α} (h : RotInv a m b d i j dk) (ham : a < m) (hmb : m < b) (hb : b ≤ d.size) (hij : i < j) : RotInv a m b d i (j - i) (swapK (m - i) (m + j - i) dk i) where
  i1 := h.i1
  j1 := by omega
  im := h.im
  jb := by have := h.jb; omega
  perm := permIn_trans _ _ _ _ _ h.perm (swapK_perm _ _ _ _ _ _ (by have := h.im; omega) (by have := h.im; omega) (by have := h.jb; omega) (by rw [h.perm.1]; exact hb))
  left := fun t => by
    have h1 := h.im; have h2 := h.jb; have h3 := h.i1; have h4 := h.j1
    rw [← h.left t]
    have g := swapK_get (m - i) (m + j - i) dk i (by omega) (by rw [h.perm.1]; omega)
    unfold rotAt
    simp only [g]
    (repeat' split) <;> first | rfl | (exfalso; omega) | (congr 1; omega)

theorem RotInv.eq {a m b i : Nat} {d dk : Array α} (h : RotInv a m b d i i dk) (ham : a < m) (hmb : m < b) (hb : b ≤ d.size) : PermIn a b d (swapK (m - i) m dk i) ∧ ∀ t, (swapK (m - i) m dk i)[t]! = rotAt d a m b t := by
  have h1 := h.im; have h2 := h.jb; have h3 := h.i1
  refine ⟨permIn_trans _ _ _ _ _ h.perm (swapK_perm _ _ _ _ _ _ (by omega) (by omega) (by omega) (by rw [h.perm.1]; exact hb)), fun t => ?_⟩
  rw [← h.left t, swapK_get (m - i) m dk i (by omega) (by rw [h.perm.1]; omega)]
  unfold rotAt
  (repeat' split) <;> first | rfl | (exfalso; omega) | (congr 1; omega)

variable {lt : α → α → Bool}

/-! ### One element merged in -/
theorem merge_first (hS : SWO lt) {a b i : Nat} {d : Array α} (hai : a + 1 ≤ i) (hib : i ≤ b) (hb : b ≤ d.size) (hs : SortedIn lt (a + 1) b d)
    (hl : i = a + 1 ∨ lt d[i - 1]! d[a]! = true) (hr : i = b ∨ lt d[i]! d[a]! = false) : PermIn a b d (shU a d (i - 1 - a)) ∧ SortedIn lt a b (shU a d (i - 1 - a)) := by
  refine ⟨shU_perm a a b d _ (Nat.le_refl _) (by omega) hb, fun p q hap hpq hqb => ?_⟩
  have g := shU_get a d (i - 1 - a) (by omega)
  rw [g, g]
  have lft : ∀ k, a < k → k < i → lt d[a]! d[k]! = false := fun k h1 h2 => by
    rcases hl with hl | hl
    · omega
    · by_cases e : k = i - 1
      · subst e; exact hS.asymmA hl
      · exact hS.ntrans _ _ _ (hS.asymmA hl) (hs k (i - 1) (by omega) (by omega) (by omega))
  have rgt : ∀ k, i ≤ k → k < b → lt d[k]! d[a]! = false := fun k h1 h2 => by
    rcases hr with hr | hr
    · omega
    · by_cases e : k = i
      · subst e; exact hr
      · exact hS.ntrans _ _ _ (hs i k (by omega) (by omega) h2) hr
  by_cases c1 : p < a + (i - 1 - a)
  · rw [if_pos (⟨hap, c1⟩ : a ≤ p ∧ p < a + (i - 1 - a))]
    by_cases c2 : q < a + (i - 1 - a)
    · rw [if_pos (⟨by omega, c2⟩ : a ≤ q ∧ q < a + (i - 1 - a))]
      exact hs _ _ (by omega) (by omega) (by omega)
    · rw [if_neg (by omega)]
      by_cases c3 : q = a + (i - 1 - a)
      · rw [if_pos c3]; exact lft _ (by omega) (by omega)
      · rw [if_neg c3]; exact hs _ _ (by omega) (by omega) (by omega)
  · rw [if_neg (by omega : ¬ (a ≤ p ∧ p < a + (i - 1 - a))), if_neg (by omega : ¬ (a ≤ q ∧ q < a + (i - 1 - a))), if_neg (by omega : ¬ q = a + (i - 1 - a))]
    by_cases c3 : p = a + (i - 1 - a)
    · rw [if_pos c3]; exact rgt _ (by omega) (by omega)
    · rw [if_neg c3]; exact hs _ _ (by omega) (by omega) (by omega)

theorem merge_last (hS : SWO lt) {a m i : Nat} {d : Array α} (hai : a ≤ i) (him : i ≤ m) (hb : m + 1 ≤ d.size) (hs : SortedIn lt a m d)
    (hl : i = a ∨ lt d[m]! d[i - 1]! = false) (hr : i = m ∨ lt d[m]! d[i]! = true) : PermIn a (m + 1) d (shD m d (m - i)) ∧ SortedIn lt a (m + 1) (shD m d (m - i)) := by
  refine ⟨shD_perm m a (m + 1) d _ (by omega) (by omega) hb, fun p q hap hpq hqb => ?_⟩
  have g := shD_get m d (by omega) (m - i) (by omega)
  rw [g, g]
  have lft : ∀ k, a ≤ k → k < i → lt d[m]! d[k]! = false := fun k h1 h2 => by
    rcases hl with hl | hl
    · omega
    · by_cases e : k = i - 1
      · subst e; exact hl
      · exact hS.ntrans _ _ _ hl (hs k (i - 1) (by omega) (by omega) (by omega))
  have rgt : ∀ k, i ≤ k → k < m → lt d[k]! d[m]! = false := fun k h1 h2 => by
    rcases hr with hr | hr
    · omega
    · by_cases e : k = i
      · subst e; exact hS.asymmA hr
      · exact hS.ntrans _ _ _ (hs i k (by omega) (by omega) h2) (hS.asymmA hr)
  by_cases c1 : p < m - (m - i)
  · rw [if_neg (by omega : ¬ (m - (m - i) < p ∧ p ≤ m)), if_neg (by omega : ¬ p = m - (m - i))]
    by_cases c2 : q < m - (m - i)
    · rw [if_neg (by omega), if_neg (by omega)]
      exact hs _ _ (by omega) (by omega) (by omega)
    · by_cases c3 : q = m - (m - i)
      · rw [if_neg (by omega), if_pos c3]; exact lft _ (by omega) (by omega)
      · rw [if_pos (by omega)]; exact hs _ _ (by omega) (by omega) (by omega)
  · rw [if_pos (by omega : m - (m - i) < q ∧ q ≤ m)]
    by_cases c3 : p = m - (m - i)
    · rw [if_neg (by omega), if_pos c3]; exact rgt _ (by omega) (by omega)
    · rw [if_pos (by omega)]; exact hs _ _ (by omega) (by omega) (by omega)

/-! ### The symmetric merge: behind the turn -/
/-- Behind the search and the turn: both halves lie as two sorted parts each, and nothing of the right half is ahead of anything of the left one. -/
structure Split (lt : α → α → Bool) (a s mid e b : Nat) (d : Array α) : Prop where
  l1 : SortedIn lt a s d
  l2 : SortedIn lt s mid d
  r1 : SortedIn lt mid e d
  r2 : SortedIn lt e b d
  lr : ∀ p q, a ≤ p → p < mid → mid ≤ q → q < b → lt d[q]! d[p]! = false

theorem split_of (hS : SWO lt) {a m b s e mid : Nat} {d d' : Array α} (has : a ≤ s) (hsm : s ≤ m) (hme : m ≤ e) (heb : e ≤ b) (hmid : s + e = mid + m)
    (hs1 : SortedIn lt a m d) (hs2 : SortedIn lt m b d) (hd : ∀ t, d'[t]! = rotAt d s m e t)
    (h1 : s = a ∨ e = b ∨ lt d[e]! d[s - 1]! = false) (h2 : s = m ∨ e = m ∨ lt d[e - 1]! d[s]! = true) : Split lt a s mid e b d' := by
  -- where what lies at t came from
  have gl : ∀ t, t < s → d'[t]! = d[t]! := fun t h => by rw [hd]; unfold rotAt; rw [if_neg (by omega), if_neg (by omega)]
  have gr : ∀ t, e ≤ t → d'[t]! = d[t]! := fun t h => by rw [hd]; unfold rotAt; rw [if_neg (by omega), if_neg (by omega)]
  have g1 : ∀ t, s ≤ t → t < mid → d'[t]! = d[t + (m - s)]! := fun t h h' => by rw [hd]; unfold rotAt; rw [if_pos (by omega)]
  have g2 : ∀ t, mid ≤ t → t < e → d'[t]! = d[t - (e - m)]! := fun t h h' => by rw [hd]; unfold rotAt; rw [if_neg (by omega), if_pos (by omega)]
  have nle1 : ∀ x y, a ≤ x → x < s → e ≤ y → y < b → lt d[y]! d[x]! = false := fun x y hx hx' hy hy' => by
    rcases h1 with h1 | h1 | h1
    · omega
    · omega
    · have t1 : lt d[y]! d[e]! = false := by
        by_cases e1 : y = e
        · subst e1; exact hS.irrefl _
        · exact hs2 e y (by omega) (by omega) hy'
      have t2 : lt d[s - 1]! d[x]! = false := by
        by_cases e1 : x = s - 1
        · subst e1; exact hS.irrefl _
        · exact hs1 x (s - 1) hx (by omega) (by omega)
      exact hS.ntrans _ _ _ t1 (hS.ntrans _ _ _ h1 t2)
  have nle2 : ∀ x y, m ≤ x → x < e → s ≤ y → y < m → lt d[y]! d[x]! = false := fun x y hx hx' hy hy' => by
    rcases h2 with h2 | h2 | h2
    · omega
    · omega
    · have t1 : lt d[y]! d[s]! = false := by
        by_cases e1 : y = s
        · subst e1; exact hS.irrefl _
        · exact hs1 s y (by omega) (by omega) hy'
      have t2 : lt d[e - 1]! d[x]! = false := by
        by_cases e1 : x = e - 1
        · subst e1; exact hS.irrefl _
        · exact hs2 x (e - 1) hx (by omega) (by omega)
      exact hS.ntrans _ _ _ t1 (hS.ntrans _ _ _ (hS.asymmA h2) t2)
  refine ⟨fun p q h1 h2 h3 => ?_, fun p q h1 h2 h3 => ?_, fun p q h1 h2 h3 => ?_, fun p q h1 h2 h3 => ?_, fun p q h1 h2 h3 h4 => ?_⟩
  · rw [gl p (by omega), gl q h3]; exact hs1 p q h1 h2 (by omega)
  · rw [g1 p h1 (by omega), g1 q (by omega) h3]; exact hs2 _ _ (by omega) (by omega) (by omega)
  · rw [g2 p h1 (by omega), g2 q (by omega) h3]; exact hs1 _ _ (by omega) (by omega) (by omega)
  · rw [gr p h1, gr q (by omega)]; exact hs2 p q (by omega) h2 h3
  · by_cases c1 : p < s
    · rw [gl p c1]
      by_cases c2 : q < e
      · rw [g2 q h3 c2]; exact hs1 _ _ h1 (by omega) (by omega)
      · rw [gr q (by omega)]; exact nle1 _ _ h1 c1 (by omega) h4
    · rw [g1 p (by omega) h2]
      by_cases c2 : q < e
      · rw [g2 q h3 c2]; exact nle2 _ _ (by omega) (by omega) (by omega) (by omega)
      · rw [gr q (by omega)]; exact hs2 _ _ (by omega) (by omega) h4

theorem rotAt_id_left (d : Array α) (m e t : Nat) : rotAt d m m e t = d[t]! := by
  unfold rotAt
  by_cases c : m ≤ t ∧ t < m + (e - m)
  · rw [if_pos c]; congr 1; omega
  · rw [if_neg c, if_neg (by omega)]

theorem rotAt_id_right (d : Array α) (s m t : Nat) : rotAt d s m m t = d[t]! := by
  unfold rotAt
  rw [if_neg (by omega)]
  by_cases c : s + (m - m) ≤ t ∧ t < m
  · rw [if_pos c]; congr 1; omega
  · rw [if_neg c]

theorem sortedIn_join {a c b : Nat} {d : Array α} (h1 : SortedIn lt a c d) (h2 : SortedIn lt c b d) (h : ∀ p q, a ≤ p → p < c → c ≤ q → q < b → lt d[q]! d[p]! = false) : SortedIn lt a b d := by
  intro p q hap hpq hqb
  by_cases c1 : q < c
  · exact h1 p q hap hpq c1
  · by_cases c2 : p < c
    · exact h p q hap c2 (by omega) hqb
    · exact h2 p q (by omega) hpq hqb

theorem sortedIn_congr {a b : Nat} {d d' : Array α} (h : SortedIn lt a b d) (he : ∀ t, a ≤ t → t < b → d'[t]! = d[t]!) : SortedIn lt a b d' := by
  intro p q hap hpq hqb
  rw [he p hap (by omega), he q (by omega) hqb]; exact h p q hap hpq hqb

/-- The left half has been sorted. -/
theorem Split.left {a s mid e b : Nat} {d d' : Array α} (h : Split lt a s mid e b d) (hme : mid ≤ e) (hb : mid ≤ d.size) (hp : PermIn a mid d d') (hs : SortedIn lt a mid d') : Split lt a mid mid e b d' := by
  have o : ∀ t, mid ≤ t → d'[t]! = d[t]! := fun t ht => hp.2.1 t (Or.inr ht)
  refine ⟨hs, fun p q h1 h2 h3 => by omega, sortedIn_congr h.r1 (fun t h1 _ => o t h1), sortedIn_congr h.r2 (fun t h1 _ => o t (by omega)), fun p q h1 h2 h3 h4 => ?_⟩
  rw [o q h3]
  exact permIn_all d d' a mid (fun x => lt d[q]! x = false) (by omega) hp (fun i hi hi' => h.lr i q hi hi' h3 h4) p h1 h2

theorem Split.leftDone {a s mid e b : Nat} {d : Array α} (h : Split lt a s mid e b d) (hc : s = a ∨ s = mid) : Split lt a mid mid e b d := by
  refine ⟨?_, fun p q h1 h2 h3 => by omega, h.r1, h.r2, h.lr⟩
  rcases hc with rfl | rfl
  · exact h.l2
  · exact h.l1

theorem Split.right {a mid e b : Nat} {d d' : Array α} (h : Split lt a mid mid e b d) (hb : b ≤ d.size) (hp : PermIn mid b d d') (hs : SortedIn lt mid b d') : SortedIn lt a b d' := by
  have o : ∀ t, t < mid → d'[t]! = d[t]! := fun t ht => hp.2.1 t (Or.inl ht)
  refine sortedIn_join (sortedIn_congr h.l1 (fun t _ h2 => o t h2)) hs (fun p q h1 h2 h3 h4 => ?_)
  rw [o p h2]
  exact permIn_all d d' mid b (fun x => lt x d[p]! = false) hb hp (fun i hi hi' => h.lr p i h1 h2 hi hi') q h3 h4

theorem Split.rightDone {a mid e b : Nat} {d : Array α} (h : Split lt a mid mid e b d) (hc : e = mid ∨ e = b) : SortedIn lt a b d := by
  refine sortedIn_join h.l1 ?_ h.lr
  rcases hc with rfl | rfl
  · exact h.r2
  · exact h.r1

/-! ### Runs -/
/-- From s on, sorted runs of bs places each. -/
inductive Runs (lt : α → α → Bool) (bs n : Nat) (d : Array α) : Nat → Prop where
  | done {s : Nat} : n ≤ s → Runs lt bs n d s
  | step {s : Nat} : SortedIn lt s (min (s + bs) n) d → Runs lt bs n d (s + bs) → Runs lt bs n d s

/-- Up to s, sorted runs of bs places each. -/
inductive Pre (lt : α → α → Bool) (bs : Nat) (d : Array α) : Nat → Prop where
  | zero : Pre lt bs d 0
  | snoc {s : Nat} : Pre lt bs d s → SortedIn lt s (s + bs) d → Pre lt bs d (s + bs)

theorem Runs.first {bs n s : Nat} {d : Array α} (h : Runs lt bs n d s) : SortedIn lt s (min (s + bs) n) d := by
  cases h with
  | done h => intro p q h1 h2 h3; omega
  | step h _ => exact h
theorem Runs.next {bs n s : Nat} {d : Array α} (h : Runs lt bs n d s) : Runs lt bs n d (s + bs) := by
  cases h with
  | done h => exact .done (by omega)
  | step _ h => exact h

theorem Runs.congr {bs n s : Nat} {d d' : Array α} (h : Runs lt bs n d s) (he : ∀ t, s ≤ t → d'[t]! = d[t]!) : Runs lt bs n d' s := by
  induction h with
  | done h => exact .done h
  | step h1 _ ih => exact .step (sortedIn_congr h1 (fun t h1 _ => he t h1)) (ih (fun t ht => he t (by omega)))

theorem Pre.congr {bs s : Nat} {d d' : Array α} (h : Pre lt bs d s) (he : ∀ t, t < s → d'[t]! = d[t]!) : Pre lt bs d' s := by
  induction h with
  | zero => exact .zero
  | snoc _ h2 ih => exact .snoc (ih (fun t ht => he t (by omega))) (sortedIn_congr h2 (fun t _ h2 => he t (by omega)))

theorem Pre.runs {bs n s : Nat} {d : Array α} (h : Pre lt bs d s) (hsn : s ≤ n) (hr : Runs lt bs n d s) : Runs lt bs n d 0 := by
  induction h with
  | zero => exact hr
  | snoc _ h2 ih => exact ih (by omega) (.step (by rw [Nat.min_eq_left hsn]; exact h2) hr)

theorem Runs.whole {bs n : Nat} {d : Array α} (h : Runs lt bs n d 0) (hb : n ≤ bs) : SortedIn lt 0 n d := by
  have := h.first
  rwa [Nat.zero_add, Nat.min_eq_right hb] at this

theorem Runs.last {bs n s : Nat} {d : Array α} (h : SortedIn lt s n d) (hn : n ≤ s + bs) : Runs lt bs n d s :=
  .step (by rw [Nat.min_eq_right hn]; exact h) (.done hn)

end
end Go.Nl
