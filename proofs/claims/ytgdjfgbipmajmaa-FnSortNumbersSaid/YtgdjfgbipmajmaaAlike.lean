/- The reference's run of steps, and the heap's or the queue's, side by side: no program in sight. -/
import Derived.Test.YtgdjfgbipmajmaaHeapQueue
namespace Go.Nl
open Go.Sort

/-- No number is ahead of one that lies ahead of it. -/
def InOrd (lt : Int → Int → Bool) (l : List Int) : Prop := l.Pairwise fun x y => lt y x = false

def seenL : List Int → Got
  | [] => (0, false)
  | x :: _ => (x, true)

/-- What a step makes of the reference's list, and of what was told. -/
def StepS (lt : Int → Int → Bool) (st : List Int × List Got) (s : Step) (st' : List Int × List Got) : Prop :=
  if s.1 = 1 then st'.2 = st.2 ∧ st'.1.Perm (st.1 ++ s.2) ∧ InOrd lt st'.1
  else if s.1 = 2 then st' = (st.1.tail, st.2 ++ [seenL st.1])
  else if s.1 = 3 then st' = (st.1, st.2 ++ [seenL st.1])
  else if s.1 = 4 then st' = ([], st.2)
  else st' = st

/-- What the reference may make of steps. -/
inductive RunS (lt : Int → Int → Bool) : List Step → List Int × List Got → Prop
  | nil : RunS lt [] ([], [])
  | snoc {ss : List Step} {st : List Int × List Got} {s : Step} {st' : List Int × List Got} : RunS lt ss st → StepS lt st s st' → RunS lt (ss ++ [s]) st'

theorem RunS.next {lt : Int → Int → Bool} {ss : List Step} {st st' : List Int × List Got} {k : Nat} (h : RunS lt (ss.take k) st) (hk : k < ss.length) (hs : StepS lt st (ss.getD k (0, [])) st') : RunS lt (ss.take (k + 1)) st' := by
  rw [List.take_succ_eq_append_getElem hk]
  refine h.snoc ?_
  rw [List.getD_eq_getElem?_getD, List.getElem?_eq_getElem hk] at hs
  exact hs

theorem stepS_size {lt : Int → Int → Bool} {st st' : List Int × List Got} {s : Step} (h : StepS lt st s st') : st'.1.length ≤ st.1.length + s.2.length ∧ st'.2.length ≤ st.2.length + 1 := by
  unfold StepS at h
  split at h
  · obtain ⟨h1, h2, _⟩ := h
    rw [h1, h2.length_eq]; simp
  · split at h
    · subst h; simp; omega
    · split at h
      · subst h; simp
      · split at h
        · subst h; simp
        · subst h; exact ⟨by omega, by omega⟩

theorem runS_size {lt : Int → Int → Bool} {ss : List Step} {st : List Int × List Got} (b : Nat) (h : RunS lt ss st) (hb : ∀ s ∈ ss, s.2.length ≤ b) : st.1.length ≤ b * ss.length ∧ st.2.length ≤ ss.length := by
  induction h with
  | nil => simp
  | snoc _ hs ih =>
    obtain ⟨i1, i2⟩ := ih (fun s h => hb s (List.mem_append_left _ h))
    obtain ⟨s1, s2⟩ := stepS_size hs
    have := hb _ (List.mem_append_right _ (List.mem_singleton.2 rfl))
    rw [List.length_append, List.length_singleton, Nat.mul_add, Nat.mul_one]
    omega

/-- Two things that were told are as far ahead. -/
def GotLike (kind m : Int) (x y : Got) : Prop := x.2 = y.2 ∧ (x.2 = true → key kind m x.1 = key kind m y.1) ∧ (x.2 = false → x = (0, false) ∧ y = (0, false))

/-- Told one for one. -/
inductive AllLike (kind m : Int) : List Got → List Got → Prop
  | nil : AllLike kind m [] []
  | snoc {a b : List Got} {x y : Got} : AllLike kind m a b → GotLike kind m x y → AllLike kind m (a ++ [x]) (b ++ [y])

/-- A heap and the reference's list hold numbers that are as far ahead, and like things were told. -/
structure Alike (kind m : Int) (a : Array Int × List Got) (b : List Int × List Got) : Prop where
  heap : HeapOk (ltK kind m) a.1
  ord : InOrd (ltK kind m) b.1
  keys : (a.1.toList.map (key kind m)).Perm (b.1.map (key kind m))
  gots : AllLike kind m a.2 b.2

theorem Alike.size {kind m : Int} {a : Array Int × List Got} {b : List Int × List Got} (h : Alike kind m a b) : a.1.size = b.1.length := by
  have := h.keys.length_eq
  simpa using this

theorem Alike.head {kind m : Int} {a : Array Int × List Got} {x : Int} {l : List Int} {gs : List Got} (h : Alike kind m a (x :: l, gs)) : key kind m a.1[0]! = key kind m x := by
  have hs := h.size
  simp only [List.length_cons] at hs
  have hS := ltK_swo kind m
  have m1 := head_mem a.1 (by omega)
  -- the list's first is not behind the heap's
  have k1 : key kind m a.1[0]! ∈ (x :: l).map (key kind m) := h.keys.mem_iff.1 (List.mem_map_of_mem m1)
  obtain ⟨y, hy, ey⟩ := List.mem_map.1 k1
  have k2 : key kind m x ∈ a.1.toList.map (key kind m) := h.keys.mem_iff.2 (List.mem_map_of_mem (by simp))
  obtain ⟨z, hz, ez⟩ := List.mem_map.1 k2
  have r1 := root_first_mem hS a.1 h.heap z hz
  have r2 : key kind m x ≤ key kind m y := by
    rcases List.mem_cons.1 hy with e | hy
    · rw [e]; exact Int.le_refl _
    · have := (List.pairwise_cons.1 h.ord).1 y hy
      simp only [ltK, decide_eq_false_iff_not] at this
      omega
  simp only [ltK, decide_eq_false_iff_not] at r1
  omega

theorem gotLike_seen {kind m : Int} {a : Array Int × List Got} {b : List Int × List Got} (h : Alike kind m a b) : GotLike kind m (seen a.1) (seenL b.1) := by
  have hs := h.size
  obtain ⟨l, gs⟩ := b
  cases l with
  | nil =>
    simp only [List.length_nil] at hs
    unfold seen
    rw [if_pos hs]
    exact ⟨rfl, (fun h => by cases h), fun _ => ⟨rfl, rfl⟩⟩
  | cons x l =>
    have hh := h.head
    simp only [List.length_cons] at hs
    unfold seen
    rw [if_neg (by omega)]
    exact ⟨rfl, fun _ => hh, (fun h => by cases h)⟩

/-- How numbers are put in: all of them come in, and it stays a heap. -/
def PutOk (lt : Int → Int → Bool) (put : Array Int → List Int → Array Int) : Prop := ∀ d xs, HeapOk lt d → HeapOk lt (put d xs) ∧ (put d xs).toList.Perm (d.toList ++ xs)

/-- A step of a heap into which numbers are put in some way. -/
def stepP (lt : Int → Int → Bool) (put : Array Int → List Int → Array Int) (st : Array Int × List Got) (s : Step) : Array Int × List Got :=
  if s.1 = 1 then (put st.1 s.2, st.2)
  else if s.1 = 2 then (taken lt st.1, st.2 ++ [seen st.1])
  else if s.1 = 3 then (st.1, st.2 ++ [seen st.1])
  else if s.1 = 4 then (#[], st.2)
  else st

theorem alike_step {kind m : Int} {put : Array Int → List Int → Array Int} (hp : PutOk (ltK kind m) put) {a : Array Int × List Got} {b b' : List Int × List Got} (h : Alike kind m a b) (s : Step) (hs : StepS (ltK kind m) b s b') :
    Alike kind m (stepP (ltK kind m) put a s) b' := by
  have hS := ltK_swo kind m
  have hg := gotLike_seen h
  have hsz := h.size
  unfold StepS at hs
  unfold stepP
  by_cases o1 : s.1 = 1
  · rw [if_pos o1] at hs ⊢
    obtain ⟨h1, h2, h3⟩ := hs
    obtain ⟨p1, p2⟩ := hp a.1 s.2 h.heap
    refine ⟨p1, h3, ?_, by rw [h1]; exact h.gots⟩
    have e1 := p2.map (key kind m)
    have e2 := h2.map (key kind m)
    rw [List.map_append] at e1 e2
    exact e1.trans ((h.keys.append_right _).trans e2.symm)
  rw [if_neg o1] at hs ⊢
  by_cases o2 : s.1 = 2
  · rw [if_pos o2] at hs ⊢
    subst hs
    obtain ⟨l, gs⟩ := b
    cases l with
    | nil =>
      unfold taken
      simp only [List.length_nil] at hsz
      rw [if_pos hsz]
      exact ⟨h.heap, h.ord, h.keys, h.gots.snoc hg⟩
    | cons x l =>
      have hh := h.head
      simp only [List.length_cons] at hsz
      unfold taken
      rw [if_neg (by omega)]
      obtain ⟨a1, a2, _⟩ := popped_spec hS a.1 h.heap (by omega)
      refine ⟨a1, (List.pairwise_cons.1 h.ord).2, ?_, h.gots.snoc hg⟩
      have e := ((a2.map (key kind m)).symm.trans h.keys)
      rw [List.map_cons, List.map_cons, hh] at e
      exact e.cons_inv
  rw [if_neg o2] at hs ⊢
  by_cases o3 : s.1 = 3
  · rw [if_pos o3] at hs ⊢
    subst hs
    exact ⟨h.heap, h.ord, h.keys, h.gots.snoc hg⟩
  rw [if_neg o3] at hs ⊢
  by_cases o4 : s.1 = 4
  · rw [if_pos o4] at hs ⊢
    subst hs
    exact ⟨heapOk_empty _, List.Pairwise.nil, List.Perm.refl _, h.gots⟩
  rw [if_neg o4] at hs ⊢
  subst hs
  exact h

theorem alike_run {kind m : Int} {put : Array Int → List Int → Array Int} (hp : PutOk (ltK kind m) put) {ss : List Step} {b : List Int × List Got} (h : RunS (ltK kind m) ss b) :
    Alike kind m (ss.foldl (stepP (ltK kind m) put) (#[], [])) b := by
  induction h with
  | nil => exact ⟨heapOk_empty _, List.Pairwise.nil, List.Perm.refl _, .nil⟩
  | snoc _ hs ih =>
    rw [List.foldl_append]
    exact alike_step hp ih _ hs

theorem putOk_heap (kind m : Int) : PutOk (ltK kind m) (pushV (ltK kind m)) := fun d xs h => pushV_spec (ltK_swo kind m) xs d h
theorem putOk_queue (kind m : Int) : PutOk (ltK kind m) (fun d xs => xs.foldl (push1 (ltK kind m)) d) := fun d xs h => push1s_spec (ltK_swo kind m) xs d h

theorem runH_alike {kind m : Int} {ss : List Step} {b : List Int × List Got} (h : RunS (ltK kind m) ss b) : Alike kind m (runH (ltK kind m) ss) b := alike_run (putOk_heap kind m) h
theorem runQ_alike {kind m : Int} {ss : List Step} {b : List Int × List Got} (h : RunS (ltK kind m) ss b) : Alike kind m (runQ (ltK kind m) ss) b := alike_run (putOk_queue kind m) h

/-! ### Upwards and downwards -/
theorem key_inj {kind m : Int} (h : kind = 0 ∨ kind = 1) {x y : Int} (e : key kind m x = key kind m y) : x = y := by
  rcases h with rfl | rfl
  · simpa [key] using e
  · simp [key] at e; omega

theorem gotLike_eq {kind m : Int} (h : kind = 0 ∨ kind = 1) {x y : Got} (g : GotLike kind m x y) : x = y := by
  obtain ⟨x1, x2⟩ := x
  obtain ⟨y1, y2⟩ := y
  obtain ⟨g1, g2, g3⟩ := g
  cases x2 with
  | true =>
    have := key_inj h (g2 rfl)
    simp only at g1 this
    rw [this, g1]
  | false =>
    obtain ⟨e1, e2⟩ := g3 rfl
    rw [e1, e2]

theorem allLike_eq {kind m : Int} (h : kind = 0 ∨ kind = 1) {a b : List Got} (g : AllLike kind m a b) : a = b := by
  induction g with
  | nil => rfl
  | snoc _ h2 ih => rw [ih, gotLike_eq h h2]

theorem map_inj_perm {f : Int → Int} (hf : ∀ {x y}, f x = f y → x = y) {a b : List Int} (h : (a.map f).Perm (b.map f)) : a.Perm b := by
  induction a generalizing b with
  | nil =>
    have := h.length_eq
    cases b with
    | nil => exact List.Perm.refl _
    | cons y l => simp at this
  | cons x l ih =>
    have hx : f x ∈ b.map f := h.mem_iff.1 (by simp)
    obtain ⟨y, hy, e⟩ := List.mem_map.1 hx
    obtain rfl := hf e
    have hb := List.perm_cons_erase hy
    have h2 := h.trans (hb.map f)
    rw [List.map_cons, List.map_cons] at h2
    exact (List.Perm.cons _ (ih h2.cons_inv)).trans hb.symm

theorem alike_same {kind m : Int} (h : kind = 0 ∨ kind = 1) {a : Array Int × List Got} {b : List Int × List Got} (g : Alike kind m a b) : a.1.toList.Perm b.1 ∧ a.2 = b.2 :=
  ⟨map_inj_perm (fun e => key_inj h e) g.keys, allLike_eq h g.gots⟩

end Go.Nl
