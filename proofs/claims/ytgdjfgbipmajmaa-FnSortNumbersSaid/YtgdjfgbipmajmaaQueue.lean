/- The queue: its methods, by its heap's; what queued's steps leave, in plain words. -/
import Derived.Test.YtgdjfgbipmajmaaFits
namespace Go.Nl
open Go.RowKit Go.Sort Go.Proofs

/-- What a step makes of a queue's heap: Enqueue lays each number by itself. -/
def stepQ (lt : Int → Int → Bool) (st : Array Int × List Got) (s : Step) : Array Int × List Got :=
  if s.1 = 1 then (s.2.foldl (push1 lt) st.1, st.2)
  else if s.1 = 2 then (taken lt st.1, st.2 ++ [seen st.1])
  else if s.1 = 3 then (st.1, st.2 ++ [seen st.1])
  else if s.1 = 4 then (#[], st.2)
  else st

def runQ (lt : Int → Int → Bool) (ss : List Step) : Array Int × List Got := ss.foldl (stepQ lt) (#[], [])

theorem runQ_snoc (lt : Int → Int → Bool) (ss : List Step) (k : Nat) (hk : k < ss.length) : runQ lt (ss.take (k + 1)) = stepQ lt (runQ lt (ss.take k)) (ss.getD k (0, [])) := by
  unfold runQ
  rw [List.take_succ_eq_append_getElem hk, List.foldl_append, List.getD_eq_getElem?_getD, List.getElem?_eq_getElem hk]
  rfl

theorem size_push1s (lt : Int → Int → Bool) (xs : List Int) : ∀ (d : Array Int), (xs.foldl (push1 lt) d).size = d.size + xs.length := by
  induction xs with
  | nil => intro d; rfl
  | cons a l ih => intro d; rw [List.foldl_cons, ih, size_push1, List.length_cons]; omega

theorem size_stepQ (lt : Int → Int → Bool) (st : Array Int × List Got) (s : Step) : (stepQ lt st s).1.size ≤ st.1.size + s.2.length ∧ (stepQ lt st s).2.length ≤ st.2.length + 1 := by
  have := size_taken lt st.1
  unfold stepQ
  (repeat' split) <;> simp [size_push1s] <;> omega

theorem size_runQ (lt : Int → Int → Bool) (ss : List Step) (b : Nat) (h : ∀ s ∈ ss, s.2.length ≤ b) : ∀ k, k ≤ ss.length → (runQ lt (ss.take k)).1.size ≤ b * k ∧ (runQ lt (ss.take k)).2.length ≤ k
  | 0, _ => by simp [runQ]
  | k + 1, hk => by
    obtain ⟨h1, h2⟩ := size_runQ lt ss b h k (by omega)
    rw [runQ_snoc lt ss k (by omega)]
    obtain ⟨h3, h4⟩ := size_stepQ lt (runQ lt (ss.take k)) (ss.getD k (0, []))
    have h5 : (ss.getD k (0, [])).2.length ≤ b := by
      rw [List.getD_eq_getElem?_getD, List.getElem?_eq_getElem (by omega)]
      exact h _ (List.getElem_mem _)
    rw [Nat.mul_add, Nat.mul_one]
    exact ⟨by omega, by omega⟩

theorem runQ_append (lt : Int → Int → Bool) (a b : List Step) : runQ lt (a ++ b) = b.foldl (stepQ lt) (runQ lt a) := by
  unfold runQ; rw [List.foldl_append]

theorem runQ_peeked (lt : Int → Int → Bool) (ss : List Step) : (runQ lt (ss ++ [(3, []), (3, []), (2, [])])).2 = (runQ lt ss).2 ++ [seen (runQ lt ss).1, seen (runQ lt ss).1, seen (runQ lt ss).1] := by
  rw [runQ_append]
  simp [stepQ]

/-! The methods hand on to the heap's. -/
section
variable {w : World} {qb hb : Nat}

theorem dequeue_of {v b : Value} {P : World → Prop} (hc : w.cell? ⟨qb, 0, none⟩ = some (.pointer (some ⟨hb, 0, none⟩)))
    (h : Calls Try.prog 60 #[.pointer (some ⟨hb, 0, none⟩)] w fun e w' => e = .returned (.tuple #[v, b]) ∧ P w') :
    Calls Try.prog 65 #[.pointer (some ⟨qb, 0, none⟩)] w fun e w' => e = .returned (.tuple #[v, b]) ∧ P w' := by
  go_enter Try.func65, Try.ntmps65
  go_wp2_with (go_at_call 60; refine h.mono ?_; rintro e w' ⟨rfl, hp⟩)
  go_ret2
  exact ⟨rfl, hp⟩

theorem queuePeek_of {v b : Value} {P : World → Prop} (hc : w.cell? ⟨qb, 0, none⟩ = some (.pointer (some ⟨hb, 0, none⟩)))
    (h : Calls Try.prog 61 #[.pointer (some ⟨hb, 0, none⟩)] w fun e w' => e = .returned (.tuple #[v, b]) ∧ P w') :
    Calls Try.prog 66 #[.pointer (some ⟨qb, 0, none⟩)] w fun e w' => e = .returned (.tuple #[v, b]) ∧ P w' := by
  go_enter Try.func66, Try.ntmps66
  go_wp2_with (go_at_call 61; refine h.mono ?_; rintro e w' ⟨rfl, hp⟩)
  go_ret2
  exact ⟨rfl, hp⟩

theorem queueClear_of {P : World → Prop} (hc : w.cell? ⟨qb, 0, none⟩ = some (.pointer (some ⟨hb, 0, none⟩)))
    (h : Calls Try.prog 62 #[.pointer (some ⟨hb, 0, none⟩)] w fun e w' => e = .returned (.tuple #[]) ∧ P w') :
    Calls Try.prog 67 #[.pointer (some ⟨qb, 0, none⟩)] w fun e w' => e = .returned (.tuple #[]) ∧ P w' := by
  go_enter Try.func67, Try.ntmps67
  go_wp2_with (go_at_call 62; refine h.mono ?_; rintro e w' ⟨rfl, hp⟩)
  go_end0
  exact ⟨rfl, hp⟩

theorem enqueue_of {x : Int} {P : World → Prop} (hc : w.cell? ⟨qb, 0, none⟩ = some (.pointer (some ⟨hb, 0, none⟩)))
    (h : Calls Try.prog 58 #[.pointer (some ⟨hb, 0, none⟩), .slice (some ⟨w.heap.size, 0, none⟩) 1 1] (w.alloc (.cells #[box x] 20)) fun e w' => e = .returned (.tuple #[]) ∧ P w') :
    Calls Try.prog 64 #[.pointer (some ⟨qb, 0, none⟩), box x] w fun e w' => e = .returned (.tuple #[]) ∧ P w' := by
  have H := Lib.hid h; clear h
  unfold box at *
  go_enter Try.func64, Try.ntmps64
  go_wp2_with fail
  refine H.out.mono ?_
  rintro e w' ⟨rfl, hp⟩
  go_wp2_with fail
  go_end0
  exact ⟨rfl, hp⟩
end

/-- What queued keeps: a queue over a heap in new memory, and what was told, in a new row. -/
def QueuedPost (w : World) (kind m : Int) (st : Array Int × List Got) (qb g cap : Nat) (w' : World) : Prop :=
  ∃ hb lb ao c ob fv, HO w' hb lb ao c ob kind m st.1 ∧ RowAt w' g st.2.length cap 33 2 (st.2.flatMap gotCells) ∧ Kept No w w' ∧
    w.heap.size ≤ hb ∧ w.heap.size ≤ lb ∧ w.heap.size ≤ ob ∧ (∀ eb, ao = some eb → w.heap.size ≤ eb) ∧ w.heap.size ≤ g ∧ g ≠ hb ∧ g ≠ ob ∧ ¬ own lb ao g ∧
    Blk w' qb #[.pointer (some ⟨hb, 0, none⟩), fv] 108 ∧ w.heap.size ≤ qb ∧ g ≠ qb ∧ ¬ own lb ao qb

section
variable {w wr : World} {kind m : Int} {st : Array Int × List Got} {qb g cap : Nat}

theorem QueuedPost.keptNo {wr' : World} (h : QueuedPost w kind m st qb g cap wr) (k : Kept No wr wr') : QueuedPost w kind m st qb g cap wr' := by
  obtain ⟨hb, lb, ao, c, ob, fv, h1, h2, h3, h4, h5, h6, h7, h8, h9, h10, h11, h12, h13, h14, h15⟩ := h
  exact ⟨hb, lb, ao, c, ob, fv, h1.kept k (fun _ _ h => h) (fun h => h) (fun h => h), h2.kept k (fun h => h), h3.trans k (fun _ _ h => h), h4, h5, h6, h7, h8, h9, h10, h11, h12.kept k (fun h => h), h13, h14, h15⟩

theorem QueuedPost.keptw (h : QueuedPost w kind m st qb g cap wr) : Kept No w wr := by
  obtain ⟨hb, lb, ao, c, ob, fv, h1, h2, h3, _⟩ := h
  exact h3

/-- A method of the heap has left the heap changed. -/
theorem queuedLeft {hb lb : Nat} {ao : Option Nat} {ob : Nat} {fv : Value} {d' : Array Int} {w' : World} (hR : RowAt wr g st.2.length cap 33 2 (st.2.flatMap gotCells)) (hK : Kept No w wr)
    (h4 : w.heap.size ≤ hb) (h5 : w.heap.size ≤ lb) (h6 : w.heap.size ≤ ob) (h7 : ∀ eb, ao = some eb → w.heap.size ≤ eb) (h8 : w.heap.size ≤ g) (h9 : g ≠ hb) (h10 : g ≠ ob) (h11 : ¬ own lb ao g)
    (h12 : Blk wr qb #[.pointer (some ⟨hb, 0, none⟩), fv] 108) (h13 : w.heap.size ≤ qb) (h14 : g ≠ qb) (h15 : ¬ own lb ao qb)
    (l : Left wr hb lb ao ob kind m d' w') : QueuedPost w kind m (d', st.2) qb g cap w' := by
  obtain ⟨ao', c', hh, hk, hm⟩ := l
  have hg := hR.lt
  have hq := h12.lt
  refine ⟨hb, lb, ao', c', ob, fv, hh, hR.kept hk h11, hK.trans hk ?_, h4, h5, h6, ?_, h8, h9, h10, fun ho => h11 (hm.own g hg ho), h12.kept hk h15, h13, h14, fun ho => h15 (hm.own qb hq ho)⟩
  · intro i hi ho
    rcases ho with ho | ho
    · omega
    · have := h7 i ho; omega
  · intro eb he
    rcases hm with rfl | ⟨n, rfl, hn⟩
    · exact h7 eb he
    · injection he with he
      have := hK.size
      omega

theorem QueuedPost.enq (h : QueuedPost w kind m st qb g cap wr) (ok : OrdOk kind m) (x : Int) (hd : st.1.size + 1 ≤ 1048576) :
    Calls Try.prog 64 #[.pointer (some ⟨qb, 0, none⟩), box x] wr fun e w' => e = .returned (.tuple #[]) ∧ QueuedPost w kind m (push1 (ltK kind m) st.1 x, st.2) qb g cap w' := by
  obtain ⟨hb, lb, ao, c, ob, fv, h1, h2, h3, h4, h5, h6, h7, h8, h9, h10, h11, h12, h13, h14, h15⟩ := h
  have ka : Kept No wr (wr.alloc (.cells #[box x] 20)) := (Kept.refl No wr).alloc _
  refine enqueue_of (hb := hb) (by rw [h12.cell]; rfl) ?_
  refine (push_one (h1.kept ka (fun _ _ h => h) (fun h => h) (fun h => h)) ok x wr.heap.size 0 1 (by rw [(Blk.new wr #[box x] 20).cell]; rfl) hd).mono ?_
  rintro e w' ⟨he, hl⟩
  exact ⟨he, queuedLeft (h2.kept ka (fun h => h)) (h3.trans ka (fun _ _ h => h)) h4 h5 h6 h7 h8 h9 h10 h11 (h12.kept ka (fun h => h)) h13 h14 h15 hl⟩

theorem QueuedPost.deq_some (h : QueuedPost w kind m st qb g cap wr) (ok : OrdOk kind m) (hd : 0 < st.1.size) (hdb : st.1.size ≤ 1048576) :
    Calls Try.prog 65 #[.pointer (some ⟨qb, 0, none⟩)] wr fun e w' => e = .returned (.tuple #[box st.1[0]!, .bool true]) ∧ QueuedPost w kind m (popped (ltK kind m) st.1, st.2) qb g cap w' := by
  obtain ⟨hb, lb, ao, c, ob, fv, h1, h2, h3, h4, h5, h6, h7, h8, h9, h10, h11, h12, h13, h14, h15⟩ := h
  refine dequeue_of (hb := hb) (by rw [h12.cell]; rfl) ?_
  refine (Go.Nl.pop_some h1 ok hd (by omega)).mono ?_
  rintro e w' ⟨he, hl⟩
  exact ⟨he, queuedLeft h2 h3 h4 h5 h6 h7 h8 h9 h10 h11 h12 h13 h14 h15 hl⟩

theorem QueuedPost.deq_none (h : QueuedPost w kind m st qb g cap wr) (hd : st.1.size = 0) :
    Calls Try.prog 65 #[.pointer (some ⟨qb, 0, none⟩)] wr fun e w' => e = .returned (.tuple #[.nilIface, .bool false]) ∧ wr = w' := by
  obtain ⟨hb, lb, ao, c, ob, fv, h1, h2, h3, h4, h5, h6, h7, h8, h9, h10, h11, h12, h13, h14, h15⟩ := h
  exact dequeue_of (hb := hb) (by rw [h12.cell]; rfl) (Go.Nl.pop_none h1 hd)

theorem QueuedPost.peek_some (h : QueuedPost w kind m st qb g cap wr) (hd : 0 < st.1.size) :
    Calls Try.prog 66 #[.pointer (some ⟨qb, 0, none⟩)] wr fun e w' => e = .returned (.tuple #[box st.1[0]!, .bool true]) ∧ wr = w' := by
  obtain ⟨hb, lb, ao, c, ob, fv, h1, h2, h3, h4, h5, h6, h7, h8, h9, h10, h11, h12, h13, h14, h15⟩ := h
  exact queuePeek_of (hb := hb) (by rw [h12.cell]; rfl) (Go.Nl.peek_some h1 hd)

theorem QueuedPost.peek_none (h : QueuedPost w kind m st qb g cap wr) (hd : st.1.size = 0) :
    Calls Try.prog 66 #[.pointer (some ⟨qb, 0, none⟩)] wr fun e w' => e = .returned (.tuple #[.nilIface, .bool false]) ∧ wr = w' := by
  obtain ⟨hb, lb, ao, c, ob, fv, h1, h2, h3, h4, h5, h6, h7, h8, h9, h10, h11, h12, h13, h14, h15⟩ := h
  exact queuePeek_of (hb := hb) (by rw [h12.cell]; rfl) (Go.Nl.peek_none h1 hd)

theorem QueuedPost.clear (h : QueuedPost w kind m st qb g cap wr) :
    Calls Try.prog 67 #[.pointer (some ⟨qb, 0, none⟩)] wr fun e w' => e = .returned (.tuple #[]) ∧ QueuedPost w kind m (#[], st.2) qb g cap w' := by
  obtain ⟨hb, lb, ao, c, ob, fv, h1, h2, h3, h4, h5, h6, h7, h8, h9, h10, h11, h12, h13, h14, h15⟩ := h
  refine queueClear_of (hb := hb) (by rw [h12.cell]; rfl) ?_
  refine (heapClear_any h1).mono ?_
  rintro e w' ⟨he, hl⟩
  exact ⟨he, queuedLeft h2 h3 h4 h5 h6 h7 h8 h9 h10 h11 h12 h13 h14 h15 hl⟩

theorem QueuedPost.app (h : QueuedPost w kind m st qb g cap wr) (x : Int) (b : Bool) (hn : st.2.length ≤ 100000) :
    ∃ g' cap' w', (Builtin.append_ #[27, 27] 27 #[.slice (some ⟨g, 0, none⟩) st.2.length cap, .slice (some ⟨wr.heap.size, 0, none⟩) 1 1]).run Try.prog (wr.alloc (.cells #[.int .i64 x, .bool b] 33)) =
      .ok (.slice (some ⟨g', 0, none⟩) (st.2.length + 1) cap') w' ∧ QueuedPost w kind m (st.1, st.2 ++ [(x, b)]) qb g' cap' w' := by
  obtain ⟨hb, lb, ao, c, ob, fv, h1, h2, h3, h4, h5, h6, h7, h8, h9, h10, h11, h12, h13, h14, h15⟩ := h
  obtain ⟨i, hi, hz, hs, hby⟩ := i33_parts
  have k1 : Kept No wr (wr.alloc (.cells #[.int .i64 x, .bool b] 33)) := (Kept.refl No wr).alloc _
  obtain ⟨g', cap', w', hr, hrow, hk, hg⟩ := append_row (P := Try.prog) 27 27 i (.agg #[.int .i64 0, .bool false]) 2 16 (h2.kept k1 (fun h => h)) und27 hi hz hs hby rfl ⟨wr.heap.size, 0, none⟩ 1 1 [.int .i64 x, .bool b] rfl
    (fun j u hu => by rw [add_zero_off]; exact (RowAt.new wr #[.int .i64 x, .bool b] 33 2 1 rfl).cell j u hu) (fun u hu => by simp at hu; rcases hu with rfl | rfl <;> rfl) (by omega) (by omega)
  have hlt1 := h1.heap.head.lt
  have hlt2 := h1.ord.lt
  have hlt3 := h1.heap.list.head.lt
  have hlt4 := h12.lt
  have hlte : ∀ eb, ao = some eb → eb < wr.heap.size := fun eb he => h1.ownLt eb (Or.inr he)
  have hs0 := h3.size
  have hg' : g' = g ∨ wr.heap.size + 1 ≤ g' := by simpa using hg
  refine ⟨g', cap', w', hr, hb, lb, ao, c, ob, fv, ?_, ?_, ?_, h4, h5, h6, h7, ?_, ?_, ?_, ?_, (h12.kept k1 (fun h => h)).kept hk (fun h => h14 h.symm), h13, ?_, h15⟩
  · refine (h1.kept k1 (fun _ _ h => h) (fun h => h) (fun h => h)).kept hk ?_ (fun h => h9 h.symm) (fun h => h10 h.symm)
    intro i ho he
    exact h11 (by rw [← he]; exact ho)
  · simp only [List.length_append, List.length_cons, List.length_nil, List.flatMap_append, List.flatMap_cons, List.flatMap_nil, List.append_nil]
    exact hrow
  · exact (h3.trans k1 (fun _ _ h => h)).trans hk (fun i hi h => by omega)
  · rcases hg' with rfl | h
    · exact h8
    · omega
  · rcases hg' with rfl | h
    · exact h9
    · omega
  · rcases hg' with rfl | h
    · exact h10
    · omega
  · rcases hg' with rfl | h
    · exact h11
    · rintro (ho | ho)
      · omega
      · have := hlte _ ho; omega
  · rcases hg' with rfl | h
    · exact h14
    · omega
end

/-- NewWith, and the empty row of what was told. -/
theorem queued_start (kind m : Int) (w : World) (ob : Nat) (hob : ob = w.heap.size + 1) (w2 : World) (hbq : Nat) (h2 : HeapAt w2 (w.heap.size + 3) (w.heap.size + 2) none 0 (fvOf ob) #[])
    (k2 : Kept No ((w.alloc (.cells #[.int .i64 kind, .int .i64 m] 23)).alloc (.cells (ordCells kind m) 23)) w2) (hq : hbq = w2.heap.size) :
    QueuedPost w kind m (#[], []) hbq (hbq + 1) 0 ((w2.alloc (.cells #[.pointer (some ⟨w.heap.size + 3, 0, none⟩), fvOf ob] 108)).alloc (.cells #[] 33)) := by
  subst hob hq
  have k0 : Kept No w ((w.alloc (.cells #[.int .i64 kind, .int .i64 m] 23)).alloc (.cells (ordCells kind m) 23)) := ((Kept.refl No w).alloc _).alloc _
  have ka : Kept No w2 (w2.alloc (.cells #[.pointer (some ⟨w.heap.size + 3, 0, none⟩), fvOf (w.heap.size + 1)] 108)) := (Kept.refl No w2).alloc _
  have kb : Kept No (w2.alloc (.cells #[.pointer (some ⟨w.heap.size + 3, 0, none⟩), fvOf (w.heap.size + 1)] 108)) ((w2.alloc (.cells #[.pointer (some ⟨w.heap.size + 3, 0, none⟩), fvOf (w.heap.size + 1)] 108)).alloc (.cells #[] 33)) := (Kept.refl No _).alloc _
  have kab := ka.trans kb (fun _ _ h => h)
  have hsz := k2.size
  simp only [World.size_alloc] at hsz
  have hl1 := h2.head.lt
  have hob : Blk w2 (w.heap.size + 1) (ordCells kind m) 23 := by
    have := Blk.new (w.alloc (.cells #[.int .i64 kind, .int .i64 m] 23)) (ordCells kind m) 23
    rw [World.size_alloc] at this
    exact this.kept k2 (fun h => h)
  have hrow := RowAt.new (w2.alloc (.cells #[.pointer (some ⟨w.heap.size + 3, 0, none⟩), fvOf (w.heap.size + 1)] 108)) #[] 33 2 0 rfl
  rw [World.size_alloc] at hrow
  refine ⟨w.heap.size + 3, w.heap.size + 2, none, 0, w.heap.size + 1, fvOf (w.heap.size + 1), ⟨h2.kept kab (fun _ _ h => h) (fun h => h), hob.kept kab (fun h => h), ?_⟩, hrow, (k0.trans k2 (fun _ _ h => h)).trans kab (fun _ _ h => h), by omega, by omega, by omega, (fun _ h => by cases h), by omega, by omega, by omega, ?_, (Blk.new w2 _ 108).kept kb (fun h => h), by omega, by omega, ?_⟩
  · rintro (h | h)
    · omega
    · cases h
  · rintro (h | h)
    · omega
    · cases h
  · rintro (h | h)
    · omega
    · cases h

end Go.Nl
