/- Steps done to a heap: what heaped and HeapRun leave. -/
import Derived.Test.YtgdjfgbipmajmaaBoxed
namespace Go.Nl
open Go.RowKit Go.Sort Go.Proofs

/-- What is taken or seen: the number, 0 without one, and whether there was one. -/
abbrev Got := Int × Bool
abbrev gotV (g : Got) : Value := .agg #[.int .i64 g.1, .bool g.2]
def gotCells (g : Got) : List Value := [.int .i64 g.1, .bool g.2]

theorem got_yes (x : Int) (w : World) : Calls Try.prog 59 #[box x, .bool true] w fun e w' => e = .returned (.agg #[.int .i64 x, .bool true]) ∧ Kept No w w' := by
  have ta := assert_int
  have k : Kept No w (w.alloc (.cells #[.int .i64 x, .bool true] 33)) := (Kept.refl No w).alloc _
  unfold box at *
  have K := Lib.hid k; clear k
  go_enter Try.func59, Try.ntmps59
  go_wp2
  exact bodyPost_ret (v := .agg #[.int .i64 x, .bool true]) (by simp [results, Try.results59, go_sem]) rfl ⟨rfl, K.out⟩

theorem got_no (w : World) : Calls Try.prog 59 #[.nilIface, .bool false] w fun e w' => e = .returned (.agg #[.int .i64 0, .bool false]) ∧ Kept No w w' := by
  have k : Kept No w (w.alloc (.cells #[.int .i64 0, .bool false] 33)) := (Kept.refl No w).alloc _
  have K := Lib.hid k; clear k
  go_enter Try.func59, Try.ntmps59
  go_wp2
  exact bodyPost_ret (v := .agg #[.int .i64 0, .bool false]) (by simp [results, Try.results59, go_sem]) rfl ⟨rfl, K.out⟩

/-- A step: what is done, and with which numbers. -/
abbrev Step := Int × List Int

/-- What Pop and Peek tell of a heap. -/
def seen (d : Array Int) : Got := if d.size = 0 then (0, false) else (d[0]!, true)
/-- The heap behind Pop. -/
def taken (lt : Int → Int → Bool) (d : Array Int) : Array Int := if d.size = 0 then d else popped lt d

/-- What a step makes of a heap, and of what was told. -/
def stepH (lt : Int → Int → Bool) (st : Array Int × List Got) (s : Step) : Array Int × List Got :=
  if s.1 = 1 then (pushV lt st.1 s.2, st.2)
  else if s.1 = 2 then (taken lt st.1, st.2 ++ [seen st.1])
  else if s.1 = 3 then (st.1, st.2 ++ [seen st.1])
  else if s.1 = 4 then (#[], st.2)
  else st

def runH (lt : Int → Int → Bool) (ss : List Step) : Array Int × List Got := ss.foldl (stepH lt) (#[], [])

theorem runH_snoc (lt : Int → Int → Bool) (ss : List Step) (k : Nat) (hk : k < ss.length) : runH lt (ss.take (k + 1)) = stepH lt (runH lt (ss.take k)) (ss.getD k (0, [])) := by
  unfold runH
  rw [List.take_succ_eq_append_getElem hk, List.foldl_append, List.getD_eq_getElem?_getD, List.getElem?_eq_getElem hk]
  rfl

theorem size_push1 (lt : Int → Int → Bool) (d : Array Int) (x : Int) : (push1 lt d x).size = d.size + 1 := by unfold push1; rw [size_up]; simp
theorem size_heapBuild (lt : Int → Int → Bool) (hi F : Nat) : ∀ (k : Nat) (d : Array Int), (heapBuild lt hi F k d).size = d.size
  | 0, _ => rfl
  | k + 1, d => by unfold heapBuild; rw [size_heapBuild lt hi F k, size_siftDown _ _ _ hi k d (by omega)]
theorem size_pushN (lt : Int → Int → Bool) (d : Array Int) (xs : List Int) : (pushN lt d xs).size = d.size + xs.length := by unfold pushN; rw [size_heapBuild]; simp
theorem size_pushV (lt : Int → Int → Bool) (d : Array Int) (xs : List Int) : (pushV lt d xs).size = d.size + xs.length := by
  unfold pushV
  split
  · rename_i h; rw [size_push1, h]
  · exact size_pushN lt d xs
theorem size_popped (lt : Int → Int → Bool) (d : Array Int) : (popped lt d).size = d.size - 1 := by
  unfold popped; rw [size_siftDown _ _ _ d.size 0 _ (by omega), Array.size_pop, size_swp]
theorem size_taken (lt : Int → Int → Bool) (d : Array Int) : (taken lt d).size ≤ d.size := by
  unfold taken; split
  · exact Nat.le_refl _
  · rw [size_popped]; omega

theorem size_stepH (lt : Int → Int → Bool) (st : Array Int × List Got) (s : Step) : (stepH lt st s).1.size ≤ st.1.size + s.2.length ∧ (stepH lt st s).2.length ≤ st.2.length + 1 := by
  have := size_taken lt st.1
  unfold stepH
  (repeat' split) <;> simp [size_pushV] <;> omega

/-- At most so many steps, each with at most so many numbers. -/
def Small (ss : List Step) (n b : Nat) : Prop := ss.length ≤ n ∧ ∀ s ∈ ss, s.2.length ≤ b

theorem size_runH (lt : Int → Int → Bool) (ss : List Step) (b : Nat) (h : ∀ s ∈ ss, s.2.length ≤ b) : ∀ k, k ≤ ss.length → (runH lt (ss.take k)).1.size ≤ b * k ∧ (runH lt (ss.take k)).2.length ≤ k
  | 0, _ => by simp [runH]
  | k + 1, hk => by
    obtain ⟨h1, h2⟩ := size_runH lt ss b h k (by omega)
    rw [runH_snoc lt ss k (by omega)]
    obtain ⟨h3, h4⟩ := size_stepH lt (runH lt (ss.take k)) (ss.getD k (0, []))
    have h5 : (ss.getD k (0, [])).2.length ≤ b := by
      rw [List.getD_eq_getElem?_getD, List.getElem?_eq_getElem (by omega)]
      exact h _ (List.getElem_mem _)
    rw [Nat.mul_add, Nat.mul_one]
    exact ⟨by omega, by omega⟩

/-- The slice of steps, as it lies in memory. -/
def StepsAt (w : World) (ad : Option Addr) (ss : List Step) : Prop :=
  ∀ j, j < ss.length → ∃ sb so va n', ad = some ⟨sb, so, none⟩ ∧ w.cell? ⟨sb, so + j * 2, none⟩ = some (.int .i64 (ss.getD j (0, [])).1) ∧
    w.cell? ⟨sb, so + j * 2 + 1, none⟩ = some (.slice va (ss.getD j (0, [])).2.length n') ∧ CellsAt w va ((ss.getD j (0, [])).2.map intV)

theorem cell_lt {w : World} {b o : Nat} {v : Value} (h : w.cell? ⟨b, o, none⟩ = some v) : b < w.heap.size := by
  obtain ⟨c, e, fr, hb, _⟩ := Go.Sort.cells_of_cell? h
  exact (Array.getElem?_eq_some_iff.1 hb).1
theorem cell_keptNo {w w' : World} {b o : Nat} {v : Value} (h : w.cell? ⟨b, o, none⟩ = some v) (k : Kept No w w') : w'.cell? ⟨b, o, none⟩ = some v := by
  rw [← h]; exact World.cell?_of_block (w := w) (k.block b (cell_lt h) (fun h => h))

theorem StepsAt.keptNo {w w' : World} {ad : Option Addr} {ss : List Step} (h : StepsAt w ad ss) (k : Kept No w w') : StepsAt w' ad ss := by
  intro j hj
  obtain ⟨sb, so, va, n', ha, h1, h2, h3⟩ := h j hj
  exact ⟨sb, so, va, n', ha, cell_keptNo h1 k, cell_keptNo h2 k, h3.keptNo k⟩

/-- What heaped hands back: a heap in new memory, and what was told, in a new row. -/
def HeapedPost (w : World) (kind m : Int) (st : Array Int × List Got) (hb g cap : Nat) (w' : World) : Prop :=
  ∃ lb ao c ob, HO w' hb lb ao c ob kind m st.1 ∧ RowAt w' g st.2.length cap 33 2 (st.2.flatMap gotCells) ∧ Kept No w w' ∧
    w.heap.size ≤ hb ∧ w.heap.size ≤ lb ∧ w.heap.size ≤ ob ∧ (∀ eb, ao = some eb → w.heap.size ≤ eb) ∧ w.heap.size ≤ g ∧ g ≠ hb ∧ g ≠ ob ∧ ¬ own lb ao g

theorem info33 : (Try.prog.info? 33).map (fun i => (i.zero, i.size, i.bytes)) = some (some (.agg #[.int .i64 0, .bool false]), 2, 16) := by kernel_rfl
theorem und27 : Try.prog.underlying 27 = some (.slice 33) := by kernel_rfl
theorem i33_parts : ∃ i, Try.prog.info? 33 = some i ∧ i.zero = some (.agg #[.int .i64 0, .bool false]) ∧ i.size = 2 ∧ i.bytes = 16 := by
  obtain ⟨i, hi, h⟩ := Option.map_eq_some_iff.1 info33
  simp only [Prod.mk.injEq] at h
  exact ⟨i, hi, h.1, h.2.1, h.2.2⟩

section
variable {w wr : World} {kind m : Int} {st : Array Int × List Got} {hb g cap : Nat}

theorem HeapedPost.keptNo {wr' : World} (h : HeapedPost w kind m st hb g cap wr) (k : Kept No wr wr') : HeapedPost w kind m st hb g cap wr' := by
  obtain ⟨lb, ao, c, ob, h1, h2, h3, h4, h5, h6, h7, h8, h9, h10, h11⟩ := h
  exact ⟨lb, ao, c, ob, h1.kept k (fun _ _ h => h) (fun h => h) (fun h => h), h2.kept k (fun h => h), h3.trans k (fun _ _ h => h), h4, h5, h6, h7, h8, h9, h10, h11⟩

theorem HeapedPost.size (h : HeapedPost w kind m st hb g cap wr) : w.heap.size ≤ wr.heap.size := by
  obtain ⟨lb, ao, c, ob, h1, h2, h3, _⟩ := h
  exact h3.size

theorem HeapedPost.keptw (h : HeapedPost w kind m st hb g cap wr) : Kept No w wr := by
  obtain ⟨lb, ao, c, ob, h1, h2, h3, _⟩ := h
  exact h3

/-- A method has left the heap changed. -/
theorem HeapedPost.left {lb : Nat} {ao : Option Nat} {ob : Nat} {d' : Array Int} {w' : World} (hR : RowAt wr g st.2.length cap 33 2 (st.2.flatMap gotCells)) (hK : Kept No w wr)
    (h4 : w.heap.size ≤ hb) (h5 : w.heap.size ≤ lb) (h6 : w.heap.size ≤ ob) (h7 : ∀ eb, ao = some eb → w.heap.size ≤ eb) (h8 : w.heap.size ≤ g) (h9 : g ≠ hb) (h10 : g ≠ ob) (h11 : ¬ own lb ao g)
    (l : Left wr hb lb ao ob kind m d' w') : HeapedPost w kind m (d', st.2) hb g cap w' := by
  obtain ⟨ao', c', hh, hk, hm⟩ := l
  have hg := hR.lt
  refine ⟨lb, ao', c', ob, hh, hR.kept hk h11, hK.trans hk ?_, h4, h5, h6, ?_, h8, h9, h10, fun ho => h11 (hm.own g hg ho)⟩
  · intro i hi ho
    rcases ho with ho | ho
    · omega
    · have := h7 i ho; omega
  · intro eb he
    rcases hm with rfl | ⟨n, rfl, hn⟩
    · exact h7 eb he
    · injection he with he
      have := hK.size
      omega

theorem HO.ownLt {hb lb : Nat} {ao : Option Nat} {c ob : Nat} {d : Array Int} (h : HO wr hb lb ao c ob kind m d) : ∀ i, own lb ao i → i < wr.heap.size := by
  rintro i (rfl | ho)
  · exact h.heap.list.head.lt
  · subst ho
    obtain ⟨_, cs, hE⟩ := h.heap.list.elems
    exact hE.blk.lt

theorem HeapedPost.push (h : HeapedPost w kind m st hb g cap wr) (ok : OrdOk kind m) (xs : List Int) (gb capb : Nat) (w3 : World) (hx : BoxedRow wr xs gb capb w3) (hd : st.1.size + xs.length ≤ 1048576) :
    Calls Try.prog 58 #[.pointer (some ⟨hb, 0, none⟩), .slice (some ⟨gb, 0, none⟩) xs.length capb] w3 fun e w' => e = .returned (.tuple #[]) ∧ HeapedPost w kind m (pushV (ltK kind m) st.1 xs, st.2) hb g cap w' := by
  obtain ⟨hrow, k, hgb⟩ := hx
  obtain ⟨lb, ao, c, ob, h1, h2, h3, h4, h5, h6, h7, h8, h9, h10, h11⟩ := h
  refine (push_any (h1.kept k (fun _ _ h => h) (fun h => h) (fun h => h)) ok xs _ capb hrow.cells ?_ hd).mono ?_
  · intro a ha ho
    injection ha with ha
    subst ha
    have := h1.ownLt _ ho
    simp at this; omega
  · rintro e w' ⟨he, hl⟩
    exact ⟨he, HeapedPost.left (h2.kept k (fun h => h)) (h3.trans k (fun _ _ h => h)) h4 h5 h6 h7 h8 h9 h10 h11 hl⟩

theorem HeapedPost.pop_some (h : HeapedPost w kind m st hb g cap wr) (ok : OrdOk kind m) (hd : 0 < st.1.size) (hdb : st.1.size ≤ 1048576) :
    Calls Try.prog 60 #[.pointer (some ⟨hb, 0, none⟩)] wr fun e w' => e = .returned (.tuple #[box st.1[0]!, .bool true]) ∧ HeapedPost w kind m (popped (ltK kind m) st.1, st.2) hb g cap w' := by
  obtain ⟨lb, ao, c, ob, h1, h2, h3, h4, h5, h6, h7, h8, h9, h10, h11⟩ := h
  refine (Go.Nl.pop_some h1 ok hd (by omega)).mono ?_
  rintro e w' ⟨he, hl⟩
  exact ⟨he, HeapedPost.left h2 h3 h4 h5 h6 h7 h8 h9 h10 h11 hl⟩

theorem HeapedPost.pop_none (h : HeapedPost w kind m st hb g cap wr) (hd : st.1.size = 0) :
    Calls Try.prog 60 #[.pointer (some ⟨hb, 0, none⟩)] wr fun e w' => e = .returned (.tuple #[.nilIface, .bool false]) ∧ wr = w' := by
  obtain ⟨lb, ao, c, ob, h1, _⟩ := h
  exact Go.Nl.pop_none h1 hd

theorem HeapedPost.peek_some (h : HeapedPost w kind m st hb g cap wr) (hd : 0 < st.1.size) :
    Calls Try.prog 61 #[.pointer (some ⟨hb, 0, none⟩)] wr fun e w' => e = .returned (.tuple #[box st.1[0]!, .bool true]) ∧ wr = w' := by
  obtain ⟨lb, ao, c, ob, h1, _⟩ := h
  exact Go.Nl.peek_some h1 hd

theorem HeapedPost.peek_none (h : HeapedPost w kind m st hb g cap wr) (hd : st.1.size = 0) :
    Calls Try.prog 61 #[.pointer (some ⟨hb, 0, none⟩)] wr fun e w' => e = .returned (.tuple #[.nilIface, .bool false]) ∧ wr = w' := by
  obtain ⟨lb, ao, c, ob, h1, _⟩ := h
  exact Go.Nl.peek_none h1 hd

theorem HeapedPost.clear (h : HeapedPost w kind m st hb g cap wr) :
    Calls Try.prog 62 #[.pointer (some ⟨hb, 0, none⟩)] wr fun e w' => e = .returned (.tuple #[]) ∧ HeapedPost w kind m (#[], st.2) hb g cap w' := by
  obtain ⟨lb, ao, c, ob, h1, h2, h3, h4, h5, h6, h7, h8, h9, h10, h11⟩ := h
  refine (heapClear_any h1).mono ?_
  rintro e w' ⟨he, hl⟩
  exact ⟨he, HeapedPost.left h2 h3 h4 h5 h6 h7 h8 h9 h10 h11 hl⟩

theorem HeapedPost.app (h : HeapedPost w kind m st hb g cap wr) (x : Int) (b : Bool) (hn : st.2.length ≤ 100000) :
    ∃ g' cap' w', (Builtin.append_ #[27, 27] 27 #[.slice (some ⟨g, 0, none⟩) st.2.length cap, .slice (some ⟨wr.heap.size, 0, none⟩) 1 1]).run Try.prog (wr.alloc (.cells #[.int .i64 x, .bool b] 33)) =
      .ok (.slice (some ⟨g', 0, none⟩) (st.2.length + 1) cap') w' ∧ HeapedPost w kind m (st.1, st.2 ++ [(x, b)]) hb g' cap' w' := by
  obtain ⟨lb, ao, c, ob, h1, h2, h3, h4, h5, h6, h7, h8, h9, h10, h11⟩ := h
  obtain ⟨i, hi, hz, hs, hby⟩ := i33_parts
  have k1 : Kept No wr (wr.alloc (.cells #[.int .i64 x, .bool b] 33)) := (Kept.refl No wr).alloc _
  obtain ⟨g', cap', w', hr, hrow, hk, hg⟩ := append_row (P := Try.prog) 27 27 i (.agg #[.int .i64 0, .bool false]) 2 16 (h2.kept k1 (fun h => h)) und27 hi hz hs hby rfl ⟨wr.heap.size, 0, none⟩ 1 1 [.int .i64 x, .bool b] rfl
    (fun j u hu => by rw [add_zero_off]; exact (RowAt.new wr #[.int .i64 x, .bool b] 33 2 1 rfl).cell j u hu) (fun u hu => by simp at hu; rcases hu with rfl | rfl <;> rfl) (by omega) (by omega)
  have hlt1 := h1.heap.head.lt
  have hlt2 := h1.ord.lt
  have hlt3 := h1.heap.list.head.lt
  have hlte : ∀ eb, ao = some eb → eb < wr.heap.size := fun eb he => h1.ownLt eb (Or.inr he)
  have hs0 := h3.size
  have hg' : g' = g ∨ wr.heap.size + 1 ≤ g' := by simpa using hg
  refine ⟨g', cap', w', hr, lb, ao, c, ob, ?_, ?_, ?_, h4, h5, h6, h7, ?_, ?_, ?_, ?_⟩
  · refine (h1.kept k1 (fun _ _ h => h) (fun h => h) (fun h => h)).kept hk ?_ (fun h => h9 h.symm) (fun h => h10 h.symm)
    intro i ho he
    exact h11 (by rw [← he]; exact ho)
  · simp only [List.length_append, List.length_cons, List.length_nil, List.flatMap_append, List.flatMap_cons, List.flatMap_nil, List.append_nil]
    exact hrow
  · exact (h3.trans k1 (fun _ _ h => h)).trans hk (fun i hi h => by omega)
  · rcases hg' with rfl | h
    · exact h8
    · omega
  · rcases hg' with rfl | h
    · exact h9
    · omega
  · rcases hg' with rfl | h
    · exact h10
    · omega
  · rcases hg' with rfl | h
    · exact h11
    · rintro (ho | ho)
      · omega
      · have := hlte _ ho; omega
end

set_option maxHeartbeats 4000000 in
set_option maxRecDepth 100000 in
theorem heaped_any (kind m : Int) (ok : OrdOk kind m) (ss : List Step) (hss : Small ss 1000 1000) (ad : Option Addr) (n' : Nat) (w : World) (hs : StepsAt w ad ss) :
    Calls Try.prog 42 #[.agg #[.int .i64 kind, .int .i64 m], .slice ad ss.length n'] w fun e w' => ∃ hb g cap, e = .returned (.tuple #[.pointer (some ⟨hb, 0, none⟩), .slice (some ⟨g, 0, none⟩) (runH (ltK kind m) ss).2.length cap]) ∧
      HeapedPost w kind m (runH (ltK kind m) ss) hb g cap w' := by
  obtain ⟨n, hn⟩ : ∃ n, ss.length = n := ⟨_, rfl⟩
  have hnb : n ≤ 1000 := by rw [← hn]; exact hss.1
  rw [hn]
  have HS := Lib.hid hs; have HN := Lib.hid hn; have HSS := Lib.hid hss
  clear hs hn hss
  have hby := by_any kind m
  go_enter Try.func42, Try.ntmps42
  go_wp2_with fail
  refine (hby _).mono ?_
  rintro e w1 ⟨rfl, rfl⟩
  go_wp2_with fail
  refine (newWith_any _ _).mono ?_
  rintro e w2 ⟨rfl, h2, k2⟩
  have start : HeapedPost w kind m (#[], []) (w.heap.size + 1 + 1 + 1) w2.heap.size 0 (w2.alloc (.cells #[] 33)) := by
    have k0 : Kept No w ((w.alloc (.cells #[.int .i64 kind, .int .i64 m] 23)).alloc (.cells (ordCells kind m) 23)) := ((Kept.refl No w).alloc _).alloc _
    have ka : Kept No w2 (w2.alloc (.cells #[] 33)) := (Kept.refl No w2).alloc _
    have hsz := k2.size
    simp only [World.size_alloc] at h2 k2 hsz
    have hl1 := h2.head.lt
    have hl2 := h2.list.head.lt
    have hob : Blk w2 (w.heap.size + 1) (ordCells kind m) 23 := by
      have := Blk.new (w.alloc (.cells #[.int .i64 kind, .int .i64 m] 23)) (ordCells kind m) 23
      rw [World.size_alloc] at this
      exact this.kept k2 (fun h => h)
    refine ⟨w.heap.size + 1 + 1, none, 0, w.heap.size + 1, ⟨h2.kept ka (fun _ _ h => h) (fun h => h), hob.kept ka (fun h => h), ?_⟩, RowAt.new w2 #[] 33 2 0 rfl, (k0.trans k2 (fun _ _ h => h)).trans ka (fun _ _ h => h), by omega, by omega, by omega, (fun _ h => by cases h), by omega, by omega, by omega, ?_⟩
    · rintro (h | h)
      · omega
      · cases h
    · rintro (h | h)
      · omega
      · cases h
  have H0 := Lib.hid start; clear start h2 k2
  go_wp2_with fail
  go_loopg [7, 16] (n + 1) (fun g s7 si wr => ∃ k gb cap kl : Nat, s7 = .slice (some ⟨gb, 0, none⟩) kl cap ∧ si = .int .i64 k ∧ k ≤ n ∧ n + 1 - k ≤ g ∧ Hid (kl = (runH (ltK kind m) (ss.take k)).2.length ∧ HeapedPost w kind m (runH (ltK kind m) (ss.take k)) (w.heap.size + 1 + 1 + 1) gb cap wr))
  case atStart => exact ⟨0, _, 0, 0, rfl, rfl, by omega, by omega, ⟨rfl, H0.out⟩⟩
  case round =>
    obtain ⟨k, gb, cap, kl, rfl, rfl, hk, hg, HR⟩ := hrel
    by_cases hkn : k < n
    · have hkl : k < ss.length := by rw [HN.out]; exact hkn
      obtain ⟨sb, so, va, vn, had, ho, hv, hcs⟩ := (HS.out.keptNo HR.out.2.keptw) k hkl
      subst had
      have hstep := runH_snoc (ltK kind m) ss k hkl
      have hsmall := size_runH (ltK kind m) ss 1000 HSS.out.2 k (by omega)
      have hlen1 : (ss.getD k (0, [])).2.length ≤ 1000 := by
        rw [List.getD_eq_getElem?_getD, List.getElem?_eq_getElem hkl]
        exact HSS.out.2 _ (List.getElem_mem _)
      generalize hst : runH (ltK kind m) (ss.take k) = st at hstep hsmall HR
      generalize ss.getD k (0, []) = s at ho hv hcs hstep hlen1
      obtain ⟨op, vals⟩ := s
      simp only at ho hv hcs hlen1
      have hsz1 : st.1.size ≤ 1000000 := by have := hsmall.1; omega
      have hsz2 : st.2.length ≤ 1000 := by have := hsmall.2; omega
      have hlt := cell_lt ho
      have k1 : Kept No wr (wr.alloc (.cells #[.int .i64 op, .slice va vals.length vn] 31)) := (Kept.refl No wr).alloc _
      have P1 := Lib.hid (HR.out.2.keptNo k1)
      have C1 := Lib.hid (hcs.keptNo k1)
      have HST := Lib.hid hstep
      have HKL := HR.out.1
      clear hsmall hcs hstep k1 hst HR
      subst HKL
      by_cases o1 : op = 1
      · subst o1
        go_wp2_with fail
        refine (boxed_any vals va vn _ C1.out (by omega)).mono ?_
        rintro e w3 ⟨gb2, capb, rfl, hbx⟩
        have HP := Lib.hid (P1.out.push ok vals gb2 capb w3 hbx (by omega)); clear hbx
        go_wp2_with fail
        refine HP.out.mono ?_
        rintro e w4 ⟨rfl, hp⟩
        have P4 := Lib.hid hp; clear hp
        go_wp2_with fail
        go_roundg (n + 1 - (k + 1))
        case measure => omega
        case rel =>
          refine ⟨k + 1, gb, cap, _, rfl, by go_num, by omega, by omega, ?_⟩
          show _ ∧ _
          rw [HST.out]
          exact ⟨by simp [stepH], by simpa [stepH] using P4.out⟩
      · have o1' : (op == 1) = false := beq_eq_false_iff_ne.2 o1
        by_cases o2 : op = 2
        · subst o2
          by_cases hd0 : st.1.size = 0
          · have hd := hd0
            go_wp2_with fail
            refine (P1.out.pop_none hd).mono ?_
            rintro e w3 ⟨rfl, hw3⟩
            have P3 := Lib.hid (show HeapedPost _ _ _ _ _ _ _ w3 from hw3 ▸ P1.out); clear hw3
            go_wp2_with fail
            refine (got_no _).mono ?_
            rintro e w4 ⟨rfl, k4⟩
            obtain ⟨g', cap', w5, hr, hp5⟩ := (P3.out.keptNo k4).app (0) false (by simpa using (by omega : st.2.length ≤ 100000))
            have HA := Lib.hid hr; have P5 := Lib.hid hp5; clear hr hp5 k4
            go_wp2_with (at_builtin; refine wpList_append_run rfl (.tmp 31) (.tmp 37) 27 rfl _ _ _ rfl rfl HA.out ?_)
            go_roundg (n + 1 - (k + 1))
            case measure => omega
            case rel =>
              refine ⟨k + 1, g', cap', _, rfl, by go_num, by omega, by omega, ?_⟩
              show _ ∧ _
              rw [HST.out]
              have e : stepH (ltK kind m) st (2, vals) = (st.1, st.2 ++ [(0, false)]) := by simp [stepH, taken, seen, hd0]
              rw [e]
              exact ⟨by simp, P5.out⟩
          · have hd : 0 < st.1.size := by omega
            obtain ⟨x0, hx0⟩ : ∃ x, st.1[0]! = x := ⟨_, rfl⟩
            have hpp := P1.out.pop_some ok hd (by omega)
            have EE := Lib.hid (show stepH (ltK kind m) st (2, vals) = (popped (ltK kind m) st.1, st.2 ++ [(x0, true)]) by rw [← hx0]; simp [stepH, taken, seen, hd0])
            rw [hx0] at hpp
            have HPP := Lib.hid hpp; clear hpp hx0
            go_wp2_with fail
            refine HPP.out.mono ?_
            rintro e w3 ⟨rfl, hp⟩
            have P3 := Lib.hid hp; clear hp
            go_wp2_with fail
            refine (got_yes _ _).mono ?_
            rintro e w4 ⟨rfl, k4⟩
            obtain ⟨g', cap', w5, hr, hp5⟩ := (P3.out.keptNo k4).app x0 true (by simpa using (by omega : st.2.length ≤ 100000))
            have HA := Lib.hid hr; have P5 := Lib.hid hp5; clear hr hp5 k4
            go_wp2_with (at_builtin; refine wpList_append_run rfl (.tmp 31) (.tmp 37) 27 rfl _ _ _ rfl rfl HA.out ?_)
            go_roundg (n + 1 - (k + 1))
            case measure => omega
            case rel =>
              refine ⟨k + 1, g', cap', _, rfl, by go_num, by omega, by omega, ?_⟩
              show _ ∧ _
              rw [HST.out]
              have e := EE.out
              rw [e]
              exact ⟨by simp, P5.out⟩
        · have o2' : (op == 2) = false := beq_eq_false_iff_ne.2 o2
          by_cases o3 : op = 3
          · subst o3
            by_cases hd0 : st.1.size = 0
            · have hd := hd0
              go_wp2_with fail
              refine (P1.out.peek_none hd).mono ?_
              rintro e w3 ⟨rfl, hw3⟩
              have P3 := Lib.hid (show HeapedPost _ _ _ _ _ _ _ w3 from hw3 ▸ P1.out); clear hw3
              go_wp2_with fail
              refine (got_no _).mono ?_
              rintro e w4 ⟨rfl, k4⟩
              obtain ⟨g', cap', w5, hr, hp5⟩ := (P3.out.keptNo k4).app (0) false (by simpa using (by omega : st.2.length ≤ 100000))
              have HA := Lib.hid hr; have P5 := Lib.hid hp5; clear hr hp5 k4
              go_wp2_with (at_builtin; refine wpList_append_run rfl (.tmp 41) (.tmp 47) 27 rfl _ _ _ rfl rfl HA.out ?_)
              go_roundg (n + 1 - (k + 1))
              case measure => omega
              case rel =>
                refine ⟨k + 1, g', cap', _, rfl, by go_num, by omega, by omega, ?_⟩
                show _ ∧ _
                rw [HST.out]
                have e : stepH (ltK kind m) st (3, vals) = (st.1, st.2 ++ [(0, false)]) := by simp [stepH, seen, hd0]
                rw [e]
                exact ⟨by simp, P5.out⟩
            · have hd : 0 < st.1.size := by omega
              obtain ⟨x0, hx0⟩ : ∃ x, st.1[0]! = x := ⟨_, rfl⟩
              have hpp := P1.out.peek_some hd
              have EE := Lib.hid (show stepH (ltK kind m) st (3, vals) = (st.1, st.2 ++ [(x0, true)]) by rw [← hx0]; simp [stepH, seen, hd0])
              rw [hx0] at hpp
              have HPP := Lib.hid hpp; clear hpp hx0
              go_wp2_with fail
              refine HPP.out.mono ?_
              rintro e w3 ⟨rfl, hw3⟩
              have P3 := Lib.hid (show HeapedPost _ _ _ _ _ _ _ w3 from hw3 ▸ P1.out); clear hw3
              go_wp2_with fail
              refine (got_yes _ _).mono ?_
              rintro e w4 ⟨rfl, k4⟩
              obtain ⟨g', cap', w5, hr, hp5⟩ := (P3.out.keptNo k4).app x0 true (by simpa using (by omega : st.2.length ≤ 100000))
              have HA := Lib.hid hr; have P5 := Lib.hid hp5; clear hr hp5 k4
              go_wp2_with (at_builtin; refine wpList_append_run rfl (.tmp 41) (.tmp 47) 27 rfl _ _ _ rfl rfl HA.out ?_)
              go_roundg (n + 1 - (k + 1))
              case measure => omega
              case rel =>
                refine ⟨k + 1, g', cap', _, rfl, by go_num, by omega, by omega, ?_⟩
                show _ ∧ _
                rw [HST.out]
                have e := EE.out
                rw [e]
                exact ⟨by simp, P5.out⟩
          · have o3' : (op == 3) = false := beq_eq_false_iff_ne.2 o3
            by_cases o4 : op = 4
            · subst o4
              go_wp2_with fail
              refine P1.out.clear.mono ?_
              rintro e w4 ⟨rfl, hp⟩
              have P4 := Lib.hid hp; clear hp
              go_wp2_with fail
              go_roundg (n + 1 - (k + 1))
              case measure => omega
              case rel =>
                refine ⟨k + 1, gb, cap, _, rfl, by go_num, by omega, by omega, ?_⟩
                show _ ∧ _
                rw [HST.out]
                exact ⟨by simp [stepH], by simpa [stepH] using P4.out⟩
            · have o4' : (op == 4) = false := beq_eq_false_iff_ne.2 o4
              go_wp2_with fail
              go_roundg (n + 1 - (k + 1))
              case measure => omega
              case rel =>
                refine ⟨k + 1, gb, cap, _, rfl, by go_num, by omega, by omega, ?_⟩
                show _ ∧ _
                rw [HST.out]
                exact ⟨by simp [stepH, o1, o2, o3, o4], by simpa [stepH, o1, o2, o3, o4] using P1.out⟩
    · obtain rfl : k = n := by omega
      go_wp2_with fail
      go_ret2
      obtain ⟨h1, h2⟩ := HR.out
      rw [List.take_of_length_le (by rw [HN.out]; omega)] at h1 h2
      subst h1
      exact ⟨_, gb, cap, rfl, h2⟩

end Go.Nl
