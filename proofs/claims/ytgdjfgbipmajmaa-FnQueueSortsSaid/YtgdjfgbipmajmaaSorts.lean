/- What was put in is taken out in order: the plain law, and the statement's own slices. -/
import Derived.Test.YtgdjfgbipmajmaaSpecB
import Derived.Test.YtgdjfgbipmajmaaPeeked
namespace Go.Nl
open Go.RowKit Go.Sort Go.Proofs

/-- All numbers put in, then so many taken. -/
def sortSteps (vals : List Int) (k : Nat) : List Step := (1, vals) :: List.replicate k (2, [])

theorem sortSteps_succ (vals : List Int) (k : Nat) : sortSteps vals (k + 1) = sortSteps vals k ++ [(2, [])] := by
  unfold sortSteps
  rw [List.replicate_succ', List.cons_append]

theorem runS_sorts {lt : Int → Int → Bool} {vals L : List Int} (hp : L.Perm vals) (ho : InOrd lt L) : ∀ k, k ≤ L.length → RunS lt (sortSteps vals k) (L.drop k, (L.take k).map fun x => (x, true))
  | 0, _ => by
    have h : RunS lt ([] ++ [(1, vals)]) (L, []) := RunS.nil.snoc (by unfold StepS; rw [if_pos rfl]; exact ⟨rfl, by simpa using hp, ho⟩)
    simpa [sortSteps] using h
  | k + 1, hk => by
    rw [sortSteps_succ]
    refine (runS_sorts hp ho k (by omega)).snoc ?_
    unfold StepS
    rw [if_neg (by simp), if_pos rfl]
    rw [List.drop_eq_getElem_cons (show k < L.length by omega), List.take_succ_eq_append_getElem (show k < L.length by omega)]
    simp only [seenL, List.map_append, List.map_cons, List.map_nil, List.tail_cons]

theorem runS_sortsAll {lt : Int → Int → Bool} {vals L : List Int} (hp : L.Perm vals) (ho : InOrd lt L) : RunS lt (sortSteps vals (L.length + 1)) ([], (L.map fun x => (x, true)) ++ [(0, false)]) := by
  rw [sortSteps_succ]
  have h := runS_sorts hp ho L.length (Nat.le_refl _)
  rw [List.drop_length, List.take_length] at h
  refine h.snoc ?_
  unfold StepS
  rw [if_neg (by simp), if_pos rfl]
  rfl

/-- The cells of the statement's steps. -/
def stepCells (ad : Option Addr) (n n' k : Nat) : List Value := [.int .i64 1, .slice ad n n'] ++ (List.replicate k (2 : Int)).flatMap fun o => [.int .i64 o, .slice none 0 0]

theorem stepCells_succ (ad : Option Addr) (n n' k : Nat) : stepCells ad n n' k ++ [.int .i64 2, .slice none 0 0] = stepCells ad n n' (k + 1) := by
  unfold stepCells
  rw [List.replicate_succ', List.flatMap_append, List.append_assoc]
  rfl

theorem stepsAt_sorts {w : World} {g c k n' : Nat} {ad : Option Addr} {vals : List Int} (h : RowAt w g (k + 1) c 31 2 (stepCells ad vals.length n' k)) (hv : CellsAt w ad (vals.map intV)) : StepsAt w (some ⟨g, 0, none⟩) (sortSteps vals k) := by
  have h1 : StepVals w [.int .i64 1, .slice ad vals.length n'] [(1, vals)] := ⟨rfl, fun v hv => by simp at hv; rcases hv with rfl | rfl <;> rfl, fun j hj => by
    have : j = 0 := by simpa using hj
    subst this
    exact ⟨ad, n', rfl, rfl, hv⟩⟩
  have h2 := StepVals.bare w (List.replicate k 2)
  rw [List.map_replicate] at h2
  exact (h1.append h2).at h.cells

/-- One more taking. -/
theorem steps_app {V X : World} {g k c n n' gT : Nat} {ad : Option Addr} (h : RowAt V g (k + 1) c 31 2 (stepCells ad n n' k)) (hX : Kept No V X) (hT : CellsAt X (some ⟨gT, 0, none⟩) [.int .i64 2, .slice none 0 0]) (hk : k ≤ 1000) :
    ∃ g' c' w', (Builtin.append_ #[24, 24] 24 #[.slice (some ⟨g, 0, none⟩) (k + 1) c, .slice (some ⟨gT, 0, none⟩) 1 1]).run Try.prog X = .ok (.slice (some ⟨g', 0, none⟩) (k + 1 + 1) c') w' ∧
      RowAt w' g' (k + 1 + 1) c' 31 2 (stepCells ad n n' (k + 1)) ∧ Kept (fun i => i = g) X w' ∧ (g' = g ∨ X.heap.size ≤ g') := by
  obtain ⟨i, hi, hz, hs, hb⟩ := i31_parts
  obtain ⟨g', c', w', hr, hrow, hk, hg⟩ := append_src (P := Try.prog) 24 24 i (.agg #[.int .i64 0, .slice none 0 0]) 2 32 (h.kept hX (fun h => h)) (by kernel_rfl) hi hz hs hb rfl (by omega) (some ⟨gT, 0, none⟩) 1 1 [.int .i64 2, .slice none 0 0] rfl hT
    (fun h => by cases h) (by simp [Value.oneCell']) (by omega) (by omega)
  rw [stepCells_succ] at hrow
  exact ⟨g', c', w', hr, hrow, hk, hg⟩

/-- One more thing told. -/
theorem gots_app {V X : World} {g k c gT : Nat} {gs : List Got} (h : RowAt V g k c 33 2 (gs.flatMap gotCells)) (hX : Kept No V X) (x : Int) (b : Bool) (hT : CellsAt X (some ⟨gT, 0, none⟩) [.int .i64 x, .bool b]) (hk : k ≤ 100000) :
    ∃ g' c' w', (Builtin.append_ #[27, 27] 27 #[.slice (some ⟨g, 0, none⟩) k c, .slice (some ⟨gT, 0, none⟩) 1 1]).run Try.prog X = .ok (.slice (some ⟨g', 0, none⟩) (k + 1) c') w' ∧
      RowAt w' g' (k + 1) c' 33 2 ((gs ++ [(x, b)]).flatMap gotCells) ∧ Kept (fun i => i = g) X w' ∧ (g' = g ∨ X.heap.size ≤ g') := by
  obtain ⟨i, hi, hz, hs, hb⟩ := i33_parts
  obtain ⟨g', c', w', hr, hrow, hk, hg⟩ := append_src (P := Try.prog) 27 27 i (.agg #[.int .i64 0, .bool false]) 2 16 (h.kept hX (fun h => h)) und27 hi hz hs hb rfl (by omega) (some ⟨gT, 0, none⟩) 1 1 [.int .i64 x, .bool b] rfl hT
    (fun h => by cases h) (by simp [Value.oneCell']) (by omega) (by omega)
  refine ⟨g', c', w', hr, ?_, hk, hg⟩
  rw [List.flatMap_append, List.flatMap_cons, List.flatMap_nil, List.append_nil]
  exact hrow

/-- What the statement's loop holds. -/
structure SortsAt (w : World) (ad : Option Addr) (vals : List Int) (n' : Nat) (adL : Option Addr) (cL : Nat) (L : List Int) (k g5 c5 g6 c6 : Nat) (wr : World) : Prop where
  nums : CellsAt wr ad (vals.map intV)
  list : OwnRow w.heap.size wr adL L.length cL 3 1 (L.map intV)
  steps : RowAt wr g5 (k + 1) c5 31 2 (stepCells ad vals.length n' k)
  want : RowAt wr g6 k c6 33 2 (((L.take k).map fun x => (x, true)).flatMap gotCells)
  kept : Kept No w wr
  new5 : w.heap.size ≤ g5
  new6 : w.heap.size ≤ g6
  ne : g5 ≠ g6
  ap5 : 0 < cL → adL ≠ some ⟨g5, 0, none⟩
  ap6 : 0 < cL → adL ≠ some ⟨g6, 0, none⟩
  old : ∀ a, ad = some a → 0 < vals.length → a.block < w.heap.size

def sObj : Obj := .cells #[.int .i64 2, .slice none 0 0] 31
def gObj (x : Int) (b : Bool) : Obj := .cells #[.int .i64 x, .bool b] 33

section
variable {w wr : World} {ad adL : Option Addr} {vals L : List Int} {n' cL k g5 c5 g6 c6 : Nat}

theorem SortsAt.keptNo {wr' : World} (h : SortsAt w ad vals n' adL cL L k g5 c5 g6 c6 wr) (q : Kept No wr wr') : SortsAt w ad vals n' adL cL L k g5 c5 g6 c6 wr' :=
  ⟨h.nums.keptNo q, h.list.keptNo q, h.steps.kept q (fun h => h), h.want.kept q (fun h => h), h.kept.trans q (fun _ _ h => h), h.new5, h.new6, h.ne, h.ap5, h.ap6, h.old⟩

theorem cells_own {S : Nat → Prop} {w' : World} (hv : CellsAt wr ad (vals.map intV)) (q : Kept S wr w') (hS : ∀ a, ad = some a → 0 < vals.length → ¬ S a.block) : CellsAt w' ad (vals.map intV) := by
  by_cases h0 : 0 < vals.length
  · exact hv.kept q (fun a ha _ => hS a ha h0)
  · obtain rfl : vals = [] := List.eq_nil_of_length_eq_zero (by omega)
    intro j v hj; simp at hj

/-- Both slices have been appended to. -/
theorem SortsAt.round (h : SortsAt w ad vals n' adL cL L k g5 c5 g6 c6 wr) (hk : k < L.length) (hL : L.length ≤ 1000) (x : Int) (hx : L[k]? = some x) :
    ∃ g' c' w1, (Builtin.append_ #[24, 24] 24 #[.slice (some ⟨g5, 0, none⟩) (k + 1) c5, .slice (some ⟨wr.heap.size, 0, none⟩) 1 1]).run Try.prog (wr.alloc (.cells #[.int .i64 2, .slice none 0 0] 31)) = .ok (.slice (some ⟨g', 0, none⟩) (k + 1 + 1) c') w1 ∧
    ∃ g'' c'' w2, (Builtin.append_ #[27, 27] 27 #[.slice (some ⟨g6, 0, none⟩) k c6, .slice (some ⟨w1.heap.size, 0, none⟩) 1 1]).run Try.prog (w1.alloc (.cells #[.int .i64 x, .bool true] 33)) = .ok (.slice (some ⟨g'', 0, none⟩) (k + 1) c'') w2 ∧
      SortsAt w ad vals n' adL cL L (k + 1) g' c' g'' c'' w2 := by
  have q1 : Kept No wr (wr.alloc (.cells #[.int .i64 2, .slice none 0 0] 31)) := (Kept.refl No wr).alloc _
  obtain ⟨g', c', w1, hr1, hrow1, hk1, hg1⟩ := steps_app h.steps q1 (RowAt.new wr #[.int .i64 2, .slice none 0 0] 31 2 1 rfl).cells (by omega)
  have s5 := h.steps.lt; have s6 := h.want.lt; have sw := h.kept.size; have s1 := hk1.size
  simp only [World.size_alloc] at hg1 s1
  have hw1 := (h.want.kept q1 (fun h => h)).kept hk1 (fun e => h.ne e.symm)
  have q2 : Kept No w1 (w1.alloc (.cells #[.int .i64 x, .bool true] 33)) := (Kept.refl No w1).alloc _
  obtain ⟨g'', c'', w2, hr2, hrow2, hk2, hg2⟩ := gots_app hw1 q2 x true (RowAt.new w1 #[.int .i64 x, .bool true] 33 2 1 rfl).cells (by omega)
  have s2 := hk2.size
  simp only [World.size_alloc] at hg2 s2
  have n5 := h.new5; have n6 := h.new6; have ne := h.ne
  have hcond : g' ≠ g6 := by rcases hg1 with rfl | h <;> omega
  have hlist1 := (h.list.keptNo q1).room hk1 (fun hc i e hi => h.ap5 hc (by rw [e, hi]))
  have hlist2 := (hlist1.keptNo q2).room hk2 (fun hc i e hi => h.ap6 hc (by rw [e, hi]))
  have hvals1 := cells_own (h.nums.keptNo q1) hk1 (fun a ha h0 e => by have := h.old a ha h0; omega)
  have hvals2 := cells_own (hvals1.keptNo q2) hk2 (fun a ha h0 e => by have := h.old a ha h0; omega)
  have kk : Kept No w w2 := ((((h.kept.trans q1 (fun _ _ h => h)).trans hk1 (fun i hi e => by omega)).trans q2 (fun _ _ h => h)).trans hk2 (fun i hi e => by omega))
  have ltL : 0 < cL → ∃ i, adL = some ⟨i, 0, none⟩ ∧ i < wr.heap.size := fun hc => by
    obtain ⟨i, e, _, hrow⟩ := h.list.block hc
    exact ⟨i, e, hrow.lt⟩
  refine ⟨g', c', w1, hr1, g'', c'', w2, hr2, ⟨hvals2, hlist2, (hrow1.kept q2 (fun h => h)).kept hk2 hcond, ?_, kk, ?_, ?_, ?_, ?_, ?_, h.old⟩⟩
  · rw [List.take_succ_eq_append_getElem hk, List.map_append]
    rw [List.getElem?_eq_getElem hk] at hx
    injection hx with hx
    rw [hx]
    exact hrow2
  · rcases hg1 with rfl | h <;> omega
  · rcases hg2 with rfl | h <;> omega
  · have s3 := (hrow1.kept q2 (fun h => h)).lt
    simp only [World.size_alloc] at s3
    have s4 := hrow1.lt
    rcases hg2 with rfl | h
    · exact hcond
    · omega
  · intro hc e
    rcases hg1 with rfl | h1
    · exact h.ap5 hc e
    · obtain ⟨i, e2, hi⟩ := ltL hc
      rw [e] at e2
      injection e2 with e2
      injection e2 with e2
      omega
  · intro hc e
    rcases hg2 with rfl | h1
    · exact h.ap6 hc e
    · obtain ⟨i, e2, hi⟩ := ltL hc
      rw [e] at e2
      injection e2 with e2
      injection e2 with e2
      omega
end

/-! ### Behind the loop -/
/-- The steps with the last taking: what runs them, and what is appended to what is wanted. -/
structure EndAt (R : Nat) (kind m : Int) (b : World) (gs : List Got) (n g6 c6 g' c' : Nat) (v : World) : Prop where
  kept : Kept No b v
  run : ∀ W, Kept No v W → Calls Try.prog R #[.agg #[.int .i64 kind, .int .i64 m], .slice (some ⟨g', 0, none⟩) (n + 1 + 1) c'] W fun e w' => ∃ g3 cap3, e = .returned (.slice (some ⟨g3, 0, none⟩) (n + 1) cap3) ∧ RunPost W gs g3 cap3 w'
  app : ∀ Y gG, Kept No v Y → CellsAt Y (some ⟨gG, 0, none⟩) [.int .i64 0, .bool false] →
    ∃ g4 c4 u, (Builtin.append_ #[27, 27] 27 #[.slice (some ⟨g6, 0, none⟩) n c6, .slice (some ⟨gG, 0, none⟩) 1 1]).run Try.prog Y = .ok (.slice (some ⟨g4, 0, none⟩) (n + 1) c4) u ∧ CellsAt u (some ⟨g4, 0, none⟩) (gs.flatMap gotCells) ∧ Kept (fun i => i = g6) Y u
  lt6 : g6 < v.heap.size
  new6 : b.heap.size ≤ g6
  len : gs.length = n + 1
  small : n ≤ 1000

theorem EndAt.next {R : Nat} {kind m : Int} {b v W w' Y : World} {gs : List Got} {n g6 c6 g' c' g3 cap3 : Nat} (h : EndAt R kind m b gs n g6 c6 g' c' v) (k : Kept No v W) (hp : RunPost W gs g3 cap3 w') (hY : Kept No w' Y)
    (gG : Nat) (hG : CellsAt Y (some ⟨gG, 0, none⟩) [.int .i64 0, .bool false]) :
    ∃ g4 c4 u, (Builtin.append_ #[27, 27] 27 #[.slice (some ⟨g6, 0, none⟩) n c6, .slice (some ⟨gG, 0, none⟩) 1 1]).run Try.prog Y = .ok (.slice (some ⟨g4, 0, none⟩) (n + 1) c4) u ∧ Kept No b u ∧
      Calls Try.prog 27 #[.slice (some ⟨g3, 0, none⟩) (n + 1) cap3, .slice (some ⟨g4, 0, none⟩) (n + 1) c4] u fun e w'' => e = .returned (.bool true) ∧ Kept No u w'' := by
  obtain ⟨p1, p2, p3⟩ := hp
  have kY : Kept No v Y := (k.trans p2 (fun _ _ h => h)).trans hY (fun _ _ h => h)
  obtain ⟨g4, c4, u, hr, hc, hk⟩ := h.app Y gG kY hG
  have h6 := h.lt6; have n6 := h.new6; have ks := k.size
  refine ⟨g4, c4, u, hr, (h.kept.trans kY (fun _ _ h => h)).trans hk (fun i hi e => by omega), ?_⟩
  have := equalGot gs (some ⟨g3, 0, none⟩) (some ⟨g4, 0, none⟩) cap3 c4 u (((p1.kept hY (fun h => h)).kept hk (by omega)).cells) hc (by rw [h.len]; have := h.small; omega)
  rw [h.len] at this
  exact this

theorem SortsAt.fin {R : Nat} {f : Int → Int → List Step → List Got} (hR : RunsLike R f) {kind m : Int} (ok : OrdOk kind m) {b : World} {ad adL : Option Addr} {vals L : List Int} {n n' cL g5 c5 g6 c6 : Nat} {V X : World}
    (h : SortsAt b ad vals n' adL cL L n g5 c5 g6 c6 V) (hn : L.length = n) (hvn : vals.length ≤ 1000) (hn1 : n ≤ 900) (hX : Kept No V X) (gT : Nat) (hT : CellsAt X (some ⟨gT, 0, none⟩) [.int .i64 2, .slice none 0 0])
    (hf : f kind m (sortSteps vals (n + 1)) = (L.map fun x => (x, true)) ++ [(0, false)]) :
    ∃ g' c' v, (Builtin.append_ #[24, 24] 24 #[.slice (some ⟨g5, 0, none⟩) (n + 1) c5, .slice (some ⟨gT, 0, none⟩) 1 1]).run Try.prog X = .ok (.slice (some ⟨g', 0, none⟩) (n + 1 + 1) c') v ∧
      EndAt R kind m b ((L.map fun x => (x, true)) ++ [(0, false)]) n g6 c6 g' c' v ∧ Kept (fun i => i = g5) X v := by
  obtain ⟨g', c', v, hr, hrow, hk, hg⟩ := steps_app h.steps hX hT (by omega)
  have n5 := h.new5; have n6 := h.new6; have ne := h.ne; have l6 := h.want.lt
  have kb : Kept No b v := (h.kept.trans hX (fun _ _ h => h)).trans hk (fun i hi e => by omega)
  have hvals := cells_own (h.nums.keptNo hX) hk (fun a ha h0 e => by have := h.old a ha h0; omega)
  have hw := (h.want.kept hX (fun h => h)).kept hk (fun e => ne e.symm)
  refine ⟨g', c', v, hr, ⟨kb, ?_, ?_, hw.lt, n6, by simp [hn], by omega⟩, hk⟩
  · intro W k
    have hst := (stepsAt_sorts hrow hvals).keptNo k
    have hsm : Small (sortSteps vals (n + 1)) 1000 1000 := by
      refine ⟨by simp [sortSteps]; omega, fun s hs => ?_⟩
      unfold sortSteps at hs
      rcases List.mem_cons.1 hs with rfl | hs
      · exact hvn
      · rw [(List.mem_replicate.1 hs).2]; simp
    have := hR kind m ok _ hsm _ c' W hst
    rw [hf] at this
    have e1 : (sortSteps vals (n + 1)).length = n + 1 + 1 := by simp [sortSteps]
    have e2 : ((L.map fun x => (x, true)) ++ [((0 : Int), false)]).length = n + 1 := by simp [hn]
    rw [e1, e2] at this
    exact this
  · intro Y gG k hG
    obtain ⟨g4, c4, u, hr4, hrow4, hk4, _⟩ := gots_app hw k 0 false hG (by omega)
    rw [List.take_of_length_le (by omega)] at hrow4
    exact ⟨g4, c4, u, hr4, hrow4.cells, hk4⟩

/-- The first state. -/
theorem sorts_start {w w5 : World} {ad adL : Option Addr} {vals L : List Int} {n' cL : Nat} (hv : CellsAt w ad (vals.map intV)) (hp : L.length = vals.length)
    (ho : OwnRow ((w.alloc (.cells #[.int .i64 1, .slice ad vals.length n'] 31)).alloc (.cells #[] 33)).heap.size w5 adL vals.length cL 3 1 (L.map intV))
    (k : Kept No ((w.alloc (.cells #[.int .i64 1, .slice ad vals.length n'] 31)).alloc (.cells #[] 33)) w5) : SortsAt w ad vals n' adL cL L 0 w.heap.size 1 (w.heap.size + 1) 0 w5 := by
  have k2 : Kept No w ((w.alloc (.cells #[.int .i64 1, .slice ad vals.length n'] 31)).alloc (.cells #[] 33)) := ((Kept.refl No w).alloc _).alloc _
  have r6 := RowAt.new (w.alloc (.cells #[.int .i64 1, .slice ad vals.length n'] 31)) #[] 33 2 0 rfl
  have r5 := (RowAt.new w #[.int .i64 1, .slice ad vals.length n'] 31 2 1 rfl).kept (S := No) (w' := (w.alloc (.cells #[.int .i64 1, .slice ad vals.length n'] 31)).alloc (.cells #[] 33)) ((Kept.refl _ _).alloc _) (fun h => h)
  simp only [World.size_alloc] at ho r6
  have far : 0 < cL → ∃ i, adL = some ⟨i, 0, none⟩ ∧ w.heap.size + 1 + 1 ≤ i := fun hc => by
    obtain ⟨i, e, hi, _⟩ := ho.block hc
    exact ⟨i, e, hi⟩
  refine ⟨hv.keptNo (k2.trans k (fun _ _ h => h)), ?_, r5.kept k (fun h => h), r6.kept k (fun h => h), k2.trans k (fun _ _ h => h), Nat.le_refl _, by omega, by omega, ?_, ?_, ?_⟩
  · rw [hp]; exact ho.down (by omega)
  · intro hc e
    obtain ⟨i, e2, hi⟩ := far hc
    rw [e] at e2
    injection e2 with e2
    injection e2 with e2
    omega
  · intro hc e
    obtain ⟨i, e2, hi⟩ := far hc
    rw [e] at e2
    injection e2 with e2
    injection e2 with e2
    omega
  · intro a ha h0
    obtain ⟨vb, vo, e, hc⟩ := hv 0 (intV (vals[0]'h0)) (by rw [List.getElem?_map, List.getElem?_eq_getElem h0]; rfl)
    rw [ha] at e
    injection e with e
    subst e
    exact cell_lt hc

end Go.Nl
