/- An iterator moved: the plain law, and what the moves do. -/
import Derived.Test.YtgdjfgbipmajmaaIterD
namespace Go.Nl
open Go.RowKit Go.Sort Go.Proofs

/-- What an iterator told: whether it is at a value, where, and which. -/
abbrev SeenT := Bool × Int × Int
def seenCells (s : SeenT) : List Value := [.bool s.1, .int .i64 s.2.1, .int .i64 s.2.2]

/-- Where a move leads: 1 on, 2 back, 6 to the end. -/
def moveTo (n : Nat) (i op : Int) : Int := if op = 1 then (if i < n then i + 1 else i) else if op = 2 then (if 0 ≤ i then i - 1 else i) else (n : Int)
/-- What is told there. -/
def tell (lt : Int → Int → Bool) (d : Array Int) (i op : Int) : SeenT := if op ≠ 6 ∧ 0 ≤ i ∧ i < d.size then (true, i, valueAt lt d i.toNat) else (false, 0, 0)

def walkStep (lt : Int → Int → Bool) (d : Array Int) (st : Int × List SeenT) (op : Int) : Int × List SeenT := (moveTo d.size st.1 op, st.2 ++ [tell lt d (moveTo d.size st.1 op) op])
def walkP (lt : Int → Int → Bool) (d : Array Int) (ops : List Int) : Int × List SeenT := ops.foldl (walkStep lt d) (-1, [])

theorem walkP_snoc (lt : Int → Int → Bool) (d : Array Int) (ops : List Int) (k : Nat) (hk : k < ops.length) : walkP lt d (ops.take (k + 1)) = walkStep lt d (walkP lt d (ops.take k)) (ops.getD k 0) := by
  unfold walkP
  rw [List.take_succ_eq_append_getElem hk, List.foldl_append, List.getD_eq_getElem?_getD, List.getElem?_eq_getElem hk]
  rfl

theorem walkP_inv (lt : Int → Int → Bool) (d : Array Int) (ops : List Int) (_ho : ∀ op ∈ ops, op = 1 ∨ op = 2 ∨ op = 6) : ∀ k, k ≤ ops.length → -1 ≤ (walkP lt d (ops.take k)).1 ∧ (walkP lt d (ops.take k)).1 ≤ d.size ∧ (walkP lt d (ops.take k)).2.length = k
  | 0, _ => by simp [walkP]
  | k + 1, hk => by
    obtain ⟨h1, h2, h3⟩ := walkP_inv lt d ops _ho k (by omega)
    rw [walkP_snoc lt d ops k (by omega)]
    unfold walkStep moveTo
    refine ⟨?_, ?_, by simp [h3]⟩ <;> simp only <;> (repeat' split) <;> omega

/-- On, k times. -/
theorem walk_on (lt : Int → Int → Bool) (d : Array Int) : ∀ k, k ≤ d.size → walkP lt d (List.replicate k 1) = ((k : Int) - 1, (List.range k).map fun (j : Nat) => (true, (j : Int), valueAt lt d j))
  | 0, _ => by simp [walkP]
  | k + 1, hk => by
    have ih := walk_on lt d k (by omega)
    unfold walkP at ih ⊢
    rw [List.replicate_succ', List.foldl_append, ih]
    simp only [List.foldl_cons, List.foldl_nil, walkStep, moveTo, if_pos, List.range_succ, List.map_append, List.map_cons, List.map_nil]
    rw [if_pos (by omega : (k : Int) - 1 < (d.size : Int)), show (k : Int) - 1 + 1 = (k : Int) by omega]
    unfold tell
    rw [if_pos ⟨by decide, by omega, by omega⟩]
    simp

theorem walk_onAll (lt : Int → Int → Bool) (d : Array Int) : (walkP lt d (List.replicate (d.size + 1) 1)).2 = ((List.range d.size).map fun (j : Nat) => (true, (j : Int), valueAt lt d j)) ++ [(false, 0, 0)] := by
  have ih := walk_on lt d d.size (Nat.le_refl _)
  unfold walkP at ih ⊢
  rw [List.replicate_succ', List.foldl_append, ih]
  simp only [List.foldl_cons, List.foldl_nil, walkStep, moveTo, if_pos]
  rw [if_pos (by omega : (d.size : Int) - 1 < (d.size : Int)), show (d.size : Int) - 1 + 1 = (d.size : Int) by omega]
  unfold tell
  rw [if_neg (by omega)]

/-- From the end back, k times. -/
theorem walk_back (lt : Int → Int → Bool) (d : Array Int) : ∀ k, k ≤ d.size → walkP lt d (6 :: List.replicate k 2) = ((d.size : Int) - k, (false, 0, 0) :: (List.range k).map fun (j : Nat) => (true, ((d.size - 1 - j : Nat) : Int), valueAt lt d (d.size - 1 - j)))
  | 0, _ => by
    unfold walkP
    simp [walkStep, moveTo, tell]
  | k + 1, hk => by
    have ih := walk_back lt d k (by omega)
    unfold walkP at ih ⊢
    rw [List.replicate_succ', ← List.cons_append, List.foldl_append, ih]
    simp only [List.foldl_cons, List.foldl_nil, walkStep, moveTo, List.range_succ, List.map_append, List.map_cons, List.map_nil]
    rw [if_neg (by decide), if_pos trivial, if_pos (by omega : (0 : Int) ≤ (d.size : Int) - k), show (d.size : Int) - k - 1 = ((d.size - 1 - k : Nat) : Int) by omega]
    unfold tell
    rw [if_pos ⟨by decide, by omega, by omega⟩]
    simp
    omega

theorem rev_range {α : Type} (f : Nat → α) (n : Nat) : ((List.range n).map fun j => f (n - 1 - j)).reverse = (List.range n).map f := by
  apply List.ext_getElem
  · simp
  · intro i h1 h2
    simp at h1 h2
    simp
    congr 1
    omega

/-- Back is on, turned round. -/
theorem back_on (lt : Int → Int → Bool) (d : Array Int) : ((walkP lt d (6 :: List.replicate d.size 2)).2.tail).reverse = (walkP lt d (List.replicate d.size 1)).2 := by
  rw [walk_back lt d d.size (Nat.le_refl _), walk_on lt d d.size (Nat.le_refl _)]
  exact rev_range (fun j : Nat => ((true, (j : Int), valueAt lt d j) : SeenT)) d.size

section
variable {w : World} {hb lb : Nat} {ao : Option Nat} {c ob : Nat} {kind m : Int} {d : Array Int}

theorem nextM_any {ib : Nat} {i : Int} (h : HO w hb lb ao c ob kind m d) (hi : IterAt w ib hb i) (h1 : -1 ≤ i) (h2 : i ≤ d.size) (hd : d.size ≤ 4194304) (hn1 : ib ≠ hb) (hn2 : ib ≠ ob) (hn3 : ¬ own lb ao ib) :
    Calls Try.prog 133 #[.pointer (some ⟨ib, 0, none⟩)] w (Moved1 w ib hb (moveTo d.size i 1) (decide (0 ≤ moveTo d.size i 1 ∧ moveTo d.size i 1 < d.size))) := by
  have := next_any h hi h1 h2 hd hn1 hn2 hn3
  rwa [show decide (0 ≤ moveTo d.size i 1 ∧ moveTo d.size i 1 < d.size) = decide (i + 1 < d.size) from by
    rw [decide_eq_decide]; unfold moveTo; rw [if_pos rfl]; split <;> omega, show moveTo d.size i 1 = (if i < d.size then i + 1 else i) from by unfold moveTo; rw [if_pos rfl]]

set_option maxHeartbeats 1000000 in
theorem prevM_any {ib : Nat} {i : Int} (h : HO w hb lb ao c ob kind m d) (hi : IterAt w ib hb i) (_h1 : -1 ≤ i) (h2 : i ≤ d.size) (hd : d.size ≤ 4194304) (hn1 : ib ≠ hb) (hn2 : ib ≠ ob) (hn3 : ¬ own lb ao ib) :
    Calls Try.prog 148 #[.pointer (some ⟨ib, 0, none⟩)] w (Moved1 w ib hb (moveTo d.size i 2) (decide (0 ≤ moveTo d.size i 2 ∧ moveTo d.size i 2 < d.size))) := by
  have i0 := hi.i0
  have i1 := hi.i1
  have f1 := hi.frozen 1
  unfold moveTo
  rw [if_neg (by decide), if_pos rfl]
  by_cases h0 : 0 ≤ i
  · rw [if_pos h0]
    have hI : IterAt (w.setCell ⟨ib, 1, none⟩ (.int .i64 (i - 1))) ib hb (i - 1) := hi.set (i - 1)
    have hk : Kept (fun k => k = ib) w (w.setCell ⟨ib, 1, none⟩ (.int .i64 (i - 1))) := (Kept.refl _ w).setCell _ _ (fun _ => rfl)
    have hH := h.kept hk (fun j hj e => hn3 (by subst e; exact hj)) (fun e => hn1 e.symm) (fun e => hn2 e.symm)
    have hc := fun n => withinRange_any (hH.drewN n) (i - 1)
    have j0 := hI.i0; have j1 := hI.i1
    have HC := Lib.hid hc; have HI := Lib.hid hI; have HK := Lib.hid hk; clear hc hI hk hH h hi
    have t1 : IntKind.i64.wrap (i - 1) = i - 1 := IntWalk.i64_in _ (by omega)
    go_enter Try.func148, Try.ntmps148
    go_wp2_with fail
    generalize w.setCell ⟨ib, 1, none⟩ (.int .i64 (i - 1)) = W at *
    clear i0 i1 f1
    go_quiet ((go_at_call 136; with_reducible exact quiet_eq (HC.out _)))
    go_wp2_with fail
    go_ret
    exact ⟨rfl, HI.out, HK.out.drewN _⟩
  · rw [if_neg h0]
    have hc := fun n => withinRange_any (h.drewN n) i
    have HC := Lib.hid hc; have HI := Lib.hid hi; clear hc h hi
    have h0' : decide (0 ≤ i) = false := decide_eq_false h0
    go_enter Try.func148, Try.ntmps148
    go_wp2_with fail
    go_quiet ((go_at_call 136; with_reducible exact quiet_eq (HC.out _)))
    go_wp2_with fail
    go_ret
    exact ⟨rfl, HI.out, (Kept.refl _ w).drewN _⟩

theorem endM_any {ib : Nat} {i : Int} (h : HO w hb lb ao c ob kind m d) (hi : IterAt w ib hb i) :
    Calls Try.prog 144 #[.pointer (some ⟨ib, 0, none⟩)] w fun e w' => e = .returned (.tuple #[]) ∧ IterAt w' ib hb (d.size : Int) ∧ Kept (fun k => k = ib) w w' := by
  have i0 := hi.i0
  have i1 := hi.i1
  have f1 := hi.frozen 1
  have hs := heapSize_any h
  have HS := Lib.hid hs; have HI := Lib.hid (hi.set d.size); clear hs h hi
  go_enter Try.func144, Try.ntmps144
  go_wp2_with fail
  refine HS.out.mono ?_
  rintro e w' ⟨rfl, rfl⟩
  go_wp2_with fail
  go_end0
  exact ⟨rfl, HI.out, (Kept.refl _ w).setCell _ _ (fun _ => rfl)⟩
end

end Go.Nl
