/- The reference's run of steps: what its list and its answers are in memory. -/
import Derived.Test.YtgdjfgbipmajmaaSpecB
namespace Go.Nl
open Go.RowKit Go.Sort Go.Proofs

/-- What the reference's loop holds: its list, and what was told. -/
structure RefAt (w : World) (st : List Int × List Got) (ad : Option Addr) (c g cap : Nat) (wr : World) : Prop where
  list : OwnRow w.heap.size wr ad st.1.length c 3 1 (st.1.map intV)
  outs : RowAt wr g st.2.length cap 33 2 (st.2.flatMap gotCells)
  kept : Kept No w wr
  new : w.heap.size ≤ g
  apart : 0 < c → ad ≠ some ⟨g, 0, none⟩
  nil : ad = none → c = 0

section
variable {w wr : World} {st : List Int × List Got} {ad : Option Addr} {c g cap : Nat}

theorem RefAt.keptNo {wr' : World} (h : RefAt w st ad c g cap wr) (k : Kept No wr wr') : RefAt w st ad c g cap wr' :=
  ⟨h.list.keptNo k, h.outs.kept k (fun h => h), h.kept.trans k (fun _ _ h => h), h.new, h.apart, h.nil⟩

/-- Another list, in a block that is newer. -/
theorem RefAt.turn {wr' : World} {b c' : Nat} {ad' : Option Addr} {L : List Int} (h : RefAt w st ad c g cap wr) (k : Kept No wr wr') (hb : wr.heap.size ≤ b) (hl : OwnRow b wr' ad' L.length c' 3 1 (L.map intV)) : RefAt w (L, st.2) ad' c' g cap wr' := by
  have hg := h.outs.lt
  have hs := h.kept.size
  refine ⟨hl.down (by omega), h.outs.kept k (fun h => h), h.kept.trans k (fun _ _ h => h), h.new, ?_, ?_⟩
  · intro hc e
    obtain ⟨g', e', hg', _⟩ := hl.block hc
    rw [e] at e'
    injection e' with e'
    injection e' with e'
    omega
  · intro e
    subst e
    exact hl.nil.2

/-- append of what was told. -/
theorem RefAt.app (h : RefAt w st ad c g cap wr) (x : Int) (b : Bool) (hn : st.2.length ≤ 100000) :
    ∃ g' cap' w', (Builtin.append_ #[27, 27] 27 #[.slice (some ⟨g, 0, none⟩) st.2.length cap, .slice (some ⟨wr.heap.size, 0, none⟩) 1 1]).run Try.prog (wr.alloc (.cells #[.int .i64 x, .bool b] 33)) =
      .ok (.slice (some ⟨g', 0, none⟩) (st.2.length + 1) cap') w' ∧ RefAt w (st.1, st.2 ++ [(x, b)]) ad c g' cap' w' ∧ Kept (fun i => i = g) wr w' := by
  obtain ⟨i, hi, hz, hs, hby⟩ := i33_parts
  have k1 : Kept No wr (wr.alloc (.cells #[.int .i64 x, .bool b] 33)) := (Kept.refl No wr).alloc _
  obtain ⟨g', cap', w', hr, hrow, hk, hg⟩ := append_row (P := Try.prog) 27 27 i (.agg #[.int .i64 0, .bool false]) 2 16 (h.outs.kept k1 (fun h => h)) und27 hi hz hs hby rfl ⟨wr.heap.size, 0, none⟩ 1 1 [.int .i64 x, .bool b] rfl
    (fun j u hu => by rw [add_zero_off]; exact (RowAt.new wr #[.int .i64 x, .bool b] 33 2 1 rfl).cell j u hu) (fun u hu => by simp at hu; rcases hu with rfl | rfl <;> rfl) (by omega) (by omega)
  have hs0 := h.kept.size
  have hnew := h.new
  have hg' : g' = g ∨ wr.heap.size + 1 ≤ g' := by simpa using hg
  refine ⟨g', cap', w', hr, ⟨?_, ?_, ?_, ?_, ?_, h.nil⟩, (k1.mono (S := fun i => i = g) (fun _ _ h => h.elim)).trans hk (fun _ _ h => h)⟩
  · exact (h.list.keptNo k1).room hk (fun hc i e hi => h.apart hc (by rw [e, hi]))
  · simp only [List.length_append, List.length_cons, List.length_nil, List.flatMap_append, List.flatMap_cons, List.flatMap_nil, List.append_nil]
    exact hrow
  · exact (h.kept.trans k1 (fun _ _ h => h)).trans hk (fun i hi h => by omega)
  · rcases hg' with rfl | h
    · exact hnew
    · omega
  · intro hc e
    rcases hg' with rfl | hg'
    · exact h.apart hc e
    · obtain ⟨g2, e2, _, hrow2⟩ := h.list.block hc
      have := hrow2.lt
      rw [e] at e2
      injection e2 with e2
      injection e2 with e2
      omega

/-- The numbers put behind the list's clone, and all sorted. -/
theorem RefAt.put {kind m : Int} (h : RefAt w st ad c g cap wr) (ok : OrdOk kind m) {W wc : World} {adc : Option Addr} {cc : Nat} (k : Kept No wr W) (ho : OwnRow W.heap.size wc adc st.1.length cc 3 1 (st.1.map intV)) (hk : Kept No W wc)
    (vals : List Int) (va : Option Addr) (vn : Nat) (hv : CellsAt wr va (vals.map intV)) (hn : st.1.length + vals.length ≤ 1048576) :
    ∃ ada ca wa, (Builtin.append_ #[29, 29] 29 #[.slice adc st.1.length cc, .slice va vals.length vn]).run Try.prog wc = .ok (.slice ada (st.1.length + vals.length) ca) wa ∧ Kept No wr wa ∧
      Calls Try.prog 29 #[.slice ada (st.1.length + vals.length) ca, .agg #[.int .i64 kind, .int .i64 m]] wa fun e w' => ∃ ad' c', ∃ L : List Int, e = .returned (.slice ad' L.length c') ∧
        StepS (ltK kind m) st (1, vals) (L, st.2) ∧ RefAt w (L, st.2) ad' c' g cap w' ∧ Kept No wr w' := by
  obtain ⟨i, hi, hz, hs, hby⟩ := i3_parts
  have kc : Kept No wr wc := k.trans hk (fun _ _ h => h)
  obtain ⟨ada, ca, wa, hr, hoa, hka, _⟩ := append_own (P := Try.prog) 29 29 i (.int .i64 0) 8 ho hk.size und29' hi hz hs hby rfl (by omega) va vals.length vn (vals.map intV) (by simp) (hv.keptNo kc)
    (fun h => by subst h; rw [cellsAt_none hv]; rfl) (intV_one vals) (by omega) (by omega)
  have ka : Kept No wr wa := kc.trans hka (fun i hi h => by have := h.1; have := k.size; omega)
  refine ⟨ada, ca, wa, hr, ka, ?_⟩
  rw [← List.map_append] at hoa
  have hlen : (st.1 ++ vals).length = st.1.length + vals.length := List.length_append
  rw [← hlen] at hoa ⊢
  refine (sorted_any (st.1 ++ vals) hoa.cells (fun h => by subst h; exact hoa.nil.2) ok (by omega)).mono ?_
  rintro e w' ⟨ad', c', L, he, hp, hord, hrow, hk'⟩
  rw [← hp.length_eq] at he hrow
  exact ⟨ad', c', L, he, (by unfold StepS; rw [if_pos rfl]; exact ⟨rfl, hp, hord⟩), h.turn (ka.trans hk' (fun _ _ h => h)) ka.size hrow, ka.trans hk' (fun _ _ h => h)⟩
end

end Go.Nl
