/- What the array list's Add does with one number. -/
import Derived.Test.YtgdjfgbipmajmaaListC
import Derived.Deep.LoopGhost
namespace Go.Nl
open Go.RowKit Go.Sort Go.Proofs

theorem push_get_last (d : Array Int) (x : Int) : (d.push x)[d.size]! = x := by
  rw [getElem!_pos _ d.size (by simp)]; simp
theorem push_get_lt' (d : Array Int) (x : Int) (k : Nat) (h : k < d.size) : (d.push x)[k]! = d[k]! := by
  rw [getElem!_pos _ k (by simp; omega), getElem!_pos d k h, Array.getElem_push_lt h]

theorem ListAt.pushed {w : World} {lb eb c : Nat} {d : Array Int} (h : ListAt w lb (some eb) c d) (x : Int) (hc : d.size + 1 ≤ c) :
    ListAt ((w.setCell ⟨eb, d.size, none⟩ (box x)).setCell ⟨lb, 1, none⟩ (.int .i64 ((d.size : Int) + 1))) lb (some eb) c (d.push x) := by
  obtain ⟨hne, cs, he⟩ := h.elems
  have h1 := he.size
  refine ⟨?_, ⟨hne, cs.setIfInBounds d.size (box x), ⟨(he.blk.set d.size _).other _ _ (by simp; omega), by simpa using h1, one_set he.one _ _ rfl, fun j hj => ?_⟩⟩, by simpa using hc, h.small⟩
  · have := (h.head.other ⟨eb, d.size, none⟩ (box x) hne).set 1 (.int .i64 ((d.size : Int) + 1))
    simpa using this
  · rw [Array.size_push] at hj
    by_cases e : j = d.size
    · subst e
      rw [set_same _ _ _ (by omega), push_get_last]
    · rw [set_other _ _ _ _ e, he.cell j (by omega), push_get_lt' d x j (by omega)]

set_option maxHeartbeats 1000000 in
set_option maxRecDepth 100000 in
theorem add_one {w : World} {lb c : Nat} {ao : Option Nat} {d : Array Int} (h : ListAt w lb ao c d) (x : Int) (vb vo n' : Nat) (hv : w.cell? ⟨vb, vo, none⟩ = some (box x)) (hvb : vb ≠ lb) (hd : d.size + 1 ≤ 1048576) :
    Calls Try.prog 75 #[.pointer (some ⟨lb, 0, none⟩), .slice (some ⟨vb, vo, none⟩) 1 n'] w fun e w' => e = .returned (.tuple #[]) ∧
      ∃ ao' c', ListAt w' lb ao' c' (d.push x) ∧ Kept (own lb ao) w w' ∧ (ao' = ao ∨ ao' = some w.heap.size) := by
  have hgr := grow_any h 1 hd
  have Hh := Lib.hid h; have Hg := Lib.hid hgr; have Hv := Lib.hid hv; clear h hgr hv
  go_enter Try.func75, Try.ntmps75
  go_wp2_with fail
  refine Hg.out.mono ?_
  rintro e w1 ⟨rfl, ao1, c1, hl1, hc1, hk1, ha1⟩
  obtain ⟨eb, rfl⟩ := hl1.some_of (by omega)
  have hvl : vb < w.heap.size := by
    obtain ⟨c, e, fr, hb, _⟩ := cells_of_cell? Hv.out
    exact (Array.getElem?_eq_some_iff.1 hb).1
  have hv1 : w1.cell? ⟨vb, vo, none⟩ = some (box x) := by
    rw [← Hv.out]; exact World.cell?_of_block (w := w) (hk1.block vb hvl hvb)
  have Hl1 := Lib.hid hl1; have Hk1 := Lib.hid hk1; have Ha1 := Lib.hid ha1; have Hv1 := Lib.hid hv1; clear hl1 hk1 ha1 hv1
  go_wp2_with fail
  go_loopg [12] 2 (fun g i wr => ∃ k : Nat, k ≤ 1 ∧ i = .int .i64 k ∧ 2 - k ≤ g ∧ ((k = 0 ∧ wr = w1) ∨ (k = 1 ∧ ListAt wr lb (some eb) c1 (d.push x) ∧ Kept (own lb (some eb)) w1 wr)))
  case atStart => exact ⟨0, by omega, rfl, by omega, Or.inl ⟨rfl, rfl⟩⟩
  case round =>
    obtain ⟨k, hk, rfl, hg, hst⟩ := hrel
    rcases hst with ⟨rfl, rfl⟩ | ⟨rfl, hl2, hk2⟩
    · obtain ⟨hne, cs, he⟩ := Hl1.out.elems
      have c0 := Hl1.out.elemCell
      have c1' := Hl1.out.sizeCell
      have f1 := Hl1.out.head.frozen 1
      have hes := he.size
      have ce : wr.cell? ⟨eb, d.size, none⟩ = some (cs[d.size]'(by omega)) := by rw [he.blk.cell]; exact Array.getElem?_eq_getElem _
      have fe := he.blk.frozen d.size
      have hv2 := Hv1.out
      have hp := Hl1.out.pushed x (by omega)
      have hlt := he.blk.lt
      unfold slv at c0
      simp only [Option.map_some] at c0
      generalize cs[d.size]'(by omega) = v0 at ce
      have hszc : (d.size : Int) < c1 := by omega
      unfold box at hv2 hp
      have Hp := Lib.hid hp; have Hes := Lib.hid hes; clear he hp hes
      go_wp2
      go_region
      go_wp2
      go_roundg 1
      case measure => omega
      case rel =>
        refine ⟨1, by omega, by go_num, by omega, Or.inr ⟨rfl, Hp.out.drewN 1, ?_⟩⟩
        exact (((Kept.refl (own lb (some eb)) wr).setCell ⟨eb, d.size, none⟩ _ (fun _ => Or.inr rfl)).setCell ⟨lb, 1, none⟩ _ (fun _ => Or.inl rfl)).drewN 1
    · have H2 := Lib.hid hl2; have H3 := Lib.hid hk2; clear hl2 hk2
      go_wp2
      go_end0
      refine ⟨rfl, some eb, c1, H2.out, ?_, Ha1.out⟩
      refine Kept.trans (S := own lb ao) (T := own lb (some eb)) (Hk1.out.mono (fun k _ hk => Or.inl hk)) H3.out ?_
      intro k hk h
      rcases h with h | h
      · exact Or.inl h
      · rcases Ha1.out with e | e
        · exact Or.inr (by rw [← e]; exact h)
        · rw [e] at h
          injection h with h
          omega

end Go.Nl
