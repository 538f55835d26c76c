/- What the array list's functions do: shrinking, removing the last, clearing, a new one. -/
import Derived.Test.YtgdjfgbipmajmaaListB
import Derived.BigRegion
namespace Go.Nl
open Go.RowKit Go.Sort Go.Proofs

set_option maxRecDepth 100000 in
/-- What shrink leaves. -/
theorem shrink_any {w : World} {lb c : Nat} {ao : Option Nat} {d : Array Int} (h : ListAt w lb ao c d) :
    Calls Try.prog 91 #[.pointer (some ⟨lb, 0, none⟩)] w fun e w' => e = .returned (.tuple #[]) ∧
      ∃ ao' c', ListAt w' lb ao' c' d ∧ Kept (fun i => i = lb) w w' ∧ (ao' = ao ∨ ao' = some w.heap.size) := by
  have h0 := h.elemCell
  have h1 := h.sizeCell
  have hle := h.le
  have hsm := h.small
  obtain ⟨t1, t2⟩ := quarter_run c (by omega) w
  generalize quarterBits c = tb at t1 t2
  generalize hq : ((c / 4 : Nat) : Int) = q at t2
  by_cases hg : (d.size : Int) ≤ q
  · have hr := h.resized d.size (Nat.le_refl _) (by omega)
    have fin : ∀ (e : Ending) (w' : World), (e = .returned (.tuple #[]) ∧ ListAt w' lb (some w.heap.size) d.size d ∧ Kept (fun k => k = lb) w w') → (e = .returned (.tuple #[]) ∧ ∃ ao' c', ListAt w' lb ao' c' d ∧ Kept (fun i => i = lb) w w' ∧ (ao' = ao ∨ ao' = some w.heap.size)) := by
      rintro e w' ⟨he, hl, hk⟩
      exact ⟨he, _, _, hl, hk, Or.inr rfl⟩
    refine Calls.mono ?_ fin
    unfold slv at h0
    generalize (ao.map fun b => (⟨b, 0, none⟩ : Addr)) = ad at h0
    clear fin h hq
    go_enter Try.func91, Try.ntmps91
    go_wp2_with fail
    refine hr.mono ?_
    rintro e w1 ⟨rfl, hl, hk⟩
    have H1 := Lib.hid hl; have H2 := Lib.hid hk; clear hl hk
    go_wp2
    go_end0
    exact ⟨rfl, H1.out, H2.out⟩
  · have fin : ∀ (e : Ending) (w' : World), (e = .returned (.tuple #[]) ∧ w = w') → (e = .returned (.tuple #[]) ∧ ∃ ao' c', ListAt w' lb ao' c' d ∧ Kept (fun i => i = lb) w w' ∧ (ao' = ao ∨ ao' = some w.heap.size)) := by
      rintro e w' ⟨he, rfl⟩
      exact ⟨he, ao, c, h, Kept.refl _ _, Or.inl rfl⟩
    refine Calls.mono ?_ fin
    unfold slv at h0
    generalize (ao.map fun b => (⟨b, 0, none⟩ : Addr)) = ad at h0
    clear h fin hq
    go_enter Try.func91, Try.ntmps91
    go_wp2
    go_end0
    exact ⟨rfl, rfl⟩

theorem new_any (w : World) :
    Calls Try.prog 74 #[.slice none 0 0] w fun e w' => e = .returned (.pointer (some ⟨w.heap.size, 0, none⟩)) ∧ w' = w.alloc (.cells #[.slice none 0 0, .int .i64 0] 124) := by
  go_enter Try.func74, Try.ntmps74
  go_wp2
  go_ret
  exact ⟨rfl, rfl⟩

theorem ListAt.new (w : World) : ListAt (w.alloc (.cells #[.slice none 0 0, .int .i64 0] 124)) w.heap.size none 0 #[] :=
  ⟨Blk.new _ _ _, rfl, Nat.le_refl _, by omega⟩

theorem clear_any {w : World} {lb c : Nat} {ao : Option Nat} {d : Array Int} (h : ListAt w lb ao c d) :
    Calls Try.prog 83 #[.pointer (some ⟨lb, 0, none⟩)] w fun e w' => e = .returned (.tuple #[]) ∧
      ListAt w' lb (some w.heap.size) 0 #[] ∧ Kept (fun i => i = lb) w w' := by
  have fin : ∀ (e : Ending) (w' : World), (e = .returned (.tuple #[]) ∧ w' = (((w.setCell ⟨lb, 1, none⟩ (.int .i64 0)).setCell ⟨lb, 0, none⟩ (.slice (some ⟨w.heap.size, 0, none⟩) 0 0)).alloc (.cells #[] 20))) → (e = .returned (.tuple #[]) ∧ ListAt w' lb (some w.heap.size) 0 #[] ∧ Kept (fun i => i = lb) w w') := by
    rintro e w' ⟨he, rfl⟩
    have hlt := h.head.lt
    refine ⟨he, ⟨?_, ⟨by omega, #[], ⟨?_, rfl, fun v hv => by simp at hv, fun j hj => by simp at hj⟩⟩, Nat.le_refl _, by omega⟩, (((Kept.refl (fun i => i = lb) w).setCell ⟨lb, 1, none⟩ _ (fun _ => rfl)).setCell ⟨lb, 0, none⟩ _ (fun _ => rfl)).alloc _⟩
    · have := ((h.head.set 1 (.int .i64 0)).set 0 (.slice (some ⟨w.heap.size, 0, none⟩) 0 0)).alloc (.cells #[] 20)
      simpa [slv] using this
    · have := Blk.new ((w.setCell ⟨lb, 1, none⟩ (.int .i64 0)).setCell ⟨lb, 0, none⟩ (.slice (some ⟨w.heap.size, 0, none⟩) 0 0)) #[] 20
      rwa [World.size_setCell, World.size_setCell] at this
  refine Calls.mono ?_ fin
  have h0 := h.elemCell
  have h1 := h.sizeCell
  have hlt := h.head.lt
  have f0 := h.head.frozen 0
  have f1 := h.head.frozen 1
  unfold slv at h0
  generalize (ao.map fun b => (⟨b, 0, none⟩ : Addr)) = ad at h0
  clear h fin
  go_enter Try.func83, Try.ntmps83
  go_wp2
  go_end0
  exact ⟨rfl, rfl⟩

/-- The list without its last one, ahead of the shrinking. -/
theorem ListAt.cut {w : World} {lb eb c : Nat} {d : Array Int} (h : ListAt w lb (some eb) c d) (i : Nat) (hi : i + 1 = d.size) :
    ListAt ((w.setCell ⟨eb, i, none⟩ .nilIface).setCell ⟨lb, 1, none⟩ (.int .i64 (i : Int))) lb (some eb) c d.pop := by
  obtain ⟨hne, cs, he⟩ := h.elems
  have hsz : d.pop.size = i := by simp; omega
  have hle := h.le
  have h1 := he.size
  refine ⟨?_, ⟨hne, cs.setIfInBounds i .nilIface, ⟨(he.blk.set i _).other _ _ (by simp; omega), by simpa using h1, one_set he.one _ _ rfl, fun j hj => ?_⟩⟩, by omega, h.small⟩
  · rw [hsz]
    have := (h.head.other ⟨eb, i, none⟩ .nilIface hne).set 1 (.int .i64 (i : Int))
    simpa using this
  · rw [set_other _ _ _ _ (by omega), he.cell j (by omega), getElem!_pos d j (by omega), getElem!_pos d.pop j hj, Array.getElem_pop]

set_option maxHeartbeats 1000000 in
set_option maxRecDepth 100000 in
theorem remove_any {w : World} {lb c eb : Nat} {d : Array Int} (h : ListAt w lb (some eb) c d) (i : Nat) (hi : i + 1 = d.size) :
    Calls Try.prog 81 #[.pointer (some ⟨lb, 0, none⟩), .int .i64 i] w fun e w' => e = .returned (.tuple #[]) ∧
      ∃ ao' c', ListAt w' lb ao' c' d.pop ∧ Kept (own lb (some eb)) w w' ∧ (ao' = some eb ∨ ao' = some w.heap.size) := by
  obtain ⟨hne, cs, he⟩ := h.elems
  have hcut := h.cut i hi
  have h0 := h.elemCell
  have h1 := h.sizeCell
  have hle := h.le
  have hsm := h.small
  have w1 := within_yes lb d.size i w h1 (by omega) (by omega)
  have ci : w.cell? ⟨eb, i, none⟩ = some (box d[i]!) := h.at i (by omega)
  have fi := he.blk.frozen i
  have f1 := h.head.frozen 1
  have hlt := h.head.lt
  have hcp := fun (a b : Option Addr) (n m k : Nat) (w : World) => run_copy_none (P := Try.prog) w 70 70 3 20 a b n m 0 k und70 size20 (by simp)
  unfold slv at h0
  simp only [Option.map_some] at h0
  have e1 : (d.size : Int) = (i : Int) + 1 := by omega
  rw [e1] at h1
  have hic : (i : Int) < c := by omega
  have hb : (⟨eb, i, none⟩ : Addr).block ≠ lb := fun e => hne e.symm
  unfold box at ci
  generalize d[i]! = vi at ci
  have Hc := Lib.hid hcut; have He := Lib.hid he; have Hh := Lib.hid h; have H1 := Lib.hid e1; clear hcut he h e1 hi
  have hs := shrink_any (w := ((w.setCell ⟨eb, i, none⟩ .nilIface).setCell ⟨lb, 1, none⟩ (.int .i64 (i : Int))).drew) (Hc.out.drewN 1)
  have fin : ∀ w1, (∃ ao' c', ListAt w1 lb ao' c' d.pop ∧ Kept (fun i => i = lb) ((w.setCell ⟨eb, i, none⟩ .nilIface).setCell ⟨lb, 1, none⟩ (.int .i64 (i : Int))).drew w1 ∧ (ao' = some eb ∨ ao' = some ((w.setCell ⟨eb, i, none⟩ .nilIface).setCell ⟨lb, 1, none⟩ (.int .i64 (i : Int))).drew.heap.size)) → ∃ ao' c', ListAt w1 lb ao' c' d.pop ∧ Kept (own lb (some eb)) w w1 ∧ (ao' = some eb ∨ ao' = some w.heap.size) := by
    rintro w1 ⟨ao', c', a1, a2, a3⟩
    refine ⟨ao', c', a1, ?_, by simpa using a3⟩
    refine Kept.trans ((((Kept.refl (own lb (some eb)) w).setCell ⟨eb, i, none⟩ .nilIface (fun _ => Or.inr rfl)).setCell ⟨lb, 1, none⟩ (.int .i64 (i : Int)) (fun _ => Or.inl rfl)).drew) a2 (fun k _ hk => Or.inl hk)
  have Hs := Lib.hid hs; have Hf := Lib.hid fin; clear hs fin
  by_cases hcap : i + 1 = c
  · subst hcap
    go_enter Try.func81, Try.ntmps81
    go_wp2_with fail
    refine w1.mono ?_
    rintro e w' ⟨rfl, rfl⟩
    go_wp2_with fail
    go_region
    go_wp2_with fail
    refine Hs.out.mono ?_
    rintro e w1 ⟨rfl, hx⟩
    have Hx := Lib.hid (Hf.out w1 hx); clear hx
    go_wp2
    go_end0
    exact ⟨rfl, Hx.out⟩
  · have hcap' : (i : Int) + 1 < c := by omega
    go_enter Try.func81, Try.ntmps81
    go_wp2_with fail
    refine w1.mono ?_
    rintro e w' ⟨rfl, rfl⟩
    go_wp2_with fail
    go_region
    go_wp2_with fail
    refine Hs.out.mono ?_
    rintro e w1 ⟨rfl, hx⟩
    have Hx := Lib.hid (Hf.out w1 hx); clear hx
    go_wp2
    go_end0
    exact ⟨rfl, Hx.out⟩

end Go.Nl
