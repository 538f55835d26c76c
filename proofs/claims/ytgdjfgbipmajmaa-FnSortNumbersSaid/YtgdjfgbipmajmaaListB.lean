/- What the array list's functions do: a new block for the elements, growing, shrinking, clearing. -/
import Derived.Test.YtgdjfgbipmajmaaListA
import Derived.Deep.OwnRows
import Derived.Laws.CopyRow
namespace Go.Nl
open Go.RowKit Go.Sort Go.Proofs

theorem info20 : (Try.prog.info? 20).map (fun i => (i.zero, i.size, i.bytes)) = some (some .nilIface, 1, 16) := by kernel_rfl
theorem size20 : (Try.prog.info? 20).map (·.size) = some 1 := by kernel_rfl
theorem und70 : Try.prog.underlying 70 = some (.slice 20) := by kernel_rfl

/-- The cells behind a copy of cs (c of them) into n new ones. -/
def copied (cs : Array Value) (n : Nat) : Array Value := (cs.toList.take n ++ List.replicate (n - cs.size) Value.nilIface).toArray

theorem copied_size (cs : Array Value) (n : Nat) : (copied cs n).size = n := by
  simp [copied]; omega
theorem copied_get (cs : Array Value) (n j : Nat) (h : j < cs.size) (hn : j < n) : (copied cs n)[j]? = cs[j]? := by
  simp [copied]
  rw [List.getElem?_append_left (by simp; omega), List.getElem?_take, if_pos hn]
  simp
theorem copied_one (cs : Array Value) (n : Nat) (h : ∀ v ∈ cs.toList, v.oneCell' = true) : ∀ v ∈ (copied cs n).toList, v.oneCell' = true := by
  intro v hv
  simp only [copied, List.toList_toArray, List.mem_append] at hv
  rcases hv with hv | hv
  · exact h v (List.mem_of_mem_take hv)
  · rw [(List.mem_replicate.1 hv).2]; rfl


theorem blk_made (w : World) (n : Nat) : Blk (w.alloc (.cells (madeCells #[Value.nilIface] n) 20)) w.heap.size (madeCells #[Value.nilIface] n) 20 := Blk.new _ _ _

/-- What resize leaves: the elements lie in a new block. -/
theorem resize_any {lb eb c : Nat} {cs : Array Value} {sz : Value} (n : Nat) (w : World) (hl : Blk w lb #[slv (some eb) c, sz] 124) (he : Blk w eb cs 20) (hc : cs.size = c) (h1 : ∀ v ∈ cs.toList, v.oneCell' = true) (hn : n ≤ 4194304) :
    Calls Try.prog 103 #[.pointer (some ⟨lb, 0, none⟩), .int .i64 n] w fun e w' => e = .returned (.tuple #[]) ∧
      w' = ((w.alloc (.cells (madeCells #[.nilIface] n) 20)).setRow w.heap.size (copied cs n)).setCell ⟨lb, 0, none⟩ (slv (some w.heap.size) n) := by
  have hmk := run_make_row' (P := Try.prog) 70 20 .nilIface 16 und70 info20 rfl .i64 .i64 n (by omega) (by omega) w
  have hlt := he.lt
  have hllt := hl.lt
  have hcp := run_copy_row Try.prog (w.alloc (.cells (madeCells #[.nilIface] n) 20)) 70 70 3 20 w.heap.size 0 n n ⟨eb, 0, none⟩ c c (madeCells #[.nilIface] n) 20 (cs.toList.take n) und70 size20 (blk_made w n)
    (by simp [hc]; exact Nat.min_comm _ _)
    (fun j v hj => by
      have hb := (he.alloc (.cells (madeCells #[.nilIface] n) 20)).cell j
      have ha : ((⟨eb, 0, none⟩ : Addr).add j) = ⟨eb, j, none⟩ := by unfold Addr.add; split <;> simp_all
      rw [ha, hb]
      rw [List.getElem?_take] at hj
      split at hj
      · simpa using hj
      · cases hj)
    (by rw [size_madeCells]; simp; omega) (fun v hv => h1 v (List.mem_of_mem_take hv))
  have hrow : ((madeCells #[Value.nilIface] n).toList.take 0 ++ cs.toList.take n ++ (madeCells #[Value.nilIface] n).toList.drop (0 + (cs.toList.take n).length)).toArray = copied cs n := by
    rw [toList_madeCells_one]
    simp [copied]
    omega
  rw [hrow] at hcp
  have hW := (hl.alloc (.cells (madeCells #[.nilIface] n) 20)).rowOther w.heap.size (copied cs n) (by omega)
  have c0 := hW.cell 0
  have f0 := hW.frozen 0
  have l0 := (hl.alloc (.cells (madeCells #[.nilIface] n) 20)).cell 0
  generalize copied cs n = X at *
  generalize hw1 : w.alloc (.cells (madeCells #[.nilIface] n) 20) = w1 at *
  unfold slv at c0 l0 ⊢
  simp only [Option.map_some] at c0 l0 ⊢
  have Hw := Lib.hid hw1; clear hw1 hl he h1 hW hrow hc
  go_enter Try.func103, Try.ntmps103
  go_wp2
  go_end0
  exact ⟨rfl, rfl⟩

/-- The same where there were no elements. -/
theorem resize_nil {lb : Nat} {sz : Value} (n : Nat) (w : World) (hl : Blk w lb #[slv none 0, sz] 124) (hn : n ≤ 4194304) :
    Calls Try.prog 103 #[.pointer (some ⟨lb, 0, none⟩), .int .i64 n] w fun e w' => e = .returned (.tuple #[]) ∧
      w' = (w.alloc (.cells (madeCells #[.nilIface] n) 20)).setCell ⟨lb, 0, none⟩ (slv (some w.heap.size) n) := by
  have hmk := run_make_row' (P := Try.prog) 70 20 .nilIface 16 und70 info20 rfl .i64 .i64 n (by omega) (by omega) w
  have hcp := run_copy_none (P := Try.prog) (w.alloc (.cells (madeCells #[.nilIface] n) 20)) 70 70 3 20 (some ⟨w.heap.size, 0, none⟩) none n n 0 0 und70 size20 (by simp)
  have hW := hl.alloc (.cells (madeCells #[.nilIface] n) 20)
  have c0 := hW.cell 0
  have f0 := hW.frozen 0
  generalize hw1 : w.alloc (.cells (madeCells #[.nilIface] n) 20) = w1 at *
  unfold slv at c0 ⊢
  simp only [Option.map_some, Option.map_none] at c0 ⊢
  have Hw := Lib.hid hw1; clear hw1 hl hW
  go_enter Try.func103, Try.ntmps103
  go_wp2
  go_end0
  exact ⟨rfl, rfl⟩

theorem ListAt.resized {w : World} {lb c : Nat} {ao : Option Nat} {d : Array Int} (h : ListAt w lb ao c d) (n : Nat) (hd : d.size ≤ n) (hn : n ≤ 4194304) :
    Calls Try.prog 103 #[.pointer (some ⟨lb, 0, none⟩), .int .i64 n] w fun e w' => e = .returned (.tuple #[]) ∧ ListAt w' lb (some w.heap.size) n d ∧ Kept (fun k => k = lb) w w' := by
  have hlt := h.head.lt
  have he := h.elems
  cases ao with
  | none =>
    simp only at he
    subst he
    have hd0 : d.size = 0 := by have := h.le; omega
    refine (resize_nil n w h.head hn).mono ?_
    rintro e w' ⟨he, rfl⟩
    refine ⟨he, ⟨?_, ⟨by omega, _, ⟨(Blk.new w _ _).other _ _ (by simp; omega), size_madeCells _ _, fun v hv => ?_, fun j hj => by omega⟩⟩, hd, hn⟩, ((Kept.refl _ w).alloc _).setCell _ _ (fun _ => rfl)⟩
    · have := (h.head.alloc (.cells (madeCells #[.nilIface] n) 20)).set 0 (slv (some w.heap.size) n)
      simpa using this
    · rw [toList_madeCells_one] at hv
      rw [(List.mem_replicate.1 hv).2]; rfl
  | some eb =>
    obtain ⟨hne, cs, hE⟩ := he
    have hlt2 := hE.blk.lt
    refine (resize_any n w h.head hE.blk hE.size hE.one hn).mono ?_
    rintro e w' ⟨he, rfl⟩
    refine ⟨he, ⟨?_, ⟨by omega, _, ⟨((Blk.new w _ _).row (copied cs n)).other _ _ (by simp; omega), copied_size _ _, copied_one _ _ hE.one, fun j hj => ?_⟩⟩, hd, hn⟩, (((Kept.refl _ w).alloc _).setRow _ _ (fun h => by omega)).setCell _ _ (fun _ => rfl)⟩
    · have := ((h.head.alloc (.cells (madeCells #[.nilIface] n) 20)).rowOther w.heap.size (copied cs n) (by omega)).set 0 (slv (some w.heap.size) n)
      simpa using this
    · have h1 := hE.size
      have h2 := h.le
      rw [copied_get cs n j (by omega) (by omega)]
      exact hE.cell j hj

/-- The run of '2.0 * float32(n)' and back, for the walk. -/
theorem twice_run (n : Nat) (h : n < 8388608) (w : World) : (binOp .mul 139 (.float .f32 1073741824) (.float .f32 (floatOfInt .f32 (n : Int)))).run Try.prog w = .ok (.float .f32 (twiceBits n)) w ∧
    (convert 139 3 (.float .f32 (twiceBits n))).run Try.prog w = .ok (.int .i64 ((2 * n : Nat) : Int)) w :=
  ⟨run_float_arith w .mul 139 .f32 _ _ _ (twice_ok n h).1, run_convert_float_int w 139 3 .f32 .i64 _ _ (by kernel_rfl) (by kernel_rfl) (twice_ok n h).2⟩
theorem quarter_run (n : Nat) (h : n < 16777216) (w : World) : (binOp .mul 139 (.float .f32 (floatOfInt .f32 (n : Int))) (.float .f32 1048576000)).run Try.prog w = .ok (.float .f32 (quarterBits n)) w ∧
    (convert 139 3 (.float .f32 (quarterBits n))).run Try.prog w = .ok (.int .i64 ((n / 4 : Nat) : Int)) w :=
  ⟨run_float_arith w .mul 139 .f32 _ _ _ (quarter_ok n h).1, run_convert_float_int w 139 3 .f32 .i64 _ _ (by kernel_rfl) (by kernel_rfl) (quarter_ok n h).2⟩

set_option maxRecDepth 100000 in
/-- What growBy leaves: room for k more. -/
theorem grow_any {w : World} {lb c : Nat} {ao : Option Nat} {d : Array Int} (h : ListAt w lb ao c d) (k : Nat) (hk : d.size + k ≤ 1048576) :
    Calls Try.prog 89 #[.pointer (some ⟨lb, 0, none⟩), .int .i64 k] w fun e w' => e = .returned (.tuple #[]) ∧
      ∃ ao' c', ListAt w' lb ao' c' d ∧ d.size + k ≤ c' ∧ Kept (fun i => i = lb) w w' ∧ (ao' = ao ∨ ao' = some w.heap.size) := by
  have h0 := h.elemCell
  have h1 := h.sizeCell
  have hle := h.le
  have hsm := h.small
  by_cases hg : d.size + k < c
  · have fin : ∀ (e : Ending) (w' : World), (e = .returned (.tuple #[]) ∧ w = w') → (e = .returned (.tuple #[]) ∧ ∃ ao' c', ListAt w' lb ao' c' d ∧ d.size + k ≤ c' ∧ Kept (fun i => i = lb) w w' ∧ (ao' = ao ∨ ao' = some w.heap.size)) := by
      rintro e w' ⟨he, rfl⟩
      exact ⟨he, ao, c, h, by omega, Kept.refl _ _, Or.inl rfl⟩
    refine Calls.mono ?_ fin
    unfold slv at h0
    generalize (ao.map fun b => (⟨b, 0, none⟩ : Addr)) = ad at h0
    clear h fin
    go_enter Try.func89, Try.ntmps89
    go_wp2
    go_end0
    exact ⟨rfl, rfl⟩
  · have hr := h.resized (2 * (c + k)) (by omega) (by omega)
    have fin : ∀ (e : Ending) (w' : World), (e = .returned (.tuple #[]) ∧ ListAt w' lb (some w.heap.size) (2 * (c + k)) d ∧ Kept (fun k => k = lb) w w') → (e = .returned (.tuple #[]) ∧ ∃ ao' c', ListAt w' lb ao' c' d ∧ d.size + k ≤ c' ∧ Kept (fun i => i = lb) w w' ∧ (ao' = ao ∨ ao' = some w.heap.size)) := by
      rintro e w' ⟨he, hl, hk⟩
      exact ⟨he, _, _, hl, by omega, hk, Or.inr rfl⟩
    refine Calls.mono ?_ fin
    obtain ⟨t1, t2⟩ := twice_run (c + k) (by omega) w
    have e1 : ((c + k : Nat) : Int) = (c : Int) + (k : Int) := by omega
    have e2 : ((2 * (c + k) : Nat) : Int) = 2 * ((c : Int) + (k : Int)) := by omega
    rw [e1] at t1
    rw [e2] at t2
    rw [e2] at hr
    generalize twiceBits (c + k) = tb at t1 t2
    generalize hq : 2 * ((c : Int) + (k : Int)) = q at t2 hr
    have Hq := Lib.hid hq; clear hq e1 e2
    unfold slv at h0
    generalize (ao.map fun b => (⟨b, 0, none⟩ : Addr)) = ad at h0
    clear fin h
    go_enter Try.func89, Try.ntmps89
    go_wp2_with fail
    go_outline
    refine hr.mono ?_
    rintro e w1 ⟨rfl, hl, hk⟩
    have H1 := Lib.hid hl; have H2 := Lib.hid hk; clear hl hk
    go_wp2
    go_end0
    exact ⟨rfl, H1.out, H2.out⟩

end Go.Nl
