/- What a queue tells of itself. -/
import Derived.Test.YtgdjfgbipmajmaaIterD
namespace Go.Nl
open Go.RowKit Go.Sort Go.Proofs

section
variable {w : World} {qb hb : Nat}

theorem qvalues_of {kind m : Int} {d : Array Int} (hc : w.cell? ⟨qb, 0, none⟩ = some (.pointer (some ⟨hb, 0, none⟩))) (h : Calls Try.prog 131 #[.pointer (some ⟨hb, 0, none⟩)] w (ValuesPost w kind m d)) :
    Calls Try.prog 142 #[.pointer (some ⟨qb, 0, none⟩)] w (ValuesPost w kind m d) := by
  have H := Lib.hid h; clear h
  go_enter Try.func142, Try.ntmps142
  go_wp2_with fail
  refine H.out.mono ?_
  rintro e w1 ⟨g, rfl, hr, hk⟩
  have HR := Lib.hid hr; have HK := Lib.hid hk; clear hr hk
  go_wp2_with fail
  go_ret
  exact ⟨g, rfl, HR.out, HK.out⟩

theorem qsize_of {n : Int} (hc : w.cell? ⟨qb, 0, none⟩ = some (.pointer (some ⟨hb, 0, none⟩))) (h : Calls Try.prog 129 #[.pointer (some ⟨hb, 0, none⟩)] w fun e w' => e = .returned (.int .i64 n) ∧ w = w') :
    Calls Try.prog 140 #[.pointer (some ⟨qb, 0, none⟩)] w fun e w' => e = .returned (.int .i64 n) ∧ w = w' := by
  have H := Lib.hid h; clear h
  go_enter Try.func140, Try.ntmps140
  go_wp2_with fail
  refine H.out.mono ?_
  rintro e w1 ⟨rfl, rfl⟩
  go_wp2_with fail
  go_ret
  exact ⟨rfl, rfl⟩

theorem qempty_of {b : Bool} (hc : w.cell? ⟨qb, 0, none⟩ = some (.pointer (some ⟨hb, 0, none⟩))) (h : Calls Try.prog 128 #[.pointer (some ⟨hb, 0, none⟩)] w fun e w' => e = .returned (.bool b) ∧ w = w') :
    Calls Try.prog 139 #[.pointer (some ⟨qb, 0, none⟩)] w fun e w' => e = .returned (.bool b) ∧ w = w' := by
  have H := Lib.hid h; clear h
  go_enter Try.func139, Try.ntmps139
  go_wp2_with fail
  refine H.out.mono ?_
  rintro e w1 ⟨rfl, rfl⟩
  go_wp2_with fail
  go_ret
  exact ⟨rfl, rfl⟩
end

set_option maxHeartbeats 4000000 in
set_option maxRecDepth 100000 in
theorem stateOf_queue {w : World} {qb : Nat} {hb lb : Nat} {ao : Option Nat} {c ob : Nat} {kind m : Int} {d : Array Int} (h : HO w hb lb ao c ob kind m d) (hq : w.cell? ⟨qb, 0, none⟩ = some (.pointer (some ⟨hb, 0, none⟩))) (ok : OrdOk kind m) (hd : d.size ≤ 1000000) :
    Calls Try.prog 47 #[.iface 63 (.pointer (some ⟨qb, 0, none⟩))] w (StatePost w ((List.range d.size).map (valueAt (ltK kind m) d)) d.size) := by
  have m1 : ∀ w, (method 266 63 (.pointer (some ⟨qb, 0, none⟩)) "Values").run Try.prog w = .ok (142, .pointer (some ⟨qb, 0, none⟩)) w := fun _ => by kernel_rfl
  have m2 : ∀ w, (method 266 63 (.pointer (some ⟨qb, 0, none⟩)) "Size").run Try.prog w = .ok (140, .pointer (some ⟨qb, 0, none⟩)) w := fun _ => by kernel_rfl
  have m3 : ∀ w, (method 266 63 (.pointer (some ⟨qb, 0, none⟩)) "Empty").run Try.prog w = .ok (139, .pointer (some ⟨qb, 0, none⟩)) w := fun _ => by kernel_rfl
  have k0 : Kept No w (w.alloc (.cells #[.slice none 0 0, .int .i64 0, .bool false] 42)) := (Kept.refl No w).alloc _
  have h1 := h.kept k0 (fun _ _ h => h) (fun h => h) (fun h => h)
  have hv := qvalues_of (cell_keptNo hq k0) (values_any h1 ok hd)
  have hnum : ∀ w1 g, RowAt w1 g d.size d.size 20 1 (((List.range d.size).map (valueAt (ltK kind m) d)).map box) → Calls Try.prog 53 #[.slice (some ⟨g, 0, none⟩) d.size d.size] w1 fun e w' => ∃ g2 cap, e = .returned (.slice (some ⟨g2, 0, none⟩) d.size cap) ∧ RowAt w' g2 d.size cap 3 1 (((List.range d.size).map (valueAt (ltK kind m) d)).map intV) ∧ Kept No w1 w' ∧ w1.heap.size ≤ g2 := by
    intro w1 g hr
    have := numbers_any ((List.range d.size).map (valueAt (ltK kind m) d)) (some ⟨g, 0, none⟩) d.size w1 hr.cells (by simp; omega)
    simp only [List.length_map, List.length_range] at this
    refine this.mono ?_
    rintro e w' ⟨g2, cap, he, hrow, hk, hg2⟩
    simp only [List.length_map, List.length_range] at he hrow
    exact ⟨g2, cap, he, hrow, hk, hg2⟩
  have hsz : ∀ W, Kept No (w.alloc (.cells #[.slice none 0 0, .int .i64 0, .bool false] 42)) W → Calls Try.prog 140 #[.pointer (some ⟨qb, 0, none⟩)] W fun e w' => e = .returned (.int .i64 d.size) ∧ W = w' :=
    fun W k => qsize_of (cell_keptNo (cell_keptNo hq k0) k) (heapSize_any (h1.kept k (fun _ _ h => h) (fun h => h) (fun h => h)))
  have hem : ∀ W, Kept No (w.alloc (.cells #[.slice none 0 0, .int .i64 0, .bool false] 42)) W → Calls Try.prog 139 #[.pointer (some ⟨qb, 0, none⟩)] W fun e w' => e = .returned (.bool ((d.size : Int) == 0)) ∧ W = w' :=
    fun W k => qempty_of (cell_keptNo (cell_keptNo hq k0) k) (heapEmpty_any (h1.kept k (fun _ _ h => h) (fun h => h) (fun h => h)))
  have HV := Lib.hid hv; have HNU := Lib.hid hnum; have HSZ := Lib.hid hsz; have HEM := Lib.hid hem
  have HK0 := Lib.hid k0
  have HSU := Lib.hid (fun (W : World) (k : Kept No (w.alloc (.cells #[.slice none 0 0, .int .i64 0, .bool false] 42)) W) => k.size)
  have HRB := Lib.hid (Blk.new w #[.slice none 0 0, .int .i64 0, .bool false] 42)
  clear h hq hv hnum hsz hem h1 k0
  generalize hvs : (List.range d.size).map (valueAt (ltK kind m) d) = vs at *
  have HVS := Lib.hid hvs; clear hvs
  generalize hbe : ((d.size : Int) == 0) = be at *
  have HBE := Lib.hid hbe; clear hbe
  go_enter Try.func47, Try.ntmps47
  go_wp2_with fail
  refine HV.out.mono ?_
  rintro e w1 ⟨g, rfl, hrow, k1⟩
  rw [HVS.out] at hrow
  have HN1 := Lib.hid (HNU.out w1 g hrow); have HK1 := Lib.hid k1; clear hrow k1
  go_wp2_with fail
  refine HN1.out.mono ?_
  rintro e w2 ⟨g2, cap, rfl, hc, k2, hg2⟩
  have hg1 := HSU.out w1 HK1.out
  simp only [World.size_alloc] at hg1
  have HC := Lib.hid hc; have HK2 := Lib.hid (HK1.out.trans k2 (fun _ _ h => h)); clear hc k2
  go_wp2_with fail
  refine (HSZ.out w2 HK2.out).mono ?_
  rintro e w2' ⟨rfl, rfl⟩
  go_wp2_with fail
  refine (HEM.out w2 HK2.out).mono ?_
  rintro e w2' ⟨rfl, rfl⟩
  have hlt := HSU.out w2 HK2.out
  simp only [World.size_alloc] at hlt
  have hrb := HRB.out.kept HK2.out (fun h => h)
  have r0 : w2.cell? ⟨w.heap.size, 0, none⟩ = some (.slice none 0 0) := by rw [hrb.cell]; rfl
  have r1 : w2.cell? ⟨w.heap.size, 1, none⟩ = some (.int .i64 0) := by rw [hrb.cell]; rfl
  have r2 : w2.cell? ⟨w.heap.size, 2, none⟩ = some (.bool false) := by rw [hrb.cell]; rfl
  have f0 := hrb.frozen 0
  have f1 := hrb.frozen 1
  have f2 := hrb.frozen 2
  have hrs := ((hrb.set 0 (.slice (some ⟨g2, 0, none⟩) d.size cap)).set 1 (.int .i64 d.size)).set 2 (.bool be)
  have s0 := hrs.cell 0
  have s1 := hrs.cell 1
  have s2 := hrs.cell 2
  have hkk : Kept No w (((w2.setCell ⟨w.heap.size, 0, none⟩ (.slice (some ⟨g2, 0, none⟩) d.size cap)).setCell ⟨w.heap.size, 1, none⟩ (.int .i64 d.size)).setCell ⟨w.heap.size, 2, none⟩ (.bool be)) :=
    ((((HK0.out.trans HK2.out (fun _ _ h => h)).setCell _ _ (fun h => absurd h (Nat.lt_irrefl _))).setCell _ _ (fun h => absurd h (Nat.lt_irrefl _))).setCell _ _ (fun h => absurd h (Nat.lt_irrefl _)))
  have hcc : CellsAt (((w2.setCell ⟨w.heap.size, 0, none⟩ (.slice (some ⟨g2, 0, none⟩) d.size cap)).setCell ⟨w.heap.size, 1, none⟩ (.int .i64 d.size)).setCell ⟨w.heap.size, 2, none⟩ (.bool be)) (some ⟨g2, 0, none⟩) (vs.map intV) :=
    (HC.out.kept ((((Kept.refl (fun i => i = w.heap.size) w2).setCell ⟨w.heap.size, 0, none⟩ _ (fun _ => rfl)).setCell ⟨w.heap.size, 1, none⟩ _ (fun _ => rfl)).setCell ⟨w.heap.size, 2, none⟩ _ (fun _ => rfl)) (by omega)).cells
  have HKK := Lib.hid hkk; have HCC := Lib.hid hcc; clear hkk hcc hrs hrb
  simp only [List.setIfInBounds_toArray, List.set_cons_zero, List.set_cons_succ] at s0 s1 s2
  go_wp2_with fail
  exact bodyPost_ret (v := .agg #[.slice (some ⟨g2, 0, none⟩) d.size cap, .int .i64 d.size, .bool be]) (by simp [results, Try.results47, go_sem, s0, s1, s2]) rfl ⟨g2, cap, by rw [HBE.out], HCC.out, HKK.out, by omega⟩

end Go.Nl
