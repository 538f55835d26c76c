/- The heap's Values. -/
import Derived.Test.YtgdjfgbipmajmaaIterB
import Derived.Deep.RegionHeld3
namespace Go.Nl
open Go.RowKit Go.Sort Go.Proofs

theorem iterator_any (hb : Nat) (w : World) : Calls Try.prog 54 #[.pointer (some ⟨hb, 0, none⟩)] w fun e w' => e = .returned (.agg #[.pointer (some ⟨hb, 0, none⟩), .int .i64 (-1)]) ∧ Kept No w w' := by
  have k1 : Kept No w (w.alloc (.cells #[.pointer (some ⟨hb, 0, none⟩), .int .i64 (-1)] 78)) := (Kept.refl No w).alloc _
  have K := Lib.hid k1; clear k1
  go_enter Try.func54, Try.ntmps54
  go_wp2
  exact bodyPost_ret (v := .agg #[.pointer (some ⟨hb, 0, none⟩), .int .i64 (-1)]) (by simp [results, Try.results54, go_sem]) rfl ⟨rfl, K.out⟩

/-- The cells of Values, k of them laid. -/
def valCells (lt : Int → Int → Bool) (d : Array Int) (k : Nat) : Array Value := ((List.range k).map (fun j => box (valueAt lt d j)) ++ List.replicate (d.size - k) Value.nilIface).toArray

theorem valCells_set (lt : Int → Int → Bool) (d : Array Int) (k : Nat) (h : k < d.size) : (valCells lt d k).setIfInBounds k (box (valueAt lt d k)) = valCells lt d (k + 1) := by
  unfold valCells
  rw [← Array.toList_inj]
  simp only [Array.toList_setIfInBounds, List.range_succ, List.map_append, List.map_cons, List.map_nil]
  rw [List.set_append_right _ _ (by simp)]
  simp only [List.length_map, List.length_range, Nat.sub_self]
  rw [show d.size - k = (d.size - (k + 1)) + 1 by omega, List.replicate_succ]
  simp

theorem valCells_zero (lt : Int → Int → Bool) (d : Array Int) : valCells lt d 0 = madeCells #[Value.nilIface] d.size := by
  unfold valCells
  rw [← Array.toList_inj, toList_madeCells_one]
  simp

/-- What the loop of Values holds. -/
structure ValAt (w : World) (hb : Nat) (kind m : Int) (d : Array Int) (k ib g : Nat) (wr : World) : Prop where
  it : IterAt wr ib hb ((k : Int) - 1)
  row : Blk wr g (valCells (ltK kind m) d k) 20
  kept : Kept No w wr
  newI : w.heap.size ≤ ib
  newG : w.heap.size ≤ g
  ne : ib ≠ g

section
variable {w wr : World} {hb : Nat} {kind m : Int} {d : Array Int} {k ib g : Nat}

theorem ValAt.round (h : ValAt w hb kind m d k ib g wr) (hk : k < d.size) {w1 w2 : World} (h1 : Kept (fun i => i = ib) wr w1) (h2 : Kept No w1 w2) :
    ValAt w hb kind m d (k + 1) w2.heap.size g ((w2.setCell ⟨g, k, none⟩ (box (valueAt (ltK kind m) d k))).alloc (.cells #[.pointer (some ⟨hb, 0, none⟩), .int .i64 k] 78)) := by
  have r1 := h.row.kept h1 (fun e => h.ne e.symm)
  have r2 := r1.kept h2 (fun h => h)
  have r3 := r2.set k (box (valueAt (ltK kind m) d k))
  rw [valCells_set _ _ _ hk] at r3
  have n1 := h.newI; have n2 := h.newG
  have kw : Kept No w w2 := (h.kept.trans h1 (fun i hi e => by omega)).trans h2 (fun _ _ h => h)
  have ks := kw.size
  have lt := r2.lt
  have hnew := Blk.new (w2.setCell ⟨g, k, none⟩ (box (valueAt (ltK kind m) d k))) #[.pointer (some ⟨hb, 0, none⟩), .int .i64 k] 78
  simp only [World.size_setCell] at hnew
  refine ⟨?_, r3.alloc _, ((kw.setCell ⟨g, k, none⟩ _ (fun hlt => absurd hlt (by simpa using n2))).alloc _), ks, n2, by omega⟩
  unfold IterAt
  rw [show (((k + 1 : Nat) : Int) - 1) = (k : Int) by omega]
  exact ⟨78, hnew⟩

/-- What Values hands back. -/
def ValuesPost (w : World) (kind m : Int) (d : Array Int) (e : Ending) (w' : World) : Prop :=
  ∃ g, e = .returned (.slice (some ⟨g, 0, none⟩) d.size d.size) ∧ RowAt w' g d.size d.size 20 1 (((List.range d.size).map (valueAt (ltK kind m) d)).map box) ∧ Kept No w w'

theorem ValAt.post (h : ValAt w hb kind m d d.size ib g wr) {w1 : World} (h1 : Kept (fun i => i = ib) wr w1) : ValuesPost w kind m d (.returned (.slice (some ⟨g, 0, none⟩) d.size d.size)) w1 := by
  have r1 := h.row.kept h1 (fun e => h.ne e.symm)
  have n1 := h.newI
  refine ⟨g, rfl, ⟨by simp, Nat.le_refl _, _, r1, by simp [valCells], ?_⟩, h.kept.trans h1 (fun i hi e => by omega)⟩
  unfold valCells
  simp only [Nat.sub_self, List.replicate_zero, List.append_nil, Nat.mul_one]
  rw [List.take_of_length_le (by simp), List.map_map]
  rfl
end

set_option maxHeartbeats 4000000 in
set_option maxRecDepth 100000 in
theorem values_any {w : World} {hb lb : Nat} {ao : Option Nat} {c ob : Nat} {kind m : Int} {d : Array Int} (h : HO w hb lb ao c ob kind m d) (ok : OrdOk kind m) (hd : d.size ≤ 1000000) :
    Calls Try.prog 131 #[.pointer (some ⟨hb, 0, none⟩)] w (ValuesPost w kind m d) := by
  obtain ⟨n, hn⟩ : ∃ n, d.size = n := ⟨_, rfl⟩
  have hsz := fun W (k : Kept No w W) => size_any lb (n : Int) W (by rw [← hn]; exact (h.heap.list.kept k (fun _ _ h => h)).sizeCell)
  have hmk := fun W => run_make_row' (P := Try.prog) 70 20 .nilIface 16 und70 info20 rfl .i64 .i64 n (by omega) (by omega) W
  have c0 := h.c0
  have HSZ := Lib.hid hsz; have HH := Lib.hid h; have HN := Lib.hid hn; clear hsz h hn
  go_enter Try.func131, Try.ntmps131
  go_upto_region 1 with fail
  go_cut [3] (fun s3 wc => ∃ q, s3 = .slice (some ⟨w.heap.size, 0, none⟩) n n ∧ wc = (w.drewN q).alloc (.cells (madeCells #[.nilIface] n) 20))
  case first =>
    go_region_held3 (fun w' => w'.cell? ⟨hb, 0, none⟩ = some (.pointer (some ⟨lb, 0, none⟩))) (go_keep)
      (first | (go_at_call 77; (with_reducible refine (HSZ.out _ (Kept.drew (Kept.refl No _))).mono ?_); rintro e w2 ⟨rfl, rfl⟩))
    all_goals
      go_wp2_with fail
      go_meet
      case rel => exact ⟨1, rfl, rfl⟩
  case rest =>
    obtain ⟨q, rfl, rfl⟩ := hcut
    have kq : Kept No w ((w.drewN q).alloc (.cells (madeCells #[.nilIface] n) 20)) := ((Kept.refl No w).drewN q).alloc _
    have rq : Blk ((w.drewN q).alloc (.cells (madeCells #[.nilIface] n) 20)) w.heap.size (valCells (ltK kind m) d 0) 20 := by
      rw [valCells_zero, HN.out]
      exact Blk.new (w.drewN q) _ 20
    have hst : ∀ w3, Kept No ((w.drewN q).alloc (.cells (madeCells #[.nilIface] n) 20)) w3 → ValAt w hb kind m d 0 w3.heap.size w.heap.size (w3.alloc (.cells #[.pointer (some ⟨hb, 0, none⟩), .int .i64 (-1)] 78)) := by
      intro w3 k3
      have r3 := rq.kept k3 (fun h => h)
      have k := kq.trans k3 (fun _ _ h => h)
      exact ⟨⟨78, Blk.new w3 _ 78⟩, r3.alloc _, k.alloc _, k.size, Nat.le_refl _, by have := r3.lt; omega⟩
    have HST := Lib.hid hst; clear hst kq rq hmk
    go_wp2_with fail
    refine (iterator_any hb _).mono ?_
    rintro e w3 ⟨rfl, k3⟩
    have HV := Lib.hid (HST.out w3 k3); clear k3 HST
    generalize w.heap.size = g at *
    go_wp2_with fail
    go_loopg [4] (n + 1) (fun gg s4 wr => ∃ k ib : Nat, s4 = .pointer (some ⟨ib, 0, none⟩) ∧ k ≤ n ∧ n + 1 - k ≤ gg ∧ Hid (ValAt w hb kind m d k ib g wr))
    case atStart => exact ⟨0, _, rfl, by omega, by omega, HV.out⟩
    case round =>
      obtain ⟨k, ib, rfl, hk, hg, HR⟩ := hrel
      have hH := HH.out.kept HR.out.kept (fun _ _ h => h) (fun h => h) (fun h => h)
      have l1 := HH.out.heap.head.lt; have l2 := HH.out.ord.lt
      have hnx := next_any hH HR.out.it (by omega) (by rw [HN.out]; omega) (by omega) (fun e => by have := HR.out.newI; omega) (fun e => by have := HR.out.newI; omega) (fun ho => by have := HR.out.newI; have := HH.out.ownLt ib ho; omega)
      rw [HN.out] at hnx
      rw [if_pos (by omega : (k : Int) - 1 < (n : Int)), show (k : Int) - 1 + 1 = (k : Int) by omega] at hnx
      by_cases hkn : k < n
      · rw [decide_eq_true (by omega : (k : Int) < (n : Int))] at hnx
        have HX := Lib.hid hnx; clear hnx l1 l2
        have hbody : ∀ w1, IterAt w1 ib hb (k : Int) → Kept (fun i => i = ib) wr w1 → Calls Try.prog 134 #[.pointer (some ⟨ib, 0, none⟩)] w1 fun e w' => ∃ v, e = .returned (.iface 3 (.int .i64 v)) ∧ Kept No w1 w' ∧ w'.cell? ⟨ib, 0, none⟩ = some (.pointer (some ⟨hb, 0, none⟩)) ∧ w'.cell? ⟨ib, 1, none⟩ = some (.int .i64 k) ∧
            (∃ u, w'.cell? ⟨g, k, none⟩ = some u) ∧ w'.frozen? ⟨g, k, none⟩ = false ∧ ib < w'.heap.size ∧ ib ≠ g ∧
            ValAt w hb kind m d (k + 1) w'.heap.size g ((w'.setCell ⟨g, k, none⟩ (.iface 3 (.int .i64 v))).alloc (.cells #[.pointer (some ⟨hb, 0, none⟩), .int .i64 k] 78)) := by
          intro w1 hi1 k1
          have n1 := HR.out.newI
          have kw1 : Kept No w w1 := HR.out.kept.trans k1 (fun i hi e => by omega)
          have hH1 := HH.out.kept kw1 (fun _ _ h => h) (fun h => h) (fun h => h)
          refine (value_any hH1 hi1 ok (by rw [HN.out]; exact hkn) hd).mono ?_
          rintro e w2 ⟨he, k2⟩
          have hi2 : IterAt w2 ib hb (k : Int) := hi1.keptI k2 (fun h => h)
          have r2 := (HR.out.row.kept k1 (fun e => HR.out.ne e.symm)).kept k2 (fun h => h)
          refine ⟨valueAt (ltK kind m) d k, he, k2, hi2.i0, hi2.i1, ⟨(valCells (ltK kind m) d k)[k]'(by simp [valCells]; rw [HN.out]; omega), ?_⟩, r2.frozen k, hi2.lt, HR.out.ne, HR.out.round (by rw [HN.out]; exact hkn) k1 k2⟩
          rw [r2.cell]; exact Array.getElem?_eq_getElem _
        have HB := Lib.hid hbody; clear hbody hH
        go_wp2_with fail
        refine HX.out.mono ?_
        rintro e w1 ⟨rfl, hi1, k1⟩
        have hidx := iterIndex_any hi1
        have HI1 := Lib.hid hi1; have HK1 := Lib.hid k1; have HID := Lib.hid hidx; clear hi1 k1 hidx
        go_wp2_with fail
        refine HID.out.mono ?_
        rintro e w1' ⟨rfl, rfl⟩
        go_wp2_with fail
        refine (HB.out w1 HI1.out HK1.out).mono ?_
        rintro e w2 ⟨v, rfl, k2, j0, j1, ⟨u, hu⟩, hf, hlt, hne, hval⟩
        have HVAL := Lib.hid hval; clear hval k2
        go_wp2_with fail
        go_roundg (n + 1 - (k + 1))
        case measure => omega
        case rel => exact ⟨k + 1, _, rfl, by omega, by omega, HVAL.out⟩
      · obtain rfl : k = n := by omega
        rw [decide_eq_false (by omega : ¬ (k : Int) < (k : Int))] at hnx
        have HX := Lib.hid hnx; clear hnx l1 l2 hH
        go_wp2_with fail
        refine HX.out.mono ?_
        rintro e w1 ⟨rfl, hi1, k1⟩
        have hd2 := HN.out
        subst hd2
        have HP := Lib.hid (HR.out.post k1); clear k1 hi1
        go_wp2_with fail
        go_ret
        exact HP.out

end Go.Nl
