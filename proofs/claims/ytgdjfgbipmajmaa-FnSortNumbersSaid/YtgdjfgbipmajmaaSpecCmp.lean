/- The reference's comparison: Rest, Compare, and the comparison that Sorted hands on. -/
import Derived.Test.YtgdjfgbipmajmaaCmp
namespace Go.Nl
open Go.RowKit Go.Sort Go.Proofs

theorem rest_cases (n m : Int) (h : 1 ≤ m) : (n.tmod m < 0 → n.tmod m + m = n % m) ∧ (0 ≤ n.tmod m → n.tmod m = n % m) := by
  have e := rest_eq n m
  have hb1 := Int.tmod_lt_of_pos n (show 0 < m by omega)
  have hb2 := Int.lt_tmod_of_pos n (show 0 < m by omega)
  constructor
  · intro h0
    rw [← e, Int.emod_eq_of_lt (by omega) (by omega)]
  · intro h0
    rw [← e, Int.add_emod_right, Int.emod_eq_of_lt h0 (by omega)]

theorem restS_any (n m : Int) (w : World) (h1 : 1 ≤ m) (h2 : m ≤ 1000) :
    Calls Try.prog 49 #[.int .i64 n, .int .i64 m] w fun e w' => e = .returned (.int .i64 (n % m)) ∧ w = w' := by
  have hb1 := Int.tmod_lt_of_pos n (show 0 < m by omega)
  have hb2 := Int.lt_tmod_of_pos n (show 0 < m by omega)
  obtain ⟨e1, e2⟩ := rest_cases n m h1
  by_cases h0 : n.tmod m < 0
  · have He := Lib.hid (e1 h0); clear e1 e2
    go_enter Try.func49, Try.ntmps49
    go_wp2
    go_ret
    exact ⟨by rw [← He.out]; rfl, rfl⟩
  · have He := Lib.hid (e2 (by omega)); clear e1 e2
    go_enter Try.func49, Try.ntmps49
    go_wp2
    go_ret
    exact ⟨by rw [← He.out]; rfl, rfl⟩

set_option maxHeartbeats 1000000 in
theorem compare_any (kind m x y : Int) (w : World) (ok : OrdOk kind m) :
    Calls Try.prog 32 #[.agg #[.int .i64 kind, .int .i64 m], .int .i64 x, .int .i64 y] w fun e w' => e = .returned (.int .i64 (cmpV kind m x y)) ∧ Kept No w w' := by
  have k1 : Kept No w (w.alloc (.cells #[.int .i64 kind, .int .i64 m] 23)) := (Kept.refl No w).alloc _
  have hB := Blk.new w #[.int .i64 kind, .int .i64 m] 23
  have c0 := hB.ord0
  have c1 := hB.ord1
  clear hB
  have K := Lib.hid k1; clear k1
  rcases ok with rfl | rfl | ⟨rfl, h1, h2⟩
  · have e : cmpV 0 m x y = cmpI x y := by unfold cmpV key; simp
    rw [e]
    clear e
    by_cases q1 : x < y
    · have hc : cmpI x y = -1 := by unfold cmpI; rw [if_pos q1]
      rw [hc]; clear hc
      go_enter Try.func32, Try.ntmps32
      go_wp2
      go_ret
      exact ⟨rfl, K.out⟩
    · by_cases q2 : y < x
      · have hc : cmpI x y = 1 := by unfold cmpI; rw [if_neg q1, if_pos q2]
        rw [hc]; clear hc
        go_enter Try.func32, Try.ntmps32
        go_wp2
        go_ret
        exact ⟨rfl, K.out⟩
      · have hc : cmpI x y = 0 := by unfold cmpI; rw [if_neg q1, if_neg q2]
        rw [hc]; clear hc
        go_enter Try.func32, Try.ntmps32
        go_wp2
        go_ret
        exact ⟨rfl, K.out⟩
  · have e : cmpV 1 m x y = cmpI y x := by unfold cmpV key cmpI; simp
    rw [e]
    clear e
    by_cases q1 : y < x
    · have hc : cmpI y x = -1 := by unfold cmpI; rw [if_pos q1]
      rw [hc]; clear hc
      go_enter Try.func32, Try.ntmps32
      go_wp2
      go_ret
      exact ⟨rfl, K.out⟩
    · by_cases q2 : x < y
      · have hc : cmpI y x = 1 := by unfold cmpI; rw [if_neg q1, if_pos q2]
        rw [hc]; clear hc
        go_enter Try.func32, Try.ntmps32
        go_wp2
        go_ret
        exact ⟨rfl, K.out⟩
      · have hc : cmpI y x = 0 := by unfold cmpI; rw [if_neg q1, if_neg q2]
        rw [hc]; clear hc
        go_enter Try.func32, Try.ntmps32
        go_wp2
        go_ret
        exact ⟨rfl, K.out⟩
  · have e : cmpV 2 m x y = cmpI (x % m) (y % m) := by unfold cmpV key; simp
    rw [e]
    clear e
    have hx := fun (w : World) => restS_any x m w h1 h2
    have hy := fun (w : World) => restS_any y m w h1 h2
    generalize x % m = rx at hx ⊢
    generalize y % m = ry at hy ⊢
    have HX := Lib.hid hx; have HY := Lib.hid hy
    clear hx hy
    by_cases q1 : rx < ry
    · have hc : cmpI rx ry = -1 := by unfold cmpI; rw [if_pos q1]
      rw [hc]; clear hc
      go_enter Try.func32, Try.ntmps32
      go_wp2_with fail
      generalize hwd : w.alloc (.cells #[.int .i64 2, .int .i64 m] 23) = wd at c0 c1 ⊢
      have Hw := Lib.hid hwd; clear hwd
      go_quiet ((first | (go_at_call 49; with_reducible exact quiet_eq (HX.out _)) | (go_at_call 49; with_reducible exact quiet_eq (HY.out _))))
      go_wp2
      go_ret
      exact ⟨rfl, by rw [← Hw.out]; exact K.out.drewN _⟩
    · by_cases q2 : ry < rx
      · have hc : cmpI rx ry = 1 := by unfold cmpI; rw [if_neg q1, if_pos q2]
        rw [hc]; clear hc
        go_enter Try.func32, Try.ntmps32
        go_wp2_with fail
        generalize hwd : w.alloc (.cells #[.int .i64 2, .int .i64 m] 23) = wd at c0 c1 ⊢
        have Hw := Lib.hid hwd; clear hwd
        go_quiet ((first | (go_at_call 49; with_reducible exact quiet_eq (HX.out _)) | (go_at_call 49; with_reducible exact quiet_eq (HY.out _))))
        go_wp2
        go_ret
        exact ⟨rfl, by rw [← Hw.out]; exact K.out.drewN _⟩
      · have hc : cmpI rx ry = 0 := by unfold cmpI; rw [if_neg q1, if_neg q2]
        rw [hc]; clear hc
        go_enter Try.func32, Try.ntmps32
        go_wp2_with fail
        generalize hwd : w.alloc (.cells #[.int .i64 2, .int .i64 m] 23) = wd at c0 c1 ⊢
        have Hw := Lib.hid hwd; clear hwd
        go_quiet ((first | (go_at_call 49; with_reducible exact quiet_eq (HX.out _)) | (go_at_call 49; with_reducible exact quiet_eq (HY.out _))))
        go_wp2
        go_ret
        exact ⟨rfl, by rw [← Hw.out]; exact K.out.drewN _⟩

/-- The comparison over the order in block pb. -/
abbrev cmpFn (pb : Nat) : Value := .func (.func 46) #[] #[.pointer (some ⟨pb, 0, none⟩)]

theorem cmpS_any (kind m x y : Int) (pb : Nat) (w : World) (hO : Blk w pb (ordCells kind m) 23) (ok : OrdOk kind m) :
    Calls Try.prog 46 #[.int .i64 x, .int .i64 y, .pointer (some ⟨pb, 0, none⟩)] w fun e w' => e = .returned (.int .i64 (cmpV kind m x y)) ∧ Kept No w w' := by
  have c0 := hO.ord0
  have c1 := hO.ord1
  have hc := compare_any kind m x y w ok
  generalize cmpV kind m x y = r at hc ⊢
  have HC := Lib.hid hc; clear hc hO
  go_enter Try.func46, Try.ntmps46
  go_wp2_with fail
  refine HC.out.mono ?_
  rintro e w' ⟨rfl, k⟩
  have K := Lib.hid k; clear k
  go_wp2_with fail
  go_ret
  exact ⟨rfl, K.out⟩

end Go.Nl
