/- sort.Sort's choice of a pivot. -/
import Derived.Test.YtgdjfgbipmajmaaSVE
namespace Go.Nl
open Go.RowKit Go.Sort Go.Proofs

/-- A fresh block c that holds one number; all that w0 held is as it was. -/
def Scr (t : TypeId) (K : IntKind) (w0 w : World) (c : Nat) : Prop := w0.heap.size ≤ c ∧ Kept No w0 w ∧ ∃ s : Int, Blk w c #[.int K s] t

theorem Scr.no {t : TypeId} {K : IntKind} {w0 w w' : World} {c : Nat} (h : Scr t K w0 w c) (k : Kept No w w') : Scr t K w0 w' c := by
  obtain ⟨h1, h2, s, h3⟩ := h
  exact ⟨h1, h2.trans k (fun _ _ h => h), s, h3.kept k (fun h => h)⟩

theorem Scr.set {t : TypeId} {K : IntKind} {w0 w : World} {c : Nat} (h : Scr t K w0 w c) (s : Int) : Scr t K w0 (w.setCell ⟨c, 0, none⟩ (.int K s)) c := by
  obtain ⟨h1, h2, s', h3⟩ := h
  exact ⟨h1, h2.setCell _ _ (fun hc => absurd hc (by show ¬ c < _; omega)), s, h3.set 0 _⟩

set_option maxHeartbeats 4000000 in
set_option maxRecDepth 100000 in
theorem order2_any {w0 w : World} {g cap ob n c : Nat} {kind m : Int} {d : Array Int} (h : SV w0 g cap ob kind m d) (ok : OrdOk kind m) (hn : d.size = n) (hs : Scr 3 .i64 w0 w c) (a b : Nat) (han : a < n) (hbn : b < n) :
    Calls Try.prog 110 #[.iface 100 (rvOf g n cap ob), .int .i64 a, .int .i64 b, .pointer (some ⟨c, 0, none⟩)] w fun e w' => ∃ p q : Nat, e = .returned (.tuple #[.int .i64 p, .int .i64 q]) ∧ Hid ((p = a ∧ q = b ∨ p = b ∧ q = a) ∧ Scr 3 .i64 w0 w' c) := by
  have m1 := meth_less g n cap ob
  have hl := less_any (h.keptNo hs.2.1) ok n hn b a (by omega) (by omega)
  have HS := Lib.hid hs; clear hs h
  cases hv : ltK kind m d[b]! d[a]! with
  | true =>
    rw [hv] at hl
    have HL := Lib.hid hl; clear hl hv
    go_enter Try.func110, Try.ntmps110
    go_wp2_with fail
    refine HL.out.mono ?_
    rintro e w2 ⟨rfl, k2⟩
    have HK := Lib.hid (HS.out.no k2); clear k2
    obtain ⟨s, hB⟩ := HK.out.2.2
    have c0 : w2.cell? ⟨c, 0, none⟩ = some (.int .i64 s) := hB.cell 0
    have f0 : w2.frozen? ⟨c, 0, none⟩ = false := hB.frozen 0
    clear hB
    go_wp2_with fail
    refine bodyPost_ret (results_tmp2 rfl _ _ _) rfl ?_
    exact ⟨b, a, rfl, (show _ ∧ _ from ⟨Or.inr ⟨rfl, rfl⟩, HK.out.set _⟩)⟩
  | false =>
    rw [hv] at hl
    have HL := Lib.hid hl; clear hl hv
    go_enter Try.func110, Try.ntmps110
    go_wp2_with fail
    refine HL.out.mono ?_
    rintro e w2 ⟨rfl, k2⟩
    have HK := Lib.hid (HS.out.no k2); clear k2
    go_wp2_with fail
    refine bodyPost_ret (results_tmp2 rfl _ _ _) rfl ?_
    exact ⟨a, b, rfl, (show _ ∧ _ from ⟨Or.inl ⟨rfl, rfl⟩, HK.out⟩)⟩

set_option maxHeartbeats 4000000 in
set_option maxRecDepth 100000 in
theorem median_any {w0 w : World} {g cap ob n c : Nat} {kind m : Int} {d : Array Int} (h : SV w0 g cap ob kind m d) (ok : OrdOk kind m) (hn : d.size = n) (hs : Scr 3 .i64 w0 w c) (x y z : Nat) (hx : x < n) (hy : y < n) (hz : z < n) :
    Calls Try.prog 109 #[.iface 100 (rvOf g n cap ob), .int .i64 x, .int .i64 y, .int .i64 z, .pointer (some ⟨c, 0, none⟩)] w fun e w' => ∃ p : Nat, e = .returned (.int .i64 p) ∧ Hid ((p = x ∨ p = y ∨ p = z) ∧ Scr 3 .i64 w0 w' c) := by
  have HO := Lib.hid (fun (W : World) (q : Scr 3 .i64 w0 W c) (a b : Nat) (ha : a < n) (hb : b < n) => order2_any h ok hn q a b ha hb)
  have HS := Lib.hid hs; clear hs h hn
  go_enter Try.func109, Try.ntmps109
  go_wp2_with fail
  refine (HO.out w HS.out x y hx hy).mono ?_
  rintro e w1 ⟨a1, b1, rfl, r1⟩
  have ha1 : a1 < n := by rcases r1.out.1 with h | h <;> omega
  have hb1 : b1 < n := by rcases r1.out.1 with h | h <;> omega
  go_wp2_with fail
  refine (HO.out w1 r1.out.2 b1 z hb1 hz).mono ?_
  rintro e w2 ⟨b2, c2, rfl, r2⟩
  have hb2 : b2 < n := by rcases r2.out.1 with h | h <;> omega
  go_wp2_with fail
  refine (HO.out w2 r2.out.2 a1 b2 ha1 hb2).mono ?_
  rintro e w3 ⟨a3, b3, rfl, r3⟩
  go_wp2_with fail
  go_ret
  exact ⟨b3, rfl, (show _ ∧ _ from ⟨by have q1 := r1.out.1; have q2 := r2.out.1; have q3 := r3.out.1; omega, r3.out.2⟩)⟩

set_option maxHeartbeats 4000000 in
set_option maxRecDepth 100000 in
theorem medAdj_any {w0 w : World} {g cap ob n c : Nat} {kind m : Int} {d : Array Int} (h : SV w0 g cap ob kind m d) (ok : OrdOk kind m) (hn : d.size = n) (hb : n ≤ 1048576) (hs : Scr 3 .i64 w0 w c) (x : Nat) (hx0 : 1 ≤ x) (hx : x + 1 < n) :
    Calls Try.prog 108 #[.iface 100 (rvOf g n cap ob), .int .i64 x, .pointer (some ⟨c, 0, none⟩)] w fun e w' => ∃ p : Nat, e = .returned (.int .i64 p) ∧ Hid (x ≤ p + 1 ∧ p ≤ x + 1 ∧ Scr 3 .i64 w0 w' c) := by
  obtain ⟨y, hy1, hy2⟩ : ∃ y : Nat, y + 1 ≤ x ∧ x ≤ y + 1 := ⟨x - 1, by omega, by omega⟩
  obtain ⟨z, hz1, hz2⟩ : ∃ z : Nat, z ≤ x + 1 ∧ x + 1 ≤ z := ⟨x + 1, by omega, by omega⟩
  have t1 : IntKind.i64.wrap ((x : Int) - 1) = (y : Int) := by rw [IntWalk.i64_in _ (by omega)]; omega
  have t2 : IntKind.i64.wrap ((x : Int) + 1) = (z : Int) := by rw [IntWalk.i64_in _ (by omega)]; omega
  have HM := Lib.hid (median_any h ok hn hs y x z (by omega) (by omega) (by omega))
  clear hs h hn
  go_enter Try.func108, Try.ntmps108
  go_wp2_with fail
  refine HM.out.mono ?_
  rintro e w1 ⟨p, rfl, r1⟩
  go_wp2_with fail
  go_ret
  exact ⟨p, rfl, (show _ ∧ _ ∧ _ from ⟨by have := r1.out.1; omega, by have := r1.out.1; omega, r1.out.2⟩)⟩

theorem Scr.new {w : World} (s : Int) : Scr 3 .i64 w (w.alloc (.cells #[.int .i64 s] 3)) w.heap.size :=
  ⟨Nat.le_refl _, (Kept.refl No w).alloc _, s, Blk.new _ _ _⟩

set_option maxHeartbeats 4000000 in
set_option maxRecDepth 100000 in
theorem svPivot_any {w : World} {g cap ob n : Nat} {kind m : Int} {d : Array Int} (h : SV w g cap ob kind m d) (ok : OrdOk kind m) (hn : d.size = n) (hb : n ≤ 1048576) (a b : Nat) (hab : a + 12 < b) (hbn : b ≤ n) :
    Calls Try.prog 98 #[.iface 100 (rvOf g n cap ob), .int .i64 a, .int .i64 b] w fun e w' => ∃ p t : Nat, e = .returned (.tuple #[.int .i64 p, .int .i64 t]) ∧ a ≤ p ∧ p < b ∧ Kept No w w' := by
  obtain ⟨L, hL1, hL2⟩ : ∃ L : Nat, a + L ≤ b ∧ b ≤ a + L := ⟨b - a, by omega, by omega⟩
  obtain ⟨q, hq1, hq2⟩ : ∃ q : Nat, 4 * q ≤ L ∧ L < 4 * q + 4 := ⟨L / 4, by omega, by omega⟩
  obtain ⟨x, hx1, hx2⟩ : ∃ x : Nat, x ≤ a + q ∧ a + q ≤ x := ⟨_, Nat.le_refl _, Nat.le_refl _⟩
  obtain ⟨y, hy1, hy2⟩ : ∃ y : Nat, y ≤ a + 2 * q ∧ a + 2 * q ≤ y := ⟨_, Nat.le_refl _, Nat.le_refl _⟩
  obtain ⟨z, hz1, hz2⟩ : ∃ z : Nat, z ≤ a + 3 * q ∧ a + 3 * q ≤ z := ⟨_, Nat.le_refl _, Nat.le_refl _⟩
  have t1 : IntKind.i64.wrap ((b : Int) - (a : Int)) = (L : Int) := by rw [IntWalk.i64_in _ (by omega)]; omega
  have t2 : (L : Int).tdiv 4 = (q : Int) := by rw [Int.tdiv_eq_ediv_of_nonneg (by omega)]; omega
  have t3 : (a : Int) + (q : Int) = (x : Int) := by omega
  have t4 : (a : Int) + (q : Int) * 2 = (y : Int) := by omega
  have t5 : (a : Int) + (q : Int) * 3 = (z : Int) := by omega
  have HM := Lib.hid (fun (W : World) (r : Scr 3 .i64 w W w.heap.size) (u1 u2 u3 : Nat) (h1 : u1 < n) (h2 : u2 < n) (h3 : u3 < n) => median_any h ok hn r u1 u2 u3 h1 h2 h3)
  have HA := Lib.hid (fun (W : World) (r : Scr 3 .i64 w W w.heap.size) (u : Nat) (h1 : 1 ≤ u) (h2 : u + 1 < n) => medAdj_any h ok hn hb r u h1 h2)
  have HS : Hid (Scr 3 .i64 w (w.alloc (.cells #[.int .i64 0] 3)) w.heap.size) := Lib.hid (Scr.new 0)
  clear h hn
  by_cases h50 : 50 ≤ L
  · go_enter Try.func98, Try.ntmps98
    go_wp2_with fail
    refine (HA.out _ HS.out x (by omega) (by omega)).mono ?_
    rintro e w1 ⟨p1, rfl, r1⟩
    have l1 := r1.out.1; have u1 := r1.out.2.1
    go_wp2_with fail
    refine (HA.out _ r1.out.2.2 y (by omega) (by omega)).mono ?_
    rintro e w2 ⟨p2, rfl, r2⟩
    have l2 := r2.out.1; have u2 := r2.out.2.1
    go_wp2_with fail
    refine (HA.out _ r2.out.2.2 z (by omega) (by omega)).mono ?_
    rintro e w3 ⟨p3, rfl, r3⟩
    have l3 := r3.out.1; have u3 := r3.out.2.1
    go_wp2_with fail
    refine (HM.out _ r3.out.2.2 p1 p2 p3 (by omega) (by omega) (by omega)).mono ?_
    rintro e w4 ⟨p4, rfl, r4⟩
    have l4 : a ≤ p4 := by have := r4.out.1; omega
    have u4 : p4 < b := by have := r4.out.1; omega
    clear l1 u1 l2 u2 l3 u3
    obtain ⟨s, hB⟩ := r4.out.2.2.2
    have c0 : w4.cell? ⟨w.heap.size, 0, none⟩ = some (.int .i64 s) := hB.cell 0
    have hk : Kept No w w4 := r4.out.2.2.1
    have K := Lib.hid hk
    clear hB hk
    by_cases hs0 : s = 0
    · subst hs0
      go_wp2_with fail
      refine bodyPost_ret (results_tmp2 rfl _ _ _) rfl ?_
      exact ⟨p4, 1, rfl, by omega, by omega, K.out⟩
    · have g1 : (s == 0) = false := beq_eq_false_iff_ne.2 hs0
      by_cases hs1 : s = 12
      · subst hs1
        go_wp2_with fail
        refine bodyPost_ret (results_tmp2 rfl _ _ _) rfl ?_
        exact ⟨p4, 2, rfl, by omega, by omega, K.out⟩
      · have g2 : (s == 12) = false := beq_eq_false_iff_ne.2 hs1
        go_wp2_with fail
        refine bodyPost_ret (results_tmp2 rfl _ _ _) rfl ?_
        exact ⟨p4, 0, rfl, by omega, by omega, K.out⟩
  · go_enter Try.func98, Try.ntmps98
    go_wp2_with fail
    refine (HM.out _ HS.out x y z (by omega) (by omega) (by omega)).mono ?_
    rintro e w4 ⟨p4, rfl, r4⟩
    have l4 : a ≤ p4 := by have := r4.out.1; omega
    have u4 : p4 < b := by have := r4.out.1; omega
    obtain ⟨s, hB⟩ := r4.out.2.2.2
    have c0 : w4.cell? ⟨w.heap.size, 0, none⟩ = some (.int .i64 s) := hB.cell 0
    have hk : Kept No w w4 := r4.out.2.2.1
    have K := Lib.hid hk
    clear hB hk
    by_cases hs0 : s = 0
    · subst hs0
      go_wp2_with fail
      refine bodyPost_ret (results_tmp2 rfl _ _ _) rfl ?_
      exact ⟨p4, 1, rfl, by omega, by omega, K.out⟩
    · have g1 : (s == 0) = false := beq_eq_false_iff_ne.2 hs0
      by_cases hs1 : s = 12
      · subst hs1
        go_wp2_with fail
        refine bodyPost_ret (results_tmp2 rfl _ _ _) rfl ?_
        exact ⟨p4, 2, rfl, by omega, by omega, K.out⟩
      · have g2 : (s == 12) = false := beq_eq_false_iff_ne.2 hs1
        go_wp2_with fail
        refine bodyPost_ret (results_tmp2 rfl _ _ _) rfl ?_
        exact ⟨p4, 0, rfl, by omega, by omega, K.out⟩

end Go.Nl
