/- FnSortNumbers: the walk. -/
import Derived.Test.YtgdjfgbipmajmaaSVL
import Derived.Test.YtgdjfgbipmajmaaEqual
namespace Go.Nl
open Go.RowKit Go.Sort Go.Proofs

set_option maxHeartbeats 4000000 in
set_option maxRecDepth 100000 in
theorem sortNumbers_walk (kind m : Int) (vals : List Int) (ad : Option Addr) (n' : Nat) (w : World) (hv : CellsAt w ad (vals.map intV)) (hn : vals.length ≤ maxLen) (had : ad = none → n' = 0) :
    Calls Try.prog 14 #[.slice ad vals.length n', .agg #[.int .i64 kind, .int .i64 m]] w fun e w' => e = .returned (.bool true) ∧ Kept No w w' := by
  unfold maxLen at hn
  have k0 : Kept No w (w.alloc (.cells #[.int .i64 kind, .int .i64 m] 23)) := (Kept.refl No w).alloc _
  have hb0 := Blk.new w #[.int .i64 kind, .int .i64 m] 23
  have hF : ∀ w1, Kept No (w.alloc (.cells #[.int .i64 kind, .int .i64 m] 23)) w1 → Kept No w w1 ∧ w1.cell? ⟨w.heap.size, 0, none⟩ = some (.int .i64 kind) ∧ w1.cell? ⟨w.heap.size, 1, none⟩ = some (.int .i64 m) := by
    intro w1 k1
    have hb1 := hb0.kept k1 (fun h => h)
    exact ⟨k0.trans k1 (fun _ _ h => h), by rw [hb1.cell]; rfl, by rw [hb1.cell]; rfl⟩
  have hO := orderOk_any kind m
  have HF := Lib.hid hF; have HO := Lib.hid hO; have HV := Lib.hid hv; have HA := Lib.hid had
  clear hF hO hv hb0 had
  obtain ⟨n, hnn⟩ : ∃ n, vals.length = n := ⟨_, rfl⟩
  rw [hnn] at hn ⊢
  have HN := Lib.hid hnn; clear hnn
  have K0 := Lib.hid k0; clear k0
  by_cases hbig : (2147483647 : Int) < n
  · go_enter Try.func14, Try.ntmps14
    go_wp2_with fail
    go_ret
    exact ⟨rfl, K0.out⟩
  by_cases h1000 : (1000 : Int) < n
  · go_enter Try.func14, Try.ntmps14
    go_wp2_with fail
    go_ret
    exact ⟨rfl, K0.out⟩
  obtain ⟨z, c0, c1⟩ := HF.out _ (Kept.refl No _)
  clear z
  go_enter Try.func14, Try.ntmps14
  go_wp2_with fail
  refine (HO.out _).mono ?_
  rintro e w2 ⟨b, rfl, hok, k2⟩
  obtain ⟨kw, d0, d1⟩ := HF.out w2 k2
  have K2 := Lib.hid k2; have KW2 := Lib.hid kw; have HOK := Lib.hid hok
  clear k2 kw hok c0 c1
  cases b with
  | false =>
    go_wp2_with fail
    go_ret
    exact ⟨rfl, KW2.out⟩
  | true =>
    have ok : OrdOk kind m := HOK.out rfl
    have HSN := Lib.hid (sortNumbers_any (n' := n') (HV.out.keptNo KW2.out) ok HN.out (by omega))
    have OK := Lib.hid ok; clear ok
    go_wp2_with fail
    refine HSN.out.mono ?_
    rintro e w3 ⟨g, cap, rfl, hL⟩
    obtain ⟨L, hp, ho, hc, k3⟩ := hL.out
    have hlen : L.length = n := by rw [hp.length_eq, HN.out]
    have K3 := Lib.hid (K2.out.trans k3 (fun _ _ h => h))
    have KW3 := Lib.hid (KW2.out.trans k3 (fun _ _ h => h))
    have HB := Lib.hid (bag_any (c1 := cap) (c2 := n') hc ((HV.out.keptNo KW3.out)) (fun h => by cases h) HA.out hp hlen (by omega))
    have HIO := Lib.hid (fun (W : World) (k : Kept No w3 W) => inOrder_any (c := cap) (hc.keptNo k) OK.out ho hlen (by omega))
    clear hL hp ho hc k3 hlen d0 d1
    go_wp2_with fail
    refine HB.out.mono ?_
    rintro e w4 ⟨rfl, k4⟩
    obtain ⟨kw, d0, d1⟩ := HF.out w4 (K3.out.trans k4 (fun _ _ h => h))
    have K4 := Lib.hid k4; clear k4 kw
    go_wp2_with fail
    refine (HIO.out w4 K4.out).mono ?_
    rintro e w5 ⟨rfl, k5⟩
    obtain ⟨kw, f0, f1⟩ := HF.out w5 ((K3.out.trans K4.out (fun _ _ h => h)).trans k5 (fun _ _ h => h))
    have KW5 := Lib.hid kw
    have q5 : Kept No w5 (w5.alloc (.cells #[.int .i64 7] 3)) := (Kept.refl No w5).alloc _
    obtain ⟨z5, e0, e1⟩ := HF.out _ (((K3.out.trans K4.out (fun _ _ h => h)).trans k5 (fun _ _ h => h)).trans q5 (fun _ _ h => h))
    have hlw := cell_lt f0
    have HS7 := Lib.hid (sortNumbers_any (n' := 1) (n := 1) (xs := [7]) (kind := kind) (m := m) (RowAt.new w5 #[.int .i64 7] 3 1 1 rfl).cells OK.out rfl (by omega))
    have Q5 := Lib.hid q5
    clear k5 kw d0 d1 q5 z5 f0 f1
    go_wp2_with fail
    refine HS7.out.mono ?_
    rintro e w6 ⟨g2, cap2, rfl, hL⟩
    obtain ⟨L2, _, _, _, k6⟩ := hL.out
    have KF := Lib.hid ((KW5.out.trans Q5.out (fun _ _ h => h)).trans k6 (fun _ _ h => h)); clear k6 hL
    go_wp2_with fail
    go_ret
    exact ⟨rfl, KF.out⟩

end Go.Nl
