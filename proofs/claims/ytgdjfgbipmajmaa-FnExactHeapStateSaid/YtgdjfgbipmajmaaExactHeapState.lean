/- FnExactHeapState: the walk. -/
import Derived.Test.YtgdjfgbipmajmaaSpecE
import Derived.Test.YtgdjfgbipmajmaaHeapState
namespace Go.Nl
open Go.RowKit Go.Sort Go.Proofs

set_option maxHeartbeats 4000000 in
set_option maxRecDepth 100000 in
theorem exactHeapState_walk (kind m : Int) (ss : List Step) (ad : Option Addr) (n' : Nat) (w : World) (hs : StepsAt w ad ss) (hn : ss.length ≤ maxLen) (_had : ad = none → n' = 0) :
    Calls Try.prog 10 #[.agg #[.int .i64 kind, .int .i64 m], .slice ad ss.length n'] w fun e w' => e = .returned (.bool true) ∧ Kept No w w' := by
  have k0 : Kept No w (w.alloc (.cells #[.int .i64 kind, .int .i64 m] 23)) := (Kept.refl No w).alloc _
  have hb0 := Blk.new w #[.int .i64 kind, .int .i64 m] 23
  have hf := fits3_any ss ad n' _ (hs.keptNo k0) hn
  have hF : ∀ w1, Kept No (w.alloc (.cells #[.int .i64 kind, .int .i64 m] 23)) w1 → Kept No w w1 ∧ w1.cell? ⟨w.heap.size, 0, none⟩ = some (.int .i64 kind) ∧ w1.cell? ⟨w.heap.size, 1, none⟩ = some (.int .i64 m) := by
    intro w1 k1
    have hb1 := hb0.kept k1 (fun h => h)
    exact ⟨k0.trans k1 (fun _ _ h => h), by rw [hb1.cell]; rfl, by rw [hb1.cell]; rfl⟩
  have hO := plain_any kind m
  have hS := fun w1 (k : Kept No w w1) => stepsOk_any ss ad n' w1 (hs.keptNo k) hn
  have hrun : (kind = 0 ∨ kind = 1) → Small ss 200 20 → ∃ (vs : List Int) (N : Nat), N ≤ 1000000 ∧ vs.length = N ∧ (∀ st, RunS (ltK kind m) ss st → st.1.length = N ∧ vs.Perm st.1) ∧
      (∀ W, Kept No w W → Calls Try.prog 30 #[.agg #[.int .i64 kind, .int .i64 m], .slice ad ss.length n'] W (StatePost W vs N)) ∧
      (∀ W, Kept No w W → Calls Try.prog 28 #[.agg #[.int .i64 kind, .int .i64 m], .slice ad ss.length n'] W (RefPost W kind m ss)) := by
    intro hk hsm
    have ok : OrdOk kind m := hk.elim Or.inl (fun h => Or.inr (Or.inl h))
    refine ⟨(List.range (runH (ltK kind m) ss).1.size).map (valueAt (ltK kind m) (runH (ltK kind m) ss).1), (runH (ltK kind m) ss).1.size, ?_, by simp, ?_, fun W k => heapState_any kind m ok ss (small_big hsm) ad n' W (hs.keptNo k), fun W k => ref_any kind m ok ss (small_big hsm) ad n' W (hs.keptNo k)⟩
    · have := (size_runH (ltK kind m) ss 20 hsm.2 ss.length (Nat.le_refl _)).1
      rw [List.take_length] at this
      have := hsm.1
      omega
    · intro st h
      have hA := runH_alike h
      exact ⟨hA.size.symm, (values_perm (ltK_swo kind m) _).trans (alike_same hk hA).1⟩
  have HF0 := Lib.hid hf; have HF := Lib.hid hF; have HO := Lib.hid hO; have HS := Lib.hid hS; have HR := Lib.hid hrun
  clear hf hF hO hS hs hn k0 hb0 hrun
  generalize hnn : ss.length = n at *
  clear hnn
  go_enter Try.func10, Try.ntmps10
  go_wp2_with fail
  refine HF0.out.mono ?_
  rintro e w1 ⟨b, rfl, _, k1⟩
  obtain ⟨kw, c0, c1⟩ := HF.out w1 k1
  have K1 := Lib.hid kw; have K01 := Lib.hid k1; clear kw k1
  cases b
  · go_wp2_with fail
    go_ret
    exact ⟨rfl, K1.out⟩
  go_wp2_with fail
  refine (HO.out w1).mono ?_
  rintro e w2 ⟨b, rfl, hok, k2⟩
  obtain ⟨kw, d0, d1⟩ := HF.out w2 (K01.out.trans k2 (fun _ _ h => h))
  have K2 := Lib.hid kw; have K02 := Lib.hid (K01.out.trans k2 (fun _ _ h => h)); have HOK := Lib.hid hok; clear kw k2 hok c0 c1
  cases b
  · go_wp2_with fail
    go_ret
    exact ⟨rfl, K2.out⟩
  go_wp2_with fail
  refine (HS.out w2 K2.out).mono ?_
  rintro e w3 ⟨b, rfl, hsm, k3⟩
  obtain ⟨kw, e0, e1⟩ := HF.out w3 (K02.out.trans k3 (fun _ _ h => h))
  have K3 := Lib.hid kw; have K03 := Lib.hid (K02.out.trans k3 (fun _ _ h => h)); have HSM := Lib.hid hsm; clear kw k3 hsm d0 d1
  cases b
  · go_wp2_with fail
    go_ret
    exact ⟨rfl, K3.out⟩
  obtain ⟨vs, N, hN, hvl, hgs, r22, r28⟩ := HR.out (HOK.out (by simp)) (HSM.out (by simp))
  have R22 := Lib.hid r22; have R28 := Lib.hid r28; have HGS := Lib.hid hgs; have HVL := Lib.hid hvl
  have HKP := Lib.hid (fun W => keepsHeap_any W)
  clear r22 r28 hgs hvl HR HOK HSM HF0 HO HS K1 K01 K2 K02
  go_wp2_with fail
  refine (R28.out w3 K3.out).mono ?_
  rintro e w4 ⟨adL, cL, g, cap, ⟨L, gs'⟩, rfl, hrn, href⟩
  obtain ⟨hln, hperm⟩ := HGS.out _ hrn
  simp only at hln hperm ⊢
  rw [hln]
  obtain ⟨kw, f0, f1⟩ := HF.out w4 (K03.out.trans href.kept (fun _ _ h => h))
  have K4 := Lib.hid kw; have HLI := Lib.hid href.list.cells; have HNI := Lib.hid href.nil; have HPE := Lib.hid hperm; clear kw href hrn e0 e1 hln hperm
  go_wp2_with fail
  refine (R22.out w4 K4.out).mono ?_
  rintro e w5 ⟨g1, cap1, rfl, hcs, k5, _⟩
  have ka : Kept No w5 (w5.alloc (.cells #[.slice (some ⟨g1, 0, none⟩) N cap1, .int .i64 N, .bool ((N : Int) == 0)] 42)) := (Kept.refl No w5).alloc _
  have hsb := Blk.new w5 #[.slice (some ⟨g1, 0, none⟩) N cap1, .int .i64 N, .bool ((N : Int) == 0)] 42
  have hbag := bag_any (hcs.keptNo ka) ((HLI.out.keptNo k5).keptNo ka) (c1 := cap1) (fun h => by cases h) HNI.out HPE.out HVL.out (by omega)
  generalize hbe : ((N : Int) == 0) = be at *
  have hz : ∀ W, Kept No (w5.alloc (.cells #[.slice (some ⟨g1, 0, none⟩) N cap1, .int .i64 N, .bool be] 42)) W → W.cell? ⟨w5.heap.size, 1, none⟩ = some (.int .i64 N) ∧ W.cell? ⟨w5.heap.size, 2, none⟩ = some (.bool be) := by
    intro W k
    have hW := hsb.kept k (fun h => h)
    exact ⟨by rw [hW.cell]; rfl, by rw [hW.cell]; rfl⟩
  have HB := Lib.hid hbag; have HZ := Lib.hid hz
  have K5 := Lib.hid ((K4.out.trans k5 (fun _ _ h => h)).trans ka (fun _ _ h => h)); clear hcs k5 ka hsb hbag hz f0 f1
  go_wp2_with fail
  refine HB.out.mono ?_
  rintro e w6 ⟨rfl, k6⟩
  obtain ⟨z1, z2⟩ := HZ.out w6 k6
  have K6 := Lib.hid (K5.out.trans k6 (fun _ _ h => h)); clear k6
  go_wp2_with fail
  refine (HKP.out _).mono ?_
  rintro e w7 ⟨rfl, k7⟩
  have K7 := Lib.hid (K6.out.trans k7 (fun _ _ h => h)); clear k7
  go_wp2_with fail
  go_ret
  exact ⟨rfl, K7.out⟩

end Go.Nl
