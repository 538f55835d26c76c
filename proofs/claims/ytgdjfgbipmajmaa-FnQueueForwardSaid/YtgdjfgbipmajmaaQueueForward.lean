/- FnQueueForward: the walk. -/
import Derived.Test.YtgdjfgbipmajmaaMoves
import Derived.Test.YtgdjfgbipmajmaaQueueWalk
namespace Go.Nl
open Go.RowKit Go.Sort Go.Proofs

set_option maxHeartbeats 4000000 in
set_option maxRecDepth 100000 in
theorem queueForward_walk (kind m : Int) (ss : List Step) (ad : Option Addr) (n' : Nat) (w : World) (hs : StepsAt w ad ss) (hn : ss.length ≤ maxLen) (_had : ad = none → n' = 0) :
    Calls Try.prog 17 #[.agg #[.int .i64 kind, .int .i64 m], .slice ad ss.length n'] w fun e w' => e = .returned (.bool true) ∧ Kept No w w' := by
  have k0 : Kept No w (w.alloc (.cells #[.int .i64 kind, .int .i64 m] 23)) := (Kept.refl No w).alloc _
  have hb0 := Blk.new w #[.int .i64 kind, .int .i64 m] 23
  have hf := fits3_any ss ad n' _ (hs.keptNo k0) hn
  have hF : ∀ w1, Kept No (w.alloc (.cells #[.int .i64 kind, .int .i64 m] 23)) w1 → Kept No w w1 ∧ w1.cell? ⟨w.heap.size, 0, none⟩ = some (.int .i64 kind) ∧ w1.cell? ⟨w.heap.size, 1, none⟩ = some (.int .i64 m) := by
    intro w1 k1
    have hb1 := hb0.kept k1 (fun h => h)
    exact ⟨k0.trans k1 (fun _ _ h => h), by rw [hb1.cell]; rfl, by rw [hb1.cell]; rfl⟩
  have hO := plain_any kind m
  have hS := fun w1 (k : Kept No w w1) => stepsOk_any ss ad n' w1 (hs.keptNo k) hn
  have hrun : (kind = 0 ∨ kind = 1) → Small ss 200 20 → ∃ (vs : List Int) (seen : List SeenT) (N : Nat), N ≤ 10000 ∧ vs.length = N ∧ (∀ (k : Nat) (v : Int), vs[k]? = some v → seen[k]? = some (true, (k : Int), v)) ∧ seen[N]? = some (false, 0, 0) ∧
      (∀ st, RunS (ltK kind m) ss st → st.1.length = N ∧ vs.Perm st.1) ∧
      (∀ W, Kept No w W → ∀ mad, CellsAt W mad (opsCells (onOps (N + 1) (N + 1))) → (∀ a, mad = some a → a.block < W.heap.size) → Calls Try.prog 40 #[.agg #[.int .i64 kind, .int .i64 m], .slice ad ss.length n', .slice mad (N + 1) (N + 1)] W (WalkRow W seen (N + 1))) ∧
      (∀ W, Kept No w W → Calls Try.prog 28 #[.agg #[.int .i64 kind, .int .i64 m], .slice ad ss.length n'] W (RefPost W kind m ss)) := by
    intro hk hsm
    have ok : OrdOk kind m := hk.elim Or.inl (fun h => Or.inr (Or.inl h))
    have hN : (runQ (ltK kind m) ss).1.size ≤ 10000 := by
      have := (size_runQ (ltK kind m) ss 20 hsm.2 ss.length (Nat.le_refl _)).1
      rw [List.take_length] at this
      have := hsm.1
      omega
    refine ⟨(List.range (runQ (ltK kind m) ss).1.size).map (valueAt (ltK kind m) (runQ (ltK kind m) ss).1), (walkP (ltK kind m) (runQ (ltK kind m) ss).1 (List.replicate ((runQ (ltK kind m) ss).1.size + 1) 1)).2, (runQ (ltK kind m) ss).1.size, hN, by simp, ?_, ?_, ?_, ?_, fun W k => ref_any kind m ok ss (small_big hsm) ad n' W (hs.keptNo k)⟩
    · intro k v hv
      have hk : k < (runQ (ltK kind m) ss).1.size := by
        have := (List.getElem?_eq_some_iff.1 hv).1
        simpa using this
      rw [walk_onAll, List.getElem?_append_left (by simpa using hk), List.getElem?_map, List.getElem?_range hk]
      rw [List.getElem?_map, List.getElem?_range hk] at hv
      simp at hv ⊢
      exact hv
    · rw [walk_onAll, List.getElem?_append_right (by simp)]
      simp
    · intro st h
      have hA := runQ_alike h
      exact ⟨hA.size.symm, (values_perm (ltK_swo kind m) _).trans (alike_same hk hA).1⟩
    · intro W k mad hm hmb
      have e : onOps ((runQ (ltK kind m) ss).1.size + 1) ((runQ (ltK kind m) ss).1.size + 1) = List.replicate ((runQ (ltK kind m) ss).1.size + 1) 1 := by simp [onOps]
      rw [e] at hm
      have := queueWalk_any kind m ok ss (small_big hsm) ad n' W (hs.keptNo k) (List.replicate ((runQ (ltK kind m) ss).1.size + 1) 1) (fun op ho => Or.inl (List.eq_of_mem_replicate ho)) (by simp; omega) mad ((runQ (ltK kind m) ss).1.size + 1) (movesAt_of hm) hmb
      simpa using this
  have HF0 := Lib.hid hf; have HF := Lib.hid hF; have HO := Lib.hid hO; have HS := Lib.hid hS; have HR := Lib.hid hrun
  clear hf hF hO hS hs hn k0 hb0 hrun
  generalize hnn : ss.length = n at *
  clear hnn
  go_enter Try.func17, Try.ntmps17
  go_wp2_with fail
  refine HF0.out.mono ?_
  rintro e w1 ⟨b, rfl, _, k1⟩
  obtain ⟨kw, c0, c1⟩ := HF.out w1 k1
  have K1 := Lib.hid kw; have K01 := Lib.hid k1; clear kw k1
  cases b
  · go_wp2_with fail
    go_ret
    exact ⟨rfl, K1.out⟩
  go_wp2_with fail
  refine (HO.out w1).mono ?_
  rintro e w2 ⟨b, rfl, hok, k2⟩
  obtain ⟨kw, d0, d1⟩ := HF.out w2 (K01.out.trans k2 (fun _ _ h => h))
  have K2 := Lib.hid kw; have K02 := Lib.hid (K01.out.trans k2 (fun _ _ h => h)); have HOK := Lib.hid hok; clear kw k2 hok c0 c1
  cases b
  · go_wp2_with fail
    go_ret
    exact ⟨rfl, K2.out⟩
  go_wp2_with fail
  refine (HS.out w2 K2.out).mono ?_
  rintro e w3 ⟨b, rfl, hsm, k3⟩
  obtain ⟨kw, e0, e1⟩ := HF.out w3 (K02.out.trans k3 (fun _ _ h => h))
  have K3 := Lib.hid kw; have K03 := Lib.hid (K02.out.trans k3 (fun _ _ h => h)); have HSM := Lib.hid hsm; clear kw k3 hsm d0 d1
  cases b
  · go_wp2_with fail
    go_ret
    exact ⟨rfl, K3.out⟩
  obtain ⟨vs, seen, N, hN, hvl, hse, hsl, hgs, r36, r28⟩ := HR.out (HOK.out (by simp)) (HSM.out (by simp))
  have R36 := Lib.hid r36; have R28 := Lib.hid r28; have HGS := Lib.hid hgs; have HVL := Lib.hid hvl; have HSE := Lib.hid hse; have HSL := Lib.hid hsl
  have HKP := Lib.hid (fun W => keepsQueue_any W)
  clear r36 r28 hgs hvl hse hsl HR HOK HSM HF0 HO HS K1 K01 K2 K02
  go_wp2_with fail
  refine (R28.out w3 K3.out).mono ?_
  rintro e w4 ⟨adL, cL, g, cap, ⟨L, gs'⟩, rfl, hrn, href⟩
  obtain ⟨hln, hperm⟩ := HGS.out _ hrn
  simp only at hln hperm ⊢
  rw [hln]
  obtain ⟨kw, f0, f1⟩ := HF.out w4 (K03.out.trans href.kept (fun _ _ h => h))
  have K4 := Lib.hid kw; have K04 := Lib.hid (K03.out.trans href.kept (fun _ _ h => h)); have HLI := Lib.hid href.list.cells; have HNI := Lib.hid href.nil; have HPE := Lib.hid hperm; clear kw href hrn e0 e1 hln hperm
  have hmk := make_moves (N + 1) (by omega) w4
  rw [show (((N + 1 : Nat)) : Int) = (N : Int) + 1 by omega] at hmk
  have t1 : IntKind.i64.wrap ((N : Int) + 1) = (N : Int) + 1 := IntWalk.i64_in _ (by omega)
  have hstart : Kept No w4 (w4.alloc (.cells (opsCells (onOps (N + 1) 0)).toArray 51)) ∧ Blk (w4.alloc (.cells (opsCells (onOps (N + 1) 0)).toArray 51)) w4.heap.size (opsCells (onOps (N + 1) 0)).toArray 51 := ⟨(Kept.refl _ w4).alloc _, Blk.new w4 _ 51⟩
  have HST := Lib.hid hstart; clear hstart
  generalize hzs : (opsCells (onOps (N + 1) 0)).toArray = zs at *
  have HZS := Lib.hid hzs; clear hzs
  clear f0 f1
  go_wp2_with fail
  generalize hgm : w4.heap.size = gm at *
  have HGM := Lib.hid hgm; clear hgm
  go_loopg [8, 35] (N + 2) (fun gg s8 si wr => ∃ k : Nat, si = .int .i64 k ∧ k ≤ N + 1 ∧ N + 2 - k ≤ gg ∧ Hid (Kept No w4 wr ∧ Blk wr gm (opsCells (onOps (N + 1) k)).toArray 51))
  case atStart => exact ⟨0, rfl, by omega, by omega, (show _ ∧ _ from ⟨HST.out.1, by rw [HZS.out]; exact HST.out.2⟩)⟩
  case round =>
    obtain ⟨k, rfl, hk, hg, HL⟩ := hrel
    by_cases hkn : k < N + 1
    · have hb := HL.out.2
      have cc : wr.cell? ⟨gm, k * 3, none⟩ = some (.int .i64 0) := by
        rw [hb.cell, List.getElem?_toArray]; exact onOps_get (N + 1) k hkn
      have ff := hb.frozen (k * 3)
      have hset := hb.set (k * 3) (.int .i64 1)
      rw [List.setIfInBounds_toArray, onOps_set (N + 1) k hkn] at hset
      have hks : Kept No w4 (wr.setCell ⟨gm, k * 3, none⟩ (.int .i64 1)) := HL.out.1.setCell _ _ (fun h => by have := HGM.out; simp only at h; omega)
      have HB := Lib.hid hset; have HKS := Lib.hid hks; clear hb hset hks
      have b1 : (k : Int) < (N : Int) + 1 := by omega
      go_wp2_with fail
      go_roundg (N + 2 - (k + 1))
      case measure => omega
      case rel => exact ⟨k + 1, by go_num, by omega, by omega, (show _ ∧ _ from ⟨HKS.out, HB.out⟩)⟩
    · obtain rfl : k = N + 1 := by omega
      have hb := HL.out.2
      have hcm : CellsAt wr (some ⟨gm, 0, none⟩) (opsCells (onOps (N + 1) (N + 1))) := by
        intro j v hj
        exact ⟨gm, 0, rfl, by rw [hb.cell, Nat.zero_add, List.getElem?_toArray]; exact hj⟩
      have hlt := hb.lt
      have hw := R36.out wr (K4.out.trans HL.out.1 (fun _ _ h => h)) (some ⟨gm, 0, none⟩) hcm (fun a ha => by injection ha with ha; subst ha; exact hlt)
      obtain ⟨_, o0, o1⟩ := HF.out wr (K04.out.trans HL.out.1 (fun _ _ h => h))
      have HW := Lib.hid hw; have KR := Lib.hid HL.out.1; clear hw hcm hb hlt HL R36
      generalize wr = V at *
      go_wp2_with fail
      refine HW.out.mono ?_
      rintro e w5 ⟨g9, cap9, rfl, hrow, k5, _⟩
      have HROW := Lib.hid hrow.cells; have K45 := Lib.hid (KR.out.trans k5 (fun _ _ h => h)); clear hrow k5 o0 o1
      go_wp2_with fail
      go_loopg [10, 11, 55] (N + 1) (fun gg s10 s11 si wr => ∃ (k c10 : Nat) (ad10 : Option Addr), s10 = .slice ad10 k c10 ∧ si = .int .i64 k ∧ k ≤ N ∧ N + 1 - k ≤ gg ∧ Hid (OwnRow w5.heap.size wr ad10 k c10 3 1 ((vs.take k).map intV) ∧ Kept No w5 wr))
      case atStart => exact ⟨0, 0, _, rfl, rfl, by omega, by omega, (show _ ∧ _ from ⟨OwnRow.bare _ _ _ _ _, (Kept.refl No w5).alloc _⟩)⟩
      case round =>
        obtain ⟨k, c10, ad10, rfl, rfl, hk, hg, HL⟩ := hrel
        have cell : ∀ (j : Nat) (u : Value), (seen.flatMap seenCells)[j]? = some u → wr.cell? ⟨g9, j, none⟩ = some u := by
          intro j u hj
          obtain ⟨vb, vo, e, h⟩ := (HROW.out.keptNo HL.out.2) j u hj
          injection e with e
          injection e with e1 e2
          subst e1 e2
          rwa [Nat.zero_add] at h
        by_cases hkn : k < N
        · have hkl : k < vs.length := by rw [HVL.out]; exact hkn
          obtain ⟨v, hv⟩ : ∃ v, vs[k]? = some v := ⟨_, List.getElem?_eq_getElem hkl⟩
          obtain ⟨s0, s1, s2⟩ := seen_at seen k _ (HSE.out k v hv)
          have c0 := cell _ _ s0; have c1 := cell _ _ s1; have c2 := cell _ _ s2
          simp only at c0 c1 c2
          obtain ⟨i, hi, hz, hsz, hby⟩ := i3_parts
          have k1 : Kept No wr (wr.alloc (.cells #[.int .i64 v] 3)) := (Kept.refl No wr).alloc _
          obtain ⟨ad', c', w', hr, hoa, hka, _⟩ := append_own (P := Try.prog) 29 29 i (.int .i64 0) 8 (HL.out.1.keptNo k1) (Nat.le_trans HL.out.2.size k1.size) und29' hi hz hsz hby rfl (by omega) (some ⟨wr.heap.size, 0, none⟩) 1 1 [.int .i64 v] rfl (RowAt.new wr #[.int .i64 v] 3 1 1 rfl).cells
            (fun h => by cases h) (fun u hu => by simp at hu; subst hu; rfl) (by omega) (by omega)
          have HA := Lib.hid hr
          have HX := Lib.hid (show OwnRow w5.heap.size w' ad' (k + 1) c' 3 1 ((vs.take (k + 1)).map intV) ∧ Kept No w5 w' from ⟨by rw [← take_map_int vs k hkl v hv]; exact hoa, (HL.out.2.trans k1 (fun _ _ h => h)).trans hka (fun j hj h => by have := h.1; omega)⟩)
          clear hi hz hsz hby k1 hr hoa hka cell s0 s1 s2 hv
          go_wp2_with (at_builtin; refine wpList_append_run rfl (.tmp 73) (.tmp 79) 29 rfl _ _ _ rfl rfl HA.out ?_)
          go_roundg (N + 1 - (k + 1))
          case measure => omega
          case rel => exact ⟨k + 1, c', ad', rfl, by go_num, by omega, by omega, HX.out⟩
        · obtain rfl : N = k := by omega
          obtain ⟨s0, _, _⟩ := seen_at seen N _ HSL.out
          have c0 := cell _ _ s0
          simp only at c0
          have hown := HL.out.1
          rw [List.take_of_length_le (by rw [HVL.out]; omega)] at hown
          have hbag := bag_any (c1 := c10) (c2 := cL) hown.cells (HLI.out.keptNo (K45.out.trans HL.out.2 (fun _ _ h => h))) (fun h => by rw [h] at hown; exact hown.nil.2) HNI.out HPE.out HVL.out (by omega)
          have HB := Lib.hid hbag; have KE := Lib.hid ((K4.out.trans K45.out (fun _ _ h => h)).trans HL.out.2 (fun _ _ h => h)); clear hbag hown cell s0
          go_wp2_with fail
          refine HB.out.mono ?_
          rintro e wy ⟨rfl, ky⟩
          have KY := Lib.hid (KE.out.trans ky (fun _ _ h => h)); clear ky
          go_wp2_with fail
          refine (HKP.out _).mono ?_
          rintro e wk ⟨rfl, kk⟩
          have KK := Lib.hid (KY.out.trans kk (fun _ _ h => h)); clear kk
          go_wp2_with fail
          go_ret
          exact ⟨rfl, KK.out⟩

end Go.Nl
