/- FnQueueRunRest: the walk. -/
import Derived.Test.YtgdjfgbipmajmaaRest
import Derived.Test.YtgdjfgbipmajmaaQueueState
namespace Go.Nl
open Go.RowKit Go.Sort Go.Proofs

theorem state_field (a : Option Addr) (n c : Nat) (z : Int) (b : Bool) (w : World) : (Instr.field 42 (.agg #[.slice a n c, .int .i64 z, .bool b]) 0).run Try.prog w = .ok (.slice a n c) w := by kernel_rfl

set_option maxHeartbeats 16000000 in
set_option maxRecDepth 100000 in
theorem queueRunRest_walk (kind m : Int) (ss : List Step) (ad : Option Addr) (n' : Nat) (w : World) (hs : StepsAt w ad ss) (hn : ss.length ≤ maxLen) (_had : ad = none → n' = 0) :
    Calls Try.prog 13 #[.agg #[.int .i64 kind, .int .i64 m], .slice ad ss.length n'] w fun e w' => e = .returned (.bool true) ∧ Kept No w w' := by
  have k0 : Kept No w (w.alloc (.cells #[.int .i64 kind, .int .i64 m] 23)) := (Kept.refl No w).alloc _
  have hb0 := Blk.new w #[.int .i64 kind, .int .i64 m] 23
  have hf := fits3_any ss ad n' _ (hs.keptNo k0) hn
  have hF : ∀ w1, Kept No (w.alloc (.cells #[.int .i64 kind, .int .i64 m] 23)) w1 → Kept No w w1 ∧ w1.cell? ⟨w.heap.size, 0, none⟩ = some (.int .i64 kind) ∧ w1.cell? ⟨w.heap.size, 1, none⟩ = some (.int .i64 m) := by
    intro w1 k1
    have hb1 := hb0.kept k1 (fun h => h)
    exact ⟨k0.trans k1 (fun _ _ h => h), by rw [hb1.cell]; rfl, by rw [hb1.cell]; rfl⟩
  have hO := orderOk_any kind m
  have hS := fun w1 (k : Kept No w w1) => stepsOk_any ss ad n' w1 (hs.keptNo k) hn
  have hrun : OrdOk kind m → Small ss 200 20 → ∃ (gs : List Got) (vs : List Int) (NV : Nat), gs = (runP (ltK kind m) (fun d xs => xs.foldl (push1 (ltK kind m)) d) ss).2 ∧ gs.length ≤ 1000 ∧ NV ≤ 100000 ∧ vs.length = NV ∧
      ((∀ s ∈ ss, s.1 ≠ 4) → (vs ++ tks (ltK kind m) (fun d xs => xs.foldl (push1 (ltK kind m)) d) ss ss.length).Perm (puts ss)) ∧
      (∀ st, RunS (ltK kind m) ss st → AllLike kind m gs st.2) ∧
      (∀ W, Kept No w W → Calls Try.prog 24 #[.agg #[.int .i64 kind, .int .i64 m], .slice ad ss.length n'] W fun e w' => ∃ g cap, e = .returned (.slice (some ⟨g, 0, none⟩) gs.length cap) ∧ RunPost W gs g cap w') ∧
      (∀ W, Kept No w W → Calls Try.prog 33 #[.agg #[.int .i64 kind, .int .i64 m], .slice ad ss.length n'] W (StatePost W vs NV)) ∧
      (∀ W, Kept No w W → Calls Try.prog 28 #[.agg #[.int .i64 kind, .int .i64 m], .slice ad ss.length n'] W (RefPost W kind m ss)) := by
    intro ok hsm
    have hz := size_runQ (ltK kind m) ss 20 hsm.2 ss.length (Nat.le_refl _)
    rw [List.take_length] at hz
    have hs1 := hsm.1
    refine ⟨(runQ (ltK kind m) ss).2, (List.range (runQ (ltK kind m) ss).1.size).map (valueAt (ltK kind m) (runQ (ltK kind m) ss).1), (runQ (ltK kind m) ss).1.size, rfl, by omega, by omega, by simp, fun hc => ?_, fun st h => (runQ_alike h).gots,
      runs_from queueRun_like ok (small_big hsm) n' hs, fun W k => queueState_any kind m ok ss (small_big hsm) ad n' W (hs.keptNo k), fun W k => ref_any kind m ok ss (small_big hsm) ad n' W (hs.keptNo k)⟩
    have h2 := (rest_all (ltK_swo kind m) (putOk_queue kind m) ss hc ss.length (Nat.le_refl _)).2
    rw [List.take_length] at h2
    exact ((values_perm (ltK_swo kind m) _).append_right _).trans h2
  have HF0 := Lib.hid hf; have HF := Lib.hid hF; have HO := Lib.hid hO; have HS := Lib.hid hS; have HR := Lib.hid hrun; have HST := Lib.hid hs
  clear hf hF hO hS hs hn k0 hb0 hrun
  generalize hnn : ss.length = n at *
  have HN := Lib.hid hnn; clear hnn
  go_enter Try.func13, Try.ntmps13
  go_wp2_with fail
  refine HF0.out.mono ?_
  rintro e w1 ⟨b, rfl, _, k1⟩
  obtain ⟨kw, c0, c1⟩ := HF.out w1 k1
  have K1 := Lib.hid kw; have K01 := Lib.hid k1; clear kw k1
  cases b
  · go_wp2_with fail
    go_ret
    exact ⟨rfl, K1.out⟩
  go_wp2_with fail
  refine (HO.out w1).mono ?_
  rintro e w2 ⟨b, rfl, hok, k2⟩
  obtain ⟨kw, d0, d1⟩ := HF.out w2 (K01.out.trans k2 (fun _ _ h => h))
  have K2 := Lib.hid kw; have K02 := Lib.hid (K01.out.trans k2 (fun _ _ h => h)); have HOK := Lib.hid hok; clear kw k2 hok c0 c1
  cases b
  · go_wp2_with fail
    go_ret
    exact ⟨rfl, K2.out⟩
  go_wp2_with fail
  refine (HS.out w2 K2.out).mono ?_
  rintro e w3 ⟨b, rfl, hsm, k3⟩
  obtain ⟨kw, e0, e1⟩ := HF.out w3 (K02.out.trans k3 (fun _ _ h => h))
  have K3 := Lib.hid kw; have K03 := Lib.hid (K02.out.trans k3 (fun _ _ h => h)); have HSM := Lib.hid hsm; clear kw k3 hsm d0 d1
  cases b
  · go_wp2_with fail
    go_ret
    exact ⟨rfl, K3.out⟩
  have OK := Lib.hid (HOK.out (by simp))
  have SM := Lib.hid (HSM.out (by simp))
  obtain ⟨gs, vs, NV, hgr, hgl, hNV, hvl, hperm, hal, r22, r30, r28⟩ := HR.out OK.out SM.out
  have R22 := Lib.hid r22; have R30 := Lib.hid r30; have R28 := Lib.hid r28; have HAL := Lib.hid hal; have HPM := Lib.hid hperm; have HVL := Lib.hid hvl; have HGR := Lib.hid hgr
  have HKP := Lib.hid (fun W => keepsQueue_any W)
  have hn200 : n ≤ 200 := by rw [← HN.out]; exact SM.out.1
  have hputs : ∀ k, (puts (ss.take k)).length ≤ 4000 := fun k => by
    have := puts_len 20 (ss.take k) (fun s hs => SM.out.2 s (List.mem_of_mem_take hs))
    have h2 : (ss.take k).length ≤ 200 := by have := SM.out.1; simp; omega
    omega
  have HPU := Lib.hid hputs
  clear r22 r30 r28 hal hperm hvl hgr hputs HR HOK HSM HF0 HO HS K1 K01 K2 K02 e0 e1
  go_wp2_with fail
  go_loopg [5, 7, 29] (n + 1) (fun gg s5 s7 si wr => ∃ (k N5 c5 : Nat) (ad5 : Option Addr), s5 = .slice ad5 N5 c5 ∧ si = .int .i64 k ∧ k ≤ n ∧ n + 1 - k ≤ gg ∧
    Hid (N5 = (puts (ss.take k)).length ∧ OwnRow w3.heap.size wr ad5 N5 c5 3 1 ((puts (ss.take k)).map intV) ∧ Kept No w3 wr ∧ ∀ s ∈ ss.take k, s.1 ≠ 4))
  case atStart => exact ⟨0, 0, 0, _, rfl, rfl, by omega, by omega, (show _ ∧ _ ∧ _ ∧ _ from ⟨rfl, OwnRow.bare _ _ _ _ _, (Kept.refl No w3).alloc _, fun s hs => by simp at hs⟩)⟩
  case round =>
    obtain ⟨k, N5, c5, ad5, rfl, rfl, hk, hg, HL⟩ := hrel
    by_cases hkn : k < n
    · have hkl : k < ss.length := by rw [HN.out]; exact hkn
      obtain ⟨sb, so, va, vn, had, ho, hv, hcs⟩ := (HST.out.keptNo (K3.out.trans HL.out.2.2.1 (fun _ _ h => h))) k hkl
      subst had
      have hps := puts_snoc ss k hkl
      have hlen1 : (ss.getD k (0, [])).2.length ≤ 20 := by
        rw [List.getD_eq_getElem?_getD, List.getElem?_eq_getElem hkl]
        exact SM.out.2 _ (List.getElem_mem _)
      have hmem : ∀ s ∈ ss.take (k + 1), s ∈ ss.take k ∨ s = ss.getD k (0, []) := by
        intro s hs
        rw [List.take_succ_eq_append_getElem hkl, List.mem_append] at hs
        rcases hs with h | h
        · exact Or.inl h
        · right
          rw [List.getD_eq_getElem?_getD, List.getElem?_eq_getElem hkl]
          simpa using h
      generalize ss.getD k (0, []) = s at *
      obtain ⟨op, vals⟩ := s
      simp only at ho hv hcs hps hlen1
      have k1 : Kept No wr (wr.alloc (.cells #[.int .i64 op, .slice va vals.length vn] 31)) := (Kept.refl No wr).alloc _
      have HK1 := Lib.hid k1; have HPS := Lib.hid hps; have HM := Lib.hid hmem; have C1 := Lib.hid (hcs.keptNo k1)
      clear k1 hps hmem hcs
      by_cases o4 : op = 4
      · subst o4
        go_wp2_with fail
        refine (HKP.out _).mono ?_
        rintro e wk ⟨rfl, kk⟩
        have HKK := Lib.hid (((K3.out.trans HL.out.2.2.1 (fun _ _ h => h)).trans HK1.out (fun _ _ h => h)).trans kk (fun _ _ h => h)); clear kk
        go_wp2_with fail
        go_ret
        exact ⟨rfl, HKK.out⟩
      have o4' : (op == 4) = false := beq_eq_false_iff_ne.2 o4
      have H4 := Lib.hid (show ∀ s ∈ ss.take (k + 1), s.1 ≠ 4 from fun s hs => by
        rcases HM.out s hs with h | h
        · exact HL.out.2.2.2 s h
        · subst h; exact o4)
      by_cases o1 : op = 1
      · subst o1
        have hp := HPU.out k
        have hl5 := HL.out.1
        obtain ⟨i, hi, hz, hsz, hby⟩ := i3_parts
        obtain ⟨ada, ca, wa, hr, hoa, hka, _⟩ := append_own (P := Try.prog) 29 29 i (.int .i64 0) 8 (HL.out.2.1.keptNo HK1.out) (Nat.le_trans HL.out.2.2.1.size HK1.out.size) und29' hi hz hsz hby rfl (by omega) va vals.length vn (vals.map intV) (by simp) C1.out
          (fun h => by have := C1.out; rw [h] at this; rw [cellsAt_none this]; rfl) (intV_one vals) (by omega) (by omega)
        have HA := Lib.hid hr
        have e := HPS.out
        rw [if_pos rfl] at e
        have HX := Lib.hid (show N5 + vals.length = (puts (ss.take (k + 1))).length ∧ OwnRow w3.heap.size wa ada (N5 + vals.length) ca 3 1 ((puts (ss.take (k + 1))).map intV) ∧ Kept No w3 wa from
          ⟨by rw [e, List.length_append, HL.out.1], by rw [e, List.map_append]; exact hoa, (HL.out.2.2.1.trans HK1.out (fun _ _ h => h)).trans hka (fun j hj h => by have := h.1; omega)⟩)
        clear hi hz hsz hby hr hoa hka hl5 e
        go_wp2_with (at_builtin; refine wpList_append_run rfl (.tmp 40) (.tmp 42) 29 rfl _ _ _ rfl rfl HA.out ?_)
        go_roundg (n + 1 - (k + 1))
        case measure => omega
        case rel =>
          refine ⟨k + 1, _, _, _, rfl, by go_num, by omega, by omega, ?_⟩
          show _ ∧ _ ∧ _ ∧ _
          exact ⟨HX.out.1, HX.out.2.1, HX.out.2.2, H4.out⟩
      · have o1' : (op == 1) = false := beq_eq_false_iff_ne.2 o1
        have e := HPS.out
        rw [if_neg o1, List.append_nil] at e
        have HE := Lib.hid e; clear e
        go_wp2_with fail
        go_roundg (n + 1 - (k + 1))
        case measure => omega
        case rel =>
          refine ⟨k + 1, _, _, _, rfl, by go_num, by omega, by omega, ?_⟩
          show _ ∧ _ ∧ _ ∧ _
          rw [HE.out]
          exact ⟨HL.out.1, HL.out.2.1.keptNo HK1.out, HL.out.2.2.1.trans HK1.out (fun _ _ h => h), H4.out⟩
    · obtain rfl : n = k := by omega
      generalize wr = V at *
      have hall := HL.out.2.2.2
      have hl5 := HL.out.1
      have hrow5 := HL.out.2.1
      rw [List.take_of_length_le (by rw [HN.out]; omega)] at hall hl5 hrow5
      have hp2 := HPM.out hall
      have KV := Lib.hid (K3.out.trans HL.out.2.2.1 (fun _ _ h => h)); have K0V := Lib.hid (K03.out.trans HL.out.2.2.1 (fun _ _ h => h))
      have HROW := Lib.hid hrow5; have HP2 := Lib.hid hp2; have HN5 := Lib.hid hl5
      obtain ⟨_, a0, a1⟩ := HF.out V K0V.out
      clear hall hl5 hrow5 hp2 HL HPM
      go_wp2_with fail
      refine (R28.out V KV.out).mono ?_
      rintro e w5 ⟨adL, cL, g, cap, ⟨L, gs'⟩, rfl, hrn, href⟩
      have hal := HAL.out _ hrn
      simp only at hal ⊢
      have hll := allLike_len hal
      rw [← hll]
      have K05 := Lib.hid (K0V.out.trans href.kept (fun _ _ h => h))
      obtain ⟨kw, b0, b1⟩ := HF.out w5 K05.out
      have HW5 := Lib.hid href.outs; have KV5 := Lib.hid href.kept; have HK5 := Lib.hid kw; have HALL := Lib.hid hal; clear a0 a1 href hrn kw hal hll
      go_wp2_with fail
      refine (R22.out w5 HK5.out).mono ?_
      rintro e w6 ⟨g1, cap1, rfl, hp⟩
      have K06 := Lib.hid (K05.out.trans hp.2.1 (fun _ _ h => h))
      obtain ⟨kw, d0, d1⟩ := HF.out w6 K06.out
      have HK6 := Lib.hid kw; have HGOT := Lib.hid hp.1.cells; have HWANT := Lib.hid (HW5.out.cells.keptNo hp.2.1)
      have HALLV := Lib.hid (HROW.out.cells.keptNo (KV5.out.trans hp.2.1 (fun _ _ h => h))); have HN0 := Lib.hid (show ad5 = none → c5 = 0 from fun h => by have := HROW.out; rw [h] at this; exact this.nil.2)
      clear b0 b1 hp kw HW5 HROW
      have k7 : Kept No w6 (w6.alloc (.cells #[] 3)) := (Kept.refl No w6).alloc _
      obtain ⟨_, f0, f1⟩ := HF.out _ (K06.out.trans k7 (fun _ _ h => h))
      have K7 := Lib.hid k7; clear k7
      have hlt6 := cell_lt d0
      generalize hNN : gs.length = N at *
      have HNN := Lib.hid hNN; clear hNN
      go_upto_if 58 with fail
      clear f0 f1
      go_wp2_with fail
      refine (R30.out _ (HK6.out.trans K7.out (fun _ _ h => h))).mono ?_
      rintro e w8 ⟨g8, cap8, rfl, hc8, k8, _⟩
      obtain ⟨i, hi, hz, hsz, hby⟩ := i3_parts
      obtain ⟨ad11, c11, w9, hr, ho, hk9, _⟩ := append_own (P := Try.prog) 29 29 i (.int .i64 0) 8 (OwnRow.bare w6.heap.size w8 (some ⟨w6.heap.size, 0, none⟩) 3 1) (Nat.le_trans K7.out.size k8.size) und29' hi hz hsz hby rfl (by omega) (some ⟨g8, 0, none⟩) NV cap8 (vs.map intV) (by simp [HVL.out]) hc8
        (fun h => by cases h) (intV_one vs) (by omega) (by omega)
      rw [Nat.zero_add] at hr ho
      have HA := Lib.hid hr
      have HX := Lib.hid (show OwnRow w6.heap.size w9 ad11 NV c11 3 1 (vs.map intV) ∧ Kept No w6 w9 from ⟨by simpa using ho, (K7.out.trans k8 (fun _ _ h => h)).trans hk9 (fun j hj h => by have := h.1; omega)⟩)
      have hfd := fun w => state_field (some ⟨g8, 0, none⟩) NV cap8 NV ((NV : Int) == 0) w
      clear hi hz hsz hby hr ho hk9 hc8 k8 d0 d1 hlt6
      go_wp2_with (at_builtin; refine wpList_append_run rfl (.tmp 59) (.tmp 63) 29 rfl _ _ _ rfl rfl HA.out ?_)
      go_loopg [11, 12, 14, 67] (n + 1) (fun gg s11 s12 s14 si wr => ∃ (k at_ N11 c11 : Nat) (ad11 : Option Addr), s11 = .slice ad11 N11 c11 ∧ s12 = .int .i64 at_ ∧ si = .int .i64 k ∧ k ≤ n ∧ n + 1 - k ≤ gg ∧
        Hid (at_ = (runP (ltK kind m) (fun d xs => xs.foldl (push1 (ltK kind m)) d) (ss.take k)).2.length ∧ N11 = (vs ++ tks (ltK kind m) (fun d xs => xs.foldl (push1 (ltK kind m)) d) ss k).length ∧ OwnRow w6.heap.size wr ad11 N11 c11 3 1 ((vs ++ tks (ltK kind m) (fun d xs => xs.foldl (push1 (ltK kind m)) d) ss k).map intV) ∧ Kept No w6 wr ∧ at_ ≤ k))
      case atStart => exact ⟨0, 0, NV, c11, ad11, rfl, rfl, rfl, by omega, by omega, (show _ ∧ _ ∧ _ ∧ _ ∧ _ from ⟨rfl, by simp [tks, HVL.out], by simpa [tks] using HX.out.1, HX.out.2, by omega⟩)⟩
      case round =>
        obtain ⟨k, at_, N11, c11, ad11, rfl, rfl, rfl, hk, hg, HL2⟩ := hrel
        clear HA HX hfd
        by_cases hkn : k < n
        · have hkl : k < ss.length := by rw [HN.out]; exact hkn
          have k6r := HK6.out.trans HL2.out.2.2.2.1 (fun _ _ h => h)
          obtain ⟨sb, so, va, vn, had, ho, hv, hcs⟩ := (HST.out.keptNo k6r) k hkl
          subst had
          have htk : tks (ltK kind m) (fun d xs => xs.foldl (push1 (ltK kind m)) d) ss (k + 1) = tks (ltK kind m) (fun d xs => xs.foldl (push1 (ltK kind m)) d) ss k ++ (if (ss.getD k (0, [])).1 = 2 ∧ (seen (runP (ltK kind m) (fun d xs => xs.foldl (push1 (ltK kind m)) d) (ss.take k)).1).2 = true then [(seen (runP (ltK kind m) (fun d xs => xs.foldl (push1 (ltK kind m)) d) (ss.take k)).1).1] else []) := rfl
          have hta := told_at (ltK kind m) (fun d xs => xs.foldl (push1 (ltK kind m)) d) ss k hkl
          have htn := told_not (ltK kind m) (fun d xs => xs.foldl (push1 (ltK kind m)) d) ss k hkl
          rw [← HGR.out] at hta
          generalize ss.getD k (0, []) = s at *
          obtain ⟨op, vals⟩ := s
          simp only at ho hv hcs htk hta htn
          have k1 : Kept No wr (wr.alloc (.cells #[.int .i64 op, .slice va vals.length vn] 31)) := (Kept.refl No wr).alloc _
          have HK1 := Lib.hid k1; clear k1 hcs
          have hAT := HL2.out.1
          by_cases o23 : op = 2 ∨ op = 3
          · obtain ⟨ht1, ht2⟩ := hta o23
            rw [← hAT] at ht1 ht2
            obtain ⟨y, hy, hgl2⟩ := allLike_at HALL.out at_ _ ht1
            generalize seen (runP (ltK kind m) (fun d xs => xs.foldl (push1 (ltK kind m)) d) (ss.take k)).1 = x at *
            obtain ⟨x1, xb⟩ := x
            obtain ⟨y1, yb⟩ := y
            obtain ⟨q1, q2⟩ := gotCells_at _ _ _ ht1
            obtain ⟨q3, q4⟩ := gotCells_at _ _ _ hy
            obtain ⟨rfl, hkey, hno⟩ := hgl2
            simp only at hkey hno q1 q2 q3 q4 htk
            have hatN : at_ < N := by
              rw [← HNN.out]
              exact (List.getElem?_eq_some_iff.1 ht1).1
            have cell : ∀ (gg : Nat) (vsx : List Value) (j : Nat) (v : Value), CellsAt w6 (some ⟨gg, 0, none⟩) vsx → vsx[j]? = some v → w6.cell? ⟨gg, j, none⟩ = some v := by
              intro gg vsx j v hc hj
              obtain ⟨vb, vo, e, h⟩ := hc j v hj
              injection e with e
              injection e with e1 e2
              subst e1 e2
              rwa [Nat.zero_add] at h
            have kw1 := HL2.out.2.2.2.1.trans HK1.out (fun _ _ h => h)
            have p1 := cell_keptNo (cell _ _ _ _ HGOT.out q1) kw1
            have p2 := cell_keptNo (cell _ _ _ _ HGOT.out q2) kw1
            have p3 := cell_keptNo (cell _ _ _ _ HWANT.out q3) kw1
            have p4 := cell_keptNo (cell _ _ _ _ HWANT.out q4) kw1
            obtain ⟨_, p5, p6⟩ := HF.out _ (K06.out.trans kw1 (fun _ _ h => h))
            have hB := Blk.new wr #[.int .i64 op, .slice va vals.length vn] 31
            have p0 : (wr.alloc (.cells #[.int .i64 op, .slice va vals.length vn] 31)).cell? ⟨wr.heap.size, 0, none⟩ = some (.int .i64 op) := by rw [hB.cell]; rfl
            have hlb := hB.lt
            have HAT := Lib.hid ht2; have HTK := Lib.hid htk; have HA1 := Lib.hid (show at_ + 1 = at_ + 1 from rfl)
            have hv11 : OwnRow w6.heap.size (wr.alloc (.cells #[.int .i64 op, .slice va vals.length vn] 31)) ad11 N11 c11 3 1 ((vs ++ tks (ltK kind m) (fun d xs => xs.foldl (push1 (ltK kind m)) d) ss k).map intV) := HL2.out.2.2.1.keptNo HK1.out
            have hl11 : N11 ≤ 200000 := by
              have h1 := tks_len (ltK kind m) (fun d xs => xs.foldl (push1 (ltK kind m)) d) ss k
              have h2 := HL2.out.2.1
              rw [List.length_append, HVL.out] at h2
              omega
            have H11 := Lib.hid hv11; have KW1 := Lib.hid kw1
            clear hB ht1 ht2 hy q1 q2 q3 q4 cell kw1 htk hta htn k6r hv11 hAT
            cases xb
            · obtain ⟨rfl, rfl⟩ : x1 = 0 ∧ y1 = 0 := by
                obtain ⟨h1, h2⟩ := hno rfl
                injection h1 with h1
                injection h2 with h2
                exact ⟨h1, h2⟩
              rcases o23 with rfl | rfl
              · as_aux_lemma =>
                go_upto_region 24 with fail
                generalize wr.alloc (.cells #[.int .i64 2, .slice va vals.length vn] 31) = W1 at *
                obtain ⟨sB, hsB⟩ : ∃ x, wr.heap.size = x := ⟨_, rfl⟩
                rw [hsB] at p0 hlb ⊢
                clear hsB
                have hz : ∀ w', Kept No W1 w' → w'.cell? ⟨sB, 0, none⟩ = some (.int .i64 2) ∧ w'.cell? ⟨g1, at_ * 2, none⟩ = some (.int .i64 0) ∧ w'.cell? ⟨g1, at_ * 2 + 1, none⟩ = some (.bool false) ∧ w'.cell? ⟨g, at_ * 2, none⟩ = some (.int .i64 0) ∧ w'.cell? ⟨g, at_ * 2 + 1, none⟩ = some (.bool false) ∧ w'.cell? ⟨w.heap.size, 0, none⟩ = some (.int .i64 kind) ∧ w'.cell? ⟨w.heap.size, 1, none⟩ = some (.int .i64 m) := fun w' q => ⟨cell_keptNo p0 q, cell_keptNo p1 q, cell_keptNo p2 q, cell_keptNo p3 q, cell_keptNo p4 q, cell_keptNo p5 q, cell_keptNo p6 q⟩
                have HZ := Lib.hid hz; clear hz
                clear hkey hno
                go_quiet (fail)
                all_goals
                  go_wp2_with fail
                  go_roundg (n + 1 - (k + 1))
                  case measure => omega
                  case rel =>
                    refine ⟨k + 1, at_ + 1, _, _, _, rfl, by go_num, by go_num, by omega, by omega, ?_⟩
                    show _ ∧ _ ∧ _ ∧ _ ∧ _
                    have e := HTK.out
                    rw [if_neg (by simp), List.append_nil] at e
                    rw [e]
                    exact ⟨HAT.out.symm, HL2.out.2.1, H11.out.keptNo ((Kept.refl No W1).drewN _), KW1.out.trans ((Kept.refl No W1).drewN _) (fun _ _ h => h), by have := HL2.out.2.2.2.2; omega⟩
              · as_aux_lemma =>
                go_upto_region 24 with fail
                generalize wr.alloc (.cells #[.int .i64 3, .slice va vals.length vn] 31) = W1 at *
                obtain ⟨sB, hsB⟩ : ∃ x, wr.heap.size = x := ⟨_, rfl⟩
                rw [hsB] at p0 hlb ⊢
                clear hsB
                have hz : ∀ w', Kept No W1 w' → w'.cell? ⟨sB, 0, none⟩ = some (.int .i64 3) ∧ w'.cell? ⟨g1, at_ * 2, none⟩ = some (.int .i64 0) ∧ w'.cell? ⟨g1, at_ * 2 + 1, none⟩ = some (.bool false) ∧ w'.cell? ⟨g, at_ * 2, none⟩ = some (.int .i64 0) ∧ w'.cell? ⟨g, at_ * 2 + 1, none⟩ = some (.bool false) ∧ w'.cell? ⟨w.heap.size, 0, none⟩ = some (.int .i64 kind) ∧ w'.cell? ⟨w.heap.size, 1, none⟩ = some (.int .i64 m) := fun w' q => ⟨cell_keptNo p0 q, cell_keptNo p1 q, cell_keptNo p2 q, cell_keptNo p3 q, cell_keptNo p4 q, cell_keptNo p5 q, cell_keptNo p6 q⟩
                have HZ := Lib.hid hz; clear hz
                clear hkey hno
                go_quiet (fail)
                all_goals
                  go_wp2_with fail
                  go_roundg (n + 1 - (k + 1))
                  case measure => omega
                  case rel =>
                    refine ⟨k + 1, at_ + 1, _, _, _, rfl, by go_num, by go_num, by omega, by omega, ?_⟩
                    show _ ∧ _ ∧ _ ∧ _ ∧ _
                    have e := HTK.out
                    rw [if_neg (by simp), List.append_nil] at e
                    rw [e]
                    exact ⟨HAT.out.symm, HL2.out.2.1, H11.out.keptNo ((Kept.refl No W1).drewN _), KW1.out.trans ((Kept.refl No W1).drewN _) (fun _ _ h => h), by have := HL2.out.2.2.2.2; omega⟩
            · rcases o23 with rfl | rfl
              · as_aux_lemma =>
                go_upto_region 24 with fail
                generalize wr.alloc (.cells #[.int .i64 2, .slice va vals.length vn] 31) = W1 at *
                obtain ⟨sB, hsB⟩ : ∃ x, wr.heap.size = x := ⟨_, rfl⟩
                rw [hsB] at p0 hlb ⊢
                clear hsB
                have hz : ∀ w', Kept No W1 w' → w'.cell? ⟨sB, 0, none⟩ = some (.int .i64 2) ∧ w'.cell? ⟨g1, at_ * 2, none⟩ = some (.int .i64 x1) ∧ w'.cell? ⟨g1, at_ * 2 + 1, none⟩ = some (.bool true) ∧ w'.cell? ⟨g, at_ * 2, none⟩ = some (.int .i64 y1) ∧ w'.cell? ⟨g, at_ * 2 + 1, none⟩ = some (.bool true) ∧ w'.cell? ⟨w.heap.size, 0, none⟩ = some (.int .i64 kind) ∧ w'.cell? ⟨w.heap.size, 1, none⟩ = some (.int .i64 m) := fun w' q => ⟨cell_keptNo p0 q, cell_keptNo p1 q, cell_keptNo p2 q, cell_keptNo p3 q, cell_keptNo p4 q, cell_keptNo p5 q, cell_keptNo p6 q⟩
                have HZ := Lib.hid hz; clear hz
                have hcm : ∀ W, Calls Try.prog 32 #[.agg #[.int .i64 kind, .int .i64 m], .int .i64 x1, .int .i64 y1] W fun e w' => e = .returned (.int .i64 0) ∧ Kept No W w' := fun W => by
                  have := compare_any kind m x1 y1 W OK.out
                  rwa [show cmpV kind m x1 y1 = 0 from by unfold cmpV cmpI; rw [hkey rfl, if_neg (by omega), if_neg (by omega)]] at this
                have HCM := Lib.hid hcm; clear hcm hkey hno
                have hap : ∀ wz, Kept No W1 wz → ∃ ad' c' w', (Builtin.append_ #[29, 29] 29 #[.slice ad11 N11 c11, .slice (some ⟨wz.heap.size, 0, none⟩) 1 1]).run Try.prog (wz.alloc (.cells #[.int .i64 x1] 3)) = .ok (.slice ad' (N11 + 1) c') w' ∧
                    OwnRow w6.heap.size w' ad' (N11 + 1) c' 3 1 ((vs ++ tks (ltK kind m) (fun d xs => xs.foldl (push1 (ltK kind m)) d) ss k ++ [x1]).map intV) ∧ Kept No w6 w' := by
                  intro wz q
                  obtain ⟨i, hi, hz, hsz, hby⟩ := i3_parts
                  have q2 : Kept No W1 (wz.alloc (.cells #[.int .i64 x1] 3)) := q.alloc _
                  obtain ⟨ad', c', w', hr, hoa, hka, _⟩ := append_own (P := Try.prog) 29 29 i (.int .i64 0) 8 (H11.out.keptNo q2) (Nat.le_trans KW1.out.size q2.size) und29' hi hz hsz hby rfl (by omega) (some ⟨wz.heap.size, 0, none⟩) 1 1 [.int .i64 x1] rfl (RowAt.new wz #[.int .i64 x1] 3 1 1 rfl).cells
                    (fun h => by cases h) (fun u hu => by simp at hu; subst hu; rfl) (by omega) (by omega)
                  exact ⟨ad', c', w', hr, by rw [List.map_append]; exact hoa, (KW1.out.trans q2 (fun _ _ h => h)).trans hka (fun j hj h => by have := h.1; omega)⟩
                have HAP := Lib.hid hap; clear hap
                go_region_held3 (fun w' => w'.cell? ⟨sB, 0, none⟩ = some (.int .i64 2) ∧ w'.cell? ⟨g1, at_ * 2, none⟩ = some (.int .i64 x1) ∧ w'.cell? ⟨g1, at_ * 2 + 1, none⟩ = some (.bool true) ∧ w'.cell? ⟨g, at_ * 2, none⟩ = some (.int .i64 y1) ∧ w'.cell? ⟨g, at_ * 2 + 1, none⟩ = some (.bool true) ∧ w'.cell? ⟨w.heap.size, 0, none⟩ = some (.int .i64 kind) ∧ w'.cell? ⟨w.heap.size, 1, none⟩ = some (.int .i64 m)) (go_keep)
                  (first | (go_at_call 32; (with_reducible refine (HCM.out _).mono ?_); rintro e wz ⟨rfl, hkz'⟩; have hkz := ((Kept.refl No W1).drew).trans hkz' (fun _ _ h => h); obtain ⟨z0, z1, z2, z3, z4, z5, z6⟩ := HZ.out wz hkz; obtain ⟨ada, ca, wa, hr, hoa, hka⟩ := HAP.out wz hkz; have HA := Lib.hid hr; have HOA := Lib.hid hoa; have HKA := Lib.hid hka; clear hr hoa hka))
                all_goals
                  go_wp2_with (at_builtin; refine wpList_append_run rfl (.tmp 122) (.tmp 128) 29 rfl _ _ _ rfl rfl HA.out ?_)
                  go_roundg (n + 1 - (k + 1))
                  case measure => omega
                  case rel =>
                    refine ⟨k + 1, at_ + 1, _, _, _, rfl, by go_num, by go_num, by omega, by omega, ?_⟩
                    show _ ∧ _ ∧ _ ∧ _ ∧ _
                    have e := HTK.out
                    rw [if_pos (by simp)] at e
                    rw [e, ← List.append_assoc]
                    exact ⟨HAT.out.symm, by rw [List.length_append, ← HL2.out.2.1]; rfl, HOA.out, HKA.out, by have := HL2.out.2.2.2.2; omega⟩
              · as_aux_lemma =>
                go_upto_region 24 with fail
                generalize wr.alloc (.cells #[.int .i64 3, .slice va vals.length vn] 31) = W1 at *
                obtain ⟨sB, hsB⟩ : ∃ x, wr.heap.size = x := ⟨_, rfl⟩
                rw [hsB] at p0 hlb ⊢
                clear hsB
                have hz : ∀ w', Kept No W1 w' → w'.cell? ⟨sB, 0, none⟩ = some (.int .i64 3) ∧ w'.cell? ⟨g1, at_ * 2, none⟩ = some (.int .i64 x1) ∧ w'.cell? ⟨g1, at_ * 2 + 1, none⟩ = some (.bool true) ∧ w'.cell? ⟨g, at_ * 2, none⟩ = some (.int .i64 y1) ∧ w'.cell? ⟨g, at_ * 2 + 1, none⟩ = some (.bool true) ∧ w'.cell? ⟨w.heap.size, 0, none⟩ = some (.int .i64 kind) ∧ w'.cell? ⟨w.heap.size, 1, none⟩ = some (.int .i64 m) := fun w' q => ⟨cell_keptNo p0 q, cell_keptNo p1 q, cell_keptNo p2 q, cell_keptNo p3 q, cell_keptNo p4 q, cell_keptNo p5 q, cell_keptNo p6 q⟩
                have HZ := Lib.hid hz; clear hz
                have hcm : ∀ W, Calls Try.prog 32 #[.agg #[.int .i64 kind, .int .i64 m], .int .i64 x1, .int .i64 y1] W fun e w' => e = .returned (.int .i64 0) ∧ Kept No W w' := fun W => by
                  have := compare_any kind m x1 y1 W OK.out
                  rwa [show cmpV kind m x1 y1 = 0 from by unfold cmpV cmpI; rw [hkey rfl, if_neg (by omega), if_neg (by omega)]] at this
                have HCM := Lib.hid hcm; clear hcm hkey hno
                go_region_held3 (fun w' => w'.cell? ⟨sB, 0, none⟩ = some (.int .i64 3) ∧ w'.cell? ⟨g1, at_ * 2, none⟩ = some (.int .i64 x1) ∧ w'.cell? ⟨g1, at_ * 2 + 1, none⟩ = some (.bool true) ∧ w'.cell? ⟨g, at_ * 2, none⟩ = some (.int .i64 y1) ∧ w'.cell? ⟨g, at_ * 2 + 1, none⟩ = some (.bool true) ∧ w'.cell? ⟨w.heap.size, 0, none⟩ = some (.int .i64 kind) ∧ w'.cell? ⟨w.heap.size, 1, none⟩ = some (.int .i64 m)) (go_keep)
                  (first | (go_at_call 32; (with_reducible refine (HCM.out _).mono ?_); rintro e wz ⟨rfl, hkz'⟩; have hkz := ((Kept.refl No W1).drew).trans hkz' (fun _ _ h => h); obtain ⟨z0, z1, z2, z3, z4, z5, z6⟩ := HZ.out wz hkz; skip))
                all_goals
                  go_wp2_with fail
                  go_roundg (n + 1 - (k + 1))
                  case measure => omega
                  case rel =>
                    refine ⟨k + 1, at_ + 1, _, _, _, rfl, by go_num, by go_num, by omega, by omega, ?_⟩
                    show _ ∧ _ ∧ _ ∧ _ ∧ _
                    have e := HTK.out
                    rw [if_neg (by simp), List.append_nil] at e
                    rw [e]
                    exact ⟨HAT.out.symm, HL2.out.2.1, H11.out.keptNo hkz, KW1.out.trans hkz (fun _ _ h => h), by have := HL2.out.2.2.2.2; omega⟩
          · have n2 : ¬ op = 2 := fun h => o23 (Or.inl h)
            have n3 : ¬ op = 3 := fun h => o23 (Or.inr h)
            have o2' : (op == 2) = false := beq_eq_false_iff_ne.2 n2
            have o3' : (op == 3) = false := beq_eq_false_iff_ne.2 n3
            have o2n : (op != 2) = true := by simp [n2]
            have o3n : (op != 3) = true := by simp [n3]
            obtain ⟨t1, t2⟩ := htn n2 n3
            have HT1 := Lib.hid t1; have HT2 := Lib.hid t2
            clear htn hta htk t1 t2 o23 k6r
            go_wp2_with fail
            go_roundg (n + 1 - (k + 1))
            case measure => omega
            case rel =>
              refine ⟨k + 1, at_, _, _, _, rfl, rfl, by go_num, by omega, by omega, ?_⟩
              show _ ∧ _ ∧ _ ∧ _ ∧ _
              rw [HT2.out, HT1.out]
              exact ⟨HL2.out.1, HL2.out.2.1, HL2.out.2.2.1.keptNo HK1.out, HL2.out.2.2.2.1.trans HK1.out (fun _ _ h => h), by have := HL2.out.2.2.2.2; omega⟩
        · obtain rfl : n = k := by omega
          have hp := HP2.out
          have hlen := HL2.out.2.1
          rw [hp.length_eq, ← HN5.out] at hlen
          subst hlen
          have hbag := bag_any (c1 := c11) (c2 := c5) HL2.out.2.2.1.cells (HALLV.out.keptNo HL2.out.2.2.2.1) (fun h => by have := HL2.out.2.2.1; rw [h] at this; exact this.nil.2) HN0.out hp HL2.out.2.1.symm (by
            have := HPU.out n
            rw [List.take_of_length_le (by rw [HN.out]; omega)] at this
            rw [HN5.out]; omega)
          have HB := Lib.hid hbag; have KE := Lib.hid (HK6.out.trans HL2.out.2.2.2.1 (fun _ _ h => h)); clear hbag hp
          go_wp2_with fail
          refine HB.out.mono ?_
          rintro e wy ⟨rfl, ky⟩
          have KY := Lib.hid (KE.out.trans ky (fun _ _ h => h)); clear ky
          go_wp2_with fail
          refine (HKP.out _).mono ?_
          rintro e wk ⟨rfl, kk⟩
          have KK := Lib.hid (KY.out.trans kk (fun _ _ h => h)); clear kk
          go_wp2_with fail
          go_ret
          exact ⟨rfl, KK.out⟩

end Go.Nl
