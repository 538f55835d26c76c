/- FnQueueBack: the walk. -/
import Derived.Test.YtgdjfgbipmajmaaReverse
import Derived.Deep.DeepCutAuto
import Derived.Test.YtgdjfgbipmajmaaQueueWalk
namespace Go.Nl
open Go.RowKit Go.Sort Go.Proofs

set_option maxHeartbeats 4000000 in
set_option maxRecDepth 100000 in
theorem queueBack_walk (kind m : Int) (ss : List Step) (ad : Option Addr) (n' : Nat) (w : World) (hs : StepsAt w ad ss) (hn : ss.length ≤ maxLen) (_had : ad = none → n' = 0) :
    Calls Try.prog 18 #[.agg #[.int .i64 kind, .int .i64 m], .slice ad ss.length n'] w fun e w' => e = .returned (.bool true) ∧ Kept No w w' := by
  have k0 : Kept No w (w.alloc (.cells #[.int .i64 kind, .int .i64 m] 23)) := (Kept.refl No w).alloc _
  have hb0 := Blk.new w #[.int .i64 kind, .int .i64 m] 23
  have hf := fits3_any ss ad n' _ (hs.keptNo k0) hn
  have hF : ∀ w1, Kept No (w.alloc (.cells #[.int .i64 kind, .int .i64 m] 23)) w1 → Kept No w w1 ∧ w1.cell? ⟨w.heap.size, 0, none⟩ = some (.int .i64 kind) ∧ w1.cell? ⟨w.heap.size, 1, none⟩ = some (.int .i64 m) := by
    intro w1 k1
    have hb1 := hb0.kept k1 (fun h => h)
    exact ⟨k0.trans k1 (fun _ _ h => h), by rw [hb1.cell]; rfl, by rw [hb1.cell]; rfl⟩
  have hO := plain_any kind m
  have hS := fun w1 (k : Kept No w w1) => stepsOk_any ss ad n' w1 (hs.keptNo k) hn
  have hrun : (kind = 0 ∨ kind = 1) → Small ss 200 20 → ∃ (A B : List SeenT) (s0 : SeenT) (N : Nat), N ≤ 10000 ∧ A.length = N ∧ B.length = N ∧ B.reverse = A ∧
      (∀ st, RunS (ltK kind m) ss st → st.1.length = N) ∧
      (∀ W, Kept No w W → ∀ mad mn, CellsAt W mad (opsCells (List.replicate N 1)) → (∀ a, mad = some a → a.block < W.heap.size) → Calls Try.prog 40 #[.agg #[.int .i64 kind, .int .i64 m], .slice ad ss.length n', .slice mad N mn] W (WalkRow W A N)) ∧
      (∀ W, Kept No w W → ∀ mad mn, CellsAt W mad (opsCells (6 :: List.replicate N 2)) → (∀ a, mad = some a → a.block < W.heap.size) → Calls Try.prog 40 #[.agg #[.int .i64 kind, .int .i64 m], .slice ad ss.length n', .slice mad (N + 1) mn] W (WalkRow W (s0 :: B) (N + 1))) ∧
      (∀ W, Kept No w W → Calls Try.prog 28 #[.agg #[.int .i64 kind, .int .i64 m], .slice ad ss.length n'] W (RefPost W kind m ss)) := by
    intro hk hsm
    have ok : OrdOk kind m := hk.elim Or.inl (fun h => Or.inr (Or.inl h))
    have hN : (runQ (ltK kind m) ss).1.size ≤ 10000 := by
      have := (size_runQ (ltK kind m) ss 20 hsm.2 ss.length (Nat.le_refl _)).1
      rw [List.take_length] at this
      have := hsm.1
      omega
    have hb := walk_back (ltK kind m) (runQ (ltK kind m) ss).1 (runQ (ltK kind m) ss).1.size (Nat.le_refl _)
    refine ⟨(walkP (ltK kind m) (runQ (ltK kind m) ss).1 (List.replicate (runQ (ltK kind m) ss).1.size 1)).2, (walkP (ltK kind m) (runQ (ltK kind m) ss).1 (6 :: List.replicate (runQ (ltK kind m) ss).1.size 2)).2.tail, (false, 0, 0), (runQ (ltK kind m) ss).1.size, hN, ?_, ?_, back_on _ _, ?_, ?_, ?_, fun W k => ref_any kind m ok ss (small_big hsm) ad n' W (hs.keptNo k)⟩
    · rw [walk_on _ _ _ (Nat.le_refl _)]; simp
    · rw [hb]; simp
    · intro st h
      exact (runQ_alike h).size.symm
    · intro W k mad mn hm hmb
      have := queueWalk_any kind m ok ss (small_big hsm) ad n' W (hs.keptNo k) (List.replicate (runQ (ltK kind m) ss).1.size 1) (fun op ho => Or.inl (List.eq_of_mem_replicate ho)) (by simp; omega) mad mn (movesAt_of hm) hmb
      simpa using this
    · intro W k mad mn hm hmb
      have := queueWalk_any kind m ok ss (small_big hsm) ad n' W (hs.keptNo k) (6 :: List.replicate (runQ (ltK kind m) ss).1.size 2) (fun op ho => by
        rcases List.mem_cons.1 ho with h | h
        · exact Or.inr (Or.inr h)
        · exact Or.inr (Or.inl (List.eq_of_mem_replicate h))) (by simp; omega) mad mn (movesAt_of hm) hmb
      rw [show ((false, 0, 0) : SeenT) :: (walkP (ltK kind m) (runQ (ltK kind m) ss).1 (6 :: List.replicate (runQ (ltK kind m) ss).1.size 2)).2.tail = (walkP (ltK kind m) (runQ (ltK kind m) ss).1 (6 :: List.replicate (runQ (ltK kind m) ss).1.size 2)).2 from by rw [hb]; rfl]
      simpa using this
  have HF0 := Lib.hid hf; have HF := Lib.hid hF; have HO := Lib.hid hO; have HS := Lib.hid hS; have HR := Lib.hid hrun
  clear hf hF hO hS hs hn k0 hb0 hrun
  generalize hnn : ss.length = n at *
  clear hnn
  go_enter Try.func18, Try.ntmps18
  go_wp2_with fail
  refine HF0.out.mono ?_
  rintro e w1 ⟨b, rfl, _, k1⟩
  obtain ⟨kw, c0, c1⟩ := HF.out w1 k1
  have K1 := Lib.hid kw; have K01 := Lib.hid k1; clear kw k1
  cases b
  · go_wp2_with fail
    go_ret
    exact ⟨rfl, K1.out⟩
  go_wp2_with fail
  refine (HO.out w1).mono ?_
  rintro e w2 ⟨b, rfl, hok, k2⟩
  obtain ⟨kw, d0, d1⟩ := HF.out w2 (K01.out.trans k2 (fun _ _ h => h))
  have K2 := Lib.hid kw; have K02 := Lib.hid (K01.out.trans k2 (fun _ _ h => h)); have HOK := Lib.hid hok; clear kw k2 hok c0 c1
  cases b
  · go_wp2_with fail
    go_ret
    exact ⟨rfl, K2.out⟩
  go_wp2_with fail
  refine (HS.out w2 K2.out).mono ?_
  rintro e w3 ⟨b, rfl, hsm, k3⟩
  obtain ⟨kw, e0, e1⟩ := HF.out w3 (K02.out.trans k3 (fun _ _ h => h))
  have K3 := Lib.hid kw; have K03 := Lib.hid (K02.out.trans k3 (fun _ _ h => h)); have HSM := Lib.hid hsm; clear kw k3 hsm d0 d1
  cases b
  · go_wp2_with fail
    go_ret
    exact ⟨rfl, K3.out⟩
  obtain ⟨A, B, s0, N, hN, hAl, hBl, hBA, hgs, ra, rb, r28⟩ := HR.out (HOK.out (by simp)) (HSM.out (by simp))
  have RA0 := Lib.hid ra; have RB0 := Lib.hid rb; have R28 := Lib.hid r28; have HGS := Lib.hid hgs; have HAL := Lib.hid hAl; have HBL := Lib.hid hBl; have HBA := Lib.hid hBA
  have HKP := Lib.hid (fun W => keepsQueue_any W)
  clear ra rb r28 hgs hAl hBl hBA HR HOK HSM HF0 HO HS K1 K01 K2 K02
  go_wp2_with fail
  refine (R28.out w3 K3.out).mono ?_
  rintro e w4 ⟨adL, cL, g, cap, ⟨L, gs'⟩, rfl, hrn, href⟩
  have hln := HGS.out _ hrn
  simp only at hln ⊢
  rw [hln]
  obtain ⟨kw, f0, f1⟩ := HF.out w4 (K03.out.trans href.kept (fun _ _ h => h))
  have K4 := Lib.hid kw; have K04 := Lib.hid (K03.out.trans href.kept (fun _ _ h => h)); clear kw href hrn e0 e1 hln f0 f1
  have HST := Lib.hid (back_start w4)
  go_wp2_with fail
  go_loopg [7, 8, 33] (N + 1) (fun gg s7 s8 si wr => ∃ k g7 c7 g8 c8 : Nat, s7 = .slice (some ⟨g7, 0, none⟩) k c7 ∧ s8 = .slice (some ⟨g8, 0, none⟩) (k + 1) c8 ∧ si = .int .i64 k ∧ k ≤ N ∧ N + 1 - k ≤ gg ∧ Hid (BackAt w4 k g7 c7 g8 c8 wr))
  case atStart => exact ⟨0, _, 0, _, 1, rfl, rfl, rfl, by omega, by omega, HST.out⟩
  case round =>
    obtain ⟨k, g7, c7, g8, c8, rfl, rfl, rfl, hk, hg, HL⟩ := hrel
    by_cases hkn : k < N
    · obtain ⟨g', c', w1', r1, g'', c'', w2', r2, hnx⟩ := HL.out.round (by omega)
      have R1 := Lib.hid r1; have R2 := Lib.hid r2; have HX := Lib.hid hnx; clear r1 r2 hnx
      go_wp2_with (first
        | (at_builtin; refine wpList_append_run rfl (.tmp 35) (.tmp 37) 47 rfl _ _ _ rfl rfl R1.out ?_)
        | (at_builtin; refine wpList_append_run rfl (.tmp 39) (.tmp 41) 47 rfl _ _ _ rfl rfl R2.out ?_))
      go_roundg (N + 1 - (k + 1))
      case measure => omega
      case rel => exact ⟨k + 1, g', c', g'', c'', rfl, rfl, by go_num, by omega, by omega, HX.out⟩
    · obtain rfl : N = k := by omega
      generalize wr = V at *
      have kV := K4.out.trans HL.out.kept (fun _ _ h => h)
      obtain ⟨_, o0, o1⟩ := HF.out V (K04.out.trans HL.out.kept (fun _ _ h => h))
      have l7 := HL.out.there.lt; have l8 := HL.out.back.lt
      have RA := Lib.hid (fun W (q : Kept No V W) => RA0.out W (kV.trans q (fun _ _ h => h)) (some ⟨g7, 0, none⟩) c7 (HL.out.there.cells.keptNo q) (fun a ha => by injection ha with ha; subst ha; have := q.size; simp only; omega))
      have RB := Lib.hid (fun W (q : Kept No V W) => RB0.out W (kV.trans q (fun _ _ h => h)) (some ⟨g8, 0, none⟩) c8 (HL.out.back.cells.keptNo q) (fun a ha => by injection ha with ha; subst ha; have := q.size; simp only; omega))
      have KV := Lib.hid kV
      have hlo := cell_lt o0
      clear kV l7 l8 HL RA0 RB0 HST
      go_upto_region 11 with fail
      go_cut [9, 10] (fun s9 s10 wc => ∃ ga ca gb cb : Nat, s9 = .slice (some ⟨ga, 0, none⟩) N ca ∧ s10 = .slice (some ⟨gb, 0, none⟩) (N + 1) cb ∧ Hid (RowAt wc ga N ca 55 3 (A.flatMap seenCells) ∧ RowAt wc gb (N + 1) cb 55 3 ((s0 :: B).flatMap seenCells) ∧ Kept No V wc))
      case first =>
        go_region_held3 (fun w' => w'.cell? ⟨w.heap.size, 0, none⟩ = some (.int .i64 kind) ∧ w'.cell? ⟨w.heap.size, 1, none⟩ = some (.int .i64 m)) (go_keep)
          (first
            | (go_at_call 40; (with_reducible refine (RA.out _ (Kept.drew (Kept.refl No _))).mono ?_); rintro e wa ⟨ga, ca, rfl, hra, hka, _⟩; have qa := ((Kept.refl No V).drew).trans hka (fun _ _ h => h); have za0 := cell_keptNo o0 qa; have za1 := cell_keptNo o1 qa)
            | (go_at_call 40; (with_reducible refine (RB.out _ qa).mono ?_); rintro e wb ⟨gb, cb, rfl, hrb, hkb, _⟩; have qb := qa.trans hkb (fun _ _ h => h); have zb0 := cell_keptNo o0 qb; have zb1 := cell_keptNo o1 qb))
        all_goals
          go_wp2_with fail
          go_meet
          case rel => exact ⟨ga, ca, gb, cb, rfl, rfl, (show _ ∧ _ ∧ _ from ⟨hra.kept hkb (fun h => h), hrb, qb⟩)⟩
      case rest =>
        obtain ⟨ga, ca, gb, cb, rfl, rfl, HC⟩ := hcut
        have hle := HC.out.2.1.le
        have t1 : IntKind.i64.wrap ((N : Int) + 1) = (N : Int) + 1 := IntWalk.i64_in _ (by omega)
        have hc1 := seenClone B N HBL.out ⟨gb, 3, none⟩ (cb - 1) wc (seen_tail HC.out.2.1.cells) (by omega)
        have hc0 : cb = 1 → Calls Try.prog 37 #[.slice (some ⟨gb, 0, none⟩) N 0] wc (SeenCloned wc B N) := fun hc => by
          have hb0 : B = [] := List.eq_nil_of_length_eq_zero (by rw [HBL.out]; omega)
          exact seenClone B N HBL.out ⟨gb, 0, none⟩ 0 wc (by rw [hb0]; intro j v h; simp at h) (by omega)
        have HC1 := Lib.hid hc1; have HC0 := Lib.hid hc0; clear hc1 hc0 o0 o1 hlo RA RB
        go_wp2_with fail
        all_goals
          first
            | (with_reducible refine HC1.out.mono ?_)
            | (with_reducible refine (HC0.out (by omega)).mono ?_)
          rintro e wx ⟨adc, cc, rfl, hoc, hkc⟩
          have hrv := seenReverse B N HBL.out (by omega) hoc
          rw [HBA.out] at hrv
          have HRV := Lib.hid hrv; have KC := Lib.hid hkc; clear hrv hkc hoc
          go_wp2_with fail
          refine HRV.out.mono ?_
          rintro e wy ⟨rfl, hoy, hky⟩
          have kcy : Kept No wc wy := KC.out.trans hky (fun i hi h => by have := h.1; omega)
          have heq := equalSeen A (some ⟨ga, 0, none⟩) adc ca cc N HAL.out wy (HC.out.1.cells.keptNo kcy) hoy.cells (by omega)
          have HE := Lib.hid heq; have KY := Lib.hid ((KV.out.trans HC.out.2.2 (fun _ _ h => h)).trans kcy (fun _ _ h => h)); clear heq kcy hky hoy
          go_wp2_with fail
          refine HE.out.mono ?_
          rintro e wz ⟨rfl, kz⟩
          have KZ := Lib.hid (KY.out.trans kz (fun _ _ h => h)); clear kz
          go_wp2_with fail
          refine (HKP.out _).mono ?_
          rintro e wk ⟨rfl, kk⟩
          have KK := Lib.hid (KZ.out.trans kk (fun _ _ h => h)); clear kk
          go_wp2_with fail
          go_ret
          exact ⟨rfl, KK.out⟩

end Go.Nl
