/- QueueRun, keepsQueue; FnQueuePeeked: the walk. -/
import Derived.Test.YtgdjfgbipmajmaaPeeked
import Derived.Test.YtgdjfgbipmajmaaQRun
namespace Go.Nl
open Go.RowKit Go.Sort Go.Proofs

set_option maxRecDepth 100000 in
theorem queueRun_any (kind m : Int) (ok : OrdOk kind m) (ss : List Step) (hss : Small ss 1000 1000) (ad : Option Addr) (n' : Nat) (w : World) (hs : StepsAt w ad ss) :
    Calls Try.prog 24 #[.agg #[.int .i64 kind, .int .i64 m], .slice ad ss.length n'] w fun e w' => ∃ g cap, e = .returned (.slice (some ⟨g, 0, none⟩) (runQ (ltK kind m) ss).2.length cap) ∧ RunPost w (runQ (ltK kind m) ss).2 g cap w' := by
  have k1 : Kept No w (w.alloc (.cells #[.int .i64 kind, .int .i64 m] 23)) := (Kept.refl No w).alloc _
  have hr := queued_any kind m ok ss hss ad n' _ (hs.keptNo k1)
  have fin : ∀ qb g cap w', QueuedPost (w.alloc (.cells #[.int .i64 kind, .int .i64 m] 23)) kind m (runQ (ltK kind m) ss) qb g cap w' → RunPost w (runQ (ltK kind m) ss).2 g cap w' := by
    intro qb g cap w' h
    obtain ⟨hb, lb, ao, c, ob, fv, h1, h2, h3, h4, h5, h6, h7, h8, h9, h10, h11, _⟩ := h
    simp only [World.size_alloc] at h8
    exact ⟨h2, k1.trans h3 (fun _ _ h => h), by omega⟩
  generalize ss.length = n at hr ⊢
  have HR := Lib.hid hr; have HF := Lib.hid fin; clear hr fin k1 hs hss
  go_enter Try.func24, Try.ntmps24
  go_wp2_with fail
  refine HR.out.mono ?_
  rintro e w2 ⟨hb, g, cap, rfl, hp⟩
  have HP := Lib.hid (HF.out hb g cap w2 hp); clear hp
  go_wp2_with fail
  go_ret
  exact ⟨g, cap, rfl, HP.out⟩

theorem push1s_spec {lt : Int → Int → Bool} (hS : SWO lt) (xs : List Int) : ∀ (d : Array Int), HeapOk lt d → HeapOk lt (xs.foldl (push1 lt) d) ∧ (xs.foldl (push1 lt) d).toList.Perm (d.toList ++ xs) := by
  induction xs with
  | nil => intro d hd; exact ⟨hd, by simp⟩
  | cons a l ih =>
    intro d hd
    obtain ⟨h1, h2, _⟩ := push1_spec hS d a hd
    obtain ⟨h3, h4⟩ := ih _ h1
    refine ⟨h3, h4.trans ?_⟩
    exact (h2.append_right l).trans (List.perm_middle.symm)

theorem keep_runQ : (runQ (ltK 0 0) keepSteps).2 = [(5, true)] := by
  have hS := ltK_swo 0 0
  obtain ⟨h1, h2⟩ := push1s_spec hS [6, 5] #[] (heapOk_empty _)
  have h3 : ([6, 5].foldl (push1 (ltK 0 0)) #[]).size = 2 := by rw [size_push1s]; rfl
  have e : runQ (ltK 0 0) keepSteps = (popped (ltK 0 0) ([6, 5].foldl (push1 (ltK 0 0)) #[]), [(([6, 5].foldl (push1 (ltK 0 0)) #[])[0]!, true)]) := by
    have hsz : ([6, 5].foldl (push1 (ltK 0 0)) #[]).size ≠ 0 := by rw [h3]; decide
    unfold runQ keepSteps
    rw [List.foldl_cons, List.foldl_cons, List.foldl_nil]
    have e1 : stepQ (ltK 0 0) (#[], []) (1, [6, 5]) = ([6, 5].foldl (push1 (ltK 0 0)) #[], []) := by unfold stepQ; rw [if_pos rfl]
    rw [e1]
    generalize [6, 5].foldl (push1 (ltK 0 0)) #[] = D at hsz
    simp [stepQ, taken, seen, hsz]
  rw [e]
  generalize [6, 5].foldl (push1 (ltK 0 0)) #[] = D at h1 h2 h3
  have h0 : D[0]! ∈ D.toList := by
    rw [getElem!_pos D 0 (by rw [h3]; decide)]
    simp
  have h5 : (5 : Int) ∈ D.toList := h2.mem_iff.2 (by decide)
  have hm := root_first_mem hS D h1 5 h5
  have hm0 := h2.mem_iff.1 h0
  simp only [ltK, key] at hm
  simp at hm0 hm
  rcases hm0 with h | h
  · rw [h] at hm; omega
  · simp only [List.cons.injEq, Prod.mk.injEq, and_true]; exact h

set_option maxRecDepth 100000 in
theorem keepsQueue_any (w : World) : Calls Try.prog 25 #[] w fun e w' => e = .returned (.bool true) ∧ Kept No w w' := by
  have k1 : Kept No w ((w.alloc (.cells #[.int .i64 6, .int .i64 5] 3)).alloc (.cells #[.int .i64 1, .slice (some ⟨w.heap.size, 0, none⟩) 2 2, .int .i64 2, .slice none 0 0] 31)) := ((Kept.refl No w).alloc _).alloc _
  have hr := queueRun_any 0 0 (Or.inl rfl) keepSteps ⟨by decide, by decide⟩ _ 2 _ (stepsAt_keep w)
  rw [keep_runQ] at hr
  have fin : ∀ g cap w2, RunPost ((w.alloc (.cells #[.int .i64 6, .int .i64 5] 3)).alloc (.cells #[.int .i64 1, .slice (some ⟨w.heap.size, 0, none⟩) 2 2, .int .i64 2, .slice none 0 0] 31)) [(5, true)] g cap w2 →
      Calls Try.prog 27 #[.slice (some ⟨g, 0, none⟩) 1 cap, .slice (some ⟨w2.heap.size, 0, none⟩) 1 1] (w2.alloc (.cells #[.int .i64 5, .bool true] 33)) fun e w' => e = .returned (.bool true) ∧ Kept No w w' := by
    rintro g cap w2 ⟨h1, h2, h3⟩
    have ka : Kept No w2 (w2.alloc (.cells #[.int .i64 5, .bool true] 33)) := (Kept.refl No w2).alloc _
    have hrow := (RowAt.new w2 #[.int .i64 5, .bool true] 33 2 1 rfl).cells
    refine (equalGot [(5, true)] (some ⟨g, 0, none⟩) (some ⟨w2.heap.size, 0, none⟩) cap 1 _ (h1.cells.keptNo ka) hrow (by decide)).mono ?_
    rintro e w' ⟨he, k⟩
    exact ⟨he, ((k1.trans h2 (fun _ _ h => h)).trans ka (fun _ _ h => h)).trans k (fun _ _ h => h)⟩
  have HR := Lib.hid hr; have HF := Lib.hid fin; clear hr fin k1
  go_enter Try.func25, Try.ntmps25
  go_wp2_with fail
  refine HR.out.mono ?_
  rintro e w2 ⟨g, cap, rfl, hp⟩
  have HP := Lib.hid (HF.out g cap w2 hp); clear hp
  go_wp2_with fail
  refine HP.out.mono ?_
  rintro e w3 ⟨rfl, k3⟩
  have K3 := Lib.hid k3; clear k3
  go_wp2_with fail
  go_ret
  exact ⟨rfl, K3.out⟩

theorem queueRun_like : RunsLike 24 (fun kind m ss => (runQ (ltK kind m) ss).2) := fun kind m ok ss hss ad n' w hs => queueRun_any kind m ok ss hss ad n' w hs

theorem queueRun_looks : Looks (fun kind m ss => (runQ (ltK kind m) ss).2) := fun kind m ss hss => by
  refine ⟨_, _, runQ_peeked _ _, ?_⟩
  have := (size_runQ (ltK kind m) ss 20 hss.2 ss.length (Nat.le_refl _)).2
  rw [List.take_length] at this
  have := hss.1
  omega

set_option maxHeartbeats 4000000 in
set_option maxRecDepth 100000 in
theorem queuePeeked_walk (kind m : Int) (ss : List Step) (ad : Option Addr) (n' : Nat) (w : World) (hs : StepsAt w ad ss) (hn : ss.length ≤ maxLen) (had : ad = none → n' = 0) :
    Calls Try.prog 4 #[.agg #[.int .i64 kind, .int .i64 m], .slice ad ss.length n'] w fun e w' => e = .returned (.bool true) ∧ Kept No w w' := by
  have k0 : Kept No w (w.alloc (.cells #[.int .i64 kind, .int .i64 m] 23)) := (Kept.refl No w).alloc _
  have hb0 := Blk.new w #[.int .i64 kind, .int .i64 m] 23
  have hf := fits3_any ss ad n' _ (hs.keptNo k0) hn
  have hF : ∀ w1, Kept No (w.alloc (.cells #[.int .i64 kind, .int .i64 m] 23)) w1 → Kept No w w1 ∧ w1.cell? ⟨w.heap.size, 0, none⟩ = some (.int .i64 kind) ∧ w1.cell? ⟨w.heap.size, 1, none⟩ = some (.int .i64 m) := by
    intro w1 k1
    have hb1 := hb0.kept k1 (fun h => h)
    exact ⟨k0.trans k1 (fun _ _ h => h), by rw [hb1.cell]; rfl, by rw [hb1.cell]; rfl⟩
  have hO := orderOk_any kind m
  have hS := fun w1 (k : Kept No w w1) => stepsOk_any ss ad n' w1 (hs.keptNo k) hn
  have HF0 := Lib.hid hf; have HF := Lib.hid hF; have HO := Lib.hid hO; have HS := Lib.hid hS; have HH := Lib.hid hs; have HA := Lib.hid had
  clear hf hF hO hS hs had hn k0 hb0
  generalize hnn : ss.length = n at *
  have HN := Lib.hid hnn; clear hnn
  go_enter Try.func4, Try.ntmps4
  go_wp2_with fail
  refine HF0.out.mono ?_
  rintro e w1 ⟨b, rfl, _, k1⟩
  obtain ⟨kw, c0, c1⟩ := HF.out w1 k1
  have K1 := Lib.hid kw; have K01 := Lib.hid k1; clear kw k1
  cases b
  · go_wp2_with fail
    go_ret
    exact ⟨rfl, K1.out⟩
  go_wp2_with fail
  refine (HO.out w1).mono ?_
  rintro e w2 ⟨b, rfl, hok, k2⟩
  obtain ⟨kw, d0, d1⟩ := HF.out w2 (K01.out.trans k2 (fun _ _ h => h))
  have K2 := Lib.hid kw; have K02 := Lib.hid (K01.out.trans k2 (fun _ _ h => h)); have HOK := Lib.hid hok; clear kw k2 hok c0 c1
  cases b
  · go_wp2_with fail
    go_ret
    exact ⟨rfl, K2.out⟩
  go_wp2_with fail
  refine (HS.out w2 K2.out).mono ?_
  rintro e w3 ⟨b, rfl, hsm, k3⟩
  obtain ⟨kw, e0, e1⟩ := HF.out w3 (K02.out.trans k3 (fun _ _ h => h))
  have K3 := Lib.hid kw; have HSM := Lib.hid hsm; clear kw k3 hsm d0 d1
  cases b
  · go_wp2_with fail
    go_ret
    exact ⟨rfl, K3.out⟩
  go_upto_region 5 with fail
  obtain ⟨a1, ac1, av, a2, ac2, au, OA⟩ := orderA queueRun_like queueRun_looks (HOK.out (by simp)) (HSM.out (by simp)) HH.out K3.out HA.out
  obtain ⟨b1, bc1, bv, b2, bc2, bu, OB⟩ := orderB queueRun_like queueRun_looks (HOK.out (by simp)) (HSM.out (by simp)) HH.out K3.out HA.out
  obtain ⟨q1, qc1, qv, q2, qc2, qu, OC⟩ := orderC queueRun_like queueRun_looks (HOK.out (by simp)) (HSM.out (by simp)) HH.out K3.out HA.out
  rw [HN.out] at OA OB OC
  unfold tObj at OB OC
  have fa0 := cell_keptNo e0 OA.kept1; have fa1 := cell_keptNo e1 OA.kept1; have fa2 := cell_keptNo e0 OA.kept2; have fa3 := cell_keptNo e1 OA.kept2
  have fb0 := cell_keptNo e0 OB.kept1; have fb1 := cell_keptNo e1 OB.kept1; have fb2 := cell_keptNo e0 OB.kept2; have fb3 := cell_keptNo e1 OB.kept2
  have fc0 := cell_keptNo e0 OC.kept1; have fc1 := cell_keptNo e1 OC.kept1; have fc2 := cell_keptNo e0 OC.kept2; have fc3 := cell_keptNo e1 OC.kept2
  have hl3 := cell_lt e0
  have hlA := cell_lt fa0
  have RA1 := Lib.hid OA.r1; have RA2 := Lib.hid OA.r2; have RA3 := Lib.hid OA.run
  have RB1 := Lib.hid OB.r1; have RB2 := Lib.hid OB.r2; have RB3 := Lib.hid OB.run
  have RC1 := Lib.hid OC.r1; have RC2 := Lib.hid OC.r2; have RC3 := Lib.hid OC.run
  clear OA OB OC
  go_cut [5] (fun s5 wc => Hid (PeekPost w3 (.returned s5) wc))
  case first =>
    go_region_held3 (fun w' => w'.cell? ⟨w.heap.size, 0, none⟩ = some (.int .i64 kind) ∧ w'.cell? ⟨w.heap.size, 1, none⟩ = some (.int .i64 m)) (go_keep)
      (first
        | ((with_reducible refine step_append_run ?_ (.tmp 19) (.tmp 20) 24 ?_ _ _ _ ?_ ?_ RA1.out ?_); rfl; rfl; rfl; rfl)
        | ((with_reducible refine step_append_run ?_ (.tmp 19) (.tmp 20) 24 ?_ _ _ _ ?_ ?_ RB1.out ?_); rfl; rfl; rfl; rfl)
        | ((with_reducible refine step_append_run ?_ (.tmp 19) (.tmp 20) 24 ?_ _ _ _ ?_ ?_ RC1.out ?_); rfl; rfl; rfl; rfl)
        | ((with_reducible refine step_append_run ?_ (.tmp 21) (.tmp 25) 24 ?_ _ _ _ ?_ ?_ RA2.out ?_); rfl; rfl; rfl; rfl)
        | ((with_reducible refine step_append_run ?_ (.tmp 21) (.tmp 25) 24 ?_ _ _ _ ?_ ?_ RB2.out ?_); rfl; rfl; rfl; rfl)
        | ((with_reducible refine step_append_run ?_ (.tmp 21) (.tmp 25) 24 ?_ _ _ _ ?_ ?_ RC2.out ?_); rfl; rfl; rfl; rfl)
        | (go_at_call 24; (with_reducible refine RA3.out.mono ?_); rintro e wz ⟨g, cap, j, x, b, rfl, hz0, hz⟩; have z0 := cell_keptNo e0 hz0; have z1 := cell_keptNo e1 hz0)
        | (go_at_call 24; (with_reducible refine RB3.out.mono ?_); rintro e wz ⟨g, cap, j, x, b, rfl, hz0, hz⟩; have z0 := cell_keptNo e0 hz0; have z1 := cell_keptNo e1 hz0)
        | (go_at_call 24; (with_reducible refine RC3.out.mono ?_); rintro e wz ⟨g, cap, j, x, b, rfl, hz0, hz⟩; have z0 := cell_keptNo e0 hz0; have z1 := cell_keptNo e1 hz0))
    all_goals
      go_wp2_with fail
      go_meet
      case rel => exact ⟨g, cap, j, x, b, rfl, hz0, hz⟩
  case rest =>
    obtain ⟨g, cap, j, x, b, he, hk, hj, c00, c01, c10, c11, c20, c21⟩ := hcut.out
    injection he with he
    subst he
    have HK := Lib.hid (K3.out.trans hk (fun _ _ h => h))
    have hkeep := fun W => keepsQueue_any W
    have HKP := Lib.hid hkeep
    have HZ := Lib.hid (show ∀ w', Kept No wc.drew w' → w'.cell? ⟨g, j * 2, none⟩ = some (.int .i64 x) ∧ w'.cell? ⟨g, j * 2 + 1, none⟩ = some (.bool b) ∧ w'.cell? ⟨g, (j + 1) * 2, none⟩ = some (.int .i64 x) ∧ w'.cell? ⟨g, (j + 1) * 2 + 1, none⟩ = some (.bool b) ∧
        w'.cell? ⟨g, (j + 2) * 2, none⟩ = some (.int .i64 x) ∧ w'.cell? ⟨g, (j + 2) * 2 + 1, none⟩ = some (.bool b) from
      fun w' hz => by
        have hz : Kept No wc w' := ((Kept.refl No wc).drew).trans hz (fun _ _ h => h)
        exact ⟨cell_keptNo c00 hz, cell_keptNo c01 hz, cell_keptNo c10 hz, cell_keptNo c11 hz, cell_keptNo c20 hz, cell_keptNo c21 hz⟩)
    have t1 : (3 : Int) ≤ (j : Int) + 3 := by omega
    clear hkeep hk e0 e1 fa0 fa1 fa2 fa3 fb0 fb1 fb2 fb3 fc0 fc1 fc2 fc3 hl3 hlA RA1 RA2 RA3 RB1 RB2 RB3 RC1 RC2 RC3 HN HF0 HF HO HS HH HA hcut
    go_upto_region 7 with fail
    have v1 : IntKind.i64.wrap ((j : Int) + 3 - 1) = (j : Int) + 2 := by rw [IntWalk.i64_in _ (by omega)]; omega
    have v2 : IntKind.i64.wrap ((j : Int) + 3 - 2) = (j : Int) + 1 := by rw [IntWalk.i64_in _ (by omega)]; omega
    have v3 : IntKind.i64.wrap ((j : Int) + 3 - 3) = (j : Int) := by rw [IntWalk.i64_in _ (by omega)]; omega
    have v4 : IntKind.i64.wrap (j : Int) = (j : Int) := IntWalk.i64_in _ (by omega)
    have n1 : ((j : Int) + 2).toNat = j + 2 := by omega
    have n2 : ((j : Int) + 1).toNat = j + 1 := by omega
    have b1 : (0 : Int) ≤ (j : Int) + 2 := by omega
    have b2' : (0 : Int) ≤ (j : Int) + 1 := by omega
    have b3 : (0 : Int) ≤ (j : Int) := by omega
    have b4 : (j : Int) + 2 < (j : Int) + 3 := by omega
    have b5 : (j : Int) + 1 < (j : Int) + 3 := by omega
    have b6 : (j : Int) < (j : Int) + 3 := by omega
    go_region_held3 (fun w' => w'.cell? ⟨g, j * 2, none⟩ = some (.int .i64 x) ∧ w'.cell? ⟨g, j * 2 + 1, none⟩ = some (.bool b) ∧ w'.cell? ⟨g, (j + 1) * 2, none⟩ = some (.int .i64 x) ∧ w'.cell? ⟨g, (j + 1) * 2 + 1, none⟩ = some (.bool b) ∧
        w'.cell? ⟨g, (j + 2) * 2, none⟩ = some (.int .i64 x) ∧ w'.cell? ⟨g, (j + 2) * 2 + 1, none⟩ = some (.bool b)) (go_keep)
      (first
        | (go_at_call 25; (with_reducible refine (HKP.out _).mono ?_); rintro e wz ⟨rfl, hz⟩; obtain ⟨z0, z1, z2, z3, z4, z5⟩ := HZ.out wz hz))
    all_goals
      go_wp2_with fail
      go_ret
      exact ⟨rfl, HK.out.drew.trans hz (fun _ _ h => h)⟩

end Go.Nl
