/- FnQueueSorts: the walk. -/
import Derived.Test.YtgdjfgbipmajmaaSorts
import Derived.Test.YtgdjfgbipmajmaaQPeeked
namespace Go.Nl
open Go.RowKit Go.Sort Go.Proofs

set_option maxHeartbeats 8000000 in
set_option maxRecDepth 100000 in
theorem queueSorts_walk (kind m : Int) (vals : List Int) (ad : Option Addr) (n' : Nat) (w : World) (hv : CellsAt w ad (vals.map intV)) (hn : vals.length ≤ maxLen) (had : ad = none → n' = 0) :
    Calls Try.prog 9 #[.agg #[.int .i64 kind, .int .i64 m], .slice ad vals.length n'] w fun e w' => e = .returned (.bool true) ∧ Kept No w w' := by
  unfold maxLen at hn
  have k0 : Kept No w (w.alloc (.cells #[.int .i64 kind, .int .i64 m] 23)) := (Kept.refl No w).alloc _
  have hb0 := Blk.new w #[.int .i64 kind, .int .i64 m] 23
  have hF : ∀ w1, Kept No (w.alloc (.cells #[.int .i64 kind, .int .i64 m] 23)) w1 → Kept No w w1 ∧ w1.cell? ⟨w.heap.size, 0, none⟩ = some (.int .i64 kind) ∧ w1.cell? ⟨w.heap.size, 1, none⟩ = some (.int .i64 m) := by
    intro w1 k1
    have hb1 := hb0.kept k1 (fun h => h)
    exact ⟨k0.trans k1 (fun _ _ h => h), by rw [hb1.cell]; rfl, by rw [hb1.cell]; rfl⟩
  have hO := plain_any kind m
  have hV := hv.keptNo k0
  have HF0 := Lib.hid hF; have HO := Lib.hid hO; have HV := Lib.hid hV; have HA := Lib.hid had; have K0 := Lib.hid k0
  clear hF hO hv hV k0 hb0 had
  obtain ⟨n, hnn⟩ : ∃ n, vals.length = n := ⟨_, rfl⟩
  rw [hnn] at hn ⊢
  have HN := Lib.hid hnn; clear hnn
  by_cases hbig : (2147483647 : Int) < n
  · go_enter Try.func9, Try.ntmps9
    go_wp2_with fail
    go_ret
    exact ⟨rfl, K0.out⟩
  go_enter Try.func9, Try.ntmps9
  go_wp2_with fail
  refine (HO.out _).mono ?_
  rintro e w2 ⟨b, rfl, hok, k2⟩
  obtain ⟨kw, c0, c1⟩ := HF0.out w2 k2
  have K2 := Lib.hid kw; have HOK := Lib.hid hok; have HV2 := Lib.hid (HV.out.keptNo k2)
  have HF := Lib.hid (fun W (k : Kept No w2 W) => HF0.out W (k2.trans k (fun _ _ h => h)))
  clear kw hok k2 HF0 HV
  cases b
  · go_wp2_with fail
    go_ret
    exact ⟨rfl, K2.out⟩
  by_cases h20 : (20 : Int) < n
  · go_wp2_with fail
    go_ret
    exact ⟨rfl, K2.out⟩
  have hk : kind = 0 ∨ kind = 1 := HOK.out (by simp)
  have ok : OrdOk kind m := hk.elim Or.inl (fun h => Or.inr (Or.inl h))
  have k4 : Kept No w2 ((w2.alloc (.cells #[.int .i64 1, .slice ad vals.length n'] 31)).alloc (.cells #[] 33)) := ((Kept.refl No w2).alloc _).alloc _
  have hso := sorted_any (kind := kind) (m := m) (n' := n') vals (HV2.out.keptNo k4) HA.out ok (by rw [HN.out]; omega)
  have hst : ∀ w5 adL cL (L : List Int), L.Perm vals → InOrd (ltK kind m) L → OwnRow ((w2.alloc (.cells #[.int .i64 1, .slice ad vals.length n'] 31)).alloc (.cells #[] 33)).heap.size w5 adL vals.length cL 3 1 (L.map intV) →
      Kept No ((w2.alloc (.cells #[.int .i64 1, .slice ad vals.length n'] 31)).alloc (.cells #[] 33)) w5 →
      L.length = n ∧ SortsAt w2 ad vals n' adL cL L 0 w2.heap.size 1 (w2.heap.size + 1) 0 w5 ∧ (runQ (ltK kind m) (sortSteps vals (n + 1))).2 = (L.map fun x => (x, true)) ++ [(0, false)] := by
    intro w5 adL cL L hp ho hr hk5
    have hl := hp.length_eq
    have h2 := (alike_same hk (runQ_alike (runS_sortsAll hp ho))).2
    rw [hl, HN.out] at h2
    exact ⟨by rw [hl, HN.out], sorts_start HV2.out hl hr hk5, h2⟩
  rw [HN.out] at hso hst
  have HSO := Lib.hid hso; have HST := Lib.hid hst
  have HKP := Lib.hid (fun W => keepsQueue_any W)
  have OK := Lib.hid ok
  clear hso hst k4 ok hk HOK HO HA
  unfold Sorted' at HSO
  rw [HN.out] at HSO
  have hlt0 := cell_lt c0
  go_wp2_with fail
  refine HSO.out.mono ?_
  rintro e w5 ⟨adL, cL, L, rfl, hp, ho, hr, hk5⟩
  obtain ⟨hl, hs5, hrun⟩ := HST.out w5 adL cL L hp ho hr hk5
  have HS5 := Lib.hid hs5; have HRUN := Lib.hid hrun; have HL := Lib.hid hl; clear hp ho hr hk5 hl hs5 hrun HSO HST c0 c1 hlt0
  go_wp2_with fail
  go_loopg [5, 6, 8, 28] (n + 1) (fun gg s5 s6 s8 si wr => ∃ k g5 c5 g6 c6 : Nat, s5 = .slice (some ⟨g5, 0, none⟩) (k + 1) c5 ∧ s6 = .slice (some ⟨g6, 0, none⟩) k c6 ∧ si = .int .i64 k ∧ k ≤ n ∧ n + 1 - k ≤ gg ∧ Hid (SortsAt w2 ad vals n' adL cL L k g5 c5 g6 c6 wr))
  case atStart => exact ⟨0, w2.heap.size, 1, w2.heap.size + 1, 0, rfl, rfl, rfl, by omega, by omega, HS5.out⟩
  case round =>
    obtain ⟨k, g5, c5, g6, c6, rfl, rfl, rfl, hk, hg, HR⟩ := hrel
    by_cases hkn : k < n
    · have hkl : k < L.length := by rw [HL.out]; exact hkn
      obtain ⟨x, hx⟩ : ∃ x, L[k]? = some x := ⟨_, List.getElem?_eq_getElem hkl⟩
      obtain ⟨vb, vo, e1, cx⟩ := HR.out.list.cells k (intV x) (by rw [List.getElem?_map, hx]; rfl)
      subst e1
      obtain ⟨g', c', w1', r1, g'', c'', w2', r2, hnx⟩ := HR.out.round hkl (by rw [HL.out]; omega) x hx
      have R1 := Lib.hid r1; have R2 := Lib.hid r2; have HX := Lib.hid hnx; clear r1 r2 hnx hx
      unfold intV at cx
      go_wp2_with (first
        | (at_builtin; refine wpList_append_run rfl (.tmp 32) (.tmp 34) 24 rfl _ _ _ rfl rfl R1.out ?_)
        | (at_builtin; refine wpList_append_run rfl (.tmp 36) (.tmp 39) 27 rfl _ _ _ rfl rfl R2.out ?_))
      go_roundg (n + 1 - (k + 1))
      case measure => omega
      case rel => exact ⟨k + 1, g', c', g'', c'', rfl, rfl, by go_num, by omega, by omega, HX.out⟩
    · obtain rfl : k = n := by omega
      generalize wr = V at *
      obtain ⟨KV, e0, e1⟩ := HF.out V HR.out.kept
      have q1 : Kept No V (((V.alloc (.cells #[.int .i64 2, .slice none 0 0] 31)).alloc (.cells #[.int .i64 0, .bool false] 33)).drew) := (((Kept.refl No V).alloc _).alloc _).drew
      have q2 : Kept No V (((V.alloc (.cells #[.int .i64 0, .bool false] 33)).alloc (.cells #[.int .i64 2, .slice none 0 0] 31)).drew) := (((Kept.refl No V).alloc _).alloc _).drew
      have q3 : Kept No V ((V.alloc (.cells #[.int .i64 2, .slice none 0 0] 31)).drew) := ((Kept.refl No V).alloc _).drew
      have s1 : CellsAt (((V.alloc (.cells #[.int .i64 2, .slice none 0 0] 31)).alloc (.cells #[.int .i64 0, .bool false] 33)).drew) (some ⟨V.heap.size, 0, none⟩) [.int .i64 2, .slice none 0 0] :=
        (RowAt.new V #[.int .i64 2, .slice none 0 0] 31 2 1 rfl).cells.keptNo (((Kept.refl No _).alloc _).drew)
      have t1 : RowAt (((V.alloc (.cells #[.int .i64 2, .slice none 0 0] 31)).alloc (.cells #[.int .i64 0, .bool false] 33)).drew) (V.heap.size + 1) 1 1 33 2 [.int .i64 0, .bool false] := by
        have := RowAt.new (V.alloc (.cells #[.int .i64 2, .slice none 0 0] 31)) #[.int .i64 0, .bool false] 33 2 1 rfl
        rw [World.size_alloc] at this
        exact RowAt.kept (S := No) this ((Kept.refl No _).drew) (fun h => h)
      have s2 : CellsAt (((V.alloc (.cells #[.int .i64 0, .bool false] 33)).alloc (.cells #[.int .i64 2, .slice none 0 0] 31)).drew) (some ⟨V.heap.size + 1, 0, none⟩) [.int .i64 2, .slice none 0 0] := by
        have := (RowAt.new (V.alloc (.cells #[.int .i64 0, .bool false] 33)) #[.int .i64 2, .slice none 0 0] 31 2 1 rfl).cells
        rw [World.size_alloc] at this
        exact this.keptNo ((Kept.refl No _).drew)
      have t2 : RowAt (((V.alloc (.cells #[.int .i64 0, .bool false] 33)).alloc (.cells #[.int .i64 2, .slice none 0 0] 31)).drew) V.heap.size 1 1 33 2 [.int .i64 0, .bool false] :=
        RowAt.kept (S := No) (RowAt.new V #[.int .i64 0, .bool false] 33 2 1 rfl) (((Kept.refl No _).alloc _).drew) (fun h => h)
      have s3 : CellsAt ((V.alloc (.cells #[.int .i64 2, .slice none 0 0] 31)).drew) (some ⟨V.heap.size, 0, none⟩) [.int .i64 2, .slice none 0 0] :=
        (RowAt.new V #[.int .i64 2, .slice none 0 0] 31 2 1 rfl).cells.keptNo ((Kept.refl No _).drew)
      have lt5 := HR.out.steps.lt
      obtain ⟨a1, ac1, v1, r1, ea1, kv1⟩ := HR.out.fin queueRun_like OK.out HL.out (by rw [HN.out]; omega) (by omega) q1 _ s1 HRUN.out
      obtain ⟨a2, ac2, v2, r2, ea2, kv2⟩ := HR.out.fin queueRun_like OK.out HL.out (by rw [HN.out]; omega) (by omega) q2 _ s2 HRUN.out
      obtain ⟨a3, ac3, v3, r3, ea3, kv3⟩ := HR.out.fin queueRun_like OK.out HL.out (by rw [HN.out]; omega) (by omega) q3 _ s3 HRUN.out
      have HG1 := Lib.hid (t1.kept kv1 (by omega)).cells
      have HG2 := Lib.hid (t2.kept kv2 (by omega)).cells
      obtain ⟨_, f10, f11⟩ := HF.out v1 ea1.kept
      obtain ⟨_, f20, f21⟩ := HF.out v2 ea2.kept
      obtain ⟨_, f30, f31⟩ := HF.out v3 ea3.kept
      have RA1 := Lib.hid r1; have RA2 := Lib.hid r2; have RA3 := Lib.hid r3
      have EA1 := Lib.hid ea1; have EA2 := Lib.hid ea2; have EA3 := Lib.hid ea3
      have hlw := cell_lt e0; have hlv := cell_lt f30
      clear q1 q2 q3 s1 s2 s3 t1 t2 r1 r2 r3 ea1 ea2 ea3 kv1 kv2 kv3 lt5 HR HS5 HRUN HL HN HV2 KV
      go_upto_region 13 with fail
      go_region_held3 (fun w' => w'.cell? ⟨w.heap.size, 0, none⟩ = some (.int .i64 kind) ∧ w'.cell? ⟨w.heap.size, 1, none⟩ = some (.int .i64 m)) (go_keep)
        (first
          | ((with_reducible refine step_append_run ?_ (.tmp 43) (.tmp 45) 24 ?_ _ _ _ ?_ ?_ RA1.out ?_); rfl; rfl; rfl; rfl)
          | ((with_reducible refine step_append_run ?_ (.tmp 43) (.tmp 45) 24 ?_ _ _ _ ?_ ?_ RA2.out ?_); rfl; rfl; rfl; rfl)
          | ((with_reducible refine step_append_run ?_ (.tmp 43) (.tmp 45) 24 ?_ _ _ _ ?_ ?_ RA3.out ?_); rfl; rfl; rfl; rfl)
          | (go_at_call 24; (with_reducible refine (EA1.out.run _ (Kept.refl No _)).mono ?_); rintro e wp ⟨g3, cap3, rfl, hp⟩; obtain ⟨g4, c4, u, hr4, ku, heq⟩ := EA1.out.next (Kept.refl No _) hp (Kept.refl No _) (V.heap.size + 1) (HG1.out.keptNo hp.2.1); have HB1 := Lib.hid hr4; have HQ1 := Lib.hid heq; obtain ⟨_, zp0, zp1⟩ := HF.out wp ((EA1.out.kept.trans (Kept.refl No _) (fun _ _ h => h)).trans hp.2.1 (fun _ _ h => h)); obtain ⟨_, zu0, zu1⟩ := HF.out u (ku))
          | (go_at_call 24; (with_reducible refine (EA2.out.run _ (Kept.refl No _)).mono ?_); rintro e wp ⟨g3, cap3, rfl, hp⟩; obtain ⟨g4, c4, u, hr4, ku, heq⟩ := EA2.out.next (Kept.refl No _) hp (Kept.refl No _) V.heap.size (HG2.out.keptNo hp.2.1); have HB2 := Lib.hid hr4; have HQ2 := Lib.hid heq; obtain ⟨_, zp0, zp1⟩ := HF.out wp ((EA2.out.kept.trans (Kept.refl No _) (fun _ _ h => h)).trans hp.2.1 (fun _ _ h => h)); obtain ⟨_, zu0, zu1⟩ := HF.out u (ku))
          | (go_at_call 24; (with_reducible refine (EA3.out.run _ (Kept.refl No _)).mono ?_); rintro e wp ⟨g3, cap3, rfl, hp⟩; obtain ⟨g4, c4, u, hr4, ku, heq⟩ := EA3.out.next (Kept.refl No _) hp ((Kept.refl No _).alloc _) wp.heap.size (RowAt.new wp #[.int .i64 0, .bool false] 33 2 1 rfl).cells; have HB4 := Lib.hid hr4; have HQ4 := Lib.hid heq; obtain ⟨_, zp0, zp1⟩ := HF.out wp ((EA3.out.kept.trans (Kept.refl No _) (fun _ _ h => h)).trans hp.2.1 (fun _ _ h => h)); obtain ⟨_, zu0, zu1⟩ := HF.out u (ku))
          | (go_at_call 24; (with_reducible refine (EA3.out.run _ ((Kept.refl No _).alloc _)).mono ?_); rintro e wp ⟨g3, cap3, rfl, hp⟩; obtain ⟨g4, c4, u, hr4, ku, heq⟩ := EA3.out.next ((Kept.refl No _).alloc _) hp (Kept.refl No _) v3.heap.size ((RowAt.new v3 #[.int .i64 0, .bool false] 33 2 1 rfl).cells.keptNo hp.2.1); have HB3 := Lib.hid hr4; have HQ3 := Lib.hid heq; obtain ⟨_, zp0, zp1⟩ := HF.out wp ((EA3.out.kept.trans ((Kept.refl No _).alloc _) (fun _ _ h => h)).trans hp.2.1 (fun _ _ h => h)); obtain ⟨_, zu0, zu1⟩ := HF.out u (ku))
          | ((with_reducible refine step_append_run ?_ (.tmp 48) (.tmp 50) 27 ?_ _ _ _ ?_ ?_ HB1.out ?_); rfl; rfl; rfl; rfl)
          | ((with_reducible refine step_append_run ?_ (.tmp 48) (.tmp 50) 27 ?_ _ _ _ ?_ ?_ HB2.out ?_); rfl; rfl; rfl; rfl)
          | ((with_reducible refine step_append_run ?_ (.tmp 48) (.tmp 50) 27 ?_ _ _ _ ?_ ?_ HB3.out ?_); rfl; rfl; rfl; rfl)
          | ((with_reducible refine step_append_run ?_ (.tmp 48) (.tmp 50) 27 ?_ _ _ _ ?_ ?_ HB4.out ?_); rfl; rfl; rfl; rfl)
          | (go_at_call 27; (with_reducible refine HQ1.out.mono ?_); rintro e wq ⟨rfl, kq⟩; obtain ⟨_, zq0, zq1⟩ := HF.out wq (ku.trans kq (fun _ _ h => h)))
          | (go_at_call 27; (with_reducible refine HQ2.out.mono ?_); rintro e wq ⟨rfl, kq⟩; obtain ⟨_, zq0, zq1⟩ := HF.out wq (ku.trans kq (fun _ _ h => h)))
          | (go_at_call 27; (with_reducible refine HQ3.out.mono ?_); rintro e wq ⟨rfl, kq⟩; obtain ⟨_, zq0, zq1⟩ := HF.out wq (ku.trans kq (fun _ _ h => h)))
          | (go_at_call 27; (with_reducible refine HQ4.out.mono ?_); rintro e wq ⟨rfl, kq⟩; obtain ⟨_, zq0, zq1⟩ := HF.out wq (ku.trans kq (fun _ _ h => h)))
          | (go_at_call 25; (with_reducible refine (HKP.out _).mono ?_); rintro e wk ⟨rfl, kk⟩; obtain ⟨_, zk0, zk1⟩ := HF.out wk ((ku.trans kq (fun _ _ h => h)).trans kk (fun _ _ h => h))))
      all_goals
        go_wp2_with fail
        go_ret
        exact ⟨rfl, (HF.out wk ((ku.trans kq (fun _ _ h => h)).trans kk (fun _ _ h => h))).1⟩

end Go.Nl
