/- FnHeapQueue: heap and queue tell the same; the walk. -/
import Derived.Test.YtgdjfgbipmajmaaQPeeked
namespace Go.Nl
open Go.RowKit Go.Sort Go.Proofs

theorem ltK_total {kind m : Int} (h : kind = 0 ∨ kind = 1) {x y : Int} (h1 : ltK kind m x y = false) (h2 : ltK kind m y x = false) : x = y := by
  simp only [ltK, key] at h1 h2
  rcases h with rfl | rfl
  · simp at h1 h2; omega
  · simp at h1 h2; omega

theorem pushV_spec {lt : Int → Int → Bool} (hS : SWO lt) (xs : List Int) (d : Array Int) (hd : HeapOk lt d) : HeapOk lt (pushV lt d xs) ∧ (pushV lt d xs).toList.Perm (d.toList ++ xs) := by
  unfold pushV
  split
  · rename_i h1
    obtain ⟨x, rfl⟩ : ∃ x, xs = [x] := by
      cases xs with
      | nil => simp at h1
      | cons a l => cases l with
        | nil => exact ⟨a, rfl⟩
        | cons b l => simp at h1
    obtain ⟨a1, a2, _⟩ := push1_spec hS d x hd
    exact ⟨a1, a2.trans (List.perm_append_singleton x d.toList).symm⟩
  · obtain ⟨a1, a2, _⟩ := pushN_spec hS d xs
    exact ⟨a1, a2⟩

theorem head_mem (d : Array Int) (h : d.size ≠ 0) : d[0]! ∈ d.toList := by
  rw [getElem!_pos d 0 (by omega)]
  simp

/-- Two heaps of the same numbers, and the same was told. -/
def Same (lt : Int → Int → Bool) (a b : Array Int × List Got) : Prop := HeapOk lt a.1 ∧ HeapOk lt b.1 ∧ a.1.toList.Perm b.1.toList ∧ a.2 = b.2

theorem same_size {lt : Int → Int → Bool} {a b : Array Int × List Got} (h : Same lt a b) : a.1.size = b.1.size := by
  have := h.2.2.1.length_eq
  simpa using this

theorem same_head {lt : Int → Int → Bool} (hS : SWO lt) (hT : ∀ {x y : Int}, lt x y = false → lt y x = false → x = y) {a b : Array Int × List Got} (h : Same lt a b) (h0 : a.1.size ≠ 0) : a.1[0]! = b.1[0]! := by
  have hs := same_size h
  have m1 := head_mem a.1 h0
  have m2 := head_mem b.1 (by omega)
  exact hT (root_first_mem hS b.1 h.2.1 _ (h.2.2.1.mem_iff.1 m1)) (root_first_mem hS a.1 h.1 _ (h.2.2.1.mem_iff.2 m2))

theorem same_step {lt : Int → Int → Bool} (hS : SWO lt) (hT : ∀ {x y : Int}, lt x y = false → lt y x = false → x = y) (a b : Array Int × List Got) (h : Same lt a b) (s : Step) : Same lt (stepH lt a s) (stepQ lt b s) := by
  have hsz := same_size h
  have hh := same_head hS hT h
  have hseen : seen a.1 = seen b.1 := by
    unfold seen
    by_cases h0 : a.1.size = 0
    · rw [if_pos h0, if_pos (by omega)]
    · rw [if_neg h0, if_neg (by omega), hh h0]
  obtain ⟨h1, h2, h3, h4⟩ := h
  unfold stepH stepQ
  by_cases o1 : s.1 = 1
  · rw [if_pos o1, if_pos o1]
    obtain ⟨a1, a2⟩ := pushV_spec hS s.2 a.1 h1
    obtain ⟨b1, b2⟩ := push1s_spec hS s.2 b.1 h2
    exact ⟨a1, b1, (a2.trans (h3.append_right _)).trans b2.symm, h4⟩
  rw [if_neg o1, if_neg o1]
  by_cases o2 : s.1 = 2
  · rw [if_pos o2, if_pos o2]
    unfold taken
    by_cases h0 : a.1.size = 0
    · rw [if_pos h0, if_pos (by omega)]
      exact ⟨h1, h2, h3, by rw [h4, hseen]⟩
    · rw [if_neg h0, if_neg (by omega)]
      obtain ⟨a1, a2, _⟩ := popped_spec hS a.1 h1 (by omega)
      obtain ⟨b1, b2, _⟩ := popped_spec hS b.1 h2 (by omega)
      refine ⟨a1, b1, ?_, by rw [h4, hseen]⟩
      have := (a2.symm.trans h3).trans b2
      rw [hh h0] at this
      exact this.cons_inv
  rw [if_neg o2, if_neg o2]
  by_cases o3 : s.1 = 3
  · rw [if_pos o3, if_pos o3]
    exact ⟨h1, h2, h3, by rw [h4, hseen]⟩
  rw [if_neg o3, if_neg o3]
  by_cases o4 : s.1 = 4
  · rw [if_pos o4, if_pos o4]
    exact ⟨heapOk_empty lt, heapOk_empty lt, List.Perm.refl _, h4⟩
  rw [if_neg o4, if_neg o4]
  exact ⟨h1, h2, h3, h4⟩

theorem same_run {kind m : Int} (h : kind = 0 ∨ kind = 1) (ss : List Step) : (runQ (ltK kind m) ss).2 = (runH (ltK kind m) ss).2 := by
  have hS := ltK_swo kind m
  have key : ∀ (l : List Step) (a b : Array Int × List Got), Same (ltK kind m) a b → Same (ltK kind m) (l.foldl (stepH (ltK kind m)) a) (l.foldl (stepQ (ltK kind m)) b) := by
    intro l
    induction l with
    | nil => exact fun a b h => h
    | cons s l ih => exact fun a b hab => ih _ _ (same_step hS (fun h1 h2 => ltK_total h h1 h2) a b hab s)
  exact (key ss _ _ ⟨heapOk_empty _, heapOk_empty _, List.Perm.refl _, rfl⟩).2.2.2.symm

/-- A run's row, wherever the run begins behind W. -/
theorem runs_from {R : Nat} {f : Int → Int → List Step → List Got} (hR : RunsLike R f) {kind m : Int} (ok : OrdOk kind m) {ss : List Step} (hss : Small ss 1000 1000) {ad : Option Addr} (n' : Nat) {w : World} (hs : StepsAt w ad ss) :
    ∀ W, Kept No w W → Calls Try.prog R #[.agg #[.int .i64 kind, .int .i64 m], .slice ad ss.length n'] W fun e w' => ∃ g cap, e = .returned (.slice (some ⟨g, 0, none⟩) (f kind m ss).length cap) ∧ RunPost W (f kind m ss) g cap w' :=
  fun W k => hR kind m ok ss hss ad n' W (hs.keptNo k)

theorem RunPost.kept {w w' : World} {gs : List Got} {g cap : Nat} (h : RunPost w gs g cap w') : Kept No w w' := h.2.1

theorem small_big {ss : List Step} (h : Small ss 200 20) : Small ss 1000 1000 := ⟨by have := h.1; omega, fun s hs => by have := h.2 s hs; omega⟩

set_option maxHeartbeats 4000000 in
set_option maxRecDepth 100000 in
theorem heapQueue_walk (kind m : Int) (ss : List Step) (ad : Option Addr) (n' : Nat) (w : World) (hs : StepsAt w ad ss) (hn : ss.length ≤ maxLen) (_had : ad = none → n' = 0) :
    Calls Try.prog 5 #[.agg #[.int .i64 kind, .int .i64 m], .slice ad ss.length n'] w fun e w' => e = .returned (.bool true) ∧ Kept No w w' := by
  have k0 : Kept No w (w.alloc (.cells #[.int .i64 kind, .int .i64 m] 23)) := (Kept.refl No w).alloc _
  have hb0 := Blk.new w #[.int .i64 kind, .int .i64 m] 23
  have hf := fits3_any ss ad n' _ (hs.keptNo k0) hn
  have hF : ∀ w1, Kept No (w.alloc (.cells #[.int .i64 kind, .int .i64 m] 23)) w1 → Kept No w w1 ∧ w1.cell? ⟨w.heap.size, 0, none⟩ = some (.int .i64 kind) ∧ w1.cell? ⟨w.heap.size, 1, none⟩ = some (.int .i64 m) := by
    intro w1 k1
    have hb1 := hb0.kept k1 (fun h => h)
    exact ⟨k0.trans k1 (fun _ _ h => h), by rw [hb1.cell]; rfl, by rw [hb1.cell]; rfl⟩
  have hO := plain_any kind m
  have hS := fun w1 (k : Kept No w w1) => stepsOk_any ss ad n' w1 (hs.keptNo k) hn
  have hrun : (kind = 0 ∨ kind = 1) → Small ss 200 20 → ∃ gs : List Got, gs.length ≤ 1000000 ∧
      (∀ W, Kept No w W → Calls Try.prog 22 #[.agg #[.int .i64 kind, .int .i64 m], .slice ad ss.length n'] W fun e w' => ∃ g cap, e = .returned (.slice (some ⟨g, 0, none⟩) gs.length cap) ∧ RunPost W gs g cap w') ∧
      (∀ W, Kept No w W → Calls Try.prog 24 #[.agg #[.int .i64 kind, .int .i64 m], .slice ad ss.length n'] W fun e w' => ∃ g cap, e = .returned (.slice (some ⟨g, 0, none⟩) gs.length cap) ∧ RunPost W gs g cap w') := by
    intro hk hsm
    have ok : OrdOk kind m := hk.elim Or.inl (fun h => Or.inr (Or.inl h))
    refine ⟨(runH (ltK kind m) ss).2, ?_, runs_from heapRun_like ok (small_big hsm) n' hs, ?_⟩
    · have := (size_runH (ltK kind m) ss 20 hsm.2 ss.length (Nat.le_refl _)).2
      rw [List.take_length] at this
      have := hsm.1
      omega
    · rw [← same_run hk ss]
      exact runs_from queueRun_like ok (small_big hsm) n' hs
  have HF0 := Lib.hid hf; have HF := Lib.hid hF; have HO := Lib.hid hO; have HS := Lib.hid hS; have HR := Lib.hid hrun
  clear hf hF hO hS hs hn k0 hb0 hrun
  generalize hnn : ss.length = n at *
  clear hnn
  go_enter Try.func5, Try.ntmps5
  go_wp2_with fail
  refine HF0.out.mono ?_
  rintro e w1 ⟨b, rfl, _, k1⟩
  obtain ⟨kw, c0, c1⟩ := HF.out w1 k1
  have K1 := Lib.hid kw; have K01 := Lib.hid k1; clear kw k1
  cases b
  · go_wp2_with fail
    go_ret
    exact ⟨rfl, K1.out⟩
  go_wp2_with fail
  refine (HO.out w1).mono ?_
  rintro e w2 ⟨b, rfl, hok, k2⟩
  obtain ⟨kw, d0, d1⟩ := HF.out w2 (K01.out.trans k2 (fun _ _ h => h))
  have K2 := Lib.hid kw; have K02 := Lib.hid (K01.out.trans k2 (fun _ _ h => h)); have HOK := Lib.hid hok; clear kw k2 hok c0 c1
  cases b
  · go_wp2_with fail
    go_ret
    exact ⟨rfl, K2.out⟩
  go_wp2_with fail
  refine (HS.out w2 K2.out).mono ?_
  rintro e w3 ⟨b, rfl, hsm, k3⟩
  obtain ⟨kw, e0, e1⟩ := HF.out w3 (K02.out.trans k3 (fun _ _ h => h))
  have K3 := Lib.hid kw; have HSM := Lib.hid hsm; clear kw k3 hsm d0 d1
  cases b
  · go_wp2_with fail
    go_ret
    exact ⟨rfl, K3.out⟩
  obtain ⟨gs, hgl, r22, r24⟩ := HR.out (HOK.out (by simp)) (HSM.out (by simp))
  have R22 := Lib.hid r22; have R24 := Lib.hid r24
  have HEQ := Lib.hid (fun (wa wb wc : World) g1 c1 g2 c2 (h1 : RunPost wa gs g1 c1 wb) (h2 : RunPost wb gs g2 c2 wc) => equalGot gs (some ⟨g1, 0, none⟩) (some ⟨g2, 0, none⟩) c1 c2 wc (h1.1.cells.keptNo h2.2.1) h2.1.cells hgl)
  have HEQ2 := Lib.hid (fun (wa wb wc : World) g1 c1 g2 c2 (h1 : RunPost wa gs g1 c1 wb) (h2 : RunPost wb gs g2 c2 wc) => equalGot gs (some ⟨g2, 0, none⟩) (some ⟨g1, 0, none⟩) c2 c1 wc h2.1.cells (h1.1.cells.keptNo h2.2.1) hgl)
  have hkH := fun W => keepsHeap_any W
  have hkQ := fun W => keepsQueue_any W
  have HKH := Lib.hid hkH; have HKQ := Lib.hid hkQ
  have KD := Lib.hid (K3.out.drew)
  have hl3 := cell_lt e0
  clear r22 r24 hkH hkQ HR HOK HSM HF0 HF HO HS K1 K01 K2 K02
  go_upto_region 5 with fail
  go_region_held3 (fun w' => w'.cell? ⟨w.heap.size, 0, none⟩ = some (.int .i64 kind) ∧ w'.cell? ⟨w.heap.size, 1, none⟩ = some (.int .i64 m)) (go_keep)
    (first
      | (go_at_call 22; (with_reducible refine (R22.out _ KD.out).mono ?_); rintro e wa ⟨g1, cap1, rfl, hpa⟩; have za0 := cell_keptNo e0 (Kept.trans ((Kept.refl No w3).drew) hpa.kept (fun _ _ h => h)); have za1 := cell_keptNo e1 (Kept.trans ((Kept.refl No w3).drew) hpa.kept (fun _ _ h => h)))
      | (go_at_call 24; (with_reducible refine (R24.out _ KD.out).mono ?_); rintro e wb ⟨g2, cap2, rfl, hpb⟩; have zb0 := cell_keptNo e0 (Kept.trans ((Kept.refl No w3).drew) hpb.kept (fun _ _ h => h)); have zb1 := cell_keptNo e1 (Kept.trans ((Kept.refl No w3).drew) hpb.kept (fun _ _ h => h)))
      | (go_at_call 24; (with_reducible refine (R24.out _ (KD.out.trans hpa.kept (fun _ _ h => h))).mono ?_); rintro e wb ⟨g2, cap2, rfl, hpb⟩; have zb0 := cell_keptNo za0 hpb.kept; have zb1 := cell_keptNo za1 hpb.kept)
      | (go_at_call 22; (with_reducible refine (R22.out _ (KD.out.trans hpb.kept (fun _ _ h => h))).mono ?_); rintro e wa ⟨g1, cap1, rfl, hpa⟩; have za0 := cell_keptNo zb0 hpa.kept; have za1 := cell_keptNo zb1 hpa.kept)
      | (go_at_call 27; (with_reducible refine (HEQ2.out _ _ _ _ _ _ _ hpb hpa).mono ?_); rintro e wc ⟨rfl, kc⟩; have zc0 := cell_keptNo za0 kc; have zc1 := cell_keptNo za1 kc)
      | (go_at_call 27; (with_reducible refine (HEQ.out _ _ _ _ _ _ _ hpa hpb).mono ?_); rintro e wc ⟨rfl, kc⟩; have zc0 := cell_keptNo zb0 kc; have zc1 := cell_keptNo zb1 kc)
      | (go_at_call 23; (with_reducible refine (HKH.out _).mono ?_); rintro e wd ⟨rfl, kd⟩; have zd0 := cell_keptNo zc0 kd; have zd1 := cell_keptNo zc1 kd)
      | (go_at_call 25; (with_reducible refine (HKQ.out _).mono ?_); rintro e we ⟨rfl, ke⟩; have ze0 := cell_keptNo zd0 ke; have ze1 := cell_keptNo zd1 ke))
  all_goals
    go_wp2_with fail
    go_ret
    first
      | exact ⟨rfl, ((((KD.out.trans hpa.kept (fun _ _ h => h)).trans hpb.kept (fun _ _ h => h)).trans kc (fun _ _ h => h)).trans kd (fun _ _ h => h)).trans ke (fun _ _ h => h)⟩
      | exact ⟨rfl, ((((KD.out.trans hpb.kept (fun _ _ h => h)).trans hpa.kept (fun _ _ h => h)).trans kc (fun _ _ h => h)).trans kd (fun _ _ h => h)).trans ke (fun _ _ h => h)⟩

end Go.Nl
