/- The statements' own tests of their arguments; keepsHeap. -/
import Derived.Test.YtgdjfgbipmajmaaEqual
namespace Go.Nl
open Go.RowKit Go.Sort Go.Proofs

theorem fits4_any (op : Int) (va : Option Addr) (n vn : Nat) (w : World) : Calls Try.prog 41 #[.agg #[.int .i64 op, .slice va n vn]] w (Says True w) := by
  have k1 : Kept No w (w.alloc (.cells #[.int .i64 op, .slice va n vn] 31)) := (Kept.refl No w).alloc _
  have K := Lib.hid k1; clear k1
  by_cases h : (2147483647 : Int) < n
  · go_enter Try.func41, Try.ntmps41
    go_wp2
    go_ret
    exact ⟨_, rfl, fun _ => trivial, K.out⟩
  · go_enter Try.func41, Try.ntmps41
    go_wp2
    go_ret
    exact ⟨_, rfl, fun _ => trivial, K.out⟩

set_option maxHeartbeats 1000000 in
set_option maxRecDepth 100000 in
theorem fits3_any (ss : List Step) (ad : Option Addr) (n' : Nat) (w : World) (hs : StepsAt w ad ss) (hn : ss.length ≤ maxLen) :
    Calls Try.prog 19 #[.slice ad ss.length n'] w (Says True w) := by
  obtain ⟨n, hnn⟩ : ∃ n, ss.length = n := ⟨_, rfl⟩
  rw [hnn] at hn ⊢
  unfold maxLen at hn
  have HS := Lib.hid hs; have HN := Lib.hid hnn; clear hs hnn
  by_cases h : (2147483647 : Int) < n
  · go_enter Try.func19, Try.ntmps19
    go_wp2_with fail
    go_ret
    exact ⟨_, rfl, fun _ => trivial, Kept.refl _ _⟩
  · go_enter Try.func19, Try.ntmps19
    go_wp2_with fail
    go_loopg [10] (n + 1) (fun g si wr => ∃ k : Nat, si = .int .i64 k ∧ k ≤ n ∧ n + 1 - k ≤ g ∧ Hid (Kept No w wr))
    case atStart => exact ⟨0, rfl, by omega, by omega, Kept.refl _ _⟩
    case round =>
      obtain ⟨k, rfl, hk, hg, HK⟩ := hrel
      by_cases hkn : k < n
      · obtain ⟨sb, so, va, vn, had, ho, hv, hcs⟩ := (HS.out.keptNo HK.out) k (by rw [HN.out]; exact hkn)
        subst had
        generalize ss.getD k (0, []) = s at ho hv hcs
        obtain ⟨op, vals⟩ := s
        simp only at ho hv
        have k1 : Kept No wr (wr.alloc (.cells #[.int .i64 op, .slice va vals.length vn] 31)) := (Kept.refl No wr).alloc _
        have hf := fits4_any op va vals.length vn (wr.alloc (.cells #[.int .i64 op, .slice va vals.length vn] 31))
        have K1 := Lib.hid k1; have HF := Lib.hid hf; clear k1 hf hcs
        go_wp2_with fail
        refine HF.out.mono ?_
        rintro e w2 ⟨b, rfl, _, k2⟩
        have K2 := Lib.hid (HK.out.trans (K1.out.trans k2 (fun _ _ h => h)) (fun _ _ h => h)); clear k2
        cases b
        · go_wp2_with fail
          go_ret
          exact ⟨_, rfl, fun _ => trivial, K2.out⟩
        · go_wp2_with fail
          go_roundg (n + 1 - (k + 1))
          case measure => omega
          case rel => exact ⟨k + 1, by go_num, by omega, by omega, K2.out⟩
      · obtain rfl : k = n := by omega
        go_wp2_with fail
        go_ret
        exact ⟨_, rfl, fun _ => trivial, HK.out⟩

set_option maxHeartbeats 1000000 in
set_option maxRecDepth 100000 in
theorem stepsOk_any (ss : List Step) (ad : Option Addr) (n' : Nat) (w : World) (hs : StepsAt w ad ss) (hn : ss.length ≤ maxLen) :
    Calls Try.prog 21 #[.slice ad ss.length n'] w (Says (Small ss 200 20) w) := by
  obtain ⟨n, hnn⟩ : ∃ n, ss.length = n := ⟨_, rfl⟩
  rw [hnn] at hn ⊢
  unfold maxLen at hn
  have HS := Lib.hid hs; have HN := Lib.hid hnn; clear hs hnn
  go_enter Try.func21, Try.ntmps21
  go_wp2_with fail
  go_loopg [7] (n + 1) (fun g si wr => ∃ k : Nat, si = .int .i64 k ∧ k ≤ n ∧ n + 1 - k ≤ g ∧ Hid (Kept No w wr ∧ ∀ s ∈ ss.take k, s.2.length ≤ 20))
  case atStart => exact ⟨0, rfl, by omega, by omega, (show _ ∧ _ from ⟨Kept.refl _ _, fun s hs => by simp at hs⟩)⟩
  case round =>
    obtain ⟨k, rfl, hk, hg, HK⟩ := hrel
    by_cases hkn : k < n
    · have hkl : k < ss.length := by rw [HN.out]; exact hkn
      obtain ⟨sb, so, va, vn, had, ho, hv, hcs⟩ := (HS.out.keptNo HK.out.1) k hkl
      subst had
      have htk : ∀ s ∈ ss.take (k + 1), s ∈ ss.take k ∨ s = ss.getD k (0, []) := by
        intro s hs
        rw [List.take_succ_eq_append_getElem hkl, List.mem_append] at hs
        rcases hs with h | h
        · exact Or.inl h
        · right
          rw [List.getD_eq_getElem?_getD, List.getElem?_eq_getElem hkl]
          simpa using h
      generalize ss.getD k (0, []) = s at ho hv hcs htk
      obtain ⟨op, vals⟩ := s
      simp only at ho hv
      have k1 : Kept No wr (wr.alloc (.cells #[.int .i64 op, .slice va vals.length vn] 31)) := (Kept.refl No wr).alloc _
      have K1 := Lib.hid (HK.out.1.trans k1 (fun _ _ h => h)); have HT := Lib.hid htk; clear k1 hcs htk
      by_cases h20 : (20 : Int) < vals.length
      · go_wp2_with fail
        go_ret
        exact ⟨false, rfl, fun h => (by cases h), K1.out⟩
      · go_wp2_with fail
        go_roundg (n + 1 - (k + 1))
        case measure => omega
        case rel =>
          refine ⟨k + 1, by go_num, by omega, by omega, (show _ ∧ _ from ⟨K1.out, fun s hs => ?_⟩)⟩
          rcases HT.out s hs with h | h
          · exact HK.out.2 s h
          · subst h; simp only; omega
    · obtain rfl : k = n := by omega
      by_cases h200 : (k : Int) ≤ 200
      · have HX : Hid (Small ss 200 20) := (show Small ss 200 20 from ⟨by rw [HN.out]; omega, fun s hs => HK.out.2 s (by rw [List.take_of_length_le (by rw [HN.out]; omega)]; exact hs)⟩)
        go_wp2_with fail
        go_ret
        exact ⟨_, rfl, fun _ => HX.out, HK.out.1⟩
      · have h200' : decide ((k : Int) ≤ 200) = false := decide_eq_false h200
        clear h200
        go_wp2_with fail
        go_ret
        exact ⟨_, rfl, fun h => (by simp at h), HK.out.1⟩

def keepSteps : List Step := [(1, [6, 5]), (2, [])]

theorem keep_run : (runH (ltK 0 0) keepSteps).2 = [(5, true)] := by
  have hS := ltK_swo 0 0
  obtain ⟨h1, h2, h3⟩ := pushN_spec hS #[] [6, 5]
  have e : runH (ltK 0 0) keepSteps = (popped (ltK 0 0) (pushN (ltK 0 0) #[] [6, 5]), [((pushN (ltK 0 0) #[] [6, 5])[0]!, true)]) := by
    have hsz : (pushN (ltK 0 0) #[] [6, 5]).size ≠ 0 := by rw [h3]; decide
    unfold runH keepSteps
    simp only [List.foldl_cons, List.foldl_nil]
    have e1 : stepH (ltK 0 0) (#[], []) (1, [6, 5]) = (pushN (ltK 0 0) #[] [6, 5], []) := by simp [stepH, pushV]
    rw [e1]
    generalize pushN (ltK 0 0) #[] [6, 5] = D at hsz
    simp [stepH, taken, seen, hsz]
  rw [e]
  generalize pushN (ltK 0 0) #[] [6, 5] = D at h1 h2 h3
  have h0 : D[0]! ∈ D.toList := by
    rw [getElem!_pos D 0 (by rw [h3]; decide)]
    simp
  have h5 : (5 : Int) ∈ D.toList := h2.mem_iff.2 (by decide)
  have hm := root_first_mem hS D h1 5 h5
  have hm0 := h2.mem_iff.1 h0
  simp only [ltK, key] at hm
  simp at hm0 hm
  rcases hm0 with h | h
  · rw [h] at hm; omega
  · simp only [List.cons.injEq, Prod.mk.injEq, and_true]; exact h

theorem stepsAt_keep (w : World) : StepsAt ((w.alloc (.cells #[.int .i64 6, .int .i64 5] 3)).alloc (.cells #[.int .i64 1, .slice (some ⟨w.heap.size, 0, none⟩) 2 2, .int .i64 2, .slice none 0 0] 31)) (some ⟨w.heap.size + 1, 0, none⟩) keepSteps := by
  have hB := Blk.new (w.alloc (.cells #[.int .i64 6, .int .i64 5] 3)) #[.int .i64 1, .slice (some ⟨w.heap.size, 0, none⟩) 2 2, .int .i64 2, .slice none 0 0] 31
  have hA := (Blk.new w #[.int .i64 6, .int .i64 5] 3).alloc (.cells #[.int .i64 1, .slice (some ⟨w.heap.size, 0, none⟩) 2 2, .int .i64 2, .slice none 0 0] 31)
  rw [World.size_alloc] at hB
  intro j hj
  have hj2 : j = 0 ∨ j = 1 := by simp [keepSteps] at hj; omega
  rcases hj2 with rfl | rfl
  · refine ⟨_, 0, some ⟨w.heap.size, 0, none⟩, 2, rfl, by rw [hB.cell]; rfl, by rw [hB.cell]; rfl, ?_⟩
    intro i v hi
    have hi2 : i = 0 ∨ i = 1 ∨ 2 ≤ i := by omega
    rcases hi2 with rfl | rfl | h
    · exact ⟨_, 0, rfl, by rw [hA.cell]; simpa [keepSteps, intV] using hi⟩
    · exact ⟨_, 0, rfl, by rw [hA.cell]; simpa [keepSteps, intV] using hi⟩
    · rw [List.getElem?_eq_none (by simp [keepSteps]; omega)] at hi; cases hi
  · refine ⟨_, 0, none, 0, rfl, by rw [hB.cell]; rfl, by rw [hB.cell]; rfl, ?_⟩
    intro i v hi
    simp [keepSteps] at hi

set_option maxRecDepth 100000 in
theorem keepsHeap_any (w : World) : Calls Try.prog 23 #[] w fun e w' => e = .returned (.bool true) ∧ Kept No w w' := by
  have k1 : Kept No w ((w.alloc (.cells #[.int .i64 6, .int .i64 5] 3)).alloc (.cells #[.int .i64 1, .slice (some ⟨w.heap.size, 0, none⟩) 2 2, .int .i64 2, .slice none 0 0] 31)) := ((Kept.refl No w).alloc _).alloc _
  have hr := heapRun_any 0 0 (Or.inl rfl) keepSteps ⟨by decide, by decide⟩ _ 2 _ (stepsAt_keep w)
  rw [keep_run] at hr
  have fin : ∀ g cap w2, RunPost ((w.alloc (.cells #[.int .i64 6, .int .i64 5] 3)).alloc (.cells #[.int .i64 1, .slice (some ⟨w.heap.size, 0, none⟩) 2 2, .int .i64 2, .slice none 0 0] 31)) [(5, true)] g cap w2 →
      Calls Try.prog 27 #[.slice (some ⟨g, 0, none⟩) 1 cap, .slice (some ⟨w2.heap.size, 0, none⟩) 1 1] (w2.alloc (.cells #[.int .i64 5, .bool true] 33)) fun e w' => e = .returned (.bool true) ∧ Kept No w w' := by
    rintro g cap w2 ⟨h1, h2, h3⟩
    have ka : Kept No w2 (w2.alloc (.cells #[.int .i64 5, .bool true] 33)) := (Kept.refl No w2).alloc _
    have hrow := (RowAt.new w2 #[.int .i64 5, .bool true] 33 2 1 rfl).cells
    refine (equalGot [(5, true)] (some ⟨g, 0, none⟩) (some ⟨w2.heap.size, 0, none⟩) cap 1 _ (h1.cells.keptNo ka) hrow (by decide)).mono ?_
    rintro e w' ⟨he, k⟩
    exact ⟨he, ((k1.trans h2 (fun _ _ h => h)).trans ka (fun _ _ h => h)).trans k (fun _ _ h => h)⟩
  have HR := Lib.hid hr; have HF := Lib.hid fin; clear hr fin k1
  go_enter Try.func23, Try.ntmps23
  go_wp2_with fail
  refine HR.out.mono ?_
  rintro e w2 ⟨g, cap, rfl, hp⟩
  have HP := Lib.hid (HF.out g cap w2 hp); clear hp
  go_wp2_with fail
  refine HP.out.mono ?_
  rintro e w3 ⟨rfl, k3⟩
  have K3 := Lib.hid k3; clear k3
  go_wp2_with fail
  go_ret
  exact ⟨rfl, K3.out⟩

end Go.Nl
