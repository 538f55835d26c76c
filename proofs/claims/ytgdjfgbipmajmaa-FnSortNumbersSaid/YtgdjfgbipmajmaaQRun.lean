/- queued: what it leaves. -/
import Derived.Test.YtgdjfgbipmajmaaQueue
namespace Go.Nl
open Go.RowKit Go.Sort Go.Proofs

theorem queueNewWith_any (ob : Nat) (w : World) :
    Calls Try.prog 63 #[fvOf ob] w fun e w' => ∃ w1, e = .returned (.pointer (some ⟨w1.heap.size, 0, none⟩)) ∧
      HeapAt w1 (w.heap.size + 1) w.heap.size none 0 (fvOf ob) #[] ∧ Kept No w w1 ∧ w' = w1.alloc (.cells #[.pointer (some ⟨w.heap.size + 1, 0, none⟩), fvOf ob] 108) := by
  have h := newWith_any ob w
  have H := Lib.hid h; clear h
  go_enter Try.func63, Try.ntmps63
  go_wp2_with fail
  refine H.out.mono ?_
  rintro e w1 ⟨rfl, h1, k1⟩
  have H1 := Lib.hid h1; have K1 := Lib.hid k1; clear h1 k1
  go_wp2_with fail
  go_ret
  exact ⟨w1, rfl, H1.out, K1.out, rfl⟩

set_option maxHeartbeats 4000000 in
set_option maxRecDepth 100000 in
theorem queued_any (kind m : Int) (ok : OrdOk kind m) (ss : List Step) (hss : Small ss 1000 1000) (ad : Option Addr) (n' : Nat) (w : World) (hs : StepsAt w ad ss) :
    Calls Try.prog 43 #[.agg #[.int .i64 kind, .int .i64 m], .slice ad ss.length n'] w fun e w' => ∃ qb g cap, e = .returned (.tuple #[.pointer (some ⟨qb, 0, none⟩), .slice (some ⟨g, 0, none⟩) (runQ (ltK kind m) ss).2.length cap]) ∧
      QueuedPost w kind m (runQ (ltK kind m) ss) qb g cap w' := by
  obtain ⟨n, hn⟩ : ∃ n, ss.length = n := ⟨_, rfl⟩
  have hnb : n ≤ 1000 := by rw [← hn]; exact hss.1
  rw [hn]
  have HS := Lib.hid hs; have HN := Lib.hid hn; have HSS := Lib.hid hss
  clear hs hn hss
  have hby := by_any kind m
  go_enter Try.func43, Try.ntmps43
  go_wp2_with fail
  refine (hby _).mono ?_
  rintro e w1 ⟨rfl, rfl⟩
  go_wp2_with fail
  refine (queueNewWith_any _ _).mono ?_
  rintro e w2 ⟨w1, rfl, h2, k2, hw2⟩
  have start := queued_start kind m w (w.heap.size + 1) rfl w1 w1.heap.size (by simpa using h2) k2 rfl
  have hqq : (w.heap.size + 1 + 1 + 1 = w.heap.size + 3) := by omega
  have hw2' : w2 = w1.alloc (.cells #[.pointer (some ⟨w.heap.size + 3, 0, none⟩), fvOf (w.heap.size + 1)] 108) := by simpa using hw2
  rw [← hw2'] at start
  have hq2 : w2.heap.size = w1.heap.size + 1 := by rw [hw2']; simp
  rw [← hq2] at start
  generalize w1.heap.size = qb at *
  have H0 := Lib.hid start; clear start h2 k2 hw2 hw2' hqq
  go_wp2_with fail
  go_loopg [7, 18] (n + 1) (fun g s7 si wr => ∃ k gb cap kl : Nat, s7 = .slice (some ⟨gb, 0, none⟩) kl cap ∧ si = .int .i64 k ∧ k ≤ n ∧ n + 1 - k ≤ g ∧ Hid (kl = (runQ (ltK kind m) (ss.take k)).2.length ∧ QueuedPost w kind m (runQ (ltK kind m) (ss.take k)) qb gb cap wr))
  case atStart => exact ⟨0, _, 0, 0, rfl, rfl, by omega, by omega, ⟨rfl, (by rw [← hq2]; exact H0.out)⟩⟩
  case round =>
    obtain ⟨k, gb, cap, kl, rfl, rfl, hk, hg, HR⟩ := hrel
    by_cases hkn : k < n
    · have hkl : k < ss.length := by rw [HN.out]; exact hkn
      obtain ⟨sb, so, va, vn, had, ho0, hv0, hcs⟩ := HS.out k hkl
      have ho := cell_keptNo ho0 HR.out.2.keptw
      have hv := cell_keptNo hv0 HR.out.2.keptw
      clear ho0 hv0
      subst had
      have hstep := runQ_snoc (ltK kind m) ss k hkl
      have hsmall := size_runQ (ltK kind m) ss 1000 HSS.out.2 k (by omega)
      have hlen1 : (ss.getD k (0, [])).2.length ≤ 1000 := by
        rw [List.getD_eq_getElem?_getD, List.getElem?_eq_getElem hkl]
        exact HSS.out.2 _ (List.getElem_mem _)
      generalize hst : runQ (ltK kind m) (ss.take k) = st at hstep hsmall HR
      generalize ss.getD k (0, []) = s at ho hv hcs hstep hlen1
      obtain ⟨op, vals⟩ := s
      simp only at ho hv hcs hlen1
      have hsz1 : st.1.size ≤ 1000000 := by have := hsmall.1; omega
      have hsz2 : st.2.length ≤ 1000 := by have := hsmall.2; omega
      have hlt := cell_lt ho
      have k1 : Kept No wr (wr.alloc (.cells #[.int .i64 op, .slice va vals.length vn] 31)) := (Kept.refl No wr).alloc _
      have P1 := Lib.hid (HR.out.2.keptNo k1)
      have C1 := Lib.hid hcs
      have HST := Lib.hid hstep
      have HKL := HR.out.1
      clear hsmall hcs hstep k1 hst HR
      subst HKL
      by_cases o1 : op = 1
      · subst o1
        go_wp2_with fail
        go_loopg [29] (vals.length + 1) (fun g2 sj wj => ∃ j : Nat, sj = .int .i64 j ∧ j ≤ vals.length ∧ vals.length + 1 - j ≤ g2 ∧ Hid (QueuedPost w kind m ((vals.take j).foldl (push1 (ltK kind m)) st.1, st.2) qb gb cap wj))
        case atStart => exact ⟨0, rfl, by omega, by omega, P1.out⟩
        case round =>
          obtain ⟨j, rfl, hj, hg2, HJ⟩ := hrel
          by_cases hjn : j < vals.length
          · obtain ⟨x, hx⟩ : ∃ x, vals[j]? = some x := ⟨_, List.getElem?_eq_getElem hjn⟩
            obtain ⟨vb, vo, hva, hc⟩ := (C1.out.keptNo HJ.out.keptw) j (intV x) (by rw [List.getElem?_map, hx]; rfl)
            subst hva
            have hsz3 : ((vals.take j).foldl (push1 (ltK kind m)) st.1).size + 1 ≤ 1048576 := by rw [size_push1s, List.length_take]; omega
            have EQ := Lib.hid (HJ.out.enq ok x hsz3)
            have ES := Lib.hid (show (vals.take (j + 1)).foldl (push1 (ltK kind m)) st.1 = push1 (ltK kind m) ((vals.take j).foldl (push1 (ltK kind m)) st.1) x by
              rw [List.take_succ_eq_append_getElem hjn, List.foldl_append]
              rw [List.getElem?_eq_getElem hjn] at hx
              injection hx with hx
              rw [hx]; rfl)
            clear hx hsz3
            unfold box intV at *
            go_wp2_with fail
            refine EQ.out.mono ?_
            rintro e w4 ⟨rfl, hp⟩
            have P4 := Lib.hid hp; clear hp
            go_wp2_with fail
            go_roundg (vals.length + 1 - (j + 1))
            case measure => omega
            case rel =>
              refine ⟨j + 1, by go_num, by omega, by omega, ?_⟩
              show QueuedPost _ _ _ _ _ _ _ _
              rw [ES.out]
              exact P4.out
          · obtain rfl : j = vals.length := by omega
            have PJ := Lib.hid HJ.out
            rw [List.take_length] at PJ
            clear HJ
            go_wp2_with fail
            go_roundg (n + 1 - (k + 1))
            case measure => omega
            case rel =>
              refine ⟨k + 1, gb, cap, _, rfl, by go_num, by omega, by omega, ?_⟩
              show _ ∧ _
              rw [HST.out]
              exact ⟨by simp [stepQ], by simpa [stepQ] using PJ.out⟩
      · have o1' : (op == 1) = false := beq_eq_false_iff_ne.2 o1
        by_cases o2 : op = 2
        · subst o2
          by_cases hd0 : st.1.size = 0
          · have hd := hd0
            go_wp2_with fail
            refine (P1.out.deq_none hd).mono ?_
            rintro e w3 ⟨rfl, hw3⟩
            have P3 := Lib.hid (show QueuedPost _ _ _ _ _ _ _ w3 from hw3 ▸ P1.out); clear hw3
            go_wp2_with fail
            refine (got_no _).mono ?_
            rintro e w4 ⟨rfl, k4⟩
            obtain ⟨g', cap', w5, hr, hp5⟩ := (P3.out.keptNo k4).app (0) false (by simpa using (by omega : st.2.length ≤ 100000))
            have HA := Lib.hid hr; have P5 := Lib.hid hp5; clear hr hp5 k4
            go_wp2_with (at_builtin; refine wpList_append_run rfl (.tmp 40) (.tmp 46) 27 rfl _ _ _ rfl rfl HA.out ?_)
            go_roundg (n + 1 - (k + 1))
            case measure => omega
            case rel =>
              refine ⟨k + 1, g', cap', _, rfl, by go_num, by omega, by omega, ?_⟩
              show _ ∧ _
              rw [HST.out]
              have e : stepQ (ltK kind m) st (2, vals) = (st.1, st.2 ++ [(0, false)]) := by simp [stepQ, taken, seen, hd0]
              rw [e]
              exact ⟨by simp, P5.out⟩
          · have hd : 0 < st.1.size := by omega
            obtain ⟨x0, hx0⟩ : ∃ x, st.1[0]! = x := ⟨_, rfl⟩
            have hpp := P1.out.deq_some ok hd (by omega)
            have EE := Lib.hid (show stepQ (ltK kind m) st (2, vals) = (popped (ltK kind m) st.1, st.2 ++ [(x0, true)]) by rw [← hx0]; simp [stepQ, taken, seen, hd0])
            rw [hx0] at hpp
            have HPP := Lib.hid hpp; clear hpp hx0
            go_wp2_with fail
            refine HPP.out.mono ?_
            rintro e w3 ⟨rfl, hp⟩
            have P3 := Lib.hid hp; clear hp
            go_wp2_with fail
            refine (got_yes _ _).mono ?_
            rintro e w4 ⟨rfl, k4⟩
            obtain ⟨g', cap', w5, hr, hp5⟩ := (P3.out.keptNo k4).app x0 true (by simpa using (by omega : st.2.length ≤ 100000))
            have HA := Lib.hid hr; have P5 := Lib.hid hp5; clear hr hp5 k4
            go_wp2_with (at_builtin; refine wpList_append_run rfl (.tmp 40) (.tmp 46) 27 rfl _ _ _ rfl rfl HA.out ?_)
            go_roundg (n + 1 - (k + 1))
            case measure => omega
            case rel =>
              refine ⟨k + 1, g', cap', _, rfl, by go_num, by omega, by omega, ?_⟩
              show _ ∧ _
              rw [HST.out]
              have e := EE.out
              rw [e]
              exact ⟨by simp, P5.out⟩
        · have o2' : (op == 2) = false := beq_eq_false_iff_ne.2 o2
          by_cases o3 : op = 3
          · subst o3
            by_cases hd0 : st.1.size = 0
            · have hd := hd0
              go_wp2_with fail
              refine (P1.out.peek_none hd).mono ?_
              rintro e w3 ⟨rfl, hw3⟩
              have P3 := Lib.hid (show QueuedPost _ _ _ _ _ _ _ w3 from hw3 ▸ P1.out); clear hw3
              go_wp2_with fail
              refine (got_no _).mono ?_
              rintro e w4 ⟨rfl, k4⟩
              obtain ⟨g', cap', w5, hr, hp5⟩ := (P3.out.keptNo k4).app (0) false (by simpa using (by omega : st.2.length ≤ 100000))
              have HA := Lib.hid hr; have P5 := Lib.hid hp5; clear hr hp5 k4
              go_wp2_with (at_builtin; refine wpList_append_run rfl (.tmp 50) (.tmp 56) 27 rfl _ _ _ rfl rfl HA.out ?_)
              go_roundg (n + 1 - (k + 1))
              case measure => omega
              case rel =>
                refine ⟨k + 1, g', cap', _, rfl, by go_num, by omega, by omega, ?_⟩
                show _ ∧ _
                rw [HST.out]
                have e : stepQ (ltK kind m) st (3, vals) = (st.1, st.2 ++ [(0, false)]) := by simp [stepQ, seen, hd0]
                rw [e]
                exact ⟨by simp, P5.out⟩
            · have hd : 0 < st.1.size := by omega
              obtain ⟨x0, hx0⟩ : ∃ x, st.1[0]! = x := ⟨_, rfl⟩
              have hpp := P1.out.peek_some hd
              have EE := Lib.hid (show stepQ (ltK kind m) st (3, vals) = (st.1, st.2 ++ [(x0, true)]) by rw [← hx0]; simp [stepQ, seen, hd0])
              rw [hx0] at hpp
              have HPP := Lib.hid hpp; clear hpp hx0
              go_wp2_with fail
              refine HPP.out.mono ?_
              rintro e w3 ⟨rfl, hw3⟩
              have P3 := Lib.hid (show QueuedPost _ _ _ _ _ _ _ w3 from hw3 ▸ P1.out); clear hw3
              go_wp2_with fail
              refine (got_yes _ _).mono ?_
              rintro e w4 ⟨rfl, k4⟩
              obtain ⟨g', cap', w5, hr, hp5⟩ := (P3.out.keptNo k4).app x0 true (by simpa using (by omega : st.2.length ≤ 100000))
              have HA := Lib.hid hr; have P5 := Lib.hid hp5; clear hr hp5 k4
              go_wp2_with (at_builtin; refine wpList_append_run rfl (.tmp 50) (.tmp 56) 27 rfl _ _ _ rfl rfl HA.out ?_)
              go_roundg (n + 1 - (k + 1))
              case measure => omega
              case rel =>
                refine ⟨k + 1, g', cap', _, rfl, by go_num, by omega, by omega, ?_⟩
                show _ ∧ _
                rw [HST.out]
                have e := EE.out
                rw [e]
                exact ⟨by simp, P5.out⟩
          · have o3' : (op == 3) = false := beq_eq_false_iff_ne.2 o3
            by_cases o4 : op = 4
            · subst o4
              go_wp2_with fail
              refine P1.out.clear.mono ?_
              rintro e w4 ⟨rfl, hp⟩
              have P4 := Lib.hid hp; clear hp
              go_wp2_with fail
              go_roundg (n + 1 - (k + 1))
              case measure => omega
              case rel =>
                refine ⟨k + 1, gb, cap, _, rfl, by go_num, by omega, by omega, ?_⟩
                show _ ∧ _
                rw [HST.out]
                exact ⟨by simp [stepQ], by simpa [stepQ] using P4.out⟩
            · have o4' : (op == 4) = false := beq_eq_false_iff_ne.2 o4
              go_wp2_with fail
              go_roundg (n + 1 - (k + 1))
              case measure => omega
              case rel =>
                refine ⟨k + 1, gb, cap, _, rfl, by go_num, by omega, by omega, ?_⟩
                show _ ∧ _
                rw [HST.out]
                exact ⟨by simp [stepQ, o1, o2, o3, o4], by simpa [stepQ, o1, o2, o3, o4] using P1.out⟩
    · obtain rfl : k = n := by omega
      go_wp2_with fail
      go_ret2
      obtain ⟨h1, h2⟩ := HR.out
      rw [List.take_of_length_le (by rw [HN.out]; omega)] at h1 h2
      subst h1
      exact ⟨_, gb, cap, rfl, h2⟩

end Go.Nl
