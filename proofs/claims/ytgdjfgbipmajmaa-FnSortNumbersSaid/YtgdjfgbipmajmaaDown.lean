/- The heap's bubbling down: what it leaves. -/
import Derived.Test.YtgdjfgbipmajmaaUp
namespace Go.Nl
open Go.RowKit Go.Sort Go.Proofs

theorem sd_stop (lt : Int → Int → Bool) (n i : Nat) (d : Array Int) (h : ¬ 2 * i + 1 < n) : siftDown (flp lt) n 0 i d = d := by
  rw [siftDown, dif_pos (by omega)]

theorem sd_right (lt : Int → Int → Bool) (n i : Nat) (d : Array Int) (h : 2 * i + 2 < n) (hr : lt d[2 * i + 2]! d[2 * i + 1]! = true) :
    siftDown (flp lt) n 0 i d = if lt d[2 * i + 2]! d[i]! = true then siftDown (flp lt) n 0 (2 * i + 2) (swp d i (2 * i + 2)) else d := by
  rw [siftDown, dif_neg (by omega)]
  simp only [Nat.zero_add, show 2 * i + 1 + 1 = 2 * i + 2 by omega]
  rw [if_pos (by unfold flp; rw [hr]; simp; omega)]
  unfold flp
  by_cases hl : lt d[2 * i + 2]! d[i]! = true
  · rw [if_pos hl, hl]
    simp only [Bool.not_true, Bool.false_eq_true, if_false]
    rw [dif_pos h]
  · rw [if_neg hl]
    simp only [Bool.not_eq_true] at hl
    rw [hl]
    simp

theorem sd_left (lt : Int → Int → Bool) (n i : Nat) (d : Array Int) (h : 2 * i + 1 < n) (hr : 2 * i + 2 < n → ¬ lt d[2 * i + 2]! d[2 * i + 1]! = true) :
    siftDown (flp lt) n 0 i d = if lt d[2 * i + 1]! d[i]! = true then siftDown (flp lt) n 0 (2 * i + 1) (swp d i (2 * i + 1)) else d := by
  rw [siftDown, dif_neg (by omega)]
  simp only [Nat.zero_add, show 2 * i + 1 + 1 = 2 * i + 2 by omega]
  rw [if_neg (by
    unfold flp
    intro hh
    simp only [Bool.and_eq_true, decide_eq_true_eq] at hh
    exact hr hh.1 hh.2)]
  unfold flp
  by_cases hl : lt d[2 * i + 1]! d[i]! = true
  · rw [if_pos hl, hl]
    simp
  · rw [if_neg hl]
    simp only [Bool.not_eq_true] at hl
    rw [hl]
    simp

theorem get_at {lb : Nat} {ao : Option Nat} {c : Nat} {d : Array Int} (j : Nat) (i : Int) (x : Int) (w : World) (h : ListAt w lb ao c d) (hij : (j : Int) = i) (hn : j < d.size) (hx : d[j]! = x) :
    Calls Try.prog 79 #[.pointer (some ⟨lb, 0, none⟩), .int .i64 i] w fun e w' => e = .returned (.tuple #[box x, .bool true]) ∧ w = w' := by
  subst hij
  exact get_nat j x w h hn hx

theorem swap_at {lb eb c : Nat} {d : Array Int} (i j : Nat) (jj : Int) (w : World) (h : ListAt w lb (some eb) c d) (hj' : (j : Int) = jj) (hi : i < d.size) (hj : j < d.size) :
    Calls Try.prog 80 #[.pointer (some ⟨lb, 0, none⟩), .int .i64 i, .int .i64 jj] w fun e w' => e = .returned (.tuple #[]) ∧ ListAt w' lb (some eb) c (swp d i j) ∧ Kept (fun k => k = eb) w w' := by
  subst hj'
  exact swap_any i j w h hi hj

/-- Where there is no left child nothing is done. -/
theorem bubbleDown_idle {w : World} {hb lb : Nat} {ao : Option Nat} {c ob : Nat} {kind m : Int} {d : Array Int} (h : HO w hb lb ao c ob kind m d) (i : Nat) (hi : i ≤ 4194304) (hn : ¬ 2 * i + 1 < d.size) :
    Calls Try.prog 78 #[.pointer (some ⟨hb, 0, none⟩), .int .i64 i] w fun e w' => e = .returned (.tuple #[]) ∧ w = w' := by
  have hc0 := h.c0
  have hsz := h.heap.list.sizeCell
  have hs := size_any lb _ w hsz
  have hin : ¬ (i : Int) * 2 + 1 < (d.size : Int) := by omega
  generalize (d.size : Int) = n at *
  have Hs := Lib.hid hs; clear h hsz hs hn
  go_enter Try.func78, Try.ntmps78
  go_wp2_with fail
  refine Hs.out.mono ?_
  rintro e w' ⟨rfl, rfl⟩
  go_wp2_with fail
  go_loop [1, 5] (fun si sl => si = .int .i64 i ∧ sl = .int .i64 ((i : Int) * 2 + 1)) (fun _ _ => 0)
  case atStart => exact ⟨rfl, rfl⟩
  case round =>
    obtain ⟨rfl, rfl⟩ := hrel
    go_wp2_with fail
    go_end0
    exact ⟨rfl, rfl⟩

set_option maxHeartbeats 4000000 in
set_option maxRecDepth 100000 in
theorem bubbleDown_any {w : World} {hb lb eb c ob : Nat} {kind m : Int} {d : Array Int} (h : HO w hb lb (some eb) c ob kind m d) (ok : OrdOk kind m) (i : Nat) (hi : i ≤ 4194304) :
    Calls Try.prog 78 #[.pointer (some ⟨hb, 0, none⟩), .int .i64 i] w fun e w' => e = .returned (.tuple #[]) ∧
      HO w' hb lb (some eb) c ob kind m (siftDown (flp (ltK kind m)) d.size 0 i d) ∧ Kept (fun k => k = eb) w w' := by
  have hc0 := h.c0
  have hsz := h.heap.list.sizeCell
  have hle := h.heap.list.le
  have hsm := h.heap.list.small
  obtain ⟨n, hn⟩ : ∃ n, d.size = n := ⟨_, rfl⟩
  rw [hn] at hsz ⊢
  have hs := size_any lb _ w hsz
  have hnb : n ≤ 4194304 := by omega
  have Hh := Lib.hid h; have Hn := Lib.hid hn; have Hs := Lib.hid hs; clear h hsz hn hle hsm hs
  go_enter Try.func78, Try.ntmps78
  go_wp2_with fail
  refine Hs.out.mono ?_
  rintro e w' ⟨rfl, rfl⟩
  go_wp2_with fail
  go_loopg [1, 5] 8388611 (fun g si sl wr => ∃ (k : Nat) (dk : Array Int), si = .int .i64 k ∧ sl = .int .i64 ((k : Int) * 2 + 1) ∧ k ≤ 8388610 ∧ 8388611 - k ≤ g ∧ Hid (dk.size = n) ∧
    Hid (siftDown (flp (ltK kind m)) n 0 i d = siftDown (flp (ltK kind m)) n 0 k dk) ∧ HO wr hb lb (some eb) c ob kind m dk ∧ Kept (fun k => k = eb) w wr)
  case atStart => exact ⟨i, d, rfl, rfl, by omega, by omega, Hn.out, rfl, Hh.out, Kept.refl _ _⟩
  case round =>
    obtain ⟨k, dk, rfl, rfl, hk, hg, hds, HE, hh, hkp⟩ := hrel
    have H1 := Lib.hid hh; have H2 := Lib.hid hkp; clear hh hkp
    have hc0' := H1.out.c0
    have hc1' := H1.out.c1
    by_cases c1 : 2 * k + 1 < n
    · have c1' : (k : Int) * 2 + 1 < (n : Int) := by omega
      have hk2 : k ≤ 4194304 := by omega
      obtain ⟨xk, hxk⟩ : ∃ x, dk[k]! = x := ⟨_, rfl⟩
      obtain ⟨xl, hxl⟩ : ∃ x, dk[2 * k + 1]! = x := ⟨_, rfl⟩
      obtain ⟨xr, hxr⟩ : ∃ x, dk[2 * k + 2]! = x := ⟨_, rfl⟩
      have XK := Lib.hid hxk; have XL := Lib.hid hxl; have XR := Lib.hid hxr
      have GL := Lib.hid (get_at (2 * k + 1) ((k : Int) * 2 + 1) xl wr H1.out.heap.list (by omega) (by rw [hds.out]; omega) hxl)
      have GK := Lib.hid (fun q => get_nat k xk (wr.drewN q) (H1.out.drewN q).heap.list (by rw [hds.out]; omega) hxk)
      have GL2 := Lib.hid (fun q => get_at (2 * k + 1) ((k : Int) * 2 + 1) xl (wr.drewN q) (H1.out.drewN q).heap.list (by omega) (by rw [hds.out]; omega) hxl)
      clear hxk hxl
      by_cases c2 : 2 * k + 2 < n
      · have c2' : (k : Int) * 2 + 2 < (n : Int) := by omega
        have GR := Lib.hid (get_at (2 * k + 2) ((k : Int) * 2 + 2) xr wr H1.out.heap.list (by omega) (by rw [hds.out]; omega) hxr)
        have GR2 := Lib.hid (fun q => get_at (2 * k + 2) ((k : Int) * 2 + 2) xr (wr.drewN q) (H1.out.drewN q).heap.list (by omega) (by rw [hds.out]; omega) hxr)
        clear hxr
        obtain ⟨cv, hcv⟩ : ∃ v, cmpV kind m xl xr = v := ⟨_, rfl⟩
        have CLR := Lib.hid (hcv ▸ cmp_any kind m xl xr ob wr H1.out.ord ok)
        have CP := Lib.hid (hcv ▸ cmpV_pos kind m xl xr)
        clear hcv
        by_cases hrl : ltK kind m xr xl = true
        · have HRL := Lib.hid hrl
          have hcp : 0 < cv := CP.out.2 hrl
          clear hrl
          obtain ⟨cw, hcw⟩ : ∃ v, cmpV kind m xk xr = v := ⟨_, rfl⟩
          have CKR := Lib.hid (fun q => hcw ▸ cmp_any kind m xk xr ob (wr.drewN q) (H1.out.drewN q).ord ok)
          have CQ := Lib.hid (hcw ▸ cmpV_pos kind m xk xr)
          clear hcw
          have SW := Lib.hid (fun q => swap_at k (2 * k + 2) ((k : Int) * 2 + 2) (wr.drewN q) (H1.out.drewN q).heap.list (by omega) (by rw [hds.out]; omega) (by rw [hds.out]; omega))
          by_cases hks : ltK kind m xr xk = true
          · have HKS := Lib.hid hks
            have hcq : 0 < cw := CQ.out.2 hks
            clear hks
            go_wp2_with fail
            refine GL.out.mono ?_
            rintro e w' ⟨rfl, rfl⟩
            go_wp2_with fail
            refine GR.out.mono ?_
            rintro e w' ⟨rfl, rfl⟩
            go_wp2_with fail
            refine CLR.out.mono ?_
            rintro e w' ⟨rfl, q1, rfl⟩
            go_wp2_with fail
            refine (GK.out q1).mono ?_
            rintro e w' ⟨rfl, rfl⟩
            go_wp2_with fail
            refine (GR2.out q1).mono ?_
            rintro e w' ⟨rfl, rfl⟩
            go_wp2_with fail
            refine (CKR.out q1).mono ?_
            rintro e w' ⟨rfl, q2, rfl⟩
            go_wp2_with fail
            refine (SW.out (q1 + q2)).mono ?_
            rintro e w' ⟨rfl, hl2, hk2⟩
            have K1 := Lib.hid hl2; have K2 := Lib.hid hk2; clear hl2 hk2
            go_wp2_with fail
            go_roundg (8388611 - (2 * k + 2))
            case measure => omega
            case rel =>
              refine ⟨(2 * k + 2), swp dk k (2 * k + 2), by go_num, by go_num, by omega, Nat.le_refl _, ?_, ?_, ?_, ?_⟩
              · show (swp dk k (2 * k + 2)).size = n
                rw [size_swp]; exact hds.out
              · show _ = _
                rw [HE.out, sd_right (ltK kind m) n k dk (by omega) (by rw [XR.out, XL.out]; exact HRL.out), XR.out, XK.out, if_pos HKS.out]
              · exact (H1.out.drewN (q1 + q2)).list K1.out (K2.out.mono (fun i _ h => Or.inr (by rw [h]))) (Or.inl rfl)
              · exact (H2.out.drewN (q1 + q2)).trans K2.out (fun i _ h => h)
          · have HKS := Lib.hid hks
            have hcq : ¬ 0 < cw := fun h => hks (CQ.out.1 h)
            clear hks
            go_wp2_with fail
            refine GL.out.mono ?_
            rintro e w' ⟨rfl, rfl⟩
            go_wp2_with fail
            refine GR.out.mono ?_
            rintro e w' ⟨rfl, rfl⟩
            go_wp2_with fail
            refine CLR.out.mono ?_
            rintro e w' ⟨rfl, q1, rfl⟩
            go_wp2_with fail
            refine (GK.out q1).mono ?_
            rintro e w' ⟨rfl, rfl⟩
            go_wp2_with fail
            refine (GR2.out q1).mono ?_
            rintro e w' ⟨rfl, rfl⟩
            go_wp2_with fail
            refine (CKR.out q1).mono ?_
            rintro e w' ⟨rfl, q2, rfl⟩
            go_wp2_with fail
            go_end0
            refine ⟨rfl, ?_, H2.out.drewN (q1 + q2)⟩
            rw [HE.out, sd_right (ltK kind m) n k dk (by omega) (by rw [XR.out, XL.out]; exact HRL.out), XR.out, XK.out, if_neg HKS.out]
            exact H1.out.drewN (q1 + q2)
        · have HRL := Lib.hid hrl
          have hcp : ¬ 0 < cv := fun h => hrl (CP.out.1 h)
          clear hrl
          obtain ⟨cw, hcw⟩ : ∃ v, cmpV kind m xk xl = v := ⟨_, rfl⟩
          have CKL := Lib.hid (fun q => hcw ▸ cmp_any kind m xk xl ob (wr.drewN q) (H1.out.drewN q).ord ok)
          have CQ := Lib.hid (hcw ▸ cmpV_pos kind m xk xl)
          clear hcw
          have SW := Lib.hid (fun q => swap_at k (2 * k + 1) ((k : Int) * 2 + 1) (wr.drewN q) (H1.out.drewN q).heap.list (by omega) (by rw [hds.out]; omega) (by rw [hds.out]; omega))
          by_cases hks : ltK kind m xl xk = true
          · have HKS := Lib.hid hks
            have hcq : 0 < cw := CQ.out.2 hks
            clear hks
            go_wp2_with fail
            refine GL.out.mono ?_
            rintro e w' ⟨rfl, rfl⟩
            go_wp2_with fail
            refine GR.out.mono ?_
            rintro e w' ⟨rfl, rfl⟩
            go_wp2_with fail
            refine CLR.out.mono ?_
            rintro e w' ⟨rfl, q1, rfl⟩
            go_wp2_with fail
            refine (GK.out q1).mono ?_
            rintro e w' ⟨rfl, rfl⟩
            go_wp2_with fail
            refine (GL2.out q1).mono ?_
            rintro e w' ⟨rfl, rfl⟩
            go_wp2_with fail
            refine (CKL.out q1).mono ?_
            rintro e w' ⟨rfl, q2, rfl⟩
            go_wp2_with fail
            refine (SW.out (q1 + q2)).mono ?_
            rintro e w' ⟨rfl, hl2, hk2⟩
            have K1 := Lib.hid hl2; have K2 := Lib.hid hk2; clear hl2 hk2
            go_wp2_with fail
            go_roundg (8388611 - (2 * k + 1))
            case measure => omega
            case rel =>
              refine ⟨(2 * k + 1), swp dk k (2 * k + 1), by go_num, by go_num, by omega, Nat.le_refl _, ?_, ?_, ?_, ?_⟩
              · show (swp dk k (2 * k + 1)).size = n
                rw [size_swp]; exact hds.out
              · show _ = _
                rw [HE.out, sd_left (ltK kind m) n k dk (by omega) (fun _ => by rw [XR.out, XL.out]; exact HRL.out), XL.out, XK.out, if_pos HKS.out]
              · exact (H1.out.drewN (q1 + q2)).list K1.out (K2.out.mono (fun i _ h => Or.inr (by rw [h]))) (Or.inl rfl)
              · exact (H2.out.drewN (q1 + q2)).trans K2.out (fun i _ h => h)
          · have HKS := Lib.hid hks
            have hcq : ¬ 0 < cw := fun h => hks (CQ.out.1 h)
            clear hks
            go_wp2_with fail
            refine GL.out.mono ?_
            rintro e w' ⟨rfl, rfl⟩
            go_wp2_with fail
            refine GR.out.mono ?_
            rintro e w' ⟨rfl, rfl⟩
            go_wp2_with fail
            refine CLR.out.mono ?_
            rintro e w' ⟨rfl, q1, rfl⟩
            go_wp2_with fail
            refine (GK.out q1).mono ?_
            rintro e w' ⟨rfl, rfl⟩
            go_wp2_with fail
            refine (GL2.out q1).mono ?_
            rintro e w' ⟨rfl, rfl⟩
            go_wp2_with fail
            refine (CKL.out q1).mono ?_
            rintro e w' ⟨rfl, q2, rfl⟩
            go_wp2_with fail
            go_end0
            refine ⟨rfl, ?_, H2.out.drewN (q1 + q2)⟩
            rw [HE.out, sd_left (ltK kind m) n k dk (by omega) (fun _ => by rw [XR.out, XL.out]; exact HRL.out), XL.out, XK.out, if_neg HKS.out]
            exact H1.out.drewN (q1 + q2)
      · have c2' : decide ((k : Int) * 2 + 2 < (n : Int)) = false := decide_eq_false (by omega)
        have GR := Lib.hid (get_no ((k : Int) * 2 + 2) wr H1.out.heap.list (Or.inr (by rw [hds.out]; omega)))
        clear hxr
        obtain ⟨cw, hcw⟩ : ∃ v, cmpV kind m xk xl = v := ⟨_, rfl⟩
        have CKL := Lib.hid (fun q => hcw ▸ cmp_any kind m xk xl ob (wr.drewN q) (H1.out.drewN q).ord ok)
        have CQ := Lib.hid (hcw ▸ cmpV_pos kind m xk xl)
        clear hcw
        have SW := Lib.hid (fun q => swap_at k (2 * k + 1) ((k : Int) * 2 + 1) (wr.drewN q) (H1.out.drewN q).heap.list (by omega) (by rw [hds.out]; omega) (by rw [hds.out]; omega))
        by_cases hks : ltK kind m xl xk = true
        · have HKS := Lib.hid hks
          have hcq : 0 < cw := CQ.out.2 hks
          clear hks
          go_wp2_with fail
          refine GL.out.mono ?_
          rintro e w' ⟨rfl, rfl⟩
          go_wp2_with fail
          refine GR.out.mono ?_
          rintro e w' ⟨rfl, rfl⟩
          go_wp2_with fail
          refine (GK.out 0).mono ?_
          rintro e w' ⟨rfl, rfl⟩
          go_wp2_with fail
          refine (GL2.out 0).mono ?_
          rintro e w' ⟨rfl, rfl⟩
          go_wp2_with fail
          refine (CKL.out 0).mono ?_
          rintro e w' ⟨rfl, q2, rfl⟩
          go_wp2_with fail
          refine (SW.out (q2)).mono ?_
          rintro e w' ⟨rfl, hl2, hk2⟩
          have K1 := Lib.hid hl2; have K2 := Lib.hid hk2; clear hl2 hk2
          go_wp2_with fail
          go_roundg (8388611 - (2 * k + 1))
          case measure => omega
          case rel =>
            refine ⟨(2 * k + 1), swp dk k (2 * k + 1), by go_num, by go_num, by omega, Nat.le_refl _, ?_, ?_, ?_, ?_⟩
            · show (swp dk k (2 * k + 1)).size = n
              rw [size_swp]; exact hds.out
            · show _ = _
              rw [HE.out, sd_left (ltK kind m) n k dk (by omega) (fun h => by omega), XL.out, XK.out, if_pos HKS.out]
            · exact (H1.out.drewN (q2)).list K1.out (K2.out.mono (fun i _ h => Or.inr (by rw [h]))) (Or.inl rfl)
            · exact (H2.out.drewN (q2)).trans K2.out (fun i _ h => h)
        · have HKS := Lib.hid hks
          have hcq : ¬ 0 < cw := fun h => hks (CQ.out.1 h)
          clear hks
          go_wp2_with fail
          refine GL.out.mono ?_
          rintro e w' ⟨rfl, rfl⟩
          go_wp2_with fail
          refine GR.out.mono ?_
          rintro e w' ⟨rfl, rfl⟩
          go_wp2_with fail
          refine (GK.out 0).mono ?_
          rintro e w' ⟨rfl, rfl⟩
          go_wp2_with fail
          refine (GL2.out 0).mono ?_
          rintro e w' ⟨rfl, rfl⟩
          go_wp2_with fail
          refine (CKL.out 0).mono ?_
          rintro e w' ⟨rfl, q2, rfl⟩
          go_wp2_with fail
          go_end0
          refine ⟨rfl, ?_, H2.out.drewN (q2)⟩
          rw [HE.out, sd_left (ltK kind m) n k dk (by omega) (fun h => by omega), XL.out, XK.out, if_neg HKS.out]
          exact H1.out.drewN (q2)
    · have c1' : ¬ (k : Int) * 2 + 1 < (n : Int) := by omega
      go_wp2_with fail
      go_end0
      refine ⟨rfl, ?_, H2.out⟩
      rw [HE.out, sd_stop _ _ _ _ c1]
      exact H1.out

end Go.Nl
