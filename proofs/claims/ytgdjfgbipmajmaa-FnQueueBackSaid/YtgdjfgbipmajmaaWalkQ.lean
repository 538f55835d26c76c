/- What walked makes of a queue's iterator. -/
import Derived.Test.YtgdjfgbipmajmaaHeapWalk
namespace Go.Nl
open Go.RowKit Go.Sort Go.Proofs

section
variable {w : World} {hb lb : Nat} {ao : Option Nat} {c ob : Nat} {kind m : Int} {d : Array Int}

theorem qnextM_any {ib : Nat} {i : Int} (h : HO w hb lb ao c ob kind m d) (hi : IterAt w ib hb i) (h1 : -1 ≤ i) (h2 : i ≤ d.size) (hd : d.size ≤ 4194304) (hn1 : ib ≠ hb) (hn2 : ib ≠ ob) (hn3 : ¬ own lb ao ib) :
    Calls Try.prog 155 #[.pointer (some ⟨ib, 0, none⟩)] w (Moved1 w ib hb (moveTo d.size i 1) (decide (0 ≤ moveTo d.size i 1 ∧ moveTo d.size i 1 < d.size))) := by
  have hc := nextM_any h hi h1 h2 hd hn1 hn2 hn3
  have i0 := hi.i0
  generalize moveTo d.size i 1 = j at *
  generalize decide (0 ≤ j ∧ j < d.size) = b at *
  have HC := Lib.hid hc; clear hc h hi
  go_enter Try.func155, Try.ntmps155
  go_wp2_with fail
  refine HC.out.mono ?_
  rintro e w1 ⟨rfl, hi1, k1⟩
  have HI := Lib.hid hi1; have HK := Lib.hid k1; clear hi1 k1
  go_wp2_with fail
  go_ret
  exact ⟨rfl, HI.out, HK.out⟩

theorem qprevM_any {ib : Nat} {i : Int} (h : HO w hb lb ao c ob kind m d) (hi : IterAt w ib hb i) (h1 : -1 ≤ i) (h2 : i ≤ d.size) (hd : d.size ≤ 4194304) (hn1 : ib ≠ hb) (hn2 : ib ≠ ob) (hn3 : ¬ own lb ao ib) :
    Calls Try.prog 157 #[.pointer (some ⟨ib, 0, none⟩)] w (Moved1 w ib hb (moveTo d.size i 2) (decide (0 ≤ moveTo d.size i 2 ∧ moveTo d.size i 2 < d.size))) := by
  have hc := prevM_any h hi h1 h2 hd hn1 hn2 hn3
  have i0 := hi.i0
  generalize moveTo d.size i 2 = j at *
  generalize decide (0 ≤ j ∧ j < d.size) = b at *
  have HC := Lib.hid hc; clear hc h hi
  go_enter Try.func157, Try.ntmps157
  go_wp2_with fail
  refine HC.out.mono ?_
  rintro e w1 ⟨rfl, hi1, k1⟩
  have HI := Lib.hid hi1; have HK := Lib.hid k1; clear hi1 k1
  go_wp2_with fail
  go_ret
  exact ⟨rfl, HI.out, HK.out⟩

theorem qendM_any {ib : Nat} {i : Int} (h : HO w hb lb ao c ob kind m d) (hi : IterAt w ib hb i) :
    Calls Try.prog 151 #[.pointer (some ⟨ib, 0, none⟩)] w fun e w' => e = .returned (.tuple #[]) ∧ IterAt w' ib hb (d.size : Int) ∧ Kept (fun k => k = ib) w w' := by
  have hc := endM_any h hi
  have i0 := hi.i0
  have HC := Lib.hid hc; clear hc h hi
  go_enter Try.func151, Try.ntmps151
  go_wp2_with fail
  refine HC.out.mono ?_
  rintro e w1 ⟨rfl, hi1, k1⟩
  have HI := Lib.hid hi1; have HK := Lib.hid k1; clear hi1 k1
  go_wp2_with fail
  go_end0
  exact ⟨rfl, HI.out, HK.out⟩

theorem qindex_any {ib : Nat} {i : Int} (hi : IterAt w ib hb i) : Calls Try.prog 153 #[.pointer (some ⟨ib, 0, none⟩)] w fun e w' => e = .returned (.int .i64 i) ∧ w = w' := by
  have hc := iterIndex_any hi
  have i0 := hi.i0
  have HC := Lib.hid hc; clear hc hi
  go_enter Try.func153, Try.ntmps153
  go_wp2_with fail
  refine HC.out.mono ?_
  rintro e w1 ⟨rfl, rfl⟩
  go_wp2_with fail
  go_ret
  exact ⟨rfl, rfl⟩

theorem qvalue_any {ib k : Nat} (h : HO w hb lb ao c ob kind m d) (hi : IterAt w ib hb (k : Int)) (ok : OrdOk kind m) (hk : k < d.size) (hd : d.size ≤ 1000000) :
    Calls Try.prog 159 #[.pointer (some ⟨ib, 0, none⟩)] w fun e w' => e = .returned (box (valueAt (ltK kind m) d k)) ∧ Kept No w w' := by
  have hc := value_any h hi ok hk hd
  have i0 := hi.i0
  generalize valueAt (ltK kind m) d k = v at *
  have HC := Lib.hid hc; clear hc h hi
  unfold box at *
  go_enter Try.func159, Try.ntmps159
  go_wp2_with fail
  refine HC.out.mono ?_
  rintro e w1 ⟨rfl, k1⟩
  have HK := Lib.hid k1; clear k1
  go_wp2_with fail
  go_ret
  exact ⟨rfl, HK.out⟩
end

set_option maxHeartbeats 8000000 in
set_option maxRecDepth 100000 in
theorem walkedQueue_any {w : World} {hb lb : Nat} {ao : Option Nat} {c ob : Nat} {kind m : Int} {d : Array Int} {ib : Nat} (h : HO w hb lb ao c ob kind m d) (hi : IterAt w ib hb (-1)) (ok : OrdOk kind m) (hd : d.size ≤ 1000000)
    (hn1 : ib ≠ hb) (hn2 : ib ≠ ob) (hn3 : ¬ own lb ao ib) (ops : List Int) (hop : ∀ op ∈ ops, op = 1 ∨ op = 2 ∨ op = 6) (hol : ops.length ≤ 100000) (ad : Option Addr) (n' : Nat) (hm : MovesAt w ad ops) (hmi : ∀ a, ad = some a → a.block ≠ ib) :
    Calls Try.prog 55 #[.iface 85 (.pointer (some ⟨ib, 0, none⟩)), .slice ad ops.length n'] w (WalkPost w ib (walkP (ltK kind m) d ops).2) := by
  have m1 : ∀ w, (method 266 85 (.pointer (some ⟨ib, 0, none⟩)) "Next").run Try.prog w = .ok (155, .pointer (some ⟨ib, 0, none⟩)) w := fun _ => by kernel_rfl
  have m2 : ∀ w, (method 266 85 (.pointer (some ⟨ib, 0, none⟩)) "Prev").run Try.prog w = .ok (157, .pointer (some ⟨ib, 0, none⟩)) w := fun _ => by kernel_rfl
  have m3 : ∀ w, (method 266 85 (.pointer (some ⟨ib, 0, none⟩)) "End").run Try.prog w = .ok (151, .pointer (some ⟨ib, 0, none⟩)) w := fun _ => by kernel_rfl
  have m4 : ∀ w, (method 266 85 (.pointer (some ⟨ib, 0, none⟩)) "Index").run Try.prog w = .ok (153, .pointer (some ⟨ib, 0, none⟩)) w := fun _ => by kernel_rfl
  have m5 : ∀ w, (method 266 85 (.pointer (some ⟨ib, 0, none⟩)) "Value").run Try.prog w = .ok (159, .pointer (some ⟨ib, 0, none⟩)) w := fun _ => by kernel_rfl
  have ta := assert_int
  obtain ⟨n, hn⟩ : ∃ n, ops.length = n := ⟨_, rfl⟩
  have hib := hi.lt
  have hstart : WalkedAt w hb ib (-1) [] w.heap.size 0 (w.alloc (.cells #[] 55)) :=
    ⟨hi.keptI (S := No) ((Kept.refl No w).alloc _) (fun h => h), RowAt.new w #[] 55 3 0 rfl, (Kept.refl _ w).alloc _, Nat.le_refl _⟩
  rw [hn] at hol ⊢
  have HH := Lib.hid (fun X (k : Kept (fun b => b = ib) w X) => h.kept k (fun j hj e => hn3 (by subst e; exact hj)) (fun e => hn1 e.symm) (fun e => hn2 e.symm))
  have HM := Lib.hid hm; have HMI := Lib.hid hmi; have HN := Lib.hid hn; have HS := Lib.hid hstart; have HOP := Lib.hid hop
  clear h hi hm hmi hn hstart hop
  go_enter Try.func55, Try.ntmps55
  go_wp2_with fail
  go_loopg [5, 7, 8, 9, 13] (n + 1) (fun gg s5 s7 s8 s9 si wr => ∃ k g cap kl : Nat, s5 = .slice (some ⟨g, 0, none⟩) kl cap ∧ si = .int .i64 k ∧ k ≤ n ∧ n + 1 - k ≤ gg ∧
    Hid (kl = (walkP (ltK kind m) d (ops.take k)).2.length ∧ WalkedAt w hb ib (walkP (ltK kind m) d (ops.take k)).1 (walkP (ltK kind m) d (ops.take k)).2 g cap wr))
  case atStart => exact ⟨0, w.heap.size, 0, 0, rfl, rfl, by omega, by omega, (show _ ∧ _ from ⟨rfl, HS.out⟩)⟩
  case round =>
    obtain ⟨k, g, cap, kl, rfl, rfl, hk, hg, HL⟩ := hrel
    by_cases hkn : k < n
    · have hkl : k < ops.length := by rw [HN.out]; exact hkn
      obtain ⟨sb, so, had, ho, ho1, ho2⟩ := HM.out k hkl
      have hsb : sb ≠ ib := HMI.out _ had
      have c0 := cell_kept1 ho HL.out.2.kept hsb
      have c1 := cell_kept1 ho1 HL.out.2.kept hsb
      have c2 := cell_kept1 ho2 HL.out.2.kept hsb
      subst had
      have hnx := walkP_snoc (ltK kind m) d ops k hkl
      obtain ⟨q1, q2, q3⟩ := walkP_inv (ltK kind m) d ops HOP.out k (by omega)
      have hop : ops.getD k 0 = 1 ∨ ops.getD k 0 = 2 ∨ ops.getD k 0 = 6 := by
        rw [List.getD_eq_getElem?_getD, List.getElem?_eq_getElem hkl]
        exact HOP.out _ (List.getElem_mem _)
      generalize ops.getD k 0 = op at *
      generalize walkP (ltK kind m) d (ops.take k) = st at *
      obtain ⟨i, seen⟩ := st
      simp only at HL q1 q2 q3
      unfold walkStep at hnx
      simp only at hnx
      have hkl2 := HL.out.1
      subst hkl2
      have k1 : Kept No wr (wr.alloc (.cells #[.int .i64 op, .int .i64 0, .int .i64 0] 51)) := (Kept.refl No wr).alloc _
      have k1' : Kept (fun b => b = ib) wr (wr.alloc (.cells #[.int .i64 op, .int .i64 0, .int .i64 0] 51)) := (Kept.refl _ wr).alloc _
      have hH := HH.out _ (HL.out.2.kept.trans k1' (fun _ _ h => h))
      have hI := HL.out.2.it.keptI k1 (fun h => h)
      have HK1 := Lib.hid k1'; have HNX := Lib.hid hnx
      have hs1 := HL.out.2.kept.size
      have q4 : seen.length ≤ 100000 := by omega
      clear k1 k1' hnx ho ho1 ho2 q3
      rcases hop with rfl | rfl | rfl
      · have hmv := qnextM_any hH hI q1 q2 (by omega) hn1 hn2 hn3
        have HMV := Lib.hid hmv; clear hmv hH hI
        have htl : ∀ j, tell (ltK kind m) d j 1 = if 0 ≤ j ∧ j < d.size then (true, j, valueAt (ltK kind m) d j.toNat) else (false, 0, 0) := fun j => by
          unfold tell
          by_cases hc : 0 ≤ j ∧ j < d.size
          · rw [if_pos ⟨by decide, hc⟩, if_pos hc]
          · rw [if_neg (fun h => hc h.2), if_neg hc]
        have HTL := Lib.hid (htl (moveTo d.size i 1)); clear htl
        generalize moveTo d.size i 1 = j at *
        by_cases hin : 0 ≤ j ∧ j < d.size
        · as_aux_lemma =>
          have htl := HTL.out
          rw [if_pos hin] at htl
          rw [decide_eq_true hin] at HMV
          obtain ⟨jk, rfl⟩ : ∃ jk : Nat, j = jk := ⟨j.toNat, by omega⟩
          simp only [Int.toNat_natCast] at htl
          obtain ⟨v, hv⟩ : ∃ v, valueAt (ltK kind m) d jk = v := ⟨_, rfl⟩
          rw [hv] at htl
          have HT := Lib.hid htl; have HVV := Lib.hid hv
          clear htl hv HTL
          have hjd : jk < d.size := by omega
          go_wp2_with fail
          refine HMV.out.mono ?_
          rintro e w2 ⟨rfl, hi2, k2⟩
          have HI2 := Lib.hid hi2; have K2 := Lib.hid (HK1.out.trans k2 (fun _ _ h => h)); clear hi2 k2
          have k3 : Kept (fun b => b = ib) w2 (w2.alloc (.cells #[.bool true, .int .i64 0, .int .i64 0] 55)) := (Kept.refl _ w2).alloc _
          have hB := Blk.new w2 #[.bool true, .int .i64 0, .int .i64 0] 55
          have hval : ∀ W, Kept No (w2.alloc (.cells #[.bool true, .int .i64 0, .int .i64 0] 55)) W → Calls Try.prog 159 #[.pointer (some ⟨ib, 0, none⟩)] W fun e w' => e = .returned (.iface 3 (.int .i64 v)) ∧ Kept No W w' := by
            intro W q
            have kw : Kept (fun b => b = ib) w W := (((HL.out.2.kept.trans K2.out (fun _ _ h => h)).trans k3 (fun _ _ h => h)).trans q (fun _ _ h => h.elim))
            have := (qvalue_any (HH.out W kw) ((HI2.out.keptI (S := No) ((Kept.refl No w2).alloc _) (fun h => h)).keptI q (fun h => h)) ok hjd hd)
            rw [HVV.out] at this
            exact this
          have hidx : ∀ W, Kept No (w2.alloc (.cells #[.bool true, .int .i64 0, .int .i64 0] 55)) W → Calls Try.prog 153 #[.pointer (some ⟨ib, 0, none⟩)] W fun e w' => e = .returned (.int .i64 jk) ∧ W = w' :=
            fun W q => (qindex_any ((HI2.out.keptI (S := No) ((Kept.refl No w2).alloc _) (fun h => h)).keptI q (fun h => h)))
          have HVAL := Lib.hid hval; have HID := Lib.hid hidx; have HB := Lib.hid hB; clear hval hidx hB k3
          have hz : ∀ W, Kept No (w2.alloc (.cells #[.bool true, .int .i64 0, .int .i64 0] 55)) W → W.cell? ⟨w2.heap.size, 0, none⟩ = some (.bool true) ∧ W.cell? ⟨w2.heap.size, 1, none⟩ = some (.int .i64 0) ∧ W.cell? ⟨w2.heap.size, 2, none⟩ = some (.int .i64 0) ∧
              (W.setCell ⟨w2.heap.size, 1, none⟩ (.int .i64 jk)).cell? ⟨w2.heap.size, 0, none⟩ = some (.bool true) ∧ (W.setCell ⟨w2.heap.size, 1, none⟩ (.int .i64 jk)).cell? ⟨w2.heap.size, 2, none⟩ = some (.int .i64 0) ∧ W.frozen? ⟨w2.heap.size, 1, none⟩ = false ∧ W.frozen? ⟨w2.heap.size, 2, none⟩ = false ∧
              Blk ((W.setCell ⟨w2.heap.size, 1, none⟩ (.int .i64 jk)).setCell ⟨w2.heap.size, 2, none⟩ (.int .i64 v)) w2.heap.size #[.bool true, .int .i64 jk, .int .i64 v] 55 ∧
              Kept No w2 ((W.setCell ⟨w2.heap.size, 1, none⟩ (.int .i64 jk)).setCell ⟨w2.heap.size, 2, none⟩ (.int .i64 v)) := by
            intro W q
            have hW := HB.out.kept q (fun h => h)
            have hW1 := hW.set 1 (.int .i64 jk)
            have kw2 : Kept No w2 W := ((Kept.refl No w2).alloc _).trans q (fun _ _ h => h)
            exact ⟨by rw [hW.cell]; rfl, by rw [hW.cell]; rfl, by rw [hW.cell]; rfl, by rw [hW1.cell]; rfl, by rw [hW1.cell]; rfl, hW.frozen 1, hW.frozen 2, hW1.set 2 (.int .i64 v),
              (kw2.setCell ⟨w2.heap.size, 1, none⟩ _ (fun h => absurd h (Nat.lt_irrefl _))).setCell ⟨w2.heap.size, 2, none⟩ _ (fun h => absurd h (Nat.lt_irrefl _))⟩
          have HZ := Lib.hid hz; clear hz
          go_upto_region 25 with fail
          generalize w2.alloc (.cells #[.bool true, .int .i64 0, .int .i64 0] 55) = W3 at *
          generalize w2.heap.size = sB at *
          obtain ⟨y0, _⟩ := HZ.out W3 (Kept.refl _ _)
          go_region_held3 (fun w' => w'.cell? ⟨sB, 0, none⟩ = some (.bool true)) (go_keep)
            (first
              | (go_at_call 153; (with_reducible refine (HID.out _ (Kept.drew (Kept.refl No _))).mono ?_); rintro e wi ⟨rfl, rfl⟩)
              | (go_at_call 159; (with_reducible refine (HVAL.out _ (Kept.drew (Kept.refl No _))).mono ?_); rintro e wz ⟨rfl, kz⟩; have kzz := ((Kept.refl No W3).drew).trans kz (fun _ _ h => h); obtain ⟨z0, z1, z2, z3, z4, z5, z6, z7, z8⟩ := HZ.out wz kzz; have x0 := z7.cell 0; have x1 := z7.cell 1; have x2 := z7.cell 2; have HX8 := Lib.hid z8; clear z7 z8; simp only [List.getElem?_toArray, List.getElem?_cons_zero, List.getElem?_cons_succ] at x0 x1 x2))
          all_goals
            generalize (wz.setCell ⟨sB, 1, none⟩ (.int .i64 jk)).setCell ⟨sB, 2, none⟩ (.int .i64 v) = X at *
            obtain ⟨g', cap', w5, hr, hwa⟩ := HL.out.2.app (K2.out.trans HX8.out (fun _ _ h => h.elim)) (HI2.out.keptI HX8.out (fun h => h)) hib true jk v q4
            have HA := Lib.hid hr; have HWA := Lib.hid hwa; clear hr hwa
            go_wp2_with (at_builtin; refine wpList_append_run rfl (.tmp 73) (.tmp 75) 52 rfl _ _ _ rfl rfl HA.out ?_)
            go_roundg (n + 1 - (k + 1))
            case measure => omega
            case rel =>
              refine ⟨k + 1, g', cap', _, rfl, by go_num, by omega, by omega, ?_⟩
              show _ ∧ _
              rw [HNX.out, HT.out]
              exact ⟨by simp, HWA.out⟩
        · as_aux_lemma =>
          have htl := HTL.out
          rw [if_neg hin] at htl
          rw [decide_eq_false hin] at HMV
          have HT := Lib.hid htl
          clear htl HTL hin
          go_wp2_with fail
          refine HMV.out.mono ?_
          rintro e w2 ⟨rfl, hi2, k2⟩
          have HI2 := Lib.hid hi2; have K2 := Lib.hid (HK1.out.trans k2 (fun _ _ h => h)); clear hi2 k2
          have kW : Kept (fun b => b = ib) w2 (w2.alloc (.cells #[.bool false, .int .i64 0, .int .i64 0] 55)) := (Kept.refl _ w2).alloc _
          obtain ⟨g', cap', w5, hr, hwa⟩ := HL.out.2.app (K2.out.trans kW (fun _ _ h => h)) (HI2.out.keptI (S := No) ((Kept.refl No w2).alloc _) (fun h => h)) hib false 0 0 q4
          simp only [World.size_alloc] at hr
          have HA := Lib.hid hr; have HWA := Lib.hid hwa; clear hr hwa kW
          go_wp2_with (at_builtin; refine wpList_append_run rfl (.tmp 73) (.tmp 75) 52 rfl _ _ _ rfl rfl HA.out ?_)
          go_roundg (n + 1 - (k + 1))
          case measure => omega
          case rel =>
            refine ⟨k + 1, g', cap', _, rfl, by go_num, by omega, by omega, ?_⟩
            show _ ∧ _
            rw [HNX.out, HT.out]
            exact ⟨by simp, HWA.out⟩
      · have hmv := qprevM_any hH hI q1 q2 (by omega) hn1 hn2 hn3
        have HMV := Lib.hid hmv; clear hmv hH hI
        have htl : ∀ j, tell (ltK kind m) d j 2 = if 0 ≤ j ∧ j < d.size then (true, j, valueAt (ltK kind m) d j.toNat) else (false, 0, 0) := fun j => by
          unfold tell
          by_cases hc : 0 ≤ j ∧ j < d.size
          · rw [if_pos ⟨by decide, hc⟩, if_pos hc]
          · rw [if_neg (fun h => hc h.2), if_neg hc]
        have HTL := Lib.hid (htl (moveTo d.size i 2)); clear htl
        generalize moveTo d.size i 2 = j at *
        by_cases hin : 0 ≤ j ∧ j < d.size
        · as_aux_lemma =>
          have htl := HTL.out
          rw [if_pos hin] at htl
          rw [decide_eq_true hin] at HMV
          obtain ⟨jk, rfl⟩ : ∃ jk : Nat, j = jk := ⟨j.toNat, by omega⟩
          simp only [Int.toNat_natCast] at htl
          obtain ⟨v, hv⟩ : ∃ v, valueAt (ltK kind m) d jk = v := ⟨_, rfl⟩
          rw [hv] at htl
          have HT := Lib.hid htl; have HVV := Lib.hid hv
          clear htl hv HTL
          have hjd : jk < d.size := by omega
          go_wp2_with fail
          refine HMV.out.mono ?_
          rintro e w2 ⟨rfl, hi2, k2⟩
          have HI2 := Lib.hid hi2; have K2 := Lib.hid (HK1.out.trans k2 (fun _ _ h => h)); clear hi2 k2
          have k3 : Kept (fun b => b = ib) w2 (w2.alloc (.cells #[.bool true, .int .i64 0, .int .i64 0] 55)) := (Kept.refl _ w2).alloc _
          have hB := Blk.new w2 #[.bool true, .int .i64 0, .int .i64 0] 55
          have hval : ∀ W, Kept No (w2.alloc (.cells #[.bool true, .int .i64 0, .int .i64 0] 55)) W → Calls Try.prog 159 #[.pointer (some ⟨ib, 0, none⟩)] W fun e w' => e = .returned (.iface 3 (.int .i64 v)) ∧ Kept No W w' := by
            intro W q
            have kw : Kept (fun b => b = ib) w W := (((HL.out.2.kept.trans K2.out (fun _ _ h => h)).trans k3 (fun _ _ h => h)).trans q (fun _ _ h => h.elim))
            have := (qvalue_any (HH.out W kw) ((HI2.out.keptI (S := No) ((Kept.refl No w2).alloc _) (fun h => h)).keptI q (fun h => h)) ok hjd hd)
            rw [HVV.out] at this
            exact this
          have hidx : ∀ W, Kept No (w2.alloc (.cells #[.bool true, .int .i64 0, .int .i64 0] 55)) W → Calls Try.prog 153 #[.pointer (some ⟨ib, 0, none⟩)] W fun e w' => e = .returned (.int .i64 jk) ∧ W = w' :=
            fun W q => (qindex_any ((HI2.out.keptI (S := No) ((Kept.refl No w2).alloc _) (fun h => h)).keptI q (fun h => h)))
          have HVAL := Lib.hid hval; have HID := Lib.hid hidx; have HB := Lib.hid hB; clear hval hidx hB k3
          have hz : ∀ W, Kept No (w2.alloc (.cells #[.bool true, .int .i64 0, .int .i64 0] 55)) W → W.cell? ⟨w2.heap.size, 0, none⟩ = some (.bool true) ∧ W.cell? ⟨w2.heap.size, 1, none⟩ = some (.int .i64 0) ∧ W.cell? ⟨w2.heap.size, 2, none⟩ = some (.int .i64 0) ∧
              (W.setCell ⟨w2.heap.size, 1, none⟩ (.int .i64 jk)).cell? ⟨w2.heap.size, 0, none⟩ = some (.bool true) ∧ (W.setCell ⟨w2.heap.size, 1, none⟩ (.int .i64 jk)).cell? ⟨w2.heap.size, 2, none⟩ = some (.int .i64 0) ∧ W.frozen? ⟨w2.heap.size, 1, none⟩ = false ∧ W.frozen? ⟨w2.heap.size, 2, none⟩ = false ∧
              Blk ((W.setCell ⟨w2.heap.size, 1, none⟩ (.int .i64 jk)).setCell ⟨w2.heap.size, 2, none⟩ (.int .i64 v)) w2.heap.size #[.bool true, .int .i64 jk, .int .i64 v] 55 ∧
              Kept No w2 ((W.setCell ⟨w2.heap.size, 1, none⟩ (.int .i64 jk)).setCell ⟨w2.heap.size, 2, none⟩ (.int .i64 v)) := by
            intro W q
            have hW := HB.out.kept q (fun h => h)
            have hW1 := hW.set 1 (.int .i64 jk)
            have kw2 : Kept No w2 W := ((Kept.refl No w2).alloc _).trans q (fun _ _ h => h)
            exact ⟨by rw [hW.cell]; rfl, by rw [hW.cell]; rfl, by rw [hW.cell]; rfl, by rw [hW1.cell]; rfl, by rw [hW1.cell]; rfl, hW.frozen 1, hW.frozen 2, hW1.set 2 (.int .i64 v),
              (kw2.setCell ⟨w2.heap.size, 1, none⟩ _ (fun h => absurd h (Nat.lt_irrefl _))).setCell ⟨w2.heap.size, 2, none⟩ _ (fun h => absurd h (Nat.lt_irrefl _))⟩
          have HZ := Lib.hid hz; clear hz
          go_upto_region 25 with fail
          generalize w2.alloc (.cells #[.bool true, .int .i64 0, .int .i64 0] 55) = W3 at *
          generalize w2.heap.size = sB at *
          obtain ⟨y0, _⟩ := HZ.out W3 (Kept.refl _ _)
          go_region_held3 (fun w' => w'.cell? ⟨sB, 0, none⟩ = some (.bool true)) (go_keep)
            (first
              | (go_at_call 153; (with_reducible refine (HID.out _ (Kept.drew (Kept.refl No _))).mono ?_); rintro e wi ⟨rfl, rfl⟩)
              | (go_at_call 159; (with_reducible refine (HVAL.out _ (Kept.drew (Kept.refl No _))).mono ?_); rintro e wz ⟨rfl, kz⟩; have kzz := ((Kept.refl No W3).drew).trans kz (fun _ _ h => h); obtain ⟨z0, z1, z2, z3, z4, z5, z6, z7, z8⟩ := HZ.out wz kzz; have x0 := z7.cell 0; have x1 := z7.cell 1; have x2 := z7.cell 2; have HX8 := Lib.hid z8; clear z7 z8; simp only [List.getElem?_toArray, List.getElem?_cons_zero, List.getElem?_cons_succ] at x0 x1 x2))
          all_goals
            generalize (wz.setCell ⟨sB, 1, none⟩ (.int .i64 jk)).setCell ⟨sB, 2, none⟩ (.int .i64 v) = X at *
            obtain ⟨g', cap', w5, hr, hwa⟩ := HL.out.2.app (K2.out.trans HX8.out (fun _ _ h => h.elim)) (HI2.out.keptI HX8.out (fun h => h)) hib true jk v q4
            have HA := Lib.hid hr; have HWA := Lib.hid hwa; clear hr hwa
            go_wp2_with (at_builtin; refine wpList_append_run rfl (.tmp 73) (.tmp 75) 52 rfl _ _ _ rfl rfl HA.out ?_)
            go_roundg (n + 1 - (k + 1))
            case measure => omega
            case rel =>
              refine ⟨k + 1, g', cap', _, rfl, by go_num, by omega, by omega, ?_⟩
              show _ ∧ _
              rw [HNX.out, HT.out]
              exact ⟨by simp, HWA.out⟩
        · as_aux_lemma =>
          have htl := HTL.out
          rw [if_neg hin] at htl
          rw [decide_eq_false hin] at HMV
          have HT := Lib.hid htl
          clear htl HTL hin
          go_wp2_with fail
          refine HMV.out.mono ?_
          rintro e w2 ⟨rfl, hi2, k2⟩
          have HI2 := Lib.hid hi2; have K2 := Lib.hid (HK1.out.trans k2 (fun _ _ h => h)); clear hi2 k2
          have kW : Kept (fun b => b = ib) w2 (w2.alloc (.cells #[.bool false, .int .i64 0, .int .i64 0] 55)) := (Kept.refl _ w2).alloc _
          obtain ⟨g', cap', w5, hr, hwa⟩ := HL.out.2.app (K2.out.trans kW (fun _ _ h => h)) (HI2.out.keptI (S := No) ((Kept.refl No w2).alloc _) (fun h => h)) hib false 0 0 q4
          simp only [World.size_alloc] at hr
          have HA := Lib.hid hr; have HWA := Lib.hid hwa; clear hr hwa kW
          go_wp2_with (at_builtin; refine wpList_append_run rfl (.tmp 73) (.tmp 75) 52 rfl _ _ _ rfl rfl HA.out ?_)
          go_roundg (n + 1 - (k + 1))
          case measure => omega
          case rel =>
            refine ⟨k + 1, g', cap', _, rfl, by go_num, by omega, by omega, ?_⟩
            show _ ∧ _
            rw [HNX.out, HT.out]
            exact ⟨by simp, HWA.out⟩
      · as_aux_lemma =>
        have hmv := (qendM_any hH hI)
        have HMV := Lib.hid hmv; clear hmv hH hI
        have htl : tell (ltK kind m) d (moveTo d.size i 6) 6 = (false, 0, 0) := by
          unfold tell
          rw [if_neg (fun h => h.1 rfl)]
        have hmt : moveTo d.size i 6 = (d.size : Int) := by unfold moveTo; rw [if_neg (by decide), if_neg (by decide)]
        have HT := Lib.hid htl; have HMT := Lib.hid hmt; clear htl hmt
        go_wp2_with fail
        refine HMV.out.mono ?_
        rintro e w2 ⟨rfl, hi2, k2⟩
        rw [← HMT.out] at hi2
        have HI2 := Lib.hid hi2; have K2 := Lib.hid (HK1.out.trans k2 (fun _ _ h => h)); clear hi2 k2
        generalize moveTo d.size i 6 = j at *
        have kW : Kept (fun b => b = ib) w2 (w2.alloc (.cells #[.bool false, .int .i64 0, .int .i64 0] 55)) := (Kept.refl _ w2).alloc _
        obtain ⟨g', cap', w5, hr, hwa⟩ := HL.out.2.app (K2.out.trans kW (fun _ _ h => h)) (HI2.out.keptI (S := No) ((Kept.refl No w2).alloc _) (fun h => h)) hib false 0 0 q4
        simp only [World.size_alloc] at hr
        have HA := Lib.hid hr; have HWA := Lib.hid hwa; clear hr hwa kW
        go_wp2_with (at_builtin; refine wpList_append_run rfl (.tmp 73) (.tmp 75) 52 rfl _ _ _ rfl rfl HA.out ?_)
        go_roundg (n + 1 - (k + 1))
        case measure => omega
        case rel =>
          refine ⟨k + 1, g', cap', _, rfl, by go_num, by omega, by omega, ?_⟩
          show _ ∧ _
          rw [HNX.out, HT.out]
          exact ⟨by simp, HWA.out⟩
    · obtain rfl : n = k := by omega
      have hl := HL.out
      rw [List.take_of_length_le (by rw [HN.out]; omega)] at hl
      have HE := Lib.hid (show WalkPost w ib (walkP (ltK kind m) d ops).2 (.returned (.slice (some ⟨g, 0, none⟩) kl cap)) wr from ⟨g, cap, by rw [hl.1], hl.2.row, hl.2.kept, hl.2.new⟩)
      clear hl HL
      go_wp2_with fail
      go_ret
      exact HE.out

end Go.Nl
