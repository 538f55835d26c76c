/- What walked makes of an iterator over a heap. -/
import Derived.Test.YtgdjfgbipmajmaaWalkP
import Derived.Test.YtgdjfgbipmajmaaSpecE
namespace Go.Nl
open Go.RowKit Go.Sort Go.Proofs

theorem info55 : (Try.prog.info? 55).map (fun i => (i.zero, i.size, i.bytes)) = some (some (.agg #[.bool false, .int .i64 0, .int .i64 0]), 3, 24) := by kernel_rfl
theorem i55_parts : ∃ i, Try.prog.info? 55 = some i ∧ i.zero = some (.agg #[.bool false, .int .i64 0, .int .i64 0]) ∧ i.size = 3 ∧ i.bytes = 24 := by
  obtain ⟨i, hi, h⟩ := Option.map_eq_some_iff.1 info55
  simp only [Prod.mk.injEq] at h
  exact ⟨i, hi, h.1, h.2.1, h.2.2⟩
theorem und52 : Try.prog.underlying 52 = some (.slice 55) := by kernel_rfl

/-- The slice of moves, as it lies in memory. -/
def MovesAt (w : World) (ad : Option Addr) (ops : List Int) : Prop :=
  ∀ j, j < ops.length → ∃ sb so, ad = some ⟨sb, so, none⟩ ∧ w.cell? ⟨sb, so + j * 3, none⟩ = some (.int .i64 (ops.getD j 0)) ∧ w.cell? ⟨sb, so + j * 3 + 1, none⟩ = some (.int .i64 0) ∧ w.cell? ⟨sb, so + j * 3 + 2, none⟩ = some (.int .i64 0)

/-- What the loop of walked holds. -/
structure WalkedAt (w : World) (hb ib : Nat) (i : Int) (seen : List SeenT) (g cap : Nat) (wr : World) : Prop where
  it : IterAt wr ib hb i
  row : RowAt wr g seen.length cap 55 3 (seen.flatMap seenCells)
  kept : Kept (fun b => b = ib) w wr
  new : w.heap.size ≤ g

section
variable {w wr : World} {hb ib : Nat} {i : Int} {seen : List SeenT} {g cap : Nat}

theorem WalkedAt.app {X : World} {j : Int} (h : WalkedAt w hb ib i seen g cap wr) (k : Kept (fun b => b = ib) wr X) (hi : IterAt X ib hb j) (hib : ib < w.heap.size) (b : Bool) (x y : Int) (hn : seen.length ≤ 100000) :
    ∃ g' cap' w', (Builtin.append_ #[52, 52] 52 #[.slice (some ⟨g, 0, none⟩) seen.length cap, .slice (some ⟨X.heap.size, 0, none⟩) 1 1]).run Try.prog (X.alloc (.cells #[.bool b, .int .i64 x, .int .i64 y] 55)) =
      .ok (.slice (some ⟨g', 0, none⟩) (seen.length + 1) cap') w' ∧ WalkedAt w hb ib j (seen ++ [(b, x, y)]) g' cap' w' := by
  obtain ⟨e, hi3, hz, hs, hby⟩ := i55_parts
  have hnew := h.new
  have k1 : Kept No X (X.alloc (.cells #[.bool b, .int .i64 x, .int .i64 y] 55)) := (Kept.refl No X).alloc _
  obtain ⟨g', cap', w', hr, hrow, hk, hg⟩ := append_row (P := Try.prog) 52 52 e (.agg #[.bool false, .int .i64 0, .int .i64 0]) 3 24 ((h.row.kept k (by omega)).kept k1 (fun h => h)) und52 hi3 hz hs hby rfl ⟨X.heap.size, 0, none⟩ 1 1 [.bool b, .int .i64 x, .int .i64 y] rfl
    (fun j u hu => by rw [add_zero_off]; exact (RowAt.new X #[.bool b, .int .i64 x, .int .i64 y] 55 3 1 rfl).cell j u hu) (fun u hu => by simp at hu; rcases hu with rfl | rfl | rfl <;> rfl) (by omega) (by omega)
  have hs1 := h.kept.size; have hs2 := k.size
  have hg' : g' = g ∨ X.heap.size + 1 ≤ g' := by simpa using hg
  refine ⟨g', cap', w', hr, ⟨(hi.keptI k1 (fun h => h)).keptI hk (by omega), ?_, ((h.kept.trans k (fun _ _ h => h)).trans k1 (fun _ _ h => h.elim)).trans hk (fun a ha e => by omega), by rcases hg' with rfl | h <;> omega⟩⟩
  simp only [List.length_append, List.length_cons, List.length_nil, List.flatMap_append, List.flatMap_cons, List.flatMap_nil, List.append_nil]
  exact hrow
end

/-- What walked hands back. -/
def WalkPost (w : World) (ib : Nat) (seen : List SeenT) (e : Ending) (w' : World) : Prop :=
  ∃ g cap, e = .returned (.slice (some ⟨g, 0, none⟩) seen.length cap) ∧ RowAt w' g seen.length cap 55 3 (seen.flatMap seenCells) ∧ Kept (fun b => b = ib) w w' ∧ w.heap.size ≤ g

set_option maxHeartbeats 8000000 in
set_option maxRecDepth 100000 in
theorem walkedHeap_any {w : World} {hb lb : Nat} {ao : Option Nat} {c ob : Nat} {kind m : Int} {d : Array Int} {ib : Nat} (h : HO w hb lb ao c ob kind m d) (hi : IterAt w ib hb (-1)) (ok : OrdOk kind m) (hd : d.size ≤ 1000000)
    (hn1 : ib ≠ hb) (hn2 : ib ≠ ob) (hn3 : ¬ own lb ao ib) (ops : List Int) (hop : ∀ op ∈ ops, op = 1 ∨ op = 2 ∨ op = 6) (hol : ops.length ≤ 100000) (ad : Option Addr) (n' : Nat) (hm : MovesAt w ad ops) (hmi : ∀ a, ad = some a → a.block ≠ ib) :
    Calls Try.prog 55 #[.iface 81 (.pointer (some ⟨ib, 0, none⟩)), .slice ad ops.length n'] w (WalkPost w ib (walkP (ltK kind m) d ops).2) := by
  have m1 : ∀ w, (method 266 81 (.pointer (some ⟨ib, 0, none⟩)) "Next").run Try.prog w = .ok (133, .pointer (some ⟨ib, 0, none⟩)) w := fun _ => by kernel_rfl
  have m2 : ∀ w, (method 266 81 (.pointer (some ⟨ib, 0, none⟩)) "Prev").run Try.prog w = .ok (148, .pointer (some ⟨ib, 0, none⟩)) w := fun _ => by kernel_rfl
  have m3 : ∀ w, (method 266 81 (.pointer (some ⟨ib, 0, none⟩)) "End").run Try.prog w = .ok (144, .pointer (some ⟨ib, 0, none⟩)) w := fun _ => by kernel_rfl
  have m4 : ∀ w, (method 266 81 (.pointer (some ⟨ib, 0, none⟩)) "Index").run Try.prog w = .ok (135, .pointer (some ⟨ib, 0, none⟩)) w := fun _ => by kernel_rfl
  have m5 : ∀ w, (method 266 81 (.pointer (some ⟨ib, 0, none⟩)) "Value").run Try.prog w = .ok (134, .pointer (some ⟨ib, 0, none⟩)) w := fun _ => by kernel_rfl
  have ta := assert_int
  obtain ⟨n, hn⟩ : ∃ n, ops.length = n := ⟨_, rfl⟩
  have hib := hi.lt
  have hstart : WalkedAt w hb ib (-1) [] w.heap.size 0 (w.alloc (.cells #[] 55)) :=
    ⟨hi.keptI (S := No) ((Kept.refl No w).alloc _) (fun h => h), RowAt.new w #[] 55 3 0 rfl, (Kept.refl _ w).alloc _, Nat.le_refl _⟩
  rw [hn] at hol ⊢
  have HH := Lib.hid (fun X (k : Kept (fun b => b = ib) w X) => h.kept k (fun j hj e => hn3 (by subst e; exact hj)) (fun e => hn1 e.symm) (fun e => hn2 e.symm))
  have HM := Lib.hid hm; have HMI := Lib.hid hmi; have HN := Lib.hid hn; have HS := Lib.hid hstart; have HOP := Lib.hid hop
  clear h hi hm hmi hn hstart hop
  go_enter Try.func55, Try.ntmps55
  go_wp2_with fail
  go_loopg [5, 7, 8, 9, 13] (n + 1) (fun gg s5 s7 s8 s9 si wr => ∃ k g cap kl : Nat, s5 = .slice (some ⟨g, 0, none⟩) kl cap ∧ si = .int .i64 k ∧ k ≤ n ∧ n + 1 - k ≤ gg ∧
    Hid (kl = (walkP (ltK kind m) d (ops.take k)).2.length ∧ WalkedAt w hb ib (walkP (ltK kind m) d (ops.take k)).1 (walkP (ltK kind m) d (ops.take k)).2 g cap wr))
  case atStart => exact ⟨0, w.heap.size, 0, 0, rfl, rfl, by omega, by omega, (show _ ∧ _ from ⟨rfl, HS.out⟩)⟩
  case round =>
    obtain ⟨k, g, cap, kl, rfl, rfl, hk, hg, HL⟩ := hrel
    by_cases hkn : k < n
    · have hkl : k < ops.length := by rw [HN.out]; exact hkn
      obtain ⟨sb, so, had, ho, ho1, ho2⟩ := HM.out k hkl
      have hsb : sb ≠ ib := HMI.out _ had
      have c0 := cell_kept1 ho HL.out.2.kept hsb
      have c1 := cell_kept1 ho1 HL.out.2.kept hsb
      have c2 := cell_kept1 ho2 HL.out.2.kept hsb
      subst had
      have hnx := walkP_snoc (ltK kind m) d ops k hkl
      obtain ⟨q1, q2, q3⟩ := walkP_inv (ltK kind m) d ops HOP.out k (by omega)
      have hop : ops.getD k 0 = 1 ∨ ops.getD k 0 = 2 ∨ ops.getD k 0 = 6 := by
        rw [List.getD_eq_getElem?_getD, List.getElem?_eq_getElem hkl]
        exact HOP.out _ (List.getElem_mem _)
      generalize ops.getD k 0 = op at *
      generalize walkP (ltK kind m) d (ops.take k) = st at *
      obtain ⟨i, seen⟩ := st
      simp only at HL q1 q2 q3
      unfold walkStep at hnx
      simp only at hnx
      have hkl2 := HL.out.1
      subst hkl2
      have k1 : Kept No wr (wr.alloc (.cells #[.int .i64 op, .int .i64 0, .int .i64 0] 51)) := (Kept.refl No wr).alloc _
      have k1' : Kept (fun b => b = ib) wr (wr.alloc (.cells #[.int .i64 op, .int .i64 0, .int .i64 0] 51)) := (Kept.refl _ wr).alloc _
      have hH := HH.out _ (HL.out.2.kept.trans k1' (fun _ _ h => h))
      have hI := HL.out.2.it.keptI k1 (fun h => h)
      have HK1 := Lib.hid k1'; have HNX := Lib.hid hnx
      have hs1 := HL.out.2.kept.size
      have q4 : seen.length ≤ 100000 := by omega
      clear k1 k1' hnx ho ho1 ho2 q3
      rcases hop with rfl | rfl | rfl
      · have hmv := nextM_any hH hI q1 q2 (by omega) hn1 hn2 hn3
        have HMV := Lib.hid hmv; clear hmv hH hI
        have htl : ∀ j, tell (ltK kind m) d j 1 = if 0 ≤ j ∧ j < d.size then (true, j, valueAt (ltK kind m) d j.toNat) else (false, 0, 0) := fun j => by
          unfold tell
          by_cases hc : 0 ≤ j ∧ j < d.size
          · rw [if_pos ⟨by decide, hc⟩, if_pos hc]
          · rw [if_neg (fun h => hc h.2), if_neg hc]
        have HTL := Lib.hid (htl (moveTo d.size i 1)); clear htl
        generalize moveTo d.size i 1 = j at *
        by_cases hin : 0 ≤ j ∧ j < d.size
        · as_aux_lemma =>
          have htl := HTL.out
          rw [if_pos hin] at htl
          rw [decide_eq_true hin] at HMV
          obtain ⟨jk, rfl⟩ : ∃ jk : Nat, j = jk := ⟨j.toNat, by omega⟩
          simp only [Int.toNat_natCast] at htl
          obtain ⟨v, hv⟩ : ∃ v, valueAt (ltK kind m) d jk = v := ⟨_, rfl⟩
          rw [hv] at htl
          have HT := Lib.hid htl; have HVV := Lib.hid hv
          clear htl hv HTL
          have hjd : jk < d.size := by omega
          go_wp2_with fail
          refine HMV.out.mono ?_
          rintro e w2 ⟨rfl, hi2, k2⟩
          have HI2 := Lib.hid hi2; have K2 := Lib.hid (HK1.out.trans k2 (fun _ _ h => h)); clear hi2 k2
          have k3 : Kept (fun b => b = ib) w2 (w2.alloc (.cells #[.bool true, .int .i64 0, .int .i64 0] 55)) := (Kept.refl _ w2).alloc _
          have hB := Blk.new w2 #[.bool true, .int .i64 0, .int .i64 0] 55
          have hval : ∀ W, Kept No (w2.alloc (.cells #[.bool true, .int .i64 0, .int .i64 0] 55)) W → Calls Try.prog 134 #[.pointer (some ⟨ib, 0, none⟩)] W fun e w' => e = .returned (.iface 3 (.int .i64 v)) ∧ Kept No W w' := by
            intro W q
            have kw : Kept (fun b => b = ib) w W := (((HL.out.2.kept.trans K2.out (fun _ _ h => h)).trans k3 (fun _ _ h => h)).trans q (fun _ _ h => h.elim))
            have := (value_any (HH.out W kw) ((HI2.out.keptI (S := No) ((Kept.refl No w2).alloc _) (fun h => h)).keptI q (fun h => h)) ok hjd hd)
            rw [HVV.out] at this
            exact this
          have hidx : ∀ W, Kept No (w2.alloc (.cells #[.bool true, .int .i64 0, .int .i64 0] 55)) W → Calls Try.prog 135 #[.pointer (some ⟨ib, 0, none⟩)] W fun e w' => e = .returned (.int .i64 jk) ∧ W = w' :=
            fun W q => (iterIndex_any ((HI2.out.keptI (S := No) ((Kept.refl No w2).alloc _) (fun h => h)).keptI q (fun h => h)))
          have HVAL := Lib.hid hval; have HID := Lib.hid hidx; have HB := Lib.hid hB; clear hval hidx hB k3
          have hz : ∀ W, Kept No (w2.alloc (.cells #[.bool true, .int .i64 0, .int .i64 0] 55)) W → W.cell? ⟨w2.heap.size, 0, none⟩ = some (.bool true) ∧ W.cell? ⟨w2.heap.size, 1, none⟩ = some (.int .i64 0) ∧ W.cell? ⟨w2.heap.size, 2, none⟩ = some (.int .i64 0) ∧
              (W.setCell ⟨w2.heap.size, 1, none⟩ (.int .i64 jk)).cell? ⟨w2.heap.size, 0, none⟩ = some (.bool true) ∧ (W.setCell ⟨w2.heap.size, 1, none⟩ (.int .i64 jk)).cell? ⟨w2.heap.size, 2, none⟩ = some (.int .i64 0) ∧ W.frozen? ⟨w2.heap.size, 1, none⟩ = false ∧ W.frozen? ⟨w2.heap.size, 2, none⟩ = false ∧
              Blk ((W.setCell ⟨w2.heap.size, 1, none⟩ (.int .i64 jk)).setCell ⟨w2.heap.size, 2, none⟩ (.int .i64 v)) w2.heap.size #[.bool true, .int .i64 jk, .int .i64 v] 55 ∧
              Kept No w2 ((W.setCell ⟨w2.heap.size, 1, none⟩ (.int .i64 jk)).setCell ⟨w2.heap.size, 2, none⟩ (.int .i64 v)) := by
            intro W q
            have hW := HB.out.kept q (fun h => h)
            have hW1 := hW.set 1 (.int .i64 jk)
            have kw2 : Kept No w2 W := ((Kept.refl No w2).alloc _).trans q (fun _ _ h => h)
            exact ⟨by rw [hW.cell]; rfl, by rw [hW.cell]; rfl, by rw [hW.cell]; rfl, by rw [hW1.cell]; rfl, by rw [hW1.cell]; rfl, hW.frozen 1, hW.frozen 2, hW1.set 2 (.int .i64 v),
              (kw2.setCell ⟨w2.heap.size, 1, none⟩ _ (fun h => absurd h (Nat.lt_irrefl _))).setCell ⟨w2.heap.size, 2, none⟩ _ (fun h => absurd h (Nat.lt_irrefl _))⟩
          have HZ := Lib.hid hz; clear hz
          go_upto_region 25 with fail
          generalize w2.alloc (.cells #[.bool true, .int .i64 0, .int .i64 0] 55) = W3 at *
          generalize w2.heap.size = sB at *
          obtain ⟨y0, _⟩ := HZ.out W3 (Kept.refl _ _)
          go_region_held3 (fun w' => w'.cell? ⟨sB, 0, none⟩ = some (.bool true)) (go_keep)
            (first
              | (go_at_call 135; (with_reducible refine (HID.out _ (Kept.drew (Kept.refl No _))).mono ?_); rintro e wi ⟨rfl, rfl⟩)
              | (go_at_call 134; (with_reducible refine (HVAL.out _ (Kept.drew (Kept.refl No _))).mono ?_); rintro e wz ⟨rfl, kz⟩; have kzz := ((Kept.refl No W3).drew).trans kz (fun _ _ h => h); obtain ⟨z0, z1, z2, z3, z4, z5, z6, z7, z8⟩ := HZ.out wz kzz; have x0 := z7.cell 0; have x1 := z7.cell 1; have x2 := z7.cell 2; have HX8 := Lib.hid z8; clear z7 z8; simp only [List.getElem?_toArray, List.getElem?_cons_zero, List.getElem?_cons_succ] at x0 x1 x2))
          all_goals
            generalize (wz.setCell ⟨sB, 1, none⟩ (.int .i64 jk)).setCell ⟨sB, 2, none⟩ (.int .i64 v) = X at *
            obtain ⟨g', cap', w5, hr, hwa⟩ := HL.out.2.app (K2.out.trans HX8.out (fun _ _ h => h.elim)) (HI2.out.keptI HX8.out (fun h => h)) hib true jk v q4
            have HA := Lib.hid hr; have HWA := Lib.hid hwa; clear hr hwa
            go_wp2_with (at_builtin; refine wpList_append_run rfl (.tmp 73) (.tmp 75) 52 rfl _ _ _ rfl rfl HA.out ?_)
            go_roundg (n + 1 - (k + 1))
            case measure => omega
            case rel =>
              refine ⟨k + 1, g', cap', _, rfl, by go_num, by omega, by omega, ?_⟩
              show _ ∧ _
              rw [HNX.out, HT.out]
              exact ⟨by simp, HWA.out⟩
        · as_aux_lemma =>
          have htl := HTL.out
          rw [if_neg hin] at htl
          rw [decide_eq_false hin] at HMV
          have HT := Lib.hid htl
          clear htl HTL hin
          go_wp2_with fail
          refine HMV.out.mono ?_
          rintro e w2 ⟨rfl, hi2, k2⟩
          have HI2 := Lib.hid hi2; have K2 := Lib.hid (HK1.out.trans k2 (fun _ _ h => h)); clear hi2 k2
          have kW : Kept (fun b => b = ib) w2 (w2.alloc (.cells #[.bool false, .int .i64 0, .int .i64 0] 55)) := (Kept.refl _ w2).alloc _
          obtain ⟨g', cap', w5, hr, hwa⟩ := HL.out.2.app (K2.out.trans kW (fun _ _ h => h)) (HI2.out.keptI (S := No) ((Kept.refl No w2).alloc _) (fun h => h)) hib false 0 0 q4
          simp only [World.size_alloc] at hr
          have HA := Lib.hid hr; have HWA := Lib.hid hwa; clear hr hwa kW
          go_wp2_with (at_builtin; refine wpList_append_run rfl (.tmp 73) (.tmp 75) 52 rfl _ _ _ rfl rfl HA.out ?_)
          go_roundg (n + 1 - (k + 1))
          case measure => omega
          case rel =>
            refine ⟨k + 1, g', cap', _, rfl, by go_num, by omega, by omega, ?_⟩
            show _ ∧ _
            rw [HNX.out, HT.out]
            exact ⟨by simp, HWA.out⟩
      · have hmv := prevM_any hH hI q1 q2 (by omega) hn1 hn2 hn3
        have HMV := Lib.hid hmv; clear hmv hH hI
        have htl : ∀ j, tell (ltK kind m) d j 2 = if 0 ≤ j ∧ j < d.size then (true, j, valueAt (ltK kind m) d j.toNat) else (false, 0, 0) := fun j => by
          unfold tell
          by_cases hc : 0 ≤ j ∧ j < d.size
          · rw [if_pos ⟨by decide, hc⟩, if_pos hc]
          · rw [if_neg (fun h => hc h.2), if_neg hc]
        have HTL := Lib.hid (htl (moveTo d.size i 2)); clear htl
        generalize moveTo d.size i 2 = j at *
        by_cases hin : 0 ≤ j ∧ j < d.size
        · as_aux_lemma =>
          have htl := HTL.out
          rw [if_pos hin] at htl
          rw [decide_eq_true hin] at HMV
          obtain ⟨jk, rfl⟩ : ∃ jk : Nat, j = jk := ⟨j.toNat, by omega⟩
          simp only [Int.toNat_natCast] at htl
          obtain ⟨v, hv⟩ : ∃ v, valueAt (ltK kind m) d jk = v := ⟨_, rfl⟩
          rw [hv] at htl
          have HT := Lib.hid htl; have HVV := Lib.hid hv
          clear htl hv HTL
          have hjd : jk < d.size := by omega
          go_wp2_with fail
          refine HMV.out.mono ?_
          rintro e w2 ⟨rfl, hi2, k2⟩
          have HI2 := Lib.hid hi2; have K2 := Lib.hid (HK1.out.trans k2 (fun _ _ h => h)); clear hi2 k2
          have k3 : Kept (fun b => b = ib) w2 (w2.alloc (.cells #[.bool true, .int .i64 0, .int .i64 0] 55)) := (Kept.refl _ w2).alloc _
          have hB := Blk.new w2 #[.bool true, .int .i64 0, .int .i64 0] 55
          have hval : ∀ W, Kept No (w2.alloc (.cells #[.bool true, .int .i64 0, .int .i64 0] 55)) W → Calls Try.prog 134 #[.pointer (some ⟨ib, 0, none⟩)] W fun e w' => e = .returned (.iface 3 (.int .i64 v)) ∧ Kept No W w' := by
            intro W q
            have kw : Kept (fun b => b = ib) w W := (((HL.out.2.kept.trans K2.out (fun _ _ h => h)).trans k3 (fun _ _ h => h)).trans q (fun _ _ h => h.elim))
            have := (value_any (HH.out W kw) ((HI2.out.keptI (S := No) ((Kept.refl No w2).alloc _) (fun h => h)).keptI q (fun h => h)) ok hjd hd)
            rw [HVV.out] at this
            exact this
          have hidx : ∀ W, Kept No (w2.alloc (.cells #[.bool true, .int .i64 0, .int .i64 0] 55)) W → Calls Try.prog 135 #[.pointer (some ⟨ib, 0, none⟩)] W fun e w' => e = .returned (.int .i64 jk) ∧ W = w' :=
            fun W q => (iterIndex_any ((HI2.out.keptI (S := No) ((Kept.refl No w2).alloc _) (fun h => h)).keptI q (fun h => h)))
          have HVAL := Lib.hid hval; have HID := Lib.hid hidx; have HB := Lib.hid hB; clear hval hidx hB k3
          have hz : ∀ W, Kept No (w2.alloc (.cells #[.bool true, .int .i64 0, .int .i64 0] 55)) W → W.cell? ⟨w2.heap.size, 0, none⟩ = some (.bool true) ∧ W.cell? ⟨w2.heap.size, 1, none⟩ = some (.int .i64 0) ∧ W.cell? ⟨w2.heap.size, 2, none⟩ = some (.int .i64 0) ∧
              (W.setCell ⟨w2.heap.size, 1, none⟩ (.int .i64 jk)).cell? ⟨w2.heap.size, 0, none⟩ = some (.bool true) ∧ (W.setCell ⟨w2.heap.size, 1, none⟩ (.int .i64 jk)).cell? ⟨w2.heap.size, 2, none⟩ = some (.int .i64 0) ∧ W.frozen? ⟨w2.heap.size, 1, none⟩ = false ∧ W.frozen? ⟨w2.heap.size, 2, none⟩ = false ∧
              Blk ((W.setCell ⟨w2.heap.size, 1, none⟩ (.int .i64 jk)).setCell ⟨w2.heap.size, 2, none⟩ (.int .i64 v)) w2.heap.size #[.bool true, .int .i64 jk, .int .i64 v] 55 ∧
              Kept No w2 ((W.setCell ⟨w2.heap.size, 1, none⟩ (.int .i64 jk)).setCell ⟨w2.heap.size, 2, none⟩ (.int .i64 v)) := by
            intro W q
            have hW := HB.out.kept q (fun h => h)
            have hW1 := hW.set 1 (.int .i64 jk)
            have kw2 : Kept No w2 W := ((Kept.refl No w2).alloc _).trans q (fun _ _ h => h)
            exact ⟨by rw [hW.cell]; rfl, by rw [hW.cell]; rfl, by rw [hW.cell]; rfl, by rw [hW1.cell]; rfl, by rw [hW1.cell]; rfl, hW.frozen 1, hW.frozen 2, hW1.set 2 (.int .i64 v),
              (kw2.setCell ⟨w2.heap.size, 1, none⟩ _ (fun h => absurd h (Nat.lt_irrefl _))).setCell ⟨w2.heap.size, 2, none⟩ _ (fun h => absurd h (Nat.lt_irrefl _))⟩
          have HZ := Lib.hid hz; clear hz
          go_upto_region 25 with fail
          generalize w2.alloc (.cells #[.bool true, .int .i64 0, .int .i64 0] 55) = W3 at *
          generalize w2.heap.size = sB at *
          obtain ⟨y0, _⟩ := HZ.out W3 (Kept.refl _ _)
          go_region_held3 (fun w' => w'.cell? ⟨sB, 0, none⟩ = some (.bool true)) (go_keep)
            (first
              | (go_at_call 135; (with_reducible refine (HID.out _ (Kept.drew (Kept.refl No _))).mono ?_); rintro e wi ⟨rfl, rfl⟩)
              | (go_at_call 134; (with_reducible refine (HVAL.out _ (Kept.drew (Kept.refl No _))).mono ?_); rintro e wz ⟨rfl, kz⟩; have kzz := ((Kept.refl No W3).drew).trans kz (fun _ _ h => h); obtain ⟨z0, z1, z2, z3, z4, z5, z6, z7, z8⟩ := HZ.out wz kzz; have x0 := z7.cell 0; have x1 := z7.cell 1; have x2 := z7.cell 2; have HX8 := Lib.hid z8; clear z7 z8; simp only [List.getElem?_toArray, List.getElem?_cons_zero, List.getElem?_cons_succ] at x0 x1 x2))
          all_goals
            generalize (wz.setCell ⟨sB, 1, none⟩ (.int .i64 jk)).setCell ⟨sB, 2, none⟩ (.int .i64 v) = X at *
            obtain ⟨g', cap', w5, hr, hwa⟩ := HL.out.2.app (K2.out.trans HX8.out (fun _ _ h => h.elim)) (HI2.out.keptI HX8.out (fun h => h)) hib true jk v q4
            have HA := Lib.hid hr; have HWA := Lib.hid hwa; clear hr hwa
            go_wp2_with (at_builtin; refine wpList_append_run rfl (.tmp 73) (.tmp 75) 52 rfl _ _ _ rfl rfl HA.out ?_)
            go_roundg (n + 1 - (k + 1))
            case measure => omega
            case rel =>
              refine ⟨k + 1, g', cap', _, rfl, by go_num, by omega, by omega, ?_⟩
              show _ ∧ _
              rw [HNX.out, HT.out]
              exact ⟨by simp, HWA.out⟩
        · as_aux_lemma =>
          have htl := HTL.out
          rw [if_neg hin] at htl
          rw [decide_eq_false hin] at HMV
          have HT := Lib.hid htl
          clear htl HTL hin
          go_wp2_with fail
          refine HMV.out.mono ?_
          rintro e w2 ⟨rfl, hi2, k2⟩
          have HI2 := Lib.hid hi2; have K2 := Lib.hid (HK1.out.trans k2 (fun _ _ h => h)); clear hi2 k2
          have kW : Kept (fun b => b = ib) w2 (w2.alloc (.cells #[.bool false, .int .i64 0, .int .i64 0] 55)) := (Kept.refl _ w2).alloc _
          obtain ⟨g', cap', w5, hr, hwa⟩ := HL.out.2.app (K2.out.trans kW (fun _ _ h => h)) (HI2.out.keptI (S := No) ((Kept.refl No w2).alloc _) (fun h => h)) hib false 0 0 q4
          simp only [World.size_alloc] at hr
          have HA := Lib.hid hr; have HWA := Lib.hid hwa; clear hr hwa kW
          go_wp2_with (at_builtin; refine wpList_append_run rfl (.tmp 73) (.tmp 75) 52 rfl _ _ _ rfl rfl HA.out ?_)
          go_roundg (n + 1 - (k + 1))
          case measure => omega
          case rel =>
            refine ⟨k + 1, g', cap', _, rfl, by go_num, by omega, by omega, ?_⟩
            show _ ∧ _
            rw [HNX.out, HT.out]
            exact ⟨by simp, HWA.out⟩
      · as_aux_lemma =>
        have hmv := (endM_any hH hI)
        have HMV := Lib.hid hmv; clear hmv hH hI
        have htl : tell (ltK kind m) d (moveTo d.size i 6) 6 = (false, 0, 0) := by
          unfold tell
          rw [if_neg (fun h => h.1 rfl)]
        have hmt : moveTo d.size i 6 = (d.size : Int) := by unfold moveTo; rw [if_neg (by decide), if_neg (by decide)]
        have HT := Lib.hid htl; have HMT := Lib.hid hmt; clear htl hmt
        go_wp2_with fail
        refine HMV.out.mono ?_
        rintro e w2 ⟨rfl, hi2, k2⟩
        rw [← HMT.out] at hi2
        have HI2 := Lib.hid hi2; have K2 := Lib.hid (HK1.out.trans k2 (fun _ _ h => h)); clear hi2 k2
        generalize moveTo d.size i 6 = j at *
        have kW : Kept (fun b => b = ib) w2 (w2.alloc (.cells #[.bool false, .int .i64 0, .int .i64 0] 55)) := (Kept.refl _ w2).alloc _
        obtain ⟨g', cap', w5, hr, hwa⟩ := HL.out.2.app (K2.out.trans kW (fun _ _ h => h)) (HI2.out.keptI (S := No) ((Kept.refl No w2).alloc _) (fun h => h)) hib false 0 0 q4
        simp only [World.size_alloc] at hr
        have HA := Lib.hid hr; have HWA := Lib.hid hwa; clear hr hwa kW
        go_wp2_with (at_builtin; refine wpList_append_run rfl (.tmp 73) (.tmp 75) 52 rfl _ _ _ rfl rfl HA.out ?_)
        go_roundg (n + 1 - (k + 1))
        case measure => omega
        case rel =>
          refine ⟨k + 1, g', cap', _, rfl, by go_num, by omega, by omega, ?_⟩
          show _ ∧ _
          rw [HNX.out, HT.out]
          exact ⟨by simp, HWA.out⟩
    · obtain rfl : n = k := by omega
      have hl := HL.out
      rw [List.take_of_length_le (by rw [HN.out]; omega)] at hl
      have HE := Lib.hid (show WalkPost w ib (walkP (ltK kind m) d ops).2 (.returned (.slice (some ⟨g, 0, none⟩) kl cap)) wr from ⟨g, cap, by rw [hl.1], hl.2.row, hl.2.kept, hl.2.new⟩)
      clear hl HL
      go_wp2_with fail
      go_ret
      exact HE.out

end Go.Nl
