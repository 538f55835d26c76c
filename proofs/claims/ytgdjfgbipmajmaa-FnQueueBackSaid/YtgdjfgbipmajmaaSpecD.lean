/- The reference's run of steps: the walk. -/
import Derived.Test.YtgdjfgbipmajmaaSpecC
import Derived.Deep.RegionHeld3
import Derived.Deep.DeepCutAuto
namespace Go.Nl
open Go.RowKit Go.Sort Go.Proofs

/-- What the loop holds behind k steps. -/
def RefLoop (w : World) (kind m : Int) (ss : List Step) (ad : Option Addr) (kl c g jl cap : Nat) (wr : World) : Prop :=
  ∃ st : List Int × List Got, kl = st.1.length ∧ jl = st.2.length ∧ RunS (ltK kind m) ss st ∧ RefAt w st ad c g cap wr

theorem cell_kept1 {S : Nat → Prop} {w w' : World} {b o : Nat} {v : Value} (h : w.cell? ⟨b, o, none⟩ = some v) (k : Kept S w w') (hS : ¬ S b) : w'.cell? ⟨b, o, none⟩ = some v := by
  rw [← h]; exact World.cell?_of_block (w := w) (k.block b (cell_lt h) hS)

theorem RefAt.appL {w wr : World} {L : List Int} {gs : List Got} {ad : Option Addr} {c g cap : Nat} (h : RefAt w (L, gs) ad c g cap wr) (x : Int) (b : Bool) (hn : gs.length ≤ 100000) :
    ∃ g' cap' w', (Builtin.append_ #[27, 27] 27 #[.slice (some ⟨g, 0, none⟩) gs.length cap, .slice (some ⟨wr.heap.size, 0, none⟩) 1 1]).run Try.prog (wr.alloc (.cells #[.int .i64 x, .bool b] 33)) =
      .ok (.slice (some ⟨g', 0, none⟩) (gs.length + 1) cap') w' ∧ RefAt w (L, gs ++ [(x, b)]) ad c g' cap' w' ∧ Kept (fun i => i = g) wr w' := h.app x b hn

theorem cells_tail {w : World} {g : Nat} {x : Int} {l : List Int} (h : CellsAt w (some ⟨g, 0, none⟩) ((x :: l).map intV)) : CellsAt w (some ⟨g, 1, none⟩) (l.map intV) := by
  intro j v hj
  obtain ⟨vb, vo, e, hc⟩ := h (j + 1) v (by simpa using hj)
  injection e with e
  injection e with e1 e2
  subst e1 e2
  exact ⟨g, 1, rfl, by rw [show 1 + j = 0 + (j + 1) by omega]; exact hc⟩

/-- What the reference hands back. -/
def RefPost (w : World) (kind m : Int) (ss : List Step) (e : Ending) (w' : World) : Prop :=
  ∃ (ad : Option Addr) (c g cap : Nat) (st : List Int × List Got), e = .returned (.tuple #[.slice ad st.1.length c, .slice (some ⟨g, 0, none⟩) st.2.length cap]) ∧ RunS (ltK kind m) ss st ∧ RefAt w st ad c g cap w'

theorem RefAt.base {w0 w wr : World} {st : List Int × List Got} {ad : Option Addr} {c g cap : Nat} (h : RefAt w st ad c g cap wr) (k : Kept No w0 w) (hb : w0.heap.size ≤ w.heap.size) : RefAt w0 st ad c g cap wr :=
  ⟨h.list.down hb, h.outs, k.trans h.kept (fun _ _ h => h), by have := h.new; omega, h.apart, h.nil⟩

set_option maxHeartbeats 4000000 in
set_option maxRecDepth 100000 in
theorem ref_any (kind m : Int) (ok : OrdOk kind m) (ss : List Step) (hss : Small ss 1000 1000) (ad0 : Option Addr) (n' : Nat) (w : World) (hs : StepsAt w ad0 ss) :
    Calls Try.prog 28 #[.agg #[.int .i64 kind, .int .i64 m], .slice ad0 ss.length n'] w (RefPost w kind m ss) := by
  obtain ⟨n, hn⟩ : ∃ n, ss.length = n := ⟨_, rfl⟩
  have hnb : n ≤ 1000 := by rw [← hn]; exact hss.1
  rw [hn]
  have k0 : Kept No w (w.alloc (.cells #[.int .i64 kind, .int .i64 m] 23)) := (Kept.refl No w).alloc _
  have hO := Blk.new w #[.int .i64 kind, .int .i64 m] 23
  have start : RefLoop (w.alloc (.cells #[.int .i64 kind, .int .i64 m] 23)) kind m (ss.take 0) (some ⟨w.heap.size + 1, 0, none⟩) 0 0 (w.heap.size + 1 + 1) 0 0 (((w.alloc (.cells #[.int .i64 kind, .int .i64 m] 23)).alloc (.cells #[] 3)).alloc (.cells #[] 33)) := by
    have hrow := RowAt.new ((w.alloc (.cells #[.int .i64 kind, .int .i64 m] 23)).alloc (.cells #[] 3)) #[] 33 2 0 rfl
    simp only [World.size_alloc] at hrow
    exact ⟨([], []), rfl, rfl, .nil, ⟨OwnRow.bare _ _ _ _ _, hrow, ((Kept.refl No _).alloc _).alloc _, by simp, fun h => by omega, fun _ => rfl⟩⟩
  have HS := Lib.hid (hs.keptNo k0); have HN := Lib.hid hn; have HSS := Lib.hid hss; have H0 := Lib.hid start; have HO := Lib.hid hO; have K0 := Lib.hid k0
  clear hs hn hss start hO k0
  go_enter Try.func28, Try.ntmps28
  go_wp2_with fail
  go_loopg [6, 7, 14] (n + 1) (fun gg s6 s7 si wr => ∃ (k kl jl c g cap : Nat) (ad : Option Addr), s6 = .slice ad kl c ∧ s7 = .slice (some ⟨g, 0, none⟩) jl cap ∧ si = .int .i64 k ∧ k ≤ n ∧ n + 1 - k ≤ gg ∧
    Hid (RefLoop (w.alloc (.cells #[.int .i64 kind, .int .i64 m] 23)) kind m (ss.take k) ad kl c g jl cap wr))
  case atStart => exact ⟨0, 0, 0, 0, _, 0, _, rfl, rfl, rfl, by omega, by omega, H0.out⟩
  case round =>
    obtain ⟨k, kl, jl, c, g, cap, ad, rfl, rfl, rfl, hk, hg, HR⟩ := hrel
    obtain ⟨st, rfl, rfl, hrun, href⟩ := HR.out
    clear HR
    by_cases hkn : k < n
    · have hkl : k < ss.length := by rw [HN.out]; exact hkn
      obtain ⟨sb, so, va, vn, had, ho, hv, hcs⟩ := (HS.out.keptNo href.kept) k hkl
      subst had
      have hsmall := runS_size 1000 hrun (fun s hs => HSS.out.2 s (List.mem_of_mem_take hs))
      have hlen1 : (ss.getD k (0, [])).2.length ≤ 1000 := by
        rw [List.getD_eq_getElem?_getD, List.getElem?_eq_getElem hkl]
        exact HSS.out.2 _ (List.getElem_mem _)
      have hnext : ∀ st', StepS (ltK kind m) st (ss.getD k (0, [])) st' → RunS (ltK kind m) (ss.take (k + 1)) st' := fun st' h => hrun.next hkl h
      have htl : (ss.take k).length = k := by simp; omega
      rw [htl] at hsmall
      generalize ss.getD k (0, []) = s at ho hv hcs hnext hlen1
      obtain ⟨op, vals⟩ := s
      simp only at ho hv hcs hlen1
      have hsz1 : st.1.length ≤ 1000000 := by have := hsmall.1; omega
      have hsz2 : st.2.length ≤ 1000 := by have := hsmall.2; omega
      have k1 : Kept No wr (wr.alloc (.cells #[.int .i64 op, .slice va vals.length vn] 31)) := (Kept.refl No wr).alloc _
      have hB := Blk.new wr #[.int .i64 op, .slice va vals.length vn] 31
      have hO1 := (HO.out.kept href.kept (fun h => h)).kept k1 (fun h => h)
      have e0 : (wr.alloc (.cells #[.int .i64 op, .slice va vals.length vn] 31)).cell? ⟨wr.heap.size, 0, none⟩ = some (.int .i64 op) := by rw [hB.cell]; rfl
      have e1 : (wr.alloc (.cells #[.int .i64 op, .slice va vals.length vn] 31)).cell? ⟨wr.heap.size, 1, none⟩ = some (.slice va vals.length vn) := by rw [hB.cell]; rfl
      have e2 : (wr.alloc (.cells #[.int .i64 op, .slice va vals.length vn] 31)).cell? ⟨w.heap.size, 0, none⟩ = some (.int .i64 kind) := by rw [hO1.cell]; rfl
      have e3 : (wr.alloc (.cells #[.int .i64 op, .slice va vals.length vn] 31)).cell? ⟨w.heap.size, 1, none⟩ = some (.int .i64 m) := by rw [hO1.cell]; rfl
      have hgne : g < wr.heap.size := href.outs.lt
      have P1 := Lib.hid (href.keptNo k1)
      have C1 := Lib.hid (hcs.keptNo k1)
      have HX := Lib.hid hnext
      have hlb := hB.lt
      clear hsmall hcs hnext k1 hrun href hO1 hB htl
      by_cases o1 : op = 1
      · subst o1
        go_upto_region 8 with fail
        generalize wr.alloc (.cells #[.int .i64 1, .slice va vals.length vn] 31) = W1 at *
        obtain ⟨sB, hsB⟩ : ∃ x, wr.heap.size = x := ⟨_, rfl⟩
        rw [hsB] at e0 e1 hgne hlb ⊢
        have hput : ∀ wc adc cc, OwnRow W1.drew.heap.size wc adc st.1.length cc 3 1 (st.1.map intV) → Kept No W1.drew wc → _ := fun wc adc cc h1 h2 => P1.out.put ok ((Kept.refl No W1).drew) h1 h2 vals va vn C1.out (by omega)
        have hcl := clone_any st.1 ad c W1.drew (P1.out.list.cells.keptNo ((Kept.refl No W1).drew)) P1.out.nil (by omega)
        have hz : ∀ w', Kept No W1 w' → w'.cell? ⟨sB, 1, none⟩ = some (.slice va vals.length vn) ∧ w'.cell? ⟨w.heap.size, 0, none⟩ = some (.int .i64 kind) ∧ w'.cell? ⟨w.heap.size, 1, none⟩ = some (.int .i64 m) :=
          fun w' k => ⟨cell_keptNo e1 k, cell_keptNo e2 k, cell_keptNo e3 k⟩
        have HPUT := Lib.hid hput; have HCL := Lib.hid hcl; have HZ := Lib.hid hz; clear hput hcl hz e0
        go_region_held3 (fun w' => w'.cell? ⟨sB, 1, none⟩ = some (.slice va vals.length vn) ∧ w'.cell? ⟨w.heap.size, 0, none⟩ = some (.int .i64 kind) ∧ w'.cell? ⟨w.heap.size, 1, none⟩ = some (.int .i64 m)) (go_keep)
          (first
            | (go_at_call 44; (with_reducible refine HCL.out.mono ?_); rintro e wc ⟨adc, cc, rfl, ho, hk⟩; obtain ⟨ada, ca, wa, hr, kwa, hs⟩ := HPUT.out wc adc cc ho hk; have HA := Lib.hid hr; have HSO := Lib.hid hs; obtain ⟨z0, z1, z2⟩ := HZ.out wc (((Kept.refl No W1).drew).trans hk (fun _ _ h => h)); obtain ⟨y0, y1, y2⟩ := HZ.out wa kwa; clear hr hs)
            | ((with_reducible refine step_append_run ?_ (.tmp 23) (.tmp 25) 29 ?_ _ _ _ ?_ ?_ HA.out ?_); rfl; rfl; rfl; rfl)
            | (go_at_call 29; (with_reducible refine HSO.out.mono ?_); rintro e wz ⟨adz, cz, L, rfl, hstep, hrefz, hkz⟩; obtain ⟨x0, x1, x2⟩ := HZ.out wz hkz))
        all_goals
          go_wp2_with fail
          go_roundg (n + 1 - (k + 1))
          case measure => omega
          case rel =>
            refine ⟨k + 1, _, _, _, _, _, _, rfl, rfl, by go_num, by omega, by omega, ?_⟩
            show RefLoop _ _ _ _ _ _ _ _ _ _ _
            exact ⟨(L, st.2), rfl, rfl, HX.out _ hstep, hrefz⟩
      · have o1' : (op == 1) = false := beq_eq_false_iff_ne.2 o1
        by_cases o23 : op = 2 ∨ op = 3
        · obtain ⟨L, gs⟩ := st
          simp only at hsz1 hsz2
          cases L with
          | nil =>
            obtain ⟨g', cap', w5, hr, hp5, _⟩ := P1.out.appL 0 false (by omega)
            have hstep : StepS (ltK kind m) ([], gs) (op, vals) ([], gs ++ [(0, false)]) := by
              rcases o23 with rfl | rfl <;> simp [StepS, seenL]
            have HST := Lib.hid (HX.out _ hstep)
            simp only [World.size_alloc] at hr
            have HA := Lib.hid hr; have P5 := Lib.hid hp5
            clear hstep hr hp5
            simp only [List.length_nil]
            rcases o23 with rfl | rfl
            all_goals
              go_wp2_with (at_builtin; refine wpList_append_run rfl (.tmp 35) (.tmp 37) 27 rfl _ _ _ rfl rfl HA.out ?_)
              go_roundg (n + 1 - (k + 1))
              case measure => omega
              case rel =>
                refine ⟨k + 1, _, _, _, _, _, _, rfl, rfl, by go_num, by omega, by omega, ?_⟩
                show RefLoop _ _ _ _ _ _ _ _ _ _ _
                exact ⟨([], gs ++ [(0, false)]), rfl, by simp, HST.out, P5.out⟩
          | cons x l =>
            obtain ⟨g', cap', w5, hr, hp5, hk5⟩ := P1.out.appL x true (by omega)
            have hc0 : 0 < c := by
              rcases P1.out.list with ⟨h, _⟩ | ⟨_, _, _, h⟩
              · simp at h
              · have := h.le; simp at this; omega
            obtain ⟨gL, rfl, hgL, hrowL⟩ := P1.out.list.block hc0
            have d0 := hrowL.cell 0 _ rfl
            simp only [intV] at d0
            simp only [World.size_alloc] at hr
            have HA := Lib.hid hr; have P5 := Lib.hid hp5; have K5 := Lib.hid hk5
            have f0 := cell_kept1 e0 hk5 (by omega)
            clear hr hp5 hk5
            simp only [List.length_cons]
            by_cases o2 : op = 2
            · subst o2
              have hstep : StepS (ltK kind m) (x :: l, gs) (2, vals) (l, gs ++ [(x, true)]) := by simp [StepS, seenL]
              have HST := Lib.hid (HX.out _ hstep); clear hstep
              have hll : l.length ≤ 1000000 := by simp at hsz1; omega
              have hlc : l.length + 1 ≤ c := by
                rcases P1.out.list with ⟨h, _⟩ | ⟨_, _, _, h⟩
                · simp at h
                · simpa using h.le
              have hc1 := clone_any l (some ⟨gL, 1, none⟩) (c - 1) w5 (cells_tail P5.out.list.cells) (fun h => by cases h) (by omega)
              have hc0 : c = 1 → Calls Try.prog 44 #[.slice (some ⟨gL, 0, none⟩) l.length 0] w5 (Cloned w5 l) := fun hc => by
                obtain rfl : l = [] := List.eq_nil_of_length_eq_zero (by omega)
                exact clone_any [] (some ⟨gL, 0, none⟩) 0 w5 (fun j v h => by simp at h) (fun h => by cases h) (by simp)
              have HC1 := Lib.hid hc1; have HC0 := Lib.hid hc0; clear hc1 hc0
              go_wp2_with (at_builtin; refine wpList_append_run rfl (.tmp 39) (.tmp 44) 27 rfl _ _ _ rfl rfl HA.out ?_)
              all_goals
                first
                  | (with_reducible refine HC1.out.mono ?_)
                  | (with_reducible refine (HC0.out (by omega)).mono ?_)
                rintro e wz ⟨adz, cz, rfl, hoz, hkz⟩
                have HF := Lib.hid (P5.out.turn hkz (Nat.le_refl _) hoz); clear hoz hkz
                go_wp2_with fail
                go_roundg (n + 1 - (k + 1))
                case measure => omega
                case rel =>
                  refine ⟨k + 1, _, _, _, _, _, _, rfl, rfl, by go_num, by omega, by omega, ?_⟩
                  show RefLoop _ _ _ _ _ _ _ _ _ _ _
                  exact ⟨(l, gs ++ [(x, true)]), rfl, by simp, HST.out, HF.out⟩
            · have o3 : op = 3 := by omega
              subst o3
              have hstep : StepS (ltK kind m) (x :: l, gs) (3, vals) (x :: l, gs ++ [(x, true)]) := by simp [StepS, seenL]
              have HST := Lib.hid (HX.out _ hstep); clear hstep
              go_wp2_with (at_builtin; refine wpList_append_run rfl (.tmp 39) (.tmp 44) 27 rfl _ _ _ rfl rfl HA.out ?_)
              go_roundg (n + 1 - (k + 1))
              case measure => omega
              case rel =>
                refine ⟨k + 1, _, _, _, _, _, _, rfl, rfl, by go_num, by omega, by omega, ?_⟩
                show RefLoop _ _ _ _ _ _ _ _ _ _ _
                exact ⟨(x :: l, gs ++ [(x, true)]), rfl, by simp, HST.out, P5.out⟩
        · have n2 : ¬ op = 2 := fun h => o23 (Or.inl h)
          have n3 : ¬ op = 3 := fun h => o23 (Or.inr h)
          have o2' : (op == 2) = false := beq_eq_false_iff_ne.2 n2
          have o3' : (op == 3) = false := beq_eq_false_iff_ne.2 n3
          clear o23
          by_cases o4 : op = 4
          · subst o4
            have hstep : StepS (ltK kind m) st (4, vals) ([], st.2) := by simp [StepS]
            have HST := Lib.hid (HX.out _ hstep); clear hstep
            have ka : Kept No (wr.alloc (.cells #[.int .i64 4, .slice va vals.length vn] 31)) ((wr.alloc (.cells #[.int .i64 4, .slice va vals.length vn] 31)).alloc (.cells #[] 3)) := (Kept.refl No _).alloc _
            have hfin := P1.out.turn (L := []) (c' := 0) (ad' := some ⟨(wr.alloc (.cells #[.int .i64 4, .slice va vals.length vn] 31)).heap.size, 0, none⟩) ka (Nat.le_refl _) (OwnRow.bare _ _ _ _ _)
            have HF := Lib.hid hfin; clear ka hfin
            go_wp2_with fail
            go_roundg (n + 1 - (k + 1))
            case measure => omega
            case rel =>
              refine ⟨k + 1, _, _, _, _, _, _, rfl, rfl, by go_num, by omega, by omega, ?_⟩
              show RefLoop _ _ _ _ _ _ _ _ _ _ _
              exact ⟨([], st.2), rfl, rfl, HST.out, by simpa using HF.out⟩
          · have o4' : (op == 4) = false := beq_eq_false_iff_ne.2 o4
            have hstep : StepS (ltK kind m) st (op, vals) st := by
              unfold StepS
              rw [if_neg o1, if_neg n2, if_neg n3, if_neg o4]
            have HST := Lib.hid (HX.out _ hstep); clear hstep
            go_wp2_with fail
            go_roundg (n + 1 - (k + 1))
            case measure => omega
            case rel =>
              refine ⟨k + 1, _, _, _, _, _, _, rfl, rfl, by go_num, by omega, by omega, ?_⟩
              show RefLoop _ _ _ _ _ _ _ _ _ _ _
              exact ⟨st, rfl, rfl, HST.out, P1.out⟩
    · obtain rfl : k = n := by omega
      have HE := Lib.hid (show RefLoop (w.alloc (.cells #[.int .i64 kind, .int .i64 m] 23)) kind m ss ad st.1.length c g st.2.length cap wr from ⟨st, rfl, rfl, by rw [List.take_of_length_le (by rw [HN.out]; omega)] at hrun; exact hrun, href⟩)
      have HF := Lib.hid (show RefPost w kind m ss (.returned (.tuple #[.slice ad st.1.length c, .slice (some ⟨g, 0, none⟩) st.2.length cap])) wr from by
        obtain ⟨st', h1, h2, h3, h4⟩ := HE.out
        rw [h1, h2]
        exact ⟨ad, c, g, cap, st', rfl, h3, RefAt.base h4 K0.out (by simp)⟩)
      clear hrun href HE
      go_wp2_with fail
      go_ret2
      exact HF.out

end Go.Nl
