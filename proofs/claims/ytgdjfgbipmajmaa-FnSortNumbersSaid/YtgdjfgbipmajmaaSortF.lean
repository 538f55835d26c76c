/- The stable sort's merge: the search and what follows it. (Under way.) -/
import Derived.Test.YtgdjfgbipmajmaaSortE
namespace Go.Nl
open Go.RowKit Go.Sort Go.Proofs

theorem permIn_grow {a b a' b' : Nat} {d d' : Array Int} (ha : a' ≤ a) (hb : b ≤ b') (hs : b' ≤ d.size) (h : PermIn a b d d') : PermIn a' b' d d' := permIn_mono d d' a b a' b' ha hb hs h

/-- What the search keeps at its left and at its right end. -/
def LeftEnd (lt : Int → Int → Bool) (a m b mid : Nat) (d : Array Int) (s : Nat) : Prop := s = a ∨ mid + m - s = b ∨ lt d[mid + m - s]! d[s - 1]! = false
def RightEnd (lt : Int → Int → Bool) (m mid : Nat) (d : Array Int) (r : Nat) : Prop := r = m ∨ mid + m - r = m ∨ lt d[mid + m - r - 1]! d[r]! = true

/-- Behind the search: what is left to do, as a contract of the walk's end. -/
def Merges (g cap pb n : Nat) (kind mm : Int) (c' N : Nat) : Prop :=
  ∀ a m b, b - a ≤ N → a < m → m < b → b ≤ n → ∀ (w : World) (d : Array Int), SortAt w g cap pb kind mm d → d.size = n → SortedIn (ltK kind mm) a m d → SortedIn (ltK kind mm) m b d →
    Calls Try.prog 85 #[.slice (some ⟨g, 0, none⟩) n c', .int .i64 a, .int .i64 m, .int .i64 b, cmpFn pb] w (MergedTo w g cap pb kind mm a b d)

/-- Behind the turn about the middle. -/
def Turned (w : World) (g cap pb : Nat) (kind mm : Int) (a s mid e b : Nat) (d : Array Int) (w' : World) : Prop :=
  ∃ D, SortedTo w g cap pb kind mm D w' ∧ D.size = d.size ∧ PermIn a b d D ∧ Split (ltK kind mm) a s mid e b D

theorem turned_rot {w w1 w2 : World} {g cap pb : Nat} {kind mm : Int} {a s m mid e b : Nat} {d : Array Int} (h : SortAt w1 g cap pb kind mm d) (k : Kept No w w1) (hr : Rotated w1 g cap s m e d w2)
    (hs : ∀ d' : Array Int, (∀ t, d'[t]! = rotAt d s m e t) → Split (ltK kind mm) a s mid e b d') (has : a ≤ s) (heb : e ≤ b) (hbd : b ≤ d.size) : Turned w g cap pb kind mm a s mid e b d w2 := by
  obtain ⟨D, h1, h2, h3, h4, h5⟩ := hr
  exact ⟨D, ⟨h.kept h1 h5, (k.mono (S := fun i => i = g) (fun _ _ h => h.elim)).trans h5 (fun _ _ h => h)⟩, h2, permIn_grow has heb hbd h3, hs D h4⟩

theorem turned_not {w w1 : World} {g cap pb : Nat} {kind mm : Int} {a s m mid e b : Nat} {d : Array Int} (h : SortAt w1 g cap pb kind mm d) (k : Kept No w w1)
    (hs : ∀ d' : Array Int, (∀ t, d'[t]! = rotAt d s m e t) → Split (ltK kind mm) a s mid e b d') (hc : s = m ∨ e = m) : Turned w g cap pb kind mm a s mid e b d w1 := by
  refine ⟨d, ⟨h, k.mono (fun _ _ h => h.elim)⟩, rfl, permIn_refl _ _ _, hs d (fun t => ?_)⟩
  rcases hc with rfl | rfl
  · exact (rotAt_id_left d s e t).symm
  · exact (rotAt_id_right d s e t).symm

/-- The left half has been merged. -/
theorem turned_left {w w1 w2 : World} {g cap pb : Nat} {kind mm : Int} {a s mid e b : Nat} {d D : Array Int} {ed : Ending} (h : SortedTo w g cap pb kind mm D w1) (hsz : D.size = d.size) (hp : PermIn a b d D) (hs : Split (ltK kind mm) a s mid e b D)
    (hm : MergedTo w1 g cap pb kind mm a mid D ed w2) (hme : mid ≤ e) (hmb : mid ≤ b) (hbd : b ≤ d.size) : Turned w g cap pb kind mm a mid mid e b d w2 := by
  obtain ⟨_, D', h1, h2, h3⟩ := hm
  refine ⟨D', ⟨h1.1, h.2.trans h1.2 (fun _ _ h => h)⟩, h2.1.trans hsz, permIn_trans _ _ _ _ _ hp (permIn_grow (Nat.le_refl _) hmb (by omega) h2), hs.left hme (by omega) h2 h3⟩

theorem turned_leftNot {w w1 : World} {g cap pb : Nat} {kind mm : Int} {a s mid e b : Nat} {d D : Array Int} (h : SortedTo w g cap pb kind mm D w1) (hsz : D.size = d.size) (hp : PermIn a b d D) (hs : Split (ltK kind mm) a s mid e b D)
    (hc : s = a ∨ s = mid) : Turned w g cap pb kind mm a mid mid e b d w1 := ⟨D, h, hsz, hp, hs.leftDone hc⟩

theorem merged_right {w w1 w2 : World} {g cap pb : Nat} {kind mm : Int} {a mid e b : Nat} {d D : Array Int} {ed : Ending} (h : SortedTo w g cap pb kind mm D w1) (hsz : D.size = d.size) (hp : PermIn a b d D) (hs : Split (ltK kind mm) a mid mid e b D)
    (hm : MergedTo w1 g cap pb kind mm mid b D ed w2) (ham : a ≤ mid) (hbd : b ≤ d.size) : MergedTo w g cap pb kind mm a b d (.returned (.tuple #[])) w2 := by
  obtain ⟨_, D', h1, h2, h3⟩ := hm
  exact ⟨rfl, D', ⟨h1.1, h.2.trans h1.2 (fun _ _ h => h)⟩, permIn_trans _ _ _ _ _ hp (permIn_grow ham (Nat.le_refl _) (by omega) h2), hs.right (by omega) h2 h3⟩

theorem merged_rightNot {w w1 : World} {g cap pb : Nat} {kind mm : Int} {a mid e b : Nat} {d D : Array Int} (h : SortedTo w g cap pb kind mm D w1) (hp : PermIn a b d D) (hs : Split (ltK kind mm) a mid mid e b D)
    (hc : e = mid ∨ e = b) : MergedTo w g cap pb kind mm a b d (.returned (.tuple #[])) w1 := ⟨rfl, D, h, hp, hs.rightDone hc⟩

set_option maxHeartbeats 4000000 in
set_option maxRecDepth 100000 in
theorem symMerge_mid {w : World} {g cap pb n : Nat} {kind mm : Int} {d : Array Int} (h : SortAt w g cap pb kind mm d) (ok : OrdOk kind mm) (hn : d.size = n) (hb : n ≤ 1048576) (c' a m b N : Nat) (ham : a + 1 < m) (hmb : m + 1 < b) (hbn : b ≤ n)
    (hs1 : SortedIn (ltK kind mm) a m d) (hs2 : SortedIn (ltK kind mm) m b d) (ih : Merges g cap pb n kind mm c' N) (hN : b - a ≤ N + 1) :
    Calls Try.prog 85 #[.slice (some ⟨g, 0, none⟩) n c', .int .i64 a, .int .i64 m, .int .i64 b, cmpFn pb] w (MergedTo w g cap pb kind mm a b d) := by
  obtain ⟨mid, hmid⟩ : ∃ h : Nat, ((a : Int) + (b : Int)) / 2 = (h : Int) := ⟨(a + b) / 2, by omega⟩
  have H := Lib.hid h; have HN := Lib.hid hn; have HS1 := Lib.hid hs1; have HS2 := Lib.hid hs2; have IH := Lib.hid ih; clear h hn hs1 hs2 ih
  have s1 : IntKind.i64.wrap ((m : Int) - (a : Int)) = ((m - a : Nat) : Int) := by rw [IntWalk.i64_in _ (by omega)]; omega
  have s1' : (((m - a : Nat) : Int) == 1) = false := beq_eq_false_iff_ne.2 (by omega)
  have s2 : IntKind.i64.wrap ((b : Int) - (m : Int)) = ((b - m : Nat) : Int) := by rw [IntWalk.i64_in _ (by omega)]; omega
  have s2' : (((b - m : Nat) : Int) == 1) = false := beq_eq_false_iff_ne.2 (by omega)
  have s3 : IntKind.i64.wrap ((mid : Int) + (m : Int)) = (mid : Int) + (m : Int) := IntWalk.i64_in _ (by omega)
  have s4 : IntKind.i64.wrap ((mid : Int) + (m : Int) - 1) = ((mid + m - 1 : Nat) : Int) := by rw [IntWalk.i64_in _ (by omega)]; omega
  go_enter Try.func85, Try.ntmps85
  go_upto_if 140 with fail
  go_cut [20, 21] (fun s20 s21 wc => ∃ s r : Nat, s20 = .int .i64 s ∧ s21 = .int .i64 r ∧ a ≤ s ∧ s ≤ r ∧ r ≤ m ∧ r ≤ mid ∧ mid + m ≤ s + b ∧ Hid (LeftEnd (ltK kind mm) a m b mid d s ∧ RightEnd (ltK kind mm) m mid d r ∧ w = wc))
  case first =>
    by_cases hm : mid < m
    · have u1 : IntKind.i64.wrap ((mid : Int) + (m : Int) - (b : Int)) = ((mid + m - b : Nat) : Int) := by rw [IntWalk.i64_in _ (by omega)]; omega
      go_wp2_with fail
      go_meet
      case rel => exact ⟨mid + m - b, mid, by go_num, rfl, by omega, by omega, by omega, by omega, by omega, (show _ ∧ _ ∧ _ from ⟨Or.inr (Or.inl (by omega)), Or.inr (Or.inl (by omega)), rfl⟩)⟩
    · go_wp2_with fail
      go_meet
      case rel => exact ⟨a, m, rfl, rfl, by omega, by omega, by omega, by omega, by omega, (show _ ∧ _ ∧ _ from ⟨Or.inl rfl, Or.inl rfl, rfl⟩)⟩
  case rest =>
    obtain ⟨s0, r0, rfl, rfl, hs0, hsr0, hrm0, hrmid0, hsb0, HC⟩ := hcut
    obtain rfl := HC.out.2.2
    go_wp2_with fail
    go_loopg [20, 21] (b + 1) (fun gg ss sr wr => ∃ s r : Nat, ss = .int .i64 s ∧ sr = .int .i64 r ∧ a ≤ s ∧ s ≤ r ∧ r ≤ m ∧ r ≤ mid ∧ mid + m ≤ s + b ∧ r - s + 1 ≤ gg ∧ Hid (LeftEnd (ltK kind mm) a m b mid d s ∧ RightEnd (ltK kind mm) m mid d r ∧ Kept No w wr))
    case atStart => exact ⟨s0, r0, rfl, rfl, by omega, by omega, by omega, by omega, by omega, by omega, (show _ ∧ _ ∧ _ from ⟨HC.out.1, HC.out.2.1, Kept.refl _ _⟩)⟩
    case round =>
      obtain ⟨s, r, rfl, rfl, hs, hsr, hrm, hrmid, hsb, hg, HI⟩ := hrel
      by_cases e : s < r
      · obtain ⟨c, hc⟩ : ∃ c : Nat, ((s : Int) + (r : Int)) / 2 = (c : Int) := ⟨(s + r) / 2, by omega⟩
        have hc1 : s ≤ c := by omega
        have hc2 : c < r := by omega
        obtain ⟨p, hp⟩ : ∃ p, mid + m - 1 - c = p := ⟨_, rfl⟩
        have hsA := H.out.keptNo HI.out.2.2
        have cx := hsA.nums.cell p (by rw [HN.out]; omega)
        have cy := hsA.nums.cell c (by rw [HN.out]; omega)
        obtain ⟨q, hq, hcall⟩ := hsA.cmp ok d[p]! d[c]!
        have hz : ∀ w2, Kept No wr.drew w2 → Kept No w w2 ∧ w2.cell? ⟨g, p, none⟩ = some (.int .i64 d[p]!) ∧ w2.cell? ⟨g, c, none⟩ = some (.int .i64 d[c]!) := by
          intro w2 k2
          have k : Kept No wr w2 := ((Kept.refl No wr).drew).trans k2 (fun _ _ h => h)
          exact ⟨HI.out.2.2.trans k (fun _ _ h => h), cell_keptNo cx k, cell_keptNo cy k⟩
        have hle : q < 0 → RightEnd (ltK kind mm) m mid d c := fun h0 => Or.inr (Or.inr (by rw [show mid + m - c - 1 = p by omega]; exact hq.1 h0))
        have hre : ¬ q < 0 → LeftEnd (ltK kind mm) a m b mid d (c + 1) := fun h0 => Or.inr (Or.inr (by
          rw [show mid + m - (c + 1) = p by omega, Nat.add_sub_cancel]
          cases hk : ltK kind mm d[p]! d[c]! with
          | false => rfl
          | true => exact absurd (hq.2 hk) h0))
        have HL := Lib.hid hle; have HR := Lib.hid hre
        obtain ⟨x, hx⟩ : ∃ x, d[p]! = x := ⟨_, rfl⟩
        obtain ⟨y, hy⟩ : ∃ y, d[c]! = y := ⟨_, rfl⟩
        rw [hx] at cx hcall hz
        rw [hy] at cy hcall hz
        have HC := Lib.hid hcall; have HZ := Lib.hid hz; clear hcall hz hq hsA hx hy hle hre
        have u1 : IntKind.i64.wrap (((mid + m - 1 : Nat) : Int) - (c : Int)) = (p : Int) := by rw [IntWalk.i64_in _ (by omega)]; omega
        have b2 : (p : Int) < n := by omega
        have b4 : (c : Int) < n := by omega
        by_cases h0 : q < 0
        · as_aux_lemma =>
          go_wp2_with fail
          try rw [hc]
          go_region_held3 (fun w' => w'.cell? ⟨g, p, none⟩ = some (.int .i64 x) ∧ w'.cell? ⟨g, c, none⟩ = some (.int .i64 y)) (go_keep)
            (first | (go_at_call 46; (with_reducible refine (HC.out _ (Kept.drew (Kept.refl No _))).mono ?_); rintro e w2 ⟨rfl, k2⟩; obtain ⟨kz, z0, z1⟩ := HZ.out w2 k2))
          all_goals
            go_wp2_with fail
            go_roundg (c - s + 1)
            case measure => omega
            case rel => exact ⟨s, c, rfl, by go_num, by omega, by omega, by omega, by omega, by omega, by omega, (show _ ∧ _ ∧ _ from ⟨HI.out.1, HL.out h0, kz⟩)⟩
        · as_aux_lemma =>
          have h0' : decide (q < 0) = false := decide_eq_false (by omega)
          go_wp2_with fail
          try rw [hc]
          go_region_held3 (fun w' => w'.cell? ⟨g, p, none⟩ = some (.int .i64 x) ∧ w'.cell? ⟨g, c, none⟩ = some (.int .i64 y)) (go_keep)
            (first | (go_at_call 46; (with_reducible refine (HC.out _ (Kept.drew (Kept.refl No _))).mono ?_); rintro e w2 ⟨rfl, k2⟩; obtain ⟨kz, z0, z1⟩ := HZ.out w2 k2))
          all_goals
            go_wp2_with fail
            go_roundg (r - (c + 1) + 1)
            case measure => omega
            case rel => exact ⟨c + 1, r, by go_num, rfl, by omega, by omega, by omega, by omega, by omega, by omega, (show _ ∧ _ ∧ _ from ⟨HR.out h0, HI.out.2.1, kz⟩)⟩
      · obtain rfl : r = s := by omega
        obtain ⟨ee, hee⟩ : ∃ ee : Nat, mid + m - r = ee := ⟨_, rfl⟩
        have hsp : ∀ d' : Array Int, (∀ t, d'[t]! = rotAt d r m ee t) → Split (ltK kind mm) a r mid ee b d' := fun d' hd =>
          split_of (ltK_swo kind mm) hs hrm (by omega) (by omega) (by omega) HS1.out HS2.out hd
            (by have := HI.out.1; unfold LeftEnd at this; rwa [hee] at this) (by have := HI.out.2.1; unfold RightEnd at this; rwa [hee] at this)
        have HSP := Lib.hid hsp
        have u2 : IntKind.i64.wrap ((mid : Int) + (m : Int) - (r : Int)) = (ee : Int) := by rw [IntWalk.i64_in _ (by omega)]; omega
        have hee1 : m ≤ ee := by omega
        have hee2 : ee ≤ b := by omega
        clear hsp
        have HW := Lib.hid HI.out.2.2
        go_upto_region 39 with fail
        go_cut [185] (fun sb wc => ∃ bb : Bool, sb = .bool bb ∧ Hid ((bb = true → r < m ∧ m < ee) ∧ (bb = false → r = m ∨ ee = m) ∧ wr = wc))
        case first => as_aux_lemma =>
          by_cases h1 : r < m
          · by_cases h2 : m < ee
            · go_wp2_with fail
              go_meet
              case rel => exact ⟨true, (by first | rfl | simp [h1, h2]), (show _ ∧ _ ∧ _ from ⟨fun _ => ⟨h1, h2⟩, (fun h => by cases h), rfl⟩)⟩
            · have h2' : decide ((m : Int) < (ee : Int)) = false := decide_eq_false (by omega)
              go_wp2_with fail
              go_meet
              case rel => exact ⟨false, (by first | rfl | simp [h1, h2]), (show _ ∧ _ ∧ _ from ⟨(fun h => by cases h), fun _ => Or.inr (by omega), rfl⟩)⟩
          · have h1' : decide ((r : Int) < (m : Int)) = false := decide_eq_false (by omega)
            go_wp2_with fail
            go_meet
            case rel => exact ⟨false, (by first | rfl | simp [h1]), (show _ ∧ _ ∧ _ from ⟨(fun h => by cases h), fun _ => Or.inl (by omega), rfl⟩)⟩
        case rest => as_aux_lemma =>
          obtain ⟨bb, rfl, HB⟩ := hcut
          obtain rfl := HB.out.2.2
          go_upto_if 185 with fail
          go_cut [24] (fun s24 wc => s24 = .int .i64 ee ∧ Hid (Turned w g cap pb kind mm a r mid ee b d wc))
          case first => as_aux_lemma =>
            cases bb
            · have HQ := Lib.hid (turned_not (H.out.keptNo HI.out.2.2) HI.out.2.2 HSP.out (HB.out.2.1 rfl))
              go_wp2_with fail
              go_meet
              case rel => exact ⟨rfl, HQ⟩
            · obtain ⟨h1, h2⟩ := HB.out.1 rfl
              have hc := rotate_any (H.out.keptNo HI.out.2.2).nums HN.out hb c' r m ee (cmpFn pb) h1 h2 (by omega)
              have HC := Lib.hid hc; clear hc
              go_wp2_with fail
              refine HC.out.mono ?_
              rintro e w2 ⟨rfl, hq⟩
              have HQ := Lib.hid (turned_rot (H.out.keptNo HI.out.2.2) HI.out.2.2 hq HSP.out hs hee2 (by rw [HN.out]; exact hbn)); clear hq
              go_wp2_with fail
              go_meet
              case rel => exact ⟨rfl, HQ⟩
          case rest => as_aux_lemma =>
            obtain ⟨rfl, HT⟩ := hcut
            obtain ⟨D, h1, h2, h3, h4⟩ := HT.out
            have H1 := Lib.hid h1; have H2 := Lib.hid h2; have H3 := Lib.hid h3; have H4 := Lib.hid h4
            clear h1 h2 h3 h4 HT HB HI HC
            go_upto_region 41 with fail
            go_cut [199] (fun sb wx => ∃ bb : Bool, sb = .bool bb ∧ Hid ((bb = true → a < r ∧ r < mid) ∧ (bb = false → r = a ∨ r = mid) ∧ wc = wx))
            case first => as_aux_lemma =>
              by_cases h1 : a < r
              · by_cases h2 : r < mid
                · go_wp2_with fail
                  go_meet
                  case rel => exact ⟨true, (by first | rfl | simp [h1, h2]), (show _ ∧ _ ∧ _ from ⟨fun _ => ⟨h1, h2⟩, (fun h => by cases h), rfl⟩)⟩
                · have h2' : decide ((r : Int) < (mid : Int)) = false := decide_eq_false (by omega)
                  go_wp2_with fail
                  go_meet
                  case rel => exact ⟨false, (by first | rfl | simp [h1, h2]), (show _ ∧ _ ∧ _ from ⟨(fun h => by cases h), fun _ => Or.inr (by omega), rfl⟩)⟩
              · have h1' : decide ((a : Int) < (r : Int)) = false := decide_eq_false (by omega)
                go_wp2_with fail
                go_meet
                case rel => exact ⟨false, (by first | rfl | simp [h1]), (show _ ∧ _ ∧ _ from ⟨(fun h => by cases h), fun _ => Or.inl (by omega), rfl⟩)⟩
            case rest => as_aux_lemma =>
              obtain ⟨bb, rfl, HB⟩ := hcut
              obtain rfl := HB.out.2.2
              go_upto_if 199 with fail
              go_cut [24] (fun s24 wx => s24 = .int .i64 ee ∧ Hid (Turned w g cap pb kind mm a mid mid ee b d wx))
              case first => as_aux_lemma =>
                cases bb
                · have HQ := Lib.hid (turned_leftNot H1.out H2.out H3.out H4.out (HB.out.2.1 rfl))
                  go_wp2_with fail
                  go_meet
                  case rel => exact ⟨rfl, HQ⟩
                · obtain ⟨h1, h2⟩ := HB.out.1 rfl
                  have hc := IH.out a r mid (by omega) h1 h2 (by omega) _ D H1.out.1 (H2.out.trans HN.out) H4.out.l1 H4.out.l2
                  have HC := Lib.hid hc; clear hc
                  go_wp2_with fail
                  refine HC.out.mono ?_
                  rintro e w2 ⟨rfl, hq⟩
                  have HQ := Lib.hid (turned_left H1.out H2.out H3.out H4.out (show MergedTo _ _ _ _ _ _ _ _ _ (.returned (.tuple #[])) _ from ⟨rfl, hq⟩) (by omega) (by omega) (by rw [HN.out]; exact hbn)); clear hq
                  go_wp2_with fail
                  go_meet
                  case rel => exact ⟨rfl, HQ⟩
              case rest => as_aux_lemma =>
                clear H1 H2 H3 H4 HB D
                obtain ⟨rfl, HT⟩ := hcut
                obtain ⟨D, h1, h2, h3, h4⟩ := HT.out
                have H1 := Lib.hid h1; have H2 := Lib.hid h2; have H3 := Lib.hid h3; have H4 := Lib.hid h4
                clear h1 h2 h3 h4 HT
                by_cases h1 : mid < ee
                · by_cases h2 : ee < b
                  · have hc := IH.out mid ee b (by omega) h1 h2 (by omega) _ D H1.out.1 (H2.out.trans HN.out) H4.out.r1 H4.out.r2
                    have HC := Lib.hid hc; clear hc
                    go_wp2_with fail
                    refine HC.out.mono ?_
                    rintro e w2 ⟨rfl, hq⟩
                    have HQ := Lib.hid (merged_right H1.out H2.out H3.out H4.out (show MergedTo _ _ _ _ _ _ _ _ _ (.returned (.tuple #[])) _ from ⟨rfl, hq⟩) (by omega) (by rw [HN.out]; exact hbn)); clear hq
                    go_wp2_with fail
                    go_end0
                    exact HQ.out
                  · have HQ := Lib.hid (merged_rightNot H1.out H3.out H4.out (Or.inr (by omega)))
                    have h2' : decide ((ee : Int) < (b : Int)) = false := decide_eq_false (by omega)
                    go_wp2_with fail
                    go_end0
                    exact HQ.out
                · have HQ := Lib.hid (merged_rightNot H1.out H3.out H4.out (Or.inl (by omega)))
                  have h1' : decide ((mid : Int) < (ee : Int)) = false := decide_eq_false (by omega)
                  go_wp2_with fail
                  go_end0
                  exact HQ.out

/-- The merging of two sorted parts that lie side by side. -/
theorem symMerge_any {g cap pb n : Nat} {kind mm : Int} (ok : OrdOk kind mm) (hb : n ≤ 1048576) (c' : Nat) : ∀ N, Merges g cap pb n kind mm c' N
  | 0 => fun a m b hN ham hmb _ _ _ _ _ _ _ => by omega
  | N + 1 => fun a m b hN ham hmb hbn w d h hn hs1 hs2 => by
    by_cases h1 : m = a + 1
    · subst h1
      have := mergeFirst_any h ok hn hb c' a b hmb hbn hs2
      rw [Int.natCast_add]
      exact this
    · by_cases h2 : b = m + 1
      · subst h2
        have := mergeLast_any h ok hn hb c' a m (by omega) hbn hs1
        rw [Int.natCast_add]
        exact this
      · exact symMerge_mid h ok hn hb c' a m b N (by omega) (by omega) hbn hs1 hs2 (symMerge_any ok hb c' N) hN

end Go.Nl
