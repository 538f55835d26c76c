/- The stable sort: its blocks, and the merging of ever longer runs. -/
import Derived.Test.YtgdjfgbipmajmaaSortF
namespace Go.Nl
open Go.RowKit Go.Sort Go.Proofs

/-- The blocks up to s are sorted. -/
structure Blocks (lt : Int → Int → Bool) (bs n s : Nat) (d D : Array Int) : Prop where
  size : D.size = n
  perm : PermIn 0 n d D
  pre : Pre lt bs D s

theorem perm_same {a b : Nat} {d d' : Array Int} (h : PermIn a b d d') (t : Nat) (ht : t < a ∨ b ≤ t) : d'[t]! = d[t]! := h.2.1 t ht

theorem Blocks.next {lt : Int → Int → Bool} {bs n s e : Nat} {d D D' : Array Int} (h : Blocks lt bs n s d D) (he : e = s + bs) (hp : PermIn s e D D') (hs : SortedIn lt s e D') (hn : e ≤ n) (_hd : d.size = n) : Blocks lt bs n e d D' := by
  subst he
  exact ⟨by rw [hp.1, h.size], permIn_trans _ _ _ _ _ h.perm (permIn_grow (Nat.zero_le _) hn (by rw [h.size]; exact Nat.le_refl _) hp),
    (h.pre.congr (fun t ht => perm_same hp t (Or.inl ht))).snoc hs⟩

/-- All are runs. -/
structure AllRuns (lt : Int → Int → Bool) (bs n : Nat) (d D : Array Int) : Prop where
  size : D.size = n
  perm : PermIn 0 n d D
  runs : Runs lt bs n D 0

theorem Blocks.last {lt : Int → Int → Bool} {bs n s : Nat} {d D D' : Array Int} (h : Blocks lt bs n s d D) (hsn : s ≤ n) (hp : PermIn s n D D') (hs : SortedIn lt s n D') (hn : n ≤ s + bs) : AllRuns lt bs n d D' :=
  ⟨by rw [hp.1, h.size], permIn_trans _ _ _ _ _ h.perm (permIn_grow (Nat.zero_le _) (Nat.le_refl _) (by rw [h.size]; exact Nat.le_refl _) hp),
    (h.pre.congr (fun t ht => perm_same hp t (Or.inl ht))).runs hsn (Runs.last hs hn)⟩

/-- Runs of bs places from s on, and runs of twice that up to s. -/
structure Half (lt : Int → Int → Bool) (bs n s : Nat) (d D : Array Int) : Prop where
  blocks : Blocks lt (bs + bs) n s d D
  runs : Runs lt bs n D s

theorem Half.start {lt : Int → Int → Bool} {bs n : Nat} {d D : Array Int} (h : AllRuns lt bs n d D) : Half lt bs n 0 d D := ⟨⟨h.size, h.perm, .zero⟩, h.runs⟩

theorem Half.two {lt : Int → Int → Bool} {bs n s e : Nat} {d D : Array Int} (h : Half lt bs n s d D) (he : e = s + (bs + bs)) (hn : e ≤ n) : SortedIn lt s (s + bs) D ∧ SortedIn lt (s + bs) e D := by
  subst he
  have h1 := h.runs.first
  have h2 := h.runs.next.first
  rw [Nat.min_eq_left (by omega)] at h1 h2
  exact ⟨h1, by rw [← Nat.add_assoc]; exact h2⟩

theorem Half.next {lt : Int → Int → Bool} {bs n s e : Nat} {d D D' : Array Int} (h : Half lt bs n s d D) (he : e = s + (bs + bs)) (hn : e ≤ n) (hd : d.size = n) (hp : PermIn s e D D') (hs : SortedIn lt s e D') : Half lt bs n e d D' := by
  refine ⟨h.blocks.next he hp hs hn hd, ?_⟩
  subst he
  have h2 := h.runs.next.next
  rw [Nat.add_assoc] at h2
  exact h2.congr (fun t ht => perm_same hp t (Or.inr ht))

theorem Half.tail {lt : Int → Int → Bool} {bs n s : Nat} {d D : Array Int} (h : Half lt bs n s d D) (hm : s + bs < n) (he : n < s + (bs + bs)) : SortedIn lt s (s + bs) D ∧ SortedIn lt (s + bs) n D := by
  have h1 := h.runs.first
  have h2 := h.runs.next.first
  rw [Nat.min_eq_left (by omega)] at h1
  rw [Nat.min_eq_right (by omega)] at h2
  exact ⟨h1, h2⟩

theorem Half.done {lt : Int → Int → Bool} {bs n s : Nat} {d D D' : Array Int} (h : Half lt bs n s d D) (hsn : s ≤ n) (he : n < s + (bs + bs)) (hp : PermIn s n D D') (hs : SortedIn lt s n D') : AllRuns lt (bs + bs) n d D' := h.blocks.last hsn hp hs (by omega)

theorem Half.doneShort {lt : Int → Int → Bool} {bs n s : Nat} {d D : Array Int} (h : Half lt bs n s d D) (hsn : s ≤ n) (hm : ¬ s + bs < n) : AllRuns lt (bs + bs) n d D := by
  refine h.blocks.last hsn (permIn_refl _ _ _) ?_ (by omega)
  have h1 := h.runs.first
  rwa [Nat.min_eq_right (by omega)] at h1

/-- All is sorted. -/
def SortedAll (w : World) (g cap pb : Nat) (kind m : Int) (d : Array Int) (e : Ending) (w' : World) : Prop :=
  e = .returned (.tuple #[]) ∧ ∃ d', SortedTo w g cap pb kind m d' w' ∧ PermIn 0 d.size d d' ∧ SortedIn (ltK kind m) 0 d.size d'

theorem ins_spec (kind m : Int) (d : Array Int) (a b : Nat) (hab : a ≤ b) (hb : b ≤ d.size) : PermIn a b d (insertionSort (ltK kind m) d a b) ∧ SortedIn (ltK kind m) a b (insertionSort (ltK kind m) d a b) :=
  insertionSort_holds (ltK_swo kind m) d a b hab hb

set_option maxHeartbeats 4000000 in
set_option maxRecDepth 100000 in
theorem stable_any {w : World} {g cap pb n : Nat} {kind m : Int} {d : Array Int} (h : SortAt w g cap pb kind m d) (ok : OrdOk kind m) (hn : d.size = n) (hb : n ≤ 1048576) (c' : Nat) :
    Calls Try.prog 68 #[.slice (some ⟨g, 0, none⟩) n c', .int .i64 n, cmpFn pb] w (SortedAll w g cap pb kind m d) := by
  have H := Lib.hid h; have HN := Lib.hid hn; clear h hn
  go_enter Try.func68, Try.ntmps68
  go_wp2_with fail
  go_loopg [7, 8] (n + 1) (fun gg sa sb wr => ∃ s : Nat, ∃ D : Array Int, sa = .int .i64 s ∧ sb = .int .i64 ((s : Int) + 20) ∧ s ≤ n ∧ n + 1 - s ≤ gg ∧ Hid (Blocks (ltK kind m) 20 n s d D ∧ SortedTo w g cap pb kind m D wr))
  case atStart => exact ⟨0, d, rfl, rfl, by omega, by omega, (show _ ∧ _ from ⟨⟨HN.out, permIn_refl _ _ _, .zero⟩, H.out, Kept.refl _ _⟩)⟩
  case round =>
    obtain ⟨s, D, rfl, rfl, hs, hg, HI⟩ := hrel
    by_cases hlt : s + 20 ≤ n
    · have hc := insertion_any HI.out.2.1 ok HI.out.1.size hb c' s (s + 20) (by omega) hlt
      have hsp := ins_spec kind m D s (s + 20) (by omega) (by rw [HI.out.1.size]; exact hlt)
      generalize insertionSort (ltK kind m) D s (s + 20) = D' at hc hsp
      rw [Int.natCast_add] at hc
      have HC := Lib.hid hc; have HSP := Lib.hid hsp; clear hc hsp
      go_wp2_with fail
      refine HC.out.mono ?_
      rintro e w2 ⟨rfl, hq⟩
      have HQ := Lib.hid hq; clear hq
      go_wp2_with fail
      go_roundg (n + 1 - (s + 20))
      case measure => omega
      case rel =>
        refine ⟨s + 20, D', by go_num, by go_num, by omega, by omega, ?_⟩
        show _ ∧ _
        exact ⟨HI.out.1.next rfl HSP.out.1 HSP.out.2 hlt HN.out, HQ.out.1, HI.out.2.2.trans HQ.out.2 (fun _ _ h => h)⟩
    · have hc := insertion_any HI.out.2.1 ok HI.out.1.size hb c' s n hs (Nat.le_refl _)
      have hsp := ins_spec kind m D s n hs (by rw [HI.out.1.size]; exact Nat.le_refl _)
      generalize insertionSort (ltK kind m) D s n = D' at hc hsp
      have HC := Lib.hid hc
      have HR := Lib.hid (HI.out.1.last hs hsp.1 hsp.2 (by omega))
      clear hc hsp
      go_wp2_with fail
      refine HC.out.mono ?_
      rintro e w2 ⟨rfl, hq⟩
      have HQ := Lib.hid (show SortedTo w g cap pb kind m D' w2 from ⟨hq.1, HI.out.2.2.trans hq.2 (fun _ _ h => h)⟩); clear hq
      go_wp2_with fail
      go_loopg [6, 7, 8, 9] (n + 1) (fun gg s6 s7 s8 s9 wr => ∃ bs : Nat, ∃ E : Array Int, s6 = .int .i64 bs ∧ 1 ≤ bs ∧ bs ≤ 2097152 ∧ n + 1 - bs ≤ gg ∧ Hid (AllRuns (ltK kind m) bs n d E ∧ SortedTo w g cap pb kind m E wr))
      case atStart => exact ⟨20, D', rfl, by omega, by omega, by omega, (show _ ∧ _ from ⟨HR.out, HQ.out⟩)⟩
      case round =>
        obtain ⟨bs, E, rfl, hb1, hb2, hg2, HJ⟩ := hrel
        by_cases hbn : bs < n
        · obtain ⟨b2, hb2l, hb2g⟩ : ∃ b2 : Nat, b2 ≤ bs + bs ∧ bs + bs ≤ b2 := ⟨bs + bs, Nat.le_refl _, Nat.le_refl _⟩
          have t1 : IntKind.i64.wrap (2 * (bs : Int)) = (b2 : Int) := by rw [IntWalk.i64_in _ (by omega)]; omega
          have t2 : IntKind.i64.wrap ((bs : Int) * 2) = (b2 : Int) := by rw [IntWalk.i64_in _ (by omega)]; omega
          go_wp2_with fail
          go_loopg [7, 8] (n + 1) (fun gg sa sb wj => ∃ s e : Nat, ∃ D : Array Int, sa = .int .i64 s ∧ sb = .int .i64 e ∧ e ≤ s + b2 ∧ s + b2 ≤ e ∧ s ≤ n ∧ n + 1 - s ≤ gg ∧ Hid (Half (ltK kind m) bs n s d D ∧ SortedTo w g cap pb kind m D wj))
          case atStart => exact ⟨0, b2, E, rfl, rfl, by omega, by omega, by omega, by omega, (show _ ∧ _ from ⟨Half.start HJ.out.1, HJ.out.2⟩)⟩
          case round =>
            obtain ⟨s, e, D, rfl, rfl, he1, he2, hs, hg3, HK⟩ := hrel
            obtain ⟨mm, hm1, hm2⟩ : ∃ mm : Nat, mm ≤ s + bs ∧ s + bs ≤ mm := ⟨s + bs, Nat.le_refl _, Nat.le_refl _⟩
            have t3 : IntKind.i64.wrap ((s : Int) + (bs : Int)) = (mm : Int) := by rw [IntWalk.i64_in _ (by omega)]; omega
            have em : s + bs = mm := by omega
            have ee : e = s + (bs + bs) := by omega
            by_cases hle : e ≤ n
            · have htwo := HK.out.1.two ee hle
              rw [em] at htwo
              have hc := symMerge_any (g := g) (cap := cap) (pb := pb) ok hb c' (e - s) s mm e (Nat.le_refl _) (by omega) (by omega) hle wr D HK.out.2.1 HK.out.1.blocks.size htwo.1 htwo.2
              obtain ⟨e2, he2l, he2g⟩ : ∃ e2 : Nat, e2 ≤ e + b2 ∧ e + b2 ≤ e2 := ⟨e + b2, Nat.le_refl _, Nat.le_refl _⟩
              have t4 : IntKind.i64.wrap ((e : Int) + (b2 : Int)) = (e2 : Int) := by rw [IntWalk.i64_in _ (by omega)]; omega
              have HEE := Lib.hid ee
              have HC := Lib.hid hc; clear hc htwo em ee
              go_wp2_with fail
              refine HC.out.mono ?_
              rintro ed w2 ⟨rfl, D2, hq, hp, hso⟩
              have HQ := Lib.hid hq; have HP := Lib.hid hp; have HSO := Lib.hid hso; clear hq hp hso
              go_wp2_with fail
              go_roundg (n + 1 - e)
              case measure => omega
              case rel =>
                refine ⟨e, e2, D2, rfl, rfl, by omega, by omega, by omega, by omega, ?_⟩
                show _ ∧ _
                exact ⟨HK.out.1.next HEE.out hle HN.out HP.out HSO.out, HQ.out.1, HK.out.2.2.trans HQ.out.2 (fun _ _ h => h)⟩
            · by_cases hmn : mm < n
              · have htwo := HK.out.1.tail (by omega) (by omega)
                rw [em] at htwo
                have hc := symMerge_any (g := g) (cap := cap) (pb := pb) ok hb c' (n - s) s mm n (Nat.le_refl _) (by omega) (by omega) (Nat.le_refl _) wr D HK.out.2.1 HK.out.1.blocks.size htwo.1 htwo.2
                have HC := Lib.hid hc; clear hc htwo em ee
                go_wp2_with fail
                refine HC.out.mono ?_
                rintro ed w2 ⟨rfl, D2, hq, hp, hso⟩
                have HQ := Lib.hid hq; clear hq
                have hfin := HK.out.1.done hs (by omega) hp hso
                rw [show bs + bs = b2 by omega] at hfin
                have HFIN := Lib.hid hfin; clear hfin hp hso
                go_wp2_with fail
                go_roundg (n + 1 - b2)
                case measure => omega
                case rel =>
                  refine ⟨b2, D2, rfl, by omega, by omega, by omega, ?_⟩
                  show _ ∧ _
                  exact ⟨HFIN.out, HQ.out.1, HK.out.2.2.trans HQ.out.2 (fun _ _ h => h)⟩
              · have hfin := HK.out.1.doneShort hs (by omega)
                rw [show bs + bs = b2 by omega] at hfin
                have HFIN := Lib.hid hfin; clear hfin em ee
                go_wp2_with fail
                go_roundg (n + 1 - b2)
                case measure => omega
                case rel =>
                  refine ⟨b2, D, rfl, by omega, by omega, by omega, ?_⟩
                  show _ ∧ _
                  exact ⟨HFIN.out, HK.out.2⟩
        · have HF := Lib.hid (HJ.out.1.runs.whole (by omega))
          go_wp2_with fail
          go_end0
          have hd := HN.out
          subst hd
          exact ⟨rfl, E, HJ.out.2, HJ.out.1.perm, HF.out⟩

end Go.Nl
