/- slices.Equal of rows that hold the same; HeapRun. -/
import Derived.Test.YtgdjfgbipmajmaaRun
namespace Go.Nl
open Go.RowKit Go.Sort Go.Proofs

theorem gotCells_at (gs : List Got) : ∀ (j : Nat) (g : Got), gs[j]? = some g → (gs.flatMap gotCells)[j * 2]? = some (.int .i64 g.1) ∧ (gs.flatMap gotCells)[j * 2 + 1]? = some (.bool g.2) := by
  induction gs with
  | nil => intro j g h; simp at h
  | cons a l ih =>
    intro j g h
    cases j with
    | zero =>
      simp at h; subst h
      exact ⟨rfl, rfl⟩
    | succ j =>
      simp only [List.getElem?_cons_succ] at h
      obtain ⟨h1, h2⟩ := ih j g h
      rw [List.flatMap_cons]
      refine ⟨?_, ?_⟩
      · rw [List.getElem?_append_right (by simp [gotCells]; omega)]
        rw [show (j + 1) * 2 - (gotCells a).length = j * 2 by simp [gotCells]; omega]; exact h1
      · rw [List.getElem?_append_right (by simp [gotCells]; omega)]
        rw [show (j + 1) * 2 + 1 - (gotCells a).length = j * 2 + 1 by simp [gotCells]; omega]; exact h2

set_option maxHeartbeats 1000000 in
set_option maxRecDepth 100000 in
theorem equalGot (gs : List Got) (a1 a2 : Option Addr) (c1 c2 : Nat) (w : World) (h1 : CellsAt w a1 (gs.flatMap gotCells)) (h2 : CellsAt w a2 (gs.flatMap gotCells)) (hn : gs.length ≤ 1000000) :
    Calls Try.prog 27 #[.slice a1 gs.length c1, .slice a2 gs.length c2] w fun e w' => e = .returned (.bool true) ∧ Kept No w w' := by
  obtain ⟨n, hnn⟩ : ∃ n, gs.length = n := ⟨_, rfl⟩
  rw [hnn] at hn ⊢
  have H1 := Lib.hid h1; have H2 := Lib.hid h2; have HN := Lib.hid hnn; clear h1 h2 hnn
  go_enter Try.func27, Try.ntmps27
  go_wp2_with fail
  go_loopg [13] (n + 1) (fun g si wr => ∃ k : Nat, si = .int .i64 k ∧ k ≤ n ∧ n + 1 - k ≤ g ∧ Hid (Kept No w wr))
  case atStart => exact ⟨0, rfl, by omega, by omega, Kept.refl _ _⟩
  case round =>
    obtain ⟨k, rfl, hk, hg, HK⟩ := hrel
    by_cases hkn : k < n
    · have hkl : k < gs.length := by rw [HN.out]; exact hkn
      obtain ⟨gt, hgt⟩ : ∃ x, gs[k]? = some x := ⟨_, List.getElem?_eq_getElem hkl⟩
      obtain ⟨e1, e2⟩ := gotCells_at gs k gt hgt
      obtain ⟨b1, o1, ha1, c10⟩ := (H1.out.keptNo HK.out) _ _ e1
      obtain ⟨b1', o1', ha1', c11⟩ := (H1.out.keptNo HK.out) _ _ e2
      obtain ⟨b2, o2, ha2, c20⟩ := (H2.out.keptNo HK.out) _ _ e1
      obtain ⟨b2', o2', ha2', c21⟩ := (H2.out.keptNo HK.out) _ _ e2
      subst ha1 ha2
      injection ha1' with ha1'
      injection ha2' with ha2'
      injection ha1' with i1 i2 i3
      injection ha2' with j1 j2 j3
      subst i1 i2 j1 j2
      obtain ⟨x, b⟩ := gt
      simp only at c10 c11 c20 c21
      rw [← Nat.add_assoc] at c11 c21
      clear hgt e1 e2 i3 j3
      go_wp2_with fail
      go_region
      go_wp2_with fail
      go_roundg (n + 1 - (k + 1))
      case measure => omega
      case rel => exact ⟨k + 1, by go_num, by omega, by omega, HK.out.drew⟩
    · obtain rfl : k = n := by omega
      go_wp2_with fail
      go_ret
      exact ⟨rfl, HK.out⟩

/-- What HeapRun hands back: what was told, in a new row. -/
def RunPost (w : World) (gs : List Got) (g cap : Nat) (w' : World) : Prop := RowAt w' g gs.length cap 33 2 (gs.flatMap gotCells) ∧ Kept No w w' ∧ w.heap.size ≤ g

set_option maxRecDepth 100000 in
theorem heapRun_any (kind m : Int) (ok : OrdOk kind m) (ss : List Step) (hss : Small ss 1000 1000) (ad : Option Addr) (n' : Nat) (w : World) (hs : StepsAt w ad ss) :
    Calls Try.prog 22 #[.agg #[.int .i64 kind, .int .i64 m], .slice ad ss.length n'] w fun e w' => ∃ g cap, e = .returned (.slice (some ⟨g, 0, none⟩) (runH (ltK kind m) ss).2.length cap) ∧ RunPost w (runH (ltK kind m) ss).2 g cap w' := by
  have k1 : Kept No w (w.alloc (.cells #[.int .i64 kind, .int .i64 m] 23)) := (Kept.refl No w).alloc _
  have hr := heaped_any kind m ok ss hss ad n' _ (hs.keptNo k1)
  have fin : ∀ hb g cap w', HeapedPost (w.alloc (.cells #[.int .i64 kind, .int .i64 m] 23)) kind m (runH (ltK kind m) ss) hb g cap w' → RunPost w (runH (ltK kind m) ss).2 g cap w' := by
    intro hb g cap w' h
    obtain ⟨lb, ao, c, ob, h1, h2, h3, h4, h5, h6, h7, h8, h9, h10, h11⟩ := h
    simp only [World.size_alloc] at h8
    exact ⟨h2, k1.trans h3 (fun _ _ h => h), by omega⟩
  generalize ss.length = n at hr ⊢
  have HR := Lib.hid hr; have HF := Lib.hid fin; clear hr fin k1 hs hss
  go_enter Try.func22, Try.ntmps22
  go_wp2_with fail
  refine HR.out.mono ?_
  rintro e w2 ⟨hb, g, cap, rfl, hp⟩
  have HP := Lib.hid (HF.out hb g cap w2 hp); clear hp
  go_wp2_with fail
  go_ret
  exact ⟨g, cap, rfl, HP.out⟩

/-- It answers, and a yes says p. -/
def Says (p : Prop) (w : World) (e : Ending) (w' : World) : Prop := ∃ b, e = .returned (.bool b) ∧ (b = true → p) ∧ Kept No w w'

theorem plain_any (kind m : Int) (w : World) : Calls Try.prog 26 #[.agg #[.int .i64 kind, .int .i64 m]] w (Says (kind = 0 ∨ kind = 1) w) := by
  have k1 : Kept No w (w.alloc (.cells #[.int .i64 kind, .int .i64 m] 23)) := (Kept.refl No w).alloc _
  have K := Lib.hid k1; clear k1
  by_cases h0 : kind = 0
  · subst h0
    go_enter Try.func26, Try.ntmps26
    go_wp2
    go_ret
    exact ⟨true, rfl, fun _ => (by simp), K.out⟩
  · by_cases h1 : kind = 1
    · subst h1
      go_enter Try.func26, Try.ntmps26
      go_wp2
      go_ret
      exact ⟨true, rfl, fun _ => (by simp), K.out⟩
    · have h0' : (kind == 0) = false := beq_eq_false_iff_ne.2 h0
      have h1' : (kind == 1) = false := beq_eq_false_iff_ne.2 h1
      go_enter Try.func26, Try.ntmps26
      go_wp2
      go_ret
      exact ⟨false, rfl, fun h => (by cases h), K.out⟩

theorem orderOk_any (kind m : Int) (w : World) : Calls Try.prog 20 #[.agg #[.int .i64 kind, .int .i64 m]] w (Says (OrdOk kind m) w) := by
  have k1 : Kept No w (w.alloc (.cells #[.int .i64 kind, .int .i64 m] 23)) := (Kept.refl No w).alloc _
  have hp := plain_any kind m (w.alloc (.cells #[.int .i64 kind, .int .i64 m] 23))
  have hlt : ((w.alloc (.cells #[.int .i64 kind, .int .i64 m] 23))).cell? ⟨w.heap.size, 0, none⟩ = some (.int .i64 kind) := by rw [(Blk.new w _ 23).cell]; rfl
  have hlt1 : ((w.alloc (.cells #[.int .i64 kind, .int .i64 m] 23))).cell? ⟨w.heap.size, 1, none⟩ = some (.int .i64 m) := by rw [(Blk.new w _ 23).cell]; rfl
  have hK : ∀ w2, Kept No (w.alloc (.cells #[.int .i64 kind, .int .i64 m] 23)) w2 → Kept No w w2 ∧ w2.cell? ⟨w.heap.size, 0, none⟩ = some (.int .i64 kind) ∧ w2.cell? ⟨w.heap.size, 1, none⟩ = some (.int .i64 m) :=
    fun w2 k2 => ⟨k1.trans k2 (fun _ _ h => h), cell_keptNo hlt k2, cell_keptNo hlt1 k2⟩
  have HP := Lib.hid hp; have HK := Lib.hid hK; clear k1 hp hlt hlt1 hK
  by_cases h0 : kind = 2 ∧ 1 ≤ m ∧ m ≤ 1000
  · obtain ⟨rfl, h1, h2⟩ := h0
    go_enter Try.func20, Try.ntmps20
    go_wp2_with fail
    refine HP.out.mono ?_
    rintro e w2 ⟨b, rfl, hb, k2⟩
    obtain ⟨k3, c0, c1⟩ := HK.out w2 k2
    have K3 := Lib.hid k3; clear k2 k3 hb
    cases b
    · go_wp2
      go_ret
      exact ⟨_, rfl, fun _ => Or.inr (Or.inr ⟨rfl, h1, h2⟩), K3.out⟩
    · go_wp2
      go_ret
      exact ⟨true, rfl, fun _ => Or.inr (Or.inr ⟨rfl, h1, h2⟩), K3.out⟩
  · by_cases hk : kind = 2
    · subst hk
      have hm : ¬ (1 ≤ m ∧ m ≤ 1000) := fun h => h0 ⟨rfl, h⟩
      clear h0
      by_cases m1 : 1 ≤ m
      · have m2 : ¬ m ≤ 1000 := fun h => hm ⟨m1, h⟩
        have m2' : decide (m ≤ 1000) = false := decide_eq_false m2
        clear hm m2
        go_enter Try.func20, Try.ntmps20
        go_wp2_with fail
        refine HP.out.mono ?_
        rintro e w2 ⟨b, rfl, hb, k2⟩
        obtain ⟨k3, c0, c1⟩ := HK.out w2 k2
        have K3 := Lib.hid k3; clear k2 k3
        cases b
        · clear hb
          go_wp2
          go_ret
          exact ⟨false, rfl, fun h => (by cases h), K3.out⟩
        · have := hb rfl
          omega
      · clear hm
        go_enter Try.func20, Try.ntmps20
        go_wp2_with fail
        refine HP.out.mono ?_
        rintro e w2 ⟨b, rfl, hb, k2⟩
        obtain ⟨k3, c0, c1⟩ := HK.out w2 k2
        have K3 := Lib.hid k3; clear k2 k3
        cases b
        · clear hb
          go_wp2
          go_ret
          exact ⟨false, rfl, fun h => (by cases h), K3.out⟩
        · have := hb rfl
          omega
    · have hk' : (kind == 2) = false := beq_eq_false_iff_ne.2 hk
      clear h0
      go_enter Try.func20, Try.ntmps20
      go_wp2_with fail
      refine HP.out.mono ?_
      rintro e w2 ⟨b, rfl, hb, k2⟩
      obtain ⟨k3, c0, c1⟩ := HK.out w2 k2
      have K3 := Lib.hid k3; have HB := Lib.hid hb; clear k2 k3 hb
      cases b
      · go_wp2
        go_ret
        exact ⟨false, rfl, fun h => (by cases h), K3.out⟩
      · go_wp2
        go_ret
        exact ⟨true, rfl, fun _ => (HB.out (by simp)).elim Or.inl (fun h => Or.inr (Or.inl h)), K3.out⟩

end Go.Nl
