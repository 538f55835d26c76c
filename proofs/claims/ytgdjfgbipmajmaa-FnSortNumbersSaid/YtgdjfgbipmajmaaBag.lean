/- Numbers taken out of interface values; the reference's Bag. (For FnSortNumbers: the same as in IterD and SpecE, over fewer texts.) -/
import Derived.Test.YtgdjfgbipmajmaaSpecB
namespace Go.Nl
open Go.RowKit Go.Sort Go.Proofs

/-- What numbers leaves: a new row of the numbers. -/
def NumbersRow (w : World) (xs : List Int) (e : Ending) (w' : World) : Prop := ∃ g cap, e = .returned (.slice (some ⟨g, 0, none⟩) xs.length cap) ∧ RowAt w' g xs.length cap 3 1 (xs.map intV) ∧ Kept No w w' ∧ w.heap.size ≤ g

theorem take_map_int (xs : List Int) (k : Nat) (hk : k < xs.length) (x : Int) (hx : xs[k]? = some x) : (xs.take k).map intV ++ [intV x] = (xs.take (k + 1)).map intV := by
  rw [List.take_succ_eq_append_getElem hk, List.map_append]
  rw [List.getElem?_eq_getElem hk] at hx
  injection hx with hx
  rw [hx]; rfl

set_option maxHeartbeats 1000000 in
set_option maxRecDepth 100000 in
theorem numbers_any (xs : List Int) (ad : Option Addr) (n' : Nat) (w : World) (hx : CellsAt w ad (xs.map box)) (hn : xs.length ≤ 1048576) :
    Calls Try.prog 53 #[.slice ad xs.length n'] w (NumbersRow w xs) := by
  obtain ⟨i, hi, hz, hs, hb⟩ := i3_parts
  obtain ⟨n, hnn⟩ : ∃ n, xs.length = n := ⟨_, rfl⟩
  rw [hnn] at hn ⊢
  have ta := assert_int
  have Hi := Lib.hid hi; have Hz := Lib.hid hz; have Hs := Lib.hid hs; have Hb := Lib.hid hb; have Hx := Lib.hid hx; have Hn := Lib.hid hnn
  clear hi hz hs hb hx hnn
  go_enter Try.func53, Try.ntmps53
  go_wp2_with fail
  go_loopg [3, 9] (n + 1) (fun g s3 si wr => ∃ k b cap : Nat, s3 = .slice (some ⟨b, 0, none⟩) k cap ∧ si = .int .i64 k ∧ k ≤ n ∧ n + 1 - k ≤ g ∧ Hid (RowAt wr b k cap 3 1 ((xs.take k).map intV) ∧ Kept No w wr ∧ w.heap.size ≤ b))
  case atStart =>
    refine ⟨0, _, 0, rfl, rfl, by omega, by omega, ?_⟩
    show _ ∧ _
    exact ⟨RowAt.new w #[] 3 1 0 rfl, (Kept.refl No w).alloc _, Nat.le_refl _⟩
  case round =>
    obtain ⟨k, b, cap, rfl, rfl, hk, hg, HR⟩ := hrel
    by_cases hkn : k < n
    · have hkl : k < xs.length := by rw [Hn.out]; exact hkn
      obtain ⟨x, hx⟩ : ∃ x, xs[k]? = some x := ⟨_, List.getElem?_eq_getElem hkl⟩
      obtain ⟨vb, vo, had, hc⟩ := (Hx.out.keptNo HR.out.2.1) k (box x) (by rw [List.getElem?_map, hx]; rfl)
      subst had
      have k1 : Kept No wr (wr.alloc (.cells #[intV x] 3)) := (Kept.refl No wr).alloc _
      have hrow := HR.out.1.kept k1 (fun h => h)
      obtain ⟨g', cap', w3, hap, hr3, hk3, hg3⟩ := append_row (P := Try.prog) 29 29 i (.int .i64 0) 1 8 hrow (by kernel_rfl) Hi.out Hz.out Hs.out Hb.out rfl ⟨wr.heap.size, 0, none⟩ 1 1 [intV x] rfl
        (fun j u hu => by
          rw [add_zero_off]
          exact (RowAt.new wr #[intV x] 3 1 1 rfl).cell j u hu) (fun u hu => by simp at hu; subst hu; rfl) (by omega) (by omega)
      rw [take_map_int xs k hkl x hx] at hr3
      have hb0 := HR.out.2.2
      have hks := HR.out.2.1
      have hws := hks.size
      have fin : RowAt w3 g' (k + 1) cap' 3 1 ((xs.take (k + 1)).map intV) ∧ Kept No w w3 ∧ w.heap.size ≤ g' := by
        refine ⟨hr3, hks.trans (Kept.trans (S := fun i => i = b) (k1.mono (fun _ _ h => h.elim)) hk3 (fun _ _ h => h)) (fun i hi h => by omega), ?_⟩
        rcases hg3 with rfl | h
        · exact hb0
        · simp at h; omega
      have HF := Lib.hid fin; have HA := Lib.hid hap
      clear k1 hrow hr3 hk3 hg3 hks hx fin hb0 hap
      unfold box at hc
      unfold intV at *
      go_wp2_with (at_builtin; refine wpList_append_run rfl (.tmp 13) (.tmp 16) 29 rfl _ _ _ rfl rfl HA.out ?_)
      go_roundg (n + 1 - (k + 1))
      case measure => omega
      case rel => exact ⟨k + 1, g', cap', rfl, by go_num, by omega, by omega, HF.out⟩
    · obtain rfl : k = n := by omega
      go_wp2_with fail
      go_ret
      obtain ⟨h1, h2, h3⟩ := HR.out
      rw [List.take_of_length_le (by rw [Hn.out]; omega)] at h1
      exact ⟨b, cap, by rw [Hn.out]; rfl, by rw [Hn.out]; exact h1, h2, h3⟩

theorem inOrd_unique {lt : Int → Int → Bool} (hT : ∀ {x y : Int}, lt x y = false → lt y x = false → x = y) (hI : ∀ x, lt x x = false) : ∀ {a b : List Int}, a.Perm b → InOrd lt a → InOrd lt b → a = b
  | [], b, h, _, _ => (List.nil_perm.1 h).symm ▸ rfl
  | x :: l, [], h, _, _ => by have := h.length_eq; simp at this
  | x :: l, y :: r, h, ha, hb => by
    have hx : x ∈ y :: r := h.mem_iff.1 (by simp)
    have hy : y ∈ x :: l := h.mem_iff.2 (by simp)
    have e1 : lt x y = false := by
      rcases List.mem_cons.1 hx with rfl | hx
      · exact hI _
      · exact (List.pairwise_cons.1 hb).1 x hx
    have e2 : lt y x = false := by
      rcases List.mem_cons.1 hy with rfl | hy
      · exact hI _
      · exact (List.pairwise_cons.1 ha).1 y hy
    obtain rfl := hT e1 e2
    rw [inOrd_unique hT hI h.cons_inv (List.pairwise_cons.1 ha).2 (List.pairwise_cons.1 hb).2]

theorem inOrd_up {a b : List Int} (h : a.Perm b) (ha : InOrd (ltK 0 0) a) (hb : InOrd (ltK 0 0) b) : a = b :=
  inOrd_unique (fun h1 h2 => ltK_total (Or.inl rfl) h1 h2) (ltK_swo 0 0).irrefl h ha hb

set_option maxRecDepth 100000 in
theorem bag_any {w : World} {a1 a2 : Option Addr} {c1 c2 n : Nat} {xs ys : List Int} (hx : CellsAt w a1 (xs.map intV)) (hy : CellsAt w a2 (ys.map intV)) (h1 : a1 = none → c1 = 0) (h2 : a2 = none → c2 = 0)
    (hp : xs.Perm ys) (hnx : xs.length = n) (hn : n ≤ 1048576) :
    Calls Try.prog 31 #[.slice a1 n c1, .slice a2 n c2] w fun e w' => e = .returned (.bool true) ∧ Kept No w w' := by
  have hny : ys.length = n := by rw [← hp.length_eq, hnx]
  have hs1 := sorted_any (kind := 0) (m := 0) (n' := c1) xs hx h1 (Or.inl rfl) (by omega)
  have hs2 : ∀ W, Kept No w W → Calls Try.prog 29 #[.slice a2 n c2, .agg #[.int .i64 0, .int .i64 0]] W (Sorted' W 0 0 ys) := fun W k => by
    rw [← hny]
    exact sorted_any (kind := 0) (m := 0) (n' := c2) ys (hy.keptNo k) h2 (Or.inl rfl) (by omega)
  rw [hnx] at hs1
  have HS1 := Lib.hid hs1; have HS2 := Lib.hid hs2; have HNX := Lib.hid hnx; have HNY := Lib.hid hny; have HP := Lib.hid hp
  clear hs1 hs2 hnx hny hx hy h1 h2 hp
  go_enter Try.func31, Try.ntmps31
  go_wp2_with fail
  refine HS1.out.mono ?_
  rintro e w1 ⟨ad, c, L, rfl, p1, o1, r1, k1⟩
  rw [HNX.out] at r1 ⊢
  have R1 := Lib.hid r1; have K1 := Lib.hid k1; have P1 := Lib.hid p1; have O1 := Lib.hid o1; clear r1 k1 p1 o1
  go_wp2_with fail
  refine (HS2.out w1 K1.out).mono ?_
  rintro e w2 ⟨ad2, c2', L2, rfl, p2, o2, r2, k2⟩
  obtain rfl : L = L2 := inOrd_up ((P1.out.trans HP.out).trans p2.symm) O1.out o2
  rw [HNY.out] at r2 ⊢
  have hl : L.length = n := by rw [P1.out.length_eq, HNX.out]
  have he := equalInt L ad ad2 c c2' w2 ((R1.out.keptNo k2).cells) r2.cells (by omega)
  rw [hl] at he
  have HE := Lib.hid he; have K2 := Lib.hid (K1.out.trans k2 (fun _ _ h => h)); clear he k2 r2 p2 o2 hl
  go_wp2_with fail
  refine HE.out.mono ?_
  rintro e w3 ⟨rfl, k3⟩
  have K3 := Lib.hid (K2.out.trans k3 (fun _ _ h => h)); clear k3
  go_wp2_with fail
  go_ret
  exact ⟨rfl, K3.out⟩

end Go.Nl
