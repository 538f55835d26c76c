/- The reference's Bag. -/
import Derived.Test.YtgdjfgbipmajmaaSpecD
namespace Go.Nl
open Go.RowKit Go.Sort Go.Proofs

theorem inOrd_unique {lt : Int → Int → Bool} (hT : ∀ {x y : Int}, lt x y = false → lt y x = false → x = y) (hI : ∀ x, lt x x = false) : ∀ {a b : List Int}, a.Perm b → InOrd lt a → InOrd lt b → a = b
  | [], b, h, _, _ => (List.nil_perm.1 h).symm ▸ rfl
  | x :: l, [], h, _, _ => by have := h.length_eq; simp at this
  | x :: l, y :: r, h, ha, hb => by
    have hx : x ∈ y :: r := h.mem_iff.1 (by simp)
    have hy : y ∈ x :: l := h.mem_iff.2 (by simp)
    have e1 : lt x y = false := by
      rcases List.mem_cons.1 hx with rfl | hx
      · exact hI _
      · exact (List.pairwise_cons.1 hb).1 x hx
    have e2 : lt y x = false := by
      rcases List.mem_cons.1 hy with rfl | hy
      · exact hI _
      · exact (List.pairwise_cons.1 ha).1 y hy
    obtain rfl := hT e1 e2
    rw [inOrd_unique hT hI h.cons_inv (List.pairwise_cons.1 ha).2 (List.pairwise_cons.1 hb).2]

theorem inOrd_up {a b : List Int} (h : a.Perm b) (ha : InOrd (ltK 0 0) a) (hb : InOrd (ltK 0 0) b) : a = b :=
  inOrd_unique (fun h1 h2 => ltK_total (Or.inl rfl) h1 h2) (ltK_swo 0 0).irrefl h ha hb

set_option maxRecDepth 100000 in
theorem bag_any {w : World} {a1 a2 : Option Addr} {c1 c2 n : Nat} {xs ys : List Int} (hx : CellsAt w a1 (xs.map intV)) (hy : CellsAt w a2 (ys.map intV)) (h1 : a1 = none → c1 = 0) (h2 : a2 = none → c2 = 0)
    (hp : xs.Perm ys) (hnx : xs.length = n) (hn : n ≤ 1048576) :
    Calls Try.prog 31 #[.slice a1 n c1, .slice a2 n c2] w fun e w' => e = .returned (.bool true) ∧ Kept No w w' := by
  have hny : ys.length = n := by rw [← hp.length_eq, hnx]
  have hs1 := sorted_any (kind := 0) (m := 0) (n' := c1) xs hx h1 (Or.inl rfl) (by omega)
  have hs2 : ∀ W, Kept No w W → Calls Try.prog 29 #[.slice a2 n c2, .agg #[.int .i64 0, .int .i64 0]] W (Sorted' W 0 0 ys) := fun W k => by
    rw [← hny]
    exact sorted_any (kind := 0) (m := 0) (n' := c2) ys (hy.keptNo k) h2 (Or.inl rfl) (by omega)
  rw [hnx] at hs1
  have HS1 := Lib.hid hs1; have HS2 := Lib.hid hs2; have HNX := Lib.hid hnx; have HNY := Lib.hid hny; have HP := Lib.hid hp
  clear hs1 hs2 hnx hny hx hy h1 h2 hp
  go_enter Try.func31, Try.ntmps31
  go_wp2_with fail
  refine HS1.out.mono ?_
  rintro e w1 ⟨ad, c, L, rfl, p1, o1, r1, k1⟩
  rw [HNX.out] at r1 ⊢
  have R1 := Lib.hid r1; have K1 := Lib.hid k1; have P1 := Lib.hid p1; have O1 := Lib.hid o1; clear r1 k1 p1 o1
  go_wp2_with fail
  refine (HS2.out w1 K1.out).mono ?_
  rintro e w2 ⟨ad2, c2', L2, rfl, p2, o2, r2, k2⟩
  obtain rfl : L = L2 := inOrd_up ((P1.out.trans HP.out).trans p2.symm) O1.out o2
  rw [HNY.out] at r2 ⊢
  have hl : L.length = n := by rw [P1.out.length_eq, HNX.out]
  have he := equalInt L ad ad2 c c2' w2 ((R1.out.keptNo k2).cells) r2.cells (by omega)
  rw [hl] at he
  have HE := Lib.hid he; have K2 := Lib.hid (K1.out.trans k2 (fun _ _ h => h)); clear he k2 r2 p2 o2 hl
  go_wp2_with fail
  refine HE.out.mono ?_
  rintro e w3 ⟨rfl, k3⟩
  have K3 := Lib.hid (K2.out.trans k3 (fun _ _ h => h)); clear k3
  go_wp2_with fail
  go_ret
  exact ⟨rfl, K3.out⟩

end Go.Nl
