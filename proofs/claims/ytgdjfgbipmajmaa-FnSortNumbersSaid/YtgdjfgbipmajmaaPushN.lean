/- The heap's Push of several numbers, or of none: what it leaves. -/
import Derived.Test.YtgdjfgbipmajmaaPush
namespace Go.Nl
open Go.RowKit Go.Sort Go.Proofs

/-- A slice of numbers in interface values: its cells. -/
def Boxes (w : World) (ad : Option Addr) (xs : List Int) : Prop :=
  ∀ j, j < xs.length → ∃ vb vo, ad = some ⟨vb, vo, none⟩ ∧ w.cell? ⟨vb, vo + j, none⟩ = some (box (xs.getD j 0))

theorem Boxes.kept {S : Nat → Prop} {w w' : World} {ad : Option Addr} {xs : List Int} (h : Boxes w ad xs) (k : Kept S w w') (hS : ∀ a, ad = some a → ¬ S a.block) : Boxes w' ad xs := by
  intro j hj
  obtain ⟨vb, vo, rfl, hc⟩ := h j hj
  refine ⟨vb, vo, rfl, ?_⟩
  rw [← hc]
  refine World.cell?_of_block (w := w) (k.block vb ?_ (hS _ rfl))
  obtain ⟨c, e, fr, hb, _⟩ := cells_of_cell? hc
  exact (Array.getElem?_eq_some_iff.1 hb).1

theorem size_siftDown (lt : Int → Int → Bool) (hi F : Nat) : ∀ (n root : Nat) (d : Array Int), hi - root ≤ n → (siftDown lt hi F root d).size = d.size := by
  intro n
  induction n with
  | zero => intro root d hn; rw [siftDown, dif_pos (by omega)]
  | succ n ih =>
    intro root d hn
    rw [siftDown]
    split
    · rfl
    · split
      · split
        · rfl
        · split
          · rw [ih _ _ (by omega), size_swp]
          · rfl
      · split
        · rfl
        · rw [ih _ _ (by omega), size_swp]

theorem push_take (d : Array Int) (xs : List Int) (k : Nat) (hk : k < xs.length) : (d ++ (xs.take k).toArray).push (xs.getD k 0) = d ++ (xs.take (k + 1)).toArray := by
  rw [List.take_succ_eq_append_getElem hk, List.getD_eq_getElem?_getD, List.getElem?_eq_getElem hk]
  simp

set_option maxHeartbeats 2000000 in
set_option maxRecDepth 100000 in
theorem push_many {w : World} {hb lb : Nat} {ao : Option Nat} {c ob : Nat} {kind m : Int} {d : Array Int} (h : HO w hb lb ao c ob kind m d) (ok : OrdOk kind m) (xs : List Int) (ad : Option Addr) (n' : Nat)
    (hx : Boxes w ad xs) (had : ∀ a, ad = some a → ¬ own lb ao a.block) (h1 : xs.length ≠ 1) (hd : d.size + xs.length ≤ 1048576) :
    Calls Try.prog 58 #[.pointer (some ⟨hb, 0, none⟩), .slice ad xs.length n'] w fun e w' => e = .returned (.tuple #[]) ∧
      Left w hb lb ao ob kind m (pushN (ltK kind m) d xs) w' := by
  have Hh := Lib.hid h; have Hx := Lib.hid hx; have Had := Lib.hid had; clear h hx had
  obtain ⟨n, hn⟩ : ∃ n, xs.length = n := ⟨_, rfl⟩
  rw [hn] at h1 hd ⊢
  have h1' : ((n : Int) == 1) = false := beq_eq_false_iff_ne.2 (by omega)
  have Hn := Lib.hid hn; have Hd := Lib.hid hd
  have hnb : n ≤ 1048576 := by omega
  clear hn h1 hd
  go_enter Try.func58, Try.ntmps58
  go_wp2_with fail
  go_loopg [24] (n + 1) (fun g si wr => ∃ k : Nat, si = .int .i64 k ∧ k ≤ n ∧ n + 1 - k ≤ g ∧ ∃ ao' c', Hid (HO wr hb lb ao' c' ob kind m (d ++ (xs.take k).toArray) ∧ Kept (own lb ao) w wr ∧ Moved w ao ao'))
  case atStart =>
    refine ⟨0, rfl, by omega, by omega, ao, c, ?_⟩
    show _ ∧ _
    exact ⟨by simpa using Hh.out, Kept.refl _ _, Moved.refl _ _⟩
  case round =>
    obtain ⟨k, rfl, hk, hg, ao', c', HS⟩ := hrel
    have hc0 := HS.out.1.c0
    have hhlt := HS.out.1.heap.head.lt
    by_cases hkn : k < n
    · obtain ⟨x, hx⟩ : ∃ x, xs.getD k 0 = x := ⟨_, rfl⟩
      obtain ⟨vb, vo, hav, hcv⟩ := (Hx.out.kept HS.out.2.1 Had.out) k (by rw [Hn.out]; exact hkn)
      subst hav
      rw [hx] at hcv
      have k1 : Kept No wr (wr.alloc (.cells #[box x] 20)) := (Kept.refl No wr).alloc _
      have h1 := HS.out.1.kept k1 (fun _ _ h => h) (fun h => h) (fun h => h)
      have hcell : (wr.alloc (.cells #[box x] 20)).cell? ⟨wr.heap.size, 0, none⟩ = some (box x) := by
        rw [(Blk.new wr #[box x] 20).cell]; rfl
      have hadd : Calls Try.prog 75 _ _ fun e w' => e = .returned (.tuple #[]) ∧ Added _ _ _ _ w' := add_one h1.heap.list x wr.heap.size 0 1 hcell (by have := HS.out.1.heap.list.head.lt; omega) (by have := Hd.out; have := Hn.out; simp; omega)
      have fin : ∀ w2, Added (wr.alloc (.cells #[box x] 20)) lb ao' ((d ++ (xs.take k).toArray).push x) w2 → Left w hb lb ao ob kind m (d ++ (xs.take (k + 1)).toArray) w2 := by
        intro w2 a
        obtain ⟨ao2, c2, h2, k2, m2⟩ := a.heap h1 k1
        rw [← hx, push_take d xs k (by rw [Hn.out]; exact hkn)] at h2
        exact ⟨ao2, c2, h2, HS.out.2.1.trans k2 HS.out.2.2.own, HS.out.2.2.trans m2 HS.out.2.1.size⟩
      have Ha := Lib.hid hadd; have Hf := Lib.hid fin
      clear k1 h1 hadd fin hcell hx
      unfold box at *
      go_wp2_with fail
      refine Ha.out.mono ?_
      rintro e w2 ⟨rfl, hq⟩
      have HQ := Lib.hid (Hf.out w2 hq); clear hq
      go_wp2_with fail
      go_roundg (n + 1 - (k + 1))
      case measure => omega
      case rel =>
        obtain ⟨ao2, c2, h2, k2, m2⟩ := HQ.out
        exact ⟨k + 1, by go_num, by omega, by omega, ao2, c2, ⟨h2, k2, m2⟩⟩
    · obtain rfl : k = n := by omega
      obtain ⟨D, hD⟩ : ∃ D, d ++ xs.toArray = D := ⟨_, rfl⟩
      have hs0 := HS.out
      rw [List.take_of_length_le (by rw [Hn.out]; omega), hD] at hs0
      obtain ⟨N, hN⟩ : ∃ N, D.size = N := ⟨_, rfl⟩
      have hsz := size_any lb _ wr hs0.1.heap.list.sizeCell
      rw [hN] at hsz
      have hNb : N ≤ 1048576 := by rw [← hN, ← hD]; have := Hd.out; have := Hn.out; simp; omega
      have hNN : N = d.size + xs.length := by rw [← hN, ← hD]; simp
      have Hz := Lib.hid hsz; have H0 := Lib.hid hs0; have HD := Lib.hid hD; have HN := Lib.hid hN; have HNN := Lib.hid hNN
      clear hsz hs0 hD hN hNN
      go_wp2_with fail
      refine Hz.out.mono ?_
      rintro e w' ⟨rfl, rfl⟩
      go_wp2_with fail
      obtain ⟨wo, hwo⟩ : ∃ wo : World, wo = wr := ⟨_, rfl⟩
      subst hwo
      go_loopg [7] (N + 3) (fun g s7 wq => ∃ (q : Nat) (v : Int), s7 = .int .i64 v ∧ v = (q : Int) - 1 ∧ q ≤ N + 2 ∧ q ≤ g ∧ ∃ ao' c' dk, Hid (dk.size = N ∧ pushN (ltK kind m) d xs = heapBuild (flp (ltK kind m)) N 0 q dk ∧ HO wq hb lb ao' c' ob kind m dk ∧ Kept (own lb ao) w wq ∧ Moved w ao ao'))
      case atStart =>
        refine ⟨N / 2 + 2, _, rfl, by omega, by omega, by omega, ao', c', D, ?_⟩
        show _ ∧ _
        refine ⟨HN.out, ?_, H0.out⟩
        unfold pushN
        rw [← HNN.out, HD.out]
      case round =>
        obtain ⟨q, v, rfl, hv, hq, hgq, ao2, c2, dk, HR⟩ := hrel
        by_cases hq0 : q = 0
        · subst hq0
          have hv' : v < 0 := by omega
          clear hv
          go_wp2_with fail
          go_end0
          obtain ⟨r1, r2, r3, r4, r5⟩ := HR.out
          refine ⟨rfl, ao2, c2, ?_, r4, r5⟩
          rw [r2]; exact r3
        · obtain ⟨p, rfl⟩ : ∃ p, q = p + 1 := ⟨q - 1, by omega⟩
          obtain rfl : v = (p : Int) := by omega
          clear hv
          have HB := Lib.hid (bubbleDown0 HR.out.2.2.1 ok p (by omega))
          go_wp2_with fail
          refine HB.out.mono ?_
          rintro e w3 ⟨rfl, h3, k3⟩
          have H3 := Lib.hid h3; have K3 := Lib.hid k3; clear h3 k3
          go_wp2_with fail
          go_roundg p
          case measure => omega
          case rel =>
            obtain ⟨r1, r2, r3, r4, r5⟩ := HR.out
            refine ⟨p, _, rfl, rfl, by omega, Nat.le_refl _, ao2, c2, siftDown (flp (ltK kind m)) N 0 p dk, ?_⟩
            show _ ∧ _
            have h3 := H3.out
            rw [r1] at h3
            have hs : (siftDown (flp (ltK kind m)) N 0 p dk).size = N := by
              rw [size_siftDown _ _ _ N p dk (by omega)]; exact r1
            exact ⟨hs, r2, h3, r4.trans K3.out r5.own, r5⟩

end Go.Nl
