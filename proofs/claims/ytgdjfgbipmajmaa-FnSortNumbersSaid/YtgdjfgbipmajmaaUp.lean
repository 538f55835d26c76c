/- The heap's bubbling up: what it leaves. -/
import Derived.Test.YtgdjfgbipmajmaaListD
import Derived.Test.YtgdjfgbipmajmaaCmp
import Derived.Test.YtgdjfgbipmajmaaHeap
namespace Go.Nl
open Go.RowKit Go.Sort Go.Proofs

theorem get_nat {lb : Nat} {ao : Option Nat} {c : Nat} {d : Array Int} (i : Nat) (x : Int) (w : World) (h : ListAt w lb ao c d) (hn : i < d.size) (hx : d[i]! = x) :
    Calls Try.prog 79 #[.pointer (some ⟨lb, 0, none⟩), .int .i64 i] w fun e w' => e = .returned (.tuple #[box x, .bool true]) ∧ w = w' := by
  have := get_yes (i : Int) w h (by omega) (by omega)
  rw [Int.toNat_natCast, hx] at this
  exact this

/-- A heap with its order. -/
structure HO (w : World) (hb lb : Nat) (ao : Option Nat) (c ob : Nat) (kind m : Int) (d : Array Int) : Prop where
  heap : HeapAt w hb lb ao c (fvOf ob) d
  ord : Blk w ob (ordCells kind m) 23
  ne : ¬ own lb ao ob

section
variable {w : World} {hb lb : Nat} {ao : Option Nat} {c ob : Nat} {kind m : Int} {d : Array Int}

theorem HO.kept {S : Nat → Prop} {w' : World} (h : HO w hb lb ao c ob kind m d) (k : Kept S w w') (hS : ∀ i, own lb ao i → ¬ S i) (hh : ¬ S hb) (ho : ¬ S ob) : HO w' hb lb ao c ob kind m d :=
  ⟨h.heap.kept k hS hh, h.ord.kept k ho, h.ne⟩
theorem HO.drewN (h : HO w hb lb ao c ob kind m d) (n : Nat) : HO (w.drewN n) hb lb ao c ob kind m d :=
  h.kept (S := No) ((Kept.refl _ _).drewN n) (fun _ _ h => h) (fun h => h) (fun h => h)
theorem HO.c0 (h : HO w hb lb ao c ob kind m d) : w.cell? ⟨hb, 0, none⟩ = some (.pointer (some ⟨lb, 0, none⟩)) := by rw [h.heap.head.cell]; rfl
theorem HO.c1 (h : HO w hb lb ao c ob kind m d) : w.cell? ⟨hb, 1, none⟩ = some (fvOf ob) := by rw [h.heap.head.cell]; rfl
/-- The list has changed, within its own blocks. -/
theorem HO.list {w' : World} {ao' : Option Nat} {c' : Nat} {d' : Array Int} (h : HO w hb lb ao c ob kind m d) (l : ListAt w' lb ao' c' d') (k : Kept (own lb ao) w w') (e : ao' = ao ∨ ∃ n, ao' = some n ∧ w.heap.size ≤ n) : HO w' hb lb ao' c' ob kind m d' := by
  have h1 := h.heap.head.lt
  have h2 := h.ord.lt
  have hne : ∀ i, i < w.heap.size → ¬ own lb ao i → ¬ own lb ao' i := by
    intro i hi hn ho
    rcases ho with ho | ho
    · exact hn (Or.inl ho)
    · rcases e with e | ⟨n, e, hn'⟩
      · exact hn (Or.inr (by rw [← e]; exact ho))
      · rw [e] at ho; injection ho with ho; omega
  exact ⟨⟨h.heap.head.kept k h.heap.ne, l, hne _ h1 h.heap.ne⟩, h.ord.kept k h.ne, hne _ h2 h.ne⟩
end

set_option maxHeartbeats 1000000 in
set_option maxRecDepth 100000 in
theorem bubbleUp_any {w : World} {hb lb eb c ob : Nat} {kind m : Int} {d : Array Int} (h : HO w hb lb (some eb) c ob kind m d) (ok : OrdOk kind m) (n : Nat) (hn : d.size = n + 1) :
    Calls Try.prog 76 #[.pointer (some ⟨hb, 0, none⟩)] w fun e w' => e = .returned (.tuple #[]) ∧
      HO w' hb lb (some eb) c ob kind m (up (ltK kind m) n n d) ∧ Kept (fun k => k = eb) w w' := by
  have hc0 := h.c0
  have hsz := h.heap.list.sizeCell
  have e1 : (d.size : Int) = (n : Int) + 1 := by omega
  rw [e1] at hsz
  have hle := h.heap.list.le
  have hsm := h.heap.list.small
  have hs := size_any lb _ w hsz
  have hnb : n ≤ 4194304 := by omega
  have Hh := Lib.hid h; have Hn := Lib.hid hn; have Hs := Lib.hid hs; clear h hsz e1 hn hle hsm hs
  go_enter Try.func76, Try.ntmps76
  go_wp2_with fail
  refine Hs.out.mono ?_
  rintro e w' ⟨rfl, rfl⟩
  go_wp2_with fail
  go_loopg [2, 3] (n + 1) (fun g si sp wr => ∃ (k f : Nat) (p : Int) (dk : Array Int), si = .int .i64 k ∧ sp = .int .i64 p ∧ p = ((k : Int) - 1) / 2 ∧ k ≤ f ∧ k ≤ n ∧ k + 1 ≤ g ∧ Hid (dk.size = n + 1) ∧
    Hid (up (ltK kind m) n n d = up (ltK kind m) f k dk) ∧ HO wr hb lb (some eb) c ob kind m dk ∧ Kept (fun k => k = eb) w wr)
  case atStart => exact ⟨n, n, _, d, rfl, rfl, rfl, Nat.le_refl _, Nat.le_refl _, Nat.le_refl _, Hn.out, rfl, Hh.out, Kept.refl _ _⟩
  case round =>
    obtain ⟨k, f, p, dk, rfl, rfl, hp, hkf, hkn, hg, hds, HE, hh, hk⟩ := hrel
    have HP := Lib.hid hp; have H1 := Lib.hid hh; have H2 := Lib.hid hk; clear hp hh hk
    by_cases hk0 : k = 0
    · subst hk0
      go_wp2_with fail
      go_end0
      refine ⟨rfl, ?_, H2.out⟩
      rw [HE.out]
      have : up (ltK kind m) f 0 dk = dk := by cases f <;> simp [up]
      rw [this]; exact H1.out
    · obtain ⟨pn, hpn, hpk⟩ : ∃ pn : Nat, p = (pn : Int) ∧ pn = (k - 1) / 2 := ⟨(k - 1) / 2, by rw [HP.out]; omega, rfl⟩
      subst hpn
      have hpb : pn ≤ 4194304 := by omega
      obtain ⟨f, rfl⟩ : ∃ f', f = f' + 1 := ⟨f - 1, by omega⟩
      have hkpos : (0 : Int) < k := by omega
      have hc0' := H1.out.c0
      have hc1' := H1.out.c1
      obtain ⟨xk, hxk⟩ : ∃ x, dk[k]! = x := ⟨_, rfl⟩
      obtain ⟨xp, hxp⟩ : ∃ x, dk[pn]! = x := ⟨_, rfl⟩
      have g1 := get_nat k xk wr H1.out.heap.list (by rw [hds.out]; omega) hxk
      have g2 := get_nat pn xp wr H1.out.heap.list (by rw [hds.out]; omega) hxp
      have hcm := cmp_any kind m xp xk ob wr H1.out.ord ok
      obtain ⟨cv, hcv⟩ : ∃ v, cmpV kind m xp xk = v := ⟨_, rfl⟩
      have hpos := cmpV_pos kind m xp xk
      rw [hcv] at hcm hpos
      have hsw := fun q => swap_any k pn (wr.drewN q) (H1.out.drewN q).heap.list (by rw [hds.out]; omega) (by rw [hds.out]; omega)
      have G1 := Lib.hid g1; have G2 := Lib.hid g2; have GC := Lib.hid hcm; have GS := Lib.hid hsw; have X1 := Lib.hid hxk; have X2 := Lib.hid hxp; have HC := Lib.hid hpos; have HPK := Lib.hid hpk
      clear g1 g2 hcm hsw hxk hxp hcv hpos hpk
      by_cases hl : ltK kind m xk xp = true
      · have hcpos : 0 < cv := HC.out.2 hl
        have HL := Lib.hid hl; clear hl
        go_wp2_with fail
        refine G1.out.mono ?_
        rintro e w' ⟨rfl, rfl⟩
        go_wp2_with fail
        refine G2.out.mono ?_
        rintro e w' ⟨rfl, rfl⟩
        go_wp2_with fail
        refine GC.out.mono ?_
        rintro e w' ⟨rfl, q, rfl⟩
        go_wp2_with fail
        refine (GS.out q).mono ?_
        rintro e w' ⟨rfl, hl2, hk2⟩
        have K1 := Lib.hid hl2; have K2 := Lib.hid hk2; clear hl2 hk2
        go_wp2_with fail
        go_roundg (pn + 1)
        case measure => have := HPK.out; omega
        case rel =>
          refine ⟨pn, f, _, swp dk k pn, rfl, rfl, rfl, by have := HPK.out; omega, by have := HPK.out; omega, Nat.le_refl _, ?_, ?_, ?_, ?_⟩
          · show (swp dk k pn).size = n + 1
            rw [size_swp]; exact hds.out
          · show _ = _
            rw [HE.out, up, if_neg hk0, ← HPK.out, X1.out, X2.out, if_pos HL.out]
          · exact (H1.out.drewN q).list K1.out (K2.out.mono (fun i _ h => Or.inr (by rw [h]))) (Or.inl rfl)
          · exact (H2.out.drewN q).trans K2.out (fun i _ h => h)
      · have hcneg : ¬ 0 < cv := fun h => hl (HC.out.1 h)
        have HL := Lib.hid hl; clear hl
        go_wp2_with fail
        refine G1.out.mono ?_
        rintro e w' ⟨rfl, rfl⟩
        go_wp2_with fail
        refine G2.out.mono ?_
        rintro e w' ⟨rfl, rfl⟩
        go_wp2_with fail
        refine GC.out.mono ?_
        rintro e w' ⟨rfl, q, rfl⟩
        go_wp2_with fail
        go_end0
        refine ⟨rfl, ?_, H2.out.drewN q⟩
        rw [HE.out, up, if_neg hk0, ← HPK.out, X1.out, X2.out, if_neg HL.out]
        exact H1.out.drewN q

end Go.Nl
