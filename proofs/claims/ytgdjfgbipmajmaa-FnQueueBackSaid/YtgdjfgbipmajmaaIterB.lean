/- The iterator's Value: a heap of the level's numbers, so many of them taken. -/
import Derived.Test.YtgdjfgbipmajmaaIterA
import Derived.Deep.DeepCutAuto
namespace Go.Nl
open Go.RowKit Go.Sort Go.Proofs

/-- A heap in new memory, over an order that lay before. -/
def TmpAt (w : World) (kind m : Int) (ob : Nat) (t : Array Int) (tb : Nat) (wr : World) : Prop :=
  ∃ lb ao c, HO wr tb lb ao c ob kind m t ∧ Kept No w wr ∧ w.heap.size ≤ tb ∧ w.heap.size ≤ lb ∧ ∀ eb, ao = some eb → w.heap.size ≤ eb

section
variable {w wr : World} {kind m : Int} {ob tb : Nat} {t : Array Int}

theorem TmpAt.keptNo {wr' : World} (h : TmpAt w kind m ob t tb wr) (k : Kept No wr wr') : TmpAt w kind m ob t tb wr' := by
  obtain ⟨lb, ao, c, h1, h2, h3⟩ := h
  exact ⟨lb, ao, c, h1.kept k (fun _ _ h => h) (fun h => h) (fun h => h), h2.trans k (fun _ _ h => h), h3⟩

theorem TmpAt.kept (h : TmpAt w kind m ob t tb wr) : Kept No w wr := h.elim fun _ ⟨_, _, _, h2, _⟩ => h2

theorem TmpAt.left {lb : Nat} {ao : Option Nat} {t' : Array Int} {w' : World} (h2 : Kept No w wr) (h3 : w.heap.size ≤ tb) (h4 : w.heap.size ≤ lb) (h5 : ∀ eb, ao = some eb → w.heap.size ≤ eb)
    (l : Left wr tb lb ao ob kind m t' w') : TmpAt w kind m ob t' tb w' := by
  obtain ⟨ao', c', hh, hk, hm⟩ := l
  have hs := h2.size
  refine ⟨lb, ao', c', hh, h2.trans hk (fun i hi ho => ?_), h3, h4, fun eb he => ?_⟩
  · rcases ho with ho | ho
    · omega
    · have := h5 i ho; omega
  · rcases hm with rfl | ⟨n, rfl, hn⟩
    · exact h5 eb he
    · injection he with he; omega

theorem TmpAt.push (h : TmpAt w kind m ob t tb wr) (ok : OrdOk kind m) (x : Int) (ht : t.size + 1 ≤ 1048576) :
    Calls Try.prog 58 #[.pointer (some ⟨tb, 0, none⟩), .slice (some ⟨wr.heap.size, 0, none⟩) 1 1] (wr.alloc (.cells #[.iface 3 (.int .i64 x)] 20)) fun e w' => e = .returned (.tuple #[]) ∧ TmpAt w kind m ob (push1 (ltK kind m) t x) tb w' := by
  obtain ⟨lb, ao, c, h1, h2, h3, h4, h5⟩ := h.keptNo ((Kept.refl No wr).alloc (.cells #[.iface 3 (.int .i64 x)] 20))
  refine (push_one h1 ok x wr.heap.size 0 1 (by rw [(Blk.new wr #[.iface 3 (.int .i64 x)] 20).cell]; rfl) ht).mono ?_
  rintro e w' ⟨he, hl⟩
  exact ⟨he, TmpAt.left h2 h3 h4 h5 hl⟩

theorem TmpAt.pop (h : TmpAt w kind m ob t tb wr) (ok : OrdOk kind m) (ht : 0 < t.size) (ht2 : t.size ≤ 4194304) :
    Calls Try.prog 60 #[.pointer (some ⟨tb, 0, none⟩)] wr fun e w' => e = .returned (.tuple #[box t[0]!, .bool true]) ∧ TmpAt w kind m ob (popped (ltK kind m) t) tb w' := by
  obtain ⟨lb, ao, c, h1, h2, h3, h4, h5⟩ := h
  refine (pop_some h1 ok ht ht2).mono ?_
  rintro e w' ⟨he, hl⟩
  exact ⟨he, TmpAt.left h2 h3 h4 h5 hl⟩

theorem tmp_new (hO : Blk w ob (ordCells kind m) 23) : Calls Try.prog 57 #[fvOf ob] w fun e w' => e = .returned (.pointer (some ⟨w.heap.size + 1, 0, none⟩)) ∧ TmpAt w kind m ob #[] (w.heap.size + 1) w' := by
  refine (newWith_any ob w).mono ?_
  rintro e w' ⟨he, hh, hk⟩
  refine ⟨he, w.heap.size, none, 0, ⟨hh, hO.kept hk (fun h => h), ?_⟩, hk, by omega, Nat.le_refl _, fun eb h => by cases h⟩
  rintro (h | h)
  · have := hO.lt; omega
  · cases h
end

theorem level_next (lt : Int → Int → Bool) (d : Array Int) (s q : Nat) (hs : s ≤ q) (h : q < d.size) : level lt d s (q + 1) = push1 lt (level lt d s q) d[q]! := by
  have := level_succ lt d s (q - s) (by omega)
  rwa [show s + (q - s + 1) = q + 1 by omega, show s + (q - s) = q by omega] at this

theorem level_nil (lt : Int → Int → Bool) (d : Array Int) (s : Nat) : level lt d s s = #[] := by
  unfold level
  rw [Nat.sub_self]; rfl

set_option maxHeartbeats 4000000 in
set_option maxRecDepth 100000 in
theorem value_any {w : World} {hb lb : Nat} {ao : Option Nat} {c ob : Nat} {kind m : Int} {d : Array Int} {ib k : Nat} (h : HO w hb lb ao c ob kind m d) (hi : IterAt w ib hb (k : Int)) (ok : OrdOk kind m) (hk : k < d.size) (hd : d.size ≤ 1000000) :
    Calls Try.prog 134 #[.pointer (some ⟨ib, 0, none⟩)] w fun e w' => e = .returned (box (valueAt (ltK kind m) d k)) ∧ Kept No w w' := by
  have hr := range_any k w (by omega)
  obtain ⟨p1, p2, p3⟩ := lv_bounds k
  have hval : valueAt (ltK kind m) d k = (pops (ltK kind m) (level (ltK kind m) d (lvStart k) (lvEnd d.size k)) (k - lvStart k))[0]! := rfl
  obtain ⟨ee, hee⟩ : ∃ ee, lvEnd d.size k = ee := ⟨_, rfl⟩
  obtain ⟨s, hs⟩ : ∃ s, lvStart k = s := ⟨_, rfl⟩
  obtain ⟨e0, he0⟩ : ∃ e0, 2 ^ Nat.log2 (k + 1) - 1 + 2 ^ Nat.log2 (k + 1) = e0 := ⟨_, rfl⟩
  have hmin : ee = min e0 d.size := by rw [← hee, ← he0]; rfl
  rw [hs, he0] at hr
  rw [he0] at p2
  rw [hs] at p1
  rw [hs, hee] at hval
  have hsz := size_level (ltK kind m) d s ee (by omega)
  have hpz := size_pops (ltK kind m) (level (ltK kind m) d s ee)
  have i0 := hi.i0; have i1 := hi.i1; have c0 := h.c0; have c1 := h.c1
  have hz : ∀ w', Kept No w w' → w'.cell? ⟨ib, 0, none⟩ = some (.pointer (some ⟨hb, 0, none⟩)) ∧ w'.cell? ⟨ib, 1, none⟩ = some (.int .i64 k) ∧ w'.cell? ⟨hb, 0, none⟩ = some (.pointer (some ⟨lb, 0, none⟩)) ∧ ListAt w' lb ao c d :=
    fun w' q => ⟨cell_keptNo i0 q, cell_keptNo i1 q, cell_keptNo c0 q, h.heap.list.kept q (fun _ _ h => h)⟩
  have hsize := heapSize_any h
  have hnew := tmp_new h.ord
  have HV := Lib.hid hval; have HR := Lib.hid hr; have HZ := Lib.hid hz; have HSI := Lib.hid hsize; have HNW := Lib.hid hnew; have HSZ := Lib.hid hsz; have HPZ := Lib.hid hpz
  have hm1 : ee ≤ e0 := by omega
  have hm2 : ee ≤ d.size := by omega
  have hm3 : k < ee := by omega
  have hmv : ee = e0 ∨ ee = d.size := by omega
  clear hval hr hz hsize hnew hsz hpz hee hs he0 h hi p3
  have HMV := Lib.hid hmv; have HMIN := Lib.hid hmin; clear hmv hmin
  go_enter Try.func134, Try.ntmps134
  go_wp2_with fail
  refine HR.out.mono ?_
  rintro e w1 ⟨rfl, rfl⟩
  go_wp2_with fail
  refine HSI.out.mono ?_
  rintro e w1 ⟨rfl, rfl⟩
  go_upto_if 26 with fail
  go_cut [4] (fun s4 wc => s4 = .int .i64 ee ∧ w = wc)
  case first =>
    by_cases hgt : d.size < e0
    · have he : ee = d.size := by have := HMIN.out; omega
      have HE := Lib.hid he; clear he
      go_wp2_with fail
      refine HSI.out.mono ?_
      rintro e w1 ⟨rfl, rfl⟩
      go_wp2_with fail
      go_meet
      case rel => exact ⟨by rw [HE.out], rfl⟩
    · have he : ee = e0 := by have := HMIN.out; omega
      have HE := Lib.hid he; clear he
      go_wp2_with fail
      go_meet
      case rel => exact ⟨by rw [HE.out], rfl⟩
  case rest =>
    obtain ⟨rfl, rfl⟩ := hcut
    go_wp2_with fail
    refine HNW.out.mono ?_
    rintro e w2 ⟨rfl, ht⟩
    generalize w.heap.size + 1 = tb at ht ⊢
    have HT := Lib.hid ht; clear ht i0 i1 c0 c1
    go_wp2_with fail
    go_loopg [6] (ee + 1) (fun gg s6 wr => ∃ q : Nat, s6 = .int .i64 q ∧ s ≤ q ∧ q ≤ ee ∧ ee + 1 - q ≤ gg ∧ Hid (TmpAt w kind m ob (level (ltK kind m) d s q) tb wr))
    case atStart => exact ⟨s, rfl, by omega, by omega, by omega, (show TmpAt _ _ _ _ _ _ _ from by rw [level_nil]; exact HT.out)⟩
    case round =>
      obtain ⟨q, rfl, hq1, hq2, hg, HQ⟩ := hrel
      obtain ⟨j0, j1, j2, hl⟩ := HZ.out wr HQ.out.kept
      by_cases hlt : q < ee
      · obtain ⟨x, hx⟩ : ∃ x, d[q]! = x := ⟨_, rfl⟩
        have hget := get_nat q x wr hl (by omega) hx
        have hnx := level_next (ltK kind m) d s q hq1 (by omega)
        have hlz := size_level (ltK kind m) d s q (by omega)
        have hpu := HQ.out.push ok x (by omega)
        rw [hx] at hnx
        rw [← hnx] at hpu
        have HG := Lib.hid hget; have HP := Lib.hid hpu; clear hget hpu hnx hx hl hlz
        unfold box at HG
        go_wp2_with fail
        refine HG.out.mono ?_
        rintro e w3 ⟨rfl, rfl⟩
        go_wp2_with fail
        refine HP.out.mono ?_
        rintro e w3 ⟨rfl, hq⟩
        have HN := Lib.hid hq; clear hq
        go_wp2_with fail
        go_roundg (ee + 1 - (q + 1))
        case measure => omega
        case rel => exact ⟨q + 1, by go_num, by omega, by omega, by omega, HN.out⟩
      · obtain rfl : q = ee := by omega
        have t1 : IntKind.i64.wrap ((k : Int) - (s : Int)) = ((k - s : Nat) : Int) := by rw [IntWalk.i64_in _ (by omega)]; omega
        obtain ⟨f, hf1, hf2⟩ : ∃ f, f ≤ k - s ∧ k - s ≤ f := ⟨k - s, Nat.le_refl _, Nat.le_refl _⟩
        have hf3 : k - s = f := by omega
        have HF3 := Lib.hid hf3
        rw [hf3] at t1
        clear hf3 hl
        go_wp2_with fail
        go_loopg [9] (f + 1) (fun gg s9 wr => ∃ i : Nat, s9 = .int .i64 i ∧ i ≤ f ∧ f + 1 - i ≤ gg ∧ Hid (TmpAt w kind m ob (pops (ltK kind m) (level (ltK kind m) d s q) i) tb wr))
        case atStart => exact ⟨0, rfl, by omega, by omega, HQ.out⟩
        case round =>
          obtain ⟨i, rfl, hi, hg2, HI⟩ := hrel
          obtain ⟨l0, l1, l2, _⟩ := HZ.out wr HI.out.kept
          have hpo := HI.out.pop ok (by rw [HPZ.out, HSZ.out]; omega) (by rw [HPZ.out, HSZ.out]; omega)
          by_cases hif : i < f
          · have HP := Lib.hid hpo; clear hpo j0 j1 j2
            unfold box at HP
            go_wp2_with fail
            refine HP.out.mono ?_
            rintro e w3 ⟨rfl, hq⟩
            have HN := Lib.hid (show TmpAt w kind m ob (pops (ltK kind m) (level (ltK kind m) d s q) (i + 1)) tb w3 from hq); clear hq
            go_wp2_with fail
            go_roundg (f + 1 - (i + 1))
            case measure => omega
            case rel => exact ⟨i + 1, by go_num, by omega, by omega, HN.out⟩
          · obtain rfl : i = f := by omega
            obtain ⟨v, hv⟩ : ∃ v, (pops (ltK kind m) (level (ltK kind m) d s q) i)[0]! = v := ⟨_, rfl⟩
            rw [hv] at hpo
            have HP := Lib.hid hpo
            have HVV := Lib.hid (show valueAt (ltK kind m) d k = v from by rw [HV.out, HF3.out, hv])
            clear hpo hv j0 j1 j2
            unfold box at HP
            go_wp2_with fail
            refine HP.out.mono ?_
            rintro e w3 ⟨rfl, hq⟩
            have HN := Lib.hid hq.kept; clear hq
            go_wp2_with fail
            go_ret
            exact ⟨by rw [HVV.out]; rfl, HN.out⟩

end Go.Nl
