/- The heap's Push, Pop, Peek, Clear: what they leave. -/
import Derived.Test.YtgdjfgbipmajmaaDown
import Derived.Deep.RegionWith
namespace Go.Nl
open Go.RowKit Go.Sort Go.Proofs

/-- A list's elements lie where they lay, or in a new block. -/
def Moved (w : World) (ao ao' : Option Nat) : Prop := ao' = ao ∨ ∃ n, ao' = some n ∧ w.heap.size ≤ n

theorem Moved.refl (w : World) (ao : Option Nat) : Moved w ao ao := Or.inl rfl
theorem Moved.trans {w w' : World} {a b c : Option Nat} (h : Moved w a b) (k : Moved w' b c) (hs : w.heap.size ≤ w'.heap.size) : Moved w a c := by
  rcases k with rfl | ⟨n, rfl, hn⟩
  · exact h
  · exact Or.inr ⟨n, rfl, Nat.le_trans hs hn⟩
/-- What was kept but for the later owner's blocks was kept but for the earlier's. -/
theorem Moved.own {w : World} {lb : Nat} {a b : Option Nat} (h : Moved w a b) : ∀ i, i < w.heap.size → own lb b i → own lb a i := by
  rintro i hi (hk | hk)
  · exact Or.inl hk
  · rcases h with rfl | ⟨n, rfl, hn⟩
    · exact Or.inr hk
    · injection hk with hk; omega

/-- What Add leaves. -/
def Added (w : World) (lb : Nat) (ao : Option Nat) (d' : Array Int) (w' : World) : Prop :=
  ∃ ao' c', ListAt w' lb ao' c' d' ∧ Kept (own lb ao) w w' ∧ (ao' = ao ∨ ao' = some w.heap.size)

/-- What a heap's method leaves: a heap of the numbers d'. -/
def Left (w : World) (hb lb : Nat) (ao : Option Nat) (ob : Nat) (kind m : Int) (d' : Array Int) (w' : World) : Prop :=
  ∃ ao' c', HO w' hb lb ao' c' ob kind m d' ∧ Kept (own lb ao) w w' ∧ Moved w ao ao'

theorem Added.heap {w w1 w2 : World} {hb lb : Nat} {ao : Option Nat} {c ob : Nat} {kind m : Int} {d d' : Array Int} (a : Added w1 lb ao d' w2) (h1 : HO w1 hb lb ao c ob kind m d) (k1 : Kept No w w1) :
    Left w hb lb ao ob kind m d' w2 := by
  obtain ⟨ao2, c2, hl2, hk2, hm2⟩ := a
  have hm : Moved w1 ao ao2 := hm2.elim Or.inl (fun e => Or.inr ⟨_, e, Nat.le_refl _⟩)
  refine ⟨ao2, c2, h1.list hl2 hk2 hm, Kept.trans (S := own lb ao) (k1.mono (fun i _ h => h.elim)) hk2 (fun i _ h => h), ?_⟩
  rcases hm with rfl | ⟨n, rfl, hn⟩
  · exact Or.inl rfl
  · exact Or.inr ⟨n, rfl, Nat.le_trans k1.size hn⟩

set_option maxHeartbeats 1000000 in
set_option maxRecDepth 100000 in
theorem push_one {w : World} {hb lb : Nat} {ao : Option Nat} {c ob : Nat} {kind m : Int} {d : Array Int} (h : HO w hb lb ao c ob kind m d) (ok : OrdOk kind m) (x : Int) (vb vo n' : Nat)
    (hv : w.cell? ⟨vb, vo, none⟩ = some (box x)) (hd : d.size + 1 ≤ 1048576) :
    Calls Try.prog 58 #[.pointer (some ⟨hb, 0, none⟩), .slice (some ⟨vb, vo, none⟩) 1 n'] w fun e w' => e = .returned (.tuple #[]) ∧
      Left w hb lb ao ob kind m (push1 (ltK kind m) d x) w' := by
  have hc0 := h.c0
  have hllt := h.heap.list.head.lt
  have hhlt := h.heap.head.lt
  have k1 : Kept No w ((w.alloc (.cells #[box x] 20)).drew) := ((Kept.refl No w).alloc _).drew
  have h1 : HO ((w.alloc (.cells #[box x] 20)).drew) hb lb ao c ob kind m d := h.kept k1 (fun _ _ h => h) (fun h => h) (fun h => h)
  have hcell : ((w.alloc (.cells #[box x] 20)).drew).cell? ⟨w.heap.size, 0, none⟩ = some (box x) := by
    rw [World.cell?_drew, (Blk.new w #[box x] 20).cell]; rfl
  have hadd : Calls Try.prog 75 _ _ fun e w' => e = .returned (.tuple #[]) ∧ Added _ _ _ _ w' := add_one h1.heap.list x w.heap.size 0 1 hcell (by omega) hd
  have fin : ∀ w2, Added ((w.alloc (.cells #[box x] 20)).drew) lb ao (d.push x) w2 → Calls Try.prog 76 #[.pointer (some ⟨hb, 0, none⟩)] w2 fun e w' => e = .returned (.tuple #[]) ∧ Left w hb lb ao ob kind m (push1 (ltK kind m) d x) w' := by
    intro w2 a
    obtain ⟨ao2, c2, h2, k2, m2⟩ := a.heap h1 k1
    have hle := h2.heap.list.le
    rw [Array.size_push] at hle
    obtain ⟨eb, rfl⟩ := h2.heap.list.some_of (by omega)
    refine (bubbleUp_any h2 ok d.size (by simp)).mono ?_
    rintro e w3 ⟨he, h3, k3⟩
    exact ⟨he, some eb, c2, h3, k2.trans k3 (fun i hi h => m2.own i hi (Or.inr (by rw [h]))), m2⟩
  have Ha := Lib.hid hadd; have Hf := Lib.hid fin
  clear k1 h1 hadd h hcell fin
  unfold box at *
  go_enter Try.func58, Try.ntmps58
  go_wp2_with fail
  go_region_with (go_at_call 75; refine Ha.out.mono ?_; rintro e w2 ⟨rfl, hq2⟩)
  all_goals
    go_wp2_with fail
    refine (Hf.out _ hq2).mono ?_
    rintro e w3 ⟨rfl, hp3⟩
    go_wp2_with fail
    go_end0
    exact ⟨rfl, hp3⟩

theorem peek_some {w : World} {hb lb : Nat} {ao : Option Nat} {c ob : Nat} {kind m : Int} {d : Array Int} (h : HO w hb lb ao c ob kind m d) (hd : 0 < d.size) :
    Calls Try.prog 61 #[.pointer (some ⟨hb, 0, none⟩)] w fun e w' => e = .returned (.tuple #[box d[0]!, .bool true]) ∧ w = w' := by
  have hc0 := h.c0
  have hg := get_yes 0 w h.heap.list (by omega) (by omega)
  rw [Int.toNat_zero] at hg
  generalize d[0]! = x at hg ⊢
  clear h hd
  go_enter Try.func61, Try.ntmps61
  go_wp2_with (go_at_call 79; refine hg.mono ?_; rintro e w' ⟨rfl, rfl⟩)
  go_ret2
  exact ⟨rfl, rfl⟩

theorem peek_none {w : World} {hb lb : Nat} {ao : Option Nat} {c ob : Nat} {kind m : Int} {d : Array Int} (h : HO w hb lb ao c ob kind m d) (hd : d.size = 0) :
    Calls Try.prog 61 #[.pointer (some ⟨hb, 0, none⟩)] w fun e w' => e = .returned (.tuple #[.nilIface, .bool false]) ∧ w = w' := by
  have hc0 := h.c0
  have hg := get_no 0 w h.heap.list (Or.inr (by omega))
  clear h hd
  go_enter Try.func61, Try.ntmps61
  go_wp2_with (go_at_call 79; refine hg.mono ?_; rintro e w' ⟨rfl, rfl⟩)
  go_ret2
  exact ⟨rfl, rfl⟩

theorem heapClear_any {w : World} {hb lb : Nat} {ao : Option Nat} {c ob : Nat} {kind m : Int} {d : Array Int} (h : HO w hb lb ao c ob kind m d) :
    Calls Try.prog 62 #[.pointer (some ⟨hb, 0, none⟩)] w fun e w' => e = .returned (.tuple #[]) ∧ Left w hb lb ao ob kind m #[] w' := by
  have hc0 := h.c0
  have hg : Calls Try.prog 83 #[.pointer (some ⟨lb, 0, none⟩)] w fun e w' => e = .returned (.tuple #[]) ∧ Left w hb lb ao ob kind m #[] w' := by
    refine (clear_any h.heap.list).mono ?_
    rintro e w' ⟨he, hl, hk⟩
    have hk' : Kept (own lb ao) w w' := hk.mono (fun i _ h => Or.inl h)
    have hm : Moved w ao (some w.heap.size) := Or.inr ⟨_, rfl, Nat.le_refl _⟩
    exact ⟨he, _, _, h.list hl hk' hm, hk', hm⟩
  clear h
  go_enter Try.func62, Try.ntmps62
  go_wp2_with (go_at_call 83; refine hg.mono ?_; rintro e w' ⟨rfl, hp⟩)
  go_end0
  exact ⟨rfl, hp⟩

theorem bubbleDown0 {w : World} {hb lb : Nat} {ao : Option Nat} {c ob : Nat} {kind m : Int} {d : Array Int} (h : HO w hb lb ao c ob kind m d) (ok : OrdOk kind m) (i : Nat) (hi : i ≤ 4194304) :
    Calls Try.prog 78 #[.pointer (some ⟨hb, 0, none⟩), .int .i64 i] w fun e w' => e = .returned (.tuple #[]) ∧
      HO w' hb lb ao c ob kind m (siftDown (flp (ltK kind m)) d.size 0 i d) ∧ Kept (own lb ao) w w' := by
  by_cases hn : 2 * i + 1 < d.size
  · have hle := h.heap.list.le
    obtain ⟨eb, rfl⟩ := h.heap.list.some_of (by omega)
    refine (bubbleDown_any h ok i hi).mono ?_
    rintro e w' ⟨he, h', k⟩
    exact ⟨he, h', k.mono (fun i _ h => Or.inr (by rw [h]))⟩
  · refine (bubbleDown_idle h i hi hn).mono ?_
    rintro e w' ⟨he, rfl⟩
    rw [sd_stop _ _ _ _ hn]
    exact ⟨he, h, Kept.refl _ _⟩

theorem bubbleDown_of {hb : Nat} {w : World} {Q : World → Prop} (h : Calls Try.prog 78 #[.pointer (some ⟨hb, 0, none⟩), .int .i64 0] w fun e w' => e = .returned (.tuple #[]) ∧ Q w') :
    Calls Try.prog 82 #[.pointer (some ⟨hb, 0, none⟩)] w fun e w' => e = .returned (.tuple #[]) ∧ Q w' := by
  go_enter Try.func82, Try.ntmps82
  go_wp2_with (go_at_call 78; refine h.mono ?_; rintro e w' ⟨rfl, hq⟩)
  go_end0
  exact ⟨rfl, hq⟩

set_option maxHeartbeats 1000000 in
set_option maxRecDepth 100000 in
theorem pop_some {w : World} {hb lb : Nat} {ao : Option Nat} {c ob : Nat} {kind m : Int} {d : Array Int} (h : HO w hb lb ao c ob kind m d) (ok : OrdOk kind m) (hd : 0 < d.size) (hdb : d.size ≤ 4194304) :
    Calls Try.prog 60 #[.pointer (some ⟨hb, 0, none⟩)] w fun e w' => e = .returned (.tuple #[box d[0]!, .bool true]) ∧ Left w hb lb ao ob kind m (popped (ltK kind m) d) w' := by
  have hle := h.heap.list.le
  obtain ⟨eb, rfl⟩ := h.heap.list.some_of (by omega)
  obtain ⟨n, hn⟩ : ∃ n, d.size = n + 1 := ⟨d.size - 1, by omega⟩
  have hc0 := h.c0
  have hg := get_yes 0 w h.heap.list (by omega) (by omega)
  rw [Int.toNat_zero] at hg
  have hsz := size_any lb _ w h.heap.list.sizeCell
  rw [show (d.size : Int) = (n : Int) + 1 by omega] at hsz
  have hsw := swap_any 0 n w h.heap.list (by omega) (by omega)
  rw [show ((0 : Nat) : Int) = 0 from rfl] at hsw
  have hnb : n ≤ 4194304 := by omega
  have hre : ∀ w2, ListAt w2 lb (some eb) c (swp d 0 n) ∧ Kept (fun k => k = eb) w w2 →
      Calls Try.prog 81 #[.pointer (some ⟨lb, 0, none⟩), .int .i64 n] w2 fun e w' => e = .returned (.tuple #[]) ∧ Left w hb lb (some eb) ob kind m (swp d 0 n).pop w' := by
    rintro w2 ⟨l2, k2⟩
    refine (remove_any l2 n (by rw [size_swp]; omega)).mono ?_
    rintro e w3 ⟨he, ao3, c3, l3, k3, m3⟩
    have k2' : Kept (own lb (some eb)) w w2 := k2.mono (fun i _ h => Or.inr (by rw [h]))
    have k23 := k2'.trans k3 (fun i _ h => h)
    have hm : Moved w (some eb) ao3 := m3.elim Or.inl (fun e => Or.inr ⟨_, e, k2.size⟩)
    exact ⟨he, ao3, c3, h.list l3 k23 hm, k23, hm⟩
  have hbd : ∀ w3, Left w hb lb (some eb) ob kind m (swp d 0 n).pop w3 →
      Calls Try.prog 78 #[.pointer (some ⟨hb, 0, none⟩), .int .i64 0] w3 fun e w' => e = .returned (.tuple #[]) ∧ Left w hb lb (some eb) ob kind m (popped (ltK kind m) d) w' := by
    rintro w3 ⟨ao3, c3, h3, k3, m3⟩
    refine (bubbleDown0 h3 ok 0 (by omega)).mono ?_
    rintro e w4 ⟨he, h4, k4⟩
    have hp : popped (ltK kind m) d = siftDown (flp (ltK kind m)) (swp d 0 n).pop.size 0 0 (swp d 0 n).pop := by
      unfold popped
      rw [show d.size - 1 = n by omega, Array.size_pop, size_swp, hn, Nat.add_sub_cancel]
    rw [hp]
    exact ⟨he, ao3, c3, h4, k3.trans k4 m3.own, m3⟩
  have hcw : ∀ w2, Kept (fun k => k = eb) w w2 → w2.cell? ⟨hb, 0, none⟩ = some (.pointer (some ⟨lb, 0, none⟩)) := by
    intro w2 k2
    rw [← hc0]
    exact World.cell?_of_block (w := w) (k2.block hb h.heap.head.lt (fun e => h.heap.ne (Or.inr (by rw [e]))))
  have hcl : ∀ w3, Left w hb lb (some eb) ob kind m (swp d 0 n).pop w3 → w3.cell? ⟨hb, 0, none⟩ = some (.pointer (some ⟨lb, 0, none⟩)) := by
    rintro w3 ⟨ao3, c3, h3, k3, m3⟩
    exact h3.c0
  generalize d[0]! = x at hg ⊢
  have Hg := Lib.hid hg; have Hs := Lib.hid hsz; have Hw := Lib.hid hsw; have Hr := Lib.hid hre; have Hb := Lib.hid hbd; have Hc := Lib.hid hcw; have Hl := Lib.hid hcl
  clear h hd hg hsz hsw hre hbd hcw hcl hn hle hdb
  go_enter Try.func60, Try.ntmps60
  go_wp2_with fail
  refine Hg.out.mono ?_
  rintro e w' ⟨rfl, rfl⟩
  go_wp2_with fail
  refine Hs.out.mono ?_
  rintro e w' ⟨rfl, rfl⟩
  go_wp2_with fail
  refine Hw.out.mono ?_
  rintro e w2 ⟨rfl, l2, k2⟩
  have hcx := Hc.out w2 k2
  have HL := Lib.hid (Hr.out w2 ⟨l2, k2⟩); clear l2 k2
  go_wp2_with fail
  refine HL.out.mono ?_
  rintro e w3 ⟨rfl, l3⟩
  have hcy := Hl.out w3 l3
  clear hcx
  have HM := Lib.hid (bubbleDown_of (Hb.out w3 l3)); clear l3
  go_wp2_with fail
  refine HM.out.mono ?_
  rintro e w4 ⟨rfl, l4⟩
  go_wp2_with fail
  go_ret2
  exact ⟨rfl, l4⟩

theorem pop_none {w : World} {hb lb : Nat} {ao : Option Nat} {c ob : Nat} {kind m : Int} {d : Array Int} (h : HO w hb lb ao c ob kind m d) (hd : d.size = 0) :
    Calls Try.prog 60 #[.pointer (some ⟨hb, 0, none⟩)] w fun e w' => e = .returned (.tuple #[.nilIface, .bool false]) ∧ w = w' := by
  have hc0 := h.c0
  have hg := get_no 0 w h.heap.list (Or.inr (by omega))
  clear h hd
  go_enter Try.func60, Try.ntmps60
  go_wp2_with (go_at_call 79; refine hg.mono ?_; rintro e w' ⟨rfl, rfl⟩)
  go_ret2
  exact ⟨rfl, rfl⟩

end Go.Nl
