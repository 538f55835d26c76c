/- QueueWalk. -/
import Derived.Test.YtgdjfgbipmajmaaWalkQ
import Derived.Test.YtgdjfgbipmajmaaQRun
namespace Go.Nl
open Go.RowKit Go.Sort Go.Proofs

theorem qiterator_any (hb b : Nat) (w : World) (hc : w.cell? ⟨b, 0, none⟩ = some (.pointer (some ⟨hb, 0, none⟩))) : Calls Try.prog 56 #[.pointer (some ⟨b, 0, none⟩)] w fun e w' => e = .returned (.agg #[.pointer (some ⟨hb, 0, none⟩), .int .i64 (-1)]) ∧ Kept No w w' := by
  have k0 : Kept No w (w.alloc (.cells #[.pointer none, .int .i64 0] 83)) := (Kept.refl No w).alloc _
  have hit := iterator_any hb (w.alloc (.cells #[.pointer none, .int .i64 0] 83))
  have hB := Blk.new w #[.pointer none, .int .i64 0] 83
  have HIT := Lib.hid hit; have HB := Lib.hid hB; have K0 := Lib.hid k0; clear hit hB k0
  have hlt := cell_lt hc
  go_enter Try.func56, Try.ntmps56
  go_wp2_with fail
  refine HIT.out.mono ?_
  rintro e w1 ⟨rfl, k1⟩
  have hrb := HB.out.kept k1 (fun h => h)
  have r0 : w1.cell? ⟨w.heap.size, 0, none⟩ = some (.pointer none) := by rw [hrb.cell]; rfl
  have r1 : w1.cell? ⟨w.heap.size, 1, none⟩ = some (.int .i64 0) := by rw [hrb.cell]; rfl
  have f0 := hrb.frozen 0
  have f1 := hrb.frozen 1
  have hrs := (hrb.set 0 (.pointer (some ⟨hb, 0, none⟩))).set 1 (.int .i64 (-1))
  have s0 := hrs.cell 0
  have s1 := hrs.cell 1
  have hkk : Kept No w ((w1.setCell ⟨w.heap.size, 0, none⟩ (.pointer (some ⟨hb, 0, none⟩))).setCell ⟨w.heap.size, 1, none⟩ (.int .i64 (-1))) :=
    (((K0.out.trans k1 (fun _ _ h => h)).setCell ⟨w.heap.size, 0, none⟩ _ (fun h => absurd h (Nat.lt_irrefl _))).setCell ⟨w.heap.size, 1, none⟩ _ (fun h => absurd h (Nat.lt_irrefl _)))
  have HKK := Lib.hid hkk; clear hkk hrs hrb k1
  simp only [List.setIfInBounds_toArray, List.set_cons_zero, List.set_cons_succ] at s0 s1
  go_wp2_with fail
  exact bodyPost_ret (v := .agg #[.pointer (some ⟨hb, 0, none⟩), .int .i64 (-1)]) (by simp [results, Try.results56, go_sem, s0, s1]) rfl ⟨rfl, HKK.out⟩

set_option maxHeartbeats 1000000 in
set_option maxRecDepth 100000 in
theorem queueWalk_any (kind m : Int) (ok : OrdOk kind m) (ss : List Step) (hss : Small ss 1000 1000) (ad : Option Addr) (n' : Nat) (w : World) (hs : StepsAt w ad ss)
    (ops : List Int) (hop : ∀ op ∈ ops, op = 1 ∨ op = 2 ∨ op = 6) (hol : ops.length ≤ 100000) (mad : Option Addr) (mn : Nat) (hm : MovesAt w mad ops) (hmb : ∀ a, mad = some a → a.block < w.heap.size) :
    Calls Try.prog 40 #[.agg #[.int .i64 kind, .int .i64 m], .slice ad ss.length n', .slice mad ops.length mn] w (WalkRow w (walkP (ltK kind m) (runQ (ltK kind m) ss).1 ops).2 ops.length) := by
  have hsz : (runQ (ltK kind m) ss).1.size ≤ 1000000 := by
    have := (size_runQ (ltK kind m) ss 1000 hss.2 ss.length (Nat.le_refl _)).1
    rw [List.take_length] at this
    have := hss.1
    omega
  have k0 : Kept No w (w.alloc (.cells #[.int .i64 kind, .int .i64 m] 23)) := (Kept.refl No w).alloc _
  have hr := queued_any kind m ok ss hss ad n' _ (hs.keptNo k0)
  have hO := Blk.new w #[.int .i64 kind, .int .i64 m] 23
  have o0 := hO.ord0; have o1 := hO.ord1
  have hlen := (walkP_inv (ltK kind m) (runQ (ltK kind m) ss).1 ops hop ops.length (Nat.le_refl _)).2.2
  rw [List.take_length] at hlen
  have hst : ∀ b g cap w2, QueuedPost (w.alloc (.cells #[.int .i64 kind, .int .i64 m] 23)) kind m (runQ (ltK kind m) ss) b g cap w2 → Kept No w w2 ∧ ∃ hb, w2.cell? ⟨b, 0, none⟩ = some (.pointer (some ⟨hb, 0, none⟩)) ∧
      ∀ w3, Kept No w2 w3 → Calls Try.prog 55 #[.iface 85 (.pointer (some ⟨w3.heap.size, 0, none⟩)), .slice mad ops.length mn] (w3.alloc (.cells #[.pointer (some ⟨hb, 0, none⟩), .int .i64 (-1)] 83)) (WalkRow w (walkP (ltK kind m) (runQ (ltK kind m) ss).1 ops).2 ops.length) := by
    intro b g cap w2 h
    have kw2 := k0.trans h.keptw (fun _ _ h => h)
    obtain ⟨hb, lb, ao, c, ob, fv, h1, _, _, _, _, _, _, _, _, _, _, h12, _⟩ := h
    refine ⟨kw2, hb, by rw [h12.cell]; rfl, fun w3 k3 => ?_⟩
    have hH := h1.kept (k3.alloc (.cells #[.pointer (some ⟨hb, 0, none⟩), .int .i64 (-1)] 83)) (fun _ _ h => h) (fun h => h) (fun h => h)
    have q3 : Kept No w (w3.alloc (.cells #[.pointer (some ⟨hb, 0, none⟩), .int .i64 (-1)] 83)) := kw2.trans (k3.alloc _) (fun _ _ h => h)
    have l1 := h1.heap.head.lt; have l2 := h1.ord.lt; have l3 := k3.size; have l4 := kw2.size
    refine (walkedQueue_any hH ⟨83, Blk.new w3 _ 83⟩ ok hsz (by omega) (by omega) (fun ho => by have := h1.ownLt _ ho; omega) ops hop hol mad mn (hm.keptNo q3) (fun a ha => by have := hmb a ha; omega)).mono ?_
    rintro e w' ⟨g2, cap2, he, hrow, hk, hg⟩
    rw [hlen] at he hrow
    refine ⟨g2, cap2, he, hrow, q3.trans hk (fun i hi e => by omega), ?_⟩
    simp only [World.size_alloc] at hg
    omega
  have HR := Lib.hid hr; have HST := Lib.hid hst
  clear hr hst k0 hs hss hO hm hmb hlen
  generalize (walkP (ltK kind m) (runQ (ltK kind m) ss).1 ops).2 = sn at *
  generalize ops.length = on at *
  go_enter Try.func40, Try.ntmps40
  go_wp2_with fail
  refine HR.out.mono ?_
  rintro e w2 ⟨b, g, cap, rfl, hp⟩
  obtain ⟨k2, hb, hc, hw⟩ := HST.out b g cap w2 hp
  have HW := Lib.hid hw; have K2 := Lib.hid k2; clear hp k2 hw
  go_wp2_with fail
  refine (qiterator_any hb b w2 hc).mono ?_
  rintro e w3 ⟨rfl, k3⟩
  have HW3 := Lib.hid (HW.out w3 k3); clear k3
  go_wp2_with fail
  refine HW3.out.mono ?_
  rintro e w4 ⟨g2, cap2, rfl, hrow, hk, hg⟩
  have HF := Lib.hid (show RowAt w4 g2 on cap2 55 3 (sn.flatMap seenCells) ∧ Kept No w w4 ∧ w.heap.size ≤ g2 from ⟨hrow, hk, hg⟩); clear hrow hk hg
  go_wp2_with fail
  go_ret
  exact ⟨g2, cap2, rfl, HF.out⟩

end Go.Nl
