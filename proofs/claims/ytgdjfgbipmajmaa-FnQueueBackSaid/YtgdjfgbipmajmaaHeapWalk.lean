/- HeapWalk. -/
import Derived.Test.YtgdjfgbipmajmaaWalkH
import Derived.Test.YtgdjfgbipmajmaaRun
namespace Go.Nl
open Go.RowKit Go.Sort Go.Proofs

/-- What HeapWalk and QueueWalk hand back. -/
def WalkRow (w : World) (seen : List SeenT) (n : Nat) (e : Ending) (w' : World) : Prop :=
  ∃ g cap, e = .returned (.slice (some ⟨g, 0, none⟩) n cap) ∧ RowAt w' g n cap 55 3 (seen.flatMap seenCells) ∧ Kept No w w' ∧ w.heap.size ≤ g

theorem MovesAt.keptNo {w w' : World} {ad : Option Addr} {ops : List Int} (h : MovesAt w ad ops) (k : Kept No w w') : MovesAt w' ad ops := by
  intro j hj
  obtain ⟨sb, so, ha, h1, h2, h3⟩ := h j hj
  exact ⟨sb, so, ha, cell_keptNo h1 k, cell_keptNo h2 k, cell_keptNo h3 k⟩

set_option maxHeartbeats 1000000 in
set_option maxRecDepth 100000 in
theorem heapWalk_any (kind m : Int) (ok : OrdOk kind m) (ss : List Step) (hss : Small ss 1000 1000) (ad : Option Addr) (n' : Nat) (w : World) (hs : StepsAt w ad ss)
    (ops : List Int) (hop : ∀ op ∈ ops, op = 1 ∨ op = 2 ∨ op = 6) (hol : ops.length ≤ 100000) (mad : Option Addr) (mn : Nat) (hm : MovesAt w mad ops) (hmb : ∀ a, mad = some a → a.block < w.heap.size) :
    Calls Try.prog 36 #[.agg #[.int .i64 kind, .int .i64 m], .slice ad ss.length n', .slice mad ops.length mn] w (WalkRow w (walkP (ltK kind m) (runH (ltK kind m) ss).1 ops).2 ops.length) := by
  have hsz : (runH (ltK kind m) ss).1.size ≤ 1000000 := by
    have := (size_runH (ltK kind m) ss 1000 hss.2 ss.length (Nat.le_refl _)).1
    rw [List.take_length] at this
    have := hss.1
    omega
  have k0 : Kept No w (w.alloc (.cells #[.int .i64 kind, .int .i64 m] 23)) := (Kept.refl No w).alloc _
  have hr := heaped_any kind m ok ss hss ad n' _ (hs.keptNo k0)
  have hO := Blk.new w #[.int .i64 kind, .int .i64 m] 23
  have o0 := hO.ord0; have o1 := hO.ord1
  have hlen := (walkP_inv (ltK kind m) (runH (ltK kind m) ss).1 ops hop ops.length (Nat.le_refl _)).2.2
  rw [List.take_length] at hlen
  have hst : ∀ b g cap w2, HeapedPost (w.alloc (.cells #[.int .i64 kind, .int .i64 m] 23)) kind m (runH (ltK kind m) ss) b g cap w2 → Kept No w w2 ∧
      ∀ w3, Kept No w2 w3 → Calls Try.prog 55 #[.iface 81 (.pointer (some ⟨w3.heap.size, 0, none⟩)), .slice mad ops.length mn] (w3.alloc (.cells #[.pointer (some ⟨b, 0, none⟩), .int .i64 (-1)] 78)) (WalkRow w (walkP (ltK kind m) (runH (ltK kind m) ss).1 ops).2 ops.length) := by
    intro b g cap w2 h
    have kw2 := k0.trans h.keptw (fun _ _ h => h)
    obtain ⟨lb, ao, c, ob, h1, _⟩ := h
    refine ⟨kw2, fun w3 k3 => ?_⟩
    have hH := h1.kept (k3.alloc (.cells #[.pointer (some ⟨b, 0, none⟩), .int .i64 (-1)] 78)) (fun _ _ h => h) (fun h => h) (fun h => h)
    have q3 : Kept No w (w3.alloc (.cells #[.pointer (some ⟨b, 0, none⟩), .int .i64 (-1)] 78)) := kw2.trans (k3.alloc _) (fun _ _ h => h)
    have l1 := h1.heap.head.lt; have l2 := h1.ord.lt; have l3 := k3.size; have l4 := kw2.size
    refine (walkedHeap_any hH ⟨78, Blk.new w3 _ 78⟩ ok hsz (by omega) (by omega) (fun ho => by have := h1.ownLt _ ho; omega) ops hop hol mad mn (hm.keptNo q3) (fun a ha => by have := hmb a ha; omega)).mono ?_
    rintro e w' ⟨g2, cap2, he, hrow, hk, hg⟩
    rw [hlen] at he hrow
    refine ⟨g2, cap2, he, hrow, q3.trans hk (fun i hi e => by omega), ?_⟩
    simp only [World.size_alloc] at hg
    omega
  have HR := Lib.hid hr; have HST := Lib.hid hst
  clear hr hst k0 hs hss hO hm hmb hlen
  generalize (walkP (ltK kind m) (runH (ltK kind m) ss).1 ops).2 = sn at *
  generalize ops.length = on at *
  go_enter Try.func36, Try.ntmps36
  go_wp2_with fail
  refine HR.out.mono ?_
  rintro e w2 ⟨b, g, cap, rfl, hp⟩
  obtain ⟨k2, hw⟩ := HST.out b g cap w2 hp
  have HW := Lib.hid hw; have K2 := Lib.hid k2; clear hp k2 hw
  go_wp2_with fail
  refine (iterator_any b w2).mono ?_
  rintro e w3 ⟨rfl, k3⟩
  have HW3 := Lib.hid (HW.out w3 k3); clear k3
  go_wp2_with fail
  refine HW3.out.mono ?_
  rintro e w4 ⟨g2, cap2, rfl, hrow, hk, hg⟩
  have HF := Lib.hid (show RowAt w4 g2 on cap2 55 3 (sn.flatMap seenCells) ∧ Kept No w w4 ∧ w.heap.size ≤ g2 from ⟨hrow, hk, hg⟩); clear hrow hk hg
  go_wp2_with fail
  go_ret
  exact ⟨g2, cap2, rfl, HF.out⟩

end Go.Nl
