/- QueueState. -/
import Derived.Test.YtgdjfgbipmajmaaQIter
import Derived.Test.YtgdjfgbipmajmaaQRun
namespace Go.Nl
open Go.RowKit Go.Sort Go.Proofs

set_option maxHeartbeats 1000000 in
set_option maxRecDepth 100000 in
theorem queueState_any (kind m : Int) (ok : OrdOk kind m) (ss : List Step) (hss : Small ss 1000 1000) (ad : Option Addr) (n' : Nat) (w : World) (hs : StepsAt w ad ss) :
    Calls Try.prog 33 #[.agg #[.int .i64 kind, .int .i64 m], .slice ad ss.length n'] w (StatePost w ((List.range (runQ (ltK kind m) ss).1.size).map (valueAt (ltK kind m) (runQ (ltK kind m) ss).1)) (runQ (ltK kind m) ss).1.size) := by
  have hsz : (runQ (ltK kind m) ss).1.size ≤ 1000000 := by
    have := (size_runQ (ltK kind m) ss 1000 hss.2 ss.length (Nat.le_refl _)).1
    rw [List.take_length] at this
    have := hss.1
    omega
  have k0 : Kept No w ((w.alloc (.cells #[.int .i64 kind, .int .i64 m] 23)).alloc (.cells #[.slice none 0 0, .int .i64 0, .bool false] 42)) := ((Kept.refl No w).alloc _).alloc _
  have hr := queued_any kind m ok ss hss ad n' _ (hs.keptNo k0)
  have hO := (Blk.new w #[.int .i64 kind, .int .i64 m] 23).alloc (.cells #[.slice none 0 0, .int .i64 0, .bool false] 42)
  have hB := Blk.new (w.alloc (.cells #[.int .i64 kind, .int .i64 m] 23)) #[.slice none 0 0, .int .i64 0, .bool false] 42
  have hst : ∀ b g cap w2, QueuedPost ((w.alloc (.cells #[.int .i64 kind, .int .i64 m] 23)).alloc (.cells #[.slice none 0 0, .int .i64 0, .bool false] 42)) kind m (runQ (ltK kind m) ss) b g cap w2 →
      Kept No ((w.alloc (.cells #[.int .i64 kind, .int .i64 m] 23)).alloc (.cells #[.slice none 0 0, .int .i64 0, .bool false] 42)) w2 ∧
      Calls Try.prog 47 #[.iface 63 (.pointer (some ⟨b, 0, none⟩))] w2 (StatePost w2 ((List.range (runQ (ltK kind m) ss).1.size).map (valueAt (ltK kind m) (runQ (ltK kind m) ss).1)) (runQ (ltK kind m) ss).1.size) := by
    intro b g cap w2 h
    refine ⟨h.keptw, ?_⟩
    obtain ⟨hb, lb, ao, c, ob, fv, h1, _, _, _, _, _, _, _, _, _, _, h12, _⟩ := h
    exact stateOf_queue h1 (by rw [h12.cell]; rfl) ok hsz
  have HR := Lib.hid hr; have HST := Lib.hid hst; have HB := Lib.hid hB; have K0 := Lib.hid k0
  have o0 := hO.ord0; have o1 := hO.ord1
  clear hr hst hB k0 hs hss hO
  generalize (List.range (runQ (ltK kind m) ss).1.size).map (valueAt (ltK kind m) (runQ (ltK kind m) ss).1) = vs at *
  generalize (runQ (ltK kind m) ss).1.size = sz at *
  go_enter Try.func33, Try.ntmps33
  go_wp2_with fail
  refine HR.out.mono ?_
  rintro e w2 ⟨b, g, cap, rfl, hp⟩
  obtain ⟨k2, hc⟩ := HST.out b g cap w2 hp
  have HC := Lib.hid hc; have K2 := Lib.hid k2; clear hp k2 hc
  go_wp2_with fail
  refine HC.out.mono ?_
  rintro e w3 ⟨g2, cap2, rfl, hcs, k3, hg2⟩
  have hsz2 := K2.out.size
  simp only [World.size_alloc] at hsz2
  have K3 := Lib.hid (K2.out.trans k3 (fun _ _ h => h)); have HCS := Lib.hid hcs; clear k3 hcs
  have hrb := HB.out.kept K3.out (fun h => h)
  simp only [World.size_alloc] at hrb
  have hsz3 := K3.out.size
  simp only [World.size_alloc] at hsz3
  have r0 : w3.cell? ⟨w.heap.size + 1, 0, none⟩ = some (.slice none 0 0) := by rw [hrb.cell]; rfl
  have r1 : w3.cell? ⟨w.heap.size + 1, 1, none⟩ = some (.int .i64 0) := by rw [hrb.cell]; rfl
  have r2 : w3.cell? ⟨w.heap.size + 1, 2, none⟩ = some (.bool false) := by rw [hrb.cell]; rfl
  have f0 := hrb.frozen 0
  have f1 := hrb.frozen 1
  have f2 := hrb.frozen 2
  generalize hbe : ((sz : Int) == 0) = be at *
  have HBE := Lib.hid hbe; clear hbe
  have hrs := ((hrb.set 0 (.slice (some ⟨g2, 0, none⟩) sz cap2)).set 1 (.int .i64 sz)).set 2 (.bool be)
  have s0 := hrs.cell 0
  have s1 := hrs.cell 1
  have s2 := hrs.cell 2
  have q3 : Kept (fun i => i = w.heap.size + 1) w3 (((w3.setCell ⟨w.heap.size + 1, 0, none⟩ (.slice (some ⟨g2, 0, none⟩) sz cap2)).setCell ⟨w.heap.size + 1, 1, none⟩ (.int .i64 sz)).setCell ⟨w.heap.size + 1, 2, none⟩ (.bool be)) :=
    (((Kept.refl (fun i => i = w.heap.size + 1) w3).setCell ⟨w.heap.size + 1, 0, none⟩ _ (fun _ => rfl)).setCell ⟨w.heap.size + 1, 1, none⟩ _ (fun _ => rfl)).setCell ⟨w.heap.size + 1, 2, none⟩ _ (fun _ => rfl)
  have HKK := Lib.hid ((K0.out.trans K3.out (fun _ _ h => h)).trans q3 (fun i hi e => by omega))
  have HCC := Lib.hid (HCS.out.kept q3 (fun a ha _ e => by injection ha with ha; subst ha; simp only at e; omega))
  clear q3 hrs hrb
  simp only [List.setIfInBounds_toArray, List.set_cons_zero, List.set_cons_succ] at s0 s1 s2
  go_wp2_with fail
  exact bodyPost_ret (v := .agg #[.slice (some ⟨g2, 0, none⟩) sz cap2, .int .i64 sz, .bool be]) (by simp [results, Try.results33, go_sem, s0, s1, s2]) rfl ⟨g2, cap2, by rw [HBE.out], HCC.out, HKK.out, by omega⟩

end Go.Nl
