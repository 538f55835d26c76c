/- FnHeapPeeked: the walk. -/
import Derived.Test.YtgdjfgbipmajmaaSteps
import Derived.Deep.RegionHeld3
import Derived.Deep.DeepCutAuto
namespace Go.Nl
open Go.RowKit Go.Sort Go.Proofs

theorem info31 : (Try.prog.info? 31).map (fun i => (i.zero, i.size, i.bytes)) = some (some (.agg #[.int .i64 0, .slice none 0 0]), 2, 32) := by kernel_rfl
theorem i31_parts : ∃ i, Try.prog.info? 31 = some i ∧ i.zero = some (.agg #[.int .i64 0, .slice none 0 0]) ∧ i.size = 2 ∧ i.bytes = 32 := by
  obtain ⟨i, hi, h⟩ := Option.map_eq_some_iff.1 info31
  simp only [Prod.mk.injEq] at h
  exact ⟨i, hi, h.1, h.2.1, h.2.2⟩

def lookCells : List Value := [.int .i64 3, .slice none 0 0, .int .i64 3, .slice none 0 0, .int .i64 2, .slice none 0 0]
def lookSteps : List Step := [(3, []), (3, []), (2, [])]

/-- The first append: the steps that came in, to none. -/
theorem first_app {w1 W : World} {ad : Option Addr} {ss : List Step} {vs : List Value} {gE n' : Nat} (hv : StepVals w1 vs ss) (hc : CellsAt w1 ad vs) (k : Kept No w1 W) (hE : RowAt W gE 0 0 31 2 []) (hgE : w1.heap.size ≤ gE)
    (had : ad = none → n' = 0) (hn : ss.length ≤ 1000) :
    ∃ g1 c1 v1, (Builtin.append_ #[24, 24] 24 #[.slice (some ⟨gE, 0, none⟩) 0 0, .slice ad ss.length n']).run Try.prog W = .ok (.slice (some ⟨g1, 0, none⟩) ss.length c1) v1 ∧
      RowAt v1 g1 ss.length c1 31 2 vs ∧ Kept No w1 v1 ∧ w1.heap.size ≤ g1 ∧ Kept (fun b => b = gE) W v1 := by
  obtain ⟨i, hi, hz, hs, hb⟩ := i31_parts
  obtain ⟨g1, c1, v1, hr, hrow, hk, hg⟩ := append_src (P := Try.prog) 24 24 i (.agg #[.int .i64 0, .slice none 0 0]) 2 32 hE (by kernel_rfl) hi hz hs hb rfl (by omega) ad ss.length n' vs hv.len (hc.keptNo k)
    (fun h => by
      refine ⟨?_, had h⟩
      by_cases h0 : ss.length = 0
      · exact h0
      · obtain ⟨va, n2, a1, _, _⟩ := hv.at_ 0 (by omega)
        obtain ⟨b, o, e, _⟩ := hc _ _ a1
        rw [h] at e
        cases e) hv.one (by omega) (by omega)
  rw [Nat.zero_add] at hr hrow
  refine ⟨g1, c1, v1, hr, by simpa using hrow, k.trans hk (fun b hb h => by omega), ?_, hk⟩
  have := k.size
  rcases hg with rfl | h <;> omega

/-- The second append: two looks and a taking. -/
theorem second_app {w1 V : World} {ss : List Step} {vs : List Value} {g1 c1 gT : Nat} (hv : StepVals w1 vs ss) (k : Kept No w1 V) (hR : RowAt V g1 ss.length c1 31 2 vs) (hg1 : w1.heap.size ≤ g1) (hT : CellsAt V (some ⟨gT, 0, none⟩) lookCells) (hn : ss.length ≤ 1000) :
    ∃ g2 c2 v2, (Builtin.append_ #[24, 24] 24 #[.slice (some ⟨g1, 0, none⟩) ss.length c1, .slice (some ⟨gT, 0, none⟩) 3 3]).run Try.prog V = .ok (.slice (some ⟨g2, 0, none⟩) (ss.length + 3) c2) v2 ∧
      StepsAt v2 (some ⟨g2, 0, none⟩) (ss ++ lookSteps) ∧ Kept No w1 v2 := by
  obtain ⟨i, hi, hz, hs, hb⟩ := i31_parts
  obtain ⟨g2, c2, v2, hr, hrow, hk, hg⟩ := append_src (P := Try.prog) 24 24 i (.agg #[.int .i64 0, .slice none 0 0]) 2 32 hR (by kernel_rfl) hi hz hs hb rfl (by omega) (some ⟨gT, 0, none⟩) 3 3 lookCells rfl hT
    (fun h => by cases h) (by simp [lookCells, Value.oneCell']) (by omega) (by omega)
  have k2 : Kept No w1 v2 := k.trans hk (fun b hb h => by omega)
  refine ⟨g2, c2, v2, hr, ?_, k2⟩
  have h2 : StepVals v2 lookCells lookSteps := StepVals.bare v2 [3, 3, 2]
  exact ((hv.keptNo k2).append h2).at hrow.cells

/-- What the run of the statement's steps hands back: what was told, and one and the same three times. -/
def PeekPost (w : World) (e : Ending) (w' : World) : Prop :=
  ∃ (g cap j : Nat) (x : Int) (b : Bool), e = .returned (.slice (some ⟨g, 0, none⟩) (j + 3) cap) ∧ Kept No w w' ∧ j ≤ 1000 ∧
    w'.cell? ⟨g, j * 2, none⟩ = some (.int .i64 x) ∧ w'.cell? ⟨g, j * 2 + 1, none⟩ = some (.bool b) ∧ w'.cell? ⟨g, (j + 1) * 2, none⟩ = some (.int .i64 x) ∧ w'.cell? ⟨g, (j + 1) * 2 + 1, none⟩ = some (.bool b) ∧
    w'.cell? ⟨g, (j + 2) * 2, none⟩ = some (.int .i64 x) ∧ w'.cell? ⟨g, (j + 2) * 2 + 1, none⟩ = some (.bool b)

/-- Function R runs steps: what it tells is f's. -/
def RunsLike (R : Nat) (f : Int → Int → List Step → List Got) : Prop :=
  ∀ (kind m : Int), OrdOk kind m → ∀ ss : List Step, Small ss 1000 1000 → ∀ (ad : Option Addr) (n' : Nat) (w : World), StepsAt w ad ss →
    Calls Try.prog R #[.agg #[.int .i64 kind, .int .i64 m], .slice ad ss.length n'] w fun e w' => ∃ g cap, e = .returned (.slice (some ⟨g, 0, none⟩) (f kind m ss).length cap) ∧ RunPost w (f kind m ss) g cap w'

/-- Behind two looks and a taking one and the same is told three times. -/
def Looks (f : Int → Int → List Step → List Got) : Prop := ∀ (kind m : Int) (ss : List Step), Small ss 200 20 → ∃ gs s, f kind m (ss ++ lookSteps) = gs ++ [s, s, s] ∧ gs.length ≤ 1000

theorem peekPost_of {f : Int → Int → List Step → List Got} (hf : Looks f) {w w2 w' : World} {kind m : Int} {ss : List Step} {g cap : Nat} (hss : Small ss 200 20) (k : Kept No w w2) (h : RunPost w2 (f kind m (ss ++ lookSteps)) g cap w') :
    PeekPost w (.returned (.slice (some ⟨g, 0, none⟩) (f kind m (ss ++ lookSteps)).length cap)) w' := by
  obtain ⟨hrow, hk, _⟩ := h
  obtain ⟨gs, s, hp, hl⟩ := hf kind m ss hss
  rw [hp] at hrow ⊢
  obtain ⟨x, b⟩ := s
  have hlen : (gs ++ [(x, b), (x, b), (x, b)]).length = gs.length + 3 := by simp
  rw [hlen] at hrow ⊢
  have hat : ∀ j, j < 3 → (gs ++ [(x, b), (x, b), (x, b)])[gs.length + j]? = some (x, b) := by
    intro j hj
    rw [List.getElem?_append_right (by omega), Nat.add_sub_cancel_left]
    match j, hj with
    | 0, _ => rfl
    | 1, _ => rfl
    | 2, _ => rfl
  have c := fun j hj => gotCells_at _ _ _ (hat j hj)
  exact ⟨g, cap, gs.length, x, b, rfl, k.trans hk (fun _ _ h => h), hl, hrow.cell _ _ (c 0 (by omega)).1, hrow.cell _ _ (c 0 (by omega)).2, hrow.cell _ _ (c 1 (by omega)).1, hrow.cell _ _ (c 1 (by omega)).2,
    hrow.cell _ _ (c 2 (by omega)).1, hrow.cell _ _ (c 2 (by omega)).2⟩

theorem small_look {ss : List Step} (h : Small ss 200 20) : Small (ss ++ lookSteps) 1000 1000 := by
  refine ⟨by have := h.1; simp [lookSteps]; omega, fun s hs => ?_⟩
  rcases List.mem_append.1 hs with h' | h'
  · have := h.2 s h'; omega
  · simp [lookSteps] at h'; rcases h' with rfl | rfl <;> simp

/-- The three orders of the statement's own slices. -/
structure Order3 (R : Nat) (w w3 W : World) (gE gT : Nat) (tFirst : Bool) (kind m : Int) (n n' : Nat) (ad : Option Addr) (g1 c1 : Nat) (v1 : World) (g2 c2 : Nat) (v2 : World) : Prop where
  r1 : (Builtin.append_ #[24, 24] 24 #[.slice (some ⟨gE, 0, none⟩) 0 0, .slice ad n n']).run Try.prog W = .ok (.slice (some ⟨g1, 0, none⟩) n c1) v1
  r2 : (Builtin.append_ #[24, 24] 24 #[.slice (some ⟨g1, 0, none⟩) n c1, .slice (some ⟨gT, 0, none⟩) 3 3]).run Try.prog (if tFirst then v1 else v1.alloc (.cells #[.int .i64 3, .slice none 0 0, .int .i64 3, .slice none 0 0, .int .i64 2, .slice none 0 0] 31)) = .ok (.slice (some ⟨g2, 0, none⟩) (n + 3) c2) v2
  kept1 : Kept No w3 v1
  kept2 : Kept No w3 v2
  run : Calls Try.prog R #[.agg #[.int .i64 kind, .int .i64 m], .slice (some ⟨g2, 0, none⟩) (n + 3) c2] v2 (PeekPost w3)

theorem order3_run {R : Nat} {f : Int → Int → List Step → List Got} (hR : RunsLike R f) (hf : Looks f) {kind m : Int} (ok : OrdOk kind m) {ss : List Step} (hss : Small ss 200 20) {w v2 : World} {g2 c2 : Nat} (hs : StepsAt v2 (some ⟨g2, 0, none⟩) (ss ++ lookSteps)) (k : Kept No w v2) :
    Calls Try.prog R #[.agg #[.int .i64 kind, .int .i64 m], .slice (some ⟨g2, 0, none⟩) (ss.length + 3) c2] v2 (PeekPost w) := by
  have := hR kind m ok (ss ++ lookSteps) (small_look hss) (some ⟨g2, 0, none⟩) c2 v2 hs
  rw [show (ss ++ lookSteps).length = ss.length + 3 by simp [lookSteps]] at this
  refine this.mono ?_
  rintro e w' ⟨g, cap, rfl, hp⟩
  exact peekPost_of hf hss k hp

def tObj : Obj := .cells #[.int .i64 3, .slice none 0 0, .int .i64 3, .slice none 0 0, .int .i64 2, .slice none 0 0] 31

theorem orderA {R : Nat} {f : Int → Int → List Step → List Got} (hR : RunsLike R f) (hf : Looks f) {kind m : Int} (ok : OrdOk kind m) {ss : List Step} (hss : Small ss 200 20) {w w3 : World} {ad : Option Addr} {n' : Nat} (hs : StepsAt w ad ss) (k : Kept No w w3) (had : ad = none → n' = 0) :
    ∃ g1 c1 v1 g2 c2 v2, Order3 R w w3 ((w3.alloc (.cells #[] 31)).drew) w3.heap.size v1.heap.size false kind m ss.length n' ad g1 c1 v1 g2 c2 v2 := by
  obtain ⟨vs, hv, hc⟩ := stepVals_of ss (hs.keptNo k)
  have hn : ss.length ≤ 1000 := by have := hss.1; omega
  have kE : Kept No w3 ((w3.alloc (.cells #[] 31)).drew) := ((Kept.refl No w3).alloc _).drew
  obtain ⟨g1, c1, v1, r1, hrow, k1, hg1, _⟩ := first_app hv hc kE ((RowAt.new w3 #[] 31 2 0 rfl).kept (S := No) (Kept.drew (Kept.refl _ _)) (fun h => h)) (Nat.le_refl _) had hn
  have kT : Kept No v1 (v1.alloc tObj) := (Kept.refl No v1).alloc _
  obtain ⟨g2, c2, v2, r2, hst, k2⟩ := second_app (gT := v1.heap.size) hv (k1.trans kT (fun _ _ h => h)) (hrow.kept kT (fun h => h)) hg1 (RowAt.new v1 lookCells.toArray 31 2 3 rfl).cells hn
  exact ⟨g1, c1, v1, g2, c2, v2, r1, r2, k1, k2, order3_run hR hf ok hss hst k2⟩

theorem orderB {R : Nat} {f : Int → Int → List Step → List Got} (hR : RunsLike R f) (hf : Looks f) {kind m : Int} (ok : OrdOk kind m) {ss : List Step} (hss : Small ss 200 20) {w w3 : World} {ad : Option Addr} {n' : Nat} (hs : StepsAt w ad ss) (k : Kept No w w3) (had : ad = none → n' = 0) :
    ∃ g1 c1 v1 g2 c2 v2, Order3 R w w3 (((w3.alloc (.cells #[] 31)).alloc tObj).drew) w3.heap.size (w3.heap.size + 1) true kind m ss.length n' ad g1 c1 v1 g2 c2 v2 := by
  obtain ⟨vs, hv, hc⟩ := stepVals_of ss (hs.keptNo k)
  have hn : ss.length ≤ 1000 := by have := hss.1; omega
  have ka : Kept No (w3.alloc (.cells #[] 31)) (((w3.alloc (.cells #[] 31)).alloc tObj).drew) := ((Kept.refl No _).alloc _).drew
  have kE : Kept No w3 (((w3.alloc (.cells #[] 31)).alloc tObj).drew) := ((Kept.refl No w3).alloc _).trans ka (fun _ _ h => h)
  obtain ⟨g1, c1, v1, r1, hrow, k1, hg1, kk⟩ := first_app hv hc kE ((RowAt.new w3 #[] 31 2 0 rfl).kept ka (fun h => h)) (Nat.le_refl _) had hn
  have hT := RowAt.new (w3.alloc (.cells #[] 31)) lookCells.toArray 31 2 3 rfl
  rw [World.size_alloc] at hT
  have hT1 : RowAt v1 (w3.heap.size + 1) 3 3 31 2 lookCells := (RowAt.kept (S := No) hT (Kept.drew (Kept.refl _ _)) (fun h => h)).kept kk (by omega)
  obtain ⟨g2, c2, v2, r2, hst, k2⟩ := second_app (gT := w3.heap.size + 1) hv k1 hrow hg1 hT1.cells hn
  exact ⟨g1, c1, v1, g2, c2, v2, r1, r2, k1, k2, order3_run hR hf ok hss hst k2⟩

theorem orderC {R : Nat} {f : Int → Int → List Step → List Got} (hR : RunsLike R f) (hf : Looks f) {kind m : Int} (ok : OrdOk kind m) {ss : List Step} (hss : Small ss 200 20) {w w3 : World} {ad : Option Addr} {n' : Nat} (hs : StepsAt w ad ss) (k : Kept No w w3) (had : ad = none → n' = 0) :
    ∃ g1 c1 v1 g2 c2 v2, Order3 R w w3 (((w3.alloc tObj).alloc (.cells #[] 31)).drew) (w3.heap.size + 1) w3.heap.size true kind m ss.length n' ad g1 c1 v1 g2 c2 v2 := by
  obtain ⟨vs, hv, hc⟩ := stepVals_of ss (hs.keptNo k)
  have hn : ss.length ≤ 1000 := by have := hss.1; omega
  have ka : Kept No (w3.alloc tObj) (((w3.alloc tObj).alloc (.cells #[] 31)).drew) := ((Kept.refl No _).alloc _).drew
  have kE : Kept No w3 (((w3.alloc tObj).alloc (.cells #[] 31)).drew) := ((Kept.refl No w3).alloc _).trans ka (fun _ _ h => h)
  have hE := RowAt.new (w3.alloc tObj) #[] 31 2 0 rfl
  rw [World.size_alloc] at hE
  obtain ⟨g1, c1, v1, r1, hrow, k1, hg1, kk⟩ := first_app hv hc kE (RowAt.kept (S := No) hE (Kept.drew (Kept.refl _ _)) (fun h => h)) (by omega) had hn
  have hT1 : RowAt v1 w3.heap.size 3 3 31 2 lookCells := ((RowAt.new w3 lookCells.toArray 31 2 3 rfl).kept ka (fun h => h)).kept kk (by omega)
  obtain ⟨g2, c2, v2, r2, hst, k2⟩ := second_app (gT := w3.heap.size) hv k1 hrow hg1 hT1.cells hn
  exact ⟨g1, c1, v1, g2, c2, v2, r1, r2, k1, k2, order3_run hR hf ok hss hst k2⟩

theorem heapRun_like : RunsLike 22 (fun kind m ss => (runH (ltK kind m) ss).2) := fun kind m ok ss hss ad n' w hs => heapRun_any kind m ok ss hss ad n' w hs

theorem heapRun_looks : Looks (fun kind m ss => (runH (ltK kind m) ss).2) := fun kind m ss hss => by
  refine ⟨_, _, run_peeked _ _, ?_⟩
  have := (size_runH (ltK kind m) ss 20 hss.2 ss.length (Nat.le_refl _)).2
  rw [List.take_length] at this
  have := hss.1
  omega

set_option maxHeartbeats 4000000 in
set_option maxRecDepth 100000 in
theorem heapPeeked_walk (kind m : Int) (ss : List Step) (ad : Option Addr) (n' : Nat) (w : World) (hs : StepsAt w ad ss) (hn : ss.length ≤ maxLen) (had : ad = none → n' = 0) :
    Calls Try.prog 3 #[.agg #[.int .i64 kind, .int .i64 m], .slice ad ss.length n'] w fun e w' => e = .returned (.bool true) ∧ Kept No w w' := by
  have k0 : Kept No w (w.alloc (.cells #[.int .i64 kind, .int .i64 m] 23)) := (Kept.refl No w).alloc _
  have hb0 := Blk.new w #[.int .i64 kind, .int .i64 m] 23
  have hf := fits3_any ss ad n' _ (hs.keptNo k0) hn
  have hF : ∀ w1, Kept No (w.alloc (.cells #[.int .i64 kind, .int .i64 m] 23)) w1 → Kept No w w1 ∧ w1.cell? ⟨w.heap.size, 0, none⟩ = some (.int .i64 kind) ∧ w1.cell? ⟨w.heap.size, 1, none⟩ = some (.int .i64 m) := by
    intro w1 k1
    have hb1 := hb0.kept k1 (fun h => h)
    exact ⟨k0.trans k1 (fun _ _ h => h), by rw [hb1.cell]; rfl, by rw [hb1.cell]; rfl⟩
  have hO := orderOk_any kind m
  have hS := fun w1 (k : Kept No w w1) => stepsOk_any ss ad n' w1 (hs.keptNo k) hn
  have HF0 := Lib.hid hf; have HF := Lib.hid hF; have HO := Lib.hid hO; have HS := Lib.hid hS; have HH := Lib.hid hs; have HA := Lib.hid had
  clear hf hF hO hS hs had hn k0 hb0
  generalize hnn : ss.length = n at *
  have HN := Lib.hid hnn; clear hnn
  go_enter Try.func3, Try.ntmps3
  go_wp2_with fail
  refine HF0.out.mono ?_
  rintro e w1 ⟨b, rfl, _, k1⟩
  obtain ⟨kw, c0, c1⟩ := HF.out w1 k1
  have K1 := Lib.hid kw; have K01 := Lib.hid k1; clear kw k1
  cases b
  · go_wp2_with fail
    go_ret
    exact ⟨rfl, K1.out⟩
  go_wp2_with fail
  refine (HO.out w1).mono ?_
  rintro e w2 ⟨b, rfl, hok, k2⟩
  obtain ⟨kw, d0, d1⟩ := HF.out w2 (K01.out.trans k2 (fun _ _ h => h))
  have K2 := Lib.hid kw; have K02 := Lib.hid (K01.out.trans k2 (fun _ _ h => h)); have HOK := Lib.hid hok; clear kw k2 hok c0 c1
  cases b
  · go_wp2_with fail
    go_ret
    exact ⟨rfl, K2.out⟩
  go_wp2_with fail
  refine (HS.out w2 K2.out).mono ?_
  rintro e w3 ⟨b, rfl, hsm, k3⟩
  obtain ⟨kw, e0, e1⟩ := HF.out w3 (K02.out.trans k3 (fun _ _ h => h))
  have K3 := Lib.hid kw; have HSM := Lib.hid hsm; clear kw k3 hsm d0 d1
  cases b
  · go_wp2_with fail
    go_ret
    exact ⟨rfl, K3.out⟩
  go_upto_region 5 with fail
  obtain ⟨a1, ac1, av, a2, ac2, au, OA⟩ := orderA heapRun_like heapRun_looks (HOK.out (by simp)) (HSM.out (by simp)) HH.out K3.out HA.out
  obtain ⟨b1, bc1, bv, b2, bc2, bu, OB⟩ := orderB heapRun_like heapRun_looks (HOK.out (by simp)) (HSM.out (by simp)) HH.out K3.out HA.out
  obtain ⟨q1, qc1, qv, q2, qc2, qu, OC⟩ := orderC heapRun_like heapRun_looks (HOK.out (by simp)) (HSM.out (by simp)) HH.out K3.out HA.out
  rw [HN.out] at OA OB OC
  unfold tObj at OB OC
  have fa0 := cell_keptNo e0 OA.kept1; have fa1 := cell_keptNo e1 OA.kept1; have fa2 := cell_keptNo e0 OA.kept2; have fa3 := cell_keptNo e1 OA.kept2
  have fb0 := cell_keptNo e0 OB.kept1; have fb1 := cell_keptNo e1 OB.kept1; have fb2 := cell_keptNo e0 OB.kept2; have fb3 := cell_keptNo e1 OB.kept2
  have fc0 := cell_keptNo e0 OC.kept1; have fc1 := cell_keptNo e1 OC.kept1; have fc2 := cell_keptNo e0 OC.kept2; have fc3 := cell_keptNo e1 OC.kept2
  have hl3 := cell_lt e0
  have hlA := cell_lt fa0
  have RA1 := Lib.hid OA.r1; have RA2 := Lib.hid OA.r2; have RA3 := Lib.hid OA.run
  have RB1 := Lib.hid OB.r1; have RB2 := Lib.hid OB.r2; have RB3 := Lib.hid OB.run
  have RC1 := Lib.hid OC.r1; have RC2 := Lib.hid OC.r2; have RC3 := Lib.hid OC.run
  clear OA OB OC
  go_cut [5] (fun s5 wc => Hid (PeekPost w3 (.returned s5) wc))
  case first =>
    go_region_held3 (fun w' => w'.cell? ⟨w.heap.size, 0, none⟩ = some (.int .i64 kind) ∧ w'.cell? ⟨w.heap.size, 1, none⟩ = some (.int .i64 m)) (go_keep)
      (first
        | ((with_reducible refine step_append_run ?_ (.tmp 19) (.tmp 20) 24 ?_ _ _ _ ?_ ?_ RA1.out ?_); rfl; rfl; rfl; rfl)
        | ((with_reducible refine step_append_run ?_ (.tmp 19) (.tmp 20) 24 ?_ _ _ _ ?_ ?_ RB1.out ?_); rfl; rfl; rfl; rfl)
        | ((with_reducible refine step_append_run ?_ (.tmp 19) (.tmp 20) 24 ?_ _ _ _ ?_ ?_ RC1.out ?_); rfl; rfl; rfl; rfl)
        | ((with_reducible refine step_append_run ?_ (.tmp 21) (.tmp 25) 24 ?_ _ _ _ ?_ ?_ RA2.out ?_); rfl; rfl; rfl; rfl)
        | ((with_reducible refine step_append_run ?_ (.tmp 21) (.tmp 25) 24 ?_ _ _ _ ?_ ?_ RB2.out ?_); rfl; rfl; rfl; rfl)
        | ((with_reducible refine step_append_run ?_ (.tmp 21) (.tmp 25) 24 ?_ _ _ _ ?_ ?_ RC2.out ?_); rfl; rfl; rfl; rfl)
        | (go_at_call 22; (with_reducible refine RA3.out.mono ?_); rintro e wz ⟨g, cap, j, x, b, rfl, hz0, hz⟩; have z0 := cell_keptNo e0 hz0; have z1 := cell_keptNo e1 hz0)
        | (go_at_call 22; (with_reducible refine RB3.out.mono ?_); rintro e wz ⟨g, cap, j, x, b, rfl, hz0, hz⟩; have z0 := cell_keptNo e0 hz0; have z1 := cell_keptNo e1 hz0)
        | (go_at_call 22; (with_reducible refine RC3.out.mono ?_); rintro e wz ⟨g, cap, j, x, b, rfl, hz0, hz⟩; have z0 := cell_keptNo e0 hz0; have z1 := cell_keptNo e1 hz0))
    all_goals
      go_wp2_with fail
      go_meet
      case rel => exact ⟨g, cap, j, x, b, rfl, hz0, hz⟩
  case rest =>
    obtain ⟨g, cap, j, x, b, he, hk, hj, c00, c01, c10, c11, c20, c21⟩ := hcut.out
    injection he with he
    subst he
    have HK := Lib.hid (K3.out.trans hk (fun _ _ h => h))
    have hkeep := fun W => keepsHeap_any W
    have HKP := Lib.hid hkeep
    have HZ := Lib.hid (show ∀ w', Kept No wc.drew w' → w'.cell? ⟨g, j * 2, none⟩ = some (.int .i64 x) ∧ w'.cell? ⟨g, j * 2 + 1, none⟩ = some (.bool b) ∧ w'.cell? ⟨g, (j + 1) * 2, none⟩ = some (.int .i64 x) ∧ w'.cell? ⟨g, (j + 1) * 2 + 1, none⟩ = some (.bool b) ∧
        w'.cell? ⟨g, (j + 2) * 2, none⟩ = some (.int .i64 x) ∧ w'.cell? ⟨g, (j + 2) * 2 + 1, none⟩ = some (.bool b) from
      fun w' hz => by
        have hz : Kept No wc w' := ((Kept.refl No wc).drew).trans hz (fun _ _ h => h)
        exact ⟨cell_keptNo c00 hz, cell_keptNo c01 hz, cell_keptNo c10 hz, cell_keptNo c11 hz, cell_keptNo c20 hz, cell_keptNo c21 hz⟩)
    have t1 : (3 : Int) ≤ (j : Int) + 3 := by omega
    clear hkeep hk e0 e1 fa0 fa1 fa2 fa3 fb0 fb1 fb2 fb3 fc0 fc1 fc2 fc3 hl3 hlA RA1 RA2 RA3 RB1 RB2 RB3 RC1 RC2 RC3 HN HF0 HF HO HS HH HA hcut
    go_upto_region 7 with fail
    have v1 : IntKind.i64.wrap ((j : Int) + 3 - 1) = (j : Int) + 2 := by rw [IntWalk.i64_in _ (by omega)]; omega
    have v2 : IntKind.i64.wrap ((j : Int) + 3 - 2) = (j : Int) + 1 := by rw [IntWalk.i64_in _ (by omega)]; omega
    have v3 : IntKind.i64.wrap ((j : Int) + 3 - 3) = (j : Int) := by rw [IntWalk.i64_in _ (by omega)]; omega
    have v4 : IntKind.i64.wrap (j : Int) = (j : Int) := IntWalk.i64_in _ (by omega)
    have n1 : ((j : Int) + 2).toNat = j + 2 := by omega
    have n2 : ((j : Int) + 1).toNat = j + 1 := by omega
    have b1 : (0 : Int) ≤ (j : Int) + 2 := by omega
    have b2' : (0 : Int) ≤ (j : Int) + 1 := by omega
    have b3 : (0 : Int) ≤ (j : Int) := by omega
    have b4 : (j : Int) + 2 < (j : Int) + 3 := by omega
    have b5 : (j : Int) + 1 < (j : Int) + 3 := by omega
    have b6 : (j : Int) < (j : Int) + 3 := by omega
    go_region_held3 (fun w' => w'.cell? ⟨g, j * 2, none⟩ = some (.int .i64 x) ∧ w'.cell? ⟨g, j * 2 + 1, none⟩ = some (.bool b) ∧ w'.cell? ⟨g, (j + 1) * 2, none⟩ = some (.int .i64 x) ∧ w'.cell? ⟨g, (j + 1) * 2 + 1, none⟩ = some (.bool b) ∧
        w'.cell? ⟨g, (j + 2) * 2, none⟩ = some (.int .i64 x) ∧ w'.cell? ⟨g, (j + 2) * 2 + 1, none⟩ = some (.bool b)) (go_keep)
      (first
        | (go_at_call 23; (with_reducible refine (HKP.out _).mono ?_); rintro e wz ⟨rfl, hz⟩; obtain ⟨z0, z1, z2, z3, z4, z5⟩ := HZ.out wz hz))
    all_goals
      go_wp2_with fail
      go_ret
      exact ⟨rfl, HK.out.drew.trans hz (fun _ _ h => h)⟩

end Go.Nl
