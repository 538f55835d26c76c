/-
  FnSortNumbers: for every order and every argument the law returns true, and each argument reads behind the call as it read before.
  Conditions: none beyond the given row's own.
-/
import Derived.Test.YtgdjfgbipmajmaaRows
import Derived.Test.YtgdjfgbipmajmaaArgs
import Derived.Test.YtgdjfgbipmajmaaFacts
import Derived.Test.YtgdjfgbipmajmaaSortNumbers
import Derived.OpenShut
import Derived.ShutString
import Derived.ChangeOld
namespace Go.Proofs.Ytgdjfgbipmajmaa.fnSortNumbers
open Go.ChangeShapes Go.WideShapes Go.ChangeAt Go.RowKit
set_option linter.unusedVariables false

theorem own : ownKnob Try.prog.godebug = none := by kernel_rfl
theorem laidOut : laidOutB Try.prog = true := by kernel_rfl

set_option maxRecDepth 100000 in
theorem lifted (os : Os) (started : os.Started) (H : Type) (enc : TypeId × Value → H) :
    ReturnsInHanded {} Try.checked os 14 .any (Rows.fnSortNumbersSpec.pre6 enc Try.prog Try.f14 Rows.fnSortNumbersRow.domain false) (Rows.fnSortNumbersSpec.post enc Try.prog Try.f14 false true false false) := by
  refine returnsInHanded_of_change (C := Try.checked) own started (by kernel_rfl) Try.func14
    (ChangeSpec.witness6 (enc := enc) (C := Try.checked) false ⟨#[], #[.slice none 0 0, .agg #[.int .i64 0, .int .i64 0]], []⟩ 8 (by kernel_rfl) (by kernel_rfl) (by kernel_rfl) (by kernel_rfl)) ?_
  intro W base args ds gs before hval0 hW hcnd _
  have hval : ∀ (j : Nat) t v, Try.f14.params[j]? = some t → args[j]? = some v → Value.okWide Try.prog W .any base t v := hval0
  have hW' := hW
  obtain ⟨p, q, hA0, hV, rfl, hfz, hnd⟩ := hW
  have hA : DataW.TrodAll enc Try.prog W 0 (fun _ => true) true Try.f14.params.toList args.toList ds p := hA0
  rw [Try.params14] at hA hval
  obtain ⟨v0, vs0, d0, ds0, p0, q0, hargs, rfl, rfl, h0, r0⟩ := trodAll_cons hA
  obtain ⟨v1, vs1, d1, ds1, p1, q1, rfl, rfl, rfl, h1, r1⟩ := trodAll_cons r0
  obtain ⟨rfl, rfl, rfl⟩ := trodAll_nil r1
  obtain rfl : args = #[v0, v1] := by cases args; simp_all
  obtain ⟨rfl, rfl⟩ := trodVars_none hV
  have k0 := h0
  have k1 := h1
  have lt0 : ∀ x ∈ p0, x.block < W.heap.size := by obtain ⟨m, hm⟩ := k0; exact DataW.trod_lt m _ _ _ hm
  have lt1 : ∀ x ∈ p1, x.block < W.heap.size := by obtain ⟨m, hm⟩ := k1; exact DataW.trod_lt m _ _ _ hm
  obtain ⟨ad, ss, sn, rfl, hss, hsl, hsn⟩ : ∃ (ad : Option Addr) (ss : List Int) (sn : Nat), v0 = .slice ad ss.length sn ∧ Go.Nl.CellsAt W ad (ss.map Go.Nl.intV) ∧ ss.length ≤ maxLen ∧ (ad = none → sn = 0) := by
    obtain ⟨a0, len0, cap0, rfl⟩ := okWide_slice Try.underlying29 (hval 0 29 v0 rfl rfl)
    obtain ⟨fuel, hf⟩ := h0
    simp only [Value.cells] at hf
    obtain ⟨ad, ss, sn, e, h, hl, hz⟩ := Go.Nl.ints_of_trod hf
    exact ⟨ad, ss, sn, e, h, hl, hz⟩
  obtain ⟨kd, km, rfl⟩ := Go.Nl.order_of_trod (hval 1 23 v1 rfl rfl) h1
  clear hA0 hval0
  refine (Go.Nl.sortNumbers_walk kd km ss ad sn W hss hsl hsn).mono fun e W' ⟨he, kept⟩ => ?_
  subst he
  have bel : Below W.heap.size W W' := kept.below (Nat.le_refl _) (fun _ _ h => h)
  exact ⟨_, rfl, _, _, _, [], _, [], hW', trodAll_mk1 (shut_bool Try.underlying4 _), (trodAll_cons_mk (Below.trod laidOut (by kernel_rfl) (of_decide_eq_true (by kernel_rfl)) k0 bel lt0) (trodAll_cons_mk (Below.trod laidOut (by kernel_rfl) (of_decide_eq_true (by kernel_rfl)) k1 bel lt1) trodAll_mk0)), rfl, bel.frame _, fun h => by cases h⟩

set_option maxHeartbeats 4000000 in
theorem closed : joinedFacts Try.prog 14 Try.f14 Rows.fnSortNumbersSpec Rows.fnSortNumbersRow = true := by
  unfold joinedFacts
  repeat' (with_reducible refine facts.and_i ?_ ?_)
  all_goals first | (with_reducible exact facts.may_enter) | (with_reducible refine facts.lifts_final _ ?_; kernel_rfl) | (with_reducible refine facts.make_is _ ?_; kernel_rfl) | (as_aux_lemma => kernel_rfl)

theorem inst : Try.f14.isInstance Try.prog Rows.fnSortNumbersRow.origin Rows.fnSortNumbersRow.targs := of_decide_eq_true (by as_aux_lemma => kernel_rfl)
theorem wrap : Try.f14.isWrapper Try.prog Rows.fnSortNumbersRow.wrapper Rows.fnSortNumbersRow.mainSum := by unfold Func.isWrapper; first | (rw [if_pos (by decide +kernel)]; kernel_rfl) | (rw [if_neg (by decide +kernel)]; exact ⟨rfl, rfl⟩)

theorem over : Rows.fnSortNumbersRow.holds Try.pinned (OpenSpec.ofChange Rows.fnSortNumbersSpec) :=
  OpenClaim.holds_of_wide 14 Try.f14 rfl rfl rfl rfl rfl rfl rfl ⟨rfl, rfl, rfl, rfl, rfl⟩ rfl rfl rfl rfl rfl (by as_aux_lemma => kernel_rfl) Try.func14 closed inst wrap
    (fun os started H enc _ => lifted os started H enc)

theorem proved : Rows.FnSortNumbersSaid := over
#print axioms proved
end Go.Proofs.Ytgdjfgbipmajmaa.fnSortNumbers
