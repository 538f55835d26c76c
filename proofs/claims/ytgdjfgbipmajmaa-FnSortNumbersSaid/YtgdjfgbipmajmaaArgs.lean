/- What the statements' arguments are in memory: an order, steps, numbers. -/
import Derived.Test.YtgdjfgbipmajmaaFits
import Derived.ProofKit
import Derived.Deep.Slices
import Derived.Lib.SmallJoins
namespace Go.Nl
open Go.RowKit Go.Sort Go.Proofs Go.ChangeShapes Go.WideShapes

variable {H : Type} {enc : TypeId × Value → H} {w : World} {base : Nat} {spare : Nat → Bool} {held : Bool}

theorem und3 : Try.prog.underlying 3 = some (.int .i64) := by kernel_rfl
theorem und29 : Try.prog.underlying 29 = some (.slice 3) := by kernel_rfl
theorem und24 : Try.prog.underlying 24 = some (.slice 31) := by kernel_rfl
theorem cells3 : Try.prog.cellsOf 3 = 1 := by kernel_rfl
theorem cells29 : Try.prog.cellsOf 29 = 1 := by kernel_rfl
theorem cells31 : Try.prog.cellsOf 31 = 2 := by kernel_rfl
theorem cells23 : Try.prog.cellsOf 23 = 2 := by kernel_rfl

theorem spot_none {a : Addr} {v : Value} (h : w.cell? (a.add 0) = some v) : ∃ b o, a = ⟨b, o, none⟩ := by
  have h' : w.cell? a = some v := h
  have := World.cell?_spot h'
  obtain ⟨b, o, s⟩ := a
  simp at this
  subst this
  exact ⟨b, o, rfl⟩

/-- Numbers, out of a slice's reading. -/
theorem ints_of_trod {fuel : Nat} {v : Value} {x : DataW H × List MemPlace} (h : DataW.trod enc Try.prog w base spare held fuel 29 [v] = some x) :
    ∃ (ad : Option Addr) (xs : List Int) (n' : Nat), v = .slice ad xs.length n' ∧ CellsAt w ad (xs.map intV) ∧ xs.length ≤ maxLen ∧ (ad = none → n' = 0) := by
  rcases Deep.open_slice1 und29 cells3 h with ⟨hcs, _⟩ | ⟨a, len, cap, m, n, V, D, Pl, hcs, hb, hl, hm, hmm, _, hx⟩
  · simp at hcs
    subst hcs
    exact ⟨none, [], 0, rfl, fun j v hj => (by simp at hj), by simp, fun _ => rfl⟩
  · simp at hcs
    subst hcs
    have hle : len ≤ m := by rw [hmm]; split <;> omega
    obtain ⟨Z, hZ⟩ := Deep.choose_lt (α := Int) (n := len) (p := fun i z => V i = .int .i64 z) (fun i hi => by
      obtain ⟨n, e, h1, _⟩ := DataW.trod_int und3 (hx i (by omega)).2
      simp at e
      exact ⟨n, e⟩)
    refine ⟨some a, (List.range len).map Z, cap, by simp, ?_, (by simp; omega), fun h => (by cases h)⟩
    intro j v hj
    simp only [List.map_map, List.getElem?_map] at hj
    by_cases hjl : j < len
    · rw [List.getElem?_range hjl] at hj
      simp at hj
      have hc := (hx j (by omega)).1
      obtain ⟨b, o, rfl⟩ := spot_none (hx 0 (by omega)).1
      refine ⟨b, o, rfl, ?_⟩
      rw [add_off] at hc
      rw [hc, hZ j hjl, ← hj]; rfl
    · rw [List.getElem?_eq_none (by simp; omega)] at hj
      cases hj

/-- Steps, out of a slice's reading. -/
theorem steps_of_trod {fuel : Nat} {v : Value} {x : DataW H × List MemPlace} (h : DataW.trod enc Try.prog w base spare held fuel 24 [v] = some x) :
    ∃ (ad : Option Addr) (ss : List Step) (n' : Nat), v = .slice ad ss.length n' ∧ StepsAt w ad ss ∧ ss.length ≤ maxLen ∧ (ad = none → n' = 0) := by
  rcases Deep.open_slice und24 h with ⟨hcs, _⟩ | ⟨a, len, cap, m, n, D, Pl, hcs, hb, hl, hm, hmm, _, hx⟩
  · simp at hcs
    subst hcs
    exact ⟨none, [], 0, rfl, fun j hj => (by simp at hj), by simp, fun _ => rfl⟩
  · simp at hcs
    subst hcs
    have hle : len ≤ m := by rw [hmm]; split <;> omega
    rw [cells31] at hx
    obtain ⟨Z, hZ⟩ := Deep.choose_lt (α := Step) (n := len) (p := fun i s => ∃ va n', w.cell? (a.add (i * 2)) = some (.int .i64 s.1) ∧ w.cell? (a.add (i * 2 + 1)) = some (.slice va s.2.length n') ∧ CellsAt w va (s.2.map intV)) (fun i hi => by
      obtain ⟨cs', h1, h2⟩ := hx i (by omega)
      obtain ⟨_, hlen, hcell⟩ := World.cells?_some h1
      match cs', hlen with
      | [c0, c1], _ =>
        have e0 := hcell 0 (by omega)
        have e1 := hcell 1 (by omega)
        rw [Deep.add_add] at e0 e1
        simp only [Nat.add_zero, List.getElem?_cons_zero, List.getElem?_cons_succ] at e0 e1
        obtain ⟨y0, y1, k, _, _, g0, g1⟩ := trod_struct2 Try.underlying31 h2
        simp only [cells3, cells29, List.drop_zero, List.drop_succ_cons, List.take_succ_cons, List.take_zero] at g0 g1
        obtain ⟨z, ez, _, _⟩ := DataW.trod_int und3 g0
        simp at ez
        obtain ⟨va, xs, vn, ev, hca, _, _⟩ := ints_of_trod g1
        subst ez ev
        exact ⟨(z, xs), va, vn, e0, e1, hca⟩)
    refine ⟨some a, (List.range len).map Z, cap, by simp, ?_, (by simp; omega), fun h => (by cases h)⟩
    intro j hj
    have hjl : j < len := by simpa using hj
    obtain ⟨va, n', e0, e1, hca⟩ := hZ j hjl
    obtain ⟨_, _, e00, _, _⟩ := hZ 0 (by omega)
    rw [Nat.zero_mul] at e00
    obtain ⟨b, o, rfl⟩ := spot_none e00
    have hg : ((List.range len).map Z).getD j (0, []) = Z j := by simp [List.getD, hjl]
    rw [hg]
    rw [add_off] at e0 e1
    exact ⟨b, o, va, n', rfl, e0, by rw [Nat.add_assoc]; exact e1, hca⟩

set_option maxRecDepth 100000 in
/-- An order, out of its reading. -/
theorem order_of_trod {r : Reach} {b0 : Nat} {v : Value} {d : DataW H} {p : List MemPlace} (hv : Value.okWide Try.prog w r b0 23 v) (h : DataW.Trod enc Try.prog w base spare held 23 v d p) :
    ∃ kind m : Int, v = .agg #[.int .i64 kind, .int .i64 m] := by
  obtain ⟨v0, v1, y0, y1, n, rfl, _, _, h0, h1⟩ := Joins.open_agg2 Try.underlying23 (by kernel_rfl) cells23 hv h
  obtain ⟨k, e0, _, _⟩ := DataW.trod_int und3 h0
  obtain ⟨m, e1, _, _⟩ := DataW.trod_int und3 h1
  simp at e0 e1
  subst e0 e1
  exact ⟨k, m, rfl⟩

end Go.Nl
