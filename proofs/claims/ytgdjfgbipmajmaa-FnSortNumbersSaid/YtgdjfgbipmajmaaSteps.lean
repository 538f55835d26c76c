/- Steps appended to steps; what is told behind two looks and a taking. -/
import Derived.Test.YtgdjfgbipmajmaaFits
namespace Go.Nl
open Go.RowKit Go.Sort Go.Proofs

/-- append, where its run is known, as one step of a region that draws. -/
theorem step_append_run {P : Program} {ops : Array Oper} {o : Oper} {a : Act} {w w' : World} {K : Act → World → Prop} {Q : Exit → Act → World → Prop} {E : Prop} (hgd : o.guard = none) (s x : Operand) (t : TypeId)
    (ho : o.op = .call { callee := .builtin .append, args := #[s, x], argTypes := #[t, t] }) (v v1 v2 : Value) (hs : a.eval s = v1) (hx : a.eval x = v2)
    (hr : (Builtin.append_ #[t, t] o.type #[v1, v2]).run P w = .ok v w') (hK : K (a.put o.dst v) w') :
    if Region.wanted o (yielded ops a.tmps) = true then Oper.wp P o a w K Q else E := by
  have hw : Region.wanted o (yielded ops a.tmps) = true := by simp [Region.wanted, hgd]
  rw [if_pos hw]
  unfold Oper.wp execOp
  simp only [ho, resolve, invoke, builtin, Sem.run_bind, Sem.run_pure, Result.andThen_ok, List.map_toArray, List.map_cons, List.map_nil, hs, hx, hr]
  exact hK

/-- append(xs, ys...), ys wherever. -/
theorem append_src {P : Program} {w : World} {g n cap : Nat} {e : TypeId} {xs : List Value} (t ty : TypeId) (i : TypeInfo) (z : Value) (size bytes : Nat) (h : RowAt w g n cap e size xs)
    (ht : P.underlying t = some (.slice e)) (hi : P.info? e = some i) (hz : i.zero = some z) (hsize : i.size = size) (hby : i.bytes = bytes) (hzs : z.cells.size = size) (_hpos : 0 < size)
    (ad : Option Addr) (m c : Nat) (news : List Value) (hl : news.length = m * size) (hnews : CellsAt w ad news) (had : ad = none → m = 0 ∧ c = 0) (h1 : ∀ u ∈ news, u.oneCell' = true)
    (h63 : n + m ≤ 1073741824) (hbytes : bytes ≤ 64) :
    ∃ g' cap' w', (Builtin.append_ #[t, t] ty #[.slice (some ⟨g, 0, none⟩) n cap, .slice ad m c]).run P w = .ok (.slice (some ⟨g', 0, none⟩) (n + m) cap') w' ∧
      RowAt w' g' (n + m) cap' e size (xs ++ news) ∧ Kept (fun k => k = g) w w' ∧ (g' = g ∨ w.heap.size ≤ g') := by
  cases ad with
  | none =>
    obtain ⟨rfl, rfl⟩ := had rfl
    have hn : news = [] := List.eq_nil_of_length_eq_zero (by simpa using hl)
    subst hn
    refine ⟨g, cap, w, ?_, by simpa using h, Kept.refl _ _, Or.inl rfl⟩
    have hle := h.le
    have hsz : (P.info? e).map (·.size) = some size := by rw [hi]; simp [hsize]
    simp [Builtin.append_, run_underlying ht, sizeOf, typeInfo, hi, Builtin.lenOf, Builtin.firstCells, loadCells, storeCells, hle]
  | some a =>
    refine append_row t ty i z size bytes h ht hi hz hsize hby hzs a m c news hl ?_ h1 h63 hbytes
    intro j u hu
    obtain ⟨vb, vo, ha, hc⟩ := hnews j u hu
    injection ha with ha
    subst ha
    rw [add_off]; exact hc

/-- The cells of steps. -/
structure StepVals (w : World) (vs : List Value) (ss : List Step) : Prop where
  len : vs.length = ss.length * 2
  one : ∀ v ∈ vs, v.oneCell' = true
  at_ : ∀ j, j < ss.length → ∃ va n', vs[j * 2]? = some (.int .i64 (ss.getD j (0, [])).1) ∧ vs[j * 2 + 1]? = some (.slice va (ss.getD j (0, [])).2.length n') ∧ CellsAt w va ((ss.getD j (0, [])).2.map intV)

theorem StepVals.keptNo {w w' : World} {vs : List Value} {ss : List Step} (h : StepVals w vs ss) (k : Kept No w w') : StepVals w' vs ss :=
  ⟨h.len, h.one, fun j hj => by
    obtain ⟨va, n', h1, h2, h3⟩ := h.at_ j hj
    exact ⟨va, n', h1, h2, h3.keptNo k⟩⟩

theorem stepVals_of {w : World} {ad : Option Addr} : ∀ (ss : List Step), StepsAt w ad ss → ∃ vs, StepVals w vs ss ∧ CellsAt w ad vs := by
  intro ss h
  have hch : ∀ n, n ≤ ss.length → ∃ vs : List Value, StepVals w vs (ss.take n) ∧ CellsAt w ad vs := by
    intro n
    induction n with
    | zero => exact fun _ => ⟨[], ⟨by simp, fun v hv => by simp at hv, fun j hj => by simp at hj⟩, fun j v hj => by simp at hj⟩
    | succ n ih =>
      intro hn
      obtain ⟨vs, hv, hc⟩ := ih (by omega)
      obtain ⟨sb, so, va, n', ha, h1, h2, h3⟩ := h n (by omega)
      have hlen : (ss.take n).length = n := by simp; omega
      have hl := hv.len
      rw [hlen] at hl
      have hlen' : (ss.take (n + 1)).length = n + 1 := by simp; omega
      refine ⟨vs ++ [.int .i64 (ss.getD n (0, [])).1, .slice va (ss.getD n (0, [])).2.length n'], ⟨?_, ?_, ?_⟩, ?_⟩
      · rw [hlen', List.length_append, hl]; simp; omega
      · intro v hv'
        rcases List.mem_append.1 hv' with h | h
        · exact hv.one v h
        · simp at h; rcases h with rfl | rfl <;> rfl
      · intro j hj
        rw [hlen'] at hj
        have hgd : (ss.take (n + 1)).getD j (0, []) = ss.getD j (0, []) := by simp [List.getD, hj]
        rw [hgd]
        by_cases hjn : j < n
        · obtain ⟨va2, n2, a1, a2, a3⟩ := hv.at_ j (by rw [hlen]; exact hjn)
          have hgd2 : (ss.take n).getD j (0, []) = ss.getD j (0, []) := by simp [List.getD, hjn]
          rw [hgd2] at a1 a2 a3
          exact ⟨va2, n2, by rw [List.getElem?_append_left (by omega)]; exact a1, by rw [List.getElem?_append_left (by omega)]; exact a2, a3⟩
        · obtain rfl : j = n := by omega
          refine ⟨va, n', ?_, ?_, h3⟩
          · rw [List.getElem?_append_right (by omega), hl]; simp
          · rw [List.getElem?_append_right (by omega), hl, show j * 2 + 1 - j * 2 = 1 by omega]; simp
      · intro j v hj
        by_cases hjn : j < n * 2
        · rw [List.getElem?_append_left (by omega)] at hj
          exact hc j v hj
        · rw [List.getElem?_append_right (by omega), hl] at hj
          have hj2 : j = n * 2 ∨ j = n * 2 + 1 ∨ n * 2 + 2 ≤ j := by omega
          rcases hj2 with rfl | rfl | hj2
          · simp at hj; subst hj
            exact ⟨sb, so, ha, h1⟩
          · rw [show n * 2 + 1 - n * 2 = 1 by omega] at hj
            simp at hj; subst hj
            exact ⟨sb, so, ha, by rw [← Nat.add_assoc]; exact h2⟩
          · rw [List.getElem?_eq_none (by simp; omega)] at hj
            cases hj
  obtain ⟨vs, h1, h2⟩ := hch ss.length (Nat.le_refl _)
  rw [List.take_length] at h1
  exact ⟨vs, h1, h2⟩

theorem StepVals.at {w : World} {ad : Option Addr} {vs : List Value} {ss : List Step} (h : StepVals w vs ss) (hc : CellsAt w ad vs) : StepsAt w ad ss := by
  intro j hj
  obtain ⟨va, n', h1, h2, h3⟩ := h.at_ j hj
  obtain ⟨b, o, ha, c0⟩ := hc _ _ h1
  obtain ⟨b', o', ha', c1⟩ := hc _ _ h2
  rw [ha] at ha'
  injection ha' with ha'
  injection ha' with i1 i2
  subst i1 i2
  exact ⟨b, o, va, n', ha, c0, by rw [Nat.add_assoc]; exact c1, h3⟩

theorem StepVals.append {w : World} {v1 v2 : List Value} {s1 s2 : List Step} (h1 : StepVals w v1 s1) (h2 : StepVals w v2 s2) : StepVals w (v1 ++ v2) (s1 ++ s2) := by
  have l1 := h1.len
  have l2 := h2.len
  refine ⟨by simp; omega, fun v hv => (List.mem_append.1 hv).elim (h1.one v) (h2.one v), fun j hj => ?_⟩
  by_cases hj1 : j < s1.length
  · obtain ⟨va, n', a1, a2, a3⟩ := h1.at_ j hj1
    have hg : (s1 ++ s2).getD j (0, []) = s1.getD j (0, []) := by simp [List.getD, List.getElem?_append_left hj1]
    rw [hg]
    exact ⟨va, n', by rw [List.getElem?_append_left (by omega)]; exact a1, by rw [List.getElem?_append_left (by omega)]; exact a2, a3⟩
  · have hj2 : j - s1.length < s2.length := by simp at hj; omega
    obtain ⟨va, n', a1, a2, a3⟩ := h2.at_ (j - s1.length) hj2
    have hg : (s1 ++ s2).getD j (0, []) = s2.getD (j - s1.length) (0, []) := by simp [List.getD, List.getElem?_append_right (show s1.length ≤ j by omega)]
    rw [hg]
    refine ⟨va, n', ?_, ?_, a3⟩
    · rw [List.getElem?_append_right (by omega), l1, show j * 2 - s1.length * 2 = (j - s1.length) * 2 by omega]; exact a1
    · rw [List.getElem?_append_right (by omega), l1, show j * 2 + 1 - s1.length * 2 = (j - s1.length) * 2 + 1 by omega]; exact a2

/-- Steps without numbers. -/
theorem StepVals.bare (w : World) : ∀ (ops : List Int), StepVals w (ops.flatMap fun o => [.int .i64 o, .slice none 0 0]) (ops.map fun o => (o, []))
  | [] => ⟨rfl, fun v hv => by simp at hv, fun j hj => by simp at hj⟩
  | o :: l => by
    have h1 : StepVals w [.int .i64 o, .slice none 0 0] [(o, [])] := ⟨rfl, fun v hv => by simp at hv; rcases hv with rfl | rfl <;> rfl, fun j hj => by
      have : j = 0 := by simpa using hj
      subst this
      exact ⟨none, 0, rfl, rfl, fun i v hi => by simp at hi⟩⟩
    exact h1.append (StepVals.bare w l)

theorem runH_append (lt : Int → Int → Bool) (a b : List Step) : runH lt (a ++ b) = b.foldl (stepH lt) (runH lt a) := by
  unfold runH; rw [List.foldl_append]

theorem run_peeked (lt : Int → Int → Bool) (ss : List Step) : (runH lt (ss ++ [(3, []), (3, []), (2, [])])).2 = (runH lt ss).2 ++ [seen (runH lt ss).1, seen (runH lt ss).1, seen (runH lt ss).1] := by
  rw [runH_append]
  simp [stepH]

end Go.Nl
