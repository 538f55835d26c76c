/- The comparator: what it answers. -/
import Derived.Test.YtgdjfgbipmajmaaProg
import Derived.Test.YtgdjfgbipmajmaaBase
import Derived.BigQuiet
import Derived.Deep.QuietTactic
namespace Go.Nl
open Go.RowKit Go.Sort Go.Proofs

theorem rest_eq (n m : Int) : (n.tmod m + m) % m = n % m := by
  rw [Int.tmod_def, show n - m * n.tdiv m + m = n + m * (1 - n.tdiv m) by rw [Int.mul_sub]; omega, Int.add_mul_emod_self_left]

theorem rest_any (n m : Int) (w : World) (h1 : 1 ≤ m) (h2 : m ≤ 1000) :
    Calls Try.prog 72 #[.int .i64 n, .int .i64 m] w fun e w' => e = .returned (.int .i64 (n % m)) ∧ w = w' := by
  have hb1 := Int.tmod_lt_of_pos n (show 0 < m by omega)
  have hb2 := Int.lt_tmod_of_pos n (show 0 < m by omega)
  have He := Lib.hid (rest_eq n m)
  go_enter Try.func72, Try.ntmps72
  go_wp2
  go_ret
  exact ⟨by rw [← He.out]; rfl, rfl⟩

/-- -1, 0 or 1. -/
def cmpI (x y : Int) : Int := if x < y then -1 else if y < x then 1 else 0

theorem compared_any (x y : Int) (w : World) :
    Calls Try.prog 71 #[.int .i64 x, .int .i64 y] w fun e w' => e = .returned (.int .i64 (cmpI x y)) ∧ w = w' := by
  by_cases h1 : x < y
  · have hc : cmpI x y = -1 := by unfold cmpI; rw [if_pos h1]
    rw [hc]; clear hc
    go_enter Try.func71, Try.ntmps71
    go_wp2
    go_ret
    exact ⟨rfl, rfl⟩
  · by_cases h2 : y < x
    · have hc : cmpI x y = 1 := by unfold cmpI; rw [if_neg h1, if_pos h2]
      rw [hc]; clear hc
      go_enter Try.func71, Try.ntmps71
      go_wp2
      go_ret
      exact ⟨rfl, rfl⟩
    · have hc : cmpI x y = 0 := by unfold cmpI; rw [if_neg h1, if_neg h2]
      rw [hc]; clear hc
      go_enter Try.func71, Try.ntmps71
      go_wp2
      go_ret
      exact ⟨rfl, rfl⟩

/-- The orders of which the statements speak. -/
def OrdOk (kind m : Int) : Prop := kind = 0 ∨ kind = 1 ∨ (kind = 2 ∧ 1 ≤ m ∧ m ≤ 1000)

/-- What a comparator answers. -/
def cmpV (kind m x y : Int) : Int := cmpI (key kind m x) (key kind m y)

theorem cmpV_pos (kind m x y : Int) : 0 < cmpV kind m x y ↔ ltK kind m y x = true := by
  unfold cmpV cmpI ltK
  rw [decide_eq_true_eq]
  (repeat' split) <;> omega
theorem cmpV_neg (kind m x y : Int) : cmpV kind m x y < 0 ↔ ltK kind m x y = true := by
  unfold cmpV cmpI ltK
  rw [decide_eq_true_eq]
  (repeat' split) <;> omega

theorem Blk.ord0 {w : World} {ob : Nat} {kind m : Int} (h : Blk w ob (ordCells kind m) 23) : w.cell? ⟨ob, 0, none⟩ = some (.int .i64 kind) := by rw [h.cell]; rfl
theorem Blk.ord1 {w : World} {ob : Nat} {kind m : Int} (h : Blk w ob (ordCells kind m) 23) : w.cell? ⟨ob, 1, none⟩ = some (.int .i64 m) := by rw [h.cell]; rfl

/-- For a quiet region: a callee that leaves the world alone. -/
theorem quiet_eq {P : Program} {f : FuncId} {args : Array Value} {w : World} {n : Nat} {v : Value}
    (h : Calls P f args (w.drewN n) fun e w' => e = .returned v ∧ w.drewN n = w') : Calls P f args (w.drewN n) fun e w'' => e = .returned v ∧ ∃ m, w'' = w.drewN m :=
  h.mono fun _ _ ⟨he, hm⟩ => ⟨he, n, hm.symm⟩

/-- 'v.(int)' of a number in an interface value. -/
theorem assert_int (x : Int) (w : World) : (Instr.typeAssert (.iface 3 (.int .i64 x)) 20 3 false).run Try.prog w = .ok (.int .i64 x) w := by kernel_rfl

set_option maxHeartbeats 1000000 in
theorem cmp_any (kind m x y : Int) (ob : Nat) (w : World) (hO : Blk w ob (ordCells kind m) 23) (ok : OrdOk kind m) :
    Calls Try.prog 70 #[box x, box y, .pointer (some ⟨ob, 0, none⟩)] w fun e w' => e = .returned (.int .i64 (cmpV kind m x y)) ∧ ∃ q, w' = w.drewN q := by
  have c0 := hO.ord0
  have c1 := hO.ord1
  unfold box
  have ta := assert_int
  rcases ok with rfl | rfl | ⟨rfl, h1, h2⟩
  · have e : cmpV 0 m x y = cmpI x y := by unfold cmpV key; simp
    rw [e]
    have hc := compared_any x y
    generalize cmpI x y = r at hc ⊢
    clear hO e
    go_enter Try.func70, Try.ntmps70
    go_wp2
    go_region
    go_wp2_with (go_at_call 71; refine (hc _).mono ?_; rintro e w' ⟨rfl, rfl⟩)
    go_ret
    exact ⟨rfl, _, rfl⟩
  · have e : cmpV 1 m x y = cmpI y x := by unfold cmpV key cmpI; simp
    rw [e]
    have hc := compared_any y x
    generalize cmpI y x = r at hc ⊢
    clear hO e
    go_enter Try.func70, Try.ntmps70
    go_wp2
    go_region
    go_wp2_with (go_at_call 71; refine (hc _).mono ?_; rintro e w' ⟨rfl, rfl⟩)
    go_ret
    exact ⟨rfl, _, rfl⟩
  · have e : cmpV 2 m x y = cmpI (x % m) (y % m) := by unfold cmpV key; simp
    rw [e]
    clear hO e
    go_enter Try.func70, Try.ntmps70
    go_wp2
    go_region
    go_wp2_with fail
    have c0' : w.drew.cell? ⟨ob, 0, none⟩ = some (.int .i64 2) := c0
    have c1' : w.drew.cell? ⟨ob, 1, none⟩ = some (.int .i64 m) := c1
    generalize hwd : w.drew = wd at c0' c1' ⊢
    have Hw := Lib.hid hwd
    clear c0 c1 hwd
    go_quiet ((first | (go_at_call 72; exact quiet_eq (rest_any _ _ _ h1 h2)) | (go_at_call 71; exact quiet_eq (compared_any _ _ _))))
    go_wp2
    go_ret
    exact ⟨rfl, by rw [← Hw.out]; exact ⟨_, World.drewN_drewN w 1 _⟩⟩

/-- The comparator over the order in block ob. -/
abbrev fvOf (ob : Nat) : Value := .func (.func 70) #[] #[.pointer (some ⟨ob, 0, none⟩)]

theorem by_any (kind m : Int) (w : World) :
    Calls Try.prog 52 #[.agg #[.int .i64 kind, .int .i64 m]] w fun e w' => e = .returned (fvOf w.heap.size) ∧ w' = w.alloc (.cells (ordCells kind m) 23) := by
  unfold ordCells
  go_enter Try.func52, Try.ntmps52
  go_wp2
  go_ret
  exact ⟨rfl, rfl⟩

theorem newWith_any (ob : Nat) (w : World) :
    Calls Try.prog 57 #[fvOf ob] w fun e w' => e = .returned (.pointer (some ⟨w.heap.size + 1, 0, none⟩)) ∧
      HeapAt w' (w.heap.size + 1) w.heap.size none 0 (fvOf ob) #[] ∧ Kept No w w' := by
  have fin : ∀ (e : Ending) (w' : World), (e = .returned (.pointer (some ⟨w.heap.size + 1, 0, none⟩)) ∧ w' = (w.alloc (.cells #[.slice none 0 0, .int .i64 0] 124)).alloc (.cells #[.pointer (some ⟨w.heap.size, 0, none⟩), fvOf ob] 112)) →
      e = .returned (.pointer (some ⟨w.heap.size + 1, 0, none⟩)) ∧ HeapAt w' (w.heap.size + 1) w.heap.size none 0 (fvOf ob) #[] ∧ Kept No w w' := by
    rintro e w' ⟨he, rfl⟩
    refine ⟨he, ⟨?_, ⟨(Blk.new w _ 124).alloc _, rfl, Nat.le_refl _, by omega⟩, ?_⟩, ((Kept.refl No w).alloc _).alloc _⟩
    · have := Blk.new (w.alloc (.cells #[.slice none 0 0, .int .i64 0] 124)) #[.pointer (some ⟨w.heap.size, 0, none⟩), fvOf ob] 112
      rwa [World.size_alloc] at this
    · rintro (h | h)
      · omega
      · cases h
  refine Calls.mono ?_ fin
  go_enter Try.func57, Try.ntmps57
  go_wp2
  go_ret
  exact ⟨rfl, rfl⟩

end Go.Nl
