/- The words of this seat: which blocks a call leaves as they were, and what a list, a heap and an order are in memory. -/
import Derived.WalkKit
import Derived.WalkSpells
import Derived.WalkLawsBesides
import Derived.Lib.Hide
import Derived.Deep.Draws
import Derived.Sort.Row
namespace Go.Nl
open Go.RowKit

/-- But for the blocks of S, what was there is as it was. -/
structure Kept (S : Nat → Prop) (w w' : World) : Prop where
  os : w'.os = w.os
  tape : w'.tape = w.tape
  output : w'.output = w.output
  size : w.heap.size ≤ w'.heap.size
  block : ∀ k, k < w.heap.size → ¬ S k → w'.heap[k]? = w.heap[k]?

theorem Kept.refl (S : Nat → Prop) (w : World) : Kept S w w := ⟨rfl, rfl, rfl, Nat.le_refl _, fun _ _ _ => rfl⟩

theorem Kept.trans {S T : Nat → Prop} {a b c : World} (h : Kept S a b) (k : Kept T b c) (hT : ∀ i, i < a.heap.size → T i → S i) : Kept S a c :=
  ⟨k.os.trans h.os, k.tape.trans h.tape, k.output.trans h.output, Nat.le_trans h.size k.size,
    fun i hi hS => (k.block i (Nat.lt_of_lt_of_le hi h.size) (fun t => hS (hT i hi t))).trans (h.block i hi hS)⟩

theorem Kept.mono {S T : Nat → Prop} {a b : World} (h : Kept T a b) (hT : ∀ i, i < a.heap.size → T i → S i) : Kept S a b :=
  ⟨h.os, h.tape, h.output, h.size, fun i hi hS => h.block i hi (fun t => hS (hT i hi t))⟩

theorem Kept.drew {S : Nat → Prop} {a w : World} (h : Kept S a w) : Kept S a w.drew := ⟨h.os, h.tape, h.output, h.size, h.block⟩
theorem Kept.drewN {S : Nat → Prop} {a w : World} (h : Kept S a w) (n : Nat) : Kept S a (w.drewN n) := ⟨h.os, h.tape, h.output, h.size, h.block⟩

theorem Kept.alloc {S : Nat → Prop} {a w : World} (h : Kept S a w) (o : Obj) : Kept S a (w.alloc o) :=
  ⟨h.os, h.tape, h.output, by have := h.size; simp; omega, fun k hk hS => by rw [Below.heap_alloc _ _ _ (Nat.lt_of_lt_of_le hk h.size)]; exact h.block k hk hS⟩

theorem Kept.setCell {S : Nat → Prop} {a w : World} (h : Kept S a w) (p : Addr) (u : Value) (hp : p.block < a.heap.size → S p.block) : Kept S a (w.setCell p u) :=
  ⟨h.os, h.tape, h.output, by have := h.size; simpa using this, fun k hk hS => by
    rw [Below.heap_setCell _ _ _ _ (fun e => hS (by subst e; exact hp hk))]; exact h.block k hk hS⟩

theorem Kept.setRow {S : Nat → Prop} {a w : World} (h : Kept S a w) (g : Nat) (cs : Array Value) (hp : g < a.heap.size → S g) : Kept S a (w.setRow g cs) :=
  ⟨h.os, h.tape, h.output, by have := h.size; simpa using this, fun k hk hS => by
    rw [setRow_other _ _ _ _ (fun e => hS (by subst e; exact hp hk))]; exact h.block k hk hS⟩

theorem Kept.below {S : Nat → Prop} {w w' : World} (h : Kept S w w') {B : Nat} (hB : B ≤ w.heap.size) (hS : ∀ k, k < B → ¬ S k) : Below B w w' :=
  ⟨h.os, h.tape, h.output, h.size, fun k hk => h.block k (Nat.lt_of_lt_of_le hk hB) (hS k hk)⟩

theorem Kept.of_below {w w' : World} (h : Below w.heap.size w w') (S : Nat → Prop) : Kept S w w' := ⟨h.os, h.tape, h.output, h.size, fun k hk _ => h.block k hk⟩

/-- Nothing that was there has turned. -/
def No : Nat → Prop := fun _ => False

/-- Block b is a row of cells, none of them frozen. -/
def Blk (w : World) (b : Nat) (cs : Array Value) (t : TypeId) : Prop := w.heap[b]? = some (.cells cs t (0, 0))

section
variable {w : World} {b : Nat} {cs : Array Value} {t : TypeId}

theorem Blk.lt (h : Blk w b cs t) : b < w.heap.size := (Array.getElem?_eq_some_iff.1 h).1
theorem Blk.cell (h : Blk w b cs t) (o : Nat) : w.cell? ⟨b, o, none⟩ = cs[o]? := by
  unfold Blk at h
  simp [World.cell?, h]
theorem Blk.frozen (h : Blk w b cs t) (o : Nat) : w.frozen? ⟨b, o, none⟩ = false := by
  unfold Blk at h
  simp [World.frozen?, h]
theorem Blk.drew (h : Blk w b cs t) : Blk w.drew b cs t := h
theorem Blk.drewN (h : Blk w b cs t) (n : Nat) : Blk (w.drewN n) b cs t := h
theorem Blk.alloc (h : Blk w b cs t) (o : Obj) : Blk (w.alloc o) b cs t := by
  unfold Blk
  rw [Below.heap_alloc _ _ _ h.lt]; exact h
theorem Blk.new (w : World) (cs : Array Value) (t : TypeId) : Blk (w.alloc (.cells cs t)) w.heap.size cs t := by
  unfold Blk World.alloc
  simp
theorem Blk.other (h : Blk w b cs t) (a : Addr) (v : Value) (hb : b ≠ a.block) : Blk (w.setCell a v) b cs t := by
  unfold Blk
  rw [Below.heap_setCell _ _ _ _ hb]; exact h
theorem Blk.set (h : Blk w b cs t) (o : Nat) (v : Value) : Blk (w.setCell ⟨b, o, none⟩ v) b (cs.setIfInBounds o v) t := by
  unfold Blk at h ⊢
  simp [World.setCell, Array.getElem?_modify, h]
theorem Blk.row (h : Blk w b cs t) (c2 : Array Value) : Blk (w.setRow b c2) b c2 t := setRow_heap w b cs c2 t (0, 0) h
theorem Blk.rowOther (h : Blk w b cs t) (g : Nat) (c2 : Array Value) (hb : b ≠ g) : Blk (w.setRow g c2) b cs t := by
  unfold Blk
  rw [setRow_other _ _ _ _ hb]; exact h
theorem Blk.kept {S : Nat → Prop} {w' : World} (h : Blk w b cs t) (k : Kept S w w') (hS : ¬ S b) : Blk w' b cs t := by
  unfold Blk
  rw [k.block b h.lt hS]; exact h
theorem Blk.below {w' : World} {B : Nat} (h : Blk w b cs t) (k : Below B w w') (hB : b < B) : Blk w' b cs t := by
  unfold Blk
  rw [k.block b hB]; exact h
theorem Blk.eq {cs' : Array Value} {t' : TypeId} (h : Blk w b cs t) (h' : Blk w b cs' t') : cs = cs' ∧ t = t' := by
  unfold Blk at h h'
  rw [h] at h'
  injection h' with h'
  injection h' with h1 h2 h3
  exact ⟨h1, h2⟩
end

/-- A number in an interface value. -/
def box (x : Int) : Value := .iface 3 (.int .i64 x)

/-- The elements' slice of a list: nil, or all of a block. -/
def slv (ao : Option Nat) (c : Nat) : Value := .slice (ao.map fun b => ⟨b, 0, none⟩) c c

/-- The elements' block: its first cells hold the numbers. -/
structure Elems (w : World) (eb c : Nat) (cs : Array Value) (d : Array Int) : Prop where
  blk : Blk w eb cs 20
  size : cs.size = c
  one : ∀ v ∈ cs.toList, v.oneCell' = true
  cell : ∀ j, j < d.size → cs[j]? = some (box d[j]!)

/-- A list lies in block lb; its elements in block ao (none: nil) of c cells; it holds the numbers d. -/
structure ListAt (w : World) (lb : Nat) (ao : Option Nat) (c : Nat) (d : Array Int) : Prop where
  head : Blk w lb #[slv ao c, .int .i64 (d.size : Int)] 124
  elems : match ao with
    | none => c = 0
    | some eb => lb ≠ eb ∧ ∃ cs, Elems w eb c cs d
  le : d.size ≤ c
  small : c ≤ 4194304

/-- The list's own blocks. -/
def own (lb : Nat) (ao : Option Nat) : Nat → Prop := fun k => k = lb ∨ ao = some k

theorem Elems.kept {S : Nat → Prop} {w w' : World} {eb c : Nat} {cs : Array Value} {d : Array Int} (h : Elems w eb c cs d) (k : Kept S w w') (hS : ¬ S eb) : Elems w' eb c cs d :=
  ⟨h.blk.kept k hS, h.size, h.one, h.cell⟩

theorem ListAt.kept {S : Nat → Prop} {w w' : World} {lb : Nat} {ao : Option Nat} {c : Nat} {d : Array Int} (h : ListAt w lb ao c d) (k : Kept S w w') (hS : ∀ i, own lb ao i → ¬ S i) : ListAt w' lb ao c d := by
  refine ⟨h.head.kept k (hS lb (Or.inl rfl)), ?_, h.le, h.small⟩
  have he := h.elems
  cases ao with
  | none => exact he
  | some eb => exact ⟨he.1, he.2.elim fun cs hc => ⟨cs, hc.kept k (hS eb (Or.inr rfl))⟩⟩

theorem ListAt.drewN {w : World} {lb : Nat} {ao : Option Nat} {c : Nat} {d : Array Int} (h : ListAt w lb ao c d) (n : Nat) : ListAt (w.drewN n) lb ao c d :=
  h.kept (S := No) ((Kept.refl _ _).drewN n) (fun _ _ h => h)

/-- A heap lies in block hb: its list in lb, ao; its comparator is fv. -/
structure HeapAt (w : World) (hb lb : Nat) (ao : Option Nat) (c : Nat) (fv : Value) (d : Array Int) : Prop where
  head : Blk w hb #[.pointer (some ⟨lb, 0, none⟩), fv] 112
  list : ListAt w lb ao c d
  ne : ¬ own lb ao hb

theorem HeapAt.kept {S : Nat → Prop} {w w' : World} {hb lb : Nat} {ao : Option Nat} {c : Nat} {fv : Value} {d : Array Int} (h : HeapAt w hb lb ao c fv d) (k : Kept S w w') (hS : ∀ i, own lb ao i → ¬ S i) (hh : ¬ S hb) : HeapAt w' hb lb ao c fv d :=
  ⟨h.head.kept k hh, h.list.kept k hS, h.ne⟩

/-- The order in block ob. -/
def ordCells (kind m : Int) : Array Value := #[.int .i64 kind, .int .i64 m]

/-- What numbers are compared by. -/
def key (kind m x : Int) : Int := if kind = 1 then -x else if kind = 2 then x % m else x

def ltK (kind m : Int) (x y : Int) : Bool := decide (key kind m x < key kind m y)

theorem ltK_swo (kind m : Int) : Go.Sort.SWO (ltK kind m) where
  irrefl x := by simp [ltK]
  trans x y z h1 h2 := by simp only [ltK, decide_eq_true_eq] at *; omega
  ntrans x y z h1 h2 := by simp only [ltK, decide_eq_false_iff_not] at *; omega

end Go.Nl
