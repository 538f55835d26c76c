/-
  No cell of these rows narrows 'for every input' (looked for: loops, veiled, ifaces, maps, wideKeys, modest, calm, conditions, laid).
  DERIVED. THE GIVEN ROWS OF THIS SEAT. 16 by the template 'for every input the law returns true; each argument reads behind the call as it read before'; 0 by the template 'total and deterministic' (their statements: YtgdjfgbipmajmaaTotals.lean).
  GIVEN WITH THE SEED: the statements are not yours to turn. If you find one false, say at which input.
  Laid BY PROGRAM, IN A SANDBOX (cutbox-rows.mjs): the forced cells as the released guide's own fill.sh prints them over the translation e012ccc44cfbc2e1… (all of the seat's roots in one cut). By AI agents, Wed Nov 11 2026. No macro, syntax, notation, axiom, sorry.
-/
import Derived.Test.YtgdjfgbipmajmaaChecked
import GoSem.Claim
import GoSem.ClaimJoined
import GoSem.ClaimMapViews
import Derived.JoinedTies
import Derived.KernelRfl
namespace Go.Proofs.Ytgdjfgbipmajmaa
/- THE CELL 'sum', in the pinned program and in every row, IS THE sha256 OF THE DUMP (.gsa) THAT YtgdjfgbipmajmaaProg.lean LOADS. Nothing in Lean hashes anything: it is a label: what it is worth is what the hold of that sum in a sandbox is worth. -/
noncomputable def Try.pinned : Pinned := { name := "ytgdjfgbipmajmaa", sum := "e012ccc44cfbc2e1688ada9979426b042b2cc0fc0b15fa2449a83fd58c16c80b", checked := Try.checked }
namespace Rows
def none {H : Type} : Left H := { results := [], args := [] }

/-- 'laws.FnHeapPeeked': WHATEVER THE INPUT: true; the input reads as it did. -/
def fnHeapPeekedSpec : ChangeSpec := { name := "fnHeapPeeked", fn := fun _ => fun
  | [d1, d2] => { results := [.lit (.bool true)], args := [d1, d2] }
  | _ => none }
def fnHeapPeekedRow : OpenClaim := { program := "ytgdjfgbipmajmaa", sum := "e012ccc44cfbc2e1688ada9979426b042b2cc0fc0b15fa2449a83fd58c16c80b", func := "loop.example/pub-numberlists/laws.FnHeapPeeked", spec := "fnHeapPeeked", unfollowed := true, recurses := true, apart := false }
def FnHeapPeekedSaid : Prop := fnHeapPeekedRow.holds Try.pinned (OpenSpec.ofChange fnHeapPeekedSpec)

/-- ITS FALSE NEIGHBOUR: 'it returns false'. Refute it at one input. -/
def fnHeapPeekedWrong : ChangeSpec := { name := "fnHeapPeeked", fn := fun _ => fun
  | [d1, d2] => { results := [.lit (.bool false)], args := [d1, d2] }
  | _ => none }
def FnHeapPeekedWrongFalsely : Prop := fnHeapPeekedRow.holds Try.pinned (OpenSpec.ofChange fnHeapPeekedWrong)

/-- 'laws.FnQueuePeeked': WHATEVER THE INPUT: true; the input reads as it did. -/
def fnQueuePeekedSpec : ChangeSpec := { name := "fnQueuePeeked", fn := fun _ => fun
  | [d1, d2] => { results := [.lit (.bool true)], args := [d1, d2] }
  | _ => none }
def fnQueuePeekedRow : OpenClaim := { program := "ytgdjfgbipmajmaa", sum := "e012ccc44cfbc2e1688ada9979426b042b2cc0fc0b15fa2449a83fd58c16c80b", func := "loop.example/pub-numberlists/laws.FnQueuePeeked", spec := "fnQueuePeeked", unfollowed := true, recurses := true, apart := false }
def FnQueuePeekedSaid : Prop := fnQueuePeekedRow.holds Try.pinned (OpenSpec.ofChange fnQueuePeekedSpec)

/-- ITS FALSE NEIGHBOUR: 'it returns false'. Refute it at one input. -/
def fnQueuePeekedWrong : ChangeSpec := { name := "fnQueuePeeked", fn := fun _ => fun
  | [d1, d2] => { results := [.lit (.bool false)], args := [d1, d2] }
  | _ => none }
def FnQueuePeekedWrongFalsely : Prop := fnQueuePeekedRow.holds Try.pinned (OpenSpec.ofChange fnQueuePeekedWrong)

/-- 'laws.FnHeapQueue': WHATEVER THE INPUT: true; the input reads as it did. -/
def fnHeapQueueSpec : ChangeSpec := { name := "fnHeapQueue", fn := fun _ => fun
  | [d1, d2] => { results := [.lit (.bool true)], args := [d1, d2] }
  | _ => none }
def fnHeapQueueRow : OpenClaim := { program := "ytgdjfgbipmajmaa", sum := "e012ccc44cfbc2e1688ada9979426b042b2cc0fc0b15fa2449a83fd58c16c80b", func := "loop.example/pub-numberlists/laws.FnHeapQueue", spec := "fnHeapQueue", unfollowed := true, recurses := true, apart := false }
def FnHeapQueueSaid : Prop := fnHeapQueueRow.holds Try.pinned (OpenSpec.ofChange fnHeapQueueSpec)

/-- ITS FALSE NEIGHBOUR: 'it returns false'. Refute it at one input. -/
def fnHeapQueueWrong : ChangeSpec := { name := "fnHeapQueue", fn := fun _ => fun
  | [d1, d2] => { results := [.lit (.bool false)], args := [d1, d2] }
  | _ => none }
def FnHeapQueueWrongFalsely : Prop := fnHeapQueueRow.holds Try.pinned (OpenSpec.ofChange fnHeapQueueWrong)

/-- 'laws.FnExactHeapRun': WHATEVER THE INPUT: true; the input reads as it did. -/
def fnExactHeapRunSpec : ChangeSpec := { name := "fnExactHeapRun", fn := fun _ => fun
  | [d1, d2] => { results := [.lit (.bool true)], args := [d1, d2] }
  | _ => none }
def fnExactHeapRunRow : OpenClaim := { program := "ytgdjfgbipmajmaa", sum := "e012ccc44cfbc2e1688ada9979426b042b2cc0fc0b15fa2449a83fd58c16c80b", func := "loop.example/pub-numberlists/laws.FnExactHeapRun", spec := "fnExactHeapRun", unfollowed := true, recurses := true, apart := false }
def FnExactHeapRunSaid : Prop := fnExactHeapRunRow.holds Try.pinned (OpenSpec.ofChange fnExactHeapRunSpec)

/-- ITS FALSE NEIGHBOUR: 'it returns false'. Refute it at one input. -/
def fnExactHeapRunWrong : ChangeSpec := { name := "fnExactHeapRun", fn := fun _ => fun
  | [d1, d2] => { results := [.lit (.bool false)], args := [d1, d2] }
  | _ => none }
def FnExactHeapRunWrongFalsely : Prop := fnExactHeapRunRow.holds Try.pinned (OpenSpec.ofChange fnExactHeapRunWrong)

/-- 'laws.FnHeapSorts': WHATEVER THE INPUT: true; the input reads as it did. -/
def fnHeapSortsSpec : ChangeSpec := { name := "fnHeapSorts", fn := fun _ => fun
  | [d1, d2] => { results := [.lit (.bool true)], args := [d1, d2] }
  | _ => none }
def fnHeapSortsRow : OpenClaim := { program := "ytgdjfgbipmajmaa", sum := "e012ccc44cfbc2e1688ada9979426b042b2cc0fc0b15fa2449a83fd58c16c80b", func := "loop.example/pub-numberlists/laws.FnHeapSorts", spec := "fnHeapSorts", unfollowed := true, recurses := true, apart := false }
def FnHeapSortsSaid : Prop := fnHeapSortsRow.holds Try.pinned (OpenSpec.ofChange fnHeapSortsSpec)

/-- ITS FALSE NEIGHBOUR: 'it returns false'. Refute it at one input. -/
def fnHeapSortsWrong : ChangeSpec := { name := "fnHeapSorts", fn := fun _ => fun
  | [d1, d2] => { results := [.lit (.bool false)], args := [d1, d2] }
  | _ => none }
def FnHeapSortsWrongFalsely : Prop := fnHeapSortsRow.holds Try.pinned (OpenSpec.ofChange fnHeapSortsWrong)

/-- 'laws.FnExactQueueRun': WHATEVER THE INPUT: true; the input reads as it did. -/
def fnExactQueueRunSpec : ChangeSpec := { name := "fnExactQueueRun", fn := fun _ => fun
  | [d1, d2] => { results := [.lit (.bool true)], args := [d1, d2] }
  | _ => none }
def fnExactQueueRunRow : OpenClaim := { program := "ytgdjfgbipmajmaa", sum := "e012ccc44cfbc2e1688ada9979426b042b2cc0fc0b15fa2449a83fd58c16c80b", func := "loop.example/pub-numberlists/laws.FnExactQueueRun", spec := "fnExactQueueRun", unfollowed := true, recurses := true, apart := false }
def FnExactQueueRunSaid : Prop := fnExactQueueRunRow.holds Try.pinned (OpenSpec.ofChange fnExactQueueRunSpec)

/-- ITS FALSE NEIGHBOUR: 'it returns false'. Refute it at one input. -/
def fnExactQueueRunWrong : ChangeSpec := { name := "fnExactQueueRun", fn := fun _ => fun
  | [d1, d2] => { results := [.lit (.bool false)], args := [d1, d2] }
  | _ => none }
def FnExactQueueRunWrongFalsely : Prop := fnExactQueueRunRow.holds Try.pinned (OpenSpec.ofChange fnExactQueueRunWrong)

/-- 'laws.FnQueueSorts': WHATEVER THE INPUT: true; the input reads as it did. -/
def fnQueueSortsSpec : ChangeSpec := { name := "fnQueueSorts", fn := fun _ => fun
  | [d1, d2] => { results := [.lit (.bool true)], args := [d1, d2] }
  | _ => none }
def fnQueueSortsRow : OpenClaim := { program := "ytgdjfgbipmajmaa", sum := "e012ccc44cfbc2e1688ada9979426b042b2cc0fc0b15fa2449a83fd58c16c80b", func := "loop.example/pub-numberlists/laws.FnQueueSorts", spec := "fnQueueSorts", unfollowed := true, recurses := true, apart := false }
def FnQueueSortsSaid : Prop := fnQueueSortsRow.holds Try.pinned (OpenSpec.ofChange fnQueueSortsSpec)

/-- ITS FALSE NEIGHBOUR: 'it returns false'. Refute it at one input. -/
def fnQueueSortsWrong : ChangeSpec := { name := "fnQueueSorts", fn := fun _ => fun
  | [d1, d2] => { results := [.lit (.bool false)], args := [d1, d2] }
  | _ => none }
def FnQueueSortsWrongFalsely : Prop := fnQueueSortsRow.holds Try.pinned (OpenSpec.ofChange fnQueueSortsWrong)

/-- 'laws.FnExactHeapState': WHATEVER THE INPUT: true; the input reads as it did. -/
def fnExactHeapStateSpec : ChangeSpec := { name := "fnExactHeapState", fn := fun _ => fun
  | [d1, d2] => { results := [.lit (.bool true)], args := [d1, d2] }
  | _ => none }
def fnExactHeapStateRow : OpenClaim := { program := "ytgdjfgbipmajmaa", sum := "e012ccc44cfbc2e1688ada9979426b042b2cc0fc0b15fa2449a83fd58c16c80b", func := "loop.example/pub-numberlists/laws.FnExactHeapState", spec := "fnExactHeapState", unfollowed := true, recurses := true, apart := false }
def FnExactHeapStateSaid : Prop := fnExactHeapStateRow.holds Try.pinned (OpenSpec.ofChange fnExactHeapStateSpec)

/-- ITS FALSE NEIGHBOUR: 'it returns false'. Refute it at one input. -/
def fnExactHeapStateWrong : ChangeSpec := { name := "fnExactHeapState", fn := fun _ => fun
  | [d1, d2] => { results := [.lit (.bool false)], args := [d1, d2] }
  | _ => none }
def FnExactHeapStateWrongFalsely : Prop := fnExactHeapStateRow.holds Try.pinned (OpenSpec.ofChange fnExactHeapStateWrong)

/-- 'laws.FnHeapRunRest': WHATEVER THE INPUT: true; the input reads as it did. -/
def fnHeapRunRestSpec : ChangeSpec := { name := "fnHeapRunRest", fn := fun _ => fun
  | [d1, d2] => { results := [.lit (.bool true)], args := [d1, d2] }
  | _ => none }
def fnHeapRunRestRow : OpenClaim := { program := "ytgdjfgbipmajmaa", sum := "e012ccc44cfbc2e1688ada9979426b042b2cc0fc0b15fa2449a83fd58c16c80b", func := "loop.example/pub-numberlists/laws.FnHeapRunRest", spec := "fnHeapRunRest", unfollowed := true, recurses := true, apart := false }
def FnHeapRunRestSaid : Prop := fnHeapRunRestRow.holds Try.pinned (OpenSpec.ofChange fnHeapRunRestSpec)

/-- ITS FALSE NEIGHBOUR: 'it returns false'. Refute it at one input. -/
def fnHeapRunRestWrong : ChangeSpec := { name := "fnHeapRunRest", fn := fun _ => fun
  | [d1, d2] => { results := [.lit (.bool false)], args := [d1, d2] }
  | _ => none }
def FnHeapRunRestWrongFalsely : Prop := fnHeapRunRestRow.holds Try.pinned (OpenSpec.ofChange fnHeapRunRestWrong)

/-- 'laws.FnExactQueueState': WHATEVER THE INPUT: true; the input reads as it did. -/
def fnExactQueueStateSpec : ChangeSpec := { name := "fnExactQueueState", fn := fun _ => fun
  | [d1, d2] => { results := [.lit (.bool true)], args := [d1, d2] }
  | _ => none }
def fnExactQueueStateRow : OpenClaim := { program := "ytgdjfgbipmajmaa", sum := "e012ccc44cfbc2e1688ada9979426b042b2cc0fc0b15fa2449a83fd58c16c80b", func := "loop.example/pub-numberlists/laws.FnExactQueueState", spec := "fnExactQueueState", unfollowed := true, recurses := true, apart := false }
def FnExactQueueStateSaid : Prop := fnExactQueueStateRow.holds Try.pinned (OpenSpec.ofChange fnExactQueueStateSpec)

/-- ITS FALSE NEIGHBOUR: 'it returns false'. Refute it at one input. -/
def fnExactQueueStateWrong : ChangeSpec := { name := "fnExactQueueState", fn := fun _ => fun
  | [d1, d2] => { results := [.lit (.bool false)], args := [d1, d2] }
  | _ => none }
def FnExactQueueStateWrongFalsely : Prop := fnExactQueueStateRow.holds Try.pinned (OpenSpec.ofChange fnExactQueueStateWrong)

/-- 'laws.FnQueueRunRest': WHATEVER THE INPUT: true; the input reads as it did. -/
def fnQueueRunRestSpec : ChangeSpec := { name := "fnQueueRunRest", fn := fun _ => fun
  | [d1, d2] => { results := [.lit (.bool true)], args := [d1, d2] }
  | _ => none }
def fnQueueRunRestRow : OpenClaim := { program := "ytgdjfgbipmajmaa", sum := "e012ccc44cfbc2e1688ada9979426b042b2cc0fc0b15fa2449a83fd58c16c80b", func := "loop.example/pub-numberlists/laws.FnQueueRunRest", spec := "fnQueueRunRest", unfollowed := true, recurses := true, apart := false }
def FnQueueRunRestSaid : Prop := fnQueueRunRestRow.holds Try.pinned (OpenSpec.ofChange fnQueueRunRestSpec)

/-- ITS FALSE NEIGHBOUR: 'it returns false'. Refute it at one input. -/
def fnQueueRunRestWrong : ChangeSpec := { name := "fnQueueRunRest", fn := fun _ => fun
  | [d1, d2] => { results := [.lit (.bool false)], args := [d1, d2] }
  | _ => none }
def FnQueueRunRestWrongFalsely : Prop := fnQueueRunRestRow.holds Try.pinned (OpenSpec.ofChange fnQueueRunRestWrong)

/-- 'laws.FnSortNumbers': WHATEVER THE INPUT: true; the input reads as it did. -/
def fnSortNumbersSpec : ChangeSpec := { name := "fnSortNumbers", fn := fun _ => fun
  | [d1, d2] => { results := [.lit (.bool true)], args := [d1, d2] }
  | _ => none }
def fnSortNumbersRow : OpenClaim := { program := "ytgdjfgbipmajmaa", sum := "e012ccc44cfbc2e1688ada9979426b042b2cc0fc0b15fa2449a83fd58c16c80b", func := "loop.example/pub-numberlists/laws.FnSortNumbers", spec := "fnSortNumbers", unfollowed := true, recurses := true, apart := false }
def FnSortNumbersSaid : Prop := fnSortNumbersRow.holds Try.pinned (OpenSpec.ofChange fnSortNumbersSpec)

/-- ITS FALSE NEIGHBOUR: 'it returns false'. Refute it at one input. -/
def fnSortNumbersWrong : ChangeSpec := { name := "fnSortNumbers", fn := fun _ => fun
  | [d1, d2] => { results := [.lit (.bool false)], args := [d1, d2] }
  | _ => none }
def FnSortNumbersWrongFalsely : Prop := fnSortNumbersRow.holds Try.pinned (OpenSpec.ofChange fnSortNumbersWrong)

/-- 'laws.FnHeapForward': WHATEVER THE INPUT: true; the input reads as it did. -/
def fnHeapForwardSpec : ChangeSpec := { name := "fnHeapForward", fn := fun _ => fun
  | [d1, d2] => { results := [.lit (.bool true)], args := [d1, d2] }
  | _ => none }
def fnHeapForwardRow : OpenClaim := { program := "ytgdjfgbipmajmaa", sum := "e012ccc44cfbc2e1688ada9979426b042b2cc0fc0b15fa2449a83fd58c16c80b", func := "loop.example/pub-numberlists/laws.FnHeapForward", spec := "fnHeapForward", unfollowed := true, recurses := true, apart := false }
def FnHeapForwardSaid : Prop := fnHeapForwardRow.holds Try.pinned (OpenSpec.ofChange fnHeapForwardSpec)

/-- ITS FALSE NEIGHBOUR: 'it returns false'. Refute it at one input. -/
def fnHeapForwardWrong : ChangeSpec := { name := "fnHeapForward", fn := fun _ => fun
  | [d1, d2] => { results := [.lit (.bool false)], args := [d1, d2] }
  | _ => none }
def FnHeapForwardWrongFalsely : Prop := fnHeapForwardRow.holds Try.pinned (OpenSpec.ofChange fnHeapForwardWrong)

/-- 'laws.FnHeapBack': WHATEVER THE INPUT: true; the input reads as it did. -/
def fnHeapBackSpec : ChangeSpec := { name := "fnHeapBack", fn := fun _ => fun
  | [d1, d2] => { results := [.lit (.bool true)], args := [d1, d2] }
  | _ => none }
def fnHeapBackRow : OpenClaim := { program := "ytgdjfgbipmajmaa", sum := "e012ccc44cfbc2e1688ada9979426b042b2cc0fc0b15fa2449a83fd58c16c80b", func := "loop.example/pub-numberlists/laws.FnHeapBack", spec := "fnHeapBack", unfollowed := true, recurses := true, apart := false }
def FnHeapBackSaid : Prop := fnHeapBackRow.holds Try.pinned (OpenSpec.ofChange fnHeapBackSpec)

/-- ITS FALSE NEIGHBOUR: 'it returns false'. Refute it at one input. -/
def fnHeapBackWrong : ChangeSpec := { name := "fnHeapBack", fn := fun _ => fun
  | [d1, d2] => { results := [.lit (.bool false)], args := [d1, d2] }
  | _ => none }
def FnHeapBackWrongFalsely : Prop := fnHeapBackRow.holds Try.pinned (OpenSpec.ofChange fnHeapBackWrong)

/-- 'laws.FnQueueForward': WHATEVER THE INPUT: true; the input reads as it did. -/
def fnQueueForwardSpec : ChangeSpec := { name := "fnQueueForward", fn := fun _ => fun
  | [d1, d2] => { results := [.lit (.bool true)], args := [d1, d2] }
  | _ => none }
def fnQueueForwardRow : OpenClaim := { program := "ytgdjfgbipmajmaa", sum := "e012ccc44cfbc2e1688ada9979426b042b2cc0fc0b15fa2449a83fd58c16c80b", func := "loop.example/pub-numberlists/laws.FnQueueForward", spec := "fnQueueForward", unfollowed := true, recurses := true, apart := false }
def FnQueueForwardSaid : Prop := fnQueueForwardRow.holds Try.pinned (OpenSpec.ofChange fnQueueForwardSpec)

/-- ITS FALSE NEIGHBOUR: 'it returns false'. Refute it at one input. -/
def fnQueueForwardWrong : ChangeSpec := { name := "fnQueueForward", fn := fun _ => fun
  | [d1, d2] => { results := [.lit (.bool false)], args := [d1, d2] }
  | _ => none }
def FnQueueForwardWrongFalsely : Prop := fnQueueForwardRow.holds Try.pinned (OpenSpec.ofChange fnQueueForwardWrong)

/-- 'laws.FnQueueBack': WHATEVER THE INPUT: true; the input reads as it did. -/
def fnQueueBackSpec : ChangeSpec := { name := "fnQueueBack", fn := fun _ => fun
  | [d1, d2] => { results := [.lit (.bool true)], args := [d1, d2] }
  | _ => none }
def fnQueueBackRow : OpenClaim := { program := "ytgdjfgbipmajmaa", sum := "e012ccc44cfbc2e1688ada9979426b042b2cc0fc0b15fa2449a83fd58c16c80b", func := "loop.example/pub-numberlists/laws.FnQueueBack", spec := "fnQueueBack", unfollowed := true, recurses := true, apart := false }
def FnQueueBackSaid : Prop := fnQueueBackRow.holds Try.pinned (OpenSpec.ofChange fnQueueBackSpec)

/-- ITS FALSE NEIGHBOUR: 'it returns false'. Refute it at one input. -/
def fnQueueBackWrong : ChangeSpec := { name := "fnQueueBack", fn := fun _ => fun
  | [d1, d2] => { results := [.lit (.bool false)], args := [d1, d2] }
  | _ => none }
def FnQueueBackWrongFalsely : Prop := fnQueueBackRow.holds Try.pinned (OpenSpec.ofChange fnQueueBackWrong)

/- THE SECOND FORM. 'bulk': how many values and letters a reading holds, each counted each time it is reached (what is shared counts as often as it is met; a slice's spare places count too). A statement '..UptoSaid' is the law's where the arguments, and the package variables that the reading takes, are together of bulk at most 1048576: NARROWER than '..Said'. Prove '..Said' where nothing that the law and all that it calls make is longer than what came in: it says more and counts as full. Else prove '..UptoSaid'. A law counts once. -/
mutual
def uptoBulk {H : Type} : DataW H → Nat
  | .lit (.string bytes) => bytes.length + 1
  | .lit _ => 1
  | .nil => 1
  | .ptr d => uptoBulk d + 1
  | .slice elems spare => uptoBulkAll elems + uptoBulkAll spare + 1
  | .agg parts => uptoBulkAll parts + 1
  | .iface _ d => uptoBulk d + 1
  | .map entries => uptoBulkEntries entries + 1
  | .held _ => 1
def uptoBulkAll {H : Type} : List (DataW H) → Nat
  | [] => 0
  | d :: r => uptoBulk d + uptoBulkAll r
def uptoBulkEntries {H : Type} : List (Lit × DataW H) → Nat
  | [] => 0
  | x :: r => uptoBulkEntry x + uptoBulkEntries r
def uptoBulkEntry {H : Type} : Lit × DataW H → Nat
  | (.string bytes, d) => bytes.length + uptoBulk d + 1
  | (_, d) => uptoBulk d + 1
 end
def uptoSmall : (H : Type) → List (DataW H) → Bool := fun _ ds => decide (uptoBulkAll ds ≤ 1048576)
def OpenSpec.upto (s : _root_.Go.ChangeSpec) : _root_.Go.OpenSpec := { _root_.Go.OpenSpec.ofChange s with cond := some uptoSmall }

/-- 'laws.FnHeapPeeked', WHERE WHAT IT READS IS OF BULK AT MOST 1048576: true; the input reads as it did. -/
def fnHeapPeekedUptoRow : OpenClaim := { program := "ytgdjfgbipmajmaa", sum := "e012ccc44cfbc2e1688ada9979426b042b2cc0fc0b15fa2449a83fd58c16c80b", func := "loop.example/pub-numberlists/laws.FnHeapPeeked", spec := "fnHeapPeeked", unfollowed := true, recurses := true, apart := false, narrowed := true }
def FnHeapPeekedUptoSaid : Prop := fnHeapPeekedUptoRow.holds Try.pinned (OpenSpec.upto fnHeapPeekedSpec)

/-- 'laws.FnQueuePeeked', WHERE WHAT IT READS IS OF BULK AT MOST 1048576: true; the input reads as it did. -/
def fnQueuePeekedUptoRow : OpenClaim := { program := "ytgdjfgbipmajmaa", sum := "e012ccc44cfbc2e1688ada9979426b042b2cc0fc0b15fa2449a83fd58c16c80b", func := "loop.example/pub-numberlists/laws.FnQueuePeeked", spec := "fnQueuePeeked", unfollowed := true, recurses := true, apart := false, narrowed := true }
def FnQueuePeekedUptoSaid : Prop := fnQueuePeekedUptoRow.holds Try.pinned (OpenSpec.upto fnQueuePeekedSpec)

/-- 'laws.FnHeapQueue', WHERE WHAT IT READS IS OF BULK AT MOST 1048576: true; the input reads as it did. -/
def fnHeapQueueUptoRow : OpenClaim := { program := "ytgdjfgbipmajmaa", sum := "e012ccc44cfbc2e1688ada9979426b042b2cc0fc0b15fa2449a83fd58c16c80b", func := "loop.example/pub-numberlists/laws.FnHeapQueue", spec := "fnHeapQueue", unfollowed := true, recurses := true, apart := false, narrowed := true }
def FnHeapQueueUptoSaid : Prop := fnHeapQueueUptoRow.holds Try.pinned (OpenSpec.upto fnHeapQueueSpec)

/-- 'laws.FnExactHeapRun', WHERE WHAT IT READS IS OF BULK AT MOST 1048576: true; the input reads as it did. -/
def fnExactHeapRunUptoRow : OpenClaim := { program := "ytgdjfgbipmajmaa", sum := "e012ccc44cfbc2e1688ada9979426b042b2cc0fc0b15fa2449a83fd58c16c80b", func := "loop.example/pub-numberlists/laws.FnExactHeapRun", spec := "fnExactHeapRun", unfollowed := true, recurses := true, apart := false, narrowed := true }
def FnExactHeapRunUptoSaid : Prop := fnExactHeapRunUptoRow.holds Try.pinned (OpenSpec.upto fnExactHeapRunSpec)

/-- 'laws.FnHeapSorts', WHERE WHAT IT READS IS OF BULK AT MOST 1048576: true; the input reads as it did. -/
def fnHeapSortsUptoRow : OpenClaim := { program := "ytgdjfgbipmajmaa", sum := "e012ccc44cfbc2e1688ada9979426b042b2cc0fc0b15fa2449a83fd58c16c80b", func := "loop.example/pub-numberlists/laws.FnHeapSorts", spec := "fnHeapSorts", unfollowed := true, recurses := true, apart := false, narrowed := true }
def FnHeapSortsUptoSaid : Prop := fnHeapSortsUptoRow.holds Try.pinned (OpenSpec.upto fnHeapSortsSpec)

/-- 'laws.FnExactQueueRun', WHERE WHAT IT READS IS OF BULK AT MOST 1048576: true; the input reads as it did. -/
def fnExactQueueRunUptoRow : OpenClaim := { program := "ytgdjfgbipmajmaa", sum := "e012ccc44cfbc2e1688ada9979426b042b2cc0fc0b15fa2449a83fd58c16c80b", func := "loop.example/pub-numberlists/laws.FnExactQueueRun", spec := "fnExactQueueRun", unfollowed := true, recurses := true, apart := false, narrowed := true }
def FnExactQueueRunUptoSaid : Prop := fnExactQueueRunUptoRow.holds Try.pinned (OpenSpec.upto fnExactQueueRunSpec)

/-- 'laws.FnQueueSorts', WHERE WHAT IT READS IS OF BULK AT MOST 1048576: true; the input reads as it did. -/
def fnQueueSortsUptoRow : OpenClaim := { program := "ytgdjfgbipmajmaa", sum := "e012ccc44cfbc2e1688ada9979426b042b2cc0fc0b15fa2449a83fd58c16c80b", func := "loop.example/pub-numberlists/laws.FnQueueSorts", spec := "fnQueueSorts", unfollowed := true, recurses := true, apart := false, narrowed := true }
def FnQueueSortsUptoSaid : Prop := fnQueueSortsUptoRow.holds Try.pinned (OpenSpec.upto fnQueueSortsSpec)

/-- 'laws.FnExactHeapState', WHERE WHAT IT READS IS OF BULK AT MOST 1048576: true; the input reads as it did. -/
def fnExactHeapStateUptoRow : OpenClaim := { program := "ytgdjfgbipmajmaa", sum := "e012ccc44cfbc2e1688ada9979426b042b2cc0fc0b15fa2449a83fd58c16c80b", func := "loop.example/pub-numberlists/laws.FnExactHeapState", spec := "fnExactHeapState", unfollowed := true, recurses := true, apart := false, narrowed := true }
def FnExactHeapStateUptoSaid : Prop := fnExactHeapStateUptoRow.holds Try.pinned (OpenSpec.upto fnExactHeapStateSpec)

/-- 'laws.FnHeapRunRest', WHERE WHAT IT READS IS OF BULK AT MOST 1048576: true; the input reads as it did. -/
def fnHeapRunRestUptoRow : OpenClaim := { program := "ytgdjfgbipmajmaa", sum := "e012ccc44cfbc2e1688ada9979426b042b2cc0fc0b15fa2449a83fd58c16c80b", func := "loop.example/pub-numberlists/laws.FnHeapRunRest", spec := "fnHeapRunRest", unfollowed := true, recurses := true, apart := false, narrowed := true }
def FnHeapRunRestUptoSaid : Prop := fnHeapRunRestUptoRow.holds Try.pinned (OpenSpec.upto fnHeapRunRestSpec)

/-- 'laws.FnExactQueueState', WHERE WHAT IT READS IS OF BULK AT MOST 1048576: true; the input reads as it did. -/
def fnExactQueueStateUptoRow : OpenClaim := { program := "ytgdjfgbipmajmaa", sum := "e012ccc44cfbc2e1688ada9979426b042b2cc0fc0b15fa2449a83fd58c16c80b", func := "loop.example/pub-numberlists/laws.FnExactQueueState", spec := "fnExactQueueState", unfollowed := true, recurses := true, apart := false, narrowed := true }
def FnExactQueueStateUptoSaid : Prop := fnExactQueueStateUptoRow.holds Try.pinned (OpenSpec.upto fnExactQueueStateSpec)

/-- 'laws.FnQueueRunRest', WHERE WHAT IT READS IS OF BULK AT MOST 1048576: true; the input reads as it did. -/
def fnQueueRunRestUptoRow : OpenClaim := { program := "ytgdjfgbipmajmaa", sum := "e012ccc44cfbc2e1688ada9979426b042b2cc0fc0b15fa2449a83fd58c16c80b", func := "loop.example/pub-numberlists/laws.FnQueueRunRest", spec := "fnQueueRunRest", unfollowed := true, recurses := true, apart := false, narrowed := true }
def FnQueueRunRestUptoSaid : Prop := fnQueueRunRestUptoRow.holds Try.pinned (OpenSpec.upto fnQueueRunRestSpec)

/-- 'laws.FnSortNumbers', WHERE WHAT IT READS IS OF BULK AT MOST 1048576: true; the input reads as it did. -/
def fnSortNumbersUptoRow : OpenClaim := { program := "ytgdjfgbipmajmaa", sum := "e012ccc44cfbc2e1688ada9979426b042b2cc0fc0b15fa2449a83fd58c16c80b", func := "loop.example/pub-numberlists/laws.FnSortNumbers", spec := "fnSortNumbers", unfollowed := true, recurses := true, apart := false, narrowed := true }
def FnSortNumbersUptoSaid : Prop := fnSortNumbersUptoRow.holds Try.pinned (OpenSpec.upto fnSortNumbersSpec)

/-- 'laws.FnHeapForward', WHERE WHAT IT READS IS OF BULK AT MOST 1048576: true; the input reads as it did. -/
def fnHeapForwardUptoRow : OpenClaim := { program := "ytgdjfgbipmajmaa", sum := "e012ccc44cfbc2e1688ada9979426b042b2cc0fc0b15fa2449a83fd58c16c80b", func := "loop.example/pub-numberlists/laws.FnHeapForward", spec := "fnHeapForward", unfollowed := true, recurses := true, apart := false, narrowed := true }
def FnHeapForwardUptoSaid : Prop := fnHeapForwardUptoRow.holds Try.pinned (OpenSpec.upto fnHeapForwardSpec)

/-- 'laws.FnHeapBack', WHERE WHAT IT READS IS OF BULK AT MOST 1048576: true; the input reads as it did. -/
def fnHeapBackUptoRow : OpenClaim := { program := "ytgdjfgbipmajmaa", sum := "e012ccc44cfbc2e1688ada9979426b042b2cc0fc0b15fa2449a83fd58c16c80b", func := "loop.example/pub-numberlists/laws.FnHeapBack", spec := "fnHeapBack", unfollowed := true, recurses := true, apart := false, narrowed := true }
def FnHeapBackUptoSaid : Prop := fnHeapBackUptoRow.holds Try.pinned (OpenSpec.upto fnHeapBackSpec)

/-- 'laws.FnQueueForward', WHERE WHAT IT READS IS OF BULK AT MOST 1048576: true; the input reads as it did. -/
def fnQueueForwardUptoRow : OpenClaim := { program := "ytgdjfgbipmajmaa", sum := "e012ccc44cfbc2e1688ada9979426b042b2cc0fc0b15fa2449a83fd58c16c80b", func := "loop.example/pub-numberlists/laws.FnQueueForward", spec := "fnQueueForward", unfollowed := true, recurses := true, apart := false, narrowed := true }
def FnQueueForwardUptoSaid : Prop := fnQueueForwardUptoRow.holds Try.pinned (OpenSpec.upto fnQueueForwardSpec)

/-- 'laws.FnQueueBack', WHERE WHAT IT READS IS OF BULK AT MOST 1048576: true; the input reads as it did. -/
def fnQueueBackUptoRow : OpenClaim := { program := "ytgdjfgbipmajmaa", sum := "e012ccc44cfbc2e1688ada9979426b042b2cc0fc0b15fa2449a83fd58c16c80b", func := "loop.example/pub-numberlists/laws.FnQueueBack", spec := "fnQueueBack", unfollowed := true, recurses := true, apart := false, narrowed := true }
def FnQueueBackUptoSaid : Prop := fnQueueBackUptoRow.holds Try.pinned (OpenSpec.upto fnQueueBackSpec)

end Rows
end Go.Proofs.Ytgdjfgbipmajmaa
