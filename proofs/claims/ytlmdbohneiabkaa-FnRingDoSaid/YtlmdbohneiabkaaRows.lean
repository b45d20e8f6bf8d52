/-
  No cell of these rows narrows 'for every input' (looked for: loops, veiled, ifaces, maps, wideKeys, modest, calm, conditions, laid).
  DERIVED. THE GIVEN ROWS OF THIS SEAT. 12 by the template 'for every input the law returns true; each argument reads behind the call as it read before'; 0 by the template 'total and deterministic' (their statements: YtlmdbohneiabkaaTotals.lean).
  GIVEN WITH THE SEED: the statements are not yours to turn. If you find one false, say at which input.
  Laid BY PROGRAM, IN A SANDBOX (cutbox-rows.mjs): the forced cells as the released guide's own fill.sh prints them over the translation 0ef4aa12174e10c7… (all of the seat's roots in one cut). By AI agents, Wed Nov 11 2026. No macro, syntax, notation, axiom, sorry.
-/
import Derived.Test.YtlmdbohneiabkaaChecked
import GoSem.Claim
import GoSem.ClaimJoined
import GoSem.ClaimMapViews
import Derived.JoinedTies
import Derived.KernelRfl
namespace Go.Proofs.Ytlmdbohneiabkaa
/- THE CELL 'sum', in the pinned program and in every row, IS THE sha256 OF THE DUMP (.gsa) THAT YtlmdbohneiabkaaProg.lean LOADS. Nothing in Lean hashes anything: it is a label: what it is worth is what the hold of that sum in a sandbox is worth. -/
noncomputable def Try.pinned : Pinned := { name := "ytlmdbohneiabkaa", sum := "0ef4aa12174e10c77f41b839e7c06d5d2f0c7812777822940342fdfb40fbc15c", checked := Try.checked }
namespace Rows
def none {H : Type} : Left H := { results := [], args := [] }

/-- 'laws.FnExactRingZero': WHATEVER THE INPUT: true; the input reads as it did. -/
def fnExactRingZeroSpec : ChangeSpec := { name := "fnExactRingZero", fn := fun _ => fun
  | [] => { results := [.lit (.bool true)], args := [] }
  | _ => none }
def fnExactRingZeroRow : OpenClaim := { program := "ytlmdbohneiabkaa", sum := "0ef4aa12174e10c77f41b839e7c06d5d2f0c7812777822940342fdfb40fbc15c", func := "loop.example/lib-g01093/laws.FnExactRingZero", spec := "fnExactRingZero", apart := false }
def FnExactRingZeroSaid : Prop := fnExactRingZeroRow.holds Try.pinned (OpenSpec.ofChange fnExactRingZeroSpec)

/-- ITS FALSE NEIGHBOUR: 'it returns false'. Refute it at one input. -/
def fnExactRingZeroWrong : ChangeSpec := { name := "fnExactRingZero", fn := fun _ => fun
  | [] => { results := [.lit (.bool false)], args := [] }
  | _ => none }
def FnExactRingZeroWrongFalsely : Prop := fnExactRingZeroRow.holds Try.pinned (OpenSpec.ofChange fnExactRingZeroWrong)

/-- 'laws.FnRingZero': WHATEVER THE INPUT: true; the input reads as it did. -/
def fnRingZeroSpec : ChangeSpec := { name := "fnRingZero", fn := fun _ => fun
  | [] => { results := [.lit (.bool true)], args := [] }
  | _ => none }
def fnRingZeroRow : OpenClaim := { program := "ytlmdbohneiabkaa", sum := "0ef4aa12174e10c77f41b839e7c06d5d2f0c7812777822940342fdfb40fbc15c", func := "loop.example/lib-g01093/laws.FnRingZero", spec := "fnRingZero", apart := false }
def FnRingZeroSaid : Prop := fnRingZeroRow.holds Try.pinned (OpenSpec.ofChange fnRingZeroSpec)

/-- ITS FALSE NEIGHBOUR: 'it returns false'. Refute it at one input. -/
def fnRingZeroWrong : ChangeSpec := { name := "fnRingZero", fn := fun _ => fun
  | [] => { results := [.lit (.bool false)], args := [] }
  | _ => none }
def FnRingZeroWrongFalsely : Prop := fnRingZeroRow.holds Try.pinned (OpenSpec.ofChange fnRingZeroWrong)

/-- 'laws.FnRingNew': WHATEVER THE INPUT: true; the input reads as it did. -/
def fnRingNewSpec : ChangeSpec := { name := "fnRingNew", fn := fun _ => fun
  | [d] => { results := [.lit (.bool true)], args := [d] }
  | _ => none }
def fnRingNewRow : OpenClaim := { program := "ytlmdbohneiabkaa", sum := "0ef4aa12174e10c77f41b839e7c06d5d2f0c7812777822940342fdfb40fbc15c", func := "loop.example/lib-g01093/laws.FnRingNew", spec := "fnRingNew", apart := false }
def FnRingNewSaid : Prop := fnRingNewRow.holds Try.pinned (OpenSpec.ofChange fnRingNewSpec)

/-- ITS FALSE NEIGHBOUR: 'it returns false'. Refute it at one input. -/
def fnRingNewWrong : ChangeSpec := { name := "fnRingNew", fn := fun _ => fun
  | [d] => { results := [.lit (.bool false)], args := [d] }
  | _ => none }
def FnRingNewWrongFalsely : Prop := fnRingNewRow.holds Try.pinned (OpenSpec.ofChange fnRingNewWrong)

/-- 'laws.FnRingNothing': WHATEVER THE INPUT: true; the input reads as it did. -/
def fnRingNothingSpec : ChangeSpec := { name := "fnRingNothing", fn := fun _ => fun
  | [d] => { results := [.lit (.bool true)], args := [d] }
  | _ => none }
def fnRingNothingRow : OpenClaim := { program := "ytlmdbohneiabkaa", sum := "0ef4aa12174e10c77f41b839e7c06d5d2f0c7812777822940342fdfb40fbc15c", func := "loop.example/lib-g01093/laws.FnRingNothing", spec := "fnRingNothing", apart := false }
def FnRingNothingSaid : Prop := fnRingNothingRow.holds Try.pinned (OpenSpec.ofChange fnRingNothingSpec)

/-- ITS FALSE NEIGHBOUR: 'it returns false'. Refute it at one input. -/
def fnRingNothingWrong : ChangeSpec := { name := "fnRingNothing", fn := fun _ => fun
  | [d] => { results := [.lit (.bool false)], args := [d] }
  | _ => none }
def FnRingNothingWrongFalsely : Prop := fnRingNothingRow.holds Try.pinned (OpenSpec.ofChange fnRingNothingWrong)

/-- 'laws.FnRingNext': WHATEVER THE INPUT: true; the input reads as it did. -/
def fnRingNextSpec : ChangeSpec := { name := "fnRingNext", fn := fun _ => fun
  | [d1, d2] => { results := [.lit (.bool true)], args := [d1, d2] }
  | _ => none }
def fnRingNextRow : OpenClaim := { program := "ytlmdbohneiabkaa", sum := "0ef4aa12174e10c77f41b839e7c06d5d2f0c7812777822940342fdfb40fbc15c", func := "loop.example/lib-g01093/laws.FnRingNext", spec := "fnRingNext", apart := false }
def FnRingNextSaid : Prop := fnRingNextRow.holds Try.pinned (OpenSpec.ofChange fnRingNextSpec)

/-- ITS FALSE NEIGHBOUR: 'it returns false'. Refute it at one input. -/
def fnRingNextWrong : ChangeSpec := { name := "fnRingNext", fn := fun _ => fun
  | [d1, d2] => { results := [.lit (.bool false)], args := [d1, d2] }
  | _ => none }
def FnRingNextWrongFalsely : Prop := fnRingNextRow.holds Try.pinned (OpenSpec.ofChange fnRingNextWrong)

/-- 'laws.FnRingLen': WHATEVER THE INPUT: true; the input reads as it did. -/
def fnRingLenSpec : ChangeSpec := { name := "fnRingLen", fn := fun _ => fun
  | [d1, d2] => { results := [.lit (.bool true)], args := [d1, d2] }
  | _ => none }
def fnRingLenRow : OpenClaim := { program := "ytlmdbohneiabkaa", sum := "0ef4aa12174e10c77f41b839e7c06d5d2f0c7812777822940342fdfb40fbc15c", func := "loop.example/lib-g01093/laws.FnRingLen", spec := "fnRingLen", apart := false }
def FnRingLenSaid : Prop := fnRingLenRow.holds Try.pinned (OpenSpec.ofChange fnRingLenSpec)

/-- ITS FALSE NEIGHBOUR: 'it returns false'. Refute it at one input. -/
def fnRingLenWrong : ChangeSpec := { name := "fnRingLen", fn := fun _ => fun
  | [d1, d2] => { results := [.lit (.bool false)], args := [d1, d2] }
  | _ => none }
def FnRingLenWrongFalsely : Prop := fnRingLenRow.holds Try.pinned (OpenSpec.ofChange fnRingLenWrong)

/-- 'laws.FnRingPrev': WHATEVER THE INPUT: true; the input reads as it did. -/
def fnRingPrevSpec : ChangeSpec := { name := "fnRingPrev", fn := fun _ => fun
  | [d1, d2] => { results := [.lit (.bool true)], args := [d1, d2] }
  | _ => none }
def fnRingPrevRow : OpenClaim := { program := "ytlmdbohneiabkaa", sum := "0ef4aa12174e10c77f41b839e7c06d5d2f0c7812777822940342fdfb40fbc15c", func := "loop.example/lib-g01093/laws.FnRingPrev", spec := "fnRingPrev", apart := false }
def FnRingPrevSaid : Prop := fnRingPrevRow.holds Try.pinned (OpenSpec.ofChange fnRingPrevSpec)

/-- ITS FALSE NEIGHBOUR: 'it returns false'. Refute it at one input. -/
def fnRingPrevWrong : ChangeSpec := { name := "fnRingPrev", fn := fun _ => fun
  | [d1, d2] => { results := [.lit (.bool false)], args := [d1, d2] }
  | _ => none }
def FnRingPrevWrongFalsely : Prop := fnRingPrevRow.holds Try.pinned (OpenSpec.ofChange fnRingPrevWrong)

/-- 'laws.FnRingDo': WHATEVER THE INPUT: true; the input reads as it did. -/
def fnRingDoSpec : ChangeSpec := { name := "fnRingDo", fn := fun _ => fun
  | [d1, d2] => { results := [.lit (.bool true)], args := [d1, d2] }
  | _ => none }
def fnRingDoRow : OpenClaim := { program := "ytlmdbohneiabkaa", sum := "0ef4aa12174e10c77f41b839e7c06d5d2f0c7812777822940342fdfb40fbc15c", func := "loop.example/lib-g01093/laws.FnRingDo", spec := "fnRingDo", unfollowed := true, recurses := true, apart := false }
def FnRingDoSaid : Prop := fnRingDoRow.holds Try.pinned (OpenSpec.ofChange fnRingDoSpec)

/-- ITS FALSE NEIGHBOUR: 'it returns false'. Refute it at one input. -/
def fnRingDoWrong : ChangeSpec := { name := "fnRingDo", fn := fun _ => fun
  | [d1, d2] => { results := [.lit (.bool false)], args := [d1, d2] }
  | _ => none }
def FnRingDoWrongFalsely : Prop := fnRingDoRow.holds Try.pinned (OpenSpec.ofChange fnRingDoWrong)

/-- 'laws.FnRingNextPrev': WHATEVER THE INPUT: true; the input reads as it did. -/
def fnRingNextPrevSpec : ChangeSpec := { name := "fnRingNextPrev", fn := fun _ => fun
  | [d1, d2] => { results := [.lit (.bool true)], args := [d1, d2] }
  | _ => none }
def fnRingNextPrevRow : OpenClaim := { program := "ytlmdbohneiabkaa", sum := "0ef4aa12174e10c77f41b839e7c06d5d2f0c7812777822940342fdfb40fbc15c", func := "loop.example/lib-g01093/laws.FnRingNextPrev", spec := "fnRingNextPrev", apart := false }
def FnRingNextPrevSaid : Prop := fnRingNextPrevRow.holds Try.pinned (OpenSpec.ofChange fnRingNextPrevSpec)

/-- ITS FALSE NEIGHBOUR: 'it returns false'. Refute it at one input. -/
def fnRingNextPrevWrong : ChangeSpec := { name := "fnRingNextPrev", fn := fun _ => fun
  | [d1, d2] => { results := [.lit (.bool false)], args := [d1, d2] }
  | _ => none }
def FnRingNextPrevWrongFalsely : Prop := fnRingNextPrevRow.holds Try.pinned (OpenSpec.ofChange fnRingNextPrevWrong)

/-- 'laws.FnRingMove': WHATEVER THE INPUT: true; the input reads as it did. -/
def fnRingMoveSpec : ChangeSpec := { name := "fnRingMove", fn := fun _ => fun
  | [d1, d2, d3] => { results := [.lit (.bool true)], args := [d1, d2, d3] }
  | _ => none }
def fnRingMoveRow : OpenClaim := { program := "ytlmdbohneiabkaa", sum := "0ef4aa12174e10c77f41b839e7c06d5d2f0c7812777822940342fdfb40fbc15c", func := "loop.example/lib-g01093/laws.FnRingMove", spec := "fnRingMove", apart := false }
def FnRingMoveSaid : Prop := fnRingMoveRow.holds Try.pinned (OpenSpec.ofChange fnRingMoveSpec)

/-- ITS FALSE NEIGHBOUR: 'it returns false'. Refute it at one input. -/
def fnRingMoveWrong : ChangeSpec := { name := "fnRingMove", fn := fun _ => fun
  | [d1, d2, d3] => { results := [.lit (.bool false)], args := [d1, d2, d3] }
  | _ => none }
def FnRingMoveWrongFalsely : Prop := fnRingMoveRow.holds Try.pinned (OpenSpec.ofChange fnRingMoveWrong)

/-- 'laws.FnRingEmpty': WHATEVER THE INPUT: true; the input reads as it did. -/
def fnRingEmptySpec : ChangeSpec := { name := "fnRingEmpty", fn := fun _ => fun
  | [] => { results := [.lit (.bool true)], args := [] }
  | _ => none }
def fnRingEmptyRow : OpenClaim := { program := "ytlmdbohneiabkaa", sum := "0ef4aa12174e10c77f41b839e7c06d5d2f0c7812777822940342fdfb40fbc15c", func := "loop.example/lib-g01093/laws.FnRingEmpty", spec := "fnRingEmpty", unfollowed := true, recurses := true, apart := false }
def FnRingEmptySaid : Prop := fnRingEmptyRow.holds Try.pinned (OpenSpec.ofChange fnRingEmptySpec)

/-- ITS FALSE NEIGHBOUR: 'it returns false'. Refute it at one input. -/
def fnRingEmptyWrong : ChangeSpec := { name := "fnRingEmpty", fn := fun _ => fun
  | [] => { results := [.lit (.bool false)], args := [] }
  | _ => none }
def FnRingEmptyWrongFalsely : Prop := fnRingEmptyRow.holds Try.pinned (OpenSpec.ofChange fnRingEmptyWrong)

/-- 'laws.FnRingMoveSum': WHATEVER THE INPUT: true; the input reads as it did. -/
def fnRingMoveSumSpec : ChangeSpec := { name := "fnRingMoveSum", fn := fun _ => fun
  | [d1, d2, d3, d4] => { results := [.lit (.bool true)], args := [d1, d2, d3, d4] }
  | _ => none }
def fnRingMoveSumRow : OpenClaim := { program := "ytlmdbohneiabkaa", sum := "0ef4aa12174e10c77f41b839e7c06d5d2f0c7812777822940342fdfb40fbc15c", func := "loop.example/lib-g01093/laws.FnRingMoveSum", spec := "fnRingMoveSum", apart := false }
def FnRingMoveSumSaid : Prop := fnRingMoveSumRow.holds Try.pinned (OpenSpec.ofChange fnRingMoveSumSpec)

/-- ITS FALSE NEIGHBOUR: 'it returns false'. Refute it at one input. -/
def fnRingMoveSumWrong : ChangeSpec := { name := "fnRingMoveSum", fn := fun _ => fun
  | [d1, d2, d3, d4] => { results := [.lit (.bool false)], args := [d1, d2, d3, d4] }
  | _ => none }
def FnRingMoveSumWrongFalsely : Prop := fnRingMoveSumRow.holds Try.pinned (OpenSpec.ofChange fnRingMoveSumWrong)

/- THE SECOND FORM. 'bulk': how many values and letters a reading holds, each counted each time it is reached (what is shared counts as often as it is met; a slice's spare places count too). A statement '..UptoSaid' is the law's where the arguments, and the package variables that the reading takes, are together of bulk at most 1048576: NARROWER than '..Said'. Prove '..Said' where nothing that the law and all that it calls make is longer than what came in: it says more and counts as full. Else prove '..UptoSaid'. A law counts once. -/
mutual
def uptoBulk {H : Type} : DataW H → Nat
  | .lit (.string bytes) => bytes.length + 1
  | .lit _ => 1
  | .nil => 1
  | .ptr d => uptoBulk d + 1
  | .slice elems spare => uptoBulkAll elems + uptoBulkAll spare + 1
  | .agg parts => uptoBulkAll parts + 1
  | .iface _ d => uptoBulk d + 1
  | .map entries => uptoBulkEntries entries + 1
  | .held _ => 1
def uptoBulkAll {H : Type} : List (DataW H) → Nat
  | [] => 0
  | d :: r => uptoBulk d + uptoBulkAll r
def uptoBulkEntries {H : Type} : List (Lit × DataW H) → Nat
  | [] => 0
  | x :: r => uptoBulkEntry x + uptoBulkEntries r
def uptoBulkEntry {H : Type} : Lit × DataW H → Nat
  | (.string bytes, d) => bytes.length + uptoBulk d + 1
  | (_, d) => uptoBulk d + 1
 end
def uptoSmall : (H : Type) → List (DataW H) → Bool := fun _ ds => decide (uptoBulkAll ds ≤ 1048576)
def OpenSpec.upto (s : _root_.Go.ChangeSpec) : _root_.Go.OpenSpec := { _root_.Go.OpenSpec.ofChange s with cond := some uptoSmall }

/-- 'laws.FnExactRingZero', WHERE WHAT IT READS IS OF BULK AT MOST 1048576: true; the input reads as it did. -/
def fnExactRingZeroUptoRow : OpenClaim := { program := "ytlmdbohneiabkaa", sum := "0ef4aa12174e10c77f41b839e7c06d5d2f0c7812777822940342fdfb40fbc15c", func := "loop.example/lib-g01093/laws.FnExactRingZero", spec := "fnExactRingZero", apart := false, narrowed := true }
def FnExactRingZeroUptoSaid : Prop := fnExactRingZeroUptoRow.holds Try.pinned (OpenSpec.upto fnExactRingZeroSpec)

/-- 'laws.FnRingZero', WHERE WHAT IT READS IS OF BULK AT MOST 1048576: true; the input reads as it did. -/
def fnRingZeroUptoRow : OpenClaim := { program := "ytlmdbohneiabkaa", sum := "0ef4aa12174e10c77f41b839e7c06d5d2f0c7812777822940342fdfb40fbc15c", func := "loop.example/lib-g01093/laws.FnRingZero", spec := "fnRingZero", apart := false, narrowed := true }
def FnRingZeroUptoSaid : Prop := fnRingZeroUptoRow.holds Try.pinned (OpenSpec.upto fnRingZeroSpec)

/-- 'laws.FnRingNew', WHERE WHAT IT READS IS OF BULK AT MOST 1048576: true; the input reads as it did. -/
def fnRingNewUptoRow : OpenClaim := { program := "ytlmdbohneiabkaa", sum := "0ef4aa12174e10c77f41b839e7c06d5d2f0c7812777822940342fdfb40fbc15c", func := "loop.example/lib-g01093/laws.FnRingNew", spec := "fnRingNew", apart := false, narrowed := true }
def FnRingNewUptoSaid : Prop := fnRingNewUptoRow.holds Try.pinned (OpenSpec.upto fnRingNewSpec)

/-- 'laws.FnRingNothing', WHERE WHAT IT READS IS OF BULK AT MOST 1048576: true; the input reads as it did. -/
def fnRingNothingUptoRow : OpenClaim := { program := "ytlmdbohneiabkaa", sum := "0ef4aa12174e10c77f41b839e7c06d5d2f0c7812777822940342fdfb40fbc15c", func := "loop.example/lib-g01093/laws.FnRingNothing", spec := "fnRingNothing", apart := false, narrowed := true }
def FnRingNothingUptoSaid : Prop := fnRingNothingUptoRow.holds Try.pinned (OpenSpec.upto fnRingNothingSpec)

/-- 'laws.FnRingNext', WHERE WHAT IT READS IS OF BULK AT MOST 1048576: true; the input reads as it did. -/
def fnRingNextUptoRow : OpenClaim := { program := "ytlmdbohneiabkaa", sum := "0ef4aa12174e10c77f41b839e7c06d5d2f0c7812777822940342fdfb40fbc15c", func := "loop.example/lib-g01093/laws.FnRingNext", spec := "fnRingNext", apart := false, narrowed := true }
def FnRingNextUptoSaid : Prop := fnRingNextUptoRow.holds Try.pinned (OpenSpec.upto fnRingNextSpec)

/-- 'laws.FnRingLen', WHERE WHAT IT READS IS OF BULK AT MOST 1048576: true; the input reads as it did. -/
def fnRingLenUptoRow : OpenClaim := { program := "ytlmdbohneiabkaa", sum := "0ef4aa12174e10c77f41b839e7c06d5d2f0c7812777822940342fdfb40fbc15c", func := "loop.example/lib-g01093/laws.FnRingLen", spec := "fnRingLen", apart := false, narrowed := true }
def FnRingLenUptoSaid : Prop := fnRingLenUptoRow.holds Try.pinned (OpenSpec.upto fnRingLenSpec)

/-- 'laws.FnRingPrev', WHERE WHAT IT READS IS OF BULK AT MOST 1048576: true; the input reads as it did. -/
def fnRingPrevUptoRow : OpenClaim := { program := "ytlmdbohneiabkaa", sum := "0ef4aa12174e10c77f41b839e7c06d5d2f0c7812777822940342fdfb40fbc15c", func := "loop.example/lib-g01093/laws.FnRingPrev", spec := "fnRingPrev", apart := false, narrowed := true }
def FnRingPrevUptoSaid : Prop := fnRingPrevUptoRow.holds Try.pinned (OpenSpec.upto fnRingPrevSpec)

/-- 'laws.FnRingDo', WHERE WHAT IT READS IS OF BULK AT MOST 1048576: true; the input reads as it did. -/
def fnRingDoUptoRow : OpenClaim := { program := "ytlmdbohneiabkaa", sum := "0ef4aa12174e10c77f41b839e7c06d5d2f0c7812777822940342fdfb40fbc15c", func := "loop.example/lib-g01093/laws.FnRingDo", spec := "fnRingDo", unfollowed := true, recurses := true, apart := false, narrowed := true }
def FnRingDoUptoSaid : Prop := fnRingDoUptoRow.holds Try.pinned (OpenSpec.upto fnRingDoSpec)

/-- 'laws.FnRingNextPrev', WHERE WHAT IT READS IS OF BULK AT MOST 1048576: true; the input reads as it did. -/
def fnRingNextPrevUptoRow : OpenClaim := { program := "ytlmdbohneiabkaa", sum := "0ef4aa12174e10c77f41b839e7c06d5d2f0c7812777822940342fdfb40fbc15c", func := "loop.example/lib-g01093/laws.FnRingNextPrev", spec := "fnRingNextPrev", apart := false, narrowed := true }
def FnRingNextPrevUptoSaid : Prop := fnRingNextPrevUptoRow.holds Try.pinned (OpenSpec.upto fnRingNextPrevSpec)

/-- 'laws.FnRingMove', WHERE WHAT IT READS IS OF BULK AT MOST 1048576: true; the input reads as it did. -/
def fnRingMoveUptoRow : OpenClaim := { program := "ytlmdbohneiabkaa", sum := "0ef4aa12174e10c77f41b839e7c06d5d2f0c7812777822940342fdfb40fbc15c", func := "loop.example/lib-g01093/laws.FnRingMove", spec := "fnRingMove", apart := false, narrowed := true }
def FnRingMoveUptoSaid : Prop := fnRingMoveUptoRow.holds Try.pinned (OpenSpec.upto fnRingMoveSpec)

/-- 'laws.FnRingEmpty', WHERE WHAT IT READS IS OF BULK AT MOST 1048576: true; the input reads as it did. -/
def fnRingEmptyUptoRow : OpenClaim := { program := "ytlmdbohneiabkaa", sum := "0ef4aa12174e10c77f41b839e7c06d5d2f0c7812777822940342fdfb40fbc15c", func := "loop.example/lib-g01093/laws.FnRingEmpty", spec := "fnRingEmpty", unfollowed := true, recurses := true, apart := false, narrowed := true }
def FnRingEmptyUptoSaid : Prop := fnRingEmptyUptoRow.holds Try.pinned (OpenSpec.upto fnRingEmptySpec)

/-- 'laws.FnRingMoveSum', WHERE WHAT IT READS IS OF BULK AT MOST 1048576: true; the input reads as it did. -/
def fnRingMoveSumUptoRow : OpenClaim := { program := "ytlmdbohneiabkaa", sum := "0ef4aa12174e10c77f41b839e7c06d5d2f0c7812777822940342fdfb40fbc15c", func := "loop.example/lib-g01093/laws.FnRingMoveSum", spec := "fnRingMoveSum", apart := false, narrowed := true }
def FnRingMoveSumUptoSaid : Prop := fnRingMoveSumUptoRow.holds Try.pinned (OpenSpec.upto fnRingMoveSumSpec)

end Rows
end Go.Proofs.Ytlmdbohneiabkaa
