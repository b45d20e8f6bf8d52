/-
  No cell of these rows narrows 'for every input' (looked for: loops, veiled, ifaces, maps, wideKeys, modest, calm, conditions, laid).
  DERIVED. THE GIVEN ROWS OF THIS SEAT. 5 by the template 'for every input the law returns true; each argument reads behind the call as it read before'; 0 by the template 'total and deterministic' (their statements: YtpdimdpphbobiaaTotals.lean).
  GIVEN WITH THE SEED: the statements are not yours to turn. If you find one false, say at which input.
  Laid BY PROGRAM, IN A SANDBOX (cutbox-rows.mjs): the forced cells as the released guide's own fill.sh prints them over the translation 7d6057464803f877… (all of the seat's roots in one cut). By AI agents, Wed Nov 11 2026. No macro, syntax, notation, axiom, sorry.
-/
import Derived.Test.YtpdimdpphbobiaaChecked
import GoSem.Claim
import GoSem.ClaimJoined
import GoSem.ClaimMapViews
import Derived.JoinedTies
import Derived.KernelRfl
namespace Go.Proofs.Ytpdimdpphbobiaa
/- THE CELL 'sum', in the pinned program and in every row, IS THE sha256 OF THE DUMP (.gsa) THAT YtpdimdpphbobiaaProg.lean LOADS. Nothing in Lean hashes anything: it is a label: what it is worth is what the hold of that sum in a sandbox is worth. -/
noncomputable def Try.pinned : Pinned := { name := "ytpdimdpphbobiaa", sum := "7d6057464803f87778529c8bf2af366c2d69b8f406aa4342a49c545fe864b2dd", checked := Try.checked }
namespace Rows
def none {H : Type} : Left H := { results := [], args := [] }

/-- 'laws.FnRingScriptDo': WHATEVER THE INPUT: true; the input reads as it did. -/
def fnRingScriptDoSpec : ChangeSpec := { name := "fnRingScriptDo", fn := fun _ => fun
  | [d1, d2, d3, d4] => { results := [.lit (.bool true)], args := [d1, d2, d3, d4] }
  | _ => none }
def fnRingScriptDoRow : OpenClaim := { program := "ytpdimdpphbobiaa", sum := "7d6057464803f87778529c8bf2af366c2d69b8f406aa4342a49c545fe864b2dd", func := "loop.example/lib-g01093/laws.FnRingScriptDo", spec := "fnRingScriptDo", unfollowed := true, recurses := true, apart := false }
def FnRingScriptDoSaid : Prop := fnRingScriptDoRow.holds Try.pinned (OpenSpec.ofChange fnRingScriptDoSpec)

/-- ITS FALSE NEIGHBOUR: 'it returns false'. Refute it at one input. -/
def fnRingScriptDoWrong : ChangeSpec := { name := "fnRingScriptDo", fn := fun _ => fun
  | [d1, d2, d3, d4] => { results := [.lit (.bool false)], args := [d1, d2, d3, d4] }
  | _ => none }
def FnRingScriptDoWrongFalsely : Prop := fnRingScriptDoRow.holds Try.pinned (OpenSpec.ofChange fnRingScriptDoWrong)

/-- 'laws.FnRingScriptSteps': WHATEVER THE INPUT: true; the input reads as it did. -/
def fnRingScriptStepsSpec : ChangeSpec := { name := "fnRingScriptSteps", fn := fun _ => fun
  | [d1, d2, d3, d4] => { results := [.lit (.bool true)], args := [d1, d2, d3, d4] }
  | _ => none }
def fnRingScriptStepsRow : OpenClaim := { program := "ytpdimdpphbobiaa", sum := "7d6057464803f87778529c8bf2af366c2d69b8f406aa4342a49c545fe864b2dd", func := "loop.example/lib-g01093/laws.FnRingScriptSteps", spec := "fnRingScriptSteps", unfollowed := true, recurses := true, apart := false }
def FnRingScriptStepsSaid : Prop := fnRingScriptStepsRow.holds Try.pinned (OpenSpec.ofChange fnRingScriptStepsSpec)

/-- ITS FALSE NEIGHBOUR: 'it returns false'. Refute it at one input. -/
def fnRingScriptStepsWrong : ChangeSpec := { name := "fnRingScriptSteps", fn := fun _ => fun
  | [d1, d2, d3, d4] => { results := [.lit (.bool false)], args := [d1, d2, d3, d4] }
  | _ => none }
def FnRingScriptStepsWrongFalsely : Prop := fnRingScriptStepsRow.holds Try.pinned (OpenSpec.ofChange fnRingScriptStepsWrong)

/-- 'laws.FnRingSingles': WHATEVER THE INPUT: true; the input reads as it did. -/
def fnRingSinglesSpec : ChangeSpec := { name := "fnRingSingles", fn := fun _ => fun
  | [d] => { results := [.lit (.bool true)], args := [d] }
  | _ => none }
def fnRingSinglesRow : OpenClaim := { program := "ytpdimdpphbobiaa", sum := "7d6057464803f87778529c8bf2af366c2d69b8f406aa4342a49c545fe864b2dd", func := "loop.example/lib-g01093/laws.FnRingSingles", spec := "fnRingSingles", unfollowed := true, recurses := true, apart := false }
def FnRingSinglesSaid : Prop := fnRingSinglesRow.holds Try.pinned (OpenSpec.ofChange fnRingSinglesSpec)

/-- ITS FALSE NEIGHBOUR: 'it returns false'. Refute it at one input. -/
def fnRingSinglesWrong : ChangeSpec := { name := "fnRingSingles", fn := fun _ => fun
  | [d] => { results := [.lit (.bool false)], args := [d] }
  | _ => none }
def FnRingSinglesWrongFalsely : Prop := fnRingSinglesRow.holds Try.pinned (OpenSpec.ofChange fnRingSinglesWrong)

/-- 'laws.FnRingDoNext': WHATEVER THE INPUT: true; the input reads as it did. -/
def fnRingDoNextSpec : ChangeSpec := { name := "fnRingDoNext", fn := fun _ => fun
  | [d1, d2] => { results := [.lit (.bool true)], args := [d1, d2] }
  | _ => none }
def fnRingDoNextRow : OpenClaim := { program := "ytpdimdpphbobiaa", sum := "7d6057464803f87778529c8bf2af366c2d69b8f406aa4342a49c545fe864b2dd", func := "loop.example/lib-g01093/laws.FnRingDoNext", spec := "fnRingDoNext", unfollowed := true, recurses := true, apart := false }
def FnRingDoNextSaid : Prop := fnRingDoNextRow.holds Try.pinned (OpenSpec.ofChange fnRingDoNextSpec)

/-- ITS FALSE NEIGHBOUR: 'it returns false'. Refute it at one input. -/
def fnRingDoNextWrong : ChangeSpec := { name := "fnRingDoNext", fn := fun _ => fun
  | [d1, d2] => { results := [.lit (.bool false)], args := [d1, d2] }
  | _ => none }
def FnRingDoNextWrongFalsely : Prop := fnRingDoNextRow.holds Try.pinned (OpenSpec.ofChange fnRingDoNextWrong)

/-- 'laws.FnRingScript': WHATEVER THE INPUT: true; the input reads as it did. -/
def fnRingScriptSpec : ChangeSpec := { name := "fnRingScript", fn := fun _ => fun
  | [d1, d2, d3, d4] => { results := [.lit (.bool true)], args := [d1, d2, d3, d4] }
  | _ => none }
def fnRingScriptRow : OpenClaim := { program := "ytpdimdpphbobiaa", sum := "7d6057464803f87778529c8bf2af366c2d69b8f406aa4342a49c545fe864b2dd", func := "loop.example/lib-g01093/laws.FnRingScript", spec := "fnRingScript", unfollowed := true, recurses := true, apart := false }
def FnRingScriptSaid : Prop := fnRingScriptRow.holds Try.pinned (OpenSpec.ofChange fnRingScriptSpec)

/-- ITS FALSE NEIGHBOUR: 'it returns false'. Refute it at one input. -/
def fnRingScriptWrong : ChangeSpec := { name := "fnRingScript", fn := fun _ => fun
  | [d1, d2, d3, d4] => { results := [.lit (.bool false)], args := [d1, d2, d3, d4] }
  | _ => none }
def FnRingScriptWrongFalsely : Prop := fnRingScriptRow.holds Try.pinned (OpenSpec.ofChange fnRingScriptWrong)

/- THE SECOND FORM. 'bulk': how many values and letters a reading holds, each counted each time it is reached (what is shared counts as often as it is met; a slice's spare places count too). A statement '..UptoSaid' is the law's where the arguments, and the package variables that the reading takes, are together of bulk at most 1048576: NARROWER than '..Said'. Prove '..Said' where nothing that the law and all that it calls make is longer than what came in: it says more and counts as full. Else prove '..UptoSaid'. A law counts once. -/
mutual
def uptoBulk {H : Type} : DataW H → Nat
  | .lit (.string bytes) => bytes.length + 1
  | .lit _ => 1
  | .nil => 1
  | .ptr d => uptoBulk d + 1
  | .slice elems spare => uptoBulkAll elems + uptoBulkAll spare + 1
  | .agg parts => uptoBulkAll parts + 1
  | .iface _ d => uptoBulk d + 1
  | .map entries => uptoBulkEntries entries + 1
  | .held _ => 1
def uptoBulkAll {H : Type} : List (DataW H) → Nat
  | [] => 0
  | d :: r => uptoBulk d + uptoBulkAll r
def uptoBulkEntries {H : Type} : List (Lit × DataW H) → Nat
  | [] => 0
  | x :: r => uptoBulkEntry x + uptoBulkEntries r
def uptoBulkEntry {H : Type} : Lit × DataW H → Nat
  | (.string bytes, d) => bytes.length + uptoBulk d + 1
  | (_, d) => uptoBulk d + 1
 end
def uptoSmall : (H : Type) → List (DataW H) → Bool := fun _ ds => decide (uptoBulkAll ds ≤ 1048576)
def OpenSpec.upto (s : _root_.Go.ChangeSpec) : _root_.Go.OpenSpec := { _root_.Go.OpenSpec.ofChange s with cond := some uptoSmall }

/-- 'laws.FnRingScriptDo', WHERE WHAT IT READS IS OF BULK AT MOST 1048576: true; the input reads as it did. -/
def fnRingScriptDoUptoRow : OpenClaim := { program := "ytpdimdpphbobiaa", sum := "7d6057464803f87778529c8bf2af366c2d69b8f406aa4342a49c545fe864b2dd", func := "loop.example/lib-g01093/laws.FnRingScriptDo", spec := "fnRingScriptDo", unfollowed := true, recurses := true, apart := false, narrowed := true }
def FnRingScriptDoUptoSaid : Prop := fnRingScriptDoUptoRow.holds Try.pinned (OpenSpec.upto fnRingScriptDoSpec)

/-- 'laws.FnRingScriptSteps', WHERE WHAT IT READS IS OF BULK AT MOST 1048576: true; the input reads as it did. -/
def fnRingScriptStepsUptoRow : OpenClaim := { program := "ytpdimdpphbobiaa", sum := "7d6057464803f87778529c8bf2af366c2d69b8f406aa4342a49c545fe864b2dd", func := "loop.example/lib-g01093/laws.FnRingScriptSteps", spec := "fnRingScriptSteps", unfollowed := true, recurses := true, apart := false, narrowed := true }
def FnRingScriptStepsUptoSaid : Prop := fnRingScriptStepsUptoRow.holds Try.pinned (OpenSpec.upto fnRingScriptStepsSpec)

/-- 'laws.FnRingSingles', WHERE WHAT IT READS IS OF BULK AT MOST 1048576: true; the input reads as it did. -/
def fnRingSinglesUptoRow : OpenClaim := { program := "ytpdimdpphbobiaa", sum := "7d6057464803f87778529c8bf2af366c2d69b8f406aa4342a49c545fe864b2dd", func := "loop.example/lib-g01093/laws.FnRingSingles", spec := "fnRingSingles", unfollowed := true, recurses := true, apart := false, narrowed := true }
def FnRingSinglesUptoSaid : Prop := fnRingSinglesUptoRow.holds Try.pinned (OpenSpec.upto fnRingSinglesSpec)

/-- 'laws.FnRingDoNext', WHERE WHAT IT READS IS OF BULK AT MOST 1048576: true; the input reads as it did. -/
def fnRingDoNextUptoRow : OpenClaim := { program := "ytpdimdpphbobiaa", sum := "7d6057464803f87778529c8bf2af366c2d69b8f406aa4342a49c545fe864b2dd", func := "loop.example/lib-g01093/laws.FnRingDoNext", spec := "fnRingDoNext", unfollowed := true, recurses := true, apart := false, narrowed := true }
def FnRingDoNextUptoSaid : Prop := fnRingDoNextUptoRow.holds Try.pinned (OpenSpec.upto fnRingDoNextSpec)

/-- 'laws.FnRingScript', WHERE WHAT IT READS IS OF BULK AT MOST 1048576: true; the input reads as it did. -/
def fnRingScriptUptoRow : OpenClaim := { program := "ytpdimdpphbobiaa", sum := "7d6057464803f87778529c8bf2af366c2d69b8f406aa4342a49c545fe864b2dd", func := "loop.example/lib-g01093/laws.FnRingScript", spec := "fnRingScript", unfollowed := true, recurses := true, apart := false, narrowed := true }
def FnRingScriptUptoSaid : Prop := fnRingScriptUptoRow.holds Try.pinned (OpenSpec.upto fnRingScriptSpec)

end Rows
end Go.Proofs.Ytpdimdpphbobiaa
