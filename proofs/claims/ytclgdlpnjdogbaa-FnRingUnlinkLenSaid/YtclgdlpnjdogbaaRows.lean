/-
  No cell of these rows narrows 'for every input' (looked for: loops, veiled, ifaces, maps, wideKeys, modest, calm, conditions, laid).
  DERIVED. THE GIVEN ROWS OF THIS SEAT. 12 by the template 'for every input the law returns true; each argument reads behind the call as it read before'; 0 by the template 'total and deterministic' (their statements: YtclgdlpnjdogbaaTotals.lean).
  GIVEN WITH THE SEED: the statements are not yours to turn. If you find one false, say at which input.
  Laid BY PROGRAM, IN A SANDBOX (cutbox-rows.mjs): the forced cells as the released guide's own fill.sh prints them over the translation b2ce40569163611a… (all of the seat's roots in one cut). By AI agents, Wed Nov 11 2026. No macro, syntax, notation, axiom, sorry.
-/
import Derived.Test.YtclgdlpnjdogbaaChecked
import GoSem.Claim
import GoSem.ClaimJoined
import GoSem.ClaimMapViews
import Derived.JoinedTies
import Derived.KernelRfl
namespace Go.Proofs.Ytclgdlpnjdogbaa
/- THE CELL 'sum', in the pinned program and in every row, IS THE sha256 OF THE DUMP (.gsa) THAT YtclgdlpnjdogbaaProg.lean LOADS. Nothing in Lean hashes anything: it is a label: what it is worth is what the hold of that sum in a sandbox is worth. -/
noncomputable def Try.pinned : Pinned := { name := "ytclgdlpnjdogbaa", sum := "b2ce40569163611a33666d863c122dfa0c9bcaa6c0cf70b68bf035a1bcb63183", checked := Try.checked }
namespace Rows
def none {H : Type} : Left H := { results := [], args := [] }

/-- 'laws.FnRingMoveBack': WHATEVER THE INPUT: true; the input reads as it did. -/
def fnRingMoveBackSpec : ChangeSpec := { name := "fnRingMoveBack", fn := fun _ => fun
  | [d1, d2, d3] => { results := [.lit (.bool true)], args := [d1, d2, d3] }
  | _ => none }
def fnRingMoveBackRow : OpenClaim := { program := "ytclgdlpnjdogbaa", sum := "b2ce40569163611a33666d863c122dfa0c9bcaa6c0cf70b68bf035a1bcb63183", func := "loop.example/lib-g01093/laws.FnRingMoveBack", spec := "fnRingMoveBack", apart := false }
def FnRingMoveBackSaid : Prop := fnRingMoveBackRow.holds Try.pinned (OpenSpec.ofChange fnRingMoveBackSpec)

/-- ITS FALSE NEIGHBOUR: 'it returns false'. Refute it at one input. -/
def fnRingMoveBackWrong : ChangeSpec := { name := "fnRingMoveBack", fn := fun _ => fun
  | [d1, d2, d3] => { results := [.lit (.bool false)], args := [d1, d2, d3] }
  | _ => none }
def FnRingMoveBackWrongFalsely : Prop := fnRingMoveBackRow.holds Try.pinned (OpenSpec.ofChange fnRingMoveBackWrong)

/-- 'laws.FnRingLink': WHATEVER THE INPUT: true; the input reads as it did. -/
def fnRingLinkSpec : ChangeSpec := { name := "fnRingLink", fn := fun _ => fun
  | [d1, d2, d3] => { results := [.lit (.bool true)], args := [d1, d2, d3] }
  | _ => none }
def fnRingLinkRow : OpenClaim := { program := "ytclgdlpnjdogbaa", sum := "b2ce40569163611a33666d863c122dfa0c9bcaa6c0cf70b68bf035a1bcb63183", func := "loop.example/lib-g01093/laws.FnRingLink", spec := "fnRingLink", apart := false }
def FnRingLinkSaid : Prop := fnRingLinkRow.holds Try.pinned (OpenSpec.ofChange fnRingLinkSpec)

/-- ITS FALSE NEIGHBOUR: 'it returns false'. Refute it at one input. -/
def fnRingLinkWrong : ChangeSpec := { name := "fnRingLink", fn := fun _ => fun
  | [d1, d2, d3] => { results := [.lit (.bool false)], args := [d1, d2, d3] }
  | _ => none }
def FnRingLinkWrongFalsely : Prop := fnRingLinkRow.holds Try.pinned (OpenSpec.ofChange fnRingLinkWrong)

/-- 'laws.FnRingLinkEmpty': WHATEVER THE INPUT: true; the input reads as it did. -/
def fnRingLinkEmptySpec : ChangeSpec := { name := "fnRingLinkEmpty", fn := fun _ => fun
  | [d1, d2] => { results := [.lit (.bool true)], args := [d1, d2] }
  | _ => none }
def fnRingLinkEmptyRow : OpenClaim := { program := "ytclgdlpnjdogbaa", sum := "b2ce40569163611a33666d863c122dfa0c9bcaa6c0cf70b68bf035a1bcb63183", func := "loop.example/lib-g01093/laws.FnRingLinkEmpty", spec := "fnRingLinkEmpty", apart := false }
def FnRingLinkEmptySaid : Prop := fnRingLinkEmptyRow.holds Try.pinned (OpenSpec.ofChange fnRingLinkEmptySpec)

/-- ITS FALSE NEIGHBOUR: 'it returns false'. Refute it at one input. -/
def fnRingLinkEmptyWrong : ChangeSpec := { name := "fnRingLinkEmpty", fn := fun _ => fun
  | [d1, d2] => { results := [.lit (.bool false)], args := [d1, d2] }
  | _ => none }
def FnRingLinkEmptyWrongFalsely : Prop := fnRingLinkEmptyRow.holds Try.pinned (OpenSpec.ofChange fnRingLinkEmptyWrong)

/-- 'laws.FnRingLinkTwice': WHATEVER THE INPUT: true; the input reads as it did. -/
def fnRingLinkTwiceSpec : ChangeSpec := { name := "fnRingLinkTwice", fn := fun _ => fun
  | [d1, d2, d3] => { results := [.lit (.bool true)], args := [d1, d2, d3] }
  | _ => none }
def fnRingLinkTwiceRow : OpenClaim := { program := "ytclgdlpnjdogbaa", sum := "b2ce40569163611a33666d863c122dfa0c9bcaa6c0cf70b68bf035a1bcb63183", func := "loop.example/lib-g01093/laws.FnRingLinkTwice", spec := "fnRingLinkTwice", apart := false }
def FnRingLinkTwiceSaid : Prop := fnRingLinkTwiceRow.holds Try.pinned (OpenSpec.ofChange fnRingLinkTwiceSpec)

/-- ITS FALSE NEIGHBOUR: 'it returns false'. Refute it at one input. -/
def fnRingLinkTwiceWrong : ChangeSpec := { name := "fnRingLinkTwice", fn := fun _ => fun
  | [d1, d2, d3] => { results := [.lit (.bool false)], args := [d1, d2, d3] }
  | _ => none }
def FnRingLinkTwiceWrongFalsely : Prop := fnRingLinkTwiceRow.holds Try.pinned (OpenSpec.ofChange fnRingLinkTwiceWrong)

/-- 'laws.FnRingLinkLen': WHATEVER THE INPUT: true; the input reads as it did. -/
def fnRingLinkLenSpec : ChangeSpec := { name := "fnRingLinkLen", fn := fun _ => fun
  | [d1, d2, d3] => { results := [.lit (.bool true)], args := [d1, d2, d3] }
  | _ => none }
def fnRingLinkLenRow : OpenClaim := { program := "ytclgdlpnjdogbaa", sum := "b2ce40569163611a33666d863c122dfa0c9bcaa6c0cf70b68bf035a1bcb63183", func := "loop.example/lib-g01093/laws.FnRingLinkLen", spec := "fnRingLinkLen", apart := false }
def FnRingLinkLenSaid : Prop := fnRingLinkLenRow.holds Try.pinned (OpenSpec.ofChange fnRingLinkLenSpec)

/-- ITS FALSE NEIGHBOUR: 'it returns false'. Refute it at one input. -/
def fnRingLinkLenWrong : ChangeSpec := { name := "fnRingLinkLen", fn := fun _ => fun
  | [d1, d2, d3] => { results := [.lit (.bool false)], args := [d1, d2, d3] }
  | _ => none }
def FnRingLinkLenWrongFalsely : Prop := fnRingLinkLenRow.holds Try.pinned (OpenSpec.ofChange fnRingLinkLenWrong)

/-- 'laws.FnRingUnlink': WHATEVER THE INPUT: true; the input reads as it did. -/
def fnRingUnlinkSpec : ChangeSpec := { name := "fnRingUnlink", fn := fun _ => fun
  | [d1, d2, d3] => { results := [.lit (.bool true)], args := [d1, d2, d3] }
  | _ => none }
def fnRingUnlinkRow : OpenClaim := { program := "ytclgdlpnjdogbaa", sum := "b2ce40569163611a33666d863c122dfa0c9bcaa6c0cf70b68bf035a1bcb63183", func := "loop.example/lib-g01093/laws.FnRingUnlink", spec := "fnRingUnlink", apart := false }
def FnRingUnlinkSaid : Prop := fnRingUnlinkRow.holds Try.pinned (OpenSpec.ofChange fnRingUnlinkSpec)

/-- ITS FALSE NEIGHBOUR: 'it returns false'. Refute it at one input. -/
def fnRingUnlinkWrong : ChangeSpec := { name := "fnRingUnlink", fn := fun _ => fun
  | [d1, d2, d3] => { results := [.lit (.bool false)], args := [d1, d2, d3] }
  | _ => none }
def FnRingUnlinkWrongFalsely : Prop := fnRingUnlinkRow.holds Try.pinned (OpenSpec.ofChange fnRingUnlinkWrong)

/-- 'laws.FnRingUnlinkNone': WHATEVER THE INPUT: true; the input reads as it did. -/
def fnRingUnlinkNoneSpec : ChangeSpec := { name := "fnRingUnlinkNone", fn := fun _ => fun
  | [d1, d2, d3] => { results := [.lit (.bool true)], args := [d1, d2, d3] }
  | _ => none }
def fnRingUnlinkNoneRow : OpenClaim := { program := "ytclgdlpnjdogbaa", sum := "b2ce40569163611a33666d863c122dfa0c9bcaa6c0cf70b68bf035a1bcb63183", func := "loop.example/lib-g01093/laws.FnRingUnlinkNone", spec := "fnRingUnlinkNone", apart := false }
def FnRingUnlinkNoneSaid : Prop := fnRingUnlinkNoneRow.holds Try.pinned (OpenSpec.ofChange fnRingUnlinkNoneSpec)

/-- ITS FALSE NEIGHBOUR: 'it returns false'. Refute it at one input. -/
def fnRingUnlinkNoneWrong : ChangeSpec := { name := "fnRingUnlinkNone", fn := fun _ => fun
  | [d1, d2, d3] => { results := [.lit (.bool false)], args := [d1, d2, d3] }
  | _ => none }
def FnRingUnlinkNoneWrongFalsely : Prop := fnRingUnlinkNoneRow.holds Try.pinned (OpenSpec.ofChange fnRingUnlinkNoneWrong)

/-- 'laws.FnRingLinkOrder': WHATEVER THE INPUT: true; the input reads as it did. -/
def fnRingLinkOrderSpec : ChangeSpec := { name := "fnRingLinkOrder", fn := fun _ => fun
  | [d1, d2, d3] => { results := [.lit (.bool true)], args := [d1, d2, d3] }
  | _ => none }
def fnRingLinkOrderRow : OpenClaim := { program := "ytclgdlpnjdogbaa", sum := "b2ce40569163611a33666d863c122dfa0c9bcaa6c0cf70b68bf035a1bcb63183", func := "loop.example/lib-g01093/laws.FnRingLinkOrder", spec := "fnRingLinkOrder", unfollowed := true, recurses := true, apart := false }
def FnRingLinkOrderSaid : Prop := fnRingLinkOrderRow.holds Try.pinned (OpenSpec.ofChange fnRingLinkOrderSpec)

/-- ITS FALSE NEIGHBOUR: 'it returns false'. Refute it at one input. -/
def fnRingLinkOrderWrong : ChangeSpec := { name := "fnRingLinkOrder", fn := fun _ => fun
  | [d1, d2, d3] => { results := [.lit (.bool false)], args := [d1, d2, d3] }
  | _ => none }
def FnRingLinkOrderWrongFalsely : Prop := fnRingLinkOrderRow.holds Try.pinned (OpenSpec.ofChange fnRingLinkOrderWrong)

/-- 'laws.FnRingOthers': WHATEVER THE INPUT: true; the input reads as it did. -/
def fnRingOthersSpec : ChangeSpec := { name := "fnRingOthers", fn := fun _ => fun
  | [d1, d2, d3, d4] => { results := [.lit (.bool true)], args := [d1, d2, d3, d4] }
  | _ => none }
def fnRingOthersRow : OpenClaim := { program := "ytclgdlpnjdogbaa", sum := "b2ce40569163611a33666d863c122dfa0c9bcaa6c0cf70b68bf035a1bcb63183", func := "loop.example/lib-g01093/laws.FnRingOthers", spec := "fnRingOthers", apart := false }
def FnRingOthersSaid : Prop := fnRingOthersRow.holds Try.pinned (OpenSpec.ofChange fnRingOthersSpec)

/-- ITS FALSE NEIGHBOUR: 'it returns false'. Refute it at one input. -/
def fnRingOthersWrong : ChangeSpec := { name := "fnRingOthers", fn := fun _ => fun
  | [d1, d2, d3, d4] => { results := [.lit (.bool false)], args := [d1, d2, d3, d4] }
  | _ => none }
def FnRingOthersWrongFalsely : Prop := fnRingOthersRow.holds Try.pinned (OpenSpec.ofChange fnRingOthersWrong)

/-- 'laws.FnRingUnlinkBack': WHATEVER THE INPUT: true; the input reads as it did. -/
def fnRingUnlinkBackSpec : ChangeSpec := { name := "fnRingUnlinkBack", fn := fun _ => fun
  | [d1, d2, d3] => { results := [.lit (.bool true)], args := [d1, d2, d3] }
  | _ => none }
def fnRingUnlinkBackRow : OpenClaim := { program := "ytclgdlpnjdogbaa", sum := "b2ce40569163611a33666d863c122dfa0c9bcaa6c0cf70b68bf035a1bcb63183", func := "loop.example/lib-g01093/laws.FnRingUnlinkBack", spec := "fnRingUnlinkBack", apart := false }
def FnRingUnlinkBackSaid : Prop := fnRingUnlinkBackRow.holds Try.pinned (OpenSpec.ofChange fnRingUnlinkBackSpec)

/-- ITS FALSE NEIGHBOUR: 'it returns false'. Refute it at one input. -/
def fnRingUnlinkBackWrong : ChangeSpec := { name := "fnRingUnlinkBack", fn := fun _ => fun
  | [d1, d2, d3] => { results := [.lit (.bool false)], args := [d1, d2, d3] }
  | _ => none }
def FnRingUnlinkBackWrongFalsely : Prop := fnRingUnlinkBackRow.holds Try.pinned (OpenSpec.ofChange fnRingUnlinkBackWrong)

/-- 'laws.FnRingUnlinkLink': WHATEVER THE INPUT: true; the input reads as it did. -/
def fnRingUnlinkLinkSpec : ChangeSpec := { name := "fnRingUnlinkLink", fn := fun _ => fun
  | [d1, d2, d3] => { results := [.lit (.bool true)], args := [d1, d2, d3] }
  | _ => none }
def fnRingUnlinkLinkRow : OpenClaim := { program := "ytclgdlpnjdogbaa", sum := "b2ce40569163611a33666d863c122dfa0c9bcaa6c0cf70b68bf035a1bcb63183", func := "loop.example/lib-g01093/laws.FnRingUnlinkLink", spec := "fnRingUnlinkLink", apart := false }
def FnRingUnlinkLinkSaid : Prop := fnRingUnlinkLinkRow.holds Try.pinned (OpenSpec.ofChange fnRingUnlinkLinkSpec)

/-- ITS FALSE NEIGHBOUR: 'it returns false'. Refute it at one input. -/
def fnRingUnlinkLinkWrong : ChangeSpec := { name := "fnRingUnlinkLink", fn := fun _ => fun
  | [d1, d2, d3] => { results := [.lit (.bool false)], args := [d1, d2, d3] }
  | _ => none }
def FnRingUnlinkLinkWrongFalsely : Prop := fnRingUnlinkLinkRow.holds Try.pinned (OpenSpec.ofChange fnRingUnlinkLinkWrong)

/-- 'laws.FnRingUnlinkLen': WHATEVER THE INPUT: true; the input reads as it did. -/
def fnRingUnlinkLenSpec : ChangeSpec := { name := "fnRingUnlinkLen", fn := fun _ => fun
  | [d1, d2, d3] => { results := [.lit (.bool true)], args := [d1, d2, d3] }
  | _ => none }
def fnRingUnlinkLenRow : OpenClaim := { program := "ytclgdlpnjdogbaa", sum := "b2ce40569163611a33666d863c122dfa0c9bcaa6c0cf70b68bf035a1bcb63183", func := "loop.example/lib-g01093/laws.FnRingUnlinkLen", spec := "fnRingUnlinkLen", unfollowed := true, recurses := true, apart := false }
def FnRingUnlinkLenSaid : Prop := fnRingUnlinkLenRow.holds Try.pinned (OpenSpec.ofChange fnRingUnlinkLenSpec)

/-- ITS FALSE NEIGHBOUR: 'it returns false'. Refute it at one input. -/
def fnRingUnlinkLenWrong : ChangeSpec := { name := "fnRingUnlinkLen", fn := fun _ => fun
  | [d1, d2, d3] => { results := [.lit (.bool false)], args := [d1, d2, d3] }
  | _ => none }
def FnRingUnlinkLenWrongFalsely : Prop := fnRingUnlinkLenRow.holds Try.pinned (OpenSpec.ofChange fnRingUnlinkLenWrong)

/- THE SECOND FORM. 'bulk': how many values and letters a reading holds, each counted each time it is reached (what is shared counts as often as it is met; a slice's spare places count too). A statement '..UptoSaid' is the law's where the arguments, and the package variables that the reading takes, are together of bulk at most 1048576: NARROWER than '..Said'. Prove '..Said' where nothing that the law and all that it calls make is longer than what came in: it says more and counts as full. Else prove '..UptoSaid'. A law counts once. -/
mutual
def uptoBulk {H : Type} : DataW H → Nat
  | .lit (.string bytes) => bytes.length + 1
  | .lit _ => 1
  | .nil => 1
  | .ptr d => uptoBulk d + 1
  | .slice elems spare => uptoBulkAll elems + uptoBulkAll spare + 1
  | .agg parts => uptoBulkAll parts + 1
  | .iface _ d => uptoBulk d + 1
  | .map entries => uptoBulkEntries entries + 1
  | .held _ => 1
def uptoBulkAll {H : Type} : List (DataW H) → Nat
  | [] => 0
  | d :: r => uptoBulk d + uptoBulkAll r
def uptoBulkEntries {H : Type} : List (Lit × DataW H) → Nat
  | [] => 0
  | x :: r => uptoBulkEntry x + uptoBulkEntries r
def uptoBulkEntry {H : Type} : Lit × DataW H → Nat
  | (.string bytes, d) => bytes.length + uptoBulk d + 1
  | (_, d) => uptoBulk d + 1
 end
def uptoSmall : (H : Type) → List (DataW H) → Bool := fun _ ds => decide (uptoBulkAll ds ≤ 1048576)
def OpenSpec.upto (s : _root_.Go.ChangeSpec) : _root_.Go.OpenSpec := { _root_.Go.OpenSpec.ofChange s with cond := some uptoSmall }

/-- 'laws.FnRingMoveBack', WHERE WHAT IT READS IS OF BULK AT MOST 1048576: true; the input reads as it did. -/
def fnRingMoveBackUptoRow : OpenClaim := { program := "ytclgdlpnjdogbaa", sum := "b2ce40569163611a33666d863c122dfa0c9bcaa6c0cf70b68bf035a1bcb63183", func := "loop.example/lib-g01093/laws.FnRingMoveBack", spec := "fnRingMoveBack", apart := false, narrowed := true }
def FnRingMoveBackUptoSaid : Prop := fnRingMoveBackUptoRow.holds Try.pinned (OpenSpec.upto fnRingMoveBackSpec)

/-- 'laws.FnRingLink', WHERE WHAT IT READS IS OF BULK AT MOST 1048576: true; the input reads as it did. -/
def fnRingLinkUptoRow : OpenClaim := { program := "ytclgdlpnjdogbaa", sum := "b2ce40569163611a33666d863c122dfa0c9bcaa6c0cf70b68bf035a1bcb63183", func := "loop.example/lib-g01093/laws.FnRingLink", spec := "fnRingLink", apart := false, narrowed := true }
def FnRingLinkUptoSaid : Prop := fnRingLinkUptoRow.holds Try.pinned (OpenSpec.upto fnRingLinkSpec)

/-- 'laws.FnRingLinkEmpty', WHERE WHAT IT READS IS OF BULK AT MOST 1048576: true; the input reads as it did. -/
def fnRingLinkEmptyUptoRow : OpenClaim := { program := "ytclgdlpnjdogbaa", sum := "b2ce40569163611a33666d863c122dfa0c9bcaa6c0cf70b68bf035a1bcb63183", func := "loop.example/lib-g01093/laws.FnRingLinkEmpty", spec := "fnRingLinkEmpty", apart := false, narrowed := true }
def FnRingLinkEmptyUptoSaid : Prop := fnRingLinkEmptyUptoRow.holds Try.pinned (OpenSpec.upto fnRingLinkEmptySpec)

/-- 'laws.FnRingLinkTwice', WHERE WHAT IT READS IS OF BULK AT MOST 1048576: true; the input reads as it did. -/
def fnRingLinkTwiceUptoRow : OpenClaim := { program := "ytclgdlpnjdogbaa", sum := "b2ce40569163611a33666d863c122dfa0c9bcaa6c0cf70b68bf035a1bcb63183", func := "loop.example/lib-g01093/laws.FnRingLinkTwice", spec := "fnRingLinkTwice", apart := false, narrowed := true }
def FnRingLinkTwiceUptoSaid : Prop := fnRingLinkTwiceUptoRow.holds Try.pinned (OpenSpec.upto fnRingLinkTwiceSpec)

/-- 'laws.FnRingLinkLen', WHERE WHAT IT READS IS OF BULK AT MOST 1048576: true; the input reads as it did. -/
def fnRingLinkLenUptoRow : OpenClaim := { program := "ytclgdlpnjdogbaa", sum := "b2ce40569163611a33666d863c122dfa0c9bcaa6c0cf70b68bf035a1bcb63183", func := "loop.example/lib-g01093/laws.FnRingLinkLen", spec := "fnRingLinkLen", apart := false, narrowed := true }
def FnRingLinkLenUptoSaid : Prop := fnRingLinkLenUptoRow.holds Try.pinned (OpenSpec.upto fnRingLinkLenSpec)

/-- 'laws.FnRingUnlink', WHERE WHAT IT READS IS OF BULK AT MOST 1048576: true; the input reads as it did. -/
def fnRingUnlinkUptoRow : OpenClaim := { program := "ytclgdlpnjdogbaa", sum := "b2ce40569163611a33666d863c122dfa0c9bcaa6c0cf70b68bf035a1bcb63183", func := "loop.example/lib-g01093/laws.FnRingUnlink", spec := "fnRingUnlink", apart := false, narrowed := true }
def FnRingUnlinkUptoSaid : Prop := fnRingUnlinkUptoRow.holds Try.pinned (OpenSpec.upto fnRingUnlinkSpec)

/-- 'laws.FnRingUnlinkNone', WHERE WHAT IT READS IS OF BULK AT MOST 1048576: true; the input reads as it did. -/
def fnRingUnlinkNoneUptoRow : OpenClaim := { program := "ytclgdlpnjdogbaa", sum := "b2ce40569163611a33666d863c122dfa0c9bcaa6c0cf70b68bf035a1bcb63183", func := "loop.example/lib-g01093/laws.FnRingUnlinkNone", spec := "fnRingUnlinkNone", apart := false, narrowed := true }
def FnRingUnlinkNoneUptoSaid : Prop := fnRingUnlinkNoneUptoRow.holds Try.pinned (OpenSpec.upto fnRingUnlinkNoneSpec)

/-- 'laws.FnRingLinkOrder', WHERE WHAT IT READS IS OF BULK AT MOST 1048576: true; the input reads as it did. -/
def fnRingLinkOrderUptoRow : OpenClaim := { program := "ytclgdlpnjdogbaa", sum := "b2ce40569163611a33666d863c122dfa0c9bcaa6c0cf70b68bf035a1bcb63183", func := "loop.example/lib-g01093/laws.FnRingLinkOrder", spec := "fnRingLinkOrder", unfollowed := true, recurses := true, apart := false, narrowed := true }
def FnRingLinkOrderUptoSaid : Prop := fnRingLinkOrderUptoRow.holds Try.pinned (OpenSpec.upto fnRingLinkOrderSpec)

/-- 'laws.FnRingOthers', WHERE WHAT IT READS IS OF BULK AT MOST 1048576: true; the input reads as it did. -/
def fnRingOthersUptoRow : OpenClaim := { program := "ytclgdlpnjdogbaa", sum := "b2ce40569163611a33666d863c122dfa0c9bcaa6c0cf70b68bf035a1bcb63183", func := "loop.example/lib-g01093/laws.FnRingOthers", spec := "fnRingOthers", apart := false, narrowed := true }
def FnRingOthersUptoSaid : Prop := fnRingOthersUptoRow.holds Try.pinned (OpenSpec.upto fnRingOthersSpec)

/-- 'laws.FnRingUnlinkBack', WHERE WHAT IT READS IS OF BULK AT MOST 1048576: true; the input reads as it did. -/
def fnRingUnlinkBackUptoRow : OpenClaim := { program := "ytclgdlpnjdogbaa", sum := "b2ce40569163611a33666d863c122dfa0c9bcaa6c0cf70b68bf035a1bcb63183", func := "loop.example/lib-g01093/laws.FnRingUnlinkBack", spec := "fnRingUnlinkBack", apart := false, narrowed := true }
def FnRingUnlinkBackUptoSaid : Prop := fnRingUnlinkBackUptoRow.holds Try.pinned (OpenSpec.upto fnRingUnlinkBackSpec)

/-- 'laws.FnRingUnlinkLink', WHERE WHAT IT READS IS OF BULK AT MOST 1048576: true; the input reads as it did. -/
def fnRingUnlinkLinkUptoRow : OpenClaim := { program := "ytclgdlpnjdogbaa", sum := "b2ce40569163611a33666d863c122dfa0c9bcaa6c0cf70b68bf035a1bcb63183", func := "loop.example/lib-g01093/laws.FnRingUnlinkLink", spec := "fnRingUnlinkLink", apart := false, narrowed := true }
def FnRingUnlinkLinkUptoSaid : Prop := fnRingUnlinkLinkUptoRow.holds Try.pinned (OpenSpec.upto fnRingUnlinkLinkSpec)

/-- 'laws.FnRingUnlinkLen', WHERE WHAT IT READS IS OF BULK AT MOST 1048576: true; the input reads as it did. -/
def fnRingUnlinkLenUptoRow : OpenClaim := { program := "ytclgdlpnjdogbaa", sum := "b2ce40569163611a33666d863c122dfa0c9bcaa6c0cf70b68bf035a1bcb63183", func := "loop.example/lib-g01093/laws.FnRingUnlinkLen", spec := "fnRingUnlinkLen", unfollowed := true, recurses := true, apart := false, narrowed := true }
def FnRingUnlinkLenUptoSaid : Prop := fnRingUnlinkLenUptoRow.holds Try.pinned (OpenSpec.upto fnRingUnlinkLenSpec)

end Rows
end Go.Proofs.Ytclgdlpnjdogbaa
