/-
  No cell of these rows narrows 'for every input' (looked for: loops, veiled, ifaces, maps, wideKeys, modest, calm, conditions, laid).
  DERIVED. THE GIVEN ROWS OF THIS SEAT. 12 by the template 'for every input the law returns true; each argument reads behind the call as it read before'; 0 by the template 'total and deterministic' (their statements: YtmgkolcpomaceaaTotals.lean).
  GIVEN WITH THE SEED: the statements are not yours to turn. If you find one false, say at which input.
  Laid BY PROGRAM, IN A SANDBOX (cutbox-rows.mjs): the forced cells as the released guide's own fill.sh prints them over the translation f6a5709119320a88… (all of the seat's roots in one cut). By AI agents, Wed Nov 11 2026. No macro, syntax, notation, axiom, sorry.
-/
import Derived.Test.YtmgkolcpomaceaaChecked
import GoSem.Claim
import GoSem.ClaimJoined
import GoSem.ClaimMapViews
import Derived.JoinedTies
import Derived.KernelRfl
namespace Go.Proofs.Ytmgkolcpomaceaa
/- THE CELL 'sum', in the pinned program and in every row, IS THE sha256 OF THE DUMP (.gsa) THAT YtmgkolcpomaceaaProg.lean LOADS. Nothing in Lean hashes anything: it is a label: what it is worth is what the hold of that sum in a sandbox is worth. -/
noncomputable def Try.pinned : Pinned := { name := "ytmgkolcpomaceaa", sum := "f6a5709119320a88c8b4c02481da5c0fc94756cf7a84a84b76d31bad451ce6cc", checked := Try.checked }
namespace Rows
def none {H : Type} : Left H := { results := [], args := [] }

/-- 'laws.FnConstant': WHATEVER THE INPUT: true; the input reads as it did. -/
def fnConstantSpec : ChangeSpec := { name := "fnConstant", fn := fun _ => fun
  | [d1, d2] => { results := [.lit (.bool true)], args := [d1, d2] }
  | _ => none }
def fnConstantRow : OpenClaim := { program := "ytmgkolcpomaceaa", sum := "f6a5709119320a88c8b4c02481da5c0fc94756cf7a84a84b76d31bad451ce6cc", func := "loop.example/pub-g03157/laws.FnConstant", spec := "fnConstant", unfollowed := true, recurses := true, apart := false }
def FnConstantSaid : Prop := fnConstantRow.holds Try.pinned (OpenSpec.ofChange fnConstantSpec)

/-- ITS FALSE NEIGHBOUR: 'it returns false'. Refute it at one input. -/
def fnConstantWrong : ChangeSpec := { name := "fnConstant", fn := fun _ => fun
  | [d1, d2] => { results := [.lit (.bool false)], args := [d1, d2] }
  | _ => none }
def FnConstantWrongFalsely : Prop := fnConstantRow.holds Try.pinned (OpenSpec.ofChange fnConstantWrong)

/-- 'laws.FnEscaped': WHATEVER THE INPUT: true; the input reads as it did. -/
def fnEscapedSpec : ChangeSpec := { name := "fnEscaped", fn := fun _ => fun
  | [d] => { results := [.lit (.bool true)], args := [d] }
  | _ => none }
def fnEscapedRow : OpenClaim := { program := "ytmgkolcpomaceaa", sum := "f6a5709119320a88c8b4c02481da5c0fc94756cf7a84a84b76d31bad451ce6cc", func := "loop.example/pub-g03157/laws.FnEscaped", spec := "fnEscaped", apart := false }
def FnEscapedSaid : Prop := fnEscapedRow.holds Try.pinned (OpenSpec.ofChange fnEscapedSpec)

/-- ITS FALSE NEIGHBOUR: 'it returns false'. Refute it at one input. -/
def fnEscapedWrong : ChangeSpec := { name := "fnEscaped", fn := fun _ => fun
  | [d] => { results := [.lit (.bool false)], args := [d] }
  | _ => none }
def FnEscapedWrongFalsely : Prop := fnEscapedRow.holds Try.pinned (OpenSpec.ofChange fnEscapedWrong)

/-- 'laws.FnHarmless': WHATEVER THE INPUT: true; the input reads as it did. -/
def fnHarmlessSpec : ChangeSpec := { name := "fnHarmless", fn := fun _ => fun
  | [d] => { results := [.lit (.bool true)], args := [d] }
  | _ => none }
def fnHarmlessRow : OpenClaim := { program := "ytmgkolcpomaceaa", sum := "f6a5709119320a88c8b4c02481da5c0fc94756cf7a84a84b76d31bad451ce6cc", func := "loop.example/pub-g03157/laws.FnHarmless", spec := "fnHarmless", unfollowed := true, recurses := true, apart := false }
def FnHarmlessSaid : Prop := fnHarmlessRow.holds Try.pinned (OpenSpec.ofChange fnHarmlessSpec)

/-- ITS FALSE NEIGHBOUR: 'it returns false'. Refute it at one input. -/
def fnHarmlessWrong : ChangeSpec := { name := "fnHarmless", fn := fun _ => fun
  | [d] => { results := [.lit (.bool false)], args := [d] }
  | _ => none }
def FnHarmlessWrongFalsely : Prop := fnHarmlessRow.holds Try.pinned (OpenSpec.ofChange fnHarmlessWrong)

/-- 'laws.FnURL': WHATEVER THE INPUT: true; the input reads as it did. -/
def fnURLSpec : ChangeSpec := { name := "fnURL", fn := fun _ => fun
  | [d] => { results := [.lit (.bool true)], args := [d] }
  | _ => none }
def fnURLRow : OpenClaim := { program := "ytmgkolcpomaceaa", sum := "f6a5709119320a88c8b4c02481da5c0fc94756cf7a84a84b76d31bad451ce6cc", func := "loop.example/pub-g03157/laws.FnURL", spec := "fnURL", unfollowed := true, recurses := true, apart := false }
def FnURLSaid : Prop := fnURLRow.holds Try.pinned (OpenSpec.ofChange fnURLSpec)

/-- ITS FALSE NEIGHBOUR: 'it returns false'. Refute it at one input. -/
def fnURLWrong : ChangeSpec := { name := "fnURL", fn := fun _ => fun
  | [d] => { results := [.lit (.bool false)], args := [d] }
  | _ => none }
def FnURLWrongFalsely : Prop := fnURLRow.holds Try.pinned (OpenSpec.ofChange fnURLWrong)

/-- 'laws.FnIdentifier': WHATEVER THE INPUT: true; the input reads as it did. -/
def fnIdentifierSpec : ChangeSpec := { name := "fnIdentifier", fn := fun _ => fun
  | [d] => { results := [.lit (.bool true)], args := [d] }
  | _ => none }
def fnIdentifierRow : OpenClaim := { program := "ytmgkolcpomaceaa", sum := "f6a5709119320a88c8b4c02481da5c0fc94756cf7a84a84b76d31bad451ce6cc", func := "loop.example/pub-g03157/laws.FnIdentifier", spec := "fnIdentifier", unfollowed := true, recurses := true, apart := false }
def FnIdentifierSaid : Prop := fnIdentifierRow.holds Try.pinned (OpenSpec.ofChange fnIdentifierSpec)

/-- ITS FALSE NEIGHBOUR: 'it returns false'. Refute it at one input. -/
def fnIdentifierWrong : ChangeSpec := { name := "fnIdentifier", fn := fun _ => fun
  | [d] => { results := [.lit (.bool false)], args := [d] }
  | _ => none }
def FnIdentifierWrongFalsely : Prop := fnIdentifierRow.holds Try.pinned (OpenSpec.ofChange fnIdentifierWrong)

/-- 'laws.FnPrefixed': WHATEVER THE INPUT: true; the input reads as it did. -/
def fnPrefixedSpec : ChangeSpec := { name := "fnPrefixed", fn := fun _ => fun
  | [d1, d2] => { results := [.lit (.bool true)], args := [d1, d2] }
  | _ => none }
def fnPrefixedRow : OpenClaim := { program := "ytmgkolcpomaceaa", sum := "f6a5709119320a88c8b4c02481da5c0fc94756cf7a84a84b76d31bad451ce6cc", func := "loop.example/pub-g03157/laws.FnPrefixed", spec := "fnPrefixed", unfollowed := true, recurses := true, apart := false }
def FnPrefixedSaid : Prop := fnPrefixedRow.holds Try.pinned (OpenSpec.ofChange fnPrefixedSpec)

/-- ITS FALSE NEIGHBOUR: 'it returns false'. Refute it at one input. -/
def fnPrefixedWrong : ChangeSpec := { name := "fnPrefixed", fn := fun _ => fun
  | [d1, d2] => { results := [.lit (.bool false)], args := [d1, d2] }
  | _ => none }
def FnPrefixedWrongFalsely : Prop := fnPrefixedRow.holds Try.pinned (OpenSpec.ofChange fnPrefixedWrong)

/-- 'laws.FnConcat': WHATEVER THE INPUT: true; the input reads as it did. -/
def fnConcatSpec : ChangeSpec := { name := "fnConcat", fn := fun _ => fun
  | [d] => { results := [.lit (.bool true)], args := [d] }
  | _ => none }
def fnConcatRow : OpenClaim := { program := "ytmgkolcpomaceaa", sum := "f6a5709119320a88c8b4c02481da5c0fc94756cf7a84a84b76d31bad451ce6cc", func := "loop.example/pub-g03157/laws.FnConcat", spec := "fnConcat", unfollowed := true, recurses := true, apart := false }
def FnConcatSaid : Prop := fnConcatRow.holds Try.pinned (OpenSpec.ofChange fnConcatSpec)

/-- ITS FALSE NEIGHBOUR: 'it returns false'. Refute it at one input. -/
def fnConcatWrong : ChangeSpec := { name := "fnConcat", fn := fun _ => fun
  | [d] => { results := [.lit (.bool false)], args := [d] }
  | _ => none }
def FnConcatWrongFalsely : Prop := fnConcatRow.holds Try.pinned (OpenSpec.ofChange fnConcatWrong)

/-- 'laws.FnAppend': WHATEVER THE INPUT: true; the input reads as it did. -/
def fnAppendSpec : ChangeSpec := { name := "fnAppend", fn := fun _ => fun
  | [d1, d2] => { results := [.lit (.bool true)], args := [d1, d2] }
  | _ => none }
def fnAppendRow : OpenClaim := { program := "ytmgkolcpomaceaa", sum := "f6a5709119320a88c8b4c02481da5c0fc94756cf7a84a84b76d31bad451ce6cc", func := "loop.example/pub-g03157/laws.FnAppend", spec := "fnAppend", unfollowed := true, recurses := true, apart := false }
def FnAppendSaid : Prop := fnAppendRow.holds Try.pinned (OpenSpec.ofChange fnAppendSpec)

/-- ITS FALSE NEIGHBOUR: 'it returns false'. Refute it at one input. -/
def fnAppendWrong : ChangeSpec := { name := "fnAppend", fn := fun _ => fun
  | [d1, d2] => { results := [.lit (.bool false)], args := [d1, d2] }
  | _ => none }
def FnAppendWrongFalsely : Prop := fnAppendRow.holds Try.pinned (OpenSpec.ofChange fnAppendWrong)

/-- 'laws.FnFormat': WHATEVER THE INPUT: true; the input reads as it did. -/
def fnFormatSpec : ChangeSpec := { name := "fnFormat", fn := fun _ => fun
  | [d1, d2] => { results := [.lit (.bool true)], args := [d1, d2] }
  | _ => none }
def fnFormatRow : OpenClaim := { program := "ytmgkolcpomaceaa", sum := "f6a5709119320a88c8b4c02481da5c0fc94756cf7a84a84b76d31bad451ce6cc", func := "loop.example/pub-g03157/laws.FnFormat", spec := "fnFormat", unfollowed := true, recurses := true, apart := false }
def FnFormatSaid : Prop := fnFormatRow.holds Try.pinned (OpenSpec.ofChange fnFormatSpec)

/-- ITS FALSE NEIGHBOUR: 'it returns false'. Refute it at one input. -/
def fnFormatWrong : ChangeSpec := { name := "fnFormat", fn := fun _ => fun
  | [d1, d2] => { results := [.lit (.bool false)], args := [d1, d2] }
  | _ => none }
def FnFormatWrongFalsely : Prop := fnFormatRow.holds Try.pinned (OpenSpec.ofChange fnFormatWrong)

/-- 'laws.FnEnds': WHATEVER THE INPUT: true; the input reads as it did. -/
def fnEndsSpec : ChangeSpec := { name := "fnEnds", fn := fun _ => fun
  | [d] => { results := [.lit (.bool true)], args := [d] }
  | _ => none }
def fnEndsRow : OpenClaim := { program := "ytmgkolcpomaceaa", sum := "f6a5709119320a88c8b4c02481da5c0fc94756cf7a84a84b76d31bad451ce6cc", func := "loop.example/pub-g03157/laws.FnEnds", spec := "fnEnds", unfollowed := true, recurses := true, apart := false }
def FnEndsSaid : Prop := fnEndsRow.holds Try.pinned (OpenSpec.ofChange fnEndsSpec)

/-- ITS FALSE NEIGHBOUR: 'it returns false'. Refute it at one input. -/
def fnEndsWrong : ChangeSpec := { name := "fnEnds", fn := fun _ => fun
  | [d] => { results := [.lit (.bool false)], args := [d] }
  | _ => none }
def FnEndsWrongFalsely : Prop := fnEndsRow.holds Try.pinned (OpenSpec.ofChange fnEndsWrong)

/-- 'laws.FnStyle': WHATEVER THE INPUT: true; the input reads as it did. -/
def fnStyleSpec : ChangeSpec := { name := "fnStyle", fn := fun _ => fun
  | [d] => { results := [.lit (.bool true)], args := [d] }
  | _ => none }
def fnStyleRow : OpenClaim := { program := "ytmgkolcpomaceaa", sum := "f6a5709119320a88c8b4c02481da5c0fc94756cf7a84a84b76d31bad451ce6cc", func := "loop.example/pub-g03157/laws.FnStyle", spec := "fnStyle", unfollowed := true, recurses := true, apart := false }
def FnStyleSaid : Prop := fnStyleRow.holds Try.pinned (OpenSpec.ofChange fnStyleSpec)

/-- ITS FALSE NEIGHBOUR: 'it returns false'. Refute it at one input. -/
def fnStyleWrong : ChangeSpec := { name := "fnStyle", fn := fun _ => fun
  | [d] => { results := [.lit (.bool false)], args := [d] }
  | _ => none }
def FnStyleWrongFalsely : Prop := fnStyleRow.holds Try.pinned (OpenSpec.ofChange fnStyleWrong)

/-- 'laws.FnRule': WHATEVER THE INPUT: true; the input reads as it did. -/
def fnRuleSpec : ChangeSpec := { name := "fnRule", fn := fun _ => fun
  | [d1, d2] => { results := [.lit (.bool true)], args := [d1, d2] }
  | _ => none }
def fnRuleRow : OpenClaim := { program := "ytmgkolcpomaceaa", sum := "f6a5709119320a88c8b4c02481da5c0fc94756cf7a84a84b76d31bad451ce6cc", func := "loop.example/pub-g03157/laws.FnRule", spec := "fnRule", unfollowed := true, recurses := true, apart := false }
def FnRuleSaid : Prop := fnRuleRow.holds Try.pinned (OpenSpec.ofChange fnRuleSpec)

/-- ITS FALSE NEIGHBOUR: 'it returns false'. Refute it at one input. -/
def fnRuleWrong : ChangeSpec := { name := "fnRule", fn := fun _ => fun
  | [d1, d2] => { results := [.lit (.bool false)], args := [d1, d2] }
  | _ => none }
def FnRuleWrongFalsely : Prop := fnRuleRow.holds Try.pinned (OpenSpec.ofChange fnRuleWrong)

/- THE SECOND FORM. 'bulk': how many values and letters a reading holds, each counted each time it is reached (what is shared counts as often as it is met; a slice's spare places count too). A statement '..UptoSaid' is the law's where the arguments, and the package variables that the reading takes, are together of bulk at most 1048576: NARROWER than '..Said'. Prove '..Said' where nothing that the law and all that it calls make is longer than what came in: it says more and counts as full. Else prove '..UptoSaid'. A law counts once. -/
mutual
def uptoBulk {H : Type} : DataW H → Nat
  | .lit (.string bytes) => bytes.length + 1
  | .lit _ => 1
  | .nil => 1
  | .ptr d => uptoBulk d + 1
  | .slice elems spare => uptoBulkAll elems + uptoBulkAll spare + 1
  | .agg parts => uptoBulkAll parts + 1
  | .iface _ d => uptoBulk d + 1
  | .map entries => uptoBulkEntries entries + 1
  | .held _ => 1
def uptoBulkAll {H : Type} : List (DataW H) → Nat
  | [] => 0
  | d :: r => uptoBulk d + uptoBulkAll r
def uptoBulkEntries {H : Type} : List (Lit × DataW H) → Nat
  | [] => 0
  | x :: r => uptoBulkEntry x + uptoBulkEntries r
def uptoBulkEntry {H : Type} : Lit × DataW H → Nat
  | (.string bytes, d) => bytes.length + uptoBulk d + 1
  | (_, d) => uptoBulk d + 1
 end
def uptoSmall : (H : Type) → List (DataW H) → Bool := fun _ ds => decide (uptoBulkAll ds ≤ 1048576)
def OpenSpec.upto (s : _root_.Go.ChangeSpec) : _root_.Go.OpenSpec := { _root_.Go.OpenSpec.ofChange s with cond := some uptoSmall }

/-- 'laws.FnConstant', WHERE WHAT IT READS IS OF BULK AT MOST 1048576: true; the input reads as it did. -/
def fnConstantUptoRow : OpenClaim := { program := "ytmgkolcpomaceaa", sum := "f6a5709119320a88c8b4c02481da5c0fc94756cf7a84a84b76d31bad451ce6cc", func := "loop.example/pub-g03157/laws.FnConstant", spec := "fnConstant", unfollowed := true, recurses := true, apart := false, narrowed := true }
def FnConstantUptoSaid : Prop := fnConstantUptoRow.holds Try.pinned (OpenSpec.upto fnConstantSpec)

/-- 'laws.FnEscaped', WHERE WHAT IT READS IS OF BULK AT MOST 1048576: true; the input reads as it did. -/
def fnEscapedUptoRow : OpenClaim := { program := "ytmgkolcpomaceaa", sum := "f6a5709119320a88c8b4c02481da5c0fc94756cf7a84a84b76d31bad451ce6cc", func := "loop.example/pub-g03157/laws.FnEscaped", spec := "fnEscaped", apart := false, narrowed := true }
def FnEscapedUptoSaid : Prop := fnEscapedUptoRow.holds Try.pinned (OpenSpec.upto fnEscapedSpec)

/-- 'laws.FnHarmless', WHERE WHAT IT READS IS OF BULK AT MOST 1048576: true; the input reads as it did. -/
def fnHarmlessUptoRow : OpenClaim := { program := "ytmgkolcpomaceaa", sum := "f6a5709119320a88c8b4c02481da5c0fc94756cf7a84a84b76d31bad451ce6cc", func := "loop.example/pub-g03157/laws.FnHarmless", spec := "fnHarmless", unfollowed := true, recurses := true, apart := false, narrowed := true }
def FnHarmlessUptoSaid : Prop := fnHarmlessUptoRow.holds Try.pinned (OpenSpec.upto fnHarmlessSpec)

/-- 'laws.FnURL', WHERE WHAT IT READS IS OF BULK AT MOST 1048576: true; the input reads as it did. -/
def fnURLUptoRow : OpenClaim := { program := "ytmgkolcpomaceaa", sum := "f6a5709119320a88c8b4c02481da5c0fc94756cf7a84a84b76d31bad451ce6cc", func := "loop.example/pub-g03157/laws.FnURL", spec := "fnURL", unfollowed := true, recurses := true, apart := false, narrowed := true }
def FnURLUptoSaid : Prop := fnURLUptoRow.holds Try.pinned (OpenSpec.upto fnURLSpec)

/-- 'laws.FnIdentifier', WHERE WHAT IT READS IS OF BULK AT MOST 1048576: true; the input reads as it did. -/
def fnIdentifierUptoRow : OpenClaim := { program := "ytmgkolcpomaceaa", sum := "f6a5709119320a88c8b4c02481da5c0fc94756cf7a84a84b76d31bad451ce6cc", func := "loop.example/pub-g03157/laws.FnIdentifier", spec := "fnIdentifier", unfollowed := true, recurses := true, apart := false, narrowed := true }
def FnIdentifierUptoSaid : Prop := fnIdentifierUptoRow.holds Try.pinned (OpenSpec.upto fnIdentifierSpec)

/-- 'laws.FnPrefixed', WHERE WHAT IT READS IS OF BULK AT MOST 1048576: true; the input reads as it did. -/
def fnPrefixedUptoRow : OpenClaim := { program := "ytmgkolcpomaceaa", sum := "f6a5709119320a88c8b4c02481da5c0fc94756cf7a84a84b76d31bad451ce6cc", func := "loop.example/pub-g03157/laws.FnPrefixed", spec := "fnPrefixed", unfollowed := true, recurses := true, apart := false, narrowed := true }
def FnPrefixedUptoSaid : Prop := fnPrefixedUptoRow.holds Try.pinned (OpenSpec.upto fnPrefixedSpec)

/-- 'laws.FnConcat', WHERE WHAT IT READS IS OF BULK AT MOST 1048576: true; the input reads as it did. -/
def fnConcatUptoRow : OpenClaim := { program := "ytmgkolcpomaceaa", sum := "f6a5709119320a88c8b4c02481da5c0fc94756cf7a84a84b76d31bad451ce6cc", func := "loop.example/pub-g03157/laws.FnConcat", spec := "fnConcat", unfollowed := true, recurses := true, apart := false, narrowed := true }
def FnConcatUptoSaid : Prop := fnConcatUptoRow.holds Try.pinned (OpenSpec.upto fnConcatSpec)

/-- 'laws.FnAppend', WHERE WHAT IT READS IS OF BULK AT MOST 1048576: true; the input reads as it did. -/
def fnAppendUptoRow : OpenClaim := { program := "ytmgkolcpomaceaa", sum := "f6a5709119320a88c8b4c02481da5c0fc94756cf7a84a84b76d31bad451ce6cc", func := "loop.example/pub-g03157/laws.FnAppend", spec := "fnAppend", unfollowed := true, recurses := true, apart := false, narrowed := true }
def FnAppendUptoSaid : Prop := fnAppendUptoRow.holds Try.pinned (OpenSpec.upto fnAppendSpec)

/-- 'laws.FnFormat', WHERE WHAT IT READS IS OF BULK AT MOST 1048576: true; the input reads as it did. -/
def fnFormatUptoRow : OpenClaim := { program := "ytmgkolcpomaceaa", sum := "f6a5709119320a88c8b4c02481da5c0fc94756cf7a84a84b76d31bad451ce6cc", func := "loop.example/pub-g03157/laws.FnFormat", spec := "fnFormat", unfollowed := true, recurses := true, apart := false, narrowed := true }
def FnFormatUptoSaid : Prop := fnFormatUptoRow.holds Try.pinned (OpenSpec.upto fnFormatSpec)

/-- 'laws.FnEnds', WHERE WHAT IT READS IS OF BULK AT MOST 1048576: true; the input reads as it did. -/
def fnEndsUptoRow : OpenClaim := { program := "ytmgkolcpomaceaa", sum := "f6a5709119320a88c8b4c02481da5c0fc94756cf7a84a84b76d31bad451ce6cc", func := "loop.example/pub-g03157/laws.FnEnds", spec := "fnEnds", unfollowed := true, recurses := true, apart := false, narrowed := true }
def FnEndsUptoSaid : Prop := fnEndsUptoRow.holds Try.pinned (OpenSpec.upto fnEndsSpec)

/-- 'laws.FnStyle', WHERE WHAT IT READS IS OF BULK AT MOST 1048576: true; the input reads as it did. -/
def fnStyleUptoRow : OpenClaim := { program := "ytmgkolcpomaceaa", sum := "f6a5709119320a88c8b4c02481da5c0fc94756cf7a84a84b76d31bad451ce6cc", func := "loop.example/pub-g03157/laws.FnStyle", spec := "fnStyle", unfollowed := true, recurses := true, apart := false, narrowed := true }
def FnStyleUptoSaid : Prop := fnStyleUptoRow.holds Try.pinned (OpenSpec.upto fnStyleSpec)

/-- 'laws.FnRule', WHERE WHAT IT READS IS OF BULK AT MOST 1048576: true; the input reads as it did. -/
def fnRuleUptoRow : OpenClaim := { program := "ytmgkolcpomaceaa", sum := "f6a5709119320a88c8b4c02481da5c0fc94756cf7a84a84b76d31bad451ce6cc", func := "loop.example/pub-g03157/laws.FnRule", spec := "fnRule", unfollowed := true, recurses := true, apart := false, narrowed := true }
def FnRuleUptoSaid : Prop := fnRuleUptoRow.holds Try.pinned (OpenSpec.upto fnRuleSpec)

end Rows
end Go.Proofs.Ytmgkolcpomaceaa
