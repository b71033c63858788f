/-
  No cell of these rows narrows 'for every input' (looked for: loops, veiled, ifaces, maps, wideKeys, modest, calm, conditions, laid).
  DERIVED. THE GIVEN ROWS OF THIS SEAT. 11 by the template 'for every input the law returns true; each argument reads behind the call as it read before'; 0 by the template 'total and deterministic' (their statements: YtcijejfekeedlaaTotals.lean).
  GIVEN WITH THE SEED: the statements are not yours to turn. If you find one false, say at which input.
  Laid BY PROGRAM, IN A SANDBOX (cutbox-rows.mjs): the forced cells as the released guide's own fill.sh prints them over the translation 6e16199c5a322fa7… (all of the seat's roots in one cut). By AI agents, Wed Nov 11 2026. No macro, syntax, notation, axiom, sorry.
-/
import Derived.Test.YtcijejfekeedlaaChecked
import GoSem.Claim
import GoSem.ClaimJoined
import GoSem.ClaimMapViews
import Derived.JoinedTies
import Derived.KernelRfl
namespace Go.Proofs.Ytcijejfekeedlaa
/- THE CELL 'sum', in the pinned program and in every row, IS THE sha256 OF THE DUMP (.gsa) THAT YtcijejfekeedlaaProg.lean LOADS. Nothing in Lean hashes anything: it is a label: what it is worth is what the hold of that sum in a sandbox is worth. -/
noncomputable def Try.pinned : Pinned := { name := "ytcijejfekeedlaa", sum := "6e16199c5a322fa7466a19bdb77bffd0f22dcb1154f568f3bc52aea0cf8464d1", checked := Try.checked }
namespace Rows
def none {H : Type} : Left H := { results := [], args := [] }

/-- 'laws.FnField': WHATEVER THE INPUT: true; the input reads as it did. -/
def fnFieldSpec : ChangeSpec := { name := "fnField", fn := fun _ => fun
  | [d1, d2] => { results := [.lit (.bool true)], args := [d1, d2] }
  | _ => none }
def fnFieldRow : OpenClaim := { program := "ytcijejfekeedlaa", sum := "6e16199c5a322fa7466a19bdb77bffd0f22dcb1154f568f3bc52aea0cf8464d1", func := "loop.example/pub-g03340/laws.FnField", spec := "fnField", unfollowed := true, recurses := true, apart := false }
def FnFieldSaid : Prop := fnFieldRow.holds Try.pinned (OpenSpec.ofChange fnFieldSpec)

/-- ITS FALSE NEIGHBOUR: 'it returns false'. Refute it at one input. -/
def fnFieldWrong : ChangeSpec := { name := "fnField", fn := fun _ => fun
  | [d1, d2] => { results := [.lit (.bool false)], args := [d1, d2] }
  | _ => none }
def FnFieldWrongFalsely : Prop := fnFieldRow.holds Try.pinned (OpenSpec.ofChange fnFieldWrong)

/-- 'laws.FnFieldOther': WHATEVER THE INPUT: true; the input reads as it did. -/
def fnFieldOtherSpec : ChangeSpec := { name := "fnFieldOther", fn := fun _ => fun
  | [d1, d2, d3] => { results := [.lit (.bool true)], args := [d1, d2, d3] }
  | _ => none }
def fnFieldOtherRow : OpenClaim := { program := "ytcijejfekeedlaa", sum := "6e16199c5a322fa7466a19bdb77bffd0f22dcb1154f568f3bc52aea0cf8464d1", func := "loop.example/pub-g03340/laws.FnFieldOther", spec := "fnFieldOther", unfollowed := true, recurses := true, apart := false }
def FnFieldOtherSaid : Prop := fnFieldOtherRow.holds Try.pinned (OpenSpec.ofChange fnFieldOtherSpec)

/-- ITS FALSE NEIGHBOUR: 'it returns false'. Refute it at one input. -/
def fnFieldOtherWrong : ChangeSpec := { name := "fnFieldOther", fn := fun _ => fun
  | [d1, d2, d3] => { results := [.lit (.bool false)], args := [d1, d2, d3] }
  | _ => none }
def FnFieldOtherWrongFalsely : Prop := fnFieldOtherRow.holds Try.pinned (OpenSpec.ofChange fnFieldOtherWrong)

/-- 'laws.FnFieldSplit': WHATEVER THE INPUT: true; the input reads as it did. -/
def fnFieldSplitSpec : ChangeSpec := { name := "fnFieldSplit", fn := fun _ => fun
  | [d1, d2, d3] => { results := [.lit (.bool true)], args := [d1, d2, d3] }
  | _ => none }
def fnFieldSplitRow : OpenClaim := { program := "ytcijejfekeedlaa", sum := "6e16199c5a322fa7466a19bdb77bffd0f22dcb1154f568f3bc52aea0cf8464d1", func := "loop.example/pub-g03340/laws.FnFieldSplit", spec := "fnFieldSplit", unfollowed := true, recurses := true, apart := false }
def FnFieldSplitSaid : Prop := fnFieldSplitRow.holds Try.pinned (OpenSpec.ofChange fnFieldSplitSpec)

/-- ITS FALSE NEIGHBOUR: 'it returns false'. Refute it at one input. -/
def fnFieldSplitWrong : ChangeSpec := { name := "fnFieldSplit", fn := fun _ => fun
  | [d1, d2, d3] => { results := [.lit (.bool false)], args := [d1, d2, d3] }
  | _ => none }
def FnFieldSplitWrongFalsely : Prop := fnFieldSplitRow.holds Try.pinned (OpenSpec.ofChange fnFieldSplitWrong)

/-- 'laws.FnFieldsBits': WHATEVER THE INPUT: true; the input reads as it did. -/
def fnFieldsBitsSpec : ChangeSpec := { name := "fnFieldsBits", fn := fun _ => fun
  | [d] => { results := [.lit (.bool true)], args := [d] }
  | _ => none }
def fnFieldsBitsRow : OpenClaim := { program := "ytcijejfekeedlaa", sum := "6e16199c5a322fa7466a19bdb77bffd0f22dcb1154f568f3bc52aea0cf8464d1", func := "loop.example/pub-g03340/laws.FnFieldsBits", spec := "fnFieldsBits", apart := false }
def FnFieldsBitsSaid : Prop := fnFieldsBitsRow.holds Try.pinned (OpenSpec.ofChange fnFieldsBitsSpec)

/-- ITS FALSE NEIGHBOUR: 'it returns false'. Refute it at one input. -/
def fnFieldsBitsWrong : ChangeSpec := { name := "fnFieldsBits", fn := fun _ => fun
  | [d] => { results := [.lit (.bool false)], args := [d] }
  | _ => none }
def FnFieldsBitsWrongFalsely : Prop := fnFieldsBitsRow.holds Try.pinned (OpenSpec.ofChange fnFieldsBitsWrong)

/-- 'laws.FnFieldSigned': WHATEVER THE INPUT: true; the input reads as it did. -/
def fnFieldSignedSpec : ChangeSpec := { name := "fnFieldSigned", fn := fun _ => fun
  | [d1, d2] => { results := [.lit (.bool true)], args := [d1, d2] }
  | _ => none }
def fnFieldSignedRow : OpenClaim := { program := "ytcijejfekeedlaa", sum := "6e16199c5a322fa7466a19bdb77bffd0f22dcb1154f568f3bc52aea0cf8464d1", func := "loop.example/pub-g03340/laws.FnFieldSigned", spec := "fnFieldSigned", unfollowed := true, recurses := true, apart := false }
def FnFieldSignedSaid : Prop := fnFieldSignedRow.holds Try.pinned (OpenSpec.ofChange fnFieldSignedSpec)

/-- ITS FALSE NEIGHBOUR: 'it returns false'. Refute it at one input. -/
def fnFieldSignedWrong : ChangeSpec := { name := "fnFieldSigned", fn := fun _ => fun
  | [d1, d2] => { results := [.lit (.bool false)], args := [d1, d2] }
  | _ => none }
def FnFieldSignedWrongFalsely : Prop := fnFieldSignedRow.holds Try.pinned (OpenSpec.ofChange fnFieldSignedWrong)

/-- 'laws.FnFieldsAppended': WHATEVER THE INPUT: true; the input reads as it did. -/
def fnFieldsAppendedSpec : ChangeSpec := { name := "fnFieldsAppended", fn := fun _ => fun
  | [d1, d2] => { results := [.lit (.bool true)], args := [d1, d2] }
  | _ => none }
def fnFieldsAppendedRow : OpenClaim := { program := "ytcijejfekeedlaa", sum := "6e16199c5a322fa7466a19bdb77bffd0f22dcb1154f568f3bc52aea0cf8464d1", func := "loop.example/pub-g03340/laws.FnFieldsAppended", spec := "fnFieldsAppended", apart := false }
def FnFieldsAppendedSaid : Prop := fnFieldsAppendedRow.holds Try.pinned (OpenSpec.ofChange fnFieldsAppendedSpec)

/-- ITS FALSE NEIGHBOUR: 'it returns false'. Refute it at one input. -/
def fnFieldsAppendedWrong : ChangeSpec := { name := "fnFieldsAppended", fn := fun _ => fun
  | [d1, d2] => { results := [.lit (.bool false)], args := [d1, d2] }
  | _ => none }
def FnFieldsAppendedWrongFalsely : Prop := fnFieldsAppendedRow.holds Try.pinned (OpenSpec.ofChange fnFieldsAppendedWrong)

/-- 'laws.FnFieldBoth': WHATEVER THE INPUT: true; the input reads as it did. -/
def fnFieldBothSpec : ChangeSpec := { name := "fnFieldBoth", fn := fun _ => fun
  | [d1, d2] => { results := [.lit (.bool true)], args := [d1, d2] }
  | _ => none }
def fnFieldBothRow : OpenClaim := { program := "ytcijejfekeedlaa", sum := "6e16199c5a322fa7466a19bdb77bffd0f22dcb1154f568f3bc52aea0cf8464d1", func := "loop.example/pub-g03340/laws.FnFieldBoth", spec := "fnFieldBoth", unfollowed := true, recurses := true, apart := false }
def FnFieldBothSaid : Prop := fnFieldBothRow.holds Try.pinned (OpenSpec.ofChange fnFieldBothSpec)

/-- ITS FALSE NEIGHBOUR: 'it returns false'. Refute it at one input. -/
def fnFieldBothWrong : ChangeSpec := { name := "fnFieldBoth", fn := fun _ => fun
  | [d1, d2] => { results := [.lit (.bool false)], args := [d1, d2] }
  | _ => none }
def FnFieldBothWrongFalsely : Prop := fnFieldBothRow.holds Try.pinned (OpenSpec.ofChange fnFieldBothWrong)

/-- 'laws.FnFields': WHATEVER THE INPUT: true; the input reads as it did. -/
def fnFieldsSpec : ChangeSpec := { name := "fnFields", fn := fun _ => fun
  | [d1, d2] => { results := [.lit (.bool true)], args := [d1, d2] }
  | _ => none }
def fnFieldsRow : OpenClaim := { program := "ytcijejfekeedlaa", sum := "6e16199c5a322fa7466a19bdb77bffd0f22dcb1154f568f3bc52aea0cf8464d1", func := "loop.example/pub-g03340/laws.FnFields", spec := "fnFields", unfollowed := true, recurses := true, apart := false }
def FnFieldsSaid : Prop := fnFieldsRow.holds Try.pinned (OpenSpec.ofChange fnFieldsSpec)

/-- ITS FALSE NEIGHBOUR: 'it returns false'. Refute it at one input. -/
def fnFieldsWrong : ChangeSpec := { name := "fnFields", fn := fun _ => fun
  | [d1, d2] => { results := [.lit (.bool false)], args := [d1, d2] }
  | _ => none }
def FnFieldsWrongFalsely : Prop := fnFieldsRow.holds Try.pinned (OpenSpec.ofChange fnFieldsWrong)

/-- 'laws.FnFieldsSigned': WHATEVER THE INPUT: true; the input reads as it did. -/
def fnFieldsSignedSpec : ChangeSpec := { name := "fnFieldsSigned", fn := fun _ => fun
  | [d1, d2] => { results := [.lit (.bool true)], args := [d1, d2] }
  | _ => none }
def fnFieldsSignedRow : OpenClaim := { program := "ytcijejfekeedlaa", sum := "6e16199c5a322fa7466a19bdb77bffd0f22dcb1154f568f3bc52aea0cf8464d1", func := "loop.example/pub-g03340/laws.FnFieldsSigned", spec := "fnFieldsSigned", unfollowed := true, recurses := true, apart := false }
def FnFieldsSignedSaid : Prop := fnFieldsSignedRow.holds Try.pinned (OpenSpec.ofChange fnFieldsSignedSpec)

/-- ITS FALSE NEIGHBOUR: 'it returns false'. Refute it at one input. -/
def fnFieldsSignedWrong : ChangeSpec := { name := "fnFieldsSigned", fn := fun _ => fun
  | [d1, d2] => { results := [.lit (.bool false)], args := [d1, d2] }
  | _ => none }
def FnFieldsSignedWrongFalsely : Prop := fnFieldsSignedRow.holds Try.pinned (OpenSpec.ofChange fnFieldsSignedWrong)

/-- 'laws.FnFieldsSplit': WHATEVER THE INPUT: true; the input reads as it did. -/
def fnFieldsSplitSpec : ChangeSpec := { name := "fnFieldsSplit", fn := fun _ => fun
  | [d1, d2, d3] => { results := [.lit (.bool true)], args := [d1, d2, d3] }
  | _ => none }
def fnFieldsSplitRow : OpenClaim := { program := "ytcijejfekeedlaa", sum := "6e16199c5a322fa7466a19bdb77bffd0f22dcb1154f568f3bc52aea0cf8464d1", func := "loop.example/pub-g03340/laws.FnFieldsSplit", spec := "fnFieldsSplit", unfollowed := true, recurses := true, apart := false }
def FnFieldsSplitSaid : Prop := fnFieldsSplitRow.holds Try.pinned (OpenSpec.ofChange fnFieldsSplitSpec)

/-- ITS FALSE NEIGHBOUR: 'it returns false'. Refute it at one input. -/
def fnFieldsSplitWrong : ChangeSpec := { name := "fnFieldsSplit", fn := fun _ => fun
  | [d1, d2, d3] => { results := [.lit (.bool false)], args := [d1, d2, d3] }
  | _ => none }
def FnFieldsSplitWrongFalsely : Prop := fnFieldsSplitRow.holds Try.pinned (OpenSpec.ofChange fnFieldsSplitWrong)

/-- 'laws.FnFieldsOne': WHATEVER THE INPUT: true; the input reads as it did. -/
def fnFieldsOneSpec : ChangeSpec := { name := "fnFieldsOne", fn := fun _ => fun
  | [d1, d2] => { results := [.lit (.bool true)], args := [d1, d2] }
  | _ => none }
def fnFieldsOneRow : OpenClaim := { program := "ytcijejfekeedlaa", sum := "6e16199c5a322fa7466a19bdb77bffd0f22dcb1154f568f3bc52aea0cf8464d1", func := "loop.example/pub-g03340/laws.FnFieldsOne", spec := "fnFieldsOne", unfollowed := true, recurses := true, apart := false }
def FnFieldsOneSaid : Prop := fnFieldsOneRow.holds Try.pinned (OpenSpec.ofChange fnFieldsOneSpec)

/-- ITS FALSE NEIGHBOUR: 'it returns false'. Refute it at one input. -/
def fnFieldsOneWrong : ChangeSpec := { name := "fnFieldsOne", fn := fun _ => fun
  | [d1, d2] => { results := [.lit (.bool false)], args := [d1, d2] }
  | _ => none }
def FnFieldsOneWrongFalsely : Prop := fnFieldsOneRow.holds Try.pinned (OpenSpec.ofChange fnFieldsOneWrong)

/- THE SECOND FORM. 'bulk': how many values and letters a reading holds, each counted each time it is reached (what is shared counts as often as it is met; a slice's spare places count too). A statement '..UptoSaid' is the law's where the arguments, and the package variables that the reading takes, are together of bulk at most 1048576: NARROWER than '..Said'. Prove '..Said' where nothing that the law and all that it calls make is longer than what came in: it says more and counts as full. Else prove '..UptoSaid'. A law counts once. -/
mutual
def uptoBulk {H : Type} : DataW H → Nat
  | .lit (.string bytes) => bytes.length + 1
  | .lit _ => 1
  | .nil => 1
  | .ptr d => uptoBulk d + 1
  | .slice elems spare => uptoBulkAll elems + uptoBulkAll spare + 1
  | .agg parts => uptoBulkAll parts + 1
  | .iface _ d => uptoBulk d + 1
  | .map entries => uptoBulkEntries entries + 1
  | .held _ => 1
def uptoBulkAll {H : Type} : List (DataW H) → Nat
  | [] => 0
  | d :: r => uptoBulk d + uptoBulkAll r
def uptoBulkEntries {H : Type} : List (Lit × DataW H) → Nat
  | [] => 0
  | x :: r => uptoBulkEntry x + uptoBulkEntries r
def uptoBulkEntry {H : Type} : Lit × DataW H → Nat
  | (.string bytes, d) => bytes.length + uptoBulk d + 1
  | (_, d) => uptoBulk d + 1
 end
def uptoSmall : (H : Type) → List (DataW H) → Bool := fun _ ds => decide (uptoBulkAll ds ≤ 1048576)
def OpenSpec.upto (s : _root_.Go.ChangeSpec) : _root_.Go.OpenSpec := { _root_.Go.OpenSpec.ofChange s with cond := some uptoSmall }

/-- 'laws.FnField', WHERE WHAT IT READS IS OF BULK AT MOST 1048576: true; the input reads as it did. -/
def fnFieldUptoRow : OpenClaim := { program := "ytcijejfekeedlaa", sum := "6e16199c5a322fa7466a19bdb77bffd0f22dcb1154f568f3bc52aea0cf8464d1", func := "loop.example/pub-g03340/laws.FnField", spec := "fnField", unfollowed := true, recurses := true, apart := false, narrowed := true }
def FnFieldUptoSaid : Prop := fnFieldUptoRow.holds Try.pinned (OpenSpec.upto fnFieldSpec)

/-- 'laws.FnFieldOther', WHERE WHAT IT READS IS OF BULK AT MOST 1048576: true; the input reads as it did. -/
def fnFieldOtherUptoRow : OpenClaim := { program := "ytcijejfekeedlaa", sum := "6e16199c5a322fa7466a19bdb77bffd0f22dcb1154f568f3bc52aea0cf8464d1", func := "loop.example/pub-g03340/laws.FnFieldOther", spec := "fnFieldOther", unfollowed := true, recurses := true, apart := false, narrowed := true }
def FnFieldOtherUptoSaid : Prop := fnFieldOtherUptoRow.holds Try.pinned (OpenSpec.upto fnFieldOtherSpec)

/-- 'laws.FnFieldSplit', WHERE WHAT IT READS IS OF BULK AT MOST 1048576: true; the input reads as it did. -/
def fnFieldSplitUptoRow : OpenClaim := { program := "ytcijejfekeedlaa", sum := "6e16199c5a322fa7466a19bdb77bffd0f22dcb1154f568f3bc52aea0cf8464d1", func := "loop.example/pub-g03340/laws.FnFieldSplit", spec := "fnFieldSplit", unfollowed := true, recurses := true, apart := false, narrowed := true }
def FnFieldSplitUptoSaid : Prop := fnFieldSplitUptoRow.holds Try.pinned (OpenSpec.upto fnFieldSplitSpec)

/-- 'laws.FnFieldsBits', WHERE WHAT IT READS IS OF BULK AT MOST 1048576: true; the input reads as it did. -/
def fnFieldsBitsUptoRow : OpenClaim := { program := "ytcijejfekeedlaa", sum := "6e16199c5a322fa7466a19bdb77bffd0f22dcb1154f568f3bc52aea0cf8464d1", func := "loop.example/pub-g03340/laws.FnFieldsBits", spec := "fnFieldsBits", apart := false, narrowed := true }
def FnFieldsBitsUptoSaid : Prop := fnFieldsBitsUptoRow.holds Try.pinned (OpenSpec.upto fnFieldsBitsSpec)

/-- 'laws.FnFieldSigned', WHERE WHAT IT READS IS OF BULK AT MOST 1048576: true; the input reads as it did. -/
def fnFieldSignedUptoRow : OpenClaim := { program := "ytcijejfekeedlaa", sum := "6e16199c5a322fa7466a19bdb77bffd0f22dcb1154f568f3bc52aea0cf8464d1", func := "loop.example/pub-g03340/laws.FnFieldSigned", spec := "fnFieldSigned", unfollowed := true, recurses := true, apart := false, narrowed := true }
def FnFieldSignedUptoSaid : Prop := fnFieldSignedUptoRow.holds Try.pinned (OpenSpec.upto fnFieldSignedSpec)

/-- 'laws.FnFieldsAppended', WHERE WHAT IT READS IS OF BULK AT MOST 1048576: true; the input reads as it did. -/
def fnFieldsAppendedUptoRow : OpenClaim := { program := "ytcijejfekeedlaa", sum := "6e16199c5a322fa7466a19bdb77bffd0f22dcb1154f568f3bc52aea0cf8464d1", func := "loop.example/pub-g03340/laws.FnFieldsAppended", spec := "fnFieldsAppended", apart := false, narrowed := true }
def FnFieldsAppendedUptoSaid : Prop := fnFieldsAppendedUptoRow.holds Try.pinned (OpenSpec.upto fnFieldsAppendedSpec)

/-- 'laws.FnFieldBoth', WHERE WHAT IT READS IS OF BULK AT MOST 1048576: true; the input reads as it did. -/
def fnFieldBothUptoRow : OpenClaim := { program := "ytcijejfekeedlaa", sum := "6e16199c5a322fa7466a19bdb77bffd0f22dcb1154f568f3bc52aea0cf8464d1", func := "loop.example/pub-g03340/laws.FnFieldBoth", spec := "fnFieldBoth", unfollowed := true, recurses := true, apart := false, narrowed := true }
def FnFieldBothUptoSaid : Prop := fnFieldBothUptoRow.holds Try.pinned (OpenSpec.upto fnFieldBothSpec)

/-- 'laws.FnFields', WHERE WHAT IT READS IS OF BULK AT MOST 1048576: true; the input reads as it did. -/
def fnFieldsUptoRow : OpenClaim := { program := "ytcijejfekeedlaa", sum := "6e16199c5a322fa7466a19bdb77bffd0f22dcb1154f568f3bc52aea0cf8464d1", func := "loop.example/pub-g03340/laws.FnFields", spec := "fnFields", unfollowed := true, recurses := true, apart := false, narrowed := true }
def FnFieldsUptoSaid : Prop := fnFieldsUptoRow.holds Try.pinned (OpenSpec.upto fnFieldsSpec)

/-- 'laws.FnFieldsSigned', WHERE WHAT IT READS IS OF BULK AT MOST 1048576: true; the input reads as it did. -/
def fnFieldsSignedUptoRow : OpenClaim := { program := "ytcijejfekeedlaa", sum := "6e16199c5a322fa7466a19bdb77bffd0f22dcb1154f568f3bc52aea0cf8464d1", func := "loop.example/pub-g03340/laws.FnFieldsSigned", spec := "fnFieldsSigned", unfollowed := true, recurses := true, apart := false, narrowed := true }
def FnFieldsSignedUptoSaid : Prop := fnFieldsSignedUptoRow.holds Try.pinned (OpenSpec.upto fnFieldsSignedSpec)

/-- 'laws.FnFieldsSplit', WHERE WHAT IT READS IS OF BULK AT MOST 1048576: true; the input reads as it did. -/
def fnFieldsSplitUptoRow : OpenClaim := { program := "ytcijejfekeedlaa", sum := "6e16199c5a322fa7466a19bdb77bffd0f22dcb1154f568f3bc52aea0cf8464d1", func := "loop.example/pub-g03340/laws.FnFieldsSplit", spec := "fnFieldsSplit", unfollowed := true, recurses := true, apart := false, narrowed := true }
def FnFieldsSplitUptoSaid : Prop := fnFieldsSplitUptoRow.holds Try.pinned (OpenSpec.upto fnFieldsSplitSpec)

/-- 'laws.FnFieldsOne', WHERE WHAT IT READS IS OF BULK AT MOST 1048576: true; the input reads as it did. -/
def fnFieldsOneUptoRow : OpenClaim := { program := "ytcijejfekeedlaa", sum := "6e16199c5a322fa7466a19bdb77bffd0f22dcb1154f568f3bc52aea0cf8464d1", func := "loop.example/pub-g03340/laws.FnFieldsOne", spec := "fnFieldsOne", unfollowed := true, recurses := true, apart := false, narrowed := true }
def FnFieldsOneUptoSaid : Prop := fnFieldsOneUptoRow.holds Try.pinned (OpenSpec.upto fnFieldsOneSpec)

end Rows
end Go.Proofs.Ytcijejfekeedlaa
