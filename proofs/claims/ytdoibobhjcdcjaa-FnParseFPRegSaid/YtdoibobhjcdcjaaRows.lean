/-
  No cell of these rows narrows 'for every input' (looked for: loops, veiled, ifaces, maps, wideKeys, modest, calm, conditions, laid).
  DERIVED. THE GIVEN ROWS OF THIS SEAT. 15 by the template 'for every input the law returns true; each argument reads behind the call as it read before'; 0 by the template 'total and deterministic' (their statements: YtdoibobhjcdcjaaTotals.lean).
  GIVEN WITH THE SEED: the statements are not yours to turn. If you find one false, say at which input.
  Laid BY PROGRAM, IN A SANDBOX (cutbox-rows.mjs): the forced cells as the released guide's own fill.sh prints them over the translation a1b8c551a31685b5… (all of the seat's roots in one cut). By AI agents, Wed Nov 11 2026. No macro, syntax, notation, axiom, sorry.
-/
import Derived.Test.YtdoibobhjcdcjaaChecked
import GoSem.Claim
import GoSem.ClaimJoined
import GoSem.ClaimMapViews
import Derived.JoinedTies
import Derived.KernelRfl
namespace Go.Proofs.Ytdoibobhjcdcjaa
/- THE CELL 'sum', in the pinned program and in every row, IS THE sha256 OF THE DUMP (.gsa) THAT YtdoibobhjcdcjaaProg.lean LOADS. Nothing in Lean hashes anything: it is a label: what it is worth is what the hold of that sum in a sandbox is worth. -/
noncomputable def Try.pinned : Pinned := { name := "ytdoibobhjcdcjaa", sum := "a1b8c551a31685b5bbb070808920a280e3760f42e2c51ce6bf9e35a2e54e651b", checked := Try.checked }
namespace Rows
def none {H : Type} : Left H := { results := [], args := [] }

/-- 'laws.FnParseCondRegBit': WHATEVER THE INPUT: true; the input reads as it did. -/
def fnParseCondRegBitSpec : ChangeSpec := { name := "fnParseCondRegBit", fn := fun _ => fun
  | [d1, d2] => { results := [.lit (.bool true)], args := [d1, d2] }
  | _ => none }
def fnParseCondRegBitRow : OpenClaim := { program := "ytdoibobhjcdcjaa", sum := "a1b8c551a31685b5bbb070808920a280e3760f42e2c51ce6bf9e35a2e54e651b", func := "loop.example/pub-g03340/laws.FnParseCondRegBit", spec := "fnParseCondRegBit", unfollowed := true, recurses := true, apart := false }
def FnParseCondRegBitSaid : Prop := fnParseCondRegBitRow.holds Try.pinned (OpenSpec.ofChange fnParseCondRegBitSpec)

/-- ITS FALSE NEIGHBOUR: 'it returns false'. Refute it at one input. -/
def fnParseCondRegBitWrong : ChangeSpec := { name := "fnParseCondRegBit", fn := fun _ => fun
  | [d1, d2] => { results := [.lit (.bool false)], args := [d1, d2] }
  | _ => none }
def FnParseCondRegBitWrongFalsely : Prop := fnParseCondRegBitRow.holds Try.pinned (OpenSpec.ofChange fnParseCondRegBitWrong)

/-- 'laws.FnParseCondRegField': WHATEVER THE INPUT: true; the input reads as it did. -/
def fnParseCondRegFieldSpec : ChangeSpec := { name := "fnParseCondRegField", fn := fun _ => fun
  | [d1, d2] => { results := [.lit (.bool true)], args := [d1, d2] }
  | _ => none }
def fnParseCondRegFieldRow : OpenClaim := { program := "ytdoibobhjcdcjaa", sum := "a1b8c551a31685b5bbb070808920a280e3760f42e2c51ce6bf9e35a2e54e651b", func := "loop.example/pub-g03340/laws.FnParseCondRegField", spec := "fnParseCondRegField", unfollowed := true, recurses := true, apart := false }
def FnParseCondRegFieldSaid : Prop := fnParseCondRegFieldRow.holds Try.pinned (OpenSpec.ofChange fnParseCondRegFieldSpec)

/-- ITS FALSE NEIGHBOUR: 'it returns false'. Refute it at one input. -/
def fnParseCondRegFieldWrong : ChangeSpec := { name := "fnParseCondRegField", fn := fun _ => fun
  | [d1, d2] => { results := [.lit (.bool false)], args := [d1, d2] }
  | _ => none }
def FnParseCondRegFieldWrongFalsely : Prop := fnParseCondRegFieldRow.holds Try.pinned (OpenSpec.ofChange fnParseCondRegFieldWrong)

/-- 'laws.FnParseFPReg': WHATEVER THE INPUT: true; the input reads as it did. -/
def fnParseFPRegSpec : ChangeSpec := { name := "fnParseFPReg", fn := fun _ => fun
  | [d1, d2] => { results := [.lit (.bool true)], args := [d1, d2] }
  | _ => none }
def fnParseFPRegRow : OpenClaim := { program := "ytdoibobhjcdcjaa", sum := "a1b8c551a31685b5bbb070808920a280e3760f42e2c51ce6bf9e35a2e54e651b", func := "loop.example/pub-g03340/laws.FnParseFPReg", spec := "fnParseFPReg", unfollowed := true, recurses := true, apart := false }
def FnParseFPRegSaid : Prop := fnParseFPRegRow.holds Try.pinned (OpenSpec.ofChange fnParseFPRegSpec)

/-- ITS FALSE NEIGHBOUR: 'it returns false'. Refute it at one input. -/
def fnParseFPRegWrong : ChangeSpec := { name := "fnParseFPReg", fn := fun _ => fun
  | [d1, d2] => { results := [.lit (.bool false)], args := [d1, d2] }
  | _ => none }
def FnParseFPRegWrongFalsely : Prop := fnParseFPRegRow.holds Try.pinned (OpenSpec.ofChange fnParseFPRegWrong)

/-- 'laws.FnParseImmSigned': WHATEVER THE INPUT: true; the input reads as it did. -/
def fnParseImmSignedSpec : ChangeSpec := { name := "fnParseImmSigned", fn := fun _ => fun
  | [d1, d2, d3] => { results := [.lit (.bool true)], args := [d1, d2, d3] }
  | _ => none }
def fnParseImmSignedRow : OpenClaim := { program := "ytdoibobhjcdcjaa", sum := "a1b8c551a31685b5bbb070808920a280e3760f42e2c51ce6bf9e35a2e54e651b", func := "loop.example/pub-g03340/laws.FnParseImmSigned", spec := "fnParseImmSigned", unfollowed := true, recurses := true, apart := false }
def FnParseImmSignedSaid : Prop := fnParseImmSignedRow.holds Try.pinned (OpenSpec.ofChange fnParseImmSignedSpec)

/-- ITS FALSE NEIGHBOUR: 'it returns false'. Refute it at one input. -/
def fnParseImmSignedWrong : ChangeSpec := { name := "fnParseImmSigned", fn := fun _ => fun
  | [d1, d2, d3] => { results := [.lit (.bool false)], args := [d1, d2, d3] }
  | _ => none }
def FnParseImmSignedWrongFalsely : Prop := fnParseImmSignedRow.holds Try.pinned (OpenSpec.ofChange fnParseImmSignedWrong)

/-- 'laws.FnParseImmUnsigned': WHATEVER THE INPUT: true; the input reads as it did. -/
def fnParseImmUnsignedSpec : ChangeSpec := { name := "fnParseImmUnsigned", fn := fun _ => fun
  | [d1, d2, d3] => { results := [.lit (.bool true)], args := [d1, d2, d3] }
  | _ => none }
def fnParseImmUnsignedRow : OpenClaim := { program := "ytdoibobhjcdcjaa", sum := "a1b8c551a31685b5bbb070808920a280e3760f42e2c51ce6bf9e35a2e54e651b", func := "loop.example/pub-g03340/laws.FnParseImmUnsigned", spec := "fnParseImmUnsigned", unfollowed := true, recurses := true, apart := false }
def FnParseImmUnsignedSaid : Prop := fnParseImmUnsignedRow.holds Try.pinned (OpenSpec.ofChange fnParseImmUnsignedSpec)

/-- ITS FALSE NEIGHBOUR: 'it returns false'. Refute it at one input. -/
def fnParseImmUnsignedWrong : ChangeSpec := { name := "fnParseImmUnsigned", fn := fun _ => fun
  | [d1, d2, d3] => { results := [.lit (.bool false)], args := [d1, d2, d3] }
  | _ => none }
def FnParseImmUnsignedWrongFalsely : Prop := fnParseImmUnsignedRow.holds Try.pinned (OpenSpec.ofChange fnParseImmUnsignedWrong)

/-- 'laws.FnParseLabel': WHATEVER THE INPUT: true; the input reads as it did. -/
def fnParseLabelSpec : ChangeSpec := { name := "fnParseLabel", fn := fun _ => fun
  | [d1, d2, d3] => { results := [.lit (.bool true)], args := [d1, d2, d3] }
  | _ => none }
def fnParseLabelRow : OpenClaim := { program := "ytdoibobhjcdcjaa", sum := "a1b8c551a31685b5bbb070808920a280e3760f42e2c51ce6bf9e35a2e54e651b", func := "loop.example/pub-g03340/laws.FnParseLabel", spec := "fnParseLabel", unfollowed := true, recurses := true, apart := false }
def FnParseLabelSaid : Prop := fnParseLabelRow.holds Try.pinned (OpenSpec.ofChange fnParseLabelSpec)

/-- ITS FALSE NEIGHBOUR: 'it returns false'. Refute it at one input. -/
def fnParseLabelWrong : ChangeSpec := { name := "fnParseLabel", fn := fun _ => fun
  | [d1, d2, d3] => { results := [.lit (.bool false)], args := [d1, d2, d3] }
  | _ => none }
def FnParseLabelWrongFalsely : Prop := fnParseLabelRow.holds Try.pinned (OpenSpec.ofChange fnParseLabelWrong)

/-- 'laws.FnParseMMAReg': WHATEVER THE INPUT: true; the input reads as it did. -/
def fnParseMMARegSpec : ChangeSpec := { name := "fnParseMMAReg", fn := fun _ => fun
  | [d1, d2] => { results := [.lit (.bool true)], args := [d1, d2] }
  | _ => none }
def fnParseMMARegRow : OpenClaim := { program := "ytdoibobhjcdcjaa", sum := "a1b8c551a31685b5bbb070808920a280e3760f42e2c51ce6bf9e35a2e54e651b", func := "loop.example/pub-g03340/laws.FnParseMMAReg", spec := "fnParseMMAReg", unfollowed := true, recurses := true, apart := false }
def FnParseMMARegSaid : Prop := fnParseMMARegRow.holds Try.pinned (OpenSpec.ofChange fnParseMMARegSpec)

/-- ITS FALSE NEIGHBOUR: 'it returns false'. Refute it at one input. -/
def fnParseMMARegWrong : ChangeSpec := { name := "fnParseMMAReg", fn := fun _ => fun
  | [d1, d2] => { results := [.lit (.bool false)], args := [d1, d2] }
  | _ => none }
def FnParseMMARegWrongFalsely : Prop := fnParseMMARegRow.holds Try.pinned (OpenSpec.ofChange fnParseMMARegWrong)

/-- 'laws.FnParseNegOffset': WHATEVER THE INPUT: true; the input reads as it did. -/
def fnParseNegOffsetSpec : ChangeSpec := { name := "fnParseNegOffset", fn := fun _ => fun
  | [d1, d2] => { results := [.lit (.bool true)], args := [d1, d2] }
  | _ => none }
def fnParseNegOffsetRow : OpenClaim := { program := "ytdoibobhjcdcjaa", sum := "a1b8c551a31685b5bbb070808920a280e3760f42e2c51ce6bf9e35a2e54e651b", func := "loop.example/pub-g03340/laws.FnParseNegOffset", spec := "fnParseNegOffset", unfollowed := true, recurses := true, apart := false }
def FnParseNegOffsetSaid : Prop := fnParseNegOffsetRow.holds Try.pinned (OpenSpec.ofChange fnParseNegOffsetSpec)

/-- ITS FALSE NEIGHBOUR: 'it returns false'. Refute it at one input. -/
def fnParseNegOffsetWrong : ChangeSpec := { name := "fnParseNegOffset", fn := fun _ => fun
  | [d1, d2] => { results := [.lit (.bool false)], args := [d1, d2] }
  | _ => none }
def FnParseNegOffsetWrongFalsely : Prop := fnParseNegOffsetRow.holds Try.pinned (OpenSpec.ofChange fnParseNegOffsetWrong)

/-- 'laws.FnParseOffset': WHATEVER THE INPUT: true; the input reads as it did. -/
def fnParseOffsetSpec : ChangeSpec := { name := "fnParseOffset", fn := fun _ => fun
  | [d1, d2, d3] => { results := [.lit (.bool true)], args := [d1, d2, d3] }
  | _ => none }
def fnParseOffsetRow : OpenClaim := { program := "ytdoibobhjcdcjaa", sum := "a1b8c551a31685b5bbb070808920a280e3760f42e2c51ce6bf9e35a2e54e651b", func := "loop.example/pub-g03340/laws.FnParseOffset", spec := "fnParseOffset", unfollowed := true, recurses := true, apart := false }
def FnParseOffsetSaid : Prop := fnParseOffsetRow.holds Try.pinned (OpenSpec.ofChange fnParseOffsetSpec)

/-- ITS FALSE NEIGHBOUR: 'it returns false'. Refute it at one input. -/
def fnParseOffsetWrong : ChangeSpec := { name := "fnParseOffset", fn := fun _ => fun
  | [d1, d2, d3] => { results := [.lit (.bool false)], args := [d1, d2, d3] }
  | _ => none }
def FnParseOffsetWrongFalsely : Prop := fnParseOffsetRow.holds Try.pinned (OpenSpec.ofChange fnParseOffsetWrong)

/-- 'laws.FnParsePCRel': WHATEVER THE INPUT: true; the input reads as it did. -/
def fnParsePCRelSpec : ChangeSpec := { name := "fnParsePCRel", fn := fun _ => fun
  | [d1, d2, d3] => { results := [.lit (.bool true)], args := [d1, d2, d3] }
  | _ => none }
def fnParsePCRelRow : OpenClaim := { program := "ytdoibobhjcdcjaa", sum := "a1b8c551a31685b5bbb070808920a280e3760f42e2c51ce6bf9e35a2e54e651b", func := "loop.example/pub-g03340/laws.FnParsePCRel", spec := "fnParsePCRel", unfollowed := true, recurses := true, apart := false }
def FnParsePCRelSaid : Prop := fnParsePCRelRow.holds Try.pinned (OpenSpec.ofChange fnParsePCRelSpec)

/-- ITS FALSE NEIGHBOUR: 'it returns false'. Refute it at one input. -/
def fnParsePCRelWrong : ChangeSpec := { name := "fnParsePCRel", fn := fun _ => fun
  | [d1, d2, d3] => { results := [.lit (.bool false)], args := [d1, d2, d3] }
  | _ => none }
def FnParsePCRelWrongFalsely : Prop := fnParsePCRelRow.holds Try.pinned (OpenSpec.ofChange fnParsePCRelWrong)

/-- 'laws.FnParseReg': WHATEVER THE INPUT: true; the input reads as it did. -/
def fnParseRegSpec : ChangeSpec := { name := "fnParseReg", fn := fun _ => fun
  | [d1, d2] => { results := [.lit (.bool true)], args := [d1, d2] }
  | _ => none }
def fnParseRegRow : OpenClaim := { program := "ytdoibobhjcdcjaa", sum := "a1b8c551a31685b5bbb070808920a280e3760f42e2c51ce6bf9e35a2e54e651b", func := "loop.example/pub-g03340/laws.FnParseReg", spec := "fnParseReg", unfollowed := true, recurses := true, apart := false }
def FnParseRegSaid : Prop := fnParseRegRow.holds Try.pinned (OpenSpec.ofChange fnParseRegSpec)

/-- ITS FALSE NEIGHBOUR: 'it returns false'. Refute it at one input. -/
def fnParseRegWrong : ChangeSpec := { name := "fnParseReg", fn := fun _ => fun
  | [d1, d2] => { results := [.lit (.bool false)], args := [d1, d2] }
  | _ => none }
def FnParseRegWrongFalsely : Prop := fnParseRegRow.holds Try.pinned (OpenSpec.ofChange fnParseRegWrong)

/-- 'laws.FnParseSpReg': WHATEVER THE INPUT: true; the input reads as it did. -/
def fnParseSpRegSpec : ChangeSpec := { name := "fnParseSpReg", fn := fun _ => fun
  | [d1, d2] => { results := [.lit (.bool true)], args := [d1, d2] }
  | _ => none }
def fnParseSpRegRow : OpenClaim := { program := "ytdoibobhjcdcjaa", sum := "a1b8c551a31685b5bbb070808920a280e3760f42e2c51ce6bf9e35a2e54e651b", func := "loop.example/pub-g03340/laws.FnParseSpReg", spec := "fnParseSpReg", unfollowed := true, recurses := true, apart := false }
def FnParseSpRegSaid : Prop := fnParseSpRegRow.holds Try.pinned (OpenSpec.ofChange fnParseSpRegSpec)

/-- ITS FALSE NEIGHBOUR: 'it returns false'. Refute it at one input. -/
def fnParseSpRegWrong : ChangeSpec := { name := "fnParseSpReg", fn := fun _ => fun
  | [d1, d2] => { results := [.lit (.bool false)], args := [d1, d2] }
  | _ => none }
def FnParseSpRegWrongFalsely : Prop := fnParseSpRegRow.holds Try.pinned (OpenSpec.ofChange fnParseSpRegWrong)

/-- 'laws.FnParseVecReg': WHATEVER THE INPUT: true; the input reads as it did. -/
def fnParseVecRegSpec : ChangeSpec := { name := "fnParseVecReg", fn := fun _ => fun
  | [d1, d2] => { results := [.lit (.bool true)], args := [d1, d2] }
  | _ => none }
def fnParseVecRegRow : OpenClaim := { program := "ytdoibobhjcdcjaa", sum := "a1b8c551a31685b5bbb070808920a280e3760f42e2c51ce6bf9e35a2e54e651b", func := "loop.example/pub-g03340/laws.FnParseVecReg", spec := "fnParseVecReg", unfollowed := true, recurses := true, apart := false }
def FnParseVecRegSaid : Prop := fnParseVecRegRow.holds Try.pinned (OpenSpec.ofChange fnParseVecRegSpec)

/-- ITS FALSE NEIGHBOUR: 'it returns false'. Refute it at one input. -/
def fnParseVecRegWrong : ChangeSpec := { name := "fnParseVecReg", fn := fun _ => fun
  | [d1, d2] => { results := [.lit (.bool false)], args := [d1, d2] }
  | _ => none }
def FnParseVecRegWrongFalsely : Prop := fnParseVecRegRow.holds Try.pinned (OpenSpec.ofChange fnParseVecRegWrong)

/-- 'laws.FnParseVecSReg': WHATEVER THE INPUT: true; the input reads as it did. -/
def fnParseVecSRegSpec : ChangeSpec := { name := "fnParseVecSReg", fn := fun _ => fun
  | [d1, d2] => { results := [.lit (.bool true)], args := [d1, d2] }
  | _ => none }
def fnParseVecSRegRow : OpenClaim := { program := "ytdoibobhjcdcjaa", sum := "a1b8c551a31685b5bbb070808920a280e3760f42e2c51ce6bf9e35a2e54e651b", func := "loop.example/pub-g03340/laws.FnParseVecSReg", spec := "fnParseVecSReg", unfollowed := true, recurses := true, apart := false }
def FnParseVecSRegSaid : Prop := fnParseVecSRegRow.holds Try.pinned (OpenSpec.ofChange fnParseVecSRegSpec)

/-- ITS FALSE NEIGHBOUR: 'it returns false'. Refute it at one input. -/
def fnParseVecSRegWrong : ChangeSpec := { name := "fnParseVecSReg", fn := fun _ => fun
  | [d1, d2] => { results := [.lit (.bool false)], args := [d1, d2] }
  | _ => none }
def FnParseVecSRegWrongFalsely : Prop := fnParseVecSRegRow.holds Try.pinned (OpenSpec.ofChange fnParseVecSRegWrong)

/-- 'laws.FnParseVecSpReg': WHATEVER THE INPUT: true; the input reads as it did. -/
def fnParseVecSpRegSpec : ChangeSpec := { name := "fnParseVecSpReg", fn := fun _ => fun
  | [d1, d2] => { results := [.lit (.bool true)], args := [d1, d2] }
  | _ => none }
def fnParseVecSpRegRow : OpenClaim := { program := "ytdoibobhjcdcjaa", sum := "a1b8c551a31685b5bbb070808920a280e3760f42e2c51ce6bf9e35a2e54e651b", func := "loop.example/pub-g03340/laws.FnParseVecSpReg", spec := "fnParseVecSpReg", unfollowed := true, recurses := true, apart := false }
def FnParseVecSpRegSaid : Prop := fnParseVecSpRegRow.holds Try.pinned (OpenSpec.ofChange fnParseVecSpRegSpec)

/-- ITS FALSE NEIGHBOUR: 'it returns false'. Refute it at one input. -/
def fnParseVecSpRegWrong : ChangeSpec := { name := "fnParseVecSpReg", fn := fun _ => fun
  | [d1, d2] => { results := [.lit (.bool false)], args := [d1, d2] }
  | _ => none }
def FnParseVecSpRegWrongFalsely : Prop := fnParseVecSpRegRow.holds Try.pinned (OpenSpec.ofChange fnParseVecSpRegWrong)

/- THE SECOND FORM. 'bulk': how many values and letters a reading holds, each counted each time it is reached (what is shared counts as often as it is met; a slice's spare places count too). A statement '..UptoSaid' is the law's where the arguments, and the package variables that the reading takes, are together of bulk at most 1048576: NARROWER than '..Said'. Prove '..Said' where nothing that the law and all that it calls make is longer than what came in: it says more and counts as full. Else prove '..UptoSaid'. A law counts once. -/
mutual
def uptoBulk {H : Type} : DataW H → Nat
  | .lit (.string bytes) => bytes.length + 1
  | .lit _ => 1
  | .nil => 1
  | .ptr d => uptoBulk d + 1
  | .slice elems spare => uptoBulkAll elems + uptoBulkAll spare + 1
  | .agg parts => uptoBulkAll parts + 1
  | .iface _ d => uptoBulk d + 1
  | .map entries => uptoBulkEntries entries + 1
  | .held _ => 1
def uptoBulkAll {H : Type} : List (DataW H) → Nat
  | [] => 0
  | d :: r => uptoBulk d + uptoBulkAll r
def uptoBulkEntries {H : Type} : List (Lit × DataW H) → Nat
  | [] => 0
  | x :: r => uptoBulkEntry x + uptoBulkEntries r
def uptoBulkEntry {H : Type} : Lit × DataW H → Nat
  | (.string bytes, d) => bytes.length + uptoBulk d + 1
  | (_, d) => uptoBulk d + 1
 end
def uptoSmall : (H : Type) → List (DataW H) → Bool := fun _ ds => decide (uptoBulkAll ds ≤ 1048576)
def OpenSpec.upto (s : _root_.Go.ChangeSpec) : _root_.Go.OpenSpec := { _root_.Go.OpenSpec.ofChange s with cond := some uptoSmall }

/-- 'laws.FnParseCondRegBit', WHERE WHAT IT READS IS OF BULK AT MOST 1048576: true; the input reads as it did. -/
def fnParseCondRegBitUptoRow : OpenClaim := { program := "ytdoibobhjcdcjaa", sum := "a1b8c551a31685b5bbb070808920a280e3760f42e2c51ce6bf9e35a2e54e651b", func := "loop.example/pub-g03340/laws.FnParseCondRegBit", spec := "fnParseCondRegBit", unfollowed := true, recurses := true, apart := false, narrowed := true }
def FnParseCondRegBitUptoSaid : Prop := fnParseCondRegBitUptoRow.holds Try.pinned (OpenSpec.upto fnParseCondRegBitSpec)

/-- 'laws.FnParseCondRegField', WHERE WHAT IT READS IS OF BULK AT MOST 1048576: true; the input reads as it did. -/
def fnParseCondRegFieldUptoRow : OpenClaim := { program := "ytdoibobhjcdcjaa", sum := "a1b8c551a31685b5bbb070808920a280e3760f42e2c51ce6bf9e35a2e54e651b", func := "loop.example/pub-g03340/laws.FnParseCondRegField", spec := "fnParseCondRegField", unfollowed := true, recurses := true, apart := false, narrowed := true }
def FnParseCondRegFieldUptoSaid : Prop := fnParseCondRegFieldUptoRow.holds Try.pinned (OpenSpec.upto fnParseCondRegFieldSpec)

/-- 'laws.FnParseFPReg', WHERE WHAT IT READS IS OF BULK AT MOST 1048576: true; the input reads as it did. -/
def fnParseFPRegUptoRow : OpenClaim := { program := "ytdoibobhjcdcjaa", sum := "a1b8c551a31685b5bbb070808920a280e3760f42e2c51ce6bf9e35a2e54e651b", func := "loop.example/pub-g03340/laws.FnParseFPReg", spec := "fnParseFPReg", unfollowed := true, recurses := true, apart := false, narrowed := true }
def FnParseFPRegUptoSaid : Prop := fnParseFPRegUptoRow.holds Try.pinned (OpenSpec.upto fnParseFPRegSpec)

/-- 'laws.FnParseImmSigned', WHERE WHAT IT READS IS OF BULK AT MOST 1048576: true; the input reads as it did. -/
def fnParseImmSignedUptoRow : OpenClaim := { program := "ytdoibobhjcdcjaa", sum := "a1b8c551a31685b5bbb070808920a280e3760f42e2c51ce6bf9e35a2e54e651b", func := "loop.example/pub-g03340/laws.FnParseImmSigned", spec := "fnParseImmSigned", unfollowed := true, recurses := true, apart := false, narrowed := true }
def FnParseImmSignedUptoSaid : Prop := fnParseImmSignedUptoRow.holds Try.pinned (OpenSpec.upto fnParseImmSignedSpec)

/-- 'laws.FnParseImmUnsigned', WHERE WHAT IT READS IS OF BULK AT MOST 1048576: true; the input reads as it did. -/
def fnParseImmUnsignedUptoRow : OpenClaim := { program := "ytdoibobhjcdcjaa", sum := "a1b8c551a31685b5bbb070808920a280e3760f42e2c51ce6bf9e35a2e54e651b", func := "loop.example/pub-g03340/laws.FnParseImmUnsigned", spec := "fnParseImmUnsigned", unfollowed := true, recurses := true, apart := false, narrowed := true }
def FnParseImmUnsignedUptoSaid : Prop := fnParseImmUnsignedUptoRow.holds Try.pinned (OpenSpec.upto fnParseImmUnsignedSpec)

/-- 'laws.FnParseLabel', WHERE WHAT IT READS IS OF BULK AT MOST 1048576: true; the input reads as it did. -/
def fnParseLabelUptoRow : OpenClaim := { program := "ytdoibobhjcdcjaa", sum := "a1b8c551a31685b5bbb070808920a280e3760f42e2c51ce6bf9e35a2e54e651b", func := "loop.example/pub-g03340/laws.FnParseLabel", spec := "fnParseLabel", unfollowed := true, recurses := true, apart := false, narrowed := true }
def FnParseLabelUptoSaid : Prop := fnParseLabelUptoRow.holds Try.pinned (OpenSpec.upto fnParseLabelSpec)

/-- 'laws.FnParseMMAReg', WHERE WHAT IT READS IS OF BULK AT MOST 1048576: true; the input reads as it did. -/
def fnParseMMARegUptoRow : OpenClaim := { program := "ytdoibobhjcdcjaa", sum := "a1b8c551a31685b5bbb070808920a280e3760f42e2c51ce6bf9e35a2e54e651b", func := "loop.example/pub-g03340/laws.FnParseMMAReg", spec := "fnParseMMAReg", unfollowed := true, recurses := true, apart := false, narrowed := true }
def FnParseMMARegUptoSaid : Prop := fnParseMMARegUptoRow.holds Try.pinned (OpenSpec.upto fnParseMMARegSpec)

/-- 'laws.FnParseNegOffset', WHERE WHAT IT READS IS OF BULK AT MOST 1048576: true; the input reads as it did. -/
def fnParseNegOffsetUptoRow : OpenClaim := { program := "ytdoibobhjcdcjaa", sum := "a1b8c551a31685b5bbb070808920a280e3760f42e2c51ce6bf9e35a2e54e651b", func := "loop.example/pub-g03340/laws.FnParseNegOffset", spec := "fnParseNegOffset", unfollowed := true, recurses := true, apart := false, narrowed := true }
def FnParseNegOffsetUptoSaid : Prop := fnParseNegOffsetUptoRow.holds Try.pinned (OpenSpec.upto fnParseNegOffsetSpec)

/-- 'laws.FnParseOffset', WHERE WHAT IT READS IS OF BULK AT MOST 1048576: true; the input reads as it did. -/
def fnParseOffsetUptoRow : OpenClaim := { program := "ytdoibobhjcdcjaa", sum := "a1b8c551a31685b5bbb070808920a280e3760f42e2c51ce6bf9e35a2e54e651b", func := "loop.example/pub-g03340/laws.FnParseOffset", spec := "fnParseOffset", unfollowed := true, recurses := true, apart := false, narrowed := true }
def FnParseOffsetUptoSaid : Prop := fnParseOffsetUptoRow.holds Try.pinned (OpenSpec.upto fnParseOffsetSpec)

/-- 'laws.FnParsePCRel', WHERE WHAT IT READS IS OF BULK AT MOST 1048576: true; the input reads as it did. -/
def fnParsePCRelUptoRow : OpenClaim := { program := "ytdoibobhjcdcjaa", sum := "a1b8c551a31685b5bbb070808920a280e3760f42e2c51ce6bf9e35a2e54e651b", func := "loop.example/pub-g03340/laws.FnParsePCRel", spec := "fnParsePCRel", unfollowed := true, recurses := true, apart := false, narrowed := true }
def FnParsePCRelUptoSaid : Prop := fnParsePCRelUptoRow.holds Try.pinned (OpenSpec.upto fnParsePCRelSpec)

/-- 'laws.FnParseReg', WHERE WHAT IT READS IS OF BULK AT MOST 1048576: true; the input reads as it did. -/
def fnParseRegUptoRow : OpenClaim := { program := "ytdoibobhjcdcjaa", sum := "a1b8c551a31685b5bbb070808920a280e3760f42e2c51ce6bf9e35a2e54e651b", func := "loop.example/pub-g03340/laws.FnParseReg", spec := "fnParseReg", unfollowed := true, recurses := true, apart := false, narrowed := true }
def FnParseRegUptoSaid : Prop := fnParseRegUptoRow.holds Try.pinned (OpenSpec.upto fnParseRegSpec)

/-- 'laws.FnParseSpReg', WHERE WHAT IT READS IS OF BULK AT MOST 1048576: true; the input reads as it did. -/
def fnParseSpRegUptoRow : OpenClaim := { program := "ytdoibobhjcdcjaa", sum := "a1b8c551a31685b5bbb070808920a280e3760f42e2c51ce6bf9e35a2e54e651b", func := "loop.example/pub-g03340/laws.FnParseSpReg", spec := "fnParseSpReg", unfollowed := true, recurses := true, apart := false, narrowed := true }
def FnParseSpRegUptoSaid : Prop := fnParseSpRegUptoRow.holds Try.pinned (OpenSpec.upto fnParseSpRegSpec)

/-- 'laws.FnParseVecReg', WHERE WHAT IT READS IS OF BULK AT MOST 1048576: true; the input reads as it did. -/
def fnParseVecRegUptoRow : OpenClaim := { program := "ytdoibobhjcdcjaa", sum := "a1b8c551a31685b5bbb070808920a280e3760f42e2c51ce6bf9e35a2e54e651b", func := "loop.example/pub-g03340/laws.FnParseVecReg", spec := "fnParseVecReg", unfollowed := true, recurses := true, apart := false, narrowed := true }
def FnParseVecRegUptoSaid : Prop := fnParseVecRegUptoRow.holds Try.pinned (OpenSpec.upto fnParseVecRegSpec)

/-- 'laws.FnParseVecSReg', WHERE WHAT IT READS IS OF BULK AT MOST 1048576: true; the input reads as it did. -/
def fnParseVecSRegUptoRow : OpenClaim := { program := "ytdoibobhjcdcjaa", sum := "a1b8c551a31685b5bbb070808920a280e3760f42e2c51ce6bf9e35a2e54e651b", func := "loop.example/pub-g03340/laws.FnParseVecSReg", spec := "fnParseVecSReg", unfollowed := true, recurses := true, apart := false, narrowed := true }
def FnParseVecSRegUptoSaid : Prop := fnParseVecSRegUptoRow.holds Try.pinned (OpenSpec.upto fnParseVecSRegSpec)

/-- 'laws.FnParseVecSpReg', WHERE WHAT IT READS IS OF BULK AT MOST 1048576: true; the input reads as it did. -/
def fnParseVecSpRegUptoRow : OpenClaim := { program := "ytdoibobhjcdcjaa", sum := "a1b8c551a31685b5bbb070808920a280e3760f42e2c51ce6bf9e35a2e54e651b", func := "loop.example/pub-g03340/laws.FnParseVecSpReg", spec := "fnParseVecSpReg", unfollowed := true, recurses := true, apart := false, narrowed := true }
def FnParseVecSpRegUptoSaid : Prop := fnParseVecSpRegUptoRow.holds Try.pinned (OpenSpec.upto fnParseVecSpRegSpec)

end Rows
end Go.Proofs.Ytdoibobhjcdcjaa
