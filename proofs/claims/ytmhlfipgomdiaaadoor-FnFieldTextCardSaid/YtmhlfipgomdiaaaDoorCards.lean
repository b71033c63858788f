/-
  DERIVED. GIVEN WITH THE SEED: THE CARDS: each row of YtmhlfipgomdiaaaDoorRows.lean that lists a variable, with what it lists TIED to the program's text (the seventh form; the later family's looks); each row that meets fmt, with fmt's text TOLD by the authors' own Lean function (tested against real Go, not proved from fmt's source: count such statements apart). THE CARD IS WHAT COUNTS. Prove the row's statement (the work); the ties are given (YtmhlfipgomdiaaaDoorTie.lean); close each card by the builder's one call (the guide's Derived/Test/ToyasCard.lean, 'card_holds'). Laid BY PROGRAM, IN A SANDBOX (cutbox-door.mjs). By AI agents, Wed Nov 11 2026. No macro, syntax, notation, axiom, sorry.
-/
import Derived.Test.YtmhlfipgomdiaaaDoorRows
import GoSem.ClaimSeven
namespace Go.Proofs.YtmhlfipgomdiaaaDoor
namespace Rows

/-- THE TIED CARD OF 'laws.FnImmText'. -/
def fnImmTextCard : Claim7 := { stood := { row := fnImmTextRow, standIns := [], harness := (true, "5283331b9260b33b5b31d3da68a1d81693730a4067bb09828e1ee68543c821c4"), looks := false }, kinds := [], alts := [], laidByText := true, laidKinds := [.data, .data, .data], laidTests := true, laidLooks := .later }
def FnImmTextCardSaid : Prop := Claim7.holds Tryd.pinned (.plain (OpenSpec.ofChange fnImmTextSpec)) fnImmTextCard

/-- THE TIED CARD OF 'laws.FnSpText'. -/
def fnSpTextCard : Claim7 := { stood := { row := fnSpTextRow, standIns := [], harness := (true, "5283331b9260b33b5b31d3da68a1d81693730a4067bb09828e1ee68543c821c4"), looks := false }, kinds := [], alts := [], laidByText := true, laidKinds := [.data, .data, .data], laidTests := true, laidLooks := .later }
def FnSpTextCardSaid : Prop := Claim7.holds Tryd.pinned (.plain (OpenSpec.ofChange fnSpTextSpec)) fnSpTextCard

/-- THE TIED CARD OF 'laws.FnCondText'. -/
def fnCondTextCard : Claim7 := { stood := { row := fnCondTextRow, standIns := [], harness := (true, "5283331b9260b33b5b31d3da68a1d81693730a4067bb09828e1ee68543c821c4"), looks := false }, kinds := [], alts := [], laidByText := true, laidKinds := [.data, .data, .data], laidTests := true, laidLooks := .later }
def FnCondTextCardSaid : Prop := Claim7.holds Tryd.pinned (.plain (OpenSpec.ofChange fnCondTextSpec)) fnCondTextCard

/-- THE TIED CARD OF 'laws.FnRegText'. -/
def fnRegTextCard : Claim7 := { stood := { row := fnRegTextRow, standIns := [], harness := (true, "5283331b9260b33b5b31d3da68a1d81693730a4067bb09828e1ee68543c821c4"), looks := false }, kinds := [], alts := [], laidByText := true, laidKinds := [.data, .data, .data], laidTests := true, laidLooks := .later }
def FnRegTextCardSaid : Prop := Claim7.holds Tryd.pinned (.plain (OpenSpec.ofChange fnRegTextSpec)) fnRegTextCard

/-- THE TIED CARD OF 'laws.FnOffsetText'. -/
def fnOffsetTextCard : Claim7 := { stood := { row := fnOffsetTextRow, standIns := [], harness := (true, "5283331b9260b33b5b31d3da68a1d81693730a4067bb09828e1ee68543c821c4"), looks := false }, kinds := [], alts := [], laidByText := true, laidKinds := [.data, .data, .data], laidTests := true, laidLooks := .later }
def FnOffsetTextCardSaid : Prop := Claim7.holds Tryd.pinned (.plain (OpenSpec.ofChange fnOffsetTextSpec)) fnOffsetTextCard

/-- THE TIED CARD OF 'laws.FnWhereText'. -/
def fnWhereTextCard : Claim7 := { stood := { row := fnWhereTextRow, standIns := [], harness := (true, "5283331b9260b33b5b31d3da68a1d81693730a4067bb09828e1ee68543c821c4"), looks := false }, kinds := [], alts := [], laidByText := true, laidKinds := [.data, .data, .data], laidTests := true, laidLooks := .later }
def FnWhereTextCardSaid : Prop := Claim7.holds Tryd.pinned (.plain (OpenSpec.ofChange fnWhereTextSpec)) fnWhereTextCard

/-- THE TIED CARD OF 'laws.FnKindText'. -/
def fnKindTextCard : Claim7 := { stood := { row := fnKindTextRow, standIns := [], harness := (true, "5283331b9260b33b5b31d3da68a1d81693730a4067bb09828e1ee68543c821c4"), looks := false }, kinds := [], alts := [], laidByText := true, laidKinds := [.data, .data, .data], laidTests := true, laidLooks := .later }
def FnKindTextCardSaid : Prop := Claim7.holds Tryd.pinned (.plain (OpenSpec.ofChange fnKindTextSpec)) fnKindTextCard

/-- THE TIED CARD OF 'laws.FnFieldText'. -/
def fnFieldTextCard : Claim7 := { stood := { row := fnFieldTextRow, standIns := [], harness := (true, "5283331b9260b33b5b31d3da68a1d81693730a4067bb09828e1ee68543c821c4"), looks := false }, kinds := [], alts := [], laidByText := true, laidKinds := [.data, .data, .data], laidTests := true, laidLooks := .later }
def FnFieldTextCardSaid : Prop := Claim7.holds Tryd.pinned (.plain (OpenSpec.ofChange fnFieldTextSpec)) fnFieldTextCard

/-- THE SECOND FORM's CARD OF 'laws.FnImmText'. -/
def fnImmTextUptoCard : Claim7 := { stood := { row := fnImmTextUptoRow, standIns := [], harness := (true, "5283331b9260b33b5b31d3da68a1d81693730a4067bb09828e1ee68543c821c4"), looks := false }, kinds := [], alts := [], laidByText := true, laidKinds := [.data, .data, .data], laidTests := true, laidLooks := .later }
def FnImmTextUptoCardSaid : Prop := Claim7.holds Tryd.pinned (.plain (OpenSpec.upto fnImmTextSpec)) fnImmTextUptoCard

/-- THE SECOND FORM's CARD OF 'laws.FnSpText'. -/
def fnSpTextUptoCard : Claim7 := { stood := { row := fnSpTextUptoRow, standIns := [], harness := (true, "5283331b9260b33b5b31d3da68a1d81693730a4067bb09828e1ee68543c821c4"), looks := false }, kinds := [], alts := [], laidByText := true, laidKinds := [.data, .data, .data], laidTests := true, laidLooks := .later }
def FnSpTextUptoCardSaid : Prop := Claim7.holds Tryd.pinned (.plain (OpenSpec.upto fnSpTextSpec)) fnSpTextUptoCard

/-- THE SECOND FORM's CARD OF 'laws.FnCondText'. -/
def fnCondTextUptoCard : Claim7 := { stood := { row := fnCondTextUptoRow, standIns := [], harness := (true, "5283331b9260b33b5b31d3da68a1d81693730a4067bb09828e1ee68543c821c4"), looks := false }, kinds := [], alts := [], laidByText := true, laidKinds := [.data, .data, .data], laidTests := true, laidLooks := .later }
def FnCondTextUptoCardSaid : Prop := Claim7.holds Tryd.pinned (.plain (OpenSpec.upto fnCondTextSpec)) fnCondTextUptoCard

/-- THE SECOND FORM's CARD OF 'laws.FnRegText'. -/
def fnRegTextUptoCard : Claim7 := { stood := { row := fnRegTextUptoRow, standIns := [], harness := (true, "5283331b9260b33b5b31d3da68a1d81693730a4067bb09828e1ee68543c821c4"), looks := false }, kinds := [], alts := [], laidByText := true, laidKinds := [.data, .data, .data], laidTests := true, laidLooks := .later }
def FnRegTextUptoCardSaid : Prop := Claim7.holds Tryd.pinned (.plain (OpenSpec.upto fnRegTextSpec)) fnRegTextUptoCard

/-- THE SECOND FORM's CARD OF 'laws.FnOffsetText'. -/
def fnOffsetTextUptoCard : Claim7 := { stood := { row := fnOffsetTextUptoRow, standIns := [], harness := (true, "5283331b9260b33b5b31d3da68a1d81693730a4067bb09828e1ee68543c821c4"), looks := false }, kinds := [], alts := [], laidByText := true, laidKinds := [.data, .data, .data], laidTests := true, laidLooks := .later }
def FnOffsetTextUptoCardSaid : Prop := Claim7.holds Tryd.pinned (.plain (OpenSpec.upto fnOffsetTextSpec)) fnOffsetTextUptoCard

/-- THE SECOND FORM's CARD OF 'laws.FnWhereText'. -/
def fnWhereTextUptoCard : Claim7 := { stood := { row := fnWhereTextUptoRow, standIns := [], harness := (true, "5283331b9260b33b5b31d3da68a1d81693730a4067bb09828e1ee68543c821c4"), looks := false }, kinds := [], alts := [], laidByText := true, laidKinds := [.data, .data, .data], laidTests := true, laidLooks := .later }
def FnWhereTextUptoCardSaid : Prop := Claim7.holds Tryd.pinned (.plain (OpenSpec.upto fnWhereTextSpec)) fnWhereTextUptoCard

/-- THE SECOND FORM's CARD OF 'laws.FnKindText'. -/
def fnKindTextUptoCard : Claim7 := { stood := { row := fnKindTextUptoRow, standIns := [], harness := (true, "5283331b9260b33b5b31d3da68a1d81693730a4067bb09828e1ee68543c821c4"), looks := false }, kinds := [], alts := [], laidByText := true, laidKinds := [.data, .data, .data], laidTests := true, laidLooks := .later }
def FnKindTextUptoCardSaid : Prop := Claim7.holds Tryd.pinned (.plain (OpenSpec.upto fnKindTextSpec)) fnKindTextUptoCard

/-- THE SECOND FORM's CARD OF 'laws.FnFieldText'. -/
def fnFieldTextUptoCard : Claim7 := { stood := { row := fnFieldTextUptoRow, standIns := [], harness := (true, "5283331b9260b33b5b31d3da68a1d81693730a4067bb09828e1ee68543c821c4"), looks := false }, kinds := [], alts := [], laidByText := true, laidKinds := [.data, .data, .data], laidTests := true, laidLooks := .later }
def FnFieldTextUptoCardSaid : Prop := Claim7.holds Tryd.pinned (.plain (OpenSpec.upto fnFieldTextSpec)) fnFieldTextUptoCard
end Rows
end Go.Proofs.YtmhlfipgomdiaaaDoor
