/-
  DERIVED. GIVEN WITH THE SEED: THE CARDS: each row of YtmbencknblcocaaGreatDoorRows.lean that lists a variable, with what it lists TIED to the program's text (the seventh form; the later family's looks); each row that meets fmt, with fmt's text TOLD by the authors' own Lean function (tested against real Go, not proved from fmt's source: count such statements apart). THE CARD IS WHAT COUNTS. Prove the row's statement (the work); the ties are given (YtmbencknblcocaaGreatDoorTie.lean); close each card by the builder's one call (the guide's Derived/Test/ToyasCard.lean, 'card_holds'). Laid BY PROGRAM, IN A SANDBOX (cutbox-door.mjs). By AI agents, Wed Nov 11 2026. No macro, syntax, notation, axiom, sorry.
-/
import Derived.Test.YtmbencknblcocaaGreatDoorRows
import GoSem.ClaimSeven
namespace Go.Proofs.YtmbencknblcocaaGreatDoor
namespace Rows

/-- THE TIED CARD OF 'laws.FnFrontMatter'. -/
def fnFrontMatterCard : Claim7 := { stood := { row := fnFrontMatterRow, standIns := [], harness := (true, "fa0a3956aa262550a1d67431709c5937e7e41d601313af255a5e3adec12088f2"), looks := false }, kinds := [], alts := [], laidByText := true, laidKinds := [.data, .listed, .data, .sentinel, .data, .pinned, .pinned, .pinned], laidTests := true, laidLooks := .later }
def FnFrontMatterCardSaid : Prop := Claim7.holds Tryz.pinned (.plain (OpenSpec.ofChange fnFrontMatterSpec)) fnFrontMatterCard

/-- THE TIED CARD OF 'laws.FnFrontUnended'. -/
def fnFrontUnendedCard : Claim7 := { stood := { row := fnFrontUnendedRow, standIns := [], harness := (true, "fa0a3956aa262550a1d67431709c5937e7e41d601313af255a5e3adec12088f2"), looks := false }, kinds := [], alts := [], laidByText := true, laidKinds := [.data, .listed, .data, .sentinel, .data, .pinned, .pinned, .pinned], laidTests := true, laidLooks := .later }
def FnFrontUnendedCardSaid : Prop := Claim7.holds Tryz.pinned (.plain (OpenSpec.ofChange fnFrontUnendedSpec)) fnFrontUnendedCard

/-- THE TIED CARD OF 'laws.FnParse'. -/
def fnParseCard : Claim7 := { stood := { row := fnParseRow, standIns := [], harness := (true, "fa0a3956aa262550a1d67431709c5937e7e41d601313af255a5e3adec12088f2"), looks := false }, kinds := [], alts := [], laidByText := true, laidKinds := [.data, .listed, .data, .sentinel, .data, .pinned, .pinned, .pinned], laidTests := true, laidLooks := .later }
def FnParseCardSaid : Prop := Claim7.holds Tryz.pinned (.plain (OpenSpec.ofChange fnParseSpec)) fnParseCard

/-- THE TIED CARD OF 'laws.FnShape'. -/
def fnShapeCard : Claim7 := { stood := { row := fnShapeRow, standIns := [], harness := (true, "fa0a3956aa262550a1d67431709c5937e7e41d601313af255a5e3adec12088f2"), looks := false }, kinds := [], alts := [], laidByText := true, laidKinds := [.data, .listed, .data, .sentinel, .data, .pinned, .pinned, .pinned], laidTests := true, laidLooks := .later }
def FnShapeCardSaid : Prop := Claim7.holds Tryz.pinned (.plain (OpenSpec.ofChange fnShapeSpec)) fnShapeCard

/-- THE TIED CARD OF 'laws.FnSource'. -/
def fnSourceCard : Claim7 := { stood := { row := fnSourceRow, standIns := [], harness := (true, "fa0a3956aa262550a1d67431709c5937e7e41d601313af255a5e3adec12088f2"), looks := false }, kinds := [], alts := [], laidByText := true, laidKinds := [.data, .listed, .data, .sentinel, .data, .pinned, .pinned, .pinned], laidTests := true, laidLooks := .later }
def FnSourceCardSaid : Prop := Claim7.holds Tryz.pinned (.plain (OpenSpec.ofChange fnSourceSpec)) fnSourceCard

/-- THE SECOND FORM's CARD OF 'laws.FnFrontMatter'. -/
def fnFrontMatterUptoCard : Claim7 := { stood := { row := fnFrontMatterUptoRow, standIns := [], harness := (true, "fa0a3956aa262550a1d67431709c5937e7e41d601313af255a5e3adec12088f2"), looks := false }, kinds := [], alts := [], laidByText := true, laidKinds := [.data, .listed, .data, .sentinel, .data, .pinned, .pinned, .pinned], laidTests := true, laidLooks := .later }
def FnFrontMatterUptoCardSaid : Prop := Claim7.holds Tryz.pinned (.plain (OpenSpec.upto fnFrontMatterSpec)) fnFrontMatterUptoCard

/-- THE SECOND FORM's CARD OF 'laws.FnFrontUnended'. -/
def fnFrontUnendedUptoCard : Claim7 := { stood := { row := fnFrontUnendedUptoRow, standIns := [], harness := (true, "fa0a3956aa262550a1d67431709c5937e7e41d601313af255a5e3adec12088f2"), looks := false }, kinds := [], alts := [], laidByText := true, laidKinds := [.data, .listed, .data, .sentinel, .data, .pinned, .pinned, .pinned], laidTests := true, laidLooks := .later }
def FnFrontUnendedUptoCardSaid : Prop := Claim7.holds Tryz.pinned (.plain (OpenSpec.upto fnFrontUnendedSpec)) fnFrontUnendedUptoCard

/-- THE SECOND FORM's CARD OF 'laws.FnParse'. -/
def fnParseUptoCard : Claim7 := { stood := { row := fnParseUptoRow, standIns := [], harness := (true, "fa0a3956aa262550a1d67431709c5937e7e41d601313af255a5e3adec12088f2"), looks := false }, kinds := [], alts := [], laidByText := true, laidKinds := [.data, .listed, .data, .sentinel, .data, .pinned, .pinned, .pinned], laidTests := true, laidLooks := .later }
def FnParseUptoCardSaid : Prop := Claim7.holds Tryz.pinned (.plain (OpenSpec.upto fnParseSpec)) fnParseUptoCard

/-- THE SECOND FORM's CARD OF 'laws.FnShape'. -/
def fnShapeUptoCard : Claim7 := { stood := { row := fnShapeUptoRow, standIns := [], harness := (true, "fa0a3956aa262550a1d67431709c5937e7e41d601313af255a5e3adec12088f2"), looks := false }, kinds := [], alts := [], laidByText := true, laidKinds := [.data, .listed, .data, .sentinel, .data, .pinned, .pinned, .pinned], laidTests := true, laidLooks := .later }
def FnShapeUptoCardSaid : Prop := Claim7.holds Tryz.pinned (.plain (OpenSpec.upto fnShapeSpec)) fnShapeUptoCard

/-- THE SECOND FORM's CARD OF 'laws.FnSource'. -/
def fnSourceUptoCard : Claim7 := { stood := { row := fnSourceUptoRow, standIns := [], harness := (true, "fa0a3956aa262550a1d67431709c5937e7e41d601313af255a5e3adec12088f2"), looks := false }, kinds := [], alts := [], laidByText := true, laidKinds := [.data, .listed, .data, .sentinel, .data, .pinned, .pinned, .pinned], laidTests := true, laidLooks := .later }
def FnSourceUptoCardSaid : Prop := Claim7.holds Tryz.pinned (.plain (OpenSpec.upto fnSourceSpec)) fnSourceUptoCard
end Rows
end Go.Proofs.YtmbencknblcocaaGreatDoor
