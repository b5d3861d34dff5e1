/-
  DERIVED. GIVEN WITH THE SEED: THE CARDS: each row of YtlmmdldjfpdcfaaGreatDoorRows.lean that lists a variable, with what it lists TIED to the program's text (the seventh form; the later family's looks); each row that meets fmt, with fmt's text TOLD by the authors' own Lean function (tested against real Go, not proved from fmt's source: count such statements apart). THE CARD IS WHAT COUNTS. Prove the row's statement (the work); the ties are given (YtlmmdldjfpdcfaaGreatDoorTie.lean); close each card by the builder's one call (the guide's Derived/Test/ToyasCard.lean, 'card_holds'). Laid BY PROGRAM, IN A SANDBOX (cutbox-door.mjs). By AI agents, Wed Nov 11 2026. No macro, syntax, notation, axiom, sorry.
-/
import Derived.Test.YtlmmdldjfpdcfaaGreatDoorRows
import GoSem.ClaimSeven
namespace Go.Proofs.YtlmmdldjfpdcfaaGreatDoor
namespace Rows

/-- THE TIED CARD OF 'laws.FnExactSizes'. -/
def fnExactSizesCard : Claim7 := { stood := { row := fnExactSizesRow, standIns := [], harness := (true, "65a96a50e803f257fa8cff9daafece9121070a68b556d5ab42d3bc3979736b81"), looks := false }, kinds := [], alts := [], laidByText := true, laidKinds := [.data, .data, .sentinel, .data, .sentinel, .sentinel, .sentinel, .sentinel, .sentinel, .sentinel, .sentinel, .sentinel, .sentinel, .sentinel, .sentinel, .sentinel, .sentinel], laidTests := true, laidLooks := .later }
def FnExactSizesCardSaid : Prop := Claim7.holds Tryz.pinned (.plain (OpenSpec.ofChange fnExactSizesSpec)) fnExactSizesCard

/-- THE TIED CARD OF 'laws.FnExactUnshard'. -/
def fnExactUnshardCard : Claim7 := { stood := { row := fnExactUnshardRow, standIns := [], harness := (true, "65a96a50e803f257fa8cff9daafece9121070a68b556d5ab42d3bc3979736b81"), looks := false }, kinds := [], alts := [], laidByText := true, laidKinds := [.data, .data, .sentinel, .data, .sentinel, .sentinel, .sentinel, .sentinel, .sentinel, .sentinel, .sentinel, .sentinel, .sentinel, .sentinel, .sentinel, .sentinel, .sentinel, .sentinel], laidTests := true, laidLooks := .later }
def FnExactUnshardCardSaid : Prop := Claim7.holds Tryz.pinned (.plain (OpenSpec.ofChange fnExactUnshardSpec)) fnExactUnshardCard

/-- THE SECOND FORM's CARD OF 'laws.FnExactSizes'. -/
def fnExactSizesUptoCard : Claim7 := { stood := { row := fnExactSizesUptoRow, standIns := [], harness := (true, "65a96a50e803f257fa8cff9daafece9121070a68b556d5ab42d3bc3979736b81"), looks := false }, kinds := [], alts := [], laidByText := true, laidKinds := [.data, .data, .sentinel, .data, .sentinel, .sentinel, .sentinel, .sentinel, .sentinel, .sentinel, .sentinel, .sentinel, .sentinel, .sentinel, .sentinel, .sentinel, .sentinel], laidTests := true, laidLooks := .later }
def FnExactSizesUptoCardSaid : Prop := Claim7.holds Tryz.pinned (.plain (OpenSpec.upto fnExactSizesSpec)) fnExactSizesUptoCard

/-- THE SECOND FORM's CARD OF 'laws.FnExactUnshard'. -/
def fnExactUnshardUptoCard : Claim7 := { stood := { row := fnExactUnshardUptoRow, standIns := [], harness := (true, "65a96a50e803f257fa8cff9daafece9121070a68b556d5ab42d3bc3979736b81"), looks := false }, kinds := [], alts := [], laidByText := true, laidKinds := [.data, .data, .sentinel, .data, .sentinel, .sentinel, .sentinel, .sentinel, .sentinel, .sentinel, .sentinel, .sentinel, .sentinel, .sentinel, .sentinel, .sentinel, .sentinel, .sentinel], laidTests := true, laidLooks := .later }
def FnExactUnshardUptoCardSaid : Prop := Claim7.holds Tryz.pinned (.plain (OpenSpec.upto fnExactUnshardSpec)) fnExactUnshardUptoCard
end Rows
end Go.Proofs.YtlmmdldjfpdcfaaGreatDoor
