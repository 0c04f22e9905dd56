/-
  DERIVED. GIVEN WITH THE SEED: THE CARDS: each row of YtfilbgmbmlmdbaaGreatDoorRows.lean that lists a variable, with what it lists TIED to the program's text (the seventh form; the later family's looks); each row that meets fmt, with fmt's text TOLD by the authors' own Lean function (tested against real Go, not proved from fmt's source: count such statements apart). THE CARD IS WHAT COUNTS. Prove the row's statement (the work); the ties are given (YtfilbgmbmlmdbaaGreatDoorTie.lean); close each card by the builder's one call (the guide's Derived/Test/ToyasCard.lean, 'card_holds'). Laid BY PROGRAM, IN A SANDBOX (cutbox-door.mjs). By AI agents, Wed Nov 11 2026. No macro, syntax, notation, axiom, sorry.
-/
import Derived.Test.YtfilbgmbmlmdbaaGreatDoorRows
import GoSem.ClaimSeven
namespace Go.Proofs.YtfilbgmbmlmdbaaGreatDoor
namespace Rows

/-- THE TIED CARD OF 'laws.FnField'. -/
def fnFieldCard : Claim7 := { stood := { row := fnFieldRow, standIns := [], harness := (true, "f3a87857b57c60e4630cb835b41fd08867818bbddad6554f5fc951a0b55a9816"), looks := true }, kinds := [], alts := [], laidByText := true, laidKinds := [.sentinel, .sentinel, .sentinel, .sentinel, .sentinel, .sentinel], laidTests := true, laidLooks := .later }
def FnFieldCardSaid : Prop := Claim7.holds Tryz.pinned (.plain (OpenSpec.ofChange fnFieldSpec)) fnFieldCard

/-- THE TIED CARD OF 'laws.FnType'. -/
def fnTypeCard : Claim7 := { stood := { row := fnTypeRow, standIns := [], harness := (true, "f3a87857b57c60e4630cb835b41fd08867818bbddad6554f5fc951a0b55a9816"), looks := true }, kinds := [], alts := [], laidByText := true, laidKinds := [.sentinel, .sentinel, .sentinel, .sentinel, .sentinel, .sentinel], laidTests := true, laidLooks := .later }
def FnTypeCardSaid : Prop := Claim7.holds Tryz.pinned (.plain (OpenSpec.ofChange fnTypeSpec)) fnTypeCard

/-- THE TIED CARD OF 'laws.FnValue'. -/
def fnValueCard : Claim7 := { stood := { row := fnValueRow, standIns := [], harness := (true, "f3a87857b57c60e4630cb835b41fd08867818bbddad6554f5fc951a0b55a9816"), looks := true }, kinds := [], alts := [], laidByText := true, laidKinds := [.sentinel, .sentinel, .sentinel, .sentinel, .sentinel, .sentinel], laidTests := true, laidLooks := .later }
def FnValueCardSaid : Prop := Claim7.holds Tryz.pinned (.plain (OpenSpec.ofChange fnValueSpec)) fnValueCard

/-- THE TIED CARD OF 'laws.FnMatches'. -/
def fnMatchesCard : Claim7 := { stood := { row := fnMatchesRow, standIns := [], harness := (true, "f3a87857b57c60e4630cb835b41fd08867818bbddad6554f5fc951a0b55a9816"), looks := true }, kinds := [], alts := [], laidByText := true, laidKinds := [.sentinel, .sentinel, .sentinel, .sentinel, .sentinel, .sentinel], laidTests := true, laidLooks := .later }
def FnMatchesCardSaid : Prop := Claim7.holds Tryz.pinned (.plain (OpenSpec.ofChange fnMatchesSpec)) fnMatchesCard

/-- THE SECOND FORM's CARD OF 'laws.FnField'. -/
def fnFieldUptoCard : Claim7 := { stood := { row := fnFieldUptoRow, standIns := [], harness := (true, "f3a87857b57c60e4630cb835b41fd08867818bbddad6554f5fc951a0b55a9816"), looks := true }, kinds := [], alts := [], laidByText := true, laidKinds := [.sentinel, .sentinel, .sentinel, .sentinel, .sentinel, .sentinel], laidTests := true, laidLooks := .later }
def FnFieldUptoCardSaid : Prop := Claim7.holds Tryz.pinned (.plain (OpenSpec.upto fnFieldSpec)) fnFieldUptoCard

/-- THE SECOND FORM's CARD OF 'laws.FnType'. -/
def fnTypeUptoCard : Claim7 := { stood := { row := fnTypeUptoRow, standIns := [], harness := (true, "f3a87857b57c60e4630cb835b41fd08867818bbddad6554f5fc951a0b55a9816"), looks := true }, kinds := [], alts := [], laidByText := true, laidKinds := [.sentinel, .sentinel, .sentinel, .sentinel, .sentinel, .sentinel], laidTests := true, laidLooks := .later }
def FnTypeUptoCardSaid : Prop := Claim7.holds Tryz.pinned (.plain (OpenSpec.upto fnTypeSpec)) fnTypeUptoCard

/-- THE SECOND FORM's CARD OF 'laws.FnValue'. -/
def fnValueUptoCard : Claim7 := { stood := { row := fnValueUptoRow, standIns := [], harness := (true, "f3a87857b57c60e4630cb835b41fd08867818bbddad6554f5fc951a0b55a9816"), looks := true }, kinds := [], alts := [], laidByText := true, laidKinds := [.sentinel, .sentinel, .sentinel, .sentinel, .sentinel, .sentinel], laidTests := true, laidLooks := .later }
def FnValueUptoCardSaid : Prop := Claim7.holds Tryz.pinned (.plain (OpenSpec.upto fnValueSpec)) fnValueUptoCard

/-- THE SECOND FORM's CARD OF 'laws.FnMatches'. -/
def fnMatchesUptoCard : Claim7 := { stood := { row := fnMatchesUptoRow, standIns := [], harness := (true, "f3a87857b57c60e4630cb835b41fd08867818bbddad6554f5fc951a0b55a9816"), looks := true }, kinds := [], alts := [], laidByText := true, laidKinds := [.sentinel, .sentinel, .sentinel, .sentinel, .sentinel, .sentinel], laidTests := true, laidLooks := .later }
def FnMatchesUptoCardSaid : Prop := Claim7.holds Tryz.pinned (.plain (OpenSpec.upto fnMatchesSpec)) fnMatchesUptoCard
end Rows
end Go.Proofs.YtfilbgmbmlmdbaaGreatDoor
