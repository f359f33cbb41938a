/-
  DERIVED. GIVEN WITH THE SEED: THE CARDS: each row of YtlmoafgebiffaaaGreatDoorRows.lean that lists a variable, with what it lists TIED to the program's text (the seventh form; the later family's looks); each row that meets fmt, with fmt's text TOLD by the authors' own Lean function (tested against real Go, not proved from fmt's source: count such statements apart). THE CARD IS WHAT COUNTS. Prove the row's statement (the work); the ties are given (YtlmoafgebiffaaaGreatDoorTie.lean); close each card by the builder's one call (the guide's Derived/Test/ToyasCard.lean, 'card_holds'). Laid BY PROGRAM, IN A SANDBOX (cutbox-door.mjs). By AI agents, Wed Nov 11 2026. No macro, syntax, notation, axiom, sorry.
-/
import Derived.Test.YtlmoafgebiffaaaGreatDoorRows
import GoSem.ClaimSeven
namespace Go.Proofs.YtlmoafgebiffaaaGreatDoor
namespace Rows

/-- THE TIED CARD OF 'laws.FnRangeUserWritten'. -/
def fnRangeUserWrittenCard : Claim7 := { stood := { row := fnRangeUserWrittenRow, standIns := [], harness := (true, "ad1a30d0dafe449d9aaade1ce07ade46841d19fb4af516d2d2ac0cd3d3b45bf6"), looks := false }, kinds := [], alts := [], laidByText := true, laidKinds := [.sentinel], laidTests := true, laidLooks := .later }
def FnRangeUserWrittenCardSaid : Prop := Claim7.holds Tryz.pinned (.plain (OpenSpec.ofChange fnRangeUserWrittenSpec)) fnRangeUserWrittenCard

/-- THE SECOND FORM's CARD OF 'laws.FnRangeUserWritten'. -/
def fnRangeUserWrittenUptoCard : Claim7 := { stood := { row := fnRangeUserWrittenUptoRow, standIns := [], harness := (true, "ad1a30d0dafe449d9aaade1ce07ade46841d19fb4af516d2d2ac0cd3d3b45bf6"), looks := false }, kinds := [], alts := [], laidByText := true, laidKinds := [.sentinel], laidTests := true, laidLooks := .later }
def FnRangeUserWrittenUptoCardSaid : Prop := Claim7.holds Tryz.pinned (.plain (OpenSpec.upto fnRangeUserWrittenSpec)) fnRangeUserWrittenUptoCard
end Rows
end Go.Proofs.YtlmoafgebiffaaaGreatDoor
