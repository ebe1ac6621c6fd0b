/-
  DERIVED. GIVEN WITH THE SEED: THE CARDS: each row of YtkcgngpoegglnaaGreatDoorRows.lean that lists a variable, with what it lists TIED to the program's text (the seventh form; the later family's looks); each row that meets fmt, with fmt's text TOLD by the authors' own Lean function (tested against real Go, not proved from fmt's source: count such statements apart). THE CARD IS WHAT COUNTS. Prove the row's statement (the work); the ties are given (YtkcgngpoegglnaaGreatDoorTie.lean); close each card by the builder's one call (the guide's Derived/Test/ToyasCard.lean, 'card_holds'). Laid BY PROGRAM, IN A SANDBOX (cutbox-door.mjs). By AI agents, Wed Nov 11 2026. No macro, syntax, notation, axiom, sorry.
-/
import Derived.Test.YtkcgngpoegglnaaGreatDoorRows
import GoSem.ClaimSeven
namespace Go.Proofs.YtkcgngpoegglnaaGreatDoor
namespace Rows

/-- THE TIED CARD OF 'laws.FnFormat'. -/
def fnFormatCard : Claim7 := { stood := { row := fnFormatRow, standIns := [], harness := (true, "03b69f8f0a17d703f26c0bf9088e7538cdaa548dc6d9ad9ebb559703f5f6d9ef"), looks := true }, kinds := [], alts := [], laidByText := true, laidKinds := [.data, .data, .data, .data, .data, .pinned], laidTests := true, laidLooks := .later }
def FnFormatCardSaid : Prop := Claim7.holds Tryz.pinned (.plain (OpenSpec.ofChange fnFormatSpec)) fnFormatCard

/-- THE TIED CARD OF 'laws.FnOne'. -/
def fnOneCard : Claim7 := { stood := { row := fnOneRow, standIns := [], harness := (true, "03b69f8f0a17d703f26c0bf9088e7538cdaa548dc6d9ad9ebb559703f5f6d9ef"), looks := true }, kinds := [], alts := [], laidByText := true, laidKinds := [.data, .data, .data, .data, .data, .pinned], laidTests := true, laidLooks := .later }
def FnOneCardSaid : Prop := Claim7.holds Tryz.pinned (.plain (OpenSpec.ofChange fnOneSpec)) fnOneCard

/-- THE SECOND FORM's CARD OF 'laws.FnFormat'. -/
def fnFormatUptoCard : Claim7 := { stood := { row := fnFormatUptoRow, standIns := [], harness := (true, "03b69f8f0a17d703f26c0bf9088e7538cdaa548dc6d9ad9ebb559703f5f6d9ef"), looks := true }, kinds := [], alts := [], laidByText := true, laidKinds := [.data, .data, .data, .data, .data, .pinned], laidTests := true, laidLooks := .later }
def FnFormatUptoCardSaid : Prop := Claim7.holds Tryz.pinned (.plain (OpenSpec.upto fnFormatSpec)) fnFormatUptoCard

/-- THE SECOND FORM's CARD OF 'laws.FnOne'. -/
def fnOneUptoCard : Claim7 := { stood := { row := fnOneUptoRow, standIns := [], harness := (true, "03b69f8f0a17d703f26c0bf9088e7538cdaa548dc6d9ad9ebb559703f5f6d9ef"), looks := true }, kinds := [], alts := [], laidByText := true, laidKinds := [.data, .data, .data, .data, .data, .pinned], laidTests := true, laidLooks := .later }
def FnOneUptoCardSaid : Prop := Claim7.holds Tryz.pinned (.plain (OpenSpec.upto fnOneSpec)) fnOneUptoCard
end Rows
end Go.Proofs.YtkcgngpoegglnaaGreatDoor
