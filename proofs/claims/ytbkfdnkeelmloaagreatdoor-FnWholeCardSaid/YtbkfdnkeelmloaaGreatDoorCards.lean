/-
  DERIVED. GIVEN WITH THE SEED: THE CARDS: each row of YtbkfdnkeelmloaaGreatDoorRows.lean that lists a variable, with what it lists TIED to the program's text (the seventh form; the later family's looks); each row that meets fmt, with fmt's text TOLD by the authors' own Lean function (tested against real Go, not proved from fmt's source: count such statements apart). THE CARD IS WHAT COUNTS. Prove the row's statement (the work); the ties are given (YtbkfdnkeelmloaaGreatDoorTie.lean); close each card by the builder's one call (the guide's Derived/Test/ToyasCard.lean, 'card_holds'). Laid BY PROGRAM, IN A SANDBOX (cutbox-door.mjs). By AI agents, Wed Nov 11 2026. No macro, syntax, notation, axiom, sorry.
-/
import Derived.Test.YtbkfdnkeelmloaaGreatDoorRows
import GoSem.ClaimSeven
namespace Go.Proofs.YtbkfdnkeelmloaaGreatDoor
namespace Rows

/-- THE TIED CARD OF 'laws.FnWhole'. -/
def fnWholeCard : Claim7 := { stood := { row := fnWholeRow, standIns := [], harness := (true, "a8d57a4d82625d9a7ea48897b2bf8935f000bc4f999f6c90e4b175120b143ade"), looks := true }, kinds := [], alts := [], laidByText := true, laidKinds := [.data, .data, .data, .data, .sentinel, .data, .data, .mapped, .mapped, .mapped, .sentinel, .pinned, .pinned], laidTests := true, laidLooks := .later }
def FnWholeCardSaid : Prop := Claim7.holds Tryz.pinned (.plain (OpenSpec.ofChange fnWholeSpec)) fnWholeCard

/-- THE TIED CARD OF 'laws.FnWholeSeek'. -/
def fnWholeSeekCard : Claim7 := { stood := { row := fnWholeSeekRow, standIns := [], harness := (true, "a8d57a4d82625d9a7ea48897b2bf8935f000bc4f999f6c90e4b175120b143ade"), looks := true }, kinds := [], alts := [], laidByText := true, laidKinds := [.data, .data, .data, .data, .sentinel, .data, .data, .mapped, .mapped, .mapped, .sentinel, .pinned, .pinned], laidTests := true, laidLooks := .later }
def FnWholeSeekCardSaid : Prop := Claim7.holds Tryz.pinned (.plain (OpenSpec.ofChange fnWholeSeekSpec)) fnWholeSeekCard

/-- THE SECOND FORM's CARD OF 'laws.FnWhole'. -/
def fnWholeUptoCard : Claim7 := { stood := { row := fnWholeUptoRow, standIns := [], harness := (true, "a8d57a4d82625d9a7ea48897b2bf8935f000bc4f999f6c90e4b175120b143ade"), looks := true }, kinds := [], alts := [], laidByText := true, laidKinds := [.data, .data, .data, .data, .sentinel, .data, .data, .mapped, .mapped, .mapped, .sentinel, .pinned, .pinned], laidTests := true, laidLooks := .later }
def FnWholeUptoCardSaid : Prop := Claim7.holds Tryz.pinned (.plain (OpenSpec.upto fnWholeSpec)) fnWholeUptoCard

/-- THE SECOND FORM's CARD OF 'laws.FnWholeSeek'. -/
def fnWholeSeekUptoCard : Claim7 := { stood := { row := fnWholeSeekUptoRow, standIns := [], harness := (true, "a8d57a4d82625d9a7ea48897b2bf8935f000bc4f999f6c90e4b175120b143ade"), looks := true }, kinds := [], alts := [], laidByText := true, laidKinds := [.data, .data, .data, .data, .sentinel, .data, .data, .mapped, .mapped, .mapped, .sentinel, .pinned, .pinned], laidTests := true, laidLooks := .later }
def FnWholeSeekUptoCardSaid : Prop := Claim7.holds Tryz.pinned (.plain (OpenSpec.upto fnWholeSeekSpec)) fnWholeSeekUptoCard
end Rows
end Go.Proofs.YtbkfdnkeelmloaaGreatDoor
