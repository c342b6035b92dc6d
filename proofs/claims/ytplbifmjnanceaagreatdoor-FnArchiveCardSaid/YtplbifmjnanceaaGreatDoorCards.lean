/-
  DERIVED. GIVEN WITH THE SEED: THE CARDS: each row of YtplbifmjnanceaaGreatDoorRows.lean that lists a variable, with what it lists TIED to the program's text (the seventh form; the later family's looks); each row that meets fmt, with fmt's text TOLD by the authors' own Lean function (tested against real Go, not proved from fmt's source: count such statements apart). THE CARD IS WHAT COUNTS. Prove the row's statement (the work); the ties are given (YtplbifmjnanceaaGreatDoorTie.lean); close each card by the builder's one call (the guide's Derived/Test/ToyasCard.lean, 'card_holds'). Laid BY PROGRAM, IN A SANDBOX (cutbox-door.mjs). By AI agents, Wed Nov 11 2026. No macro, syntax, notation, axiom, sorry.
-/
import Derived.Test.YtplbifmjnanceaaGreatDoorRows
import GoSem.ClaimSeven
namespace Go.Proofs.YtplbifmjnanceaaGreatDoor
namespace Rows

/-- THE TIED CARD OF 'laws.FnArchive'. -/
def fnArchiveCard : Claim7 := { stood := { row := fnArchiveRow, standIns := [], harness := (true, "306643ef8887a44e087fd7712efe53eff762779ad0b9465f4ecd7182f4136dc1"), looks := false }, kinds := [], alts := [], laidByText := true, laidKinds := [.data, .data, .data, .data, .listed, .sentinel, .data, .pinned], laidTests := true, laidLooks := .later }
def FnArchiveCardSaid : Prop := Claim7.holds Tryz.pinned (.plain (OpenSpec.ofChange fnArchiveSpec)) fnArchiveCard

/-- THE SECOND FORM's CARD OF 'laws.FnArchive'. -/
def fnArchiveUptoCard : Claim7 := { stood := { row := fnArchiveUptoRow, standIns := [], harness := (true, "306643ef8887a44e087fd7712efe53eff762779ad0b9465f4ecd7182f4136dc1"), looks := false }, kinds := [], alts := [], laidByText := true, laidKinds := [.data, .data, .data, .data, .listed, .sentinel, .data, .pinned], laidTests := true, laidLooks := .later }
def FnArchiveUptoCardSaid : Prop := Claim7.holds Tryz.pinned (.plain (OpenSpec.upto fnArchiveSpec)) fnArchiveUptoCard
end Rows
end Go.Proofs.YtplbifmjnanceaaGreatDoor
