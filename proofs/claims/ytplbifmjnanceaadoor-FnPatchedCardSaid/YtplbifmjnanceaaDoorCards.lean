/-
  DERIVED. GIVEN WITH THE SEED: THE CARDS: each row of YtplbifmjnanceaaDoorRows.lean that lists a variable, with what it lists TIED to the program's text (the seventh form; the later family's looks); each row that meets fmt, with fmt's text TOLD by the authors' own Lean function (tested against real Go, not proved from fmt's source: count such statements apart). THE CARD IS WHAT COUNTS. Prove the row's statement (the work); the ties are given (YtplbifmjnanceaaDoorTie.lean); close each card by the builder's one call (the guide's Derived/Test/ToyasCard.lean, 'card_holds'). Laid BY PROGRAM, IN A SANDBOX (cutbox-door.mjs). By AI agents, Wed Nov 11 2026. No macro, syntax, notation, axiom, sorry.
-/
import Derived.Test.YtplbifmjnanceaaDoorRows
import GoSem.ClaimSeven
namespace Go.Proofs.YtplbifmjnanceaaDoor
namespace Rows

/-- THE TIED CARD OF 'laws.FnPatched'. -/
def fnPatchedCard : Claim7 := { stood := { row := fnPatchedRow, standIns := [], harness := (true, "13a71f90278f02e5603635c7f89ae732da0d62ea2c436c6fdf1dc597ec7b97dd"), looks := false }, kinds := [], alts := [], laidByText := true, laidKinds := [.data, .data, .data, .data, .listed, .sentinel, .data, .pinned], laidTests := true, laidLooks := .later }
def FnPatchedCardSaid : Prop := Claim7.holds Tryd.pinned (.plain (OpenSpec.ofChange fnPatchedSpec)) fnPatchedCard

/-- THE SECOND FORM's CARD OF 'laws.FnPatched'. -/
def fnPatchedUptoCard : Claim7 := { stood := { row := fnPatchedUptoRow, standIns := [], harness := (true, "13a71f90278f02e5603635c7f89ae732da0d62ea2c436c6fdf1dc597ec7b97dd"), looks := false }, kinds := [], alts := [], laidByText := true, laidKinds := [.data, .data, .data, .data, .listed, .sentinel, .data, .pinned], laidTests := true, laidLooks := .later }
def FnPatchedUptoCardSaid : Prop := Claim7.holds Tryd.pinned (.plain (OpenSpec.upto fnPatchedSpec)) fnPatchedUptoCard
end Rows
end Go.Proofs.YtplbifmjnanceaaDoor
