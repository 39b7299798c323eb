/-
  DERIVED. GIVEN WITH THE SEED: THE CARDS: each row of Qxb6604225aDoorRows.lean that lists a variable, with what it lists TIED to the program's text (the seventh form; the later family's looks); each row that meets fmt, with fmt's text TOLD by the authors' own Lean function (tested against real Go, not proved from fmt's source: count such statements apart). THE CARD IS WHAT COUNTS. Prove the row's statement (the work); the ties are given (Qxb6604225aDoorTie.lean); close each card by the builder's one call (the guide's Derived/Test/ToyasCard.lean, 'card_holds'). Laid BY PROGRAM, IN A SANDBOX (cutbox-door.mjs). By AI agents, Wed Nov 11 2026. No macro, syntax, notation, axiom, sorry.
-/
import Derived.Test.Qxb6604225aDoorRows
import GoSem.ClaimSeven
namespace Go.Proofs.Qxb6604225aDoor
namespace Rows

/-- THE TIED CARD OF 'zzlaws_mountinfo_b1.FnUnescapeInvertsMountinfoEscape'. -/
def fnUnescapeInvertsMountinfoEscapeCard : Claim7 := { stood := { row := fnUnescapeInvertsMountinfoEscapeRow, standIns := [], harness := (true, "e2b16895fd88377bae1bb1453a8957f2eab50b3ef94d05b93b79135db507eaad"), looks := true }, kinds := [], alts := [], laidByText := true, laidKinds := [.data, .data, .data, .sentinel, .sentinel], laidTests := true, laidLooks := .later }
def FnUnescapeInvertsMountinfoEscapeCardSaid : Prop := Claim7.holds Tryd.pinned (.plain (OpenSpec.ofChange fnUnescapeInvertsMountinfoEscapeSpec)) fnUnescapeInvertsMountinfoEscapeCard

/-- THE TIED CARD OF 'zzlaws_mountinfo_b1.FnUnescapeLengthBounds'. -/
def fnUnescapeLengthBoundsCard : Claim7 := { stood := { row := fnUnescapeLengthBoundsRow, standIns := [], harness := (true, "e2b16895fd88377bae1bb1453a8957f2eab50b3ef94d05b93b79135db507eaad"), looks := true }, kinds := [], alts := [], laidByText := true, laidKinds := [.data, .data, .data, .sentinel, .sentinel], laidTests := true, laidLooks := .later }
def FnUnescapeLengthBoundsCardSaid : Prop := Claim7.holds Tryd.pinned (.plain (OpenSpec.ofChange fnUnescapeLengthBoundsSpec)) fnUnescapeLengthBoundsCard
end Rows
end Go.Proofs.Qxb6604225aDoor
