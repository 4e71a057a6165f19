/-
  DERIVED. GIVEN WITH THE SEED: THE CARDS: each row of YtbkimfhlgpgoiaaGreatDoorRows.lean that lists a variable, with what it lists TIED to the program's text (the seventh form; the later family's looks); each row that meets fmt, with fmt's text TOLD by the authors' own Lean function (tested against real Go, not proved from fmt's source: count such statements apart). THE CARD IS WHAT COUNTS. Prove the row's statement (the work); the ties are given (YtbkimfhlgpgoiaaGreatDoorTie.lean); close each card by the builder's one call (the guide's Derived/Test/ToyasCard.lean, 'card_holds'). Laid BY PROGRAM, IN A SANDBOX (cutbox-door.mjs). By AI agents, Wed Nov 11 2026. No macro, syntax, notation, axiom, sorry.
-/
import Derived.Test.YtbkimfhlgpgoiaaGreatDoorRows
import GoSem.ClaimSeven
namespace Go.Proofs.YtbkimfhlgpgoiaaGreatDoor
namespace Rows

/-- THE TIED CARD OF 'laws.FnUnescape'. -/
def fnUnescapeCard : Claim7 := { stood := { row := fnUnescapeRow, standIns := [], harness := (true, "059efe3e0d3b6c5d48bc1ed5d04f3c1b000a73e5780f9a2c661e58939024274a"), looks := true }, kinds := [], alts := [], laidByText := true, laidKinds := [.data, .pinned], laidTests := true, laidLooks := .later }
def FnUnescapeCardSaid : Prop := Claim7.holds Tryz.pinned (.plain (OpenSpec.ofChange fnUnescapeSpec)) fnUnescapeCard

/-- THE TIED CARD OF 'laws.FnEscapeTest'. -/
def fnEscapeTestCard : Claim7 := { stood := { row := fnEscapeTestRow, standIns := [], harness := (true, "059efe3e0d3b6c5d48bc1ed5d04f3c1b000a73e5780f9a2c661e58939024274a"), looks := true }, kinds := [], alts := [], laidByText := true, laidKinds := [.data, .listed, .pinned, .pinned], laidTests := true, laidLooks := .later }
def FnEscapeTestCardSaid : Prop := Claim7.holds Tryz.pinned (.plain (OpenSpec.ofChange fnEscapeTestSpec)) fnEscapeTestCard

/-- THE TIED CARD OF 'laws.FnFencedPlain'. -/
def fnFencedPlainCard : Claim7 := { stood := { row := fnFencedPlainRow, standIns := [], harness := (true, "059efe3e0d3b6c5d48bc1ed5d04f3c1b000a73e5780f9a2c661e58939024274a"), looks := true }, kinds := [], alts := [], laidByText := true, laidKinds := [.listed], laidTests := true, laidLooks := .later }
def FnFencedPlainCardSaid : Prop := Claim7.holds Tryz.pinned (.plain (OpenSpec.ofChange fnFencedPlainSpec)) fnFencedPlainCard

/-- THE SECOND FORM's CARD OF 'laws.FnUnescape'. -/
def fnUnescapeUptoCard : Claim7 := { stood := { row := fnUnescapeUptoRow, standIns := [], harness := (true, "059efe3e0d3b6c5d48bc1ed5d04f3c1b000a73e5780f9a2c661e58939024274a"), looks := true }, kinds := [], alts := [], laidByText := true, laidKinds := [.data, .pinned], laidTests := true, laidLooks := .later }
def FnUnescapeUptoCardSaid : Prop := Claim7.holds Tryz.pinned (.plain (OpenSpec.upto fnUnescapeSpec)) fnUnescapeUptoCard

/-- THE SECOND FORM's CARD OF 'laws.FnEscapeTest'. -/
def fnEscapeTestUptoCard : Claim7 := { stood := { row := fnEscapeTestUptoRow, standIns := [], harness := (true, "059efe3e0d3b6c5d48bc1ed5d04f3c1b000a73e5780f9a2c661e58939024274a"), looks := true }, kinds := [], alts := [], laidByText := true, laidKinds := [.data, .listed, .pinned, .pinned], laidTests := true, laidLooks := .later }
def FnEscapeTestUptoCardSaid : Prop := Claim7.holds Tryz.pinned (.plain (OpenSpec.upto fnEscapeTestSpec)) fnEscapeTestUptoCard

/-- THE SECOND FORM's CARD OF 'laws.FnFencedPlain'. -/
def fnFencedPlainUptoCard : Claim7 := { stood := { row := fnFencedPlainUptoRow, standIns := [], harness := (true, "059efe3e0d3b6c5d48bc1ed5d04f3c1b000a73e5780f9a2c661e58939024274a"), looks := true }, kinds := [], alts := [], laidByText := true, laidKinds := [.listed], laidTests := true, laidLooks := .later }
def FnFencedPlainUptoCardSaid : Prop := Claim7.holds Tryz.pinned (.plain (OpenSpec.upto fnFencedPlainSpec)) fnFencedPlainUptoCard
end Rows
end Go.Proofs.YtbkimfhlgpgoiaaGreatDoor
