/-
  DERIVED. GIVEN WITH THE SEED: THE CARDS: each row of YtannihddhebcpaaGreatDoorRows.lean that lists a variable, with what it lists TIED to the program's text (the seventh form; the later family's looks); each row that meets fmt, with fmt's text TOLD by the authors' own Lean function (tested against real Go, not proved from fmt's source: count such statements apart). THE CARD IS WHAT COUNTS. Prove the row's statement (the work); the ties are given (YtannihddhebcpaaGreatDoorTie.lean); close each card by the builder's one call (the guide's Derived/Test/ToyasCard.lean, 'card_holds'). Laid BY PROGRAM, IN A SANDBOX (cutbox-door.mjs). By AI agents, Wed Nov 11 2026. No macro, syntax, notation, axiom, sorry.
-/
import Derived.Test.YtannihddhebcpaaGreatDoorRows
import GoSem.ClaimSeven
namespace Go.Proofs.YtannihddhebcpaaGreatDoor
namespace Rows

/-- THE TIED CARD OF 'laws.FnPartMembers'. -/
def fnPartMembersCard : Claim7 := { stood := { row := fnPartMembersRow, standIns := [], harness := (true, "cf199e2e4df77de5aa05243330c4609d8ed3d462280485677e34f200c776547b"), looks := true }, kinds := [], alts := [], laidByText := true, laidKinds := [.data, .sentinel, .pinned], laidTests := true, laidLooks := .later }
def FnPartMembersCardSaid : Prop := Claim7.holds Tryz.pinned (.plain (OpenSpec.ofChange fnPartMembersSpec)) fnPartMembersCard

/-- THE SECOND FORM's CARD OF 'laws.FnPartMembers'. -/
def fnPartMembersUptoCard : Claim7 := { stood := { row := fnPartMembersUptoRow, standIns := [], harness := (true, "cf199e2e4df77de5aa05243330c4609d8ed3d462280485677e34f200c776547b"), looks := true }, kinds := [], alts := [], laidByText := true, laidKinds := [.data, .sentinel, .pinned], laidTests := true, laidLooks := .later }
def FnPartMembersUptoCardSaid : Prop := Claim7.holds Tryz.pinned (.plain (OpenSpec.upto fnPartMembersSpec)) fnPartMembersUptoCard
end Rows
end Go.Proofs.YtannihddhebcpaaGreatDoor
