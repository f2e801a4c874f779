/-
  DERIVED. GIVEN WITH THE SEED: THE CARDS: each row of YteikiecbjjmkoaaDoorRows.lean that lists a variable, with what it lists TIED to the program's text (the seventh form; the later family's looks); each row that meets fmt, with fmt's text TOLD by the authors' own Lean function (tested against real Go, not proved from fmt's source: count such statements apart). THE CARD IS WHAT COUNTS. Prove the row's statement (the work); the ties are given (YteikiecbjjmkoaaDoorTie.lean); close each card by the builder's one call (the guide's Derived/Test/ToyasCard.lean, 'card_holds'). Laid BY PROGRAM, IN A SANDBOX (cutbox-door.mjs). By AI agents, Wed Nov 11 2026. No macro, syntax, notation, axiom, sorry.
-/
import Derived.Test.YteikiecbjjmkoaaDoorRows
import GoSem.ClaimSeven
namespace Go.Proofs.YteikiecbjjmkoaaDoor
namespace Rows

/-- THE TIED CARD OF 'laws.FnEmptyJoin'. -/
def fnEmptyJoinCard : Claim7 := { stood := { row := fnEmptyJoinRow, standIns := [], harness := (true, "bc1b442e5857b8c749aeea0a4a2ba29f4f99dfdb5d153da03ac0a64f715e3bca"), looks := true }, kinds := [], alts := [], laidByText := true, laidKinds := [.data, .listed, .data, .pinned], laidTests := true, laidLooks := .later }
def FnEmptyJoinCardSaid : Prop := Claim7.holds Tryd.pinned (.plain (OpenSpec.ofChange fnEmptyJoinSpec)) fnEmptyJoinCard

/-- THE TIED CARD OF 'laws.FnEmptyLists'. -/
def fnEmptyListsCard : Claim7 := { stood := { row := fnEmptyListsRow, standIns := [], harness := (true, "bc1b442e5857b8c749aeea0a4a2ba29f4f99dfdb5d153da03ac0a64f715e3bca"), looks := true }, kinds := [], alts := [], laidByText := true, laidKinds := [.data, .listed, .data, .pinned], laidTests := true, laidLooks := .later }
def FnEmptyListsCardSaid : Prop := Claim7.holds Tryd.pinned (.plain (OpenSpec.ofChange fnEmptyListsSpec)) fnEmptyListsCard

/-- THE SECOND FORM's CARD OF 'laws.FnEmptyJoin'. -/
def fnEmptyJoinUptoCard : Claim7 := { stood := { row := fnEmptyJoinUptoRow, standIns := [], harness := (true, "bc1b442e5857b8c749aeea0a4a2ba29f4f99dfdb5d153da03ac0a64f715e3bca"), looks := true }, kinds := [], alts := [], laidByText := true, laidKinds := [.data, .listed, .data, .pinned], laidTests := true, laidLooks := .later }
def FnEmptyJoinUptoCardSaid : Prop := Claim7.holds Tryd.pinned (.plain (OpenSpec.upto fnEmptyJoinSpec)) fnEmptyJoinUptoCard

/-- THE SECOND FORM's CARD OF 'laws.FnEmptyLists'. -/
def fnEmptyListsUptoCard : Claim7 := { stood := { row := fnEmptyListsUptoRow, standIns := [], harness := (true, "bc1b442e5857b8c749aeea0a4a2ba29f4f99dfdb5d153da03ac0a64f715e3bca"), looks := true }, kinds := [], alts := [], laidByText := true, laidKinds := [.data, .listed, .data, .pinned], laidTests := true, laidLooks := .later }
def FnEmptyListsUptoCardSaid : Prop := Claim7.holds Tryd.pinned (.plain (OpenSpec.upto fnEmptyListsSpec)) fnEmptyListsUptoCard
end Rows
end Go.Proofs.YteikiecbjjmkoaaDoor
