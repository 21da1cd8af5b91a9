/-
  DERIVED. GIVEN WITH THE SEED: THE CARDS: each row of YtfejflhgaphilaaGreatDoorRows.lean that lists a variable, with what it lists TIED to the program's text (the seventh form; the later family's looks); each row that meets fmt, with fmt's text TOLD by the authors' own Lean function (tested against real Go, not proved from fmt's source: count such statements apart). THE CARD IS WHAT COUNTS. Prove the row's statement (the work); the ties are given (YtfejflhgaphilaaGreatDoorTie.lean); close each card by the builder's one call (the guide's Derived/Test/ToyasCard.lean, 'card_holds'). Laid BY PROGRAM, IN A SANDBOX (cutbox-door.mjs). By AI agents, Wed Nov 11 2026. No macro, syntax, notation, axiom, sorry.
-/
import Derived.Test.YtfejflhgaphilaaGreatDoorRows
import GoSem.ClaimSeven
namespace Go.Proofs.YtfejflhgaphilaaGreatDoor
namespace Rows

/-- THE TIED CARD OF 'laws.FnSortedSet'. -/
def fnSortedSetCard : Claim7 := { stood := { row := fnSortedSetRow, standIns := [], harness := (true, "c7aaaec4ffdaf7ad66685077d182407132088da2a7498e0688bee76c3c8aff76"), looks := true }, kinds := [], alts := [], laidByText := true, laidKinds := [.data, .data, .data], laidTests := true, laidLooks := .later }
def FnSortedSetCardSaid : Prop := Claim7.holds Tryz.pinned (.plain (OpenSpec.ofChange fnSortedSetSpec)) fnSortedSetCard

/-- THE TIED CARD OF 'laws.FnSortedWalk'. -/
def fnSortedWalkCard : Claim7 := { stood := { row := fnSortedWalkRow, standIns := [], harness := (true, "c7aaaec4ffdaf7ad66685077d182407132088da2a7498e0688bee76c3c8aff76"), looks := true }, kinds := [], alts := [], laidByText := true, laidKinds := [.data, .data, .data], laidTests := true, laidLooks := .later }
def FnSortedWalkCardSaid : Prop := Claim7.holds Tryz.pinned (.plain (OpenSpec.ofChange fnSortedWalkSpec)) fnSortedWalkCard

/-- THE SECOND FORM's CARD OF 'laws.FnSortedSet'. -/
def fnSortedSetUptoCard : Claim7 := { stood := { row := fnSortedSetUptoRow, standIns := [], harness := (true, "c7aaaec4ffdaf7ad66685077d182407132088da2a7498e0688bee76c3c8aff76"), looks := true }, kinds := [], alts := [], laidByText := true, laidKinds := [.data, .data, .data], laidTests := true, laidLooks := .later }
def FnSortedSetUptoCardSaid : Prop := Claim7.holds Tryz.pinned (.plain (OpenSpec.upto fnSortedSetSpec)) fnSortedSetUptoCard

/-- THE SECOND FORM's CARD OF 'laws.FnSortedWalk'. -/
def fnSortedWalkUptoCard : Claim7 := { stood := { row := fnSortedWalkUptoRow, standIns := [], harness := (true, "c7aaaec4ffdaf7ad66685077d182407132088da2a7498e0688bee76c3c8aff76"), looks := true }, kinds := [], alts := [], laidByText := true, laidKinds := [.data, .data, .data], laidTests := true, laidLooks := .later }
def FnSortedWalkUptoCardSaid : Prop := Claim7.holds Tryz.pinned (.plain (OpenSpec.upto fnSortedWalkSpec)) fnSortedWalkUptoCard
end Rows
end Go.Proofs.YtfejflhgaphilaaGreatDoor
