/-
  DERIVED. GIVEN WITH THE SEED: THE CARDS: each row of YtfoegolfadhmjaaGreatDoorRows.lean that lists a variable, with what it lists TIED to the program's text (the seventh form; the later family's looks); each row that meets fmt, with fmt's text TOLD by the authors' own Lean function (tested against real Go, not proved from fmt's source: count such statements apart). THE CARD IS WHAT COUNTS. Prove the row's statement (the work); the ties are given (YtfoegolfadhmjaaGreatDoorTie.lean); close each card by the builder's one call (the guide's Derived/Test/ToyasCard.lean, 'card_holds'). Laid BY PROGRAM, IN A SANDBOX (cutbox-door.mjs). By AI agents, Wed Nov 11 2026. No macro, syntax, notation, axiom, sorry.
-/
import Derived.Test.YtfoegolfadhmjaaGreatDoorRows
import GoSem.ClaimSeven
namespace Go.Proofs.YtfoegolfadhmjaaGreatDoor
namespace Rows

/-- THE TIED CARD OF 'laws.FnReadDetach'. -/
def fnReadDetachCard : Claim7 := { stood := { row := fnReadDetachRow, standIns := [], harness := (true, "07602ffb06a6c960d0abeb22ff7e34fae122d74c4eee09c732784a76be53c40a"), looks := true }, kinds := [], alts := [], laidByText := true, laidKinds := [.data, .sentinel, .pinned], laidTests := true, laidLooks := .later }
def FnReadDetachCardSaid : Prop := Claim7.holds Tryz.pinned (.plain (OpenSpec.ofChange fnReadDetachSpec)) fnReadDetachCard

/-- THE TIED CARD OF 'laws.FnReadFault'. -/
def fnReadFaultCard : Claim7 := { stood := { row := fnReadFaultRow, standIns := [], harness := (true, "07602ffb06a6c960d0abeb22ff7e34fae122d74c4eee09c732784a76be53c40a"), looks := true }, kinds := [], alts := [], laidByText := true, laidKinds := [.data, .sentinel, .pinned], laidTests := true, laidLooks := .later }
def FnReadFaultCardSaid : Prop := Claim7.holds Tryz.pinned (.plain (OpenSpec.ofChange fnReadFaultSpec)) fnReadFaultCard

/-- THE TIED CARD OF 'laws.FnReadBegin'. -/
def fnReadBeginCard : Claim7 := { stood := { row := fnReadBeginRow, standIns := [], harness := (true, "07602ffb06a6c960d0abeb22ff7e34fae122d74c4eee09c732784a76be53c40a"), looks := true }, kinds := [], alts := [], laidByText := true, laidKinds := [.data, .sentinel, .pinned], laidTests := true, laidLooks := .later }
def FnReadBeginCardSaid : Prop := Claim7.holds Tryz.pinned (.plain (OpenSpec.ofChange fnReadBeginSpec)) fnReadBeginCard

/-- THE SECOND FORM's CARD OF 'laws.FnReadDetach'. -/
def fnReadDetachUptoCard : Claim7 := { stood := { row := fnReadDetachUptoRow, standIns := [], harness := (true, "07602ffb06a6c960d0abeb22ff7e34fae122d74c4eee09c732784a76be53c40a"), looks := true }, kinds := [], alts := [], laidByText := true, laidKinds := [.data, .sentinel, .pinned], laidTests := true, laidLooks := .later }
def FnReadDetachUptoCardSaid : Prop := Claim7.holds Tryz.pinned (.plain (OpenSpec.upto fnReadDetachSpec)) fnReadDetachUptoCard

/-- THE SECOND FORM's CARD OF 'laws.FnReadFault'. -/
def fnReadFaultUptoCard : Claim7 := { stood := { row := fnReadFaultUptoRow, standIns := [], harness := (true, "07602ffb06a6c960d0abeb22ff7e34fae122d74c4eee09c732784a76be53c40a"), looks := true }, kinds := [], alts := [], laidByText := true, laidKinds := [.data, .sentinel, .pinned], laidTests := true, laidLooks := .later }
def FnReadFaultUptoCardSaid : Prop := Claim7.holds Tryz.pinned (.plain (OpenSpec.upto fnReadFaultSpec)) fnReadFaultUptoCard

/-- THE SECOND FORM's CARD OF 'laws.FnReadBegin'. -/
def fnReadBeginUptoCard : Claim7 := { stood := { row := fnReadBeginUptoRow, standIns := [], harness := (true, "07602ffb06a6c960d0abeb22ff7e34fae122d74c4eee09c732784a76be53c40a"), looks := true }, kinds := [], alts := [], laidByText := true, laidKinds := [.data, .sentinel, .pinned], laidTests := true, laidLooks := .later }
def FnReadBeginUptoCardSaid : Prop := Claim7.holds Tryz.pinned (.plain (OpenSpec.upto fnReadBeginSpec)) fnReadBeginUptoCard
end Rows
end Go.Proofs.YtfoegolfadhmjaaGreatDoor
