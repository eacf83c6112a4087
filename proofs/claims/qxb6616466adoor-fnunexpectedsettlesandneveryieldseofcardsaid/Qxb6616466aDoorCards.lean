/-
  DERIVED. GIVEN WITH THE SEED: THE CARDS: each row of Qxb6616466aDoorRows.lean that lists a variable, with what it lists TIED to the program's text (the seventh form; the later family's looks); each row that meets fmt, with fmt's text TOLD by the authors' own Lean function (tested against real Go, not proved from fmt's source: count such statements apart). THE CARD IS WHAT COUNTS. Prove the row's statement (the work); the ties are given (Qxb6616466aDoorTie.lean); close each card by the builder's one call (the guide's Derived/Test/ToyasCard.lean, 'card_holds'). Laid BY PROGRAM, IN A SANDBOX (cutbox-door.mjs). By AI agents, Wed Nov 11 2026. No macro, syntax, notation, axiom, sorry.
-/
import Derived.Test.Qxb6616466aDoorRows
import GoSem.ClaimSeven
namespace Go.Proofs.Qxb6616466aDoor
namespace Rows

/-- THE TIED CARD OF 'zzlaws_pkg_wire_b1.FnNewLineReaderYieldsWhatItCarries'. -/
def fnNewLineReaderYieldsWhatItCarriesCard : Claim7 := { stood := { row := fnNewLineReaderYieldsWhatItCarriesRow, standIns := [], harness := (true, "fee79668dd06e80ab6c3624a66f280a10d7014b24ca07ce21b7cbef26af2ce10"), looks := true }, kinds := [], alts := [], laidByText := true, laidKinds := [.sentinel, .sentinel], laidTests := true, laidLooks := .later }
def FnNewLineReaderYieldsWhatItCarriesCardSaid : Prop := Claim7.holds Tryd.pinned (.plain (OpenSpec.ofChange fnNewLineReaderYieldsWhatItCarriesSpec)) fnNewLineReaderYieldsWhatItCarriesCard

/-- THE TIED CARD OF 'zzlaws_pkg_wire_b1.FnNewLineReaderHoldsWholeLine'. -/
def fnNewLineReaderHoldsWholeLineCard : Claim7 := { stood := { row := fnNewLineReaderHoldsWholeLineRow, standIns := [], harness := (true, "fee79668dd06e80ab6c3624a66f280a10d7014b24ca07ce21b7cbef26af2ce10"), looks := true }, kinds := [], alts := [], laidByText := true, laidKinds := [.sentinel, .sentinel, .sentinel], laidTests := true, laidLooks := .later }
def FnNewLineReaderHoldsWholeLineCardSaid : Prop := Claim7.holds Tryd.pinned (.plain (OpenSpec.ofChange fnNewLineReaderHoldsWholeLineSpec)) fnNewLineReaderHoldsWholeLineCard

/-- THE TIED CARD OF 'zzlaws_pkg_wire_b1.FnUnexpectedPassesOtherErrorsThrough'. -/
def fnUnexpectedPassesOtherErrorsThroughCard : Claim7 := { stood := { row := fnUnexpectedPassesOtherErrorsThroughRow, standIns := [], harness := (true, "fee79668dd06e80ab6c3624a66f280a10d7014b24ca07ce21b7cbef26af2ce10"), looks := true }, kinds := [], alts := [], laidByText := true, laidKinds := [.sentinel, .sentinel], laidTests := true, laidLooks := .later }
def FnUnexpectedPassesOtherErrorsThroughCardSaid : Prop := Claim7.holds Tryd.pinned (.plain (OpenSpec.ofChange fnUnexpectedPassesOtherErrorsThroughSpec)) fnUnexpectedPassesOtherErrorsThroughCard

/-- THE TIED CARD OF 'zzlaws_pkg_wire_b1.FnUnexpectedSettlesAndNeverYieldsEOF'. -/
def fnUnexpectedSettlesAndNeverYieldsEOFCard : Claim7 := { stood := { row := fnUnexpectedSettlesAndNeverYieldsEOFRow, standIns := [], harness := (true, "fee79668dd06e80ab6c3624a66f280a10d7014b24ca07ce21b7cbef26af2ce10"), looks := true }, kinds := [], alts := [], laidByText := true, laidKinds := [.sentinel, .sentinel], laidTests := true, laidLooks := .later }
def FnUnexpectedSettlesAndNeverYieldsEOFCardSaid : Prop := Claim7.holds Tryd.pinned (.plain (OpenSpec.ofChange fnUnexpectedSettlesAndNeverYieldsEOFSpec)) fnUnexpectedSettlesAndNeverYieldsEOFCard
end Rows
end Go.Proofs.Qxb6616466aDoor
