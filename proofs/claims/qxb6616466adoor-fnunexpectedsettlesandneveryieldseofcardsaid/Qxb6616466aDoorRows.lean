/-
  NARROWER THAN 'FOR EVERY INPUT', by the rows' own cells (each row's printed sentence says how): FnNewLineReaderYieldsWhatItCarries: laid · FnNewLineReaderHoldsWholeLine: laid · FnUnexpectedPassesOtherErrorsThrough: laid · FnUnexpectedSettlesAndNeverYieldsEOF: laid.
  DERIVED. THE GIVEN ROWS OF THIS SEAT. 4 by the template 'for every input the law returns true; each argument reads behind the call as it read before'; 0 by the template 'total and deterministic' (their statements: Qxb6616466aDoorTotals.lean).
  GIVEN WITH THE SEED: the statements are not yours to turn. If you find one false, say at which input.
  Laid BY PROGRAM, IN A SANDBOX (cutbox-rows.mjs): the forced cells as the released guide's own fill.sh prints them over the translation 43ad75324362cec2… (all of the seat's roots in one cut). By AI agents, Wed Nov 11 2026. No macro, syntax, notation, axiom, sorry.
-/
import Derived.Test.Qxb6616466aDoorChecked
import GoSem.Claim
import GoSem.ClaimJoined
import GoSem.ClaimMapViews
import Derived.JoinedTies
import Derived.KernelRfl
namespace Go.Proofs.Qxb6616466aDoor
/- THE CELL 'sum', in the pinned program and in every row, IS THE sha256 OF THE DUMP (.gsa) THAT Qxb6616466aDoorProg.lean LOADS. Nothing in Lean hashes anything: it is a label: what it is worth is what the hold of that sum in a sandbox is worth. -/
noncomputable def Tryd.pinned : Pinned := { name := "qxb6616466adoor", sum := "43ad75324362cec2d8bacb39e2522ab5ea0e901398b2e1315ba1a6423f0b8f2b", checked := Tryd.checked }
namespace Rows
def none {H : Type} : Left H := { results := [], args := [] }

/- WHAT THE LISTED PACKAGE-LEVEL VARIABLES READ AS WHEN THE CALL BEGINS. Each datum BY PROGRAM (the guide's laid-datum.mjs) off the statement by which the dump's own 'gosem.cut.vars' lays the variable. In a bare row this is a premise. The card (Qxb6616466aDoorCards.lean) ties it to the program's text. -/
def laid_io_ErrNoProgress {H : Type} : DataW H := .iface "*errors.errorString" (.ptr (.agg [.lit (.string [109, 117, 108, 116, 105, 112, 108, 101, 32, 82, 101, 97, 100, 32, 99, 97, 108, 108, 115, 32, 114, 101, 116, 117, 114, 110, 32, 110, 111, 32, 100, 97, 116, 97, 32, 111, 114, 32, 101, 114, 114, 111, 114])]))
def laid_bufio_errNegativeRead {H : Type} : DataW H := .iface "*errors.errorString" (.ptr (.agg [.lit (.string [98, 117, 102, 105, 111, 58, 32, 114, 101, 97, 100, 101, 114, 32, 114, 101, 116, 117, 114, 110, 101, 100, 32, 110, 101, 103, 97, 116, 105, 118, 101, 32, 99, 111, 117, 110, 116, 32, 102, 114, 111, 109, 32, 82, 101, 97, 100])]))
def laid_bufio_ErrBufferFull {H : Type} : DataW H := .iface "*errors.errorString" (.ptr (.agg [.lit (.string [98, 117, 102, 105, 111, 58, 32, 98, 117, 102, 102, 101, 114, 32, 102, 117, 108, 108])]))
def laid_io_EOF {H : Type} : DataW H := .iface "*errors.errorString" (.ptr (.agg [.lit (.string [69, 79, 70])]))
def laid_io_ErrUnexpectedEOF {H : Type} : DataW H := .iface "*errors.errorString" (.ptr (.agg [.lit (.string [117, 110, 101, 120, 112, 101, 99, 116, 101, 100, 32, 69, 79, 70])]))

/-- 'zzlaws_pkg_wire_b1.FnNewLineReaderYieldsWhatItCarries': WHATEVER THE INPUT: true; the input reads as it did. -/
def fnNewLineReaderYieldsWhatItCarriesSpec : ChangeSpec := { name := "fnNewLineReaderYieldsWhatItCarries", fn := fun _ => fun
  | [d] => { results := [.lit (.bool true)], args := [d] }
  | _ => none }
def fnNewLineReaderYieldsWhatItCarriesRow : OpenClaim := { program := "qxb6616466adoor", sum := "43ad75324362cec2d8bacb39e2522ab5ea0e901398b2e1315ba1a6423f0b8f2b", func := "example.com/moverwire/moverwire/zzlaws_pkg_wire_b1.FnNewLineReaderYieldsWhatItCarries", spec := "fnNewLineReaderYieldsWhatItCarries", unfollowed := true, recurses := true, named := ["bufio.errNegativeRead", "io.ErrNoProgress"], apart := false, laid := [("io.ErrNoProgress", laid_io_ErrNoProgress), ("bufio.errNegativeRead", laid_bufio_errNegativeRead)] }
def FnNewLineReaderYieldsWhatItCarriesSaid : Prop := fnNewLineReaderYieldsWhatItCarriesRow.holds Tryd.pinned (OpenSpec.ofChange fnNewLineReaderYieldsWhatItCarriesSpec)

/-- ITS FALSE NEIGHBOUR: 'it returns false'. Refute it at one input. -/
def fnNewLineReaderYieldsWhatItCarriesWrong : ChangeSpec := { name := "fnNewLineReaderYieldsWhatItCarries", fn := fun _ => fun
  | [d] => { results := [.lit (.bool false)], args := [d] }
  | _ => none }
def FnNewLineReaderYieldsWhatItCarriesWrongFalsely : Prop := fnNewLineReaderYieldsWhatItCarriesRow.holds Tryd.pinned (OpenSpec.ofChange fnNewLineReaderYieldsWhatItCarriesWrong)

/-- 'zzlaws_pkg_wire_b1.FnNewLineReaderHoldsWholeLine': WHATEVER THE INPUT: true; the input reads as it did. -/
def fnNewLineReaderHoldsWholeLineSpec : ChangeSpec := { name := "fnNewLineReaderHoldsWholeLine", fn := fun _ => fun
  | [d] => { results := [.lit (.bool true)], args := [d] }
  | _ => none }
def fnNewLineReaderHoldsWholeLineRow : OpenClaim := { program := "qxb6616466adoor", sum := "43ad75324362cec2d8bacb39e2522ab5ea0e901398b2e1315ba1a6423f0b8f2b", func := "example.com/moverwire/moverwire/zzlaws_pkg_wire_b1.FnNewLineReaderHoldsWholeLine", spec := "fnNewLineReaderHoldsWholeLine", inPlace := ["internal/bytealg.IndexByte"], unfollowed := true, recurses := true, named := ["bufio.ErrBufferFull", "bufio.errNegativeRead", "io.ErrNoProgress"], apart := false, laid := [("io.ErrNoProgress", laid_io_ErrNoProgress), ("bufio.ErrBufferFull", laid_bufio_ErrBufferFull), ("bufio.errNegativeRead", laid_bufio_errNegativeRead)] }
def FnNewLineReaderHoldsWholeLineSaid : Prop := fnNewLineReaderHoldsWholeLineRow.holds Tryd.pinned (OpenSpec.ofChange fnNewLineReaderHoldsWholeLineSpec)

/-- ITS FALSE NEIGHBOUR: 'it returns false'. Refute it at one input. -/
def fnNewLineReaderHoldsWholeLineWrong : ChangeSpec := { name := "fnNewLineReaderHoldsWholeLine", fn := fun _ => fun
  | [d] => { results := [.lit (.bool false)], args := [d] }
  | _ => none }
def FnNewLineReaderHoldsWholeLineWrongFalsely : Prop := fnNewLineReaderHoldsWholeLineRow.holds Tryd.pinned (OpenSpec.ofChange fnNewLineReaderHoldsWholeLineWrong)

/-- 'zzlaws_pkg_wire_b1.FnUnexpectedPassesOtherErrorsThrough': WHATEVER THE INPUT: true; the input reads as it did. -/
def fnUnexpectedPassesOtherErrorsThroughSpec : ChangeSpec := { name := "fnUnexpectedPassesOtherErrorsThrough", fn := fun _ => fun
  | [d] => { results := [.lit (.bool true)], args := [d] }
  | _ => none }
def fnUnexpectedPassesOtherErrorsThroughRow : OpenClaim := { program := "qxb6616466adoor", sum := "43ad75324362cec2d8bacb39e2522ab5ea0e901398b2e1315ba1a6423f0b8f2b", func := "example.com/moverwire/moverwire/zzlaws_pkg_wire_b1.FnUnexpectedPassesOtherErrorsThrough", spec := "fnUnexpectedPassesOtherErrorsThrough", named := ["io.EOF", "io.ErrUnexpectedEOF"], apart := false, laid := [("io.EOF", laid_io_EOF), ("io.ErrUnexpectedEOF", laid_io_ErrUnexpectedEOF)] }
def FnUnexpectedPassesOtherErrorsThroughSaid : Prop := fnUnexpectedPassesOtherErrorsThroughRow.holds Tryd.pinned (OpenSpec.ofChange fnUnexpectedPassesOtherErrorsThroughSpec)

/-- ITS FALSE NEIGHBOUR: 'it returns false'. Refute it at one input. -/
def fnUnexpectedPassesOtherErrorsThroughWrong : ChangeSpec := { name := "fnUnexpectedPassesOtherErrorsThrough", fn := fun _ => fun
  | [d] => { results := [.lit (.bool false)], args := [d] }
  | _ => none }
def FnUnexpectedPassesOtherErrorsThroughWrongFalsely : Prop := fnUnexpectedPassesOtherErrorsThroughRow.holds Tryd.pinned (OpenSpec.ofChange fnUnexpectedPassesOtherErrorsThroughWrong)

/-- 'zzlaws_pkg_wire_b1.FnUnexpectedSettlesAndNeverYieldsEOF': WHATEVER THE INPUT: true; the input reads as it did. -/
def fnUnexpectedSettlesAndNeverYieldsEOFSpec : ChangeSpec := { name := "fnUnexpectedSettlesAndNeverYieldsEOF", fn := fun _ => fun
  | [d] => { results := [.lit (.bool true)], args := [d] }
  | _ => none }
def fnUnexpectedSettlesAndNeverYieldsEOFRow : OpenClaim := { program := "qxb6616466adoor", sum := "43ad75324362cec2d8bacb39e2522ab5ea0e901398b2e1315ba1a6423f0b8f2b", func := "example.com/moverwire/moverwire/zzlaws_pkg_wire_b1.FnUnexpectedSettlesAndNeverYieldsEOF", spec := "fnUnexpectedSettlesAndNeverYieldsEOF", named := ["io.EOF", "io.ErrUnexpectedEOF"], apart := false, laid := [("io.EOF", laid_io_EOF), ("io.ErrUnexpectedEOF", laid_io_ErrUnexpectedEOF)] }
def FnUnexpectedSettlesAndNeverYieldsEOFSaid : Prop := fnUnexpectedSettlesAndNeverYieldsEOFRow.holds Tryd.pinned (OpenSpec.ofChange fnUnexpectedSettlesAndNeverYieldsEOFSpec)

/-- ITS FALSE NEIGHBOUR: 'it returns false'. Refute it at one input. -/
def fnUnexpectedSettlesAndNeverYieldsEOFWrong : ChangeSpec := { name := "fnUnexpectedSettlesAndNeverYieldsEOF", fn := fun _ => fun
  | [d] => { results := [.lit (.bool false)], args := [d] }
  | _ => none }
def FnUnexpectedSettlesAndNeverYieldsEOFWrongFalsely : Prop := fnUnexpectedSettlesAndNeverYieldsEOFRow.holds Tryd.pinned (OpenSpec.ofChange fnUnexpectedSettlesAndNeverYieldsEOFWrong)

end Rows
end Go.Proofs.Qxb6616466aDoor
