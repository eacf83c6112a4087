/-
  No cell of these rows narrows 'for every input' (looked for: loops, veiled, ifaces, maps, wideKeys, modest, calm, conditions, laid).
  DERIVED. THE GIVEN ROWS OF THIS SEAT. 4 by the template 'for every input the law returns true; each argument reads behind the call as it read before'; 0 by the template 'total and deterministic' (their statements: Qxb6616466aTotals.lean).
  GIVEN WITH THE SEED: the statements are not yours to turn. If you find one false, say at which input.
  Laid BY PROGRAM, IN A SANDBOX (cutbox-rows.mjs): the forced cells as the released guide's own fill.sh prints them over the translation 162a111c9bb2d642… (all of the seat's roots in one cut). By AI agents, Wed Nov 11 2026. No macro, syntax, notation, axiom, sorry.
-/
import Derived.Test.Qxb6616466aChecked
import GoSem.Claim
import GoSem.ClaimJoined
import GoSem.ClaimMapViews
import Derived.JoinedTies
import Derived.KernelRfl
namespace Go.Proofs.Qxb6616466a
/- THE CELL 'sum', in the pinned program and in every row, IS THE sha256 OF THE DUMP (.gsa) THAT Qxb6616466aProg.lean LOADS. Nothing in Lean hashes anything: it is a label: what it is worth is what the hold of that sum in a sandbox is worth. -/
noncomputable def Try.pinned : Pinned := { name := "qxb6616466a", sum := "162a111c9bb2d642f4c54dc005c71b8bc310f1f9a5fe8d4a52b69373c1796573", checked := Try.checked }
namespace Rows
def none {H : Type} : Left H := { results := [], args := [] }

/-- 'zzlaws_pkg_wire_b1.FnAppendRequestTwoFramesDecode': WHATEVER THE INPUT: true; the input reads as it did. -/
def fnAppendRequestTwoFramesDecodeSpec : ChangeSpec := { name := "fnAppendRequestTwoFramesDecode", fn := fun _ => fun
  | [d1, d2, d3, d4, d5] => { results := [.lit (.bool true)], args := [d1, d2, d3, d4, d5] }
  | _ => none }
def fnAppendRequestTwoFramesDecodeRow : OpenClaim := { program := "qxb6616466a", sum := "162a111c9bb2d642f4c54dc005c71b8bc310f1f9a5fe8d4a52b69373c1796573", func := "example.com/moverwire/moverwire/zzlaws_pkg_wire_b1.FnAppendRequestTwoFramesDecode", spec := "fnAppendRequestTwoFramesDecode", named := ["encoding/binary.BigEndian"], apart := false }
def FnAppendRequestTwoFramesDecodeSaid : Prop := fnAppendRequestTwoFramesDecodeRow.holds Try.pinned (OpenSpec.ofChange fnAppendRequestTwoFramesDecodeSpec)

/-- ITS FALSE NEIGHBOUR: 'it returns false'. Refute it at one input. -/
def fnAppendRequestTwoFramesDecodeWrong : ChangeSpec := { name := "fnAppendRequestTwoFramesDecode", fn := fun _ => fun
  | [d1, d2, d3, d4, d5] => { results := [.lit (.bool false)], args := [d1, d2, d3, d4, d5] }
  | _ => none }
def FnAppendRequestTwoFramesDecodeWrongFalsely : Prop := fnAppendRequestTwoFramesDecodeRow.holds Try.pinned (OpenSpec.ofChange fnAppendRequestTwoFramesDecodeWrong)

/-- 'zzlaws_pkg_wire_b1.FnAppendRequestIsPrefixFree': WHATEVER THE INPUT: true; the input reads as it did. -/
def fnAppendRequestIsPrefixFreeSpec : ChangeSpec := { name := "fnAppendRequestIsPrefixFree", fn := fun _ => fun
  | [d1, d2, d3] => { results := [.lit (.bool true)], args := [d1, d2, d3] }
  | _ => none }
def fnAppendRequestIsPrefixFreeRow : OpenClaim := { program := "qxb6616466a", sum := "162a111c9bb2d642f4c54dc005c71b8bc310f1f9a5fe8d4a52b69373c1796573", func := "example.com/moverwire/moverwire/zzlaws_pkg_wire_b1.FnAppendRequestIsPrefixFree", spec := "fnAppendRequestIsPrefixFree", named := ["encoding/binary.BigEndian"], apart := false }
def FnAppendRequestIsPrefixFreeSaid : Prop := fnAppendRequestIsPrefixFreeRow.holds Try.pinned (OpenSpec.ofChange fnAppendRequestIsPrefixFreeSpec)

/-- ITS FALSE NEIGHBOUR: 'it returns false'. Refute it at one input. -/
def fnAppendRequestIsPrefixFreeWrong : ChangeSpec := { name := "fnAppendRequestIsPrefixFree", fn := fun _ => fun
  | [d1, d2, d3] => { results := [.lit (.bool false)], args := [d1, d2, d3] }
  | _ => none }
def FnAppendRequestIsPrefixFreeWrongFalsely : Prop := fnAppendRequestIsPrefixFreeRow.holds Try.pinned (OpenSpec.ofChange fnAppendRequestIsPrefixFreeWrong)

/-- 'zzlaws_pkg_wire_b1.FnAppendDataHeaderIsEmptyDataRequest': WHATEVER THE INPUT: true; the input reads as it did. -/
def fnAppendDataHeaderIsEmptyDataRequestSpec : ChangeSpec := { name := "fnAppendDataHeaderIsEmptyDataRequest", fn := fun _ => fun
  | [d] => { results := [.lit (.bool true)], args := [d] }
  | _ => none }
def fnAppendDataHeaderIsEmptyDataRequestRow : OpenClaim := { program := "qxb6616466a", sum := "162a111c9bb2d642f4c54dc005c71b8bc310f1f9a5fe8d4a52b69373c1796573", func := "example.com/moverwire/moverwire/zzlaws_pkg_wire_b1.FnAppendDataHeaderIsEmptyDataRequest", spec := "fnAppendDataHeaderIsEmptyDataRequest", named := ["encoding/binary.BigEndian"], apart := false }
def FnAppendDataHeaderIsEmptyDataRequestSaid : Prop := fnAppendDataHeaderIsEmptyDataRequestRow.holds Try.pinned (OpenSpec.ofChange fnAppendDataHeaderIsEmptyDataRequestSpec)

/-- ITS FALSE NEIGHBOUR: 'it returns false'. Refute it at one input. -/
def fnAppendDataHeaderIsEmptyDataRequestWrong : ChangeSpec := { name := "fnAppendDataHeaderIsEmptyDataRequest", fn := fun _ => fun
  | [d] => { results := [.lit (.bool false)], args := [d] }
  | _ => none }
def FnAppendDataHeaderIsEmptyDataRequestWrongFalsely : Prop := fnAppendDataHeaderIsEmptyDataRequestRow.holds Try.pinned (OpenSpec.ofChange fnAppendDataHeaderIsEmptyDataRequestWrong)

/-- 'zzlaws_pkg_wire_b1.FnAppendDataHeaderStacks': WHATEVER THE INPUT: true; the input reads as it did. -/
def fnAppendDataHeaderStacksSpec : ChangeSpec := { name := "fnAppendDataHeaderStacks", fn := fun _ => fun
  | [d] => { results := [.lit (.bool true)], args := [d] }
  | _ => none }
def fnAppendDataHeaderStacksRow : OpenClaim := { program := "qxb6616466a", sum := "162a111c9bb2d642f4c54dc005c71b8bc310f1f9a5fe8d4a52b69373c1796573", func := "example.com/moverwire/moverwire/zzlaws_pkg_wire_b1.FnAppendDataHeaderStacks", spec := "fnAppendDataHeaderStacks", named := ["encoding/binary.BigEndian"], apart := false }
def FnAppendDataHeaderStacksSaid : Prop := fnAppendDataHeaderStacksRow.holds Try.pinned (OpenSpec.ofChange fnAppendDataHeaderStacksSpec)

/-- ITS FALSE NEIGHBOUR: 'it returns false'. Refute it at one input. -/
def fnAppendDataHeaderStacksWrong : ChangeSpec := { name := "fnAppendDataHeaderStacks", fn := fun _ => fun
  | [d] => { results := [.lit (.bool false)], args := [d] }
  | _ => none }
def FnAppendDataHeaderStacksWrongFalsely : Prop := fnAppendDataHeaderStacksRow.holds Try.pinned (OpenSpec.ofChange fnAppendDataHeaderStacksWrong)

end Rows
end Go.Proofs.Qxb6616466a
