/-
  No cell of these rows narrows 'for every input' (looked for: loops, veiled, ifaces, maps, wideKeys, modest, calm, conditions, laid).
  DERIVED. THE GIVEN ROWS OF THIS SEAT. 2 by the template 'for every input the law returns true; each argument reads behind the call as it read before'; 0 by the template 'total and deterministic' (their statements: Qxb6616895aTotals.lean).
  GIVEN WITH THE SEED: the statements are not yours to turn. If you find one false, say at which input.
  Laid BY PROGRAM, IN A SANDBOX (cutbox-rows.mjs): the forced cells as the released guide's own fill.sh prints them over the translation 76621263417a45e8… (all of the seat's roots in one cut). By AI agents, Wed Nov 11 2026. No macro, syntax, notation, axiom, sorry.
-/
import Derived.Test.Qxb6616895aChecked
import GoSem.Claim
import GoSem.ClaimJoined
import GoSem.ClaimMapViews
import Derived.JoinedTies
import Derived.KernelRfl
namespace Go.Proofs.Qxb6616895a
/- THE CELL 'sum', in the pinned program and in every row, IS THE sha256 OF THE DUMP (.gsa) THAT Qxb6616895aProg.lean LOADS. Nothing in Lean hashes anything: it is a label: what it is worth is what the hold of that sum in a sandbox is worth. -/
noncomputable def Try.pinned : Pinned := { name := "qxb6616895a", sum := "76621263417a45e89647f239da8122621b1bab103f4a91d1f6816b3b41c77b98", checked := Try.checked }
namespace Rows
def none {H : Type} : Left H := { results := [], args := [] }

/-- 'zzlaws_root_b1.FnEndOfSkipsValueLayers': WHATEVER THE INPUT: true; the input reads as it did. -/
def fnEndOfSkipsValueLayersSpec : ChangeSpec := { name := "fnEndOfSkipsValueLayers", fn := fun _ => fun
  | [d1, d2] => { results := [.lit (.bool true)], args := [d1, d2] }
  | _ => none }
def fnEndOfSkipsValueLayersRow : OpenClaim := { program := "qxb6616895a", sum := "76621263417a45e89647f239da8122621b1bab103f4a91d1f6816b3b41c77b98", func := "example.com/tether/tether/zzlaws_root_b1.FnEndOfSkipsValueLayers", spec := "fnEndOfSkipsValueLayers", apart := false }
def FnEndOfSkipsValueLayersSaid : Prop := fnEndOfSkipsValueLayersRow.holds Try.pinned (OpenSpec.ofChange fnEndOfSkipsValueLayersSpec)

/-- ITS FALSE NEIGHBOUR: 'it returns false'. Refute it at one input. -/
def fnEndOfSkipsValueLayersWrong : ChangeSpec := { name := "fnEndOfSkipsValueLayers", fn := fun _ => fun
  | [d1, d2] => { results := [.lit (.bool false)], args := [d1, d2] }
  | _ => none }
def FnEndOfSkipsValueLayersWrongFalsely : Prop := fnEndOfSkipsValueLayersRow.holds Try.pinned (OpenSpec.ofChange fnEndOfSkipsValueLayersWrong)

/-- 'zzlaws_root_b1.FnEndOfStopsAtNearestCancel': WHATEVER THE INPUT: true; the input reads as it did. -/
def fnEndOfStopsAtNearestCancelSpec : ChangeSpec := { name := "fnEndOfStopsAtNearestCancel", fn := fun _ => fun
  | [d1, d2] => { results := [.lit (.bool true)], args := [d1, d2] }
  | _ => none }
def fnEndOfStopsAtNearestCancelRow : OpenClaim := { program := "qxb6616895a", sum := "76621263417a45e89647f239da8122621b1bab103f4a91d1f6816b3b41c77b98", func := "example.com/tether/tether/zzlaws_root_b1.FnEndOfStopsAtNearestCancel", spec := "fnEndOfStopsAtNearestCancel", apart := false }
def FnEndOfStopsAtNearestCancelSaid : Prop := fnEndOfStopsAtNearestCancelRow.holds Try.pinned (OpenSpec.ofChange fnEndOfStopsAtNearestCancelSpec)

/-- ITS FALSE NEIGHBOUR: 'it returns false'. Refute it at one input. -/
def fnEndOfStopsAtNearestCancelWrong : ChangeSpec := { name := "fnEndOfStopsAtNearestCancel", fn := fun _ => fun
  | [d1, d2] => { results := [.lit (.bool false)], args := [d1, d2] }
  | _ => none }
def FnEndOfStopsAtNearestCancelWrongFalsely : Prop := fnEndOfStopsAtNearestCancelRow.holds Try.pinned (OpenSpec.ofChange fnEndOfStopsAtNearestCancelWrong)

end Rows
end Go.Proofs.Qxb6616895a
