/-
  What the listed variables give the walks; a start that meets the condition.
-/
import Derived.Test.Qxb6616466aDoorWalks
import Derived.ProofKit
import Derived.LaidMore
import Derived.LaidLaws
import Derived.OpenShut
import Derived.Stop.Joined
namespace Go.Proofs.Qxb6616466aDoor
open Go.ChangeShapes Go.WideShapes Go.ChangeAt Go.RowKit

theorem own : ownKnob Tryd.prog.godebug = none := by kernel_rfl
theorem laidOut : laidOutB Tryd.prog = true := by kernel_rfl
theorem gEof : Tryd.prog.globalNamed "io.EOF" = some 1 := by kernel_rfl
theorem gUnx : Tryd.prog.globalNamed "io.ErrUnexpectedEOF" = some 2 := by kernel_rfl
theorem tEof : (Tryd.prog.globals[1]?).map (·.type) = some 27 := by kernel_rfl
theorem tUnx : (Tryd.prog.globals[2]?).map (·.type) = some 27 := by kernel_rfl
theorem cells52 : Tryd.prog.cellsOf 52 = 1 := by kernel_rfl
theorem cells9 : Tryd.prog.cellsOf 9 = 1 := by kernel_rfl
/-- The type's name in a datum of an interface type. -/
def nmOf : DataW Unit → String
  | .iface n _ => n
  | _ => ""
theorem rows50 : ((List.range Tryd.prog.types.size).all fun u => Tryd.prog.typeName? 3 u != some (nmOf Rows.laid_io_EOF) || u == 50) = true := by kernel_rfl
theorem row50 (u : TypeId) (h : Tryd.prog.typeName? 3 u = some (nmOf Rows.laid_io_EOF)) : u = 50 := by
  refine typeName_ptr_named (P := Tryd.prog) (nm := "errors.errorString") ?_ (by kernel_rfl) (by decide) u ?_
  · generalize hq : (_ ++ "errors.errorString" : String) = q
    have e : q = nmOf Rows.laid_io_EOF := by rw [← hq]; decide
    rw [e]
    exact rows50
  · generalize hq : (_ ++ "errors.errorString" : String) = q
    have e : q = nmOf Rows.laid_io_EOF := by rw [← hq]; decide
    rw [e]
    exact h

def two : List (String × DataW Unit) := [("io.EOF", Rows.laid_io_EOF), ("io.ErrUnexpectedEOF", Rows.laid_io_ErrUnexpectedEOF)]

/-- The door's own heap meets the condition. -/
theorem door_met (os : Os) (args : Array Value) : laidMetH Tryd.prog two ((World.doorLaid Tryd.prog 400 os).forCall (fun _ _ => 0) ⟨#[], args, []⟩).memory :=
  laidMetH_of_parts3 (fuel := 8) (laidMet_of_run' 8 (by kernel_rfl) (by kernel_rfl)) (by kernel_rfl) (by kernel_rfl)

theorem sents_of_laid {W : World} (h : laidMetH Tryd.prog two W) : ∃ e u, Sents W e u := by
  rw [MakeChecks.laidMetH_plain _ _ _ (by kernel_rfl)] at h
  obtain ⟨ps, ⟨g0, t0, cs0, f0, p0, q0, hg0, ht0, hv0, hd0, ⟨g1, t1, cs1, f1, p1, q1, hg1, ht1, hv1, hd1, hq1, e1⟩, e0⟩, hnd, hrows⟩ := h
  obtain rfl := Option.some.inj (gEof.symm.trans hg0)
  obtain rfl := Option.some.inj (gUnx.symm.trans hg1)
  obtain rfl := Option.some.inj (tEof.symm.trans ht0)
  obtain rfl := Option.some.inj (tUnx.symm.trans ht1)
  have hq1' : q1 = [] := hq1
  subst hq1'
  subst e1
  subst e0
  obtain ⟨l0⟩ := cs0
  obtain ⟨l1⟩ := cs1
  have ok0 : ∀ u v, l0 = [.iface u v] → Value.okWide Tryd.prog W .any 0 u v := fun u v e => by
    subst e
    exact (hrows 1 0 (by simp [MemPlace.row])).2 u v (by simpa using World.var?_cell hg0 hv0 0)
  have ok1 : ∀ u v, l1 = [.iface u v] → Value.okWide Tryd.prog W .any 0 u v := fun u v e => by
    subst e
    exact (hrows 2 0 (by simp [MemPlace.row])).2 u v (by simpa using World.var?_cell hg1 hv1 0)
  obtain ⟨a0, s0, rfl, hc0, hs0, hz0, rfl⟩ := errorString_of_trod Tryd.underlying27 row50 Tryd.underlying50 Tryd.underlying52 rfl rfl Tryd.underlying9 cells52 cells9 hd0 ok0
  obtain ⟨a1, s1, rfl, hc1, hs1, hz1, rfl⟩ := errorString_of_trod Tryd.underlying27 row50 Tryd.underlying50 Tryd.underlying52 rfl rfl Tryd.underlying9 cells52 cells9 hd1 ok1
  obtain ⟨c0, t0, hb0⟩ := (hrows a0.block a0.off (by simp [MemPlace.row])).1
  obtain ⟨c1, t1, hb1⟩ := (hrows a1.block a1.off (by simp [MemPlace.row])).1
  refine ⟨a0, a1, by simpa using World.var?_cell gEof hv0 0, by simpa using World.var?_cell gUnx hv1 0, ?_, ⟨c0, t0, hb0⟩, ⟨c1, t1, hb1⟩⟩
  rintro rfl
  simp [MemPlace.row] at hnd
end Go.Proofs.Qxb6616466aDoor
