/-
  The walks of the two laws over unexpected.
-/
import Derived.Test.Qxb6616466aDoorRows
import Derived.WalkKit
import Derived.ProofKit
import Derived.Below
import Derived.LaidEql
import Derived.WalkSpells
namespace Go.Proofs.Qxb6616466aDoor
open Go.RowKit

theorem comp50 : (Tryd.prog.info? 50).map (·.comparable) = some true := by kernel_rfl
theorem size52 : (Tryd.prog.info? 52).map (·.size) = some 1 := by kernel_rfl

theorem eql_same (a : Addr) (w : World) : (binOp .eql 27 (.iface 50 (.pointer (some a))) (.iface 50 (.pointer (some a)))).run Tryd.prog w = .ok (.bool true) w := by
  obtain ⟨i, hi, hc⟩ := Option.map_eq_some_iff.1 comp50
  obtain ⟨j, hj, _⟩ := Option.map_eq_some_iff.1 size52
  exact run_eql_iface_ptr_same w a Tryd.underlying27 Tryd.underlying50 hi hc hj

theorem neq_same (a : Addr) (w : World) : (binOp .neq 27 (.iface 50 (.pointer (some a))) (.iface 50 (.pointer (some a)))).run Tryd.prog w = .ok (.bool false) w := by
  obtain ⟨i, hi, hc⟩ := Option.map_eq_some_iff.1 comp50
  obtain ⟨j, hj, _⟩ := Option.map_eq_some_iff.1 size52
  simp only [binOp]
  simp [Op.equal, Op.maxDepth, run_equalIn_iface_ptr_same w 9998 a Tryd.underlying27 Tryd.underlying50 hi hc hj]

/-- A block of cells that no string shares. -/
def Plain (w : World) (a : Addr) : Prop := ∃ c t, w.heap[a.block]? = some (.cells c t (0, 0))

theorem eql_other {a b : Addr} {w : World} (hne : a ≠ b) (ha : Plain w a) (hb : Plain w b) : (binOp .eql 27 (.iface 50 (.pointer (some a))) (.iface 50 (.pointer (some b)))).run Tryd.prog w = .ok (.bool false) w := by
  obtain ⟨i, hi, hc⟩ := Option.map_eq_some_iff.1 comp50
  obtain ⟨j, hj, hs⟩ := Option.map_eq_some_iff.1 size52
  obtain ⟨ca, ta, ha⟩ := ha
  obtain ⟨cb, tb, hb⟩ := hb
  exact run_eql_iface_ptr_other w Tryd.underlying27 Tryd.underlying50 hi hc hj (by omega) hne ha hb

structure Sents (w : World) (e u : Addr) : Prop where
  eof : w.cell? ⟨1, 0, none⟩ = some (.iface 50 (.pointer (some e)))
  unx : w.cell? ⟨2, 0, none⟩ = some (.iface 50 (.pointer (some u)))
  ne : e ≠ u
  pe : Plain w e
  pu : Plain w u

theorem un_nil (e u : Addr) (w : World) (h : Sents w e u) :
    Calls Tryd.prog 16 #[.nilIface] w fun r w' => r = .returned .nilIface ∧ w = w' := by
  have h1 := h.eof
  have h2 := run_eql_iface_nil_left (P := Tryd.prog) w (ti := 27) 50 (.pointer (some e)) Tryd.underlying27
  go_enter Tryd.func16, Tryd.ntmps16
  go_wp2
  go_ret
  exact ⟨rfl, rfl⟩

theorem un_eof (e u : Addr) (w : World) (h : Sents w e u) :
    Calls Tryd.prog 16 #[.iface 50 (.pointer (some e))] w fun r w' => r = .returned (.iface 50 (.pointer (some u))) ∧ w = w' := by
  have h1 := h.eof
  have h2 := h.unx
  have h3 := eql_same e w
  go_enter Tryd.func16, Tryd.ntmps16
  go_wp2
  go_ret
  exact ⟨rfl, rfl⟩

theorem un_other (a e u : Addr) (w : World) (h : Sents w e u) (hne : a ≠ e) (ha : Plain w a) :
    Calls Tryd.prog 16 #[.iface 50 (.pointer (some a))] w fun r w' => r = .returned (.iface 50 (.pointer (some a))) ∧ w = w' := by
  have h1 := h.eof
  have h3 := eql_other hne ha h.pe
  go_enter Tryd.func16, Tryd.ntmps16
  go_wp2
  go_ret
  exact ⟨rfl, rfl⟩

theorem get_eof (e u : Addr) (w : World) (h : Sents w e u) :
    Calls Tryd.prog 17 #[] w fun r w' => r = .returned (.iface 50 (.pointer (some e))) ∧ w = w' := by
  have h1 := h.eof
  go_enter Tryd.func17, Tryd.ntmps17
  go_wp2
  go_ret
  exact ⟨rfl, rfl⟩

theorem get_unx (e u : Addr) (w : World) (h : Sents w e u) :
    Calls Tryd.prog 18 #[] w fun r w' => r = .returned (.iface 50 (.pointer (some u))) ∧ w = w' := by
  have h1 := h.unx
  go_enter Tryd.func18, Tryd.ntmps18
  go_wp2
  go_ret
  exact ⟨rfl, rfl⟩

theorem new_err (s : ByteArray) (w : World) :
    Calls Tryd.prog 15 #[.string s] w fun r w' => r = .returned (.iface 50 (.pointer (some ⟨w.heap.size, 0, none⟩))) ∧ w.alloc (.cells #[.string s] 52) = w' := by
  go_enter Tryd.func15, Tryd.ntmps15
  go_wp2
  go_ret
  exact ⟨rfl, rfl⟩

theorem Plain.alloc {w : World} {a : Addr} (h : Plain w a) (o : Obj) : Plain (w.alloc o) a := by
  obtain ⟨c, t, h⟩ := h
  exact ⟨c, t, (Below.heap_alloc w o a.block (Array.getElem?_eq_some_iff.1 h).1).trans h⟩

theorem plain_new (w : World) (s : ByteArray) : Plain (w.alloc (.cells #[.string s] 52)) ⟨w.heap.size, 0, none⟩ := ⟨_, _, heap_alloc_new w _⟩

theorem cell_alloc {w : World} {a : Addr} {v : Value} (h : w.cell? a = some v) (o : Obj) : (w.alloc o).cell? a = some v :=
  (((Below.refl w.heap.size w).alloc (Nat.le_refl _) o).cell (World.block_lt_of_cell? _ _ h)).trans h

theorem Sents.alloc {w : World} {e u : Addr} (h : Sents w e u) (o : Obj) : Sents (w.alloc o) e u :=
  ⟨cell_alloc h.eof o, cell_alloc h.unx o, h.ne, h.pe.alloc o, h.pu.alloc o⟩

theorem new_ne {w : World} {a : Addr} (h : Plain w a) : (⟨w.heap.size, 0, none⟩ : Addr) ≠ a := by
  obtain ⟨c, t, h⟩ := h
  have := (Array.getElem?_eq_some_iff.1 h).1
  rintro rfl
  simp at this

/-- The text is too long: true at once. -/
theorem pass_long (s : ByteArray) (w : World) (h0 : s.size ≤ 9223372036854775807) (hl : 65536 < s.size) :
    Calls Tryd.prog 5 #[.string s] w fun r w' => r = .returned (.bool true) ∧ w = w' := by
  by_cases d0 : s.size ≤ 1048576
  · go_enter Tryd.func5, Tryd.ntmps5
    go_wp2
    go_ret
    exact ⟨rfl, rfl⟩
  · go_enter Tryd.func5, Tryd.ntmps5
    go_wp2
    go_ret
    exact ⟨rfl, rfl⟩

theorem settle_long (s : ByteArray) (w : World) (h0 : s.size ≤ 9223372036854775807) (hl : 65536 < s.size) :
    Calls Tryd.prog 6 #[.string s] w fun r w' => r = .returned (.bool true) ∧ w = w' := by
  by_cases d0 : s.size ≤ 1048576
  · go_enter Tryd.func6, Tryd.ntmps6
    go_wp2
    go_ret
    exact ⟨rfl, rfl⟩
  · go_enter Tryd.func6, Tryd.ntmps6
    go_wp2
    go_ret
    exact ⟨rfl, rfl⟩

theorem bytes14 (s : ByteArray) (w : World) (hl : s.size ≤ 65536) : Calls Tryd.prog 14 #[.string s] w fun r w' => r = .returned (.bool true) ∧ w = w' := by
  go_enter Tryd.func14, Tryd.ntmps14
  go_wp2
  go_ret
  exact ⟨rfl, rfl⟩

theorem bytes19 (s : ByteArray) (w : World) (hl : s.size ≤ 65536) : Calls Tryd.prog 19 #[.string s] w fun r w' => r = .returned (.bool true) ∧ w = w' := by
  go_enter Tryd.func19, Tryd.ntmps19
  go_wp2
  go_ret
  exact ⟨rfl, rfl⟩

set_option maxHeartbeats 800000 in
theorem pass_main (s : ByteArray) (e u : Addr) (w : World) (hl : s.size ≤ 65536) (h : Sents w e u) :
    Calls Tryd.prog 5 #[.string s] w fun r w' => r = .returned (.bool true) ∧ Below w.heap.size w w' := by
  have hA : Sents (w.alloc (.cells #[.string s] 52)) e u := h.alloc _
  have hP : Plain (w.alloc (.cells #[.string s] 52)) ⟨w.heap.size, 0, none⟩ := plain_new w s
  have hne : (⟨w.heap.size, 0, none⟩ : Addr) ≠ e := new_ne h.pe
  have hB : Below w.heap.size w (w.alloc (.cells #[.string s] 52)) := (Below.refl _ _).alloc (Nat.le_refl _) _
  have n1 := neq_same ⟨w.heap.size, 0, none⟩ (w.alloc (.cells #[.string s] 52))
  have q1 := eql_same u (w.alloc (.cells #[.string s] 52))
  go_enter Tryd.func5, Tryd.ntmps5
  go_wp2_with fail
  refine (bytes14 s _ hl).mono ?_
  rintro r _ ⟨rfl, rfl⟩
  go_wp2_with fail
  refine (new_err s _).mono ?_
  rintro r _ ⟨rfl, rfl⟩
  generalize w.alloc (.cells #[.string s] 52) = W at *
  generalize (⟨w.heap.size, 0, none⟩ : Addr) = a at *
  go_wp2_with fail
  refine (un_other a e u _ hA hne hP).mono ?_
  rintro r _ ⟨rfl, rfl⟩
  go_wp2_with fail
  refine (un_other a e u _ hA hne hP).mono ?_
  rintro r _ ⟨rfl, rfl⟩
  go_wp2_with fail
  refine (get_eof e u _ hA).mono ?_
  rintro r _ ⟨rfl, rfl⟩
  go_wp2_with fail
  refine (un_eof e u _ hA).mono ?_
  rintro r _ ⟨rfl, rfl⟩
  go_wp2_with fail
  refine (get_unx e u _ hA).mono ?_
  rintro r _ ⟨rfl, rfl⟩
  go_wp2_with fail
  go_ret
  exact ⟨rfl, hB⟩

set_option maxHeartbeats 800000 in
theorem settle_main (s : ByteArray) (e u : Addr) (w : World) (hl : s.size ≤ 65536) (h : Sents w e u) :
    Calls Tryd.prog 6 #[.string s] w fun r w' => r = .returned (.bool true) ∧ Below w.heap.size w w' := by
  have hA : Sents (w.alloc (.cells #[.string s] 52)) e u := h.alloc _
  have hP : Plain (w.alloc (.cells #[.string s] 52)) ⟨w.heap.size, 0, none⟩ := plain_new w s
  have hne : (⟨w.heap.size, 0, none⟩ : Addr) ≠ e := new_ne h.pe
  have hB : Below w.heap.size w (w.alloc (.cells #[.string s] 52)) := (Below.refl _ _).alloc (Nat.le_refl _) _
  have hue : u ≠ e := fun x => h.ne x.symm
  have e1 := eql_other hue h.pu h.pe
  have n1 := neq_same u w
  go_enter Tryd.func6, Tryd.ntmps6
  go_wp2_with fail
  refine (bytes19 s _ hl).mono ?_
  rintro r _ ⟨rfl, rfl⟩
  go_wp2_with fail
  refine (un_nil e u _ h).mono ?_
  rintro r _ ⟨rfl, rfl⟩
  go_wp2_with fail
  refine (get_eof e u _ h).mono ?_
  rintro r _ ⟨rfl, rfl⟩
  go_wp2_with fail
  refine (un_eof e u _ h).mono ?_
  rintro r _ ⟨rfl, rfl⟩
  go_wp2_with fail
  refine (un_other u e u _ h hue h.pu).mono ?_
  rintro r _ ⟨rfl, rfl⟩
  go_wp2_with fail
  refine (get_unx e u _ h).mono ?_
  rintro r _ ⟨rfl, rfl⟩
  go_wp2_with fail
  refine (un_other u e u _ h hue h.pu).mono ?_
  rintro r _ ⟨rfl, rfl⟩
  go_wp2_with fail
  refine (new_err s _).mono ?_
  rintro r _ ⟨rfl, rfl⟩
  clear e1 n1
  generalize w.alloc (.cells #[.string s] 52) = W at *
  generalize (⟨w.heap.size, 0, none⟩ : Addr) = a at *
  have e2 := eql_other hne hP hA.pe
  have n2 := eql_same a W
  go_wp2_with fail
  refine (un_other a e u _ hA hne hP).mono ?_
  rintro r _ ⟨rfl, rfl⟩
  go_wp2_with fail
  refine (un_other a e u _ hA hne hP).mono ?_
  rintro r _ ⟨rfl, rfl⟩
  go_wp2_with fail
  go_ret
  exact ⟨rfl, hB⟩
end Go.Proofs.Qxb6616466aDoor
