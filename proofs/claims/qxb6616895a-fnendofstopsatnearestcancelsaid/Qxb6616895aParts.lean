/-
  Contracts of the small functions on the road of the two laws over endOf.
-/
import Derived.Test.Qxb6616895aRows
import Derived.WalkKit
import Derived.ProofKit
import Derived.Below
import Derived.LaidEqlPtr
import Derived.Deep.LoopGhost
import Derived.WalkSpells
namespace Go.Proofs.Qxb6616895a
open Go.RowKit

theorem hd {p : Prop} (h : p) : Hid p := h

/-- From the interface value v, through k value layers, one comes to r. -/
def Leads (w : World) : Nat → Value → Value → Prop
  | 0, v, r => v = r
  | k + 1, v, r => ∃ b v', v = .iface 28 (.pointer (some ⟨b, 0, none⟩)) ∧ w.cell? ⟨b, 0, none⟩ = some v' ∧ Leads w k v' r

theorem Leads.below {w w' : World} (hb : Below w.heap.size w w') : ∀ (k : Nat) (v r : Value), Leads w k v r → Leads w' k v r
  | 0, _, _, h => h
  | k + 1, _, _, ⟨b, v', e, hc, h⟩ => ⟨b, v', e, (hb.cell (by exact World.block_lt_of_cell? _ _ hc)).trans hc, Leads.below hb k _ _ h⟩

theorem new_deadline (w : World) : Calls Try.prog 7 #[] w fun e w' => e = .returned (.pointer (some ⟨w.heap.size, 0, none⟩)) ∧ Below w.heap.size w w' := by
  go_enter Try.func7, Try.ntmps7
  go_wp2
  go_ret
  exact ⟨rfl, (Below.refl _ _).alloc (Nat.le_refl _) _⟩

theorem new_cancel (w : World) : Calls Try.prog 12 #[] w fun e w' => e = .returned (.pointer (some ⟨w.heap.size, 0, none⟩)) ∧ Below w.heap.size w w' := by
  go_enter Try.func12, Try.ntmps12
  go_wp2
  go_ret
  exact ⟨rfl, (Below.refl _ _).alloc (Nat.le_refl _) _⟩

theorem wrap_value (b : Addr) (s t : ByteArray) (w : World) :
    Calls Try.prog 10 #[.pointer (some b), .string s, .string t] w fun e w' => e = .returned (.pointer (some ⟨w.heap.size, 0, none⟩)) ∧ w'.cell? ⟨w.heap.size, 0, none⟩ = some (.iface 28 (.pointer (some b))) ∧ Below w.heap.size w w' := by
  go_enter Try.func10, Try.ntmps10
  go_wp2
  go_ret
  exact ⟨rfl, by simp, (Below.refl _ _).alloc (Nat.le_refl _) _⟩

theorem assert_same {t e : TypeId} (hu : Try.prog.underlying t = some (.pointer e)) (v : Value) (xT : TypeId) (w : World) :
    (Instr.typeAssert (.iface t v) xT t true).run Try.prog w = .ok (.tuple #[v, .bool true]) w := by
  simp [Instr.typeAssert, run_underlying hu]

theorem assert_other {t s e : TypeId} (hu : Try.prog.underlying t = some (.pointer e)) (hz : (Try.prog.info? t).map (·.zero) = some (some (.pointer none))) (hne : s ≠ t) (v : Value) (xT : TypeId) (w : World) :
    (Instr.typeAssert (.iface s v) xT t true).run Try.prog w = .ok (.tuple #[.pointer none, .bool false]) w := by
  obtain ⟨j, hj, hz'⟩ := Option.map_eq_some_iff.1 hz
  simp [Instr.typeAssert, run_underlying hu, typeInfo, zeroValue, hj, hz', hne]

theorem zero28 : (Try.prog.info? 28).map (·.zero) = some (some (.pointer none)) := by kernel_rfl

theorem endOf_any (n : Nat) (v : Value) (T : TypeId) (p : Option Addr) (hT : T ≠ 28) (w : World) (h : Leads w n v (.iface T (.pointer p))) :
    Calls Try.prog 19 #[v] w fun e w' => e = .returned (.iface T (.pointer p)) ∧ w = w' := by
  have a1 := assert_other Try.underlying28 zero28 hT (.pointer p) 40 w
  go_enter Try.func19, Try.ntmps19
  go_wp2
  go_loopg [0] n (fun k c wr => Leads w k c (.iface T (.pointer p)) ∧ w = wr)
  case atStart => exact ⟨h, rfl⟩
  case round =>
    obtain ⟨hl, rfl⟩ := hrel
    rcases gk with _ | k
    · obtain rfl := hl
      go_wp2
      go_ret
      exact ⟨rfl, rfl⟩
    · obtain ⟨b, v', rfl, hc, hl⟩ := hl
      have a2 := assert_same Try.underlying28 (.pointer (some ⟨b, 0, none⟩)) 40 w
      have HL := hd hl
      clear hl h
      go_wp2
      go_roundg k
      case measure => omega
      case rel => exact ⟨HL.out, rfl⟩

theorem wrap_deadline (b : Addr) (s t : ByteArray) (w : World) :
    Calls Try.prog 9 #[.pointer (some b), .string s, .string t] w fun e w' => e = .returned (.pointer (some ⟨w.heap.size, 0, none⟩)) ∧ w'.cell? ⟨w.heap.size, 0, none⟩ = some (.iface 25 (.pointer (some b))) ∧ Below w.heap.size w w' := by
  go_enter Try.func9, Try.ntmps9
  go_wp2
  go_ret
  exact ⟨rfl, by simp, (Below.refl _ _).alloc (Nat.le_refl _) _⟩

theorem wrap_cancel (b : Addr) (s t : ByteArray) (w : World) :
    Calls Try.prog 14 #[.pointer (some b), .string s, .string t] w fun e w' => e = .returned (.pointer (some ⟨w.heap.size, 0, none⟩)) ∧ w'.cell? ⟨w.heap.size, 0, none⟩ = some (.iface 32 (.pointer (some b))) ∧ Below w.heap.size w w' := by
  go_enter Try.func14, Try.ntmps14
  go_wp2
  go_ret
  exact ⟨rfl, by simp, (Below.refl _ _).alloc (Nat.le_refl _) _⟩

theorem cancel_over_deadline (b : Addr) (w : World) :
    Calls Try.prog 17 #[.pointer (some b)] w fun e w' => e = .returned (.pointer (some ⟨w.heap.size, 0, none⟩)) ∧ Below w.heap.size w w' := by
  go_enter Try.func17, Try.ntmps17
  go_wp2
  go_ret
  exact ⟨rfl, (Below.refl _ _).alloc (Nat.le_refl _) _⟩

theorem cancel_over_value (b : Addr) (w : World) :
    Calls Try.prog 18 #[.pointer (some b)] w fun e w' => e = .returned (.pointer (some ⟨w.heap.size, 0, none⟩)) ∧ Below w.heap.size w w' := by
  go_enter Try.func18, Try.ntmps18
  go_wp2
  go_ret
  exact ⟨rfl, (Below.refl _ _).alloc (Nat.le_refl _) _⟩

theorem deadline_end (r : Addr) (w : World) : Calls Try.prog 8 #[.pointer (some r)] w fun e w' => e = .returned (.pointer (some r)) ∧ w = w' := by
  have a1 := assert_same Try.underlying25 (.pointer (some r)) 40 w
  go_enter Try.func8, Try.ntmps8
  go_wp2_with fail
  refine (endOf_any 0 _ 25 (some r) (by decide) _ rfl).mono ?_
  rintro e _ ⟨rfl, rfl⟩
  go_wp2
  go_ret
  exact ⟨rfl, rfl⟩

theorem cancel_end (r : Addr) (w : World) : Calls Try.prog 13 #[.pointer (some r)] w fun e w' => e = .returned (.pointer (some r)) ∧ w = w' := by
  have a1 := assert_same Try.underlying32 (.pointer (some r)) 40 w
  go_enter Try.func13, Try.ntmps13
  go_wp2_with fail
  refine (endOf_any 0 _ 32 (some r) (by decide) _ rfl).mono ?_
  rintro e _ ⟨rfl, rfl⟩
  go_wp2
  go_ret
  exact ⟨rfl, rfl⟩

theorem value_end_deadline (n : Nat) (a r : Addr) (w : World) (h : Leads w n (.iface 28 (.pointer (some a))) (.iface 25 (.pointer (some r)))) :
    Calls Try.prog 11 #[.pointer (some a)] w fun e w' => e = .returned (.pointer (some r)) ∧ w = w' := by
  have a1 := assert_same Try.underlying25 (.pointer (some r)) 40 w
  have H := hd h
  clear h
  go_enter Try.func11, Try.ntmps11
  go_wp2_with fail
  refine (endOf_any n _ 25 (some r) (by decide) _ H.out).mono ?_
  rintro e _ ⟨rfl, rfl⟩
  go_wp2
  go_ret
  exact ⟨rfl, rfl⟩

theorem value_end_cancel (n : Nat) (a r : Addr) (w : World) (h : Leads w n (.iface 28 (.pointer (some a))) (.iface 32 (.pointer (some r)))) :
    Calls Try.prog 15 #[.pointer (some a)] w fun e w' => e = .returned (.pointer (some r)) ∧ w = w' := by
  have a1 := assert_same Try.underlying32 (.pointer (some r)) 40 w
  have H := hd h
  clear h
  go_enter Try.func15, Try.ntmps15
  go_wp2_with fail
  refine (endOf_any n _ 32 (some r) (by decide) _ H.out).mono ?_
  rintro e _ ⟨rfl, rfl⟩
  go_wp2
  go_ret
  exact ⟨rfl, rfl⟩

theorem info70 : (Try.prog.info? 70).isSome = true := by kernel_rfl
theorem info64 : (Try.prog.info? 64).isSome = true := by kernel_rfl
theorem same25 (a : Addr) (w : World) : (binOp .eql 25 (.pointer (some a)) (.pointer (some a))).run Try.prog w = .ok (.bool true) w := by
  obtain ⟨j, hj⟩ := Option.isSome_iff_exists.1 info70
  exact run_eql_ptr_same w a Try.underlying25 hj
theorem same32 (a : Addr) (w : World) : (binOp .eql 32 (.pointer (some a)) (.pointer (some a))).run Try.prog w = .ok (.bool true) w := by
  obtain ⟨j, hj⟩ := Option.isSome_iff_exists.1 info64
  exact run_eql_ptr_same w a Try.underlying32 hj

/-- A slice of strings that is read. -/
def RdS (w : World) (ao : Option Addr) (n : Nat) (ss : List ByteArray) : Prop :=
  n ≤ 9223372036854775807 ∧ (n = 0 ∨ ∃ g o, ao = some ⟨g, o, none⟩ ∧ ∀ j, j < n → w.cell? ⟨g, o + j, none⟩ = some (.string (ss.getD j ByteArray.empty)))

theorem RdS.lt {w : World} {ao : Option Addr} {n : Nat} {ss : List ByteArray} (h : RdS w ao n ss) : ∀ a, ao = some a → 0 < n → a.block < w.heap.size := by
  intro a ha hn
  rcases h.2 with h0 | ⟨g, o, rfl, hc⟩
  · omega
  · obtain rfl := Option.some.inj ha
    exact World.block_lt_of_cell? _ _ (hc 0 hn)

theorem RdS.below {w w' : World} {ao : Option Addr} {n : Nat} {ss : List ByteArray} (h : RdS w ao n ss) (hb : Below w.heap.size w w') : RdS w' ao n ss := by
  refine ⟨h.1, ?_⟩
  rcases h.2 with h0 | ⟨g, o, rfl, hc⟩
  · exact .inl h0
  · by_cases h0 : n = 0
    · exact .inl h0
    · exact .inr ⟨g, o, rfl, fun j hj => (hb.cell (by exact h.lt ⟨g, o, none⟩ rfl (by omega))).trans (hc j hj)⟩

set_option maxHeartbeats 400000 in
theorem textBytes (ao : Option Addr) (n c : Nat) (ss : List ByteArray) (lim : Int) (w : World) (h : RdS w ao n ss) :
    Calls Try.prog 6 #[.slice ao n c, .int .i64 lim] w fun e w' => (∃ z, e = .returned (.int .i64 z)) ∧ w = w' := by
  have hn := h.1
  go_enter Try.func6, Try.ntmps6
  go_wp2
  go_loop [5, 6] (fun t i => ∃ k : Nat, k ≤ n ∧ i = .int .i64 k ∧ ∃ z, t = .int .i64 z) (fun _ i => n - (intOf i).toNat)
  case atStart => exact ⟨0, Nat.zero_le _, rfl, 0, rfl⟩
  case round =>
    obtain ⟨k, hk, rfl, z, rfl⟩ := hrel
    by_cases hlt : k < n
    · rcases h.2 with h0 | ⟨g, o, rfl, hc⟩
      · omega
      · have e1 := hc k hlt
        generalize ss.getD k ByteArray.empty = s at e1
        have hlt' : (k : Int) < (n : Int) := by omega
        clear hc h
        go_wp2
        · go_ret
          exact ⟨⟨_, rfl⟩, rfl⟩
        · go_round
          case rel => exact ⟨k + 1, by omega, by go_num, _, rfl⟩
          case measure => simp [intOf]; omega
    · clear h
      go_wp2
      go_ret
      exact ⟨⟨_, rfl⟩, rfl⟩
end Go.Proofs.Qxb6616895a
