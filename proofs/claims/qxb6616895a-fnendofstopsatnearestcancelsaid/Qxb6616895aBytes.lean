/-
  The two guards on the arguments' total length: they return some bool and turn nothing.
-/
import Derived.Test.Qxb6616895aParts
namespace Go.Proofs.Qxb6616895a
open Go.RowKit

/-- It returned some bool. -/
def SomeBool (e : Ending) : Prop := ∃ r, e = .returned (.bool r)

set_option maxHeartbeats 400000 in
theorem bytes5 (ao : Option Addr) (n c : Nat) (b : Bool) (ss : List ByteArray) (w : World) (h : RdS w ao n ss) :
    Calls Try.prog 5 #[.slice ao n c, .bool b] w fun e w' => SomeBool e ∧ w = w' := by
  have hn := h.1
  by_cases h1 : n ≤ 1048576
  · go_enter Try.func5, Try.ntmps5
    go_wp2
    go_loop [5, 6] (fun t i => ∃ k : Nat, k ≤ n ∧ i = .int .i64 k ∧ ∃ z, t = .int .i64 z) (fun _ i => n - (intOf i).toNat)
    case atStart => exact ⟨0, Nat.zero_le _, rfl, _, rfl⟩
    case round =>
      obtain ⟨k, hk, rfl, z, rfl⟩ := hrel
      by_cases hlt : k < n
      · rcases h.2 with h0 | ⟨g, o, rfl, hc⟩
        · omega
        · have e1 := hc k hlt
          generalize ss.getD k ByteArray.empty = s at e1
          have hlt' : (k : Int) < (n : Int) := by omega
          clear hc h
          go_wp2
          · go_ret
            exact ⟨⟨_, rfl⟩, rfl⟩
          · go_ret
            exact ⟨⟨_, rfl⟩, rfl⟩
          · go_round
            case rel => exact ⟨k + 1, by omega, by go_num, _, rfl⟩
            case measure => simp [intOf]; omega
      · clear h
        go_wp2
        go_ret
        exact ⟨⟨_, rfl⟩, rfl⟩
  · go_enter Try.func5, Try.ntmps5
    go_wp2
    go_ret
    exact ⟨⟨_, rfl⟩, rfl⟩

set_option maxHeartbeats 800000 in
theorem bytes16 (ao ao2 : Option Addr) (n c n2 c2 : Nat) (ss ss2 : List ByteArray) (w : World) (h : RdS w ao n ss) (h2 : RdS w ao2 n2 ss2) :
    Calls Try.prog 16 #[.slice ao n c, .slice ao2 n2 c2] w fun e w' => SomeBool e ∧ w = w' := by
  have hn := h.1
  have hn2 := h2.1
  by_cases h1 : n ≤ 1048576
  · go_enter Try.func16, Try.ntmps16
    go_wp2
    go_loop [5, 6] (fun t i => ∃ k : Nat, k ≤ n ∧ i = .int .i64 k ∧ ∃ z, t = .int .i64 z) (fun _ i => n - (intOf i).toNat)
    case atStart => exact ⟨0, Nat.zero_le _, rfl, _, rfl⟩
    case round =>
      obtain ⟨k, hk, rfl, z, rfl⟩ := hrel
      by_cases hlt : k < n
      · rcases h.2 with h0 | ⟨g, o, rfl, hc⟩
        · omega
        · have e1 := hc k hlt
          generalize ss.getD k ByteArray.empty = s at e1
          have hlt' : (k : Int) < (n : Int) := by omega
          clear hc h h2
          go_wp2
          · go_ret
            exact ⟨⟨_, rfl⟩, rfl⟩
          · go_ret
            exact ⟨⟨_, rfl⟩, rfl⟩
          · go_round
            case rel => exact ⟨k + 1, by omega, by go_num, _, rfl⟩
            case measure => simp [intOf]; omega
      · clear h
        by_cases h3 : n2 ≤ 1048576
        · go_wp2
          · go_ret
            exact ⟨⟨_, rfl⟩, rfl⟩
          · go_loop [5, 7] (fun t i => ∃ k : Nat, k ≤ n2 ∧ i = .int .i64 k ∧ ∃ z, t = .int .i64 z) (fun _ i => n2 - (intOf i).toNat)
            case atStart => exact ⟨0, Nat.zero_le _, rfl, _, rfl⟩
            case round =>
              obtain ⟨k2, hk2, rfl, z2, rfl⟩ := hrel
              by_cases hlt2 : k2 < n2
              · rcases h2.2 with h0 | ⟨g, o, rfl, hc⟩
                · omega
                · have e1 := hc k2 hlt2
                  generalize ss2.getD k2 ByteArray.empty = s at e1
                  have hlt' : (k2 : Int) < (n2 : Int) := by omega
                  clear hc h2
                  go_wp2
                  · go_ret
                    exact ⟨⟨_, rfl⟩, rfl⟩
                  · go_ret
                    exact ⟨⟨_, rfl⟩, rfl⟩
                  · go_round
                    case rel => exact ⟨k2 + 1, by omega, by go_num, _, rfl⟩
                    case measure => simp [intOf]; omega
              · clear h2
                go_wp2
                go_ret
                exact ⟨⟨_, rfl⟩, rfl⟩
        · clear h2
          go_wp2
          go_ret
          exact ⟨⟨_, rfl⟩, rfl⟩
  · go_enter Try.func16, Try.ntmps16
    go_wp2
    go_ret
    exact ⟨⟨_, rfl⟩, rfl⟩

/-- A slice of strings that came in: nil, or a row of cells. -/
def IsRowS (w : World) (a : Option Addr) (len cap : Nat) (ss : List ByteArray) : Prop :=
  (a = none ∧ len = 0 ∧ cap = 0 ∧ ss = []) ∨ ∃ x, a = some x ∧ len ≤ cap ∧ cap ≤ maxLen ∧ ss.length = cap ∧ ∀ i, i < ss.length → w.cell? (x.add i) = some (.string (ss.getD i ByteArray.empty))

theorem rdS_of_row {w : World} {a : Option Addr} {len cap : Nat} {ss : List ByteArray} (h : IsRowS w a len cap ss) : RdS w a len ss := by
  rcases h with ⟨rfl, rfl, rfl, rfl⟩ | ⟨x, rfl, hl, hm, hz, hc⟩
  · exact ⟨by omega, .inl rfl⟩
  · unfold maxLen at hm
    refine ⟨by omega, ?_⟩
    by_cases h0 : len = 0
    · exact .inl h0
    · obtain ⟨b, off, spot⟩ := x
      have hspot : spot = none := by simpa [Addr.add] using World.cell?_spot (hc 0 (by omega))
      subst hspot
      refine .inr ⟨b, off, rfl, fun j hj => ?_⟩
      have := hc j (by omega)
      rw [Addr.add_lit] at this
      exact this
end Go.Proofs.Qxb6616895a
