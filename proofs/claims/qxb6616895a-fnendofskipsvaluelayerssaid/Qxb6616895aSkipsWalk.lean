/-
  The walk of FnEndOfSkipsValueLayers.
-/
import Derived.Test.Qxb6616895aBytes
import Derived.RegionTactic
import Derived.Deep.RegionWith
import Derived.Deep.DeepCutAuto
import Derived.BigRegion
import Derived.WalkSmall
namespace Go.Proofs.Qxb6616895a
open Go.RowKit

theorem below_undrew {B : Nat} {w w' : World} (h : Below B w.drew w') : Below B w w' := ⟨h.os, h.tape, h.output, h.size, h.block⟩

/-- One layer more. -/
theorem layer_more {k b : Nat} {r : Value} {V wr W2 : World} (hL : Leads wr k (.iface 28 (.pointer (some ⟨b, 0, none⟩))) r) (hbr : Below V.heap.size V wr)
    (hk2 : W2.cell? ⟨wr.drew.heap.size, 0, none⟩ = some (.iface 28 (.pointer (some ⟨b, 0, none⟩)))) (hb2 : Below wr.drew.heap.size wr.drew W2) :
    Leads W2 (k + 1) (.iface 28 (.pointer (some ⟨wr.heap.size, 0, none⟩))) r ∧ Below V.heap.size V W2 :=
  ⟨⟨wr.heap.size, _, rfl, hk2, Leads.below (below_undrew hb2) _ _ _ hL⟩, hbr.trans ((below_undrew hb2).mono hbr.size)⟩

set_option maxRecDepth 100000 in
set_option maxHeartbeats 1600000 in
theorem skips_deadline (ao : Option Addr) (n c : Nat) (ss : List ByteArray) (w : World) (h : RdS w ao n ss) :
    Calls Try.prog 3 #[.slice ao n c, .bool true] w fun e w' => e = .returned (.bool true) ∧ Below w.heap.size w w' := by
  have hn := h.1
  have H := hd h
  go_enter Try.func3, Try.ntmps3
  go_wp2_with fail
  refine (bytes5 _ _ _ _ ss _ h).mono ?_
  rintro e _ ⟨⟨r, rfl⟩, rfl⟩
  cases r
  · go_wp2_with fail
    go_ret
    exact ⟨rfl, Below.refl _ _⟩
  by_cases hl : n ≤ 65536
  case neg =>
    go_wp2_with fail
    go_ret
    exact ⟨rfl, Below.refl _ _⟩
  go_wp2_with fail
  refine (textBytes _ _ _ ss _ _ h).mono ?_
  rintro e _ ⟨⟨z, rfl⟩, rfl⟩
  by_cases hz : 1048576 < z
  · go_wp2_with fail
    go_ret
    exact ⟨rfl, Below.refl _ _⟩
  clear h
  go_wp2_with fail
  refine (new_deadline _).mono ?_
  rintro e W1 ⟨rfl, hb1⟩
  generalize (⟨w.heap.size, 0, none⟩ : Addr) = root
  have h1 : RdS W1 ao n ss := H.out.below hb1
  have q1 := same25 root
  by_cases h0 : n = 0
  · subst h0
    clear h1
    go_wp2_with fail
    refine (deadline_end root _).mono ?_
    rintro e _ ⟨rfl, rfl⟩
    go_wp2_with fail
    go_ret
    exact ⟨rfl, hb1⟩
  have h0' : ((n : Int) == 0) = false := by rw [beq_eq_false_iff_ne]; omega
  obtain ⟨g, o, rfl, hc⟩ : ∃ g o, ao = some ⟨g, o, none⟩ ∧ ∀ j, j < n → W1.cell? ⟨g, o + j, none⟩ = some (.string (ss.getD j ByteArray.empty)) := by
    rcases h1.2 with e | e
    · exact absurd e h0
    · exact e
  have c0 := hc 0 (by omega)
  rw [Nat.add_zero] at c0
  have hp : (0 : Int) < (n : Int) := by omega
  have HC := hd hc
  clear hc h1
  generalize ss.getD 0 ByteArray.empty = s at c0
  go_upto_region 11 with fail
  go_cut [6] (fun v W => ∃ b, v = .pointer (some ⟨b, 0, none⟩) ∧ Leads W 1 (.iface 28 (.pointer (some ⟨b, 0, none⟩))) (.iface 25 (.pointer (some root))) ∧ Below W1.heap.size W1 W)
  case first =>
    go_region_with (go_at_call 9; refine (wrap_deadline root s s _).mono ?_; rintro e W2 ⟨rfl, hk2, hb2⟩)
    all_goals
      go_wp2_with fail
      go_meet
      exact ⟨W1.heap.size, rfl, ⟨W1.heap.size, _, rfl, hk2, rfl⟩, below_undrew hb2⟩
  case rest =>
  obtain ⟨b1, rfl, hL1, hb2⟩ := hcut
  have HL1 := hd hL1
  have HB2 := hd hb2
  clear c0 hL1 hb2
  go_wp2_with fail
  go_loopg [6, 7] (n - 1) (fun m v i wr => ∃ k : Nat, m = n - k ∧ 1 ≤ k ∧ k ≤ n ∧ i = .int .i64 k ∧ ∃ b, v = .pointer (some ⟨b, 0, none⟩) ∧ Leads wr k (.iface 28 (.pointer (some ⟨b, 0, none⟩))) (.iface 25 (.pointer (some root))) ∧ Below W1.heap.size W1 wr)
  case atStart => exact ⟨1, rfl, by omega, by omega, rfl, b1, rfl, HL1.out, HB2.out⟩
  case round =>
    obtain ⟨k, hm, hk1, hk2, rfl, b, rfl, hL, hbr⟩ := hrel
    by_cases hlt : k < n
    · have ck : wr.cell? ⟨g, o + k, none⟩ = some (.string (ss.getD k ByteArray.empty)) := (hbr.cell (by exact World.block_lt_of_cell? _ _ (HC.out k hlt))).trans (HC.out k hlt)
      generalize ss.getD k ByteArray.empty = t at ck
      have hlt' : (k : Int) < (n : Int) := by omega
      have HM := hd hm
      have HL := hd hL
      clear hm hL
      go_upto_region 15 with fail
      go_region_with (go_at_call 10; refine (wrap_value ⟨b, 0, none⟩ t t _).mono ?_; rintro e W2 ⟨rfl, hk2, hb2⟩)
      all_goals
        have A := hd (layer_more HL.out hbr hk2 hb2)
        clear hk2 hb2 ck hbr
        go_wp2_with fail
        go_roundg (n - (k + 1))
        case measure => have := HM.out; omega
        case rel => exact ⟨k + 1, rfl, by omega, by omega, by go_num, wr.heap.size, rfl, A.out.1, A.out.2⟩
    · obtain rfl : k = n := by omega
      have HL := hd hL
      clear hL hm
      go_wp2_with fail
      refine (value_end_deadline k _ root _ HL.out).mono ?_
      rintro e _ ⟨rfl, rfl⟩
      go_wp2_with fail
      go_ret
      exact ⟨rfl, hb1.trans (hbr.mono hb1.size)⟩
set_option maxRecDepth 100000 in
set_option maxHeartbeats 1600000 in
theorem skips_cancel (ao : Option Addr) (n c : Nat) (ss : List ByteArray) (w : World) (h : RdS w ao n ss) :
    Calls Try.prog 3 #[.slice ao n c, .bool false] w fun e w' => e = .returned (.bool true) ∧ Below w.heap.size w w' := by
  have hn := h.1
  have H := hd h
  go_enter Try.func3, Try.ntmps3
  go_wp2_with fail
  refine (bytes5 _ _ _ _ ss _ h).mono ?_
  rintro e _ ⟨⟨r, rfl⟩, rfl⟩
  cases r
  · go_wp2_with fail
    go_ret
    exact ⟨rfl, Below.refl _ _⟩
  by_cases hl : n ≤ 65536
  case neg =>
    go_wp2_with fail
    go_ret
    exact ⟨rfl, Below.refl _ _⟩
  go_wp2_with fail
  refine (textBytes _ _ _ ss _ _ h).mono ?_
  rintro e _ ⟨⟨z, rfl⟩, rfl⟩
  by_cases hz : 1048576 < z
  · go_wp2_with fail
    go_ret
    exact ⟨rfl, Below.refl _ _⟩
  clear h
  go_wp2_with fail
  refine (new_cancel _).mono ?_
  rintro e W1 ⟨rfl, hb1⟩
  generalize (⟨w.heap.size, 0, none⟩ : Addr) = root
  have h1 : RdS W1 ao n ss := H.out.below hb1
  have q1 := same32 root
  by_cases h0 : n = 0
  · subst h0
    clear h1
    go_wp2_with fail
    refine (cancel_end root _).mono ?_
    rintro e _ ⟨rfl, rfl⟩
    go_wp2_with fail
    go_ret
    exact ⟨rfl, hb1⟩
  have h0' : ((n : Int) == 0) = false := by rw [beq_eq_false_iff_ne]; omega
  obtain ⟨g, o, rfl, hc⟩ : ∃ g o, ao = some ⟨g, o, none⟩ ∧ ∀ j, j < n → W1.cell? ⟨g, o + j, none⟩ = some (.string (ss.getD j ByteArray.empty)) := by
    rcases h1.2 with e | e
    · exact absurd e h0
    · exact e
  have c0 := hc 0 (by omega)
  rw [Nat.add_zero] at c0
  have hp : (0 : Int) < (n : Int) := by omega
  have HC := hd hc
  clear hc h1
  generalize ss.getD 0 ByteArray.empty = s at c0
  go_upto_region 20 with fail
  go_cut [9] (fun v W => ∃ b, v = .pointer (some ⟨b, 0, none⟩) ∧ Leads W 1 (.iface 28 (.pointer (some ⟨b, 0, none⟩))) (.iface 32 (.pointer (some root))) ∧ Below W1.heap.size W1 W)
  case first =>
    go_region_with (go_at_call 14; refine (wrap_cancel root s s _).mono ?_; rintro e W2 ⟨rfl, hk2, hb2⟩)
    all_goals
      go_wp2_with fail
      go_meet
      exact ⟨W1.heap.size, rfl, ⟨W1.heap.size, _, rfl, hk2, rfl⟩, below_undrew hb2⟩
  case rest =>
  obtain ⟨b1, rfl, hL1, hb2⟩ := hcut
  have HL1 := hd hL1
  have HB2 := hd hb2
  clear c0 hL1 hb2
  go_wp2_with fail
  go_loopg [9, 10] (n - 1) (fun m v i wr => ∃ k : Nat, m = n - k ∧ 1 ≤ k ∧ k ≤ n ∧ i = .int .i64 k ∧ ∃ b, v = .pointer (some ⟨b, 0, none⟩) ∧ Leads wr k (.iface 28 (.pointer (some ⟨b, 0, none⟩))) (.iface 32 (.pointer (some root))) ∧ Below W1.heap.size W1 wr)
  case atStart => exact ⟨1, rfl, by omega, by omega, rfl, b1, rfl, HL1.out, HB2.out⟩
  case round =>
    obtain ⟨k, hm, hk1, hk2, rfl, b, rfl, hL, hbr⟩ := hrel
    by_cases hlt : k < n
    · have ck : wr.cell? ⟨g, o + k, none⟩ = some (.string (ss.getD k ByteArray.empty)) := (hbr.cell (by exact World.block_lt_of_cell? _ _ (HC.out k hlt))).trans (HC.out k hlt)
      generalize ss.getD k ByteArray.empty = t at ck
      have hlt' : (k : Int) < (n : Int) := by omega
      have HM := hd hm
      have HL := hd hL
      clear hm hL
      go_upto_region 24 with fail
      go_region_with (go_at_call 10; refine (wrap_value ⟨b, 0, none⟩ t t _).mono ?_; rintro e W2 ⟨rfl, hk2, hb2⟩)
      all_goals
        have A := hd (layer_more HL.out hbr hk2 hb2)
        clear hk2 hb2 ck hbr
        go_wp2_with fail
        go_roundg (n - (k + 1))
        case measure => have := HM.out; omega
        case rel => exact ⟨k + 1, rfl, by omega, by omega, by go_num, wr.heap.size, rfl, A.out.1, A.out.2⟩
    · obtain rfl : k = n := by omega
      have HL := hd hL
      clear hL hm
      go_wp2_with fail
      refine (value_end_cancel k _ root _ HL.out).mono ?_
      rintro e _ ⟨rfl, rfl⟩
      go_wp2_with fail
      go_ret
      exact ⟨rfl, hb1.trans (hbr.mono hb1.size)⟩
end Go.Proofs.Qxb6616895a
