/-
  The walk of FnEndOfStopsAtNearestCancel.
-/
import Derived.Test.Qxb6616895aBytes
import Derived.RegionTactic
import Derived.Deep.RegionWith
import Derived.Deep.DeepCutAuto
import Derived.BigRegion
import Derived.WalkSmall
namespace Go.Proofs.Qxb6616895a
open Go.RowKit

theorem back_drew {B : Nat} {w w' : World} (h : Below B w.drew w') : Below B w w' := ⟨h.os, h.tape, h.output, h.size, h.block⟩

/-- The first layer over a root. -/
theorem layer_first {r : Value} {V W2 : World} (hk2 : W2.cell? ⟨V.drew.heap.size, 0, none⟩ = some r) (hb2 : Below V.drew.heap.size V.drew W2) :
    Leads W2 1 (.iface 28 (.pointer (some ⟨V.heap.size, 0, none⟩))) r ∧ Below V.heap.size V W2 :=
  ⟨⟨V.heap.size, _, rfl, hk2, rfl⟩, back_drew hb2⟩

/-- One layer more. -/
theorem layer_next {k b : Nat} {r : Value} {V wr W2 : World} (hL : Leads wr k (.iface 28 (.pointer (some ⟨b, 0, none⟩))) r) (hbr : Below V.heap.size V wr)
    (hk2 : W2.cell? ⟨wr.drew.heap.size, 0, none⟩ = some (.iface 28 (.pointer (some ⟨b, 0, none⟩)))) (hb2 : Below wr.drew.heap.size wr.drew W2) :
    Leads W2 (k + 1) (.iface 28 (.pointer (some ⟨wr.heap.size, 0, none⟩))) r ∧ Below V.heap.size V W2 :=
  ⟨⟨wr.heap.size, _, rfl, hk2, Leads.below (back_drew hb2) _ _ _ hL⟩, hbr.trans ((back_drew hb2).mono hbr.size)⟩

theorem neq25 (a : Addr) (w : World) : (binOp .neq 25 (.pointer (some a)) (.pointer (some a))).run Try.prog w = .ok (.bool false) w := by
  obtain ⟨j, hj⟩ := Option.isSome_iff_exists.1 info70
  have h : ∀ d : Nat, (Op.equalIn (d + 1) 25 (.pointer (some a)) (.pointer (some a))).run Try.prog w = .ok true w := fun d => by
    simp [Op.equalIn, run_underlying Try.underlying25, sizeOf, typeInfo, hj, run_sameAddr_same]
  simp only [binOp]
  simp [Op.equal, Op.maxDepth, h 9999]

/-- Where there is an element, its cell. -/
theorem RdS.row {w : World} {ao : Option Addr} {n : Nat} {ss : List ByteArray} (h : RdS w ao n ss) (h0 : ¬ n = 0) :
    ∃ g o, ao = some ⟨g, o, none⟩ ∧ ∀ j, j < n → w.cell? ⟨g, o + j, none⟩ = some (.string (ss.getD j ByteArray.empty)) := by
  rcases h.2 with e | e
  · exact absurd e h0
  · exact e

set_option maxRecDepth 100000 in
set_option maxHeartbeats 3200000 in
theorem stops_any (a0 : Option Addr) (n0 c0 : Nat) (ss0 : List ByteArray) (a1 : Option Addr) (n1 c1 : Nat) (ss1 : List ByteArray) (w : World) (h0 : RdS w a0 n0 ss0) (h1 : RdS w a1 n1 ss1) :
    Calls Try.prog 4 #[.slice a0 n0 c0, .slice a1 n1 c1] w fun e w' => e = .returned (.bool true) ∧ Below w.heap.size w w' := by
  have hn0 := h0.1
  have hn1 := h1.1
  have H0 := hd h0
  have H1 := hd h1
  go_enter Try.func4, Try.ntmps4
  go_wp2_with fail
  refine (bytes16 _ _ _ _ _ _ ss0 ss1 _ h0 h1).mono ?_
  rintro e _ ⟨⟨r, rfl⟩, rfl⟩
  cases r
  · go_wp2_with fail
    go_ret
    exact ⟨rfl, Below.refl _ _⟩
  by_cases hl0 : n0 ≤ 65536
  case neg =>
    go_wp2_with fail
    go_ret
    exact ⟨rfl, Below.refl _ _⟩
  by_cases hl1 : n1 ≤ 65536
  case neg =>
    go_wp2_with fail
    go_ret
    exact ⟨rfl, Below.refl _ _⟩
  go_wp2_with fail
  refine (textBytes _ _ _ ss0 _ _ h0).mono ?_
  rintro e _ ⟨⟨z, rfl⟩, rfl⟩
  by_cases hz : 1048576 < z
  · go_wp2_with fail
    go_ret
    exact ⟨rfl, Below.refl _ _⟩
  go_wp2_with fail
  refine (textBytes _ _ _ ss1 _ _ h1).mono ?_
  rintro e _ ⟨⟨z2, rfl⟩, rfl⟩
  clear h0 h1
  go_wp2_with fail
  · go_ret
    exact ⟨rfl, Below.refl _ _⟩
  refine (new_deadline _).mono ?_
  rintro e W1 ⟨rfl, hb1⟩
  generalize (⟨w.heap.size, 0, none⟩ : Addr) = root
  have K0 := hd (H0.out.below hb1)
  have K1 := hd (H1.out.below hb1)
  clear H0 H1
  have q1 := neq25 root
  go_upto_if 36 with fail
  go_cut [7] (fun v W => ∃ b, v = .pointer (some ⟨b, 0, none⟩) ∧ Below W1.heap.size W1 W)
  case first =>
    by_cases hz0 : n0 = 0
    · subst hz0
      go_wp2_with fail
      refine (cancel_over_deadline root _).mono ?_
      rintro e W2 ⟨rfl, hb2⟩
      go_wp2_with fail
      go_meet
      exact ⟨_, rfl, hb2⟩
    have hz1 : ((n0 : Int) == 0) = false := by rw [beq_eq_false_iff_ne]; omega
    obtain ⟨g, o, rfl, hc⟩ := K0.out.row hz0
    have k0 := hc 0 (by omega)
    rw [Nat.add_zero] at k0
    have hp : (0 : Int) < (n0 : Int) := by omega
    have HC := hd hc
    clear hc K0 K1
    generalize ss0.getD 0 ByteArray.empty = s at k0
    go_upto_region 16 with fail
    go_cut [8] (fun v W => ∃ b, v = .pointer (some ⟨b, 0, none⟩) ∧ Leads W 1 (.iface 28 (.pointer (some ⟨b, 0, none⟩))) (.iface 25 (.pointer (some root))) ∧ Below W1.heap.size W1 W)
    case first =>
      go_region_with (go_at_call 9; refine (wrap_deadline root s s _).mono ?_; rintro e W2 ⟨rfl, hk2, hb2⟩)
      all_goals
        have A := hd (layer_first hk2 hb2)
        clear hk2 hb2 k0
        go_wp2_with fail
        go_meet
        exact ⟨W1.heap.size, rfl, A.out.1, A.out.2⟩
    case rest =>
    obtain ⟨b1, rfl, hL1, hb2⟩ := hcut
    have HL1 := hd hL1
    have HB2 := hd hb2
    clear k0 hL1 hb2
    go_wp2_with fail
    go_loopg [8, 9] (n0 - 1) (fun m v i wr => ∃ k : Nat, m = n0 - k ∧ 1 ≤ k ∧ k ≤ n0 ∧ i = .int .i64 k ∧ ∃ b, v = .pointer (some ⟨b, 0, none⟩) ∧ Leads wr k (.iface 28 (.pointer (some ⟨b, 0, none⟩))) (.iface 25 (.pointer (some root))) ∧ Below W1.heap.size W1 wr)
    case atStart => exact ⟨1, rfl, by omega, by omega, rfl, b1, rfl, HL1.out, HB2.out⟩
    case round =>
      obtain ⟨k, hm, hk1, hk2, rfl, b, rfl, hL, hbr⟩ := hrel
      by_cases hlt : k < n0
      · have ck : wr.cell? ⟨g, o + k, none⟩ = some (.string (ss0.getD k ByteArray.empty)) := (hbr.cell (by exact World.block_lt_of_cell? _ _ (HC.out k hlt))).trans (HC.out k hlt)
        generalize ss0.getD k ByteArray.empty = t at ck
        have hlt' : (k : Int) < (n0 : Int) := by omega
        have HM := hd hm
        have HL := hd hL
        clear hm hL
        go_upto_region 20 with fail
        go_region_with (go_at_call 10; refine (wrap_value ⟨b, 0, none⟩ t t _).mono ?_; rintro e W2 ⟨rfl, hk2, hb2⟩)
        all_goals
          have A := hd (layer_next HL.out hbr hk2 hb2)
          clear hk2 hb2 ck hbr
          go_wp2_with fail
          go_roundg (n0 - (k + 1))
          case measure => have := HM.out; omega
          case rel => exact ⟨k + 1, rfl, by omega, by omega, by go_num, wr.heap.size, rfl, A.out.1, A.out.2⟩
      · obtain rfl : k = n0 := by omega
        have HL := hd hL
        clear hL hm
        go_wp2_with fail
        refine (value_end_deadline k _ root _ HL.out).mono ?_
        rintro e _ ⟨rfl, rfl⟩
        go_wp2_with fail
        refine (cancel_over_value _ _).mono ?_
        rintro e W3 ⟨rfl, hb3⟩
        have A := hd (hbr.trans (hb3.mono hbr.size))
        clear hbr hb3
        go_wp2_with fail
        go_meet
        exact ⟨_, rfl, A.out⟩
  case rest =>
  obtain ⟨bm, rfl, hbm⟩ := hcut
  have hbw : Below w.heap.size w wc := hb1.trans (hbm.mono hb1.size)
  have h1 : RdS wc a1 n1 ss1 := K1.out.below hbm
  clear K0 K1 q1 hb1 hbm
  have q1 := same32 ⟨bm, 0, none⟩
  by_cases hz0 : n1 = 0
  · subst hz0
    clear h1
    go_wp2_with fail
    refine (cancel_end _ _).mono ?_
    rintro e _ ⟨rfl, rfl⟩
    go_wp2_with fail
    go_ret
    exact ⟨rfl, hbw⟩
  have hz1 : ((n1 : Int) == 0) = false := by rw [beq_eq_false_iff_ne]; omega
  obtain ⟨g, o, rfl, hc⟩ := h1.row hz0
  have k0 := hc 0 (by omega)
  rw [Nat.add_zero] at k0
  have hp : (0 : Int) < (n1 : Int) := by omega
  have HC := hd hc
  clear hc h1
  generalize ss1.getD 0 ByteArray.empty = s at k0
  obtain ⟨V, hV⟩ : ∃ V, V = wc := ⟨_, rfl⟩
  subst hV
  go_upto_region 26 with fail
  go_cut [10] (fun v W => ∃ b, v = .pointer (some ⟨b, 0, none⟩) ∧ Leads W 1 (.iface 28 (.pointer (some ⟨b, 0, none⟩))) (.iface 32 (.pointer (some ⟨bm, 0, none⟩))) ∧ Below V.heap.size V W)
  case first =>
    go_region_with (go_at_call 14; refine (wrap_cancel ⟨bm, 0, none⟩ s s _).mono ?_; rintro e W2 ⟨rfl, hk2, hb2⟩)
    all_goals
      have A := hd (layer_first hk2 hb2)
      clear hk2 hb2 k0
      go_wp2_with fail
      go_meet
      exact ⟨V.heap.size, rfl, A.out.1, A.out.2⟩
  case rest =>
  obtain ⟨b1, rfl, hL1, hb2⟩ := hcut
  have HL1 := hd hL1
  have HB2 := hd hb2
  clear k0 hL1 hb2
  go_wp2_with fail
  go_loopg [10, 11] (n1 - 1) (fun m v i wr => ∃ k : Nat, m = n1 - k ∧ 1 ≤ k ∧ k ≤ n1 ∧ i = .int .i64 k ∧ ∃ b, v = .pointer (some ⟨b, 0, none⟩) ∧ Leads wr k (.iface 28 (.pointer (some ⟨b, 0, none⟩))) (.iface 32 (.pointer (some ⟨bm, 0, none⟩))) ∧ Below V.heap.size V wr)
  case atStart => exact ⟨1, rfl, by omega, by omega, rfl, b1, rfl, HL1.out, HB2.out⟩
  case round =>
    obtain ⟨k, hm, hk1, hk2, rfl, b, rfl, hL, hbr⟩ := hrel
    by_cases hlt : k < n1
    · have ck : wr.cell? ⟨g, o + k, none⟩ = some (.string (ss1.getD k ByteArray.empty)) := (hbr.cell (by exact World.block_lt_of_cell? _ _ (HC.out k hlt))).trans (HC.out k hlt)
      generalize ss1.getD k ByteArray.empty = t at ck
      have hlt' : (k : Int) < (n1 : Int) := by omega
      have HM := hd hm
      have HL := hd hL
      clear hm hL
      go_upto_region 30 with fail
      go_region_with (go_at_call 10; refine (wrap_value ⟨b, 0, none⟩ t t _).mono ?_; rintro e W2 ⟨rfl, hk2, hb2⟩)
      all_goals
        have A := hd (layer_next HL.out hbr hk2 hb2)
        clear hk2 hb2 ck hbr
        go_wp2_with fail
        go_roundg (n1 - (k + 1))
        case measure => have := HM.out; omega
        case rel => exact ⟨k + 1, rfl, by omega, by omega, by go_num, wr.heap.size, rfl, A.out.1, A.out.2⟩
    · obtain rfl : k = n1 := by omega
      have HL := hd hL
      clear hL hm
      go_wp2_with fail
      refine (value_end_cancel k _ ⟨bm, 0, none⟩ _ HL.out).mono ?_
      rintro e _ ⟨rfl, rfl⟩
      go_wp2_with fail
      go_ret
      exact ⟨rfl, hbw.trans (hbr.mono hbw.size)⟩
end Go.Proofs.Qxb6616895a
