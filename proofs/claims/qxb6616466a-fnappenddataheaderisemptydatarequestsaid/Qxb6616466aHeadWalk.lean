/-
  The walks of FnAppendDataHeaderStacks and FnAppendDataHeaderIsEmptyDataRequest.
-/
import Derived.Test.Qxb6616466aFrame
namespace Go.Proofs.Qxb6616466a
open Go.RowKit

theorem bytes14_yes (a0 : Option Addr) (len0 cap0 : Nat) (w : World) (h0 : len0 ≤ 1048576) :
    Calls Try.prog 14 #[.slice a0 len0 cap0] w fun e w' => e = .returned (.bool true) ∧ w = w' := by
  go_enter Try.func14, Try.ntmps14
  go_wp2
  go_ret
  exact ⟨rfl, rfl⟩
theorem bytes14_no (a0 : Option Addr) (len0 cap0 : Nat) (w : World) (h0 : ¬ len0 ≤ 1048576) (l0 : len0 ≤ 9223372036854775807) :
    Calls Try.prog 14 #[.slice a0 len0 cap0] w fun e w' => e = .returned (.bool false) ∧ w = w' := by
  go_enter Try.func14, Try.ntmps14
  go_wp2
  go_ret
  exact ⟨rfl, rfl⟩
theorem bytes16_yes (a0 : Option Addr) (len0 cap0 : Nat) (w : World) (h0 : len0 ≤ 1048576) :
    Calls Try.prog 16 #[.slice a0 len0 cap0] w fun e w' => e = .returned (.bool true) ∧ w = w' := by
  go_enter Try.func16, Try.ntmps16
  go_wp2
  go_ret
  exact ⟨rfl, rfl⟩
theorem bytes16_no (a0 : Option Addr) (len0 cap0 : Nat) (w : World) (h0 : ¬ len0 ≤ 1048576) (l0 : len0 ≤ 9223372036854775807) :
    Calls Try.prog 16 #[.slice a0 len0 cap0] w fun e w' => e = .returned (.bool false) ∧ w = w' := by
  go_enter Try.func16, Try.ntmps16
  go_wp2
  go_ret
  exact ⟨rfl, rfl⟩

theorem empty_long (a0 : Option Addr) (len0 cap0 : Nat) (w : World) (l0 : len0 ≤ 9223372036854775807) (hl : 65536 < len0) :
    Calls Try.prog 5 #[.slice a0 len0 cap0] w fun e w' => e = .returned (.bool true) ∧ w = w' := by
  by_cases hs : len0 ≤ 1048576
  · go_enter Try.func5, Try.ntmps5
    go_wp2_with fail
    refine (bytes14_yes _ _ _ _ hs).mono ?_
    rintro e _ ⟨rfl, rfl⟩
    go_wp2_with fail
    go_ret
    exact ⟨rfl, rfl⟩
  · go_enter Try.func5, Try.ntmps5
    go_wp2_with fail
    refine (bytes14_no _ _ _ _ hs l0).mono ?_
    rintro e _ ⟨rfl, rfl⟩
    go_wp2_with fail
    go_ret
    exact ⟨rfl, rfl⟩

theorem stacks_long (a0 : Option Addr) (len0 cap0 : Nat) (w : World) (l0 : len0 ≤ 9223372036854775807) (hl : 65536 < len0) :
    Calls Try.prog 6 #[.slice a0 len0 cap0] w fun e w' => e = .returned (.bool true) ∧ w = w' := by
  by_cases hs : len0 ≤ 1048576
  · go_enter Try.func6, Try.ntmps6
    go_wp2_with fail
    refine (bytes16_yes _ _ _ _ hs).mono ?_
    rintro e _ ⟨rfl, rfl⟩
    go_wp2_with fail
    go_ret
    exact ⟨rfl, rfl⟩
  · go_enter Try.func6, Try.ntmps6
    go_wp2_with fail
    refine (bytes16_no _ _ _ _ hs l0).mono ?_
    rintro e _ ⟨rfl, rfl⟩
    go_wp2_with fail
    go_ret
    exact ⟨rfl, rfl⟩

/-- AppendDataHeader, the cells as bytes. -/
theorem dataHeader (B n : Nat) (sv : Value) (xs : List Int) (w : World) (hown : w.ownsRow B 5 1 sv n (cellsOf xs)) (hBw : B ≤ w.heap.size) (hlim : n ≤ 4194304) :
    Calls Try.prog 15 #[sv] w fun e w' => ∃ v', e = .returned v' ∧ w'.ownsRow B 5 1 v' (n + 8) (cellsOf (xs ++ req 8 [])) ∧ Below B w w' := by
  rw [cellsOf_append]
  exact appendDataHeader B n sv (cellsOf xs) w hown hBw hlim

set_option maxHeartbeats 1600000 in
theorem stacks_main (a0 : Option Addr) (len0 cap0 : Nat) (xs : List Int) (w : World) (h0 : len0 ≤ 65536) (hx : Rd w a0 len0 xs) (nx : a0 = none → len0 = 0 ∧ cap0 = 0) :
    Calls Try.prog 6 #[.slice a0 len0 cap0] w fun e w' => e = .returned (.bool true) ∧ Below w.heap.size w w' := by
  have NX := hd nx
  clear nx
  go_enter Try.func6, Try.ntmps6
  go_wp2_with fail
  refine (bytes16_yes _ _ _ _ (by omega)).mono ?_
  rintro e _ ⟨rfl, rfl⟩
  go_wp2_with fail
  refine (zzClone _ _ _ xs _ h0 hx NX.out).mono ?_
  rintro e W1 ⟨v1, rfl, own1, hb1⟩
  have s1 := hb1.size
  go_wp2_with fail
  refine (dataHeader w.heap.size len0 v1 xs _ own1 s1 (by omega)).mono ?_
  rintro e W2 ⟨v2, rfl, own2, hb2⟩
  have s2 := Nat.le_trans s1 hb2.size
  go_wp2_with fail
  refine (dataHeader w.heap.size (len0 + 8) v2 (xs ++ req 8 []) _ own2 s2 (by omega)).mono ?_
  rintro e W3 ⟨v3, rfl, own3, hb3⟩
  have hB : Below w.heap.size w W3 := hb1.trans (hb2.trans hb3)
  clear hb1 hb2 hb3 own1 own2 s1 s2
  go_wp2_with fail
  refine (dataHeader W3.heap.size 0 _ [] _ (World.ownsRow_nil _ _ _ _) (Nat.le_refl _) (by omega)).mono ?_
  rintro e W4 ⟨v4, rfl, own4, hb4⟩
  rw [show 0 + 8 = 8 by omega] at own4
  obtain ⟨g, k, rfl, hg, hl, hk, hm, r0⟩ := own_rd own3 (by omega)
  obtain ⟨g4, k4, rfl, hg4, hl4, hk4, hm4, r4⟩ := own_rd own4 (by omega)
  have r : Rd W4 (some ⟨g, 0, none⟩) (len0 + 8 + 8) (xs ++ req 8 [] ++ req 8 []) := r0.below hb4
  have hX : Rd W4 a0 len0 xs := (hx.below hB).below hb4
  have hT : Below w.heap.size w W4 := hB.trans (hb4.mono hB.size)
  have p0 : Rd W4 (some ⟨g, 0 + 0, none⟩) len0 xs := r.piece [] xs (req 8 [] ++ req 8 []) (by simp) 0 len0 rfl hX.1
  have p1 : Rd W4 (some ⟨g, 0 + len0, none⟩) 8 (req 8 []) := r.piece xs (req 8 []) (req 8 []) rfl len0 8 hX.1 (by rw [req_length]; rfl)
  have p2 : Rd W4 (some ⟨g, 0 + (len0 + 8), none⟩) 8 (req 8 []) := r.piece (xs ++ req 8 []) (req 8 []) [] (by simp) (len0 + 8) 8 (by rw [List.length_append, req_length, hX.1]; rfl) (by rw [req_length]; rfl)
  rw [List.nil_append] at r4
  have p4 : Rd W4 (some ⟨g4, 0 + 0, none⟩) (8 + 0) (req 8 []) := r4
  rw [Nat.zero_add] at p0 p1 p2
  clear own3 own4 hb4 r0 r hB hx
  go_wp2_with fail
  refine (zzFrame g4 0 8 k4 0 0 _ 8 [] rfl _ (by omega) (by omega) (by omega) hk4 hm4 (by omega) (by omega) p4).mono ?_
  rintro e _ ⟨f1, d1, rfl, hF1, q1, rfl⟩
  clear hF1 p4
  go_wp2_with fail
  refine (zzEqual_true _ _ _ _ _ xs _ (by omega) (p0.drewN _) (hX.drewN _)).mono ?_
  rintro e _ ⟨rfl, q2, rfl⟩
  go_wp2_with fail
  refine (zzEqual_true _ _ _ _ _ (req 8 []) _ (by omega) (p1.drewN _) (r4.drewN _)).mono ?_
  rintro e _ ⟨rfl, q3, rfl⟩
  go_wp2_with fail
  simp only [show len0 + 8 + 8 - (len0 + 8) = 8 by omega]
  refine (zzEqual_true _ _ _ _ _ (req 8 []) _ (by omega) (p2.drewN _) (r4.drewN _)).mono ?_
  rintro e _ ⟨rfl, q4, rfl⟩
  go_wp2_with fail
  go_ret
  exact ⟨rfl, below_drewN hT _⟩

set_option maxHeartbeats 1600000 in
theorem empty_main (a0 : Option Addr) (len0 cap0 : Nat) (xs : List Int) (w : World) (h0 : len0 ≤ 65536) (hx : Rd w a0 len0 xs) (nx : a0 = none → len0 = 0 ∧ cap0 = 0) :
    Calls Try.prog 5 #[.slice a0 len0 cap0] w fun e w' => e = .returned (.bool true) ∧ Below w.heap.size w w' := by
  have NX := hd nx
  clear nx
  go_enter Try.func5, Try.ntmps5
  go_wp2_with fail
  refine (bytes14_yes _ _ _ _ (by omega)).mono ?_
  rintro e _ ⟨rfl, rfl⟩
  go_wp2_with fail
  refine (zzClone _ _ _ xs _ h0 hx NX.out).mono ?_
  rintro e W1 ⟨v1, rfl, own1, hb1⟩
  have s1 := hb1.size
  go_wp2_with fail
  refine (dataHeader w.heap.size len0 v1 xs _ own1 s1 (by omega)).mono ?_
  rintro e W2 ⟨v2, rfl, own2, hb2⟩
  have hB : Below w.heap.size w W2 := hb1.trans hb2
  have hx2 : Rd W2 a0 len0 xs := hx.below hB
  clear hb1 hb2 own1 s1 hx
  go_wp2_with fail
  refine (zzClone _ _ _ xs _ h0 hx2 NX.out).mono ?_
  rintro e W3 ⟨v3, rfl, own3, hb3⟩
  have s3 := hb3.size
  have hx3 : Rd W3 a0 len0 xs := hx2.below hb3
  have LX := hd hx2.lt
  go_wp2_with fail
  refine (appendRequest W2.heap.size len0 0 0 8 none v3 xs [] _ own3 s3 (by omega) (by omega) ⟨rfl, .inl rfl⟩ (fun _ => ⟨rfl, rfl⟩) (fun a h => by cases h)).mono ?_
  rintro e W4 ⟨v4, rfl, own4, hb4⟩
  have hX : Rd W4 a0 len0 xs := hx3.kept hb4 LX.out
  have hb34 := hb3.trans hb4
  have hT : Below w.heap.size w W4 := hB.trans (hb34.mono hB.size)
  rw [Nat.add_zero] at own4
  obtain ⟨g, k, rfl, hg, hl, hk, hm, r0⟩ := own_rd own2 (by omega)
  obtain ⟨g4, k4, rfl, hg4, hl4, hk4, hm4, r4⟩ := own_rd own4 (by omega)
  have r : Rd W4 (some ⟨g, 0, none⟩) (len0 + 8) (xs ++ req 8 []) := r0.below hb34
  have p0 : Rd W4 (some ⟨g, 0 + 0, none⟩) len0 xs := r.piece [] xs (req 8 []) (by simp) 0 len0 rfl hX.1
  have p1 : Rd W4 (some ⟨g, 0 + len0, none⟩) (8 + 0) (req 8 []) := r.piece xs (req 8 []) [] (by simp) len0 (8 + 0) hX.1 (by rw [req_length]; rfl)
  rw [Nat.zero_add] at p0
  clear own2 own3 own4 hb3 hb4 hb34 hB hx2 hx3 r0 s3 LX
  go_wp2_with fail
  refine (zzEqual_true _ _ _ _ _ (xs ++ req 8 []) _ (by omega) r r4).mono ?_
  rintro e _ ⟨rfl, q1, rfl⟩
  go_wp2_with fail
  refine (zzEqual_true _ _ _ _ _ xs _ (by omega) (p0.drewN _) (hX.drewN _)).mono ?_
  rintro e _ ⟨rfl, q2, rfl⟩
  go_wp2_with fail
  refine (zzFrame g 0 (len0 + 8) k len0 0 _ 8 [] rfl _ (by omega) (by omega) (by omega) hk hm (by omega) (by omega) (p1.drewN _)).mono ?_
  rintro e _ ⟨f1, d1, rfl, hF1, q3, rfl⟩
  clear hF1
  go_wp2_with fail
  go_ret
  exact ⟨rfl, below_drewN hT _⟩
end Go.Proofs.Qxb6616466a
