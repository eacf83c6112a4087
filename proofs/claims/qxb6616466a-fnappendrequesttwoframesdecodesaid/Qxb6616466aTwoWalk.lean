/-
  The walk of FnAppendRequestTwoFramesDecode.
-/
import Derived.Test.Qxb6616466aFrame
import Derived.Test.Qxb6616466aPrefixWalk
namespace Go.Proofs.Qxb6616466a
open Go.RowKit

theorem bytes7_yes (a0 a2 a4 : Option Addr) (len0 cap0 len2 cap2 len4 cap4 : Nat) (code1 code2 : Int) (w : World) (hs : len0 + len2 + len4 ≤ 1048576) :
    Calls Try.prog 7 #[.slice a0 len0 cap0, .int .i32 code1, .slice a2 len2 cap2, .int .i32 code2, .slice a4 len4 cap4] w fun e w' => e = .returned (.bool true) ∧ w = w' := by
  have h0 : len0 ≤ 1048576 := by omega
  have h2 : len2 ≤ 1048576 := by omega
  have h3 : len0 + len2 ≤ 1048576 := by omega
  have h4 : len4 ≤ 1048576 := by omega
  go_enter Try.func7, Try.ntmps7
  go_wp2
  go_ret
  exact ⟨rfl, rfl⟩

theorem bytes7_no (a0 a2 a4 : Option Addr) (len0 cap0 len2 cap2 len4 cap4 : Nat) (code1 code2 : Int) (w : World) (hs : ¬ len0 + len2 + len4 ≤ 1048576)
    (l0 : len0 ≤ 9223372036854775807) (l2 : len2 ≤ 9223372036854775807) (l4 : len4 ≤ 9223372036854775807) :
    Calls Try.prog 7 #[.slice a0 len0 cap0, .int .i32 code1, .slice a2 len2 cap2, .int .i32 code2, .slice a4 len4 cap4] w fun e w' => e = .returned (.bool false) ∧ w = w' := by
  by_cases h0 : len0 ≤ 1048576
  · by_cases h2 : len2 ≤ 1048576
    · by_cases h3 : len0 + len2 ≤ 1048576
      · by_cases h4 : len4 ≤ 1048576
        · go_enter Try.func7, Try.ntmps7
          go_wp2
          go_ret
          exact ⟨rfl, rfl⟩
        · go_enter Try.func7, Try.ntmps7
          go_wp2
          go_ret
          exact ⟨rfl, rfl⟩
      · go_enter Try.func7, Try.ntmps7
        go_wp2
        go_ret
        exact ⟨rfl, rfl⟩
    · go_enter Try.func7, Try.ntmps7
      go_wp2
      go_ret
      exact ⟨rfl, rfl⟩
  · go_enter Try.func7, Try.ntmps7
    go_wp2
    go_ret
    exact ⟨rfl, rfl⟩

theorem two_long (a0 a2 a4 : Option Addr) (len0 cap0 len2 cap2 len4 cap4 : Nat) (code1 code2 : Int) (w : World)
    (l0 : len0 ≤ 9223372036854775807) (l2 : len2 ≤ 9223372036854775807) (l4 : len4 ≤ 9223372036854775807) (hl : 65536 < len0 ∨ 65536 < len2 ∨ 65536 < len4) :
    Calls Try.prog 3 #[.slice a0 len0 cap0, .int .i32 code1, .slice a2 len2 cap2, .int .i32 code2, .slice a4 len4 cap4] w fun e w' => e = .returned (.bool true) ∧ w = w' := by
  by_cases hs : len0 + len2 + len4 ≤ 1048576
  · by_cases h0 : len0 ≤ 65536
    · by_cases h2 : len2 ≤ 65536
      · have h4 : 65536 < len4 := by omega
        go_enter Try.func3, Try.ntmps3
        go_wp2_with fail
        refine (bytes7_yes _ _ _ _ _ _ _ _ _ _ _ _ hs).mono ?_
        rintro e _ ⟨rfl, rfl⟩
        go_wp2_with fail
        go_ret
        exact ⟨rfl, rfl⟩
      · go_enter Try.func3, Try.ntmps3
        go_wp2_with fail
        refine (bytes7_yes _ _ _ _ _ _ _ _ _ _ _ _ hs).mono ?_
        rintro e _ ⟨rfl, rfl⟩
        go_wp2_with fail
        go_ret
        exact ⟨rfl, rfl⟩
    · go_enter Try.func3, Try.ntmps3
      go_wp2_with fail
      refine (bytes7_yes _ _ _ _ _ _ _ _ _ _ _ _ hs).mono ?_
      rintro e _ ⟨rfl, rfl⟩
      go_wp2_with fail
      go_ret
      exact ⟨rfl, rfl⟩
  · go_enter Try.func3, Try.ntmps3
    go_wp2_with fail
    refine (bytes7_no _ _ _ _ _ _ _ _ _ _ _ _ hs l0 l2 l4).mono ?_
    rintro e _ ⟨rfl, rfl⟩
    go_wp2_with fail
    go_ret
    exact ⟨rfl, rfl⟩

set_option maxRecDepth 100000 in
set_option maxHeartbeats 3200000 in
theorem two_main (a0 a2 a4 : Option Addr) (len0 cap0 len2 cap2 len4 cap4 : Nat) (code1 code2 : Int) (xs ys zs : List Int) (w : World) (h0 : len0 ≤ 65536) (h2 : len2 ≤ 65536) (h4 : len4 ≤ 65536)
    (hx : Rd w a0 len0 xs) (nx : a0 = none → len0 = 0 ∧ cap0 = 0) (hy : Rd w a2 len2 ys) (ny : a2 = none → len2 = 0 ∧ cap2 = 0) (hz : Rd w a4 len4 zs) (nz : a4 = none → len4 = 0 ∧ cap4 = 0)
    (b0 : -2147483648 ≤ code1) (b1 : code1 ≤ 2147483647) (b2 : -2147483648 ≤ code2) (b3 : code2 ≤ 2147483647) :
    Calls Try.prog 3 #[.slice a0 len0 cap0, .int .i32 code1, .slice a2 len2 cap2, .int .i32 code2, .slice a4 len4 cap4] w fun e w' => e = .returned (.bool true) ∧ Below w.heap.size w w' := by
  obtain ⟨i0, hi, hz0, hz1, hz2⟩ := info_parts info5
  have hne := run_neq_slice_nil_any (P := Try.prog) w 22 5 a2 len2 cap2 0 0 Try.underlying22
  have NX := hd nx
  have NY := hd ny
  have NZ := hd nz
  clear nx ny nz
  go_enter Try.func3, Try.ntmps3
  go_upto_if 36 with (go_at_call 7; refine (bytes7_yes _ _ _ _ _ _ _ _ _ _ _ _ (by omega)).mono ?_; rintro e w1 ⟨rfl, rfl⟩)
  go_cut [2, 11] (fun s _ W => ∃ ao c, s = .slice ao len2 c ∧ Rd W ao len2 ys ∧ (ao = none → len2 = 0 ∧ c = 0) ∧ Below w.heap.size w W)
  case first =>
    cases a2 with
    | none =>
      obtain ⟨rfl, rfl⟩ := NY.out rfl
      go_wp2_with fail
      go_meet
      exact ⟨none, 0, rfl, hy, (by simp), Below.refl _ _⟩
    | some x =>
      go_wp2_with (at_make; refine wpList_make_full _ rfl _ _ 22 rfl w.heap.size 5 i0 (.int .u8 0) 1 Try.underlying22 hi hz0 hz1 _ _ _ _ len2 rfl rfl rfl rfl (by rw [hz2]; omega) (by unfold maxLen; omega) (Nat.le_refl _) ?_)
      intro w1 hown hgrow
      have hg : w1.heap[w.heap.size]? = some (.cells (List.replicate len2 (Value.int .u8 0)).toArray 5 (0, 0)) := made_row hown
      have hb : Below w.heap.size w w1 := (Below.refl _ _).grown hgrow (Nat.le_refl _) (fun _ h => by cases h)
      have hsrc := copy_src (hy.below hb)
      have HS := hd hsrc
      clear hown hgrow hsrc hne
      go_wp2_with (refine wpList_copy_splice rfl (.tmp 40) (.tmp 41) 22 22 rfl 5 Try.underlying22 size5 _ _ _ _ _ _ rfl rfl w.heap.size 0 _ 5 hg (cellsOf ys) (by simp [cellsOf, hy.1]) (fun h => ⟨rfl, HS.out h⟩) (by simp [cellsOf, hy.1]) (ints_oneCell _ _) w.heap.size w hb (Nat.le_refl _) ?_)
      intro w2 HG hb2
      have R := hd (copied_rd HG.out hy.1)
      go_wp2_with fail
      go_meet
      exact ⟨_, _, rfl, R.out, (fun h => by simp at h), hb2⟩
  case rest =>
    obtain ⟨ao, c, rfl, hY, nY, hbW⟩ := hcut
    obtain ⟨V, hV⟩ : ∃ V, V = wc := ⟨_, rfl⟩
    subst hV
    have hX : Rd V a0 len0 xs := hx.below hbW
    have hZ : Rd V a4 len4 zs := hz.below hbW
    have HY := hd nY
    clear nY hy hx hz hne
    have hne := run_neq_slice_nil_any (P := Try.prog) V 22 5 a4 len4 cap4 0 0 Try.underlying22
    go_upto_if 45 with fail
    go_cut [4, 12] (fun s _ W => ∃ ao c, s = .slice ao len4 c ∧ Rd W ao len4 zs ∧ (ao = none → len4 = 0 ∧ c = 0) ∧ Below V.heap.size V W)
    case first =>
      cases a4 with
      | none =>
        obtain ⟨rfl, rfl⟩ := NZ.out rfl
        go_wp2_with fail
        go_meet
        exact ⟨none, 0, rfl, hZ, (by simp), Below.refl _ _⟩
      | some x =>
        go_wp2_with (at_make; refine wpList_make_full _ rfl _ _ 22 rfl V.heap.size 5 i0 (.int .u8 0) 1 Try.underlying22 hi hz0 hz1 _ _ _ _ len4 rfl rfl rfl rfl (by rw [hz2]; omega) (by unfold maxLen; omega) (Nat.le_refl _) ?_)
        intro w1 hown hgrow
        have hg : w1.heap[V.heap.size]? = some (.cells (List.replicate len4 (Value.int .u8 0)).toArray 5 (0, 0)) := made_row hown
        have hb : Below V.heap.size V w1 := (Below.refl _ _).grown hgrow (Nat.le_refl _) (fun _ h => by cases h)
        have hsrc := copy_src (hZ.below hb)
        have HS := hd hsrc
        clear hown hgrow hsrc hne
        go_wp2_with (refine wpList_copy_splice rfl (.tmp 49) (.tmp 50) 22 22 rfl 5 Try.underlying22 size5 _ _ _ _ _ _ rfl rfl V.heap.size 0 _ 5 hg (cellsOf zs) (by simp [cellsOf, hZ.1]) (fun h => ⟨rfl, HS.out h⟩) (by simp [cellsOf, hZ.1]) (ints_oneCell _ _) V.heap.size V hb (Nat.le_refl _) ?_)
        intro w2 HG hb2
        have R := hd (copied_rd HG.out hZ.1)
        go_wp2_with fail
        go_meet
        exact ⟨_, _, rfl, R.out, (fun h => by simp at h), hb2⟩
    case rest =>
      obtain ⟨ao4, c4, rfl, hZ1, nZ, hbV⟩ := hcut
      have hX1 : Rd wc a0 len0 xs := hX.below hbV
      have hY1 : Rd wc ao len2 ys := hY.below hbV
      have HZ := hd nZ
      have hbT : Below w.heap.size w wc := hbW.trans (hbV.mono hbW.size)
      clear nZ hX hY hZ hne hbV hbW
      go_wp2_with fail
      refine (zzClone _ _ _ xs _ h0 hX1 NX.out).mono ?_
      rintro e W1 ⟨v1, rfl, own1, hb1⟩
      have hX2 : Rd W1 a0 len0 xs := hX1.below hb1
      have hY2 : Rd W1 ao len2 ys := hY1.below hb1
      have hZ2 : Rd W1 ao4 len4 zs := hZ1.below hb1
      have s1 := hb1.size
      have LX := hd hX1.lt
      have LY := hd hY1.lt
      have LZ := hd hZ1.lt
      clear hX1 hY1 hZ1
      go_wp2_with fail
      refine (appendRequest wc.heap.size len0 len2 c code1 ao v1 xs ys _ own1 s1 (by omega) h2 hY2 HY.out LY.out).mono ?_
      rintro e W2 ⟨v2, rfl, own2, hb2⟩
      have hX3 : Rd W2 a0 len0 xs := hX2.kept hb2 LX.out
      have hY3 : Rd W2 ao len2 ys := hY2.kept hb2 LY.out
      have hZ3 : Rd W2 ao4 len4 zs := hZ2.kept hb2 LZ.out
      have s2 : wc.heap.size ≤ W2.heap.size := Nat.le_trans s1 hb2.size
      have hb12 := hb1.trans hb2
      clear hX2 hY2 hZ2 own1 hb1 hb2 s1
      go_wp2_with fail
      refine (appendRequest wc.heap.size (len0 + 8 + len2) len4 c4 code2 ao4 v2 (xs ++ req code1 ys) zs _ own2 s2 (by omega) h4 hZ3 HZ.out LZ.out).mono ?_
      rintro e W3 ⟨v3, rfl, own3, hb3⟩
      have hX4 : Rd W3 a0 len0 xs := hX3.kept hb3 LX.out
      have hY4 : Rd W3 ao len2 ys := hY3.kept hb3 LY.out
      have hZ4 : Rd W3 ao4 len4 zs := hZ3.kept hb3 LZ.out
      have hB : Below w.heap.size w W3 := hbT.trans ((hb12.trans hb3).mono hbT.size)
      obtain ⟨g, k, rfl, hg, hl, hk, hm, r⟩ := own_rd own3 (by omega)
      have p0 : Rd W3 (some ⟨g, 0 + 0, none⟩) len0 xs := r.piece [] xs (req code1 ys ++ req code2 zs) (by simp) 0 len0 rfl hX4.1
      have p1 : Rd W3 (some ⟨g, 0 + len0, none⟩) (8 + len2) (req code1 ys) := r.piece xs (req code1 ys) (req code2 zs) rfl len0 (8 + len2) hX4.1 (by rw [req_length, hY4.1])
      have p2 : Rd W3 (some ⟨g, 0 + (len0 + 8 + len2), none⟩) (8 + len4) (req code2 zs) := r.piece (xs ++ req code1 ys) (req code2 zs) [] (by simp) (len0 + 8 + len2) (8 + len4) (by rw [List.length_append, req_length, hX4.1, hY4.1]; omega) (by rw [req_length, hZ4.1])
      clear hX3 hY3 hZ3 own2 own3 hb12 hb3 r hbT s2 LX LY LZ
      rw [Nat.add_zero] at p0
      go_wp2_with fail
      refine (zzEqual_true _ _ _ _ _ xs _ (by omega) p0 hX4).mono ?_
      rintro e _ ⟨rfl, q1, rfl⟩
      go_wp2_with fail
      refine (zzFrame g 0 (len0 + 8 + len2 + 8 + len4) k len0 len2 _ code1 ys rfl _ (by omega) (by omega) h2 hk hm b0 b1 (p1.drewN _)).mono ?_
      rintro e _ ⟨f1, d1, rfl, hF1, q2, rfl⟩
      go_wp2_with fail
      have hF2 : Rd W3 f1 len2 ys := hF1
      clear hF1
      refine (zzEqual_true _ _ _ _ _ ys _ (by omega) (hF2.drewN _) (hY4.drewN _)).mono ?_
      rintro e _ ⟨rfl, q3, rfl⟩
      go_wp2_with fail
      refine (zzFrame g 0 (len0 + 8 + len2 + 8 + len4) k (len0 + 8 + len2) len4 _ code2 zs (by omega) _ (by omega) (by omega) h4 hk hm b2 b3 (p2.drewN _)).mono ?_
      rintro e _ ⟨f2, d2, rfl, hG1, q4, rfl⟩
      have hG2 : Rd W3 f2 len4 zs := hG1
      clear hG1
      go_wp2_with fail
      refine (zzEqual_true _ _ _ _ _ zs _ (by omega) (hG2.drewN _) (hZ4.drewN _)).mono ?_
      rintro e _ ⟨rfl, q5, rfl⟩
      go_wp2_with fail
      go_ret
      exact ⟨rfl, below_drewN hB _⟩
end Go.Proofs.Qxb6616466a
