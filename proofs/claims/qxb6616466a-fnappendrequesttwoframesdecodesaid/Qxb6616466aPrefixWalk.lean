/-
  The walk of FnAppendRequestIsPrefixFree.
-/
import Derived.Test.Qxb6616466aBridge
import Derived.WalkSmall
import Derived.Deep.DeepCutAuto
namespace Go.Proofs.Qxb6616466a
open Go.RowKit

/-- One of the two slices is too long: true at once. -/
theorem pfx_long (a0 a2 : Option Addr) (len0 cap0 len2 cap2 : Nat) (code : Int) (w : World) (h0 : len0 ≤ 9223372036854775807) (h2 : len2 ≤ 9223372036854775807) (hl : 65536 < len0 ∨ 65536 < len2) :
    Calls Try.prog 4 #[.slice a0 len0 cap0, .int .i32 code, .slice a2 len2 cap2] w fun e w' => e = .returned (.bool true) ∧ w' = w := by
  by_cases c0 : len0 ≤ 65536
  · have c2 : 65536 < len2 := by omega
    by_cases d2 : len2 ≤ 1048576
    · by_cases d3 : len0 + len2 ≤ 1048576
      · go_enter Try.func4, Try.ntmps4
        go_wp2
        go_ret
        exact ⟨rfl, rfl⟩
      · go_enter Try.func4, Try.ntmps4
        go_wp2
        go_ret
        exact ⟨rfl, rfl⟩
    · go_enter Try.func4, Try.ntmps4
      go_wp2
      go_ret
      exact ⟨rfl, rfl⟩
  · by_cases d0 : len0 ≤ 1048576
    · by_cases d2 : len2 ≤ 1048576
      · by_cases d3 : len0 + len2 ≤ 1048576
        · go_enter Try.func4, Try.ntmps4
          go_wp2
          go_ret
          exact ⟨rfl, rfl⟩
        · go_enter Try.func4, Try.ntmps4
          go_wp2
          go_ret
          exact ⟨rfl, rfl⟩
      · go_enter Try.func4, Try.ntmps4
        go_wp2
        go_ret
        exact ⟨rfl, rfl⟩
    · go_enter Try.func4, Try.ntmps4
      go_wp2
      go_ret
      exact ⟨rfl, rfl⟩

theorem bytes12 (a0 a2 : Option Addr) (len0 cap0 len2 cap2 : Nat) (code : Int) (w : World) (h0 : len0 ≤ 65536) (h2 : len2 ≤ 65536) :
    Calls Try.prog 12 #[.slice a0 len0 cap0, .int .i32 code, .slice a2 len2 cap2] w fun e w' => e = .returned (.bool true) ∧ w = w' := by
  go_enter Try.func12, Try.ntmps12
  go_wp2
  go_ret
  exact ⟨rfl, rfl⟩

theorem size5 : (Try.prog.info? 5).map (·.size) = some 1 := by kernel_rfl

theorem made_row {w1 : World} {B g n : Nat} (h : w1.ownsRow B 5 1 (.slice (some ⟨g, 0, none⟩) n n) n (madeCells #[Value.int .u8 0] n).toList) :
    w1.heap[g]? = some (.cells (List.replicate n (Value.int .u8 0)).toArray 5 (0, 0)) := by
  rw [toList_madeCells_one] at h
  rcases h.2 with ⟨h', _⟩ | ⟨g', cap, cur, h', _, hg, _, _, hs, ht⟩
  · simp at h'
  · simp only [Value.slice.injEq, Option.some.injEq, Addr.mk.injEq, and_true, true_and] at h'
    obtain ⟨rfl, rfl⟩ := h'
    rw [hg]
    have : cur.toList = List.replicate n (Value.int .u8 0) := by
      rw [← ht, List.take_of_length_le (by simp; omega)]
    rw [← this]

theorem copy_src {w : World} {x : Addr} {n : Nat} {ys : List Int} (h : Rd w (some x) n ys) : 0 < (cellsOf ys).length → ∃ ad, some x = some ad ∧ ∀ j v, (cellsOf ys)[j]? = some v → w.cell? (ad.add j) = some v := by
  intro hl
  rcases h.2 with h0 | ⟨g, o, e, hc⟩
  · have := h.1; simp [cellsOf] at hl; omega
  · obtain rfl := Option.some.inj e
    refine ⟨_, rfl, fun j v hj => ?_⟩
    have hjn : j < n := by
      have := (List.getElem?_eq_some_iff.1 hj).1
      rw [← h.1]; simpa [cellsOf] using this
    rw [Addr.add_lit, hc j hjn]
    simp [cellsOf, List.getElem?_map] at hj
    obtain ⟨z, h1, h2⟩ := hj
    simp [List.getD, h1, h2]

theorem wrap_toU {code : Int} (b0 : -2147483648 ≤ code) (b1 : code ≤ 2147483647) : wrap32 (toU code) = code := by unfold wrap32 toU; omega

theorem copied_rd {w : World} {g n : Nat} {ys : List Int} (h : w.heap[g]? = some (.cells (splice (List.replicate n (Value.int .u8 0)) 0 (cellsOf ys)).toArray 5 (0, 0))) (hn : ys.length = n) : Rd w (some ⟨g, 0, none⟩) n ys := by
  have e : splice (List.replicate n (Value.int .u8 0)) 0 (cellsOf ys) = cellsOf ys := by simp [splice, cellsOf, hn]
  rw [e] at h
  refine ⟨hn, .inr ⟨g, 0, rfl, fun j hj => ?_⟩⟩
  rw [cell_of_row w g (0 + j) _ 5 (0, 0) h]
  simp [cellsOf, List.getD, show j < ys.length by omega]

set_option maxHeartbeats 1600000 in
theorem pfx_main (a0 a2 : Option Addr) (len0 cap0 len2 cap2 : Nat) (code : Int) (xs ys : List Int) (w : World) (h0 : len0 ≤ 65536) (h2 : len2 ≤ 65536)
    (hx : Rd w a0 len0 xs) (nx : a0 = none → len0 = 0 ∧ cap0 = 0) (hy : Rd w a2 len2 ys) (ny : a2 = none → len2 = 0 ∧ cap2 = 0) (b0 : -2147483648 ≤ code) (b1 : code ≤ 2147483647) :
    Calls Try.prog 4 #[.slice a0 len0 cap0, .int .i32 code, .slice a2 len2 cap2] w fun e w' => e = .returned (.bool true) ∧ Below w.heap.size w w' := by
  obtain ⟨i0, hi, hz0, hz1, hz2⟩ := info_parts info5
  have hne := run_neq_slice_nil_any (P := Try.prog) w 22 5 a2 len2 cap2 0 0 Try.underlying22
  have NX := hd nx
  have NY := hd ny
  clear nx ny
  go_enter Try.func4, Try.ntmps4
  go_upto_if 22 with (go_at_call 12; refine (bytes12 _ _ _ _ _ _ _ _ h0 h2).mono ?_; rintro e w1 ⟨rfl, rfl⟩)
  go_cut [2, 7] (fun s _ W => ∃ ao c, s = .slice ao len2 c ∧ Rd W ao len2 ys ∧ (ao = none → len2 = 0 ∧ c = 0) ∧ Below w.heap.size w W)
  case first =>
    cases a2 with
    | none =>
      obtain ⟨rfl, rfl⟩ := NY.out rfl
      go_wp2_with fail
      go_meet
      exact ⟨none, 0, rfl, hy, (by simp), Below.refl _ _⟩
    | some x =>
      go_wp2_with (at_make; refine wpList_make_full _ rfl _ _ 22 rfl w.heap.size 5 i0 (.int .u8 0) 1 Try.underlying22 hi hz0 hz1 _ _ _ _ len2 rfl rfl rfl rfl (by rw [hz2]; omega) (by unfold maxLen; omega) (Nat.le_refl _) ?_)
      intro w1 hown hgrow
      have hg : w1.heap[w.heap.size]? = some (.cells (List.replicate len2 (Value.int .u8 0)).toArray 5 (0, 0)) := made_row hown
      have hb : Below w.heap.size w w1 := (Below.refl _ _).grown hgrow (Nat.le_refl _) (fun _ h => by cases h)
      have hsrc := copy_src (hy.below hb)
      have HS := hd hsrc
      clear hown hgrow hsrc hne
      go_wp2_with (refine wpList_copy_splice rfl (.tmp 26) (.tmp 27) 22 22 rfl 5 Try.underlying22 size5 _ _ _ _ _ _ rfl rfl w.heap.size 0 _ 5 hg (cellsOf ys) (by simp [cellsOf, hy.1]) (fun h => ⟨rfl, HS.out h⟩) (by simp [cellsOf, hy.1]) (ints_oneCell _ _) w.heap.size w hb (Nat.le_refl _) ?_)
      intro w2 HG hb2
      have R := hd (copied_rd HG.out hy.1)
      go_wp2_with fail
      go_meet
      exact ⟨_, _, rfl, R.out, (fun h => by simp at h), hb2⟩
  case rest =>
    obtain ⟨ao, c, rfl, hY, nY, hbW⟩ := hcut
    have hX : Rd wc a0 len0 xs := hx.below hbW
    have NZ := hd nY
    clear nY hy hx hne
    go_wp2_with fail
    refine (zzClone _ _ _ xs _ h0 hX NX.out).mono ?_
    rintro e W1 ⟨v1, rfl, own1, hb1⟩
    have hX1 : Rd W1 a0 len0 xs := hX.below hb1
    have hY1 : Rd W1 ao len2 ys := hY.below hb1
    have hlt := hY.lt
    have s1 := hb1.size
    have HL := hd hlt
    clear hlt
    go_wp2_with fail
    refine (appendRequest wc.heap.size len0 len2 c code ao v1 xs ys _ own1 s1 (by omega) h2 hY1 NZ.out HL.out).mono ?_
    rintro e W2 ⟨v2, rfl, own2, hb2⟩
    have hX2 : Rd W2 a0 len0 xs := hX1.kept hb2 hX.lt
    have hY2 : Rd W2 ao len2 ys := hY1.kept hb2 HL.out
    clear hX1 hY1 own1
    go_wp2_with fail
    refine (appendRequest W2.heap.size 0 len2 c code ao _ [] ys _ (World.ownsRow_nil _ _ _ _) (Nat.le_refl _) (by omega) h2 hY2 NZ.out hY2.lt).mono ?_
    rintro e W3 ⟨v3, rfl, own3, hb3⟩
    rw [show 0 + 8 + len2 = 8 + len2 by omega] at own3
    obtain ⟨g2, k2, rfl, hg2, hl2, hk2, hm2, r2⟩ := own_rd own2 (by omega)
    obtain ⟨g3, k3, rfl, hg3, hl3, hk3, hm3, hP3⟩ := own_rd own3 (by omega)
    have hX3 : Rd W3 a0 len0 xs := hX2.below hb3
    have hY3 : Rd W3 ao len2 ys := hY2.below hb3
    have r23 : Rd W3 (some ⟨g2, 0, none⟩) (len0 + 8 + len2) (xs ++ req code ys) := r2.below hb3
    have hB : Below w.heap.size w W3 := hbW.trans ((hb1.mono hbW.size).trans ((hb2.mono hbW.size).trans (hb3.mono (Nat.le_trans hbW.size (Nat.le_trans s1 hb2.size)))))
    have hP1 : Rd W3 (some ⟨g2, 0 + 0, none⟩) len0 xs := r23.piece [] xs (req code ys) rfl 0 len0 rfl hX3.1
    have hP2 : Rd W3 (some ⟨g2, 0 + len0, none⟩) (8 + len2) (req code ys) := r23.piece xs (req code ys) [] (by simp) len0 (8 + len2) hX3.1 (by rw [req_length, hY3.1])
    rw [List.nil_append] at hP3
    obtain ⟨hQ0, hQ4, hP4⟩ := req_open hP3 h2
    rw [Nat.zero_add] at hP1 hP2 hP4
    clear hX hX2 hY hY2 own2 own3 hb1 hb2 hb3 hbW r2 r23
    go_wp2_with fail
    refine (zzEqual_true _ _ _ _ _ xs _ (by omega) hP1 hX3).mono ?_
    rintro e _ ⟨rfl, q1, rfl⟩
    go_wp2_with fail
    rw [show len0 + 8 + len2 - len0 = 8 + len2 by omega]
    refine (zzEqual_true _ _ _ _ _ (req code ys) _ (by omega) (hP2.drewN _) (hP3.drewN _)).mono ?_
    rintro e _ ⟨rfl, q2, rfl⟩
    go_wp2_with fail
    refine (zzU32_be g3 0 (8 + len2) k3 0 _ (4 + (len2 : Int)) rfl _ (by omega) (by omega) (by omega) (by omega) (hQ0.drewN _)).mono ?_
    rintro e _ ⟨rfl, q3, rfl⟩
    go_wp2_with fail
    refine (zzU32_be g3 0 (8 + len2) k3 4 _ (toU code) rfl _ (by omega) (by omega) (toU_bd code).1 (toU_bd code).2 (hQ4.drewN _)).mono ?_
    rintro e _ ⟨rfl, q4, rfl⟩
    have hcode : (wrap32 (toU code) != code) = false := by rw [wrap_toU b0 b1]; simp
    go_wp2_with fail
    · have hE : Rd W3 (some ⟨g3, 0, none⟩) len2 ys := ⟨hY3.1, .inl (by omega)⟩
      refine (zzEqual_true _ _ _ _ _ ys _ (by omega) (hE.drewN _) (hY3.drewN _)).mono ?_
      rintro e _ ⟨rfl, q5, rfl⟩
      go_wp2
      go_ret
      exact ⟨rfl, below_drewN hB _⟩
    · refine (zzEqual_true _ _ _ _ _ ys _ (by omega) (hP4.drewN _) (hY3.drewN _)).mono ?_
      rintro e _ ⟨rfl, q5, rfl⟩
      go_wp2
      go_ret
      exact ⟨rfl, below_drewN hB _⟩
end Go.Proofs.Qxb6616466a
