/-
  zzFrame where a whole request lies.
-/
import Derived.Test.Qxb6616466aBridge
import Derived.WalkSmall
import Derived.Deep.DeepCutAuto
namespace Go.Proofs.Qxb6616466a
open Go.RowKit

theorem code_back {code : Int} (b0 : -2147483648 ≤ code) (b1 : code ≤ 2147483647) : wrap32 (toU code) = code := by unfold wrap32 toU; omega

set_option maxHeartbeats 1600000 in
theorem zzFrame (g o n c q m : Nat) (p code : Int) (ys : List Int) (hp : p = q) (w : World) (hn : q + 8 + m ≤ n) (hm : n ≤ 1048576) (hmm : m ≤ 65536) (hc : n ≤ c) (hcc : c ≤ 9223372036854775807)
    (b0 : -2147483648 ≤ code) (b1 : code ≤ 2147483647) (hr : Rd w (some ⟨g, o + q, none⟩) (8 + m) (req code ys)) :
    Calls Try.prog 11 #[.slice (some ⟨g, o, none⟩) n c, .int .i64 p] w fun e w' => ∃ ao c', e = .returned (.tuple #[.int .i32 code, .slice ao m c', .int .i64 ((q + 8 + m : Nat) : Int), .bool true]) ∧ Rd w ao m ys ∧ ∃ k, w' = w.drewN k := by
  subst hp
  obtain ⟨hQ0, hQ4, hP4⟩ := req_open hr hmm
  rw [Nat.add_zero] at hQ0
  rw [Nat.add_assoc] at hQ4 hP4
  go_enter Try.func11, Try.ntmps11
  go_wp2_with fail
  refine (zzU32_be g o n c q _ (4 + (m : Int)) rfl _ (by omega) (by omega) (by omega) (by omega) hQ0).mono ?_
  rintro e _ ⟨rfl, q1, rfl⟩
  go_wp2_with fail
  simp only [show (4 + (m : Int) - 4) = (m : Int) by omega]
  refine (zzU32_be g o n c (q + 4) _ (toU code) (by omega) _ (by omega) (by omega) (toU_bd code).1 (toU_bd code).2 (hQ4.drewN _)).mono ?_
  rintro e _ ⟨rfl, q2, rfl⟩
  have i1 : (q : Int) + 8 ≤ (q : Int) + 8 + (m : Int) := by omega
  have i2 : (q : Int) + 8 + (m : Int) ≤ (c : Int) := by omega
  go_wp2_with fail
  go_quiet (fail)
  simp only [code_back b0 b1, show q + 8 + m - (q + 8) = m by omega]
  have hR : Rd w (if c = q + 8 then (some ⟨g, o, none⟩ : Option Addr) else some ⟨g, o + (q + 8), none⟩) m ys := by
    split
    · exact ⟨hP4.1, .inl (by omega)⟩
    · exact hP4
  generalize (if c = q + 8 then (some ⟨g, o, none⟩ : Option Addr) else some ⟨g, o + (q + 8), none⟩) = ao at *
  go_wp2
  refine bodyPost_ret (v := .tuple #[.int .i32 code, .slice ao m (c - (q + 8)), .int .i64 ((q : Int) + 8 + (m : Int)), .bool true]) (by simp [results, Try.results11, go_sem]) rfl ?_
  exact ⟨ao, _, by go_num, hR, q1 + q2 + nq, by simp⟩
end Go.Proofs.Qxb6616466a
