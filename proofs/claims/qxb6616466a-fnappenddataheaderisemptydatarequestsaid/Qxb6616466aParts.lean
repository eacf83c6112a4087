/-
  Contracts of the small functions on the road: zzEqual, zzClone, zzU32, zzFrame, AppendUint32, appendInts, AppendRequest, AppendDataHeader.
-/
import Derived.Test.Qxb6616466aRows
import Derived.WalkKit
import Derived.ProofKit
import Derived.OwnWalk
import Derived.Below
import Derived.RegionTactic
import Derived.Deep.QuietTactic
import Derived.BigQuiet
import Derived.Laws.AppendOwnNone
import Derived.Laws.CopyOwn
import Derived.LoopTactic
import Derived.WalkSpells
import Derived.Lib.EndianBits
namespace Go.Proofs.Qxb6616466a
open Go.RowKit

theorem info5 : (Try.prog.info? 5).map (fun i => (i.zero, i.size, i.bytes)) = some (some (.int .u8 0), 1, 1) := by kernel_rfl

/-- A slice of bytes that is read: its n elements are the numbers zs; where there is an element at all it has a plain address. -/
def Rd (w : World) (ao : Option Addr) (n : Nat) (zs : List Int) : Prop :=
  zs.length = n ∧ (n = 0 ∨ ∃ g o, ao = some ⟨g, o, none⟩ ∧ ∀ j, j < n → w.cell? ⟨g, o + j, none⟩ = some (.int .u8 (zs.getD j 0)))

def cellsOf (zs : List Int) : List Value := zs.map (Value.int .u8)

theorem zzEqual_empty (a1 a2 : Option Addr) (c1 c2 : Nat) (w : World) :
    Calls Try.prog 10 #[.slice a1 0 c1, .slice a2 0 c2] w fun e w' => e = .returned (.bool true) ∧ ∃ k, w' = w.drewN k := by
  go_enter Try.func10, Try.ntmps10
  go_wp2
  go_loop [5] (fun i => i = .int .i64 0) (fun _ => 0)
  case atStart => rfl
  case round =>
    subst hrel
    go_wp2
    go_ret
    exact ⟨rfl, 0, rfl⟩

set_option maxHeartbeats 400000 in
theorem zzEqual_row (g1 o1 c1 g2 o2 c2 n : Nat) (zs : List Int) (w : World) (hm : n ≤ 16777216)
    (h1 : ∀ j, j < n → w.cell? ⟨g1, o1 + j, none⟩ = some (.int .u8 (zs.getD j 0))) (h2 : ∀ j, j < n → w.cell? ⟨g2, o2 + j, none⟩ = some (.int .u8 (zs.getD j 0))) :
    Calls Try.prog 10 #[.slice (some ⟨g1, o1, none⟩) n c1, .slice (some ⟨g2, o2, none⟩) n c2] w fun e w' => e = .returned (.bool true) ∧ ∃ k, w' = w.drewN k := by
  go_enter Try.func10, Try.ntmps10
  go_wp2
  go_loopw [5] (fun i wr => ∃ k : Nat, k ≤ n ∧ i = .int .i64 k ∧ ∃ q, wr = w.drewN q) (fun i _ => n - (intOf i).toNat)
  case atStart => exact ⟨0, Nat.zero_le _, rfl, 0, rfl⟩
  case round =>
    obtain ⟨k, hk, rfl, q, rfl⟩ := hrel
    by_cases hlt : k < n
    · have e1 := h1 k hlt
      have e2 := h2 k hlt
      generalize zs.getD k 0 = z at e1 e2
      have hlt' : (k : Int) < (n : Int) := by omega
      clear h1 h2
      go_wp2
      go_quiet (fail)
      go_wp2
      go_roundw
      case rel => exact ⟨k + 1, by omega, by go_num, _, rfl⟩
      case measure => simp [intOf]; omega
    · clear h1 h2
      go_wp2
      go_ret
      exact ⟨rfl, q, rfl⟩

theorem zzEqual_true (a1 a2 : Option Addr) (n c1 c2 : Nat) (zs : List Int) (w : World) (hm : n ≤ 16777216) (h1 : Rd w a1 n zs) (h2 : Rd w a2 n zs) :
    Calls Try.prog 10 #[.slice a1 n c1, .slice a2 n c2] w fun e w' => e = .returned (.bool true) ∧ ∃ k, w' = w.drewN k := by
  rcases h1.2 with rfl | ⟨g1, o1, rfl, f1⟩
  · exact zzEqual_empty a1 a2 c1 c2 w
  · rcases h2.2 with rfl | ⟨g2, o2, rfl, f2⟩
    · exact zzEqual_empty _ a2 c1 c2 w
    · exact zzEqual_row g1 o1 c1 g2 o2 c2 n zs w hm f1 f2

theorem zzClone_nil (w : World) :
    Calls Try.prog 8 #[.slice none 0 0] w fun e w' => e = .returned (.slice none 0 0) ∧ w' = w := by
  have hnil := Lib.run_eql_slice_nil (P := Try.prog) w 22 5 none 0 0 0 0 Try.underlying22
  go_enter Try.func8, Try.ntmps8
  go_wp2
  go_ret
  exact ⟨rfl, rfl⟩

/-- What one round of the clone does to the row. -/
theorem clone_step {n k : Nat} {zs : List Int} (hz : zs.length = n) (hk : k < n) :
    ((cellsOf (zs.take k) ++ List.replicate (n - k) (Value.int .u8 0)).set k (.int .u8 (zs.getD k 0))) = cellsOf (zs.take (k + 1)) ++ List.replicate (n - (k + 1)) (Value.int .u8 0) := by
  have hl : (cellsOf (zs.take k)).length = k := by simp [cellsOf]; omega
  obtain ⟨m, hm⟩ : ∃ m, n - k = m + 1 := ⟨n - k - 1, by omega⟩
  rw [List.set_append_right _ _ (by omega), hl, Nat.sub_self, hm, List.replicate_succ, List.set_cons_zero, show n - (k + 1) = m by omega]
  rw [List.take_succ_eq_append_getElem (by omega), cellsOf, cellsOf, List.map_append, List.append_assoc]
  simp [List.getD, show k < zs.length by omega]

set_option maxHeartbeats 800000 in
theorem zzClone_some (a : Addr) (n c : Nat) (zs : List Int) (w : World) (hm : n ≤ 16777216) (hz : zs.length = n)
    (h1 : ∀ j, j < n → w.cell? ⟨a.block, a.off + j, none⟩ = some (.int .u8 (zs.getD j 0))) (hs : 0 < n → a.spot = none) :
    Calls Try.prog 8 #[.slice (some a) n c] w fun e w' => ∃ v', e = .returned v' ∧ w'.ownsRow w.heap.size 5 1 v' n (cellsOf zs) ∧ Below w.heap.size w w' := by
  obtain ⟨i0, hi, hz0, hz1, hz2⟩ := info_parts info5
  obtain ⟨g, o, spot⟩ := a
  have hnil := Lib.run_eql_slice_nil (P := Try.prog) w 22 5 (some ⟨g, o, spot⟩) n c 0 0 Try.underlying22
  go_enter Try.func8, Try.ntmps8
  go_wp2_with (at_make; refine wpList_make_full _ rfl _ _ 22 rfl w.heap.size 5 i0 (.int .u8 0) 1 Try.underlying22 hi hz0 hz1 _ _ _ _ n rfl rfl rfl rfl (by rw [hz2]; omega) (by unfold maxLen; omega) (Nat.le_refl _) ?_)
  intro w1 hown hgrow
  have hown1 : w1.ownsRow w.heap.size 5 1 (.slice (some ⟨w.heap.size, 0, none⟩) n n) n (cellsOf (zs.take 0) ++ List.replicate (n - 0) (Value.int .u8 0)) := by
    have e : (madeCells #[Value.int .u8 0] n).toList = List.replicate n (Value.int .u8 0) := toList_madeCells_one _ _
    rw [e] at hown
    simpa [cellsOf] using hown
  have hb : Below w.heap.size w w1 := (Below.refl _ _).grown hgrow (Nat.le_refl _) (fun _ h => by cases h)
  clear hown hgrow
  go_wp2
  go_loopw [4] (fun i wr => ∃ k : Nat, k ≤ n ∧ i = .int .i64 k ∧ wr.ownsRow w.heap.size 5 1 (.slice (some ⟨w.heap.size, 0, none⟩) n n) n (cellsOf (zs.take k) ++ List.replicate (n - k) (Value.int .u8 0)) ∧ Below w.heap.size w wr) (fun i _ => n - (intOf i).toNat)
  case atStart => exact ⟨0, Nat.zero_le _, rfl, hown1, hb⟩
  case round =>
    obtain ⟨k, hk, rfl, hown, hbr⟩ := hrel
    by_cases hlt : k < n
    · obtain rfl : spot = none := hs (by omega)
      have hlt' : (k : Int) < (n : Int) := by omega
      have hc := h1 k hlt
      have hgl : g < w.heap.size := World.block_lt_of_cell? _ _ hc
      have e1 : wr.cell? ⟨g, o + k, none⟩ = some (.int .u8 (zs.getD k 0)) := (hbr.cell (by exact hgl)).trans hc
      have e2 : ∃ u, wr.cell? ⟨w.heap.size, k, none⟩ = some u := by
        rw [hown.cellAt k (by omega)]
        have : k < (cellsOf (zs.take k) ++ List.replicate (n - k) (Value.int .u8 0)).length := by simp [cellsOf]; omega
        exact ⟨_, List.getElem?_eq_getElem this⟩
      obtain ⟨u, e2⟩ := e2
      have e3 := hown.frozenAt k
      have R := hown.stored k (.int .u8 (zs.getD k 0))
      rw [clone_step hz hlt] at R
      have R2 : Below w.heap.size w (wr.setCell ⟨w.heap.size, k, none⟩ (.int .u8 (zs.getD k 0))) := hbr.setCell (Nat.le_refl _) _
      have HR := (show Hid _ from R)
      have HR2 := (show Hid _ from R2)
      clear R R2 h1 hown1 hb hown hbr hc
      generalize zs.getD k 0 = z at *
      go_wp2
      go_roundw
      case rel => exact ⟨k + 1, by omega, by go_num, HR.out.1, HR2.out⟩
      case measure => simp [intOf]; omega
    · clear h1 hown1 hb
      go_wp2
      go_ret
      obtain rfl : k = n := by omega
      refine ⟨_, rfl, ?_, hbr⟩
      have e : cellsOf (zs.take k) ++ List.replicate (k - k) (Value.int .u8 0) = cellsOf zs := by simp [← hz]
      rw [e] at hown
      exact hown

theorem hd {p : Prop} (h : p) : Hid p := h

theorem or_comm32 (x y : Int) : bits .or .u32 x y = bits .or .u32 y x := by
  simp [bits, Nat.or_comm]

theorem be4_or (b0 b1 b2 b3 : Int) (r0 : 0 ≤ b0 ∧ b0 ≤ 255) (r1 : 0 ≤ b1 ∧ b1 ≤ 255) (r2 : 0 ≤ b2 ∧ b2 ≤ 255) (r3 : 0 ≤ b3 ∧ b3 ≤ 255) :
    bits .or .u32 (bits .or .u32 (bits .or .u32 (b0 * 16777216) (b1 * 65536)) (b2 * 256)) b3 = b0 * 16777216 + b1 * 65536 + b2 * 256 + b3 := by
  have e1 : bits .or .u32 (b0 * 16777216) (b1 * 65536) = b0 * 16777216 + b1 * 65536 := by
    rw [or_comm32, u32_or24 _ _ (by omega) (by omega) (by omega) (by omega) (by omega)]; omega
  have e2 : bits .or .u32 (b0 * 16777216 + b1 * 65536) (b2 * 256) = b0 * 16777216 + b1 * 65536 + b2 * 256 := by
    rw [or_comm32, u32_or16 _ _ (by omega) (by omega) (by omega) (by omega) (by omega)]; omega
  have e3 : bits .or .u32 (b0 * 16777216 + b1 * 65536 + b2 * 256) b3 = b0 * 16777216 + b1 * 65536 + b2 * 256 + b3 := by
    rw [or_comm32, u32_or8 _ _ (by omega) (by omega) (by omega) (by omega) (by omega)]; omega
  rw [e1, e2, e3]
theorem ret_val {a b : Value} (h : a = b) : Ending.returned a = .returned b := by rw [h]

set_option maxHeartbeats 800000 in
theorem zzU32_row (g o n c q : Nat) (p : Int) (hp : p = q) (b0 b1 b2 b3 : Int) (w : World) (hn : q + 4 ≤ n) (hm : n ≤ 16777216)
    (r0 : 0 ≤ b0 ∧ b0 ≤ 255) (r1 : 0 ≤ b1 ∧ b1 ≤ 255) (r2 : 0 ≤ b2 ∧ b2 ≤ 255) (r3 : 0 ≤ b3 ∧ b3 ≤ 255)
    (c0 : w.cell? ⟨g, o + q, none⟩ = some (.int .u8 b0)) (c1 : w.cell? ⟨g, o + (q + 1), none⟩ = some (.int .u8 b1)) (c2 : w.cell? ⟨g, o + (q + 2), none⟩ = some (.int .u8 b2)) (c3 : w.cell? ⟨g, o + (q + 3), none⟩ = some (.int .u8 b3)) :
    Calls Try.prog 13 #[.slice (some ⟨g, o, none⟩) n c, .int .i64 p] w fun e w' => e = .returned (.int .u32 (b0 * 16777216 + b1 * 65536 + b2 * 256 + b3)) ∧ ∃ k, w' = w.drewN k := by
  subst hp
  have i0 : (q : Int) < (n : Int) := by omega
  have i1 : (q : Int) + 1 < (n : Int) := by omega
  have i2 : (q : Int) + 2 < (n : Int) := by omega
  have i3 : (q : Int) + 3 < (n : Int) := by omega
  go_enter Try.func13, Try.ntmps13
  go_wp2
  go_quiet (fail)
  go_wp2
  go_ret
  refine ⟨ret_val ?_, nq, rfl⟩
  exact congrArg (Value.int IntKind.u32) (be4_or b0 b1 b2 b3 r0 r1 r2 r3)

/-- The four bytes of a number, the greatest first. -/
def be32 (v : Int) : List Int := [v / 16777216, v / 65536 % 256, v / 256 % 256, v % 256]

theorem grown_trans {a b c : World} {row : Option Nat} (h : a.grownBy b row) (k : b.grownBy c row) : a.grownBy c row :=
  ⟨k.os.trans h.os, k.tape.trans h.tape, k.output.trans h.output, Nat.le_trans h.size k.size, fun i hi hne => (k.block i (Nat.lt_of_lt_of_le hi h.size) hne).trans (h.block i hi hne)⟩

set_option maxHeartbeats 800000 in
theorem appendUint32 (B n : Nat) (v : Int) (h0 : 0 ≤ v) (h1 : v ≤ 4294967295) (sv : Value) (xs : List Value) (w : World) (hown : w.ownsRow B 5 1 sv n xs) (hBw : B ≤ w.heap.size) (hlim : n ≤ 16777216) :
    Calls Try.prog 18 #[.agg #[], sv, .int .u32 v] w fun e w' => ∃ v', e = .returned v' ∧ w'.ownsRow B 5 1 v' (n + 4) (xs ++ cellsOf (be32 v)) ∧ w.grownBy w' sv.ownBlock := by
  obtain ⟨i0, hi, hz0, hz1, hz2⟩ := info_parts info5
  go_enter Try.func18, Try.ntmps18
  go_wp2_with (at_builtin; refine wpList_append_own _ rfl _ _ 22 rfl B 5 i0 (.int .u8 0) 1 1 Try.underlying22 hi hz0 hz1 hz2 rfl (by decide) _ _ _ rfl ((hown.alloc _).alloc _) _ 4 4 [Value.int .u8 (v / 16777216), Value.int .u8 (v / 65536 % 256), Value.int .u8 (v / 256 % 256), Value.int .u8 (v % 256)] rfl rfl ?c1 ?c2 ?c3 ?c4 ?c5 ?_)
  case c1 =>
    intro j u hj
    match j, hj with
    | 0, hj => simp at hj; subst hj; simp [Addr.add]
    | 1, hj => simp at hj; subst hj; simp [Addr.add]
    | 2, hj => simp at hj; subst hj; simp [Addr.add]
    | 3, hj => simp at hj; subst hj; simp [Addr.add]
  case c2 => intro u hu; simp at hu; rcases hu with rfl | rfl | rfl | rfl <;> rfl
  case c3 => unfold maxLen; omega
  case c4 => omega
  case c5 => simp; omega
  intro v' w2 hown' hgrow _
  go_wp2
  go_ret
  refine ⟨v', rfl, hown', ?_⟩
  exact grown_trans (World.grownBy_alloc _ _ _) (grown_trans (World.grownBy_alloc _ _ _) hgrow)

def toU (x : Int) : Int := x % 4294967296
theorem toU_bd (x : Int) : 0 ≤ toU x ∧ toU x ≤ 4294967295 := by unfold toU; omega
/-- What the loop of appendInts has appended behind k rounds. -/
def sofar (x0 x1 : Int) : Nat → List Int
  | 0 => []
  | 1 => be32 (toU x0)
  | _ => be32 (toU x0) ++ be32 (toU x1)

theorem not_row {w : World} {vb B n : Nat} {cs : Array Value} {v : Value} {xs : List Value} (hv : w.heap[vb]? = some (.cells cs 21 (0, 0))) (hr : w.ownsRow B 5 1 v n xs) : some vb ≠ v.ownBlock := by
  intro e
  rcases hr.2 with ⟨rfl, _⟩ | ⟨g, cap, cur, rfl, _, hg, _⟩
  · simp [Value.ownBlock] at e
  · obtain rfl : vb = g := by simpa [Value.ownBlock] using e
    rw [hv] at hg
    simp at hg

theorem appendInts_step {B n vb k : Nat} (j : Nat) {x0 x1 : Int} {d v2 : Value} {xs ys : List Value} {w wr w2 : World} (hownr : wr.ownsRow B 5 1 d (n + 4 * j) xs) (hvr : wr.heap[vb]? = some (.cells #[.int .i32 x0, .int .i32 x1] 21 (0, 0))) (hbr : Below B w wr) (hB : B ≤ wr.heap.size)
    (hown2 : w2.ownsRow B 5 1 v2 k ys) (hgrow2 : wr.grownBy w2 d.ownBlock) :
    w2.ownsRow B 5 1 v2 k ys ∧ w2.heap[vb]? = some (.cells #[.int .i32 x0, .int .i32 x1] 21 (0, 0)) ∧ Below B w w2 :=
  ⟨hown2, (hgrow2.block vb (Array.getElem?_eq_some_iff.1 hvr).1 (not_row hvr hownr)).trans hvr, hbr.grown hgrow2 hB (fun k hk => (hownr.lt k hk).1)⟩

set_option maxHeartbeats 800000 in
theorem appendInts2 (B n : Nat) (x0 x1 : Int) (sv : Value) (xs : List Value) (vb : Nat) (w : World) (hown : w.ownsRow B 5 1 sv n xs) (hBw : B ≤ w.heap.size) (hlim : n ≤ 8388608)
    (hv : w.heap[vb]? = some (.cells #[.int .i32 x0, .int .i32 x1] 21 (0, 0))) :
    Calls Try.prog 17 #[sv, .slice (some ⟨vb, 0, none⟩) 2 2] w fun e w' => ∃ v', e = .returned v' ∧ w'.ownsRow B 5 1 v' (n + 8) (xs ++ cellsOf (be32 (toU x0) ++ be32 (toU x1))) ∧ Below B w w' := by
  go_enter Try.func17, Try.ntmps17
  go_wp2
  go_loopw [0, 9] (fun d i wr => ∃ k : Nat, k ≤ 2 ∧ i = .int .i64 k ∧ wr.ownsRow B 5 1 d (n + 4 * k) (xs ++ cellsOf (sofar x0 x1 k)) ∧ wr.heap[vb]? = some (.cells #[.int .i32 x0, .int .i32 x1] 21 (0, 0)) ∧ Below B w wr) (fun _ i _ => 2 - (intOf i).toNat)
  case atStart => exact ⟨0, by omega, rfl, by simpa [sofar, cellsOf] using hown, hv, Below.refl _ _⟩
  case round =>
    obtain ⟨k, hk, rfl, hownr, hvr, hbr⟩ := hrel
    have hBr : B ≤ wr.heap.size := Nat.le_trans hBw hbr.size
    have c0 := cell_of_row wr vb 0 _ _ _ hvr
    have c1 := cell_of_row wr vb 1 _ _ _ hvr
    simp at c0 c1
    have hsz := hbr.size
    clear hown hv
    rcases (by omega : k = 0 ∨ k = 1 ∨ k = 2) with rfl | rfl | rfl
    · go_wp2_with fail
      refine (appendUint32 B _ (x0 % 4294967296) (toU_bd x0).1 (toU_bd x0).2 _ _ _ hownr hBr (by omega)).mono ?_
      rintro e w2 ⟨v2, rfl, hown2, hgrow2⟩
      have R := appendInts_step 0 hownr hvr hbr hBr hown2 hgrow2
      have HR := hd R
      clear R hown2 hgrow2 hownr hvr hbr c0 c1
      go_wp2
      go_roundw
      case rel => exact ⟨1, by omega, by go_num, by simpa [sofar, cellsOf, toU] using HR.out.1, HR.out.2.1, HR.out.2.2⟩
      case measure => simp [intOf]
    · go_wp2_with fail
      refine (appendUint32 B _ (x1 % 4294967296) (toU_bd x1).1 (toU_bd x1).2 _ _ _ hownr hBr (by omega)).mono ?_
      rintro e w2 ⟨v2, rfl, hown2, hgrow2⟩
      have R := appendInts_step 1 hownr hvr hbr hBr hown2 hgrow2
      have HR := hd R
      clear R hown2 hgrow2 hownr hvr hbr c0 c1
      go_wp2
      go_roundw
      case rel => exact ⟨2, by omega, by go_num, by simpa [sofar, cellsOf, toU] using HR.out.1, HR.out.2.1, HR.out.2.2⟩
      case measure => simp [intOf]
    · go_wp2
      go_ret
      exact ⟨_, rfl, hownr, hbr⟩

/-- The bytes of a request. -/
def req (code : Int) (zs : List Int) : List Int := be32 (toU (4 + zs.length)) ++ be32 (toU code) ++ zs
theorem req_length (code : Int) (zs : List Int) : (req code zs).length = 8 + zs.length := by simp [req, be32]; omega

theorem cellsOf_append (a b : List Int) : cellsOf (a ++ b) = cellsOf a ++ cellsOf b := by simp [cellsOf]

theorem add_block (ad : Addr) (j : Nat) : (ad.add j).block = ad.block := by unfold Addr.add; split <;> rfl

theorem cells_of_below {B : Nat} {w w2 : World} {ad : Addr} {m : Nat} {zs : List Int} (hb : Below B w w2) (hadB : 0 < m → ad.block < B) (hz : zs.length = m) (hc : ∀ j, j < m → w.cell? (ad.add j) = some (.int .u8 (zs.getD j 0))) :
    ∀ j u, (cellsOf zs)[j]? = some u → w2.cell? (ad.add j) = some u := by
  intro j u hj
  have hjm : j < m := by
    have := (List.getElem?_eq_some_iff.1 hj).1
    simpa [cellsOf, hz] using this
  rw [hb.cell (by rw [add_block]; exact hadB (by omega)), hc j hjm]
  simp [cellsOf, List.getElem?_map] at hj
  obtain ⟨z, h1, h2⟩ := hj
  simp [List.getD, h1, h2]

set_option maxHeartbeats 800000 in
theorem appendRequest_some (B n m c : Nat) (code : Int) (ad : Addr) (sv : Value) (xs : List Value) (zs : List Int) (w : World) (hown : w.ownsRow B 5 1 sv n xs) (hBw : B ≤ w.heap.size) (hlim : n ≤ 4194304) (hm : m ≤ 4194304)
    (hz : zs.length = m) (hadB : 0 < m → ad.block < B) (hc : ∀ j, j < m → w.cell? (ad.add j) = some (.int .u8 (zs.getD j 0))) :
    Calls Try.prog 9 #[sv, .int .i32 code, .slice (some ad) m c] w fun e w' => ∃ v', e = .returned v' ∧ w'.ownsRow B 5 1 v' (n + 8 + m) (xs ++ cellsOf (req code zs)) ∧ Below B w w' := by
  obtain ⟨i0, hi, hz0, hz1, hz2⟩ := info_parts info5
  have hnew := heap_alloc_new w (.cells #[Value.int .i32 (4 + (m : Int)), Value.int .i32 code] 21)
  go_enter Try.func9, Try.ntmps9
  go_wp2_with fail
  refine (appendInts2 B n (4 + (m : Int)) code sv xs w.heap.size _ (hown.alloc _) (by simp; omega) (by omega) hnew).mono ?_
  rintro e w2 ⟨v2, rfl, hown2, hb2⟩
  have hb : Below B w w2 := ((Below.refl B w).alloc hBw _).trans hb2
  have hB2 : B ≤ w2.heap.size := Nat.le_trans hBw hb.size
  have hsrc := cells_of_below hb hadB hz hc
  have HS := hd hsrc
  have Hb := hd hb
  clear hsrc hc hnew hb2 hb
  go_wp2_with (at_builtin; refine wpList_append_own _ rfl _ _ 22 rfl B 5 i0 (.int .u8 0) 1 1 Try.underlying22 hi hz0 hz1 hz2 rfl (by decide) _ _ _ rfl hown2 _ m c (cellsOf zs) rfl (by simp [cellsOf, hz]) HS.out (ints_oneCell _ _) (by unfold maxLen; omega) (by omega) hB2 ?_)
  intro v3 w3 hown3 hgrow3 _
  have R : Below B w w3 := Hb.out.grown hgrow3 hB2 (fun k hk => (hown2.lt k hk).1)
  have HR := hd R
  have HO := hd hown3
  clear R hown3 hgrow3
  go_wp2
  go_ret
  refine ⟨v3, rfl, ?_, HR.out⟩
  have e : cellsOf (req code zs) = cellsOf (be32 (toU (4 + (m : Int))) ++ be32 (toU code)) ++ cellsOf zs := by rw [req, hz, cellsOf_append]
  rw [e]
  exact HO.out

set_option maxHeartbeats 800000 in
theorem appendRequest_nil (B n : Nat) (code : Int) (sv : Value) (xs : List Value) (w : World) (hown : w.ownsRow B 5 1 sv n xs) (hBw : B ≤ w.heap.size) (hlim : n ≤ 4194304) :
    Calls Try.prog 9 #[sv, .int .i32 code, .slice none 0 0] w fun e w' => ∃ v', e = .returned v' ∧ w'.ownsRow B 5 1 v' (n + 8 + 0) (xs ++ cellsOf (req code [])) ∧ Below B w w' := by
  obtain ⟨i0, hi, hz0, hz1, hz2⟩ := info_parts info5
  have hnew := heap_alloc_new w (.cells #[Value.int .i32 4, Value.int .i32 code] 21)
  go_enter Try.func9, Try.ntmps9
  go_wp2_with fail
  refine (appendInts2 B n 4 code sv xs w.heap.size _ (hown.alloc _) (by simp; omega) (by omega) hnew).mono ?_
  rintro e w2 ⟨v2, rfl, hown2, hb2⟩
  have hb : Below B w w2 := ((Below.refl B w).alloc hBw _).trans hb2
  have Hb := hd hb
  clear hnew hb2 hb
  go_wp2_with (at_builtin; refine wpList_append_own_none rfl _ _ 22 rfl B 5 i0 1 Try.underlying22 hi _ _ _ rfl hown2 rfl ?_)
  go_wp2
  go_ret
  refine ⟨v2, rfl, ?_, Hb.out⟩
  have e : cellsOf (req code []) = cellsOf (be32 (toU 4) ++ be32 (toU code)) := by simp [req]
  rw [e]
  exact hown2

set_option maxHeartbeats 800000 in
theorem appendDataHeader (B n : Nat) (sv : Value) (xs : List Value) (w : World) (hown : w.ownsRow B 5 1 sv n xs) (hBw : B ≤ w.heap.size) (hlim : n ≤ 4194304) :
    Calls Try.prog 15 #[sv] w fun e w' => ∃ v', e = .returned v' ∧ w'.ownsRow B 5 1 v' (n + 8) (xs ++ cellsOf (req 8 [])) ∧ Below B w w' := by
  have hnew := heap_alloc_new w (.cells #[Value.int .i32 4, Value.int .i32 8] 21)
  go_enter Try.func15, Try.ntmps15
  go_wp2_with fail
  refine (appendInts2 B n 4 8 sv xs w.heap.size _ (hown.alloc _) (by simp; omega) (by omega) hnew).mono ?_
  rintro e w2 ⟨v2, rfl, hown2, hb2⟩
  have hb : Below B w w2 := ((Below.refl B w).alloc hBw _).trans hb2
  have Hb := hd hb
  clear hnew hb2 hb
  go_wp2
  go_ret
  refine ⟨v2, rfl, ?_, Hb.out⟩
  have e : cellsOf (req 8 []) = cellsOf (be32 (toU 4) ++ be32 (toU 8)) := by simp [req]
  rw [e]
  exact hown2
end Go.Proofs.Qxb6616466a
