/-
  Bridges between what came in, what is owned and what is read; the callees' contracts in the form that the laws use.
-/
import Derived.Test.Qxb6616466aParts
namespace Go.Proofs.Qxb6616466a
open Go.RowKit

/-- Each number is a byte. -/
def Bts (zs : List Int) : Prop := ∀ j, 0 ≤ zs.getD j 0 ∧ zs.getD j 0 ≤ 255

theorem Rd.kept {B : Nat} {w w' : World} {ao : Option Addr} {n : Nat} {zs : List Int} (h : Rd w ao n zs) (hb : Below B w w') (hlt : ∀ a, ao = some a → 0 < n → a.block < B) : Rd w' ao n zs := by
  refine ⟨h.1, ?_⟩
  rcases h.2 with h0 | ⟨g, o, rfl, hc⟩
  · exact .inl h0
  · by_cases h0 : n = 0
    · exact .inl h0
    · exact .inr ⟨g, o, rfl, fun j hj => (hb.cell (by exact hlt ⟨g, o, none⟩ rfl (by omega))).trans (hc j hj)⟩

theorem Rd.lt {w : World} {ao : Option Addr} {n : Nat} {zs : List Int} (h : Rd w ao n zs) : ∀ a, ao = some a → 0 < n → a.block < w.heap.size := by
  intro a ha hn
  rcases h.2 with h0 | ⟨g, o, rfl, hc⟩
  · omega
  · obtain rfl := Option.some.inj ha
    exact World.block_lt_of_cell? _ _ (hc 0 hn)

/-- Whatever is older stays read. -/
theorem Rd.below {w w' : World} {ao : Option Addr} {n : Nat} {zs : List Int} (h : Rd w ao n zs) (hb : Below w.heap.size w w') : Rd w' ao n zs := h.kept hb h.lt

theorem Rd.drewN {w : World} {ao : Option Addr} {n : Nat} {zs : List Int} (h : Rd w ao n zs) (k : Nat) : Rd (w.drewN k) ao n zs := h

/-- A slice of bytes that came in. -/
theorem rd_of_row {w : World} {a : Option Addr} {len cap : Nat} {zs : List Int}
    (h : (a = none ∧ len = 0 ∧ cap = 0 ∧ zs = []) ∨ ∃ x, a = some x ∧ len ≤ cap ∧ cap ≤ maxLen ∧ zs.length = cap ∧ (∀ i, i < zs.length → w.cell? (x.add i) = some (.int .u8 (zs.getD i 0))) ∧ ∀ n ∈ zs, (Lit.int .u8 n).wf = true) :
    ∃ ys, Rd w a len ys ∧ (a = none → len = 0 ∧ cap = 0) := by
  rcases h with ⟨rfl, rfl, rfl, rfl⟩ | ⟨x, rfl, hl, _, hz, hc, _⟩
  · exact ⟨[], ⟨rfl, .inl rfl⟩, fun _ => ⟨rfl, rfl⟩⟩
  · refine ⟨zs.take len, ⟨by simp; omega, ?_⟩, fun h => by cases h⟩
    by_cases h0 : len = 0
    · exact .inl h0
    · obtain ⟨b, off, spot⟩ := x
      have hspot : spot = none := by simpa [Addr.add] using World.cell?_spot (hc 0 (by omega))
      subst hspot
      refine .inr ⟨b, off, rfl, fun j hj => ?_⟩
      have := hc j (by omega)
      rw [Addr.add_lit] at this
      rw [this]
      simp [List.getD, hj]

theorem len_of_row {w : World} {a : Option Addr} {len cap : Nat} {zs : List Int}
    (h : (a = none ∧ len = 0 ∧ cap = 0 ∧ zs = []) ∨ ∃ x, a = some x ∧ len ≤ cap ∧ cap ≤ maxLen ∧ zs.length = cap ∧ (∀ i, i < zs.length → w.cell? (x.add i) = some (.int .u8 (zs.getD i 0))) ∧ ∀ n ∈ zs, (Lit.int .u8 n).wf = true) :
    len ≤ 9223372036854775807 := by
  rcases h with ⟨rfl, rfl, rfl, rfl⟩ | ⟨x, rfl, hl, hm, _⟩
  · omega
  · unfold maxLen at hm; omega

/-- zzClone at every slice. -/
theorem zzClone (ao : Option Addr) (n c : Nat) (zs : List Int) (w : World) (hm : n ≤ 65536) (hr : Rd w ao n zs) (hnil : ao = none → n = 0 ∧ c = 0) :
    Calls Try.prog 8 #[.slice ao n c] w fun e w' => ∃ v', e = .returned v' ∧ w'.ownsRow w.heap.size 5 1 v' n (cellsOf zs) ∧ Below w.heap.size w w' := by
  cases ao with
  | none =>
    obtain ⟨rfl, rfl⟩ := hnil rfl
    obtain rfl : zs = [] := List.eq_nil_of_length_eq_zero hr.1
    refine (zzClone_nil w).mono ?_
    rintro e w' ⟨rfl, rfl⟩
    exact ⟨_, rfl, World.ownsRow_nil _ _ _ _, Below.refl _ _⟩
  | some a =>
    refine zzClone_some a n c zs w (by omega) hr.1 ?_ ?_
    · intro j hj
      rcases hr.2 with h0 | ⟨g, o, e, hc⟩
      · omega
      · obtain rfl := Option.some.inj e
        exact hc j hj
    · intro h
      rcases hr.2 with h0 | ⟨g, o, e, hc⟩
      · omega
      · obtain rfl := Option.some.inj e
        rfl

/-- AppendRequest onto what the call owns, args whatever slice lies below the base. -/
theorem appendRequest (B n m c : Nat) (code : Int) (ao : Option Addr) (sv : Value) (xs zs : List Int) (w : World) (hown : w.ownsRow B 5 1 sv n (cellsOf xs)) (hBw : B ≤ w.heap.size) (hlim : n ≤ 4194304) (hm : m ≤ 65536)
    (hr : Rd w ao m zs) (hnil : ao = none → m = 0 ∧ c = 0) (hlt : ∀ a, ao = some a → 0 < m → a.block < B) :
    Calls Try.prog 9 #[sv, .int .i32 code, .slice ao m c] w fun e w' => ∃ v', e = .returned v' ∧ w'.ownsRow B 5 1 v' (n + 8 + m) (cellsOf (xs ++ req code zs)) ∧ Below B w w' := by
  rw [cellsOf_append]
  cases ao with
  | none =>
    obtain ⟨rfl, rfl⟩ := hnil rfl
    obtain rfl : zs = [] := List.eq_nil_of_length_eq_zero hr.1
    exact appendRequest_nil B n code sv _ w hown hBw hlim
  | some a =>
    refine appendRequest_some B n m c code a sv _ zs w hown hBw hlim (by omega) hr.1 (hlt a rfl) ?_
    intro j hj
    rcases hr.2 with h0 | ⟨g, o, e, hc⟩
    · omega
    · obtain rfl := Option.some.inj e
      rw [Addr.add_lit]
      exact hc j hj

/-- What is owned and not empty, opened. -/
theorem own_open {w : World} {B n : Nat} {v : Value} {zs : List Int} (h : w.ownsRow B 5 1 v n (cellsOf zs)) (hn : 0 < n) :
    ∃ g cap, v = .slice (some ⟨g, 0, none⟩) n cap ∧ B ≤ g ∧ g < w.heap.size ∧ n ≤ cap ∧ cap ≤ 9223372036854775807 ∧ zs.length = n ∧ ∀ j, j < n → w.cell? ⟨g, j, none⟩ = some (.int .u8 (zs.getD j 0)) := by
  have hlen : zs.length = n := by have := h.1; simpa [cellsOf] using this
  rcases h.2 with ⟨_, h0⟩ | ⟨g, cap, cur, rfl, hb, hg, hnc, hcm, _, _⟩
  · omega
  · refine ⟨g, cap, rfl, hb, (Array.getElem?_eq_some_iff.1 hg).1, hnc, by simpa [maxLen] using hcm, hlen, fun j hj => ?_⟩
    rw [h.cellAt j (by omega)]
    simp [cellsOf, List.getD, show j < zs.length by omega]

/-- A piece of a row that is read. -/
theorem rd_piece {w : World} {g n : Nat} {xs zs ys : List Int} (hc : ∀ j, j < n → w.cell? ⟨g, j, none⟩ = some (.int .u8 ((xs ++ zs ++ ys).getD j 0))) (o m : Nat) (ho : xs.length = o) (hm : zs.length = m) (hn : o + m ≤ n) :
    Rd w (some ⟨g, o, none⟩) m zs := by
  refine ⟨hm, .inr ⟨g, o, rfl, fun j hj => ?_⟩⟩
  rw [hc (o + j) (by omega)]
  subst ho
  simp [List.getD, List.getElem?_append, show j < zs.length by omega, show ¬ xs.length + j < xs.length by omega]

theorem be32_val (v : Int) : v / 16777216 * 16777216 + v / 65536 % 256 * 65536 + v / 256 % 256 * 256 + v % 256 = v := by omega

/-- zzU32 where the four bytes of v lie. -/
theorem zzU32_be (g o n c q : Nat) (p v : Int) (hp : p = q) (w : World) (hn : q + 4 ≤ n) (hm : n ≤ 16777216) (h0 : 0 ≤ v) (h1 : v ≤ 4294967295) (hr : Rd w (some ⟨g, o + q, none⟩) 4 (be32 v)) :
    Calls Try.prog 13 #[.slice (some ⟨g, o, none⟩) n c, .int .i64 p] w fun e w' => e = .returned (.int .u32 v) ∧ ∃ k, w' = w.drewN k := by
  rcases hr.2 with h | ⟨g', o', e, hc⟩
  · omega
  · simp only [Option.some.injEq, Addr.mk.injEq, and_true] at e
    obtain ⟨rfl, rfl⟩ := e
    have c0 := hc 0 (by omega)
    have c1 := hc 1 (by omega)
    have c2 := hc 2 (by omega)
    have c3 := hc 3 (by omega)
    simp only [be32, List.getD_cons_zero, List.getD_cons_succ, Nat.add_zero, Nat.add_assoc] at c0 c1 c2 c3
    refine (zzU32_row g o n c q p hp _ _ _ _ w hn hm (by omega) (by omega) (by omega) (by omega) c0 c1 c2 c3).mono ?_
    rintro e w' ⟨rfl, h⟩
    exact ⟨by rw [be32_val v], h⟩

theorem toU_id {x : Int} (h0 : 0 ≤ x) (h1 : x ≤ 4294967295) : toU x = x := by unfold toU; omega

/-- A piece of what is read. -/
theorem Rd.piece {w : World} {g o n : Nat} {ws : List Int} (h : Rd w (some ⟨g, o, none⟩) n ws) (xs zs ys : List Int) (e : ws = xs ++ zs ++ ys) (q m : Nat) (hq : xs.length = q) (hm : zs.length = m) :
    Rd w (some ⟨g, o + q, none⟩) m zs := by
  subst e
  refine ⟨hm, ?_⟩
  have hl := h.1
  simp at hl
  rcases h.2 with h0 | ⟨g', o', e, hc⟩
  · exact .inl (by omega)
  · simp only [Option.some.injEq, Addr.mk.injEq, and_true] at e
    obtain ⟨rfl, rfl⟩ := e
    refine .inr ⟨g, o + q, rfl, fun j hj => ?_⟩
    rw [Nat.add_assoc, hc (q + j) (by omega)]
    subst hq
    simp [List.getD, List.getElem?_append, show j < zs.length by omega, show ¬ xs.length + j < xs.length by omega]

/-- The three parts of a request that is read. -/
theorem req_open {w : World} {g o m : Nat} {code : Int} {ys : List Int} (h : Rd w (some ⟨g, o, none⟩) (8 + m) (req code ys)) (hm : m ≤ 65536) :
    Rd w (some ⟨g, o + 0, none⟩) 4 (be32 (4 + (m : Int))) ∧ Rd w (some ⟨g, o + 4, none⟩) 4 (be32 (toU code)) ∧ Rd w (some ⟨g, o + 8, none⟩) m ys := by
  have hl : ys.length = m := by have := h.1; rw [req_length] at this; omega
  have e : req code ys = be32 (4 + (m : Int)) ++ be32 (toU code) ++ ys := by rw [req, hl, toU_id (by omega) (by omega)]
  exact ⟨h.piece [] (be32 (4 + (m : Int))) (be32 (toU code) ++ ys) (by rw [e]; simp) 0 4 rfl rfl,
    h.piece (be32 (4 + (m : Int))) (be32 (toU code)) ys e 4 4 rfl rfl,
    h.piece (be32 (4 + (m : Int)) ++ be32 (toU code)) ys [] (by rw [e]; simp) 8 m rfl hl⟩

/-- What is owned reads as its cells. -/
theorem own_rd {w : World} {B n : Nat} {v : Value} {zs : List Int} (h : w.ownsRow B 5 1 v n (cellsOf zs)) (hn : 0 < n) :
    ∃ g cap, v = .slice (some ⟨g, 0, none⟩) n cap ∧ B ≤ g ∧ g < w.heap.size ∧ n ≤ cap ∧ cap ≤ 9223372036854775807 ∧ Rd w (some ⟨g, 0, none⟩) n zs := by
  obtain ⟨g, cap, rfl, h1, h2, h3, h4, h5, h6⟩ := own_open h hn
  exact ⟨g, cap, rfl, h1, h2, h3, h4, h5, .inr ⟨g, 0, rfl, fun j hj => by rw [Nat.zero_add]; exact h6 j hj⟩⟩
end Go.Proofs.Qxb6616466a
