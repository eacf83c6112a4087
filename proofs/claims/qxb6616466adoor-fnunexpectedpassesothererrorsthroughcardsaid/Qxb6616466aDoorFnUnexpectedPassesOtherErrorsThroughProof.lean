/-
  The proof of Rows.FnUnexpectedPassesOtherErrorsThroughSaid (the row) and of its tied card Rows.FnUnexpectedPassesOtherErrorsThroughCardSaid.
-/
import Derived.Test.Qxb6616466aDoorLaid
import Derived.Test.Qxb6616466aDoorTie
import Derived.Test.Qxb6616466aDoorCards
import Derived.ShutString
import Derived.SevenTiedAt
namespace Go.Proofs.Qxb6616466aDoor.fnUnexpectedPassesOtherErrorsThrough
open Go.ChangeShapes Go.WideShapes Go.ChangeAt Go.RowKit
open Go.ChangeMaps (open_string shut_string)
set_option linter.unusedVariables false

theorem walk (s : ByteArray) (w : World) (hs : s.size ≤ maxLen) (hL : laidMetH Tryd.prog two w) :
    Calls Tryd.prog 5 #[.string s] w fun e w' => e = .returned (.bool true) ∧ Below w.heap.size w w' := by
  obtain ⟨e, u, hS⟩ := sents_of_laid hL
  unfold maxLen at hs
  by_cases hl : s.size ≤ 65536
  · exact pass_main s e u w hl hS
  · refine (pass_long s w hs (by omega)).mono ?_
    rintro r w' ⟨rfl, rfl⟩
    exact ⟨rfl, Below.refl _ _⟩

set_option maxRecDepth 100000 in
theorem lifted (os : Os) (started : os.Started) (H : Type) (enc : TypeId × Value → H) :
    ReturnsInHanded {} Tryd.checked os 5 .any (fun w args => (Rows.fnUnexpectedPassesOtherErrorsThroughSpec.pre enc Tryd.prog Tryd.f5 [] false w args ∧ laidMetH Tryd.prog two w) ∧ sizedMet enc Tryd.prog Tryd.f5 (OpenSpec.ofChange Rows.fnUnexpectedPassesOtherErrorsThroughSpec) false w args)
      (Rows.fnUnexpectedPassesOtherErrorsThroughSpec.post enc Tryd.prog Tryd.f5 false true false false) := by
  refine returnsInHanded_of_change_and (C := Tryd.checked) (X := fun w _ => laidMetH Tryd.prog two w) (fun _ _ _ hh h => h.of_heap hh) own started (by kernel_rfl) Tryd.func5
    (ChangeSpec.witness_shaped (enc := enc) (C := Tryd.checked) (os := os) (X := fun w _ => laidMetH Tryd.prog two w) false (World.doorLaid Tryd.prog 400 os) #[.string ByteArray.empty] 8 rfl (World.shaped_of_RefB (by kernel_rfl) (by kernel_rfl)) (by kernel_rfl) (by kernel_rfl) (by kernel_rfl) (door_met os _)) ?_
  intro W base args ds gs before hval0 hW _ _ hL _
  have hval : ∀ (j : Nat) t v, Tryd.f5.params[j]? = some t → args[j]? = some v → Value.okWide Tryd.prog W .any base t v := hval0
  have hW' := hW
  obtain ⟨p, q, hA0, hV, rfl, hfz, hnd⟩ := hW
  have hA : DataW.TrodAll enc Tryd.prog W 0 (fun _ => true) true Tryd.f5.params.toList args.toList ds p := hA0
  rw [Tryd.params5] at hA hval
  obtain ⟨v0, d0, rfl, rfl, h0⟩ := trodAll_one hA
  obtain ⟨rfl, rfl⟩ := trodVars_none hV
  obtain ⟨s, rfl, rfl, rfl, hs⟩ := open_string Tryd.underlying9 (hval 0 9 v0 rfl rfl) h0
  clear hA0 hval0
  simp only [List.append_nil] at hW'
  refine (walk s W hs hL).mono fun e W' ⟨he, bel⟩ => ?_
  subst he
  exact ⟨_, rfl, _, _, _, [], [], [], hW', trodAll_mk1 (shut_bool Tryd.underlying4 _), trodAll_mk1 (shut_string Tryd.underlying9 hs), rfl, bel.frame _, fun h => by cases h⟩

theorem row_proved : Rows.FnUnexpectedPassesOtherErrorsThroughSaid :=
  OpenClaim.holds_of_wide 5 Tryd.f5 rfl rfl rfl rfl rfl rfl rfl ⟨rfl, rfl, rfl, rfl, rfl⟩ rfl rfl rfl rfl rfl (by kernel_rfl) Tryd.func5 (by kernel_rfl)
    (of_decide_eq_true (by kernel_rfl)) (by unfold Func.isWrapper; first | (rw [if_pos (by decide +kernel)]; kernel_rfl) | (rw [if_neg (by decide +kernel)]; exact ⟨rfl, rfl⟩))
    (fun os started H enc _ => lifted os started H enc)

theorem card_proved : Rows.FnUnexpectedPassesOtherErrorsThroughCardSaid :=
  Claim7.holds_tied_plain_at .later [] [.sentinel, .sentinel] true (true, "fee79668dd06e80ab6c3624a66f280a10d7014b24ca07ce21b7cbef26af2ce10") true
    row_proved (fun _ h => by cases h) (by kernel_rfl) (fun _ h => by cases h) fnUnexpectedPassesOtherErrorsThrough_row_tie rfl ⟨rfl, rfl⟩ (by kernel_rfl) rfl
    (fun f fn hf hfn => by
      obtain rfl : f = 5 := Option.some.inj ((show Tryd.prog.funcNamed Rows.fnUnexpectedPassesOtherErrorsThroughRow.func = some 5 by kernel_rfl).symm.trans hf) |>.symm
      obtain rfl : fn = Tryd.f5 := (Option.some.inj (Tryd.func5.symm.trans hfn)).symm
      exact ⟨by kernel_rfl, fun j t ht => by
        rw [Tryd.params5] at ht
        have h3 : t = 9 := by
          rcases j with _ | j
          · simpa using ht.symm
          · simp at ht
        subst h3
        exact (show Tryd.prog.wantsStandIn 9 = false by kernel_rfl)⟩)
    (by kernel_rfl)
end Go.Proofs.Qxb6616466aDoor.fnUnexpectedPassesOtherErrorsThrough
namespace Go.Proofs.Qxb6616466aDoor
theorem fnUnexpectedPassesOtherErrorsThrough_card_proved : Rows.FnUnexpectedPassesOtherErrorsThroughCardSaid := fnUnexpectedPassesOtherErrorsThrough.card_proved
end Go.Proofs.Qxb6616466aDoor
