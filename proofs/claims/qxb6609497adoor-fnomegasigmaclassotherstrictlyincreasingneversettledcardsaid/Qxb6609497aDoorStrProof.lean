/-
  THE ROW AND THE CARD of FnOmegaSigmaClassOtherStrictlyIncreasingNeverSettled.
-/
import Derived.Test.Qxb6609497aDoorStr
import Derived.Test.Qxb6609497aDoorLaid
import Derived.Test.Qxb6609497aDoorTie
import Derived.Test.Qxb6609497aDoorCards
import Derived.SevenTiedAt
namespace Go.Proofs.Qxb6609497aDoor
open Go.ChangeShapes Go.WideShapes Go.ChangeAt Go.RowKit
namespace Str

set_option maxRecDepth 100000 in
theorem lifted (os : Os) (started : os.Started) (H : Type) (enc : TypeId × Value → H) :
    ReturnsInHanded {} Tryd.checked os 4 .any (fun w args => (Rows.fnOmegaSigmaClassOtherStrictlyIncreasingNeverSettledSpec.pre enc Tryd.prog Tryd.f4 [] false w args ∧ laidMetH Tryd.prog laid1 w) ∧ sizedMet enc Tryd.prog Tryd.f4 (OpenSpec.ofChange Rows.fnOmegaSigmaClassOtherStrictlyIncreasingNeverSettledSpec) false w args)
      (Rows.fnOmegaSigmaClassOtherStrictlyIncreasingNeverSettledSpec.post enc Tryd.prog Tryd.f4 false true false false) := by
  refine returnsInHanded_of_change_and (C := Tryd.checked) (X := fun w _ => laidMetH Tryd.prog laid1 w) (fun _ _ _ hh h => h.of_heap hh) own started (by kernel_rfl) Tryd.func4
    (ChangeSpec.witness_shaped (enc := enc) (C := Tryd.checked) (os := os) (X := fun w _ => laidMetH Tryd.prog laid1 w) false (World.doorLaid Tryd.prog 400 os) #[.int .i64 0, .int .u64 0, .int .i64 0] 8 rfl (World.shaped_of_RefB (by kernel_rfl) (by kernel_rfl)) (by kernel_rfl) (by kernel_rfl) (by kernel_rfl) (door_met os _)) ?_
  intro W base args ds gs before hval0 hW _ _ hL _
  have hval : ∀ (j : Nat) t v, Tryd.f4.params[j]? = some t → args[j]? = some v → Value.okWide Tryd.prog W .any base t v := hval0
  have hW' := hW
  obtain ⟨p, q, hA0, hV, rfl, hfz, hnd⟩ := hW
  have hA : DataW.TrodAll enc Tryd.prog W 0 (fun _ => true) true Tryd.f4.params.toList args.toList ds p := hA0
  rw [Tryd.params4] at hA hval
  obtain ⟨v0, v1, v2, d0, d1, d2, p0, p1, p2, rfl, rfl, rfl, h0, h1, h2⟩ := trodAll_three hA
  obtain ⟨rfl, rfl⟩ := trodVars_none hV
  obtain ⟨a0, rfl, rfl, rfl, w0⟩ := open_int Tryd.underlying3 (hval 0 3 v0 rfl rfl) h0
  obtain ⟨a1, rfl, rfl, rfl, w1⟩ := open_int Tryd.underlying22 (hval 1 22 v1 rfl rfl) h1
  obtain ⟨a2, rfl, rfl, rfl, w2⟩ := open_int Tryd.underlying3 (hval 2 3 v2 rfl rfl) h2
  obtain ⟨hT, hg⟩ := tab_of_laid hL
  clear hA0 hval0
  simp only [List.append_nil] at hW'
  have hb := bounds_u64 w1
  refine (str_walk a0 a1 a2 hb.1 (by omega) W hg hT).mono fun e W' ⟨he, hbl⟩ => ?_
  subst he
  refine ⟨_, rfl, _, _, _, [], [], [], hW', ?_, ?_, ?_, hbl.frame _, fun h => by cases h⟩
  · exact trodAll_mk1 (shut_bool Tryd.underlying4 true)
  · exact trodAll_mk3 (shut_int Tryd.underlying3 w0) (shut_int Tryd.underlying22 w1) (shut_int Tryd.underlying3 w2)
  · rfl

theorem row_holds : Rows.FnOmegaSigmaClassOtherStrictlyIncreasingNeverSettledSaid :=
  OpenClaim.holds_of_wide 4 Tryd.f4 rfl rfl rfl rfl rfl rfl rfl ⟨rfl, rfl, rfl, rfl, rfl⟩ rfl rfl rfl rfl rfl (by kernel_rfl) Tryd.func4 (by kernel_rfl)
    (of_decide_eq_true (by kernel_rfl)) (by unfold Func.isWrapper; first | (rw [if_pos (by decide +kernel)]; kernel_rfl) | (rw [if_neg (by decide +kernel)]; exact ⟨rfl, rfl⟩))
    (fun os started H enc _ => lifted os started H enc)

/-- THE CARD. -/
theorem card_holds : Rows.FnOmegaSigmaClassOtherStrictlyIncreasingNeverSettledCardSaid :=
  Claim7.holds_tied_plain_at .later [] [.data] true Rows.fnOmegaSigmaClassOtherStrictlyIncreasingNeverSettledCard.stood.harness true
    row_holds (fun _ h => by cases h) (by kernel_rfl) (fun _ h => by cases h) fnOmegaSigmaClassOtherStrictlyIncreasingNeverSettled_row_tie rfl ⟨rfl, rfl⟩ (by kernel_rfl) rfl
    (fun f fn hf hfn => by
      obtain rfl : f = 4 := Option.some.inj ((show Tryd.prog.funcNamed Rows.fnOmegaSigmaClassOtherStrictlyIncreasingNeverSettledRow.func = some 4 by kernel_rfl).symm.trans hf) |>.symm
      obtain rfl : fn = Tryd.f4 := (Option.some.inj (Tryd.func4.symm.trans hfn)).symm
      exact ⟨by kernel_rfl, fun j t ht => by
        rw [Tryd.params4] at ht
        have h3 : t = 3 ∨ t = 22 := by
          match j, ht with
          | 0, ht => exact .inl (by simpa using ht.symm)
          | 1, ht => exact .inr (by simpa using ht.symm)
          | 2, ht => exact .inl (by simpa using ht.symm)
          | j + 3, ht => simp at ht
        rcases h3 with rfl | rfl
        · exact (show Tryd.prog.wantsStandIn 3 = false by kernel_rfl)
        · exact (show Tryd.prog.wantsStandIn 22 = false by kernel_rfl)⟩)
    (by kernel_rfl)

end Str
end Go.Proofs.Qxb6609497aDoor
