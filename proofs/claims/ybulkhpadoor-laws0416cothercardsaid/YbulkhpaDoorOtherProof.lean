/-
  The tied card of LawS0416COther.
-/
import Derived.Test.YbulkhpaDoorHandle
import Derived.Test.YbulkhpaDoorOther
namespace Go.Proofs.YbulkhpaDoor
open Go.ChangeShapes Go.WideShapes Go.RowKit
open Go.ChangeMaps (open_string shut_string)

set_option maxRecDepth 100000 in
theorem other_lifted (os : Os) (started : os.Started) (H : Type) (enc : TypeId × Value → H) :
    ReturnsInHanded {} Ybad.checked os 6 .any (fun w args => (Rows.lawS0416COtherSpec.pre enc Ybad.prog Ybad.f6 [] false w args ∧ laidMetH Ybad.prog Rows.lawS0416COtherRow.laid w) ∧ sizedMet enc Ybad.prog Ybad.f6 (OpenSpec.ofChange Rows.lawS0416COtherSpec) false w args)
      (Rows.lawS0416COtherSpec.post enc Ybad.prog Ybad.f6 false true false false) := by
  refine returnsInHanded_of_change_and (C := Ybad.checked) (X := fun w _ => laidMetH Ybad.prog Rows.lawS0416COtherRow.laid w) (fun _ _ _ hh h => h.of_heap hh) ownC started (by kernel_rfl) Ybad.func6
    (ChangeSpec.witness_at (enc := enc) (C := Ybad.checked) (os := os) (X := fun w _ => laidMetH Ybad.prog Rows.lawS0416COtherRow.laid w) false (handleWorld Ybad.prog os) #[.string ⟨#[]⟩, .string ⟨#[]⟩, .bool false] 8 rfl (by kernel_rfl) (by kernel_rfl) (by kernel_rfl) (by kernel_rfl) (by kernel_rfl) (handle_met os _)) ?_
  intro W base args ds gs before hval0 hW _ _ hL _
  have hval : ∀ (j : Nat) t v, Ybad.f6.params[j]? = some t → args[j]? = some v → Value.okWide Ybad.prog W .any base t v := hval0
  have hW' := hW
  obtain ⟨p, q, hA0, hV0, rfl, hfz, hnd⟩ := hW
  have hA : DataW.TrodAll enc Ybad.prog W 0 (fun _ => true) true Ybad.f6.params.toList args.toList ds p := hA0
  have hV : DataW.TrodVars enc Ybad.prog W (fun _ => true) [] gs q := hV0
  rw [Ybad.params6] at hA hval
  obtain ⟨v0, v1, v2, d0, d1, d2, p0, p1, p2, rfl, rfl, rfl, h0, h1, h2⟩ := trodAll_three hA
  obtain ⟨outer, rfl, rfl, rfl, ho⟩ := open_string Ybad.underlying9 (hval 0 9 v0 rfl rfl) h0
  obtain ⟨text, rfl, rfl, rfl, ht⟩ := open_string Ybad.underlying9 (hval 1 9 v1 rfl rfl) h1
  obtain ⟨wrap, rfl, rfl, rfl⟩ := open_bool Ybad.underlying4 (hval 2 4 v2 rfl rfl) h2
  obtain ⟨rfl, rfl⟩ := trodVars_none hV
  clear hA0 hV0 hval0
  refine (other_any (handle_of_laid hL)).mono fun e W' ⟨he, hb⟩ => ?_
  subst he
  refine ⟨_, rfl, _, _, _, [], [], [], hW', ?_, ?_, ?_, hb.frame _, fun h => by cases h⟩
  · exact trodAll_mk1 (shut_bool Ybad.underlying4 true)
  · exact trodAll_mk3 (shut_string Ybad.underlying9 ho) (shut_string Ybad.underlying9 ht) (shut_bool Ybad.underlying4 wrap)
  · rfl

theorem other_holds : Rows.LawS0416COtherSaid :=
  OpenClaim.holds_of_wide 6 Ybad.f6 rfl rfl rfl rfl rfl rfl rfl ⟨rfl, rfl, rfl, rfl, rfl⟩ rfl rfl rfl rfl rfl (by kernel_rfl) Ybad.func6 (by kernel_rfl)
    (of_decide_eq_true (by kernel_rfl)) (by unfold Func.isWrapper; first | (rw [if_pos (by decide +kernel)]; kernel_rfl) | (rw [if_neg (by decide +kernel)]; exact ⟨rfl, rfl⟩))
    (fun os started H enc _ => other_lifted os started H enc)

/-- ████ THE CARD ████ -/
theorem lawS0416COther_proved : Rows.LawS0416COtherCardSaid :=
  Claim7.holds_tied_plain_at .later [] [.handle] true _ true
    other_holds (fun _ h => by cases h) (by kernel_rfl) (fun _ h => by cases h) lawS0416COther_row_tie rfl ⟨rfl, rfl⟩ (by kernel_rfl) rfl
    (fun f fn hf hfn => by
      obtain rfl : f = 6 := Option.some.inj ((show Ybad.prog.funcNamed Rows.lawS0416COtherRow.func = some 6 by kernel_rfl).symm.trans hf) |>.symm
      obtain rfl : fn = Ybad.f6 := (Option.some.inj (Ybad.func6.symm.trans hfn)).symm
      exact ⟨by kernel_rfl, fun j t ht => by
        rw [Ybad.params6] at ht
        have h3 : t = 9 ∨ t = 4 := by
          rcases j with _ | _ | _ | j
          · exact Or.inl (by simpa using ht.symm)
          · exact Or.inl (by simpa using ht.symm)
          · exact Or.inr (by simpa using ht.symm)
          · simp at ht
        rcases h3 with rfl | rfl
        · exact (show Ybad.prog.wantsStandIn 9 = false by kernel_rfl)
        · exact (show Ybad.prog.wantsStandIn 4 = false by kernel_rfl)⟩)
    (by kernel_rfl)
end Go.Proofs.YbulkhpaDoor
