/-
  The tied card of LawS0416AText.
-/
import Derived.Test.YbulkhpaDoorLaid
import Derived.Test.YbulkhpaDoorText
namespace Go.Proofs.YbulkhpaDoor
open Go.ChangeShapes Go.WideShapes Go.RowKit

theorem text_both {H : Type} {enc : TypeId × Value → H} {w : World} {p : Option Addr} {len cap : Nat} {a : Addr} {x : DataW H} {ps : List MemPlace} (hg : w.cell? ⟨0, 0, none⟩ = some (.iface 53 (.pointer (some a))))
    (h : DataW.Trod enc Ybad.prog w 0 (fun _ => true) true 23 (.slice p len cap) x ps) :
    Calls Ybad.prog 4 #[.slice p len cap] w fun e w' => e = .returned (.bool true) ∧ Below w.heap.size w w' := by
  obtain ⟨fuel, hf⟩ := h
  rcases open_ints Ybad.underlying23 Ybad.underlying5 cells5 hf with ⟨hcs, _⟩ | ⟨a1, len', cap', zs, hcs, _, hl, hm, hz, _, hcell, _⟩
  · simp [Value.cells] at hcs
    obtain ⟨rfl, rfl, rfl⟩ := hcs
    exact text_any (b := 0) (off := 0) (zs := []) (by omega) hg (by omega) (by omega)
  · simp [Value.cells] at hcs
    obtain ⟨rfl, rfl, rfl⟩ := hcs
    have hz' : zs.length = cap := by simpa using hz
    by_cases hlen : len ≤ 4096
    · by_cases hpos : 0 < len
      · obtain ⟨b, off, rfl, hc⟩ := ints_at hcell (by omega)
        exact text_any (b := b) (off := off) (zs := zs) hlen hg (fun _ => rfl) (fun j hj => hc j (by omega))
      · exact text_any (b := 0) (off := 0) (zs := []) hlen hg (by omega) (by omega)
    · exact text_long (by omega) (by omega)

set_option maxRecDepth 100000 in
theorem text_lifted (os : Os) (started : os.Started) (H : Type) (enc : TypeId × Value → H) :
    ReturnsInHanded {} Ybad.checked os 4 .any (fun w args => (Rows.lawS0416ATextSpec.pre enc Ybad.prog Ybad.f4 [] false w args ∧ laidMetH Ybad.prog Rows.lawS0416ATextRow.laid w) ∧ sizedMet enc Ybad.prog Ybad.f4 (OpenSpec.ofChange Rows.lawS0416ATextSpec) false w args)
      (Rows.lawS0416ATextSpec.post enc Ybad.prog Ybad.f4 false true false false) := by
  refine returnsInHanded_of_change_and (C := Ybad.checked) (X := fun w _ => laidMetH Ybad.prog Rows.lawS0416ATextRow.laid w) (fun _ _ _ hh h => h.of_heap hh) own started (by kernel_rfl) Ybad.func4
    (ChangeSpec.witness_at (enc := enc) (C := Ybad.checked) (os := os) (X := fun w _ => laidMetH Ybad.prog Rows.lawS0416ATextRow.laid w) false (eofWorld Ybad.prog os) #[.slice none 0 0] 8 rfl (by kernel_rfl) (by kernel_rfl) (by kernel_rfl) (by kernel_rfl) (by kernel_rfl) (eof_met os _)) ?_
  intro W base args ds gs before hval0 hW _ _ hL _
  have hval : ∀ (j : Nat) t v, Ybad.f4.params[j]? = some t → args[j]? = some v → Value.okWide Ybad.prog W .any base t v := hval0
  have hW' := hW
  obtain ⟨p, q, hA0, hV0, rfl, hfz, hnd⟩ := hW
  have hA : DataW.TrodAll enc Ybad.prog W 0 (fun _ => true) true Ybad.f4.params.toList args.toList ds p := hA0
  have hV : DataW.TrodVars enc Ybad.prog W (fun _ => true) [] gs q := hV0
  rw [Ybad.params4] at hA hval
  obtain ⟨v0, d0, rfl, rfl, h0⟩ := trodAll_one hA
  obtain ⟨a0, len, cap, rfl⟩ := okWide_slice Ybad.underlying23 (hval 0 23 v0 rfl rfl)
  obtain ⟨a, hg⟩ := eof_of_laid hL
  obtain ⟨rfl, rfl⟩ := trodVars_none hV
  clear hA0 hV0 hval0
  refine (text_both hg h0).mono fun e W' ⟨he, hb⟩ => ?_
  subst he
  refine ⟨_, rfl, _, _, _, [], p, [], hW', ?_, ?_, ?_, hb.frame _, fun h => by cases h⟩
  · exact trodAll_mk1 (shut_bool Ybad.underlying4 true)
  · exact trodAll_mk1 (Below.trod laidOut (by kernel_rfl) (of_decide_eq_true (by kernel_rfl)) h0 hb (fun x hx => hW'.lt x (by simp [hx])))
  · rfl

theorem text_holds : Rows.LawS0416ATextSaid :=
  OpenClaim.holds_of_wide 4 Ybad.f4 rfl rfl rfl rfl rfl rfl rfl ⟨rfl, rfl, rfl, rfl, rfl⟩ rfl rfl rfl rfl rfl (by kernel_rfl) Ybad.func4 (by kernel_rfl)
    (of_decide_eq_true (by kernel_rfl)) (by unfold Func.isWrapper; first | (rw [if_pos (by decide +kernel)]; kernel_rfl) | (rw [if_neg (by decide +kernel)]; exact ⟨rfl, rfl⟩))
    (fun os started H enc _ => text_lifted os started H enc)

/-- ████ THE CARD ████ -/
theorem lawS0416AText_proved : Rows.LawS0416ATextCardSaid :=
  Claim7.holds_tied_plain_at .later [] [.called] true _ true
    text_holds (fun _ h => by cases h) (by kernel_rfl) (fun _ h => by cases h) lawS0416AText_row_tie rfl ⟨rfl, rfl⟩ (by kernel_rfl) rfl
    (fun f fn hf hfn => by
      obtain rfl : f = 4 := Option.some.inj ((show Ybad.prog.funcNamed Rows.lawS0416ATextRow.func = some 4 by kernel_rfl).symm.trans hf) |>.symm
      obtain rfl : fn = Ybad.f4 := (Option.some.inj (Ybad.func4.symm.trans hfn)).symm
      exact ⟨by kernel_rfl, fun j t ht => by
        rw [Ybad.params4] at ht
        have h3 : t = 23 := by
          rcases j with _ | j
          · simpa using ht.symm
          · simp at ht
        subst h3
        exact (show Ybad.prog.wantsStandIn 23 = false by kernel_rfl)⟩)
    (by kernel_rfl)
end Go.Proofs.YbulkhpaDoor
