/-
  The tied card of LawS0416CPath.
-/
import Derived.Test.YbulkhpaDoorHandle
import Derived.Test.YbulkhpaDoorPath
import Derived.SizedLaws
import Derived.Carry
namespace Go.Proofs.YbulkhpaDoor
open Go.ChangeShapes Go.WideShapes Go.RowKit
open Go.ChangeMaps (open_string shut_string)

theorem u8_bounds {k : Int} (h : (Lit.int .u8 k).wf = true) : 0 ≤ k ∧ k ≤ 255 := by
  simp [Lit.wf, IntKind.min, IntKind.max, IntKind.signed, IntKind.bits] at h
  omega

theorem path_all {outer path msg : ByteArray} {mode : Int} {w : World} (hg : w.cell? ⟨1, 0, none⟩ = some (.iface 75 (.agg #[.pointer (some ⟨2, 25, none⟩)])))
    (ho : outer.size ≤ 140737488355328) (hp : path.size ≤ 140737488355328) (m0 : 0 ≤ mode) (m1 : mode ≤ 255) :
    Calls Ybad.prog 5 #[.string outer, .string path, .string msg, .int .u8 mode] w fun e w' => e = .returned (.bool true) ∧ Below w.heap.size w w' := by
  have h : mode % 3 = 0 ∨ mode % 3 = 1 ∨ mode % 3 = 2 := by omega
  rcases h with h | h | h
  · exact path_0 hg ho hp m0 m1 h
  · exact path_1 hg ho hp m0 m1 h
  · exact path_2 hg ho hp m0 m1 h

set_option maxRecDepth 100000 in
theorem path_lifted (os : Os) (started : os.Started) (H : Type) (enc : TypeId × Value → H) :
    ReturnsInHanded {} Ybad.checked os 5 .any (fun w args => (Rows.lawS0416CPathSpec.pre enc Ybad.prog Ybad.f5 [] false w args ∧ laidMetH Ybad.prog Rows.lawS0416CPathRow.laid w) ∧ sizedMet enc Ybad.prog Ybad.f5 (OpenSpec.ofChange Rows.lawS0416CPathSpec) false w args)
      (Rows.lawS0416CPathSpec.post enc Ybad.prog Ybad.f5 false true false false) := by
  refine returnsInHanded_of_change_and (C := Ybad.checked) (X := fun w _ => laidMetH Ybad.prog Rows.lawS0416CPathRow.laid w) (fun _ _ _ hh h => h.of_heap hh) ownC started (by kernel_rfl) Ybad.func5
    (ChangeSpec.witness_at (enc := enc) (C := Ybad.checked) (os := os) (X := fun w _ => laidMetH Ybad.prog Rows.lawS0416CPathRow.laid w) false (handleWorld Ybad.prog os) #[.string ⟨#[]⟩, .string ⟨#[]⟩, .string ⟨#[]⟩, .int .u8 0] 8 rfl (by kernel_rfl) (by kernel_rfl) (by kernel_rfl) (by kernel_rfl) (by kernel_rfl) (handle_met os _)) ?_
  intro W base args ds gs before hval0 hW _ hsz hL _
  have hval : ∀ (j : Nat) t v, Ybad.f5.params[j]? = some t → args[j]? = some v → Value.okWide Ybad.prog W .any base t v := hval0
  have hW' := hW
  obtain ⟨p, q, hA0, hV0, rfl, hfz, hnd⟩ := hW
  have hA : DataW.TrodAll enc Ybad.prog W 0 (fun _ => true) true Ybad.f5.params.toList args.toList ds p := hA0
  have hV : DataW.TrodVars enc Ybad.prog W (fun _ => true) [] gs q := hV0
  rw [Ybad.params5] at hA hval
  obtain ⟨v0, v1, v2, v3, d0, d1, d2, d3, p0, p1, p2, p3, rfl, rfl, rfl, h0, h1, h2, h3⟩ := trodAll_four hA
  obtain ⟨outer, rfl, rfl, rfl, ho⟩ := open_string Ybad.underlying9 (hval 0 9 v0 rfl rfl) h0
  obtain ⟨path, rfl, rfl, rfl, hp⟩ := open_string Ybad.underlying9 (hval 1 9 v1 rfl rfl) h1
  obtain ⟨msg, rfl, rfl, rfl, hmg⟩ := open_string Ybad.underlying9 (hval 2 9 v2 rfl rfl) h2
  obtain ⟨mode, rfl, rfl, rfl, wm⟩ := open_int Ybad.underlying5 (hval 3 5 v3 rfl rfl) h3
  obtain ⟨rfl, rfl⟩ := trodVars_none hV
  have so := size_of_list (sized_string hsz (j := 0) (t := 9) rfl rfl)
  have sp := size_of_list (sized_string hsz (j := 1) (t := 9) rfl rfl)
  obtain ⟨m0, m1⟩ := u8_bounds wm
  clear hA0 hV0 hval0
  refine (path_all (handle_of_laid hL) so sp m0 m1).mono fun e W' ⟨he, hb⟩ => ?_
  subst he
  refine ⟨_, rfl, _, _, _, [], [], [], hW', ?_, ?_, ?_, hb.frame _, fun h => by cases h⟩
  · exact trodAll_mk1 (shut_bool Ybad.underlying4 true)
  · exact trodAll_mk4 (shut_string Ybad.underlying9 ho) (shut_string Ybad.underlying9 hp) (shut_string Ybad.underlying9 hmg) (shut_int Ybad.underlying5 wm)
  · rfl

theorem path_holds : Rows.LawS0416CPathSaid :=
  OpenClaim.holds_of_wide 5 Ybad.f5 rfl rfl rfl rfl rfl rfl rfl ⟨rfl, rfl, rfl, rfl, rfl⟩ rfl rfl rfl rfl rfl (by kernel_rfl) Ybad.func5 (by kernel_rfl)
    (of_decide_eq_true (by kernel_rfl)) (by unfold Func.isWrapper; first | (rw [if_pos (by decide +kernel)]; kernel_rfl) | (rw [if_neg (by decide +kernel)]; exact ⟨rfl, rfl⟩))
    (fun os started H enc _ => path_lifted os started H enc)

/-- ████ THE CARD ████ -/
theorem lawS0416CPath_proved : Rows.LawS0416CPathCardSaid :=
  Claim7.holds_tied_plain_at .later [] [.handle] true _ true
    path_holds (fun _ h => by cases h) (by kernel_rfl) (fun _ h => by cases h) lawS0416CPath_row_tie rfl ⟨rfl, rfl⟩ (by kernel_rfl) rfl
    (fun f fn hf hfn => by
      obtain rfl : f = 5 := Option.some.inj ((show Ybad.prog.funcNamed Rows.lawS0416CPathRow.func = some 5 by kernel_rfl).symm.trans hf) |>.symm
      obtain rfl : fn = Ybad.f5 := (Option.some.inj (Ybad.func5.symm.trans hfn)).symm
      exact ⟨by kernel_rfl, fun j t ht => by
        rw [Ybad.params5] at ht
        have h3 : t = 9 ∨ t = 5 := by
          rcases j with _ | _ | _ | _ | j
          · exact Or.inl (by simpa using ht.symm)
          · exact Or.inl (by simpa using ht.symm)
          · exact Or.inl (by simpa using ht.symm)
          · exact Or.inr (by simpa using ht.symm)
          · simp at ht
        rcases h3 with rfl | rfl
        · exact (show Ybad.prog.wantsStandIn 9 = false by kernel_rfl)
        · exact (show Ybad.prog.wantsStandIn 5 = false by kernel_rfl)⟩)
    (by kernel_rfl)
end Go.Proofs.YbulkhpaDoor
