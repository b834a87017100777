/-
  The told and tied card of LawS0413CModel.
-/
import Derived.Test.YbulkhnkFmtLaid
import Derived.Test.YbulkhnkFmtMlaw
import Derived.Test.YbulkhnkFmtTie
import Derived.Test.YbulkhnkFmtCards
import Derived.ProofKit
import Derived.OpenShut
import Derived.WalkSmall
namespace Go.Proofs.YbulkhnkFmt
open Go.ChangeShapes Go.WideShapes Go.ChangeAt Go.RowKit Go.Kit
open Go.Extern.Stop Go.Stop Go.Extern

theorem u64_bounds' {k : Int} (h : (Lit.int .u64 k).wf = true) : 0 ≤ k ∧ k < 18446744073709551616 := by
  simp [Lit.wf, IntKind.min, IntKind.max, IntKind.signed, IntKind.bits] at h
  omega
theorem mlaw_both (F : Interp) {H : Type} {enc : TypeId × Value → H} {w : World} {p : Option Addr} {len cap : Nat} {k d : Int} {a : Addr} {t : ByteArray} {x : DataW H} {ps : List MemPlace} (S : Sent F w w.heap.size a t) (hk0 : 0 ≤ k) (hk1 : k < 18446744073709551616)
    (h : DataW.Trod enc Ybaf.prog w 0 (fun _ => true) true 22 (.slice p len cap) x ps) :
    Calls Ybaf.prog 3 #[.slice p len cap, .int .u64 k, .int .i64 d] w fun e w' => e = .returned (.bool true) ∧ Below w.heap.size w w' := by
  obtain ⟨fuel, hf⟩ := h
  rcases open_ints Ybaf.underlying22 Ybaf.underlying5 cells5 hf with ⟨hcs, _⟩ | ⟨a1, len', cap', zs, hcs, _, hl, hm, hz, _, hcell, hwz⟩
  · simp [Value.cells] at hcs
    obtain ⟨rfl, rfl, rfl⟩ := hcs
    exact mlaw_any (b := 0) (off := 0) (zs := []) F S (by omega) hk0 hk1 (by omega) (by omega) (by omega)
  · simp [Value.cells] at hcs
    obtain ⟨rfl, rfl, rfl⟩ := hcs
    have hz' : zs.length = cap := by simpa using hz
    by_cases hlen : len ≤ 1024
    · by_cases hpos : 0 < len
      · obtain ⟨b, off, rfl, hc⟩ := ints_at hcell (by omega)
        refine mlaw_any (b := b) (off := off) (zs := zs) F S hlen hk0 hk1 (fun _ => rfl) (fun j hj => hc j (by omega)) (fun j _ => ?_)
        have := range_u8 hwz j
        simpa using this
      · exact mlaw_any (b := 0) (off := 0) (zs := []) F S hlen hk0 hk1 (by omega) (by omega) (by omega)
    · exact mlaw_long (by omega) (by omega)

set_option maxRecDepth 100000 in
theorem mlaw_lifted (os : Os) (started : os.Started) (H : Type) (enc : TypeId × Value → H) :
    ReturnsInTold none {} Ybaf.checked os 3 .any Input.okWide ((OpenSpec.ofChange Rows.lawS0413CModelSpec).preRow enc Ybaf.prog Ybaf.f3 [] false Rows.lawS0413CModelRow.laid) (fun F => ((OpenSpec.ofChange Rows.lawS0413CModelSpec).at F).post enc Ybaf.prog Ybaf.f3 false true false false) (aloneAtReturn Ybaf.prog) nothingAlways := by
  refine returnsInTold_of_row (C := Ybaf.checked) (s := OpenSpec.ofChange Rows.lawS0413CModelSpec) (by kernel_rfl) own started (by kernel_rfl) Ybaf.func3
    (OpenSpec.witness_stopped_at (enc := enc) (C := Ybaf.checked) false (laidWorld Ybaf.prog os) #[.slice none 0 0, .int .u64 0, .int .i64 0] rfl (by kernel_rfl) (by kernel_rfl) (by kernel_rfl)
      (OpenSpec.preRow_of_B rfl 8 (by kernel_rfl) (by kernel_rfl) (laid_met os _))) ?_
  intro F W base args ds gs before _ hF hval0 hW _ _ _ hL _
  have hval : ∀ (j : Nat) t v, Ybaf.f3.params[j]? = some t → args[j]? = some v → Value.okWide Ybaf.prog W .any base t v := hval0
  have hW' := hW
  obtain ⟨p, q, hA0, hV0, rfl, hfz, hnd⟩ := hW
  have hA : DataW.TrodAll enc Ybaf.prog W 0 (fun _ => true) true Ybaf.f3.params.toList args.toList ds p := hA0
  have hV : DataW.TrodVars enc Ybaf.prog W (fun _ => true) [varName] gs q := hV0
  rw [Ybaf.params3] at hA hval
  obtain ⟨v0, v1, v2, d0, d1, d2, p0, p1, p2, rfl, rfl, rfl, h0, h1, h2⟩ := trodAll_three hA
  obtain ⟨a0, len, cap, rfl⟩ := okWide_slice Ybaf.underlying22 (hval 0 22 v0 rfl rfl)
  obtain ⟨k, rfl, rfl, rfl, wk⟩ := open_int Ybaf.underlying23 (hval 1 23 v1 rfl rfl) h1
  obtain ⟨d, rfl, rfl, rfl, wd⟩ := open_int Ybaf.underlying3 (hval 2 3 v2 rfl rfl) h2
  obtain ⟨a, t, S, hv⟩ := sent_of_laid hL hF
  obtain ⟨rfl, rfl⟩ := hV.unique (vars_read1 enc gE gEType Ybaf.underlying30 hv trivial _)
  clear hA0 hV0 hval0
  obtain ⟨hk0, hk1⟩ := u64_bounds' wk
  refine (mlaw_both F.told S hk0 hk1 h0).mono fun e W' ⟨he, hb⟩ => ?_
  subst he
  refine ⟨_, rfl, _, _, _, [], p0 ++ ([] ++ []), [.cell 0 0], hW', ?_, ?_, ?_, hb.frame _, fun h => by cases h⟩
  · exact trodAll_mk1 (shut_bool Ybaf.underlying4 true)
  · exact trodAll_mk3 (Below.trod laidOut (by kernel_rfl) (of_decide_eq_true (by kernel_rfl)) h0 hb (fun x hx => hW'.lt x (by simp [hx]))) (shut_int Ybaf.underlying23 wk) (shut_int Ybaf.underlying3 wd)
  · exact vars_read1 enc gE gEType Ybaf.underlying30 (var?_below hb gE S.zero hv) trivial _

/-- ████ THE CARD ████ -/
theorem lawS0413CModel_proved : Rows.LawS0413CModelToldSaid :=
  Claim7.holds_of_told_tied_any_at .later 3 Ybaf.f3 "fmt.errorf" [] [] _ _ _ _ _ (by kernel_rfl) rfl rfl rfl laidOut (by kernel_rfl) rfl ⟨rfl, rfl, rfl, rfl, rfl, rfl, rfl⟩ rfl rfl (by kernel_rfl) (by kernel_rfl) Ybaf.func3 (by kernel_rfl)
    (of_decide_eq_true (by kernel_rfl)) (by unfold Func.isWrapper; first | (rw [if_pos (by decide +kernel)]; kernel_rfl) | (rw [if_neg (by decide +kernel)]; exact ⟨rfl, rfl⟩)) stops.symm rfl stopKnobs.symm (by kernel_rfl)
    (by kernel_rfl) (by kernel_rfl) (by kernel_rfl) (by kernel_rfl) (by kernel_rfl) (by kernel_rfl) (by kernel_rfl) (by kernel_rfl) (by kernel_rfl) rfl (by kernel_rfl) rfl rfl
    rfl rfl
    rfl (by kernel_rfl) (by kernel_rfl) (by kernel_rfl) (by decide) (by kernel_rfl) lawS0413CModel_row_tie
    (OpenClaim.moreEntering_of (by kernel_rfl) (by kernel_rfl) (by kernel_rfl) (by kernel_rfl) (by kernel_rfl) (by kernel_rfl) (by kernel_rfl) (by kernel_rfl) (by kernel_rfl) (by kernel_rfl))
    ⟨_, WideRow.started_initial, quiet _⟩
    (fun os started _ H enc _ => mlaw_lifted os started H enc)
end Go.Proofs.YbulkhnkFmt
