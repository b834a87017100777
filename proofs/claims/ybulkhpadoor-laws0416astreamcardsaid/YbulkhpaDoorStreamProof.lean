/-
  The tied card of LawS0416AStream.
-/
import Derived.Test.YbulkhpaDoorLaid
import Derived.Test.YbulkhpaDoorStream
import Derived.Deep.Matrix
namespace Go.Proofs.YbulkhpaDoor
open Go.ChangeShapes Go.WideShapes Go.RowKit

theorem cells23 : Ybad.prog.cellsOf 23 = 1 := by kernel_rfl

theorem plain_at {w : World} {a : Addr} {v : Value} (h : w.cell? (a.add 0) = some v) : ∃ b off, a = ⟨b, off, none⟩ := by
  obtain ⟨b, off, spot⟩ := a
  have hspot : spot = none := by simpa [Addr.add] using World.cell?_spot h
  subst hspot
  exact ⟨b, off, rfl⟩

theorem stream_both {H : Type} {enc : TypeId × Value → H} {w : World} {p : Option Addr} {n cp : Nat} {bo : Int} {fl : Bool} {a : Addr} {x : DataW H} {ps : List MemPlace} (hg : w.cell? ⟨0, 0, none⟩ = some (.iface 53 (.pointer (some a))))
    (hbo : wrap64 bo = bo) (h : DataW.Trod enc Ybad.prog w 0 (fun _ => true) true 22 (.slice p n cp) x ps) :
    Calls Ybad.prog 3 #[.slice p n cp, .int .i64 bo, .bool fl] w fun e w' => e = .returned (.bool true) ∧ Below w.heap.size w w' := by
  obtain ⟨fuel, hf⟩ := h
  rcases Go.Deep.open_int_rows Ybad.underlying22 Ybad.underlying23 Ybad.underlying5 cells23 cells5 hf with ⟨hcs, _⟩ | ⟨a1, len, cap, A, L, C, Z, hcs, _, hl, hm, _, hrow⟩
  · simp [Value.cells] at hcs
    obtain ⟨rfl, rfl, rfl⟩ := hcs
    refine stream_any (b := 0) (off := 0) (A := fun _ => none) (L := fun _ => 0) (C := fun _ => 0) (X := fun _ => []) (by omega) ⟨by omega, by omega, by omega, by omega, by omega, by omega⟩ hbo hg
  · simp [Value.cells] at hcs
    obtain ⟨rfl, rfl, rfl⟩ := hcs
    by_cases hn : n ≤ 256
    · by_cases hpos : 0 < n
      · obtain ⟨b, off, rfl⟩ := plain_at (hrow 0 (by omega)).1
        refine stream_any (b := b) (off := off) (A := A) (L := L) (C := C) (X := fun r => (Z r).take (L r)) hn ⟨fun _ => rfl, fun r hr => ?_, fun r hr => ?_, fun r hr => ?_, fun r hr ha => ?_, fun r hr a' ha j hj => ?_⟩ hbo hg
        · have := (hrow r (by omega)).1
          rwa [add_plain] at this
        · obtain ⟨_, h1, _, h3, _⟩ := hrow r (by omega)
          simp only [List.length_take]; omega
        · obtain ⟨_, h1, h2, _⟩ := hrow r (by omega)
          omega
        · obtain ⟨_, h1, _, _, _, h5, _⟩ := hrow r (by omega)
          have := h5 ha
          omega
        · obtain ⟨_, h1, _, _, _, _, h6⟩ := hrow r (by omega)
          rw [(h6 a' ha).2 j (by omega)]
          simp [List.getD, hj]
      · refine stream_any (b := 0) (off := 0) (A := fun _ => none) (L := fun _ => 0) (C := fun _ => 0) (X := fun _ => []) hn ⟨by omega, by omega, by omega, by omega, by omega, by omega⟩ hbo hg
    · exact stream_long (by omega) (by omega)

set_option maxRecDepth 100000 in
theorem stream_lifted (os : Os) (started : os.Started) (H : Type) (enc : TypeId × Value → H) :
    ReturnsInHanded {} Ybad.checked os 3 .any (fun w args => (Rows.lawS0416AStreamSpec.pre enc Ybad.prog Ybad.f3 [] false w args ∧ laidMetH Ybad.prog Rows.lawS0416AStreamRow.laid w) ∧ sizedMet enc Ybad.prog Ybad.f3 (OpenSpec.ofChange Rows.lawS0416AStreamSpec) false w args)
      (Rows.lawS0416AStreamSpec.post enc Ybad.prog Ybad.f3 false true false false) := by
  refine returnsInHanded_of_change_and (C := Ybad.checked) (X := fun w _ => laidMetH Ybad.prog Rows.lawS0416AStreamRow.laid w) (fun _ _ _ hh h => h.of_heap hh) own started (by kernel_rfl) Ybad.func3
    (ChangeSpec.witness_at (enc := enc) (C := Ybad.checked) (os := os) (X := fun w _ => laidMetH Ybad.prog Rows.lawS0416AStreamRow.laid w) false (eofWorld Ybad.prog os) #[.slice none 0 0, .int .i64 0, .bool false] 8 rfl (by kernel_rfl) (by kernel_rfl) (by kernel_rfl) (by kernel_rfl) (by kernel_rfl) (eof_met os _)) ?_
  intro W base args ds gs before hval0 hW _ _ hL _
  have hval : ∀ (j : Nat) t v, Ybad.f3.params[j]? = some t → args[j]? = some v → Value.okWide Ybad.prog W .any base t v := hval0
  have hW' := hW
  obtain ⟨p, q, hA0, hV0, rfl, hfz, hnd⟩ := hW
  have hA : DataW.TrodAll enc Ybad.prog W 0 (fun _ => true) true Ybad.f3.params.toList args.toList ds p := hA0
  have hV : DataW.TrodVars enc Ybad.prog W (fun _ => true) [] gs q := hV0
  rw [Ybad.params3] at hA hval
  obtain ⟨v0, v1, v2, d0, d1, d2, p0, p1, p2, rfl, rfl, rfl, h0, h1, h2⟩ := trodAll_three hA
  obtain ⟨a0, len, cap, rfl⟩ := okWide_slice Ybad.underlying22 (hval 0 22 v0 rfl rfl)
  obtain ⟨bo, rfl, rfl, rfl, wbo⟩ := open_int Ybad.underlying2 (hval 1 2 v1 rfl rfl) h1
  obtain ⟨fl, rfl, rfl, rfl⟩ := open_bool Ybad.underlying4 (hval 2 4 v2 rfl rfl) h2
  obtain ⟨a, hg⟩ := eof_of_laid hL
  obtain ⟨rfl, rfl⟩ := trodVars_none hV
  clear hA0 hV0 hval0
  refine (stream_both hg (wrap64_wf wbo) h0).mono fun e W' ⟨he, hb⟩ => ?_
  subst he
  refine ⟨_, rfl, _, _, _, [], p0 ++ ([] ++ []), [], hW', ?_, ?_, ?_, hb.frame _, fun h => by cases h⟩
  · exact trodAll_mk1 (shut_bool Ybad.underlying4 true)
  · exact trodAll_mk3 (Below.trod laidOut (by kernel_rfl) (of_decide_eq_true (by kernel_rfl)) h0 hb (fun x hx => hW'.lt x (by simp [hx]))) (shut_int Ybad.underlying2 wbo) (shut_bool Ybad.underlying4 fl)
  · rfl

theorem stream_holds : Rows.LawS0416AStreamSaid :=
  OpenClaim.holds_of_wide 3 Ybad.f3 rfl rfl rfl rfl rfl rfl rfl ⟨rfl, rfl, rfl, rfl, rfl⟩ rfl rfl rfl rfl rfl (by kernel_rfl) Ybad.func3 (by kernel_rfl)
    (of_decide_eq_true (by kernel_rfl)) (by unfold Func.isWrapper; first | (rw [if_pos (by decide +kernel)]; kernel_rfl) | (rw [if_neg (by decide +kernel)]; exact ⟨rfl, rfl⟩))
    (fun os started H enc _ => stream_lifted os started H enc)

/-- ████ THE CARD ████ -/
theorem lawS0416AStream_proved : Rows.LawS0416AStreamCardSaid :=
  Claim7.holds_tied_plain_at .later [] [.called] true _ true
    stream_holds (fun _ h => by cases h) (by kernel_rfl) (fun _ h => by cases h) lawS0416AStream_row_tie rfl ⟨rfl, rfl⟩ (by kernel_rfl) rfl
    (fun f fn hf hfn => by
      obtain rfl : f = 3 := Option.some.inj ((show Ybad.prog.funcNamed Rows.lawS0416AStreamRow.func = some 3 by kernel_rfl).symm.trans hf) |>.symm
      obtain rfl : fn = Ybad.f3 := (Option.some.inj (Ybad.func3.symm.trans hfn)).symm
      exact ⟨by kernel_rfl, fun j t ht => by
        rw [Ybad.params3] at ht
        have h3 : t = 22 ∨ t = 2 ∨ t = 4 := by
          rcases j with _ | _ | _ | j
          · exact Or.inl (by simpa using ht.symm)
          · exact Or.inr (Or.inl (by simpa using ht.symm))
          · exact Or.inr (Or.inr (by simpa using ht.symm))
          · simp at ht
        rcases h3 with rfl | rfl | rfl
        · exact (show Ybad.prog.wantsStandIn 22 = false by kernel_rfl)
        · exact (show Ybad.prog.wantsStandIn 2 = false by kernel_rfl)
        · exact (show Ybad.prog.wantsStandIn 4 = false by kernel_rfl)⟩)
    (by kernel_rfl)
end Go.Proofs.YbulkhpaDoor
