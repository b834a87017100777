/-
  skipLines, by its contract.
-/
import Derived.Test.YbulkhnkFmtWalksB
namespace Go.Proofs.YbulkhnkFmt
open Go.RowKit Go.Extern.Stop Go.Stop Go.Extern

set_option maxHeartbeats 4000000 in
set_option maxRecDepth 1000000 in
theorem skipLines_any (F : Interp) {W : World} {b : Nat} {s : ByteArray} {d : Int} {i : Nat} {w : World} {a : Addr} {t : ByteArray} (S : Sent F W b a t) (h : Par W b s d i w) (hi : i ≤ s.size) (hs : s.size ≤ maxLen) :
    Calls Ybaf.prog 6 #[.pointer (some ⟨b, 0, none⟩)] w fun e w' => Says (Toml.sc s i) e ∧ Par W b s d (Toml.sc s i).1 w' := by
  go_enter Ybaf.func6, Ybaf.ntmps6
  go_wp2_with fail
  go_loopw [] (fun wr => ∃ k : Nat, k ≤ s.size ∧ Toml.sc s k = Toml.sc s i ∧ Par W b s d k wr) (fun wr => s.size - (intOf ((wr.cell? ⟨b, 1, none⟩).getD undef)).toNat)
  case atStart => exact ⟨i, hi, rfl, h⟩
  case round =>
    obtain ⟨k, hk2, hk3, hp⟩ := hrel
    have HK : Hid (Toml.sc s k = Toml.sc s i) := hk3
    clear hk3 h
    have hb := Toml.bl_bd hk2
    have hln := Toml.line_bd hk2
    go_wp2_with fail
    refine (skipBlanks_any hp hk2 hs).mono ?_
    rintro e w1 ⟨rfl, h1⟩
    go_wp2_with fail
    refine (skipComment_any F S h1 hb.2 hs).mono ?_
    rintro e w2 ⟨hsay, h2⟩
    clear h1
    rcases hsay with ⟨hr, rfl⟩ | ⟨hr, x, rfl⟩
    · have HL : Hid ((Toml.line s k).2 = false) := hr
      clear hr
      have h2' : Par W b s d (Toml.line s k).1 w2 := h2
      clear h2
      by_cases h10 : Toml.g s (Toml.line s k).1 = 10
      · have HS : Hid (Toml.sc s ((Toml.line s k).1 + 1) = Toml.sc s i) := (Toml.sc_lf hk2 HL.out h10).symm.trans HK.out
        have hlt := Toml.lt_of_g h10 (by omega)
        have H10 : Hid (Toml.g s (Toml.line s k).1 = 10) := h10
        clear h10
        go_wp2_with fail
        refine (newline_lf h2' hln.2 hs H10.out).mono ?_
        rintro e w3 ⟨rfl, h3⟩
        go_wp2_with fail
        refine ⟨⟨_, by omega, HS.out, h3⟩, ?_⟩
        rw [h3.pos, hp.pos]
        simp [intOf]; omega
      · by_cases h13 : Toml.g s (Toml.line s k).1 = 13 ∧ Toml.g s ((Toml.line s k).1 + 1) = 10
        · have HS : Hid (Toml.sc s ((Toml.line s k).1 + 2) = Toml.sc s i) := (Toml.sc_crlf hk2 HL.out h13).symm.trans HK.out
          have hlt := Toml.lt_of_g h13.2 (by omega)
          have H10 : Hid (¬ Toml.g s (Toml.line s k).1 = 10) := h10
          have H13 : Hid (Toml.g s (Toml.line s k).1 = 13 ∧ Toml.g s ((Toml.line s k).1 + 1) = 10) := h13
          clear h10 h13
          go_wp2_with fail
          refine (newline_crlf h2' hln.2 hs H10.out H13.out).mono ?_
          rintro e w3 ⟨rfl, h3⟩
          go_wp2_with fail
          refine ⟨⟨_, by omega, HS.out, h3⟩, ?_⟩
          rw [h3.pos, hp.pos]
          simp [intOf]; omega
        · have HS : Hid (Toml.line s k = Toml.sc s i) := (Toml.sc_stop hk2 HL.out h10 h13).symm.trans HK.out
          have H10 : Hid (¬ Toml.g s (Toml.line s k).1 = 10) := h10
          have H13 : Hid (¬ (Toml.g s (Toml.line s k).1 = 13 ∧ Toml.g s ((Toml.line s k).1 + 1) = 10)) := h13
          clear h10 h13
          go_wp2_with fail
          refine (newline_no h2' hln.2 hs H10.out H13.out).mono ?_
          rintro e w3 ⟨rfl, h3⟩
          go_wp2_with fail
          go_ret
          rw [← HS.out]
          exact ⟨Or.inl ⟨HL.out, rfl⟩, h3⟩
    · have HL : Hid ((Toml.line s k).2 = true) := hr
      have HS : Hid (Toml.line s k = Toml.sc s i) := (Toml.sc_bad hk2 hr).symm.trans HK.out
      clear hr
      have h2' : Par W b s d (Toml.line s k).1 w2 := h2
      clear h2
      go_wp2_with fail
      go_ret
      rw [← HS.out]
      exact ⟨Or.inr ⟨HL.out, x, rfl⟩, h2'⟩
end Go.Proofs.YbulkhnkFmt
