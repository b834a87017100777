/-
  skipComment and skipLines, by their contracts.
-/
import Derived.Test.YbulkhnkFmtStop
namespace Go.Proofs.YbulkhnkFmt
open Go.RowKit Go.Extern.Stop Go.Stop Go.Extern

/-- what the walks need of the world when the call begins: fmt's answers, the listed sentinel, and that both lie below block b -/
structure Sent (F : Interp) (W : World) (b : Nat) (a : Addr) (t : ByteArray) : Prop where
  ans : F.answers W.tape
  var : W.cell? ⟨0, 0, none⟩ = some (.iface 44 (.pointer (some a)))
  cell : W.cell? a = some (.string t)
  zero : 0 < b
  low : a.block < b

theorem Sent.ans' {F : Interp} {W : World} {b : Nat} {a : Addr} {t : ByteArray} (h : Sent F W b a t) {w : World} (hb : Below b W w) : F.answers w.tape := by rw [hb.tape]; exact h.ans
theorem Sent.var' {F : Interp} {W : World} {b : Nat} {a : Addr} {t : ByteArray} (h : Sent F W b a t) {w : World} (hb : Below b W w) : w.cell? ⟨0, 0, none⟩ = some (.iface 44 (.pointer (some a))) := (hb.cell (p := ⟨0, 0, none⟩) h.zero).trans h.var
theorem Sent.cell' {F : Interp} {W : World} {b : Nat} {a : Addr} {t : ByteArray} (h : Sent F W b a t) {w : World} (hb : Below b W w) : w.cell? a = some (.string t) := (hb.cell h.low).trans h.cell

/-- an error as the place r of the scan says it: nil where r.2 is false, else not nil -/
def Says (r : Nat × Bool) (e : Ending) : Prop := (r.2 = false ∧ e = .returned .nilIface) ∨ (r.2 = true ∧ ∃ x, e = .returned (.iface 43 (.pointer (some x))))

theorem fail_at (F : Interp) {W : World} {b : Nat} {s : ByteArray} {d : Int} {i : Nat} {w : World} {a : Addr} {t : ByteArray} (r : ByteArray) (S : Sent F W b a t) (h : Par W b s d i w) (hi : i ≤ s.size) (hs : s.size ≤ maxLen) :
    Calls Ybaf.prog 13 #[.pointer (some ⟨b, 0, none⟩), .string r] w fun e w' => ∃ x, e = .returned (.iface 43 (.pointer (some x))) ∧ Par W b s d i w' :=
  fail_any F a t r h hi hs (S.ans' h.below) (S.var' h.below) (S.cell' h.below)

theorem at1_yes {W : World} {b : Nat} {s : ByteArray} {d : Int} {i : Nat} {w : World} (c : UInt8) (h : Par W b s d i w) (hi : i ≤ s.size) (hs : s.size ≤ maxLen) (hc : Hid (Toml.g s i = c.toNat)) :
    Calls Ybaf.prog 11 #[.pointer (some ⟨b, 0, none⟩), .string ⟨#[c]⟩] w fun e w' => e = .returned (.bool true) ∧ Par W b s d i w' := by
  have H := at1_any c h hi hs
  rw [decide_eq_true hc.out] at H
  exact H
theorem at1_no {W : World} {b : Nat} {s : ByteArray} {d : Int} {i : Nat} {w : World} (c : UInt8) (h : Par W b s d i w) (hi : i ≤ s.size) (hs : s.size ≤ maxLen) (hc : Hid (¬ Toml.g s i = c.toNat)) :
    Calls Ybaf.prog 11 #[.pointer (some ⟨b, 0, none⟩), .string ⟨#[c]⟩] w fun e w' => e = .returned (.bool false) ∧ Par W b s d i w' := by
  have H := at1_any c h hi hs
  rw [decide_eq_false hc.out] at H
  exact H
theorem at2_yes {W : World} {b : Nat} {s : ByteArray} {d : Int} {i : Nat} {w : World} (c c' : UInt8) (h : Par W b s d i w) (hi : i ≤ s.size) (hs : s.size ≤ maxLen) (hc : Hid (Toml.g s i = c.toNat ∧ Toml.g s (i + 1) = c'.toNat)) :
    Calls Ybaf.prog 11 #[.pointer (some ⟨b, 0, none⟩), .string ⟨#[c, c']⟩] w fun e w' => e = .returned (.bool true) ∧ Par W b s d i w' := by
  have H := at2_any c c' h hi hs
  rw [decide_eq_true hc.out] at H
  exact H
theorem at2_no {W : World} {b : Nat} {s : ByteArray} {d : Int} {i : Nat} {w : World} (c c' : UInt8) (h : Par W b s d i w) (hi : i ≤ s.size) (hs : s.size ≤ maxLen) (hc : Hid (¬ (Toml.g s i = c.toNat ∧ Toml.g s (i + 1) = c'.toNat))) :
    Calls Ybaf.prog 11 #[.pointer (some ⟨b, 0, none⟩), .string ⟨#[c, c']⟩] w fun e w' => e = .returned (.bool false) ∧ Par W b s d i w' := by
  have H := at2_any c c' h hi hs
  rw [decide_eq_false hc.out] at H
  exact H
theorem ctl_yes (c : UInt8) (w : World) (hc : Hid (Toml.ctl c.toNat = true)) :
    Calls Ybaf.prog 12 #[.int .u8 c.toNat] w fun e w' => e = .returned (.bool true) ∧ w' = w := by
  have H := isControl_any c w
  rw [hc.out] at H
  exact H
theorem ctl_no (c : UInt8) (w : World) (hc : Hid (Toml.ctl c.toNat = false)) :
    Calls Ybaf.prog 12 #[.int .u8 c.toNat] w fun e w' => e = .returned (.bool false) ∧ w' = w := by
  have H := isControl_any c w
  rw [hc.out] at H
  exact H

set_option maxHeartbeats 4000000 in
set_option maxRecDepth 1000000 in
theorem skipComment_none {W : World} {b : Nat} {s : ByteArray} {d : Int} {i : Nat} {w : World} (h : Par W b s d i w) (hi : i ≤ s.size) (hs : s.size ≤ maxLen) (h35 : ¬ Toml.g s i = 35) :
    Calls Ybaf.prog 9 #[.pointer (some ⟨b, 0, none⟩)] w fun e w' => e = .returned .nilIface ∧ Par W b s d i w' := by
  have H35 : Hid (¬ Toml.g s i = (35 : UInt8).toNat) := h35
  clear h35
  go_enter Ybaf.func9, Ybaf.ntmps9
  go_wp2_with fail
  refine (at1_no 35 h hi hs H35).mono ?_
  clear h
  rintro e w1 ⟨rfl, h1⟩
  go_wp2_with fail
  go_ret
  exact ⟨rfl, h1⟩

theorem ne_of_toNat {s : ByteArray} {k : Nat} (h : k < s.size) {c : Nat} (hc : ¬ s[k].toNat = c) : ¬ Toml.g s k = c := by rw [Toml.g_lt h]; exact hc

set_option maxHeartbeats 4000000 in
set_option maxRecDepth 1000000 in
theorem skipComment_some (F : Interp) {W : World} {b : Nat} {s : ByteArray} {d : Int} {i : Nat} {w : World} {a : Addr} {t : ByteArray} (S : Sent F W b a t) (h : Par W b s d i w) (hi : i ≤ s.size) (hs : s.size ≤ maxLen) (h35 : Toml.g s i = 35) :
    Calls Ybaf.prog 9 #[.pointer (some ⟨b, 0, none⟩)] w fun e w' => Says (Toml.co s (i + 1)) e ∧ Par W b s d (Toml.co s (i + 1)).1 w' := by
  have hm : s.size ≤ 2 ^ 63 - 1 := hs
  have hlt : i < s.size := Toml.lt_of_g h35 (by omega)
  have H35 : Hid (Toml.g s i = (35 : UInt8).toNat) := h35
  clear h35
  go_enter Ybaf.func9, Ybaf.ntmps9
  go_wp2_with fail
  refine (at1_yes 35 h hi hs H35).mono ?_
  clear h
  rintro e w1 ⟨rfl, h1⟩
  have p1 := h1.pos
  have p2 := h1.free
  go_wp2_with fail
  go_loopw [] (fun wr => ∃ k : Nat, k ≤ s.size ∧ Toml.co s k = Toml.co s (i + 1) ∧ Par W b s d k wr) (fun wr => s.size - (intOf ((wr.cell? ⟨b, 1, none⟩).getD undef)).toNat)
  case atStart => exact ⟨i + 1, by omega, rfl, h1.set (by omega)⟩
  case round =>
    obtain ⟨k, hk2, hk3, hp⟩ := hrel
    have HK : Hid (Toml.co s k = Toml.co s (i + 1)) := hk3
    clear hk3 h1 p1 p2
    have p0 := hp.text
    have p1 := hp.pos
    by_cases hlt : k < s.size
    · have hd : decide ((k : Int) < (s.size : Int)) = true := decide_eq_true (by omega)
      by_cases h10 : s[k].toNat = 10
      · have e10 : (((s[k].toNat : Nat) : Int) == 10) = true := byte_pos h10
        have HS : Hid ((k, false) = Toml.co s (i + 1)) := (Toml.co_lf (by rw [Toml.g_lt hlt]; exact h10)).symm.trans HK.out
        clear h10
        go_wp2_with fail
        go_quiet (fail)
        go_wp2_with fail
        go_quiet (fail)
        go_wp2_with fail
        go_ret
        rw [← HS.out]
        exact ⟨Or.inl ⟨rfl, rfl⟩, (hp.drewN _)⟩
      · have e10 : (((s[k].toNat : Nat) : Int) == 10) = false := byte_neg h10
        by_cases h13 : s[k].toNat = 13
        · have e13 : (((s[k].toNat : Nat) : Int) == 13) = true := byte_pos h13
          have gk : Toml.g s k = 13 := by rw [Toml.g_lt hlt]; exact h13
          have gc : Toml.ctl s[k].toNat = true := by rw [h13]; rfl
          by_cases hn : Toml.g s (k + 1) = 10
          · have HS : Hid ((k, false) = Toml.co s (i + 1)) := (Toml.co_crlf ⟨gk, hn⟩).symm.trans HK.out
            have H2 : Hid (Toml.g s k = (13 : UInt8).toNat ∧ Toml.g s (k + 1) = (10 : UInt8).toNat) := ⟨gk, hn⟩
            clear h13 h10 gk gc hn
            go_wp2_with fail
            go_quiet (fail)
            go_wp2_with fail
            go_quiet (fail)
            go_wp2_with fail
            refine (at2_yes 13 10 (hp.drewN _) hk2 hs H2).mono ?_
            rintro e w3 ⟨rfl, h3⟩
            go_wp2_with fail
            go_ret
            rw [← HS.out]
            exact ⟨Or.inl ⟨rfl, rfl⟩, h3⟩
          · have HS : Hid ((k, true) = Toml.co s (i + 1)) := (Toml.co_bad hlt (ne_of_toNat hlt h10) (fun x => hn x.2) (by rw [Toml.g_lt hlt]; exact gc)).symm.trans HK.out
            have H2 : Hid (¬ (Toml.g s k = (13 : UInt8).toNat ∧ Toml.g s (k + 1) = (10 : UInt8).toNat)) := fun x => hn x.2
            have HC : Hid (Toml.ctl s[k].toNat = true) := gc
            clear h13 h10 gk gc hn
            go_wp2_with fail
            go_quiet (fail)
            go_wp2_with fail
            go_quiet (fail)
            go_wp2_with fail
            refine (at2_no 13 10 (hp.drewN _) hk2 hs H2).mono ?_
            rintro e w3 ⟨rfl, h3⟩
            go_wp2_with fail
            refine (ctl_yes _ _ HC).mono ?_
            rintro e w4 ⟨rfl, rfl⟩
            go_wp2_with fail
            refine (fail_at F _ S h3 hk2 hs).mono ?_
            rintro e w5 ⟨x, rfl, h5⟩
            go_wp2_with fail
            go_ret
            rw [← HS.out]
            exact ⟨Or.inr ⟨rfl, x, rfl⟩, h5⟩
        · have e13 : (((s[k].toNat : Nat) : Int) == 13) = false := byte_neg h13
          have g10 : ¬ Toml.g s k = 10 := ne_of_toNat hlt h10
          have g13 : ¬ Toml.g s k = 13 := ne_of_toNat hlt h13
          cases hc : Toml.ctl s[k].toNat
          · have HS : Hid (Toml.co s (k + 1) = Toml.co s (i + 1)) := (Toml.co_step hlt g10 (fun x => g13 x.1) (by rw [Toml.g_lt hlt]; exact hc)).symm.trans HK.out
            have HC : Hid (Toml.ctl s[k].toNat = false) := hc
            clear h13 h10 g10 g13 hc
            have p2 := hp.free
            go_wp2_with fail
            go_quiet (fail)
            go_wp2_with fail
            go_quiet (fail)
            go_wp2_with fail
            refine (ctl_no _ _ HC).mono ?_
            rintro e w4 ⟨rfl, rfl⟩
            go_wp2_with fail
            refine ⟨⟨k + 1, by omega, HS.out, (hp.drewN _).set (by omega)⟩, ?_⟩
            rw [((hp.drewN _).set (j := k + 1) (by omega)).pos, p1]
            simp [intOf]; omega
          · have HS : Hid ((k, true) = Toml.co s (i + 1)) := (Toml.co_bad hlt g10 (fun x => g13 x.1) (by rw [Toml.g_lt hlt]; exact hc)).symm.trans HK.out
            have HC : Hid (Toml.ctl s[k].toNat = true) := hc
            clear h13 h10 g10 g13 hc
            go_wp2_with fail
            go_quiet (fail)
            go_wp2_with fail
            go_quiet (fail)
            go_wp2_with fail
            refine (ctl_yes _ _ HC).mono ?_
            rintro e w4 ⟨rfl, rfl⟩
            go_wp2_with fail
            refine (fail_at F _ S (hp.drewN _) hk2 hs).mono ?_
            rintro e w5 ⟨x, rfl, h5⟩
            go_wp2_with fail
            go_ret
            rw [← HS.out]
            exact ⟨Or.inr ⟨rfl, x, rfl⟩, h5⟩
    · go_wp2_with fail
      go_quiet (fail)
      go_wp2_with fail
      go_ret
      have e : (k, false) = Toml.co s (i + 1) := (Toml.co_past hlt).symm.trans HK.out
      rw [← e]
      exact ⟨Or.inl ⟨rfl, rfl⟩, hp.drewN nq⟩

theorem skipComment_any (F : Interp) {W : World} {b : Nat} {s : ByteArray} {d : Int} {i : Nat} {w : World} {a : Addr} {t : ByteArray} (S : Sent F W b a t) (h : Par W b s d i w) (hi : i ≤ s.size) (hs : s.size ≤ maxLen) :
    Calls Ybaf.prog 9 #[.pointer (some ⟨b, 0, none⟩)] w fun e w' => Says (Toml.cm s i) e ∧ Par W b s d (Toml.cm s i).1 w' := by
  by_cases h35 : Toml.g s i = 35
  · have e : Toml.cm s i = Toml.co s (i + 1) := by unfold Toml.cm; rw [if_pos h35]
    rw [e]
    exact skipComment_some F S h hi hs h35
  · have e : Toml.cm s i = (i, false) := by unfold Toml.cm; rw [if_neg h35]
    rw [e]
    exact (skipComment_none h hi hs h35).mono fun _ _ ⟨he, hp⟩ => ⟨Or.inl ⟨rfl, he⟩, hp⟩
end Go.Proofs.YbulkhnkFmt
