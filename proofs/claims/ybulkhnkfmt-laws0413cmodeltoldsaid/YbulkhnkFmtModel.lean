/-
  The independent scan zzs0413cmodel, by its contract: it computes 'Toml.sc', and turns nothing.
-/
import Derived.Test.YbulkhnkFmtWalksA
namespace Go.Proofs.YbulkhnkFmt
open Go.RowKit

theorem ret_pair {a b : Int} {p q : Bool} (h1 : a = b) (h2 : p = q) : Ending.returned (.tuple #[.int .i64 a, .bool p]) = .returned (.tuple #[.int .i64 b, .bool q]) := by rw [h1, h2]
theorem yes_at {s : ByteArray} {j c : Nat} (h : j < s.size) (hg : Toml.g s j = c) : (((s[j].toNat : Nat) : Int) == (c : Int)) = true := byte_pos (by rw [← Toml.g_lt h]; exact hg)
theorem no_at {s : ByteArray} {j c : Nat} (h : j < s.size) (hg : ¬ Toml.g s j = c) : (((s[j].toNat : Nat) : Int) == (c : Int)) = false := byte_neg (by rw [← Toml.g_lt h]; exact hg)
theorem sc_lf' {s : ByteArray} {k x : Nat} (h : k ≤ s.size) (hl : Toml.line s k = (x, false)) (h10 : Toml.g s x = 10) : Toml.sc s k = Toml.sc s (x + 1) := by
  have := Toml.sc_lf h (by rw [hl]) (by rw [hl]; exact h10)
  rw [hl] at this; exact this
theorem sc_crlf' {s : ByteArray} {k x : Nat} (h : k ≤ s.size) (hl : Toml.line s k = (x, false)) (h13 : Toml.g s x = 13 ∧ Toml.g s (x + 1) = 10) : Toml.sc s k = Toml.sc s (x + 2) := by
  have := Toml.sc_crlf h (by rw [hl]) (by rw [hl]; exact h13)
  rw [hl] at this; exact this
theorem sc_stop' {s : ByteArray} {k x : Nat} (h : k ≤ s.size) (hl : Toml.line s k = (x, false)) (h10 : ¬ Toml.g s x = 10) (h13 : ¬ (Toml.g s x = 13 ∧ Toml.g s (x + 1) = 10)) : Toml.sc s k = (x, false) := by
  have := Toml.sc_stop h (by rw [hl]) (by rw [hl]; exact h10) (by rw [hl]; exact h13)
  rw [hl] at this; exact this
theorem sc_bad' {s : ByteArray} {k x : Nat} (h : k ≤ s.size) (hl : Toml.line s k = (x, true)) : Toml.sc s k = (x, true) := by
  have := Toml.sc_bad h (by rw [hl])
  rw [hl] at this; exact this
theorem le_of_line {s : ByteArray} {k x : Nat} {q : Bool} (h : k ≤ s.size) (hl : Toml.line s k = (x, q)) : k ≤ x := by
  have := (Toml.line_bd h).1
  rw [hl] at this; exact this
theorem ctl_true {n : Nat} (h : Toml.ctl n = true) : (n < 32 ∧ ¬ n = 9) ∨ (¬ n < 32 ∧ n = 127) := by
  simp [Toml.ctl] at h; omega
theorem ctl_false {n : Nat} (h : Toml.ctl n = false) : (n < 32 ∧ n = 9) ∨ (¬ n < 32 ∧ ¬ n = 127) := by
  simp [Toml.ctl] at h; omega
theorem bne_pos {n c : Nat} (h : ¬ n = c) : ((n : Int) != (c : Int)) = true := bne_iff_ne.2 (by omega)
theorem bne_neg {n c : Nat} (h : n = c) : ((n : Int) != (c : Int)) = false := by subst h; simp

set_option maxHeartbeats 8000000 in
set_option maxRecDepth 1000000 in
theorem model_any {s : ByteArray} {i : Nat} (w : World) (hi : i ≤ s.size) (hs : s.size ≤ 1024) :
    Calls Ybaf.prog 7 #[.string s, .int .i64 i] w fun e w' => e = .returned (.tuple #[.int .i64 (Toml.sc s i).1, .bool (Toml.sc s i).2]) ∧ w' = w := by
  go_enter Ybaf.func7, Ybaf.ntmps7
  go_wp2
  go_loop [7] (fun v => ∃ k : Nat, k ≤ s.size ∧ Toml.sc s k = Toml.sc s i ∧ v = .int .i64 k) (fun v => s.size - (intOf v).toNat)
  case atStart => exact ⟨i, hi, rfl, rfl⟩
  case round =>
    obtain ⟨k, hk2, hk3, rfl⟩ := hrel
    have HK : Hid (Toml.sc s k = Toml.sc s i) := hk3
    clear hk3 hi
    go_wp2
    go_loop [7] (fun v => ∃ j : Nat, j ≤ s.size ∧ Toml.bl s j = Toml.bl s k ∧ v = .int .i64 j) (fun v => s.size - (intOf v).toNat)
    case atStart => exact ⟨k, hk2, rfl, rfl⟩
    case round =>
      obtain ⟨j, hj2, hj3, rfl⟩ := hrel
      have HJ : Hid (Toml.bl s j = Toml.bl s k) := hj3
      clear hj3
      by_cases hbl : Toml.g s j = 32 ∨ Toml.g s j = 9
      · have HS : Hid (Toml.bl s (j + 1) = Toml.bl s k) := (Toml.bl_step hbl).symm.trans HJ.out
        rcases hbl with hg | hg
        · have hlt : j < s.size := Toml.lt_of_g hg (by omega)
          have e32 : (((s[j].toNat : Nat) : Int) == 32) = true := yes_at hlt hg
          clear hg
          go_wp2
          go_round
          case rel => exact ⟨j + 1, by omega, HS.out, by go_num⟩
          case measure => simp [intOf]; omega
        · have hlt : j < s.size := Toml.lt_of_g hg (by omega)
          have e32 : (((s[j].toNat : Nat) : Int) == 32) = false := no_at (c := 32) hlt (by omega)
          have e9 : (((s[j].toNat : Nat) : Int) == 9) = true := yes_at hlt hg
          clear hg
          go_wp2
          go_round
          case rel => exact ⟨j + 1, by omega, HS.out, by go_num⟩
          case measure => simp [intOf]; omega
      · have HS : Hid (j = Toml.bl s k) := (Toml.bl_stop hbl).symm.trans HJ.out
        by_cases h35 : Toml.g s j = 35
        · have hlt : j < s.size := Toml.lt_of_g h35 (by omega)
          have e32 : (((s[j].toNat : Nat) : Int) == 32) = false := no_at (c := 32) hlt (by omega)
          have e9 : (((s[j].toNat : Nat) : Int) == 9) = false := no_at (c := 9) hlt (by omega)
          have e35 : (((s[j].toNat : Nat) : Int) == 35) = true := yes_at hlt h35
          have HC : Hid (Toml.line s k = Toml.co s (j + 1)) := by
            show Toml.cm s (Toml.bl s k) = _
            rw [← HS.out]; unfold Toml.cm; rw [if_pos h35]
          clear hbl h35 HS
          go_wp2
          go_loop [7] (fun v => ∃ m : Nat, m ≤ s.size ∧ Toml.co s m = Toml.co s (j + 1) ∧ v = .int .i64 m) (fun v => s.size - (intOf v).toNat)
          case atStart => exact ⟨j + 1, by omega, rfl, by go_num⟩
          case round =>
            obtain ⟨m, hm2, hm3, rfl⟩ := hrel
            have HM : Hid (Toml.co s m = Toml.co s (j + 1)) := hm3
            clear hm3 e32 e9 e35
            by_cases hlm : m < s.size
            · by_cases h10 : Toml.g s m = 10
              · have HL : Hid (Toml.line s k = (m, false)) := HC.out.trans (HM.out.symm.trans (Toml.co_lf h10))
                have HS2 : Hid (Toml.sc s (m + 1) = Toml.sc s i) := (sc_lf' hk2 HL.out h10).symm.trans HK.out
                have hkx : k ≤ m := le_of_line hk2 HL.out
                have e10 : (((s[m].toNat : Nat) : Int) == 10) = true := yes_at hlm h10
                clear h10
                go_wp2
                go_round
                case rel => exact ⟨m + 1, by omega, HS2.out, by go_num⟩
                case measure => simp [intOf]; omega
              · have e10 : (((s[m].toNat : Nat) : Int) == 10) = false := no_at hlm h10
                by_cases h13 : Toml.g s m = 13 ∧ Toml.g s (m + 1) = 10
                · have hlx : m + 1 < s.size := Toml.lt_of_g h13.2 (by omega)
                  have HL : Hid (Toml.line s k = (m, false)) := HC.out.trans (HM.out.symm.trans (Toml.co_crlf h13))
                  have HS2 : Hid (Toml.sc s (m + 2) = Toml.sc s i) := (sc_crlf' hk2 HL.out h13).symm.trans HK.out
                  have hkx : k ≤ m := le_of_line hk2 HL.out
                  have e13 : (((s[m].toNat : Nat) : Int) == 13) = true := yes_at hlm h13.1
                  have f10 : (((s[m + 1].toNat : Nat) : Int) == 10) = true := yes_at hlx h13.2
                  clear h10 h13
                  go_wp2
                  go_round
                  case rel => exact ⟨m + 2, by omega, HS2.out, by go_num⟩
                  case measure => simp [intOf]; omega
                · cases hc : Toml.ctl (Toml.g s m)
                  · have HS2 : Hid (Toml.co s (m + 1) = Toml.co s (j + 1)) := (Toml.co_step hlm h10 h13 hc).symm.trans HM.out
                    rw [Toml.g_lt hlm] at hc
                    have g13 : ¬ Toml.g s m = 13 := by rw [Toml.g_lt hlm]; intro h; rw [h] at hc; cases hc
                    have e13 : (((s[m].toNat : Nat) : Int) == 13) = false := no_at hlm g13
                    rcases ctl_false hc with ⟨hx, h9⟩ | ⟨hx, h127⟩
                    · have e9 : (((s[m].toNat : Nat) : Int) != 9) = false := bne_neg h9
                      have e127 : (((s[m].toNat : Nat) : Int) == 127) = false := byte_neg (c := 127) (by omega)
                      have hx' : ((s[m].toNat : Nat) : Int) < 32 := by omega
                      clear h10 h13 hc g13 h9 hx
                      go_wp2
                      go_round
                      case rel => exact ⟨m + 1, by omega, HS2.out, by go_num⟩
                      case measure => simp [intOf]; omega
                    · have e127 : (((s[m].toNat : Nat) : Int) == 127) = false := byte_neg h127
                      have hx' : ¬ ((s[m].toNat : Nat) : Int) < 32 := by omega
                      clear h10 h13 hc g13 h127 hx
                      go_wp2
                      go_round
                      case rel => exact ⟨m + 1, by omega, HS2.out, by go_num⟩
                      case measure => simp [intOf]; omega
                  · have HL : Hid (Toml.line s k = (m, true)) := HC.out.trans (HM.out.symm.trans (Toml.co_bad hlm h10 h13 hc))
                    have HR : Hid ((m, true) = Toml.sc s i) := (sc_bad' hk2 HL.out).symm.trans HK.out
                    rw [Toml.g_lt hlm] at hc
                    rcases ctl_true hc with ⟨hx, h9⟩ | ⟨hx, h127⟩
                    · have e9 : (((s[m].toNat : Nat) : Int) != 9) = true := bne_pos h9
                      have hx' : ((s[m].toNat : Nat) : Int) < 32 := by omega
                      clear hc hx h9
                      by_cases g13 : Toml.g s m = 13
                      · have e13 : (((s[m].toNat : Nat) : Int) == 13) = true := yes_at hlm g13
                        by_cases hly : m + 1 < s.size
                        · have f10 : (((s[m + 1].toNat : Nat) : Int) == 10) = false := no_at hly (fun h => h13 ⟨g13, h⟩)
                          clear h10 h13 g13
                          go_wp2
                          go_ret2
                          exact ⟨ret_pair (a := ((m : Nat) : Int)) (p := true) (by rw [← HR.out]) (by rw [← HR.out]), rfl⟩
                        · clear h10 h13 g13
                          go_wp2
                          go_ret2
                          exact ⟨ret_pair (a := ((m : Nat) : Int)) (p := true) (by rw [← HR.out]) (by rw [← HR.out]), rfl⟩
                      · have e13 : (((s[m].toNat : Nat) : Int) == 13) = false := no_at hlm g13
                        clear h10 h13 g13
                        go_wp2
                        go_ret2
                        exact ⟨ret_pair (a := ((m : Nat) : Int)) (p := true) (by rw [← HR.out]) (by rw [← HR.out]), rfl⟩
                    · have e127 : (((s[m].toNat : Nat) : Int) == 127) = true := byte_pos h127
                      have hx' : ¬ ((s[m].toNat : Nat) : Int) < 32 := by omega
                      have g13 : ¬ Toml.g s m = 13 := by rw [Toml.g_lt hlm, h127]; omega
                      have e13 : (((s[m].toNat : Nat) : Int) == 13) = false := no_at hlm g13
                      clear h10 h13 hc g13 h127 hx
                      go_wp2
                      go_ret2
                      exact ⟨ret_pair (a := ((m : Nat) : Int)) (p := true) (by rw [← HR.out]) (by rw [← HR.out]), rfl⟩
            · have HL : Hid (Toml.line s k = (m, false)) := HC.out.trans (HM.out.symm.trans (Toml.co_past hlm))
              have HR : Hid ((m, false) = Toml.sc s i) := (sc_stop' hk2 HL.out (by rw [Toml.g_ge hlm]; omega) (by rw [Toml.g_ge hlm]; omega)).symm.trans HK.out
              go_wp2
              go_ret2
              exact ⟨ret_pair (a := ((m : Nat) : Int)) (p := false) (by rw [← HR.out]) (by rw [← HR.out]), rfl⟩
        · have HL : Hid (Toml.line s k = (j, false)) := by
            show Toml.cm s (Toml.bl s k) = _
            rw [← HS.out]; unfold Toml.cm; rw [if_neg h35]
          by_cases hlj : j < s.size
          · have e32 : (((s[j].toNat : Nat) : Int) == 32) = false := no_at hlj (fun h => hbl (Or.inl h))
            have e9 : (((s[j].toNat : Nat) : Int) == 9) = false := no_at hlj (fun h => hbl (Or.inr h))
            have e35 : (((s[j].toNat : Nat) : Int) == 35) = false := no_at hlj h35
            clear hbl h35 HS HJ
            by_cases h10 : Toml.g s j = 10
            · have hltx : j < s.size := Toml.lt_of_g h10 (by omega)
              have e10 : (((s[j].toNat : Nat) : Int) == 10) = true := yes_at hltx h10
              have HS2 : Hid (Toml.sc s (j + 1) = Toml.sc s i) := (sc_lf' hk2 HL.out h10).symm.trans HK.out
              have hkx : k ≤ j := le_of_line hk2 HL.out
              clear h10
              go_wp2
              go_round
              case rel => exact ⟨j + 1, by omega, HS2.out, by go_num⟩
              case measure => simp [intOf]; omega
            · by_cases h13 : Toml.g s j = 13 ∧ Toml.g s (j + 1) = 10
              · have hltx : j + 1 < s.size := Toml.lt_of_g h13.2 (by omega)
                have e10 : (((s[j].toNat : Nat) : Int) == 10) = false := no_at (by omega) h10
                have e13 : (((s[j].toNat : Nat) : Int) == 13) = true := yes_at (by omega) h13.1
                have f10 : (((s[j + 1].toNat : Nat) : Int) == 10) = true := yes_at hltx h13.2
                have HS2 : Hid (Toml.sc s (j + 2) = Toml.sc s i) := (sc_crlf' hk2 HL.out h13).symm.trans HK.out
                have hkx : k ≤ j := le_of_line hk2 HL.out
                clear h10 h13
                go_wp2
                go_round
                case rel => exact ⟨j + 2, by omega, HS2.out, by go_num⟩
                case measure => simp [intOf]; omega
              · have HR : Hid ((j, false) = Toml.sc s i) := (sc_stop' hk2 HL.out h10 h13).symm.trans HK.out
                by_cases hltx : j < s.size
                · have e10 : (((s[j].toNat : Nat) : Int) == 10) = false := no_at hltx h10
                  by_cases hlty : j + 1 < s.size
                  · by_cases g13 : Toml.g s j = 13
                    · have e13 : (((s[j].toNat : Nat) : Int) == 13) = true := yes_at hltx g13
                      have f10 : (((s[j + 1].toNat : Nat) : Int) == 10) = false := no_at hlty (fun h => h13 ⟨g13, h⟩)
                      clear h10 h13 g13
                      go_wp2
                      go_ret2
                      exact ⟨ret_pair (a := ((j : Nat) : Int)) (p := false) (by rw [← HR.out]) (by rw [← HR.out]), rfl⟩
                    · have e13 : (((s[j].toNat : Nat) : Int) == 13) = false := no_at hltx g13
                      clear h10 h13 g13
                      go_wp2
                      go_ret2
                      exact ⟨ret_pair (a := ((j : Nat) : Int)) (p := false) (by rw [← HR.out]) (by rw [← HR.out]), rfl⟩
                  · clear h10 h13
                    go_wp2
                    go_ret2
                    exact ⟨ret_pair (a := ((j : Nat) : Int)) (p := false) (by rw [← HR.out]) (by rw [← HR.out]), rfl⟩
                · exact absurd hlj hltx
          · have h10 : ¬ Toml.g s j = 10 := by rw [Toml.g_ge hlj]; omega
            have h13 : ¬ (Toml.g s j = 13 ∧ Toml.g s (j + 1) = 10) := by rw [Toml.g_ge hlj]; omega
            have HR : Hid ((j, false) = Toml.sc s i) := (sc_stop' hk2 HL.out h10 h13).symm.trans HK.out
            clear hbl h35 HS HJ h10 h13
            go_wp2
            go_ret2
            exact ⟨ret_pair (a := ((j : Nat) : Int)) (p := false) (by rw [← HR.out]) (by rw [← HR.out]), rfl⟩
end Go.Proofs.YbulkhnkFmt
