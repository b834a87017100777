import Derived.Test.YbulkhnkFmtProg
import Derived.Test.YbulkhnkFmtPlain
import Derived.WalkKit
import Derived.ProofKit
import Derived.WalkSpells
import Derived.WalkLawsBesides
import Derived.Deep.QuietTactic
import Derived.BigQuiet
import Derived.Lib.Strings
namespace Go.Proofs.YbulkhnkFmt
open Go.ChangeShapes Go.WideShapes Go.ChangeAt Go.RowKit

/-- THE PARSER: block b holds text s, place i, depth d; what lies below b is as in W. -/
structure Par (W : World) (b : Nat) (s : ByteArray) (d : Int) (i : Nat) (w : World) : Prop where
  below : Below b W w
  size : b < w.heap.size
  text : w.cell? ⟨b, 0, none⟩ = some (.string s)
  pos : w.cell? ⟨b, 1, none⟩ = some (.int .i64 i)
  depth : w.cell? ⟨b, 2, none⟩ = some (.int .i64 d)
  free : w.frozen? ⟨b, 1, none⟩ = false

theorem Par.drewN {W : World} {b : Nat} {s : ByteArray} {d : Int} {i : Nat} {w : World} (h : Par W b s d i w) (n : Nat) : Par W b s d i (w.drewN n) :=
  ⟨⟨h.below.os, h.below.tape, h.below.output, h.below.size, h.below.block⟩, h.size, h.text, h.pos, h.depth, h.free⟩

theorem Par.set {W : World} {b : Nat} {s : ByteArray} {d : Int} {i : Nat} {w : World} (h : Par W b s d i w) {j : Nat} {v : Int} (hv : v = (j : Int)) : Par W b s d j (w.setCell ⟨b, 1, none⟩ (.int .i64 v)) := by
  subst hv
  refine ⟨h.below.setCell (Nat.le_refl _) _, ?_, ?_, ?_, ?_, ?_⟩
  · have := h.size; simp [World.setCell]; omega
  · rw [World.cell?_setCell_other _ _ _ _ (by simp)]; exact h.text
  · exact World.cell?_setCell_same _ _ _ h.pos
  · rw [World.cell?_setCell_other _ _ _ _ (by simp)]; exact h.depth
  · simp [h.free]

theorem ctl_int (n : Nat) : Toml.ctl n = ((decide ((n : Int) < 32) && ((n : Int) != 9)) || ((n : Int) == 127)) := by
  unfold Toml.ctl
  have h1 : decide ((n : Int) < 32) = decide (n < 32) := by
    by_cases h : n < 32
    · rw [decide_eq_true h, decide_eq_true (by omega)]
    · rw [decide_eq_false h, decide_eq_false (by omega)]
  have h2 : ((n : Int) == 9) = (n == 9) := by
    by_cases h : n = 9
    · subst h; rfl
    · rw [beq_eq_false_iff_ne.2 h, beq_eq_false_iff_ne.2 (by omega)]
  have h3 : ((n : Int) == 127) = (n == 127) := by
    by_cases h : n = 127
    · subst h; rfl
    · rw [beq_eq_false_iff_ne.2 h, beq_eq_false_iff_ne.2 (by omega)]
  simp only [bne, h1, h2, h3]

theorem isControl_any (c : UInt8) (w : World) :
    Calls Ybaf.prog 12 #[.int .u8 c.toNat] w fun e w' => e = .returned (.bool (Toml.ctl c.toNat)) ∧ w' = w := by
  rw [ctl_int]
  go_enter Ybaf.func12, Ybaf.ntmps12
  go_wp2
  all_goals go_ret
  · rename_i h1 h2
    exact ⟨by rw [h2]; rfl, rfl⟩
  · rename_i h1 h2
    have e : (((c.toNat : Nat) : Int) != 9) = true := bne_iff_ne.2 h2
    exact ⟨by rw [decide_eq_true h1, e]; rfl, rfl⟩
  · rename_i h1
    exact ⟨by rw [decide_eq_false (by omega)]; rfl, rfl⟩

/-- the byte tests of one place, in the walk's own form -/
theorem byte_pos {n : Nat} {c : Nat} (h : n = c) : ((n : Int) == (c : Int)) = true := by subst h; simp
theorem byte_neg {n : Nat} {c : Nat} (h : ¬ n = c) : ((n : Int) == (c : Int)) = false := beq_eq_false_iff_ne.2 (by omega)

set_option maxRecDepth 100000 in
set_option maxHeartbeats 2000000 in
theorem skipBlanks_any {W : World} {b : Nat} {s : ByteArray} {d : Int} {i : Nat} {w : World} (h : Par W b s d i w) (hi : i ≤ s.size) (hs : s.size ≤ maxLen) :
    Calls Ybaf.prog 8 #[.pointer (some ⟨b, 0, none⟩)] w fun e w' => e = .returned (.tuple #[]) ∧ Par W b s d (Toml.bl s i) w' := by
  unfold maxLen at hs
  go_enter Ybaf.func8, Ybaf.ntmps8
  go_wp2
  go_loopw [] (fun wr => ∃ k : Nat, k ≤ s.size ∧ Toml.bl s k = Toml.bl s i ∧ Par W b s d k wr) (fun wr => s.size - (intOf ((wr.cell? ⟨b, 1, none⟩).getD undef)).toNat)
  case atStart => exact ⟨i, hi, rfl, h⟩
  case round =>
    obtain ⟨k, hk2, hk3, hp⟩ := hrel
    have HK : Hid (Toml.bl s k = Toml.bl s i) := hk3
    clear hk3 h
    have p0 := hp.text
    have p1 := hp.pos
    have p2 := hp.free
    by_cases hlt : k < s.size
    · have hd : decide ((k : Int) < (s.size : Int)) = true := decide_eq_true (by omega)
      by_cases h32 : s[k].toNat = 32
      · have e32 : (((s[k].toNat : Nat) : Int) == 32) = true := byte_pos h32
        have HS : Hid (Toml.bl s (k + 1) = Toml.bl s i) := (Toml.bl_step (Or.inl (by rw [Toml.g_lt hlt]; exact h32))).symm.trans HK.out
        clear h32
        go_wp2_with fail
        go_quiet (fail)
        go_wp2
        refine ⟨⟨k + 1, by omega, HS.out, (hp.drewN nq).set (by omega)⟩, ?_⟩
        rw [((hp.drewN nq).set (j := k + 1) (by omega)).pos, p1]
        simp [intOf]; omega
      · have e32 : (((s[k].toNat : Nat) : Int) == 32) = false := byte_neg h32
        by_cases h9 : s[k].toNat = 9
        · have e9 : (((s[k].toNat : Nat) : Int) == 9) = true := byte_pos h9
          have HS : Hid (Toml.bl s (k + 1) = Toml.bl s i) := (Toml.bl_step (Or.inr (by rw [Toml.g_lt hlt]; exact h9))).symm.trans HK.out
          clear h32 h9
          go_wp2_with fail
          go_quiet (fail)
          go_wp2
          refine ⟨⟨k + 1, by omega, HS.out, (hp.drewN nq).set (by omega)⟩, ?_⟩
          rw [((hp.drewN nq).set (j := k + 1) (by omega)).pos, p1]
          simp [intOf]; omega
        · have e9 : (((s[k].toNat : Nat) : Int) == 9) = false := byte_neg h9
          have HS : Hid (k = Toml.bl s i) := (Toml.bl_stop (by rw [Toml.g_lt hlt]; omega)).symm.trans HK.out
          clear h32 h9
          go_wp2_with fail
          go_quiet (fail)
          go_wp2
          go_end0
          exact ⟨rfl, HS.out ▸ hp.drewN nq⟩
    · have hd : decide ((k : Int) < (s.size : Int)) = false := decide_eq_false (by omega)
      have HS : Hid (k = Toml.bl s i) := (Toml.bl_stop (by rw [Toml.g_ge hlt]; omega)).symm.trans HK.out
      go_wp2_with fail
      go_quiet (fail)
      go_wp2
      go_end0
      exact ⟨rfl, HS.out ▸ hp.drewN nq⟩

/-- one byte of a text, cut out -/
theorem cut1 (s : ByteArray) (i : Nat) (h : i < s.size) : (s.extract i (i + 1)).toList = [s[i]] := by
  have hl : i < s.data.toList.length := by rw [← Lib.size_eq]; exact h
  rw [Lib.extract_toList, show i + 1 - i = 1 by omega, List.drop_eq_getElem_cons hl]
  rfl
theorem cut2 (s : ByteArray) (i : Nat) (h : i + 1 < s.size) : (s.extract i (i + 2)).toList = [s[i], s[i + 1]] := by
  have hl : i + 1 < s.data.toList.length := by rw [← Lib.size_eq]; exact h
  rw [Lib.extract_toList, show i + 2 - i = 2 by omega, List.drop_eq_getElem_cons (i := i) (by omega), List.drop_eq_getElem_cons (i := i + 1) hl]
  rfl
theorem toNat_ne {a c : UInt8} (h : a.toNat ≠ c.toNat) : (a == c) = false := beq_eq_false_iff_ne.2 (fun e => h (by rw [e]))
theorem cut1_eq (s : ByteArray) (i : Nat) (c : UInt8) (h : i < s.size) : ((s.extract i (i + 1)).toList == [c]) = decide (Toml.g s i = c.toNat) := by
  rw [cut1 s i h, Toml.g_lt h]
  by_cases e : s[i].toNat = c.toNat
  · have e' : s[i] = c := UInt8.toNat_inj.1 e
    rw [decide_eq_true e, e']; simp
  · have e' := toNat_ne e
    rw [decide_eq_false e]; simp [e']
theorem cut2_eq (s : ByteArray) (i : Nat) (c c' : UInt8) (h : i + 1 < s.size) : ((s.extract i (i + 2)).toList == [c, c']) = decide (Toml.g s i = c.toNat ∧ Toml.g s (i + 1) = c'.toNat) := by
  rw [cut2 s i h, Toml.g_lt (by omega), Toml.g_lt h]
  by_cases e : s[i].toNat = c.toNat
  · have e' : s[i] = c := UInt8.toNat_inj.1 e
    by_cases f : s[i + 1].toNat = c'.toNat
    · have f' : s[i + 1] = c' := UInt8.toNat_inj.1 f
      rw [decide_eq_true ⟨e, f⟩, e', f']; simp
    · have f' := toNat_ne f
      rw [decide_eq_false (fun x => f x.2)]; simp [f']
  · have e' := toNat_ne e
    rw [decide_eq_false (fun x => e x.1)]; simp [e']
theorem ret_bool {a b : Bool} (h : a = b) : Ending.returned (.bool a) = .returned (.bool b) := by rw [h]

set_option maxRecDepth 100000 in
set_option maxHeartbeats 2000000 in
theorem at1_any {W : World} {b : Nat} {s : ByteArray} {d : Int} {i : Nat} {w : World} (c : UInt8) (h : Par W b s d i w) (hi : i ≤ s.size) (hs : s.size ≤ maxLen) :
    Calls Ybaf.prog 11 #[.pointer (some ⟨b, 0, none⟩), .string ⟨#[c]⟩] w fun e w' => e = .returned (.bool (decide (Toml.g s i = c.toNat))) ∧ Par W b s d i w' := by
  unfold maxLen at hs
  have p0 := h.text
  have p1 := h.pos
  by_cases hlt : i < s.size
  · have hd : decide ((1 : Int) ≤ (s.size : Int) - (i : Int)) = true := decide_eq_true (by omega)
    go_enter Ybaf.func11, Ybaf.ntmps11
    go_wp2
    go_quiet (fail)
    go_wp2
    go_ret
    exact ⟨ret_bool (cut1_eq s i c hlt), h.drewN nq⟩
  · have hd : decide ((1 : Int) ≤ (s.size : Int) - (i : Int)) = false := decide_eq_false (by omega)
    go_enter Ybaf.func11, Ybaf.ntmps11
    go_wp2
    go_quiet (fail)
    go_wp2
    go_ret
    exact ⟨ret_bool (by rw [Toml.g_ge hlt, decide_eq_false]; have := c.toNat_lt; omega), h.drewN nq⟩

set_option maxRecDepth 100000 in
set_option maxHeartbeats 2000000 in
theorem at2_any {W : World} {b : Nat} {s : ByteArray} {d : Int} {i : Nat} {w : World} (c c' : UInt8) (h : Par W b s d i w) (hi : i ≤ s.size) (hs : s.size ≤ maxLen) :
    Calls Ybaf.prog 11 #[.pointer (some ⟨b, 0, none⟩), .string ⟨#[c, c']⟩] w fun e w' => e = .returned (.bool (decide (Toml.g s i = c.toNat ∧ Toml.g s (i + 1) = c'.toNat))) ∧ Par W b s d i w' := by
  unfold maxLen at hs
  have p0 := h.text
  have p1 := h.pos
  by_cases hlt : i + 1 < s.size
  · have hd : decide ((2 : Int) ≤ (s.size : Int) - (i : Int)) = true := decide_eq_true (by omega)
    go_enter Ybaf.func11, Ybaf.ntmps11
    go_wp2
    go_quiet (fail)
    go_wp2
    go_ret
    exact ⟨ret_bool (cut2_eq s i c c' hlt), h.drewN nq⟩
  · have hd : decide ((2 : Int) ≤ (s.size : Int) - (i : Int)) = false := decide_eq_false (by omega)
    go_enter Ybaf.func11, Ybaf.ntmps11
    go_wp2
    go_quiet (fail)
    go_wp2
    go_ret
    exact ⟨ret_bool (by rw [Toml.g_ge hlt, decide_eq_false]; have := c'.toNat_lt; omega), h.drewN nq⟩

/-! ### newline: three ways -/
set_option maxRecDepth 100000 in
set_option maxHeartbeats 2000000 in
theorem newline_lf {W : World} {b : Nat} {s : ByteArray} {d : Int} {i : Nat} {w : World} (h : Par W b s d i w) (hi : i ≤ s.size) (hs : s.size ≤ maxLen) (h10 : Toml.g s i = 10) :
    Calls Ybaf.prog 10 #[.pointer (some ⟨b, 0, none⟩)] w fun e w' => e = .returned (.bool true) ∧ Par W b s d (i + 1) w' := by
  have hm : s.size ≤ 2 ^ 63 - 1 := hs
  have hlt : i < s.size := Toml.lt_of_g h10 (by omega)
  have H1 := at1_any 10 h hi hs
  rw [decide_eq_true (show Toml.g s i = (10 : UInt8).toNat from h10)] at H1
  have HI : Hid (Calls Ybaf.prog 11 #[.pointer (some ⟨b, 0, none⟩), .string ⟨#[10]⟩] w fun e w' => e = .returned (.bool true) ∧ Par W b s d i w') := H1
  clear H1 h h10
  go_enter Ybaf.func10, Ybaf.ntmps10
  go_wp2_with fail
  refine HI.out.mono ?_
  rintro e w1 ⟨rfl, h1⟩
  have p1 := h1.pos
  have p2 := h1.free
  go_wp2_with fail
  go_ret
  exact ⟨rfl, h1.set (by omega)⟩

set_option maxRecDepth 100000 in
set_option maxHeartbeats 2000000 in
theorem newline_crlf {W : World} {b : Nat} {s : ByteArray} {d : Int} {i : Nat} {w : World} (h : Par W b s d i w) (hi : i ≤ s.size) (hs : s.size ≤ maxLen) (h10 : ¬ Toml.g s i = 10) (h13 : Toml.g s i = 13 ∧ Toml.g s (i + 1) = 10) :
    Calls Ybaf.prog 10 #[.pointer (some ⟨b, 0, none⟩)] w fun e w' => e = .returned (.bool true) ∧ Par W b s d (i + 2) w' := by
  have hm : s.size ≤ 2 ^ 63 - 1 := hs
  have hlt : i + 1 < s.size := Toml.lt_of_g h13.2 (by omega)
  have H1 := at1_any 10 h hi hs
  rw [decide_eq_false (show ¬ Toml.g s i = (10 : UInt8).toNat from h10)] at H1
  have HI : Hid (Calls Ybaf.prog 11 #[.pointer (some ⟨b, 0, none⟩), .string ⟨#[10]⟩] w fun e w' => e = .returned (.bool false) ∧ Par W b s d i w') := H1
  have H13 : Hid (Toml.g s i = (13 : UInt8).toNat ∧ Toml.g s (i + 1) = (10 : UInt8).toNat) := h13
  clear H1 h h10 h13
  go_enter Ybaf.func10, Ybaf.ntmps10
  go_wp2_with fail
  refine HI.out.mono ?_
  clear HI
  rintro e w1 ⟨rfl, h1⟩
  go_wp2_with fail
  have H2 := at2_any 13 10 h1 hi hs
  rw [decide_eq_true H13.out] at H2
  refine H2.mono ?_
  clear H2 h1
  rintro e w2 ⟨rfl, h2⟩
  have p1 := h2.pos
  have p2 := h2.free
  go_wp2_with fail
  go_ret
  exact ⟨rfl, h2.set (by omega)⟩

set_option maxRecDepth 100000 in
set_option maxHeartbeats 2000000 in
theorem newline_no {W : World} {b : Nat} {s : ByteArray} {d : Int} {i : Nat} {w : World} (h : Par W b s d i w) (hi : i ≤ s.size) (hs : s.size ≤ maxLen) (h10 : ¬ Toml.g s i = 10) (h13 : ¬ (Toml.g s i = 13 ∧ Toml.g s (i + 1) = 10)) :
    Calls Ybaf.prog 10 #[.pointer (some ⟨b, 0, none⟩)] w fun e w' => e = .returned (.bool false) ∧ Par W b s d i w' := by
  have H1 := at1_any 10 h hi hs
  rw [decide_eq_false (show ¬ Toml.g s i = (10 : UInt8).toNat from h10)] at H1
  have HI : Hid (Calls Ybaf.prog 11 #[.pointer (some ⟨b, 0, none⟩), .string ⟨#[10]⟩] w fun e w' => e = .returned (.bool false) ∧ Par W b s d i w') := H1
  have H13 : Hid (¬ (Toml.g s i = (13 : UInt8).toNat ∧ Toml.g s (i + 1) = (10 : UInt8).toNat)) := h13
  clear H1 h h10 h13
  go_enter Ybaf.func10, Ybaf.ntmps10
  go_wp2_with fail
  refine HI.out.mono ?_
  clear HI
  rintro e w1 ⟨rfl, h1⟩
  go_wp2_with fail
  have H2 := at2_any 13 10 h1 hi hs
  rw [decide_eq_false H13.out] at H2
  refine H2.mono ?_
  clear H2 h1
  rintro e w2 ⟨rfl, h2⟩
  go_wp2_with fail
  go_ret
  exact ⟨rfl, h2⟩
end Go.Proofs.YbulkhnkFmt
