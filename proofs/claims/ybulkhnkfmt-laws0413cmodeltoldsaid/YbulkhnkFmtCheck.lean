/-
  zzs0413ccheck: it returns true; and the two laws' walks.
-/
import Derived.Test.YbulkhnkFmtLines
import Derived.Test.YbulkhnkFmtModel
namespace Go.Proofs.YbulkhnkFmt
open Go.RowKit Go.Extern.Stop Go.Stop Go.Extern

theorem par_new (w : World) (s : ByteArray) (v d : Int) (i : Nat) (hv : v = (i : Int)) : Par w w.heap.size s d i (w.alloc (.cells #[.string s, .int .i64 v, .int .i64 d] 28)) := by
  subst hv
  refine ⟨(Below.refl _ _).alloc (Nat.le_refl _) _, by simp, by simp, by simp, by simp, by simp⟩

set_option maxHeartbeats 4000000 in
set_option maxRecDepth 1000000 in
theorem check_any (F : Interp) {s : ByteArray} {k d : Int} {w : World} {a : Addr} {t : ByteArray} (S : Sent F w w.heap.size a t) (hs : s.size ≤ 1024) (hk0 : 0 ≤ k) (hk1 : k < 18446744073709551616) :
    Calls Ybaf.prog 5 #[.string s, .int .u64 k, .int .i64 d] w fun e w' => e = .returned (.bool true) ∧ Below w.heap.size w w' := by
  have hm : s.size ≤ maxLen := by unfold maxLen; omega
  have hr1 : 0 ≤ k % ((s.size : Int) + 1) := Int.emod_nonneg _ (by omega)
  have hr2 : k % ((s.size : Int) + 1) < (s.size : Int) + 1 := Int.emod_lt_of_pos _ (by omega)
  go_enter Ybaf.func5, Ybaf.ntmps5
  go_wp2_with fail
  obtain ⟨i, hi⟩ := Int.eq_ofNat_of_zero_le hr1
  rw [hi] at hr2 ⊢
  clear hi hr1
  have hi2 : i ≤ s.size := by omega
  refine (skipLines_any F S (par_new w s _ d i rfl) hi2 hm).mono ?_
  rintro e w1 ⟨hsay, h1⟩
  have q0 := h1.text
  have q1 := h1.pos
  have q2 := h1.depth
  rcases hsay with ⟨hr, rfl⟩ | ⟨hr, x, rfl⟩
  · go_wp2_with fail
    refine (model_any w1 hi2 hs).mono ?_
    rintro e w2 ⟨rfl, hw⟩
    subst hw
    go_wp2
    go_ret
    exact ⟨rfl, h1.below⟩
  · go_wp2_with fail
    refine (model_any w1 hi2 hs).mono ?_
    rintro e w2 ⟨rfl, hw⟩
    subst hw
    go_wp2
    go_ret
    exact ⟨rfl, h1.below⟩

set_option maxHeartbeats 4000000 in
set_option maxRecDepth 1000000 in
theorem idem_long {s : ByteArray} {k : Int} {w : World} (hs : 1024 < s.size) (hm : s.size ≤ maxLen) :
    Calls Ybaf.prog 4 #[.string s, .int .u64 k] w fun e w' => e = .returned (.bool true) ∧ Below w.heap.size w w' := by
  unfold maxLen at hm
  go_enter Ybaf.func4, Ybaf.ntmps4
  go_wp2
  go_ret
  exact ⟨rfl, Below.refl _ _⟩

theorem Sent.later {F : Interp} {W : World} {b : Nat} {a : Addr} {t : ByteArray} (h : Sent F W b a t) {w : World} (hb : Below b W w) {b' : Nat} (hb' : b ≤ b') : Sent F w b' a t :=
  ⟨h.ans' hb, h.var' hb, h.cell' hb, Nat.lt_of_lt_of_le h.zero hb', Nat.lt_of_lt_of_le h.low hb'⟩

set_option maxHeartbeats 4000000 in
set_option maxRecDepth 1000000 in
theorem idem_any (F : Interp) {s : ByteArray} {k : Int} {w : World} {a : Addr} {t : ByteArray} (S : Sent F w w.heap.size a t) (hs : s.size ≤ 1024) (hk0 : 0 ≤ k) (hk1 : k < 18446744073709551616) :
    Calls Ybaf.prog 4 #[.string s, .int .u64 k] w fun e w' => e = .returned (.bool true) ∧ Below w.heap.size w w' := by
  have hm : s.size ≤ maxLen := by unfold maxLen; omega
  have hr1 : 0 ≤ k % ((s.size : Int) + 1) := Int.emod_nonneg _ (by omega)
  have hr2 : k % ((s.size : Int) + 1) < (s.size : Int) + 1 := Int.emod_lt_of_pos _ (by omega)
  go_enter Ybaf.func4, Ybaf.ntmps4
  go_wp2_with fail
  refine (check_any F S hs hk0 hk1).mono ?_
  rintro e w0 ⟨rfl, hb0⟩
  have S0 : Sent F w0 w0.heap.size a t := S.later hb0 hb0.size
  go_wp2_with fail
  obtain ⟨i, hi⟩ := Int.eq_ofNat_of_zero_le hr1
  rw [hi] at hr2 ⊢
  clear hi hr1
  have hi2 : i ≤ s.size := by omega
  refine (skipLines_any F S0 (par_new w0 s _ 0 i rfl) hi2 hm).mono ?_
  rintro e w1 ⟨hsay, h1⟩
  have q1 := h1.pos
  rcases hsay with ⟨hr, rfl⟩ | ⟨hr, x, rfl⟩
  · have HR : Hid ((Toml.sc s i).2 = false) := hr
    clear hr
    go_wp2_with fail
    have hbd := Toml.sc_bd hi2
    refine (skipLines_any F S0 h1 hbd.2 hm).mono ?_
    rintro e w2 ⟨hsay, h2⟩
    rw [Toml.sc_rest hi2 HR.out] at hsay h2
    rcases hsay with ⟨_, rfl⟩ | ⟨hr, x, rfl⟩
    · have p1 := h2.pos
      clear q1
      go_wp2
      go_ret
      exact ⟨rfl, hb0.trans (h2.below.mono hb0.size)⟩
    · cases hr
  · clear hr
    go_wp2
    go_ret
    exact ⟨rfl, hb0.trans (h1.below.mono hb0.size)⟩
end Go.Proofs.YbulkhnkFmt
