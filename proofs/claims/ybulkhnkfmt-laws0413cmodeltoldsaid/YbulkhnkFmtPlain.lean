/-
  The plain law of pkg/toml's skipLines: no Go in sight. 'g s i' is the byte at i, or 256 past the end; 'bl' is where the blanks end, 'co' where a comment ends (and whether it is bad), 'line' both, 'sc' the whole scan.
-/
import Derived.KernelRfl
namespace Go.Proofs.YbulkhnkFmt.Toml

def g (s : ByteArray) (i : Nat) : Nat := if h : i < s.size then s[i].toNat else 256

theorem g_lt {s : ByteArray} {i : Nat} (h : i < s.size) : g s i = s[i].toNat := by simp [g, h]
theorem g_ge {s : ByteArray} {i : Nat} (h : ¬ i < s.size) : g s i = 256 := by simp [g, h]
theorem lt_of_g {s : ByteArray} {i n : Nat} (h : g s i = n) (hn : n < 256) : i < s.size := by
  by_cases hi : i < s.size
  · exact hi
  · rw [g_ge hi] at h; omega

def blF : Nat → ByteArray → Nat → Nat
  | 0, _, i => i
  | f + 1, s, i => if g s i = 32 ∨ g s i = 9 then blF f s (i + 1) else i
def bl (s : ByteArray) (i : Nat) : Nat := blF (s.size - i) s i

theorem bl_step {s : ByteArray} {i : Nat} (h : g s i = 32 ∨ g s i = 9) : bl s i = bl s (i + 1) := by
  have hi : i < s.size := by rcases h with h | h <;> exact lt_of_g h (by omega)
  unfold bl
  rw [show s.size - i = (s.size - (i + 1)) + 1 by omega, blF, if_pos h]
theorem bl_stop {s : ByteArray} {i : Nat} (h : ¬ (g s i = 32 ∨ g s i = 9)) : bl s i = i := by
  unfold bl
  cases s.size - i with
  | zero => rfl
  | succ f => rw [blF, if_neg h]
theorem blF_bd (f : Nat) : ∀ (s : ByteArray) (i : Nat), i ≤ s.size → i ≤ blF f s i ∧ blF f s i ≤ s.size := by
  induction f with
  | zero => intro s i h; exact ⟨Nat.le_refl _, h⟩
  | succ f ih =>
    intro s i h
    rw [blF]
    by_cases hc : g s i = 32 ∨ g s i = 9
    · have hi : i < s.size := by rcases hc with h | h <;> exact lt_of_g h (by omega)
      rw [if_pos hc]
      have := ih s (i + 1) (by omega)
      omega
    · rw [if_neg hc]; omega
theorem bl_bd {s : ByteArray} {i : Nat} (h : i ≤ s.size) : i ≤ bl s i ∧ bl s i ≤ s.size := blF_bd _ s i h
theorem blF_end (f : Nat) : ∀ (s : ByteArray) (i : Nat), s.size - i ≤ f → ¬ (g s (blF f s i) = 32 ∨ g s (blF f s i) = 9) := by
  induction f with
  | zero =>
    intro s i h
    show ¬ (g s i = 32 ∨ g s i = 9)
    rw [g_ge (by omega)]; omega
  | succ f ih =>
    intro s i h
    rw [blF]
    by_cases hc : g s i = 32 ∨ g s i = 9
    · rw [if_pos hc]; exact ih s (i + 1) (by omega)
    · rw [if_neg hc]; exact hc
theorem bl_end (s : ByteArray) (i : Nat) : ¬ (g s (bl s i) = 32 ∨ g s (bl s i) = 9) := blF_end _ s i (Nat.le_refl _)
theorem bl_idem (s : ByteArray) (i : Nat) : bl s (bl s i) = bl s i := bl_stop (bl_end s i)

/-- a control byte that a comment may not hold -/
def ctl (n : Nat) : Bool := (decide (n < 32) && (n != 9)) || (n == 127)

def coF : Nat → ByteArray → Nat → Nat × Bool
  | 0, _, i => (i, false)
  | f + 1, s, i =>
    if g s i = 10 then (i, false)
    else if g s i = 13 ∧ g s (i + 1) = 10 then (i, false)
    else if ctl (g s i) = true then (i, true)
    else coF f s (i + 1)
def co (s : ByteArray) (i : Nat) : Nat × Bool := coF (s.size - i) s i

theorem co_past {s : ByteArray} {i : Nat} (h : ¬ i < s.size) : co s i = (i, false) := by
  unfold co; rw [show s.size - i = 0 by omega]; rfl
theorem co_lf {s : ByteArray} {i : Nat} (h : g s i = 10) : co s i = (i, false) := by
  unfold co
  cases s.size - i with
  | zero => rfl
  | succ f => rw [coF, if_pos h]
theorem co_crlf {s : ByteArray} {i : Nat} (h : g s i = 13 ∧ g s (i + 1) = 10) : co s i = (i, false) := by
  unfold co
  cases s.size - i with
  | zero => rfl
  | succ f => rw [coF, if_neg (by omega), if_pos h]
theorem co_bad {s : ByteArray} {i : Nat} (hi : i < s.size) (h1 : g s i ≠ 10) (h2 : ¬ (g s i = 13 ∧ g s (i + 1) = 10)) (h3 : ctl (g s i) = true) : co s i = (i, true) := by
  unfold co
  rw [show s.size - i = (s.size - (i + 1)) + 1 by omega, coF, if_neg h1, if_neg h2, if_pos h3]
theorem co_step {s : ByteArray} {i : Nat} (hi : i < s.size) (h1 : g s i ≠ 10) (h2 : ¬ (g s i = 13 ∧ g s (i + 1) = 10)) (h3 : ctl (g s i) = false) : co s i = co s (i + 1) := by
  unfold co
  rw [show s.size - i = (s.size - (i + 1)) + 1 by omega, coF, if_neg h1, if_neg h2, if_neg (by rw [h3]; simp)]

theorem coF_bd (f : Nat) : ∀ (s : ByteArray) (i : Nat), f = s.size - i → i ≤ s.size → i ≤ (coF f s i).1 ∧ (coF f s i).1 ≤ s.size := by
  induction f with
  | zero => intro s i _ h; exact ⟨Nat.le_refl _, h⟩
  | succ f ih =>
    intro s i hf h
    rw [coF]
    split
    · exact ⟨Nat.le_refl _, h⟩
    · split
      · exact ⟨Nat.le_refl _, h⟩
      · split
        · exact ⟨Nat.le_refl _, h⟩
        · have := ih s (i + 1) (by omega) (by omega)
          omega
theorem co_bd {s : ByteArray} {i : Nat} (h : i ≤ s.size) : i ≤ (co s i).1 ∧ (co s i).1 ≤ s.size := coF_bd _ s i rfl h
/-- where a good comment ends there is a newline, or the text's end -/
theorem coF_end (f : Nat) : ∀ (s : ByteArray) (i : Nat), f = s.size - i → (coF f s i).2 = false →
    ¬ (coF f s i).1 < s.size ∨ g s (coF f s i).1 = 10 ∨ (g s (coF f s i).1 = 13 ∧ g s ((coF f s i).1 + 1) = 10) := by
  induction f with
  | zero => intro s i hf _; left; show ¬ i < s.size; omega
  | succ f ih =>
    intro s i hf
    rw [coF]
    by_cases h1 : g s i = 10
    · rw [if_pos h1]; intro _; right; left; exact h1
    · rw [if_neg h1]
      by_cases h2 : g s i = 13 ∧ g s (i + 1) = 10
      · rw [if_pos h2]; intro _; right; right; exact h2
      · rw [if_neg h2]
        by_cases h3 : ctl (g s i) = true
        · rw [if_pos h3]; intro h; cases h
        · rw [if_neg h3]; exact ih s (i + 1) (by omega)
theorem co_end {s : ByteArray} {i : Nat} (h : (co s i).2 = false) :
    ¬ (co s i).1 < s.size ∨ g s (co s i).1 = 10 ∨ (g s (co s i).1 = 13 ∧ g s ((co s i).1 + 1) = 10) := coF_end _ s i rfl h

/-- the comment at j, if there is one -/
def cm (s : ByteArray) (j : Nat) : Nat × Bool := if g s j = 35 then co s (j + 1) else (j, false)
theorem cm_bd {s : ByteArray} {j : Nat} (h : j ≤ s.size) : j ≤ (cm s j).1 ∧ (cm s j).1 ≤ s.size := by
  unfold cm
  by_cases h35 : g s j = 35
  · rw [if_pos h35]
    have := lt_of_g h35 (by omega)
    have := co_bd (s := s) (i := j + 1) (by omega)
    omega
  · rw [if_neg h35]; exact ⟨Nat.le_refl _, h⟩

/-- one round: the blanks, then a comment -/
def line (s : ByteArray) (i : Nat) : Nat × Bool := cm s (bl s i)
theorem line_bd {s : ByteArray} {i : Nat} (h : i ≤ s.size) : i ≤ (line s i).1 ∧ (line s i).1 ≤ s.size := by
  have h1 := bl_bd h
  have h2 := cm_bd h1.2
  unfold line
  omega

def scF : Nat → ByteArray → Nat → Nat × Bool
  | 0, _, i => (i, false)
  | f + 1, s, i =>
    if (line s i).2 = true then line s i
    else if g s (line s i).1 = 10 then scF f s ((line s i).1 + 1)
    else if g s (line s i).1 = 13 ∧ g s ((line s i).1 + 1) = 10 then scF f s ((line s i).1 + 2)
    else line s i

theorem scF_more (f : Nat) : ∀ (f' : Nat) (s : ByteArray) (i : Nat), i ≤ s.size → s.size + 1 - i ≤ f → s.size + 1 - i ≤ f' → scF f s i = scF f' s i := by
  induction f with
  | zero => intro f' s i h h1 _; omega
  | succ f ih =>
    intro f' s i h h1 h2
    cases f' with
    | zero => omega
    | succ f' =>
      have hb := line_bd h
      rw [scF, scF]
      by_cases hl : (line s i).2 = true
      · rw [if_pos hl, if_pos hl]
      · rw [if_neg hl, if_neg hl]
        by_cases h10 : g s (line s i).1 = 10
        · have := lt_of_g h10 (by omega)
          rw [if_pos h10, if_pos h10]
          exact ih f' s _ (by omega) (by omega) (by omega)
        · rw [if_neg h10, if_neg h10]
          by_cases h13 : g s (line s i).1 = 13 ∧ g s ((line s i).1 + 1) = 10
          · have := lt_of_g h13.2 (by omega)
            rw [if_pos h13, if_pos h13]
            exact ih f' s _ (by omega) (by omega) (by omega)
          · rw [if_neg h13, if_neg h13]

def sc (s : ByteArray) (i : Nat) : Nat × Bool := scF (s.size + 1 - i) s i

theorem sc_open {s : ByteArray} {i : Nat} (h : i ≤ s.size) : sc s i = scF ((s.size - i) + 1) s i := by
  unfold sc; rw [show s.size + 1 - i = (s.size - i) + 1 by omega]
theorem sc_bad {s : ByteArray} {i : Nat} (h : i ≤ s.size) (hl : (line s i).2 = true) : sc s i = line s i := by
  rw [sc_open h, scF, if_pos hl]
theorem sc_lf {s : ByteArray} {i : Nat} (h : i ≤ s.size) (hl : (line s i).2 = false) (h10 : g s (line s i).1 = 10) : sc s i = sc s ((line s i).1 + 1) := by
  have hb := line_bd h
  have := lt_of_g h10 (by omega)
  rw [sc_open h, scF, if_neg (by rw [hl]; simp), if_pos h10]
  exact scF_more _ _ s _ (by omega) (by omega) (by omega)
theorem sc_crlf {s : ByteArray} {i : Nat} (h : i ≤ s.size) (hl : (line s i).2 = false) (h13 : g s (line s i).1 = 13 ∧ g s ((line s i).1 + 1) = 10) : sc s i = sc s ((line s i).1 + 2) := by
  have hb := line_bd h
  have := lt_of_g h13.2 (by omega)
  rw [sc_open h, scF, if_neg (by rw [hl]; simp), if_neg (by omega), if_pos h13]
  exact scF_more _ _ s _ (by omega) (by omega) (by omega)
theorem sc_stop {s : ByteArray} {i : Nat} (h : i ≤ s.size) (hl : (line s i).2 = false) (h10 : g s (line s i).1 ≠ 10) (h13 : ¬ (g s (line s i).1 = 13 ∧ g s ((line s i).1 + 1) = 10)) : sc s i = line s i := by
  rw [sc_open h, scF, if_neg (by rw [hl]; simp), if_neg h10, if_neg h13]

theorem scF_bd (f : Nat) : ∀ (s : ByteArray) (i : Nat), i ≤ s.size → i ≤ (scF f s i).1 ∧ (scF f s i).1 ≤ s.size := by
  induction f with
  | zero => intro s i h; exact ⟨Nat.le_refl _, h⟩
  | succ f ih =>
    intro s i h
    have hb := line_bd h
    rw [scF]
    by_cases hl : (line s i).2 = true
    · rw [if_pos hl]; exact hb
    · rw [if_neg hl]
      by_cases h10 : g s (line s i).1 = 10
      · rw [if_pos h10]
        have := lt_of_g h10 (by omega)
        have := ih s ((line s i).1 + 1) (by omega)
        omega
      · rw [if_neg h10]
        by_cases h13 : g s (line s i).1 = 13 ∧ g s ((line s i).1 + 1) = 10
        · rw [if_pos h13]
          have := lt_of_g h13.2 (by omega)
          have := ih s ((line s i).1 + 2) (by omega)
          omega
        · rw [if_neg h13]; exact hb
theorem sc_bd {s : ByteArray} {i : Nat} (h : i ≤ s.size) : i ≤ (sc s i).1 ∧ (sc s i).1 ≤ s.size := scF_bd _ s i h

/-- a place where the scan has come to rest -/
theorem rest {s : ByteArray} {k : Nat} (h : k ≤ s.size) (hb : bl s k = k) (h35 : g s k ≠ 35) (h10 : g s k ≠ 10) (h13 : ¬ (g s k = 13 ∧ g s (k + 1) = 10)) : sc s k = (k, false) := by
  have hl : line s k = (k, false) := by unfold line cm; rw [hb, if_neg h35]
  have h10' : g s (line s k).1 ≠ 10 := by rw [hl]; exact h10
  have h13' : ¬ (g s (line s k).1 = 13 ∧ g s ((line s k).1 + 1) = 10) := by rw [hl]; exact h13
  rw [sc_stop h (by rw [hl]) h10' h13', hl]

/-- the scan's good end is a place of rest -/
theorem scF_rest (f : Nat) : ∀ (s : ByteArray) (i : Nat), i ≤ s.size → s.size + 1 - i ≤ f → (scF f s i).2 = false → sc s (scF f s i).1 = ((scF f s i).1, false) := by
  induction f with
  | zero => intro s i h h1; omega
  | succ f ih =>
    intro s i h h1
    have hb := line_bd h
    rw [scF]
    by_cases hl : (line s i).2 = true
    · rw [if_pos hl]; intro h; rw [hl] at h; cases h
    · rw [if_neg hl]
      by_cases h10 : g s (line s i).1 = 10
      · rw [if_pos h10]
        have := lt_of_g h10 (by omega)
        exact ih s _ (by omega) (by omega)
      · rw [if_neg h10]
        by_cases h13 : g s (line s i).1 = 13 ∧ g s ((line s i).1 + 1) = 10
        · rw [if_pos h13]
          have := lt_of_g h13.2 (by omega)
          exact ih s _ (by omega) (by omega)
        · rw [if_neg h13]
          intro hf
          have hk : bl s (line s i).1 = (line s i).1 ∧ g s (line s i).1 ≠ 35 := by
            by_cases h35 : g s (bl s i) = 35
            · have e : line s i = co s (bl s i + 1) := by unfold line cm; rw [if_pos h35]
              rw [e] at hf h10 h13 ⊢
              rcases co_end hf with h | h | h
              · have hg := g_ge h
                refine ⟨bl_stop ?_, ?_⟩
                · rw [hg]; omega
                · rw [hg]; omega
              · exact absurd h h10
              · exact absurd h h13
            · have e : line s i = (bl s i, false) := by unfold line cm; rw [if_neg h35]
              rw [e]
              exact ⟨bl_idem s i, h35⟩
          exact rest hb.2 hk.1 hk.2 h10 h13
theorem sc_rest {s : ByteArray} {i : Nat} (h : i ≤ s.size) (hf : (sc s i).2 = false) : sc s (sc s i).1 = ((sc s i).1, false) := scF_rest _ s i h (Nat.le_refl _) hf

end Go.Proofs.YbulkhnkFmt.Toml
