/-
  Plain: the chunks laid one behind the other.
-/
import Derived.KernelRfl
namespace Go.Proofs.YbulkhpaDoor

/-- the first k chunks, one behind the other -/
def flat (X : Nat → List Int) : Nat → List Int
  | 0 => []
  | k + 1 => flat X k ++ X k

def pre (X : Nat → List Int) (k : Nat) : Nat := (flat X k).length

theorem pre_zero (X : Nat → List Int) : pre X 0 = 0 := rfl
theorem pre_succ (X : Nat → List Int) (k : Nat) : pre X (k + 1) = pre X k + (X k).length := by simp [pre, flat]

theorem flat_split (X : Nat → List Int) {k n : Nat} (h : k ≤ n) : ∃ r, flat X n = flat X k ++ r := by
  induction n with
  | zero => obtain rfl : k = 0 := by omega
            exact ⟨[], by simp⟩
  | succ n ih =>
    by_cases hk : k = n + 1
    · subst hk; exact ⟨[], by simp⟩
    · obtain ⟨r, hr⟩ := ih (by omega)
      exact ⟨r ++ X n, by rw [flat, hr, List.append_assoc]⟩

theorem pre_mono (X : Nat → List Int) {k n : Nat} (h : k ≤ n) : pre X k ≤ pre X n := by
  obtain ⟨r, hr⟩ := flat_split X h
  simp [pre, hr]

theorem flat_get (X : Nat → List Int) {k n j : Nat} (h : k < n) (hj : j < (X k).length) : (flat X n).getD (pre X k + j) 0 = (X k).getD j 0 := by
  obtain ⟨r, hr⟩ := flat_split X (show k + 1 ≤ n from h)
  have hl : (flat X k).length = pre X k := rfl
  simp only [List.getD]
  rw [hr, flat, List.append_assoc, List.getElem?_append_right (by omega), hl, List.getElem?_append_left (by omega)]
  congr 2; omega

end Go.Proofs.YbulkhpaDoor
