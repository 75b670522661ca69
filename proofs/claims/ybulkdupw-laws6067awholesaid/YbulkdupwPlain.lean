/- Seat b6067a: the plain law: is a text among the first n of a row of texts? No Go in sight. -/
import Derived.KernelRfl
namespace Go.Proofs.Ybulkdupw

/-- Is s among f 0, .., f (n - 1)? -/
def hasB (f : Nat → ByteArray) : Nat → ByteArray → Bool
  | 0, _ => false
  | n + 1, s => hasB f n s || decide (f n = s)

theorem hasB_iff (f : Nat → ByteArray) (n : Nat) (s : ByteArray) : hasB f n s = true ↔ ∃ i, i < n ∧ f i = s := by
  induction n with
  | zero => simp [hasB]
  | succ n ih =>
    simp only [hasB, Bool.or_eq_true, ih, decide_eq_true_eq]
    constructor
    · rintro (⟨i, hi, e⟩ | e)
      · exact ⟨i, by omega, e⟩
      · exact ⟨n, by omega, e⟩
    · rintro ⟨i, hi, e⟩
      by_cases h : i = n
      · subst h; exact Or.inr e
      · exact Or.inl ⟨i, by omega, e⟩

theorem hasB_of {f : Nat → ByteArray} {n i : Nat} {s : ByteArray} (hi : i < n) (e : f i = s) : hasB f n s = true := (hasB_iff f n s).2 ⟨i, hi, e⟩
theorem hasB_not {f : Nat → ByteArray} {n : Nat} {s : ByteArray} (h : ∀ i, i < n → f i ≠ s) : hasB f n s = false := by
  rw [Bool.eq_false_iff]
  intro hh
  obtain ⟨i, hi, e⟩ := (hasB_iff f n s).1 hh
  exact h i hi e

end Go.Proofs.Ybulkdupw
