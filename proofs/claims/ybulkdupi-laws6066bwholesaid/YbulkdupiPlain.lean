/- The plain law of seat b6066a: the first index at which a list of numbers holds k. No Go in sight. -/
import Derived.KernelRfl
namespace Go.Proofs.Ybulkdupi

/-- The first index among i, i+1, .., i+n-1 at which R is k. -/
def firstFrom (R : Nat → Int) (k : Int) : Nat → Nat → Option Nat
  | _, 0 => none
  | i, n + 1 => if R i = k then some i else firstFrom R k (i + 1) n

/-- What a reading f has at an index found, 0 where none is found. -/
def valAt (f : Nat → Int) : Option Nat → Int
  | some i => f i
  | none => 0
def foundAt : Option Nat → Bool
  | some _ => true
  | none => false

theorem first_hit {R : Nat → Int} {k : Int} {j len : Nat} (hj : j < len) (h : R j = k) : firstFrom R k j (len - j) = some j := by
  obtain ⟨m, hm⟩ : ∃ m, len - j = m + 1 := ⟨len - j - 1, by omega⟩
  rw [hm, firstFrom, if_pos h]
theorem first_miss {R : Nat → Int} {k : Int} {j len : Nat} (hj : j < len) (h : ¬ R j = k) : firstFrom R k j (len - j) = firstFrom R k (j + 1) (len - (j + 1)) := by
  obtain ⟨m, hm⟩ : ∃ m, len - j = m + 1 := ⟨len - j - 1, by omega⟩
  have hm' : len - (j + 1) = m := by omega
  rw [hm, firstFrom, if_neg h, hm']
theorem first_end {R : Nat → Int} {k : Int} (len : Nat) : firstFrom R k len (len - len) = none := by
  rw [Nat.sub_self, firstFrom]

end Go.Proofs.Ybulkdupi
