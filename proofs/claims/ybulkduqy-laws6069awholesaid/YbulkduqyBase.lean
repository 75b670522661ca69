import Derived.Test.YbulkduqyRows
import Derived.Test.YbulkduqyRawMap
import Derived.WalkKit
import Derived.WalkSpells
import Derived.Below
namespace Go.Proofs.Ybulkduqy
open Go.RowKit

def IsI (v : Value) : Prop := ∃ i : Int, v = .int .i64 i

theorem keyI (w : World) : Raw.KeyV Yba.prog 2 IsI w := by
  have isk : ∀ i : Int, MapKept.IsKey (.int .i64) (.int .i64 i) := fun i => by simp [MapKept.IsKey]
  refine ⟨?_, ?_, ?_⟩
  · rintro em v ⟨i, rfl⟩
    exact MapKept.run_checkKey Yba.underlying2 (isk i) em 9999
  · rintro x ⟨i, rfl⟩ es hes
    rcases MapKept.findNow_spec (isk i) es 0 (fun e he => by obtain ⟨t, ht⟩ := hes e he; rw [ht]; exact isk t) with ⟨h1, h2⟩ | ⟨j, e, h1, h2, h3⟩
    · exact Or.inl ⟨MapKept.run_findKey Yba.underlying2 h1, h2⟩
    · exact Or.inr ⟨j, e, by rw [Nat.zero_add] at h1; exact MapKept.run_findKey Yba.underlying2 h1, h2, h3⟩
  · rintro v ⟨i, rfl⟩
    exact MapKept.run_keyThatStays (isk i)

/-- The map after the first n of the times f are in it: each at a nil pointer. -/
def Mt (f : Nat → Int) (n : Nat) : Value → Value → Prop := fun key v => ∃ i, i < n ∧ key = .int .i64 (f i) ∧ v = .pointer none

theorem Mt_key {f : Nat → Int} {n : Nat} : ∀ key v, Mt f n key v → IsI key := by
  rintro key v ⟨i, _, rfl, _⟩
  exact ⟨_, rfl⟩
theorem Mt_zero {f : Nat → Int} : ∀ key v, Mt f 0 key v ↔ False := by
  intro key v
  simp [Mt]
theorem Mt_put {f : Nat → Int} {n : Nat} : ∀ key v, Mt f (n + 1) key v ↔ Raw.put (Mt f n) (.int .i64 (f n)) (.pointer none) key v := by
  intro key v
  simp only [Mt, Raw.put]
  constructor
  · rintro ⟨i, hi, rfl, rfl⟩
    by_cases e : f i = f n
    · left; rw [e]; exact ⟨rfl, rfl⟩
    · right
      have : i ≠ n := fun e' => e (by rw [e'])
      exact ⟨fun hh => e (by simpa using hh), i, by omega, rfl, rfl⟩
  · rintro (⟨rfl, rfl⟩ | ⟨_, i, hi, rfl, rfl⟩)
    · exact ⟨n, by omega, rfl, rfl⟩
    · exact ⟨i, by omega, rfl, rfl⟩

end Go.Proofs.Ybulkduqy
