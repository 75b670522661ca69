import Derived.Test.YbulkdupwKeys
namespace Go.Proofs.Ybulkdupw
open Go.RowKit

/-- A row of texts that came in: the first len cells from its address on. -/
def Texts (w : World) (ao : Option Addr) (len : Nat) (f : Nat → ByteArray) : Prop :=
  0 < len → ∃ b off, ao = some ⟨b, off, none⟩ ∧ b < w.heap.size ∧ ∀ i, i < len → w.cell? ⟨b, off + i, none⟩ = some (.string (f i))

theorem ret_bool {a b : Bool} (h : a = b) : Ending.returned (.bool a) = .returned (.bool b) := by rw [h]

set_option maxHeartbeats 400000 in
theorem has_any (ao : Option Addr) (len cap : Nat) (f : Nat → ByteArray) (s : ByteArray) (w : World) (hlen : len ≤ 4096) (h : Texts w ao len f) :
    Calls Yba.prog 6 #[.slice ao len cap, .string s] w fun e w' => e = .returned (.bool (hasB f len s)) ∧ w' = w := by
  go_enter Yba.func6, Yba.ntmps6
  go_wp2
  go_loop [9] (fun i => ∃ j : Nat, j ≤ len ∧ i = .int .i64 j ∧ Hid (∀ t, t < j → f t ≠ s)) (fun i => len - (intOf i).toNat)
  case atStart => exact ⟨0, Nat.zero_le _, rfl, fun t ht => absurd ht (Nat.not_lt_zero t)⟩
  case round =>
    obtain ⟨j, hj, rfl, HN⟩ := hrel
    by_cases hlt : j < len
    · obtain ⟨b, off, rfl, hb, hc⟩ := h (by omega)
      have d0 := hc j hlt
      clear hc
      by_cases he : f j = s
      · have hbq : ((f j).toList == s.toList) = true := by rw [beq_text]; simp [he]
        have HR : Hid (hasB f len s = true) := hasB_of hlt he
        clear he
        go_wp2
        go_ret
        exact ⟨ret_bool HR.out.symm, rfl⟩
      · have hbq : ((f j).toList == s.toList) = false := by rw [beq_text]; simp [he]
        have HN' : Hid (∀ t, t < j + 1 → f t ≠ s) := fun t ht => by
          by_cases e : t = j
          · subst e; exact he
          · exact HN.out t (by omega)
        clear he
        go_wp2
        go_round
        case rel => exact ⟨j + 1, by omega, by go_num, HN'⟩
        case measure => simp [intOf]; omega
    · obtain rfl : j = len := by omega
      go_wp2
      go_ret
      exact ⟨ret_bool (hasB_not HN.out).symm, rfl⟩
end Go.Proofs.Ybulkdupw
