/- Seat b6063a: the keys of 'conns' (interface values that hold pointers to the law's own stand-in), and closed facts of the program's tables. -/
import Derived.Test.YbulkdunsRows
import Derived.Test.YbulkdunsRawMap
import Derived.LaidEql
import Derived.WalkKit
import Derived.WalkSpells
namespace Go.Proofs.Ybulkduns
open Go.RowKit

/-- A connection that lies at the head of a block of cells. -/
def conn (bb : Nat) : Value := .iface 39 (.pointer (some ⟨bb, 0, none⟩))
def IsConn (w : World) (v : Value) : Prop := ∃ bb c t, v = conn bb ∧ w.heap[bb]? = some (.cells c t (0, 0))

theorem info39 : ∃ i, Yba.prog.info? 39 = some i ∧ i.comparable = true := by
  have h : (Yba.prog.info? 39).map (·.comparable) = some true := by kernel_rfl
  cases hi : Yba.prog.info? 39 with
  | none => rw [hi] at h; cases h
  | some i => rw [hi] at h; exact ⟨i, rfl, by simpa using h⟩
theorem info41 : ∃ i, Yba.prog.info? 41 = some i ∧ i.size ≠ 0 := by
  have h : (Yba.prog.info? 41).map (·.size) = some 4 := by kernel_rfl
  cases hi : Yba.prog.info? 41 with
  | none => rw [hi] at h; cases h
  | some i => rw [hi] at h; exact ⟨i, rfl, by simp at h; omega⟩

theorem conn_inj {a b : Nat} (h : conn a = conn b) : a = b := by
  simpa [conn] using h

theorem connKey (w : World) : Raw.KeyV Yba.prog 67 (IsConn w) w := by
  obtain ⟨i, hi, hcomp⟩ := info39
  obtain ⟨j, hj, hsz⟩ := info41
  refine ⟨?_, ?_, ?_⟩
  · rintro em v ⟨bb, c, t, rfl, _⟩
    have h : ∀ n : Nat, (Instr.checkKey em (n + 2) 67 (conn bb)).run Yba.prog w = .ok () w := fun n => by
      simp [conn, Instr.checkKey, run_underlying Yba.underlying67, run_underlying Yba.underlying39, typeInfo, hi, hcomp]
    exact h 9998
  · rintro x ⟨bb, c, t, rfl, hbb⟩ es hes
    have heq : ∀ y, IsConn w y → ∃ q : Bool, (Op.equal 67 (conn bb) y).run Yba.prog w = .ok q w ∧ (q = true ↔ y = conn bb) := by
      rintro y ⟨b2, c2, t2, rfl, hb2⟩
      by_cases e : bb = b2
      · subst e
        exact ⟨true, by simp only [Op.equal, Op.maxDepth]; exact run_equalIn_iface_ptr_same w 9998 _ Yba.underlying67 Yba.underlying39 hi hcomp hj, by simp⟩
      · exact ⟨false, by simp only [Op.equal, Op.maxDepth]; exact run_equalIn_iface_ptr_other w 9998 Yba.underlying67 Yba.underlying39 hi hcomp hj hsz (fun h => e (by cases h; rfl)) hbb hb2, by simp; exact fun h => e (conn_inj h).symm⟩
    cases es with
    | nil => exact Or.inl ⟨by simp [Instr.findKey, Instr.findNow, run_underlying Yba.underlying67], by simp⟩
    | cons e0 es =>
      have hfk : (Instr.findKey 67 (conn bb) (e0 :: es)).run Yba.prog w = (Instr.findAsking 67 (conn bb) (e0 :: es) 0).run Yba.prog w := by
        simp [Instr.findKey, Instr.findNow, Instr.sameNow, run_underlying Yba.underlying67]
      rw [hfk]
      rcases Raw.findAsking_spec w heq (e0 :: es) 0 hes with h | ⟨j', e', h1, h2, h3⟩
      · exact Or.inl h
      · exact Or.inr ⟨j', e', by simpa using h1, h2, h3⟩
  · rintro v ⟨bb, c, t, rfl, _⟩
    simp [conn, Instr.keyThatStays, Instr.sameBits]

theorem zero42 (w : World) : (zeroValue 42).run Yba.prog w = .ok (.pointer none) w := by kernel_rfl

end Go.Proofs.Ybulkduns
