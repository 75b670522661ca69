import Derived.Test.YbulkdunsRows
import Derived.ProofKit
import Derived.OpenShut
import Derived.ChangeOld
import Derived.Below
import Derived.Deep.SlicePairs
namespace Go.Proofs.Ybulkduns
open Go.ChangeShapes Go.WideShapes Go.ChangeAt Go.RowKit

theorem own : ownKnob Yba.prog.godebug = none := by kernel_rfl
theorem laidOut : laidOutB Yba.prog = true := by kernel_rfl
theorem Yba.cells60 : Yba.prog.cellsOf 60 = 2 := by kernel_rfl
theorem Yba.cells2 : Yba.prog.cellsOf 2 = 1 := by kernel_rfl
theorem Yba.cells4 : Yba.prog.cellsOf 4 = 1 := by kernel_rfl

/-- What the walks are told of the items that came in. -/
def IsItems (w : World) (a : Option Addr) (len : Nat) (H : Nat → Int) (F : Nat → Bool) : Prop :=
  ∃ b off, (0 < len → a = some ⟨b, off, none⟩) ∧ (0 < len → b < w.heap.size) ∧ (∀ i, i < len → w.cell? ⟨b, off + i * 2, none⟩ = some (.int .i64 (H i))) ∧ (∀ i, i < len → w.cell? ⟨b, off + i * 2 + 1, none⟩ = some (.bool (F i))) ∧
    ∀ i, i < len → (Lit.int .i64 (H i)).wf = true

theorem addr_of_cell {w : World} {x : Addr} {v : Value} (h : w.cell? x = some v) : ∃ b off, x = ⟨b, off, none⟩ ∧ b < w.heap.size := by
  have hspot := World.cell?_spot h
  obtain ⟨b, off, spot⟩ := x
  simp only at hspot
  subst hspot
  refine ⟨b, off, rfl, ?_⟩
  simp only [World.cell?] at h
  split at h
  · rename_i hh; exact (Array.getElem?_eq_some_iff.1 hh).1
  · cases h

theorem open_items {Hh : Type} {enc : TypeId × Value → Hh} {W : World} {a : Option Addr} {len cap : Nat} {d : DataW Hh} {p : List MemPlace} (h : DataW.Trod enc Yba.prog W 0 (fun _ => true) true 22 (.slice a len cap) d p) :
    ∃ H F, IsItems W a len H F := by
  obtain ⟨fuel, hf⟩ := h
  rcases Deep.open_slice_pairs Yba.underlying22 Yba.underlying60 Yba.cells60 rfl rfl Yba.cells2 Yba.cells4 hf with ⟨hcs, _⟩ | ⟨x, l, c, m, n, V0, V1, D0, D1, P0, P1, hcs, _, hl, hm, hmm, _, hx⟩
  · simp [Value.cells] at hcs
    obtain ⟨rfl, rfl, rfl⟩ := hcs
    exact ⟨fun _ => 0, fun _ => false, 0, 0, fun h => absurd h (Nat.lt_irrefl 0), fun h => absurd h (Nat.lt_irrefl 0), fun i h => absurd h (Nat.not_lt_zero i), fun i h => absurd h (Nat.not_lt_zero i), fun i h => absurd h (Nat.not_lt_zero i)⟩
  · simp [Value.cells] at hcs
    obtain ⟨rfl, rfl, rfl⟩ := hcs
    have each : ∀ i, i < len → ∃ rm : Int × Bool, V0 i = .int .i64 rm.1 ∧ V1 i = .bool rm.2 ∧ (Lit.int .i64 rm.1).wf = true := fun i hi => by
      obtain ⟨_, _, t0, t1⟩ := hx i (by rw [hmm]; simp; omega)
      obtain ⟨r, e0, _, hw⟩ := DataW.trod_int Yba.underlying2 t0
      obtain ⟨mm, e1, _⟩ := DataW.trod_bool Yba.underlying4 t1
      simp at e0 e1
      exact ⟨(r, mm), e0, e1, hw⟩
    obtain ⟨f, hf'⟩ := Deep.choose_lt each
    have hcell : ∀ i, i < len → W.cell? (x.add (i * 2)) = some (.int .i64 (f i).1) ∧ W.cell? (x.add (i * 2 + 1)) = some (.bool (f i).2) := fun i hi => by
      obtain ⟨g0, g1, _⟩ := hx i (by rw [hmm]; simp; omega)
      rw [(hf' i hi).1] at g0
      rw [(hf' i hi).2.1] at g1
      exact ⟨g0, g1⟩
    by_cases h0 : 0 < len
    · obtain ⟨b, off, rfl, hb⟩ := addr_of_cell (by simpa using (hcell 0 h0).1)
      have hadd : ∀ j, (⟨b, off, none⟩ : Addr).add j = ⟨b, off + j, none⟩ := fun j => by unfold Addr.add; split <;> simp_all
      exact ⟨fun i => (f i).1, fun i => (f i).2, b, off, fun _ => rfl, fun _ => hb, fun i hi => by have := (hcell i hi).1; rwa [hadd] at this, fun i hi => by have := (hcell i hi).2; rwa [hadd, ← Nat.add_assoc] at this, fun i hi => (hf' i hi).2.2⟩
    · obtain rfl : len = 0 := by omega
      exact ⟨fun _ => 0, fun _ => false, 0, 0, fun h => absurd h (Nat.lt_irrefl 0), fun h => absurd h (Nat.lt_irrefl 0), fun i h => absurd h (Nat.not_lt_zero i), fun i h => absurd h (Nat.not_lt_zero i), fun i h => absurd h (Nat.not_lt_zero i)⟩
end Go.Proofs.Ybulkduns
