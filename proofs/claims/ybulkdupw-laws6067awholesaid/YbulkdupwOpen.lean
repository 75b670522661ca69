import Derived.Test.YbulkdupwClo
import Derived.ProofKit
import Derived.OpenShut
import Derived.ChangeOld
import Derived.Below
import Derived.SliceStrings
namespace Go.Proofs.Ybulkdupw
open Go.ChangeShapes Go.WideShapes Go.ChangeAt Go.RowKit

theorem own : ownKnob Yba.prog.godebug = none := by kernel_rfl
theorem laidOut : laidOutB Yba.prog = true := by kernel_rfl
theorem Yba.cells9 : Yba.prog.cellsOf 9 = 1 := by kernel_rfl

theorem addr_of_cell {w : World} {x : Addr} {v : Value} (h : w.cell? x = some v) : ∃ b off, x = ⟨b, off, none⟩ ∧ b < w.heap.size := by
  have hspot := World.cell?_spot h
  obtain ⟨b, off, spot⟩ := x
  simp only at hspot
  subst hspot
  refine ⟨b, off, rfl, ?_⟩
  simp only [World.cell?] at h
  split at h
  · rename_i hh; exact (Array.getElem?_eq_some_iff.1 hh).1
  · cases h

/-- A row of strings that came in. -/
theorem open_texts {Hh : Type} {enc : TypeId × Value → Hh} {W : World} {a : Option Addr} {len cap : Nat} {d : DataW Hh} {p : List MemPlace} (h : DataW.Trod enc Yba.prog W 0 (fun _ => true) true 23 (.slice a len cap) d p) :
    ∃ f, TextsB W.heap.size W a len f := by
  obtain ⟨fuel, hf⟩ := h
  rcases open_strings Yba.underlying23 Yba.underlying9 Yba.cells9 hf with ⟨hcs, _⟩ | ⟨x, l, c, ss, hcs, _, hl, _, hlen, _, hx, _⟩
  · simp [Value.cells] at hcs
    obtain ⟨rfl, rfl, rfl⟩ := hcs
    exact ⟨fun _ => ByteArray.empty, fun h => absurd h (Nat.lt_irrefl 0)⟩
  · simp [Value.cells] at hcs
    obtain ⟨rfl, rfl, rfl⟩ := hcs
    refine ⟨fun i => ss.getD i ByteArray.empty, fun h0 => ?_⟩
    have hls : len ≤ ss.length := by rw [hlen]; simp; omega
    obtain ⟨b, off, rfl, hb⟩ := addr_of_cell (by simpa using hx 0 (by omega))
    have hadd : ∀ j, (⟨b, off, none⟩ : Addr).add j = ⟨b, off + j, none⟩ := fun j => by unfold Addr.add; split <;> simp_all
    exact ⟨b, off, rfl, hb, fun i hi => by have := hx i (by omega); rwa [hadd] at this⟩
end Go.Proofs.Ybulkdupw
