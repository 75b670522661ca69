import Derived.Test.YbulkdupiLaw
import Derived.ProofKit
import Derived.OpenShut
import Derived.ChangeOld
import Derived.Below
import Derived.Deep.SlicePairs
namespace Go.Proofs.Ybulkdupi
open Go.ChangeShapes Go.WideShapes Go.ChangeAt Go.RowKit
set_option linter.unusedVariables false

theorem own : ownKnob Yba.prog.godebug = none := by kernel_rfl
theorem laidOut : laidOutB Yba.prog = true := by kernel_rfl
theorem Yba.cells25 : Yba.prog.cellsOf 25 = 2 := by kernel_rfl
theorem Yba.cells3 : Yba.prog.cellsOf 3 = 1 := by kernel_rfl

/-- What the walk is told of a slice of pairs of integers that came in. -/
def IsPairs (w : World) (a : Option Addr) (len cap : Nat) (R M : Nat → Int) : Prop :=
  (a = none ∧ len = 0 ∧ cap = 0) ∨
  ∃ x : Addr, a = some x ∧ ∀ i, i < len → w.cell? (x.add (i * 2)) = some (.int .i64 (R i)) ∧ w.cell? (x.add (i * 2 + 1)) = some (.int .i64 (M i))

theorem addr_of_cell {w : World} {x : Addr} {v : Value} (h : w.cell? x = some v) : ∃ b off, x = ⟨b, off, none⟩ ∧ b < w.heap.size := by
  have hspot := World.cell?_spot h
  obtain ⟨b, off, spot⟩ := x
  simp only at hspot
  subst hspot
  refine ⟨b, off, rfl, ?_⟩
  simp only [World.cell?] at h
  split at h
  · rename_i hh; exact (Array.getElem?_eq_some_iff.1 hh).1
  · cases h

theorem walk (k pick : Int) (a : Option Addr) (len cap : Nat) (R M : Nat → Int) (w : World) (h : IsPairs w a len cap R M) (hp : 0 ≤ pick) :
    Calls Yba.prog 3 #[.int .i64 k, .int .u64 pick, .slice a len cap] w fun e w' => e = .returned (.bool true) ∧ Below w.heap.size w w' := by
  by_cases hlen : len ≤ 1048576
  · rcases h with ⟨rfl, rfl, rfl⟩ | ⟨x, rfl, hc⟩
    · exact law_nil k pick w hp
    · by_cases h0 : 0 < len
      · obtain ⟨b, off, rfl, hb⟩ := addr_of_cell (by simpa using (hc 0 h0).1)
        have hadd : ∀ j, (⟨b, off, none⟩ : Addr).add j = ⟨b, off + j, none⟩ := fun j => by unfold Addr.add; split <;> simp_all
        exact law_some k pick b off len cap R M w hlen h0 hb hp (fun i hi => by have := (hc i hi).1; rwa [hadd] at this) (fun i hi => by have := (hc i hi).2; rwa [hadd, ← Nat.add_assoc] at this)
      · obtain rfl : len = 0 := by omega
        exact law_empty k pick x cap w hp
  · exact (law_big k pick a len cap w hlen).mono fun e w' ⟨he, hw⟩ => ⟨he, hw ▸ Below.refl _ _⟩

set_option maxRecDepth 100000 in
theorem lifted (os : Os) (started : os.Started) (H : Type) (enc : TypeId × Value → H) :
    ReturnsInHanded {} Yba.checked os 3 .any (Rows.lawS6066BWholeSpec.pre6 enc Yba.prog Yba.f3 Rows.lawS6066BWholeRow.domain false) (Rows.lawS6066BWholeSpec.post enc Yba.prog Yba.f3 false true false false) := by
  refine returnsInHanded_of_change (C := Yba.checked) own started (by kernel_rfl) Yba.func3
    (ChangeSpec.witness6 (enc := enc) (C := Yba.checked) false ⟨#[], #[.int .i64 0, .int .u64 0, .slice none 0 0], []⟩ 8 (by kernel_rfl) (by kernel_rfl) (by kernel_rfl) (by kernel_rfl)) ?_
  intro W base args ds gs before hval0 hW hcnd _
  have hval : ∀ (j : Nat) t v, Yba.f3.params[j]? = some t → args[j]? = some v → Value.okWide Yba.prog W .any base t v := hval0
  have hW' := hW
  obtain ⟨p, q, hA0, hV, rfl, hfz, hnd⟩ := hW
  have hA : DataW.TrodAll enc Yba.prog W 0 (fun _ => true) true Yba.f3.params.toList args.toList ds p := hA0
  rw [Yba.params3] at hA hval
  obtain ⟨v0, vs0, d0, ds0, p0, q0, hargs, rfl, rfl, h0, r0⟩ := trodAll_cons hA
  obtain ⟨v1, vs1, d1, ds1, p1, q1, rfl, rfl, rfl, h1, r1⟩ := trodAll_cons r0
  obtain ⟨v2, vs2, d2, ds2, p2, q2, rfl, rfl, rfl, h2, r2⟩ := trodAll_cons r1
  obtain ⟨rfl, rfl, rfl⟩ := trodAll_nil r2
  obtain rfl : args = #[v0, v1, v2] := by cases args; simp_all
  obtain ⟨rfl, rfl⟩ := trodVars_none hV
  obtain ⟨a0, rfl, rfl, rfl, w0⟩ := open_int Yba.underlying3 (hval 0 3 v0 rfl rfl) h0
  obtain ⟨a1, rfl, rfl, rfl, w1⟩ := open_int Yba.underlying22 (hval 1 22 v1 rfl rfl) h1
  obtain ⟨a2, len2, cap2, rfl⟩ := okWide_slice Yba.underlying23 (hval 2 23 v2 rfl rfl)
  have k2 := h2
  have lt2 : ∀ x ∈ p2, x.block < W.heap.size := by obtain ⟨m, hm⟩ := k2; exact DataW.trod_lt m _ _ _ hm
  obtain ⟨R, M, w2⟩ : ∃ R M, IsPairs W a2 len2 cap2 R M := by
    obtain ⟨fuel, hf⟩ := h2
    rcases Deep.open_slice_pairs Yba.underlying23 Yba.underlying25 Yba.cells25 rfl rfl Yba.cells3 Yba.cells3 hf with ⟨hcs, _⟩ | ⟨x, l, c, m, n, V0, V1, D0, D1, P0, P1, hcs, _, hl, hm, hmm, _, hx⟩
    · simp [Value.cells] at hcs
      obtain ⟨rfl, rfl, rfl⟩ := hcs
      exact ⟨fun _ => 0, fun _ => 0, .inl ⟨rfl, rfl, rfl⟩⟩
    · simp [Value.cells] at hcs
      obtain ⟨rfl, rfl, rfl⟩ := hcs
      have each : ∀ i, i < len2 → ∃ rm : Int × Int, V0 i = .int .i64 rm.1 ∧ V1 i = .int .i64 rm.2 := fun i hi => by
        obtain ⟨_, _, t0, t1⟩ := hx i (by rw [hmm]; simp; omega)
        obtain ⟨r, e0, _⟩ := DataW.trod_int Yba.underlying3 t0
        obtain ⟨mm, e1, _⟩ := DataW.trod_int Yba.underlying3 t1
        simp at e0 e1
        exact ⟨(r, mm), e0, e1⟩
      obtain ⟨f, hf'⟩ := Deep.choose_lt each
      refine ⟨fun i => (f i).1, fun i => (f i).2, .inr ⟨x, rfl, fun i hi => ?_⟩⟩
      obtain ⟨g0, g1, _⟩ := hx i (by rw [hmm]; simp; omega)
      rw [(hf' i hi).1] at g0
      rw [(hf' i hi).2] at g1
      exact ⟨g0, g1⟩
  have hp : 0 ≤ a1 := (bounds_u64 w1).1
  clear hA0 hval0
  refine (walk a0 a1 a2 len2 cap2 R M W w2 hp).mono fun e W' ⟨he, bel⟩ => ?_
  subst he
  exact ⟨_, rfl, _, _, _, [], _, [], hW', trodAll_mk1 (shut_bool Yba.underlying4 _), (trodAll_cons_mk (shut_int Yba.underlying3 w0) (trodAll_cons_mk (shut_int Yba.underlying22 w1) (trodAll_cons_mk (Below.trod laidOut (by kernel_rfl) (of_decide_eq_true (by kernel_rfl)) k2 bel lt2) trodAll_mk0))), rfl, bel.frame _, fun h => by cases h⟩

theorem over : Rows.lawS6066BWholeRow.holds Yba.pinned (OpenSpec.ofChange Rows.lawS6066BWholeSpec) :=
  OpenClaim.holds_of_wide 3 Yba.f3 rfl rfl rfl rfl rfl rfl rfl ⟨rfl, rfl, rfl, rfl, rfl⟩ rfl rfl rfl rfl rfl (by kernel_rfl) Yba.func3 (by kernel_rfl)
    (of_decide_eq_true (by kernel_rfl)) (by unfold Func.isWrapper; first | (rw [if_pos (by decide +kernel)]; kernel_rfl) | (rw [if_neg (by decide +kernel)]; exact ⟨rfl, rfl⟩))
    (fun os started H enc _ => lifted os started H enc)

/-- The statement. -/
theorem proved : Rows.LawS6066BWholeSaid := over
end Go.Proofs.Ybulkdupi
