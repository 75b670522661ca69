import Derived.Test.YbulkdupwKLWalk
namespace Go.Proofs.Ybulkdupw
open Go.RowKit

/-- The cells that the walks read, of a value. -/
def zparts (v : Value) : Bool × Option Value × Option Value × Option Value × Option Value :=
  match v with
  | .agg cs => (decide (275 ≤ cs.size), cs[2]?, cs[4]?, cs[5]?, cs[6]?)
  | _ => (false, none, none, none, none)

theorem Yba.info66 : (Yba.prog.info? 66).map (fun i => i.zero.map zparts) = some (some (true, some (.int .i32 0), some (.int .u32 0), some (.int .u32 0), some (.int .i32 0))) := by kernel_rfl

theorem zero66 : ∃ Z : Array Value, (∀ w, (zeroValue 66).run Yba.prog w = .ok (.agg Z) w) ∧ 275 ≤ Z.size ∧ Z[2]? = some (.int .i32 0) ∧ Z[4]? = some (.int .u32 0) ∧ Z[5]? = some (.int .u32 0) ∧ Z[6]? = some (.int .i32 0) := by
  have h := Yba.info66
  cases h1 : Yba.prog.info? 66 with
  | none => rw [h1] at h; cases h
  | some i =>
    rw [h1] at h
    simp only [Option.map_some, Option.some.injEq] at h
    cases h2 : i.zero with
    | none => rw [h2] at h; cases h
    | some v =>
      rw [h2] at h
      simp only [Option.map_some, Option.some.injEq] at h
      cases v with
      | agg Z =>
        simp only [zparts, Prod.mk.injEq] at h
        obtain ⟨a1, a2, a3, a4, a5⟩ := h
        refine ⟨Z, fun w => ?_, of_decide_eq_true a1, a2, a3, a4, a5⟩
        simp [zeroValue, typeInfo, h1, h2, go_sem]
      | _ => simp [zparts] at h

/-- The cells of the BanList as the law builds it. -/
theorem listA_built {Z : Array Value} (h0 : 275 ≤ Z.size) (h2 : Z[2]? = some (.int .i32 0)) (h4 : Z[4]? = some (.int .u32 0)) (h5 : Z[5]? = some (.int .u32 0)) (h6 : Z[6]? = some (.int .i32 0)) (m : Nat) (rv : Value) (emp : Int) :
    ListA (((Z.setIfInBounds 8 (.map (some m))).setIfInBounds 273 rv).setIfInBounds 274 (.int .u64 emp)) 0 m rv emp := by
  have o : ∀ k, k ≠ 8 → k ≠ 273 → k ≠ 274 → (((Z.setIfInBounds 8 (.map (some m))).setIfInBounds 273 rv).setIfInBounds 274 (.int .u64 emp))[k]? = Z[k]? := fun k a b c => by
    rw [Array.getElem?_setIfInBounds_ne (fun e => c e.symm), Array.getElem?_setIfInBounds_ne (fun e => b e.symm), Array.getElem?_setIfInBounds_ne (fun e => a e.symm)]
  refine ⟨(o 2 (by decide) (by decide) (by decide)).trans h2, (o 4 (by decide) (by decide) (by decide)).trans h4, (o 5 (by decide) (by decide) (by decide)).trans h5, (o 6 (by decide) (by decide) (by decide)).trans h6, ?_, ?_, ?_⟩
  · rw [Array.getElem?_setIfInBounds_ne (by decide), Array.getElem?_setIfInBounds_ne (by decide), Array.getElem?_setIfInBounds_self_of_lt (by omega)]
  · rw [Array.getElem?_setIfInBounds_ne (by decide), Array.getElem?_setIfInBounds_self_of_lt (by simp; omega)]
  · rw [Array.getElem?_setIfInBounds_self_of_lt (by simp; omega)]

end Go.Proofs.Ybulkdupw
