import Derived.Test.YbulkdupwCloWalk
import Derived.Test.YbulkdupwLocks
import Derived.BigQuiet
import Derived.WalkSmall
namespace Go.Proofs.Ybulkdupw
open Go.RowKit Go.RwLone

/-- The cells of a row of banKeys of peers alone. -/
def keyCell (f : Nat → ByteArray) (j : Nat) : Value := if j % 5 = 4 then .string (f (j / 5)) else if j % 5 = 3 then .int .u8 0 else if j % 5 = 2 then .pointer none else .int .u64 0
def keyCells (f : Nat → ByteArray) (n : Nat) : List Value := (List.range (n * 5)).map (keyCell f)
theorem keyCells_len (f : Nat → ByteArray) (n : Nat) : (keyCells f n).length = n * 5 := by simp [keyCells]
theorem keyCells_at {f : Nat → ByteArray} {n j : Nat} (h : j < n * 5) : (keyCells f n)[j]? = some (keyCell f j) := by simp [keyCells, h]
theorem keyCells_one (f : Nat → ByteArray) (n : Nat) : ∀ v ∈ keyCells f n, v.oneCell' = true := by
  intro v hv
  simp only [keyCells, List.mem_map] at hv
  obtain ⟨j, _, rfl⟩ := hv
  unfold keyCell
  repeat (split <;> try rfl)
theorem keyCells_succ (f : Nat → ByteArray) (n : Nat) : keyCells f (n + 1) = keyCells f n ++ [.int .u64 0, .int .u64 0, .pointer none, .int .u8 0, .string (f n)] := by
  have e : (n + 1) * 5 = n * 5 + 1 + 1 + 1 + 1 + 1 := by omega
  have h0 : keyCell f (n * 5) = .int .u64 0 := by simp [keyCell]
  have h1 : keyCell f (n * 5 + 1) = .int .u64 0 := by unfold keyCell; rw [show (n * 5 + 1) % 5 = 1 by omega]; rfl
  have h2 : keyCell f (n * 5 + 1 + 1) = .pointer none := by unfold keyCell; rw [show (n * 5 + 1 + 1) % 5 = 2 by omega]; rfl
  have h3 : keyCell f (n * 5 + 1 + 1 + 1) = .int .u8 0 := by unfold keyCell; rw [show (n * 5 + 1 + 1 + 1) % 5 = 3 by omega]; rfl
  have h4 : keyCell f (n * 5 + 1 + 1 + 1 + 1) = .string (f n) := by unfold keyCell; rw [show (n * 5 + 1 + 1 + 1 + 1) % 5 = 4 by omega, show (n * 5 + 1 + 1 + 1 + 1) / 5 = n by omega]; rfl
  unfold keyCells
  rw [e]
  simp only [List.range_succ, List.map_append, List.map_cons, List.map_nil, h0, h1, h2, h3, h4, List.append_assoc, List.cons_append, List.nil_append]

/-- The five cells of key i. -/
theorem keyCell_five (f : Nat → ByteArray) (i : Nat) : keyCell f (i * 5) = .int .u64 0 ∧ keyCell f (i * 5 + 1) = .int .u64 0 ∧ keyCell f (i * 5 + 2) = .pointer none ∧ keyCell f (i * 5 + 3) = .int .u8 0 ∧ keyCell f (i * 5 + 4) = .string (f i) := by
  refine ⟨by simp [keyCell], ?_, ?_, ?_, ?_⟩
  · unfold keyCell; rw [show (i * 5 + 1) % 5 = 1 by omega]; rfl
  · unfold keyCell; rw [show (i * 5 + 2) % 5 = 2 by omega]; rfl
  · unfold keyCell; rw [show (i * 5 + 3) % 5 = 3 by omega]; rfl
  · unfold keyCell; rw [show (i * 5 + 4) % 5 = 4 by omega, show (i * 5 + 4) / 5 = i by omega]; rfl

/-- What the walks read of a BanList's cells. -/
structure ListA (A : Array Value) (rc : Int) (m : Nat) (rv : Value) (emp : Int) : Prop where
  a2 : A[2]? = some (.int .i32 0)
  a4 : A[4]? = some (.int .u32 0)
  a5 : A[5]? = some (.int .u32 0)
  a6 : A[6]? = some (.int .i32 rc)
  a8 : A[8]? = some (.map (some m))
  a273 : A[273]? = some rv
  a274 : A[274]? = some (.int .u64 emp)

theorem ListA.set6 {A : Array Value} {rc : Int} {m : Nat} {rv : Value} {emp : Int} (h : ListA A rc m rv emp) (rc' : Int) : ListA (A.setIfInBounds 6 (.int .i32 rc')) rc' m rv emp := by
  have hs : 6 < A.size := (Array.getElem?_eq_some_iff.1 h.a6).1
  have o : ∀ k, k ≠ 6 → (A.setIfInBounds 6 (.int .i32 rc'))[k]? = A[k]? := fun k hk => Array.getElem?_setIfInBounds_ne (fun e => hk e.symm)
  exact ⟨(o 2 (by decide)).trans h.a2, (o 4 (by decide)).trans h.a4, (o 5 (by decide)).trans h.a5, by simp [hs], (o 8 (by decide)).trans h.a8, (o 273 (by decide)).trans h.a273, (o 274 (by decide)).trans h.a274⟩

theorem set_back {A : Array Value} {v u : Value} (h : A[6]? = some v) : (A.setIfInBounds 6 u).setIfInBounds 6 v = A := by
  have hs : 6 < A.size := (Array.getElem?_eq_some_iff.1 h).1
  apply Array.ext_getElem?
  intro i
  by_cases e : 6 = i
  · subst e; rw [h]; simp [hs]
  · rw [Array.getElem?_setIfInBounds_ne e, Array.getElem?_setIfInBounds_ne e]

/-- A call of the law's closure as one step of a region that draws its order. -/
theorem step_call_clo {ops : Array Oper} {o : Oper} {a : Act} {w : World} {K : Act → World → Prop} {Q : Exit → Act → World → Prop} {E : Prop} (hgd : o.guard = none) (x y0 y1 y2 : Operand) (t0 t1 t2 : TypeId)
    (ho : o.op = .call { callee := .value x, args := #[y0, y1, y2], argTypes := #[t0, t1, t2] }) (k0 k1 k2 k3 k4 k5 k6 k7 : Value) (hx : a.eval x = .func (.func 5) #[] #[k0, k1, k2, k3, k4, k5, k6, k7]) (v0 v1 v2 : Value) (hy0 : a.eval y0 = v0) (hy1 : a.eval y1 = v1) (hy2 : a.eval y2 = v2)
    (R : World → Prop) (hc : Calls Yba.prog 5 #[v0, v1, v2, k0, k1, k2, k3, k4, k5, k6, k7] w fun e w' => e = .returned (.tuple #[]) ∧ R w')
    (h : ∀ w', R w' → K (a.put o.dst (.tuple #[])) w') :
    if Region.wanted o (yielded ops a.tmps) = true then Oper.wp Yba.prog o a w K Q else E := by
  have hw : Region.wanted o (yielded ops a.tmps) = true := by simp [Region.wanted, hgd]
  rw [if_pos hw]
  unfold Oper.wp
  simp [execOp, ho, resolve, invoke, hx, hy0, hy1, hy2, Result.andThen, Oper.upon]
  exact hc.mono fun e w' ⟨he, hb⟩ => by subst he; exact h w' hb

end Go.Proofs.Ybulkdupw
