/- 'copy(dst, src)' of elements of several cells, dst a whole row that the call itself has made. A law for the walk, over whatever program. -/
import Derived.Laws.CopyOwn
import Derived.OwnWalk
namespace Go.Proofs.Ybulkdupi
open Go Go.RowKit

theorem run_copy_wide {P : Program} (w : World) (dT sT ty elem : TypeId) (sz g n dCap : Nat) (ad : Addr) (sCap : Nat) (cur : Array Value) (t : TypeId) (cs : List Value)
    (hu : P.underlying dT = some (.slice elem)) (hs : (P.info? elem).map (·.size) = some sz) (hg : w.heap[g]? = some (.cells cur t (0, 0))) (hn : cs.length = n * sz) (hcur : cur.size = n * sz)
    (hsrc : ∀ j v, cs[j]? = some v → w.cell? (ad.add j) = some v) (h1 : ∀ v ∈ cs, v.oneCell' = true) :
    (Builtin.copy_ #[dT, sT] ty #[.slice (some ⟨g, 0, none⟩) n dCap, .slice (some ad) n sCap]).run P w = .ok (goInt n) (w.setRow g cs.toArray) := by
  have hl := run_loadCells_list (P := P) w ad cs hsrc
  have hst := run_storeCells_at P g 0 t cs 0 cur w hg (by simp; omega) h1
  have hdrop : cur.toList.drop (0 + 0 + cs.length) = [] := List.drop_eq_nil_of_le (by simp; omega)
  rw [hdrop] at hst
  simp only [Nat.add_zero, List.take_zero, List.nil_append, List.append_nil] at hst
  cases hq : P.info? elem with
  | none => simp [hq] at hs
  | some i =>
    have hi : i.size = sz := by simpa [hq] using hs
    simp [Builtin.copy_, run_underlying hu, Builtin.lenOf, Builtin.firstCells, sizeOf, typeInfo, hq, hi, ← hn, hl, hst]

theorem wpList_copy_all {P : Program} {w : World} {ops : Array Oper} {rest : List Oper} {o : Oper} {a : Act} {Q : Exit → Act → World → Prop} (hgd : o.guard = none) (d s : Operand) (dT sT : TypeId)
    (ho : o.op = .call { callee := .builtin .copy, args := #[d, s], argTypes := #[dT, sT] }) (elem : TypeId) (hu : P.underlying dT = some (.slice elem)) (sz : Nat) (hsz : (P.info? elem).map (·.size) = some sz)
    (g n dCap : Nat) (ad : Addr) (sCap : Nat) (hd : a.eval d = .slice (some ⟨g, 0, none⟩) n dCap) (hs : a.eval s = .slice (some ad) n sCap)
    (cur : Array Value) (t : TypeId) (hg : w.heap[g]? = some (.cells cur t (0, 0))) (cs : List Value) (hn : cs.length = n * sz) (hcur : cur.size = n * sz)
    (hsrc : ∀ j v, cs[j]? = some v → w.cell? (ad.add j) = some v) (h1 : ∀ v ∈ cs, v.oneCell' = true)
    (h : ∀ w', w'.heap[g]? = some (.cells cs.toArray t (0, 0)) → w.grownBy w' (some g) → w'.heap.size = w.heap.size → wpList P ops Q rest (a.put o.dst (goInt n)) w') : wpList P ops Q (o :: rest) a w := by
  refine wpList_plain hgd fun K hK => ?_
  have hrun := run_copy_wide (P := P) w dT sT o.type elem sz g n dCap ad sCap cur t cs hu hsz hg hn hcur hsrc h1
  unfold Oper.wp
  simp [execOp, ho, resolve, invoke, builtin, hd, hs, hrun, Result.andThen]
  exact hK _ _ (h _ (setRow_heap w g cur _ t _ hg) ⟨rfl, rfl, rfl, by simp, fun k _ hk => setRow_other w g k _ (fun e => hk (by rw [e]))⟩ (by simp))

/-- The cells of a row of pairs. -/
def pairCells (R M : Nat → Int) (len : Nat) : List Value := (List.range (len * 2)).map fun j => if j % 2 = 0 then .int .i64 (R (j / 2)) else .int .i64 (M (j / 2))
theorem pairCells_len (R M : Nat → Int) (len : Nat) : (pairCells R M len).length = len * 2 := by simp [pairCells]
theorem pairCells_even {R M : Nat → Int} {len i : Nat} (h : i < len) : (pairCells R M len)[i * 2]? = some (.int .i64 (R i)) := by
  have h2 : i * 2 < len * 2 := by omega
  simp [pairCells, h2]
theorem pairCells_odd {R M : Nat → Int} {len i : Nat} (h : i < len) : (pairCells R M len)[i * 2 + 1]? = some (.int .i64 (M i)) := by
  have h2 : i * 2 + 1 < len * 2 := by omega
  have h3 : (i * 2 + 1) % 2 = 1 := by omega
  have h4 : (i * 2 + 1) / 2 = i := by omega
  simp [pairCells, h2, h3, h4]
theorem pairCells_one (R M : Nat → Int) (len : Nat) : ∀ v ∈ pairCells R M len, v.oneCell' = true := by
  intro v hv
  simp only [pairCells, List.mem_map] at hv
  obtain ⟨j, _, rfl⟩ := hv
  split <;> rfl
theorem pairCells_src {R M : Nat → Int} {len b off : Nat} {w : World}
    (hc0 : ∀ i, i < len → w.cell? ⟨b, off + i * 2, none⟩ = some (.int .i64 (R i))) (hc1 : ∀ i, i < len → w.cell? ⟨b, off + i * 2 + 1, none⟩ = some (.int .i64 (M i))) :
    ∀ j v, (pairCells R M len)[j]? = some v → w.cell? ((⟨b, off, none⟩ : Addr).add j) = some v := by
  intro j v hj
  have hadd : (⟨b, off, none⟩ : Addr).add j = ⟨b, off + j, none⟩ := by unfold Addr.add; split <;> simp_all
  have hlt : j < len * 2 := by
    have := (List.getElem?_eq_some_iff.1 hj).1
    rwa [pairCells_len] at this
  rw [hadd]
  by_cases hp : j % 2 = 0
  · have e : j = j / 2 * 2 := by omega
    have hi : j / 2 < len := by omega
    rw [e, pairCells_even hi] at hj
    rw [e, hc0 _ hi]; exact hj
  · have e : j = j / 2 * 2 + 1 := by omega
    have hi : j / 2 < len := by omega
    rw [e, pairCells_odd hi] at hj
    rw [e, ← Nat.add_assoc, hc1 _ hi]; exact hj
theorem pairCells_at {R M : Nat → Int} {len g : Nat} {w : World} {t : TypeId} (hg : w.heap[g]? = some (.cells (pairCells R M len).toArray t (0, 0))) :
    (∀ i, i < len → w.cell? ⟨g, i * 2, none⟩ = some (.int .i64 (R i))) ∧ (∀ i, i < len → w.cell? ⟨g, i * 2 + 1, none⟩ = some (.int .i64 (M i))) :=
  ⟨fun i hi => by simp only [World.cell?, hg]; simpa using pairCells_even (R := R) (M := M) hi, fun i hi => by simp only [World.cell?, hg]; simpa using pairCells_odd (R := R) (M := M) hi⟩

theorem own_block {w : World} {base e size g n cap : Nat} {xs : List Value} (h : w.ownsRow base e size (.slice (some ⟨g, 0, none⟩) n cap) n xs) :
    ∃ cur, w.heap[g]? = some (.cells cur e (0, 0)) ∧ cur.size = cap * size := by
  obtain ⟨_, h | ⟨g', cap', cur, hv, _, hh, _, _, hs, _⟩⟩ := h
  · cases h.1
  · cases hv
    exact ⟨cur, hh, hs⟩

/-- The index that the law draws: within the list. -/
theorem idx_in (pick : Int) (len : Nat) (h0 : 0 < len) (h1 : len ≤ 1048576) :
    0 ≤ wrap64 ((IntKind.u64.wrap (pick.tdiv 2)).tmod (len : Int)) ∧ wrap64 ((IntKind.u64.wrap (pick.tdiv 2)).tmod (len : Int)) < (len : Int) := by
  have hw : 0 ≤ IntKind.u64.wrap (pick.tdiv 2) := by
    simp [IntKind.wrap, IntKind.bits, IntKind.signed]
    omega
  generalize IntKind.u64.wrap (pick.tdiv 2) = x at hw
  rw [Int.tmod_eq_emod_of_nonneg hw]
  have a1 := Int.emod_nonneg x (show (len : Int) ≠ 0 by omega)
  have a2 := Int.emod_lt_of_pos x (show (0 : Int) < (len : Int) by omega)
  generalize x % (len : Int) = y at a1 a2
  unfold wrap64
  omega

end Go.Proofs.Ybulkdupi
