import Derived.Test.YbulkdupwState
import Derived.Laws.AppendOwnNone
import Derived.Deep.RegionLaw
import Derived.Deep.CutBlock
import Derived.Deep.DeepCutAuto
namespace Go.Proofs.Ybulkdupw
open Go.RowKit

theorem Yba.info36 : (Yba.prog.info? 36).map (fun i => (i.zero, i.size, i.bytes)) = some (some (kv ⟨#[]⟩), 5, 48) := by kernel_rfl
theorem Yba.info4 : (Yba.prog.info? 4).map (fun i => (i.zero, i.size, i.bytes)) = some (some (.bool false), 1, 1) := by kernel_rfl

/-- Texts whose row lies below block N. -/
def TextsB (N : Nat) (w : World) (ao : Option Addr) (len : Nat) (f : Nat → ByteArray) : Prop :=
  0 < len → ∃ b off, ao = some ⟨b, off, none⟩ ∧ b < N ∧ ∀ i, i < len → w.cell? ⟨b, off + i, none⟩ = some (.string (f i))

/-- What was handed in as 'left'. -/
def Left (X : Nat) (w : World) (ls : Option Addr) (ln lc : Nat) (G : List Value) : Prop :=
  (ls = none ∧ ln = 0 ∧ lc = 0 ∧ G = []) ∨
  ∃ g o, ls = some ⟨g, o, none⟩ ∧ 0 < ln ∧ ln ≤ 4096 ∧ G.length = ln * 5 ∧ (∀ j u, G[j]? = some u → w.cell? ((⟨g, o, none⟩ : Addr).add j) = some u) ∧ (∀ u ∈ G, u.oneCell' = true) ∧ g < X

/-- The first four statements of the closure. -/
def Phase1 (X : Nat) (w wr : World) (ls : Option Addr) (ln : Nat) (G : List Value) (every : Bool) (gl : Value) : Prop :=
  Vars X wr 1 gl ls.isNone every (.slice none 0 0) (.slice none 0 0) ∧ Out X w wr ∧ wr.ownsRow w.heap.size 36 5 gl ln G

theorem phase1_end {X : Nat} {w w1 : World} {ls : Option Addr} {ln : Nat} {G : List Value} {every : Bool} {gl : Value} (hv : Vars X w 0 (.slice none 0 0) false false (.slice none 0 0) (.slice none 0 0))
    (hg : ((w.setCell ⟨X, 0, none⟩ (.int .i64 1)).setCell ⟨X + 2, 0, none⟩ (.bool ls.isNone)).grownBy w1 none) (hown : w1.ownsRow w.heap.size 36 5 gl ln G) :
    Phase1 X w ((w1.setCell ⟨X + 1, 0, none⟩ gl).setCell ⟨X + 3, 0, none⟩ (.bool every)) ls ln G every gl := by
  have hl := hv.lt
  have h1 := (((hv.set0 1).set2 ls.isNone).grown hg (by simp))
  refine ⟨(h1.set1 gl).set3 every, ?_, ownsRow_setCell (ownsRow_setCell hown (by simp; omega) _) (by simp; omega) _⟩
  exact (((((Out.refl X w).step (setCell_grown _ _ _) (by simp)).step (setCell_grown _ _ _) (by simp)).step hg (by simp)).step (setCell_grown _ _ _) (by simp)).step (setCell_grown _ _ _) (by simp)


/-- A call of the function value 'held' as one step of a region that draws its order. -/
theorem step_call_held {ops : Array Oper} {o : Oper} {a : Act} {w : World} {K : Act → World → Prop} {Q : Exit → Act → World → Prop} {E : Prop} (hgd : o.guard = none) (x y : Operand) (t : TypeId)
    (ho : o.op = .call { callee := .value x, args := #[y], argTypes := #[t] }) (T : Nat) (hx : a.eval x = .func (.func 9) #[] #[.pointer (some ⟨T, 0, none⟩)]) (s : ByteArray) (hy : a.eval y = kv s) (q : Bool)
    (hc : Calls Yba.prog 9 #[kv s, .pointer (some ⟨T, 0, none⟩)] w fun e w' => e = .returned (.bool q) ∧ Below w.heap.size w w')
    (h : ∀ w', Below w.heap.size w w' → K (a.put o.dst (.bool q)) w') :
    if Region.wanted o (yielded ops a.tmps) = true then Oper.wp Yba.prog o a w K Q else E := by
  have hw : Region.wanted o (yielded ops a.tmps) = true := by simp [Region.wanted, hgd]
  rw [if_pos hw]
  unfold Oper.wp
  simp [execOp, ho, resolve, invoke, hx, hy, Result.andThen, Oper.upon]
  exact hc.mono fun e w' ⟨he, hb⟩ => by subst he; exact h w' hb

theorem own_ne {w : World} {b1 b2 e1 e2 s1 s2 n1 n2 : Nat} {v1 v2 : Value} {x1 x2 : List Value} (h1 : w.ownsRow b1 e1 s1 v1 n1 x1) (h2 : w.ownsRow b2 e2 s2 v2 n2 x2) (he : e1 ≠ e2) : v1.ownBlock = none ∨ v1.ownBlock ≠ v2.ownBlock := by
  obtain ⟨_, ⟨rfl, _⟩ | ⟨g, cap, cur, rfl, _, hh, _⟩⟩ := h1
  · exact Or.inl rfl
  · right
    obtain ⟨_, ⟨rfl, _⟩ | ⟨g', cap', cur', rfl, _, hh', _⟩⟩ := h2
    · simp [Value.ownBlock]
    · simp only [Value.ownBlock, ne_eq, Option.some.injEq]
      rintro rfl
      rw [hh] at hh'
      cases hh'
      exact he rfl

theorem below_of_drew {w w' : World} (h : Below w.drew.heap.size w.drew w') : Below w.heap.size w w' := ⟨h.os, h.tape, h.output, h.size, h.block⟩

/-- Behind the call of 'held', the one-cell slice and the append, ahead of the store. -/
theorem push_mid {X : Nat} {w wr w1 w2 : World} {k : Int} {gl hq hr hx : Value} {nl ev : Bool} {ln j base : Nat} {G xs : List Value} {o : Obj} (hv : Vars X wr k gl nl ev hq hr) (ho : Out X w wr) (hgl : wr.ownsRow w.heap.size 36 5 gl ln G)
    (hown : wr.ownsRow base 4 1 hx j xs) (hbase : w.heap.size ≤ base) (hX : X + 5 < w.heap.size) (hb1 : Below wr.heap.size wr w1) (hgr2 : (w1.alloc o).grownBy w2 hx.ownBlock) :
    Vars X w2 k gl nl ev hq hr ∧ Out X w w2 ∧ w2.ownsRow w.heap.size 36 5 gl ln G := by
  have g1 : wr.grownBy (w1.alloc o) none := (grown_of_below hb1).andThen (World.grownBy_alloc _ _ none) (by simp)
  have hx' : ∀ g, hx.ownBlock = some g → base ≤ g := fun g hg => (own_ge hown g hg).1
  have hmid := hown.kept g1 (by cases hx.ownBlock <;> simp)
  have hglm := hgl.kept g1 (by cases gl.ownBlock <;> simp)
  refine ⟨(hv.grown g1 (by simp)).grown hgr2 (fun g hg => Or.inl (by have := hx' g hg; omega)), (ho.step g1 (by simp)).step hgr2 (fun g hg => Or.inr (by have := hx' g hg; omega)), hglm.kept hgr2 (own_ne hglm hmid (by decide))⟩

/-- The other row of answers, which lies below the base of the one that is pushed. -/
theorem push_q {w wr w1 w2 : World} {hq hx : Value} {j lq base : Nat} {xs ys : List Value} {o : Obj} (hqr : wr.ownsRow w.heap.size 4 1 hq lq ys) (hown : wr.ownsRow base 4 1 hx j xs) (hql : ∀ g, hq.ownBlock = some g → g < base)
    (hb1 : Below wr.heap.size wr w1) (hgr2 : (w1.alloc o).grownBy w2 hx.ownBlock) : w2.ownsRow w.heap.size 4 1 hq lq ys := by
  have g1 : wr.grownBy (w1.alloc o) none := (grown_of_below hb1).andThen (World.grownBy_alloc _ _ none) (by simp)
  refine (hqr.kept g1 (by cases hq.ownBlock <;> simp)).kept hgr2 ?_
  cases h : hq.ownBlock with
  | none => exact Or.inl rfl
  | some g =>
    right
    intro e
    have h1 := hql g h
    have h2 := (own_ge hown g e.symm).1
    omega

theorem own_lower {w : World} {b1 b2 e s n : Nat} {v : Value} {xs : List Value} (h : w.ownsRow b1 e s v n xs) (hb : b2 ≤ b1) : w.ownsRow b2 e s v n xs := by
  obtain ⟨h1, h2 | ⟨g, cap, cur, r1, r2, r3⟩⟩ := h
  · exact ⟨h1, Or.inl h2⟩
  · exact ⟨h1, Or.inr ⟨g, cap, cur, r1, by omega, r3⟩⟩

theorem own_mid {wr w1 : World} {hx : Value} {j base : Nat} {xs : List Value} (o : Obj) (hown : wr.ownsRow base 4 1 hx j xs) (hb1 : Below wr.heap.size wr w1) : (w1.alloc o).ownsRow base 4 1 hx j xs :=
  hown.kept ((grown_of_below hb1).andThen (World.grownBy_alloc _ _ none) (by simp)) (by cases hx.ownBlock <;> simp)

theorem phase1_c3 {X : Nat} {w w1 : World} {q : Bool} {gl : Value} (hv : Vars X w 0 (.slice none 0 0) false false (.slice none 0 0) (.slice none 0 0))
    (hg : ((w.setCell ⟨X, 0, none⟩ (.int .i64 1)).setCell ⟨X + 2, 0, none⟩ (.bool q)).grownBy w1 none) :
    (w1.setCell ⟨X + 1, 0, none⟩ gl).cell? ⟨X + 3, 0, none⟩ = some (.bool false) ∧ (w1.setCell ⟨X + 1, 0, none⟩ gl).frozen? ⟨X + 3, 0, none⟩ = false := by
  have h1 := ((((hv.set0 1).set2 q).grown hg (by simp)).set1 gl).v3
  exact ⟨cell_of h1 rfl, frozen_of h1⟩
theorem phase1_c1 {X : Nat} {w w1 : World} {q : Bool} (hv : Vars X w 0 (.slice none 0 0) false false (.slice none 0 0) (.slice none 0 0))
    (hg : ((w.setCell ⟨X, 0, none⟩ (.int .i64 1)).setCell ⟨X + 2, 0, none⟩ (.bool q)).grownBy w1 none) :
    w1.cell? ⟨X + 1, 0, none⟩ = some (.slice none 0 0) ∧ w1.frozen? ⟨X + 1, 0, none⟩ = false := by
  have h1 := (((hv.set0 1).set2 q).grown hg (by simp)).v1
  exact ⟨cell_of h1 rfl, frozen_of h1⟩
theorem left_cells {X g o : Nat} {w : World} {G : List Value} {k : Int} {q : Bool} (h : ∀ j u, G[j]? = some u → w.cell? ((⟨g, o, none⟩ : Addr).add j) = some u) (hg : g < X) :
    ∀ j u, G[j]? = some u → ((w.setCell ⟨X, 0, none⟩ (.int .i64 k)).setCell ⟨X + 2, 0, none⟩ (.bool q)).cell? ((⟨g, o, none⟩ : Addr).add j) = some u := by
  intro j u hu
  have hb : ((⟨g, o, none⟩ : Addr).add j).block = g := by unfold Addr.add; split <;> rfl
  rw [World.cell?_of_block (w := w.setCell ⟨X, 0, none⟩ (.int .i64 k)) (by rw [hb]; exact Below.heap_setCell _ _ _ _ (by simp; omega)), World.cell?_of_block (w := w) (by rw [hb]; exact Below.heap_setCell _ _ _ _ (by simp; omega))]
  exact h j u hu

end Go.Proofs.Ybulkdupw
