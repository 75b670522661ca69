import Derived.Test.YbulkdupwLeft
namespace Go.Proofs.Ybulkdupw
open Go.RowKit Go.RwLone

/-- Behind the read lock: blocks as they were but for the count of readers, and two new ones. -/
theorem rlocked {w w1 : World} {L : Nat} {A : Array Value} {me mr : Int} (hLb : w.heap[L]? = some (.cells A 66 (0, 0)))
    (hw1 : w1 = ((w.alloc (.cells #[.pointer (some ⟨L, 0, none⟩)] 43)).alloc (.cells #[.int .u64 me, .int .i64 mr] 70)).setCell ⟨L, 6, none⟩ (.int .i32 1)) :
    w.grownBy w1 (some L) ∧ w1.heap[L]? = some (.cells (A.setIfInBounds 6 (.int .i32 1)) 66 (0, 0)) ∧ w1.heap[w.heap.size]? = some (.cells #[.pointer (some ⟨L, 0, none⟩)] 43 (0, 0)) ∧ w1.heap[w.heap.size + 1]? = some (.cells #[.int .u64 me, .int .i64 mr] 70 (0, 0)) := by
  subst hw1
  have hl := lt_of_some hLb
  refine ⟨(((World.grownBy_alloc w _ none).andThen (World.grownBy_alloc _ _ none) (by simp)).but _).andThen (setCell_grown _ _ _) (fun k hk => Or.inr hk), ?_, ?_, ?_⟩
  · exact block_setCell _ ((Below.heap_alloc _ _ _ (by simp; omega)).trans ((Below.heap_alloc _ _ _ hl).trans hLb))
  · exact (Below.heap_setCell _ _ _ _ (by simp; omega)).trans ((Below.heap_alloc _ _ _ (by simp)).trans (MapKept.heap_alloc w _).1)
  · refine (Below.heap_setCell _ _ _ _ (by simp; omega)).trans ?_
    have := (MapKept.heap_alloc (w.alloc (.cells #[.pointer (some ⟨L, 0, none⟩)] 43)) (.cells #[.int .u64 me, .int .i64 mr] 70)).1
    simpa using this

theorem rlock_ready {w : World} {L : Nat} {A : Array Value} {m : Nat} {rv : Value} {emp : Int} (hLb : w.heap[L]? = some (.cells A 66 (0, 0))) (hA : ListA A 0 m rv emp) (o1 o2 : Obj) :
    Calls Yba.prog 7 #[.pointer (some ⟨L, 2, none⟩)] ((w.alloc o1).alloc o2) fun e w' => e = .returned (.tuple #[]) ∧ w' = ((w.alloc o1).alloc o2).setCell ⟨L, 6, none⟩ (.int .i32 1) := by
  have hb2 : ((w.alloc o1).alloc o2).heap[L]? = some (.cells A 66 (0, 0)) := (Below.heap_alloc _ _ _ (by have := lt_of_some hLb; simp; omega)).trans ((Below.heap_alloc _ _ _ (lt_of_some hLb)).trans hLb)
  have e1 : wrap32 (0 + 1) = 1 := by unfold wrap32; omega
  have h := rlock_open Yba.rwRLib L 2 0 _ _ _ (cell_of hb2 hA.a2) (cell_of hb2 hA.a5) (cell_of hb2 hA.a6) (frozen_of hb2) (by rw [e1]; omega)
  rw [e1] at h
  exact h

theorem runlock_ready {w : World} {L : Nat} {A : Array Value} {m : Nat} {rv : Value} {emp : Int} (hLb : w.heap[L]? = some (.cells A 66 (0, 0))) (hA : ListA A 1 m rv emp) (u : FrameMode) :
    CallsD Yba.prog 8 #[.pointer (some ⟨L, 2, none⟩)] u w fun e u' w' => u' = u ∧ (e = .returned (.tuple #[]) ∧ w' = w.setCell ⟨L, 6, none⟩ (.int .i32 0)) := by
  have e1 : wrap32 (1 + -1) = 0 := by unfold wrap32; omega
  have h := runlock_deferred Yba.rwRLib L 2 1 _ _ u w (cell_of hLb hA.a2) (cell_of hLb hA.a4) (cell_of hLb hA.a6) (frozen_of hLb) (by rw [e1]; omega)
  rw [e1] at h
  exact h

/-- Behind the read unlock: all is as it was but the six variables. -/
theorem runlocked {X L : Nat} {w w1 w2 : World} {A : Array Value} (hLb : w.heap[L]? = some (.cells A 66 (0, 0))) (h6 : A[6]? = some (.int .i32 0)) (hLX : L < X) (hg1 : w.grownBy w1 (some L))
    (hL1 : w1.heap[L]? = some (.cells (A.setIfInBounds 6 (.int .i32 1)) 66 (0, 0))) (ho : Out X w1 w2) : Out X w (w2.setCell ⟨L, 6, none⟩ (.int .i32 0)) := by
  have hL2 : w2.heap[L]? = some (.cells (A.setIfInBounds 6 (.int .i32 1)) 66 (0, 0)) := (ho.block L (lt_of_some hL1) (Or.inl hLX)).trans hL1
  refine ⟨ho.os.trans hg1.os, ho.tape.trans hg1.tape, ho.output.trans hg1.output, by have := ho.size; have := hg1.size; simp [World.setCell]; omega, fun k hk hx => ?_⟩
  by_cases e : k = L
  · subst e
    rw [block_setCell _ hL2, set_back h6, hLb]
  · exact (Below.heap_setCell _ _ _ _ e).trans ((ho.block k (by have := hg1.size; omega) hx).trans (hg1.block k hk (by simpa using e)))

/-- What keysLeft leaves where it has called the closure. -/
def Called (X : Nat) (w w' : World) (ln : Nat) (G : List Value) (nl ev : Bool) (lq lr lb : Nat) (fb fq fr : Nat → ByteArray) : Prop :=
  ∃ gl hq hr, Vars X w' 1 gl nl ev hq hr ∧ Out X w w' ∧ w'.ownsRow w.heap.size 36 5 gl ln G ∧ w'.ownsRow w.heap.size 4 1 hq lq (answers fb lb fq lq) ∧ w'.ownsRow w.heap.size 4 1 hr lr (answers fb lb fr lr)

theorem called_end {X L : Nat} {w w1 w2 : World} {A : Array Value} {ln lq lr lb : Nat} {G : List Value} {nl ev : Bool} {fb fq fr : Nat → ByteArray} (hLb : w.heap[L]? = some (.cells A 66 (0, 0))) (h6 : A[6]? = some (.int .i32 0)) (hLX : L < X) (hX : X < w.heap.size) (hg1 : w.grownBy w1 (some L))
    (hL1 : w1.heap[L]? = some (.cells (A.setIfInBounds 6 (.int .i32 1)) 66 (0, 0))) (hc : Called X w1 w2 ln G nl ev lq lr lb fb fq fr) :
    Called X w (w2.setCell ⟨L, 6, none⟩ (.int .i32 0)) ln G nl ev lq lr lb fb fq fr := by
  obtain ⟨gl, hq, hr, hv, ho, o1, o2, o3⟩ := hc
  have hs := hg1.size
  exact ⟨gl, hq, hr, hv.grown (setCell_grown _ _ _) (fun k hk => by cases hk; exact Or.inr hLX), runlocked hLb h6 hLX hg1 hL1 ho, ownsRow_setCell (own_lower o1 hs) (by simp; omega) _, ownsRow_setCell (own_lower o2 hs) (by simp; omega) _, ownsRow_setCell (own_lower o3 hs) (by simp; omega) _⟩

/-- What is asked of the world by the three ways of keysLeft. -/
structure Pre (X Q0 R0 L m n lb lq lr cq cr : Nat) (aq ar : Option Addr) (fb fq fr : Nat → ByteArray) (A : Array Value) (rv : Value) (emp : Int) (w : World) : Prop where
  hv : Vars X w 0 (.slice none 0 0) false false (.slice none 0 0) (.slice none 0 0)
  hQ : w.heap[Q0]? = some (.cells #[.slice aq lq cq] 23 (0, 0))
  hQX : Q0 < L
  hR : w.heap[R0]? = some (.cells #[.slice ar lr cr] 23 (0, 0))
  hRX : R0 < L
  tq : TextsB L w aq lq fq
  tr : TextsB L w ar lr fr
  hlq : lq ≤ 4096
  hlr : lr ≤ 4096
  hLb : w.heap[L]? = some (.cells A 66 (0, 0))
  hA : ListA A 0 m rv emp
  hLX : L < X
  hM : Raw.Is w m n (Mp fb lb)
  hmX : m < L

/-- The closure's contract in the world behind the read lock. -/
theorem clo_in {X Q0 R0 L m n lb lq lr cq cr ln lc : Nat} {aq ar ls : Option Addr} {fb fq fr : Nat → ByteArray} {A : Array Value} {rv : Value} {emp : Int} {w w1 : World} {every : Bool} {G : List Value} (p : Pre X Q0 R0 L m n lb lq lr cq cr aq ar fb fq fr A rv emp w)
    (hg1 : w.grownBy w1 (some L)) (hL1 : w1.heap[L]? = some (.cells (A.setIfInBounds 6 (.int .i32 1)) 66 (0, 0))) (hT1 : w1.heap[w.heap.size]? = some (.cells #[.pointer (some ⟨L, 0, none⟩)] 43 (0, 0))) (hleft : Left X w1 ls ln lc G) :
    Calls Yba.prog 5 #[.slice ls ln lc, .bool every, .func (.func 9) #[] #[.pointer (some ⟨w.heap.size, 0, none⟩)], .pointer (some ⟨X, 0, none⟩), .pointer (some ⟨X + 2, 0, none⟩), .pointer (some ⟨X + 1, 0, none⟩), .pointer (some ⟨X + 3, 0, none⟩),
      .pointer (some ⟨Q0, 0, none⟩), .pointer (some ⟨X + 4, 0, none⟩), .pointer (some ⟨R0, 0, none⟩), .pointer (some ⟨X + 5, 0, none⟩)] w1 fun e w' => e = .returned (.tuple #[]) ∧ Called X w1 w' ln G ls.isNone every lq lr lb fb fq fr := by
  have hXl := p.hv.lt
  have up : ∀ k, k < w.heap.size → k ≠ L → w1.heap[k]? = w.heap[k]? := fun k hk he => hg1.block k hk (by simpa using he)
  have hLX := p.hLX
  have texts : ∀ {ao : Option Addr} {len : Nat} {f : Nat → ByteArray}, TextsB L w ao len f → TextsB X w1 ao len f := fun {ao len f} h h0 => by
    obtain ⟨b, off, e, hb, hc⟩ := h h0
    refine ⟨b, off, e, by omega, fun i hi => ?_⟩
    rw [World.cell?_of_block (w := w) (up b (by omega) (by omega))]
    exact hc i hi
  have h1 := p.hQX
  have h2 := p.hRX
  have h3 := p.hmX
  exact clo_any (p.hv.carry fun j h1 h2 => up j (by omega) (by omega)) ((up Q0 (lt_of_some p.hQ) (by omega)).trans p.hQ) (by omega) ((up R0 (lt_of_some p.hR) (by omega)).trans p.hR) (by omega) (texts p.tq) (texts p.tr) p.hlq p.hlr
    (cell_of hT1 rfl) (by omega) (cell_of hL1 (p.hA.set6 1).a8) p.hLX (p.hM.of_block (up m p.hM.lt (by omega))) (by omega) hleft

end Go.Proofs.Ybulkdupw
