import Derived.Test.YbulkdupwZero
import Derived.Deep.CutBlock
namespace Go.Proofs.Ybulkdupw
open Go.RowKit

/-- Behind the two boxes. -/
structure Boxed (B lr cr lq cq lb : Nat) (ar aq ab : Option Addr) (fr fq fb : Nat → ByteArray) (w : World) : Prop where
  size : w.heap.size = B + 2
  b0 : w.heap[B]? = some (.cells #[.slice ar lr cr] 23 (0, 0))
  b1 : w.heap[B + 1]? = some (.cells #[.slice aq lq cq] 23 (0, 0))
  tr : TextsB B w ar lr fr
  tq : TextsB B w aq lq fq
  tb : TextsB B w ab lb fb

theorem texts_up {B : Nat} {w w' : World} {ao : Option Addr} {len : Nat} {f : Nat → ByteArray} (h : TextsB B w ao len f) (hb : ∀ k, k < B → w'.heap[k]? = w.heap[k]?) : TextsB B w' ao len f := fun h0 => by
  obtain ⟨b, off, e, h1, h2⟩ := h h0
  exact ⟨b, off, e, h1, fun i hi => (World.cell?_of_block (w := w) (hb b h1)).trans (h2 i hi)⟩

theorem boxed {lr cr lq cq lb : Nat} {ar aq ab : Option Addr} {fr fq fb : Nat → ByteArray} {w w2 : World} (tr : TextsB w.heap.size w ar lr fr) (tq : TextsB w.heap.size w aq lq fq) (tb : TextsB w.heap.size w ab lb fb)
    (hw : w2 = (w.alloc (.cells #[.slice ar lr cr] 23)).alloc (.cells #[.slice aq lq cq] 23)) : Boxed w.heap.size lr cr lq cq lb ar aq ab fr fq fb w2 ∧ Below w.heap.size w w2 := by
  subst hw
  have hbl : Below w.heap.size w ((w.alloc (.cells #[.slice ar lr cr] 23)).alloc (.cells #[.slice aq lq cq] 23)) := ((Below.refl _ _).alloc (by simp) _).alloc (by simp) _
  refine ⟨⟨by simp, ?_, ?_, texts_up tr hbl.block, texts_up tq hbl.block, texts_up tb hbl.block⟩, hbl⟩
  · exact (Below.heap_alloc _ _ _ (by simp)).trans (MapKept.heap_alloc w _).1
  · have := (MapKept.heap_alloc (w.alloc (.cells #[.slice ar lr cr] 23)) (.cells #[.slice aq lq cq] 23)).1
    simpa using this

theorem new_cells (w : World) (xs : List Value) (t : TypeId) : ∀ j u, xs[j]? = some u → (w.alloc (.cells xs.toArray t)).cell? ((⟨w.heap.size, 0, none⟩ : Addr).add j) = some u := by
  intro j u hj
  have e : (⟨w.heap.size, 0, none⟩ : Addr).add j = ⟨w.heap.size, j, none⟩ := by unfold Addr.add; split <;> simp_all
  rw [e]
  exact cell_of (MapKept.heap_alloc w _).1 (by simpa using hj)

/-- Behind the BanList's building. -/
structure Listed (B L m n lr rc lb : Nat) (rs : Option Addr) (fr fb : Nat → ByteArray) (emp : Int) (A : Array Value) (w2 w3 : World) : Prop where
  hLb : w3.heap[L]? = some (.cells A 66 (0, 0))
  hA : ListA A 0 m (.slice rs lr rc) emp
  size : w3.heap.size = L + 1
  hM : Raw.Is w3 m n (Mp fb lb)
  own : w3.ownsRow (B + 2) 36 5 (.slice rs lr rc) lr (keyCells fr lr)
  ownL : ∀ k, (Value.slice rs lr rc).ownBlock = some k → k < L
  bel : Below (B + 2) w2 w3
  mL : m < L
  BL : B + 2 ≤ L

theorem listed {B m n lr rc lb : Nat} {rs : Option Addr} {fr fb : Nat → ByteArray} {emp : Int} {Z : Array Value} {w2 wr w3 : World} (HZ : 275 ≤ Z.size ∧ Z[2]? = some (.int .i32 0) ∧ Z[4]? = some (.int .u32 0) ∧ Z[5]? = some (.int .u32 0) ∧ Z[6]? = some (.int .i32 0))
    (his : Raw.Is wr m n (Mp fb lb)) (hown : wr.ownsRow (B + 2) 36 5 (.slice rs lr rc) lr (keyCells fr lr)) (hbl : Below (B + 2) w2 wr) (hbs : B + 2 ≤ wr.heap.size)
    (hw3 : w3 = wr.alloc (.cells (((Z.setIfInBounds 8 (.map (some m))).setIfInBounds 273 (.slice rs lr rc)).setIfInBounds 274 (.int .u64 emp)) 66)) : ∃ A, Listed B wr.heap.size m n lr rc lb rs fr fb emp A w2 w3 := by
  subst hw3
  exact ⟨_, (MapKept.heap_alloc wr _).1, listA_built HZ.1 HZ.2.1 HZ.2.2.1 HZ.2.2.2.1 HZ.2.2.2.2 m _ emp, by simp, his.of_block (Below.heap_alloc _ _ _ his.lt), hown.alloc _, fun k hk => (hown.lt k hk).2, hbl.alloc hbs _, his.lt, hbs⟩

theorem alloc_at {w : World} {o : Obj} {k : Nat} (hk : k = w.heap.size) : (w.alloc o).heap[k]? = some o := by subst hk; exact (MapKept.heap_alloc w o).1
theorem alloc_up {w : World} {o o' : Obj} {k : Nat} (h : w.heap[k]? = some o') : (w.alloc o).heap[k]? = some o' := (Below.heap_alloc _ _ _ (lt_of_some h)).trans h

/-- Behind the six variables' making: what keysLeft asks. -/
theorem pre_made {B L m n lr rc lb lq cr cq : Nat} {rs ar aq ab : Option Addr} {fr fb fq : Nat → ByteArray} {emp : Int} {A : Array Value} {w2 w3 w4 : World} (HB : Boxed B lr cr lq cq lb ar aq ab fr fq fb w2) (HL : Listed B L m n lr rc lb rs fr fb emp A w2 w3) (hlq : lq ≤ 4096) (hlr : lr ≤ 4096)
    (hw4 : w4 = (((((w3.alloc (Obj.cells #[Value.int IntKind.i64 0] 3)).alloc (Obj.cells #[Value.slice none 0 0] 25)).alloc (Obj.cells #[Value.bool false] 4)).alloc (Obj.cells #[Value.bool false] 4)).alloc (Obj.cells #[Value.slice none 0 0] 67)).alloc (Obj.cells #[Value.slice none 0 0] 67)) :
    Pre (L + 1) (B + 1) B L m n lb lq lr cq cr aq ar fb fq fr A (.slice rs lr rc) emp w4 ∧ Below w3.heap.size w3 w4 := by
  subst hw4
  have hb : Below w3.heap.size w3 ((((((w3.alloc (Obj.cells #[Value.int IntKind.i64 0] 3)).alloc (Obj.cells #[Value.slice none 0 0] 25)).alloc (Obj.cells #[Value.bool false] 4)).alloc (Obj.cells #[Value.bool false] 4)).alloc (Obj.cells #[Value.slice none 0 0] 67)).alloc (Obj.cells #[Value.slice none 0 0] 67)) :=
    ((((((Below.refl _ _).alloc (by simp) _).alloc (by simp <;> omega) _).alloc (by simp <;> omega) _).alloc (by simp <;> omega) _).alloc (by simp <;> omega) _).alloc (by simp <;> omega) _
  have hs := HL.size
  have hBL := HL.BL
  have hmL := HL.mL
  have low : ∀ k, k < B + 2 → w3.heap[k]? = w2.heap[k]? := fun k hk => HL.bel.block k hk
  refine ⟨⟨⟨?_, ?_, ?_, ?_, ?_, ?_⟩, ?_, by omega, ?_, by omega, ?_, ?_, hlq, hlr, ?_, HL.hA, by omega, ?_, hmL⟩, hb⟩
  · exact alloc_up (alloc_up (alloc_up (alloc_up (alloc_up (alloc_at (by omega))))))
  · exact alloc_up (alloc_up (alloc_up (alloc_up (alloc_at (by simp <;> omega)))))
  · exact alloc_up (alloc_up (alloc_up (alloc_at (by simp <;> omega))))
  · exact alloc_up (alloc_up (alloc_at (by simp <;> omega)))
  · exact alloc_up (alloc_at (by simp <;> omega))
  · exact alloc_at (by simp <;> omega)
  · exact (hb.block _ (by omega)).trans ((low _ (by omega)).trans HB.b1)
  · exact (hb.block _ (by omega)).trans ((low _ (by omega)).trans HB.b0)
  · intro h0
    obtain ⟨b, off, e, h1, h2⟩ := HB.tq h0
    exact ⟨b, off, e, by omega, fun i hi => (World.cell?_of_block (w := w2) ((hb.block b (by omega)).trans (low b (by omega)))).trans (h2 i hi)⟩
  · intro h0
    obtain ⟨b, off, e, h1, h2⟩ := HB.tr h0
    exact ⟨b, off, e, by omega, fun i hi => (World.cell?_of_block (w := w2) ((hb.block b (by omega)).trans (low b (by omega)))).trans (h2 i hi)⟩
  · exact (hb.block _ (by omega)).trans HL.hLb
  · exact HL.hM.of_block (hb.block _ (by omega))

/-- What keysLeft leaves, whichever way it went. -/
def Done (X : Nat) (w w' : World) (me emp : Int) (r k lq lr lb : Nat) (fb fq fr : Nat → ByteArray) : Prop :=
  (¬ me = emp ∧ Called X w w' 0 [] true true lq lr lb fb fq fr) ∨ (me = emp ∧ r < k ∧ Called X w w' (k - r) ((keyCells fr k).drop (r * 5)) false false lq lr lb fb fq fr) ∨
  (me = emp ∧ ¬ r < k ∧ Vars X w' 0 (.slice none 0 0) false false (.slice none 0 0) (.slice none 0 0) ∧ Out X w w')

theorem left_all {X Q0 R0 L m n lb lq lr cq cr rc base : Nat} {aq ar rs : Option Addr} {fb fq fr : Nat → ByteArray} {A : Array Value} {emp : Int} {w : World} (p : Pre X Q0 R0 L m n lb lq lr cq cr aq ar fb fq fr A (.slice rs lr rc) emp w)
    (hown : w.ownsRow base 36 5 (.slice rs lr rc) lr (keyCells fr lr)) (hL : ∀ k, (Value.slice rs lr rc).ownBlock = some k → k < L) (me : Int) (r : Nat) :
    Calls Yba.prog 4 #[.pointer (some ⟨L, 0, none⟩), .agg #[.int .u64 me, .int .i64 (r : Int)], .func (.func 5) #[] #[.pointer (some ⟨X, 0, none⟩), .pointer (some ⟨X + 2, 0, none⟩), .pointer (some ⟨X + 1, 0, none⟩), .pointer (some ⟨X + 3, 0, none⟩),
      .pointer (some ⟨Q0, 0, none⟩), .pointer (some ⟨X + 4, 0, none⟩), .pointer (some ⟨R0, 0, none⟩), .pointer (some ⟨X + 5, 0, none⟩)]] w fun e w' => e = .returned (.tuple #[]) ∧ Done X w w' me emp r lr lq lr lb fb fq fr := by
  by_cases h1 : me = emp
  · by_cases h2 : r < lr
    · obtain ⟨hlen, ⟨h3, h4⟩ | ⟨g, cap, cur, r1, r2, r3, r4, _⟩⟩ := hown
      · omega
      · cases r1
        have hown2 : w.ownsRow base 36 5 (.slice (some ⟨g, 0, none⟩) lr rc) lr (keyCells fr lr) := ⟨hlen, Or.inr ⟨g, rc, cur, rfl, r2, r3, r4, by assumption⟩⟩
        refine (left_some p me r h1 h2 r4 p.hlr (hL g rfl) (fun j u hj => ?_)).mono fun e w' h => ⟨h.1, Or.inr (Or.inl ⟨h1, h2, h.2⟩)⟩
        rw [hown2.cellAt j (by have := (List.getElem?_eq_some_iff.1 hj).1; rw [keyCells_len] at this; omega)]
        exact hj
    · exact (left_none p me r h1 (by omega)).mono fun e w' h => ⟨h.1, Or.inr (Or.inr ⟨h1, h2, h.2⟩)⟩
  · exact (left_emptied p me r h1).mono fun e w' h => ⟨h.1, Or.inl ⟨h1, h.2⟩⟩

theorem own_slice {w : World} {base e size n : Nat} {v : Value} {xs : List Value} (h : w.ownsRow base e size v n xs) : ∃ rs rc, v = .slice rs n rc := by
  obtain ⟨h1, ⟨h2, h3⟩ | ⟨g, cap, cur, r1, r2, r3⟩⟩ := h
  · exact ⟨none, 0, by rw [h2, h3]⟩
  · exact ⟨_, _, r1⟩

theorem own_ne_map {w : World} {base e size n m k : Nat} {v : Value} {xs : List Value} {M : Value → Value → Prop} (h : w.ownsRow base e size v n xs) (hm : Raw.Is w m k M) : v.ownBlock = none ∨ v.ownBlock ≠ some m := by
  obtain ⟨h1, ⟨h2, h3⟩ | ⟨g, cap, cur, r1, r2, r3, r4⟩⟩ := h
  · left; rw [h2]; rfl
  · right
    rw [r1]
    intro e
    obtain rfl : g = m := by simpa [Value.ownBlock] using e
    obtain ⟨es, clock, q1, q2⟩ := hm
    rw [q1] at r3
    cases r3

/-- What the later loops read of the closure's answers. -/
structure Ran (X : Nat) (w4 wx : World) (lq lr lb : Nat) (fb fq fr : Nat → ByteArray) (hq hr : Value) : Prop where
  v4 : wx.heap[X + 4]? = some (.cells #[hq] 67 (0, 0))
  v5 : wx.heap[X + 5]? = some (.cells #[hr] 67 (0, 0))
  oq : wx.ownsRow w4.heap.size 4 1 hq lq (answers fb lb fq lq)
  or : wx.ownsRow w4.heap.size 4 1 hr lr (answers fb lb fr lr)

theorem row_five {w : World} {base g cap n r lr : Nat} {fr : Nat → ByteArray} (hown : w.ownsRow base 36 5 (.slice (some ⟨g, 0, none⟩) n cap) n ((keyCells fr lr).drop (r * 5))) (hn : r + n ≤ lr) (i : Nat) (hi : i < n) :
    w.cell? ⟨g, i * 5, none⟩ = some (.int .u64 0) ∧ w.cell? ⟨g, i * 5 + 1, none⟩ = some (.int .u64 0) ∧ w.cell? ⟨g, i * 5 + 2, none⟩ = some (.pointer none) ∧ w.cell? ⟨g, i * 5 + 3, none⟩ = some (.int .u8 0) ∧ w.cell? ⟨g, i * 5 + 4, none⟩ = some (.string (fr (r + i))) := by
  obtain ⟨k0, k1, k2, k3, k4⟩ := keyCell_five fr (r + i)
  have c : ∀ j, j < 5 → w.cell? ⟨g, i * 5 + j, none⟩ = some (keyCell fr ((r + i) * 5 + j)) := fun j hj => by
    rw [hown.cellAt _ (by omega), List.getElem?_drop, keyCells_at (by omega)]
    congr 2
    omega
  exact ⟨(c 0 (by omega)).trans (congrArg some k0), (c 1 (by omega)).trans (congrArg some k1), (c 2 (by omega)).trans (congrArg some k2), (c 3 (by omega)).trans (congrArg some k3), (c 4 (by omega)).trans (congrArg some k4)⟩

theorem neq_key_same (w : World) (s : ByteArray) : (binOp .neq 36 (.agg #[.int .u64 0, .int .u64 0, .pointer none, .int .u8 0, .string s]) (.agg #[.int .u64 0, .int .u64 0, .pointer none, .int .u8 0, .string s])).run Yba.prog w = .ok (.bool false) w := by
  have h := eq_key_in w s s
  unfold kv at h
  rw [run_neq_struct, h]
  simp [Result.andThen]

/-- What the law reads of a world that keysLeft, or a later loop, has left. -/
structure Facts (B L m n lr cr lq cq lb rc : Nat) (rs ar aq ab : Option Addr) (fr fq fb : Nat → ByteArray) (emp : Int) (w : World) : Prop where
  cB : w.cell? ⟨B, 0, none⟩ = some (.slice ar lr cr)
  cQ : w.cell? ⟨B + 1, 0, none⟩ = some (.slice aq lq cq)
  tr : TextsB L w ar lr fr
  tq : TextsB L w aq lq fq
  tb : Texts w ab lb fb
  l8 : w.cell? ⟨L, 8, none⟩ = some (.map (some m))
  l273 : w.cell? ⟨L, 273, none⟩ = some (.slice rs lr rc)
  l274 : w.cell? ⟨L, 274, none⟩ = some (.int .u64 emp)
  hM : Raw.Is w m n (Mp fb lb)
  own : w.ownsRow (B + 2) 36 5 (.slice rs lr rc) lr (keyCells fr lr)

theorem facts_of {B L m n lr cr lq cq lb rc X : Nat} {rs ar aq ab : Option Addr} {fr fq fb : Nat → ByteArray} {emp : Int} {A : Array Value} {w2 w4 wc : World} (HB : Boxed B lr cr lq cq lb ar aq ab fr fq fb w2)
    (p : Pre X (B + 1) B L m n lb lq lr cq cr aq ar fb fq fr A (.slice rs lr rc) emp w4) (hown : w4.ownsRow (B + 2) 36 5 (.slice rs lr rc) lr (keyCells fr lr))
    (HP : Below (B + 2) w2 w4 ∧ B + 2 ≤ L ∧ (∀ k, (Value.slice rs lr rc).ownBlock = some k → k < L)) (ho : Out X w4 wc) : Facts B L m n lr cr lq cq lb rc rs ar aq ab fr fq fb emp wc := by
  have hXl := p.hv.lt
  have hLX := p.hLX
  have h1 := p.hQX
  have h2 := p.hRX
  have h3 := p.hmX
  have hs := ho.size
  have up : ∀ k, k < X → wc.heap[k]? = w4.heap[k]? := fun k hk => ho.block k (by omega) (Or.inl hk)
  have texts : ∀ {ao : Option Addr} {len : Nat} {f : Nat → ByteArray}, TextsB L w4 ao len f → TextsB L wc ao len f := fun {ao len f} h h0 => by
    obtain ⟨b, off, e, hb, hc⟩ := h h0
    exact ⟨b, off, e, hb, fun i hi => (World.cell?_of_block (w := w4) (up b (by omega))).trans (hc i hi)⟩
  have hL : wc.heap[L]? = some (.cells A 66 (0, 0)) := (up L hLX).trans p.hLb
  refine ⟨cell_of ((up B (by omega)).trans p.hR) rfl, cell_of ((up _ (by omega)).trans p.hQ) rfl, texts p.tr, texts p.tq, fun h0 => ?_, cell_of hL p.hA.a8, cell_of hL p.hA.a273, cell_of hL p.hA.a274, p.hM.of_block (up m (by omega)), ?_⟩
  · obtain ⟨b, off, e, hb, hc⟩ := HB.tb h0
    have hs2 := HB.size
    have hs4 := HP.1.size
    exact ⟨b, off, e, by omega, fun i hi => (World.cell?_of_block (w := w4) (up b (by omega))).trans ((World.cell?_of_block (w := w2) (HP.1.block b (by omega))).trans (hc i hi))⟩
  · obtain ⟨hl, h | ⟨g, cap, cur, r1, r2, r3, r4⟩⟩ := hown
    · exact ⟨hl, Or.inl h⟩
    · exact ⟨hl, Or.inr ⟨g, cap, cur, r1, r2, (up g (by have := HP.2.2 g (by rw [r1]; rfl); omega)).trans r3, r4⟩⟩

theorem has_out {ab : Option Addr} {lb cb : Nat} {fb : Nat → ByteArray} {wc : World} (h : Texts wc ab lb fb) (hlb : lb ≤ 4096) : ∀ (n : Nat) (s : ByteArray), Calls Yba.prog 6 #[.slice ab lb cb, .string s] (wc.drewN n) fun e w' => e = .returned (.bool (hasB fb lb s)) ∧ w' = wc.drewN n :=
  fun n s => has_any ab lb cb fb s (wc.drewN n) hlb h

theorem ans_cell {w : World} {base g cap len lb : Nat} {fb f : Nat → ByteArray} (h : w.ownsRow base 4 1 (.slice (some ⟨g, 0, none⟩) len cap) len (answers fb lb f len)) (j : Nat) (hj : j < len) : w.cell? ⟨g, j, none⟩ = some (.bool (hasB fb lb (f j))) := by
  rw [h.cellAt j (by omega)]
  simp [answers, hj]

theorem out_drewN {X : Nat} {w w' : World} (h : Out X w w') (n : Nat) : Out X w (w'.drewN n) := ⟨h.os, h.tape, h.output, h.size, h.block⟩
theorem ran_drewN {X lq lr lb : Nat} {w4 wx : World} {fb fq fr : Nat → ByteArray} {hq hr : Value} (h : Ran X w4 wx lq lr lb fb fq fr hq hr) (n : Nat) : Ran X w4 (wx.drewN n) lq lr lb fb fq fr hq hr := ⟨h.v4, h.v5, h.oq, h.or⟩

theorem quiet_plus {P : Program} {f : FuncId} {args : Array Value} {w : World} {a n : Nat} {v : Value}
    (h : Calls P f args (w.drewN (a + n)) fun e w' => e = .returned v ∧ w' = w.drewN (a + n)) : Calls P f args (w.drewN (a + n)) fun e w'' => e = .returned v ∧ ∃ m, w'' = w.drewN (a + m) :=
  h.mono fun _ _ ⟨he, hm⟩ => ⟨he, n, hm⟩

/-- A lookup in 'bans', found or not, whatever has been allocated since. -/
theorem look_true {w : World} {m n lb : Nat} {f : Nat → ByteArray} {s : ByteArray} (h : Raw.Is w m n (Mp f lb)) (hs : hasB f lb s = true) :
    (Instr.lookup 37 (.map (some m)) (.agg #[.int .u64 0, .int .u64 0, .pointer none, .int .u8 0, .string s]) true).run Yba.prog w = .ok (.tuple #[.agg #[.int .u64 0, .int .u64 0, .pointer none, .int .u8 0, .string s, .int .u64 0, .int .i64 0, .pointer none, .string ⟨#[]⟩], .bool true]) w := by
  have := look_ban h s
  rw [hs] at this
  simpa [bv, kv] using this
theorem look_false {w : World} {m n lb : Nat} {f : Nat → ByteArray} {s : ByteArray} (h : Raw.Is w m n (Mp f lb)) (hs : hasB f lb s = false) :
    (Instr.lookup 37 (.map (some m)) (.agg #[.int .u64 0, .int .u64 0, .pointer none, .int .u8 0, .string s]) true).run Yba.prog w = .ok (.tuple #[.agg #[.int .u64 0, .int .u64 0, .pointer none, .int .u8 0, .string ⟨#[]⟩, .int .u64 0, .int .i64 0, .pointer none, .string ⟨#[]⟩], .bool false]) w := by
  have := look_ban h s
  rw [hs] at this
  simpa [bv0, kv] using this

theorem out_alloc {X : Nat} {w w' : World} (h : Out X w w') (o : Obj) : Out X w (w'.alloc o) := h.step (World.grownBy_alloc _ _ none) (by simp)

theorem below_end {B L X : Nat} {w w2 w4 wr : World} (h1 : Below B w w2) (h2 : Below (B + 2) w2 w4) (h3 : Out X w4 wr) (hBL : B + 2 ≤ L) (hLX : L < X) (hX : X + 5 < w4.heap.size) : Below B w wr :=
  (h1.trans (h2.mono (by omega))).trans ⟨h3.os, h3.tape, h3.output, h3.size, fun k hk => h3.block k (by omega) (Or.inl (by omega))⟩

end Go.Proofs.Ybulkdupw
