import Derived.Test.YbulkdupwKeysLeft
namespace Go.Proofs.Ybulkdupw
open Go.RowKit Go.RwLone

theorem left_drewN {X : Nat} {w : World} {ls : Option Addr} {ln lc : Nat} {G : List Value} (h : Left X w ls ln lc G) (n : Nat) : Left X (w.drewN n) ls ln lc G := h

theorem called_drewN {X n : Nat} {w w' : World} {ln : Nat} {G : List Value} {nl ev : Bool} {lq lr lb : Nat} {fb fq fr : Nat → ByteArray} (h : Called X (w.drewN n) w' ln G nl ev lq lr lb fb fq fr) : Called X w w' ln G nl ev lq lr lb fb fq fr := by
  obtain ⟨gl, hq, hr, hv, ho, o1, o2, o3⟩ := h
  exact ⟨gl, hq, hr, hv, ⟨ho.os, ho.tape, ho.output, ho.size, ho.block⟩, o1, o2, o3⟩

/-- The closure's contract behind draws. -/
theorem clo_drew {X Q0 R0 L m n lb lq lr cq cr ln lc : Nat} {aq ar ls : Option Addr} {fb fq fr : Nat → ByteArray} {A : Array Value} {rv : Value} {emp : Int} {w w1 : World} {every : Bool} {G : List Value} (p : Pre X Q0 R0 L m n lb lq lr cq cr aq ar fb fq fr A rv emp w)
    (hg1 : w.grownBy w1 (some L)) (hL1 : w1.heap[L]? = some (.cells (A.setIfInBounds 6 (.int .i32 1)) 66 (0, 0))) (hT1 : w1.heap[w.heap.size]? = some (.cells #[.pointer (some ⟨L, 0, none⟩)] 43 (0, 0))) (hleft : Left X w1 ls ln lc G) {nq : Nat} :
    Calls Yba.prog 5 #[.slice ls ln lc, .bool every, .func (.func 9) #[] #[.pointer (some ⟨w.heap.size, 0, none⟩)], .pointer (some ⟨X, 0, none⟩), .pointer (some ⟨X + 2, 0, none⟩), .pointer (some ⟨X + 1, 0, none⟩), .pointer (some ⟨X + 3, 0, none⟩),
      .pointer (some ⟨Q0, 0, none⟩), .pointer (some ⟨X + 4, 0, none⟩), .pointer (some ⟨R0, 0, none⟩), .pointer (some ⟨X + 5, 0, none⟩)] (w1.drewN nq) fun e w' => e = .returned (.tuple #[]) ∧ Called X w1 w' ln G ls.isNone every lq lr lb fb fq fr :=
  (clo_in p (w1 := w1.drewN nq) ⟨hg1.os, hg1.tape, hg1.output, hg1.size, hg1.block⟩ hL1 hT1 hleft).mono fun _ _ h => ⟨h.1, called_drewN h.2⟩

/-- The door behind the closure's call. -/
theorem door_called {X Q0 R0 L m n lb lq lr cq cr ln : Nat} {aq ar : Option Addr} {fb fq fr : Nat → ByteArray} {A : Array Value} {rv : Value} {emp : Int} {w w1 w2 : World} {nl every : Bool} {G : List Value} (p : Pre X Q0 R0 L m n lb lq lr cq cr aq ar fb fq fr A rv emp w)
    (hg1 : w.grownBy w1 (some L)) (hL1 : w1.heap[L]? = some (.cells (A.setIfInBounds 6 (.int .i32 1)) 66 (0, 0))) (hc : Called X w1 w2 ln G nl every lq lr lb fb fq fr) (tm : Array Value) :
    Leaves Yba.prog Yba.f4 tm (fun e w' => e = .returned (.tuple #[]) ∧ Called X w w' ln G nl every lq lr lb fb fq fr) [{ target := Target.fn (Fn.func 8) #[], args := #[.pointer (some ⟨L, 2, none⟩)] }] .returning w2 := by
  have hL3 : w2.heap[L]? = some (.cells (A.setIfInBounds 6 (.int .i32 1)) 66 (0, 0)) := by
    obtain ⟨gl, hq, hr, hv, ho, o1, o2, o3⟩ := hc
    exact (ho.block L (lt_of_some hL1) (Or.inl p.hLX)).trans hL1
  have hXl := p.hv.lt
  refine leaves_cons (f := 8) (args := #[.pointer (some ⟨L, 2, none⟩)]) (by simp) (by simp [go_sem]) ?_
  refine (runlock_ready hL3 (p.hA.set6 1) .returning).mono ?_
  rintro e u' w'' ⟨rfl, rfl, rfl⟩
  exact ⟨_, results_none rfl _ _ _, rfl, called_end p.hLb p.hA.a6 p.hLX (by omega) hg1 hL1 hc⟩

/-- The door where nothing was called. -/
theorem door_none {X Q0 R0 L m n lb lq lr cq cr : Nat} {aq ar : Option Addr} {fb fq fr : Nat → ByteArray} {A : Array Value} {rv : Value} {emp : Int} {w w1 : World} (p : Pre X Q0 R0 L m n lb lq lr cq cr aq ar fb fq fr A rv emp w)
    (hg1 : w.grownBy w1 (some L)) (hL1 : w1.heap[L]? = some (.cells (A.setIfInBounds 6 (.int .i32 1)) 66 (0, 0))) (tm : Array Value) (n1 n2 : Nat) :
    Leaves Yba.prog Yba.f4 tm (fun e w' => e = .returned (.tuple #[]) ∧ Vars X w' 0 (.slice none 0 0) false false (.slice none 0 0) (.slice none 0 0) ∧ Out X w w') [{ target := Target.fn (Fn.func 8) #[], args := #[.pointer (some ⟨L, 2, none⟩)] }] .returning ((w1.drewN n1).drewN n2) := by
  have hXl := p.hv.lt
  have ho : Out X w1 ((w1.drewN n1).drewN n2) := ⟨rfl, rfl, rfl, Nat.le_refl _, fun _ _ _ => rfl⟩
  have hL3 : ((w1.drewN n1).drewN n2).heap[L]? = some (.cells (A.setIfInBounds 6 (.int .i32 1)) 66 (0, 0)) := hL1
  refine leaves_cons (f := 8) (args := #[.pointer (some ⟨L, 2, none⟩)]) (by simp) (by simp [go_sem]) ?_
  refine (runlock_ready hL3 (p.hA.set6 1) .returning).mono ?_
  rintro e u' w'' ⟨rfl, rfl, rfl⟩
  have hend := runlocked p.hLb p.hA.a6 p.hLX hg1 hL1 ho
  have hvm : Vars X ((w1.drewN n1).drewN n2) 0 (.slice none 0 0) false false (.slice none 0 0) (.slice none 0 0) := p.hv.carry fun j h1 h2 => hg1.block j (by omega) (by have := p.hLX; simp; omega)
  exact ⟨_, results_none rfl _ _ _, rfl, hvm.grown (setCell_grown _ _ _) (fun k hk => by cases hk; exact Or.inr p.hLX), hend⟩

set_option maxRecDepth 100000 in
set_option maxHeartbeats 1000000 in
/-- The mark's emptied count differs: the closure is called with (nil, true). -/
theorem left_emptied {X Q0 R0 L m n lb lq lr cq cr : Nat} {aq ar : Option Addr} {fb fq fr : Nat → ByteArray} {A : Array Value} {rv : Value} {emp : Int} {w : World} (p : Pre X Q0 R0 L m n lb lq lr cq cr aq ar fb fq fr A rv emp w) (me mr : Int) (hne : ¬ me = emp) :
    Calls Yba.prog 4 #[.pointer (some ⟨L, 0, none⟩), .agg #[.int .u64 me, .int .i64 mr], .func (.func 5) #[] #[.pointer (some ⟨X, 0, none⟩), .pointer (some ⟨X + 2, 0, none⟩), .pointer (some ⟨X + 1, 0, none⟩), .pointer (some ⟨X + 3, 0, none⟩),
      .pointer (some ⟨Q0, 0, none⟩), .pointer (some ⟨X + 4, 0, none⟩), .pointer (some ⟨R0, 0, none⟩), .pointer (some ⟨X + 5, 0, none⟩)]] w fun e w' => e = .returned (.tuple #[]) ∧ Called X w w' 0 [] true true lq lr lb fb fq fr := by
  have hLl := lt_of_some p.hLb
  have hXl := p.hv.lt
  have hmf : ∀ (fn : Fn) (first cap : Array Value) (w : World), (Instr.makeFunc fn first cap).run Yba.prog w = .ok (.func fn first cap) w := fun _ _ _ _ => rfl
  have hneb : (me != emp) = true := by simp [hne]
  have HE : Hid (¬ me = emp) := hne
  clear hne
  go_enter_defers Yba.func4, Yba.ntmps4
  go_wp2_with (go_at_call 7; refine (rlock_ready p.hLb p.hA _ _).mono ?_; rintro e w1 ⟨rfl, hw1⟩; obtain ⟨hg1, hL1, hT1, hm1⟩ := rlocked p.hLb hw1; clear hw1; have t0 : w1.cell? ⟨w.heap.size, 0, none⟩ = some (.pointer (some ⟨L, 0, none⟩)) := cell_of hT1 rfl; have t1 : w1.cell? ⟨w.heap.size + 1, 0, none⟩ = some (.int .u64 me) := cell_of hm1 rfl; have t2 : w1.cell? ⟨w.heap.size + 1, 1, none⟩ = some (.int .i64 mr) := cell_of hm1 rfl; have t4 : w1.cell? ⟨L, 274, none⟩ = some (.int .u64 emp) := cell_of hL1 (p.hA.set6 1).a274)
  go_quiet (fail)
  go_wp2_with (go_at_call 5; refine (clo_drew (ls := none) (ln := 0) (lc := 0) (every := true) (G := []) p hg1 hL1 hT1 (Or.inl ⟨rfl, rfl, rfl, rfl⟩)).mono ?_; rintro e w2 ⟨rfl, hc⟩)
  exact door_called p hg1 hL1 hc _

set_option maxRecDepth 100000 in
set_option maxHeartbeats 1000000 in
/-- The mark is up to date: no call. -/
theorem left_none {X Q0 R0 L m n lb lq lr cq cr : Nat} {aq ar : Option Addr} {fb fq fr : Nat → ByteArray} {k rc : Nat} {rs : Option Addr} {A : Array Value} {emp : Int} {w : World} (p : Pre X Q0 R0 L m n lb lq lr cq cr aq ar fb fq fr A (.slice rs k rc) emp w) (me mr : Int) (hme : me = emp) (hmr : ¬ mr < (k : Int)) :
    Calls Yba.prog 4 #[.pointer (some ⟨L, 0, none⟩), .agg #[.int .u64 me, .int .i64 mr], .func (.func 5) #[] #[.pointer (some ⟨X, 0, none⟩), .pointer (some ⟨X + 2, 0, none⟩), .pointer (some ⟨X + 1, 0, none⟩), .pointer (some ⟨X + 3, 0, none⟩),
      .pointer (some ⟨Q0, 0, none⟩), .pointer (some ⟨X + 4, 0, none⟩), .pointer (some ⟨R0, 0, none⟩), .pointer (some ⟨X + 5, 0, none⟩)]] w fun e w' => e = .returned (.tuple #[]) ∧ Vars X w' 0 (.slice none 0 0) false false (.slice none 0 0) (.slice none 0 0) ∧ Out X w w' := by
  have hLl := lt_of_some p.hLb
  have hXl := p.hv.lt
  have hmf : ∀ (fn : Fn) (first cap : Array Value) (w : World), (Instr.makeFunc fn first cap).run Yba.prog w = .ok (.func fn first cap) w := fun _ _ _ _ => rfl
  have hneb : (me != emp) = false := by simp [hme]
  have hltb : decide (mr < (k : Int)) = false := by simpa using hmr
  have HE : Hid (me = emp) := hme
  have HM : Hid (¬ mr < (k : Int)) := hmr
  clear hme hmr
  go_enter_defers Yba.func4, Yba.ntmps4
  go_wp2_with (go_at_call 7; refine (rlock_ready p.hLb p.hA _ _).mono ?_; rintro e w1 ⟨rfl, hw1⟩; obtain ⟨hg1, hL1, hT1, hm1⟩ := rlocked p.hLb hw1; clear hw1; have t0 : w1.cell? ⟨w.heap.size, 0, none⟩ = some (.pointer (some ⟨L, 0, none⟩)) := cell_of hT1 rfl; have t1 : w1.cell? ⟨w.heap.size + 1, 0, none⟩ = some (.int .u64 me) := cell_of hm1 rfl; have t2 : w1.cell? ⟨w.heap.size + 1, 1, none⟩ = some (.int .i64 mr) := cell_of hm1 rfl; have t4 : w1.cell? ⟨L, 274, none⟩ = some (.int .u64 emp) := cell_of hL1 (p.hA.set6 1).a274; have t5 : w1.cell? ⟨L, 273, none⟩ = some (.slice rs k rc) := cell_of hL1 (p.hA.set6 1).a273)
  go_quiet (fail)
  go_wp2_with fail
  go_quiet (fail)
  go_wp2_with fail
  exact door_none p hg1 hL1 _ _ _

set_option maxRecDepth 100000 in
set_option maxHeartbeats 1000000 in
/-- Keys were taken out since the mark: the closure is called with them. -/
theorem left_some {X Q0 R0 L m n lb lq lr cq cr : Nat} {aq ar : Option Addr} {fb fq fr : Nat → ByteArray} {k rc g : Nat} {A : Array Value} {emp : Int} {w : World} (p : Pre X Q0 R0 L m n lb lq lr cq cr aq ar fb fq fr A (.slice (some ⟨g, 0, none⟩) k rc) emp w) (me : Int) (r : Nat) (hme : me = emp) (hr : r < k) (hkr : k ≤ rc) (hk : k ≤ 4096) (hg : g < L) (hG : ∀ j u, (keyCells fr k)[j]? = some u → w.cell? ⟨g, j, none⟩ = some u) :
    Calls Yba.prog 4 #[.pointer (some ⟨L, 0, none⟩), .agg #[.int .u64 me, .int .i64 (r : Int)], .func (.func 5) #[] #[.pointer (some ⟨X, 0, none⟩), .pointer (some ⟨X + 2, 0, none⟩), .pointer (some ⟨X + 1, 0, none⟩), .pointer (some ⟨X + 3, 0, none⟩),
      .pointer (some ⟨Q0, 0, none⟩), .pointer (some ⟨X + 4, 0, none⟩), .pointer (some ⟨R0, 0, none⟩), .pointer (some ⟨X + 5, 0, none⟩)]] w fun e w' => e = .returned (.tuple #[]) ∧ Called X w w' (k - r) ((keyCells fr k).drop (r * 5)) false false lq lr lb fb fq fr := by
  have hLl := lt_of_some p.hLb
  have hXl := p.hv.lt
  have hmf : ∀ (fn : Fn) (first cap : Array Value) (w : World), (Instr.makeFunc fn first cap).run Yba.prog w = .ok (.func fn first cap) w := fun _ _ _ _ => rfl
  have hneb : (me != emp) = false := by simp [hme]
  have hltb : decide ((r : Int) < (k : Int)) = true := by simpa using hr
  have hrk : r ≤ k := by omega
  have hrne : ¬ rc = r := by omega
  have HE : Hid (me = emp) := hme
  clear hme
  go_enter_defers Yba.func4, Yba.ntmps4
  go_wp2_with (go_at_call 7; refine (rlock_ready p.hLb p.hA _ _).mono ?_; rintro e w1 ⟨rfl, hw1⟩; obtain ⟨hg1, hL1, hT1, hm1⟩ := rlocked p.hLb hw1; clear hw1; have t0 : w1.cell? ⟨w.heap.size, 0, none⟩ = some (.pointer (some ⟨L, 0, none⟩)) := cell_of hT1 rfl; have t1 : w1.cell? ⟨w.heap.size + 1, 0, none⟩ = some (.int .u64 me) := cell_of hm1 rfl; have t2 : w1.cell? ⟨w.heap.size + 1, 1, none⟩ = some (.int .i64 (r : Int)) := cell_of hm1 rfl; have t4 : w1.cell? ⟨L, 274, none⟩ = some (.int .u64 emp) := cell_of hL1 (p.hA.set6 1).a274; have t5 : w1.cell? ⟨L, 273, none⟩ = some (.slice (some ⟨g, 0, none⟩) k rc) := cell_of hL1 (p.hA.set6 1).a273)
  go_quiet (fail)
  go_wp2_with fail
  go_quiet (fail)
  go_wp2_with fail
  have hLeft : Left X w1 (some ⟨g, r * 5, none⟩) (k - r) (rc - r) ((keyCells fr k).drop (r * 5)) := by
    refine Or.inr ⟨g, r * 5, rfl, by omega, by omega, by simp [keyCells_len]; omega, fun j u hj => ?_, fun u hu => keyCells_one fr k u (List.mem_of_mem_drop hu), by have := p.hLX; omega⟩
    rw [List.getElem?_drop] at hj
    have h2 := hG (r * 5 + j) u hj
    have hgl : g < w.heap.size := by omega
    have e : (⟨g, r * 5, none⟩ : Addr).add j = ⟨g, r * 5 + j, none⟩ := by simp [Addr.add]
    rw [e]
    exact (World.cell?_of_block (w := w) (hg1.block g hgl (by simp; omega))).trans h2
  refine Code.wp_mono (Q := fun e a' w' => e = .normal ∧ a'.defers = [{ target := Target.fn (Fn.func 8) #[], args := #[Value.pointer (some { block := L, off := 2 })] }] ∧ Called X w1 w' (k - r) ((keyCells fr k).drop (r * 5)) false false lq lr lb fb fq fr) ?_ ?_
  · rintro e ⟨tm, df⟩ w2 ⟨rfl, hd, hc⟩
    simp only at hd
    subst hd
    go_wp2
    exact door_called p hg1 hL1 hc _
  · go_region_law (refine step_call_clo rfl (.tmp 35) (.tmp 42) (.const (.bool false)) (.tmp 43) 25 4 71 rfl _ _ _ _ _ _ _ _ (by simp [Act.eval, Act.put]) _ _ _ (by simp [Act.eval, Act.put]) (by simp [Act.eval]) (by simp [Act.eval, Act.put]) (fun w' => Called X w1 w' (k - r) ((keyCells fr k).drop (r * 5)) false false lq lr lb fb fq fr) (clo_drew p hg1 hL1 hT1 hLeft) ?_; intro w2 hc)
    all_goals exact ⟨rfl, rfl, hc⟩

end Go.Proofs.Ybulkdupw
