import Derived.Test.YbulkdunsCloseAll
namespace Go.Proofs.Ybulkduns
open Go.RowKit Go.MuLone

theorem setCell_grown (w : World) (a : Addr) (v : Value) : w.grownBy (w.setCell a v) (some a.block) :=
  ⟨rfl, rfl, rfl, by simp [World.setCell], fun k _ hk => Below.heap_setCell _ _ _ _ (fun e => hk (by rw [e]))⟩

theorem grown_refl (w : World) (r : Option Nat) : w.grownBy w r := ⟨rfl, rfl, rfl, Nat.le_refl _, fun _ _ _ => rfl⟩

theorem locked {B R D : Nat} {w w2 w3 : World} {st : Int} {cl : Bool} {len j : Nat} {F : Nat → Bool} {H K : Nat → Int} {cb sb : Nat → Nat} (h : Built B R D w2 st cl len j F H K cb sb) (hg : w.grownBy w2 (some (B + 1))) {st' : Int} (hw : w3 = w2.setCell ⟨B + 1, 0, none⟩ (.int .i32 st')) :
    Built B R D w3 st' cl len j F H K cb sb ∧ w.grownBy w3 (some (B + 1)) := by
  subst hw
  exact ⟨h.setState st', hg.andThen (setCell_grown _ _ _) (fun k hk => Or.inr hk)⟩

set_option maxRecDepth 100000 in
set_option maxHeartbeats 800000 in
theorem take_closed {B R D : Nat} {w : World} {len : Nat} {F : Nat → Bool} {H K : Nat → Int} {cb sb : Nat → Nat} (h : Built B R D w 0 true len len F H K cb sb) (c v0 v1 v2 v3 v4 v5 : Value) :
    Calls Yba.prog 11 #[.pointer (some ⟨B + 1, 0, none⟩), c, .agg #[v0, v1, v2], .agg #[v3, v4, v5]] w fun e w' => e = .returned (.bool false) ∧ Built B R D w' 0 true len len F H K cb sb ∧ w.grownBy w' (some (B + 1)) := by
  have hg2 : w.grownBy ((w.alloc (.cells #[v0, v1, v2] 50)).alloc (.cells #[v3, v4, v5] 53)) (some (B + 1)) := ((World.grownBy_alloc w _ none).andThen (World.grownBy_alloc _ _ none) (by simp)).but _
  have h2 : Built B R D ((w.alloc (.cells #[v0, v1, v2] 50)).alloc (.cells #[v3, v4, v5] 53)) 0 true len len F H K cb sb := h.carry fun k _ hk => (Below.heap_alloc _ _ _ (by simp; omega)).trans (Below.heap_alloc _ _ _ hk)
  have c0 := cell_of (i := 0) h2.head rfl
  have f0 := frozen_of (i := 0) h2.head
  go_enter_defers Yba.func11, Yba.ntmps11
  go_wp2_with (go_at_call 13; refine (lock_free Yba.muLib ⟨B + 1, 0, none⟩ _ c0 f0).mono ?_; rintro e w' ⟨rfl, hw'⟩; obtain ⟨h3, hg3⟩ := locked h2 hg2 hw'; clear hw'; have c3 := cell_of (i := 3) h3.head rfl)
  refine leaves_cons (f := 8) (args := #[.pointer (some ⟨B + 1, 0, none⟩)]) (by simp) (by simp [go_sem]) ?_
  refine (unlock_deferred Yba.muLib ⟨B + 1, 0, none⟩ .returning _ (cell_of h3.head rfl) (frozen_of h3.head)).mono ?_
  rintro e u' w'' ⟨rfl, rfl, rfl⟩
  exact ⟨_, results_tmp rfl _ _ _, rfl, h3.setState 0, hg3.andThen (setCell_grown _ _ _) (fun k hk => Or.inr hk)⟩

theorem neq_slot_same (a : Addr) (w : World) : (binOp .neq 42 (.pointer (some a)) (.pointer (some a))).run Yba.prog w = .ok (.bool false) w := by
  have h : (Yba.prog.info? 55).map (·.size) = some 6 := by kernel_rfl
  obtain ⟨j, hj⟩ : ∃ i, Yba.prog.info? 55 = some i := by
    cases hi : Yba.prog.info? 55 with
    | none => rw [hi] at h; cases h
    | some i => exact ⟨i, rfl⟩
  have he : ∀ d : Nat, (Op.equalIn (d + 1) 42 (.pointer (some a)) (.pointer (some a))).run Yba.prog w = .ok true w := fun d => by
    simp [Op.equalIn, run_underlying Yba.underlying42, sizeOf, typeInfo, hj, run_sameAddr_same]
  simp only [binOp]
  simp [Op.equal, Op.maxDepth, he 9999]

/-- What a round of the laws' loops reads. -/
theorem Built.reads {B R D : Nat} {w : World} {st : Int} {cl : Bool} {len : Nat} {F : Nat → Bool} {H K : Nat → Int} {cb sb : Nat → Nat} (h : Built B R D w st cl len len F H K cb sb) {j : Nat} (hj : j < len) :
    w.cell? ⟨R, j, none⟩ = some (.pointer (some ⟨cb j, 0, none⟩)) ∧ w.cell? ⟨D, j, none⟩ = some (.pointer (some ⟨sb j, 0, none⟩)) ∧ w.cell? ⟨cb j, 2, none⟩ = some (.int .i64 (K j)) ∧ w.cell? ⟨cb j, 3, none⟩ = some (.int .i64 0) ∧ w.cell? ⟨B + 1, 2, none⟩ = some (.map (some B)) ∧
    ∀ w', (∀ k, B ≤ k → k < w.heap.size → w'.heap[k]? = w.heap[k]?) → (Instr.lookup 35 (.map (some B)) (.iface 39 (.pointer (some ⟨cb j, 0, none⟩))) false).run Yba.prog w' = .ok (.pointer (some ⟨sb j, 0, none⟩)) w' := by
  obtain ⟨cc, h1, h2, h3⟩ := h.crow
  obtain ⟨dd, h4, h5, h6⟩ := h.srow
  refine ⟨cell_of h1 (h3 j hj), cell_of h4 (h6 j hj), cell_of (h.con j hj) rfl, cell_of (h.con j hj) rfl, cell_of h.head rfl, fun w' hk => ?_⟩
  have h' := h.carry (w' := w') hk
  have := h'.map.look_at false (connKey w') h'.keys Yba.underlying35 (zero42 w') (key := conn (cb j)) (v := .pointer (some ⟨sb j, 0, none⟩)) ⟨_, _, _, rfl, h'.con j hj⟩ ⟨j, hj, rfl, rfl⟩
  simpa [conn] using this
end Go.Proofs.Ybulkduns
