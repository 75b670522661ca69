import Derived.Test.YbulkdunsTake
import Derived.Test.YbulkdunsTry
import Derived.BigQuiet
import Derived.WalkSmall
import Derived.Deep.CutBlock
namespace Go.Proofs.Ybulkduns
open Go.RowKit Go.MuLone

theorem whole_big (pre : Bool) (ao : Option Addr) (len cap : Nat) (w : World) (hlen : ¬ len ≤ 65536) :
    Calls Yba.prog 3 #[.bool pre, .slice ao len cap] w fun e w' => e = .returned (.bool true) ∧ Below w.heap.size w w' := by
  have h : (65536 : Int) < (len : Int) := by omega
  go_enter Yba.func3, Yba.ntmps3
  go_wp2
  go_ret
  exact ⟨rfl, Below.refl _ _⟩

/-- A world in which every block of W is as it was. -/
structure Kept (W : World) where
  wd : World
  bel : Below W.heap.size W wd

theorem kept_call {P : Program} {f : FuncId} {args : Array Value} {W : World} {v : Value} {u : Kept W} (h : Calls P f args u.wd fun e w' => e = .returned v ∧ Below u.wd.heap.size u.wd w') :
    Calls P f args u.wd fun e w' => e = .returned v ∧ ∃ u' : Kept W, w' = u'.wd :=
  h.mono fun _ w' ⟨he, hb⟩ => ⟨he, ⟨w', u.bel.trans (hb.mono u.bel.size)⟩, rfl⟩

theorem kept_reads {B R D : Nat} {w : World} {st : Int} {cl : Bool} {len : Nat} {F : Nat → Bool} {H K : Nat → Int} {cb sb : Nat → Nat} (h : Built B R D w st cl len len F H K cb sb) {j : Nat} (hj : j < len) :
    (∀ u : Kept w, u.wd.cell? ⟨D, j, none⟩ = some (.pointer (some ⟨sb j, 0, none⟩))) ∧ (∀ u : Kept w, u.wd.cell? ⟨sb j, 0, none⟩ = some (.int .u64 0)) ∧ (∀ u : Kept w, u.wd.cell? ⟨sb j, 1, none⟩ = some (.int .u64 0)) ∧ (∀ u : Kept w, u.wd.cell? ⟨sb j, 2, none⟩ = some (.pointer none)) ∧
    (∀ u : Kept w, u.wd.cell? ⟨sb j, 3, none⟩ = some (.int .u64 (H j % 1000000000))) ∧ (∀ u : Kept w, u.wd.cell? ⟨sb j, 4, none⟩ = some (.int .i64 (H j / 1000000000))) ∧ (∀ u : Kept w, u.wd.cell? ⟨sb j, 5, none⟩ = some (.pointer none)) := by
  obtain ⟨dd, h4, h5, h6⟩ := h.srow
  have hs := h.slt j hj
  have l1 := lt_of_some h4
  have l2 := lt_of_some hs
  refine ⟨fun u => (u.bel.cell l1).trans (cell_of h4 (h6 j hj)), ?_, ?_, ?_, ?_, ?_, ?_⟩
  all_goals exact fun u => (u.bel.cell l2).trans (cell_of hs rfl)

theorem neq_addr_zero (w : World) : (binOp .neq 50 (.agg #[.int .u64 0, .int .u64 0, .pointer none]) (.agg #[.int .u64 0, .int .u64 0, .pointer none])).run Yba.prog w = .ok (.bool false) w := by kernel_rfl

set_option maxRecDepth 100000 in
set_option maxHeartbeats 1000000 in
theorem whole_any (pre : Bool) (ao : Option Addr) (b off len cap : Nat) (F : Nat → Bool) (H : Nat → Int) (w : World) (hlen : len ≤ 65536) (hao : 0 < len → ao = some ⟨b, off, none⟩) (hb : 0 < len → b < w.heap.size)
    (hc0 : ∀ i, i < len → w.cell? ⟨b, off + i * 2, none⟩ = some (.int .i64 (H i))) (hc1 : ∀ i, i < len → w.cell? ⟨b, off + i * 2 + 1, none⟩ = some (.bool (F i))) (hwf : ∀ i, i < len → (Lit.int .i64 (H i)).wf = true) :
    Calls Yba.prog 3 #[.bool pre, .slice ao len cap] w fun e w' => e = .returned (.bool true) ∧ Below w.heap.size w w' := by
  have HB := build_any pre ao b off len cap F H w hlen hao hb hc0 hc1 hwf
  clear hc1
  have HC : Hid ((∀ i, i < len → w.cell? ⟨b, off + i * 2, none⟩ = some (.int .i64 (H i))) ∧ (∀ i, i < len → (Lit.int .i64 (H i)).wf = true)) := ⟨hc0, hwf⟩
  clear hc0 hwf
  have hnot : ∀ (x : Bool) (w : World), (Op.unary .not (.bool x)).run Yba.prog w = .ok (.bool (!x)) w := fun _ _ => rfl
  go_enter Yba.func3, Yba.ntmps3
  go_wp2_with (first
    | (go_at_call 5; refine HB.mono ?_; rintro e w1 ⟨R, D, cb, sb, rfl, hbt1, hbl1⟩; clear HB)
    | (go_at_call 6; refine (close_any hbt1).mono ?_; rintro e w2 ⟨rfl, hbt2, hbl2⟩; clear hbt1; have hcm : w2.cell? ⟨w.heap.size + 1, 2, none⟩ = some (.map (some w.heap.size)) := cell_of hbt2.head rfl; have hcc : w2.cell? ⟨w.heap.size + 1, 3, none⟩ = some (.bool true) := cell_of hbt2.head rfl; have hln := fun ty => hbt2.map.len Yba.underlying35 ty)
    | (go_at_call 7; refine (trylock_free ⟨w.heap.size + 1, 0, none⟩ _ (cell_of hbt2.head rfl) (frozen_of hbt2.head)).mono ?_; rintro e w3 ⟨rfl, hw3⟩; obtain ⟨hbt3, hg3⟩ := locked hbt2 (grown_refl w2 _) hw3; clear hw3)
    | (go_at_call 8; refine (unlock_held Yba.muLib ⟨w.heap.size + 1, 0, none⟩ _ (cell_of hbt3.head rfl) (frozen_of hbt3.head)).mono ?_; rintro e w4 ⟨rfl, hw4⟩; obtain ⟨hbt4, hg4⟩ := locked hbt3 hg3 hw4; clear hw4))
  have hbl4 : Below w.heap.size w w4 := by
    have e1 := hbl1.size
    have e2 := hbl2.size
    exact (hbl1.trans hbl2).grown hg4 (by omega) (fun k hk => by cases hk; omega)
  clear hg4 hg3 hbt3 hbl2 hbl1 hbt2 hcm hcc hln
  have hpn := neq_slot_same
  have hpa := neq_addr_zero
  go_loopw [8] (fun i wr => ∃ j : Nat, j ≤ len ∧ i = .int .i64 j ∧ Built w.heap.size R D wr 0 true len len F H (fun _ => 1) cb sb ∧ Below w.heap.size w wr) (fun i _ => len - (intOf i).toNat)
  case atStart => exact ⟨0, Nat.zero_le _, rfl, hbt4, hbl4⟩
  case round =>
    clear hbt4 hbl4
    obtain ⟨j, hj, rfl, hbt, hbl⟩ := hrel
    by_cases hlt : j < len
    · obtain rfl := hao (by omega)
      obtain ⟨r1, r2, r3, r4, r5, r6⟩ := hbt.reads hlt
      have r7 := fun n => r6 (wr.drewN n) (fun _ _ _ => rfl)
      clear r6
      go_upto_region 16 with fail
      go_quiet (fail)
      go_upto_region 18 with fail
      have hne : Nonempty (Kept wr) := ⟨⟨wr, Below.refl _ _⟩⟩
      obtain ⟨k1, k2, k3, k4, k5, k6, k7⟩ := kept_reads hbt hlt
      have hbb := hb (by omega)
      have k8 : ∀ u : Kept wr, u.wd.cell? ⟨b, off + j * 2, none⟩ = some (.int .i64 (H j)) := fun u => (u.bel.cell (by exact Nat.lt_of_lt_of_le hbb hbl.size)).trans ((hbl.cell hbb).trans (HC.out.1 j hlt))
      have hjw := HC.out.2 j hlt
      refine wp_region_quiet (C := fun w' => ∃ u : Kept wr, w' = u.wd) (by kernel_rfl) (by kernel_rfl) ⟨⟨_, below_drewN (Below.refl _ _) (nq + 1)⟩, rfl⟩ ?_
      dsimp only
      clear r1 r2 r3 r4 r5 r7
      repeat (quiet_step (first | (go_at_call 10; exact kept_call (add_out (H j) hjw _)) | (go_at_call 9; exact kept_call (equal_out (H j) _))))
      refine wpQuiet_nil ?_
      rintro w5 ⟨u, rfl⟩
      go_wp2
      go_roundw
      case rel => exact ⟨j + 1, by omega, by go_num, hbt.below u.bel (Nat.le_refl _), hbl.trans (u.bel.mono hbl.size)⟩
      case measure => simp [intOf]; omega
    · go_wp2_with fail
      go_ret
      exact ⟨rfl, hbl⟩
end Go.Proofs.Ybulkduns
