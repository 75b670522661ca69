import Derived.Test.YbulkdunsTake
import Derived.BigQuiet
import Derived.WalkSmall
namespace Go.Proofs.Ybulkduns
open Go.RowKit Go.MuLone

theorem take_big (pre : Bool) (ao : Option Addr) (len cap : Nat) (hd : Int) (w : World) (hlen : ¬ len ≤ 65536) :
    Calls Yba.prog 4 #[.bool pre, .slice ao len cap, .int .i64 hd] w fun e w' => e = .returned (.bool true) ∧ Below w.heap.size w w' := by
  have h : (65536 : Int) < (len : Int) := by omega
  go_enter Yba.func4, Yba.ntmps4
  go_wp2
  go_ret
  exact ⟨rfl, Below.refl _ _⟩

theorem nc_facts {B R D len : Nat} {F : Nat → Bool} {H K : Nat → Int} {cb sb : Nat → Nat} {w2 w3 w4 : World} (hB2 : B + 1 < w2.heap.size) (hfresh : ∀ i, i < len → cb i < w2.heap.size)
    (hbl3 : Below (w2.alloc (.cells #[.int .i64 (-1), .bool false, .int .i64 0, .int .i64 0] 41)).heap.size (w2.alloc (.cells #[.int .i64 (-1), .bool false, .int .i64 0, .int .i64 0] 41)) w3) (hg4 : w3.grownBy w4 (some (B + 1))) (hbt4 : Built B R D w4 0 true len len F H K cb sb) :
    w4.cell? ⟨w2.heap.size, 2, none⟩ = some (.int .i64 0) ∧ w4.cell? ⟨w2.heap.size, 3, none⟩ = some (.int .i64 0) ∧ w4.cell? ⟨B + 1, 2, none⟩ = some (.map (some B)) ∧
    (∀ ty, (Builtin.len_ #[35] ty #[.map (some B)]).run Yba.prog w4 = .ok (.int .i64 len) w4) ∧ (Instr.lookup 35 (.map (some B)) (.iface 39 (.pointer (some ⟨w2.heap.size, 0, none⟩))) true).run Yba.prog w4 = .ok (.tuple #[.pointer none, .bool false]) w4 := by
  have hs3 := hbl3.size
  simp only [World.size_alloc] at hs3
  have hnc : w4.heap[w2.heap.size]? = some (.cells #[.int .i64 (-1), .bool false, .int .i64 0, .int .i64 0] 41 (0, 0)) :=
    (hg4.block _ (by omega) (by simp; omega)).trans ((hbl3.block _ (by simp)).trans (MapKept.heap_alloc w2 _).1)
  refine ⟨cell_of hnc rfl, cell_of hnc rfl, cell_of hbt4.head rfl, fun ty => hbt4.map.len Yba.underlying35 ty, ?_⟩
  have := hbt4.map.look_none true (connKey w4) hbt4.keys Yba.underlying35 (zero42 w4) (key := conn w2.heap.size) ⟨_, _, _, rfl, hnc⟩ (by
    rintro v ⟨i, hi, e, _⟩
    have := hfresh i hi
    have := conn_inj e
    omega)
  simpa [conn] using this

set_option maxRecDepth 100000 in
set_option maxHeartbeats 1000000 in
theorem take_any (pre : Bool) (ao : Option Addr) (b off len cap : Nat) (F : Nat → Bool) (H : Nat → Int) (hd : Int) (w : World) (hhd : (Lit.int .i64 hd).wf = true) (hlen : len ≤ 65536) (hao : 0 < len → ao = some ⟨b, off, none⟩) (hb : 0 < len → b < w.heap.size)
    (hc0 : ∀ i, i < len → w.cell? ⟨b, off + i * 2, none⟩ = some (.int .i64 (H i))) (hc1 : ∀ i, i < len → w.cell? ⟨b, off + i * 2 + 1, none⟩ = some (.bool (F i))) (hwf : ∀ i, i < len → (Lit.int .i64 (H i)).wf = true) :
    Calls Yba.prog 4 #[.bool pre, .slice ao len cap, .int .i64 hd] w fun e w' => e = .returned (.bool true) ∧ Below w.heap.size w w' := by
  have hbuild := build_any pre ao b off len cap F H w hlen hao hb hc0 hc1 hwf
  have HB := hbuild
  clear hbuild hc0 hc1 hwf hao hb
  go_enter Yba.func4, Yba.ntmps4
  go_wp2_with (first
    | (go_at_call 5; refine HB.mono ?_; rintro e w1 ⟨R, D, cb, sb, rfl, hbt1, hbl1⟩; clear HB)
    | (go_at_call 6; refine (close_any hbt1).mono ?_; rintro e w2 ⟨rfl, hbt2, hbl2⟩; clear hbt1; have hB2 := lt_of_some hbt2.head; have hfr : ∀ i, i < len → cb i < w2.heap.size := fun i hi => lt_of_some (hbt2.con i hi))
    | (go_at_call 10; refine (add_out hd hhd _).mono ?_; rintro e w3 ⟨rfl, hbl3⟩; have hbt3 := hbt2.carry (w' := w3) (built_over hbl3); clear hbt2)
    | (go_at_call 11; refine (take_closed hbt3 _ _ _ _ _ _ _).mono ?_; rintro e w4 ⟨rfl, hbt4, hg4⟩; obtain ⟨n2, n3, n4, n5, n6⟩ := nc_facts hB2 hfr hbl3 hg4 hbt4))
  have hbl4 : Below w.heap.size w w4 := by
    have e1 := hbl1.size
    have e2 := hbl2.size
    have e3 := hbl3.size
    simp only [World.size_alloc] at e3
    exact (((hbl1.trans hbl2).alloc (by omega) _).trans (hbl3.mono (by simp; omega))).grown hg4 (by omega) (fun k hk => by cases hk; omega)
  clear n2 n3 n4 n5 n6 hg4 hbl3 hbt3 hbl2 hbl1 hB2 hfr
  have hpn := neq_slot_same
  go_loopw [13] (fun i wr => ∃ j : Nat, j ≤ len ∧ i = .int .i64 j ∧ Built w.heap.size R D wr 0 true len len F H (fun _ => 1) cb sb ∧ Below w.heap.size w wr) (fun i _ => len - (intOf i).toNat)
  case atStart => exact ⟨0, Nat.zero_le _, rfl, hbt4, hbl4⟩
  case round =>
    clear hbt4 hbl4
    obtain ⟨j, hj, rfl, hbt, hbl⟩ := hrel
    by_cases hlt : j < len
    · obtain ⟨r1, r2, r3, _, r5, r6⟩ := hbt.reads hlt
      have r7 := fun n => r6 (wr.drewN n) (fun _ _ _ => rfl)
      clear r6
      go_wp2_with fail
      go_quiet (fail)
      go_wp2
      go_roundw
      case rel => exact ⟨j + 1, by omega, by go_num, hbt.carry fun _ _ _ => rfl, below_drewN hbl _⟩
      case measure => simp [intOf]; omega
    · go_wp2_with fail
      go_ret
      exact ⟨rfl, hbl⟩
end Go.Proofs.Ybulkduns
