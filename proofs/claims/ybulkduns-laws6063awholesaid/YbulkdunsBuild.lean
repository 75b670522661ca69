import Derived.Test.YbulkdunsBuilt
import Derived.Maps.OwnOps
import Derived.Deep.CutBlock
import Derived.Deep.DeepCutAuto
namespace Go.Proofs.Ybulkduns
open Go.RowKit

theorem Yba.info39 : (Yba.prog.info? 39).map (fun i => (i.zero, i.size, i.bytes)) = some (some (.pointer none), 1, 8) := by kernel_rfl
theorem Yba.info42 : (Yba.prog.info? 42).map (fun i => (i.zero, i.size, i.bytes)) = some (some (.pointer none), 1, 8) := by kernel_rfl

theorem newSlots_any (w : World) : Calls Yba.prog 12 #[] w fun e w' => e = .returned (.pointer (some ⟨w.heap.size + 1, 0, none⟩)) ∧ w' = (w.alloc (.map #[] 0)).alloc (.cells #[.int .i32 0, .int .u32 0, .map (some w.heap.size), .bool false] 37) := by
  have hmm := @run_makeMap Yba.prog
  go_enter Yba.func12, Yba.ntmps12
  go_wp2
  go_ret
  exact ⟨rfl, rfl⟩

theorem own_row {w : World} {base e g n cap : Nat} {xs : List Value} (h : w.ownsRow base e 1 (.slice (some ⟨g, 0, none⟩) n cap) n xs) :
    ∃ cur, w.heap[g]? = some (.cells cur e (0, 0)) ∧ cur.size = cap := by
  obtain ⟨_, h | ⟨g', cap', cur, hv, _, hh, _, _, hs, _⟩⟩ := h
  · cases h.1
  · cases hv
    exact ⟨cur, hh, by omega⟩

theorem built_over {w w3 : World} {o : Obj} {B : Nat} (hb : Below (w.alloc o).heap.size (w.alloc o) w3) : ∀ k, B ≤ k → k < w.heap.size → w3.heap[k]? = w.heap[k]? := fun k _ hk =>
  (hb.block k (by simp; omega)).trans (Below.heap_alloc w o k hk)

set_option maxRecDepth 100000 in
set_option maxHeartbeats 800000 in
theorem build_any (pre : Bool) (ao : Option Addr) (b off len cap : Nat) (F : Nat → Bool) (H : Nat → Int) (w : World) (hlen : len ≤ 65536) (hao : 0 < len → ao = some ⟨b, off, none⟩) (hb : 0 < len → b < w.heap.size)
    (hc0 : ∀ i, i < len → w.cell? ⟨b, off + i * 2, none⟩ = some (.int .i64 (H i))) (hc1 : ∀ i, i < len → w.cell? ⟨b, off + i * 2 + 1, none⟩ = some (.bool (F i))) (hwf : ∀ i, i < len → (Lit.int .i64 (H i)).wf = true) :
    Calls Yba.prog 5 #[.bool pre, .slice ao len cap] w fun e w' => ∃ R D cb sb, e = .returned (.tuple #[.pointer (some ⟨w.heap.size + 1, 0, none⟩), .slice (some ⟨R, 0, none⟩) len len, .slice (some ⟨D, 0, none⟩) len len]) ∧
      Built w.heap.size R D w' 0 pre len len F H (fun _ => 0) cb sb ∧ Below w.heap.size w w' := by
  obtain ⟨i9, h9, z90, z91, z92⟩ := info_parts Yba.info39
  obtain ⟨i2, h2, z20, z21, z22⟩ := info_parts Yba.info42
  go_enter Yba.func5, Yba.ntmps5
  go_wp2_with (first
    | (go_at_call 12; refine (newSlots_any w).mono ?_; rintro e w' ⟨rfl, rfl⟩; have tok9 : True := trivial)
    | (at_make; have _t := tok9; refine wpList_make_full _ rfl _ _ 24 rfl w.heap.size 39 i9 (.pointer none) 1 Yba.underlying24 h9 z90 z91 _ _ _ _ len rfl rfl rfl rfl (by rw [z92]; omega) (by unfold maxLen; omega) (by simp; omega) ?_; intro w1 hown1 hgrow1; clear tok9; obtain ⟨cc, hcc, hcs⟩ := own_row hown1; clear hown1; have tok2 : True := trivial)
    | (at_make; have _t := tok2; refine wpList_make_full _ rfl _ _ 25 rfl w.heap.size 42 i2 (.pointer none) 1 Yba.underlying25 h2 z20 z21 _ _ _ _ len rfl rfl rfl rfl (by rw [z22]; omega) (by unfold maxLen; omega) (by have := hgrow1.size; simp at this; omega) ?_; intro w2 hown2 hgrow2; clear tok2; obtain ⟨dd, hdd, hds⟩ := own_row hown2; clear hown2))
  obtain ⟨hbt, hbl⟩ := built_start F H (fun _ => 0) (fun _ => 0) (fun _ => 0) hgrow1 (by simpa using hcc) hcs hgrow2 hdd hds
  clear hgrow1 hgrow2 hcc hcs hdd hds h9 z90 z91 z92 h2 z20 z21 z22
  generalize w1.heap.size = D at hbt ⊢
  go_loopw [10] (fun i wr => ∃ (j : Nat) (cb sb : Nat → Nat), j ≤ len ∧ i = .int .i64 j ∧ Built w.heap.size (w.heap.size + 1 + 1) D wr 0 pre len j F H (fun _ => 0) cb sb ∧ Below w.heap.size w wr) (fun i _ => len - (intOf i).toNat)
  case atStart => exact ⟨0, _, _, Nat.zero_le _, rfl, hbt, hbl⟩
  case round =>
    clear hbt hbl
    obtain ⟨j, cb, sb, hj, rfl, hbt, hbl⟩ := hrel
    by_cases hlt : j < len
    · obtain rfl := hao (by omega)
      have hbb := hb (by omega)
      have d0 : wr.cell? ⟨b, off + j * 2, none⟩ = some (.int .i64 (H j)) := (hbl.cell hbb).trans (hc0 j hlt)
      have d1 : wr.cell? ⟨b, off + j * 2 + 1, none⟩ = some (.bool (F j)) := (hbl.cell hbb).trans (hc1 j hlt)
      have hbr : b < wr.heap.size := Nat.lt_of_lt_of_le hbb hbl.size
      have hjw := hwf j hlt
      clear hc0 hc1 hwf hb
      go_upto_region 12 with (go_at_call 10; refine (add_out (H j) hjw _).mono ?_; rintro e w3 ⟨rfl, hb3⟩; have hbt3 := (hbt.carry (w' := w3) (built_over hb3)); obtain ⟨v9, v2, q1, q2, q3, q4, q5, q6, q7, q8, q9, q10, q11⟩ := hbt3.room hlt)
      have hnb : w3.heap[wr.heap.size]? = some (.cells (connCells j (F j) 0) 41 (0, 0)) := (hb3.block _ (by simp)).trans (MapKept.heap_alloc wr _).1
      obtain ⟨his, hall, hkey, hB1, hnext⟩ := hbt3.grow hlt hnb (fun i hi e => by have := lt_of_some (hbt.con i hi); omega) (by have := hbl.size; omega) _ rfl
      have hbl4 : Below w.heap.size w (((w3.setCell ⟨w.heap.size + 1 + 1, j, none⟩ (.pointer (some ⟨wr.heap.size, 0, none⟩))).setCell ⟨D, j, none⟩ (.pointer (some ⟨w3.heap.size, 0, none⟩))).alloc (.cells (slotCells (H j)) 55)) :=
        ((((hbl.alloc hbl.size _).trans (hb3.mono (by have := hbl.size; simp; omega))).setCell (by simp; omega) _).setCell (p := ⟨D, j, none⟩) hbt.lo.2.1 _).alloc (by simp; omega) _
      have HH : Hid (∀ (w5 : World) (n' : Nat), Raw.Is w5 w.heap.size n' (Raw.put (Mp j cb sb) (conn wr.heap.size) (.pointer (some ⟨w3.heap.size, 0, none⟩))) → (((w3.setCell ⟨w.heap.size + 1 + 1, j, none⟩ (.pointer (some ⟨wr.heap.size, 0, none⟩))).setCell ⟨D, j, none⟩ (.pointer (some ⟨w3.heap.size, 0, none⟩))).alloc (.cells (slotCells (H j)) 55)).grownBy w5 (some w.heap.size) → ((∀ v, ¬ Mp j cb sb (conn wr.heap.size) v) → n' = j + 1) → Built w.heap.size (w.heap.size + 1 + 1) D w5 0 pre len (j + 1) F H (fun _ => 0) (upd cb j wr.heap.size) (upd sb j w3.heap.size) ∧ Below w.heap.size w w5) :=
        fun w5 n' a1 a2 a3 => ⟨hnext w5 n' a1 a2 a3, hbl4.grown a2 hbl4.size (fun k hk => by cases hk; exact Nat.le_refl _)⟩
      clear hnext hbl4 hnb hbt3 hb3
      go_wp2_with (at_mapUpdate; refine Raw.wpList_store _ rfl _ _ _ 35 rfl 67 42 (IsConn _) (connKey _) Yba.underlying35 w.heap.size j (Mp j cb sb) hall rfl his (conn wr.heap.size) (.pointer (some ⟨w3.heap.size, 0, none⟩)) rfl rfl hkey ?_; intro w5 n' a1 a2 _ _ a3)
      go_roundw
      case rel => exact ⟨j + 1, _, _, by omega, by go_num, HH.out w5 n' a1 a2 a3⟩
      case measure => simp [intOf]; omega
    · go_wp2_with fail
      go_ret3
      obtain rfl : j = len := by omega
      exact ⟨_, _, _, _, rfl, hbt, hbl⟩
end Go.Proofs.Ybulkduns
