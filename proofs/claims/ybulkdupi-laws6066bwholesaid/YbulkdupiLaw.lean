import Derived.Test.YbulkdupiForge
import Derived.Test.YbulkdupiCopy
import Derived.Deep.DeepCutAuto
import Derived.Deep.CutBlock
import Derived.Laws.CopyOwn
import Derived.BigQuiet
import Derived.WalkSmall
namespace Go.Proofs.Ybulkdupi
open Go.RowKit

theorem Yba.info25 : (Yba.prog.info? 25).map (fun i => (i.zero, i.size, i.bytes)) = some (some (.agg #[.int .i64 0, .int .i64 0]), 2, 16) := by kernel_rfl

theorem want_kept {w2 w3 : World} {vr vm : Value} {t : TypeId} (hb : Below (w2.alloc (.cells #[vr, vm] t)).heap.size (w2.alloc (.cells #[vr, vm] t)) w3) :
    w2.heap.size < w3.heap.size ∧ w3.cell? ⟨w2.heap.size, 0, none⟩ = some vr ∧ w3.cell? ⟨w2.heap.size, 1, none⟩ = some vm := by
  have h1 := hb.size
  simp only [World.size_alloc] at h1
  refine ⟨by omega, ?_, ?_⟩
  · exact (hb.cell (p := ⟨w2.heap.size, 0, none⟩) (by simp)).trans (by simp)
  · exact (hb.cell (p := ⟨w2.heap.size, 1, none⟩) (by simp)).trans (by simp)

theorem law_big (k pick : Int) (ao : Option Addr) (len cap : Nat) (w : World) (hlen : ¬ len ≤ 1048576) :
    Calls Yba.prog 3 #[.int .i64 k, .int .u64 pick, .slice ao len cap] w fun e w' => e = .returned (.bool true) ∧ w' = w := by
  have h : (1048576 : Int) < (len : Int) := by omega
  go_enter Yba.func3, Yba.ntmps3
  go_wp2
  go_ret
  exact ⟨rfl, rfl⟩

set_option maxRecDepth 100000 in
set_option maxHeartbeats 1000000 in
theorem law_some (k pick : Int) (b off len cap : Nat) (R M : Nat → Int) (w : World) (hlen : len ≤ 1048576) (hpos : 0 < len) (hb : b < w.heap.size) (hp : 0 ≤ pick)
    (hc0 : ∀ i, i < len → w.cell? ⟨b, off + i * 2, none⟩ = some (.int .i64 (R i))) (hc1 : ∀ i, i < len → w.cell? ⟨b, off + i * 2 + 1, none⟩ = some (.int .i64 (M i))) :
    Calls Yba.prog 3 #[.int .i64 k, .int .u64 pick, .slice (some ⟨b, off, none⟩) len cap] w fun e w' => e = .returned (.bool true) ∧ Below w.heap.size w w' := by
  have hix := idx_in pick len hpos hlen
  have hnil := fun (w : World) (r : Option Addr) (n c : Nat) => run_neq_slice_nil_any (P := Yba.prog) w 23 25 r n c 0 0 Yba.underlying23
  obtain ⟨i0, hi, hz0, hz1, hz2⟩ := info_parts Yba.info25
  go_enter Yba.func3, Yba.ntmps3
  go_upto_region 3 with fail
  go_cut [24] (fun v wx => ∃ q : Bool, v = .bool q ∧ wx = w)
  case first =>
    go_wp2
    all_goals
      go_meet
      case rel => exact ⟨_, rfl, rfl⟩
  case rest =>
  obtain ⟨q, rfl, rfl⟩ := hcut
  go_upto_if 24 with fail
  go_cut [0] (fun v wx => ∃ k', v = .int .i64 k' ∧ wx = wc)
  case first =>
    go_wp2
    all_goals
      go_meet
      case rel => exact ⟨_, rfl, rfl⟩
  case rest =>
    obtain ⟨k', rfl, rfl⟩ := hcut
    clear hix
    have hsz25 : (Yba.prog.info? 25).map (·.size) = some 2 := by kernel_rfl
    have HS : Hid ((Yba.prog.info? 25).map (·.size) = some 2) := hsz25
    clear hsz25
    go_wp2_with (first
      | (at_make; (refine wpList_make_full _ rfl _ _ 23 rfl wc.heap.size 25 i0 (.agg #[.int .i64 0, .int .i64 0]) 2 Yba.underlying23 hi hz0 hz1 _ _ _ _ len rfl rfl rfl rfl (by rw [hz2]; omega) (by unfold maxLen; omega) (Nat.le_refl _) ?_); intro w1 hown hgrow; obtain ⟨cur, hcur, hcs⟩ := own_block hown; clear hown; have tok : True := trivial)
      | (have _t := tok; (refine wpList_copy_all rfl _ _ 23 23 rfl 25 Yba.underlying23 2 HS.out wc.heap.size len len ⟨b, off, none⟩ cap rfl rfl cur 25 hcur (pairCells R M len) (pairCells_len R M len) hcs (pairCells_src (fun i h => (((Below.refl wc.heap.size wc).grown hgrow (Nat.le_refl _) (by simp)).cell hb).trans (hc0 i h)) (fun i h => (((Below.refl wc.heap.size wc).grown hgrow (Nat.le_refl _) (by simp)).cell hb).trans (hc1 i h))) (pairCells_one R M len) ?_); intro w2 hrow hgrow2 hsz2; clear tok hsz2))
    obtain ⟨e0, e1⟩ := pairCells_at hrow
    have hbel2 : Below wc.heap.size wc w2 := ((Below.refl wc.heap.size wc).grown hgrow (Nat.le_refl _) (by simp)).grown hgrow2 hgrow.size (fun k hk => by cases hk; exact Nat.le_refl _)
    have hg2 : wc.heap.size < w2.heap.size := Nat.lt_of_lt_of_le (Array.getElem?_eq_some_iff.1 hcur).1 hgrow2.size
    have hb2 : b < w2.heap.size := by omega
    have c0 : ∀ i, i < len → w2.cell? ⟨b, off + i * 2, none⟩ = some (.int .i64 (R i)) := fun i h => (hbel2.cell hb).trans (hc0 i h)
    have c1 : ∀ i, i < len → w2.cell? ⟨b, off + i * 2 + 1, none⟩ = some (.int .i64 (M i)) := fun i h => (hbel2.cell hb).trans (hc1 i h)
    have HE : Hid ((∀ i, i < len → w2.cell? ⟨wc.heap.size, i * 2, none⟩ = some (.int .i64 (R i))) ∧ (∀ i, i < len → w2.cell? ⟨wc.heap.size, i * 2 + 1, none⟩ = some (.int .i64 (M i))) ∧ (∀ i, i < len → w2.cell? ⟨b, off + i * 2, none⟩ = some (.int .i64 (R i))) ∧ (∀ i, i < len → w2.cell? ⟨b, off + i * 2 + 1, none⟩ = some (.int .i64 (M i)))) := ⟨e0, e1, c0, c1⟩
    clear e0 e1 c0 c1 hc0 hc1 hcur hcs hgrow hgrow2 hrow HS hi hz0 hz1 hz2 hnil
    go_loopw [9, 10] (fun okv i wr => ∃ j : Nat, j ≤ len ∧ i = .int .i64 ((j : Int) - 1) ∧ okv = .bool (foundAt (firstFrom R k' j (len - j))) ∧
        wr = w2.alloc (.cells #[.int .i64 (valAt R (firstFrom R k' j (len - j))), .int .i64 (valAt M (firstFrom R k' j (len - j)))] 25)) (fun _ i _ => (intOf i + 1).toNat)
    case atStart => exact ⟨len, Nat.le_refl _, rfl, by rw [first_end]; rfl, by rw [first_end]; rfl⟩
    case round =>
      obtain ⟨j, hj, hij, rfl, rfl⟩ := hrel
      by_cases hj0 : j = 0
      · subst hj0
        obtain rfl : _ = Value.int .i64 (-1) := hij
        rw [Nat.sub_zero]
        have hfc := forge_any k' b off len cap R M (w2.alloc (.cells #[.int .i64 (valAt R (firstFrom R k' 0 len)), .int .i64 (valAt M (firstFrom R k' 0 len))] 25)) hlen (by simp; omega)
          (fun i h => (World.cell?_alloc_past _ _ _ hb2).trans (HE.out.2.2.1 i h)) (fun i h => (World.cell?_alloc_past _ _ _ hb2).trans (HE.out.2.2.2 i h))
        generalize firstFrom R k' 0 len = F at hfc ⊢
        generalize valAt R F = vr at hfc ⊢
        generalize valAt M F = vm at hfc ⊢
        generalize foundAt F = vo at hfc ⊢
        have heq := fun (w : World) (r : Option Addr) (n c : Nat) => Lib.run_eql_slice_nil (P := Yba.prog) w 23 25 r n c 0 0 Yba.underlying23
        go_wp2_with (go_at_call 4; refine hfc.mono ?_; rintro e w3 ⟨rfl, hb3⟩; obtain ⟨hz3, h30, h31⟩ := want_kept hb3)
        have hbw : Below w2.heap.size w2 w3 := ((Below.refl w2.heap.size w2).alloc (Nat.le_refl _) (.cells #[.int .i64 vr, .int .i64 vm] 25)).trans (hb3.mono (by simp))
        clear hfc heq h30 h31 hb3
        go_loopw [13] (fun i wr => ∃ j : Nat, j ≤ len ∧ i = .int .i64 j ∧ Below w2.heap.size w2 wr) (fun i _ => len - (intOf i).toNat)
        case atStart => exact ⟨0, Nat.zero_le _, rfl, hbw.alloc (by omega) _⟩
        case round =>
          obtain ⟨j, hj, rfl, hbr⟩ := hrel
          by_cases hlt : j < len
          · have d0 : wr.cell? ⟨wc.heap.size, j * 2, none⟩ = some (.int .i64 (R j)) := (hbr.cell (by exact hg2)).trans (HE.out.1 j hlt)
            have d1 : wr.cell? ⟨wc.heap.size, j * 2 + 1, none⟩ = some (.int .i64 (M j)) := (hbr.cell (by exact hg2)).trans (HE.out.2.1 j hlt)
            have d2 : wr.cell? ⟨b, off + j * 2, none⟩ = some (.int .i64 (R j)) := (hbr.cell (by exact hb2)).trans (HE.out.2.2.1 j hlt)
            have d3 : wr.cell? ⟨b, off + j * 2 + 1, none⟩ = some (.int .i64 (M j)) := (hbr.cell (by exact hb2)).trans (HE.out.2.2.2 j hlt)
            go_wp2_with fail
            go_quiet (fail)
            go_wp2
            go_roundw
            case rel => exact ⟨j + 1, by omega, by go_num, below_drewN hbr nq⟩
            case measure => simp [intOf]; omega
          · go_wp2_with fail
            go_ret
            exact ⟨rfl, hbel2.trans (hbr.mono (by omega))⟩
      · obtain ⟨m, rfl⟩ : ∃ m, j = m + 1 := ⟨j - 1, by omega⟩
        have hij' : _ = Value.int .i64 (m : Int) := hij.trans (by congr 1; omega)
        clear hij
        subst hij'
        have d0 := HE.out.1 m (by omega)
        have d1 := HE.out.2.1 m (by omega)
        by_cases hk : R m = k'
        · have hkb : (R m == k') = true := by simp [hk]
          have HF := first_hit (show m < len by omega) hk
          have HF' : Hid (firstFrom R k' m (len - m) = some m) := HF
          clear HF hk
          go_wp2
          go_roundw
          case rel => exact ⟨m, by omega, by go_num, by rw [HF'.out]; rfl, by rw [HF'.out]; rfl⟩
          case measure => simp [intOf]
        · have hkb : (R m == k') = false := by simp [hk]
          have HF := first_miss (show m < len by omega) hk
          have HF' : Hid (firstFrom R k' m (len - m) = firstFrom R k' (m + 1) (len - (m + 1))) := HF
          clear HF hk
          go_wp2
          go_roundw
          case rel => exact ⟨m, by omega, by go_num, by rw [HF'.out], by rw [HF'.out]⟩
          case measure => simp [intOf]

set_option maxRecDepth 100000 in
set_option maxHeartbeats 1000000 in
theorem law_nil (k pick : Int) (w : World) (hp : 0 ≤ pick) :
    Calls Yba.prog 3 #[.int .i64 k, .int .u64 pick, .slice none 0 0] w fun e w' => e = .returned (.bool true) ∧ Below w.heap.size w w' := by
  have hnil := fun (w : World) (r : Option Addr) (n c : Nat) => run_neq_slice_nil_any (P := Yba.prog) w 23 25 r n c 0 0 Yba.underlying23
  have heq := fun (w : World) (r : Option Addr) (n c : Nat) => Lib.run_eql_slice_nil (P := Yba.prog) w 23 25 r n c 0 0 Yba.underlying23
  go_enter Yba.func3, Yba.ntmps3
  go_upto_region 3 with fail
  go_cut [24] (fun v wx => v = .bool false ∧ wx = w)
  case first =>
    go_wp2
    all_goals
      go_meet
      case rel => exact ⟨rfl, rfl⟩
  case rest =>
  obtain ⟨rfl, rfl⟩ := hcut
  go_wp2_with fail
  refine wp_loop_rounds 1 ?_
  rw [rounds_succ]
  go_wp2_with (go_at_call 4; refine (forge_none _ _ _ _).mono ?_; rintro e w3 ⟨rfl, hb3⟩; obtain ⟨hz3, h30, h31⟩ := want_kept hb3)
  refine wp_loop_rounds 1 ?_
  rw [rounds_succ]
  go_wp2
  go_ret
  exact ⟨rfl, (((Below.refl wc.heap.size wc).alloc (Nat.le_refl _) _).trans (hb3.mono (by simp))).alloc (by omega) _⟩

set_option maxRecDepth 100000 in
set_option maxHeartbeats 1000000 in
theorem law_empty (k pick : Int) (ad : Addr) (cap : Nat) (w : World) (hp : 0 ≤ pick) :
    Calls Yba.prog 3 #[.int .i64 k, .int .u64 pick, .slice (some ad) 0 cap] w fun e w' => e = .returned (.bool true) ∧ Below w.heap.size w w' := by
  have hnil := fun (w : World) (r : Option Addr) (n c : Nat) => run_neq_slice_nil_any (P := Yba.prog) w 23 25 r n c 0 0 Yba.underlying23
  have heq := fun (w : World) (r : Option Addr) (n c : Nat) => Lib.run_eql_slice_nil (P := Yba.prog) w 23 25 r n c 0 0 Yba.underlying23
  obtain ⟨i0, hi, hz0, hz1, hz2⟩ := info_parts Yba.info25
  have hsz25 : (Yba.prog.info? 25).map (·.size) = some 2 := by kernel_rfl
  have HS : Hid ((Yba.prog.info? 25).map (·.size) = some 2) := hsz25
  clear hsz25
  go_enter Yba.func3, Yba.ntmps3
  go_upto_region 3 with fail
  go_cut [24] (fun v wx => v = .bool false ∧ wx = w)
  case first =>
    go_wp2
    all_goals
      go_meet
      case rel => exact ⟨rfl, rfl⟩
  case rest =>
  obtain ⟨rfl, rfl⟩ := hcut
  go_wp2_with (first
      | (at_make; refine wpList_make_full _ rfl _ _ 23 rfl wc.heap.size 25 i0 (.agg #[.int .i64 0, .int .i64 0]) 2 Yba.underlying23 hi hz0 hz1 _ _ _ _ 0 rfl rfl rfl rfl (by rw [hz2]; omega) (by unfold maxLen; omega) (Nat.le_refl _) ?_; intro w1 hown hgrow; obtain ⟨cur, hcur, hcs⟩ := own_block hown; clear hown; have tok : True := trivial)
      | (have _t := tok; refine wpList_copy_all rfl _ _ 23 23 rfl 25 Yba.underlying23 2 HS.out wc.heap.size 0 0 ad cap rfl rfl cur 25 hcur [] rfl hcs (by simp) (by simp) ?_; intro w2 hrow hgrow2 hsz2; clear tok hsz2))
  refine wp_loop_rounds 1 ?_
  rw [rounds_succ]
  go_wp2_with (go_at_call 4; refine (forge_none _ _ _ _).mono ?_; rintro e w3 ⟨rfl, hb3⟩; obtain ⟨hz3, h30, h31⟩ := want_kept hb3)
  refine wp_loop_rounds 1 ?_
  rw [rounds_succ]
  go_wp2
  go_ret
  have hbel2 : Below wc.heap.size wc w2 := ((Below.refl wc.heap.size wc).grown hgrow (Nat.le_refl _) (by simp)).grown hgrow2 hgrow.size (fun k hk => by cases hk; exact Nat.le_refl _)
  have hs2 := hbel2.size
  exact ⟨rfl, ((hbel2.alloc hs2 _).trans (hb3.mono (by simp; omega))).alloc (by omega) _⟩

end Go.Proofs.Ybulkdupi
