import Derived.Test.YbulkdupwClo
namespace Go.Proofs.Ybulkdupw
open Go.RowKit

set_option maxRecDepth 100000 in
set_option maxHeartbeats 1000000 in
theorem clo_any {X Q0 R0 T L m n lb lq lr cq cr ln lc : Nat} {aq ar ls : Option Addr} {fb fq fr : Nat → ByteArray} {every : Bool} {G : List Value} {w : World}
    (hv : Vars X w 0 (.slice none 0 0) false false (.slice none 0 0) (.slice none 0 0))
    (hQ : w.heap[Q0]? = some (.cells #[.slice aq lq cq] 23 (0, 0))) (hQX : Q0 < X) (hR : w.heap[R0]? = some (.cells #[.slice ar lr cr] 23 (0, 0))) (hRX : R0 < X)
    (tq : TextsB X w aq lq fq) (tr : TextsB X w ar lr fr) (hlq : lq ≤ 4096) (hlr : lr ≤ 4096)
    (hT : w.cell? ⟨T, 0, none⟩ = some (.pointer (some ⟨L, 0, none⟩))) (hTX : X + 6 ≤ T) (hL : w.cell? ⟨L, 8, none⟩ = some (.map (some m))) (hLX : L < X) (hM : Raw.Is w m n (Mp fb lb)) (hmX : m < X)
    (hleft : Left X w ls ln lc G) :
    Calls Yba.prog 5 #[.slice ls ln lc, .bool every, .func (.func 9) #[] #[.pointer (some ⟨T, 0, none⟩)], .pointer (some ⟨X, 0, none⟩), .pointer (some ⟨X + 2, 0, none⟩), .pointer (some ⟨X + 1, 0, none⟩), .pointer (some ⟨X + 3, 0, none⟩),
      .pointer (some ⟨Q0, 0, none⟩), .pointer (some ⟨X + 4, 0, none⟩), .pointer (some ⟨R0, 0, none⟩), .pointer (some ⟨X + 5, 0, none⟩)] w fun e w' =>
      e = .returned (.tuple #[]) ∧ ∃ gl hq hr, Vars X w' 1 gl ls.isNone every hq hr ∧ Out X w w' ∧ w'.ownsRow w.heap.size 36 5 gl ln G ∧ w'.ownsRow w.heap.size 4 1 hq lq (answers fb lb fq lq) ∧ w'.ownsRow w.heap.size 4 1 hr lr (answers fb lb fr lr) := by
  have hXl := hv.lt
  have c0 : w.cell? ⟨X, 0, none⟩ = some (.int .i64 0) := cell_of hv.v0 rfl
  have f0 : w.frozen? ⟨X, 0, none⟩ = false := frozen_of hv.v0
  have c2 : w.cell? ⟨X + 2, 0, none⟩ = some (.bool false) := cell_of hv.v2 rfl
  have f2 : w.frozen? ⟨X + 2, 0, none⟩ = false := frozen_of hv.v2
  have c1 : w.cell? ⟨X + 1, 0, none⟩ = some (.slice none 0 0) := cell_of hv.v1 rfl
  have f1 : w.frozen? ⟨X + 1, 0, none⟩ = false := frozen_of hv.v1
  have heq := fun (w : World) (r : Option Addr) (n c : Nat) => Lib.run_eql_slice_nil (P := Yba.prog) w 25 36 r n c 0 0 Yba.underlying25
  obtain ⟨i6, h6, z60, z61, z62⟩ := info_parts Yba.info36
  go_enter Yba.func5, Yba.ntmps5
  go_upto_region 2 with fail
  go_cut [] (fun wx => ∃ gl, Phase1 X w (wx.setCell ⟨X + 3, 0, none⟩ (.bool every)) ls ln G every gl ∧ wx.cell? ⟨X + 3, 0, none⟩ = some (.bool false) ∧ wx.frozen? ⟨X + 3, 0, none⟩ = false)
  case first =>
    rcases hleft with ⟨rfl, rfl, rfl, rfl⟩ | ⟨g, o, rfl, hln, hln4, hGl, hGc, hG1, hgX⟩
    · have HP := phase1_end (w1 := (w.setCell ⟨X, 0, none⟩ (.int .i64 1)).setCell ⟨X + 2, 0, none⟩ (.bool true)) (ls := none) (ln := 0) (G := []) (every := every) hv (grown_refl _ _) (World.ownsRow_nil _ _ _ _)
      go_wp2
      go_meet
      case rel => exact ⟨_, HP, phase1_c3 hv (grown_refl _ _)⟩
    · go_wp2_with (at_builtin; refine wpList_append_lies _ rfl _ _ 25 rfl w.heap.size 36 i6 (kv ⟨#[]⟩) 5 48 Yba.underlying25 h6 z60 z61 z62 rfl (by decide) (.slice none 0 0) 0 [] rfl (World.ownsRow_nil _ _ _ _) ⟨g, o, none⟩ ln lc G rfl hGl (left_cells hGc hgX) hG1 hln (by unfold maxLen; omega) (by omega) (by simp) _ rfl ?_; intro g1 cap1 w1 hown1 hgrow1 hat1 hlt1; have k1 := phase1_c1 hv hgrow1)
      go_meet
      case rel => exact ⟨_, phase1_end hv hgrow1 (by simpa using hown1), phase1_c3 hv hgrow1⟩
  case rest =>
    obtain ⟨gl, ⟨hv1, hout1, hgl1⟩, c3, f3⟩ := hcut
    have q0 : wc.cell? ⟨Q0, 0, none⟩ = some (.slice aq lq cq) := (World.cell?_setCell_other wc ⟨X + 3, 0, none⟩ ⟨Q0, 0, none⟩ (.bool every) (fun e => by cases e; omega)).symm.trans ((hout1.cell (lt_of_some hQ) (Or.inl hQX)).trans (cell_of hQ rfl))
    clear c0 c1 c2 f0 f1 f2 heq h6 z60 z61 z62 hleft
    obtain ⟨i4, h4, z40, z41, z42⟩ := info_parts Yba.info4
    go_wp2
    go_loopw [27] (fun i wr => ∃ (j : Nat) (hq : Value), j ≤ lq ∧ i = .int .i64 j ∧ Vars X wr 1 gl ls.isNone every hq (.slice none 0 0) ∧ Out X w wr ∧ wr.ownsRow w.heap.size 36 5 gl ln G ∧ wr.ownsRow w.heap.size 4 1 hq j (answers fb lb fq j)) (fun i _ => lq - (intOf i).toNat)
    case atStart => exact ⟨0, _, Nat.zero_le _, rfl, hv1, hout1, hgl1, World.ownsRow_nil _ _ _ _⟩
    case round =>
      clear hv1 hout1 hgl1 q0 c3 f3
      obtain ⟨j, hq, hj, rfl, hvr, hor, hglr, hown⟩ := hrel
      by_cases hlt : j < lq
      · obtain ⟨b, off, rfl, hbX, hbc⟩ := tq (by omega)
        have d0 : wr.cell? ⟨b, off + j, none⟩ = some (.string (fq j)) := (hor.cell (by omega) (Or.inl hbX)).trans (hbc j hlt)
        have c4 : wr.cell? ⟨X + 4, 0, none⟩ = some hq := cell_of hvr.v4 rfl
        have f4 : wr.frozen? ⟨X + 4, 0, none⟩ = false := frozen_of hvr.v4
        clear hbc
        go_upto_region 7 with fail
        have hTr : wr.cell? ⟨T, 0, none⟩ = some (.pointer (some ⟨L, 0, none⟩)) := (hor.cell (lt_of_cell hT) (Or.inr hTX)).trans hT
        have hLr : wr.cell? ⟨L, 8, none⟩ = some (.map (some m)) := (hor.cell (lt_of_cell hL) (Or.inl hLX)).trans hL
        have hMr : Raw.Is wr m n (Mp fb lb) := hM.of_block (hor.block m hM.lt (Or.inl hmX))
        have HC : Hid (Calls Yba.prog 9 #[kv (fq j), .pointer (some ⟨T, 0, none⟩)] wr.drew fun e w' => e = .returned (.bool (hasB fb lb (fq j))) ∧ Below wr.drew.heap.size wr.drew w') := held_any (fq j) wr.drew hTr hLr hMr
        have hbs := hor.size
        clear hTr hLr hMr
        go_region_law (first
          | (refine step_call_held rfl _ _ 36 rfl T rfl (fq j) rfl (hasB fb lb (fq j)) HC.out ?_; intro w1 hb0; have hb1 := below_of_drew hb0; clear hb0; have c5 := (hb1.cell (p := ⟨X + 4, 0, none⟩) (by exact hvr.lt4)).trans c4; have s5 : X + 4 < w1.heap.size := Nat.lt_of_lt_of_le hvr.lt4 hb1.size)
          | (refine step_append_lies _ rfl _ _ 67 rfl w.heap.size 4 i4 (.bool false) 1 1 Yba.underlying67 h4 z40 z41 z42 rfl (by decide) hq j (answers fb lb fq j) rfl (own_mid _ hown hb1) ⟨w1.heap.size, 0, none⟩ 1 1 [.bool (hasB fb lb (fq j))] rfl rfl (cell_one_new _ _ _) (by simp [Value.oneCell']) (by omega) (by unfold maxLen; omega) (by omega) (by have := hb1.size; simp; omega) _ rfl ?_; intro g1 cap1 w2 hown2 hgr2 hat2 hlt2; obtain ⟨hv2, ho2, hgl2⟩ := push_mid hvr hor hglr hown (Nat.le_refl _) hXl hb1 hgr2; have c6 : w2.cell? ⟨X + 4, 0, none⟩ = some hq := cell_of hv2.v4 rfl; have f6 := frozen_of (i := 0) hv2.v4))
        all_goals
          go_wp2
          go_roundw
          case rel => exact ⟨j + 1, _, by omega, by go_num, hv2.set4 _, ho2.step (setCell_grown _ _ _) (by simp), ownsRow_setCell hgl2 (by simp; omega) _, by rw [answers_succ]; exact ownsRow_setCell hown2 (by simp; omega) _⟩
          case measure => simp [intOf]; omega
      · have ej : lq = j := by omega
        subst ej
        have q1 : wr.cell? ⟨R0, 0, none⟩ = some (.slice ar lr cr) := (hor.cell (lt_of_some hR) (Or.inl hRX)).trans (cell_of hR rfl)
        go_wp2
        have hqs : w.heap.size ≤ wr.heap.size := hor.size
        have hql : ∀ g, hq.ownBlock = some g → g < wr.heap.size := fun g hg => (own_ge hown g hg).2
        obtain ⟨wq, rfl⟩ : ∃ wq : World, wq = wr := ⟨_, rfl⟩
        go_loopw [41] (fun i wr => ∃ (j : Nat) (hr : Value), j ≤ lr ∧ i = .int .i64 j ∧ Vars X wr 1 gl ls.isNone every hq hr ∧ Out X w wr ∧ wr.ownsRow w.heap.size 36 5 gl ln G ∧ wr.ownsRow w.heap.size 4 1 hq lq (answers fb lb fq lq) ∧ wr.ownsRow wq.heap.size 4 1 hr j (answers fb lb fr j) ∧ wq.heap.size ≤ wr.heap.size) (fun i _ => lr - (intOf i).toNat)
        case atStart => exact ⟨0, _, Nat.zero_le _, rfl, hvr, hor, hglr, hown, World.ownsRow_nil _ _ _ _, Nat.le_refl _⟩
        case round =>
          clear hvr hor hglr hown q1
          obtain ⟨j, hr, hj, rfl, hvr, hor, hglr, hqr, hown, hsz⟩ := hrel
          by_cases hlt : j < lr
          · obtain ⟨b, off, rfl, hbX, hbc⟩ := tr (by omega)
            have d0 : wr.cell? ⟨b, off + j, none⟩ = some (.string (fr j)) := (hor.cell (by omega) (Or.inl hbX)).trans (hbc j hlt)
            have c4 : wr.cell? ⟨X + 5, 0, none⟩ = some hr := cell_of hvr.v5 rfl
            have f4 : wr.frozen? ⟨X + 5, 0, none⟩ = false := frozen_of hvr.v5
            clear hbc
            go_upto_region 12 with fail
            have hTr : wr.cell? ⟨T, 0, none⟩ = some (.pointer (some ⟨L, 0, none⟩)) := (hor.cell (lt_of_cell hT) (Or.inr hTX)).trans hT
            have hLr : wr.cell? ⟨L, 8, none⟩ = some (.map (some m)) := (hor.cell (lt_of_cell hL) (Or.inl hLX)).trans hL
            have hMr : Raw.Is wr m n (Mp fb lb) := hM.of_block (hor.block m hM.lt (Or.inl hmX))
            have HC : Hid (Calls Yba.prog 9 #[kv (fr j), .pointer (some ⟨T, 0, none⟩)] wr.drew fun e w' => e = .returned (.bool (hasB fb lb (fr j))) ∧ Below wr.drew.heap.size wr.drew w') := held_any (fr j) wr.drew hTr hLr hMr
            have hbs := hor.size
            clear hTr hLr hMr
            go_region_law (first
              | (refine step_call_held rfl _ _ 36 rfl T rfl (fr j) rfl (hasB fb lb (fr j)) HC.out ?_; intro w1 hb0; have hb1 := below_of_drew hb0; clear hb0; have c5 := (hb1.cell (p := ⟨X + 5, 0, none⟩) (by exact hvr.lt)).trans c4; have s5 : X + 5 < w1.heap.size := Nat.lt_of_lt_of_le hvr.lt hb1.size)
              | (refine step_append_lies _ rfl _ _ 67 rfl wq.heap.size 4 i4 (.bool false) 1 1 Yba.underlying67 h4 z40 z41 z42 rfl (by decide) hr j (answers fb lb fr j) rfl (own_mid _ hown hb1) ⟨w1.heap.size, 0, none⟩ 1 1 [.bool (hasB fb lb (fr j))] rfl rfl (cell_one_new _ _ _) (by simp [Value.oneCell']) (by omega) (by unfold maxLen; omega) (by omega) (by have := hb1.size; simp; omega) _ rfl ?_; intro g1 cap1 w2 hown2 hgr2 hat2 hlt2; obtain ⟨hv2, ho2, hgl2⟩ := push_mid hvr hor hglr hown hqs hXl hb1 hgr2; have hq2 := push_q hqr hown hql hb1 hgr2; have hs2 := hgr2.size; have c6 : w2.cell? ⟨X + 5, 0, none⟩ = some hr := cell_of hv2.v5 rfl; have f6 := frozen_of (i := 0) hv2.v5))
            all_goals
              go_wp2
              go_roundw
              case rel => exact ⟨j + 1, _, by omega, by go_num, hv2.set5 _, ho2.step (setCell_grown _ _ _) (by simp), ownsRow_setCell hgl2 (by simp; omega) _, ownsRow_setCell hq2 (by simp; omega) _, by rw [answers_succ]; exact ownsRow_setCell hown2 (by simp; omega) _, by have := hb1.size; simp at hs2 ⊢; omega⟩
              case measure => simp [intOf]; omega
          · have ej : lr = j := by omega
            subst ej
            go_wp2
            go_end0
            exact ⟨rfl, gl, hq, hr, hvr, hor, hglr, hqr, own_lower hown hqs⟩
end Go.Proofs.Ybulkdupw
