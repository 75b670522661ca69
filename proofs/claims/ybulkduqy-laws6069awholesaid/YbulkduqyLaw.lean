import Derived.Test.YbulkduqyHolds
import Derived.Deep.CutBlock
namespace Go.Proofs.Ybulkduqy
open Go.RowKit

theorem anyB_succ_true {f : Nat → Int} {n : Nat} {t : Int} (h : f n < t) : anyB f (n + 1) t = true := anyB_true (Nat.lt_succ_self n) h
theorem anyB_succ_same {f : Nat → Int} {n : Nat} {t : Int} (h : ¬ f n < t) : anyB f (n + 1) t = anyB f n t := by
  simp [anyB, List.range_succ, h]

theorem look_time {w : World} {m n len : Nat} {f : Nat → Int} (h : Raw.Is w m n (Mt f len)) {j : Nat} (hj : j < len) :
    (Instr.lookup 47 (.map (some m)) (.int .i64 (f j)) true).run Yba.prog w = .ok (.tuple #[.pointer none, .bool true]) w := by
  have := h.look_at true (keyI w) Mt_key Yba.underlying47 (Yba.zeroValue34 w) (key := .int .i64 (f j)) (v := .pointer none) ⟨_, rfl⟩ ⟨j, hj, rfl, rfl⟩
  simpa using this

theorem law_big (ao : Option Addr) (len cap : Nat) (t : Int) (w : World) (h : ¬ len ≤ 1048576) :
    Calls Yba.prog 3 #[.slice ao len cap, .int .i64 t] w fun e w' => e = .returned (.bool true) ∧ Below w.heap.size w w' := by
  have h1 : (1048576 : Int) < (len : Int) := by omega
  clear h
  go_enter Yba.func3, Yba.ntmps3
  go_wp2
  go_ret
  exact ⟨rfl, Below.refl _ _⟩

set_option maxRecDepth 100000 in
set_option maxHeartbeats 1000000 in
theorem law_small (ao : Option Addr) (b off len cap : Nat) (t : Int) (f : Nat → Int) (w : World) (hlen : len ≤ 1048576) (hao : 0 < len → ao = some ⟨b, off, none⟩) (hb : 0 < len → b < w.heap.size) (hc : ∀ i, i < len → w.cell? ⟨b, off + i, none⟩ = some (.int .i64 (f i))) :
    Calls Yba.prog 3 #[.slice ao len cap, .int .i64 t] w fun e w' => e = .returned (.bool true) ∧ Below w.heap.size w w' := by
  have h1 : ¬ (1048576 : Int) < (len : Int) := by omega
  have HC : Hid (∀ i, i < len → w.cell? ⟨b, off + i, none⟩ = some (.int .i64 (f i))) := hc
  clear hc
  go_enter Yba.func3, Yba.ntmps3
  go_wp2_with (go_at_call 5; refine (new_any w).mono ?_; rintro e w1 ⟨rfl, hsc, hbl⟩)
  obtain ⟨B, hB⟩ : ∃ B, B = w.heap.size := ⟨_, rfl⟩
  rw [← hB] at hsc hb ⊢
  have HW : Hid (B = w.heap.size) := hB
  have hbl1 : Below B w w1 := by rw [hB]; exact hbl
  clear hB hbl h1
  go_loopw [24] (fun i wr => ∃ j n : Nat, j ≤ len ∧ i = .int .i64 j ∧ Sc B wr n (Mt f j) ∧ Below B w wr) (fun i _ => len - (intOf i).toNat)
  case atStart => exact ⟨0, 0, Nat.zero_le _, rfl, ⟨hsc.hd, hsc.is.congr Mt_zero, hsc.ids⟩, hbl1⟩
  case round =>
    clear hsc hbl1
    obtain ⟨j, n, hj, rfl, hsc, hbl⟩ := hrel
    by_cases hlt : j < len
    · obtain rfl := hao (by omega)
      have hct : wr.cell? ⟨b, off + j, none⟩ = some (.int .i64 (f j)) := (hbl.cell (p := ⟨b, off + j, none⟩) (hb (by omega))).trans (HC.out j hlt)
      have c2 : wr.cell? ⟨B + 3, 14, none⟩ = some (.map (some (B + 1))) := cell_of hsc.hd rfl
      go_wp2_with (at_mapUpdate; refine Raw.wpList_store _ rfl _ _ _ 47 rfl 2 34 IsI (keyI _) Yba.underlying47 (B + 1) n (Mt f j) Mt_key rfl hsc.is (.int .i64 (f j)) (.pointer none) rfl rfl ⟨_, rfl⟩ ?_; intro w5 n' a1 a2 _ _ _)
      go_roundw
      case rel => exact ⟨j + 1, n', by omega, by go_num, ⟨(a2.block _ (lt_of_some hsc.hd) (by simp)).trans hsc.hd, a1.congr Mt_put, hsc.ids.kept a2 (by simp)⟩, hbl.grown a2 (by have := hsc.is.lt; omega) (fun k hk => by cases hk; omega)⟩
      case measure => simp [intOf]; omega
    · obtain rfl : len = j := by omega
      have c2 : wr.cell? ⟨B + 3, 14, none⟩ = some (.map (some (B + 1))) := cell_of hsc.hd rfl
      have hln := fun ty => hsc.is.len Yba.underlying47 ty
      go_wp2_with fail
      clear c2 hln
      go_loopw [9, 41] (fun s i ws => ∃ j : Nat, j ≤ len ∧ i = .int .i64 j ∧ s = .bool (anyB f j t) ∧ ws = wr) (fun _ i _ => len - (intOf i).toNat)
      case atStart => exact ⟨0, Nat.zero_le _, rfl, rfl, rfl⟩
      case round =>
        rename_i ws0
        obtain ⟨j, hj, rfl, rfl, rfl⟩ := hrel
        by_cases hlt2 : j < len
        · obtain rfl := hao (by omega)
          have hct := (hbl.cell (p := ⟨b, off + j, none⟩) (hb (by omega))).trans (HC.out j hlt2)
          by_cases hf : f j < t
          · have HF := anyB_succ_true hf
            go_wp2
            go_roundw
            case rel => exact ⟨j + 1, by omega, by go_num, by rw [HF], by trivial⟩
            case measure => simp [intOf]; omega
          · have HF := anyB_succ_same hf
            have HF : Hid (anyB f (j + 1) t = anyB f j t) := HF
            go_wp2
            go_roundw
            case rel => exact ⟨j + 1, by omega, by go_num, by rw [HF.out], by trivial⟩
            case measure => simp [intOf]; omega
        · obtain rfl : len = j := by omega
          have hxx : (anyB f len t != anyB f len t) = false := by simp
          have hnn : ((n : Int) != (n : Int)) = false := by simp
          go_wp2_with (go_at_call 6; refine (hold_any t _ hsc).mono ?_; rintro e w6 ⟨rfl, hb6⟩; have hsc6 := hsc.below hb6; have c2 : w6.cell? ⟨B + 3, 14, none⟩ = some (.map (some (B + 1))) := cell_of hsc6.hd rfl; have hln := fun ty => hsc6.is.len Yba.underlying47 ty)
          have hsc6 := hsc.below hb6
          clear hln hxx hnn
          have hbl6 : Below B w w6 := hbl.trans (hb6.mono (by have := hsc.is.lt; omega))
          clear hsc hbl hb6
          go_loopw [64] (fun i ws => ∃ j : Nat, j ≤ len ∧ i = .int .i64 j ∧ ws = w6) (fun i _ => len - (intOf i).toNat)
          case atStart => exact ⟨0, Nat.zero_le _, rfl, rfl⟩
          case round =>
            rename_i ws1
            obtain ⟨j, hj, rfl, rfl⟩ := hrel
            by_cases hlt3 : j < len
            · obtain rfl := hao (by omega)
              have hct := (hbl6.cell (p := ⟨b, off + j, none⟩) (hb (by omega))).trans (HC.out j hlt3)
              have hlk := look_time hsc6.is hlt3
              go_wp2
              go_roundw
              case rel => exact ⟨j + 1, by omega, by go_num, by trivial⟩
              case measure => simp [intOf]; omega
            · obtain rfl : len = j := by omega
              have c18 := cell_of (i := 18) (v := .int .i64 (-9223372036854775808)) hsc6.hd rfl
              have c17 := cell_of (i := 17) (v := .int .i64 0) hsc6.hd rfl
              have c15 := cell_of (i := 15) (v := .int .u64 0) hsc6.hd rfl
              have c20 := cell_of (i := 20) (v := .slice none 0 0) hsc6.hd rfl
              have c16 := cell_of (i := 16) (v := .map (some (B + 2))) hsc6.hd rfl
              have hli := fun ty => hsc6.ids.len Yba.underlying49 ty
              go_wp2
              go_ret
              refine ⟨rfl, ?_⟩
              rw [← HW.out]
              exact hbl6
end Go.Proofs.Ybulkduqy
