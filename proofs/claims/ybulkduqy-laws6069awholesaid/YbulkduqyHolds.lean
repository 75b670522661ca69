import Derived.Test.YbulkduqyNew
namespace Go.Proofs.Ybulkduqy
open Go.RowKit

theorem ret_bool {a b : Bool} (h : a = b) : Ending.returned (.bool a) = .returned (.bool b) := by rw [h]

/-- Is one of the first n times before t? -/
def anyB (f : Nat → Int) (n : Nat) (t : Int) : Bool := (List.range n).any fun i => decide (f i < t)
theorem anyB_true {f : Nat → Int} {n i : Nat} {t : Int} (hi : i < n) (h : f i < t) : anyB f n t = true := by
  simp only [anyB, List.any_eq_true, List.mem_range, decide_eq_true_eq]
  exact ⟨i, hi, h⟩
theorem anyB_false {f : Nat → Int} {n : Nat} {t : Int} (h : ∀ i, i < n → t ≤ f i) : anyB f n t = false := by
  simp only [anyB, List.any_eq_false, List.mem_range, decide_eq_true_eq]
  exact fun i hi => Int.not_lt.2 (h i hi)

theorem Sc.below {B n : Nat} {w w' : World} {M : Value → Value → Prop} (h : Sc B w n M) (hb : Below w.heap.size w w') : Sc B w' n M :=
  ⟨(hb.block _ (lt_of_some h.hd)).trans h.hd, h.is.of_block (hb.block _ h.is.lt), h.ids.of_block (hb.block _ h.ids.lt)⟩

set_option maxRecDepth 100000 in
set_option maxHeartbeats 400000 in
theorem hold_any {B n len : Nat} {f : Nat → Int} (t : Int) (w : World) (h : Sc B w n (Mt f len)) :
    Calls Yba.prog 6 #[.pointer (some ⟨B + 3, 0, none⟩), .int .i64 t] w fun e w' => e = .returned (.bool (anyB f len t)) ∧ Below w.heap.size w w' := by
  have c2 : w.cell? ⟨B + 3, 14, none⟩ = some (.map (some (B + 1))) := cell_of h.hd rfl
  go_enter Yba.func6, Yba.ntmps6
  go_wp2_with (at_range; refine Raw.wpList_range _ rfl _ 47 rfl 2 34 Yba.underlying47 (B + 1) n (Mt f len) rfl h.is ?_; intro w3 hit hg3 hs3)
  go_frame
  have hb3 : Below w.heap.size w w3 := (Below.refl _ _).grown hg3 (Nat.le_refl _) (by simp)
  clear c2 hg3 hs3
  obtain ⟨r, hr⟩ : ∃ r, r = w.heap.size := ⟨_, rfl⟩
  rw [← hr] at hit ⊢
  have HRr : Hid (r = w.heap.size) := hr
  clear hr
  go_loopw [5] (fun _ wr => ∃ (left : Value → Prop) (cnt : Nat), Raw.Iter wr (B + 1) r n (Mt f len) left cnt ∧ Below w.heap.size w wr ∧ Hid (∀ i, i < len → ¬ left (.int .i64 (f i)) → t ≤ f i)) (fun _ wr => wr.rangeLeft (B + 1) r)
  case atStart => exact ⟨_, _, hit, hb3, fun i _ hn => absurd trivial hn⟩
  case round =>
    clear hit hb3
    obtain ⟨left, cnt, hit, hbl, HN⟩ := hrel
    have inv : ∀ key v, Mt f len key v → ∃ x : Int, key = Value.int .i64 x ∧ v = Value.pointer none := by
      rintro key v ⟨i, hi, rfl, rfl⟩
      exact ⟨_, rfl, rfl⟩
    go_wp2_with (at_next; refine Raw.wpList_next _ rfl _ rfl (fun x : Int => Value.int .i64 x) (fun _ => Value.pointer none) (B + 1) r n (Mt f len) left cnt inv rfl hit ?_ ?_)
    · intro hl0
      go_wp2
      go_ret
      exact ⟨ret_bool (anyB_false fun i hi => HN.out i hi (hl0 _ _ ⟨i, hi, rfl, rfl⟩)).symm, hbl⟩
    · intro x w4 cnt' hm hlx hit' hcnt hg4 hs4 hen
      obtain ⟨i, hi, hix, _⟩ := hm
      obtain rfl : x = f i := by simpa using hix
      clear hix
      have hbl4 : Below w.heap.size w w4 := hbl.grown hg4 hbl.size (fun k hk => by cases hk; exact Nat.le_of_eq HRr.out.symm)
      by_cases hlt : f i < t
      · have HL : Hid (f i < t) := hlt
        go_wp2
        go_ret
        exact ⟨ret_bool (anyB_true hi HL.out).symm, hbl4⟩
      · have HX : Hid (t ≤ f i) := Int.not_lt.1 hlt
        have HI : Hid (Raw.Iter w4 (B + 1) r n (Mt f len) (fun y => left y ∧ y ≠ Value.int .i64 (f i)) cnt' ∧ cnt' < cnt ∧ wr.rangeLeft (B + 1) r = cnt) := ⟨hit', hcnt, hit.left_eq⟩
        clear hit' hcnt hit hg4 hs4
        go_wp2
        go_roundw
        case rel =>
          refine ⟨_, _, HI.out.1, hbl4, fun j hj hnl => ?_⟩
          by_cases e : f j = f i
          · rw [e]; exact HX.out
          · exact HN.out j hj (fun hl => hnl ⟨hl, fun h => e (by simpa using h)⟩)
        case measure => rw [HI.out.1.left_eq, HI.out.2.2]; exact HI.out.2.1
end Go.Proofs.Ybulkduqy
