import Derived.Test.YbulkdunsRows
import Derived.Test.YbulkdunsBits
import Derived.WalkKit
import Derived.WalkSpells
import Derived.OpenShut
import Derived.Deep.DeepCutAuto
import Derived.Deep.CutBlock
namespace Go.Proofs.Ybulkduns
open Go.RowKit

/-- A time without its monotonic part. -/
def tmv (x q : Int) : Value := .agg #[.int .u64 x, .int .i64 q, .pointer none]

theorem high_x (x : Int) (hx0 : 0 ≤ x) (hx : x < 1000000000) : bits .and .u64 x 9223372036854775808 = 0 := by
  have := high_and x.toNat (by omega)
  rwa [Int.toNat_of_nonneg hx0] at this

set_option maxRecDepth 100000 in
set_option maxHeartbeats 800000 in
theorem addSec_any (b : Nat) (x q : Int) (w : World) (hx0 : 0 ≤ x) (hx : x < 1000000000) (hq1 : -10000000000 ≤ q) (hq2 : q ≤ 10000000000)
    (c0 : w.cell? ⟨b, 0, none⟩ = some (.int .u64 x)) (c1 : w.cell? ⟨b, 1, none⟩ = some (.int .i64 0)) (f1 : w.frozen? ⟨b, 1, none⟩ = false) :
    Calls Yba.prog 19 #[.pointer (some ⟨b, 0, none⟩), .int .i64 q] w fun e w' => e = .returned (.tuple #[]) ∧ w' = w.setCell ⟨b, 1, none⟩ (.int .i64 q) := by
  have b3 := high_x x hx0 hx
  go_enter Yba.func19, Yba.ntmps19
  go_wp2_with fail
  go_end0
  exact ⟨rfl, rfl⟩

set_option maxRecDepth 100000 in
set_option maxHeartbeats 800000 in
theorem add_pos (d q x : Int) (w : World) (hx0 : 0 ≤ x) (hx : x < 1000000000) (hq1 : -10000000000 ≤ q) (hq2 : q ≤ 10000000000) (hq : d.tdiv 1000000000 = q) (hr : d.tmod 1000000000 = x) :
    Calls Yba.prog 10 #[.agg #[.int .u64 0, .int .i64 0, .pointer none], .int .i64 d] w fun e w' => e = .returned (tmv x q) ∧ Below w.heap.size w w' := by
  have b0 : bits .and .u64 0 1073741823 = 0 := low_and 0 (by omega)
  have b1 := zero_andNot
  have b2 : bits .or .u64 0 x = x := by have := zero_or x.toNat (by omega); rwa [Int.toNat_of_nonneg hx0] at this
  have b3 := high_x x hx0 hx
  go_enter Yba.func10, Yba.ntmps10
  go_wp2_with (first | (go_at_call 18; go_in) | (go_at_call 19; refine (addSec_any w.heap.size x q _ hx0 hx hq1 hq2 (by simp) (by simp) (by simp)).mono ?_; rintro e w' ⟨rfl, rfl⟩))
  exact bodyPost_ret (v := tmv x q) (by simp [results, Yba.results10, go_sem, tmv]) rfl ⟨rfl, ((Below.refl _ _).alloc (Nat.le_refl _) _).alloc (by simp) _⟩

set_option maxRecDepth 100000 in
set_option maxHeartbeats 800000 in
theorem add_neg (d q x : Int) (w : World) (hx0 : 0 ≤ x) (hx : x < 1000000000) (hq1 : -10000000000 ≤ q - 1) (hq2 : q - 1 ≤ 10000000000) (hq : d.tdiv 1000000000 = q) (hr : d.tmod 1000000000 = x - 1000000000) :
    Calls Yba.prog 10 #[.agg #[.int .u64 0, .int .i64 0, .pointer none], .int .i64 d] w fun e w' => e = .returned (tmv x (q - 1)) ∧ Below w.heap.size w w' := by
  have b0 : bits .and .u64 0 1073741823 = 0 := low_and 0 (by omega)
  have b1 := zero_andNot
  have b2 : bits .or .u64 0 x = x := by have := zero_or x.toNat (by omega); rwa [Int.toNat_of_nonneg hx0] at this
  have b3 := high_x x hx0 hx
  go_enter Yba.func10, Yba.ntmps10
  go_wp2_with (first | (go_at_call 18; go_in) | (go_at_call 19; refine (addSec_any w.heap.size x (q - 1) _ hx0 hx hq1 hq2 (by simp) (by simp) (by simp)).mono ?_; rintro e w' ⟨rfl, rfl⟩))
  exact bodyPost_ret (v := tmv x (q - 1)) (by simp [results, Yba.results10, go_sem, tmv]) rfl ⟨rfl, ((Below.refl _ _).alloc (Nat.le_refl _) _).alloc (by simp) _⟩

/-- The time d nanoseconds past the zero time. -/
def tm (d : Int) : Value := tmv (d % 1000000000) (d / 1000000000)

theorem add_any (d : Int) (hd : (Lit.int .i64 d).wf = true) (w : World) :
    Calls Yba.prog 10 #[.agg #[.int .u64 0, .int .i64 0, .pointer none], .int .i64 d] w fun e w' => e = .returned (tm d) ∧ Below w.heap.size w w' := by
  obtain ⟨h1, h2⟩ := bounds_i64 hd
  have hA := Int.mul_tdiv_add_tmod d 1000000000
  have hB := Int.tmod_lt_of_pos d (b := 1000000000) (by omega)
  have hC := Int.lt_tmod_of_pos d (b := 1000000000) (by omega)
  by_cases h : 0 ≤ d.tmod 1000000000
  · have e1 : d / 1000000000 = d.tdiv 1000000000 := by omega
    have e2 : d % 1000000000 = d.tmod 1000000000 := by omega
    unfold tm
    rw [e1, e2]
    exact add_pos d _ _ w h (by omega) (by omega) (by omega) rfl rfl
  · have e1 : d / 1000000000 = d.tdiv 1000000000 - 1 := by omega
    have e2 : d % 1000000000 = d.tmod 1000000000 + 1000000000 := by omega
    unfold tm
    rw [e1, e2]
    exact add_neg d _ _ w (by omega) (by omega) (by omega) (by omega) rfl (by omega)

set_option maxRecDepth 100000 in
set_option maxHeartbeats 800000 in
theorem equal_same (q x : Int) (w : World) (hx0 : 0 ≤ x) (hx : x < 1000000000) :
    Calls Yba.prog 9 #[tmv x q, tmv x q] w fun e w' => e = .returned (.bool true) ∧ Below w.heap.size w w' := by
  have b3 := high_x x hx0 hx
  have b4 : bits .and .u64 x x = x := by have := self_and x.toNat (by omega); rwa [Int.toNat_of_nonneg hx0] at this
  unfold tmv
  go_enter Yba.func9, Yba.ntmps9
  go_wp2
  go_ret
  exact ⟨rfl, ((Below.refl _ _).alloc (Nat.le_refl _) _).alloc (by simp) _⟩

theorem equal_tm (d : Int) (w : World) : Calls Yba.prog 9 #[tm d, tm d] w fun e w' => e = .returned (.bool true) ∧ Below w.heap.size w w' :=
  equal_same _ _ w (by omega) (by omega)

/-- The same, the time written out. -/
theorem add_out (d : Int) (hd : (Lit.int .i64 d).wf = true) (w : World) :
    Calls Yba.prog 10 #[.agg #[.int .u64 0, .int .i64 0, .pointer none], .int .i64 d] w fun e w' => e = .returned (.agg #[.int .u64 (d % 1000000000), .int .i64 (d / 1000000000), .pointer none]) ∧ Below w.heap.size w w' := add_any d hd w
theorem equal_out (d : Int) (w : World) :
    Calls Yba.prog 9 #[.agg #[.int .u64 (d % 1000000000), .int .i64 (d / 1000000000), .pointer none], .agg #[.int .u64 (d % 1000000000), .int .i64 (d / 1000000000), .pointer none]] w fun e w' => e = .returned (.bool true) ∧ Below w.heap.size w w' := equal_tm d w
end Go.Proofs.Ybulkduns
