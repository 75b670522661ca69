import Derived.Test.YbulkdupwKLWalk
import Derived.Deep.CutBlock
namespace Go.Proofs.Ybulkdupw
open Go.RowKit

set_option maxRecDepth 100000 in
set_option maxHeartbeats 400000 in
theorem law_big {lr lb lq cr cb cq : Nat} {ar ab aq : Option Addr} (emp me mk : Int) (w : World) (h : ¬ (lr ≤ 4096 ∧ lb ≤ 4096 ∧ lq ≤ 4096)) :
    Calls Yba.prog 3 #[.int .u64 emp, .slice ar lr cr, .slice ab lb cb, .int .u64 me, .int .u64 mk, .slice aq lq cq] w fun e w' => e = .returned (.bool true) ∧ Below w.heap.size w w' := by
  by_cases h1 : (4096 : Int) < (lr : Int)
  · clear h
    go_enter Yba.func3, Yba.ntmps3
    go_wp2
    go_ret
    exact ⟨rfl, (Below.refl _ _).alloc (by simp) _ |>.alloc (by simp) _⟩
  · by_cases h2 : (4096 : Int) < (lb : Int)
    · clear h
      go_enter Yba.func3, Yba.ntmps3
      go_wp2
      go_ret
      exact ⟨rfl, (Below.refl _ _).alloc (by simp) _ |>.alloc (by simp) _⟩
    · have h3 : (4096 : Int) < (lq : Int) := by omega
      clear h
      go_enter Yba.func3, Yba.ntmps3
      go_wp2
      go_ret
      exact ⟨rfl, (Below.refl _ _).alloc (by simp) _ |>.alloc (by simp) _⟩
end Go.Proofs.Ybulkdupw
