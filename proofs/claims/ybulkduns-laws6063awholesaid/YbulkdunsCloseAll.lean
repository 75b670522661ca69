import Derived.Test.YbulkdunsClose
namespace Go.Proofs.Ybulkduns
open Go.RowKit Go.MuLone

theorem method_close (a : Addr) (w : World) : (method 231 39 (.pointer (some a)) "Close").run Yba.prog w = .ok (54, .pointer (some a)) w := by kernel_rfl

/-- A step of the iterator turns the iterator's block alone. -/
theorem Built.iter {B R D : Nat} {w w' : World} {st : Int} {cl : Bool} {len j : Nat} {F : Nat → Bool} {H K : Nat → Int} {cb sb : Nat → Nat} (h : Built B R D w st cl len j F H K cb sb) {r n cnt : Nat} {M : Value → Value → Prop} {left : Value → Prop}
    (hit : Raw.Iter w B r n M left cnt) (hg : w.grownBy w' (some r)) : Built B R D w' st cl len j F H K cb sb := by
  obtain ⟨es, clock, since, seen, c0, _, _, _, _, hr, _⟩ := hit
  obtain ⟨l1, l2, l3⟩ := h.lo
  obtain ⟨cc, h1, h2, h3⟩ := h.crow
  obtain ⟨dd, h4, h5, h6⟩ := h.srow
  have up : ∀ {k : Nat} {c : Array Value} {t : TypeId}, w.heap[k]? = some (.cells c t (0, 0)) → w'.heap[k]? = some (.cells c t (0, 0)) := fun {k c t} hk =>
    (hg.block k (lt_of_some hk) (fun e => by cases e; rw [hr] at hk; cases hk)).trans hk
  refine ⟨up h.head, ⟨cc, up h1, h2, h3⟩, ⟨dd, up h4, h5, h6⟩, fun i hi => up (h.con i hi), fun i hi => up (h.slt i hi), h.map.kept hg (fun e => ?_), h.lo, h.inj⟩
  obtain ⟨es', clock', hb, _⟩ := h.map
  cases e
  rw [hr] at hb
  cases hb

set_option maxRecDepth 100000 in
set_option maxHeartbeats 800000 in
theorem close_any {B R D : Nat} {w : World} {pre : Bool} {len : Nat} {F : Nat → Bool} {H : Nat → Int} {cb sb : Nat → Nat} (h : Built B R D w 0 pre len len F H (fun _ => 0) cb sb) :
    Calls Yba.prog 6 #[.pointer (some ⟨B + 1, 0, none⟩)] w fun e w' => e = .returned (.tuple #[]) ∧ Built B R D w' 0 true len len F H (fun _ => 1) cb sb ∧ Below B w w' := by
  have c0 : w.cell? ⟨B + 1, 0, none⟩ = some (.int .i32 0) := cell_of h.head rfl
  have f0 : w.frozen? ⟨B + 1, 0, none⟩ = false := frozen_of h.head
  have c2 : w.cell? ⟨B + 1, 2, none⟩ = some (.map (some B)) := cell_of h.head rfl
  have c3 : w.cell? ⟨B + 1, 3, none⟩ = some (.bool pre) := cell_of h.head rfl
  have f3 : w.frozen? ⟨B + 1, 3, none⟩ = false := frozen_of h.head
  have h2 := (h.setState 1).setClosed true
  have hb2 : Below B w ((w.setCell ⟨B + 1, 0, none⟩ (.int .i32 1)).setCell ⟨B + 1, 3, none⟩ (.bool true)) := ((Below.refl B w).setCell (by simp) _).setCell (by simp) _
  go_enter_defers Yba.func6, Yba.ntmps6
  go_wp2_with (first
    | (go_at_call 13; refine (lock_free Yba.muLib ⟨B + 1, 0, none⟩ _ c0 f0).mono ?_; rintro e w' ⟨rfl, rfl⟩)
    | (at_range; refine Raw.wpList_range _ rfl _ 35 rfl 67 42 Yba.underlying35 B len (Mp len cb sb) rfl h2.map ?_; intro w3 hit hg3 hs3))
  go_frame
  have hge0 : B ≤ ((w.setCell ⟨B + 1, 0, none⟩ (.int .i32 1)).setCell ⟨B + 1, 3, none⟩ (.bool true)).heap.size := by have := h2.map.lt; omega
  generalize ((w.setCell ⟨B + 1, 0, none⟩ (.int .i32 1)).setCell ⟨B + 1, 3, none⟩ (.bool true)).heap.size = r at hit hs3 hge0 ⊢
  have h3 : Built B R D w3 1 true len len F H (fun _ => 0) cb sb := h2.carry fun k _ hk => hg3.block k hk (by simp)
  have hb3 : Below B w w3 := hb2.grown hg3 (by have := h2.map.lt; omega) (by simp)
  clear c0 c2 c3 f0 f3 h2 hb2 hg3 hs3
  go_loopw [2] (fun _ wr => ∃ (left : Value → Prop) (cnt : Nat) (K : Nat → Int), Raw.Iter wr B r len (Mp len cb sb) left cnt ∧ Built B R D wr 1 true len len F H K cb sb ∧ (∀ i, i < len → (left (conn (cb i)) → K i = 0) ∧ (¬ left (conn (cb i)) → K i = 1)) ∧ Below B w wr) (fun _ wr => wr.rangeLeft B r)
  case atStart => exact ⟨_, _, _, hit, h3, fun i _ => ⟨fun _ => rfl, fun hh => absurd trivial hh⟩, hb3⟩
  case round =>
    clear hit h3 hb3
    obtain ⟨left, cnt, K, hit, hbt, hK, hbl⟩ := hrel
    have inv : ∀ key v, Mp len cb sb key v → ∃ x : {i : Nat // i < len}, key = Value.iface 39 (.pointer (some ⟨cb x.1, 0, none⟩)) ∧ v = Value.pointer (some ⟨sb x.1, 0, none⟩) := by
      rintro key v ⟨i, hi, rfl, rfl⟩
      exact ⟨⟨i, hi⟩, rfl, rfl⟩
    go_wp2_with (at_next; refine Raw.wpList_next _ rfl _ rfl (fun x : {i : Nat // i < len} => Value.iface 39 (.pointer (some ⟨cb x.1, 0, none⟩))) (fun x => Value.pointer (some ⟨sb x.1, 0, none⟩)) B r len (Mp len cb sb) left cnt inv rfl hit ?_ ?_)
    · intro hl0
      go_wp2
      have hfin : Built B R D wr 1 true len len F H (fun _ => 1) cb sb := hbt.congrK fun i hi => ((hK i hi).2 (hl0 _ _ ⟨i, hi, rfl, rfl⟩)).symm
      refine leaves_cons (f := 8) (args := #[.pointer (some ⟨B + 1, 0, none⟩)]) (by simp) (by simp [go_sem]) ?_
      refine (unlock_deferred Yba.muLib ⟨B + 1, 0, none⟩ .returning _ (cell_of hfin.head rfl) (frozen_of hfin.head)).mono ?_
      rintro e u' w'' ⟨rfl, rfl, rfl⟩
      exact ⟨_, results_none rfl _ _ _, rfl, hfin.setState 0, hbl.setCell (by simp) _⟩
    · intro x hx w4 cnt' hm hlx hit' hcnt hg4 hs4 hen
      have hrB := hit.ne
      have hbt4 : Built B R D w4 1 true len len F H K cb sb := hbt.iter hit hg4
      have hbl4 : Below B w w4 := hbl.grown hg4 (by have := hbt.map.lt; omega) (fun k hk => by cases hk; exact hge0)
      have hc4 : w4.heap[cb x]? = some (.cells (connCells x (F x) 0) 41 (0, 0)) := by have := hbt4.con x hx; rwa [(hK x hx).1 hlx] at this
      have HC : Hid (w4.heap[cb x]? = some (.cells (connCells x (F x) 0) 41 (0, 0))) := hc4
      have hmt := method_close
      clear hc4
      have NB : Hid (some B ≠ some (cb x)) := fun e => by
        obtain ⟨es', clock', hb, _⟩ := hbt4.map
        cases e
        have := HC.out
        rw [hb] at this
        cases this
      have NR : Hid (some r ≠ some (cb x)) := fun e => by
        obtain ⟨es', clock', since, seen, c0, _, _, _, _, hr, _⟩ := hit'
        cases e
        have := HC.out
        rw [hr] at this
        cases this
      go_wp2_with (go_at_call 54; refine (connClose (cb x) x (F x) w4 HC.out).mono ?_; rintro e w5 ⟨⟨v, rfl⟩, hg5, hn5⟩)
      go_roundw
      case rel => 
        refine ⟨_, cnt', _, hit'.kept hg5 NB.out NR.out, hbt4.setConn hx 1 hg5 hn5, fun i hi => ?_, hbl4.grown hg5 (by have := hbt4.map.lt; omega) (fun k hk => by cases hk; exact (hbt4.lo.2.2 x hx).1)⟩
        by_cases e : i = x
        · subst e
          exact ⟨fun hh => absurd rfl hh.2, fun _ => by simp⟩
        · have hne : ¬ conn (cb i) = Value.iface 39 (.pointer (some ⟨cb x, 0, none⟩)) := fun hh => e (hbt4.inj i x hi hx (conn_inj hh))
          simp only [if_neg e]
          exact ⟨fun hh => (hK i hi).1 hh.1, fun hh => (hK i hi).2 (fun h' => hh ⟨h', hne⟩)⟩
      case measure => rw [(hit'.kept hg5 NB.out NR.out).left_eq, hit.left_eq]; omega
end Go.Proofs.Ybulkduns
