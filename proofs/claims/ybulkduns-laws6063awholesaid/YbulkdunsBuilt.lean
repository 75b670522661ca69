/- Seat b6063a: what zzs6063abuild lays, and how it is carried. -/
import Derived.Test.YbulkdunsBase
import Derived.Test.YbulkdunsTime
namespace Go.Proofs.Ybulkduns
open Go.RowKit

/-- What 'conns' holds when the first j connections are in it. -/
def Mp (j : Nat) (cb sb : Nat → Nat) : Value → Value → Prop := fun key v => ∃ i, i < j ∧ key = conn (cb i) ∧ v = .pointer (some ⟨sb i, 0, none⟩)

def slotCells (h : Int) : Array Value := #[.int .u64 0, .int .u64 0, .pointer none, .int .u64 (h % 1000000000), .int .i64 (h / 1000000000), .pointer none]
def connCells (i : Nat) (f : Bool) (k : Int) : Array Value := #[.int .i64 i, .bool f, .int .i64 k, .int .i64 0]
def headCells (st : Int) (m : Nat) (cl : Bool) : Array Value := #[.int .i32 st, .int .u32 0, .map (some m), .bool cl]

/-- B: the map's block, B + 1: the slots' own; R, D: the rows of connections and of slots; st: the mutex's state; cl: closed; K: how often each connection was closed; j of them are laid, of len. -/
structure Built (B R D : Nat) (wr : World) (st : Int) (cl : Bool) (len j : Nat) (F : Nat → Bool) (H K : Nat → Int) (cb sb : Nat → Nat) : Prop where
  head : wr.heap[B + 1]? = some (.cells (headCells st B cl) 37 (0, 0))
  crow : ∃ cc, wr.heap[R]? = some (.cells cc 39 (0, 0)) ∧ cc.size = len ∧ ∀ i, i < j → cc[i]? = some (.pointer (some ⟨cb i, 0, none⟩))
  srow : ∃ cc, wr.heap[D]? = some (.cells cc 42 (0, 0)) ∧ cc.size = len ∧ ∀ i, i < j → cc[i]? = some (.pointer (some ⟨sb i, 0, none⟩))
  con : ∀ i, i < j → wr.heap[cb i]? = some (.cells (connCells i (F i) (K i)) 41 (0, 0))
  slt : ∀ i, i < j → wr.heap[sb i]? = some (.cells (slotCells (H i)) 55 (0, 0))
  map : Raw.Is wr B j (Mp j cb sb)
  lo : B ≤ R ∧ B ≤ D ∧ ∀ i, i < j → B ≤ cb i ∧ B ≤ sb i
  inj : ∀ i i', i < j → i' < j → cb i = cb i' → i = i'

theorem lt_of_some {w : World} {k : Nat} {o : Obj} (h : w.heap[k]? = some o) : k < w.heap.size := (Array.getElem?_eq_some_iff.1 h).1

theorem cell_of {w : World} {k i : Nat} {c : Array Value} {t : TypeId} {v : Value} (h : w.heap[k]? = some (.cells c t (0, 0))) (hi : c[i]? = some v) : w.cell? ⟨k, i, none⟩ = some v := by
  simp [World.cell?, h, hi]
theorem frozen_of {w : World} {k i : Nat} {c : Array Value} {t : TypeId} (h : w.heap[k]? = some (.cells c t (0, 0))) : w.frozen? ⟨k, i, none⟩ = false := by
  simp [World.frozen?, h]
theorem block_setCell {w : World} {k i : Nat} {c : Array Value} {t : TypeId} (v : Value) (h : w.heap[k]? = some (.cells c t (0, 0))) : (w.setCell ⟨k, i, none⟩ v).heap[k]? = some (.cells (c.setIfInBounds i v) t (0, 0)) := by
  have := heap_setCell_same w k i c t v h
  exact this

section
variable {B R D : Nat} {w w' : World} {st : Int} {cl : Bool} {len j : Nat} {F : Nat → Bool} {H K : Nat → Int} {cb sb : Nat → Nat}

/-- The same in a world in which every block from B on is as it was. -/
theorem Built.carry (h : Built B R D w st cl len j F H K cb sb) (hk : ∀ k, B ≤ k → k < w.heap.size → w'.heap[k]? = w.heap[k]?) : Built B R D w' st cl len j F H K cb sb := by
  obtain ⟨l1, l2, l3⟩ := h.lo
  obtain ⟨cc, h1, h2, h3⟩ := h.crow
  obtain ⟨dd, h4, h5, h6⟩ := h.srow
  exact ⟨(hk _ (by omega) (lt_of_some h.head)).trans h.head, ⟨cc, (hk _ l1 (lt_of_some h1)).trans h1, h2, h3⟩, ⟨dd, (hk _ l2 (lt_of_some h4)).trans h4, h5, h6⟩,
    fun i hi => (hk _ (l3 i hi).1 (lt_of_some (h.con i hi))).trans (h.con i hi), fun i hi => (hk _ (l3 i hi).2 (lt_of_some (h.slt i hi))).trans (h.slt i hi),
    h.map.of_block (hk _ (Nat.le_refl _) h.map.lt), h.lo, h.inj⟩

theorem Built.below (h : Built B R D w st cl len j F H K cb sb) {n : Nat} (hb : Below n w w') (hn : w.heap.size ≤ n) : Built B R D w' st cl len j F H K cb sb :=
  h.carry fun k _ hk => hb.block k (by omega)

/-- The keys of the map are connections in the world. -/
theorem Built.keys (h : Built B R D w st cl len j F H K cb sb) : ∀ key v, Mp j cb sb key v → IsConn w key := by
  rintro key v ⟨i, hi, rfl, _⟩
  exact ⟨cb i, _, _, rfl, h.con i hi⟩

/-- What the walk of a round wants to read and to write. -/
theorem Built.room (h : Built B R D w st cl len j F H K cb sb) (hj : j < len) : ∃ v9 v2, w.cell? ⟨R, j, none⟩ = some v9 ∧ w.frozen? ⟨R, j, none⟩ = false ∧ w.cell? ⟨D, j, none⟩ = some v2 ∧ w.frozen? ⟨D, j, none⟩ = false ∧
    w.cell? ⟨B + 1, 2, none⟩ = some (.map (some B)) ∧ R < w.heap.size ∧ D < w.heap.size ∧ B + 1 < w.heap.size ∧ R ≠ D ∧ R ≠ B + 1 ∧ D ≠ B + 1 := by
  obtain ⟨cc, h1, h2, _⟩ := h.crow
  obtain ⟨dd, h4, h5, _⟩ := h.srow
  have g1 : cc[j]? = some cc[j] := Array.getElem?_eq_getElem (by omega)
  have g2 : dd[j]? = some dd[j] := Array.getElem?_eq_getElem (by omega)
  refine ⟨_, _, cell_of h1 g1, frozen_of h1, cell_of h4 g2, frozen_of h4, cell_of h.head rfl, lt_of_some h1, lt_of_some h4, lt_of_some h.head, ?_, ?_, ?_⟩
  · rintro rfl; rw [h1] at h4; cases h4
  · rintro rfl; have := h.head; rw [h1] at this; cases this
  · rintro rfl; have := h.head; rw [h4] at this; cases this

def upd (f : Nat → Nat) (j x : Nat) : Nat → Nat := fun i => if i = j then x else f i

theorem Mp_upd {j nb ns : Nat} {cb sb : Nat → Nat} (hfresh : ∀ i, i < j → cb i ≠ nb) : ∀ key v, Mp (j + 1) (upd cb j nb) (upd sb j ns) key v ↔ Raw.put (Mp j cb sb) (conn nb) (.pointer (some ⟨ns, 0, none⟩)) key v := by
  intro key v
  simp only [Mp, Raw.put, upd]
  constructor
  · rintro ⟨i, hi, rfl, rfl⟩
    by_cases e : i = j
    · left; simp [e]
    · right
      simp only [if_neg e]
      exact ⟨fun hh => hfresh i (by omega) (conn_inj hh), i, by omega, rfl, rfl⟩
  · rintro (⟨rfl, rfl⟩ | ⟨_, i, hi, rfl, rfl⟩)
    · exact ⟨j, by omega, by simp, by simp⟩
    · have e : i ≠ j := by omega
      exact ⟨i, by omega, by simp [e], by simp [e]⟩

/-- One more connection and its slot: ahead of the store into the map, and behind it. -/
theorem Built.grow (h : Built B R D w st cl len j F H K cb sb) (hj : j < len) {nb : Nat} (hnb : w.heap[nb]? = some (.cells (connCells j (F j) (K j)) 41 (0, 0))) (hfresh : ∀ i, i < j → cb i ≠ nb) (hB : B ≤ nb) (W4 : World)
    (hW4 : W4 = ((w.setCell ⟨R, j, none⟩ (.pointer (some ⟨nb, 0, none⟩))).setCell ⟨D, j, none⟩ (.pointer (some ⟨w.heap.size, 0, none⟩))).alloc (.cells (slotCells (H j)) 55)) :
    Raw.Is W4 B j (Mp j cb sb) ∧ (∀ key v, Mp j cb sb key v → IsConn W4 key) ∧ IsConn W4 (conn nb) ∧ B + 1 < W4.heap.size ∧
    ∀ w5 n', Raw.Is w5 B n' (Raw.put (Mp j cb sb) (conn nb) (.pointer (some ⟨w.heap.size, 0, none⟩))) → W4.grownBy w5 (some B) → ((∀ v, ¬ Mp j cb sb (conn nb) v) → n' = j + 1) →
      Built B R D w5 st cl len (j + 1) F H K (upd cb j nb) (upd sb j w.heap.size) := by
  obtain ⟨_, _, _, _, _, _, _, _, _, hBs, hRD, hR1, hD1⟩ := h.room hj
  obtain ⟨cc, h1, h2, h3⟩ := h.crow
  obtain ⟨dd, h4, h5, h6⟩ := h.srow
  obtain ⟨l1, l2, l3⟩ := h.lo
  have hRl := lt_of_some h1
  have hDl := lt_of_some h4
  have other : ∀ k, k < w.heap.size → k ≠ R → k ≠ D → W4.heap[k]? = w.heap[k]? := fun k hk hkR hkD => by
    rw [hW4, Below.heap_alloc _ _ _ (by simp; omega), Below.heap_setCell _ _ _ _ hkD, Below.heap_setCell _ _ _ _ hkR]
  have hRow : W4.heap[R]? = some (.cells (cc.setIfInBounds j (.pointer (some ⟨nb, 0, none⟩))) 39 (0, 0)) := by
    rw [hW4, Below.heap_alloc _ _ _ (by simp; omega), Below.heap_setCell _ _ _ _ hRD]
    exact block_setCell _ h1
  have hDow : W4.heap[D]? = some (.cells (dd.setIfInBounds j (.pointer (some ⟨w.heap.size, 0, none⟩))) 42 (0, 0)) := by
    rw [hW4, Below.heap_alloc _ _ _ (by simp; omega)]
    exact block_setCell _ ((Below.heap_setCell _ _ _ _ (fun e => hRD e.symm)).trans h4)
  have hNew : W4.heap[w.heap.size]? = some (.cells (slotCells (H j)) 55 (0, 0)) := by
    have := (MapKept.heap_alloc ((w.setCell ⟨R, j, none⟩ (.pointer (some ⟨nb, 0, none⟩))).setCell ⟨D, j, none⟩ (.pointer (some ⟨w.heap.size, 0, none⟩))) (.cells (slotCells (H j)) 55)).1
    rw [hW4]
    simpa using this
  have hsz : W4.heap.size = w.heap.size + 1 := by rw [hW4]; simp
  have neR : ∀ {k : Nat} {c : Array Value} {t : TypeId}, w.heap[k]? = some (.cells c t (0, 0)) → t ≠ 39 → k ≠ R := fun hk ht e => by rw [e, h1] at hk; cases hk; exact ht rfl
  have neD : ∀ {k : Nat} {c : Array Value} {t : TypeId}, w.heap[k]? = some (.cells c t (0, 0)) → t ≠ 42 → k ≠ D := fun hk ht e => by rw [e, h4] at hk; cases hk; exact ht rfl
  have con4 : ∀ i, i < j → W4.heap[cb i]? = some (.cells (connCells i (F i) (K i)) 41 (0, 0)) := fun i hi =>
    (other _ (lt_of_some (h.con i hi)) (neR (h.con i hi) (by decide)) (neD (h.con i hi) (by decide))).trans (h.con i hi)
  have nb4 : W4.heap[nb]? = some (.cells (connCells j (F j) (K j)) 41 (0, 0)) := (other _ (lt_of_some hnb) (neR hnb (by decide)) (neD hnb (by decide))).trans hnb
  have slt4 : ∀ i, i < j → W4.heap[sb i]? = some (.cells (slotCells (H i)) 55 (0, 0)) := fun i hi =>
    (other _ (lt_of_some (h.slt i hi)) (neR (h.slt i hi) (by decide)) (neD (h.slt i hi) (by decide))).trans (h.slt i hi)
  have hmapB : ∃ es clock, w.heap[B]? = some (.map es clock) := by obtain ⟨es, clock, hb, _⟩ := h.map; exact ⟨es, clock, hb⟩
  obtain ⟨es, clock, hmb⟩ := hmapB
  have hBR : B ≠ R := by rintro rfl; rw [h1] at hmb; cases hmb
  have hBD : B ≠ D := by rintro rfl; rw [h4] at hmb; cases hmb
  have map4 : Raw.Is W4 B j (Mp j cb sb) := h.map.of_block (other B h.map.lt hBR hBD)
  refine ⟨map4, ?_, ⟨nb, _, _, rfl, nb4⟩, by omega, ?_⟩
  · rintro key v ⟨i, hi, rfl, _⟩
    exact ⟨cb i, _, _, rfl, con4 i hi⟩
  · intro w5 n' his hg hn
    obtain rfl : n' = j + 1 := hn (by rintro v ⟨i, hi, hh, _⟩; exact hfresh i hi (conn_inj hh).symm)
    have up : ∀ k, k < w.heap.size + 1 → k ≠ B → w5.heap[k]? = W4.heap[k]? := fun k hk hkB => hg.block k (by omega) (by simpa using hkB)
    have upc : ∀ {k : Nat} {c : Array Value} {t : TypeId}, W4.heap[k]? = some (.cells c t (0, 0)) → w5.heap[k]? = some (.cells c t (0, 0)) := fun {k c t} hk => by
      refine (up k (by have := lt_of_some hk; omega) ?_).trans hk
      rintro rfl
      rw [other _ h.map.lt hBR hBD, hmb] at hk
      cases hk
    refine ⟨upc ((other _ hBs (fun e => hR1 e.symm) (fun e => hD1 e.symm)).trans h.head), ⟨_, upc hRow, by simpa using h2, fun i hi => ?_⟩, ⟨_, upc hDow, by simpa using h5, fun i hi => ?_⟩, fun i hi => ?_, fun i hi => ?_, his.congr (Mp_upd hfresh), ⟨l1, l2, fun i hi => ?_⟩, fun i i' hi hi' hh => ?_⟩
    · by_cases e : i = j
      · subst e; simp [upd, h2, hj]
      · have : i < j := by omega
        simp only [upd, if_neg e]
        rw [Array.getElem?_setIfInBounds_ne (fun e' => e e'.symm)]
        exact h3 i this
    · by_cases e : i = j
      · subst e; simp [upd, h5, hj]
      · have : i < j := by omega
        simp only [upd, if_neg e]
        rw [Array.getElem?_setIfInBounds_ne (fun e' => e e'.symm)]
        exact h6 i this
    · by_cases e : i = j
      · subst e; simp only [upd, if_true]; exact upc nb4
      · simp only [upd, if_neg e]; exact upc (con4 i (by omega))
    · by_cases e : i = j
      · subst e; simp only [upd, if_true]; exact upc hNew
      · simp only [upd, if_neg e]; exact upc (slt4 i (by omega))
    · by_cases e : i = j
      · subst e; simp only [upd, if_true]; exact ⟨hB, by have := h.map.lt; omega⟩
      · simp only [upd, if_neg e]; exact l3 i (by omega)
    · simp only [upd] at hh
      by_cases e : i = j
      · by_cases e' : i' = j
        · omega
        · simp only [if_pos e, if_neg e'] at hh
          exact absurd hh.symm (hfresh i' (by omega))
      · by_cases e' : i' = j
        · simp only [if_neg e, if_pos e'] at hh
          exact absurd hh (hfresh i (by omega))
        · simp only [if_neg e, if_neg e'] at hh
          exact h.inj i i' (by omega) (by omega) hh

/-- Behind newSlots and the two makes. -/
theorem built_start {w w1 w2 : World} {pre : Bool} {len : Nat} {cc dd : Array Value} (F : Nat → Bool) (H K : Nat → Int) (cb sb : Nat → Nat)
    (hgrow1 : ((w.alloc (.map #[] 0)).alloc (.cells #[.int .i32 0, .int .u32 0, .map (some w.heap.size), .bool pre] 37)).grownBy w1 none) (hcc : w1.heap[w.heap.size + 1 + 1]? = some (.cells cc 39 (0, 0))) (hcs : cc.size = len)
    (hgrow2 : w1.grownBy w2 none) (hdd : w2.heap[w1.heap.size]? = some (.cells dd 42 (0, 0))) (hds : dd.size = len) :
    Built w.heap.size (w.heap.size + 1 + 1) w1.heap.size w2 0 pre len 0 F H K cb sb ∧ Below w.heap.size w w2 := by
  have hs1 := hgrow1.size
  simp only [World.size_alloc] at hs1
  have hm : ((w.alloc (.map #[] 0)).alloc (.cells #[.int .i32 0, .int .u32 0, .map (some w.heap.size), .bool pre] 37)).heap[w.heap.size]? = some (.map #[] 0) :=
    ((MapKept.heap_alloc (w.alloc (.map #[] 0)) _).2 w.heap.size (by simp)).trans (MapKept.heap_alloc w _).1
  have hh : ((w.alloc (.map #[] 0)).alloc (.cells #[.int .i32 0, .int .u32 0, .map (some w.heap.size), .bool pre] 37)).heap[w.heap.size + 1]? = some (.cells #[.int .i32 0, .int .u32 0, .map (some w.heap.size), .bool pre] 37) := by
    have := (MapKept.heap_alloc (w.alloc (.map #[] 0)) (.cells #[.int .i32 0, .int .u32 0, .map (some w.heap.size), .bool pre] 37)).1
    simpa using this
  have up : ∀ k, k < w.heap.size + 2 → w2.heap[k]? = ((w.alloc (.map #[] 0)).alloc (.cells #[.int .i32 0, .int .u32 0, .map (some w.heap.size), .bool pre] 37)).heap[k]? := fun k hk =>
    (hgrow2.block k (by omega) (by simp)).trans (hgrow1.block k (by simp; omega) (by simp))
  refine ⟨⟨(up _ (by omega)).trans hh, ⟨cc, (hgrow2.block _ (lt_of_some hcc) (by simp)).trans hcc, hcs, fun i hi => absurd hi (Nat.not_lt_zero i)⟩, ⟨dd, hdd, hds, fun i hi => absurd hi (Nat.not_lt_zero i)⟩, fun i hi => absurd hi (Nat.not_lt_zero i), fun i hi => absurd hi (Nat.not_lt_zero i), ?_, ⟨by omega, by omega, fun i hi => absurd hi (Nat.not_lt_zero i)⟩, fun i _ hi => absurd hi (Nat.not_lt_zero i)⟩, ?_⟩
  · exact ⟨#[], 0, (up _ (by omega)).trans hm, MapKept.stamped_empty 0, rfl, fun key v => by simp [Mp]⟩
  · exact (((Below.refl w.heap.size w).alloc (Nat.le_refl _) _).alloc (by simp) _).grown hgrow1 (by simp; omega) (by simp) |>.grown hgrow2 (by omega) (by simp)

end
end Go.Proofs.Ybulkduns
