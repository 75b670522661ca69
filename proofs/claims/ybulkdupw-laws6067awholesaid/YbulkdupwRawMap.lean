/- Maps that never leave the call, told by their entries alone: no reading as data is asked, so keys and elements may be whatever values Go lets stand there (interface values, structs with a pointer in them). Over whatever program; no Go text in sight. -/
import Derived.Maps.RangeWalk
namespace Go.Raw
open Go.MapKept
open Go.ChangeMaps (setBlock heap_setBlock_same heap_setBlock_other modify_eq_set)

/-- What the operations on a map ask, in the world w, of its keys' type k and of the values Kp that serve as keys. -/
structure KeyV (P : Program) (k : TypeId) (Kp : Value → Prop) (w : World) : Prop where
  check : ∀ (em : Bool) {v : Value}, Kp v → (Instr.checkKey em 10000 k v).run P w = .ok () w
  find : ∀ {x : Value}, Kp x → ∀ es : List MapEntry, (∀ e ∈ es, Kp e.key) →
    ((Instr.findKey k x es).run P w = .ok none w ∧ ∀ e ∈ es, e.key ≠ x) ∨ ∃ j e, (Instr.findKey k x es).run P w = .ok (some (j, e.val)) w ∧ es[j]? = some e ∧ e.key = x
  stays : ∀ {v : Value}, Kp v → (Instr.keyThatStays v v).run P w = .ok v w

/-- How 'find' follows where '==' on two keys is sameness and the quick search has no answer. -/
theorem findAsking_spec {P : Program} {k : TypeId} {Kp : Value → Prop} (w : World) {x : Value}
    (heq : ∀ y, Kp y → ∃ bb : Bool, (Op.equal k x y).run P w = .ok bb w ∧ (bb = true ↔ y = x)) :
    ∀ (es : List MapEntry) (i : Nat), (∀ e ∈ es, Kp e.key) →
      ((Instr.findAsking k x es i).run P w = .ok none w ∧ ∀ e ∈ es, e.key ≠ x) ∨ ∃ j e, (Instr.findAsking k x es i).run P w = .ok (some (i + j, e.val)) w ∧ es[j]? = some e ∧ e.key = x
  | [], i, _ => Or.inl ⟨by simp [Instr.findAsking], by simp⟩
  | e :: es, i, h => by
    obtain ⟨bb, hrun, hiff⟩ := heq e.key (h e (by simp))
    cases bb with
    | true => exact Or.inr ⟨0, e, by simp [Instr.findAsking, hrun, Result.andThen], by simp, hiff.1 rfl⟩
    | false =>
      have hne : e.key ≠ x := fun hh => by cases hiff.2 hh
      rcases findAsking_spec w heq es (i + 1) (fun e' he' => h e' (by simp [he'])) with ⟨h1, h2⟩ | ⟨j, e0, h1, h2, h3⟩
      · exact Or.inl ⟨by simpa [Instr.findAsking, hrun, Result.andThen] using h1, fun e' he' => by
          rcases List.mem_cons.1 he' with rfl | he'
          · exact hne
          · exact h2 e' he'⟩
      · exact Or.inr ⟨j + 1, e0, by
          have e1 : i + (j + 1) = i + 1 + j := by omega
          rw [e1]
          simpa [Instr.findAsking, hrun, Result.andThen] using h1, by simpa using h2, h3⟩

/-- BLOCK b OF w IS A MAP OF n ENTRIES WHICH HOLDS v AT key JUST WHERE M key v. -/
def Is (w : World) (b n : Nat) (M : Value → Value → Prop) : Prop :=
  ∃ es clock, w.heap[b]? = some (.map es clock) ∧ Stamped es clock ∧ es.size = n ∧ ∀ key v, M key v ↔ ∃ x ∈ es.toList, x.key = key ∧ x.val = v

section
variable {P : Program} {k : TypeId} {Kp : Value → Prop} {w : World} {b n : Nat} {M : Value → Value → Prop}

theorem Is.lt (h : Is w b n M) : b < w.heap.size := by
  obtain ⟨es, clock, hb, _⟩ := h
  exact (Array.getElem?_eq_some_iff.1 hb).1

theorem Is.kept {w' : World} {row : Option Nat} (h : Is w b n M) (hg : w.grownBy w' row) (hne : some b ≠ row) : Is w' b n M := by
  have hlt := h.lt
  obtain ⟨es, clock, hb, r⟩ := h
  exact ⟨es, clock, (hg.block b hlt hne).trans hb, r⟩

theorem Is.of_block {w' : World} (h : Is w b n M) (hg : w'.heap[b]? = w.heap[b]?) : Is w' b n M := by
  obtain ⟨es, clock, hb, r⟩ := h
  exact ⟨es, clock, hg.trans hb, r⟩

theorem Is.congr {M' : Value → Value → Prop} (h : Is w b n M) (hM : ∀ key v, M' key v ↔ M key v) : Is w b n M' := by
  obtain ⟨es, clock, hb, hs, hn, hm⟩ := h
  exact ⟨es, clock, hb, hs, hn, fun key v => (hM key v).trans (hm key v)⟩

theorem entry_of_key {es : Array MapEntry} {clock : Nat} (hs : Stamped es clock) {x y : MapEntry} (hx : x ∈ es.toList) (hy : y ∈ es.toList) (h : x.key = y.key) : x = y :=
  entry_eq_of_key ((stamped_iff es clock).1 hs).2.2 hx hy h

theorem Is.fn (h : Is w b n M) {key v v' : Value} (h1 : M key v) (h2 : M key v') : v = v' := by
  obtain ⟨es, clock, _, hs, _, hM⟩ := h
  obtain ⟨x, hx, e1, rfl⟩ := (hM key v).1 h1
  obtain ⟨y, hy, e2, rfl⟩ := (hM key v').1 h2
  rw [entry_of_key hs hx hy (e1.trans e2.symm)]

theorem made (w : World) : Is (w.alloc (.map #[] 0)) w.heap.size 0 (fun _ _ => False) :=
  ⟨#[], 0, (MapKept.heap_alloc w _).1, stamped_empty 0, rfl, by simp⟩

/-- 'm[k]', 'v, ok := m[k]'. -/
theorem Is.look (c : Bool) {t e : TypeId} (h : Is w b n M) (K : KeyV P k Kp w) (hall : ∀ key v, M key v → Kp key) (ht : P.underlying t = some (.map k e)) {z : Value} (hz : (zeroValue e).run P w = .ok z w) {key : Value} (hkey : Kp key) :
    ((∀ v, ¬ M key v) ∧ (Instr.lookup t (.map (some b)) key c).run P w = .ok (if c then .tuple #[z, .bool false] else z) w) ∨
    ∃ v, M key v ∧ (Instr.lookup t (.map (some b)) key c).run P w = .ok (if c then .tuple #[v, .bool true] else v) w := by
  obtain ⟨es, clock, hb, hs, hn, hM⟩ := h
  have hk : ∀ x ∈ es.toList, Kp x.key := fun x hx => hall _ _ ((hM x.key x.val).2 ⟨x, hx, rfl, rfl⟩)
  rcases K.find hkey es.toList hk with ⟨h1, h2⟩ | ⟨j, e0, h1, h2, h3⟩
  · refine Or.inl ⟨fun v hv => ?_, by simp [Instr.lookup, run_underlying ht, MapKept.run_getObj_map hb, K.check _ hkey, h1, hz, Result.andThen]⟩
    obtain ⟨x, hx, e1, _⟩ := (hM key v).1 hv
    exact h2 x hx e1
  · exact Or.inr ⟨e0.val, (hM _ _).2 ⟨e0, List.mem_of_getElem? h2, h3, rfl⟩, by simp [Instr.lookup, run_underlying ht, MapKept.run_getObj_map hb, K.check _ hkey, h1, Result.andThen]⟩

theorem Is.look_at (c : Bool) {t e : TypeId} (h : Is w b n M) (K : KeyV P k Kp w) (hall : ∀ key v, M key v → Kp key) (ht : P.underlying t = some (.map k e)) {z : Value} (hz : (zeroValue e).run P w = .ok z w) {key v : Value} (hkey : Kp key) (hm : M key v) :
    (Instr.lookup t (.map (some b)) key c).run P w = .ok (if c then .tuple #[v, .bool true] else v) w := by
  rcases h.look c K hall ht hz hkey with ⟨h1, _⟩ | ⟨v', h1, h2⟩
  · exact absurd hm (h1 v)
  · rw [h.fn hm h1]; exact h2

theorem Is.look_none (c : Bool) {t e : TypeId} (h : Is w b n M) (K : KeyV P k Kp w) (hall : ∀ key v, M key v → Kp key) (ht : P.underlying t = some (.map k e)) {z : Value} (hz : (zeroValue e).run P w = .ok z w) {key : Value} (hkey : Kp key) (hm : ∀ v, ¬ M key v) :
    (Instr.lookup t (.map (some b)) key c).run P w = .ok (if c then .tuple #[z, .bool false] else z) w := by
  rcases h.look c K hall ht hz hkey with ⟨_, h2⟩ | ⟨v', h1, _⟩
  · exact h2
  · exact absurd h1 (hm v')

/-- 'len(m)'. -/
theorem Is.len {t e : TypeId} (h : Is w b n M) (ht : P.underlying t = some (.map k e)) (ty : TypeId) : (Builtin.len_ #[t] ty #[.map (some b)]).run P w = .ok (.int .i64 n) w := by
  obtain ⟨es, clock, hb, _, rfl, _⟩ := h
  simp [Builtin.len_, run_underlying ht, MapKept.run_getObj_map hb, goInt, Result.andThen]

/-- What the map holds behind 'm[key] = val'. -/
def put (M : Value → Value → Prop) (key val : Value) : Value → Value → Prop := fun x v => (x = key ∧ v = val) ∨ (x ≠ key ∧ M x v)

/-- 'm[k] = v'. -/
theorem Is.store {t e : TypeId} (h : Is w b n M) (K : KeyV P k Kp w) (hall : ∀ key v, M key v → Kp key) (ht : P.underlying t = some (.map k e)) {key : Value} (val : Value) (hkey : Kp key) :
    ∃ w' n', (Instr.mapUpdate t (.map (some b)) key val).run P w = .ok () w' ∧ Is w' b n' (put M key val) ∧ w.grownBy w' (some b) ∧ w'.heap.size = w.heap.size ∧ n' ≤ n + 1 ∧ ((∀ v, ¬ M key v) → n' = n + 1) := by
  obtain ⟨es, clock, hb, hs, rfl, hM⟩ := h
  have hk : ∀ x ∈ es.toList, Kp x.key := fun x hx => hall _ _ ((hM x.key x.val).2 ⟨x, hx, rfl, rfl⟩)
  rcases K.find hkey es.toList hk with ⟨h1, h2⟩ | ⟨j, e0, h1, h2, h3⟩
  · refine ⟨setBlock w b (.map (es.push ⟨key, val, clock⟩) (clock + 1)), es.size + 1, ?_, ⟨es.push ⟨key, val, clock⟩, clock + 1, heap_setBlock_same hb _, stamped_push hs h2, by simp, ?_⟩, ⟨rfl, rfl, rfl, by simp [setBlock], fun i _ hi => heap_setBlock_other hb _ (fun e => hi (by rw [e]))⟩, by simp [setBlock], Nat.le_refl _, fun _ => rfl⟩
    · simp [Instr.mapUpdate, run_underlying ht, MapKept.run_getObj_map hb, K.check false hkey, h1, MapKept.run_setObj_map _ hb, Result.andThen, setBlock]
    · intro x v
      simp only [put, Array.toList_push, List.mem_append, List.mem_singleton]
      constructor
      · rintro (⟨rfl, rfl⟩ | ⟨_, hm⟩)
        · exact ⟨_, Or.inr rfl, rfl, rfl⟩
        · obtain ⟨y, hy, e1, e2⟩ := (hM x v).1 hm
          exact ⟨y, Or.inl hy, e1, e2⟩
      · rintro ⟨y, hy | rfl, rfl, rfl⟩
        · exact Or.inr ⟨h2 y hy, (hM _ _).2 ⟨y, hy, rfl, rfl⟩⟩
        · exact Or.inl ⟨rfl, rfl⟩
  · have hj : es[j]? = some e0 := by simpa using h2
    have hm0 : e0 ∈ es.toList := List.mem_of_getElem? h2
    have hkeyf : ∀ e', es[j]? = some e' → ({ e' with key := key, val := val } : MapEntry).key = e'.key := fun e' he' => by rw [hj] at he'; cases he'; exact h3.symm
    have hlist : (es.modify j (fun e' => { e' with key := key, val := val })).toList = es.toList.set j { e0 with key := key, val := val } := by rw [Array.toList_modify, modify_eq_set _ _ _ _ h2]
    have hjl : j < es.toList.length := (List.getElem?_eq_some_iff.1 h2).1
    have who : ∀ x, x ∈ es.toList.set j { e0 with key := key, val := val } ↔ x = { e0 with key := key, val := val } ∨ (x ∈ es.toList ∧ x.key ≠ key) := by
      intro x
      constructor
      · intro hx
        obtain ⟨i, hi, ex⟩ := List.getElem_of_mem hx
        rw [List.getElem_set] at ex
        split at ex
        · exact Or.inl ex.symm
        · rename_i hne
          have hi' : i < es.toList.length := by simpa using hi
          refine Or.inr ⟨ex ▸ List.getElem_mem hi', fun hxk => hne ?_⟩
          have e1 : es.toList[i] = e0 := entry_of_key hs (List.getElem_mem hi') hm0 (by rw [ex, hxk, h3])
          have e2 : es.toList[j] = e0 := (List.getElem?_eq_some_iff.1 h2).2
          have hnd : (es.toList.map (·.born)).Nodup := hs.2.1
          have hnd' : es.toList.Nodup := by
            rw [List.Nodup] at hnd ⊢
            rw [List.pairwise_map] at hnd
            exact hnd.imp (fun h e => h (by rw [e]))
          exact (List.getElem_inj hnd').1 (e2.trans e1.symm)
      · rintro (rfl | ⟨hx, hxk⟩)
        · exact List.mem_iff_getElem.2 ⟨j, by simpa using hjl, by simp⟩
        · obtain ⟨i, hi, ex⟩ := List.getElem_of_mem hx
          refine List.mem_iff_getElem.2 ⟨i, by simpa using hi, ?_⟩
          rw [List.getElem_set, if_neg]
          · exact ex
          · rintro rfl
            have e2 : es.toList[j] = e0 := (List.getElem?_eq_some_iff.1 h2).2
            exact hxk (by rw [← ex, e2, h3])
    refine ⟨setBlock w b (.map (es.modify j (fun e' => { e' with key := key, val := val })) clock), es.size, ?_, ⟨es.modify j (fun e' => { e' with key := key, val := val }), clock, heap_setBlock_same hb _, stamped_modify hs _ _ (fun _ _ => rfl) (fun e' _ he' => hkeyf e' he'), by simp, ?_⟩, ⟨rfl, rfl, rfl, by simp [setBlock], fun i _ hi => heap_setBlock_other hb _ (fun e => hi (by rw [e]))⟩, by simp [setBlock], Nat.le_succ _, fun hno => absurd ((hM _ _).2 ⟨e0, hm0, h3, rfl⟩) (hno e0.val)⟩
    · simp [Instr.mapUpdate, run_underlying ht, MapKept.run_getObj_map hb, K.check false hkey, h1, hj, h3, K.stays hkey, MapKept.run_setObj_map _ hb, Result.andThen, setBlock]
    · intro x v
      rw [hlist]
      simp only [put]
      constructor
      · rintro (⟨rfl, rfl⟩ | ⟨hne, hm⟩)
        · exact ⟨_, (who _).2 (Or.inl rfl), rfl, rfl⟩
        · obtain ⟨y, hy, e1, e2⟩ := (hM x v).1 hm
          exact ⟨y, (who y).2 (Or.inr ⟨hy, by rw [e1]; exact hne⟩), e1, e2⟩
      · rintro ⟨y, hy, rfl, rfl⟩
        rcases (who y).1 hy with rfl | ⟨hy', hne⟩
        · exact Or.inl ⟨rfl, rfl⟩
        · exact Or.inr ⟨hne, (hM _ _).2 ⟨y, hy', rfl, rfl⟩⟩

/-- 'for k, v := range m' UNDER WAY: block r is an iterator over the map b, into which nothing has been laid since the loop began; 'left key': is the entry at key still to come?; cnt: how many are. -/
def Iter (w : World) (b r n : Nat) (M : Value → Value → Prop) (left : Value → Prop) (cnt : Nat) : Prop :=
  ∃ es clock since seen c0, w.heap[b]? = some (.map es clock) ∧ Stamped es clock ∧ es.size = n ∧ (∀ key v, M key v ↔ ∃ x ∈ es.toList, x.key = key ∧ x.val = v) ∧
    w.heap[r]? = some (.mapIter (some b) since seen c0) ∧ (∀ x ∈ es.toList, x.born < since) ∧ (leftOf es seen).size = cnt ∧ (∀ x ∈ es.toList, (left x.key ↔ seen.contains x.born = false)) ∧ since ≤ c0 ∧ since ≤ clock

variable {r cnt : Nat} {left : Value → Prop}

theorem Iter.is (h : Iter w b r n M left cnt) : Is w b n M := by
  obtain ⟨es, clock, _, _, _, h1, h2, h3, h4, _⟩ := h
  exact ⟨es, clock, h1, h2, h3, h4⟩

theorem Iter.left_eq (h : Iter w b r n M left cnt) : w.rangeLeft b r = cnt := by
  obtain ⟨es, clock, since, seen, c0, hb, _, _, _, hr, _, hc, _⟩ := h
  simp only [World.rangeLeft, hb, hr]
  exact hc

theorem Iter.ne (h : Iter w b r n M left cnt) : r ≠ b := by
  obtain ⟨es, clock, since, seen, c0, hb, _, _, _, hr, _⟩ := h
  intro e
  rw [e, hb] at hr
  cases hr

theorem Iter.lt (h : Iter w b r n M left cnt) : r < w.heap.size := by
  obtain ⟨es, clock, since, seen, c0, _, _, _, _, hr, _⟩ := h
  exact (Array.getElem?_eq_some_iff.1 hr).1

theorem Iter.of_block {w' : World} (h : Iter w b r n M left cnt) (hb : w'.heap[b]? = w.heap[b]?) (hr : w'.heap[r]? = w.heap[r]?) : Iter w' b r n M left cnt := by
  obtain ⟨es, clock, since, seen, c0, h1, h2, h3, h4, h5, rest⟩ := h
  exact ⟨es, clock, since, seen, c0, hb.trans h1, h2, h3, h4, hr.trans h5, rest⟩

theorem Iter.kept {w' : World} {row : Option Nat} (h : Iter w b r n M left cnt) (hg : w.grownBy w' row) (hb' : some b ≠ row) (hr' : some r ≠ row) : Iter w' b r n M left cnt :=
  h.of_block (hg.block b h.is.lt hb') (hg.block r h.lt hr')

/-- 'range m'. -/
theorem Is.range {t e : TypeId} (h : Is w b n M) (ht : P.underlying t = some (.map k e)) :
    ∃ w', (Instr.range t (.map (some b))).run P w = .ok (.pointer (some ⟨w.heap.size, 0, none⟩)) w' ∧ Iter w' b w.heap.size n M (fun _ => True) n ∧ w.grownBy w' none ∧ w'.heap.size = w.heap.size + 1 := by
  have hlt := h.lt
  obtain ⟨es, clock, hb, hs, rfl, hM⟩ := h
  refine ⟨_, run_range_map w t k e b es clock ht hb, ⟨es, clock, clock, #[], clock, ((MapKept.heap_alloc w _).2 b hlt).trans hb, hs, rfl, hM, (MapKept.heap_alloc w _).1, hs.1, ?_, ?_, Nat.le_refl _, Nat.le_refl _⟩, World.grownBy_alloc w _ none, by simp⟩
  · simp [leftOf]
  · intro x _
    simp

/-- THE STEP. -/
theorem Iter.next (h : Iter w b r n M left cnt) (ty : TypeId) :
    (cnt = 0 ∧ (∀ key v, M key v → ¬ left key) ∧ (Instr.next (.pointer (some ⟨r, 0, none⟩)) false ty).run P w = .ok (.tuple #[.bool false]) w) ∨
    ∃ key v w' cnt', M key v ∧ left key ∧ (Instr.next (.pointer (some ⟨r, 0, none⟩)) false ty).run P w = .ok (.tuple #[.bool true, key, v]) w' ∧
      Iter w' b r n M (fun x => left x ∧ x ≠ key) cnt' ∧ cnt' < cnt ∧ w.grownBy w' (some r) ∧ w'.heap.size = w.heap.size ∧ (Instr.entry (.pointer (some ⟨r, 0, none⟩))).run P w' = .ok (.tuple #[key, v]) w' := by
  have hne := h.ne
  obtain ⟨es, clock, since, seen, c0, hb, hs, rfl, hM, hr, hold, rfl, hl, hsc, hsk⟩ := h
  rcases run_next_at (P := P) w ty r b since c0 seen es clock hr hb hold hsc with ⟨h0, hrun⟩ | ⟨e, he, w1, hal, hrun⟩
  · refine Or.inl ⟨h0, fun key v hm hlk => ?_, hrun⟩
    obtain ⟨x, hx, rfl, _⟩ := (hM key v).1 hm
    have := (hl x hx).1 hlk
    rw [all_seen es seen h0 x hx] at this
    cases this
  · obtain ⟨hem, hes⟩ := mem_left he
    have hr1 : w1.heap[r]? = some (.mapIter (some b) since seen c0) := by rcases hal with rfl | rfl <;> exact hr
    have hb1 : w1.heap[b]? = some (.map es clock) := by rcases hal with rfl | rfl <;> exact hb
    have hset := heap_set (o' := .mapIter (some b) since (seen.push e.born) clock) hr1
    have hb' : (setBlock w1 r (.mapIter (some b) since (seen.push e.born) clock)).heap[b]? = some (.map es clock) := (hset.2 b (fun e1 => hne e1.symm)).trans hb1
    refine Or.inr ⟨e.key, e.val, _, (leftOf es (seen.push e.born)).size, (hM _ _).2 ⟨e, hem, rfl, rfl⟩, (hl e hem).2 (by simpa using hes), hrun,
      ⟨es, clock, since, seen.push e.born, clock, hb', hs, rfl, hM, hset.1, hold, rfl, fun x hx => ?_, hsk, hsk⟩, ?_, ?_, ?_, run_entry_at _ r b since seen es clock e hset.1 hb' hem hs.2.1⟩
    · show (left x.key ∧ x.key ≠ e.key) ↔ _
      rw [hl x hx, contains_push]
      constructor
      · rintro ⟨h1, h2⟩
        have hbn : ¬ x.born = e.born := fun hb => h2 (by rw [born_inj hs.2.1 hx hem hb])
        simp only [h1, Bool.false_or]
        simpa using hbn
      · intro h1
        simp only [Bool.or_eq_false_iff] at h1
        refine ⟨h1.1, fun hxe => ?_⟩
        have := entry_of_key hs hx hem hxe
        subst this
        simp at h1
    · exact left_shrinks es seen e he
    · rcases hal with rfl | rfl
      · exact ⟨rfl, rfl, rfl, by simp [setBlock], fun i _ hi => hset.2 i (fun e1 => hi (by rw [e1]))⟩
      · exact ⟨rfl, rfl, rfl, by simp [setBlock], fun i _ hi => hset.2 i (fun e1 => hi (by rw [e1]))⟩
    · rcases hal with rfl | rfl <;> simp [setBlock]

end

/-! ### at the operation, for the walk -/
section
variable {P : Program} (w : World) {ops : Array Oper} {rest : List Oper} {o : Oper} {a : Act} {Q : Exit → Act → World → Prop}

/-- 'm[k] = v'. -/
theorem wpList_store (hg : o.guard = none) (m x v : Operand) (t : TypeId) (hop : o.op = Op.mapUpdate t m x v) (k e : TypeId) (Kp : Value → Prop) (K : KeyV P k Kp w) (ht : P.underlying t = some (.map k e)) (b n : Nat) (M : Value → Value → Prop) (hall : ∀ key v, M key v → Kp key)
    (hm : a.eval m = .map (some b)) (h : Is w b n M) (key val : Value) (hx : a.eval x = key) (hv : a.eval v = val) (hkey : Kp key)
    (hK : ∀ w' n', Is w' b n' (put M key val) → w.grownBy w' (some b) → w.heap.size ≤ w'.heap.size → n' ≤ n + 1 → ((∀ v, ¬ M key v) → n' = n + 1) → wpList P ops Q rest (a.put o.dst undef) w') :
    wpList P ops Q (o :: rest) a w := by
  refine wpList_plain hg fun K' hK' => ?_
  obtain ⟨w', n', hrun, r1, r2, r3, r4, r5⟩ := h.store K hall ht val hkey
  unfold Oper.wp
  simp [execOp, hop, hm, hx, hv, hrun, Result.andThen]
  exact hK' _ _ (hK w' n' r1 r2 (by omega) r4 r5)

/-- 'range m'. -/
theorem wpList_range (hg : o.guard = none) (m : Operand) (t : TypeId) (hop : o.op = Op.range t m) (k e : TypeId) (ht : P.underlying t = some (.map k e)) (b n : Nat) (M : Value → Value → Prop)
    (hm : a.eval m = .map (some b)) (h : Is w b n M)
    (hK : ∀ w', Iter w' b w.heap.size n M (fun _ => True) n → w.grownBy w' none → w.heap.size < w'.heap.size → wpList P ops Q rest (a.put o.dst (.pointer (some ⟨w.heap.size, 0, none⟩))) w') :
    wpList P ops Q (o :: rest) a w := by
  refine wpList_plain hg fun K' hK' => ?_
  obtain ⟨w', hrun, r1, r2, r3⟩ := h.range ht
  unfold Oper.wp
  simp [execOp, hop, hm, hrun, Result.andThen]
  exact hK' _ _ (hK w' r1 r2 (by omega))

/-- THE STEP: 'mkK', 'mkV' write out the shapes of the keys and elements that the map holds. -/
theorem wpList_next {α : Type} (hg : o.guard = none) (it : Operand) (hop : o.op = Op.next it false) (mkK mkV : α → Value) (b r n : Nat) (M : Value → Value → Prop) (left : Value → Prop) (cnt : Nat)
    (inv : ∀ key v, M key v → ∃ x, key = mkK x ∧ v = mkV x) (hit : a.eval it = .pointer (some ⟨r, 0, none⟩)) (h : Iter w b r n M left cnt)
    (hDone : (∀ key v, M key v → ¬ left key) → wpList P ops Q rest (a.put o.dst (.tuple #[.bool false])) w)
    (hMore : ∀ (x : α) (w' : World) (cnt' : Nat), M (mkK x) (mkV x) → left (mkK x) → Iter w' b r n M (fun y => left y ∧ y ≠ mkK x) cnt' → cnt' < cnt → w.grownBy w' (some r) → w.heap.size ≤ w'.heap.size →
      (Instr.entry (.pointer (some ⟨r, 0, none⟩))).run P w' = .ok (.tuple #[mkK x, mkV x]) w' → wpList P ops Q rest (a.put o.dst (.tuple #[.bool true, mkK x, mkV x])) w') :
    wpList P ops Q (o :: rest) a w := by
  refine wpList_plain hg fun K' hK' => ?_
  unfold Oper.wp
  rcases h.next (P := P) o.type with ⟨_, hl, hrun⟩ | ⟨key, v, w', cnt', hm, hlk, hrun, hit', hlt, hgr, hsz, hen⟩
  · simp [execOp, hop, hit, hrun, Result.andThen]
    exact hK' _ _ (hDone hl)
  · obtain ⟨x, rfl, rfl⟩ := inv key v hm
    simp [execOp, hop, hit, hrun, Result.andThen]
    exact hK' _ _ (hMore x w' cnt' hm hlk hit' hlt hgr (by omega) hen)

end
end Go.Raw
