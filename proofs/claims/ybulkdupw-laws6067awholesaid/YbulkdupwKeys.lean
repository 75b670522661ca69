/- Seat b6067a: the keys of 'bans' (a banKey of a peer alone), and what the map holds. -/
import Derived.Test.YbulkdupwRows
import Derived.Test.YbulkdupwRawMap
import Derived.Test.YbulkdupwPlain
import Derived.WalkKit
import Derived.WalkSpells
namespace Go.Proofs.Ybulkdupw
open Go.RowKit

/-- banKey{peer: s} and Ban{PeerID: s}, as values. -/
def kv (s : ByteArray) : Value := .agg #[.int .u64 0, .int .u64 0, .pointer none, .int .u8 0, .string s]
def bv (s : ByteArray) : Value := .agg #[.int .u64 0, .int .u64 0, .pointer none, .int .u8 0, .string s, .int .u64 0, .int .i64 0, .pointer none, .string ⟨#[]⟩]
def bv0 : Value := .agg #[.int .u64 0, .int .u64 0, .pointer none, .int .u8 0, .string ⟨#[]⟩, .int .u64 0, .int .i64 0, .pointer none, .string ⟨#[]⟩]

theorem kv_inj {s t : ByteArray} (h : kv s = kv t) : s = t := by
  unfold kv at h
  simp only [Value.agg.injEq] at h
  have := congrArg (fun a => a[4]?) h
  simpa using this

def IsKey (v : Value) : Prop := ∃ s, v = kv s

theorem toList_inj {s t : ByteArray} (h : s.toList = t.toList) : s = t := by
  rw [ByteArray.toList_eq, ByteArray.toList_eq] at h
  obtain ⟨⟨x⟩⟩ := s
  obtain ⟨⟨y⟩⟩ := t
  simp only at h
  rw [h]
theorem beq_text (s t : ByteArray) : (s.toList == t.toList) = decide (s = t) := by
  by_cases h : s = t
  · subst h; simp
  · have : ¬ s.toList = t.toList := fun e => h (toList_inj e)
    simp [h, this]

theorem eq_pre (w : World) : (Op.equalIn 9999 34 (.agg #[.int .u64 0, .int .u64 0, .pointer none, .int .u8 0]) (.agg #[.int .u64 0, .int .u64 0, .pointer none, .int .u8 0])).run Yba.prog w = .ok true w := by kernel_rfl
theorem part_pre (w : World) (s : ByteArray) : (part 34 #[.int .u64 0, .int .u64 0, .pointer none, .int .u8 0, .string s] 0).run Yba.prog w = .ok (.agg #[.int .u64 0, .int .u64 0, .pointer none, .int .u8 0]) w := by kernel_rfl
theorem part_peer (w : World) (s : ByteArray) : (part 9 #[.int .u64 0, .int .u64 0, .pointer none, .int .u8 0, .string s] 4).run Yba.prog w = .ok (.string s) w := by kernel_rfl

theorem eq_key_in (w : World) (s t : ByteArray) : (Op.equalIn 10000 36 (kv s) (kv t)).run Yba.prog w = .ok (decide (s = t)) w := by
  unfold kv
  rw [run_equalIn_struct w 9999 36 _ _ (by kernel_rfl) (by kernel_rfl)]
  simp only [Program.fieldsOf, Yba.underlying36, Op.eqFields, Sem.run_bind, Sem.run_ite, part_pre, part_peer, eq_pre, run_equalIn_string w 9998 9 s t Yba.underlying9, Result.andThen_ok, beq_text]
  cases decide (s = t) <;> simp

theorem eq_key (w : World) (s t : ByteArray) : (Op.equal 36 (kv s) (kv t)).run Yba.prog w = .ok (decide (s = t)) w := eq_key_in w s t

theorem check_key (em : Bool) (w : World) (s : ByteArray) : (Instr.checkKey em 10000 36 (kv s)).run Yba.prog w = .ok () w := by kernel_rfl
theorem stays_key (w : World) (s : ByteArray) : (Instr.keyThatStays (kv s) (kv s)).run Yba.prog w = .ok (kv s) w := by
  have h : (s == s) = true := by rw [beq_toListBytes]; simp
  simp [kv, Instr.keyThatStays, Instr.sameBits, h]

theorem banKeyV (w : World) : Raw.KeyV Yba.prog 36 IsKey w := by
  refine ⟨?_, ?_, ?_⟩
  · rintro em v ⟨s, rfl⟩
    exact check_key em w s
  · rintro x ⟨s, rfl⟩ es hes
    have heq : ∀ y, IsKey y → ∃ q : Bool, (Op.equal 36 (kv s) y).run Yba.prog w = .ok q w ∧ (q = true ↔ y = kv s) := by
      rintro y ⟨t, rfl⟩
      exact ⟨_, eq_key w s t, by simp; exact ⟨fun e => by rw [e], fun e => (kv_inj e).symm⟩⟩
    cases es with
    | nil => exact Or.inl ⟨by simp [Instr.findKey, Instr.findNow, run_underlying Yba.underlying36], by simp⟩
    | cons e0 es =>
      have hfk : (Instr.findKey 36 (kv s) (e0 :: es)).run Yba.prog w = (Instr.findAsking 36 (kv s) (e0 :: es) 0).run Yba.prog w := by
        simp [Instr.findKey, Instr.findNow, Instr.sameNow, run_underlying Yba.underlying36]
      rw [hfk]
      rcases Raw.findAsking_spec w heq (e0 :: es) 0 hes with h | ⟨j', e', h1, h2, h3⟩
      · exact Or.inl h
      · exact Or.inr ⟨j', e', by simpa using h1, h2, h3⟩
  · rintro v ⟨s, rfl⟩
    exact stays_key w s

/-- What 'bans' holds when the first n of the texts f are in it. -/
def Mp (f : Nat → ByteArray) (n : Nat) : Value → Value → Prop := fun key v => ∃ i, i < n ∧ key = kv (f i) ∧ v = bv (f i)

theorem Mp_key {f : Nat → ByteArray} {n : Nat} : ∀ key v, Mp f n key v → IsKey key := by
  rintro key v ⟨i, _, rfl, _⟩
  exact ⟨_, rfl⟩
theorem Mp_zero {f : Nat → ByteArray} : ∀ key v, Mp f 0 key v ↔ False := by
  intro key v
  simp [Mp]
theorem Mp_put {f : Nat → ByteArray} {n : Nat} : ∀ key v, Mp f (n + 1) key v ↔ Raw.put (Mp f n) (kv (f n)) (bv (f n)) key v := by
  intro key v
  simp only [Mp, Raw.put]
  constructor
  · rintro ⟨i, hi, rfl, rfl⟩
    by_cases e : f i = f n
    · left; rw [e]; exact ⟨rfl, rfl⟩
    · right
      have : i ≠ n := fun e' => e (by rw [e'])
      exact ⟨fun hh => e (kv_inj hh), i, by omega, rfl, rfl⟩
  · rintro (⟨rfl, rfl⟩ | ⟨_, i, hi, rfl, rfl⟩)
    · exact ⟨n, by omega, rfl, rfl⟩
    · exact ⟨i, by omega, rfl, rfl⟩

theorem zero42 (w : World) : (zeroValue 42).run Yba.prog w = .ok bv0 w := by kernel_rfl

/-- 'v, ok := bans[banKey{peer: s}]'. -/
theorem look_ban {w : World} {m n lb : Nat} {f : Nat → ByteArray} (h : Raw.Is w m n (Mp f lb)) (s : ByteArray) :
    (Instr.lookup 37 (.map (some m)) (kv s) true).run Yba.prog w = .ok (.tuple #[if hasB f lb s then bv s else bv0, .bool (hasB f lb s)]) w := by
  by_cases hs : ∃ i, i < lb ∧ f i = s
  · obtain ⟨i, hi, rfl⟩ := hs
    have := h.look_at true (banKeyV w) Mp_key Yba.underlying37 (zero42 w) (key := kv (f i)) (v := bv (f i)) ⟨_, rfl⟩ ⟨i, hi, rfl, rfl⟩
    rw [hasB_of hi rfl]
    simpa using this
  · have hne : ∀ i, i < lb → f i ≠ s := fun i hi e => hs ⟨i, hi, e⟩
    have := h.look_none true (banKeyV w) Mp_key Yba.underlying37 (zero42 w) (key := kv s) ⟨_, rfl⟩ (by
      rintro v ⟨i, hi, e, _⟩
      exact hne i hi (kv_inj e).symm)
    rw [hasB_not hne]
    simpa using this

end Go.Proofs.Ybulkdupw
