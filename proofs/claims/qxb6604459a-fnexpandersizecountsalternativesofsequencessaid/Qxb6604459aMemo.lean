import Derived.Test.Qxb6604459aLeaf
import Derived.LaidEql
import Derived.MapKept
namespace Go.Proofs.Qxb6604459a
open Go.RowKit

/-- A key of the memo: a pointer type's number and the block that it points to. -/
abbrev Key := Nat × Nat

def kv (k : Key) : Value := .iface k.1 (.pointer (some ⟨k.2, 0, none⟩))

/-- The memo's entries, in the order of insertion: each key with its size. -/
def ents (S : Key → Nat) : Nat → List Key → List MapEntry
  | _, [] => []
  | i, k :: r => { key := kv k, val := .int .i64 (S k), born := i } :: ents S (i + 1) r

def mfind (S : Key → Nat) (k : Key) : List Key → Nat → Option (Nat × Value)
  | [], _ => none
  | k' :: r, i => if k = k' then some (i, .int .i64 (S k')) else mfind S k r (i + 1)

theorem mfind_none (S : Key → Nat) (k : Key) : ∀ (M : List Key) (i : Nat), k ∉ M → mfind S k M i = none
  | [], _, _ => rfl
  | k' :: r, i, h => by
    have h1 : k ≠ k' := fun e => h (by simp [e])
    have h2 : k ∉ r := fun e => h (by simp [e])
    simp [mfind, h1, mfind_none S k r (i + 1) h2]

theorem mfind_some (S : Key → Nat) (k : Key) : ∀ (M : List Key) (i : Nat), k ∈ M → ∃ j, mfind S k M i = some (j, .int .i64 (S k))
  | [], _, h => by simp at h
  | k' :: r, i, h => by
    by_cases h1 : k = k'
    · subst h1; exact ⟨i, by simp [mfind]⟩
    · have h2 : k ∈ r := by simpa [h1] using h
      obtain ⟨j, hj⟩ := mfind_some S k r (i + 1) h2
      exact ⟨j, by simp [mfind, h1, hj]⟩

theorem ents_push (S : Key → Nat) (k : Key) : ∀ (M : List Key) (i : Nat), ents S i (M ++ [k]) = ents S i M ++ [{ key := kv k, val := .int .i64 (S k), born := i + M.length }]
  | [], i => by simp [ents]
  | k' :: r, i => by simp [ents, ents_push S k r (i + 1)]; omega

theorem ents_length (S : Key → Nat) : ∀ (M : List Key) (i : Nat), (ents S i M).length = M.length
  | [], _ => rfl
  | k' :: r, i => by simp [ents, ents_length S r (i + 1)]

/-- The types whose values are the memo's keys. -/
def PtrTy (P : Program) (t : TypeId) : Prop :=
  ∃ te i j, P.underlying t = some (.pointer te) ∧ P.info? t = some i ∧ i.comparable = true ∧ P.info? te = some j ∧ j.size ≠ 0

/-- A key that the memo may hold: of a pointer type, to a block of cells that is no string's, and is not the memo. -/
def KeyOk (P : Program) (m : Nat) (w : World) (k : Key) : Prop :=
  PtrTy P k.1 ∧ k.2 ≠ m ∧ ∃ cs t, w.heap[k.2]? = some (.cells cs t (0, 0))

theorem equal_keys {P : Program} {ms : Array (String × TypeId)} {ti : TypeId} {m : Nat} {w : World} {k k' : Key} (hi : P.underlying ti = some (.interface ms)) (h : KeyOk P m w k) (h' : KeyOk P m w k') :
    (Op.equal ti (kv k) (kv k')).run P w = .ok (decide (k = k')) w := by
  obtain ⟨⟨te, i, j, h1, h2, h3, h4, h5⟩, _, cs, t, h6⟩ := h
  obtain ⟨_, _, cs', t', h6'⟩ := h'
  obtain ⟨a, b⟩ := k
  obtain ⟨a', b'⟩ := k'
  simp only at *
  by_cases e : a = a'
  · subst e
    by_cases e2 : b = b'
    · subst e2
      simp [Op.equal, Op.maxDepth, kv, run_equalIn_iface_ptr_same w 9998 _ hi h1 h2 h3 h4]
    · have hne : (⟨b, 0, none⟩ : Addr) ≠ ⟨b', 0, none⟩ := fun q => e2 (congrArg Addr.block q)
      simp [Op.equal, Op.maxDepth, kv, run_equalIn_iface_ptr_other w 9998 hi h1 h2 h3 h4 h5 hne h6 h6', e2]
  · have hh : ∀ d : Nat, (Op.equalIn (d + 1) ti (kv (a, b)) (kv (a', b'))).run P w = .ok false w := fun d => by
      simp [kv, Op.equalIn, run_underlying hi, e]
    simp [Op.equal, Op.maxDepth, hh 9999, e]

theorem run_findAsking {P : Program} {ms : Array (String × TypeId)} {ti : TypeId} {m : Nat} {w : World} {k : Key} (S : Key → Nat) (hi : P.underlying ti = some (.interface ms)) (h : KeyOk P m w k) :
    ∀ (M : List Key) (i j : Nat), (∀ k ∈ M, KeyOk P m w k) → (Instr.findAsking ti (kv k) (ents S j M) i).run P w = .ok (mfind S k M i) w
  | [], i, j, _ => by simp [ents, Instr.findAsking, mfind]
  | k' :: r, i, j, hM => by
    have e1 := equal_keys hi h (hM k' (by simp))
    have e2 := run_findAsking S hi h r (i + 1) (j + 1) (fun k hk => hM k (by simp [hk]))
    by_cases e : k = k'
    · subst e
      simp [ents, Instr.findAsking, mfind, e1]
    · simp [ents, Instr.findAsking, mfind, e1, e, e2]

theorem run_findKey {P : Program} {ms : Array (String × TypeId)} {ti : TypeId} {m : Nat} {w : World} {k : Key} (S : Key → Nat) (hi : P.underlying ti = some (.interface ms)) (h : KeyOk P m w k)
    (M : List Key) (hM : ∀ k ∈ M, KeyOk P m w k) : (Instr.findKey ti (kv k) (ents S 0 M)).run P w = .ok (mfind S k M 0) w := by
  cases M with
  | nil => simp [Instr.findKey, run_underlying hi, ents, Instr.findNow, mfind]
  | cons k' r =>
    have := run_findAsking S hi h (k' :: r) 0 0 hM
    simpa [Instr.findKey, run_underlying hi, ents, Instr.findNow, Instr.sameNow] using this

theorem run_checkKey {P : Program} {ms : Array (String × TypeId)} {ti : TypeId} {m : Nat} {w : World} {k : Key} (hi : P.underlying ti = some (.interface ms)) (h : KeyOk P m w k) (b : Bool) :
    (Instr.checkKey b 10000 ti (kv k)).run P w = .ok () w := by
  obtain ⟨⟨te, i, j, h1, h2, h3, h4, h5⟩, _⟩ := h
  have hh : ∀ n : Nat, (Instr.checkKey b (n + 2) ti (kv k)).run P w = .ok () w := fun n => by
    simp [Instr.checkKey, kv, run_underlying hi, run_underlying h1, typeInfo, h2, h3]
  exact hh 9998

theorem run_lookup_memo {P : Program} {ms : Array (String × TypeId)} {tm ti te : TypeId} {i : TypeInfo} {m : Nat} {w : World} {k : Key} (S : Key → Nat) (ht : P.underlying tm = some (.map ti te)) (hz : P.info? te = some i) (hz' : i.zero = some (.int .i64 0))
    (hi : P.underlying ti = some (.interface ms)) (h : KeyOk P m w k) (M : List Key) (hM : ∀ k ∈ M, KeyOk P m w k) (hm : w.heap[m]? = some (.map (ents S 0 M).toArray M.length)) :
    (Instr.lookup tm (.map (some m)) (kv k) true).run P w = .ok (.tuple #[.int .i64 (if k ∈ M then (S k : Int) else 0), .bool (decide (k ∈ M))]) w := by
  have e1 := run_findKey S hi h M hM
  have e2 := fun b => run_checkKey (b := b) hi h
  by_cases e : k ∈ M
  · obtain ⟨j, hj⟩ := mfind_some S k M 0 e
    simp [Instr.lookup, run_underlying ht, MapKept.run_getObj_map hm, Result.andThen, e1, e2, hj, e]
  · have hj := mfind_none S k M 0 e
    simp [Instr.lookup, run_underlying ht, MapKept.run_getObj_map hm, Result.andThen, e1, e2, hj, e, zeroValue, typeInfo, hz, hz']

/-- The world with the memo M laid at block m. -/
def putMemo (S : Key → Nat) (m : Nat) (w : World) (M : List Key) : World :=
  { w with heap := w.heap.setIfInBounds m (.map (ents S 0 M).toArray M.length) }

theorem run_update_memo {P : Program} {ms : Array (String × TypeId)} {tm ti te : TypeId} {m : Nat} {w : World} {k : Key} (S : Key → Nat) (ht : P.underlying tm = some (.map ti te))
    (hi : P.underlying ti = some (.interface ms)) (h : KeyOk P m w k) (M : List Key) (hM : ∀ k ∈ M, KeyOk P m w k) (hm : w.heap[m]? = some (.map (ents S 0 M).toArray M.length)) (hk : k ∉ M) (n : Int) (hn : n = S k) :
    (Instr.mapUpdate tm (.map (some m)) (kv k) (.int .i64 n)).run P w = .ok () (putMemo S m w (M ++ [k])) := by
  subst hn
  have e1 := run_findKey S hi h M hM
  have e2 := fun b => run_checkKey (b := b) hi h
  have hj := mfind_none S k M 0 hk
  simp [Instr.mapUpdate, run_underlying ht, MapKept.run_getObj_map hm, MapKept.run_setObj_map _ hm, Result.andThen, e1, e2, hj, putMemo, ents_push]

end Go.Proofs.Qxb6604459a
