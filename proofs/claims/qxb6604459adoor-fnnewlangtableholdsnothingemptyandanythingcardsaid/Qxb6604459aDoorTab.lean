import Derived.Test.Qxb6604459aDoorLangKey
import Derived.MapKept
namespace Go.Proofs.Qxb6604459aDoor
open Go.RowKit

theorem langSize (op : ByteArray) (ac asl kc : Option Addr) (nR cc nS cs kn kcap : Nat) (nb : Bool) (w : World) (h1 : nR ≤ 1) (h2 : nS ≤ 3) (h3 : kn ≤ 1000) :
    Calls Tryd.prog 40 #[.agg #[.string op, .slice ac nR cc, .slice asl nS cs, .bool nb, .int .i32 0, .slice none 0 0, .bool false], .slice kc kn kcap] w fun e w' =>
      e = .returned (.int .i64 (300 + kn + 4 * nS + 8 * nR)) ∧ w' = w.alloc (.cells #[.string op, .slice ac nR cc, .slice asl nS cs, .bool nb, .int .i32 0, .slice none 0 0, .bool false] 62) := by
  go_enter Tryd.func40, Tryd.ntmps40
  go_wp2
  go_ret
  exact ⟨rfl, rfl⟩

/-! ### The map from keys to numbers -/
def kstr (k : List UInt8) : Value := .string ⟨k.toArray⟩

def kents : Nat → List (List UInt8) → List MapEntry
  | _, [] => []
  | i, k :: r => { key := kstr k, val := .int .i32 i, born := i } :: kents (i + 1) r

def kfind (k : List UInt8) : List (List UInt8) → Nat → Option (Nat × Value)
  | [], _ => none
  | k' :: r, i => if k = k' then some (i, .int .i32 i) else kfind k r (i + 1)

theorem kents_push (k : List UInt8) : ∀ (M : List (List UInt8)) (i : Nat), kents i (M ++ [k]) = kents i M ++ [{ key := kstr k, val := .int .i32 ((i + M.length : Nat) : Int), born := i + M.length }]
  | [], i => by simp [kents]
  | k' :: r, i => by
    have e : i + 1 + r.length = i + (r.length + 1) := by omega
    rw [List.cons_append, kents, kents_push k r (i + 1), kents, List.cons_append, List.length_cons, e]

theorem kents_length : ∀ (M : List (List UInt8)) (i : Nat), (kents i M).length = M.length
  | [], _ => rfl
  | k' :: r, i => by simp [kents, kents_length r (i + 1)]

theorem kfind_none (k : List UInt8) : ∀ (M : List (List UInt8)) (i : Nat), k ∉ M → kfind k M i = none
  | [], _, _ => rfl
  | k' :: r, i, h => by
    have h1 : k ≠ k' := fun e => h (by simp [e])
    have h2 : k ∉ r := fun e => h (by simp [e])
    simp [kfind, h1, kfind_none k r (i + 1) h2]

theorem kfind_push (k : List UInt8) : ∀ (M : List (List UInt8)) (i : Nat), k ∉ M → kfind k (M ++ [k]) i = some (i + M.length, .int .i32 ((i + M.length : Nat) : Int))
  | [], i, _ => by simp [kfind]
  | k' :: r, i, h => by
    have h1 : k ≠ k' := fun e => h (by simp [e])
    have h2 : k ∉ r := fun e => h (by simp [e])
    have e : i + 1 + r.length = i + (r.length + 1) := by omega
    simp only [List.cons_append, kfind, if_neg h1, kfind_push k r (i + 1) h2, List.length_cons, e]

theorem beq_kstr (k k' : List UInt8) : ((⟨k.toArray⟩ : ByteArray) == (⟨k'.toArray⟩ : ByteArray)) = decide (k = k') := by
  rw [Bool.eq_iff_iff, MapKept.bytes_beq, decide_eq_true_iff]
  constructor
  · intro e
    have := congrArg (fun b : ByteArray => b.data.toList) e
    simpa using this
  · intro e; rw [e]

theorem findNow_kents (k : List UInt8) : ∀ (M : List (List UInt8)) (i : Nat), Instr.findNow .string (kstr k) (kents i M) i = some (kfind k M i)
  | [], _ => rfl
  | k' :: r, i => by
    have hs : Instr.sameNow .string (kstr k) (kstr k') = some (decide (k = k')) := by
      show some _ = _
      rw [beq_kstr]
    rw [kents, Instr.findNow]
    simp only [hs]
    by_cases h : k = k'
    · simp [h, kfind]
    · simp [h, kfind, findNow_kents k r (i + 1)]

theorem run_lookup_at {m : Nat} {w : World} {k : List UInt8} {ks : List (List UInt8)} (hm : w.heap[m]? = some (.map (kents 0 ks).toArray ks.length)) :
    (Instr.lookup 46 (.map (some m)) (kstr k) true).run Tryd.prog w = .ok (.tuple #[((kfind k ks 0).map Prod.snd).getD (.int .i32 0), .bool (kfind k ks 0).isSome]) w := by
  have e1 := MapKept.run_findKey (P := Tryd.prog) (w := w) (kt := 9) Tryd.underlying9 (findNow_kents k ks 0)
  have e2 := fun b n => MapKept.run_checkKey (P := Tryd.prog) (w := w) (kt := 9) (k := kstr k) Tryd.underlying9 trivial b n
  have e3 : ∀ b, (Instr.checkKey b 10000 9 (kstr k)).run Tryd.prog w = .ok () w := fun b => e2 b 9999
  have hz : (Tryd.prog.info? 47).map (·.zero) = some (some (.int .i32 0)) := by kernel_rfl
  obtain ⟨i, hi, hi2⟩ := Option.map_eq_some_iff.1 hz
  cases h : kfind k ks 0 with
  | none => simp [Instr.lookup, run_underlying Tryd.underlying46, MapKept.run_getObj_map hm, Result.andThen, e1, e3, h, zeroValue, typeInfo, hi, hi2]
  | some p => simp [Instr.lookup, run_underlying Tryd.underlying46, MapKept.run_getObj_map hm, Result.andThen, e1, e3, h]

/-- The world with the map of the keys ks laid at block m. -/
def putMap (m : Nat) (w : World) (ks : List (List UInt8)) : World :=
  { w with heap := w.heap.setIfInBounds m (.map (kents 0 ks).toArray ks.length) }

theorem run_update_new {m : Nat} {w : World} {k : List UInt8} {ks : List (List UInt8)} (hm : w.heap[m]? = some (.map (kents 0 ks).toArray ks.length)) (hk : k ∉ ks) :
    (Instr.mapUpdate 46 (.map (some m)) (kstr k) (.int .i32 (ks.length : Int))).run Tryd.prog w = .ok () (putMap m w (ks ++ [k])) := by
  have e1 := MapKept.run_findKey (P := Tryd.prog) (w := w) (kt := 9) Tryd.underlying9 (findNow_kents k ks 0)
  have e3 : (Instr.checkKey false 10000 9 (kstr k)).run Tryd.prog w = .ok () w := MapKept.run_checkKey (P := Tryd.prog) (w := w) (kt := 9) (k := kstr k) Tryd.underlying9 trivial false 9999
  have hj := kfind_none k ks 0 hk
  have e4 := kents_push k ks 0
  simp only [Nat.zero_add] at e4
  simp [Instr.mapUpdate, run_underlying Tryd.underlying46, MapKept.run_getObj_map hm, MapKept.run_setObj_map _ hm, Result.andThen, e1, e3, hj, putMap, e4]

theorem putMap_at {m : Nat} {w : World} (ks : List (List UInt8)) (hm : m < w.heap.size) : (putMap m w ks).heap[m]? = some (.map (kents 0 ks).toArray ks.length) := by
  simp [putMap, hm]

theorem putMap_ne {m : Nat} {w : World} (ks : List (List UInt8)) {q : Nat} (hq : q ≠ m) : (putMap m w ks).heap[q]? = w.heap[q]? := by
  simp [putMap, Ne.symm hq]

theorem putMap_size (m : Nat) (w : World) (ks : List (List UInt8)) : (putMap m w ks).heap.size = w.heap.size := by
  simp [putMap]

/-- A language table at block x. -/
structure Tab (w : World) (x m gl : Nat) (V : Value) (ks : List (List UInt8)) (ls : List Value) (any bytes : Int) : Prop where
  row : Row w x 49 [V, .map (some m), .int .i32 any, .int .i64 bytes, .int .i64 0, .bool false]
  map : w.heap[m]? = some (.map (kents 0 ks).toArray ks.length)
  own : Own w V 7 ks.length ls gl
  xg : gl ≠ x
  mg : gl ≠ m
  xm : x ≠ m
  ml : m < w.heap.size
  gl : gl < w.heap.size

/-- Every old block but three stands. -/
structure Fr (w w' : World) (a b c : Nat) : Prop where
  os : w'.os = w.os
  tape : w'.tape = w.tape
  output : w'.output = w.output
  size : w.heap.size ≤ w'.heap.size
  block : ∀ q, q < w.heap.size → q ≠ a → q ≠ b → q ≠ c → w'.heap[q]? = w.heap[q]?

theorem Fr.below {w w' : World} {a b c B : Nat} (h : Fr w w' a b c) (hB : B ≤ w.heap.size) (ha : B ≤ a) (hb : B ≤ b) (hc : B ≤ c) : Below B w w' :=
  ⟨h.os, h.tape, h.output, h.size, fun q hq => h.block q (by omega) (by omega) (by omega) (by omega)⟩

theorem Fr.row {w w' : World} {a b c q : Nat} {t : TypeId} {xs : List Value} (h : Fr w w' a b c) (hr : Row w q t xs) (h1 : q ≠ a) (h2 : q ≠ b) (h3 : q ≠ c) : Row w' q t xs :=
  (h.block q hr.lt h1 h2 h3).trans hr

theorem Fr.cell {w w' : World} {a b c : Nat} (h : Fr w w' a b c) {p : Addr} {v : Value} (hr : w.cell? p = some v) (h1 : p.block ≠ a) (h2 : p.block ≠ b) (h3 : p.block ≠ c) : w'.cell? p = some v := by
  rw [World.cell?_of_block (w := w) (h.block p.block (World.block_lt_of_cell? _ _ hr) h1 h2 h3)]; exact hr

theorem Tab.kept {w w' : World} {x m gl : Nat} {V : Value} {ks : List (List UInt8)} {ls : List Value} {any bytes : Int} (h : Tab w x m gl V ks ls any bytes) (hs : w.heap.size ≤ w'.heap.size) (h1 : w'.heap[x]? = w.heap[x]?) (h2 : w'.heap[m]? = w.heap[m]?) (h3 : w'.heap[gl]? = w.heap[gl]?) : Tab w' x m gl V ks ls any bytes :=
  ⟨by unfold Row; rw [h1]; exact h.row, by rw [h2]; exact h.map, h.own.kept h3, h.xg, h.mg, h.xm, Nat.lt_of_lt_of_le h.ml hs, Nat.lt_of_lt_of_le h.gl hs⟩

theorem Tab.below {w w' : World} {x m gl : Nat} {V : Value} {ks : List (List UInt8)} {ls : List Value} {any bytes : Int} (h : Tab w x m gl V ks ls any bytes) (hb : Below w.heap.size w w') : Tab w' x m gl V ks ls any bytes :=
  h.kept hb.size (hb.block _ h.row.lt) (hb.block _ h.ml) (hb.block _ h.gl)

end Go.Proofs.Qxb6604459aDoor
