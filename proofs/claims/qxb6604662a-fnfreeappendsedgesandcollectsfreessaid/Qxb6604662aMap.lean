import Derived.Test.Qxb6604662aApp
namespace Go.Proofs.Qxb6604662a
open Go.RowKit

theorem run_checkKey (k : Rf) (w : World) (b : Bool) : (Instr.checkKey b 10000 28 (rv k)).run Try.prog w = .ok () w := by
  have hu : Try.prog.underlying 28 = some (.struct (Try.prog.fieldsOf 28)) := by kernel_rfl
  obtain ⟨f1, f2, e, a1, a2, a3, b1, b2, b3⟩ := fields_two (t := 28) (by kernel_rfl)
  have hpl : Try.prog.plainKey 9 = true := by kernel_rfl
  have p1 := fun (a b : ByteArray) => run_part_plain (P := Try.prog) (w := w) hpl (xs := #[.string a, .string b]) (off := 0) (v := .string a) rfl
  have p2 := fun (a b : ByteArray) => run_part_plain (P := Try.prog) (w := w) hpl (xs := #[.string a, .string b]) (off := 1) (v := .string b) rfl
  have key : ∀ n, (Instr.checkKey b (n + 2) 28 (rv k)).run Try.prog w = .ok () w := by
    intro n
    unfold rv
    simp only [Instr.checkKey, Sem.run_bind, run_underlying hu, Result.andThen_ok]
    rw [← Array.forIn_toList, e]
    simp [a1, a2, a3, b1, b2, b3, p1, p2, Result.andThen]
  exact key 9998

/-- The world with the map of the refs M laid at block m. -/
def putF (m : Nat) (w : World) (M : List Rf) : World :=
  { w with heap := w.heap.setIfInBounds m (.map (fents 0 M).toArray M.length) }

def hasF (M : List Rf) (k : Rf) : Bool := M.any fun x => decide (k = x)

theorem hasF_iff (M : List Rf) (k : Rf) : hasF M k = true ↔ k ∈ M := by
  simp [hasF]

theorem hasF_not (M : List Rf) (k : Rf) (h : k ∉ M) : hasF M k = false := by
  cases e : hasF M k with
  | false => rfl
  | true => exact absurd ((hasF_iff M k).1 e) h

/-- One more ref. -/
def addF (M : List Rf) (k : Rf) : List Rf := if hasF M k = true then M else M ++ [k]

theorem sameBits_rv (k : Rf) : Instr.sameBits 10000 (rv k) (rv k) = true := by
  have h : ∀ u : ByteArray, (u == u) = true := fun u => (MapKept.bytes_beq u u).2 rfl
  simp [rv, Instr.sameBits, h]

theorem run_update {m : Nat} {w : World} (k : Rf) {M : List Rf} (hm : w.heap[m]? = some (.map (fents 0 M).toArray M.length)) :
    (Instr.mapUpdate 35 (.map (some m)) (rv k) (.bool true)).run Try.prog w = .ok () (putF m w (addF M k)) := by
  have e1 := run_findKey k w M
  have e3 := run_checkKey k w false
  by_cases hk : k ∈ M
  · obtain ⟨j, hj, hmj⟩ := ffind_some k M 0 hk
    have hat := fents_at M 0 j k hmj
    rw [Nat.zero_add] at hj hat
    have hks : (Instr.keyThatStays (((fents 0 M).toArray[j]?.map (·.key)).getD (rv k)) (rv k)).run Try.prog w = .ok (rv k) w := by
      have : ((fents 0 M).toArray[j]?.map (·.key)).getD (rv k) = rv k := by simp [hat]
      rw [this]
      simp [Instr.keyThatStays, sameBits_rv]
    have hmod : ((fents 0 M).toArray.modify j fun e => { e with key := rv k, val := .bool true }) = (fents 0 M).toArray := by
      apply Array.ext_getElem?
      intro i
      rw [Array.getElem?_modify]
      split
      · rename_i hij
        subst hij
        simp [hat]
      · rfl
    simp only [Instr.mapUpdate, Sem.run_bind, run_underlying Try.underlying35, Result.andThen_ok, MapKept.run_getObj_map hm, e3, e1, hj, hks, hmod, MapKept.run_setObj_map _ hm, putF, addF, if_pos ((hasF_iff M k).2 hk)]
  · have hj := ffind_none k M 0 hk
    have e4 := fents_push k M 0
    rw [Nat.zero_add] at e4
    simp [Instr.mapUpdate, run_underlying Try.underlying35, MapKept.run_getObj_map hm, MapKept.run_setObj_map _ hm, Result.andThen, e1, e3, hj, putF, addF, hasF_not M k hk, e4]

theorem run_look {m : Nat} {w : World} (k : Rf) {M : List Rf} (hm : w.heap[m]? = some (.map (fents 0 M).toArray M.length)) :
    (Instr.lookup 35 (.map (some m)) (rv k) false).run Try.prog w = .ok (.bool (hasF M k)) w := by
  have e1 := run_findKey k w M
  have e3 := fun b => run_checkKey k w b
  have hz : (Try.prog.info? 4).map (·.zero) = some (some (.bool false)) := by kernel_rfl
  obtain ⟨i, hi, hi2⟩ := Option.map_eq_some_iff.1 hz
  by_cases hk : k ∈ M
  · obtain ⟨j, hj, _⟩ := ffind_some k M 0 hk
    simp [Instr.lookup, run_underlying Try.underlying35, MapKept.run_getObj_map hm, Result.andThen, e1, e3, hj, (hasF_iff M k).2 hk]
  · have hj := ffind_none k M 0 hk
    simp [Instr.lookup, run_underlying Try.underlying35, MapKept.run_getObj_map hm, Result.andThen, e1, e3, hj, hasF_not M k hk, zeroValue, typeInfo, hi, hi2]

theorem putF_at {m : Nat} {w : World} (M : List Rf) (hm : m < w.heap.size) : (putF m w M).heap[m]? = some (.map (fents 0 M).toArray M.length) := by
  simp [putF, hm]
theorem putF_ne {m : Nat} {w : World} (M : List Rf) {q : Nat} (hq : q ≠ m) : (putF m w M).heap[q]? = w.heap[q]? := by
  simp [putF, Ne.symm hq]
theorem putF_size (m : Nat) (w : World) (M : List Rf) : (putF m w M).heap.size = w.heap.size := by
  simp [putF]

theorem mem_addF (M : List Rf) (k x : Rf) : x ∈ addF M k ↔ x ∈ M ∨ x = k := by
  unfold addF
  split
  · rename_i h
    constructor
    · exact .inl
    · rintro (h1 | rfl)
      · exact h1
      · exact (hasF_iff _ _).1 h
  · simp

end Go.Proofs.Qxb6604662a
