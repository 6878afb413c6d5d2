import Derived.Test.Qxb6604662aMem
import Derived.Deep.RegionLaw
import Derived.ChangeKeysEq
import Derived.MapKept
namespace Go.Proofs.Qxb6604662a
open Go.RowKit

theorem info28 : (Try.prog.info? 28).map (fun i => (i.zero, i.size, i.bytes)) = some (some (.agg #[.string ⟨#[]⟩, .string ⟨#[]⟩]), 2, 32) := by kernel_rfl
theorem info30 : (Try.prog.info? 30).map (fun i => (i.zero, i.size, i.bytes)) = some (some (.agg #[.string ⟨#[]⟩, .string ⟨#[]⟩]), 2, 32) := by kernel_rfl

section
variable {w : World} {ops : Array Oper} {rest : List Oper} {o : Oper} {a : Act} {Q : Exit → Act → World → Prop} {K : Act → World → Prop} {E : Prop} {t tx e : TypeId} {z : Value} {sz bytes : Nat}

theorem wpList_app (hg : o.guard = none) (s x : Operand) (hop : o.op = Op.call { callee := Callee.builtin Builtin.append, args := #[s, x], argTypes := #[t, tx] })
    (ht : Try.prog.underlying t = some (.slice e)) (hi : (Try.prog.info? e).map (fun i => (i.zero, i.size, i.bytes)) = some (some z, sz, bytes)) (hzs : z.cells.size = sz)
    (n : Nat) (xs : List Value) (g : Nat) (v : Value) (hs : a.eval s = v) (hown : Own w v sz n xs g) (m : Nat) (news : List Value) (y : Value) (hx : a.eval x = y) (hsrc : Src Try.prog sz tx y m news w) (hm : 0 < m) (hlim : (n + m) * bytes ≤ 140737488355328) (hmax : n + m ≤ maxLen)
    (hK : ∀ cap' w' g', Own w' (.slice (some ⟨g', 0, none⟩) (n + m) cap') sz (n + m) (xs ++ news) g' → w.grownBy w' (some g) → (g' = g ∨ g' = w.heap.size) → wpList Try.prog ops Q rest (a.put o.dst (.slice (some ⟨g', 0, none⟩) (n + m) cap')) w') :
    wpList Try.prog ops Q (o :: rest) a w := by
  obtain ⟨i, h1, h2, h3, h4⟩ := info_parts hi
  obtain ⟨v', w', g', hr, r1, r2, r3⟩ := run_app (ty := o.type) ht h1 h2 h3 h4 hzs hown hsrc hm hlim hmax
  obtain ⟨cap', rfl, _⟩ := r1.form (by omega)
  refine wpList_plain hg fun K hK' => ?_
  unfold Oper.wp
  simp [execOp, hop, resolve, invoke, builtin, hs, hx, hr, Result.andThen]
  exact hK' _ _ (hK _ _ _ r1 r2 r3)

theorem step_app (hg : o.guard = none) (s x : Operand) (hop : o.op = Op.call { callee := Callee.builtin Builtin.append, args := #[s, x], argTypes := #[t, tx] })
    (ht : Try.prog.underlying t = some (.slice e)) (hi : (Try.prog.info? e).map (fun i => (i.zero, i.size, i.bytes)) = some (some z, sz, bytes)) (hzs : z.cells.size = sz)
    (n : Nat) (xs : List Value) (g : Nat) (v : Value) (hs : a.eval s = v) (hown : Own w v sz n xs g) (m : Nat) (news : List Value) (y : Value) (hx : a.eval x = y) (hsrc : Src Try.prog sz tx y m news w) (hm : 0 < m) (hlim : (n + m) * bytes ≤ 140737488355328) (hmax : n + m ≤ maxLen)
    (hK : ∀ cap' w' g', Own w' (.slice (some ⟨g', 0, none⟩) (n + m) cap') sz (n + m) (xs ++ news) g' → w.grownBy w' (some g) → (g' = g ∨ g' = w.heap.size) → K (a.put o.dst (.slice (some ⟨g', 0, none⟩) (n + m) cap')) w') :
    if Region.wanted o (yielded ops a.tmps) = true then Oper.wp Try.prog o a w K Q else E := by
  have hw : Region.wanted o (yielded ops a.tmps) = true := by simp [Region.wanted, hg]
  rw [if_pos hw]
  obtain ⟨i, h1, h2, h3, h4⟩ := info_parts hi
  obtain ⟨v', w', g', hr, r1, r2, r3⟩ := run_app (ty := o.type) ht h1 h2 h3 h4 hzs hown hsrc hm hlim hmax
  obtain ⟨cap', rfl, _⟩ := r1.form (by omega)
  unfold Oper.wp
  simp [execOp, hop, resolve, invoke, builtin, hs, hx, hr, Result.andThen]
  exact hK _ _ _ r1 r2 r3
end


theorem grown_drew {w w' : World} {r : Option Nat} (h : w.drew.grownBy w' r) : w.grownBy w' r := ⟨h.os, h.tape, h.output, h.size, h.block⟩

/-- Two refs are the same. -/
abbrev Rf := ByteArray × ByteArray
def rv (r : Rf) : Value := .agg #[.string r.1, .string r.2]

theorem fields_two {t : TypeId} (h : (Try.prog.fieldsOf t).toList.map (fun f => (decide (f.name ≠ "_"), f.type, f.offset)) = [(true, 9, 0), (true, 9, 1)]) :
    ∃ f1 f2 : Field, (Try.prog.fieldsOf t).toList = [f1, f2] ∧ f1.name ≠ "_" ∧ f1.type = 9 ∧ f1.offset = 0 ∧ f2.name ≠ "_" ∧ f2.type = 9 ∧ f2.offset = 1 := by
  obtain ⟨f1, r1, e1, h1, h2⟩ := List.map_eq_cons_iff.1 h
  obtain ⟨f2, r2, e2, h3, h4⟩ := List.map_eq_cons_iff.1 h2
  obtain rfl := List.map_eq_nil_iff.1 h4
  subst e2
  simp only [Prod.mk.injEq, decide_eq_true_eq] at h1 h3
  exact ⟨f1, f2, e1, h1.1, h1.2.1, h1.2.2, h3.1, h3.2.1, h3.2.2⟩

theorem eq_of {t : TypeId} (h : (Try.prog.fieldsOf t).toList.map (fun f => (decide (f.name ≠ "_"), f.type, f.offset)) = [(true, 9, 0), (true, 9, 1)]) (ht : Try.prog.underlying t = some (.struct (Try.prog.fieldsOf t))) (hp : Try.prog.stoodInHeld t = false)
    (x y : Rf) (d : Nat) (w : World) : (Op.equalIn (d + 2) t (rv x) (rv y)).run Try.prog w = .ok (decide (x = y)) w := by
  obtain ⟨f1, f2, e, a1, a2, a3, b1, b2, b3⟩ := fields_two h
  have hpl : Try.prog.plainKey 9 = true := by kernel_rfl
  have p1 := fun (a b : ByteArray) => run_part_plain (P := Try.prog) (w := w) hpl (xs := #[.string a, .string b]) (off := 0) (v := .string a) rfl
  have p2 := fun (a b : ByteArray) => run_part_plain (P := Try.prog) (w := w) hpl (xs := #[.string a, .string b]) (off := 1) (v := .string b) rfl
  have q := fun (u v : ByteArray) => run_equalIn_string (P := Try.prog) w d 9 u v Try.underlying9
  unfold rv
  rw [run_equalIn_struct w (d + 1) t _ _ ht hp, e]
  obtain ⟨x1, x2⟩ := x
  obtain ⟨y1, y2⟩ := y
  have hb : ∀ u v : ByteArray, (u.toList == v.toList) = decide (u = v) := by
    intro u v
    rw [← beq_toListBytes, Bool.eq_iff_iff, MapKept.bytes_beq, decide_eq_true_iff]
  simp only [Op.eqFields, a1, b1, a2, a3, b2, b3, ne_eq, not_false_eq_true, if_true, Sem.run_bind, p1, q, Result.andThen_ok, hb]
  by_cases e1 : x1 = y1
  · by_cases e2 : x2 = y2
    · simp [e1, e2, p2, q, Result.andThen]
    · simp [e1, e2, p2, q, hb, Result.andThen]
  · simp [e1]

theorem eq28 (x y : Rf) (w : World) : (Op.equal 28 (rv x) (rv y)).run Try.prog w = .ok (decide (x = y)) w :=
  eq_of (t := 28) (by kernel_rfl) (by kernel_rfl) (by kernel_rfl) x y 9998 w

/-! ### The map from refs to true -/
def fents : Nat → List Rf → List MapEntry
  | _, [] => []
  | i, k :: r => { key := rv k, val := .bool true, born := i } :: fents (i + 1) r

def ffind (k : Rf) : List Rf → Nat → Option (Nat × Value)
  | [], _ => none
  | k' :: r, i => if k = k' then some (i, .bool true) else ffind k r (i + 1)

theorem fents_push (k : Rf) : ∀ (M : List Rf) (i : Nat), fents i (M ++ [k]) = fents i M ++ [{ key := rv k, val := .bool true, born := i + M.length }]
  | [], i => by simp [fents]
  | k' :: r, i => by
    have e : i + 1 + r.length = i + (r.length + 1) := by omega
    rw [List.cons_append, fents, fents_push k r (i + 1), fents, List.cons_append, List.length_cons, e]

theorem fents_length : ∀ (M : List Rf) (i : Nat), (fents i M).length = M.length
  | [], _ => rfl
  | k' :: r, i => by simp [fents, fents_length r (i + 1)]

theorem ffind_none (k : Rf) : ∀ (M : List Rf) (i : Nat), k ∉ M → ffind k M i = none
  | [], _, _ => rfl
  | k' :: r, i, h => by
    have h1 : k ≠ k' := fun e => h (by simp [e])
    have h2 : k ∉ r := fun e => h (by simp [e])
    simp [ffind, h1, ffind_none k r (i + 1) h2]

theorem ffind_some (k : Rf) : ∀ (M : List Rf) (i : Nat), k ∈ M → ∃ j, ffind k M i = some (i + j, .bool true) ∧ M[j]? = some k
  | [], _, h => by simp at h
  | k' :: r, i, h => by
    by_cases h1 : k = k'
    · subst h1; exact ⟨0, by simp [ffind], rfl⟩
    · have h2 : k ∈ r := by simpa [h1] using h
      obtain ⟨j, hj, hm⟩ := ffind_some k r (i + 1) h2
      exact ⟨j + 1, by simp [ffind, h1, hj]; omega, by simpa using hm⟩

theorem fents_at : ∀ (M : List Rf) (i j : Nat) (k : Rf), M[j]? = some k → (fents i M)[j]? = some { key := rv k, val := .bool true, born := i + j }
  | [], _, _, _, h => by simp at h
  | k' :: r, i, 0, k, h => by
    simp at h
    subst h
    simp [fents]
  | k' :: r, i, j + 1, k, h => by
    have := fents_at r (i + 1) j k (by simpa using h)
    rw [fents, List.getElem?_cons_succ, this, show i + 1 + j = i + (j + 1) by omega]

theorem run_findAsking (k : Rf) (w : World) : ∀ (M : List Rf) (i j : Nat), (Instr.findAsking 28 (rv k) (fents j M) i).run Try.prog w = .ok (ffind k M i) w
  | [], i, j => by simp [fents, Instr.findAsking, ffind]
  | k' :: r, i, j => by
    have e1 := eq28 k k' w
    have e2 := run_findAsking k w r (i + 1) (j + 1)
    by_cases e : k = k'
    · subst e
      simp [fents, Instr.findAsking, ffind, e1]
    · simp [fents, Instr.findAsking, ffind, e1, e, e2]

theorem und28 : ∃ fs, Try.prog.underlying 28 = some (.struct fs) := ⟨_, Try.underlying28⟩

theorem run_findKey (k : Rf) (w : World) (M : List Rf) : (Instr.findKey 28 (rv k) (fents 0 M)).run Try.prog w = .ok (ffind k M 0) w := by
  obtain ⟨fs, hf⟩ := und28
  cases M with
  | nil => simp [Instr.findKey, run_underlying hf, fents, Instr.findNow, ffind]
  | cons k' r =>
    have := run_findAsking k w (k' :: r) 0 0
    have hs : Instr.sameNow (.struct fs) (rv k) (rv k') = none := rfl
    simpa [Instr.findKey, run_underlying hf, fents, Instr.findNow, hs] using this

end Go.Proofs.Qxb6604662a
