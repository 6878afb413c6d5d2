import Derived.Test.Qxb6604459aClone
namespace Go.Proofs.Qxb6604459a
open Go.RowKit

/-- A row of the call's own, of room cap, that holds l; its slice begins at its head. -/
def Own (w : World) (g cap : Nat) (l : List Value) : Prop := w.ownsRow 0 34 1 (.slice (some ⟨g, 0, none⟩) l.length cap) l.length l

theorem Own.alloc {w : World} {g cap : Nat} {l : List Value} (h : Own w g cap l) (o : Obj) : Own (w.alloc o) g cap l := World.ownsRow.alloc h o

theorem Own.cell {w : World} {g cap : Nat} {l : List Value} (h : Own w g cap l) {j : Nat} {u : Value} (hu : l[j]? = some u) : w.cell? ⟨g, j, none⟩ = some u := by
  have := World.ownsRow.cellAt h j (by have := (List.getElem?_eq_some_iff.1 hu).1; omega)
  rw [this]; exact hu

theorem own_made (w : World) (z : Value) (cap : Nat) (hc : cap ≤ 1099511627776) : Own (w.alloc (.cells (zrow z cap) 34)) w.heap.size cap [] :=
  World.ownsRow_made w (zrow z cap) cap (Nat.zero_le _) (by unfold maxLen; omega) (by simp [zrow, size_madeCells])

theorem Row.grown {w w' : World} {q g : Nat} {t : TypeId} {xs : List Value} (h : Row w q t xs) (hg : w.grownBy w' (some g)) (hne : q ≠ g) : Row w' q t xs := by
  unfold Row
  rw [hg.block q h.lt (by simpa using hne)]; exact h

theorem wpList_app {w : World} {ops : Array Oper} {rest : List Oper} {o : Oper} {a : Act} {Q : Exit → Act → World → Prop} (hg : o.guard = none) (s x : Operand)
    (hop : o.op = Op.call { callee := Callee.builtin Builtin.append, args := #[s, x], argTypes := #[26, 26] }) (g k cap : Nat) (l news : List Value) (hs : a.eval s = .slice (some ⟨g, 0, none⟩) k cap)
    (q m : Nat) (hx : a.eval x = .slice (some ⟨q, 0, none⟩) m m) (hk : l.length = k) (hown : Own w g cap l) (hq : Row w q 34 news) (hm : news.length = m) (h1 : ∀ u ∈ news, u.oneCell' = true) (b1 : k + m ≤ cap)
    (hK : ∀ w', Own w' g cap (l ++ news) → w.grownBy w' (some g) → wpList Try.prog ops Q rest (a.put o.dst (.slice (some ⟨g, 0, none⟩) (k + m) cap)) w') :
    wpList Try.prog ops Q (o :: rest) a w := by
  subst hk
  subst hm
  obtain ⟨i, h2, _, h4, _⟩ := info_parts info34
  refine wpList_append_fits w hg s x 26 hop 0 34 i 1 Try.underlying26 h2 h4 g l.length cap l hs hown ⟨q, 0, none⟩ news.length news.length news hx (by omega) ?_ h1 b1 ?_
  · intro j u hu
    rw [Addr.add_lit, Nat.zero_add]
    exact hq.cell hu
  · intro w' r1 r2
    refine hK w' ?_ r2
    unfold Own
    rw [List.length_append]
    exact r1

end Go.Proofs.Qxb6604459a
