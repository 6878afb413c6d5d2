import Derived.Test.Qxb6604459aRows
import Derived.WalkKit
import Derived.WalkSpells
import Derived.WalkLawsBesides
namespace Go.Proofs.Qxb6604459a
open Go.RowKit

/-- Block g is a row of cells xs, of type t; none of them is frozen. -/
def Row (w : World) (g : Nat) (t : TypeId) (xs : List Value) : Prop := w.heap[g]? = some (.cells xs.toArray t (0, 0))

theorem Row.cell {w : World} {g : Nat} {t : TypeId} {xs : List Value} (h : Row w g t xs) {i : Nat} {v : Value} (hi : xs[i]? = some v) : w.cell? ⟨g, i, none⟩ = some v := by
  unfold Row at h
  simp [World.cell?, h, hi]

theorem Row.frozen {w : World} {g : Nat} {t : TypeId} {xs : List Value} (h : Row w g t xs) (i : Nat) : w.frozen? ⟨g, i, none⟩ = false := by
  unfold Row at h
  simp [World.frozen?, h]

theorem Row.lt {w : World} {g : Nat} {t : TypeId} {xs : List Value} (h : Row w g t xs) : g < w.heap.size := by
  unfold Row at h
  rcases Nat.lt_or_ge g w.heap.size with h' | h'
  · exact h'
  · rw [Array.getElem?_eq_none h'] at h; cases h

theorem Row.set {w : World} {g : Nat} {t : TypeId} {xs : List Value} (h : Row w g t xs) (i : Nat) (v : Value) : Row (w.setCell ⟨g, i, none⟩ v) g t (xs.set i v) := by
  unfold Row at *
  simp only [World.setCell, Array.getElem?_modify, if_true, h, Option.map_some]
  simp

theorem Row.set_other {w : World} {g : Nat} {t : TypeId} {xs : List Value} (h : Row w g t xs) {a : Addr} (hne : a.block ≠ g) (v : Value) : Row (w.setCell a v) g t xs := by
  unfold Row at *
  simp only [World.setCell, Array.getElem?_modify]
  rw [if_neg hne]; exact h

theorem Row.alloc {w : World} {g : Nat} {t : TypeId} {xs : List Value} (h : Row w g t xs) (o : Obj) : Row (w.alloc o) g t xs := by
  have hl := h.lt
  unfold Row at *
  simp only [World.alloc, Array.getElem?_push]
  rw [if_neg (by omega)]; exact h

theorem row_new (w : World) (t : TypeId) (xs : List Value) : Row (w.alloc (.cells xs.toArray t)) w.heap.size t xs := by
  unfold Row World.alloc
  simp only [Array.getElem?_push_size]

theorem row_new_arr (w : World) (t : TypeId) (xs : Array Value) : Row (w.alloc (.cells xs t)) w.heap.size t xs.toList := by
  unfold Row World.alloc
  simp only [Array.getElem?_push_size]

theorem Row.drew {w : World} {g : Nat} {t : TypeId} {xs : List Value} (h : Row w g t xs) : Row w.drew g t xs := h

theorem Row.below {B : Nat} {w w' : World} {g : Nat} {t : TypeId} {xs : List Value} (h : Row w g t xs) (hb : Below B w w') (hg : g < B) : Row w' g t xs := by
  unfold Row at *
  rw [hb.block g hg]; exact h

/-- A slice of len strings, ss 0 .. ss (len - 1). -/
def Strs (w : World) (a : Option Addr) (len : Nat) (ss : Nat → ByteArray) : Prop :=
  (a = none → len = 0) ∧ ∃ b o, (0 < len → a = some ⟨b, o, none⟩) ∧ ∀ i, i < len → w.cell? ⟨b, o + i, none⟩ = some (.string (ss i)) ∧ (ss i).size ≤ maxLen

theorem Strs.below {w w' : World} {a : Option Addr} {len : Nat} {ss : Nat → ByteArray} (h : Strs w a len ss) (hb : Below w.heap.size w w') : Strs w' a len ss := by
  obtain ⟨h0, b, o, h1, h2⟩ := h
  refine ⟨h0, b, o, h1, fun i hi => ⟨?_, (h2 i hi).2⟩⟩
  exact cell_later hb (h2 i hi).1

end Go.Proofs.Qxb6604459a
