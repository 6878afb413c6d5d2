import Derived.Test.Qxb6604459aDoorTen
import Derived.Laws.IdiomStrings
namespace Go.Proofs.Qxb6604459aDoor
open Go.RowKit

/-- A call of a Go function, as one step of a region that draws. -/
theorem step_enter {ops : Array Oper} {o : Oper} {a : Act} {w : World} {K : Act → World → Prop} {Q : Exit → Act → World → Prop} {E : Prop} {R : Ending → World → Prop}
    (hg : o.guard = none) (f : FuncId) (args : Array Value) (hrun : (execOp a.eval o).run Tryd.prog w = .ok (.enter f args) w) (h : Calls Tryd.prog f args w R)
    (hR : ∀ e w', R e w' → ∃ v, e = .returned v ∧ K (a.put o.dst v) w') :
    if Region.wanted o (yielded ops a.tmps) = true then Oper.wp Tryd.prog o a w K Q else E := by
  have hw : Region.wanted o (yielded ops a.tmps) = true := by simp [Region.wanted, hg]
  rw [if_pos hw]
  unfold Oper.wp
  rw [hrun]
  refine h.mono fun e w' r => ?_
  obtain ⟨v, rfl, hk⟩ := hR e w' r
  exact hk

/-- What '[]byte(s)' lays. -/
theorem own_bytes (w : World) (s : ByteArray) (hs : s.size ≤ 1000) :
    Own (w.drew.alloc (.cells (bytesRow s (grownCap w s.size 0 5)) 5 ((bytesRow s (grownCap w s.size 0 5)).size, (bytesRow s (grownCap w s.size 0 5)).size + 1))) (.slice (some ⟨w.heap.size, 0, none⟩) s.size (grownCap w s.size 0 5)) 1 s.size (u8s s.data.toList) w.heap.size := by
  have hge := grownCap_ge w s.size 0 5
  have hcm := grownCap_le_maxLen w s.size 0 5 (by simp only [maxLen]; omega)
  have hsz : s.data.size = s.size := rfl
  have hsize : (bytesRow s (grownCap w s.size 0 5)).size = grownCap w s.size 0 5 := by
    simp [bytesRow, hsz]; omega
  generalize grownCap w s.size 0 5 = c at *
  have hheap : (w.drew.alloc (.cells (bytesRow s c) 5 ((bytesRow s c).size, (bytesRow s c).size + 1))).heap[w.heap.size]? = some (.cells (bytesRow s c) 5 ((bytesRow s c).size, (bytesRow s c).size + 1)) := by
    show (w.heap.push _)[w.heap.size]? = _
    simp
  have hcell : ∀ j, (w.drew.alloc (.cells (bytesRow s c) 5 ((bytesRow s c).size, (bytesRow s c).size + 1))).cell? ⟨w.heap.size, j, none⟩ = (bytesRow s c)[j]? := fun j => cell_of_row _ _ _ _ _ _ hheap
  refine ⟨by rw [u8s_length]; simp [hsz], .inr ⟨c, rfl, hge, hcm, ?_, ?_⟩⟩
  · intro j hj
    rw [hcell]
    have hj' : j < s.data.size := by omega
    unfold bytesRow u8s
    rw [Array.getElem?_append_left (by simpa using hj')]
    simp
  · intro j hj
    refine ⟨?_, ?_⟩
    · rw [hcell, Array.getElem?_eq_getElem (by omega)]; rfl
    · unfold World.frozen?
      rw [hheap]
      simp
      omega

def rangesTo (lo hi : Nat → Int) : Nat → List UInt8
  | 0 => []
  | k + 1 => (rangesTo lo hi k ++ (32 :: hexI (lo k))) ++ (45 :: hexI (hi k))

def subsTo : Nat → List UInt8
  | 0 => []
  | k + 1 => subsTo k ++ [32, 50]

theorem rangesTo_length (lo hi : Nat → Int) : ∀ k, (rangesTo lo hi k).length ≤ 36 * k
  | 0 => by simp [rangesTo]
  | k + 1 => by
    have := rangesTo_length lo hi k
    have h1 := hexI_length (lo k)
    have h2 := hexI_length (hi k)
    simp [rangesTo]; omega

theorem subsTo_length : ∀ k, (subsTo k).length = 2 * k
  | 0 => rfl
  | k + 1 => by simp [subsTo, subsTo_length k]; omega

end Go.Proofs.Qxb6604459aDoor
