import Derived.Test.Qxb6604459aCloneRows
namespace Go.Proofs.Qxb6604459a
open Go.RowKit

def lookB (B len : Nat → Nat) : Nat → Nat → Nat
  | 0, _ => 0
  | k + 1, b => if B k = b then len k + 1 else lookB B len k b

theorem lookB_at (B len : Nat → Nat) : ∀ n, (∀ i j, i < j → j < n → B i < B j) → ∀ i, i < n → lookB B len n (B i) = len i + 1
  | 0, _, i, h => absurd h (by omega)
  | n + 1, hinc, i, h => by
    by_cases e : i = n
    · subst e; simp [lookB]
    · have h1 := hinc i n (by omega) (by omega)
      rw [lookB, if_neg (by omega)]
      exact lookB_at B len n (fun i j h1 h2 => hinc i j h1 (by omega)) i (by omega)

/-- The sizes: of sequence i, len i + 1; of the alternation, 'want'. -/
def sizesA (B len : Nat → Nat) (n want : Nat) (k : Key) : Nat := if k.1 = 38 then want else lookB B len n k.2

theorem effTo_seqs (B : Nat → Nat) : ∀ n, (∀ i j, i < j → j < n → B i < B j) → effTo (fun i => nodeF (35, B i) id) n [] = (List.range n).map fun i => (35, B i)
  | 0, _ => rfl
  | n + 1, hinc => by
    rw [effTo, effTo_seqs B n (fun i j h1 h2 => hinc i j h1 (by omega)), List.range_succ, List.map_append]
    unfold nodeF
    rw [if_neg ?_]
    · rfl
    · intro hm
      obtain ⟨i, hi, he⟩ := List.mem_map.1 hm
      have h1 := hinc i n (List.mem_range.1 hi) (by omega)
      have h2 : B i = B n := congrArg Prod.snd he
      omega

theorem sumTo_succ (len : Nat → Nat) : ∀ n, sumTo (fun i => len i + 1) n = sumTo len n + n
  | 0 => rfl
  | n + 1 => by rw [sumTo, sumTo, sumTo_succ len n]; omega

theorem SeqAt.set_other {w : World} {n bs g : Nat} {xs : List Value} (h : SeqAt w n bs g xs) {p : Addr} (h1 : p.block ≠ bs) (h2 : p.block ≠ g) (v : Value) : SeqAt (w.setCell p v) n bs g xs :=
  ⟨h.row.set_other h2 v, h.len, h.leaf, h.seq.set_other h1 v⟩

theorem SeqAt.below {w w' : World} {B : Nat} {n bs g : Nat} {xs : List Value} (h : SeqAt w n bs g xs) (hb : Below B w w') (h1 : bs < B) (h2 : g < B) : SeqAt w' n bs g xs :=
  ⟨h.row.below hb h2, h.len, h.leaf, h.seq.below hb h1⟩

/-- The first k alternatives, built: sequence j at block B j, in both rows. -/
structure AltsAt (w : World) (k : Nat) (len B : Nat → Nat) (gp gq : Nat) (xs ys : List Value) : Prop where
  rowp : Row w gp 34 xs
  rowq : Row w gq 35 ys
  each : ∀ j, j < k → xs[j]? = some (.iface 35 (.pointer (some ⟨B j, 0, none⟩))) ∧ ys[j]? = some (.pointer (some ⟨B j, 0, none⟩)) ∧ ∃ g zs, SeqAt w (len j) (B j) g zs ∧ g ≠ gp ∧ g ≠ gq ∧ B j ≠ gp ∧ B j ≠ gq
  inc : ∀ i j, i < j → j < k → B i < B j
  lt : ∀ j, j < k → B j < w.heap.size

theorem AltsAt.below {w w' : World} {k : Nat} {len B : Nat → Nat} {gp gq : Nat} {xs ys : List Value} (h : AltsAt w k len B gp gq xs ys) (hb : Below w.heap.size w w') : AltsAt w' k len B gp gq xs ys := by
  refine ⟨h.rowp.below hb h.rowp.lt, h.rowq.below hb h.rowq.lt, fun j hj => ?_, h.inc, fun j hj => Nat.lt_of_lt_of_le (h.lt j hj) hb.size⟩
  obtain ⟨h1, h2, g, zs, h3, h4⟩ := h.each j hj
  exact ⟨h1, h2, g, zs, h3.below hb h3.seq.lt h3.row.lt, h4⟩

theorem AltsAt.alloc {w : World} {k : Nat} {len B : Nat → Nat} {gp gq : Nat} {xs ys : List Value} (h : AltsAt w k len B gp gq xs ys) (o : Obj) : AltsAt (w.alloc o) k len B gp gq xs ys :=
  h.below ((Below.refl _ _).alloc (Nat.le_refl _) o)

theorem AltsAt.kp {m : Nat} {w0 w : World} (q : Kp m w0 w) {es : Array MapEntry} {c : Nat} (hm : w0.heap[m]? = some (.map es c)) {k : Nat} {len B : Nat → Nat} {gp gq : Nat} {xs ys : List Value} (h : AltsAt w0 k len B gp gq xs ys) : AltsAt w k len B gp gq xs ys := by
  refine ⟨h.rowp.kp q hm, h.rowq.kp q hm, fun j hj => ?_, h.inc, fun j hj => by rw [q.size]; exact h.lt j hj⟩
  obtain ⟨h1, h2, g, zs, h3, h4⟩ := h.each j hj
  exact ⟨h1, h2, g, zs, h3.kp q hm, h4⟩

/-- One alternative more: sequence k at block b, its leaves at block g. -/
theorem AltsAt.more {w w' : World} {k : Nat} {len B : Nat → Nat} {gp gq : Nat} {xs ys : List Value} (h : AltsAt w k len B gp gq xs ys) {b g : Nat} {zs : List Value}
    (hold : ∀ (q : Nat) (t : TypeId) (l : List Value), q ≠ gp → q ≠ gq → Row w q t l → Row w' q t l) (hp : Row w' gp 34 (xs.set k (.iface 35 (.pointer (some ⟨b, 0, none⟩))))) (hq : Row w' gq 35 (ys.set k (.pointer (some ⟨b, 0, none⟩))))
    (hkx : k < xs.length) (hky : k < ys.length) (hs : SeqAt w' (len k) b g zs) (hg1 : g ≠ gp) (hg2 : g ≠ gq) (hb : w.heap.size ≤ b) :
    AltsAt w' (k + 1) len (fun j => if j = k then b else B j) gp gq (xs.set k (.iface 35 (.pointer (some ⟨b, 0, none⟩)))) (ys.set k (.pointer (some ⟨b, 0, none⟩))) := by
  have l1 := h.rowp.lt
  have l2 := h.rowq.lt
  refine ⟨hp, hq, ?_, ?_, ?_⟩
  · intro j hj
    rw [List.getElem?_set, List.getElem?_set]
    by_cases e : k = j
    · subst e
      rw [if_pos rfl, if_pos rfl, if_pos rfl, if_pos hkx, if_pos hky]
      exact ⟨rfl, rfl, g, zs, hs, hg1, hg2, by omega, by omega⟩
    · obtain ⟨h1, h2, g', zs', h3, h4, h5, h6, h7⟩ := h.each j (by omega)
      rw [if_neg e, if_neg e, if_neg (Ne.symm e)]
      exact ⟨h1, h2, g', zs', ⟨hold _ _ _ h4 h5 h3.row, h3.len, h3.leaf, hold _ _ _ h6 h7 h3.seq⟩, h4, h5, h6, h7⟩
  · intro i j hi hj
    by_cases e : j = k
    · subst e
      rw [if_neg (by omega), if_pos rfl]
      have := h.lt i (by omega)
      omega
    · rw [if_neg (by omega), if_neg e]
      exact h.inc i j hi (by omega)
  · intro j hj
    by_cases e : j = k
    · rw [if_pos e]; exact hs.seq.lt
    · rw [if_neg e]
      obtain ⟨h1, h2, g', zs', h3, h4, h5, h6, h7⟩ := h.each j (by omega)
      exact (hold _ _ _ h6 h7 h3.seq).lt

theorem seqsF_not (B : Nat → Nat) (be i : Nat) (M : List Key) (h : (38, be) ∉ M) : (38, be) ∉ nodeF (35, B i) id M := seqF_not (B i) (by simp) M h

/-- The alternation's size. -/
theorem AltsAt.sz {x m : Nat} {w : World} (E : Env x m w) {n : Nat} {len B : Nat → Nat} {gp gq be : Nat} {xs ys : List Value} (h : AltsAt w n len B gp gq xs ys) (halt : Row w be 40 [.slice (some ⟨gp, 0, none⟩) n n])
    (hn : sumTo len n + n ≤ 1048576) : Sz (sizesA B len n (sumTo len n + n + 1)) x m w (.iface 38 (.pointer (some ⟨be, 0, none⟩))) (sumTo len n + n + 1) (nodeF (38, be) (effTo (fun i => nodeF (35, B i) id) n)) := by
  obtain ⟨es, cc, hm⟩ := E.isMap
  have hsum := sumTo_succ len n
  rw [← hsum]
  refine sz_alt E be gp n n (fun i => .iface 35 (.pointer (some ⟨B i, 0, none⟩))) (fun i => len i + 1) (fun i => nodeF (35, B i) id) (halt.key hm (by simp [NodeTy])) (halt.cell rfl) ?_ ?_ (fun M hM => effTo_not (seqsF_not B be) _ M hM) (by simp [sizesA]) (by omega) (by omega)
  · intro i hi
    exact h.rowp.cell (h.each i hi).1
  · intro i hi
    obtain ⟨h1, h2, g, zs, h3, _⟩ := h.each i hi
    refine h3.sz E ?_ ?_
    · rw [sizesA, if_neg (by simp)]
      exact lookB_at B len n h.inc i hi
    · have : sumTo len (i + 1) ≤ sumTo len n := sumTo_mono len hi
      rw [sumTo] at this
      omega

end Go.Proofs.Qxb6604459a
