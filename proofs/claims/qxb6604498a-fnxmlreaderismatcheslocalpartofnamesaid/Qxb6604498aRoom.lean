import Derived.Test.Qxb6604498aSuffix
import Derived.Deep.AppendSrc
import Derived.Deep.RegionLaw
namespace Go.Proofs.Qxb6604498a
open Go.RowKit

theorem row_setCells (g : Nat) (t : TypeId) : ∀ (vs : List Value) (o : Nat) (w : World) (xs : List Value), Row w g t xs → o + vs.length ≤ xs.length →
    ∃ xs', Row (w.setCells g o vs) g t xs' ∧ xs'.length = xs.length ∧ (∀ j, j < o → xs'[j]? = xs[j]?) ∧ ∀ j, j < vs.length → xs'[o + j]? = vs[j]?
  | [], o, w, xs, h, _ => ⟨xs, h, rfl, fun _ _ => rfl, fun j hj => absurd hj (by simp)⟩
  | v :: r, o, w, xs, h, hl => by
    rw [List.length_cons] at hl
    obtain ⟨xs', h1, h2, h3, h4⟩ := row_setCells g t r (o + 1) (w.setCell ⟨g, o, none⟩ v) (xs.set o v) (h.set o v) (by rw [List.length_set]; omega)
    refine ⟨xs', h1, by rw [h2, List.length_set], fun j hj => ?_, fun j hj => ?_⟩
    · rw [h3 j (by omega), List.getElem?_set_ne (by omega)]
    · cases j with
      | zero => rw [Nat.add_zero, h3 o (by omega), List.getElem?_set_self (by omega)]; rfl
      | succ j =>
        rw [show o + (j + 1) = o + 1 + j by omega, h4 j (by simpa using hj)]
        rfl

theorem setCells_size (g : Nat) : ∀ (vs : List Value) (o : Nat) (w : World), (w.setCells g o vs).heap.size = w.heap.size
  | [], _, _ => rfl
  | v :: r, o, w => by rw [World.setCells, setCells_size g r]; simp

theorem below_setCells {B : Nat} {w0 : World} (g : Nat) (hg : B ≤ g) : ∀ (vs : List Value) (o : Nat) (w : World), Below B w0 w → Below B w0 (w.setCells g o vs)
  | [], _, _, h => h
  | v :: r, o, w, h => by rw [World.setCells]; exact below_setCells g hg r (o + 1) _ (h.setCell hg v)

/-- The slice under way: block g, of cap bytes; the first l are z. -/
def Nm (w : World) (g cap l : Nat) (z : Nat → Int) : Prop :=
  ∃ xs, Row w g 5 xs ∧ xs.length = cap ∧ ∀ i, i < l → xs[i]? = some (.int .u8 (z i))

theorem Nm.alloc {w : World} {g cap l : Nat} {z : Nat → Int} (h : Nm w g cap l z) (o : Obj) : Nm (w.alloc o) g cap l z := by
  obtain ⟨xs, h1, h2, h3⟩ := h
  exact ⟨xs, h1.alloc o, h2, h3⟩

theorem Nm.bs {w : World} {g cap l : Nat} {z : Nat → Int} (h : Nm w g cap l z) : Bs w (some ⟨g, 0, none⟩) l z := by
  obtain ⟨xs, h1, h2, h3⟩ := h
  refine ⟨g, 0, fun _ => rfl, fun i hi => ?_⟩
  rw [Nat.zero_add]
  exact h1.cell (h3 i hi)

/-- Bytes as cells. -/
def u8f (n : Nat) (z : Nat → Int) : List Value := (List.range n).map fun i => .int .u8 (z i)

theorem u8f_len (n : Nat) (z : Nat → Int) : (u8f n z).length = n := by simp [u8f]
theorem u8f_at (n : Nat) (z : Nat → Int) {i : Nat} (h : i < n) : (u8f n z)[i]? = some (.int .u8 (z i)) := by simp [u8f, h]

theorem src_of {w : World} {a : Option Addr} {m : Nat} (c : Nat) {z : Nat → Int} (h : Bs w a m z) : Src Try.prog 1 22 (.slice a m c) m (u8f m z) w := by
  have hn := h.none0
  obtain ⟨g, o, h1, h2⟩ := h
  cases a with
  | none =>
    obtain rfl := hn rfl
    exact Src.ofNil _ Try.underlying22 c
  | some ad =>
    refine Src.ofSlice _ Try.underlying22 ad m c (u8f m z) (by rw [u8f_len]; omega) (fun j u hu => ?_) ?_
    · have hj : j < m := by
        have := (List.getElem?_eq_some_iff.1 hu).1
        rwa [u8f_len] at this
      have e : ad = ⟨g, o, none⟩ := by simpa using h1 (by omega)
      subst e
      rw [u8f_at m z hj] at hu
      cases hu
      rw [Addr.add_lit]
      exact h2 j hj
    · intro u hu
      simp only [u8f, List.mem_map] at hu
      obtain ⟨_, _, rfl⟩ := hu
      rfl

/-- Two rows of bytes, one behind the other. -/
def catz (l : Nat) (z z2 : Nat → Int) : Nat → Int := fun i => if i < l then z i else z2 (i - l)

section
variable {w : World} {ops : Array Oper} {rest : List Oper} {o : Oper} {a : Act} {Q : Exit → Act → World → Prop}

theorem wpList_room (hg : o.guard = none) (s x : Operand) (hop : o.op = Op.call { callee := Callee.builtin Builtin.append, args := #[s, x], argTypes := #[22, 22] })
    (g cap l : Nat) (z : Nat → Int) (hs : a.eval s = .slice (some ⟨g, 0, none⟩) l cap) (hn : Nm w g cap l z) (ax : Option Addr) (m cx : Nat) (z2 : Nat → Int) (hx : a.eval x = .slice ax m cx) (hb : Bs w ax m z2) (hroom : l + m ≤ cap)
    (B : Nat) (w0 : World) (hB : B ≤ g) (hbel : Below B w0 w)
    (hK : ∀ w', Nm w' g cap (l + m) (catz l z z2) → Below B w0 w' → w'.heap.size = w.heap.size → wpList Try.prog ops Q rest (a.put o.dst (.slice (some ⟨g, 0, none⟩) (l + m) cap)) w') :
    wpList Try.prog ops Q (o :: rest) a w := by
  obtain ⟨i, h1, h2, h3, h4⟩ := info_parts info5
  have hsrc := src_of cx hb
  rw [← h3] at hsrc
  obtain ⟨xs, r1, r2, r3⟩ := hn
  have hr := run_append_room_src (P := Try.prog) w 22 22 o.type 5 i Try.underlying22 h1 g 0 l cap (.slice ax m cx) m (u8f m z2) hsrc hroom
    (fun j hj => by
      rw [u8f_len] at hj
      rw [r1.cell (i := 0 + l * i.size + j) (v := xs[0 + l * i.size + j]'(by rw [h3]; omega)) (by simp)]
      rfl)
    (fun j hj => r1.frozen _)
  rw [h3, Nat.mul_one, Nat.zero_add] at hr
  obtain ⟨xs', s1, s2, s3, s4⟩ := row_setCells g 5 (u8f m z2) l w xs r1 (by rw [u8f_len]; omega)
  refine wpList_plain hg fun K hK' => ?_
  unfold Oper.wp
  simp [execOp, hop, resolve, invoke, builtin, hs, hx, hr, Result.andThen]
  refine hK' _ _ (hK _ ⟨xs', s1, s2.trans r2, fun j hj => ?_⟩ (below_setCells g hB _ _ _ hbel) (setCells_size _ _ _ _))
  by_cases hj2 : j < l
  · rw [s3 j hj2, r3 j hj2]
    simp [catz, hj2]
  · obtain ⟨q, rfl⟩ : ∃ q, j = l + q := ⟨j - l, by omega⟩
    rw [s4 q (by rw [u8f_len]; omega), u8f_at m z2 (by omega)]
    show _ = some (Value.int .u8 (catz l z z2 (l + q)))
    rw [catz, if_neg (by omega), show l + q - l = q by omega]
end

end Go.Proofs.Qxb6604498a
