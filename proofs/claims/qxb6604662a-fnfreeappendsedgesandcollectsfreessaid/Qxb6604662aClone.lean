import Derived.Test.Qxb6604662aRefs
namespace Go.Proofs.Qxb6604662a
open Go.RowKit

def zpair : Array Value := #[.string ⟨#[]⟩, .string ⟨#[]⟩]
/-- The row that a make lays. -/
def zrow (n : Nat) : Array Value := madeCells zpair (n * 2)

theorem zrow_len (n : Nat) : (zrow n).toList.length = n * 2 := by
  simp [zrow, madeCells]

theorem mk_of {t e : TypeId} (ht : Try.prog.underlying t = some (.slice e)) (hi : (Try.prog.info? e).map (fun i => (i.zero, i.size, i.bytes)) = some (some (.agg #[.string ⟨#[]⟩, .string ⟨#[]⟩]), 2, 32))
    (c : Nat) (hc : c ≤ 1099511627776) (w : World) :
    (Instr.makeSlice t (.int .i64 c) (.int .i64 c)).run Try.prog w = .ok (.slice (some ⟨w.heap.size, 0, none⟩) c c) (w.alloc (.cells (zrow c) e)) := by
  obtain ⟨i, h1, h2, h3, h4⟩ := info_parts hi
  have := run_make (P := Try.prog) w t e i _ ht h1 h2 .i64 .i64 c c (by omega) (by omega) (by rw [h4]; omega) (by omega)
  rw [h3] at this
  simpa [zrow, zpair, Value.cells] using this

theorem row_new_arr (w : World) (t : TypeId) (xs : Array Value) : Row (w.alloc (.cells xs t)) w.heap.size t xs.toList := by
  unfold Row World.alloc
  simp only [Array.getElem?_push_size]

def CloneP (w : World) (n : Nat) (t : Nat → Rf) (e : Ending) (w' : World) : Prop :=
  ∃ a', e = .returned (.slice a' n n) ∧ Rs w' a' n t ∧ Below w.heap.size w w'

/-- The first k refs of the row xs are t. -/
def Fst (xs : List Value) (k : Nat) (t : Nat → Rf) : Prop := ∀ j, j < k → xs[j * 2]? = some (.string (t j).1) ∧ xs[j * 2 + 1]? = some (.string (t j).2)

theorem Fst.step {xs : List Value} {k n : Nat} {t : Nat → Rf} (h : Fst xs k t) (hl : xs.length = n * 2) (hk : k < n) : Fst ((xs.set (k * 2) (.string (t k).1)).set (k * 2 + 1) (.string (t k).2)) (k + 1) t := by
  intro j hj
  by_cases e : j = k
  · subst e
    constructor
    · rw [List.getElem?_set_ne (by omega), List.getElem?_set_self (by omega)]
    · rw [List.getElem?_set_self (by rw [List.length_set]; omega)]
  · obtain ⟨a, b⟩ := h j (by omega)
    constructor
    · rw [List.getElem?_set_ne (by omega), List.getElem?_set_ne (by omega)]; exact a
    · rw [List.getElem?_set_ne (by omega), List.getElem?_set_ne (by omega)]; exact b

theorem cloneRefs (a : Option Addr) (n cap : Nat) (t : Nat → Rf) (w : World) (h : Rs w a n t) (hl : n ≤ 1048576) :
    Calls Try.prog 6 #[.slice a n cap] w fun e w' => CloneP w n t e w' := by
  have h0 := h.none0
  obtain ⟨b, o, h1, h2⟩ := h
  cases a with
  | none =>
    obtain rfl := h0 rfl
    have hq : ∀ w : World, (binOp .eql 22 (.slice none 0 cap) (.slice none 0 0)).run Try.prog w = .ok (.bool true) w := fun w => Lib.run_eql_slice_nil w _ _ _ _ _ _ _ Try.underlying22
    go_enter Try.func6, Try.ntmps6
    go_wp2
    go_ret
    exact ⟨none, rfl, ⟨b, o, fun h => absurd h (by omega), fun i hi => absurd hi (by omega)⟩, Below.refl _ _⟩
  | some ad =>
    have hq : ∀ w : World, (binOp .eql 22 (.slice (some ad) n cap) (.slice none 0 0)).run Try.prog w = .ok (.bool false) w := fun w => Lib.run_eql_slice_nil w _ _ _ _ _ _ _ Try.underlying22
    have hmk := fun w => mk_of Try.underlying22 info30 n (by omega) w
    have H1 : Hid (0 < n → some ad = some ⟨b, o, none⟩) := h1
    have H2 := hid h2
    clear h0 h1 h2
    go_enter Try.func6, Try.ntmps6
    go_wp2
    have hb0 : Below w.heap.size w (w.alloc (.cells (zrow n) 30)) := (Below.refl _ _).alloc (Nat.le_refl _) _
    have hr0 := row_new_arr w 30 (zrow n)
    have hzl := zrow_len n
    go_loopw [4] (fun i wr => ∃ (k : Nat) (xs : List Value), k ≤ n ∧ i = .int .i64 k ∧ Row wr w.heap.size 30 xs ∧ xs.length = n * 2 ∧ Fst xs k t ∧ Below w.heap.size w wr) (fun i _ => n - (intOf i).toNat)
    case atStart => exact ⟨0, _, Nat.zero_le _, rfl, hr0, hzl, fun j hj => absurd hj (by omega), hb0⟩
    case round =>
      obtain ⟨k, xs, hk, rfl, hrow, hlen, hxs, hbel⟩ := hrel
      clear hb0 hr0 hzl
      by_cases hlt : k < n
      · obtain rfl : ad = ⟨b, o, none⟩ := by simpa using H1.out (by omega)
        obtain ⟨c1, c2⟩ := H2.out k hlt
        have hc1 := cell_later hbel c1
        have hc2 := cell_later hbel c2
        obtain ⟨v1, hv1⟩ : ∃ v, xs[k * 2]? = some v := ⟨_, List.getElem?_eq_getElem (by omega)⟩
        obtain ⟨v2, hv2⟩ : ∃ v, xs[k * 2 + 1]? = some v := ⟨_, List.getElem?_eq_getElem (by omega)⟩
        have hcur1 := hrow.cell hv1
        have hcur2 := hrow.cell hv2
        have hfz1 := hrow.frozen (k * 2)
        have hfz2 := hrow.frozen (k * 2 + 1)
        have HR := hid hrow
        have HX := hid hxs
        have HB := hid hbel
        have HL := hid hlen
        clear hrow hxs hbel c1 c2 hlen hv1 hv2
        go_wp2
        go_roundw
        case rel =>
          refine ⟨k + 1, _, by omega, by go_num, (HR.out.set (k * 2) _).set (k * 2 + 1) _, ?_, HX.out.step HL.out hlt, (HB.out.setCell (Nat.le_refl _) _).setCell (Nat.le_refl _) _⟩
          rw [List.length_set, List.length_set]; exact HL.out
        case measure => simp [intOf]; omega
      · obtain rfl : k = n := by omega
        go_wp2
        go_ret
        refine ⟨_, rfl, ⟨w.heap.size, 0, fun _ => rfl, fun i hi => ?_⟩, hbel⟩
        rw [Nat.zero_add]
        exact ⟨hrow.cell (hxs i hi).1, hrow.cell (hxs i hi).2⟩

def ToP (w : World) (x : Rf) (e : Ending) (w' : World) : Prop := e = .returned (.agg #[.string x.1, .string x.2]) ∧ Below w.heap.size w w'

theorem toRef (x : Rf) (w : World) : Calls Try.prog 7 #[.agg #[.string x.1, .string x.2]] w fun e w' => ToP w x e w' := by
  go_enter Try.func7, Try.ntmps7
  go_wp2
  refine bodyPost_ret (v := .agg #[.string x.1, .string x.2]) ?_ rfl ⟨rfl, ((Below.refl _ _).alloc (Nat.le_refl _) _).alloc (by simp) _⟩
  exact results_cell_row rfl _ _ (w.heap.size + 1) 28 #[.string x.1, .string x.2] (0, 0) _ rfl (heap_alloc2_new _ _ _) Try.underlying28 rfl (by kernel_rfl)

theorem bin_eq (x y : Rf) (w : World) : (binOp .eql 30 (.agg #[.string x.1, .string x.2]) (.agg #[.string y.1, .string y.2])).run Try.prog w = .ok (.bool (decide (x = y))) w := by
  have := eq_of (t := 30) (by kernel_rfl) (by kernel_rfl) (by kernel_rfl) x y 9998 w
  unfold rv at this
  simp [binOp, Op.equal, Op.maxDepth, this]

theorem bin_ne (x y : Rf) (w : World) : (binOp .neq 28 (.agg #[.string x.1, .string x.2]) (.agg #[.string y.1, .string y.2])).run Try.prog w = .ok (.bool (!decide (x = y))) w := by
  have := eq_of (t := 28) (by kernel_rfl) (by kernel_rfl) (by kernel_rfl) x y 9998 w
  unfold rv at this
  simp [binOp, Op.equal, Op.maxDepth, this]

end Go.Proofs.Qxb6604662a
