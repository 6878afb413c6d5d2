import Derived.Test.Qxb6604498aRows
import Derived.WalkKit
import Derived.WalkSpells
import Derived.WalkLawsBesides
namespace Go.Proofs.Qxb6604498a
open Go.RowKit

/-- Block g is a row of cells xs, of type t; none of them is frozen. -/
def Row (w : World) (g : Nat) (t : TypeId) (xs : List Value) : Prop := w.heap[g]? = some (.cells xs.toArray t (0, 0))

theorem Row.cell {w : World} {g : Nat} {t : TypeId} {xs : List Value} (h : Row w g t xs) {i : Nat} {v : Value} (hi : xs[i]? = some v) : w.cell? ⟨g, i, none⟩ = some v := by
  unfold Row at h
  simp [World.cell?, h, hi]

theorem Row.frozen {w : World} {g : Nat} {t : TypeId} {xs : List Value} (h : Row w g t xs) (i : Nat) : w.frozen? ⟨g, i, none⟩ = false := by
  unfold Row at h
  simp [World.frozen?, h]

theorem Row.lt {w : World} {g : Nat} {t : TypeId} {xs : List Value} (h : Row w g t xs) : g < w.heap.size := by
  unfold Row at h
  rcases Nat.lt_or_ge g w.heap.size with h' | h'
  · exact h'
  · rw [Array.getElem?_eq_none h'] at h; cases h

theorem Row.set {w : World} {g : Nat} {t : TypeId} {xs : List Value} (h : Row w g t xs) (i : Nat) (v : Value) : Row (w.setCell ⟨g, i, none⟩ v) g t (xs.set i v) := by
  unfold Row at *
  simp only [World.setCell, Array.getElem?_modify, if_true, h, Option.map_some]
  simp

theorem Row.set_other {w : World} {g : Nat} {t : TypeId} {xs : List Value} (h : Row w g t xs) {a : Addr} (hne : a.block ≠ g) (v : Value) : Row (w.setCell a v) g t xs := by
  unfold Row at *
  simp only [World.setCell, Array.getElem?_modify]
  rw [if_neg hne]; exact h

theorem Row.alloc {w : World} {g : Nat} {t : TypeId} {xs : List Value} (h : Row w g t xs) (o : Obj) : Row (w.alloc o) g t xs := by
  have hl := h.lt
  unfold Row at *
  simp only [World.alloc, Array.getElem?_push]
  rw [if_neg (by omega)]; exact h

theorem row_new (w : World) (t : TypeId) (xs : List Value) : Row (w.alloc (.cells xs.toArray t)) w.heap.size t xs := by
  unfold Row World.alloc
  simp only [Array.getElem?_push_size]

theorem row_new_arr (w : World) (t : TypeId) (xs : Array Value) : Row (w.alloc (.cells xs t)) w.heap.size t xs.toList := by
  unfold Row World.alloc
  simp only [Array.getElem?_push_size]

theorem Row.drew {w : World} {g : Nat} {t : TypeId} {xs : List Value} (h : Row w g t xs) : Row w.drew g t xs := h

theorem Row.below {B : Nat} {w w' : World} {g : Nat} {t : TypeId} {xs : List Value} (h : Row w g t xs) (hb : Below B w w') (hg : g < B) : Row w' g t xs := by
  unfold Row at *
  rw [hb.block g hg]; exact h

theorem hid {p : Prop} (h : p) : Hid p := h

/-- A slice of n bytes, z 0 .. z (n - 1). -/
def Bs (w : World) (a : Option Addr) (n : Nat) (z : Nat → Int) : Prop :=
  ∃ g o, (0 < n → a = some ⟨g, o, none⟩) ∧ ∀ i, i < n → w.cell? ⟨g, o + i, none⟩ = some (.int .u8 (z i))

theorem Bs.below {w w' : World} {a : Option Addr} {n : Nat} {z : Nat → Int} (h : Bs w a n z) (hb : Below w.heap.size w w') : Bs w' a n z := by
  obtain ⟨g, o, h1, h2⟩ := h
  exact ⟨g, o, h1, fun i hi => cell_later hb (h2 i hi)⟩

theorem Bs.drew {w : World} {a : Option Addr} {n : Nat} {z : Nat → Int} (h : Bs w a n z) : Bs w.drew a n z := h

def RetBool (e : Ending) : Prop := ∃ b, e = .returned (.bool b)

theorem info5 : (Try.prog.info? 5).map (fun i => (i.zero, i.size, i.bytes)) = some (some (.int .u8 0), 1, 1) := by kernel_rfl

/-- The row that a make lays. -/
def zrow (n : Nat) : Array Value := madeCells #[.int .u8 0] n
theorem zrow_list (n : Nat) : (zrow n).toList = List.replicate n (.int .u8 0) := toList_madeCells_one _ n

theorem mk22 (l c : Nat) (hl : l ≤ c) (hc : c ≤ 1099511627776) (w : World) :
    (Instr.makeSlice 22 (.int .i64 l) (.int .i64 c)).run Try.prog w = .ok (.slice (some ⟨w.heap.size, 0, none⟩) l c) (w.alloc (.cells (zrow c) 5)) := by
  obtain ⟨i, h1, h2, h3, h4⟩ := info_parts info5
  have := run_make (P := Try.prog) w 22 5 i (.int .u8 0) Try.underlying22 h1 h2 .i64 .i64 l c (by omega) (by omega) (by rw [h4]; omega) (by omega)
  rw [h3] at this
  simpa [zrow, Value.cells] using this

def CloneP (w : World) (n : Nat) (z : Nat → Int) (e : Ending) (w' : World) : Prop :=
  ∃ a', e = .returned (.slice a' n n) ∧ Bs w' a' n z ∧ Below w.heap.size w w'

/-- zzCloneBytes: a copy in new memory. -/
theorem cloneBytes (a : Option Addr) (n cap : Nat) (z : Nat → Int) (w : World) (h : Bs w a n z) (h0 : a = none → n = 0) (hl : n ≤ 1048576) :
    Calls Try.prog 7 #[.slice a n cap] w fun e w' => CloneP w n z e w' := by
  obtain ⟨b, o, h1, h2⟩ := h
  cases a with
  | none =>
    obtain rfl := h0 rfl
    have hq : ∀ w : World, (binOp .eql 22 (.slice none 0 cap) (.slice none 0 0)).run Try.prog w = .ok (.bool true) w := fun w => Lib.run_eql_slice_nil w _ _ _ _ _ _ _ Try.underlying22
    go_enter Try.func7, Try.ntmps7
    go_wp2
    go_ret
    exact ⟨none, rfl, ⟨b, o, fun h => absurd h (by omega), fun i hi => absurd hi (by omega)⟩, Below.refl _ _⟩
  | some ad =>
    have hq : ∀ w : World, (binOp .eql 22 (.slice (some ad) n cap) (.slice none 0 0)).run Try.prog w = .ok (.bool false) w := fun w => Lib.run_eql_slice_nil w _ _ _ _ _ _ _ Try.underlying22
    have hmk := fun w => mk22 n n (Nat.le_refl _) (by omega) w
    have H1 : Hid (0 < n → some ad = some ⟨b, o, none⟩) := h1
    have H2 : Hid (∀ i, i < n → w.cell? ⟨b, o + i, none⟩ = some (.int .u8 (z i))) := h2
    clear h0 h1 h2
    go_enter Try.func7, Try.ntmps7
    go_wp2
    have hb0 : Below w.heap.size w (w.alloc (.cells (zrow n) 5)) := (Below.refl _ _).alloc (Nat.le_refl _) _
    have hr0 := row_new_arr w 5 (zrow n)
    rw [zrow_list] at hr0
    go_loopw [4] (fun i wr => ∃ (k : Nat) (xs : List Value), k ≤ n ∧ i = .int .i64 k ∧ Row wr w.heap.size 5 xs ∧ xs.length = n ∧ (∀ j, j < k → xs[j]? = some (.int .u8 (z j))) ∧ Below w.heap.size w wr) (fun i _ => n - (intOf i).toNat)
    case atStart => exact ⟨0, _, Nat.zero_le _, rfl, hr0, by simp, fun j hj => absurd hj (by omega), hb0⟩
    case round =>
      obtain ⟨k, xs, hk, rfl, hrow, hlen, hxs, hbel⟩ := hrel
      clear hb0 hr0
      by_cases hlt : k < n
      · obtain rfl : ad = ⟨b, o, none⟩ := by simpa using H1.out (by omega)
        have hc := cell_later hbel (H2.out k hlt)
        have hcur := hrow.cell (i := k) (v := xs[k]'(by omega)) (by simp)
        have hfz := hrow.frozen k
        have HR : Hid (Row _ w.heap.size 5 xs) := hrow
        have HX : Hid (∀ j, j < k → xs[j]? = some (.int .u8 (z j))) := hxs
        have HB : Hid (Below w.heap.size w _) := hbel
        have HL : Hid (xs.length = n) := hlen
        clear hrow hxs hbel
        go_wp2
        go_roundw
        case rel =>
          refine ⟨k + 1, xs.set k (.int .u8 (z k)), by omega, by go_num, HR.out.set k _, by rw [List.length_set]; exact HL.out, ?_, HB.out.setCell (Nat.le_refl _) _⟩
          intro j hj
          rw [List.getElem?_set]
          by_cases e : k = j
          · subst e; rw [if_pos rfl, if_pos (by rw [HL.out]; omega)]
          · rw [if_neg e]; exact HX.out j (by omega)
        case measure => simp [intOf]; omega
      · obtain rfl : k = n := by omega
        go_wp2
        go_ret
        refine ⟨_, rfl, ⟨w.heap.size, 0, fun _ => rfl, fun i hi => ?_⟩, hbel⟩
        rw [Nat.zero_add]
        exact hrow.cell (hxs i hi)

end Go.Proofs.Qxb6604498a
