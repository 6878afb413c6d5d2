import Derived.Test.Qxb6604459aMem
namespace Go.Proofs.Qxb6604459a
open Go.RowKit

theorem info9 : (Try.prog.info? 9).map (fun i => (i.zero, i.size, i.bytes)) = some (some (.string ⟨#[]⟩), 1, 16) := by kernel_rfl
theorem info34 : (Try.prog.info? 34).map (fun i => (i.zero, i.size, i.bytes)) = some (some .nilIface, 1, 16) := by kernel_rfl
theorem info35 : (Try.prog.info? 35).map (fun i => (i.zero, i.size, i.bytes)) = some (some (.pointer none), 1, 8) := by kernel_rfl
theorem info24 : (Try.prog.info? 24).map (fun i => (i.zero, i.size, i.bytes)) = some (some (.slice none 0 0), 1, 24) := by kernel_rfl

/-- The row that a make lays. -/
def zrow (z : Value) (n : Nat) : Array Value := madeCells #[z] n
theorem zrow_list (z : Value) (n : Nat) : (zrow z n).toList = List.replicate n z := toList_madeCells_one z n

theorem mk_of {t e : TypeId} {z : Value} {bytes : Nat} (ht : Try.prog.underlying t = some (.slice e)) (hi : (Try.prog.info? e).map (fun i => (i.zero, i.size, i.bytes)) = some (some z, 1, bytes)) (hz : z.cells = #[z]) (hb : bytes ≤ 64)
    (l c : Nat) (hl : l ≤ c) (hc : c ≤ 1099511627776) (w : World) :
    (Instr.makeSlice t (.int .i64 l) (.int .i64 c)).run Try.prog w = .ok (.slice (some ⟨w.heap.size, 0, none⟩) l c) (w.alloc (.cells (zrow z c) e)) := by
  obtain ⟨i, h1, h2, h3, h4⟩ := info_parts hi
  have hbc : (bytes : Int) * (c : Int) ≤ 281474976710656 := by
    have : bytes * c ≤ 64 * 1099511627776 := Nat.mul_le_mul hb hc
    have h' : ((bytes * c : Nat) : Int) ≤ 281474976710656 := by omega
    rwa [Int.natCast_mul] at h'
  have := run_make (P := Try.prog) w t e i z ht h1 h2 .i64 .i64 l c (by omega) (by omega) (by rw [h4]; exact hbc) (by omega)
  rw [h3] at this
  simpa [hz, zrow] using this

theorem mk24 (l c : Nat) (hl : l ≤ c) (hc : c ≤ 1099511627776) (w : World) :
    (Instr.makeSlice 24 (.int .i64 l) (.int .i64 c)).run Try.prog w = .ok (.slice (some ⟨w.heap.size, 0, none⟩) l c) (w.alloc (.cells (zrow (.string ⟨#[]⟩) c) 9)) :=
  mk_of Try.underlying24 info9 rfl (by omega) l c hl hc w
theorem mk26 (l c : Nat) (hl : l ≤ c) (hc : c ≤ 1099511627776) (w : World) :
    (Instr.makeSlice 26 (.int .i64 l) (.int .i64 c)).run Try.prog w = .ok (.slice (some ⟨w.heap.size, 0, none⟩) l c) (w.alloc (.cells (zrow .nilIface c) 34)) :=
  mk_of Try.underlying26 info34 rfl (by omega) l c hl hc w

/-- zzB1CloneStrings: a copy in new memory. -/
theorem clone_strs (a : Option Addr) (len cap : Nat) (ss : Nat → ByteArray) (w : World) (h : Strs w a len ss) (hl : len ≤ 1099511627776) :
    Calls Try.prog 12 #[.slice a len cap] w fun e w' => ∃ a', e = .returned (.slice a' len len) ∧ Strs w' a' len ss ∧ Below w.heap.size w w' := by
  obtain ⟨h0, b, o, h1, h2⟩ := h
  cases a with
  | none =>
    obtain rfl := h0 rfl
    have hq : ∀ w : World, (binOp .eql 24 (.slice none 0 cap) (.slice none 0 0)).run Try.prog w = .ok (.bool true) w := fun w => Lib.run_eql_slice_nil w _ _ _ _ _ _ _ Try.underlying24
    go_enter Try.func12, Try.ntmps12
    go_wp2
    go_ret
    exact ⟨none, rfl, ⟨fun _ => rfl, b, o, fun h => absurd h (by omega), fun i hi => absurd hi (by omega)⟩, Below.refl _ _⟩
  | some ad =>
    have hq : ∀ w : World, (binOp .eql 24 (.slice (some ad) len cap) (.slice none 0 0)).run Try.prog w = .ok (.bool false) w := fun w => Lib.run_eql_slice_nil w _ _ _ _ _ _ _ Try.underlying24
    have hmk := fun w => mk24 len len (Nat.le_refl _) hl w
    have H1 : Hid (0 < len → some ad = some ⟨b, o, none⟩) := h1
    have H2 : Hid (∀ i, i < len → w.cell? ⟨b, o + i, none⟩ = some (.string (ss i)) ∧ (ss i).size ≤ maxLen) := h2
    clear h0 h1 h2
    go_enter Try.func12, Try.ntmps12
    go_wp2
    have hb0 : Below w.heap.size w (w.alloc (.cells (zrow (.string ⟨#[]⟩) len) 9)) := (Below.refl _ _).alloc (Nat.le_refl _) _
    have hr0 := row_new_arr w 9 (zrow (.string ⟨#[]⟩) len)
    rw [zrow_list] at hr0
    go_loopw [4] (fun i wr => ∃ (k : Nat) (xs : List Value), k ≤ len ∧ i = .int .i64 k ∧ Row wr w.heap.size 9 xs ∧ xs.length = len ∧ (∀ j, j < k → xs[j]? = some (.string (ss j))) ∧ Below w.heap.size w wr) (fun i _ => len - (intOf i).toNat)
    case atStart => exact ⟨0, _, Nat.zero_le _, rfl, hr0, by simp, fun j hj => absurd hj (by omega), hb0⟩
    case round =>
      obtain ⟨k, xs, hk, rfl, hrow, hlen, hxs, hbel⟩ := hrel
      clear hb0 hr0
      by_cases hlt : k < len
      · obtain rfl : ad = ⟨b, o, none⟩ := by simpa using H1.out (by omega)
        obtain ⟨hc0, hsz⟩ := H2.out k hlt
        have hc := cell_later hbel hc0
        have hcur := hrow.cell (i := k) (v := xs[k]'(by omega)) (by simp)
        have hfz := hrow.frozen k
        have HR : Hid (Row _ w.heap.size 9 xs) := hrow
        have HX : Hid (∀ j, j < k → xs[j]? = some (.string (ss j))) := hxs
        have HB : Hid (Below w.heap.size w _) := hbel
        have HL : Hid (xs.length = len) := hlen
        clear hrow hxs hbel hc0
        go_wp2
        go_roundw
        case rel =>
          refine ⟨k + 1, xs.set k (.string (ss k)), by omega, by go_num, HR.out.set k _, by rw [List.length_set]; exact HL.out, ?_, HB.out.setCell (Nat.le_refl _) _⟩
          intro j hj
          rw [List.getElem?_set]
          by_cases e : k = j
          · subst e; rw [if_pos rfl, if_pos (by rw [HL.out]; omega)]
          · rw [if_neg e]; exact HX.out j (by omega)
        case measure => simp [intOf]; omega
      · obtain rfl : k = len := by omega
        go_wp2
        go_ret
        refine ⟨_, rfl, ⟨fun h => (by cases h), w.heap.size, 0, fun _ => rfl, fun i hi => ⟨?_, (H2.out i hi).2⟩⟩, hbel⟩
        rw [Nat.zero_add]
        exact hrow.cell (hxs i hi)

end Go.Proofs.Qxb6604459a
