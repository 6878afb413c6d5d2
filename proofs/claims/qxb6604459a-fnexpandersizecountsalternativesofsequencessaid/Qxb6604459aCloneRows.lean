import Derived.Test.Qxb6604459aGrid
namespace Go.Proofs.Qxb6604459a
open Go.RowKit

/-- A slice of strings at the head of block b. -/
def StrsAt (w : World) (a : Option Addr) (len : Nat) (ss : Nat → ByteArray) (b : Nat) : Prop :=
  (a = none → len = 0) ∧ (0 < len → a = some ⟨b, 0, none⟩) ∧ ∀ i, i < len → w.cell? ⟨b, i, none⟩ = some (.string (ss i)) ∧ (ss i).size ≤ maxLen

theorem StrsAt.strs {w : World} {a : Option Addr} {len : Nat} {ss : Nat → ByteArray} {b : Nat} (h : StrsAt w a len ss b) : Strs w a len ss := by
  obtain ⟨h0, h1, h2⟩ := h
  exact ⟨h0, b, 0, h1, fun i hi => by rw [Nat.zero_add]; exact h2 i hi⟩

theorem StrsAt.below {w w' : World} {a : Option Addr} {len : Nat} {ss : Nat → ByteArray} {b : Nat} (h : StrsAt w a len ss b) (hb : Below w.heap.size w w') : StrsAt w' a len ss b := by
  obtain ⟨h0, h1, h2⟩ := h
  exact ⟨h0, h1, fun i hi => ⟨cell_later hb (h2 i hi).1, (h2 i hi).2⟩⟩

theorem StrsAt.set {w : World} {a : Option Addr} {len : Nat} {ss : Nat → ByteArray} {b : Nat} (h : StrsAt w a len ss b) {p : Addr} (hp : p.block ≠ b) (v : Value) : StrsAt (w.setCell p v) a len ss b := by
  obtain ⟨h0, h1, h2⟩ := h
  refine ⟨h0, h1, fun i hi => ⟨?_, (h2 i hi).2⟩⟩
  rw [World.cell?_setCell_other _ _ _ _ (fun e => hp (by rw [e]))]
  exact (h2 i hi).1

/-- What a clone hands back. -/
def CloneP (w : World) (len : Nat) (ss : Nat → ByteArray) (e : Ending) (w' : World) : Prop :=
  ∃ a' b, e = .returned (.slice a' len len) ∧ w.heap.size ≤ b ∧ StrsAt w' a' len ss b ∧ Below w.heap.size w w'

theorem clone_fresh (a : Option Addr) (len cap : Nat) (ss : Nat → ByteArray) (w : World) (h : Strs w a len ss) (hl : len ≤ 1099511627776) :
    Calls Try.prog 12 #[.slice a len cap] w fun e w' => CloneP w len ss e w' := by
  obtain ⟨h0, b, o, h1, h2⟩ := h
  cases a with
  | none =>
    obtain rfl := h0 rfl
    have hq : ∀ w : World, (binOp .eql 24 (.slice none 0 cap) (.slice none 0 0)).run Try.prog w = .ok (.bool true) w := fun w => Lib.run_eql_slice_nil w _ _ _ _ _ _ _ Try.underlying24
    go_enter Try.func12, Try.ntmps12
    go_wp2
    go_ret
    exact ⟨none, w.heap.size, rfl, Nat.le_refl _, ⟨fun _ => rfl, fun h => absurd h (by omega), fun i hi => absurd hi (by omega)⟩, Below.refl _ _⟩
  | some ad =>
    have hq : ∀ w : World, (binOp .eql 24 (.slice (some ad) len cap) (.slice none 0 0)).run Try.prog w = .ok (.bool false) w := fun w => Lib.run_eql_slice_nil w _ _ _ _ _ _ _ Try.underlying24
    have hmk := fun w => mk24 len len (Nat.le_refl _) hl w
    have H1 : Hid (0 < len → some ad = some ⟨b, o, none⟩) := h1
    have H2 : Hid (∀ i, i < len → w.cell? ⟨b, o + i, none⟩ = some (.string (ss i)) ∧ (ss i).size ≤ maxLen) := h2
    clear h0 h1 h2
    go_enter Try.func12, Try.ntmps12
    go_wp2
    have hb0 : Below w.heap.size w (w.alloc (.cells (zrow (.string ⟨#[]⟩) len) 9)) := (Below.refl _ _).alloc (Nat.le_refl _) _
    have hr0 := row_new_arr w 9 (zrow (.string ⟨#[]⟩) len)
    rw [zrow_list] at hr0
    go_loopw [4] (fun i wr => ∃ (k : Nat) (xs : List Value), k ≤ len ∧ i = .int .i64 k ∧ Row wr w.heap.size 9 xs ∧ xs.length = len ∧ (∀ j, j < k → xs[j]? = some (.string (ss j))) ∧ Below w.heap.size w wr) (fun i _ => len - (intOf i).toNat)
    case atStart => exact ⟨0, _, Nat.zero_le _, rfl, hr0, by simp, fun j hj => absurd hj (by omega), hb0⟩
    case round =>
      obtain ⟨k, xs, hk, rfl, hrow, hlen, hxs, hbel⟩ := hrel
      clear hb0 hr0
      by_cases hlt : k < len
      · obtain rfl : ad = ⟨b, o, none⟩ := by simpa using H1.out (by omega)
        obtain ⟨hc0, hsz⟩ := H2.out k hlt
        have hc := cell_later hbel hc0
        obtain ⟨vq, hvq⟩ : ∃ v, xs[k]? = some v := ⟨_, List.getElem?_eq_getElem (by omega)⟩
        have hcur := hrow.cell hvq
        have hfz := hrow.frozen k
        have HR := hid hrow
        have HX := hid hxs
        have HB := hid hbel
        have HL := hid hlen
        clear hrow hxs hbel hc0 hvq hlen
        go_wp2
        go_roundw
        case rel =>
          refine ⟨k + 1, xs.set k (.string (ss k)), by omega, by go_num, HR.out.set k _, by rw [List.length_set]; exact HL.out, ?_, HB.out.setCell (Nat.le_refl _) _⟩
          intro j hj
          rw [List.getElem?_set]
          by_cases e : k = j
          · subst e; rw [if_pos rfl, if_pos (by rw [HL.out]; omega)]
          · rw [if_neg e]; exact HX.out j (by omega)
        case measure => simp [intOf]; omega
      · obtain rfl : k = len := by omega
        go_wp2
        go_ret
        exact ⟨_, w.heap.size, rfl, Nat.le_refl _, ⟨fun h => (by cases h), fun _ => rfl, fun i hi => ⟨hrow.cell (hxs i hi), (H2.out i hi).2⟩⟩, hbel⟩

theorem mk22 (l c : Nat) (hl : l ≤ c) (hc : c ≤ 1099511627776) (w : World) :
    (Instr.makeSlice 22 (.int .i64 l) (.int .i64 c)).run Try.prog w = .ok (.slice (some ⟨w.heap.size, 0, none⟩) l c) (w.alloc (.cells (zrow (.slice none 0 0) c) 24)) :=
  mk_of Try.underlying22 info24 rfl (by omega) l c hl hc w
theorem mk27 (l c : Nat) (hl : l ≤ c) (hc : c ≤ 1099511627776) (w : World) :
    (Instr.makeSlice 27 (.int .i64 l) (.int .i64 c)).run Try.prog w = .ok (.slice (some ⟨w.heap.size, 0, none⟩) l c) (w.alloc (.cells (zrow (.pointer none) c) 35)) :=
  mk_of Try.underlying27 info35 rfl (by omega) l c hl hc w

/-- What the clone of the rows hands back. -/
def CloneRowsP (w : World) (n : Nat) (len : Nat → Nat) (ss : Nat → Nat → ByteArray) (e : Ending) (w' : World) : Prop :=
  ∃ a' L, e = .returned (.slice a' n n) ∧ (∀ i, i < n → (L i).2.1 = len i) ∧ Grid w' a' n L ss ∧ Below w.heap.size w w'

set_option maxHeartbeats 400000 in
theorem clone_rows (a : Option Addr) (n cap : Nat) (L : Nat → Option Addr × Nat × Nat) (ss : Nat → Nat → ByteArray) (w : World) (h : Grid w a n L ss) (hn : n ≤ 1099511627776) (hll : ∀ i, i < n → (L i).2.1 ≤ 1099511627776) :
    Calls Try.prog 6 #[.slice a n cap] w fun e w' => CloneRowsP w n (fun i => (L i).2.1) ss e w' := by
  obtain ⟨h0, b, o, h1, h2⟩ := h
  cases a with
  | none =>
    obtain rfl := h0 rfl
    have hq : ∀ w : World, (binOp .eql 22 (.slice none 0 cap) (.slice none 0 0)).run Try.prog w = .ok (.bool true) w := fun w => Lib.run_eql_slice_nil w _ _ _ _ _ _ _ Try.underlying22
    clear h0 h1 h2 hll
    go_enter Try.func6, Try.ntmps6
    go_wp2
    go_ret
    exact ⟨none, L, rfl, fun i hi => absurd hi (by omega), ⟨fun _ => rfl, 0, 0, fun h => absurd h (by omega), fun i hi => absurd hi (by omega)⟩, Below.refl _ _⟩
  | some ad =>
    have hq : ∀ w : World, (binOp .eql 22 (.slice (some ad) n cap) (.slice none 0 0)).run Try.prog w = .ok (.bool false) w := fun w => Lib.run_eql_slice_nil w _ _ _ _ _ _ _ Try.underlying22
    have hmk := fun w => mk22 n n (Nat.le_refl _) hn w
    have H1 := hid h1
    have H2 := hid h2
    have HLL := hid hll
    clear h0 h1 h2 hll
    go_enter Try.func6, Try.ntmps6
    go_wp2
    have HB0 := hid ((Below.refl w.heap.size w).alloc (Nat.le_refl _) (.cells (zrow (.slice none 0 0) n) 24))
    have hr0 := row_new_arr w 24 (zrow (.slice none 0 0) n)
    rw [zrow_list] at hr0
    have HR0 := hid hr0
    clear hr0 hmk
    go_loopw [4] (fun i wr => ∃ (k : Nat) (xs : List Value) (A : Nat → Option Addr) (B : Nat → Nat), k ≤ n ∧ i = .int .i64 k ∧ Row wr w.heap.size 24 xs ∧ xs.length = n ∧ (∀ j, j < k → xs[j]? = some (.slice (A j) (L j).2.1 (L j).2.1) ∧ w.heap.size < B j ∧ StrsAt wr (A j) (L j).2.1 (ss j) (B j)) ∧ Below w.heap.size w wr) (fun i _ => n - (intOf i).toNat)
    case atStart => exact ⟨0, _, fun _ => none, fun _ => 0, Nat.zero_le _, rfl, HR0.out, by simp, fun j hj => absurd hj (by omega), HB0.out⟩
    case round =>
      obtain ⟨k, xs, A, B, hk, rfl, hrow, hlen, hxs, hbel⟩ := hrel
      clear HB0 HR0
      by_cases hlt : k < n
      · obtain rfl : ad = ⟨b, o, none⟩ := by simpa using H1.out (by omega)
        obtain ⟨hc0, hst0, hsz⟩ := H2.out k hlt
        have hc := cell_later hbel hc0
        have HST := hid (hst0.below (hbel.mono (Nat.le_refl _)))
        have hgl := hrow.lt
        have HR := hid hrow
        have HX := hid hxs
        have HB := hid hbel
        have HL := hid hlen
        clear hrow hxs hbel hc0 hlen hst0
        go_wp2_with fail
        refine (clone_fresh _ _ _ (ss k) _ HST.out (HLL.out k hlt)).mono ?_
        rintro e w1 ⟨a1, b1, rfl, hb1, hs1, hbl⟩
        have hrow1 := HR.out.below hbl hgl
        obtain ⟨vq, hvq⟩ : ∃ v, xs[k]? = some v := ⟨_, List.getElem?_eq_getElem (by rw [HL.out]; omega)⟩
        have hcur := hrow1.cell hvq
        have hfz := hrow1.frozen k
        have HR1 := hid hrow1
        have HS1 := hid hs1
        have HBL := hid hbl
        clear hrow1 hs1 hbl hvq
        go_wp2
        go_roundw
        case rel =>
          refine ⟨k + 1, xs.set k (.slice a1 (L k).2.1 (L k).2.1), fun j => if j = k then a1 else A j, fun j => if j = k then b1 else B j, by omega, by go_num, HR1.out.set k _, by rw [List.length_set]; exact HL.out, ?_, (HB.out.trans (HBL.out.mono HB.out.size)).setCell (Nat.le_refl _) _⟩
          intro j hj
          rw [List.getElem?_set]
          dsimp only
          by_cases e : k = j
          · subst e
            rw [if_pos rfl, if_pos (by rw [HL.out]; omega), if_pos rfl, if_pos rfl]
            exact ⟨rfl, by omega, HS1.out.set (by show w.heap.size ≠ b1; omega) _⟩
          · obtain ⟨x1, x2, x3⟩ := HX.out j (by omega)
            rw [if_neg e, if_neg (Ne.symm e), if_neg (Ne.symm e)]
            exact ⟨x1, x2, (x3.below HBL.out).set (by show w.heap.size ≠ B j; omega) _⟩
        case measure => simp [intOf]; omega
      · obtain rfl : k = n := by omega
        go_wp2
        go_ret
        refine ⟨_, fun i => (A i, (L i).2.1, (L i).2.1), rfl, fun i hi => rfl, ⟨fun h => (by cases h), w.heap.size, 0, fun _ => rfl, fun i hi => ?_⟩, hbel⟩
        obtain ⟨x1, x2, x3⟩ := hxs i hi
        rw [Nat.zero_add]
        exact ⟨hrow.cell x1, x3.strs, (H2.out i hi).2.2⟩

end Go.Proofs.Qxb6604459a
