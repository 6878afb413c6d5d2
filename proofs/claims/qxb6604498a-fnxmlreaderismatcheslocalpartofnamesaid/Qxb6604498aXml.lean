import Derived.Test.Qxb6604498aIs
namespace Go.Proofs.Qxb6604498a
open Go.RowKit

theorem newReader (k : ByteArray) (a : Option Addr) (n ca : Nat) (b : Option Addr) (m cb : Nat) (w : World) :
    Calls Try.prog 12 #[.string k, .slice a n ca, .slice b m cb] w fun e w' => e = .returned (.pointer (some ⟨w.heap.size, 0, none⟩)) ∧ Below w.heap.size w w' ∧ w'.cell? ⟨w.heap.size, 8, none⟩ = some (.string k) ∧ w'.cell? ⟨w.heap.size, 10, none⟩ = some (.slice b m cb) := by
  go_enter Try.func12, Try.ntmps12
  go_wp2
  go_ret
  have hr := row_new w 38 [.nilIface, .nilIface, .slice none 0 0, .bool false, .bool false, .nilIface, .slice none 0 0, .slice none 0 0, .string k, .slice a n ca, .slice b m cb, .slice none 0 0, .slice none 0 0, .slice none 0 0, .slice none 0 0, .slice none 0 0]
  exact ⟨rfl, (Below.refl _ _).alloc (Nat.le_refl _) _, hr.cell rfl, hr.cell rfl⟩

theorem conv_any {w : World} {b : Option Addr} (m cb : Nat) {l : List UInt8} (hl : l.length = m) (h : Bs w b m (fun i => ((l.getD i 0).toNat : Int))) : (convert 22 9 (.slice b m cb)).run Try.prog w = .ok (.string ⟨l.toArray⟩) w := by
  have hn := h.none0
  subst hl
  obtain ⟨g, o, h1, h2⟩ := h
  have key : ∀ ad : Addr, (∀ j (hj : j < l.length), w.cell? (ad.add j) = some (.int .u8 (l[j].toNat : Int))) → (convert 22 9 (.slice (some ad) l.length cb)).run Try.prog w = .ok (.string ⟨l.toArray⟩) w :=
    fun ad hc => run_convert_bytes_back (P := Try.prog) w 22 9 5 ad cb l Try.underlying22 Try.underlying5 Try.underlying9 hc
  cases b with
  | none =>
    have h0 := hn rfl
    obtain rfl : l = [] := List.eq_nil_of_length_eq_zero h0
    have h9 := run_underlying (w := w) Try.underlying9
    have h22 := run_underlying (w := w) Try.underlying22
    have h5 := run_underlying (w := w) Try.underlying5
    simp [convert, h9, h22, h5, Result.andThen, Conv.bytesToString]
    rfl
  | some ad =>
    refine key ad fun j hj => ?_
    have e : ad = ⟨g, o, none⟩ := by simpa using h1 (by omega)
    subst e
    rw [Addr.add_lit]
    have := h2 j hj
    simpa [List.getD, hj] using this

def IsP (w : World) (k0 k q : ByteArray) (l : List UInt8) (e : Ending) (w' : World) : Prop :=
  ∃ b, e = .returned (.bool b) ∧ (b = true ↔ (k0.toList = k.toList ∧ l = q.toList)) ∧ w' = w

theorem isW (x : Nat) (k0 k q : ByteArray) (b : Option Addr) (m cb : Nat) (l : List UInt8) (w : World) (h8 : w.cell? ⟨x, 8, none⟩ = some (.string k0)) (h10 : w.cell? ⟨x, 10, none⟩ = some (.slice b m cb)) (hl : l.length = m) (h : Bs w b m (fun i => ((l.getD i 0).toNat : Int))) :
    Calls Try.prog 16 #[.pointer (some ⟨x, 0, none⟩), .string k, .string q] w fun e w' => IsP w k0 k q l e w' := by
  have hcv := conv_any m cb hl h
  clear h hl
  by_cases hk : k0.toList = k.toList
  · go_enter Try.func16, Try.ntmps16
    go_wp2
    go_ret
    exact ⟨_, rfl, by simp [hk], rfl⟩
  · go_enter Try.func16, Try.ntmps16
    go_wp2
    go_ret
    exact ⟨_, rfl, by simp [hk], rfl⟩

theorem isT (x : Nat) (k0 k q : ByteArray) (b : Option Addr) (m cb : Nat) (l : List UInt8) (w : World) (h8 : w.cell? ⟨x, 8, none⟩ = some (.string k0)) (h10 : w.cell? ⟨x, 10, none⟩ = some (.slice b m cb)) (hl : l.length = m) (h : Bs w b m (fun i => ((l.getD i 0).toNat : Int))) :
    Calls Try.prog 13 #[.pointer (some ⟨x, 0, none⟩), .string k, .string q] w fun e w' => IsP w k0 k q l e w' := by
  have HI := hid (isW x k0 k q b m cb l w h8 h10 hl h)
  clear h8 h10 h hl
  go_enter Try.func13, Try.ntmps13
  go_wp2_with fail
  refine HI.out.mono ?_
  rintro e w' ⟨bb, rfl, hb, rfl⟩
  have HB := hid hb
  clear hb HI
  go_wp2
  go_ret
  exact ⟨bb, rfl, HB.out, rfl⟩

/-- The tail's bytes. -/
def tl (L : Nat → UInt8) (n m : Nat) : List UInt8 := (List.range m).map fun i => L (n - m + i)

theorem tl_len (L : Nat → UInt8) (n m : Nat) : (tl L n m).length = m := by simp [tl]
theorem tl_at (L : Nat → UInt8) (n m i : Nat) (h : i < m) : (tl L n m).getD i 0 = L (n - m + i) := by simp [tl, h]

theorem ba_list (q : ByteArray) : q.toList = q.data.toList := by
  rw [ByteArray.toList_eq]

/-- What is reads of the local part is what zzNamedBy asks of the whole name. -/
theorem tl_named {L : Nat → UInt8} {n m : Nat} {q : ByteArray} (ht : Tail (fun i => ((L i).toNat : Int)) n m) : tl L n m = q.data.toList ↔ Named (fun i => ((L i).toNat : Int)) n q := by
  constructor
  · intro e
    have hm : q.size = m := by
      have := congrArg List.length e
      rw [tl_len, Array.length_toList] at this
      exact this.symm
    obtain ⟨h1, h2, h3⟩ := ht
    have hat : ∀ i (h : i < q.size), L (n - m + i) = q[i] := by
      intro i h
      have e1 := congrArg (fun l => l[i]?) e
      simp only [tl] at e1
      rw [List.getElem?_map, List.getElem?_range (by omega), Array.getElem?_toList] at e1
      simp only [Option.map_some] at e1
      rw [Array.getElem?_eq_getElem (by exact h)] at e1
      exact Option.some.inj e1
    refine ⟨by omega, fun i h => ?_, ?_⟩
    · have := hat i h
      rw [hm]
      refine ⟨?_, by show ((L (n - m + i)).toNat : Int) = _; rw [this]⟩
      rw [← this]
      exact h2 (n - m + i) (by omega) (by omega)
    · rw [hm]
      rcases h3 with h | h
      · exact .inl h
      · exact .inr h.2
  · rintro ⟨h1, h2, h3⟩
    have ht' : Tail (fun i => ((L i).toNat : Int)) n q.size := by
      refine ⟨h1, fun i a b => ?_, ?_⟩
      · have := h2 (i - (n - q.size)) (by omega)
        rw [show n - q.size + (i - (n - q.size)) = i by omega] at this
        rw [this.2]; exact this.1
      · rcases h3 with h | h
        · exact .inl h
        · by_cases e : q.size = n
          · exact .inl e
          · exact .inr ⟨by omega, h⟩
    obtain rfl := ht.uniq ht'
    apply List.ext_getElem?
    intro i
    by_cases hi : i < q.size
    · rw [tl, List.getElem?_map, List.getElem?_range hi, Array.getElem?_toList, Array.getElem?_eq_getElem (by exact hi)]
      have := (h2 i hi).2
      simp only [Option.map_some, Option.some.injEq]
      apply UInt8.toNat_inj.1
      have e : ((L (n - q.size + i)).toNat : Int) = (q[i].toNat : Int) := this
      exact Int.ofNat_inj.1 e
    · rw [List.getElem?_eq_none (by rw [tl_len]; omega), List.getElem?_eq_none (by rw [Array.length_toList]; exact Nat.le_of_not_lt hi)]

set_option maxRecDepth 100000 in
set_option maxHeartbeats 1000000 in
theorem matchWalk (k0 : ByteArray) (a : Option Addr) (n ca : Nat) (L : Nat → UInt8) (k q : ByteArray) (w : World) (h : Bs w a n (fun i => ((L i).toNat : Int))) :
    Calls Try.prog 5 #[.string k0, .slice a n ca, .string k, .string q] w fun e w' => e = .returned (.bool true) ∧ Below w.heap.size w w' := by
  have HB := hid h
  clear h
  go_enter Try.func5, Try.ntmps5
  go_wp2_with fail
  refine (zzb11 k0 a n ca k q w).mono ?_
  rintro e w' ⟨⟨bb, rfl⟩, rfl⟩
  cases bb with
  | false =>
    go_wp2
    go_ret
    exact ⟨rfl, Below.refl _ _⟩
  | true =>
    by_cases h1 : k0.size ≤ 262144
    case neg =>
      go_wp2
      go_ret
      exact ⟨rfl, Below.refl _ _⟩
    by_cases h2 : n ≤ 262144
    case neg =>
      go_wp2
      go_ret
      exact ⟨rfl, Below.refl _ _⟩
    by_cases h3 : k.size ≤ 262144
    case neg =>
      go_wp2
      go_ret
      exact ⟨rfl, Below.refl _ _⟩
    by_cases h4 : q.size ≤ 262144
    case neg =>
      go_wp2
      go_ret
      exact ⟨rfl, Below.refl _ _⟩
    go_wp2_with fail
    refine (cloneBytes a n ca _ w' HB.out HB.out.none0 (by omega)).mono ?_
    rintro e w1 ⟨a1, rfl, hb1, hbel1⟩
    have HB1 := hid hb1
    have HBel := hid hbel1
    have hs1 := hbel1.size
    clear hb1 hbel1 HB
    go_wp2_with fail
    refine (localNameT a1 n n _ w1 HB1.out HB1.out.none0 (by omega) (Nat.le_refl _) (by simp only [maxLen]; omega)).mono ?_
    rintro e w2 ⟨a2, m, c2, rfl, ht, hb2, _, _, rfl⟩
    have HT := hid ht
    have HB2 := hid hb2
    clear ht hb2
    go_wp2_with fail
    refine (newReader k0 a1 n n a2 m c2 w2).mono ?_
    rintro e w3 ⟨rfl, hb3, hc8, hc10⟩
    have HBel3 := hid (HBel.out.trans (hb3.mono hs1))
    have HB13 := hid (HB1.out.below hb3)
    have HB23 : Hid (Bs w3 a2 m (fun i => (((tl L n m).getD i 0).toNat : Int))) := by
      obtain ⟨g, o, x1, x2⟩ := HB2.out.below hb3
      refine ⟨g, o, x1, fun i hi => ?_⟩
      have := x2 i hi
      show _ = some (Value.int .u8 (((tl L n m).getD i 0).toNat : Int))
      rw [tl_at L n m i hi]
      exact this
    have HI := hid (isT w2.heap.size k0 k q a2 m c2 (tl L n m) w3 hc8 hc10 (tl_len L n m) HB23.out)
    have hs3 := HBel3.out.size
    clear hb3 hc8 hc10 HB1 HB2 HBel HB23
    go_wp2_with fail
    refine HI.out.mono ?_
    rintro e w4 ⟨b4, rfl, hb4, rfl⟩
    have HB4 := hid hb4
    clear hb4 HI
    by_cases hk : k0.toList = k.toList
    · obtain rfl : k0 = k := Go.WideShapes.bytes_inj (by rw [← ba_list, ← ba_list]; exact hk)
      go_wp2_with fail
      refine (namedBy a1 n n _ q w4 HB13.out (by omega) (by omega)).mono ?_
      rintro e w5 ⟨b5, rfl, hb5, hbel5⟩
      have HB5 := hid hb5
      have HBel5 := hid (HBel3.out.trans (hbel5.mono hs3))
      have hbb : b4 = b5 := by
        rw [Bool.eq_iff_iff, HB4.out, HB5.out, ← tl_named HT.out, ba_list]
        exact ⟨fun h => h.2, fun h => ⟨hk, h⟩⟩
      subst hbb
      clear hb5 hbel5
      go_wp2
      go_ret
      exact ⟨rfl, HBel5.out⟩
    · have hk' : ¬ k.toList = k0.toList := fun e => hk e.symm
      have hbb : b4 = false := by
        cases b4 with
        | false => rfl
        | true => exact absurd (HB4.out.1 rfl).1 hk
      subst hbb
      go_wp2
      go_ret
      exact ⟨rfl, HBel3.out⟩

end Go.Proofs.Qxb6604498a
