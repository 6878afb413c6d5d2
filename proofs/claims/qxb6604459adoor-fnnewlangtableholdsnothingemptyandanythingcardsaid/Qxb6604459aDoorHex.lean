import Derived.Test.Qxb6604459aDoorMake
namespace Go.Proofs.Qxb6604459aDoor
open Go.RowKit

/-- The zero value of [16]byte. -/
def z66 : Array Value := Array.replicate 16 (.int .u8 0)
theorem zero66 (w : World) : (zeroValue 66).run Tryd.prog w = .ok (.agg z66) w := by
  obtain ⟨i, hi, hz⟩ := Option.map_eq_some_iff.1 (show (Tryd.prog.info? 66).map (fun i => i.zero) = some (some (.agg z66)) by kernel_rfl)
  simp [zeroValue, typeInfo, hi, hz]

theorem digs16_at : ∀ (k : Nat) (_ : k < 16) (h : k < (⟨#[48, 49, 50, 51, 52, 53, 54, 55, 56, 57, 97, 98, 99, 100, 101, 102]⟩ : ByteArray).size),
    (⟨#[48, 49, 50, 51, 52, 53, 54, 55, 56, 57, 97, 98, 99, 100, 101, 102]⟩ : ByteArray)[k] = dig k := by
  intro k hk h
  have key : ∀ k : Fin 16, (⟨#[48, 49, 50, 51, 52, 53, 54, 55, 56, 57, 97, 98, 99, 100, 101, 102]⟩ : ByteArray)[k.val]'(Nat.lt_of_lt_of_le k.isLt (by decide)) = dig k.val := by decide
  exact key ⟨k, hk⟩

theorem conv_at {w : World} {l : List UInt8} {g q n : Nat} {xs : List Value} {t : TypeId} (hr : Row w g t xs) (hd : xs.drop q = u8s l) (hl : l.length = n) (cap : Nat) : (convert 67 9 (.slice (some ⟨g, q, none⟩) n cap)).run Tryd.prog w = .ok (kstr l) w := by
  subst hl
  refine run_convert_bytes_back (P := Tryd.prog) w 67 9 5 ⟨g, q, none⟩ cap l Tryd.underlying67 Tryd.underlying5 Tryd.underlying9 fun j hj => ?_
  rw [Addr.add_lit]
  refine hr.cell ?_
  have : (xs.drop q)[j]? = (u8s l)[j]? := by rw [hd]
  rw [List.getElem?_drop] at this
  rw [this]
  simp [u8s, hj]

theorem hexZero (w : World) : Calls Tryd.prog 24 #[.int .i32 0] w fun e w' => e = .returned (kstr (hexI 0)) ∧ w' = w := by
  go_enter Tryd.func24, Tryd.ntmps24
  go_wp2
  go_ret
  exact ⟨rfl, rfl⟩

set_option maxRecDepth 100000 in
set_option maxHeartbeats 1000000 in
theorem hexPos (N : Nat) (h0 : 0 < N) (hN : N ≤ 2147483647) (w : World) : Calls Tryd.prog 24 #[.int .i32 (N : Int)] w fun e w' => e = .returned (kstr (hexN N)) ∧ Below w.heap.size w w' := by
  have hz := zero66
  have hw0 : IntKind.i64.wrap (N : Int) = (N : Int) := by rw [IntKind.wrap_i64]; omega
  have hw1 : IntKind.i64.wrap (N : Int) = (N : Int) := by rw [IntKind.wrap_i64]; omega
  have hne : ¬ ((N : Int) = 0) := by omega
  go_enter Tryd.func24, Tryd.ntmps24
  go_wp2
  have hq : ((N : Int) == 0) = false := by simp; omega
  simp only [hq]
  have hr0 : Row (w.alloc (.cells z66 66)) w.heap.size 66 z66.toList := row_new_at w 66 z66.toList _ rfl
  have HR0 := hid hr0
  have HN0 := hid h0
  have HN1 := hid hN
  clear hr0 hz hw0 hw1 hq
  go_loopw [3, 6] (fun nn i wr => ∃ (n f p : Nat) (L : List UInt8) (xs : List Value), nn = .int .i64 n ∧ i = .int .i64 p ∧ p + L.length = 16 ∧ f + L.length = 8 ∧ n < 16 ^ f ∧ n ≤ 2147483648 ∧ ((0 < n ∧ hexAcc (f + 8) n L = hexN N) ∨ (n = 0 ∧ L = hexN N)) ∧ Row wr w.heap.size 66 xs ∧ xs.length = 16 ∧ xs.drop p = u8s L ∧ Below w.heap.size w wr) (fun nn _ _ => (intOf nn).toNat)
  case atStart => exact ⟨N, 8, 16, [], _, rfl, rfl, rfl, rfl, Nat.lt_of_le_of_lt HN1.out (by decide), Nat.le_trans HN1.out (by decide), .inl ⟨HN0.out, rfl⟩, HR0.out, rfl, rfl, (Below.refl _ _).alloc (Nat.le_refl _) _⟩
  case round =>
    obtain ⟨n, f, p, L, xs, rfl, rfl, hp, hf, hn, hn2, hex, hrow, hxl, hdr, hbel⟩ := hrel
    have HP := hid hp
    have HF := hid hf
    have HN := hid hn
    have HX := hid hex
    have HD := hid hdr
    have HB := hid hbel
    have HR := hid hrow
    have HL := hid hxl
    clear hp hf hn hex hdr hbel hrow hxl HR0
    by_cases hpos : 0 < n
    · have hfp : 0 < f := by
        rcases Nat.eq_zero_or_pos f with e | e
        · have := HN.out; rw [e] at this; simp at this; omega
        · exact e
      have hp8 : 9 ≤ p ∧ p ≤ 16 := by have := HP.out; have := HF.out; omega
      obtain ⟨hp9, hp16⟩ := hp8
      obtain ⟨q, rfl⟩ : ∃ q, p = q + 1 := ⟨p - 1, by omega⟩
      obtain ⟨f, rfl⟩ : ∃ f', f = f' + 1 := ⟨f - 1, by omega⟩
      rw [Int.natCast_add]
      obtain ⟨vq, hvq⟩ : ∃ v, xs[q]? = some v := ⟨_, List.getElem?_eq_getElem (by rw [HL.out]; omega)⟩
      have hcur := HR.out.cell hvq
      have hfz := HR.out.frozen q
      clear hvq
      have hm16 : n % 16 < 16 := Nat.mod_lt _ (by omega)
      go_wp2
      go_roundw
      case rel =>
        have e9 : f + 1 + 8 = (f + 8) + 1 := by omega
        refine ⟨n / 16, f, q, dig (n % 16) :: L, xs.set q (.int .u8 ((dig (n % 16)).toNat : Int)), by go_num, rfl, ?_, ?_, ?_, by omega, ?_, ?_, ?_, ?_, HB.out.setCell (Nat.le_refl _) _⟩
        · have := HP.out; simp; omega
        · have := HF.out; simp; omega
        · have := HN.out
          rw [Nat.pow_succ] at this
          exact Nat.div_lt_of_lt_mul (by rw [Nat.mul_comm]; exact this)
        · rcases HX.out with ⟨_, hx⟩ | ⟨hx, _⟩
          · rw [e9] at hx
            by_cases h16 : 16 ≤ n
            · exact .inl ⟨by omega, by rw [← hexAcc_step h16]; exact hx⟩
            · refine .inr ⟨by omega, ?_⟩
              rw [hexAcc_last (by omega)] at hx
              rw [← hx, Nat.mod_eq_of_lt (by omega)]
          · omega
        · rw [digs16_at (n % 16) hm16]; exact HR.out.set q _
        · rw [List.length_set]; exact HL.out
        · rw [drop_set _ _ _ (by rw [HL.out]; omega), HD.out]; rfl
      case measure => simp [intOf]; omega
    · have hn0 : n = 0 := by omega
      subst hn0
      have hL : L = hexN N := by
        rcases HX.out with ⟨hx, _⟩ | ⟨_, hx⟩
        · omega
        · exact hx
      subst hL
      have hlp := hexN_pos N
      have hp16 : p < 16 ∧ 8 ≤ p := by have := HP.out; have := HF.out; omega
      obtain ⟨hp1, hp2⟩ := hp16
      have hsl := fun wx : World => sliceArr (g := w.heap.size) (q := p) Tryd.underlying66 (by kernel_rfl) hp1 wx
      have hcv := conv_at (n := 16 - p) HR.out HD.out (by have := HP.out; omega) (16 - p)
      go_wp2
      go_ret
      exact ⟨rfl, HB.out⟩

set_option maxRecDepth 100000 in
set_option maxHeartbeats 1000000 in
theorem hexNeg (N : Nat) (h0 : 0 < N) (hN : N ≤ 2147483648) (w : World) : Calls Tryd.prog 24 #[.int .i32 (-(N : Int))] w fun e w' => e = .returned (kstr (45 :: hexN N)) ∧ Below w.heap.size w w' := by
  have hz := zero66
  have hw0 : IntKind.i64.wrap (-(N : Int)) = (-(N : Int)) := by rw [IntKind.wrap_i64]; omega
  have hw1 : IntKind.i64.wrap (N : Int) = (N : Int) := by rw [IntKind.wrap_i64]; omega
  have hlt : -(N : Int) < 0 := by omega
  have hnn : IntKind.i64.wrap (-(-(N : Int))) = (N : Int) := by rw [IntKind.wrap_i64]; omega
  have hne : ¬ ((N : Int) = 0) := by omega
  go_enter Tryd.func24, Tryd.ntmps24
  go_wp2
  have hq : ((N : Int) == 0) = false := by simp; omega
  simp only [hq]
  have hr0 : Row (w.alloc (.cells z66 66)) w.heap.size 66 z66.toList := row_new_at w 66 z66.toList _ rfl
  have HR0 := hid hr0
  have HN0 := hid h0
  have HN1 := hid hN
  clear hr0 hz hw0 hw1 hq
  go_loopw [3, 6] (fun nn i wr => ∃ (n f p : Nat) (L : List UInt8) (xs : List Value), nn = .int .i64 n ∧ i = .int .i64 p ∧ p + L.length = 16 ∧ f + L.length = 8 ∧ n < 16 ^ f ∧ n ≤ 2147483648 ∧ ((0 < n ∧ hexAcc (f + 8) n L = hexN N) ∨ (n = 0 ∧ L = hexN N)) ∧ Row wr w.heap.size 66 xs ∧ xs.length = 16 ∧ xs.drop p = u8s L ∧ Below w.heap.size w wr) (fun nn _ _ => (intOf nn).toNat)
  case atStart => exact ⟨N, 8, 16, [], _, rfl, rfl, rfl, rfl, Nat.lt_of_le_of_lt HN1.out (by decide), Nat.le_trans HN1.out (by decide), .inl ⟨HN0.out, rfl⟩, HR0.out, rfl, rfl, (Below.refl _ _).alloc (Nat.le_refl _) _⟩
  case round =>
    obtain ⟨n, f, p, L, xs, rfl, rfl, hp, hf, hn, hn2, hex, hrow, hxl, hdr, hbel⟩ := hrel
    have HP := hid hp
    have HF := hid hf
    have HN := hid hn
    have HX := hid hex
    have HD := hid hdr
    have HB := hid hbel
    have HR := hid hrow
    have HL := hid hxl
    clear hp hf hn hex hdr hbel hrow hxl HR0
    by_cases hpos : 0 < n
    · have hfp : 0 < f := by
        rcases Nat.eq_zero_or_pos f with e | e
        · have := HN.out; rw [e] at this; simp at this; omega
        · exact e
      have hp8 : 9 ≤ p ∧ p ≤ 16 := by have := HP.out; have := HF.out; omega
      obtain ⟨hp9, hp16⟩ := hp8
      obtain ⟨q, rfl⟩ : ∃ q, p = q + 1 := ⟨p - 1, by omega⟩
      obtain ⟨f, rfl⟩ : ∃ f', f = f' + 1 := ⟨f - 1, by omega⟩
      rw [Int.natCast_add]
      obtain ⟨vq, hvq⟩ : ∃ v, xs[q]? = some v := ⟨_, List.getElem?_eq_getElem (by rw [HL.out]; omega)⟩
      have hcur := HR.out.cell hvq
      have hfz := HR.out.frozen q
      clear hvq
      have hm16 : n % 16 < 16 := Nat.mod_lt _ (by omega)
      go_wp2
      go_roundw
      case rel =>
        have e9 : f + 1 + 8 = (f + 8) + 1 := by omega
        refine ⟨n / 16, f, q, dig (n % 16) :: L, xs.set q (.int .u8 ((dig (n % 16)).toNat : Int)), by go_num, rfl, ?_, ?_, ?_, by omega, ?_, ?_, ?_, ?_, HB.out.setCell (Nat.le_refl _) _⟩
        · have := HP.out; simp; omega
        · have := HF.out; simp; omega
        · have := HN.out
          rw [Nat.pow_succ] at this
          exact Nat.div_lt_of_lt_mul (by rw [Nat.mul_comm]; exact this)
        · rcases HX.out with ⟨_, hx⟩ | ⟨hx, _⟩
          · rw [e9] at hx
            by_cases h16 : 16 ≤ n
            · exact .inl ⟨by omega, by rw [← hexAcc_step h16]; exact hx⟩
            · refine .inr ⟨by omega, ?_⟩
              rw [hexAcc_last (by omega)] at hx
              rw [← hx, Nat.mod_eq_of_lt (by omega)]
          · omega
        · rw [digs16_at (n % 16) hm16]; exact HR.out.set q _
        · rw [List.length_set]; exact HL.out
        · rw [drop_set _ _ _ (by rw [HL.out]; omega), HD.out]; rfl
      case measure => simp [intOf]; omega
    · have hn0 : n = 0 := by omega
      subst hn0
      have hL : L = hexN N := by
        rcases HX.out with ⟨hx, _⟩ | ⟨_, hx⟩
        · omega
        · exact hx
      subst hL
      have hlp := hexN_pos N
      have hp16 : p < 16 ∧ 8 ≤ p := by have := HP.out; have := HF.out; omega
      obtain ⟨hp1, hp2⟩ := hp16
      obtain ⟨q, rfl⟩ : ∃ q, p = q + 1 := ⟨p - 1, by omega⟩
      rw [Int.natCast_add]
      obtain ⟨vq, hvq⟩ : ∃ v, xs[q]? = some v := ⟨_, List.getElem?_eq_getElem (by rw [HL.out]; omega)⟩
      have hcur := HR.out.cell hvq
      have hfz := HR.out.frozen q
      clear hvq
      have hsl := fun wx : World => sliceArr (g := w.heap.size) (q := q) Tryd.underlying66 (by kernel_rfl) (by omega) wx
      have hdd : (xs.set q (.int .u8 45)).drop q = u8s (45 :: hexN N) := by rw [drop_set _ _ _ (by rw [HL.out]; omega), HD.out]; rfl
      have hcv := conv_at (n := 16 - q) (HR.out.set q (.int .u8 45)) hdd (by have := HP.out; rw [List.length_cons]; omega) (16 - q)
      clear hdd
      go_wp2
      go_ret
      exact ⟨rfl, HB.out.setCell (Nat.le_refl _) _⟩

theorem hexStr (v : Int) (h1 : -2147483648 ≤ v) (h2 : v ≤ 2147483647) (w : World) : Calls Tryd.prog 24 #[.int .i32 v] w fun e w' => e = .returned (kstr (hexI v)) ∧ Below w.heap.size w w' := by
  by_cases h0 : v = 0
  · subst h0
    refine (hexZero w).mono ?_
    rintro e w' ⟨rfl, rfl⟩
    exact ⟨rfl, Below.refl _ _⟩
  by_cases hn : v < 0
  · obtain ⟨N, rfl⟩ : ∃ N : Nat, v = -(N : Int) := ⟨(-v).toNat, by omega⟩
    have e : hexI (-(N : Int)) = 45 :: hexN N := by
      unfold hexI
      rw [if_pos hn]
      congr 2
      omega
    rw [e]
    exact hexNeg N (by omega) (by omega) w
  · obtain ⟨N, rfl⟩ : ∃ N : Nat, v = (N : Int) := ⟨v.toNat, by omega⟩
    have e : hexI (N : Int) = hexN N := by
      unfold hexI
      rw [if_neg hn]
      congr 1
    rw [e]
    exact hexPos N (by omega) (by omega) w

end Go.Proofs.Qxb6604459aDoor
