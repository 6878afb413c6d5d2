import Derived.Test.Qxb6604498aRoom
namespace Go.Proofs.Qxb6604498a
open Go.RowKit

theorem zzb9 (a : Option Addr) (p ca : Nat) (b : Option Addr) (l cb : Nat) (w : World) : Calls Try.prog 9 #[.slice a p ca, .slice b l cb] w fun e w' => RetBool e ∧ w' = w := by
  by_cases h1 : p ≤ 1048576
  · by_cases h2 : l ≤ 1048576
    · by_cases h3 : p + l ≤ 1048576
      · go_enter Try.func9, Try.ntmps9
        go_wp2
        go_ret
        exact ⟨⟨_, rfl⟩, rfl⟩
      · go_enter Try.func9, Try.ntmps9
        go_wp2
        go_ret
        exact ⟨⟨_, rfl⟩, rfl⟩
    · go_enter Try.func9, Try.ntmps9
      go_wp2
      go_ret
      exact ⟨⟨_, rfl⟩, rfl⟩
  · go_enter Try.func9, Try.ntmps9
    go_wp2
    go_ret
    exact ⟨⟨_, rfl⟩, rfl⟩

theorem bytesEq (a : Option Addr) (n ca : Nat) (b : Option Addr) (cb : Nat) (z : Nat → Int) (w : World) (h1 : Bs w a n z) (h2 : Bs w b n z) (hn : n ≤ 2097152) :
    Calls Try.prog 10 #[.slice a n ca, .slice b n cb] w fun e w' => e = .returned (.bool true) ∧ Below w.heap.size w w' := by
  have H1 := hid h1
  have H2 := hid h2
  clear h1 h2
  go_enter Try.func10, Try.ntmps10
  go_wp2
  go_loopw [5] (fun i wr => ∃ (k : Nat), k ≤ n ∧ i = .int .i64 k ∧ Bs wr a n z ∧ Bs wr b n z ∧ Below w.heap.size w wr) (fun i _ => n - (intOf i).toNat)
  case atStart => exact ⟨0, Nat.zero_le _, rfl, H1.out, H2.out, Below.refl _ _⟩
  case round =>
    obtain ⟨k, hk, rfl, hr1, hr2, hrb⟩ := hrel
    have HR1 := hid hr1
    have HR2 := hid hr2
    have HRB := hid hrb
    clear hr1 hr2 hrb H1 H2
    by_cases hlt : k < n
    · obtain ⟨g1, o1, e1, c1⟩ := HR1.out
      obtain ⟨g2, o2, e2, c2⟩ := HR2.out
      obtain rfl := e1 (by omega)
      obtain rfl := e2 (by omega)
      have hc1 := c1 k hlt
      have hc2 := c2 k hlt
      clear c1 c2 e1 e2
      go_wp2
      go_region
      all_goals
        go_wp2
        go_roundw
        case rel => exact ⟨k + 1, by omega, by go_num, HR1.out.drew, HR2.out.drew, HRB.out.drew⟩
        case measure => simp [intOf]; omega
    · obtain rfl : k = n := by omega
      go_wp2
      go_ret
      exact ⟨rfl, HRB.out⟩

/-- The tail is one. -/
theorem Tail.uniq {z : Nat → Int} {n m m' : Nat} (h : Tail z n m) (h' : Tail z n m') : m = m' := by
  obtain ⟨a1, a2, a3⟩ := h
  obtain ⟨b1, b2, b3⟩ := h'
  rcases Nat.lt_trichotomy m m' with h | h | h
  · rcases a3 with e | ⟨e1, e2⟩
    · omega
    · exact absurd e2 (b2 _ (by omega) (by omega))
  · exact h
  · rcases b3 with e | ⟨e1, e2⟩
    · omega
    · exact absurd e2 (a2 _ (by omega) (by omega))

/-- prefix, colon, local. -/
def nmz (p : Nat) (zp zl : Nat → Int) : Nat → Int := catz (p + 1) (catz p zp (fun _ => 58)) zl

theorem nmz_tail (p l : Nat) (zp zl : Nat → Int) (h : ∀ i, i < l → zl i ≠ 58) : Tail (nmz p zp zl) (p + 1 + l) l := by
  refine ⟨by omega, fun i h1 h2 => ?_, .inr ⟨by omega, ?_⟩⟩
  · rw [nmz, catz, if_neg (by omega)]
    exact h _ (by omega)
  · rw [show p + 1 + l - l - 1 = p by omega, nmz, catz, if_pos (by omega), catz, if_neg (by omega)]

theorem nmz_at (p l : Nat) (zp zl : Nat → Int) (i : Nat) : nmz p zp zl (p + 1 + l - l + i) = zl i := by
  rw [show p + 1 + l - l + i = p + 1 + i by omega, nmz, catz, if_neg (by omega), show p + 1 + i - (p + 1) = i by omega]

set_option maxRecDepth 100000 in
set_option maxHeartbeats 1000000 in
theorem recoverWalk (a : Option Addr) (p ca : Nat) (zp : Nat → Int) (b : Option Addr) (l cb : Nat) (zl : Nat → Int) (w : World) (h1 : Bs w a p zp) (h2 : Bs w b l zl) :
    Calls Try.prog 4 #[.slice a p ca, .slice b l cb] w fun e w' => e = .returned (.bool true) ∧ Below w.heap.size w w' := by
  have H1 := hid h1
  have H2 := hid h2
  clear h1 h2
  go_enter Try.func4, Try.ntmps4
  go_wp2_with fail
  refine (zzb9 a p ca b l cb w).mono ?_
  rintro e w' ⟨⟨bb, rfl⟩, rfl⟩
  cases bb with
  | false =>
    go_wp2
    go_ret
    exact ⟨rfl, Below.refl _ _⟩
  | true =>
    by_cases hp : p ≤ 524288
    · by_cases hl : l ≤ 524288
      · go_wp2
        go_loopw [5] (fun i wr => ∃ (k : Nat), k ≤ l ∧ i = .int .i64 k ∧ (∀ j, j < k → zl j ≠ 58) ∧ wr = w') (fun i _ => l - (intOf i).toNat)
        case atStart => exact ⟨0, Nat.zero_le _, rfl, fun j hj => absurd hj (by omega), rfl⟩
        case round =>
          obtain ⟨k, hk, rfl, hno, rfl⟩ := hrel
          have HNO := hid hno
          clear hno
          by_cases hlt : k < l
          · obtain ⟨g2, o2, e2, c2⟩ := H2.out
            obtain rfl := e2 (by omega)
            have hc2 := c2 k hlt
            clear c2 e2
            by_cases hz : zl k = 58
            · go_wp2
              go_ret
              exact ⟨rfl, Below.refl _ _⟩
            · go_wp2
              go_roundw
              case rel =>
                refine ⟨k + 1, by omega, by go_num, fun j hj => ?_, trivial⟩
                by_cases e : j = k
                · rw [e]; exact hz
                · exact HNO.out j (by omega)
              case measure => simp [intOf]; omega
          · obtain rfl : k = l := by omega
            clear hlt hk
            go_wp2_with fail
            refine (cloneBytes a p ca zp wr H1.out H1.out.none0 (by omega)).mono ?_
            rintro e w1 ⟨a1, rfl, hb1, hbel1⟩
            have HB1 := hid hb1
            have H21 := hid (H2.out.below hbel1)
            have HBel1 := hid hbel1
            clear hb1 hbel1 H1 H2
            go_wp2_with fail
            refine (cloneBytes b k cb zl w1 H21.out H21.out.none0 (by omega)).mono ?_
            rintro e w2 ⟨b1, rfl, hb2, hbel2⟩
            have HP := hid (HB1.out.below hbel2)
            have HL := hid hb2
            have HBel := hid (HBel1.out.trans (hbel2.mono HBel1.out.size))
            clear hb2 hbel2 HB1 H21 HBel1
            have hmk : ∀ wx : World, (Instr.makeSlice 22 (.int .i64 0) (.int .i64 ((p : Int) + 1 + (k : Int)))).run Try.prog wx = .ok (.slice (some ⟨wx.heap.size, 0, none⟩) 0 (p + 1 + k)) (wx.alloc (.cells (zrow (p + 1 + k)) 5)) := by
              intro wx
              have := mk22 0 (p + 1 + k) (by omega) (by omega) wx
              rw [show ((p + 1 + k : Nat) : Int) = (p : Int) + 1 + (k : Int) by omega] at this
              exact this
            have HN3 : Hid (Nm (w2.alloc (.cells (zrow (p + 1 + k)) 5)) w2.heap.size (p + 1 + k) 0 (fun _ => 0)) :=
              ⟨_, row_new_arr w2 5 (zrow (p + 1 + k)), by rw [zrow_list]; simp, fun i hi => absurd hi (by omega)⟩
            have HB3 : Hid (Below w2.heap.size w2 (w2.alloc (.cells (zrow (p + 1 + k)) 5))) := (Below.refl _ _).alloc (Nat.le_refl _) _
            have HP3 := hid (HP.out.below HB3.out)
            go_wp2_with (at_builtin; refine wpList_room rfl _ _ rfl w2.heap.size (p + 1 + k) 0 (fun _ => 0) rfl HN3.out a1 p p zp rfl HP3.out (by omega) w2.heap.size w2 (Nat.le_refl _) HB3.out ?_)
            intro w4 hn4 hb4 hs4
            have HN4 : Hid (Nm w4 w2.heap.size (p + 1 + k) p zp) := by
              obtain ⟨xs, x1, x2, x3⟩ := hn4
              refine ⟨xs, x1, x2, fun i hi => ?_⟩
              have := x3 i (by omega)
              simpa [catz] using this
            have HB4 := hid hb4
            have hs4' : w2.heap.size < w4.heap.size := by rw [hs4]; simp
            clear hn4 hb4 HN3 HB3 HP3 hmk hs4
            have HN5 := hid (HN4.out.alloc (.cells #[.int .u8 58] 5))
            have HB5 := hid (HB4.out.alloc (by omega) (.cells #[.int .u8 58] 5))
            have HC5 : Hid (Bs (w4.alloc (.cells #[.int .u8 58] 5)) (some ⟨w4.heap.size, 0, none⟩) 1 (fun _ => 58)) := by
              refine ⟨w4.heap.size, 0, fun _ => rfl, fun i hi => ?_⟩
              obtain rfl : i = 0 := by omega
              exact (row_new w4 5 [.int .u8 58]).cell rfl
            go_wp2_with (at_builtin; refine wpList_room rfl _ _ rfl w2.heap.size (p + 1 + k) p zp rfl HN5.out (some ⟨w4.heap.size, 0, none⟩) 1 1 (fun _ => 58) rfl HC5.out (by omega) w2.heap.size w2 (Nat.le_refl _) HB5.out ?_)
            intro w6 hn6 hb6 _
            have HN6 := hid hn6
            have HB6 := hid hb6
            have HL6 := hid (HL.out.below hb6)
            clear hn6 hb6 HN5 HB5 HC5 HN4 HB4
            go_wp2_with (at_builtin; refine wpList_room rfl _ _ rfl w2.heap.size (p + 1 + k) (p + 1) (catz p zp (fun _ => 58)) rfl HN6.out b1 k k zl rfl HL6.out (by omega) w2.heap.size w2 (Nat.le_refl _) HB6.out ?_)
            intro w7 hn7 hb7 _
            have HN7 : Hid (Nm w7 w2.heap.size (p + 1 + k) (p + 1 + k) (nmz p zp zl)) := hn7
            have HB7 := hid hb7
            have HL7 := hid (HL.out.below hb7)
            clear hn7 hb7 HN6 HB6 HL6 HP HL
            have HT := hid (nmz_tail p k zp zl HNO.out)
            go_wp2_with fail
            refine (localNameT (some ⟨w2.heap.size, 0, none⟩) (p + 1 + k) (p + 1 + k) (nmz p zp zl) w7 HN7.out.bs (fun h => by cases h) (by omega) (Nat.le_refl _) (by simp only [maxLen]; omega)).mono ?_
            rintro e w8 ⟨a8, m8, c8, rfl, ht8, hb8, _, ⟨hc8, hc8'⟩, rfl⟩
            obtain rfl := ht8.uniq HT.out
            have HG : Hid (Bs w8 a8 m8 zl) := by
              obtain ⟨g, o, x1, x2⟩ := hb8
              refine ⟨g, o, x1, fun i hi => ?_⟩
              have := x2 i hi
              dsimp only at this
              rwa [nmz_at] at this
            have HBw := hid (HBel.out.trans (HB7.out.mono HBel.out.size))
            have hsz := HBw.out.size
            have HNX := hid HNO.out
            clear hb8 ht8 HN7 HB7 HBel HT HNO
            go_wp2_with fail
            refine (bytesEq a8 m8 c8 b1 m8 zl w8 HG.out HL7.out (by omega)).mono ?_
            rintro e w9 ⟨rfl, hb9⟩
            have HB9 := hid (HBw.out.trans (hb9.mono hsz))
            have HG9 := hid (HG.out.below hb9)
            have hsz9 := HB9.out.size
            clear hb9 HG HL7 HBw
            go_wp2_with fail
            refine (localNameT a8 m8 c8 zl w9 HG9.out HG9.out.none0 (by omega) hc8 hc8').mono ?_
            rintro e w10 ⟨a10, m10, c10, rfl, ht10, hb10, _, _, rfl⟩
            have HT10 : Hid (Tail zl m8 m8) := ⟨Nat.le_refl _, fun i _ h => HNX.out i h, .inl rfl⟩
            obtain rfl := ht10.uniq HT10.out
            have HG10 : Hid (Bs w10 a10 m10 zl) := by
              show Bs w10 a10 m10 zl
              simpa using hb10
            clear hb10 ht10 HT10
            go_wp2_with fail
            refine (bytesEq a10 m10 c10 a8 c8 zl w10 HG10.out HG9.out (by omega)).mono ?_
            rintro e w11 ⟨rfl, hb11⟩
            have HB11 := hid (HB9.out.trans (hb11.mono hsz9))
            clear hb11
            go_wp2
            go_ret
            exact ⟨rfl, HB11.out⟩
      · go_wp2
        go_ret
        exact ⟨rfl, Below.refl _ _⟩
    · go_wp2
      go_ret
      exact ⟨rfl, Below.refl _ _⟩

end Go.Proofs.Qxb6604498a
