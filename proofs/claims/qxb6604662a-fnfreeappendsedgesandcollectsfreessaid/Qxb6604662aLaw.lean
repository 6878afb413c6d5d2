import Derived.Test.Qxb6604662aFree
namespace Go.Proofs.Qxb6604662a
open Go.RowKit

/-- The cells of the first k refs. -/
def flat (u : Nat → Rf) : Nat → List Value
  | 0 => []
  | k + 1 => flat u k ++ [.string (u k).1, .string (u k).2]

theorem flat_len (u : Nat → Rf) : ∀ k, (flat u k).length = k * 2
  | 0 => rfl
  | k + 1 => by rw [flat, List.length_append, flat_len u k]; simp; omega

theorem flat_at (u : Nat → Rf) : ∀ k j, j < k → (flat u k)[j * 2]? = some (.string (u j).1) ∧ (flat u k)[j * 2 + 1]? = some (.string (u j).2)
  | 0, j, h => absurd h (by omega)
  | k + 1, j, h => by
    have hl := flat_len u k
    rw [flat]
    by_cases e : j = k
    · subst e
      rw [List.getElem?_append_right (by omega), List.getElem?_append_right (by omega), hl, show j * 2 - j * 2 = 0 by omega, show j * 2 + 1 - j * 2 = 1 by omega]
      exact ⟨rfl, rfl⟩
    · obtain ⟨a, b⟩ := flat_at u k j (by omega)
      rw [List.getElem?_append_left (by omega), List.getElem?_append_left (by omega)]
      exact ⟨a, b⟩

/-- The map's laws, nil or not. -/
theorem Rec.look {B : Nat} {w : World} {x gl : Nat} {mv V : Value} {M : List Rf} {n : Nat} {es : List Value} (h : Rec B w x gl mv V M n es) (y : Rf) :
    (Instr.lookup 35 mv (.agg #[.string y.1, .string y.2]) false).run Try.prog w = .ok (.bool (hasF M y)) w := by
  rcases h.map with ⟨rfl, rfl⟩ | ⟨m, rfl, hm, _⟩
  · have e1 := run_findKey y w []
    have e3 := fun b => run_checkKey y w b
    have hz : (Try.prog.info? 4).map (·.zero) = some (some (.bool false)) := by kernel_rfl
    obtain ⟨i, hi, hi2⟩ := Option.map_eq_some_iff.1 hz
    unfold rv at e1 e3
    simp only [fents] at e1
    simp [Instr.lookup, run_underlying Try.underlying35, Result.andThen, e1, e3, ffind, hasF, zeroValue, typeInfo, hi, hi2]
  · have := run_look (w := w) y hm
    unfold rv at this
    exact this

theorem Rec.len {B : Nat} {w : World} {x gl : Nat} {mv V : Value} {M : List Rf} {n : Nat} {es : List Value} (h : Rec B w x gl mv V M n es) :
    (Builtin.len_ #[35] 3 #[mv]).run Try.prog w = .ok (.int .i64 M.length) w := by
  rcases h.map with ⟨rfl, rfl⟩ | ⟨m, rfl, hm, _⟩
  · simp [Builtin.len_, run_underlying Try.underlying35, Result.andThen, goInt]
  · simp [Builtin.len_, run_underlying Try.underlying35, MapKept.run_getObj_map hm, Result.andThen, fents_length M 0, goInt]

set_option maxRecDepth 100000 in
set_option maxHeartbeats 4000000 in
theorem law (a : Option Addr) (n ca : Nat) (t : Nat → Rf) (b : Option Addr) (m cb : Nat) (u : Nat → Rf) (w : World) (h1 : Rs w a n t) (h2 : Rs w b m u) :
    Calls Try.prog 3 #[.slice a n ca, .slice b m cb] w fun e w' => e = .returned (.bool true) ∧ Below w.heap.size w w' := by
  have H1 := hid h1
  have H2 := hid h2
  clear h1 h2
  go_enter Try.func3, Try.ntmps3
  go_wp2_with fail
  refine (zzb4 a n ca t b m cb u w H1.out H2.out).mono ?_
  rintro e w' ⟨⟨bb, rfl⟩, rfl⟩
  cases bb with
  | false =>
    go_wp2
    go_ret
    exact ⟨rfl, Below.refl _ _⟩
  | true =>
    by_cases hn : n ≤ 4096
    case neg =>
      go_wp2
      go_ret
      exact ⟨rfl, Below.refl _ _⟩
    by_cases hm : m ≤ 4096
    case neg =>
      go_wp2
      go_ret
      exact ⟨rfl, Below.refl _ _⟩
    go_wp2_with fail
    refine (refsBytes a n ca t 0 w' H1.out (by omega) (by omega) (by omega)).mono ?_
    rintro e w0 ⟨⟨r1, hr1, hr1', rfl⟩, rfl⟩
    go_wp2_with fail
    refine (refsBytes b m cb u r1 w0 H2.out (by omega) hr1 hr1').mono ?_
    rintro e w1 ⟨⟨r2, hr2, hr2', rfl⟩, rfl⟩
    by_cases hneg : r2 < 0
    case pos =>
      go_wp2
      go_ret
      exact ⟨rfl, Below.refl _ _⟩
    go_wp2_with fail
    refine (cloneRefs a n ca t w1 H1.out (by omega)).mono ?_
    rintro e w2 ⟨a1, rfl, hra, hb2⟩
    have HA := hid hra
    have H22 := hid (H2.out.below hb2)
    have HB2 := hid hb2
    clear hra hb2 H1 H2
    go_wp2_with fail
    refine (cloneRefs b m cb u w2 H22.out (by omega)).mono ?_
    rintro e w3 ⟨b1, rfl, hrb, hb3⟩
    have HA3 := hid (HA.out.below hb3)
    have HC3 := hid hrb
    have HB3 := hid (HB2.out.trans (hb3.mono HB2.out.size))
    clear hrb hb3 HA HB2 H22
    have hmk := fun w => mk_of Try.underlying26 info28 n (by omega) w
    have hb4 : Below w3.heap.size w3 (w3.alloc (.cells (zrow n) 28)) := (Below.refl _ _).alloc (Nat.le_refl _) _
    have hr4 := row_new_arr w3 28 (zrow n)
    have hzl := zrow_len n
    have HB4 := hid hb4
    have HR4 := hid hr4
    have HZL := hid hzl
    clear hb4 hr4 hzl
    go_wp2
    clear hmk
    go_loopw [6] (fun i wr => ∃ (k : Nat) (xs : List Value), k ≤ n ∧ i = .int .i64 k ∧ Row wr w3.heap.size 28 xs ∧ xs.length = n * 2 ∧ Fst xs k t ∧ Below w3.heap.size w3 wr) (fun i _ => n - (intOf i).toNat)
    case atStart => exact ⟨0, _, Nat.zero_le _, rfl, HR4.out, HZL.out, fun j hj => absurd hj (by omega), HB4.out⟩
    case round =>
      obtain ⟨k, xs, hk, rfl, hrow, hlen, hxs, hbel⟩ := hrel
      have HR := hid hrow
      have HL := hid hlen
      have HX := hid hxs
      have HB := hid hbel
      clear hrow hlen hxs hbel HR4 HZL HB4
      by_cases hlt : k < n
      · obtain ⟨g, o, e1, c1⟩ := HA3.out.below HB.out
        obtain rfl := e1 (by omega)
        obtain ⟨x1, x2⟩ := c1 k hlt
        clear c1 e1
        go_wp2_with fail
        refine (toRef (t k) wr).mono ?_
        rintro e w5 ⟨rfl, hb5⟩
        have HR5 := hid (HR.out.below hb5 HR.out.lt)
        have HB5 := hid (HB.out.trans (hb5.mono HB.out.size))
        clear hb5 x1 x2 HR HB
        obtain ⟨v1, hv1⟩ : ∃ v, xs[k * 2]? = some v := ⟨_, List.getElem?_eq_getElem (by rw [HL.out]; omega)⟩
        obtain ⟨v2, hv2⟩ : ∃ v, xs[k * 2 + 1]? = some v := ⟨_, List.getElem?_eq_getElem (by rw [HL.out]; omega)⟩
        have hcur1 := HR5.out.cell hv1
        have hcur2 := HR5.out.cell hv2
        have hfz1 := HR5.out.frozen (k * 2)
        have hfz2 := HR5.out.frozen (k * 2 + 1)
        clear hv1 hv2
        go_wp2
        go_roundw
        case rel =>
          refine ⟨k + 1, _, by omega, by go_num, (HR5.out.set (k * 2) _).set (k * 2 + 1) _, ?_, HX.out.step HL.out hlt, (HB5.out.setCell (Nat.le_refl _) _).setCell (Nat.le_refl _) _⟩
          rw [List.length_set, List.length_set]; exact HL.out
        case measure => simp [intOf]; omega
      · obtain rfl : n = k := by omega
        generalize wr = w4 at *
        have hw34 : w3.heap.size < w4.heap.size := HR.out.lt
        clear hlt
        go_wp2_with fail
        refine (newRec (some ⟨w3.heap.size, 0, none⟩) n n w4).mono ?_
        rintro e w5 ⟨rfl, hb5, hrow5⟩
        have HREC : Hid (Rec w3.heap.size w5 w4.heap.size w3.heap.size (.map none) (.slice (some ⟨w3.heap.size, 0, none⟩) n n) [] n xs) :=
          ⟨hrow5, .inl ⟨rfl, rfl⟩, own_row (HR.out.below hb5 hw34) HL.out (by simp only [maxLen]; omega), by omega, Nat.lt_of_lt_of_le hw34 hb5.size, by omega, Nat.le_refl _⟩
        have HB5 := hid (HB.out.trans (hb5.mono (by omega)))
        have HXS := hid HX.out
        have HXL := hid HL.out
        clear hb5 hrow5 HR HB HX HL
        generalize w4.heap.size = x at *
        go_wp2
        go_loopw [8] (fun i wr => ∃ (k gl : Nat) (mv V : Value), k ≤ m ∧ i = .int .i64 k ∧ Rec w3.heap.size wr x gl mv V (uniq u k) (n + k) (xs ++ flat u k) ∧ V ≠ .slice none 0 0 ∧ Below w3.heap.size w3 wr) (fun i _ => m - (intOf i).toNat)
        case atStart => exact ⟨0, w3.heap.size, .map none, _, Nat.zero_le _, rfl, by simpa [uniq, flat] using HREC.out, (fun h => by cases h), HB5.out⟩
        case round =>
          obtain ⟨k, gl, mv, V, hk, rfl, hrec, hnil, hbel⟩ := hrel
          have HRec := hid hrec
          have HNil := hid hnil
          have HB := hid hbel
          clear hrec hnil hbel HREC HB5
          by_cases hlt : k < m
          · obtain ⟨g, o, e1, c1⟩ := HC3.out.below HB.out
            obtain rfl := e1 (by omega)
            obtain ⟨x1, x2⟩ := c1 k hlt
            clear c1 e1
            go_wp2_with fail
            refine (toRef (u k) wr).mono ?_
            rintro e w6 ⟨rfl, hb6⟩
            have HRec6 := hid (HRec.out.kept hb6)
            have HB6 := hid (HB.out.trans (hb6.mono HB.out.size))
            have hs6 := HB6.out.size
            clear hb6 x1 x2 HRec HB
            go_wp2_with fail
            refine (freeT w3.heap.size w6 x gl mv V (uniq u k) (n + k) (xs ++ flat u k) (u k) HRec6.out (by omega) HNil.out hs6).mono ?_
            rintro e w7 ⟨⟨vv, rfl⟩, hb7, gl7, mv7, V7, hrec7⟩
            have HB7 := hid (HB6.out.trans hb7)
            have HNil7 : Hid (V7 ≠ .slice none 0 0) := by
              obtain ⟨c7, e7, _⟩ := hrec7.own.form (by omega)
              rw [e7]
              exact fun h => by cases h
            have HRec7 : Hid (Rec w3.heap.size w7 x gl7 mv7 V7 (uniq u (k + 1)) (n + (k + 1)) (xs ++ flat u (k + 1))) := by
              show Rec w3.heap.size w7 x gl7 mv7 V7 (uniq u (k + 1)) (n + (k + 1)) (xs ++ flat u (k + 1))
              rw [flat, ← List.append_assoc]
              exact hrec7
            clear hb7 hrec7 HRec6 HB6 HNil
            go_wp2
            go_roundw
            case rel => exact ⟨k + 1, gl7, mv7, V7, by omega, by go_num, HRec7.out, HNil7.out, HB7.out⟩
            case measure => simp [intOf]; omega
          · obtain rfl : m = k := by omega
            generalize wr = w6 at *
            clear hlt
            obtain ⟨cV, hV⟩ : ∃ c, V = .slice (some ⟨gl, 0, none⟩) (n + m) c := by
              rcases HRec.out.own.2 with ⟨e1, _⟩ | ⟨c, e1, _⟩
              · exact absurd e1 HNil.out
              · exact ⟨c, e1⟩
            subst hV
            have hmv : ∃ r, mv = .map r := by
              rcases HRec.out.map with ⟨e, _⟩ | ⟨r, e, _⟩
              · exact ⟨_, e⟩
              · exact ⟨_, e⟩
            obtain ⟨r, rfl⟩ := hmv
            clear HNil
            go_wp2_with fail
            refine (edges x (some ⟨gl, 0, none⟩) (n + m) cV w6 (HRec.out.row.cell rfl)).mono ?_
            rintro e w7 ⟨rfl, rfl⟩
            have hnm : ((n + m : Nat) : Int) = (n : Int) + (m : Int) := by omega
            go_wp2
            go_loopw [10] (fun i wr => ∃ (k : Nat), k ≤ n ∧ i = .int .i64 k ∧ Rec w3.heap.size wr x gl (.map r) (.slice (some ⟨gl, 0, none⟩) (n + m) cV) (uniq u m) (n + m) (xs ++ flat u m) ∧ Below w3.heap.size w3 wr) (fun i _ => n - (intOf i).toNat)
            case atStart => exact ⟨0, Nat.zero_le _, rfl, HRec.out, HB.out⟩
            case round =>
              obtain ⟨k, hk, rfl, hrec3, hbel3⟩ := hrel
              have HRec3 := hid hrec3
              have HB3' := hid hbel3
              clear hrec3 hbel3 HRec HB
              by_cases hlt : k < n
              · obtain ⟨g, o, e1, c1⟩ := HA3.out.below HB3'.out
                obtain rfl := e1 (by omega)
                obtain ⟨x1, x2⟩ := c1 k hlt
                clear c1 e1
                have y1 := HRec3.out.own.cell (j := k * 2) (u := .string (t k).1) (by rw [List.getElem?_append_left (by rw [HXL.out]; omega)]; exact (HXS.out k hlt).1)
                have y2 := HRec3.out.own.cell (j := k * 2 + 1) (u := .string (t k).2) (by rw [List.getElem?_append_left (by rw [HXL.out]; omega)]; exact (HXS.out k hlt).2)
                have hq : ∀ wx : World, (binOp .neq 28 (.agg #[.string (t k).1, .string (t k).2]) (.agg #[.string (t k).1, .string (t k).2])).run Try.prog wx = .ok (.bool false) wx := fun wx => by
                  rw [bin_ne]; simp
                have Y1 := hid y1
                have Y2 := hid y2
                have hknm : (k : Int) < (n : Int) + (m : Int) := by omega
                go_wp2
                go_region_law (first
                  | (go_simp
                     go_at_call 7
                     refine (toRef (t k) wr.drew).mono ?_
                     rintro e w8 ⟨rfl, hb8⟩
                     have HB8 : Hid (Below wr.heap.size wr w8) := (Below.refl _ _).drew.trans hb8
                     have y1' := cell_later HB8.out Y1.out
                     have y2' := cell_later HB8.out Y2.out
                     clear hb8))
                all_goals
                  go_wp2
                  go_roundw
                  case rel => exact ⟨k + 1, by omega, by go_num, HRec3.out.kept HB8.out, HB3'.out.trans (HB8.out.mono HB3'.out.size)⟩
                  case measure => simp [intOf]; omega
              · obtain rfl : n = k := by omega
                generalize wr = w8 at *
                clear hlt
                go_wp2
                go_loopw [11] (fun i wr => ∃ (k : Nat), k ≤ m ∧ i = .int .i64 k ∧ Rec w3.heap.size wr x gl (.map r) (.slice (some ⟨gl, 0, none⟩) (n + m) cV) (uniq u m) (n + m) (xs ++ flat u m) ∧ Below w3.heap.size w3 wr) (fun i _ => m - (intOf i).toNat)
                case atStart => exact ⟨0, Nat.zero_le _, rfl, HRec3.out, HB3'.out⟩
                case round =>
                  obtain ⟨k, hk, rfl, hrec4, hbel4⟩ := hrel
                  have HRec4 := hid hrec4
                  have HB4' := hid hbel4
                  clear hrec4 hbel4 HRec3 HB3'
                  by_cases hlt : k < m
                  · obtain ⟨g, o, e1, c1⟩ := HC3.out.below HB4'.out
                    obtain rfl := e1 (by omega)
                    obtain ⟨x1, x2⟩ := c1 k hlt
                    clear c1 e1
                    have y1 := HRec4.out.own.cell (j := (n + k) * 2) (u := .string (u k).1) (by rw [List.getElem?_append_right (by rw [HXL.out]; omega), HXL.out, show (n + k) * 2 - n * 2 = k * 2 by omega]; exact (flat_at u m k hlt).1)
                    have y2 := HRec4.out.own.cell (j := (n + k) * 2 + 1) (u := .string (u k).2) (by rw [List.getElem?_append_right (by rw [HXL.out]; omega), HXL.out, show (n + k) * 2 + 1 - n * 2 = k * 2 + 1 by omega]; exact (flat_at u m k hlt).2)
                    have hq : ∀ wx : World, (binOp .neq 28 (.agg #[.string (u k).1, .string (u k).2]) (.agg #[.string (u k).1, .string (u k).2])).run Try.prog wx = .ok (.bool false) wx := fun wx => by
                      rw [bin_ne]; simp
                    have Y1 := hid y1
                    have Y2 := hid y2
                    have hknm : (n : Int) + (k : Int) < (n : Int) + (m : Int) := by omega
                    have htn : ((n : Int) + (k : Int)).toNat = n + k := by omega
                    have hwr : IntKind.i64.wrap ((n : Int) + (k : Int)) = (n : Int) + (k : Int) := by rw [IntKind.wrap_i64]; omega
                    have hnk0 : 0 ≤ (n : Int) + (k : Int) := by omega
                    have hklm : (k : Int) < (m : Int) := by omega
                    go_wp2
                    go_region_law (first
                      | (go_simp
                         go_at_call 7
                         refine (toRef (u k) wr.drew).mono ?_
                         rintro e w9 ⟨rfl, hb9⟩
                         have HB9 : Hid (Below wr.heap.size wr w9) := (Below.refl _ _).drew.trans hb9
                         have y1' := cell_later HB9.out Y1.out
                         have y2' := cell_later HB9.out Y2.out
                         clear hb9))
                    all_goals
                      go_wp2
                      go_roundw
                      case rel => exact ⟨k + 1, by omega, by go_num, HRec4.out.kept HB9.out, HB4'.out.trans (HB9.out.mono HB4'.out.size)⟩
                      case measure => simp [intOf]; omega
                  · obtain rfl : m = k := by omega
                    generalize wr = w9 at *
                    clear hlt
                    have hl9 := HRec4.out.len
                    go_wp2_with fail
                    refine (freesW x r w9 (HRec4.out.row.cell rfl)).mono ?_
                    rintro e w9 ⟨rfl, rfl⟩
                    go_wp2_with fail
                    refine (distinctRefs b1 m m u w9 (HC3.out.below HB4'.out) (by omega)).mono ?_
                    rintro e w10 ⟨rfl, hb10⟩
                    have HRec5 := hid (HRec4.out.kept hb10)
                    have HB5' := hid (HB4'.out.trans (hb10.mono HB4'.out.size))
                    clear hb10 HRec4 HB4' hl9
                    go_wp2
                    go_loopw [13] (fun i wr => ∃ (k : Nat), k ≤ m ∧ i = .int .i64 k ∧ Rec w3.heap.size wr x gl (.map r) (.slice (some ⟨gl, 0, none⟩) (n + m) cV) (uniq u m) (n + m) (xs ++ flat u m) ∧ Below w3.heap.size w3 wr) (fun i _ => m - (intOf i).toNat)
                    case atStart => exact ⟨0, Nat.zero_le _, rfl, HRec5.out, HB5'.out⟩
                    case round =>
                      obtain ⟨k, hk, rfl, hrec6, hbel6⟩ := hrel
                      have HRec6 := hid hrec6
                      have HB6' := hid hbel6
                      clear hrec6 hbel6 HRec5 HB5'
                      by_cases hlt : k < m
                      · obtain ⟨g, o, e1, c1⟩ := HC3.out.below HB6'.out
                        obtain rfl := e1 (by omega)
                        obtain ⟨x1, x2⟩ := c1 k hlt
                        clear c1 e1
                        go_wp2_with fail
                        refine (toRef (u k) wr).mono ?_
                        rintro e w11 ⟨rfl, hb11⟩
                        have hlk := (HRec6.out.kept hb11).look (u k)
                        rw [(hasF_iff (uniq u m) (u k)).2 ((mem_uniq u (u k) m).2 ⟨k, hlt, rfl⟩)] at hlk
                        have HRec7 := hid (HRec6.out.kept hb11)
                        have HB7 := hid (HB6'.out.trans (hb11.mono HB6'.out.size))
                        clear hb11 x1 x2 HRec6 HB6'
                        go_wp2
                        go_roundw
                        case rel => exact ⟨k + 1, by omega, by go_num, HRec7.out, HB7.out⟩
                        case measure => simp [intOf]; omega
                      · obtain rfl : m = k := by omega
                        generalize wr = w11 at *
                        clear hlt
                        go_wp2
                        go_loopw [14] (fun i wr => ∃ (k : Nat), k ≤ n ∧ i = .int .i64 k ∧ Rec w3.heap.size wr x gl (.map r) (.slice (some ⟨gl, 0, none⟩) (n + m) cV) (uniq u m) (n + m) (xs ++ flat u m) ∧ Below w3.heap.size w3 wr) (fun i _ => n - (intOf i).toNat)
                        case atStart => exact ⟨0, Nat.zero_le _, rfl, HRec6.out, HB6'.out⟩
                        case round =>
                          obtain ⟨k, hk, rfl, hrec8, hbel8⟩ := hrel
                          have HRec8 := hid hrec8
                          have HB8 := hid hbel8
                          clear hrec8 hbel8 HRec6 HB6'
                          by_cases hlt : k < n
                          · have HCR := hid (containsRef b1 m m u m (t k) wr (HC3.out.below HB8.out) (Nat.le_refl _) (by omega))
                            obtain ⟨g, o, e1, c1⟩ := HA3.out.below HB8.out
                            obtain rfl := e1 (by omega)
                            obtain ⟨x1, x2⟩ := c1 k hlt
                            clear c1 e1
                            go_wp2_with fail
                            refine HCR.out.mono ?_
                            rintro e w12 ⟨bb, rfl, hbb, hb12⟩
                            have HBB := hid hbb
                            have HRec9 := hid (HRec8.out.kept hb12)
                            have HB9 := hid (HB8.out.trans (hb12.mono HB8.out.size))
                            have z1 := cell_later hb12 x1
                            have z2 := cell_later hb12 x2
                            clear hbb hb12 x1 x2 HRec8 HB8 HCR
                            cases bb with
                            | true =>
                              go_wp2
                              go_roundw
                              case rel => exact ⟨k + 1, by omega, by go_num, HRec9.out, HB9.out⟩
                              case measure => simp [intOf]; omega
                            | false =>
                              go_wp2_with fail
                              refine (toRef (t k) w12).mono ?_
                              rintro e w13 ⟨rfl, hb13⟩
                              have hlk := (HRec9.out.kept hb13).look (t k)
                              rw [hasF_not (uniq u m) (t k) (fun h => by have := HBB.out.2 ((mem_uniq u (t k) m).1 h); cases this)] at hlk
                              have HRec10 := hid (HRec9.out.kept hb13)
                              have HB10 := hid (HB9.out.trans (hb13.mono HB9.out.size))
                              clear hb13 z1 z2 HRec9 HB9
                              go_wp2
                              go_roundw
                              case rel => exact ⟨k + 1, by omega, by go_num, HRec10.out, HB10.out⟩
                              case measure => simp [intOf]; omega
                          · obtain rfl : n = k := by omega
                            clear hlt
                            go_wp2
                            go_ret
                            exact ⟨rfl, HB3.out.trans (HB8.out.mono HB3.out.size)⟩

end Go.Proofs.Qxb6604662a
