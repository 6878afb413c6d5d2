import Derived.Test.Qxb6604459aAltsLaw
namespace Go.Proofs.Qxb6604459a
open Go.RowKit

theorem Grid.below {w w' : World} {a : Option Addr} {n : Nat} {L : Nat → Option Addr × Nat × Nat} {ss : Nat → Nat → ByteArray} (h : Grid w a n L ss) (hb : Below w.heap.size w w') : Grid w' a n L ss := by
  obtain ⟨h0, b, o, h1, h2⟩ := h
  exact ⟨h0, b, o, h1, fun i hi => ⟨cell_later hb (h2 i hi).1, (h2 i hi).2.1.below hb, (h2 i hi).2.2⟩⟩

set_option maxRecDepth 100000 in
set_option maxHeartbeats 1000000 in
theorem alts_walk (a : Option Addr) (n cap : Nat) (L : Nat → Option Addr × Nat × Nat) (ss : Nat → Nat → ByteArray) (w : World) (h : Grid w a n L ss) :
    Calls Try.prog 3 #[.slice a n cap] w fun e w' => e = .returned (.bool true) ∧ Below w.heap.size w w' := by
  have H0 := hid h
  obtain ⟨h0, b, o, h1, h2⟩ := h
  have H1 := hid h1
  have H2 := hid h2
  clear h0 h1 h2
  go_enter Try.func3, Try.ntmps3
  go_wp2_with fail
  refine (bytes5 _ _ _ L ss _ H0.out).mono ?_
  rintro e w ⟨⟨bb, rfl⟩, rfl⟩
  cases bb with
  | false =>
    go_wp2
    go_ret
    exact ⟨rfl, Below.refl _ _⟩
  | true =>
  by_cases hbig : 1048576 < n
  · go_wp2
    go_ret
    exact ⟨rfl, Below.refl _ _⟩
  · go_wp2
    go_loop [3, 4] (fun z i => ∃ (k : Nat) (t : Int), k ≤ n ∧ i = .int .i64 k ∧ z = .int .i64 t ∧ 0 ≤ t ∧ t ≤ 1048576 ∧ 24 * k + 16 * (sumTo (fun i => (L i).2.1) k : Int) ≤ t ∧ ∀ i, i < k → (L i).2.1 ≤ 1048576) (fun _ i => n - (intOf i).toNat)
    case atStart => exact ⟨0, _, Nat.zero_le _, rfl, rfl, by omega, by omega, by simp [sumTo], fun i hi => absurd hi (by omega)⟩
    case round =>
      obtain ⟨k, t, hk, rfl, rfl, hn0, hn1, hn2, hn3⟩ := hrel
      have HN3 := hid hn3
      clear hn3
      by_cases hlt : k < n
      · obtain rfl := H1.out (by omega)
        obtain ⟨hc, hst, hsz⟩ := H2.out k hlt
        unfold maxLen at hsz
        have hsum : sumTo (fun i => (L i).2.1) (k + 1) = sumTo (fun i => (L i).2.1) k + (L k).2.1 := rfl
        have HSUM := hid hsum
        clear hsum
        have HLK := hid (show (L k).2.1 = (L k).2.1 from rfl)
        generalize sumTo (fun i => (L i).2.1) k = T at *
        generalize hl : L k = l at *
        have HLE := hid hl
        clear hl
        obtain ⟨la, ll, lc⟩ := l
        simp only at hc hst hsz
        generalize ss k = s at *
        obtain ⟨_, b1, o1, hs1, hs2⟩ := hst
        have HS1 := hid hs1
        have HS2 := hid hs2
        clear hs1 hs2
        by_cases hs : (1048576 : Int) < ll
        · go_wp2
          go_ret
          exact ⟨rfl, Below.refl _ _⟩
        · by_cases ht : (1048576 : Int) < t + (24 + 16 * ll)
          · go_wp2
            go_ret
            exact ⟨rfl, Below.refl _ _⟩
          · go_wp2
            go_loop [3, 5] (fun z i => ∃ (q : Nat) (t2 : Int), q ≤ ll ∧ i = .int .i64 q ∧ z = .int .i64 t2 ∧ t + (24 + 16 * ll) ≤ t2 ∧ t2 ≤ 1048576) (fun _ i => ll - (intOf i).toNat)
            case atStart => exact ⟨0, _, Nat.zero_le _, rfl, rfl, by omega, by omega⟩
            case round =>
              obtain ⟨q, t2, hq, rfl, rfl, hm0, hm1⟩ := hrel
              by_cases hlt2 : q < ll
              · obtain rfl := HS1.out (by omega)
                obtain ⟨hc2, hsz2⟩ := HS2.out q hlt2
                unfold maxLen at hsz2
                generalize s q = s1 at *
                by_cases hs : (1048576 : Int) < s1.size
                · go_wp2
                  go_ret
                  exact ⟨rfl, Below.refl _ _⟩
                · by_cases ht2 : (1048576 : Int) < t2 + s1.size
                  · go_wp2
                    go_ret
                    exact ⟨rfl, Below.refl _ _⟩
                  · go_wp2
                    go_round
                    case rel => exact ⟨q + 1, _, by omega, by go_num, rfl, by omega, by omega⟩
                    case measure => simp [intOf]; omega
              · obtain rfl : q = ll := by omega
                go_wp2
                go_round
                case rel =>
                  refine ⟨k + 1, _, by omega, by go_num, rfl, by omega, by omega, ?_, ?_⟩
                  · rw [HSUM.out]; omega
                  · intro i hi
                    by_cases e : i = k
                    · subst e; rw [HLE.out]; simp only; omega
                    · exact HN3.out i (by omega)
                case measure => simp [intOf]; omega
      · obtain rfl : k = n := by omega
        have HBD := hid hn2
        have hk1 : k ≤ 43690 := by omega
        clear hn2
        go_wp2_with fail
        refine (clone_rows _ _ _ L ss _ H0.out (by omega) (fun i hi => Nat.le_trans (HN3.out i hi) (by omega))).mono ?_
        rintro e w1 ⟨a1, L1, rfl, hlen1, hg1, hb1⟩
        generalize hlen : (fun i => (L i).2.1) = len at *
        have HLEN : Hid (∀ i, i < k → (L1 i).2.1 = len i) := by
          intro i hi
          rw [hlen1 i hi, ← hlen]
        have HG1 := hid hg1
        have HB1 := hid hb1
        have HLB : Hid (∀ i, i < k → len i ≤ 1048576) := by
          intro i hi
          rw [← hlen]; exact HN3.out i hi
        have hsb : 24 * k + 16 * sumTo len k ≤ 1048576 := by have := HBD.out; omega
        have HSB := hid hsb
        clear hlen hlen1 hg1 hb1 H0 H1 H2 HN3 HBD hsb
        have hmk := fun w => mk26 k k (Nat.le_refl _) (by omega) w
        have hmk2 := fun w => mk27 k k (Nat.le_refl _) (by omega) w
        go_wp2
        have hr0 := row_new_arr w1 34 (zrow .nilIface k)
        rw [zrow_list] at hr0
        have hr1 := row_new_arr (w1.alloc (.cells (zrow .nilIface k) 34)) 35 (zrow (.pointer none) k)
        rw [zrow_list, World.size_alloc] at hr1
        have HA0 : Hid (AltsAt ((w1.alloc (.cells (zrow .nilIface k) 34)).alloc (.cells (zrow (.pointer none) k) 35)) 0 len (fun _ => 0) w1.heap.size (w1.heap.size + 1) (List.replicate k .nilIface) (List.replicate k (.pointer none))) :=
          ⟨hr0.alloc _, hr1, fun j hj => absurd hj (by omega), fun i j _ hj => absurd hj (by omega), fun j hj => absurd hj (by omega)⟩
        clear hr0 hr1 hmk hmk2
        go_loopw [8, 9] (fun lit i wr => ∃ (q : Nat) (B : Nat → Nat) (xs ys : List Value), q ≤ k ∧ i = .int .i64 q ∧ lit = .int .i64 (sumTo len q : Nat) ∧ AltsAt wr q len B w1.heap.size (w1.heap.size + 1) xs ys ∧ xs.length = k ∧ ys.length = k ∧ Below w1.heap.size w1 wr) (fun _ i _ => k - (intOf i).toNat)
        case atStart => exact ⟨0, _, _, _, Nat.zero_le _, rfl, rfl, HA0.out, by simp, by simp, ((Below.refl _ _).alloc (Nat.le_refl _) _).alloc (by simp) _⟩
        case round =>
          obtain ⟨q, B, xs, ys, hq, rfl, rfl, hat, hxl, hyl, hbel⟩ := hrel
          clear HA0
          by_cases hlt2 : q < k
          · obtain ⟨_, b1, o1, hs1, hs2⟩ := HG1.out
            obtain rfl := hs1 (by omega)
            obtain ⟨hc0, hst0, _⟩ := hs2 q hlt2
            have hb1lt : b1 < w1.heap.size := World.block_lt_of_cell? _ _ hc0
            have hb1n : ¬ w1.heap.size = b1 := by omega
            have hb1m : ¬ w1.heap.size + 1 = b1 := by omega
            have hc := cell_later hbel hc0
            have hst := hst0.below hbel
            clear hc0 hst0
            have HL1 := hid (HLEN.out q hlt2)
            have hlb := HLB.out q hlt2
            have HAT := hid hat
            have HXL := hid hxl
            have HYL := hid hyl
            have HB := hid hbel
            have hmono : sumTo len (q + 1) ≤ sumTo len k := sumTo_mono len hlt2
            have hsb2 : sumTo len q + len q ≤ 1048576 := by have := HSB.out; rw [sumTo] at hmono; omega
            have HSM : Hid (sumTo len (q + 1) = sumTo len q + len q) := rfl
            rw [HL1.out] at hst hc
            have hmk := fun w => mk26 (len q) (len q) (Nat.le_refl _) (by omega) w
            have HST := hid hst
            clear hat hxl hyl hbel hs1 hs2 hst hmono
            generalize sumTo len q = T at *
            generalize hll : len q = ll at *
            have HLL := hid hll
            clear hll
            generalize (L1 q).1 = la at *
            generalize (L1 q).2.2 = lc at *
            generalize ss q = s at *
            generalize wr = w2 at *
            go_wp2
            have hr0 := row_new_arr w2 34 (zrow .nilIface ll)
            rw [zrow_list] at hr0
            have HR0 := hid hr0
            clear hr0 hmk
            go_loopw [11] (fun i wx => ∃ (r : Nat) (zs : List Value), r ≤ ll ∧ i = .int .i64 r ∧ Row wx w2.heap.size 34 zs ∧ zs.length = ll ∧ (∀ j, j < r → ∃ t v, LeafTy t ∧ zs[j]? = some (.iface t v)) ∧ Below w2.heap.size w2 wx) (fun i _ => ll - (intOf i).toNat)
            case atStart => exact ⟨0, _, Nat.zero_le _, rfl, HR0.out, by simp, fun j hj => absurd hj (by omega), (Below.refl _ _).alloc (Nat.le_refl _) _⟩
            case round =>
              obtain ⟨r, zs, hr, rfl, hrow, hzl, hzs, hbx⟩ := hrel
              clear HR0
              have hcx := cell_later hbx hc
              have hgl := hrow.lt
              by_cases hlt3 : r < ll
              · obtain ⟨_, b2, o2, hs1, hs2⟩ := HST.out.below hbx
                obtain rfl := hs1 (by omega)
                have hc2 := (hs2 r hlt3).1
                obtain ⟨vq, hvq⟩ : ∃ v, zs[r]? = some v := ⟨_, List.getElem?_eq_getElem (by omega)⟩
                have hcur := hrow.cell hvq
                have hfz := hrow.frozen r
                have HR := hid hrow
                have HX := hid hzs
                have HBX := hid hbx
                have HL := hid hzl
                clear hrow hzs hbx hzl hs1 hs2 hvq hc
                generalize s r = s1 at *
                go_wp2
                go_roundw
                case rel =>
                  refine ⟨r + 1, zs.set r _, by omega, by go_num, (HR.out.set r _).alloc _, by rw [List.length_set]; exact HL.out, ?_, (HBX.out.setCell (Nat.le_refl _) _).alloc (by rw [World.size_setCell]; exact HBX.out.size) _⟩
                  intro j hj
                  rw [List.getElem?_set]
                  by_cases e : r = j
                  · subst e; rw [if_pos rfl, if_pos (by rw [HL.out]; omega)]; exact ⟨28, _, .inl rfl, rfl⟩
                  · rw [if_neg e]; exact HX.out j (by omega)
                case measure => simp [intOf]; omega
              · obtain rfl : r = ll := by omega
                generalize wr = w3 at *
                have hat3 := HAT.out.below hbx
                obtain ⟨vx, hvx⟩ : ∃ v, xs[q]? = some v := ⟨_, List.getElem?_eq_getElem (by rw [HXL.out]; omega)⟩
                obtain ⟨vy, hvy⟩ : ∃ v, ys[q]? = some v := ⟨_, List.getElem?_eq_getElem (by rw [HYL.out]; omega)⟩
                have hcp := hat3.rowp.cell hvx
                have hcq := hat3.rowq.cell hvy
                have hfp := hat3.rowp.frozen q
                have hfq := hat3.rowq.frozen q
                have hlp := hat3.rowp.lt
                have hlq := hat3.rowq.lt
                have hlp2 := HAT.out.rowp.lt
                have hlq2 := HAT.out.rowq.lt
                have hb3 : b1 < w3.heap.size := World.block_lt_of_cell? _ _ hcx
                have hcy : ((w3.setCell ⟨w1.heap.size + 1, q, none⟩ (.pointer (some ⟨w3.heap.size, 0, none⟩))).setCell ⟨w1.heap.size, q, none⟩ (.iface 35 (.pointer (some ⟨w3.heap.size, 0, none⟩)))).cell? ⟨b1, o1 + q, none⟩ = some (.slice la r lc) := by
                  rw [World.cell?_setCell_other _ _ _ _ (fun e => hb1n (congrArg Addr.block e)), World.cell?_setCell_other _ _ _ _ (fun e => hb1m (congrArg Addr.block e))]
                  exact hcx
                have HA3 := hid hat3
                have HR := hid hrow
                have HX := hid hzs
                have HBX := hid hbx
                have HL := hid hzl
                clear hrow hzs hbx hzl hat3 hvx hvy hc
                go_wp2
                go_roundw
                case rel =>
                  have hmore := AltsAt.more (w' := ((w3.setCell ⟨w1.heap.size + 1, q, none⟩ (.pointer (some ⟨w3.heap.size, 0, none⟩))).setCell ⟨w1.heap.size, q, none⟩ (.iface 35 (.pointer (some ⟨w3.heap.size, 0, none⟩)))).alloc (.cells #[.slice (some ⟨w2.heap.size, 0, none⟩) r r] 37))
                    (b := w3.heap.size) (g := w2.heap.size) (zs := zs) HA3.out (fun p t l h1 h2 hr => ((hr.set_other (Ne.symm h2) _).set_other (Ne.symm h1) _).alloc _)
                    (((HA3.out.rowp.set_other (by simp) _).set q _).alloc _) (((HA3.out.rowq.set q _).set_other (by simp) _).alloc _) (by rw [HXL.out]; omega) (by rw [HYL.out]; omega)
                    (by rw [HLL.out]; exact ⟨((HR.out.set_other (by show w1.heap.size + 1 ≠ _; omega) _).set_other (by show w1.heap.size ≠ _; omega) _).alloc _, HL.out, HX.out, row_new_at _ _ [_] _ (by simp)⟩) (by omega) (by omega) (Nat.le_refl _)
                  refine ⟨q + 1, _, _, _, by omega, by go_num, by rw [HSM.out]; go_num, hmore, by rw [List.length_set]; exact HXL.out, by rw [List.length_set]; exact HYL.out, ?_⟩
                  have l1 := HB.out.size
                  have l2 := HBX.out.size
                  exact (((HB.out.trans (HBX.out.mono l1)).setCell (by show w1.heap.size ≤ w1.heap.size + 1; omega) _).setCell (Nat.le_refl _) _).alloc (by rw [World.size_setCell, World.size_setCell]; omega) _
                case measure => simp [intOf]; omega
          · obtain rfl : q = k := by omega
            generalize wr = w4 at *
            have HAT := hid hat
            have HXL := hid hxl
            have HYL := hid hyl
            have HB := hid hbel
            have hsb := HSB.out
            have hs0 : sumTo len q + q ≤ 1048576 := by omega
            have hs1 : sumTo len q ≤ 65536 := by omega
            clear hat hxl hyl hbel hsb
            go_wp2_with fail
            refine (newExpander_at _ (w4.heap.size + 1) (by simp)).mono ?_
            rintro e w9 ⟨rfl, hE, hmap, o1, o2, hw9⟩
            have HA9 : Hid (AltsAt w9 q len B w1.heap.size (w1.heap.size + 1) xs ys) := by
              show AltsAt _ _ _ _ _ _ _ _
              rw [hw9]
              exact ((HAT.out.alloc _).alloc _).alloc _
            have HB9 : Hid (Below w4.heap.size w4 w9) := by
              show Below _ _ _
              rw [hw9]
              exact (((Below.refl _ _).alloc (Nat.le_refl _) _).alloc (by simp) _).alloc (by simp; omega) _
            have HAL : Hid (Row w9 w4.heap.size 40 [.slice (some ⟨w1.heap.size, 0, none⟩) q q]) := by
              show Row _ _ _ _
              rw [hw9]
              exact ((row_new w4 40 [_]).alloc o1).alloc o2
            have HE := hid hE
            have HM := hid hmap
            clear hw9 hE hmap
            have HSZ := hid (AltsAt.sz HE.out HA9.out HAL.out hs0)
            go_wp2_with fail
            refine (zzSize HSZ.out _ [] (st_new _ HM.out)).mono ?_
            rintro e w10 ⟨rfl, hst⟩
            rw [show ((sumTo len q + q + 1 : Nat) : Int) = 1 + (q : Int) + (sumTo len q : Nat) by omega]
            have hM : nodeF (38, w4.heap.size) (effTo (fun i => nodeF (35, B i) id) q) [] = (List.range q).map (fun i => (35, B i)) ++ [(38, w4.heap.size)] := by
              rw [nodeF, if_neg (by simp), effTo_seqs B q HA9.out.inc]
            rw [hM] at hst
            have HST := hid hst
            have HM2 := hid hM
            clear hst hM
            go_wp2_with fail
            refine (memo_calls _ _ _ 38 _ _ _ (HST.out.kp.cell HM.out HE.out.field) HST.out.keys' HST.out.memo (by simp)).mono ?_
            rintro e w10 ⟨rfl, rfl⟩
            rw [show ((sizesA B len q (sumTo len q + q + 1) (38, w4.heap.size) : Nat) : Int) = 1 + (q : Int) + (sumTo len q : Nat) by simp [sizesA]; omega]
            have HA10 := hid (HA9.out.kp HST.out.kp HM.out)
            have HB10 := hid ((HB.out.trans (HB9.out.mono HB.out.size)).trans (HST.out.kp.below (B := w1.heap.size) (by have := HB.out.size; omega)))
            go_wp2
            go_loop [17] (fun i => ∃ r : Nat, r ≤ q ∧ i = .int .i64 r) (fun i => q - (intOf i).toNat)
            case atStart => exact ⟨0, Nat.zero_le _, rfl⟩
            case round =>
              obtain ⟨r, hr, rfl⟩ := hrel
              by_cases hlt5 : r < q
              · obtain ⟨_, b1, o1, hs1, hs2⟩ := HG1.out
                obtain rfl := hs1 (by omega)
                have hcx := cell_later HB10.out (hs2 r hlt5).1
                rw [HLEN.out r hlt5] at hcx
                have hlb := HLB.out r hlt5
                have hcq := HA10.out.rowq.cell (HA10.out.each r hlt5).2.1
                clear hs1 hs2
                go_wp2_with fail
                refine (memo_calls _ _ _ 35 (B r) _ _ (HST.out.kp.cell HM.out HE.out.field) HST.out.keys' HST.out.memo (by simp; exact ⟨r, hlt5, rfl⟩)).mono ?_
                rintro e w10 ⟨rfl, rfl⟩
                rw [show ((sizesA B len q (sumTo len q + q + 1) (35, B r) : Nat) : Int) = 1 + (len r : Int) by rw [sizesA, if_neg (by simp), lookB_at B len q HA10.out.inc r hlt5]; omega]
                generalize len r = lr at *
                go_wp2
                go_round
                case rel => exact ⟨r + 1, by omega, by go_num⟩
                case measure => simp [intOf]; omega
              · obtain rfl : r = q := by omega
                go_wp2_with fail
                refine (memoLen_calls _ _ _ _ _ (HST.out.kp.cell HM.out HE.out.field) HST.out.memo).mono ?_
                rintro e w10 ⟨rfl, rfl⟩
                have hlm : ((List.range r).map (fun i => (35, B i)) ++ [(38, w4.heap.size)]).length = r + 1 := by simp
                rw [hlm, show ((r + 1 : Nat) : Int) = (r : Int) + 1 by omega]
                clear hlm
                go_wp2_with fail
                refine (zzSize HSZ.out _ _ HST.out).mono ?_
                rintro e w11 ⟨rfl, hst⟩
                rw [show ((sumTo len r + r + 1 : Nat) : Int) = 1 + (r : Int) + (sumTo len r : Nat) by omega]
                have HK := hid (hst.kp.below (B := w1.heap.size) (by have := HB.out.size; omega))
                clear hst
                go_wp2
                go_ret
                refine ⟨rfl, HB1.out.trans (Below.mono ((HB.out.trans (HB9.out.mono HB.out.size)).trans HK.out) HB1.out.size)⟩

end Go.Proofs.Qxb6604459a
