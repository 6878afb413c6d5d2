import Derived.Test.Qxb6604459aSmall
import Derived.Test.Qxb6604459aBytes
import Derived.Test.Qxb6604459aBuilt
namespace Go.Proofs.Qxb6604459a
open Go.RowKit

theorem row_new_at (w : World) (t : TypeId) (xs : List Value) (q : Nat) (hq : q = w.heap.size) : Row (w.alloc (.cells xs.toArray t)) q t xs := by
  subst hq; exact row_new w t xs

theorem SeqAt.grown {w w' : World} {n bs g gp : Nat} {xs : List Value} (h : SeqAt w n bs g xs) (hg : w.grownBy w' (some gp)) (h1 : bs ≠ gp) (h2 : g ≠ gp) : SeqAt w' n bs g xs :=
  ⟨h.row.grown hg h2, h.len, h.leaf, h.seq.grown hg h1⟩

theorem grown3 {w w' : World} {a b c : Obj} {row : Option Nat} (h : (((w.alloc a).alloc b).alloc c).grownBy w' row) : w.grownBy w' row :=
  (((World.grownBy_alloc _ _ _).trans (World.grownBy_alloc _ _ _)).trans (World.grownBy_alloc _ _ _)).trans h

theorem Own.lt {w : World} {g cap : Nat} {l : List Value} (h : Own w g cap l) : g < w.heap.size := (World.ownsRow.lt h _ rfl).2

theorem built_of {w : World} {n c bs g gp bo br bm bd : Nat} {xs : List Value} {a1 a2 a3 b1 b2 b3 c1 c2 c3 v4 v5 v6 v7 v8 : Value} (h1 : SeqAt w n bs g xs) (h2 : Row w bo 51 [a1, a2, a3, sv bs]) (h3 : Row w br 53 [b1, b2, b3, sv bs])
    (h4 : Row w bm 55 [c1, c2, c3, sv bs]) (h5 : Row w bd 58 [sv bs, sv bs])
    (h6 : Own w gp (c + 9) (List.replicate c (sv bs) ++ [.iface 49 (.pointer (some ⟨bo, 0, none⟩)), .iface 52 (.pointer (some ⟨br, 0, none⟩)), .iface 54 (.pointer (some ⟨bm, 0, none⟩)), .iface 56 (.pointer (some ⟨bd, 0, none⟩)), .iface 59 v4, .iface 62 v5, .iface 65 v6, .iface 68 v7, .iface 70 v8])) :
    Built w n c bs g gp bo br bm bd xs (a1, a2, a3) (b1, b2, b3) (c1, c2, c3) v4 v5 v6 v7 v8 :=
  ⟨h1, h2, h3, h4, h5, h6⟩

theorem newExpander_at (w : World) (s : Nat) (hs : s = w.heap.size) :
    Calls Try.prog 7 #[] w fun e w' => e = .returned (.pointer (some ⟨s + 1, 0, none⟩)) ∧ Env (s + 1) s w' ∧ w'.heap[s]? = some (.map #[] 0) ∧ ∃ o1 o2, w' = (w.alloc o1).alloc o2 := by
  subst hs
  refine (newExpander w).mono ?_
  rintro e w' ⟨rfl, cs, h1, rfl⟩
  have hmap : ((w.alloc (.map #[] 0)).alloc (.cells cs 78)).heap[w.heap.size]? = some (.map #[] 0) := by
    rw [Below.heap_alloc _ _ _ (by simp)]
    unfold World.alloc
    simp only [Array.getElem?_push_size]
  have hrow := row_new_arr (w.alloc (.map #[] 0)) 78 cs
  rw [World.size_alloc] at hrow
  exact ⟨rfl, ⟨⟨_, _, hmap⟩, hrow.cell (by simpa using h1)⟩, hmap, _, _, rfl⟩

theorem st_new (S : Key → Nat) {m : Nat} {w : World} (h : w.heap[m]? = some (.map #[] 0)) : St S m w w [] := ⟨Kp.refl _ _, h, fun k hk => by cases hk⟩

theorem hid {p : Prop} (h : p) : Hid p := h

set_option maxRecDepth 100000 in
set_option maxHeartbeats 1000000 in
theorem shared_walk (a : Option Addr) (len cap : Nat) (ss : Nat → ByteArray) (c : Int) (w : World) (h : Strs w a len ss) :
    Calls Try.prog 4 #[.slice a len cap, .int .i64 c] w fun e w' => e = .returned (.bool true) ∧ Below w.heap.size w w' := by
  have hstr := h
  obtain ⟨h0, b, o, h1, h2⟩ := h
  have H0 : Hid (Strs w a len ss) := hstr
  have H1 : Hid (0 < len → a = some ⟨b, o, none⟩) := h1
  have H2 : Hid (∀ i, i < len → w.cell? ⟨b, o + i, none⟩ = some (.string (ss i)) ∧ (ss i).size ≤ maxLen) := h2
  clear h0 h1 h2 hstr
  go_enter Try.func4, Try.ntmps4
  go_wp2_with fail
  refine (bytes11 _ _ _ _ ss _ H0.out).mono ?_
  rintro e w' ⟨⟨bb, rfl⟩, rfl⟩
  cases bb with
  | false =>
    go_wp2
    go_ret
    exact ⟨rfl, Below.refl _ _⟩
  | true =>
  by_cases hbig : 65536 < len
  · go_wp2
    go_ret
    exact ⟨rfl, Below.refl _ _⟩
  · go_wp2
    go_loop [5, 6] (fun z i => ∃ (k : Nat) (n : Int), k ≤ len ∧ i = .int .i64 k ∧ z = .int .i64 n ∧ 0 ≤ n ∧ n ≤ 1048576) (fun _ i => len - (intOf i).toNat)
    case atStart => exact ⟨0, _, Nat.zero_le _, rfl, rfl, by omega, by omega⟩
    case round =>
      obtain ⟨k, n, hk, rfl, rfl, hn0, hn1⟩ := hrel
      by_cases hlt : k < len
      · obtain rfl := H1.out (by omega)
        obtain ⟨hc, hsz⟩ := H2.out k hlt
        unfold maxLen at hsz
        generalize ss k = s at *
        by_cases hs : (1048576 : Int) < s.size
        · go_wp2
          go_ret
          exact ⟨rfl, Below.refl _ _⟩
        · by_cases ht : (1048576 : Int) < n + s.size
          · go_wp2
            go_ret
            exact ⟨rfl, Below.refl _ _⟩
          · go_wp2
            go_round
            case rel => exact ⟨k + 1, _, by omega, by go_num, rfl, by omega, by omega⟩
            case measure => simp [intOf]; omega
      · obtain rfl : k = len := by omega
        by_cases hc0 : c < 0
        · go_wp2
          go_ret
          exact ⟨rfl, Below.refl _ _⟩
        · by_cases hc1 : 4096 < c
          · go_wp2
            go_ret
            exact ⟨rfl, Below.refl _ _⟩
          · obtain ⟨c, rfl⟩ := Int.eq_ofNat_of_zero_le (show 0 ≤ c by omega)
            go_wp2_with fail
            refine (clone_strs _ _ _ ss _ H0.out (by omega)).mono ?_
            rintro e w1 ⟨a1, rfl, hs1, hb1⟩
            have hmk := fun w => mk26 k k (Nat.le_refl _) (by omega) w
            have HB1 : Hid (Below w'.heap.size w' w1) := hb1
            have HS1 : Hid (Strs w1 a1 k ss) := hs1
            clear hb1 hs1 H0 H1 H2
            go_wp2
            have hr0 := row_new_arr w1 34 (zrow .nilIface k)
            rw [zrow_list] at hr0
            have HR0 : Hid (Row (w1.alloc (.cells (zrow .nilIface k) 34)) w1.heap.size 34 (List.replicate k .nilIface)) := hr0
            clear hr0
            go_loopw [8] (fun i wr => ∃ (q : Nat) (xs : List Value), q ≤ k ∧ i = .int .i64 q ∧ Row wr w1.heap.size 34 xs ∧ xs.length = k ∧ (∀ j, j < q → ∃ t v, LeafTy t ∧ xs[j]? = some (.iface t v)) ∧ Below w1.heap.size w1 wr) (fun i _ => k - (intOf i).toNat)
            case atStart => exact ⟨0, _, Nat.zero_le _, rfl, HR0.out, by simp, fun j hj => absurd hj (by omega), (Below.refl _ _).alloc (Nat.le_refl _) _⟩
            case round =>
              obtain ⟨q, xs, hq, rfl, hrow, hlen, hxs, hbel⟩ := hrel
              by_cases hlt2 : q < k
              · obtain ⟨_, b1, o1, hs2, hs3⟩ := HS1.out
                obtain rfl := hs2 (by omega)
                have hc := cell_later hbel (hs3 q hlt2).1
                obtain ⟨vq, hvq⟩ : ∃ v, xs[q]? = some v := ⟨_, List.getElem?_eq_getElem (by omega)⟩
                have hcur := hrow.cell hvq
                have hfz := hrow.frozen q
                have hgl := hrow.lt
                have HR : Hid (Row _ w1.heap.size 34 xs) := hrow
                have HX : Hid (∀ j, j < q → ∃ t v, LeafTy t ∧ xs[j]? = some (.iface t v)) := hxs
                have HB : Hid (Below w1.heap.size w1 _) := hbel
                have HL : Hid (xs.length = k) := hlen
                clear hrow hxs hbel hlen hs2 hs3 hmk hvq
                generalize ss q = s at *
                go_wp2
                go_roundw
                case rel =>
                  refine ⟨q + 1, xs.set q _, by omega, by go_num, (HR.out.set q _).alloc _, by rw [List.length_set]; exact HL.out, ?_, (HB.out.setCell (Nat.le_refl _) _).alloc (by rw [World.size_setCell]; exact HB.out.size) _⟩
                  intro j hj
                  rw [List.getElem?_set]
                  by_cases e : q = j
                  · subst e; rw [if_pos rfl, if_pos (by rw [HL.out]; omega)]; exact ⟨28, _, .inl rfl, rfl⟩
                  · rw [if_neg e]; exact HX.out j (by omega)
                case measure => simp [intOf]; omega
              · obtain rfl : q = k := by omega
                generalize wr = w2 at *
                have HR : Hid (Row w2 w1.heap.size 34 xs) := hrow
                have HX : Hid (∀ j, j < q → ∃ t v, LeafTy t ∧ xs[j]? = some (.iface t v)) := hxs
                have HB : Hid (Below w1.heap.size w1 w2) := hbel
                have HL : Hid (xs.length = q) := hlen
                have hgl := hrow.lt
                clear hrow hxs hbel hlen hmk HS1 HR0
                have hmk : ∀ w : World, (Instr.makeSlice 26 (.int .i64 0) (.int .i64 ((c : Int) + 9))).run Try.prog w = .ok (.slice (some ⟨w.heap.size, 0, none⟩) 0 (c + 9)) (w.alloc (.cells (zrow .nilIface (c + 9)) 34)) := by
                  intro w
                  have := mk26 0 (c + 9) (by omega) (by omega) w
                  simpa using this
                go_wp2
                go_loopw [10, 11] (fun p i wx => ∃ z : Nat, z ≤ c ∧ i = .int .i64 z ∧ p = .slice (some ⟨w2.heap.size + 1, 0, none⟩) z (c + 9) ∧ Own wx (w2.heap.size + 1) (c + 9) (List.replicate z (.iface 35 (.pointer (some ⟨w2.heap.size, 0, none⟩)))) ∧ Row wx w2.heap.size 37 [.slice (some ⟨w1.heap.size, 0, none⟩) q q] ∧ w2.grownBy wx (some (w2.heap.size + 1))) (fun _ i _ => c - (intOf i).toNat)
                case atStart =>
                  refine ⟨0, Nat.zero_le _, rfl, rfl, ?_, ?_, ?_⟩
                  · have := own_made (w2.alloc (.cells #[.slice (some ⟨w1.heap.size, 0, none⟩) q q] 37)) .nilIface (c + 9) (by omega)
                    simpa using this
                  · exact (row_new w2 37 _).alloc _
                  · exact (World.grownBy_alloc _ _ _).trans (World.grownBy_alloc _ _ _)
                case round =>
                  obtain ⟨z, hz, rfl, rfl, hown, hseq, hgr⟩ := hrel
                  by_cases hlt3 : z < c
                  · have HO : Hid (Own _ (w2.heap.size + 1) (c + 9) (List.replicate z (.iface 35 (.pointer (some ⟨w2.heap.size, 0, none⟩))))) := hown
                    have HQ : Hid (Row _ w2.heap.size 37 [.slice (some ⟨w1.heap.size, 0, none⟩) q q]) := hseq
                    have HG : Hid (w2.grownBy _ (some (w2.heap.size + 1))) := hgr
                    clear hown hseq hgr hmk
                    go_wp2_with (at_builtin; refine wpList_app rfl _ _ rfl _ z (c + 9) _ [.iface 35 (.pointer (some ⟨w2.heap.size, 0, none⟩))] rfl _ 1 rfl (by simp) (Own.alloc HO.out _) (row_new _ _ _) rfl (by simp [Value.oneCell']) (by omega) ?_; intro wy hown2 hgr2; have HO2 := hid hown2)
                    go_roundw
                    case rel =>
                      refine ⟨z + 1, by omega, by go_num, rfl, ?_, ?_, ?_⟩
                      · rw [List.replicate_succ']; exact HO2.out
                      · exact (HQ.out.alloc _).grown hgr2 (by omega)
                      · exact (HG.out.trans (World.grownBy_alloc _ _ _)).trans hgr2
                    case measure => simp [intOf]; omega
                  · obtain rfl : z = c := by omega
                    generalize wr = w3 at *
                    have hgs : w2.heap.size + 1 < w3.heap.size := (World.ownsRow.lt hown _ rfl).2
                    have HO : Hid (Own w3 (w2.heap.size + 1) (z + 9) (List.replicate z (sv w2.heap.size))) := hown
                    have HS : Hid (SeqAt w3 q w2.heap.size w1.heap.size xs) := ⟨HR.out.grown hgr (by omega), HL.out, HX.out, hseq⟩
                    have HG : Hid (w2.grownBy w3 (some (w2.heap.size + 1))) := hgr
                    clear hown hseq hgr hmk HR HX HL
                    go_wp2_with (at_builtin; refine wpList_app rfl _ _ rfl _ z (z + 9) _ _ rfl _ 2 rfl (by simp) (((HO.out.alloc _).alloc _).alloc _) (row_new_at _ _ [_, _] _ (by simp)) rfl (by simp [Value.oneCell']) (by omega) ?_)
                    intro w4 hown4 hgr4
                    have HO4 := hid hown4
                    have HG4 := hid (HG.out.trans (grown3 hgr4))
                    have hgs4 : w2.heap.size + 1 < w4.heap.size := hown4.lt
                    have HS4 := hid (HS.out.grown (grown3 hgr4) (by omega) (by omega))
                    have hopt : Row w4 w3.heap.size 51 [.string ⟨#[]⟩, .int .i64 0, .int .i64 0, sv w2.heap.size] := (((row_new w3 51 [_, _, _, _]).alloc _).alloc _).grown hgr4 (by omega)
                    have hrep : Row w4 (w3.heap.size + 1) 53 [.string ⟨#[]⟩, .int .i64 0, .int .i64 0, sv w2.heap.size] := ((row_new_at _ 53 [_, _, _, _] _ (by simp)).alloc _).grown hgr4 (by omega)
                    have HOPT4 := hid hopt
                    have HREP4 := hid hrep
                    clear hown4 hgr4 hopt hrep HO HG HS
                    go_wp2_with (at_builtin; refine wpList_app rfl _ _ rfl _ (z + 2) (z + 9) _ _ rfl _ 2 rfl (by simp) (((HO4.out.alloc _).alloc _).alloc _) (row_new_at _ _ [_, _] _ (by simp)) rfl (by simp [Value.oneCell']) (by omega) ?_)
                    intro w5 hown5 hgr5
                    have HO5 := hid hown5
                    have HG5 := hid (HG4.out.trans (grown3 hgr5))
                    have hgs5 : w2.heap.size + 1 < w5.heap.size := hown5.lt
                    have hb45 : w3.heap.size < w4.heap.size ∧ w3.heap.size + 1 < w4.heap.size := ⟨HOPT4.out.lt, HREP4.out.lt⟩
                    have HS5 := hid (HS4.out.grown (grown3 hgr5) (by omega) (by omega))
                    have HOPT5 := hid (HOPT4.out.grown (grown3 hgr5) (by omega))
                    have HREP5 := hid (HREP4.out.grown (grown3 hgr5) (by omega))
                    have hoom : Row w5 w4.heap.size 55 [.string ⟨#[]⟩, .int .i64 0, .int .i64 0, sv w2.heap.size] := (((row_new w4 55 [_, _, _, _]).alloc _).alloc _).grown hgr5 (by omega)
                    have hdif : Row w5 (w4.heap.size + 1) 58 [sv w2.heap.size, sv w2.heap.size] := ((row_new_at _ 58 [_, _] _ (by simp)).alloc _).grown hgr5 (by omega)
                    have HOOM5 := hid hoom
                    have HDIF5 := hid hdif
                    clear hown5 hgr5 hoom hdif HO4 HG4 HS4 HOPT4 HREP4
                    go_wp2_with (at_builtin; refine wpList_app rfl _ _ rfl _ (z + 4) (z + 9) _ _ rfl _ 2 rfl (by simp) (((HO5.out.alloc _).alloc _).alloc _) (row_new_at _ _ [_, _] _ (by simp)) rfl (by simp [Value.oneCell']) (by omega) ?_)
                    intro w6 hown6 hgr6
                    have HO6 := hid hown6
                    have HG6 := hid (HG5.out.trans (grown3 hgr6))
                    have HS6 := hid (HS5.out.grown (grown3 hgr6) (by omega) (by omega))
                    have HOPT6 := hid (HOPT5.out.grown (grown3 hgr6) (by omega))
                    have HREP6 := hid (HREP5.out.grown (grown3 hgr6) (by omega))
                    have HOOM6 := hid (HOOM5.out.grown (grown3 hgr6) (by omega))
                    have HDIF6 := hid (HDIF5.out.grown (grown3 hgr6) (by omega))
                    clear hown6 hgr6 HO5 HG5 HS5 HOPT5 HREP5 HOOM5 HDIF5
                    go_wp2_with (at_builtin; refine wpList_app rfl _ _ rfl _ (z + 6) (z + 9) _ _ rfl _ 2 rfl (by simp) (((HO6.out.alloc _).alloc _).alloc _) (row_new_at _ _ [_, _] _ (by simp)) rfl (by simp [Value.oneCell']) (by omega) ?_)
                    intro w7 hown7 hgr7
                    have HO7 := hid hown7
                    have HG7 := hid (HG6.out.trans (grown3 hgr7))
                    have HS7 := hid (HS6.out.grown (grown3 hgr7) (by omega) (by omega))
                    have HOPT7 := hid (HOPT6.out.grown (grown3 hgr7) (by omega))
                    have HREP7 := hid (HREP6.out.grown (grown3 hgr7) (by omega))
                    have HOOM7 := hid (HOOM6.out.grown (grown3 hgr7) (by omega))
                    have HDIF7 := hid (HDIF6.out.grown (grown3 hgr7) (by omega))
                    clear hown7 hgr7 HO6 HG6 HS6 HOPT6 HREP6 HOOM6 HDIF6
                    go_wp2_with (at_builtin; refine wpList_app rfl _ _ rfl _ (z + 8) (z + 9) _ _ rfl _ 1 rfl (by simp) (((HO7.out.alloc _).alloc _).alloc _) (row_new_at _ _ [_] _ (by simp)) rfl (by simp [Value.oneCell']) (by omega) ?_)
                    intro w8 hown8 hgr8
                    have HO8 := hid hown8
                    have HG8 := hid (HG7.out.trans (grown3 hgr8))
                    have HS8 := hid (HS7.out.grown (grown3 hgr8) (by omega) (by omega))
                    have HOPT8 := hid (HOPT7.out.grown (grown3 hgr8) (by omega))
                    have HREP8 := hid (HREP7.out.grown (grown3 hgr8) (by omega))
                    have HOOM8 := hid (HOOM7.out.grown (grown3 hgr8) (by omega))
                    have HDIF8 := hid (HDIF7.out.grown (grown3 hgr8) (by omega))
                    clear hown8 hgr8 HO7 HG7 HS7 HOPT7 HREP7 HOOM7 HDIF7
                    have HBU := hid (built_of HS8.out HOPT8.out HREP8.out HOOM8.out HDIF8.out HO8.out)
                    clear HO8 HS8 HOPT8 HREP8 HOOM8 HDIF8
                    have hz1 : z ≤ 4096 := by omega
                    have hq1 : q ≤ 65536 := by omega
                    have hpr : (z + 5) * (q + 1) ≤ 4101 * 65537 := Nat.mul_le_mul (by omega) (by omega)
                    have HPR : Hid (((z : Int) + 5) * (1 + (q : Int)) = (((z + 5) * (q + 1) : Nat) : Int)) := by
                      show _ = _
                      rw [Int.natCast_mul, Int.natCast_add, Int.natCast_add, Int.add_comm 1 (q : Int)]; rfl
                    have hp0 : 0 ≤ ((z : Int) + 5) * (1 + (q : Int)) := by rw [HPR.out]; omega
                    have hp1 : ((z : Int) + 5) * (1 + (q : Int)) ≤ 268767237 := by rw [HPR.out]; omega
                    clear hpr
                    go_wp2_with fail
                    refine (newExpander_at _ (w8.heap.size + 1) (by simp)).mono ?_
                    rintro e w9 ⟨rfl, hE, hmap, o1, o2, hw9⟩
                    have HBU9 := hid (((HBU.out.alloc (.cells #[.slice (some ⟨w2.heap.size + 1, 0, none⟩) (z + 8 + 1) (z + 9)] 40)).alloc o1).alloc o2)
                    have HAL9 := hid (((row_new w8 40 [.slice (some ⟨w2.heap.size + 1, 0, none⟩) (z + 9) (z + 9)]).alloc o1).alloc o2)
                    rw [← hw9] at HBU9
                    have HB9 : Hid (Below w8.heap.size w8 w9) := by
                      show Below _ _ _
                      rw [hw9]
                      exact (((Below.refl _ _).alloc (Nat.le_refl _) _).alloc (by simp) _).alloc (by simp; omega) _
                    have HAL : Hid (Row w9 w8.heap.size 40 [.slice (some ⟨w2.heap.size + 1, 0, none⟩) (z + 9) (z + 9)]) := by
                      show Row _ _ _ _
                      rw [hw9]
                      exact HAL9.out
                    have HE := hid hE
                    have HM := hid hmap
                    clear hw9 hE hmap HAL9 HBU
                    have HSZ := hid (Built.sz HE.out HBU9.out HAL.out hq1 hz1)
                    go_wp2_with fail
                    refine (zzSize HSZ.out _ [] (st_new _ HM.out)).mono ?_
                    rintro e w10 ⟨rfl, hst⟩
                    rw [show (((z + 5) * (q + 1) + 10 : Nat) : Int) = 10 + ((z : Int) + 5) * (1 + (q : Int)) by rw [HPR.out]; omega]
                    have hM : nodeF (38, w8.heap.size) (effTo (pf z w2.heap.size w3.heap.size (w3.heap.size + 1) w4.heap.size (w4.heap.size + 1)) (z + 9)) [] = [(35, w2.heap.size), (49, w3.heap.size), (52, w3.heap.size + 1), (54, w4.heap.size), (56, w4.heap.size + 1), (38, w8.heap.size)] := by
                      simp [nodeF, eff_all]
                    rw [hM] at hst
                    have HST := hid hst
                    clear hst hM HSZ
                    go_wp2_with fail
                    refine (memo_calls _ _ _ 38 _ _ _ (HST.out.kp.cell HM.out HE.out.field) HST.out.keys' HST.out.memo (by simp)).mono ?_
                    rintro e w10 ⟨rfl, rfl⟩
                    rw [show ((sizesOf q z (38, w8.heap.size) : Nat) : Int) = 10 + ((z : Int) + 5) * (1 + (q : Int)) by rw [HPR.out]; simp [sizesOf]; omega]
                    go_wp2_with fail
                    refine (memo_calls _ _ _ 35 _ _ _ (HST.out.kp.cell HM.out HE.out.field) HST.out.keys' HST.out.memo (by simp)).mono ?_
                    rintro e w10 ⟨rfl, rfl⟩
                    rw [show ((sizesOf q z (35, w2.heap.size) : Nat) : Int) = 1 + (q : Int) by simp [sizesOf]; omega]
                    go_wp2_with fail
                    refine (memoLen_calls _ _ _ _ _ (HST.out.kp.cell HM.out HE.out.field) HST.out.memo).mono ?_
                    rintro e w10 ⟨rfl, rfl⟩
                    simp only [List.length_cons, List.length_nil]
                    have HBU10 := hid (HBU9.out.kp HST.out.kp HM.out)
                    have HK10 := hid (HST.out.kp.below (B := w8.heap.size) (by omega))
                    clear HBU9 HST HM HE HAL
                    go_wp2_with fail
                    refine (newExpander_at _ w10.heap.size rfl).mono ?_
                    rintro e w11 ⟨rfl, hE, hmap, o1, o2, hw11⟩
                    have HSE := hid (((HBU10.out.seq.alloc o1).alloc o2))
                    rw [← hw11] at HSE
                    have HB11 : Hid (Below w10.heap.size w10 w11) := by
                      show Below _ _ _
                      rw [hw11]
                      exact ((Below.refl _ _).alloc (Nat.le_refl _) _).alloc (by simp) _
                    have HE := hid hE
                    have HM := hid hmap
                    clear hw11 hE hmap HBU10
                    have HSZ := hid (SeqAt.sz (S := sizesOf q z) HE.out HSE.out (by simp [sizesOf]) (by omega))
                    go_wp2_with fail
                    refine (zzSize HSZ.out _ [] (st_new _ HM.out)).mono ?_
                    rintro e w12 ⟨rfl, hst⟩
                    rw [show ((q + 1 : Nat) : Int) = 1 + (q : Int) by omega]
                    have HB12 := hid (hst.kp.below (B := w10.heap.size) (Nat.le_refl _))
                    clear hst
                    go_wp2
                    go_ret
                    have s1 := HB1.out.size
                    have s2 := HB.out.size
                    have s3 := HG8.out.size
                    have s4 := HB9.out.size
                    have s5 := HK10.out.size
                    refine ⟨rfl, ?_⟩
                    refine (((((HB1.out.trans (HB.out.mono s1)).grown HG8.out (by omega) (fun k hk => ?_)).trans (HB9.out.mono (by omega))).trans (HK10.out.mono (by omega))).trans (HB11.out.mono (by omega))).trans (HB12.out.mono (by omega))
                    obtain rfl : w2.heap.size + 1 = k := by simpa using hk
                    omega

end Go.Proofs.Qxb6604459a
