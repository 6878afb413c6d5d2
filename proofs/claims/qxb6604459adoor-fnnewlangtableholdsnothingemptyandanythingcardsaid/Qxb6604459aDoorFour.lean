import Derived.Test.Qxb6604459aDoorPlain
namespace Go.Proofs.Qxb6604459aDoor
open Go.RowKit

theorem mid (A B C : List Value) (j : Nat) (v : Value) (h : B[j]? = some v) : (A ++ (B ++ C))[A.length + j]? = some v := by
  rw [List.getElem?_append_right (by omega), show A.length + j - A.length = j by omega, List.getElem?_append_left ((List.getElem?_eq_some_iff.1 h).1)]
  exact h

theorem ls4_0 (gc gs j : Nat) (v : Value) (h : (lcs opN none none 0 0 0 0 false)[j]? = some v) : (ls4 gc gs)[0 * 7 + j]? = some v :=
  mid [] (lcs opN none none 0 0 0 0 false) (lcs opE none none 0 0 0 0 true ++ lcs opC (some ⟨gc, 0, none⟩) none 1 1 0 0 false ++ lcs opS none (some ⟨gs, 0, none⟩) 0 0 1 1 true) j v h
theorem ls4_1 (gc gs j : Nat) (v : Value) (h : (lcs opE none none 0 0 0 0 true)[j]? = some v) : (ls4 gc gs)[1 * 7 + j]? = some v :=
  mid (lcs opN none none 0 0 0 0 false) (lcs opE none none 0 0 0 0 true) (lcs opC (some ⟨gc, 0, none⟩) none 1 1 0 0 false ++ lcs opS none (some ⟨gs, 0, none⟩) 0 0 1 1 true) j v h
theorem ls4_2 (gc gs j : Nat) (v : Value) (h : (lcs opC (some ⟨gc, 0, none⟩) none 1 1 0 0 false)[j]? = some v) : (ls4 gc gs)[2 * 7 + j]? = some v :=
  mid (lcs opN none none 0 0 0 0 false ++ lcs opE none none 0 0 0 0 true) (lcs opC (some ⟨gc, 0, none⟩) none 1 1 0 0 false) (lcs opS none (some ⟨gs, 0, none⟩) 0 0 1 1 true) j v h
theorem ls4_3 (gc gs j : Nat) (v : Value) (h : (lcs opS none (some ⟨gs, 0, none⟩) 0 0 1 1 true)[j]? = some v) : (ls4 gc gs)[3 * 7 + j]? = some v :=
  mid (lcs opN none none 0 0 0 0 false ++ lcs opE none none 0 0 0 0 true ++ lcs opC (some ⟨gc, 0, none⟩) none 1 1 0 0 false) (lcs opS none (some ⟨gs, 0, none⟩) 0 0 1 1 true) [] j v h

set_option maxRecDepth 100000 in
set_option maxHeartbeats 1000000 in
theorem four (w : World) (h : w.cell? ⟨2, 15, none⟩ = some (.int .u8 4)) :
    Calls Tryd.prog 5 #[] w fun e w' => e = .returned (.bool true) ∧ Below w.heap.size w w' := by
  have HI := hid (newTableT w h (World.block_lt_of_cell? _ _ h))
  clear h
  go_enter Tryd.func5, Tryd.ntmps5
  go_wp2_with fail
  refine HI.out.mono ?_
  rintro e w1 ⟨x, m, gl, gc, gs, V, rfl, hn⟩
  have HB := hid hn.bel
  have HC := hid hn.rc
  have HS := hid hn.rs
  have HT := hid hn.tab
  clear hn HI
  obtain ⟨cV, hV, _⟩ := HT.out.own.form (by decide)
  subst hV
  have hx := HT.out.row.cell (i := 0) rfl
  have hx1 := HT.out.row.cell (i := 1) rfl
  have HL : Hid (Calls Tryd.prog 13 #[.pointer (some ⟨x, 0, none⟩)] w1 fun e w' => e = .returned (.int .i64 4) ∧ w' = w1) := tabLen hx
  have HM : Hid (Calls Tryd.prog 14 #[.pointer (some ⟨x, 0, none⟩)] w1 fun e w' => e = .returned (.int .i64 4) ∧ w' = w1) := idsLen hx1 HT.out.map
  have HA := hid (tabAny (HT.out.row.cell (i := 2) rfl))
  have H0 := hid (langIs (i := 0) opN none none 0 0 0 0 false hx (by decide) (fun j v hv => HT.out.own.cell (ls4_0 gc gs j v hv)))
  have H1 := hid (langIs (i := 1) opE none none 0 0 0 0 true hx (by decide) (fun j v hv => HT.out.own.cell (ls4_1 gc gs j v hv)))
  have H2 := hid (langIs (i := 2) opC (some ⟨gc, 0, none⟩) none 1 1 0 0 false hx (by decide) (fun j v hv => HT.out.own.cell (ls4_2 gc gs j v hv)))
  have H3 := hid (langIs (i := 3) opS none (some ⟨gs, 0, none⟩) 0 0 1 1 true hx (by decide) (fun j v hv => HT.out.own.cell (ls4_3 gc gs j v hv)))
  have HCR := hid (charRange (i := 2) hx (by decide) (HT.out.own.cell (ls4_2 gc gs 1 _ rfl)) (by omega) (HC.out.cell (i := 0) rfl) (HC.out.cell (i := 1) rfl))
  have HT2 : Hid (Tab w1.drew x m gl (.slice (some ⟨gl, 0, none⟩) keys4.length cV) keys4 (ls4 gc gs) 3 1244) := HT.out.kept (w' := w1.drew) (Nat.le_refl _) rfl rfl rfl
  have hy := HT2.out.row.cell (i := 0) rfl
  have hy1 := HT2.out.row.cell (i := 1) rfl
  have HSB := hid (subAt (i := 3) hy (by decide) (HT2.out.own.cell (ls4_3 gc gs 2 _ rfl)) (by omega) (HS.out.drew.cell (i := 0) rfl))
  have K0 := hid (keyIs (k := kN) (j := 0) hy1 HT2.out.map rfl)
  have K1 := hid (keyIs (k := kE) (j := 1) hy1 HT2.out.map rfl)
  have K2 := hid (keyIs (k := kC) (j := 2) hy1 HT2.out.map rfl)
  have K3 := hid (keyIs (k := kS) (j := 3) hy1 HT2.out.map rfl)
  have HY := hid (tabBytes (HT2.out.row.cell (i := 3) rfl))
  have HG := hid (tabBudget (HT2.out.row.cell (i := 4) rfl))
  have HO := hid (tabOver (HT2.out.row.cell (i := 5) rfl))
  clear hx hx1 hy hy1 HT HT2 HC HS
  go_wp2_with fail
  refine HL.out.mono ?_
  rintro e w' ⟨rfl, rfl⟩
  clear HL
  go_wp2_with fail
  refine HM.out.mono ?_
  rintro e w' ⟨rfl, rfl⟩
  clear HM
  go_wp2_with fail
  refine HA.out.mono ?_
  rintro e w' ⟨rfl, rfl⟩
  clear HA
  go_wp2_with fail
  refine H0.out.mono ?_
  rintro e w' ⟨rfl, rfl⟩
  clear H0
  go_wp2_with fail
  refine H1.out.mono ?_
  rintro e w' ⟨rfl, rfl⟩
  clear H1
  go_wp2_with fail
  refine H2.out.mono ?_
  rintro e w' ⟨rfl, rfl⟩
  clear H2
  go_wp2_with fail
  refine H3.out.mono ?_
  rintro e w' ⟨rfl, rfl⟩
  clear H3
  go_wp2_with fail
  refine HCR.out.mono ?_
  rintro e w' ⟨rfl, rfl⟩
  clear HCR
  go_wp2_with fail
  refine HSB.out.mono ?_
  rintro e w' ⟨rfl, rfl⟩
  clear HSB
  go_wp2_with fail
  refine K0.out.mono ?_
  rintro e w' ⟨rfl, rfl⟩
  clear K0
  go_wp2_with fail
  refine K1.out.mono ?_
  rintro e w' ⟨rfl, rfl⟩
  clear K1
  go_wp2_with fail
  refine K2.out.mono ?_
  rintro e w' ⟨rfl, rfl⟩
  clear K2
  go_wp2_with fail
  refine K3.out.mono ?_
  rintro e w' ⟨rfl, rfl⟩
  clear K3
  go_wp2_with fail
  refine HY.out.mono ?_
  rintro e w' ⟨rfl, rfl⟩
  clear HY
  go_wp2_with fail
  refine HG.out.mono ?_
  rintro e w' ⟨rfl, rfl⟩
  clear HG
  go_wp2_with fail
  refine HO.out.mono ?_
  rintro e w' ⟨rfl, rfl⟩
  clear HO
  go_wp2
  go_ret
  exact ⟨rfl, HB.out.drew⟩

end Go.Proofs.Qxb6604459aDoor
