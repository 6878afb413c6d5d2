import Derived.Test.Qxb6604459aDoorBits
namespace Go.Proofs.Qxb6604459aDoor
open Go.RowKit

/-- What an append of bytes hands back. -/
def AppP (w : World) (l : List UInt8) (g : Nat) (e : Ending) (w' : World) : Prop :=
  ∃ cap g', e = .returned (.slice (some ⟨g', 0, none⟩) l.length cap) ∧ OB w' (.slice (some ⟨g', 0, none⟩) l.length cap) l g' ∧ w.grownBy w' (some g) ∧ (g' = g ∨ w.heap.size ≤ g')

theorem appendUint16 (v : Value) (l : List UInt8) (g : Nat) (u0 : Nat) (w : World) (h : w.cell? ⟨2, 15, none⟩ = some (.int .u8 4)) (hown : OB w v l g) (hl : l.length ≤ 1000) (hl0 : 0 < l.length) (hu : u0 ≤ 2147483648) (hg2 : 2 < w.heap.size) :
    Calls Tryd.prog 54 #[v, .int .u64 u0, .int .i64 16] w fun e w' => AppP w (l ++ hexN u0) g e w' := by
  have HO := hid hown
  clear hown
  go_enter Tryd.func54, Tryd.ntmps54
  go_wp2_with fail
  refine (fmtBits v l g u0 _ h HO.out hl hl0 hu hg2).mono ?_
  rintro e w1 ⟨cap, g', rfl, ho1, hg1, hat⟩
  have HO1 := hid ho1
  have HG1 := hid hg1
  clear ho1 hg1
  generalize hln : (l ++ hexN u0).length = ln at *
  have HLN := hid hln
  clear hln
  go_wp2
  go_ret
  exact ⟨cap, g', by rw [HLN.out]; rfl, by rw [HLN.out]; exact HO1.out, HG1.out, hat⟩

theorem wrap_neg (n : Nat) (h : n ≤ 2147483648) : IntKind.u64.wrap (-(IntKind.u64.wrap (-(n : Int)))) = (n : Int) := by
  rw [IntKind.wrap_u64, IntKind.wrap_u64]; omega

theorem AppP.trans {w w1 w2 : World} {l : List UInt8} {g g1 : Nat} {e : Ending} (h : AppP w1 l g1 e w2) (hg : w.grownBy w1 (some g)) (hat : g1 = g ∨ w.heap.size ≤ g1) : AppP w l g e w2 := by
  obtain ⟨cap, g', e1, ho, hg2, hat2⟩ := h
  have s1 := hg.size
  refine ⟨cap, g', e1, ho, ⟨hg2.os.trans hg.os, hg2.tape.trans hg.tape, hg2.output.trans hg.output, Nat.le_trans hg.size hg2.size, fun k hk hne => ?_⟩, ?_⟩
  · rw [hg2.block k (by omega) ?_]
    · exact hg.block k hk hne
    · intro e
      simp only [Option.some.injEq] at e
      subst e
      rcases hat with rfl | hat
      · exact hne rfl
      · omega
  · rcases hat2 with rfl | hat2
    · exact hat
    · exact .inr (by omega)

set_option maxHeartbeats 400000 in
theorem appendInt16_51 (v : Value) (l : List UInt8) (g : Nat) (i : Int) (w : World) (h : w.cell? ⟨2, 15, none⟩ = some (.int .u8 4)) (hown : OB w v l g) (hl : l.length ≤ 900) (hl0 : 0 < l.length) (hi0 : -2147483648 ≤ i) (hi1 : i ≤ 2147483647) (hg2 : 2 < w.heap.size) (hg3 : 2 < g) :
    Calls Tryd.prog 51 #[v, .int .i64 i, .int .i64 16] w fun e w' => AppP w (l ++ hexI i) g e w' := by
  have HO := hid hown
  clear hown
  by_cases hneg : i < 0
  · obtain ⟨n, rfl⟩ : ∃ n : Nat, i = -(n : Int) := ⟨(-i).toNat, by omega⟩
    have hw := wrap_neg n (by omega)
    have HX : Hid (hexI (-(n : Int)) = 45 :: hexN n) := by
      show _ = _
      rw [hexI, if_pos hneg]
      congr 2
      omega
    go_enter Tryd.func51, Tryd.ntmps51
    go_wp2_with (at_builtin; refine wpList_app rfl _ _ rfl Tryd.underlying67 info5 rfl l.length (u8s l) g _ rfl (HO.out.kept (Below.heap_alloc _ _ _ (HO.out.lt (by omega) hl0))) 1 [.int .u8 45] _ rfl (Src.ofSlice _ Tryd.underlying67 _ _ _ _ rfl (cell_one_new _ _ _) (by simp [Value.oneCell'])) (by omega) (by omega) (by simp only [maxLen]; omega) ?_)
    intro cap1 w1 g1 ho1 hgr1 hat1
    have ho1' : OB w1 (.slice (some ⟨g1, 0, none⟩) (l.length + 1) cap1) (l ++ [45]) g1 := by
      unfold OB
      rw [List.length_append, u8s_append]
      exact ho1
    have hgw : w.grownBy w1 (some g) := (World.grownBy_alloc _ _ _).trans hgr1
    have h1 : w1.cell? ⟨2, 15, none⟩ = some (.int .u8 4) := hgw.cell h (by simp; omega)
    have HO1 := hid ho1'
    have HG1 := hid hgw
    have HAT1 := hid hat1
    clear ho1 ho1' hgr1 hgw hat1
    go_wp2_with fail
    refine (appendUint16 _ (l ++ [45]) g1 n _ h1 HO1.out (by simp; omega) (by simp) (by omega) (by have := HG1.out.size; omega)).mono ?_
    rintro e w2 hp
    have hp2 := hp.trans HG1.out (by rcases HAT1.out with e | e; exact .inl e; exact .inr (by omega))
    obtain ⟨cap2, g2, rfl, ho2, hgr2, hat2⟩ := hp2
    rw [List.append_assoc, List.singleton_append, ← HX.out] at ho2 ⊢
    generalize hln : (l ++ hexI (-(n : Int))).length = ln at *
    have HLN := hid hln
    have HO2 := hid ho2
    have HG2 := hid hgr2
    clear hln ho2 hgr2 hp
    go_wp2
    go_ret
    exact ⟨cap2, g2, by rw [HLN.out]; rfl, by rw [HLN.out]; exact HO2.out, HG2.out, hat2⟩
  · obtain ⟨n, rfl⟩ := Int.eq_ofNat_of_zero_le (show 0 ≤ i by omega)
    have HX : Hid (hexI (n : Int) = hexN n) := by
      show _ = _
      rw [hexI, if_neg hneg]
      congr 1
    go_enter Tryd.func51, Tryd.ntmps51
    go_wp2_with fail
    refine (appendUint16 _ l g n _ h HO.out (by omega) hl0 (by omega) hg2).mono ?_
    rintro e w2 hp
    rw [← HX.out] at hp
    obtain ⟨cap2, g2, rfl, ho2, hgr2, hat2⟩ := hp
    generalize hln : (l ++ hexI (n : Int)).length = ln at *
    have HLN := hid hln
    have HO2 := hid ho2
    have HG2 := hid hgr2
    clear hln ho2 hgr2
    go_wp2
    go_ret
    exact ⟨cap2, g2, by rw [HLN.out]; rfl, by rw [HLN.out]; exact HO2.out, HG2.out, hat2⟩

theorem appendInt16 (v : Value) (l : List UInt8) (g : Nat) (i : Int) (w : World) (h : w.cell? ⟨2, 15, none⟩ = some (.int .u8 4)) (hown : OB w v l g) (hl : l.length ≤ 900) (hl0 : 0 < l.length) (hi0 : -2147483648 ≤ i) (hi1 : i ≤ 2147483647) (hg2 : 2 < w.heap.size) (hg3 : 2 < g) :
    Calls Tryd.prog 45 #[v, .int .i64 i, .int .i64 16] w fun e w' => AppP w (l ++ hexI i) g e w' := by
  have HO := hid hown
  clear hown
  go_enter Tryd.func45, Tryd.ntmps45
  go_wp2_with fail
  refine (appendInt16_51 _ l g i _ h HO.out hl hl0 hi0 hi1 hg2 hg3).mono ?_
  rintro e w2 ⟨cap2, g2, rfl, ho2, hgr2, hat2⟩
  generalize hln : (l ++ hexI i).length = ln at *
  have HLN := hid hln
  have HO2 := hid ho2
  have HG2 := hid hgr2
  clear hln ho2 hgr2
  go_wp2
  go_ret
  exact ⟨cap2, g2, by rw [HLN.out]; rfl, by rw [HLN.out]; exact HO2.out, HG2.out, hat2⟩

end Go.Proofs.Qxb6604459aDoor
