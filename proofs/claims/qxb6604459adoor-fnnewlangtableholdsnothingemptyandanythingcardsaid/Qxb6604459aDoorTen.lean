import Derived.Test.Qxb6604459aDoorInt
namespace Go.Proofs.Qxb6604459aDoor
open Go.RowKit

theorem small2 (w : World) : Calls Tryd.prog 41 #[.int .i64 2] w fun e w' => e = .returned (.string ⟨#[50]⟩) ∧ w' = w := by
  go_enter Tryd.func41, Tryd.ntmps41
  go_wp2
  go_ret
  exact ⟨by congr 2, rfl⟩

theorem byteCells_two : byteCells ⟨#[50]⟩ = [.int .u8 50] := rfl

theorem appendUint10 (v : Value) (l : List UInt8) (g : Nat) (w : World) (hown : OB w v l g) (hl : l.length ≤ 1000) :
    Calls Tryd.prog 54 #[v, .int .u64 2, .int .i64 10] w fun e w' => AppP w (l ++ [50]) g e w' := by
  have HO := hid hown
  clear hown
  go_enter Tryd.func54, Tryd.ntmps54
  go_wp2_with (first
    | (go_at_call 41; refine (small2 _).mono ?_; rintro e w' ⟨rfl, rfl⟩)
    | (at_builtin; refine wpList_app rfl _ _ rfl Tryd.underlying67 info5 rfl l.length (u8s l) g _ rfl HO.out 1 [.int .u8 50] _ rfl (Src.ofString _ Tryd.underlying9 ⟨#[50]⟩) (by omega) (by omega) (by simp only [maxLen]; omega) ?_))
  intro cap' w2 g' ho hgr hat
  have ho' : OB w2 (.slice (some ⟨g', 0, none⟩) (l.length + 1) cap') (l ++ [50]) g' := by
    unfold OB
    rw [List.length_append, u8s_append]
    exact ho
  have HO2 := hid ho'
  have HG2 := hid hgr
  clear ho ho' hgr
  go_wp2
  go_ret
  exact ⟨cap', g', by rw [List.length_append]; rfl, by rw [List.length_append]; exact HO2.out, HG2.out, by rcases hat with e | e; exact .inl e; exact .inr (by omega)⟩

theorem appendInt10_51 (v : Value) (l : List UInt8) (g : Nat) (w : World) (hown : OB w v l g) (hl : l.length ≤ 1000) :
    Calls Tryd.prog 51 #[v, .int .i64 2, .int .i64 10] w fun e w' => AppP w (l ++ [50]) g e w' := by
  have HO := hid hown
  clear hown
  go_enter Tryd.func51, Tryd.ntmps51
  go_wp2_with fail
  refine (appendUint10 _ l g _ HO.out hl).mono ?_
  rintro e w2 ⟨cap2, g2, rfl, ho2, hgr2, hat2⟩
  generalize hln : (l ++ [(50 : UInt8)]).length = ln at *
  have HLN := hid hln
  have HO2 := hid ho2
  have HG2 := hid hgr2
  clear hln ho2 hgr2
  go_wp2
  go_ret
  exact ⟨cap2, g2, by rw [HLN.out]; rfl, by rw [HLN.out]; exact HO2.out, HG2.out, hat2⟩

theorem appendInt10 (v : Value) (l : List UInt8) (g : Nat) (w : World) (hown : OB w v l g) (hl : l.length ≤ 1000) :
    Calls Tryd.prog 45 #[v, .int .i64 2, .int .i64 10] w fun e w' => AppP w (l ++ [50]) g e w' := by
  have HO := hid hown
  clear hown
  go_enter Tryd.func45, Tryd.ntmps45
  go_wp2_with fail
  refine (appendInt10_51 _ l g _ HO.out hl).mono ?_
  rintro e w2 ⟨cap2, g2, rfl, ho2, hgr2, hat2⟩
  generalize hln : (l ++ [(50 : UInt8)]).length = ln at *
  have HLN := hid hln
  have HO2 := hid ho2
  have HG2 := hid hgr2
  clear hln ho2 hgr2
  go_wp2
  go_ret
  exact ⟨cap2, g2, by rw [HLN.out]; rfl, by rw [HLN.out]; exact HO2.out, HG2.out, hat2⟩

end Go.Proofs.Qxb6604459aDoor
