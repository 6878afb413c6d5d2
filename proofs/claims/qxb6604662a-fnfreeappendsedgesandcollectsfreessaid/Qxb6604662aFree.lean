import Derived.Test.Qxb6604662aCount
import Derived.Carry
namespace Go.Proofs.Qxb6604662a
open Go.RowKit

/-- A re-creation at block x: its map of frees (none yet, or block m) holds M; its edges are n refs, the cells es, at the head of block gl. Nothing of it lies below B. -/
structure Rec (B : Nat) (w : World) (x gl : Nat) (mv V : Value) (M : List Rf) (n : Nat) (es : List Value) : Prop where
  row : Row w x 44 [.slice none 0 0, .map none, .slice none 0 0, mv, V, .map none, .slice none 0 0]
  map : (mv = .map none ∧ M = []) ∨ ∃ m, mv = .map (some m) ∧ w.heap[m]? = some (.map (fents 0 M).toArray M.length) ∧ m ≠ x ∧ m ≠ gl ∧ m < w.heap.size ∧ B ≤ m
  own : Own w V 2 n es gl
  xg : gl ≠ x
  gll : gl < w.heap.size
  bx : B ≤ x
  bg : B ≤ gl

theorem Rec.kept {B : Nat} {w w' : World} {x gl : Nat} {mv V : Value} {M : List Rf} {n : Nat} {es : List Value} (h : Rec B w x gl mv V M n es) (hb : Below w.heap.size w w') : Rec B w' x gl mv V M n es := by
  refine ⟨h.row.below hb h.row.lt, ?_, h.own.kept (hb.block _ h.gll), h.xg, Nat.lt_of_lt_of_le h.gll hb.size, h.bx, h.bg⟩
  rcases h.map with h1 | ⟨m, e, h1, h2, h3, h4, h5⟩
  · exact .inl h1
  · exact .inr ⟨m, e, (hb.block m h4).trans h1, h2, h3, Nat.lt_of_lt_of_le h4 hb.size, h5⟩

theorem newRec (a : Option Addr) (n c : Nat) (w : World) :
    Calls Try.prog 8 #[.slice a n c] w fun e w' => e = .returned (.pointer (some ⟨w.heap.size, 0, none⟩)) ∧ Below w.heap.size w w' ∧ Row w' w.heap.size 44 [.slice none 0 0, .map none, .slice none 0 0, .map none, .slice a n c, .map none, .slice none 0 0] := by
  go_enter Try.func8, Try.ntmps8
  go_wp2
  go_ret
  exact ⟨rfl, (Below.refl _ _).alloc (Nat.le_refl _) _, row_new_at _ _ _ _ rfl⟩

theorem edges (x : Nat) (a : Option Addr) (n c : Nat) (w : World) (h : w.cell? ⟨x, 4, none⟩ = some (.slice a n c)) :
    Calls Try.prog 10 #[.pointer (some ⟨x, 0, none⟩)] w fun e w' => e = .returned (.slice a n c) ∧ w' = w := by
  go_enter Try.func10, Try.ntmps10
  go_wp2
  go_ret
  exact ⟨rfl, rfl⟩

theorem freesW (x : Nat) (m : Option Nat) (w : World) (h : w.cell? ⟨x, 3, none⟩ = some (.map m)) :
    Calls Try.prog 11 #[.pointer (some ⟨x, 0, none⟩)] w fun e w' => e = .returned (.map m) ∧ w' = w := by
  go_enter Try.func11, Try.ntmps11
  go_wp2
  go_ret
  exact ⟨rfl, rfl⟩

theorem eql35 (r : Option Nat) (w : World) : (binOp .eql 35 (.map r) (.map none)).run Try.prog w = .ok (.bool r.isNone) w := by
  have h : ∀ d, (Op.equalIn (d + 1) 35 (.map r) (.map none)).run Try.prog w = .ok r.isNone w := by
    intro d
    cases r <;> simp [Op.equalIn, run_underlying Try.underlying35]
  have := h 9999
  simp [binOp, Op.equal, Op.maxDepth, this]

def FreeP (B : Nat) (w : World) (x : Nat) (M : List Rf) (n : Nat) (es : List Value) (y : Rf) (e : Ending) (w' : World) : Prop :=
  (∃ v, e = .returned v) ∧ Below B w w' ∧ ∃ gl mv V, Rec B w' x gl mv V (addF M y) (n + 1) (es ++ [.string y.1, .string y.2])

set_option maxRecDepth 100000 in
set_option maxHeartbeats 1000000 in
theorem freeSome (B : Nat) (w : World) (x gl m : Nat) (V : Value) (M : List Rf) (n : Nat) (es : List Value) (y : Rf) (h : Rec B w x gl (.map (some m)) V M n es) (hn : n ≤ 1048576) (hnil : V ≠ .slice none 0 0) (hB : B ≤ w.heap.size) :
    Calls Try.prog 14 #[.pointer (some ⟨x, 0, none⟩), .agg #[.string y.1, .string y.2]] w fun e w' => FreeP B w x M n es y e w' := by
  obtain ⟨hmap, hmx, hmg, hml, hbm⟩ : w.heap[m]? = some (.map (fents 0 M).toArray M.length) ∧ m ≠ x ∧ m ≠ gl ∧ m < w.heap.size ∧ B ≤ m := by
    rcases h.map with ⟨e, _⟩ | ⟨m', e, h1⟩
    · cases e
    · cases e; exact h1
  have hb1 : Below w.heap.size w (w.alloc (.cells #[.string y.1, .string y.2] 28)) := (Below.refl _ _).alloc (Nat.le_refl _) _
  have HA : Hid (Row (w.alloc (.cells #[.string y.1, .string y.2] 28)) w.heap.size 28 [.string y.1, .string y.2]) := row_new_at _ _ _ _ rfl
  have hxl0 := h.row.lt
  have HX := hid (h.row.below hb1 hxl0)
  have HM := hid ((hb1.block m hml).trans hmap)
  have HO := hid (h.own.kept (hb1.block gl h.gll))
  have HB := hid (hb1.mono hB)
  have hxg := h.xg
  have hgl0 := h.gll
  have hbx := h.bx
  have hbg := h.bg
  have hAm : w.heap.size ≠ m := by omega
  have hs2 : (w.alloc (.cells #[.string y.1, .string y.2] 28)).heap.size = w.heap.size + 1 := by simp
  have hx3' := HX.out.cell (i := 3) rfl
  clear h hmap hb1
  have hq := fun w => eql35 (some m) w
  simp only [Option.isNone_some] at hq
  go_enter Try.func14, Try.ntmps14
  go_wp2
  clear hx3'
  generalize (w.alloc (.cells #[.string y.1, .string y.2] 28)) = w2 at *
  obtain ⟨cV, hV, hcV⟩ : ∃ c, V = .slice (some ⟨gl, 0, none⟩) n c ∧ n ≤ c := by
    rcases HO.out.2 with ⟨e1, e2⟩ | ⟨c, e1, e2, _⟩
    · exact absurd e1 hnil
    · exact ⟨c, e1, e2⟩
  subst hV
  have hx3 := HX.out.cell (i := 3) rfl
  have hA0 := HA.out.cell (i := 0) rfl
  have hA1 := HA.out.cell (i := 1) rfl
  have hup := run_update (w := w2.drew) (m := m) y (M := M) HM.out
  unfold rv at hup
  go_wp2
  go_region
  clear hup hx3 hA0 hA1
  have hm2 : m < w2.drew.heap.size := by show m < w2.heap.size; omega
  have HX3 : Hid (Row (putF m w2.drew (addF M y)) x 44 [.slice none 0 0, .map none, .slice none 0 0, .map (some m), .slice (some ⟨gl, 0, none⟩) n cV, .map none, .slice none 0 0]) := (putF_ne (w := w2.drew) (addF M y) (Ne.symm hmx)).trans HX.out
  have HM3 := hid (putF_at (w := w2.drew) (addF M y) hm2)
  have HO3 : Hid (Own (putF m w2.drew (addF M y)) (.slice (some ⟨gl, 0, none⟩) n cV) 2 n es gl) := HO.out.kept (putF_ne (w := w2.drew) (addF M y) (Ne.symm hmg))
  have HA3 : Hid (Row (putF m w2.drew (addF M y)) w.heap.size 28 [.string y.1, .string y.2]) := (putF_ne (w := w2.drew) (addF M y) hAm).trans HA.out
  have HB3 : Hid (Below B w (putF m w2.drew (addF M y))) := ⟨HB.out.os, HB.out.tape, HB.out.output, by rw [putF_size]; exact HB.out.size, fun q hq => (putF_ne (w := w2.drew) (addF M y) (by omega)).trans (HB.out.block q hq)⟩
  have hs3 : (putF m w2.drew (addF M y)).heap.size = w2.heap.size := putF_size _ _ _
  clear HX HM HO HA HB hm2
  generalize putF m w2.drew (addF M y) = w3 at *
  have hx4 := HX3.out.cell (i := 4) rfl
  have hx4a := (HX3.out.alloc (.cells #[.string y.1, .string y.2] 28)).cell (i := 4) rfl
  have hA0 := HA3.out.cell (i := 0) rfl
  have hA1 := HA3.out.cell (i := 1) rfl
  have hxl := HX3.out.lt
  have hal := HA3.out.lt
  have HOA : Hid (Own (w3.alloc (.cells #[.string y.1, .string y.2] 28)).drew (.slice (some ⟨gl, 0, none⟩) n cV) 2 n es gl) := Own.kept (w := w3) HO3.out (Below.heap_alloc w3 _ _ (by omega))
  have HSA : Hid (Src Try.prog 2 26 (.slice (some ⟨w3.heap.size, 0, none⟩) 1 1) 1 [.string y.1, .string y.2] (w3.alloc (.cells #[.string y.1, .string y.2] 28)).drew) := by
    refine Src.ofSlice _ Try.underlying26 ⟨w3.heap.size, 0, none⟩ 1 1 [.string y.1, .string y.2] rfl ?_ (by simp [Value.oneCell'])
    intro j u hu
    rw [Addr.add_lit, Nat.zero_add]
    have hr : Row (w3.alloc (.cells #[.string y.1, .string y.2] 28)) w3.heap.size 28 [.string y.1, .string y.2] := row_new_at _ _ _ _ rfl
    exact hr.drew.cell hu
  have HLM : Hid ((n + 1) * 32 ≤ 140737488355328) := by show _ ≤ _; omega
  have HM1 : Hid (n + 1 ≤ maxLen) := by show _ ≤ _; simp only [maxLen]; omega
  have HXG : Hid (some x ≠ some gl) := by show _ ≠ _; simp; omega
  go_wp2
  go_region_law (first
      | (refine step_app rfl _ _ rfl Try.underlying26 info28 rfl n es gl (.slice (some ⟨gl, 0, none⟩) n cV) ?_ HOA.out 1 [.string y.1, .string y.2] (.slice (some ⟨w3.heap.size, 0, none⟩) 1 1) ?_ HSA.out (Nat.lt_succ_self 0) HLM.out HM1.out ?_
         · first | (simp [Act.eval]; done) | (simp [Act.eval, Act.put]; done)
         · first | (simp [Act.eval]; done) | (simp [Act.eval, Act.put]; done)
         intro cap4 w4 g4 ho4 hgr4 hat4
         have HO4 := hid ho4
         have HG4 := hid ((World.grownBy_alloc w3 (.cells #[.string y.1, .string y.2] 28) (some gl)).trans (grown_drew hgr4))
         have HAT4 : Hid (g4 = gl ∨ w3.heap.size ≤ g4) := by rcases hat4 with e | e; exact .inl e; exact .inr (by rw [e]; simp)
         clear ho4 hgr4 hat4
         have HX4 := hid (HX3.out.grown HG4.out HXG.out)
         have hx44 := HX4.out.cell (i := 4) rfl
         have hx4f := HX4.out.frozen 4))
  all_goals
    have hgx : g4 ≠ x := by rcases HAT4.out with e | e <;> omega
    have hgm : g4 ≠ m := by rcases HAT4.out with e | e <;> omega
    have hgl4 : g4 < w4.heap.size := HO4.out.lt (by omega) (by omega)
    have hs4 := HG4.out.size
    have HT : Hid (Rec B (w4.setCell ⟨x, 4, none⟩ (.slice (some ⟨g4, 0, none⟩) (n + 1) cap4)) x g4 (.map (some m)) (.slice (some ⟨g4, 0, none⟩) (n + 1) cap4) (addF M y) (n + 1) (es ++ [.string y.1, .string y.2])) := by
      refine ⟨HX4.out.set 4 _, .inr ⟨m, rfl, ?_, hmx, Ne.symm hgm, by simp; omega, hbm⟩, HO4.out.kept (Below.heap_setCell _ _ _ _ (by simpa using hgx)), hgx, by simp; omega, hbx, by rcases HAT4.out with e | e <;> omega⟩
      rw [Below.heap_setCell _ _ _ _ (by simpa using hmx), HG4.out.block m (by omega) (by simp; omega)]
      exact HM3.out
    have HBF : Hid (Below B w (w4.setCell ⟨x, 4, none⟩ (.slice (some ⟨g4, 0, none⟩) (n + 1) cap4))) := (HB3.out.grown HG4.out (by omega) (fun k hk => by simp at hk; omega)).setCell hbx _
    clear hx44 hx4f HX4 HO4 hx4 hx4a hA0 hA1
    go_wp2
    refine bodyPost_ret (v := .tuple #[]) ?_ rfl ⟨⟨_, rfl⟩, ⟨HBF.out.os, HBF.out.tape, HBF.out.output, HBF.out.size, HBF.out.block⟩, g4, _, _, ⟨HT.out.row, HT.out.map, HT.out.own.kept rfl, HT.out.xg, HT.out.gll, HT.out.bx, HT.out.bg⟩⟩
    simp [results, Try.f14]

set_option maxRecDepth 100000 in
set_option maxHeartbeats 1000000 in
theorem freeNil (B : Nat) (w : World) (x gl : Nat) (V : Value) (M : List Rf) (hM : M = []) (n : Nat) (es : List Value) (y : Rf) (h : Rec B w x gl (.map none) V M n es) (hn : n ≤ 1048576) (hnil : V ≠ .slice none 0 0) (hB : B ≤ w.heap.size) :
    Calls Try.prog 14 #[.pointer (some ⟨x, 0, none⟩), .agg #[.string y.1, .string y.2]] w fun e w' => FreeP B w x M n es y e w' := by
  have hmm := @run_makeMap Try.prog
  have hxl0 := h.row.lt
  have hxg := h.xg
  have hgl0 := h.gll
  have hbx := h.bx
  have hbg := h.bg
  have hs0 : (w.setCell ⟨x, 3, none⟩ (.map (some (w.heap.size + 1)))).heap.size = w.heap.size := by simp
  have HX : Hid (Row (((w.setCell ⟨x, 3, none⟩ (.map (some (w.heap.size + 1)))).alloc (.cells #[.string y.1, .string y.2] 28)).alloc (.map #[] 0)) x 44 [.slice none 0 0, .map none, .slice none 0 0, .map (some (w.heap.size + 1)), V, .map none, .slice none 0 0]) := ((h.row.set 3 _).alloc _).alloc _
  have HA : Hid (Row (((w.setCell ⟨x, 3, none⟩ (.map (some (w.heap.size + 1)))).alloc (.cells #[.string y.1, .string y.2] 28)).alloc (.map #[] 0)) w.heap.size 28 [.string y.1, .string y.2]) := (row_new_at _ 28 [.string y.1, .string y.2] _ hs0.symm).alloc _
  have HM : Hid ((((w.setCell ⟨x, 3, none⟩ (.map (some (w.heap.size + 1)))).alloc (.cells #[.string y.1, .string y.2] 28)).alloc (.map #[] 0)).heap[w.heap.size + 1]? = some (.map (fents 0 M).toArray M.length)) := by
    show _ = _
    rw [hM]
    have := heap_alloc2_new (w.setCell ⟨x, 3, none⟩ (.map (some (w.heap.size + 1)))) (.cells #[.string y.1, .string y.2] 28) (.map #[] 0)
    rw [hs0] at this
    exact this
  have HO : Hid (Own (((w.setCell ⟨x, 3, none⟩ (.map (some (w.heap.size + 1)))).alloc (.cells #[.string y.1, .string y.2] 28)).alloc (.map #[] 0)) V 2 n es gl) := h.own.kept (((Below.heap_alloc _ _ _ (by simp; omega)).trans (Below.heap_alloc _ _ _ (by simp; omega))).trans (Below.heap_setCell _ _ _ _ (by simpa using hxg)))
  have HB : Hid (Below B w (((w.setCell ⟨x, 3, none⟩ (.map (some (w.heap.size + 1)))).alloc (.cells #[.string y.1, .string y.2] 28)).alloc (.map #[] 0))) := ((((Below.refl B w).setCell hbx _).alloc (by simp; omega) _).alloc (by simp; omega) _)
  have hs2 : (((w.setCell ⟨x, 3, none⟩ (.map (some (w.heap.size + 1)))).alloc (.cells #[.string y.1, .string y.2] 28)).alloc (.map #[] 0)).heap.size = w.heap.size + 2 := by simp
  have hmx : w.heap.size + 1 ≠ x := by omega
  have hmg : w.heap.size + 1 ≠ gl := by omega
  have hbm : B ≤ w.heap.size + 1 := by omega
  have hAm : w.heap.size ≠ w.heap.size + 1 := by omega
  have hx3' := (h.row.alloc (.cells #[.string y.1, .string y.2] 28)).cell (i := 3) rfl
  have hx3'' := h.row.cell (i := 3) rfl
  have hx3f := h.row.frozen 3
  clear h hs0
  have hq := fun w => eql35 none w
  simp only [Option.isNone_none] at hq
  go_enter Try.func14, Try.ntmps14
  go_wp2
  clear hx3' hx3'' hx3f hmm
  generalize (((w.setCell ⟨x, 3, none⟩ (.map (some (w.heap.size + 1)))).alloc (.cells #[.string y.1, .string y.2] 28)).alloc (.map #[] 0)) = w2 at *
  obtain ⟨m, hmeq⟩ : ∃ m, m = w.heap.size + 1 := ⟨_, rfl⟩
  have hml2 : m < w2.heap.size := by omega
  rw [← hmeq] at HX HM hmx hmg hbm hAm ⊢
  clear hmeq
  clear hM
  obtain ⟨cV, hV, hcV⟩ : ∃ c, V = .slice (some ⟨gl, 0, none⟩) n c ∧ n ≤ c := by
    rcases HO.out.2 with ⟨e1, e2⟩ | ⟨c, e1, e2, _⟩
    · exact absurd e1 hnil
    · exact ⟨c, e1, e2⟩
  subst hV
  have hx3 := HX.out.cell (i := 3) rfl
  have hA0 := HA.out.cell (i := 0) rfl
  have hA1 := HA.out.cell (i := 1) rfl
  have hup := run_update (w := w2.drew) (m := m) y (M := M) HM.out
  unfold rv at hup
  go_wp2
  go_region
  clear hup hx3 hA0 hA1
  have hm2 : m < w2.drew.heap.size := by show m < w2.heap.size; omega
  have HX3 : Hid (Row (putF m w2.drew (addF M y)) x 44 [.slice none 0 0, .map none, .slice none 0 0, .map (some m), .slice (some ⟨gl, 0, none⟩) n cV, .map none, .slice none 0 0]) := (putF_ne (w := w2.drew) (addF M y) (Ne.symm hmx)).trans HX.out
  have HM3 := hid (putF_at (w := w2.drew) (addF M y) hm2)
  have HO3 : Hid (Own (putF m w2.drew (addF M y)) (.slice (some ⟨gl, 0, none⟩) n cV) 2 n es gl) := HO.out.kept (putF_ne (w := w2.drew) (addF M y) (Ne.symm hmg))
  have HA3 : Hid (Row (putF m w2.drew (addF M y)) w.heap.size 28 [.string y.1, .string y.2]) := (putF_ne (w := w2.drew) (addF M y) hAm).trans HA.out
  have HB3 : Hid (Below B w (putF m w2.drew (addF M y))) := ⟨HB.out.os, HB.out.tape, HB.out.output, by rw [putF_size]; exact HB.out.size, fun q hq => (putF_ne (w := w2.drew) (addF M y) (by omega)).trans (HB.out.block q hq)⟩
  have hs3 : (putF m w2.drew (addF M y)).heap.size = w2.heap.size := putF_size _ _ _
  clear HX HM HO HA HB hm2
  generalize putF m w2.drew (addF M y) = w3 at *
  have hx4 := HX3.out.cell (i := 4) rfl
  have hx4a := (HX3.out.alloc (.cells #[.string y.1, .string y.2] 28)).cell (i := 4) rfl
  have hA0 := HA3.out.cell (i := 0) rfl
  have hA1 := HA3.out.cell (i := 1) rfl
  have hxl := HX3.out.lt
  have hal := HA3.out.lt
  have HOA : Hid (Own (w3.alloc (.cells #[.string y.1, .string y.2] 28)).drew (.slice (some ⟨gl, 0, none⟩) n cV) 2 n es gl) := Own.kept (w := w3) HO3.out (Below.heap_alloc w3 _ _ (by omega))
  have HSA : Hid (Src Try.prog 2 26 (.slice (some ⟨w3.heap.size, 0, none⟩) 1 1) 1 [.string y.1, .string y.2] (w3.alloc (.cells #[.string y.1, .string y.2] 28)).drew) := by
    refine Src.ofSlice _ Try.underlying26 ⟨w3.heap.size, 0, none⟩ 1 1 [.string y.1, .string y.2] rfl ?_ (by simp [Value.oneCell'])
    intro j u hu
    rw [Addr.add_lit, Nat.zero_add]
    have hr : Row (w3.alloc (.cells #[.string y.1, .string y.2] 28)) w3.heap.size 28 [.string y.1, .string y.2] := row_new_at _ _ _ _ rfl
    exact hr.drew.cell hu
  have HLM : Hid ((n + 1) * 32 ≤ 140737488355328) := by show _ ≤ _; omega
  have HM1 : Hid (n + 1 ≤ maxLen) := by show _ ≤ _; simp only [maxLen]; omega
  have HXG : Hid (some x ≠ some gl) := by show _ ≠ _; simp; omega
  go_wp2
  go_region_law (first
      | (refine step_app rfl _ _ rfl Try.underlying26 info28 rfl n es gl (.slice (some ⟨gl, 0, none⟩) n cV) ?_ HOA.out 1 [.string y.1, .string y.2] (.slice (some ⟨w3.heap.size, 0, none⟩) 1 1) ?_ HSA.out (Nat.lt_succ_self 0) HLM.out HM1.out ?_
         · first | (simp [Act.eval]; done) | (simp [Act.eval, Act.put]; done)
         · first | (simp [Act.eval]; done) | (simp [Act.eval, Act.put]; done)
         intro cap4 w4 g4 ho4 hgr4 hat4
         have HO4 := hid ho4
         have HG4 := hid ((World.grownBy_alloc w3 (.cells #[.string y.1, .string y.2] 28) (some gl)).trans (grown_drew hgr4))
         have HAT4 : Hid (g4 = gl ∨ w3.heap.size ≤ g4) := by rcases hat4 with e | e; exact .inl e; exact .inr (by rw [e]; simp)
         clear ho4 hgr4 hat4
         have HX4 := hid (HX3.out.grown HG4.out HXG.out)
         have hx44 := HX4.out.cell (i := 4) rfl
         have hx4f := HX4.out.frozen 4))
  all_goals
    have hgx : g4 ≠ x := by rcases HAT4.out with e | e <;> omega
    have hgm : g4 ≠ m := by rcases HAT4.out with e | e <;> omega
    have hgl4 : g4 < w4.heap.size := HO4.out.lt (by omega) (by omega)
    have hs4 := HG4.out.size
    have HT : Hid (Rec B (w4.setCell ⟨x, 4, none⟩ (.slice (some ⟨g4, 0, none⟩) (n + 1) cap4)) x g4 (.map (some m)) (.slice (some ⟨g4, 0, none⟩) (n + 1) cap4) (addF M y) (n + 1) (es ++ [.string y.1, .string y.2])) := by
      refine ⟨HX4.out.set 4 _, .inr ⟨m, rfl, ?_, hmx, Ne.symm hgm, by simp; omega, hbm⟩, HO4.out.kept (Below.heap_setCell _ _ _ _ (by simpa using hgx)), hgx, by simp; omega, hbx, by rcases HAT4.out with e | e <;> omega⟩
      rw [Below.heap_setCell _ _ _ _ (by simpa using hmx), HG4.out.block m (by omega) (by simp; omega)]
      exact HM3.out
    have HBF : Hid (Below B w (w4.setCell ⟨x, 4, none⟩ (.slice (some ⟨g4, 0, none⟩) (n + 1) cap4))) := (HB3.out.grown HG4.out (by omega) (fun k hk => by simp at hk; omega)).setCell hbx _
    clear hx44 hx4f HX4 HO4 hx4 hx4a hA0 hA1
    go_wp2
    refine bodyPost_ret (v := .tuple #[]) ?_ rfl ⟨⟨_, rfl⟩, ⟨HBF.out.os, HBF.out.tape, HBF.out.output, HBF.out.size, HBF.out.block⟩, g4, _, _, ⟨HT.out.row, HT.out.map, HT.out.own.kept rfl, HT.out.xg, HT.out.gll, HT.out.bx, HT.out.bg⟩⟩
    simp [results, Try.f14]

theorem free (B : Nat) (w : World) (x gl : Nat) (mv V : Value) (M : List Rf) (n : Nat) (es : List Value) (y : Rf) (h : Rec B w x gl mv V M n es) (hn : n ≤ 1048576) (hnil : V ≠ .slice none 0 0) (hB : B ≤ w.heap.size) :
    Calls Try.prog 14 #[.pointer (some ⟨x, 0, none⟩), .agg #[.string y.1, .string y.2]] w fun e w' => FreeP B w x M n es y e w' := by
  rcases h.map with ⟨rfl, rfl⟩ | ⟨m, rfl, _⟩
  · exact freeNil B w x gl V [] rfl n es y h hn hnil hB
  · exact freeSome B w x gl m V M n es y h hn hnil hB

theorem freeT (B : Nat) (w : World) (x gl : Nat) (mv V : Value) (M : List Rf) (n : Nat) (es : List Value) (y : Rf) (h : Rec B w x gl mv V M n es) (hn : n ≤ 1048576) (hnil : V ≠ .slice none 0 0) (hB : B ≤ w.heap.size) :
    Calls Try.prog 9 #[.pointer (some ⟨x, 0, none⟩), .agg #[.string y.1, .string y.2]] w fun e w' => FreeP B w x M n es y e w' := by
  have hb1 : Below w.heap.size w (w.alloc (.cells #[.string y.1, .string y.2] 28)) := (Below.refl _ _).alloc (Nat.le_refl _) _
  have HI := hid (free B _ x gl mv V M n es y (h.kept hb1) hn hnil (by simp; omega))
  have HB1 := hid (hb1.mono hB)
  clear h hb1
  go_enter Try.func9, Try.ntmps9
  go_wp2_with fail
  refine HI.out.mono ?_
  rintro e w' ⟨⟨v, rfl⟩, hb, hr⟩
  have HB2 := hid (HB1.out.trans hb)
  have HR := hid hr
  clear hb hr HI HB1
  go_wp2
  refine bodyPost_ret (v := .tuple #[]) ?_ rfl ⟨⟨_, rfl⟩, HB2.out, HR.out⟩
  simp [results, Try.f9]

end Go.Proofs.Qxb6604662a
