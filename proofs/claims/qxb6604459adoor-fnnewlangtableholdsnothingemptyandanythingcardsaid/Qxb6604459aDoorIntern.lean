import Derived.Test.Qxb6604459aDoorTab
namespace Go.Proofs.Qxb6604459aDoor
open Go.RowKit

def lcs (op : ByteArray) (ac asl : Option Addr) (nR cc nS cs : Nat) (nb : Bool) : List Value :=
  [.string op, .slice ac nR cc, .slice asl nS cs, .bool nb, .int .i32 0, .slice none 0 0, .bool false]

def InternP (w : World) (x m gl : Nat) (V : Value) (ks : List (List UInt8)) (ls : List Value) (any bytes : Int) (key : List UInt8) (lc : List Value) (d : Nat) (e : Ending) (w' : World) : Prop :=
  (∃ j : Nat, kfind key ks 0 = some (j, .int .i32 j) ∧ e = .returned (.int .i32 j) ∧ Below w.heap.size w w') ∨
  (key ∉ ks ∧ e = .returned (.int .i32 ks.length) ∧ (∃ gx, Fr w w' x m gx ∧ (gx = gl ∨ w.heap.size ≤ gx) ∧ (V = .slice none 0 0 → w.heap.size ≤ gx)) ∧ ∃ V' gl', Tab w' x m gl' V' (ks ++ [key]) (ls ++ lc) any (bytes + d) ∧ (gl' = gl ∨ w.heap.size ≤ gl') ∧ (V = .slice none 0 0 → w.heap.size ≤ gl'))

theorem conv_key {w : World} {l : List UInt8} {g cap : Nat} (h : OB w (.slice (some ⟨g, 0, none⟩) l.length cap) l g) : (convert 67 9 (.slice (some ⟨g, 0, none⟩) l.length cap)).run Tryd.prog w = .ok (kstr l) w := by
  refine run_convert_bytes_back (P := Tryd.prog) w 67 9 5 ⟨g, 0, none⟩ cap l Tryd.underlying67 Tryd.underlying5 Tryd.underlying9 fun j hj => ?_
  rw [Addr.add_lit, Nat.zero_add]
  refine Own.cell h ?_
  simp [u8s, hj]

set_option maxRecDepth 100000 in
set_option maxHeartbeats 1000000 in
theorem intern (op : ByteArray) (ac asl : Option Addr) (gc nR cc gs nS cs : Nat) (lo hi : Nat → Int) (nb : Bool) (x m gl : Nat) (V : Value) (ks : List (List UInt8)) (ls : List Value) (any : Int) (bytes : Nat) (key : List UInt8) (w : World)
    (hkey : key = (op.data.toList ++ rangesTo lo hi nR) ++ subsTo nS) (ht : Tab w x m gl V ks ls any bytes) (h : w.cell? ⟨2, 15, none⟩ = some (.int .u8 4)) (hg2 : 2 < w.heap.size)
    (hop : op.size ≤ 20) (hop0 : 0 < op.size) (hac : 0 < nR → ac = some ⟨gc, 0, none⟩) (hR : ∀ i, i < nR → w.cell? ⟨gc, i * 2, none⟩ = some (.int .i32 (lo i)) ∧ w.cell? ⟨gc, i * 2 + 1, none⟩ = some (.int .i32 (hi i)) ∧ -2147483648 ≤ lo i ∧ lo i ≤ 2147483647 ∧ -2147483648 ≤ hi i ∧ hi i ≤ 2147483647) (hnR : nR ≤ 1)
    (has : 0 < nS → asl = some ⟨gs, 0, none⟩) (hS : ∀ i, i < nS → w.cell? ⟨gs, i, none⟩ = some (.int .i32 2)) (hnS : nS ≤ 3) (hks : ks.length ≤ 100) (hby : bytes ≤ 100000)
    (hcase : (∃ j : Nat, kfind key ks 0 = some (j, .int .i32 j)) ∨ key ∉ ks) :
    Calls Tryd.prog 37 #[.pointer (some ⟨x, 0, none⟩), .agg #[.string op, .slice ac nR cc, .slice asl nS cs, .bool nb, .int .i32 0, .slice none 0 0, .bool false]] w fun e w' =>
      InternP w x m gl V ks ls any bytes key (lcs op ac asl nR cc nS cs nb) (300 + key.length + 4 * nS + 8 * nR) e w' := by
  have hgc : ∀ i, i < nR → gc < w.heap.size := fun i hi => World.block_lt_of_cell? _ _ (hR i hi).1
  have hgs : ∀ i, i < nS → gs < w.heap.size := fun i hi => World.block_lt_of_cell? _ _ (hS i hi)
  have hkl : key.length ≤ 100 ∧ 0 < key.length := by
    have e : op.data.size = op.size := rfl
    have := rangesTo_length lo hi nR
    have := subsTo_length nS
    rw [hkey, List.length_append, List.length_append, Array.length_toList]
    omega
  obtain ⟨hkl1, hkl2⟩ := hkl
  have HR := hid hR
  have HS := hid hS
  have HK := hid hkey
  have HGC := hid hgc
  have HGS := hid hgs
  have HC := hid hcase
  have HT := hid ht
  have hgl0 := ht.gl
  have hxl0 := ht.row.lt
  have hml0 := ht.ml
  have HAC := hid hac
  have HAS := hid has
  clear hR hS hkey hgc hgs hcase ht hac has
  have hb1 : Below w.heap.size w (w.alloc (.cells #[.string op, .slice ac nR cc, .slice asl nS cs, .bool nb, .int .i32 0, .slice none 0 0, .bool false] 62)) := (Below.refl _ _).alloc (Nat.le_refl _) _
  have hr1 : Row (w.alloc (.cells #[.string op, .slice ac nR cc, .slice asl nS cs, .bool nb, .int .i32 0, .slice none 0 0, .bool false] 62)) w.heap.size 62 (lcs op ac asl nR cc nS cs nb) := row_new_at _ _ _ _ rfl
  have hs1 : (w.alloc (.cells #[.string op, .slice ac nR cc, .slice asl nS cs, .bool nb, .int .i32 0, .slice none 0 0, .bool false] 62)).heap.size = w.heap.size + 1 := by simp
  go_enter Tryd.func37, Tryd.ntmps37
  go_wp2_with fail
  generalize (w.alloc (.cells #[.string op, .slice ac nR cc, .slice asl nS cs, .bool nb, .int .i32 0, .slice none 0 0, .bool false] 62)) = w1 at *
  refine (langKey op ac asl gc nR cc gs nS cs lo hi nb w1 ((hb1.cell (p := ⟨2, 15, none⟩) hg2).trans h) (by omega) hop hop0 HAC.out (fun i hi => ?_) hnR HAS.out (fun i hi => (hb1.cell (p := ⟨gs, i, none⟩) (HGS.out i hi)).trans (HS.out i hi)) hnS).mono ?_
  · obtain ⟨a1, a2, a3⟩ := HR.out i hi
    exact ⟨(hb1.cell (p := ⟨gc, i * 2, none⟩) (HGC.out i hi)).trans a1, (hb1.cell (p := ⟨gc, i * 2 + 1, none⟩) (HGC.out i hi)).trans a2, a3⟩
  intro e w2 hp
  rw [← HK.out] at hp
  obtain ⟨cap, g, rfl, ho, hb2, hg⟩ := hp
  have hb12 : Below w.heap.size w w2 := hb1.trans (hb2.mono (by omega))
  have HR2 := hid (hr1.below hb2 (by omega))
  have HT2 := hid (HT.out.below hb12)
  have hsz2 := hb2.size
  have HB2 := hid hb12
  have HO := hid ho
  clear hb1 hr1 hb2 hb12 ho HT HAC HAS HR HS HGC HGS HK h
  have hx0 := HT2.out.row.cell (i := 0) rfl
  have hx1 := HT2.out.row.cell (i := 1) rfl
  have hcv := conv_key (w := w2.drew) (HO.out.kept (w' := w2.drew) rfl)
  have hlk := run_lookup_at (w := w2.drew) (m := m) (k := key) (ks := ks) HT2.out.map
  rcases HC.out with ⟨j, hj⟩ | hnew
  · rw [hj] at hlk
    simp only [Option.map_some, Option.getD_some, Option.isSome_some] at hlk
    go_wp2
    go_region
    all_goals
      go_wp2
      go_ret
      exact .inl ⟨j, hj, rfl, HB2.out.drew⟩
  · rw [kfind_none key ks 0 hnew] at hlk
    simp only [Option.map_none, Option.getD_none, Option.isSome_none] at hlk
    obtain ⟨aV, cV, rfl⟩ : ∃ a c, V = .slice a ks.length c := by
      rcases HT2.out.own.2 with ⟨e1, e2⟩ | ⟨c, e1, _⟩
      · exact ⟨none, 0, by rw [e1, e2]⟩
      · exact ⟨_, c, e1⟩
    go_wp2
    go_region
    clear hlk hcv hx0 hx1
    have HT3 : Hid (Tab w2.drew x m gl (.slice aV ks.length cV) ks ls any bytes) := HT2.out.kept (w' := w2.drew) (Nat.le_refl _) rfl rfl rfl
    have HR3 : Hid (Row w2.drew w.heap.size 62 (lcs op ac asl nR cc nS cs nb)) := HR2.out.drew
    have HO3 : Hid (OB w2.drew (.slice (some ⟨g, 0, none⟩) key.length cap) key g) := HO.out.kept (w' := w2.drew) rfl
    have HB3 := hid HB2.out.drew
    have hsz3 : w1.heap.size ≤ w2.drew.heap.size := hsz2
    clear HT2 HR2 HO HB2 hsz2
    generalize w2.drew = w3 at *
    have hx0 := HT3.out.row.cell (i := 0) rfl
    have hA0 := HR3.out.cell (i := 0) rfl
    have hA1 := HR3.out.cell (i := 1) rfl
    have hA2 := HR3.out.cell (i := 2) rfl
    have hA3 := HR3.out.cell (i := 3) rfl
    have hA4 := HR3.out.cell (i := 4) rfl
    have hA5 := HR3.out.cell (i := 5) rfl
    have hA6 := HR3.out.cell (i := 6) rfl
    have hxl := HT3.out.row.lt
    have hw3 : w.heap.size < w3.heap.size := HR3.out.lt
    obtain ⟨ge, hge, hgn, hoa⟩ : ∃ ge, (ge = gl ∨ w3.heap.size < ge) ∧ (aV = none → w3.heap.size < ge) ∧ Own (w3.alloc (.cells #[.string op, .slice ac nR cc, .slice asl nS cs, .bool nb, .int .i32 0, .slice none 0 0, .bool false] 62)).drew (.slice aV ks.length cV) 7 ks.length ls ge := by
      cases aV with
      | none =>
        refine ⟨w3.heap.size + 1, .inr (by omega), fun _ => by omega, HT3.out.own.1, .inl ?_⟩
        rcases HT3.out.own.2 with e | ⟨c, e, _⟩
        · exact e
        · injection e with e1 e2 e3; cases e1
      | some a => exact ⟨gl, .inl rfl, (fun e => by cases e), Own.kept (w := w3) HT3.out.own (Below.heap_alloc w3 _ _ HT3.out.gl)⟩
    have HOA := hid hoa
    have HGN := hid hgn
    clear hoa hgn
    have HSA : Hid (Src Tryd.prog 7 45 (.slice (some ⟨w3.heap.size, 0, none⟩) 1 1) 1 (lcs op ac asl nR cc nS cs nb) (w3.alloc (.cells #[.string op, .slice ac nR cc, .slice asl nS cs, .bool nb, .int .i32 0, .slice none 0 0, .bool false] 62)).drew) := by
      refine Src.ofSlice _ Tryd.underlying45 ⟨w3.heap.size, 0, none⟩ 1 1 (lcs op ac asl nR cc nS cs nb) rfl ?_ (by simp [lcs, Value.oneCell'])
      intro j u hu
      rw [Addr.add_lit, Nat.zero_add]
      have hr : Row (w3.alloc (.cells #[.string op, .slice ac nR cc, .slice asl nS cs, .bool nb, .int .i32 0, .slice none 0 0, .bool false] 62)) w3.heap.size 62 (lcs op ac asl nR cc nS cs nb) := row_new_at _ _ _ _ rfl
      exact hr.drew.cell hu
    have HLM : Hid ((ks.length + 1) * 104 ≤ 140737488355328) := by show _ ≤ _; omega
    have HM1 : Hid (ks.length + 1 ≤ maxLen) := by show _ ≤ _; simp only [maxLen]; omega
    have HXG : Hid (some x ≠ some ge) := by show _ ≠ _; have := HT3.out.xg; simp; omega
    go_wp2
    go_region_law (first
        | (refine step_app rfl _ _ rfl Tryd.underlying45 info62 rfl ks.length ls ge (.slice aV ks.length cV) ?_ HOA.out 1 (lcs op ac asl nR cc nS cs nb) (.slice (some ⟨w3.heap.size, 0, none⟩) 1 1) ?_ HSA.out (Nat.lt_succ_self 0) HLM.out HM1.out ?_
           · first | (simp [Act.eval]; done) | (simp [Act.eval, Act.put]; done)
           · first | (simp [Act.eval]; done) | (simp [Act.eval, Act.put]; done)
           intro cap4 w4 g4 ho4 hgr4 hat4
           have HO4 := hid ho4
           have HG4 := hid ((World.grownBy_alloc w3 (.cells #[.string op, .slice ac nR cc, .slice asl nS cs, .bool nb, .int .i32 0, .slice none 0 0, .bool false] 62) (some ge)).trans (grown_drew hgr4))
           have HAT4 : Hid (g4 = ge ∨ w3.heap.size ≤ g4) := by rcases hat4 with e | e; exact .inl e; exact .inr (by rw [e]; simp)
           clear ho4 hgr4 hat4
           have HX4 := hid (HT3.out.row.grown HG4.out HXG.out)
           have hx40 := HX4.out.cell (i := 0) rfl
           have hx4f := HX4.out.frozen 0))
    all_goals
      have hgx : g4 ≠ x := by
        have := HT3.out.xg
        rcases HAT4.out with e | e <;> omega
      have hgm : g4 ≠ m := by
        have := HT3.out.mg
        have := HT3.out.ml
        rcases HAT4.out with e | e <;> omega
      have hgl4 : g4 < w4.heap.size := HO4.out.lt (by omega) (by omega)
      have hxm := HT3.out.xm
      have HX5 := hid (HX4.out.set 0 (.slice (some ⟨g4, 0, none⟩) (ks.length + 1) cap4))
      have hmb : w4.heap[m]? = w3.heap[m]? := HG4.out.block m HT3.out.ml (by have := HT3.out.mg; simp; omega)
      have HM5 : Hid ((w4.setCell ⟨x, 0, none⟩ (.slice (some ⟨g4, 0, none⟩) (ks.length + 1) cap4)).heap[m]? = some (.map (kents 0 ks).toArray ks.length)) := by
        show _ = _
        rw [Below.heap_setCell _ _ _ _ (by simpa using Ne.symm hxm), hmb]; exact HT3.out.map
      have HO5 : Hid (Own (w4.setCell ⟨x, 0, none⟩ (.slice (some ⟨g4, 0, none⟩) (ks.length + 1) cap4)) (.slice (some ⟨g4, 0, none⟩) (ks.length + 1) cap4) 7 (ks.length + 1) (ls ++ lcs op ac asl nR cc nS cs nb) g4) :=
        HO4.out.kept (Below.heap_setCell _ _ _ _ (by simpa using hgx))
      have HA5 : Hid (Row (w4.setCell ⟨x, 0, none⟩ (.slice (some ⟨g4, 0, none⟩) (ks.length + 1) cap4)) w.heap.size 62 (lcs op ac asl nR cc nS cs nb)) :=
        (HR3.out.grown HG4.out (by simp; omega)).set_other (by simp; omega) _
      have hgl3 : g < w3.heap.size := HO3.out.lt (by omega) hkl2
      have HK5 : Hid (OB (w4.setCell ⟨x, 0, none⟩ (.slice (some ⟨g4, 0, none⟩) (ks.length + 1) cap4)) (.slice (some ⟨g, 0, none⟩) key.length cap) key g) :=
        HO3.out.kept ((Below.heap_setCell _ _ _ _ (by simp; omega)).trans (HG4.out.block g hgl3 (by simp; omega)))
      have HF5 : Hid (Fr w (w4.setCell ⟨x, 0, none⟩ (.slice (some ⟨g4, 0, none⟩) (ks.length + 1) cap4)) x m ge) :=
        ⟨HG4.out.os.trans HB3.out.os, HG4.out.tape.trans HB3.out.tape, HG4.out.output.trans HB3.out.output, by have := HG4.out.size; have := HB3.out.size; simp; omega, fun q h1 h2 h3 h4 => ((Below.heap_setCell _ _ _ _ (by simpa using h2)).trans (HG4.out.block q (by omega) (by simpa using h4))).trans (HB3.out.block q h1)⟩
      have hs5 : w3.heap.size ≤ (w4.setCell ⟨x, 0, none⟩ (.slice (some ⟨g4, 0, none⟩) (ks.length + 1) cap4)).heap.size := by have := HG4.out.size; simp; omega
      have hg5 : g4 < (w4.setCell ⟨x, 0, none⟩ (.slice (some ⟨g4, 0, none⟩) (ks.length + 1) cap4)).heap.size := by simp; omega
      clear hx40 hx4f hx0 hA0 hA1 hA2 hA3 hA4 hA5 hA6 HX4 HO4 HT3 HR3 HO3 HG4 HOA HSA hmb hgl4
      generalize (w4.setCell ⟨x, 0, none⟩ (.slice (some ⟨g4, 0, none⟩) (ks.length + 1) cap4)) = w5 at *
      have hx1 := HX5.out.cell (i := 1) rfl
      have hcv := conv_key (w := w5.drew) (HK5.out.kept (w' := w5.drew) rfl)
      have hup := run_update_new (w := w5.drew) (m := m) (k := key) (ks := ks) HM5.out hnew
      go_wp2
      go_region
    all_goals
      have hm5 : m < w5.drew.heap.size := by show m < w5.heap.size; omega
      have HX6 : Hid (Row (putMap m w5.drew (ks ++ [key])) x 49 [.slice (some ⟨g4, 0, none⟩) (ks.length + 1) cap4, .map (some m), .int .i32 any, .int .i64 bytes, .int .i64 0, .bool false]) :=
        (putMap_ne (w := w5.drew) (ks ++ [key]) hxm).trans HX5.out
      have HM6 := hid (putMap_at (w := w5.drew) (ks ++ [key]) hm5)
      have HO6 : Hid (Own (putMap m w5.drew (ks ++ [key])) (.slice (some ⟨g4, 0, none⟩) (ks.length + 1) cap4) 7 (ks.length + 1) (ls ++ lcs op ac asl nR cc nS cs nb) g4) :=
        HO5.out.kept (putMap_ne (w := w5.drew) (ks ++ [key]) hgm)
      have HA6 : Hid (Row (putMap m w5.drew (ks ++ [key])) w.heap.size 62 (lcs op ac asl nR cc nS cs nb)) :=
        (putMap_ne (w := w5.drew) (ks ++ [key]) (by omega)).trans HA5.out
      have HF6 : Hid (Fr w (putMap m w5.drew (ks ++ [key])) x m ge) :=
        ⟨HF5.out.os, HF5.out.tape, HF5.out.output, by rw [putMap_size]; exact HF5.out.size, fun q h1 h2 h3 h4 => (putMap_ne (w := w5.drew) (ks ++ [key]) h3).trans (HF5.out.block q h1 h2 h3 h4)⟩
      have hs6 : (putMap m w5.drew (ks ++ [key])).heap.size = w5.heap.size := putMap_size _ _ _
      clear hx1 hcv hup HX5 HM5 HO5 HA5 HK5 HF5
      generalize putMap m w5.drew (ks ++ [key]) = w6 at *
      have hx3 := HX6.out.cell (i := 3) rfl
      have hxf := HX6.out.frozen 3
      have hA0 := HA6.out.cell (i := 0) rfl
      have hA1 := HA6.out.cell (i := 1) rfl
      have hA2 := HA6.out.cell (i := 2) rfl
      have hA3 := HA6.out.cell (i := 3) rfl
      have hA4 := HA6.out.cell (i := 4) rfl
      have hA5 := HA6.out.cell (i := 5) rfl
      have hA6 := HA6.out.cell (i := 6) rfl
      have hx6 := HX6.out.lt
      have hw6 : w.heap.size < w6.heap.size := HA6.out.lt
      have HX7 := hid (HX6.out.alloc (.cells #[.string op, .slice ac nR cc, .slice asl nS cs, .bool nb, .int .i32 0, .slice none 0 0, .bool false] 62))
      have hx7c := HX7.out.cell (i := 3) rfl
      have hx7f := HX7.out.frozen 3
      have hwr : IntKind.i64.wrap ((bytes : Int) + (300 + (key.length : Int) + 4 * (nS : Int) + 8 * (nR : Int))) = (bytes : Int) + (300 + (key.length : Int) + 4 * (nS : Int) + 8 * (nR : Int)) := by rw [IntKind.wrap_i64]; omega
      have HX8 := hid (HX7.out.set 3 (.int .i64 ((bytes : Int) + (300 + (key.length : Int) + 4 * (nS : Int) + 8 * (nR : Int)))))
      have HF8 : Hid (Fr w (World.setCell (w6.alloc (.cells #[.string op, .slice ac nR cc, .slice asl nS cs, .bool nb, .int .i32 0, .slice none 0 0, .bool false] 62)) ⟨x, 3, none⟩ (.int .i64 ((bytes : Int) + (300 + (key.length : Int) + 4 * (nS : Int) + 8 * (nR : Int))))) x m ge) :=
        ⟨HF6.out.os, HF6.out.tape, HF6.out.output, by have := HF6.out.size; simp; omega, fun q h1 h2 h3 h4 => ((Below.heap_setCell _ _ _ _ (by simpa using h2)).trans (Below.heap_alloc _ _ q (by omega))).trans (HF6.out.block q h1 h2 h3 h4)⟩
      have HT8 : Hid (Tab (World.setCell (w6.alloc (.cells #[.string op, .slice ac nR cc, .slice asl nS cs, .bool nb, .int .i32 0, .slice none 0 0, .bool false] 62)) ⟨x, 3, none⟩ (.int .i64 ((bytes : Int) + (300 + (key.length : Int) + 4 * (nS : Int) + 8 * (nR : Int))))) x m g4 (.slice (some ⟨g4, 0, none⟩) (ks.length + 1) cap4) (ks ++ [key]) (ls ++ lcs op ac asl nR cc nS cs nb) any ((bytes : Int) + (300 + (key.length : Int) + 4 * (nS : Int) + 8 * (nR : Int)))) := by
        refine ⟨HX8.out, ?_, ?_, hgx, hgm, hxm, by simp; omega, by simp; omega⟩
        · exact ((Below.heap_setCell _ _ _ _ (by simpa using Ne.symm hxm)).trans (Below.heap_alloc _ _ m (by omega))).trans HM6.out
        · rw [List.length_append, List.length_singleton]
          exact HO6.out.kept ((Below.heap_setCell _ _ _ _ (by simpa using hgx)).trans (Below.heap_alloc _ _ g4 (by omega)))
      have hcast : (bytes : Int) + ((300 + key.length + 4 * nS + 8 * nR : Nat) : Int) = (bytes : Int) + (300 + (key.length : Int) + 4 * (nS : Int) + 8 * (nR : Int)) := by omega
      have HCA := hid hcast
      clear hcast
      go_wp2
      go_region_law (first
        | (go_simp
           go_at_call 40
           refine (langSize op ac asl (some ⟨g, 0, none⟩) nR cc nS cs key.length cap nb w6.drew hnR hnS (by omega)).mono ?_
           rintro e w7 ⟨rfl, rfl⟩))
    all_goals
      go_wp2
      go_ret
      refine .inr ⟨hnew, rfl, ⟨ge, ⟨HF8.out.os, HF8.out.tape, HF8.out.output, HF8.out.size, HF8.out.block⟩, ?_, ?_⟩, .slice (some ⟨g4, 0, none⟩) (ks.length + 1) cap4, g4, ?_, ?_⟩
      · rcases hge with e | e
        · exact .inl e
        · exact .inr (by omega)
      · intro e
        injection e with e1 e2 e3
        have := HGN.out e1
        omega
      · rw [HCA.out]
        exact ⟨HT8.out.row, HT8.out.map, HT8.out.own.kept rfl, HT8.out.xg, HT8.out.mg, HT8.out.xm, HT8.out.ml, HT8.out.gl⟩
      · refine ⟨?_, fun e => ?_⟩
        · rcases HAT4.out with e | e
          · rcases hge with e' | e'
            · exact .inl (e.trans e')
            · exact .inr (by omega)
          · exact .inr (by omega)
        · injection e with e1 e2 e3
          have := HGN.out e1
          rcases HAT4.out with e | e <;> omega

end Go.Proofs.Qxb6604459aDoor
