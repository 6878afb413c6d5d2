import Derived.Test.Qxb6604459aDoorNew
import Derived.Carry
namespace Go.Proofs.Qxb6604459aDoor
open Go.RowKit

def kN : List UInt8 := [110, 111, 116, 104, 105, 110, 103]
def kE : List UInt8 := [101, 109, 112, 116, 121]
def kS : List UInt8 := [115, 116, 97, 114, 32, 50]
def kC : List UInt8 := [99, 104, 97, 114, 115, 32, 48, 45, 49, 48, 102, 102, 102, 102]

theorem kC_eq : ckey 0 1114111 = kC := by decide +kernel

def keys4 : List (List UInt8) := [kN, kE, kC, kS]

def ls4 (gc gs : Nat) : List Value :=
  lcs opN none none 0 0 0 0 false ++ lcs opE none none 0 0 0 0 true ++ lcs opC (some ⟨gc, 0, none⟩) none 1 1 0 0 false ++ lcs opS none (some ⟨gs, 0, none⟩) 0 0 1 1 true

/-- A new table stands at x. -/
structure New (w w' : World) (x m gl gc gs : Nat) (V : Value) : Prop where
  bel : Below w.heap.size w w'
  tab : Tab w' x m gl V keys4 (ls4 gc gs) 3 1244
  rc : Row w' gc 55 [.int .i32 0, .int .i32 1114111]
  rs : Row w' gs 47 [.int .i32 2]
  x0 : w.heap.size ≤ x
  m0 : w.heap.size ≤ m
  gl0 : w.heap.size ≤ gl
  cx : gc ≠ x
  cm : gc ≠ m
  cg : gc ≠ gl
  sx : gs ≠ x
  sm : gs ≠ m
  sg : gs ≠ gl

def NewP (w : World) (e : Ending) (w' : World) : Prop :=
  ∃ x m gl gc gs V, e = .returned (.pointer (some ⟨x, 0, none⟩)) ∧ New w w' x m gl gc gs V

set_option maxRecDepth 100000 in
set_option maxHeartbeats 1000000 in
theorem newTable (w : World) (h : w.cell? ⟨2, 15, none⟩ = some (.int .u8 4)) (hg2 : 2 < w.heap.size) :
    Calls Tryd.prog 26 #[] w fun e w' => NewP w e w' := by
  have hmm := @run_makeMap Tryd.prog
  have hr1 : Row ((w.alloc (.map #[] 0)).alloc (.cells #[.slice none 0 0, .map (some w.heap.size), .int .i32 0, .int .i64 0, .int .i64 0, .bool false] 49)) (w.heap.size + 1) 49 [.slice none 0 0, .map (some w.heap.size), .int .i32 0, .int .i64 0, .int .i64 0, .bool false] := row_new_at _ _ _ _ (by simp)
  have hb1 : Below w.heap.size w ((w.alloc (.map #[] 0)).alloc (.cells #[.slice none 0 0, .map (some w.heap.size), .int .i32 0, .int .i64 0, .int .i64 0, .bool false] 49)) := ((Below.refl _ _).alloc (Nat.le_refl _) _).alloc (by simp) _
  have hm1 : ((w.alloc (.map #[] 0)).alloc (.cells #[.slice none 0 0, .map (some w.heap.size), .int .i32 0, .int .i64 0, .int .i64 0, .bool false] 49)).heap[w.heap.size]? = some (.map #[] 0) := by
    rw [Below.heap_alloc _ _ _ (by simp)]
    exact (MapKept.heap_alloc w (.map #[] 0)).1
  have hs1 : ((w.alloc (.map #[] 0)).alloc (.cells #[.slice none 0 0, .map (some w.heap.size), .int .i32 0, .int .i64 0, .int .i64 0, .bool false] 49)).heap.size = w.heap.size + 2 := by simp
  have HT1 : Hid (Tab ((w.alloc (.map #[] 0)).alloc (.cells #[.slice none 0 0, .map (some w.heap.size), .int .i32 0, .int .i64 0, .int .i64 0, .bool false] 49)) (w.heap.size + 1) w.heap.size 0 (.slice none 0 0) [] [] 0 ((0 : Nat) : Int)) :=
    ⟨hr1, hm1, Own.nil _ _ _, by omega, by omega, by omega, by omega, by omega⟩
  have HB1 := hid hb1
  clear hr1 hb1 hm1
  go_enter Tryd.func26, Tryd.ntmps26
  go_wp2_with fail
  generalize ((w.alloc (.map #[] 0)).alloc (.cells #[.slice none 0 0, .map (some w.heap.size), .int .i32 0, .int .i64 0, .int .i64 0, .bool false] 49)) = w1 at *
  refine (intern opN none none 0 0 0 0 0 0 (fun _ => 0) (fun _ => 0) false _ _ _ _ _ _ _ _ kN w1 (by decide) HT1.out ((HB1.out.cell (p := ⟨2, 15, none⟩) hg2).trans h) (by omega) (by decide) (by decide) (fun h => absurd h (by omega)) (fun i hi => absurd hi (by omega)) (by omega) (fun h => absurd h (by omega)) (fun i hi => absurd hi (by omega)) (by omega) (by decide) (by decide) (.inr (by decide))).mono ?_
  rintro e w2 (⟨j, hj, _⟩ | ⟨_, rfl, ⟨gx1, hf1, _, hgx1⟩, V1, g1, ht2, _, hg1⟩)
  · exact absurd hj (by simp [kfind])
  have hg1' := hg1 rfl
  have HB2 := hid (HB1.out.trans (hf1.below (B := w.heap.size) (by omega) (by omega) (by omega) (by have := hgx1 rfl; omega)))
  have HT2 : Hid (Tab w2 (w.heap.size + 1) w.heap.size g1 V1 [kN] (lcs opN none none 0 0 0 0 false) 0 ((307 : Nat) : Int)) := ht2
  have hs2 := hf1.size
  clear hg1 ht2 hf1 hgx1 HB1 HT1
  go_wp2_with fail
  refine (intern opE none none 0 0 0 0 0 0 (fun _ => 0) (fun _ => 0) true _ _ _ _ _ _ _ _ kE w2 (by decide) HT2.out ((HB2.out.cell (p := ⟨2, 15, none⟩) hg2).trans h) (by omega) (by decide) (by decide) (fun h => absurd h (by omega)) (fun i hi => absurd hi (by omega)) (by omega) (fun h => absurd h (by omega)) (fun i hi => absurd hi (by omega)) (by omega) (by decide) (by decide) (.inr (by decide))).mono ?_
  rintro e w3 (⟨j, hj, _⟩ | ⟨_, rfl, ⟨gx2, hf2, hgx2, _⟩, V2, g2, ht3, hg3, _⟩)
  · exact absurd hj (by rw [kfind_none _ _ _ (by decide)]; simp)
  have HB3 := hid (HB2.out.trans (hf2.below (B := w.heap.size) (by omega) (by omega) (by omega) (by omega)))
  have HT3 : Hid (Tab w3 (w.heap.size + 1) w.heap.size g2 V2 [kN, kE] (lcs opN none none 0 0 0 0 false ++ lcs opE none none 0 0 0 0 true) 0 ((612 : Nat) : Int)) := ht3
  have hs3 := hf2.size
  have hg2' : w1.heap.size ≤ g2 := by omega
  clear ht3 hf2 HB2 HT2
  have hr4 : Row (w3.alloc (.cells #[.int .i32 0, .int .i32 1114111] 55)) w3.heap.size 55 [.int .i32 0, .int .i32 1114111] := row_new_at _ _ _ _ rfl
  have hb4 : Below w3.heap.size w3 (w3.alloc (.cells #[.int .i32 0, .int .i32 1114111] 55)) := (Below.refl _ _).alloc (Nat.le_refl _) _
  have hs4 : (w3.alloc (.cells #[.int .i32 0, .int .i32 1114111] 55)).heap.size = w3.heap.size + 1 := by simp
  have hg2lt := HT3.out.gl
  have HT4 := hid (HT3.out.below hb4)
  have HB4 := hid (HB3.out.trans (hb4.mono (by omega)))
  have HR4 := hid hr4
  clear hr4 hb4 HT3 HB3
  go_wp2_with fail
  generalize (w3.alloc (.cells #[.int .i32 0, .int .i32 1114111] 55)) = w4 at *
  refine (chars w3.heap.size 1 0 1114111 _ _ _ _ _ _ _ _ w4 HT4.out ((HB4.out.cell (p := ⟨2, 15, none⟩) hg2).trans h) (by omega) (HR4.out.cell rfl) (HR4.out.cell rfl) (by omega) (by omega) (by omega) (by omega) (by decide) (by decide) (.inr (by rw [kC_eq]; decide))).mono ?_
  rw [kC_eq]
  rintro e w5 (⟨j, hj, _⟩ | ⟨_, rfl, ⟨gx3, hf3, hgx3, _⟩, V3, g3, ht5, hg5, _⟩)
  · exact absurd hj (by rw [kfind_none _ _ _ (by decide)]; simp)
  have HB5 := hid (HB4.out.trans (hf3.below (B := w.heap.size) (by omega) (by omega) (by omega) (by omega)))
  have HT5 : Hid (Tab w5 (w.heap.size + 1) w.heap.size g3 V3 [kN, kE, kC] (lcs opN none none 0 0 0 0 false ++ lcs opE none none 0 0 0 0 true ++ lcs opC (some ⟨w3.heap.size, 0, none⟩) none 1 1 0 0 false) 0 ((934 : Nat) : Int)) := ht5
  have HR5 := hid (hf3.row HR4.out (by omega) (by omega) (by omega))
  have hs5 := hf3.size
  have hg3' : w1.heap.size ≤ g3 := by omega
  have hg3c : g3 ≠ w3.heap.size := by omega
  have hg3lt := HT5.out.gl
  clear ht5 hf3 HB4 HT4 HR4
  have hr6 : Row (w5.alloc (.cells #[.int .i32 2] 47)) w5.heap.size 47 [.int .i32 2] := row_new_at _ _ _ _ rfl
  have hb6 : Below w5.heap.size w5 (w5.alloc (.cells #[.int .i32 2] 47)) := (Below.refl _ _).alloc (Nat.le_refl _) _
  have hs6 : (w5.alloc (.cells #[.int .i32 2] 47)).heap.size = w5.heap.size + 1 := by simp
  have HT6 := hid (HT5.out.below hb6)
  have HB6 := hid (HB5.out.trans (hb6.mono (by omega)))
  have HC6 := hid (HR5.out.alloc (.cells #[.int .i32 2] 47))
  have HR6 := hid hr6
  clear hr6 hb6 HT5 HB5 HR5
  have hlen : (([kN, kE] : List (List UInt8)).length : Int) = 2 := rfl
  go_wp2_with fail
  generalize (w5.alloc (.cells #[.int .i32 2] 47)) = w6 at *
  refine (intern opS none (some ⟨w5.heap.size, 0, none⟩) 0 0 0 w5.heap.size 1 1 (fun _ => 0) (fun _ => 0) true _ _ _ _ _ _ _ _ kS w6 (by decide) HT6.out ((HB6.out.cell (p := ⟨2, 15, none⟩) hg2).trans h) (by omega) (by decide) (by decide) (fun h => absurd h (by omega)) (fun i hi => absurd hi (by omega)) (by omega) (fun _ => rfl) (fun i hi => by obtain rfl : i = 0 := (by omega); exact HR6.out.cell rfl) (by omega) (by decide) (by decide) (.inr (by decide))).mono ?_
  rintro e w7 (⟨j, hj, _⟩ | ⟨_, rfl, ⟨gx4, hf4, hgx4, _⟩, V4, g4, ht7, hg7, _⟩)
  · exact absurd hj (by rw [kfind_none _ _ _ (by decide)]; simp)
  have HB7 := hid (HB6.out.trans (hf4.below (B := w.heap.size) (by omega) (by omega) (by omega) (by omega)))
  have HT7 : Hid (Tab w7 (w.heap.size + 1) w.heap.size g4 V4 keys4 (ls4 w3.heap.size w5.heap.size) 0 1244) := ht7
  have HC7 := hid (hf4.row HC6.out (by omega) (by omega) (by omega))
  have HR7 := hid (hf4.row HR6.out (by omega) (by omega) (by omega))
  have hg4' : w1.heap.size ≤ g4 := by omega
  have hg4c : g4 ≠ w3.heap.size := by omega
  have hg4s : g4 ≠ w5.heap.size := by omega
  clear ht7 hf4 HB6 HT6 HC6 HR6 hlen
  have hlen : (([kN, kE, kC] : List (List UInt8)).length : Int) = 3 := rfl
  have hx2 := HT7.out.row.cell (i := 2) rfl
  have hx2f := HT7.out.row.frozen 2
  go_wp2
  go_ret
  refine ⟨w.heap.size + 1, w.heap.size, g4, w3.heap.size, w5.heap.size, V4, rfl, ?_⟩
  refine ⟨HB7.out.setCell (by simp) _, ?_, HC7.out.set_other (by simp; omega) _, HR7.out.set_other (by simp; omega) _, by omega, by omega, by omega, by omega, by omega, by omega, by omega, by omega, by omega⟩
  have hxg := HT7.out.xg
  have hmg := HT7.out.mg
  refine ⟨HT7.out.row.set 2 _, ?_, HT7.out.own.kept (Below.heap_setCell _ _ _ _ (by simpa using hxg)), hxg, hmg, HT7.out.xm, ?_, ?_⟩
  · exact (Below.heap_setCell _ _ _ _ (by simp)).trans HT7.out.map
  · simpa using HT7.out.ml
  · simpa using HT7.out.gl

theorem newTableT (w : World) (h : w.cell? ⟨2, 15, none⟩ = some (.int .u8 4)) (hg2 : 2 < w.heap.size) :
    Calls Tryd.prog 12 #[] w fun e w' => NewP w e w' := by
  have HI := hid (newTable w h hg2)
  clear h
  go_enter Tryd.func12, Tryd.ntmps12
  go_wp2_with fail
  refine HI.out.mono ?_
  rintro e w' ⟨x, m, gl, gc, gs, V, rfl, hn⟩
  have HN := hid hn
  clear HI hn
  go_wp2
  go_ret
  exact ⟨x, m, gl, gc, gs, V, rfl, HN.out⟩

end Go.Proofs.Qxb6604459aDoor
