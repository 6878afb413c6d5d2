import Derived.Test.Qxb6604459aDoorPlain
namespace Go.Proofs.Qxb6604459aDoor
open Go.RowKit

theorem New.c2 {w w' : World} {x m gl gc gs : Nat} {V : Value} (hn : New w w' x m gl gc gs V) (h : w.cell? ⟨2, 15, none⟩ = some (.int .u8 4)) (hg2 : 2 < w.heap.size) : w'.cell? ⟨2, 15, none⟩ = some (.int .u8 4) := (hn.bel.cell (p := ⟨2, 15, none⟩) hg2).trans h

theorem keys4_C : kfind (ckey 0 1114111) keys4 0 = some (2, .int .i32 ((2 : Nat) : Int)) := by rw [kC_eq]; rfl

theorem charsIn (lo hi : Int) (x m gl : Nat) (V : Value) (ks : List (List UInt8)) (ls : List Value) (any : Int) (bytes : Nat) (w : World)
    (ht : Tab w x m gl V ks ls any bytes) (h : w.cell? ⟨2, 15, none⟩ = some (.int .u8 4)) (hg2 : 2 < w.heap.size)
    (b1 : -2147483648 ≤ lo) (b2 : lo ≤ 2147483647) (b3 : -2147483648 ≤ hi) (b4 : hi ≤ 2147483647)
    (hks : ks.length ≤ 100) (hby : bytes ≤ 100000) (j : Nat) (hj : kfind (ckey lo hi) ks 0 = some (j, .int .i32 j)) :
    Calls Tryd.prog 23 #[.pointer (some ⟨x, 0, none⟩), .int .i32 lo, .int .i32 hi] w fun e w' => e = .returned (.int .i32 j) ∧ Below w.heap.size w w' := by
  refine (charsT lo hi x m gl V ks ls any bytes w ht h hg2 b1 b2 b3 b4 hks hby (.inl ⟨j, hj⟩)).mono ?_
  rintro e w2 (⟨j', hj', rfl, hb2⟩ | ⟨hj', _⟩)
  · rw [hj] at hj'
    obtain rfl := (Prod.mk.inj (Option.some.inj hj')).1
    exact ⟨rfl, ((Below.refl _ _).alloc (Nat.le_refl _) _).trans (hb2.mono (by simp))⟩
  · rw [kfind_none _ _ _ hj'] at hj; cases hj

def NewC (lo hi : Int) (w : World) (x m gl : Nat) (ks : List (List UInt8)) (ls : List Value) (any : Int) (bytes : Nat) (e : Ending) (w' : World) : Prop :=
  e = .returned (.int .i32 ks.length) ∧ (∀ B, B ≤ w.heap.size → B ≤ x → B ≤ m → B ≤ gl → Below B w w') ∧ ∃ V' gl', Tab w' x m gl' V' (ks ++ [ckey lo hi]) (ls ++ lcs opC (some ⟨w.heap.size, 0, none⟩) none 1 1 0 0 false) any ((bytes + 308 + (ckey lo hi).length : Nat) : Int) ∧ Row w' w.heap.size 55 [.int .i32 lo, .int .i32 hi]

theorem charsOut (lo hi : Int) (x m gl : Nat) (V : Value) (ks : List (List UInt8)) (ls : List Value) (any : Int) (bytes : Nat) (w : World)
    (ht : Tab w x m gl V ks ls any bytes) (h : w.cell? ⟨2, 15, none⟩ = some (.int .u8 4)) (hg2 : 2 < w.heap.size)
    (b1 : -2147483648 ≤ lo) (b2 : lo ≤ 2147483647) (b3 : -2147483648 ≤ hi) (b4 : hi ≤ 2147483647)
    (hks : ks.length ≤ 100) (hby : bytes ≤ 100000) (hj : ckey lo hi ∉ ks) :
    Calls Tryd.prog 23 #[.pointer (some ⟨x, 0, none⟩), .int .i32 lo, .int .i32 hi] w fun e w' => NewC lo hi w x m gl ks ls any bytes e w' := by
  have hgl := ht.gl
  have hml := ht.ml
  have hxl := ht.row.lt
  refine (charsT lo hi x m gl V ks ls any bytes w ht h hg2 b1 b2 b3 b4 hks hby (.inr hj)).mono ?_
  rintro e w2 (⟨j', hj', _⟩ | ⟨_, rfl, ⟨gx, hf, hgx, _⟩, V', gl', ht', _⟩)
  · rw [kfind_none _ _ _ hj] at hj'; cases hj'
  · have hb1 : Below w.heap.size w (w.alloc (.cells #[.int .i32 lo, .int .i32 hi] 55)) := (Below.refl _ _).alloc (Nat.le_refl _) _
    have hr : Row (w.alloc (.cells #[.int .i32 lo, .int .i32 hi] 55)) w.heap.size 55 [.int .i32 lo, .int .i32 hi] := row_new_at _ _ _ _ rfl
    have hs : (w.alloc (.cells #[.int .i32 lo, .int .i32 hi] 55)).heap.size = w.heap.size + 1 := by simp
    refine ⟨rfl, fun B h1 h2 h3 h4 => (hb1.mono h1).trans (hf.below (by omega) h2 h3 (by omega)), V', gl', ?_, hf.row hr (by omega) (by omega) (by omega)⟩
    have e : ((bytes + 308 + (ckey lo hi).length : Nat) : Int) = (bytes : Int) + ((300 + (ckey lo hi).length + 4 * 0 + 8 * 1 : Nat) : Int) := by omega
    rw [e]
    exact ht'

set_option maxRecDepth 100000 in
set_option maxHeartbeats 1000000 in
theorem onceAll (w : World) (h : w.cell? ⟨2, 15, none⟩ = some (.int .u8 4)) (hg2 : 2 < w.heap.size) :
    Calls Tryd.prog 6 #[.int .i32 0, .int .i32 1114111] w fun e w' => e = .returned (.bool true) ∧ Below w.heap.size w w' := by
  have HI := hid (newTableT w h hg2)
  go_enter Tryd.func6, Tryd.ntmps6
  go_wp2_with fail
  refine HI.out.mono ?_
  rintro e w1 ⟨x, m, gl, gc, gs, V, rfl, hn⟩
  have HC := hid (hn.c2 h hg2)
  have HB1 := hid hn.bel
  have HT1 : Hid (Tab w1 x m gl V keys4 (ls4 gc gs) 3 ((1244 : Nat) : Int)) := hn.tab
  have hs1 := hn.bel.size
  clear HI hn h
  go_wp2_with fail
  refine (charsIn 0 1114111 x m gl V keys4 (ls4 gc gs) 3 1244 w1 HT1.out HC.out (by omega) (by omega) (by omega) (by omega) (by omega) (by decide) (by decide) 2 keys4_C).mono ?_
  rintro e w2 ⟨rfl, hb2⟩
  have HB2 := hid (HB1.out.trans (hb2.mono hs1))
  have HT2 := hid (HT1.out.below hb2)
  have HC2 := hid ((hb2.cell (p := ⟨2, 15, none⟩) (by simp; omega)).trans HC.out)
  have hs2 := HB2.out.size
  clear hb2 HB1 HT1 HC
  go_wp2_with fail
  refine (charsIn 0 1114111 x m gl V keys4 (ls4 gc gs) 3 1244 w2 HT2.out HC2.out (by omega) (by omega) (by omega) (by omega) (by omega) (by decide) (by decide) 2 keys4_C).mono ?_
  rintro e w3 ⟨rfl, hb3⟩
  have HB3 := hid (HB2.out.trans (hb3.mono hs2))
  have HT3 := hid (HT2.out.below hb3)
  clear hb3 HB2 HT2 HC2
  have HA := hid (tabAny (HT3.out.row.cell (i := 2) rfl))
  have HY := hid (tabBytes (HT3.out.row.cell (i := 3) rfl))
  have HM := hid (idsLen (HT3.out.row.cell (i := 1) rfl) HT3.out.map)
  obtain ⟨cV, hV, _⟩ := HT3.out.own.form (by decide)
  subst hV
  have HL := hid (tabLen (HT3.out.row.cell (i := 0) rfl))
  have hk4 : (keys4.length : Int) = 4 := rfl
  go_wp2_with (first
    | (go_at_call 15; refine HA.out.mono ?_; rintro e w' ⟨rfl, rfl⟩)
    | (go_at_call 13; refine HL.out.mono ?_; rintro e w' ⟨rfl, rfl⟩)
    | (go_at_call 14; refine HM.out.mono ?_; rintro e w' ⟨rfl, rfl⟩)
    | (go_at_call 20; refine HY.out.mono ?_; rintro e w' ⟨rfl, rfl⟩))
  go_ret
  exact ⟨rfl, HB3.out⟩

theorem ba_cat (a b : Array UInt8) : (⟨a⟩ : ByteArray) ++ ⟨b⟩ = ⟨a ++ b⟩ := by
  apply ByteArray.ext
  simp

theorem key_cat (lo hi : Int) : ((⟨#[99, 104, 97, 114, 115, 32]⟩ : ByteArray) ++ ⟨(hexI lo).toArray⟩ ++ ⟨#[45]⟩ ++ ⟨(hexI hi).toArray⟩) = ⟨(ckey lo hi).toArray⟩ := by
  rw [ba_cat, ba_cat, ba_cat]
  congr 1
  simp [ckey]

theorem ls4_last (gc gs g : Nat) (j : Nat) (v : Value) (h : (lcs opC (some ⟨g, 0, none⟩) none 1 1 0 0 false)[j]? = some v) : (ls4 gc gs ++ lcs opC (some ⟨g, 0, none⟩) none 1 1 0 0 false)[4 * 7 + j]? = some v := by
  rw [List.getElem?_append_right (by simp [ls4, lcs])]
  rw [← h]
  congr 1
  simp [ls4, lcs]

theorem ba_size (l : List UInt8) : (⟨l.toArray⟩ : ByteArray).size = l.length := by
  show l.toArray.size = _
  simp

set_option maxRecDepth 100000 in
set_option maxHeartbeats 1000000 in
theorem onceNew (lo hi : Int) (b1 : -2147483648 ≤ lo) (b2 : lo ≤ 2147483647) (b3 : -2147483648 ≤ hi) (b4 : hi ≤ 2147483647) (hne : ¬ (lo = 0 ∧ hi = 1114111)) (w : World) (h : w.cell? ⟨2, 15, none⟩ = some (.int .u8 4)) (hg2 : 2 < w.heap.size) :
    Calls Tryd.prog 6 #[.int .i32 lo, .int .i32 hi] w fun e w' => e = .returned (.bool true) ∧ Below w.heap.size w w' := by
  have HI := hid (newTableT w h hg2)
  have HNE := hid hne
  clear hne
  go_enter Tryd.func6, Tryd.ntmps6
  go_wp2_with fail
  refine HI.out.mono ?_
  rintro e w1 ⟨x, m, gl, gc, gs, V, rfl, hn⟩
  have HC := hid (hn.c2 h hg2)
  have HB1 := hid hn.bel
  have HT1 : Hid (Tab w1 x m gl V keys4 (ls4 gc gs) 3 ((1244 : Nat) : Int)) := hn.tab
  have hs1 := hn.bel.size
  have hx0 := hn.x0
  have hm0 := hn.m0
  have hgl0 := hn.gl0
  clear HI hn h
  go_wp2_with fail
  refine (charsOut lo hi x m gl V keys4 (ls4 gc gs) 3 1244 w1 HT1.out HC.out (by omega) b1 b2 b3 b4 (by decide) (by decide) (ckey_new b1 b2 b3 b4 HNE.out)).mono ?_
  rintro e w2 ⟨rfl, hb2, V2, g2, ht2, hr2⟩
  have hb2' := hb2 w.heap.size hs1 hx0 hm0 hgl0
  have hck := ckey_length lo hi
  have hl1 := hexI_length lo
  have hl2 := hexI_length hi
  have hl0 := hexI_length 0
  have HB2 := hid (HB1.out.trans hb2')
  have HT2 := hid ht2
  have HC2 := hid ((hb2'.cell (p := ⟨2, 15, none⟩) hg2).trans HC.out)
  have HR2 := hid hr2
  have hs2 := HB2.out.size
  have hK := kfind_push (ckey lo hi) keys4 0 (ckey_new b1 b2 b3 b4 HNE.out)
  have HK : Hid (kfind (ckey lo hi) (keys4 ++ [ckey lo hi]) 0 = some (4, .int .i32 ((4 : Nat) : Int))) := hK
  have hk4 : (keys4.length : Int) = 4 := rfl
  clear hb2 hb2' ht2 hr2 HB1 HT1 HC hK
  go_wp2_with fail
  refine (charsIn lo hi x m g2 V2 (keys4 ++ [ckey lo hi]) _ 3 _ w2 HT2.out HC2.out (by omega) b1 b2 b3 b4 (by simp [keys4]) (by omega) 4 HK.out).mono ?_
  rintro e w3 ⟨rfl, hb3⟩
  have HB3 := hid (HB2.out.trans (hb3.mono hs2))
  have HT3 := hid (HT2.out.below hb3)
  have HR3 := hid (HR2.out.below hb3 HR2.out.lt)
  have hs3 := HB3.out.size
  clear hb3 HB2 HT2 HC2 HR2
  have HA := hid (tabAny (HT3.out.row.cell (i := 2) rfl))
  go_wp2_with (first
    | (go_at_call 15; refine HA.out.mono ?_; rintro e w' ⟨rfl, rfl⟩))
  · exact absurd ⟨by first | rfl | assumption, by exact eq_of_beq (by assumption)⟩ HNE.out
  all_goals
    try (have e0 : lo = 0 := by assumption
         subst e0)
    generalize w' = w3 at *
    clear HA
    refine (hexStr _ (by omega) (by omega) w3).mono ?_
    rintro e w4 ⟨rfl, hb4⟩
    have HB4 := hid (HB3.out.trans (hb4.mono hs3))
    have HT4 := hid (HT3.out.below hb4)
    have HR4 := hid (HR3.out.below hb4 HR3.out.lt)
    have hs4 := HB4.out.size
    clear hb4 HB3 HT3 HR3
    dsimp only [kstr]
    go_wp2_with fail
    refine (hexStr _ (by omega) (by omega) w4).mono ?_
    rintro e w5 ⟨rfl, hb5⟩
    have HB5 := hid (HB4.out.trans (hb5.mono hs4))
    have HT5 := hid (HT4.out.below hb5)
    have HR5 := hid (HR4.out.below hb5 HR4.out.lt)
    clear hb5 HB4 HT4 HR4
    dsimp only [kstr]
    go_wp2_with fail
    rw [key_cat]
    obtain ⟨cV, hV, _⟩ := HT5.out.own.form (by simp [keys4])
    subst hV
    have hx := HT5.out.row.cell (i := 0) rfl
    have hx1 := HT5.out.row.cell (i := 1) rfl
    have hcl := HT5.out.own.cell (ls4_last gc gs w1.heap.size 1 _ rfl)
    have h45 : ∀ k : List UInt8, 4 < (keys4 ++ [k]).length := fun k => by simp [keys4]
    have hl5 : ∀ k : List UInt8, ((keys4 ++ [k]).length : Int) = 5 := fun k => rfl
    have hly : ∀ k : Nat, ((1244 + 308 + k : Nat) : Int) = 1544 + (k : Int) + 8 := fun k => by omega
    have HL := hid (tabLen hx)
    have HM := hid (idsLen hx1 HT5.out.map)
    have HKI := hid (keyIs hx1 HT5.out.map HK.out)
    have HLI := hid (langIs opC (some ⟨w1.heap.size, 0, none⟩) none 1 1 0 0 false hx (h45 _) (fun j v hv => HT5.out.own.cell (ls4_last gc gs w1.heap.size j v hv)))
    have HCR := hid (charRange hx (h45 _) hcl (by omega) (HR5.out.cell (i := 0) rfl) (HR5.out.cell (i := 1) rfl))
    have HY := hid (tabBytes (w := w5.drew) (HT5.out.row.drew.cell (i := 3) rfl))
    simp only [hl5] at HL HM
    simp only [hly] at HY
    clear hx hx1 hcl h45 hl5 hly
    go_wp2_with (first
      | (go_at_call 13; refine HL.out.mono ?_; rintro e w' ⟨rfl, rfl⟩)
      | (go_at_call 14; refine HM.out.mono ?_; rintro e w' ⟨rfl, rfl⟩)
      | (go_at_call 19; refine HKI.out.mono ?_; rintro e w' ⟨rfl, rfl⟩)
      | (go_at_call 16; refine HLI.out.mono ?_; rintro e w' ⟨rfl, rfl⟩)
      | (go_at_call 17; refine HCR.out.mono ?_; rintro e w' ⟨rfl, rfl⟩)
      | (go_at_call 20; refine HY.out.mono ?_; rintro e w' ⟨rfl, rfl⟩))
    go_ret
    exact ⟨rfl, HB5.out.drew⟩

theorem once (lo hi : Int) (b1 : -2147483648 ≤ lo) (b2 : lo ≤ 2147483647) (b3 : -2147483648 ≤ hi) (b4 : hi ≤ 2147483647) (w : World) (h : w.cell? ⟨2, 15, none⟩ = some (.int .u8 4)) :
    Calls Tryd.prog 6 #[.int .i32 lo, .int .i32 hi] w fun e w' => e = .returned (.bool true) ∧ Below w.heap.size w w' := by
  have hg2 : 2 < w.heap.size := World.block_lt_of_cell? _ _ h
  by_cases hne : lo = 0 ∧ hi = 1114111
  · obtain ⟨rfl, rfl⟩ := hne
    exact onceAll w h hg2
  · exact onceNew lo hi b1 b2 b3 b4 hne w h hg2

end Go.Proofs.Qxb6604459aDoor
