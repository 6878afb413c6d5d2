import Derived.Test.Qxb6604459aDoorIntern
namespace Go.Proofs.Qxb6604459aDoor
open Go.RowKit

def opN : ByteArray := ⟨#[110, 111, 116, 104, 105, 110, 103]⟩
def opE : ByteArray := ⟨#[101, 109, 112, 116, 121]⟩
def opC : ByteArray := ⟨#[99, 104, 97, 114, 115]⟩
def opS : ByteArray := ⟨#[115, 116, 97, 114]⟩

/-- The key of a range of code points. -/
def ckey (lo hi : Int) : List UInt8 := [99, 104, 97, 114, 115] ++ (32 :: hexI lo ++ 45 :: hexI hi)

theorem ckey_eq (lo hi : Int) : ckey lo hi = (opC.data.toList ++ rangesTo (fun _ => lo) (fun _ => hi) 1) ++ subsTo 0 := by
  simp [ckey, opC, rangesTo, subsTo]

theorem chars (gc cc : Nat) (lo hi : Int) (x m gl : Nat) (V : Value) (ks : List (List UInt8)) (ls : List Value) (any : Int) (bytes : Nat) (w : World)
    (ht : Tab w x m gl V ks ls any bytes) (h : w.cell? ⟨2, 15, none⟩ = some (.int .u8 4)) (hg2 : 2 < w.heap.size)
    (hc1 : w.cell? ⟨gc, 0, none⟩ = some (.int .i32 lo)) (hc2 : w.cell? ⟨gc, 1, none⟩ = some (.int .i32 hi)) (b1 : -2147483648 ≤ lo) (b2 : lo ≤ 2147483647) (b3 : -2147483648 ≤ hi) (b4 : hi ≤ 2147483647)
    (hks : ks.length ≤ 100) (hby : bytes ≤ 100000)
    (hcase : (∃ j : Nat, kfind (ckey lo hi) ks 0 = some (j, .int .i32 j)) ∨ ckey lo hi ∉ ks) :
    Calls Tryd.prog 35 #[.pointer (some ⟨x, 0, none⟩), .slice (some ⟨gc, 0, none⟩) 1 cc] w fun e w' =>
      InternP w x m gl V ks ls any bytes (ckey lo hi) (lcs opC (some ⟨gc, 0, none⟩) none 1 cc 0 0 false) (300 + (ckey lo hi).length + 4 * 0 + 8 * 1) e w' := by
  have HI := hid (intern opC (some ⟨gc, 0, none⟩) none gc 1 cc 0 0 0 (fun _ => lo) (fun _ => hi) false x m gl V ks ls any bytes (ckey lo hi) w (ckey_eq lo hi) ht h hg2 (by decide) (by decide) (fun _ => rfl)
    (fun i hi => by obtain rfl : i = 0 := (by omega); exact ⟨hc1, hc2, b1, b2, b3, b4⟩) (by omega) (fun h => absurd h (by omega)) (fun i hi => absurd hi (by omega)) (by omega) hks hby hcase)
  clear ht h hc1 hc2 hcase
  go_enter Tryd.func35, Tryd.ntmps35
  go_wp2_with fail
  refine HI.out.mono ?_
  intro e w' hp
  have hf : ∃ j : Nat, e = .returned (.int .i32 j) := by
    rcases hp with ⟨j, _, e1, _⟩ | ⟨_, e1, _⟩
    · exact ⟨j, e1⟩
    · exact ⟨_, e1⟩
  obtain ⟨j, rfl⟩ := hf
  have HP := hid hp
  clear hp HI
  go_wp2
  go_ret
  exact HP.out

theorem charsT (lo hi : Int) (x m gl : Nat) (V : Value) (ks : List (List UInt8)) (ls : List Value) (any : Int) (bytes : Nat) (w : World)
    (ht : Tab w x m gl V ks ls any bytes) (h : w.cell? ⟨2, 15, none⟩ = some (.int .u8 4)) (hg2 : 2 < w.heap.size)
    (b1 : -2147483648 ≤ lo) (b2 : lo ≤ 2147483647) (b3 : -2147483648 ≤ hi) (b4 : hi ≤ 2147483647)
    (hks : ks.length ≤ 100) (hby : bytes ≤ 100000)
    (hcase : (∃ j : Nat, kfind (ckey lo hi) ks 0 = some (j, .int .i32 j)) ∨ ckey lo hi ∉ ks) :
    Calls Tryd.prog 23 #[.pointer (some ⟨x, 0, none⟩), .int .i32 lo, .int .i32 hi] w fun e w' =>
      InternP (w.alloc (.cells #[.int .i32 lo, .int .i32 hi] 55)) x m gl V ks ls any bytes (ckey lo hi) (lcs opC (some ⟨w.heap.size, 0, none⟩) none 1 1 0 0 false) (300 + (ckey lo hi).length + 4 * 0 + 8 * 1) e w' := by
  have hb : Below w.heap.size w (w.alloc (.cells #[.int .i32 lo, .int .i32 hi] 55)) := (Below.refl _ _).alloc (Nat.le_refl _) _
  have hr : Row (w.alloc (.cells #[.int .i32 lo, .int .i32 hi] 55)) w.heap.size 55 [.int .i32 lo, .int .i32 hi] := row_new_at _ _ _ _ rfl
  have HI := hid (chars w.heap.size 1 lo hi x m gl V ks ls any bytes (w.alloc (.cells #[.int .i32 lo, .int .i32 hi] 55)) (ht.below hb) ((hb.cell (p := ⟨2, 15, none⟩) hg2).trans h) (by simp; omega) (hr.cell rfl) (hr.cell rfl) b1 b2 b3 b4 hks hby hcase)
  clear ht h hb hr hcase
  go_enter Tryd.func23, Tryd.ntmps23
  go_wp2_with fail
  refine HI.out.mono ?_
  intro e w' hp
  have hf : ∃ j : Nat, e = .returned (.int .i32 j) := by
    rcases hp with ⟨j, _, e1, _⟩ | ⟨_, e1, _⟩
    · exact ⟨j, e1⟩
    · exact ⟨_, e1⟩
  obtain ⟨j, rfl⟩ := hf
  have HP := hid hp
  clear hp HI
  go_wp2
  go_ret
  exact HP.out

end Go.Proofs.Qxb6604459aDoor
