import Derived.Test.Qxb6604498aName
import Derived.ProofKit
namespace Go.Proofs.Qxb6604498a
open Go.RowKit

theorem bs_of {w : World} {a : Option Addr} {len cap : Nat} {zs : List Int} (h : (a = none ∧ len = 0 ∧ cap = 0 ∧ zs = []) ∨ ∃ x, a = some x ∧ len ≤ cap ∧ cap ≤ maxLen ∧ zs.length = cap ∧ (∀ i, i < zs.length → w.cell? (x.add i) = some (.int .u8 (zs.getD i 0))) ∧ ∀ n ∈ zs, (Lit.int .u8 n).wf = true) :
    Bs w a len (fun i => zs.getD i 0) := by
  rcases h with ⟨rfl, rfl, rfl, rfl⟩ | ⟨x, rfl, h1, h2, h3, h4, _⟩
  · exact ⟨0, 0, fun h => absurd h (by omega), fun i hi => absurd hi (by omega)⟩
  · obtain ⟨b, off, spot⟩ := x
    rcases Nat.eq_zero_or_pos len with h0 | h0
    · subst h0
      exact ⟨0, 0, fun h => absurd h (by omega), fun i hi => absurd hi (by omega)⟩
    · have hspot : spot = none := by simpa [Addr.add] using World.cell?_spot (h4 0 (by omega))
      subst hspot
      refine ⟨b, off, fun _ => rfl, fun i hi => ?_⟩
      rw [← Go.WideShapes.add_plain]
      exact h4 i (by omega)

theorem zzb6 (a : Option Addr) (n cap : Nat) (w : World) : Calls Try.prog 6 #[.slice a n cap] w fun e w' => RetBool e ∧ w' = w := by
  by_cases h : n ≤ 1048576
  · go_enter Try.func6, Try.ntmps6
    go_wp2
    go_ret
    exact ⟨⟨_, rfl⟩, rfl⟩
  · go_enter Try.func6, Try.ntmps6
    go_wp2
    go_ret
    exact ⟨⟨_, rfl⟩, rfl⟩

theorem Bs.none0 {w : World} {a : Option Addr} {n : Nat} {z : Nat → Int} (h : Bs w a n z) : a = none → n = 0 := by
  intro e
  obtain ⟨g, o, h1, _⟩ := h
  rcases Nat.eq_zero_or_pos n with h | h
  · exact h
  · rw [e] at h1; cases h1 h

set_option maxRecDepth 100000 in
set_option maxHeartbeats 1000000 in
theorem suffixWalk (a : Option Addr) (n cap : Nat) (z : Nat → Int) (w : World) (h : Bs w a n z) :
    Calls Try.prog 3 #[.slice a n cap] w fun e w' => e = .returned (.bool true) ∧ Below w.heap.size w w' := by
  have HB := hid h
  clear h
  go_enter Try.func3, Try.ntmps3
  go_wp2_with fail
  refine (zzb6 a n cap w).mono ?_
  rintro e w' ⟨⟨b, rfl⟩, rfl⟩
  cases b with
  | false =>
    go_wp2
    go_ret
    exact ⟨rfl, Below.refl _ _⟩
  | true =>
    by_cases hn : n ≤ 1048576
    · go_wp2_with fail
      refine (cloneBytes a n cap z w' HB.out HB.out.none0 hn).mono ?_
      rintro e w1 ⟨a1, rfl, hb1, hbel⟩
      have HB1 := hid hb1
      have HBel := hid hbel
      clear hb1 hbel HB
      go_wp2_with fail
      refine (localNameT a1 n n z w1 HB1.out HB1.out.none0 (by omega) (Nat.le_refl _) (by simp only [maxLen]; omega)).mono ?_
      rintro e w2 ⟨a2, m, cap2, rfl, ⟨hmn, hno, hend⟩, hb2, _, _, rfl⟩
      have HB2 := hid hb2
      have HNO := hid hno
      have HEND := hid hend
      clear hb2 hno hend
      go_wp2
      go_loopw [6] (fun i wr => ∃ (k : Nat), k ≤ m ∧ i = .int .i64 k ∧ Bs wr a1 n z ∧ Bs wr a2 m (fun i => z (n - m + i)) ∧ Below w'.heap.size w' wr) (fun i _ => m - (intOf i).toNat)
      case atStart => exact ⟨0, Nat.zero_le _, rfl, HB1.out, HB2.out, HBel.out⟩
      case round =>
        obtain ⟨k, hk, rfl, hr1, hr2, hrb⟩ := hrel
        have HR1 := hid hr1
        have HR2 := hid hr2
        have HRB := hid hrb
        clear hr1 hr2 hrb HB1 HB2 HBel
        by_cases hlt : k < m
        · obtain ⟨g1, o1, e1, c1⟩ := HR1.out
          obtain ⟨g2, o2, e2, c2⟩ := HR2.out
          obtain rfl := e1 (by omega)
          obtain rfl := e2 (by omega)
          have hc1 := c1 (n - m + k) (by omega)
          have hc2 := c2 k hlt
          have hz := HNO.out (n - m + k) (by omega) (by omega)
          have hcast : (n : Int) - (m : Int) + (k : Int) = ((n - m + k : Nat) : Int) := by omega
          clear c1 c2 e1 e2
          dsimp only at hc2
          generalize z (n - m + k) = zz at *
          go_wp2
          go_region
          all_goals
            go_wp2
            go_roundw
            case rel => exact ⟨k + 1, by omega, by go_num, HR1.out.drew, HR2.out.drew, HRB.out.drew⟩
            case measure => simp [intOf]; omega
        · obtain rfl : k = m := by omega
          by_cases hall : k = n
          · subst hall
            go_wp2
            go_ret
            exact ⟨rfl, HRB.out⟩
          · obtain ⟨hq, hz⟩ : k < n ∧ z (n - k - 1) = 58 := by
              rcases HEND.out with e | e
              · exact absurd e hall
              · exact e
            obtain ⟨g1, o1, e1, c1⟩ := HR1.out
            obtain rfl := e1 (by omega)
            have hc1 := c1 (n - k - 1) (by omega)
            rw [hz] at hc1
            have hcast : (n : Int) - (k : Int) - 1 = ((n - k - 1 : Nat) : Int) := by omega
            clear c1 e1 hz
            go_wp2
            go_ret
            exact ⟨rfl, HRB.out⟩
    · go_wp2
      go_ret
      exact ⟨rfl, Below.refl _ _⟩

end Go.Proofs.Qxb6604498a
