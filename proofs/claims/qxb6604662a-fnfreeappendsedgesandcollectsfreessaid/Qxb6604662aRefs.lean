import Derived.Test.Qxb6604662aMap
namespace Go.Proofs.Qxb6604662a
open Go.RowKit

/-- A slice of n refs, t 0 .. t (n - 1). -/
def Rs (w : World) (a : Option Addr) (n : Nat) (t : Nat → Rf) : Prop :=
  ∃ g o, (0 < n → a = some ⟨g, o, none⟩) ∧ ∀ i, i < n → w.cell? ⟨g, o + i * 2, none⟩ = some (.string (t i).1) ∧ w.cell? ⟨g, o + i * 2 + 1, none⟩ = some (.string (t i).2)

theorem Rs.below {w w' : World} {a : Option Addr} {n : Nat} {t : Nat → Rf} (h : Rs w a n t) (hb : Below w.heap.size w w') : Rs w' a n t := by
  obtain ⟨g, o, h1, h2⟩ := h
  exact ⟨g, o, h1, fun i hi => ⟨cell_later hb (h2 i hi).1, cell_later hb (h2 i hi).2⟩⟩

theorem Rs.none0 {w : World} {a : Option Addr} {n : Nat} {t : Nat → Rf} (h : Rs w a n t) : a = none → n = 0 := by
  intro e
  obtain ⟨g, o, h1, _⟩ := h
  rcases Nat.eq_zero_or_pos n with h | h
  · exact h
  · rw [e] at h1; cases h1 h

def RetBool (e : Ending) : Prop := ∃ b, e = .returned (.bool b)

set_option maxRecDepth 100000 in
set_option maxHeartbeats 1000000 in
theorem zzb4 (a : Option Addr) (n ca : Nat) (t : Nat → Rf) (b : Option Addr) (m cb : Nat) (u : Nat → Rf) (w : World) (h1 : Rs w a n t) (h2 : Rs w b m u) :
    Calls Try.prog 4 #[.slice a n ca, .slice b m cb] w fun e w' => RetBool e ∧ w' = w := by
  have H1 := hid h1
  have H2 := hid h2
  clear h1 h2
  by_cases hn : n ≤ 1048576
  case neg =>
    go_enter Try.func4, Try.ntmps4
    go_wp2
    go_ret
    exact ⟨⟨_, rfl⟩, rfl⟩
  go_enter Try.func4, Try.ntmps4
  go_wp2
  go_loopw [5, 6] (fun z i wr => ∃ (s k : Nat), k ≤ n ∧ s ≤ 1048576 ∧ z = .int .i64 s ∧ i = .int .i64 k ∧ wr = w) (fun _ i _ => n - (intOf i).toNat)
  case atStart => exact ⟨n, 0, Nat.zero_le _, hn, rfl, rfl, rfl⟩
  case round =>
    obtain ⟨s, k, hk, hs, rfl, rfl, rfl⟩ := hrel
    by_cases hlt : k < n
    · obtain ⟨g, o, e1, c1⟩ := H1.out
      obtain rfl := e1 (by omega)
      obtain ⟨x1, x2⟩ := c1 k hlt
      clear c1 e1
      generalize (t k).1 = sa at *
      generalize (t k).2 = sb at *
      by_cases q1 : sa.size ≤ 1048576
      case neg =>
        go_wp2
        go_ret
        exact ⟨⟨_, rfl⟩, rfl⟩
      by_cases q2 : s + sa.size ≤ 1048576
      case neg =>
        go_wp2
        go_ret
        exact ⟨⟨_, rfl⟩, rfl⟩
      by_cases q3 : sb.size ≤ 1048576
      case neg =>
        go_wp2
        go_ret
        exact ⟨⟨_, rfl⟩, rfl⟩
      by_cases q4 : s + sa.size + sb.size ≤ 1048576
      case neg =>
        go_wp2
        go_ret
        exact ⟨⟨_, rfl⟩, rfl⟩
      go_wp2
      go_roundw
      case rel => exact ⟨s + sa.size + sb.size, k + 1, by omega, q4, by go_num, by go_num, trivial⟩
      case measure => simp [intOf]; omega
    · obtain rfl : k = n := by omega
      by_cases hm : m ≤ 1048576
      case neg =>
        go_wp2
        go_ret
        exact ⟨⟨_, rfl⟩, rfl⟩
      by_cases hsm : s + m ≤ 1048576
      case neg =>
        go_wp2
        go_ret
        exact ⟨⟨_, rfl⟩, rfl⟩
      go_wp2
      go_loopw [5, 7] (fun z i wx => ∃ (s k : Nat), k ≤ m ∧ s ≤ 1048576 ∧ z = .int .i64 s ∧ i = .int .i64 k ∧ wx = wr) (fun _ i _ => m - (intOf i).toNat)
      case atStart => exact ⟨s + m, 0, Nat.zero_le _, hsm, by go_num, rfl, rfl⟩
      case round =>
        obtain ⟨s2, k2, hk2, hs2, rfl, rfl, rfl⟩ := hrel
        by_cases hlt2 : k2 < m
        · obtain ⟨g, o, e1, c1⟩ := H2.out
          obtain rfl := e1 (by omega)
          obtain ⟨x1, x2⟩ := c1 k2 hlt2
          clear c1 e1
          generalize (u k2).1 = sa at *
          generalize (u k2).2 = sb at *
          by_cases q1 : sa.size ≤ 1048576
          case neg =>
            go_wp2
            go_ret
            exact ⟨⟨_, rfl⟩, rfl⟩
          by_cases q2 : s2 + sa.size ≤ 1048576
          case neg =>
            go_wp2
            go_ret
            exact ⟨⟨_, rfl⟩, rfl⟩
          by_cases q3 : sb.size ≤ 1048576
          case neg =>
            go_wp2
            go_ret
            exact ⟨⟨_, rfl⟩, rfl⟩
          by_cases q4 : s2 + sa.size + sb.size ≤ 1048576
          case neg =>
            go_wp2
            go_ret
            exact ⟨⟨_, rfl⟩, rfl⟩
          go_wp2
          go_roundw
          case rel => exact ⟨s2 + sa.size + sb.size, k2 + 1, by omega, q4, by go_num, by go_num, trivial⟩
          case measure => simp [intOf]; omega
        · obtain rfl : k2 = m := by omega
          go_wp2
          go_ret
          exact ⟨⟨_, rfl⟩, rfl⟩

def SumP (e : Ending) : Prop := ∃ r : Int, -1 ≤ r ∧ r ≤ 1048576 ∧ e = .returned (.int .i64 r)

set_option maxRecDepth 100000 in
set_option maxHeartbeats 1000000 in
theorem refsBytes (a : Option Addr) (n ca : Nat) (t : Nat → Rf) (r0 : Int) (w : World) (h1 : Rs w a n t) (hn : n ≤ 1048576) (hr0 : -1 ≤ r0) (hr1 : r0 ≤ 1048576) :
    Calls Try.prog 5 #[.slice a n ca, .int .i64 r0] w fun e w' => SumP e ∧ w' = w := by
  have H1 := hid h1
  clear h1
  by_cases h0 : r0 < 0
  · go_enter Try.func5, Try.ntmps5
    go_wp2
    go_ret
    exact ⟨⟨-1, by omega, by omega, rfl⟩, rfl⟩
  obtain ⟨s0, rfl⟩ : ∃ s0 : Nat, r0 = (s0 : Int) := ⟨r0.toNat, by omega⟩
  have hs0 : s0 ≤ 1048576 := by omega
  clear hr0 hr1
  go_enter Try.func5, Try.ntmps5
  go_wp2
  go_loopw [1, 5, 6, 7] (fun z i _ _ wr => ∃ (s k : Nat), k ≤ n ∧ s ≤ 1048576 ∧ z = .int .i64 s ∧ i = .int .i64 k ∧ wr = w) (fun _ i _ _ _ => n - (intOf i).toNat)
  case atStart => exact ⟨s0, 0, Nat.zero_le _, hs0, rfl, rfl, rfl⟩
  case round =>
    obtain ⟨s, k, hk, hs, rfl, rfl, rfl⟩ := hrel
    by_cases hlt : k < n
    · obtain ⟨g, o, e1, c1⟩ := H1.out
      obtain rfl := e1 (by omega)
      obtain ⟨x1, x2⟩ := c1 k hlt
      clear c1 e1
      generalize (t k).1 = sa at *
      generalize (t k).2 = sb at *
      by_cases q1 : sa.size ≤ 1048576
      case neg =>
        go_wp2
        go_ret
        exact ⟨⟨-1, by omega, by omega, rfl⟩, rfl⟩
      by_cases q3 : sb.size ≤ 1048576
      case neg =>
        go_wp2
        go_ret
        exact ⟨⟨-1, by omega, by omega, rfl⟩, rfl⟩
      by_cases q4 : s + (32 + sa.size + sb.size) ≤ 1048576
      case neg =>
        go_wp2
        go_ret
        exact ⟨⟨-1, by omega, by omega, rfl⟩, rfl⟩
      go_wp2
      go_roundw
      case rel => exact ⟨s + (32 + sa.size + sb.size), k + 1, by omega, q4, by go_num, by go_num, trivial⟩
      case measure => simp [intOf]; omega
    · obtain rfl : k = n := by omega
      go_wp2
      go_ret
      exact ⟨⟨s, by omega, by omega, rfl⟩, rfl⟩

end Go.Proofs.Qxb6604662a
