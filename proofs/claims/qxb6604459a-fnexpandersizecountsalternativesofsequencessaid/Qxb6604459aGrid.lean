import Derived.Test.Qxb6604459aShared
namespace Go.Proofs.Qxb6604459a
open Go.RowKit

/-- A slice of n slices of strings: row i is a slice 'L i', its strings 'ss i 0' .. -/
def Grid (w : World) (a : Option Addr) (n : Nat) (L : Nat → Option Addr × Nat × Nat) (ss : Nat → Nat → ByteArray) : Prop :=
  (a = none → n = 0) ∧ ∃ b o, (0 < n → a = some ⟨b, o, none⟩) ∧ ∀ i, i < n → w.cell? ⟨b, o + i, none⟩ = some (.slice (L i).1 (L i).2.1 (L i).2.2) ∧ Strs w (L i).1 (L i).2.1 (ss i) ∧ (L i).2.1 ≤ maxLen

set_option maxHeartbeats 400000 in
theorem bytes5 (a : Option Addr) (n cap : Nat) (L : Nat → Option Addr × Nat × Nat) (ss : Nat → Nat → ByteArray) (w : World) (h : Grid w a n L ss) :
    Calls Try.prog 5 #[.slice a n cap] w fun e w' => RetBool e ∧ w' = w := by
  obtain ⟨h0, b, o, h1, h2⟩ := h
  have H1 : Hid (0 < n → a = some ⟨b, o, none⟩) := h1
  have H2 : Hid (∀ i, i < n → w.cell? ⟨b, o + i, none⟩ = some (.slice (L i).1 (L i).2.1 (L i).2.2) ∧ Strs w (L i).1 (L i).2.1 (ss i) ∧ (L i).2.1 ≤ maxLen) := h2
  clear h0 h1 h2
  by_cases hbig : 1048576 < n
  · go_enter Try.func5, Try.ntmps5
    go_wp2
    all_goals
      go_ret
      exact ⟨⟨_, rfl⟩, rfl⟩
  · go_enter Try.func5, Try.ntmps5
    go_wp2
    go_loop [3, 4] (fun z i => ∃ (k : Nat) (t : Int), k ≤ n ∧ i = .int .i64 k ∧ z = .int .i64 t ∧ 0 ≤ t ∧ t ≤ 1048576) (fun _ i => n - (intOf i).toNat)
    case atStart => exact ⟨0, _, Nat.zero_le _, rfl, rfl, by omega, by omega⟩
    case round =>
      obtain ⟨k, t, hk, rfl, rfl, hn0, hn1⟩ := hrel
      by_cases hlt : k < n
      · obtain rfl := H1.out (by omega)
        obtain ⟨hc, hst, hsz⟩ := H2.out k hlt
        unfold maxLen at hsz
        generalize L k = l at *
        obtain ⟨la, ll, lc⟩ := l
        simp only at hc hst hsz
        generalize ss k = s at *
        obtain ⟨_, b1, o1, hs1, hs2⟩ := hst
        have HS1 := hid hs1
        have HS2 := hid hs2
        clear hs1 hs2
        by_cases hs : (1048576 : Int) < ll
        · go_wp2
          go_ret
          exact ⟨⟨_, rfl⟩, rfl⟩
        · by_cases ht : (1048576 : Int) < t + ll
          · go_wp2
            go_ret
            exact ⟨⟨_, rfl⟩, rfl⟩
          · go_wp2
            go_loop [3, 5] (fun z i => ∃ (q : Nat) (t : Int), q ≤ ll ∧ i = .int .i64 q ∧ z = .int .i64 t ∧ 0 ≤ t ∧ t ≤ 1048576) (fun _ i => ll - (intOf i).toNat)
            case atStart => exact ⟨0, _, Nat.zero_le _, rfl, rfl, by omega, by omega⟩
            case round =>
              obtain ⟨q, t2, hq, rfl, rfl, hm0, hm1⟩ := hrel
              by_cases hlt2 : q < ll
              · obtain rfl := HS1.out (by omega)
                obtain ⟨hc2, hsz2⟩ := HS2.out q hlt2
                unfold maxLen at hsz2
                generalize s q = s1 at *
                by_cases hs : (1048576 : Int) < s1.size
                · go_wp2
                  go_ret
                  exact ⟨⟨_, rfl⟩, rfl⟩
                · by_cases ht2 : (1048576 : Int) < t2 + s1.size
                  · go_wp2
                    go_ret
                    exact ⟨⟨_, rfl⟩, rfl⟩
                  · go_wp2
                    go_round
                    case rel => exact ⟨q + 1, _, by omega, by go_num, rfl, by omega, by omega⟩
                    case measure => simp [intOf]; omega
              · obtain rfl : q = ll := by omega
                go_wp2
                go_round
                case rel => exact ⟨k + 1, _, by omega, by go_num, rfl, by omega, by omega⟩
                case measure => simp [intOf]; omega
      · obtain rfl : k = n := by omega
        go_wp2
        go_ret
        exact ⟨⟨_, rfl⟩, rfl⟩

end Go.Proofs.Qxb6604459a
