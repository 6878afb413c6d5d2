import Derived.Test.Qxb6604459aMem
namespace Go.Proofs.Qxb6604459a
open Go.RowKit

/-- It returns a bool. -/
def RetBool (e : Ending) : Prop := ∃ b, e = .returned (.bool b)

theorem bytes11 (a : Option Addr) (len cap : Nat) (c : Int) (ss : Nat → ByteArray) (w : World) (h : Strs w a len ss) :
    Calls Try.prog 11 #[.slice a len cap, .int .i64 c] w fun e w' => RetBool e ∧ w' = w := by
  obtain ⟨h0, b, o, h1, h2⟩ := h
  have H1 : Hid (0 < len → a = some ⟨b, o, none⟩) := h1
  have H2 : Hid (∀ i, i < len → w.cell? ⟨b, o + i, none⟩ = some (.string (ss i)) ∧ (ss i).size ≤ maxLen) := h2
  clear h0 h1 h2
  by_cases hbig : 1048576 < len
  · go_enter Try.func11, Try.ntmps11
    go_wp2
    all_goals
      go_ret
      exact ⟨⟨_, rfl⟩, rfl⟩
  · go_enter Try.func11, Try.ntmps11
    go_wp2
    go_loop [5, 6] (fun z i => ∃ (k : Nat) (n : Int), k ≤ len ∧ i = .int .i64 k ∧ z = .int .i64 n ∧ 0 ≤ n ∧ n ≤ 1048576) (fun _ i => len - (intOf i).toNat)
    case atStart => exact ⟨0, _, Nat.zero_le _, rfl, rfl, by omega, by omega⟩
    case round =>
      obtain ⟨k, n, hk, rfl, rfl, hn0, hn1⟩ := hrel
      by_cases hlt : k < len
      · obtain rfl := H1.out (by omega)
        obtain ⟨hc, hsz⟩ := H2.out k hlt
        unfold maxLen at hsz
        generalize ss k = s at *
        by_cases hs : (1048576 : Int) < s.size
        · go_wp2
          go_ret
          exact ⟨⟨_, rfl⟩, rfl⟩
        · by_cases ht : (1048576 : Int) < n + s.size
          · go_wp2
            go_ret
            exact ⟨⟨_, rfl⟩, rfl⟩
          · go_wp2
            go_round
            case rel => exact ⟨k + 1, _, by omega, by go_num, rfl, by omega, by omega⟩
            case measure => simp [intOf]; omega
      · obtain rfl : k = len := by omega
        go_wp2
        go_ret
        exact ⟨⟨_, rfl⟩, rfl⟩

end Go.Proofs.Qxb6604459a
