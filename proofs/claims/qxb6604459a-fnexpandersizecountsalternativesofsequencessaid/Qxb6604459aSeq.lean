import Derived.Test.Qxb6604459aSize
namespace Go.Proofs.Qxb6604459a
open Go.RowKit
attribute [local go_sem] ta28 ta35 ta38 ta49 ta52 ta54 ta56 ta59 ta62 ta65 ta68 ta70

/-- A sequence of leaves that the memo does not hold. -/
theorem size_seq (S : Key → Nat) (x m b g n c : Nat) (M : List Key) (w : World) (hx : w.cell? ⟨x, 8, none⟩ = some (.map (some m))) (hM : ∀ k ∈ M, KeyOk Try.prog m w k)
    (hm : w.heap[m]? = some (.map (ents S 0 M).toArray M.length)) (hk : (35, b) ∉ M) (hkey : KeyOk Try.prog m w (35, b)) (hb : w.cell? ⟨b, 0, none⟩ = some (.slice (some ⟨g, 0, none⟩) n c))
    (hit : ∀ i, i < n → ∃ t v, LeafTy t ∧ w.cell? ⟨g, i, none⟩ = some (.iface t v)) (hS : S (35, b) = n + 1) (hn : n ≤ 1099511627776) :
    Calls Try.prog 13 #[.pointer (some ⟨x, 0, none⟩), .iface 35 (.pointer (some ⟨b, 0, none⟩))] w fun e w' => e = .returned (.int .i64 (n + 1)) ∧ w' = putMemo S m w (M ++ [(35, b)]) := by
  have hl := memo_look S hkey M hM hm
  rw [if_neg hk, decide_eq_false hk] at hl
  have hp := memo_put S hkey M hM hm hk ((n : Int) + 1) (by rw [hS]; omega)
  simp only at hl hp
  clear hM hm hk hkey hS
  have ht : NodeTy 35 := .inl rfl
  have hit' : Hid (∀ i, i < n → ∃ t v, LeafTy t ∧ w.cell? ⟨g, i, none⟩ = some (.iface t v)) := hit
  clear hit
  go_enter Try.func13, Try.ntmps13
  go_wp2_with (go_at_call 14; refine (isLeaf_no _ _ _ ht).mono ?_; rintro e w' ⟨rfl, rfl⟩)
  go_loop [7, 40] (fun s i => ∃ k : Nat, k ≤ n ∧ i = .int .i64 k ∧ s = .int .i64 (k + 1)) (fun _ i => n - (intOf i).toNat)
  case atStart => exact ⟨0, Nat.zero_le _, rfl, rfl⟩
  case round =>
    obtain ⟨k, hk, rfl, rfl⟩ := hrel
    by_cases hlt : k < n
    · obtain ⟨t, v, htl, hc⟩ := hit'.out k hlt
      go_wp2_with (go_at_call 13; refine (size_leaf _ _ _ _ htl).mono ?_; rintro e w' ⟨rfl, rfl⟩)
      go_round
      case rel => exact ⟨k + 1, by omega, by go_num, by go_num⟩
      case measure => simp [intOf]; omega
    · obtain rfl : k = n := by omega
      go_wp2
      go_ret
      exact ⟨rfl, rfl⟩

end Go.Proofs.Qxb6604459a
