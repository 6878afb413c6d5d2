import Derived.Test.Qxb6604498aMem
namespace Go.Proofs.Qxb6604498a
open Go.RowKit

/-- The tail of m of the n bytes z holds no colon, and is all of them or stands behind a colon. -/
def Tail (z : Nat → Int) (n m : Nat) : Prop :=
  m ≤ n ∧ (∀ i, n - m ≤ i → i < n → z i ≠ 58) ∧ (m = n ∨ (m < n ∧ z (n - m - 1) = 58))

def LocP (w : World) (n : Nat) (z : Nat → Int) (e : Ending) (w' : World) : Prop :=
  ∃ a' m cap', e = .returned (.slice a' m cap') ∧ Tail z n m ∧ Bs w a' m (fun i => z (n - m + i)) ∧ (a' = none → m = 0) ∧ (m ≤ cap' ∧ cap' ≤ maxLen) ∧ w' = w

theorem localName (a : Option Addr) (n cap : Nat) (z : Nat → Int) (w : World) (h : Bs w a n z) (hn : a = none → n = 0) (hl : n ≤ 2097152) (hcap : n ≤ cap) (hcm : cap ≤ maxLen) :
    Calls Try.prog 15 #[.slice a n cap] w fun e w' => LocP w n z e w' := by
  have HB := hid h
  have HN := hid hn
  obtain ⟨g, o, h1, h2⟩ := h
  have H1 := hid h1
  have H2 := hid h2
  clear h1 h2 hn
  go_enter Try.func15, Try.ntmps15
  go_wp2
  go_loopw [3] (fun i wr => ∃ (k : Nat), k ≤ n ∧ i = .int .i64 ((k : Int) - 1) ∧ (∀ j, k ≤ j → j < n → z j ≠ 58) ∧ wr = w) (fun i _ => ((intOf i) + 1).toNat)
  case atStart => exact ⟨n, Nat.le_refl _, rfl, fun j h1 h2 => absurd h1 (by omega), rfl⟩
  case round =>
    obtain ⟨k, hk, rfl, hno, rfl⟩ := hrel
    have HNO := hid hno
    clear hno
    rcases k with _ | q
    · go_wp2
      go_ret
      exact ⟨a, n, cap, rfl, ⟨Nat.le_refl _, fun i _ h => HNO.out i (by omega) h, .inl rfl⟩, by simpa using HB.out, HN.out, ⟨hcap, hcm⟩, rfl⟩
    · have e : ((q + 1 : Nat) : Int) - 1 = (q : Int) := by omega
      rw [e]
      obtain rfl := H1.out (by omega)
      have hc := H2.out q (by omega)
      by_cases hz : z q = 58
      · by_cases hcq : cap = q + 1
        · obtain rfl : n = q + 1 := by omega
          subst hcq
          go_wp2
          go_ret
          refine ⟨_, 0, 0, rfl, ⟨by omega, fun i h1 h2 => absurd h1 (by omega), .inr ⟨by omega, ?_⟩⟩, ⟨g, o, fun hp => absurd hp (by omega), fun i hi => absurd hi (by omega)⟩, (fun h => by cases h), ⟨Nat.le_refl _, Nat.zero_le _⟩, rfl⟩
          rw [show q + 1 - 0 - 1 = q by omega]; exact hz
        · go_wp2
          go_ret
          refine ⟨_, n - (q + 1), cap - (q + 1), rfl, ⟨by omega, fun i h1 h2 => HNO.out i (by omega) h2, .inr ⟨by omega, ?_⟩⟩, ⟨g, o + (q + 1), fun hp => rfl, fun i hi => ?_⟩, (fun h => by cases h), ⟨by omega, by omega⟩, rfl⟩
          · rw [show n - (n - (q + 1)) - 1 = q by omega]; exact hz
          · have := H2.out (q + 1 + i) (by omega)
            show _ = some (Value.int .u8 (z (n - (n - (q + 1)) + i)))
            rw [show n - (n - (q + 1)) + i = q + 1 + i by omega, Nat.add_assoc]
            exact this
      · go_wp2
        go_roundw
        case rel =>
          refine ⟨q, by omega, rfl, fun j h1 h2 => ?_, trivial⟩
          by_cases e : j = q
          · rw [e]; exact hz
          · exact HNO.out j (by omega) h2
        case measure => simp [intOf]

theorem localNameT (a : Option Addr) (n cap : Nat) (z : Nat → Int) (w : World) (h : Bs w a n z) (hn : a = none → n = 0) (hl : n ≤ 2097152) (hcap : n ≤ cap) (hcm : cap ≤ maxLen) :
    Calls Try.prog 8 #[.slice a n cap] w fun e w' => LocP w n z e w' := by
  have HI := hid (localName a n cap z w h hn hl hcap hcm)
  clear h hn
  go_enter Try.func8, Try.ntmps8
  go_wp2_with fail
  refine HI.out.mono ?_
  rintro e w' ⟨a', m, cap', rfl, h1, h2, h3, h4, rfl⟩
  have H1 := hid h1
  have H2 := hid h2
  have H3 := hid h3
  have H4 := hid h4
  clear h1 h2 h3 h4 HI
  go_wp2
  go_ret
  exact ⟨a', m, cap', rfl, H1.out, H2.out, H3.out, H4.out, rfl⟩

end Go.Proofs.Qxb6604498a
