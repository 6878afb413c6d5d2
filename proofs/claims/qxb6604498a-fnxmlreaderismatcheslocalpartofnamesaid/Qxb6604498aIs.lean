import Derived.Test.Qxb6604498aRecover
import Derived.MapKept
namespace Go.Proofs.Qxb6604498a
open Go.RowKit

theorem zzb11 (s1 : ByteArray) (a : Option Addr) (n ca : Nat) (s2 s3 : ByteArray) (w : World) : Calls Try.prog 11 #[.string s1, .slice a n ca, .string s2, .string s3] w fun e w' => RetBool e ∧ w' = w := by
  go_enter Try.func11, Try.ntmps11
  go_wp2
  all_goals
    go_ret
    exact ⟨⟨_, rfl⟩, rfl⟩

/-- q is the local part of the n bytes z, as zzNamedBy reads it. -/
def Named (z : Nat → Int) (n : Nat) (q : ByteArray) : Prop :=
  q.size ≤ n ∧ (∀ i (h : i < q.size), (q[i].toNat : Int) ≠ 58 ∧ z (n - q.size + i) = (q[i].toNat : Int)) ∧ (q.size = n ∨ z (n - q.size - 1) = 58)

def NamP (w : World) (z : Nat → Int) (n : Nat) (q : ByteArray) (e : Ending) (w' : World) : Prop :=
  ∃ b, e = .returned (.bool b) ∧ (b = true ↔ Named z n q) ∧ Below w.heap.size w w'

set_option maxRecDepth 100000 in
set_option maxHeartbeats 1000000 in
theorem namedBy (a : Option Addr) (n ca : Nat) (z : Nat → Int) (q : ByteArray) (w : World) (h : Bs w a n z) (hn : n ≤ 2097152) (hq : q.size ≤ 2097152) :
    Calls Try.prog 14 #[.slice a n ca, .string q] w fun e w' => NamP w z n q e w' := by
  have HB := hid h
  clear h
  by_cases hqn : q.size ≤ n
  · go_enter Try.func14, Try.ntmps14
    go_wp2
    go_loopw [7] (fun i wr => ∃ (k : Nat), k ≤ q.size ∧ i = .int .i64 k ∧ (∀ i (_ : i < k) (h : i < q.size), (q[i].toNat : Int) ≠ 58 ∧ z (n - q.size + i) = (q[i].toNat : Int)) ∧ Bs wr a n z ∧ Below w.heap.size w wr) (fun i _ => q.size - (intOf i).toNat)
    case atStart => exact ⟨0, Nat.zero_le _, rfl, fun j hj => absurd hj (by omega), HB.out, Below.refl _ _⟩
    case round =>
      obtain ⟨k, hk, rfl, hall, hr1, hrb⟩ := hrel
      have HA := hid hall
      have HR := hid hr1
      have HRB := hid hrb
      clear hall hr1 hrb HB
      by_cases hlt : k < q.size
      · obtain ⟨g1, o1, e1, c1⟩ := HR.out
        obtain rfl := e1 (by omega)
        have hc1 := c1 (n - q.size + k) (by omega)
        have hcast : (n : Int) - (q.size : Int) + (k : Int) = ((n - q.size + k : Nat) : Int) := by omega
        clear c1 e1
        by_cases h58 : (q[k].toNat : Int) = 58
        · go_wp2
          go_ret
          exact ⟨false, rfl, ⟨(fun h => by cases h), fun h => absurd h58 (h.2.1 k hlt).1⟩, HRB.out⟩
        · by_cases heq : z (n - q.size + k) = (q[k].toNat : Int)
          · go_wp2
            go_region
            all_goals
              go_wp2
              go_roundw
              case rel =>
                refine ⟨k + 1, by omega, by go_num, fun i hi h => ?_, HR.out.drew, HRB.out.drew⟩
                by_cases e : i = k
                · subst e; exact ⟨h58, heq⟩
                · exact HA.out i (by omega) h
              case measure => simp [intOf]; omega
          · go_wp2
            go_region
            all_goals
              go_wp2
              go_ret
              exact ⟨false, rfl, ⟨(fun h => by cases h), fun h => absurd (h.2.1 k hlt).2 heq⟩, HRB.out.drew⟩
      · obtain rfl : k = q.size := by omega
        by_cases hall : q.size = n
        · go_wp2
          go_ret
          exact ⟨true, rfl, ⟨fun _ => ⟨hqn, fun i h => HA.out i h h, .inl hall⟩, fun _ => rfl⟩, HRB.out⟩
        · obtain ⟨g1, o1, e1, c1⟩ := HR.out
          obtain rfl := e1 (by omega)
          have hc1 := c1 (n - q.size - 1) (by omega)
          have hcast : (n : Int) - (q.size : Int) - 1 = ((n - q.size - 1 : Nat) : Int) := by omega
          clear c1 e1
          by_cases hz : z (n - q.size - 1) = 58
          · go_wp2
            go_ret
            exact ⟨true, rfl, ⟨fun _ => ⟨hqn, fun i h => HA.out i h h, .inr hz⟩, fun _ => rfl⟩, HRB.out⟩
          · go_wp2
            go_ret
            refine ⟨_, rfl, ⟨fun h => ?_, fun h => ?_⟩, HRB.out⟩
            · simp [hz] at h; omega
            · rcases h.2.2 with e | e
              · exact absurd e hall
              · exact absurd e hz
  · go_enter Try.func14, Try.ntmps14
    go_wp2
    go_ret
    exact ⟨false, rfl, ⟨(fun h => by cases h), fun h => absurd h.1 hqn⟩, Below.refl _ _⟩

end Go.Proofs.Qxb6604498a
