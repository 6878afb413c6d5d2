import Derived.Test.Qxb6604662aClone
namespace Go.Proofs.Qxb6604662a
open Go.RowKit

/-- x is among the first k refs of t. -/
def Among (t : Nat → Rf) (k : Nat) (x : Rf) : Prop := ∃ j, j < k ∧ t j = x

def ConP (w : World) (t : Nat → Rf) (k : Nat) (x : Rf) (e : Ending) (w' : World) : Prop :=
  ∃ b, e = .returned (.bool b) ∧ (b = true ↔ Among t k x) ∧ Below w.heap.size w w'

set_option maxRecDepth 100000 in
set_option maxHeartbeats 1000000 in
theorem containsRef (a : Option Addr) (n cap : Nat) (t : Nat → Rf) (k : Nat) (x : Rf) (w : World) (h : Rs w a n t) (hk : k ≤ n) (hn : n ≤ 1048576) :
    Calls Try.prog 13 #[.slice a n cap, .int .i64 k, .agg #[.string x.1, .string x.2]] w fun e w' => ConP w t k x e w' := by
  have hr0 : Row (w.alloc (.cells #[.string x.1, .string x.2] 30)) w.heap.size 30 [.string x.1, .string x.2] := row_new_at _ _ _ _ rfl
  have hb0 : Below w.heap.size w (w.alloc (.cells #[.string x.1, .string x.2] 30)) := (Below.refl _ _).alloc (Nat.le_refl _) _
  have H := hid (h.below hb0)
  have HR0 := hid hr0
  have HB0 := hid hb0
  clear h hr0 hb0
  go_enter Try.func13, Try.ntmps13
  go_wp2
  go_loopw [7] (fun i wr => ∃ (j : Nat), j ≤ k ∧ i = .int .i64 j ∧ (∀ q, q < j → t q ≠ x) ∧ Rs wr a n t ∧ Row wr w.heap.size 30 [.string x.1, .string x.2] ∧ Below w.heap.size w wr) (fun i _ => k - (intOf i).toNat)
  case atStart => exact ⟨0, Nat.zero_le _, rfl, fun q hq => absurd hq (by omega), H.out, HR0.out, HB0.out⟩
  case round =>
    obtain ⟨j, hj, rfl, hno, hrs, hrow, hbel⟩ := hrel
    have HNO := hid hno
    have HRS := hid hrs
    have HR := hid hrow
    have HB := hid hbel
    clear hno hrs hrow hbel H HR0 HB0
    by_cases hlt : j < k
    · obtain ⟨g, o, e1, c1⟩ := HRS.out
      obtain rfl := e1 (by omega)
      obtain ⟨x1, x2⟩ := c1 j (by omega)
      clear c1 e1
      have y1 := HR.out.cell (i := 0) rfl
      have y2 := HR.out.cell (i := 1) rfl
      by_cases heq : t j = x
      · rw [heq] at x1 x2
        have hq : ∀ wx : World, (binOp .eql 30 (.agg #[.string x.1, .string x.2]) (.agg #[.string x.1, .string x.2])).run Try.prog wx = .ok (.bool true) wx := fun wx => by
          rw [bin_eq]; simp
        go_wp2
        go_region
        all_goals
          go_wp2
          go_ret
          exact ⟨true, rfl, ⟨fun _ => ⟨j, hlt, heq⟩, fun _ => rfl⟩, HB.out.drew⟩
      · have hq : ∀ wx : World, (binOp .eql 30 (.agg #[.string (t j).1, .string (t j).2]) (.agg #[.string x.1, .string x.2])).run Try.prog wx = .ok (.bool false) wx := fun wx => by
          rw [bin_eq]; simp [heq]
        go_wp2
        go_region
        all_goals
          go_wp2
          go_roundw
          case rel =>
            refine ⟨j + 1, by omega, by go_num, fun q hq => ?_, HRS.out.below (Below.refl _ _).drew, HR.out.drew, HB.out.drew⟩
            by_cases e : q = j
            · subst e; exact heq
            · exact HNO.out q (by omega)
          case measure => simp [intOf]; omega
    · obtain rfl : j = k := by omega
      go_wp2
      go_ret
      exact ⟨false, rfl, ⟨(fun h => by cases h), fun ⟨q, h1, h2⟩ => absurd h2 (HNO.out q h1)⟩, HB.out⟩

/-- The different refs of the first k, in the order in which they came. -/
def uniq (t : Nat → Rf) : Nat → List Rf
  | 0 => []
  | k + 1 => addF (uniq t k) (t k)

theorem mem_uniq (t : Nat → Rf) (x : Rf) : ∀ k, x ∈ uniq t k ↔ Among t k x
  | 0 => by simp [uniq, Among]
  | k + 1 => by
    rw [uniq, mem_addF, mem_uniq t x k]
    constructor
    · rintro (⟨j, h1, h2⟩ | h)
      · exact ⟨j, by omega, h2⟩
      · exact ⟨k, by omega, h.symm⟩
    · rintro ⟨j, h1, h2⟩
      by_cases e : j = k
      · subst e; exact .inr h2.symm
      · exact .inl ⟨j, by omega, h2⟩

theorem uniq_len (t : Nat → Rf) : ∀ k, (uniq t k).length ≤ k
  | 0 => by simp [uniq]
  | k + 1 => by
    have := uniq_len t k
    rw [uniq, addF]
    split
    · omega
    · simp; omega

set_option maxRecDepth 100000 in
set_option maxHeartbeats 1000000 in
theorem distinctRefs (a : Option Addr) (n cap : Nat) (t : Nat → Rf) (w : World) (h : Rs w a n t) (hn : n ≤ 1048576) :
    Calls Try.prog 12 #[.slice a n cap] w fun e w' => e = .returned (.int .i64 (uniq t n).length) ∧ Below w.heap.size w w' := by
  have H := hid h
  clear h
  go_enter Try.func12, Try.ntmps12
  go_wp2
  go_loopw [3, 4] (fun c i wr => ∃ (k : Nat), k ≤ n ∧ i = .int .i64 k ∧ c = .int .i64 (uniq t k).length ∧ Rs wr a n t ∧ Below w.heap.size w wr) (fun _ i _ => n - (intOf i).toNat)
  case atStart => exact ⟨0, Nat.zero_le _, rfl, rfl, H.out, Below.refl _ _⟩
  case round =>
    obtain ⟨k, hk, rfl, rfl, hrs, hbel⟩ := hrel
    have HRS := hid hrs
    have HB := hid hbel
    have hsz := hbel.size
    have hul := uniq_len t k
    clear hrs hbel H
    by_cases hlt : k < n
    · have HC := hid (containsRef a n cap t k (t k) wr HRS.out hk hn)
      obtain ⟨g, o, e1, c1⟩ := HRS.out
      obtain rfl := e1 (by omega)
      obtain ⟨x1, x2⟩ := c1 k hlt
      clear c1 e1
      go_wp2_with fail
      refine HC.out.mono ?_
      rintro e w2 ⟨b, rfl, hb, hb2⟩
      have HIFF := hid hb
      have HB2 := hid (HB.out.trans (hb2.mono hsz))
      have HRS2 := hid (HRS.out.below hb2)
      clear hb hb2 HC
      cases b with
      | true =>
        have hmem : hasF (uniq t k) (t k) = true := (hasF_iff _ _).2 ((mem_uniq t (t k) k).2 (HIFF.out.1 rfl))
        have HU : Hid (uniq t (k + 1) = uniq t k) := by
          show uniq t (k + 1) = uniq t k
          rw [uniq, addF, if_pos hmem]
        go_wp2
        go_roundw
        case rel => exact ⟨k + 1, by omega, by go_num, by rw [HU.out], HRS2.out, HB2.out⟩
        case measure => simp [intOf]; omega
      | false =>
        have hmem : hasF (uniq t k) (t k) = false := hasF_not _ _ (fun h => by have := HIFF.out.2 ((mem_uniq t (t k) k).1 h); cases this)
        have HU : Hid ((uniq t (k + 1)).length = (uniq t k).length + 1) := by
          show (uniq t (k + 1)).length = (uniq t k).length + 1
          rw [uniq, addF, hmem]; simp
        go_wp2
        go_roundw
        case rel => exact ⟨k + 1, by omega, by go_num, by rw [HU.out]; go_num, HRS2.out, HB2.out⟩
        case measure => simp [intOf]; omega
    · obtain rfl : k = n := by omega
      go_wp2
      go_ret
      exact ⟨rfl, HB.out⟩

end Go.Proofs.Qxb6604662a
