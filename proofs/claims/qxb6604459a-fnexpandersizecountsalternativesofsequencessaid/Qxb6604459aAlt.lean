import Derived.Test.Qxb6604459aSz
namespace Go.Proofs.Qxb6604459a
open Go.RowKit
attribute [local go_sem] ta28 ta35 ta38 ta49 ta52 ta54 ta56 ta59 ta62 ta65 ta68 ta70

def effTo (f : Nat → List Key → List Key) : Nat → List Key → List Key
  | 0, M => M
  | k + 1, M => f k (effTo f k M)

def sumTo (nn : Nat → Nat) : Nat → Nat
  | 0 => 0
  | k + 1 => sumTo nn k + nn k

theorem sumTo_mono (nn : Nat → Nat) {k n : Nat} (h : k ≤ n) : sumTo nn k ≤ sumTo nn n := by
  induction n with
  | zero => obtain rfl : k = 0 := by omega
            exact Nat.le_refl _
  | succ n ih =>
    by_cases e : k = n + 1
    · subst e; exact Nat.le_refl _
    · exact Nat.le_trans (ih (by omega)) (Nat.le_add_right _ _)

set_option maxHeartbeats 400000 in
theorem sz_alt {S : Key → Nat} {x m : Nat} {w0 : World} (E : Env x m w0) (b g n c : Nat) (v : Nat → Value) (nn : Nat → Nat) (f : Nat → List Key → List Key) (hkey : KeyOk Try.prog m w0 (38, b))
    (hb : w0.cell? ⟨b, 0, none⟩ = some (.slice (some ⟨g, 0, none⟩) n c)) (hc : ∀ i, i < n → w0.cell? ⟨g, i, none⟩ = some (v i))
    (hv : ∀ i, i < n → Sz S x m w0 (v i) (nn i) (f i)) (hf : ∀ M, (38, b) ∉ M → (38, b) ∉ effTo f n M) (hS : S (38, b) = sumTo nn n + 1) (hn : sumTo nn n ≤ 1099511627776) (hn2 : n ≤ 1099511627776) :
    Sz S x m w0 (.iface 38 (.pointer (some ⟨b, 0, none⟩))) (sumTo nn n + 1) (nodeF (38, b) (effTo f n)) := by
  intro w M h
  have hnt : NodeTy 38 := by simp [NodeTy]
  by_cases hk : (38, b) ∈ M
  · exact sz_held E h hnt hk _ _ hS
  · obtain ⟨es, c', hm⟩ := E.isMap
    have hl := memo_look S (h.kp.key hkey) M h.keys' h.memo
    rw [if_neg hk, decide_eq_false hk] at hl
    simp only at hl
    have hx := h.kp.cell hm E.field
    have hbw := h.kp.cell hm hb
    have HF : Hid ((38, b) ∉ effTo f n M) := hf M hk
    have HK : Hid ((38, b) ∉ M) := hk
    have HH : Hid (St S m w0 w M) := h
    have HS : Hid (S (38, b) = sumTo nn n + 1) := hS
    have HM : Hid (w0.heap[m]? = some (.map es c')) := hm
    have HC : Hid (∀ i, i < n → w0.cell? ⟨g, i, none⟩ = some (v i)) := hc
    have HV : Hid (∀ i, i < n → Sz S x m w0 (v i) (nn i) (f i)) := hv
    clear hf hk h hS hm hb hc hv
    go_enter Try.func13, Try.ntmps13
    go_wp2_with (go_at_call 14; refine (isLeaf_no _ _ _ hnt).mono ?_; rintro e w' ⟨rfl, rfl⟩)
    go_loopw [7, 58] (fun s i w => ∃ k : Nat, k ≤ n ∧ i = .int .i64 k ∧ s = .int .i64 ((sumTo nn k : Nat) + 1) ∧ St S m w0 w (effTo f k M)) (fun _ i _ => n - (intOf i).toNat)
    case atStart => exact ⟨0, Nat.zero_le _, rfl, rfl, HH.out⟩
    case round =>
      obtain ⟨k, hk, rfl, rfl, hst⟩ := hrel
      have hx1 := hst.kp.cell HM.out E.field
      by_cases hlt : k < n
      · have hc1 := hst.kp.cell HM.out (HC.out k hlt)
        have hb1 : sumTo nn (k + 1) ≤ sumTo nn n := sumTo_mono nn hlt
        have HQ : Hid (sumTo nn (k + 1) = sumTo nn k + nn k) := rfl
        have hb2 : sumTo nn k + nn k ≤ sumTo nn n := hb1
        have HT : Hid (St S m w0 _ (effTo f k M)) := hst
        clear hst hb1 hl hx hbw
        go_wp2_with fail
        refine (HV.out k hlt _ _ HT.out).mono ?_
        rintro e w1 ⟨rfl, h1⟩
        have H1 : Hid (St S m w0 w1 (effTo f (k + 1) M)) := h1
        clear h1
        go_wp2
        go_roundw
        case rel => exact ⟨k + 1, by omega, by go_num, by rw [HQ.out]; go_num, H1.out⟩
        case measure => simp [intOf]; omega
      · obtain rfl : k = n := by omega
        have hp := memo_put S (hst.kp.key hkey) _ hst.keys' hst.memo HF.out ((sumTo nn k : Nat) + 1) (by rw [HS.out]; omega)
        simp only at hp
        have HT : Hid (St S m w0 _ (effTo f k M)) := hst
        clear hst hl hx hbw
        go_wp2
        go_ret
        exact ⟨rfl, by rw [nodeF, if_neg HK.out]; exact HT.out.put hkey⟩

end Go.Proofs.Qxb6604459a
