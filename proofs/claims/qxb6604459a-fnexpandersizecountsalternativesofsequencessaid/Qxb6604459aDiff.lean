import Derived.Test.Qxb6604459aAlt
import Derived.Deep.RegionWith
namespace Go.Proofs.Qxb6604459a
open Go.RowKit
attribute [local go_sem] ta28 ta35 ta38 ta49 ta52 ta54 ta56 ta59 ta62 ta65 ta68 ta70

set_option maxHeartbeats 1000000 in
theorem sz_diff {S : Key → Nat} {x m : Nat} {w0 : World} (E : Env x m w0) (b n1 n2 : Nat) (v1 v2 : Value) (f1 f2 : List Key → List Key) (hkey : KeyOk Try.prog m w0 (56, b)) (hb1 : w0.cell? ⟨b, 0, none⟩ = some v1) (hb2 : w0.cell? ⟨b, 1, none⟩ = some v2)
    (hv1 : Sz S x m w0 v1 n1 f1) (hv2 : Sz S x m w0 v2 n2 f2) (hf : ∀ M, (56, b) ∉ M → (56, b) ∉ f2 (f1 M)) (hS : S (56, b) = n1 + n2 + 1) (hn : n1 + n2 ≤ 1099511627776) :
    Sz S x m w0 (.iface 56 (.pointer (some ⟨b, 0, none⟩))) (n1 + n2 + 1) (nodeF (56, b) (fun M => f2 (f1 M))) := by
  intro w M h
  have hnt : NodeTy 56 := by simp [NodeTy]
  by_cases hk : (56, b) ∈ M
  · exact sz_held E h hnt hk _ _ hS
  · obtain ⟨es, c', hm⟩ := E.isMap
    have hl := memo_look S (h.kp.key hkey) M h.keys' h.memo
    rw [if_neg hk, decide_eq_false hk] at hl
    simp only at hl
    have hx := h.kp.cell hm E.field
    have hc1 := h.kp.cell hm hb1
    have hc2 := h.kp.cell hm hb2
    have HF : Hid ((56, b) ∉ f2 (f1 M)) := hf M hk
    have HK : Hid ((56, b) ∉ M) := hk
    have HH : Hid (St S m w0 w M) := h
    have HS : Hid (S (56, b) = n1 + n2 + 1) := hS
    have HM : Hid (w0.heap[m]? = some (.map es c')) := hm
    have HB : Hid (w0.cell? ⟨b, 1, none⟩ = some v2) := hb2
    clear hf hk h hS hm hb1 hb2
    go_enter Try.func13, Try.ntmps13
    go_wp2_with (go_at_call 14; refine (isLeaf_no _ _ _ hnt).mono ?_; rintro e w' ⟨rfl, rfl⟩)
    go_region_with (first
      | (go_at_call_of 13 v1; refine (hv1 _ _ HH.out.drew).mono ?_; rintro e w1 ⟨rfl, h1⟩; have hc3 := h1.kp.cell HM.out HB.out; have H1 : Hid (St S m w0 w1 (f1 M)) := h1; clear h1)
      | (go_at_call_of 13 v2; refine (hv2 _ _ (Hid.out (by assumption))).mono ?_; rintro e w2 ⟨rfl, h2⟩; have H2 : Hid (St S m w0 w2 (f2 (f1 M))) := h2; clear h2))
    all_goals
      have hx2 := (Hid.out H2).kp.cell HM.out E.field
      have hp := memo_put S ((Hid.out H2).kp.key hkey) (f2 (f1 M)) (Hid.out H2).keys' (Hid.out H2).memo HF.out (1 + ((n1 : Int) + n2)) (by rw [HS.out]; omega)
      simp only at hp
      clear hl hx hc1 hc2
      go_wp2
      go_ret
      exact ⟨by rw [Int.natCast_add, Int.natCast_add, Int.add_comm]; rfl, by rw [nodeF, if_neg HK.out]; exact (Hid.out H2).put hkey⟩

end Go.Proofs.Qxb6604459a
