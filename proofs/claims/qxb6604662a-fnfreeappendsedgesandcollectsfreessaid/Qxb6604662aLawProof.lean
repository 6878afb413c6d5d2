import Derived.Test.Qxb6604662aRows
import Derived.Test.Qxb6604662aLaw
import Derived.ProofKit
import Derived.ChangeOld
import Derived.Deep.SlicePairs
namespace Go.Proofs.Qxb6604662a.LawProof
open Go.ChangeShapes Go.WideShapes Go.ChangeAt Go.RowKit
set_option linter.unusedVariables false

theorem own : ownKnob Try.prog.godebug = none := by kernel_rfl
theorem laidOut : laidOutB Try.prog = true := by kernel_rfl

def strOf : Value → ByteArray
  | .string s => s
  | _ => ByteArray.empty

theorem refs_of {W : World} {a0 : Option Addr} {len cap : Nat} {H : Type} {enc : TypeId × Value → H} {base : Nat} {spare : Nat → Bool} {held : Bool} {fuel : Nat} {x : DataW H × List MemPlace}
    (h : DataW.trod enc Try.prog W base spare held fuel 22 (Value.slice a0 len cap).cells.toList = some x) : ∃ t, Rs W a0 len t := by
  rcases Go.Deep.open_slice_pairs Try.underlying22 Try.underlying30 (by kernel_rfl) rfl rfl (by kernel_rfl) (by kernel_rfl) h with ⟨hcs, _⟩ | ⟨a, l, c, m, k, V0, V1, D0, D1, P0, P1, hcs, _, hl, hm, hmm, hx, hall⟩
  · simp [Value.cells] at hcs
    obtain ⟨rfl, rfl, rfl⟩ := hcs
    exact ⟨fun _ => (ByteArray.empty, ByteArray.empty), 0, 0, fun h => absurd h (by omega), fun i hi => absurd hi (by omega)⟩
  · simp [Value.cells] at hcs
    obtain ⟨rfl, rfl, rfl⟩ := hcs
    have hle : len ≤ m := by rw [hmm]; split <;> omega
    obtain ⟨b, off, spot⟩ := a
    refine ⟨fun i => (strOf (V0 i), strOf (V1 i)), b, off, ?_, ?_⟩
    · intro hp
      have hspot : spot = none := by simpa [Addr.add] using World.cell?_spot (hall 0 (by omega)).1
      subst hspot
      rfl
    · intro i hi
      have hspot : spot = none := by simpa [Addr.add] using World.cell?_spot (hall 0 (by omega)).1
      subst hspot
      obtain ⟨h1, h2, h3, h4⟩ := hall i (by omega)
      obtain ⟨s0, e0, _⟩ := DataW.trod_string Try.underlying9 h3
      obtain ⟨s1, e1, _⟩ := DataW.trod_string Try.underlying9 h4
      simp only [List.cons.injEq, and_true] at e0 e1
      rw [e0] at h1
      rw [e1] at h2
      rw [Go.WideShapes.add_plain] at h1 h2
      rw [← Nat.add_assoc] at h2
      simp only [e0, e1, strOf]
      exact ⟨h1, h2⟩

set_option maxRecDepth 100000 in
theorem lifted (os : Os) (started : os.Started) (H : Type) (enc : TypeId × Value → H) :
    ReturnsInHanded {} Try.checked os 3 .any (Rows.fnFreeAppendsEdgesAndCollectsFreesSpec.pre6 enc Try.prog Try.f3 Rows.fnFreeAppendsEdgesAndCollectsFreesRow.domain false) (Rows.fnFreeAppendsEdgesAndCollectsFreesSpec.post enc Try.prog Try.f3 false true false false) := by
  refine returnsInHanded_of_change (C := Try.checked) own started (by kernel_rfl) Try.func3
    (ChangeSpec.witness6 (enc := enc) (C := Try.checked) false ⟨#[], #[.slice none 0 0, .slice none 0 0], []⟩ 8 (by kernel_rfl) (by kernel_rfl) (by kernel_rfl) (by kernel_rfl)) ?_
  intro W base args ds gs before hval0 hW hcnd _
  have hval : ∀ (j : Nat) t v, Try.f3.params[j]? = some t → args[j]? = some v → Value.okWide Try.prog W .any base t v := hval0
  have hW' := hW
  obtain ⟨p, q, hA0, hV, rfl, hfz, hnd⟩ := hW
  have hA : DataW.TrodAll enc Try.prog W 0 (fun _ => true) true Try.f3.params.toList args.toList ds p := hA0
  rw [Try.params3] at hA hval
  obtain ⟨v0, vs0, d0, ds0, p0, q0, hargs, rfl, rfl, h0, r0⟩ := trodAll_cons hA
  obtain ⟨v1, vs1, d1, ds1, p1, q1, rfl, rfl, rfl, h1, r1⟩ := trodAll_cons r0
  obtain ⟨rfl, rfl, rfl⟩ := trodAll_nil r1
  obtain rfl : args = #[v0, v1] := by cases args; simp_all
  obtain ⟨rfl, rfl⟩ := trodVars_none hV
  obtain ⟨a0, len0, cap0, rfl⟩ := okWide_slice Try.underlying22 (hval 0 22 v0 rfl rfl)
  obtain ⟨a1, len1, cap1, rfl⟩ := okWide_slice Try.underlying22 (hval 1 22 v1 rfl rfl)
  have k0 := h0
  have k1 := h1
  have lt0 : ∀ x ∈ p0, x.block < W.heap.size := by obtain ⟨m, hm⟩ := k0; exact DataW.trod_lt m _ _ _ hm
  have lt1 : ∀ x ∈ p1, x.block < W.heap.size := by obtain ⟨m, hm⟩ := k1; exact DataW.trod_lt m _ _ _ hm
  obtain ⟨t, w0⟩ : ∃ t, Rs W a0 len0 t := by
    obtain ⟨fuel, hf⟩ := h0
    exact refs_of hf
  obtain ⟨u, w1⟩ : ∃ t, Rs W a1 len1 t := by
    obtain ⟨fuel, hf⟩ := h1
    exact refs_of hf
  clear hA0 hval0
  refine (law a0 len0 cap0 t a1 len1 cap1 u W w0 w1).mono fun e W' ⟨he, bel⟩ => ?_
  subst he
  exact ⟨_, rfl, _, _, _, [], _, [], hW', trodAll_mk1 (shut_bool Try.underlying4 _), (trodAll_mk2 (Below.trod laidOut (by kernel_rfl) (of_decide_eq_true (by kernel_rfl)) k0 bel lt0) (Below.trod laidOut (by kernel_rfl) (of_decide_eq_true (by kernel_rfl)) k1 bel lt1)), rfl, bel.frame _, fun h => by cases h⟩

theorem over : Rows.fnFreeAppendsEdgesAndCollectsFreesRow.holds Try.pinned (OpenSpec.ofChange Rows.fnFreeAppendsEdgesAndCollectsFreesSpec) :=
  OpenClaim.holds_of_wide 3 Try.f3 rfl rfl rfl rfl rfl rfl rfl ⟨rfl, rfl, rfl, rfl, rfl⟩ rfl rfl rfl rfl rfl (by kernel_rfl) Try.func3 (by kernel_rfl)
    (of_decide_eq_true (by kernel_rfl)) (by unfold Func.isWrapper; first | (rw [if_pos (by decide +kernel)]; kernel_rfl) | (rw [if_neg (by decide +kernel)]; exact ⟨rfl, rfl⟩))
    (fun os started H enc _ => lifted os started H enc)

/-- THE STATEMENT -/
theorem proved : Rows.FnFreeAppendsEdgesAndCollectsFreesSaid := over

end Go.Proofs.Qxb6604662a.LawProof
