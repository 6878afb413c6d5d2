import Derived.Test.Qxb6604459aRows
import Derived.Test.Qxb6604459aAlts
import Derived.ProofKit
import Derived.ChangeOld
import Derived.SliceStrings
import Derived.Deep.Slices
namespace Go.Proofs.Qxb6604459a.AltsProof
open Go.ChangeShapes Go.WideShapes Go.ChangeAt Go.RowKit
set_option linter.unusedVariables false

theorem own : ownKnob Try.prog.godebug = none := by kernel_rfl
theorem laidOut : laidOutB Try.prog = true := by kernel_rfl

theorem spot_of {W : World} {a : Addr} {v : Value} (h : W.cell? (a.add 0) = some v) : a.spot = none := by
  obtain ⟨b, off, spot⟩ := a
  simpa [Addr.add] using World.cell?_spot h

theorem strs_of {W : World} {v : Value} {H : Type} {enc : TypeId × Value → H} {base : Nat} {spare : Nat → Bool} {held : Bool} {fuel : Nat} {x : DataW H × List MemPlace}
    (h : DataW.trod enc Try.prog W base spare held fuel 24 [v] = some x) : ∃ p : (Option Addr × Nat × Nat) × (Nat → ByteArray), v = .slice p.1.1 p.1.2.1 p.1.2.2 ∧ Strs W p.1.1 p.1.2.1 p.2 ∧ p.1.2.1 ≤ maxLen := by
  rcases open_strings Try.underlying24 Try.underlying9 (by kernel_rfl) h with ⟨hcs, _⟩ | ⟨x, l, c, ss, hcs, _, hl, hm, hz, _, hcell, hws⟩
  · obtain rfl : v = .slice none 0 0 := by simpa using hcs
    exact ⟨((none, 0, 0), fun _ => ByteArray.empty), rfl, ⟨fun _ => rfl, 0, 0, fun h => absurd h (by simp), fun i hi => absurd hi (by simp)⟩, by simp⟩
  · obtain rfl : v = .slice (some x) l c := by simpa using hcs
    have hle : l ≤ ss.length := by
      rw [hz]; split
      · exact hl
      · exact Nat.le_refl _
    refine ⟨((some x, l, c), fun i => ss.getD i ByteArray.empty), rfl, ⟨fun h => (by cases h), x.block, x.off, ?_, ?_⟩, Nat.le_trans hl hm⟩
    · intro hp
      have hp : 0 < l := hp
      have hspot := spot_of (hcell 0 (by omega))
      obtain ⟨b, off, spot⟩ := x
      simp only at hspot
      subst hspot
      rfl
    · intro i hi
      have hi : i < l := hi
      have hspot := spot_of (hcell 0 (by omega))
      have hc := hcell i (by omega)
      obtain ⟨b, off, spot⟩ := x
      simp only at hspot
      subst hspot
      refine ⟨by rw [← Go.WideShapes.add_plain]; exact hc, ?_⟩
      have hi' : i < ss.length := by omega
      simp only [List.getD_eq_getElem?_getD, List.getElem?_eq_getElem hi', Option.getD_some]
      exact hws _ (List.getElem_mem hi')

theorem grid_of {W : World} {a0 : Option Addr} {len cap : Nat} {H : Type} {enc : TypeId × Value → H} {base : Nat} {spare : Nat → Bool} {held : Bool} {fuel : Nat} {x : DataW H × List MemPlace}
    (h : DataW.trod enc Try.prog W base spare held fuel 22 (Value.slice a0 len cap).cells.toList = some x) : ∃ L ss, Grid W a0 len L ss := by
  rcases Go.Deep.open_slice1 Try.underlying22 (by kernel_rfl) h with ⟨hcs, _⟩ | ⟨x, l, c, m, n, V, D, Pl, hcs, _, hl, hm, hmm, _, hel⟩
  · simp [Value.cells] at hcs
    obtain ⟨rfl, rfl, rfl⟩ := hcs
    exact ⟨fun _ => (none, 0, 0), fun _ _ => ByteArray.empty, fun _ => rfl, 0, 0, fun h => absurd h (by simp), fun i hi => absurd hi (by simp)⟩
  · simp [Value.cells] at hcs
    obtain ⟨rfl, rfl, rfl⟩ := hcs
    have hle : len ≤ m := by
      rw [hmm]; split
      · exact hl
      · exact Nat.le_refl _
    obtain ⟨p, hp⟩ := Go.Deep.choose_lt (n := len) (p := fun i (p : (Option Addr × Nat × Nat) × (Nat → ByteArray)) => V i = .slice p.1.1 p.1.2.1 p.1.2.2 ∧ Strs W p.1.1 p.1.2.1 p.2 ∧ p.1.2.1 ≤ maxLen) (fun i hi => strs_of (hel i (by omega)).2)
    refine ⟨fun i => (p i).1, fun i => (p i).2, fun h => (by cases h), x.block, x.off, ?_, ?_⟩
    · intro hpos
      have hspot := spot_of (hel 0 (by omega)).1
      obtain ⟨b, off, spot⟩ := x
      simp only at hspot
      subst hspot
      rfl
    · intro i hi
      have hspot := spot_of (hel 0 (by omega)).1
      have hc := (hel i (by omega)).1
      obtain ⟨b, off, spot⟩ := x
      simp only at hspot
      subst hspot
      obtain ⟨h1, h2, h3⟩ := hp i hi
      refine ⟨by rw [← Go.WideShapes.add_plain, ← h1]; exact hc, h2, h3⟩

set_option maxRecDepth 100000 in
theorem lifted (os : Os) (started : os.Started) (H : Type) (enc : TypeId × Value → H) :
    ReturnsInHanded {} Try.checked os 3 .any (Rows.fnExpanderSizeCountsAlternativesOfSequencesSpec.pre6 enc Try.prog Try.f3 Rows.fnExpanderSizeCountsAlternativesOfSequencesRow.domain false) (Rows.fnExpanderSizeCountsAlternativesOfSequencesSpec.post enc Try.prog Try.f3 false true false false) := by
  refine returnsInHanded_of_change (C := Try.checked) own started (by kernel_rfl) Try.func3
    (ChangeSpec.witness6 (enc := enc) (C := Try.checked) false ⟨#[], #[.slice none 0 0], []⟩ 8 (by kernel_rfl) (by kernel_rfl) (by kernel_rfl) (by kernel_rfl)) ?_
  intro W base args ds gs before hval0 hW hcnd _
  have hval : ∀ (j : Nat) t v, Try.f3.params[j]? = some t → args[j]? = some v → Value.okWide Try.prog W .any base t v := hval0
  have hW' := hW
  obtain ⟨p, q, hA0, hV, rfl, hfz, hnd⟩ := hW
  have hA : DataW.TrodAll enc Try.prog W 0 (fun _ => true) true Try.f3.params.toList args.toList ds p := hA0
  rw [Try.params3] at hA hval
  obtain ⟨v0, d0, rfl, rfl, h0⟩ := trodAll_one hA
  obtain ⟨rfl, rfl⟩ := trodVars_none hV
  obtain ⟨a0, len0, cap0, rfl⟩ := okWide_slice Try.underlying22 (hval 0 22 v0 rfl rfl)
  have k0 := h0
  have lt0 : ∀ x ∈ p, x.block < W.heap.size := by obtain ⟨m, hm⟩ := k0; exact DataW.trod_lt m _ _ _ hm
  obtain ⟨L, ss, w0⟩ : ∃ L ss, Grid W a0 len0 L ss := by
    obtain ⟨fuel, hf⟩ := h0
    exact grid_of hf
  clear hA0 hval0
  refine (alts_walk a0 len0 cap0 L ss W w0).mono fun e W' ⟨he, bel⟩ => ?_
  subst he
  exact ⟨_, rfl, _, _, _, [], _, [], hW', trodAll_mk1 (shut_bool Try.underlying4 _), (trodAll_mk1 (Below.trod laidOut (by kernel_rfl) (of_decide_eq_true (by kernel_rfl)) k0 bel lt0)), rfl, bel.frame _, fun h => by cases h⟩

theorem over : Rows.fnExpanderSizeCountsAlternativesOfSequencesRow.holds Try.pinned (OpenSpec.ofChange Rows.fnExpanderSizeCountsAlternativesOfSequencesSpec) :=
  OpenClaim.holds_of_wide 3 Try.f3 rfl rfl rfl rfl rfl rfl rfl ⟨rfl, rfl, rfl, rfl, rfl⟩ rfl rfl rfl rfl rfl (by kernel_rfl) Try.func3 (by kernel_rfl)
    (of_decide_eq_true (by kernel_rfl)) (by unfold Func.isWrapper; first | (rw [if_pos (by decide +kernel)]; kernel_rfl) | (rw [if_neg (by decide +kernel)]; exact ⟨rfl, rfl⟩))
    (fun os started H enc _ => lifted os started H enc)

/-- THE STATEMENT -/
theorem proved : Rows.FnExpanderSizeCountsAlternativesOfSequencesSaid := over

end Go.Proofs.Qxb6604459a.AltsProof
