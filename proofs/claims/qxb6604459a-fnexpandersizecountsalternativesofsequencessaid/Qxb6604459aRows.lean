/-
  No cell of these rows narrows 'for every input' (looked for: loops, veiled, ifaces, maps, wideKeys, modest, calm, conditions, laid).
  DERIVED. THE GIVEN ROWS OF THIS SEAT. 2 by the template 'for every input the law returns true; each argument reads behind the call as it read before'; 0 by the template 'total and deterministic' (their statements: Qxb6604459aTotals.lean).
  GIVEN WITH THE SEED: the statements are not yours to turn. If you find one false, say at which input.
  Laid BY PROGRAM, IN A SANDBOX (cutbox-rows.mjs): the forced cells as the released guide's own fill.sh prints them over the translation 332bf24c037c1e86… (all of the seat's roots in one cut). By AI agents, Wed Nov 11 2026. No macro, syntax, notation, axiom, sorry.
-/
import Derived.Test.Qxb6604459aChecked
import GoSem.Claim
import GoSem.ClaimJoined
import GoSem.ClaimMapViews
import Derived.JoinedTies
import Derived.KernelRfl
namespace Go.Proofs.Qxb6604459a
/- THE CELL 'sum', in the pinned program and in every row, IS THE sha256 OF THE DUMP (.gsa) THAT Qxb6604459aProg.lean LOADS. Nothing in Lean hashes anything: it is a label: what it is worth is what the hold of that sum in a sandbox is worth. -/
noncomputable def Try.pinned : Pinned := { name := "qxb6604459a", sum := "332bf24c037c1e86a09ce3127fef454294121925faa1b0ad33541ff89ba9e297", checked := Try.checked }
namespace Rows
def none {H : Type} : Left H := { results := [], args := [] }

/-- 'zzlaws_root_b1.FnExpanderSizeCountsAlternativesOfSequences': WHATEVER THE INPUT: true; the input reads as it did. -/
def fnExpanderSizeCountsAlternativesOfSequencesSpec : ChangeSpec := { name := "fnExpanderSizeCountsAlternativesOfSequences", fn := fun _ => fun
  | [d] => { results := [.lit (.bool true)], args := [d] }
  | _ => none }
def fnExpanderSizeCountsAlternativesOfSequencesRow : OpenClaim := { program := "qxb6604459a", sum := "332bf24c037c1e86a09ce3127fef454294121925faa1b0ad33541ff89ba9e297", func := "example.com/prodwright/prodwright/zzlaws_root_b1.FnExpanderSizeCountsAlternativesOfSequences", spec := "fnExpanderSizeCountsAlternativesOfSequences", recurses := true, apart := false }
def FnExpanderSizeCountsAlternativesOfSequencesSaid : Prop := fnExpanderSizeCountsAlternativesOfSequencesRow.holds Try.pinned (OpenSpec.ofChange fnExpanderSizeCountsAlternativesOfSequencesSpec)

/-- ITS FALSE NEIGHBOUR: 'it returns false'. Refute it at one input. -/
def fnExpanderSizeCountsAlternativesOfSequencesWrong : ChangeSpec := { name := "fnExpanderSizeCountsAlternativesOfSequences", fn := fun _ => fun
  | [d] => { results := [.lit (.bool false)], args := [d] }
  | _ => none }
def FnExpanderSizeCountsAlternativesOfSequencesWrongFalsely : Prop := fnExpanderSizeCountsAlternativesOfSequencesRow.holds Try.pinned (OpenSpec.ofChange fnExpanderSizeCountsAlternativesOfSequencesWrong)

/-- 'zzlaws_root_b1.FnExpanderSizeCountsASharedPartOncePerPlace': WHATEVER THE INPUT: true; the input reads as it did. -/
def fnExpanderSizeCountsASharedPartOncePerPlaceSpec : ChangeSpec := { name := "fnExpanderSizeCountsASharedPartOncePerPlace", fn := fun _ => fun
  | [d1, d2] => { results := [.lit (.bool true)], args := [d1, d2] }
  | _ => none }
def fnExpanderSizeCountsASharedPartOncePerPlaceRow : OpenClaim := { program := "qxb6604459a", sum := "332bf24c037c1e86a09ce3127fef454294121925faa1b0ad33541ff89ba9e297", func := "example.com/prodwright/prodwright/zzlaws_root_b1.FnExpanderSizeCountsASharedPartOncePerPlace", spec := "fnExpanderSizeCountsASharedPartOncePerPlace", recurses := true, apart := false }
def FnExpanderSizeCountsASharedPartOncePerPlaceSaid : Prop := fnExpanderSizeCountsASharedPartOncePerPlaceRow.holds Try.pinned (OpenSpec.ofChange fnExpanderSizeCountsASharedPartOncePerPlaceSpec)

/-- ITS FALSE NEIGHBOUR: 'it returns false'. Refute it at one input. -/
def fnExpanderSizeCountsASharedPartOncePerPlaceWrong : ChangeSpec := { name := "fnExpanderSizeCountsASharedPartOncePerPlace", fn := fun _ => fun
  | [d1, d2] => { results := [.lit (.bool false)], args := [d1, d2] }
  | _ => none }
def FnExpanderSizeCountsASharedPartOncePerPlaceWrongFalsely : Prop := fnExpanderSizeCountsASharedPartOncePerPlaceRow.holds Try.pinned (OpenSpec.ofChange fnExpanderSizeCountsASharedPartOncePerPlaceWrong)

end Rows
end Go.Proofs.Qxb6604459a
