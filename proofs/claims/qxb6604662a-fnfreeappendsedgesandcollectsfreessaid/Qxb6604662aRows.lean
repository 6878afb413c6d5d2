/-
  No cell of these rows narrows 'for every input' (looked for: loops, veiled, ifaces, maps, wideKeys, modest, calm, conditions, laid).
  DERIVED. THE GIVEN ROWS OF THIS SEAT. 1 by the template 'for every input the law returns true; each argument reads behind the call as it read before'; 0 by the template 'total and deterministic' (their statements: Qxb6604662aTotals.lean).
  GIVEN WITH THE SEED: the statements are not yours to turn. If you find one false, say at which input.
  Laid BY PROGRAM, IN A SANDBOX (cutbox-rows.mjs): the forced cells as the released guide's own fill.sh prints them over the translation e524cd05c66669e8… (all of the seat's roots in one cut). By AI agents, Wed Nov 11 2026. No macro, syntax, notation, axiom, sorry.
-/
import Derived.Test.Qxb6604662aChecked
import GoSem.Claim
import GoSem.ClaimJoined
import GoSem.ClaimMapViews
import Derived.JoinedTies
import Derived.KernelRfl
namespace Go.Proofs.Qxb6604662a
/- THE CELL 'sum', in the pinned program and in every row, IS THE sha256 OF THE DUMP (.gsa) THAT Qxb6604662aProg.lean LOADS. Nothing in Lean hashes anything: it is a label: what it is worth is what the hold of that sum in a sandbox is worth. -/
noncomputable def Try.pinned : Pinned := { name := "qxb6604662a", sum := "e524cd05c66669e8d1c216c1ee41158c6029b0afb36e4d5bcf8bc2f916b68df9", checked := Try.checked }
namespace Rows
def none {H : Type} : Left H := { results := [], args := [] }

/-- 'zzlaws_root_b1.FnFreeAppendsEdgesAndCollectsFrees': WHATEVER THE INPUT: true; the input reads as it did. -/
def fnFreeAppendsEdgesAndCollectsFreesSpec : ChangeSpec := { name := "fnFreeAppendsEdgesAndCollectsFrees", fn := fun _ => fun
  | [d1, d2] => { results := [.lit (.bool true)], args := [d1, d2] }
  | _ => none }
def fnFreeAppendsEdgesAndCollectsFreesRow : OpenClaim := { program := "qxb6604662a", sum := "e524cd05c66669e8d1c216c1ee41158c6029b0afb36e4d5bcf8bc2f916b68df9", func := "example.com/plumbline/plumbline/zzlaws_root_b1.FnFreeAppendsEdgesAndCollectsFrees", spec := "fnFreeAppendsEdgesAndCollectsFrees", plainKeys := false, apart := false }
def FnFreeAppendsEdgesAndCollectsFreesSaid : Prop := fnFreeAppendsEdgesAndCollectsFreesRow.holds Try.pinned (OpenSpec.ofChange fnFreeAppendsEdgesAndCollectsFreesSpec)

/-- ITS FALSE NEIGHBOUR: 'it returns false'. Refute it at one input. -/
def fnFreeAppendsEdgesAndCollectsFreesWrong : ChangeSpec := { name := "fnFreeAppendsEdgesAndCollectsFrees", fn := fun _ => fun
  | [d1, d2] => { results := [.lit (.bool false)], args := [d1, d2] }
  | _ => none }
def FnFreeAppendsEdgesAndCollectsFreesWrongFalsely : Prop := fnFreeAppendsEdgesAndCollectsFreesRow.holds Try.pinned (OpenSpec.ofChange fnFreeAppendsEdgesAndCollectsFreesWrong)

end Rows
end Go.Proofs.Qxb6604662a
