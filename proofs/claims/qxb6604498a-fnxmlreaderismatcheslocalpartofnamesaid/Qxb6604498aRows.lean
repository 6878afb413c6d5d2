/-
  No cell of these rows narrows 'for every input' (looked for: loops, veiled, ifaces, maps, wideKeys, modest, calm, conditions, laid).
  DERIVED. THE GIVEN ROWS OF THIS SEAT. 3 by the template 'for every input the law returns true; each argument reads behind the call as it read before'; 0 by the template 'total and deterministic' (their statements: Qxb6604498aTotals.lean).
  GIVEN WITH THE SEED: the statements are not yours to turn. If you find one false, say at which input.
  Laid BY PROGRAM, IN A SANDBOX (cutbox-rows.mjs): the forced cells as the released guide's own fill.sh prints them over the translation c2618321b739a68d… (all of the seat's roots in one cut). By AI agents, Wed Nov 11 2026. No macro, syntax, notation, axiom, sorry.
-/
import Derived.Test.Qxb6604498aChecked
import GoSem.Claim
import GoSem.ClaimJoined
import GoSem.ClaimMapViews
import Derived.JoinedTies
import Derived.KernelRfl
namespace Go.Proofs.Qxb6604498a
/- THE CELL 'sum', in the pinned program and in every row, IS THE sha256 OF THE DUMP (.gsa) THAT Qxb6604498aProg.lean LOADS. Nothing in Lean hashes anything: it is a label: what it is worth is what the hold of that sum in a sandbox is worth. -/
noncomputable def Try.pinned : Pinned := { name := "qxb6604498a", sum := "c2618321b739a68d3b877ca9abef84ca178b8ee8d7a15f7201eebffcf84ad905", checked := Try.checked }
namespace Rows
def none {H : Type} : Left H := { results := [], args := [] }

/-- 'zzlaws_internal_table_b1.FnLocalNameIsLongestColonFreeSuffix': WHATEVER THE INPUT: true; the input reads as it did. -/
def fnLocalNameIsLongestColonFreeSuffixSpec : ChangeSpec := { name := "fnLocalNameIsLongestColonFreeSuffix", fn := fun _ => fun
  | [d] => { results := [.lit (.bool true)], args := [d] }
  | _ => none }
def fnLocalNameIsLongestColonFreeSuffixRow : OpenClaim := { program := "qxb6604498a", sum := "c2618321b739a68d3b877ca9abef84ca178b8ee8d7a15f7201eebffcf84ad905", func := "example.com/vestline/vestline/zzlaws_internal_table_b1.FnLocalNameIsLongestColonFreeSuffix", spec := "fnLocalNameIsLongestColonFreeSuffix", apart := false }
def FnLocalNameIsLongestColonFreeSuffixSaid : Prop := fnLocalNameIsLongestColonFreeSuffixRow.holds Try.pinned (OpenSpec.ofChange fnLocalNameIsLongestColonFreeSuffixSpec)

/-- ITS FALSE NEIGHBOUR: 'it returns false'. Refute it at one input. -/
def fnLocalNameIsLongestColonFreeSuffixWrong : ChangeSpec := { name := "fnLocalNameIsLongestColonFreeSuffix", fn := fun _ => fun
  | [d] => { results := [.lit (.bool false)], args := [d] }
  | _ => none }
def FnLocalNameIsLongestColonFreeSuffixWrongFalsely : Prop := fnLocalNameIsLongestColonFreeSuffixRow.holds Try.pinned (OpenSpec.ofChange fnLocalNameIsLongestColonFreeSuffixWrong)

/-- 'zzlaws_internal_table_b1.FnLocalNameRecoversLocalPartOfQualifiedName': WHATEVER THE INPUT: true; the input reads as it did. -/
def fnLocalNameRecoversLocalPartOfQualifiedNameSpec : ChangeSpec := { name := "fnLocalNameRecoversLocalPartOfQualifiedName", fn := fun _ => fun
  | [d1, d2] => { results := [.lit (.bool true)], args := [d1, d2] }
  | _ => none }
def fnLocalNameRecoversLocalPartOfQualifiedNameRow : OpenClaim := { program := "qxb6604498a", sum := "c2618321b739a68d3b877ca9abef84ca178b8ee8d7a15f7201eebffcf84ad905", func := "example.com/vestline/vestline/zzlaws_internal_table_b1.FnLocalNameRecoversLocalPartOfQualifiedName", spec := "fnLocalNameRecoversLocalPartOfQualifiedName", apart := false }
def FnLocalNameRecoversLocalPartOfQualifiedNameSaid : Prop := fnLocalNameRecoversLocalPartOfQualifiedNameRow.holds Try.pinned (OpenSpec.ofChange fnLocalNameRecoversLocalPartOfQualifiedNameSpec)

/-- ITS FALSE NEIGHBOUR: 'it returns false'. Refute it at one input. -/
def fnLocalNameRecoversLocalPartOfQualifiedNameWrong : ChangeSpec := { name := "fnLocalNameRecoversLocalPartOfQualifiedName", fn := fun _ => fun
  | [d1, d2] => { results := [.lit (.bool false)], args := [d1, d2] }
  | _ => none }
def FnLocalNameRecoversLocalPartOfQualifiedNameWrongFalsely : Prop := fnLocalNameRecoversLocalPartOfQualifiedNameRow.holds Try.pinned (OpenSpec.ofChange fnLocalNameRecoversLocalPartOfQualifiedNameWrong)

/-- 'zzlaws_internal_table_b1.FnXMLReaderIsMatchesLocalPartOfName': WHATEVER THE INPUT: true; the input reads as it did. -/
def fnXMLReaderIsMatchesLocalPartOfNameSpec : ChangeSpec := { name := "fnXMLReaderIsMatchesLocalPartOfName", fn := fun _ => fun
  | [d1, d2, d3, d4] => { results := [.lit (.bool true)], args := [d1, d2, d3, d4] }
  | _ => none }
def fnXMLReaderIsMatchesLocalPartOfNameRow : OpenClaim := { program := "qxb6604498a", sum := "c2618321b739a68d3b877ca9abef84ca178b8ee8d7a15f7201eebffcf84ad905", func := "example.com/vestline/vestline/zzlaws_internal_table_b1.FnXMLReaderIsMatchesLocalPartOfName", spec := "fnXMLReaderIsMatchesLocalPartOfName", apart := false }
def FnXMLReaderIsMatchesLocalPartOfNameSaid : Prop := fnXMLReaderIsMatchesLocalPartOfNameRow.holds Try.pinned (OpenSpec.ofChange fnXMLReaderIsMatchesLocalPartOfNameSpec)

/-- ITS FALSE NEIGHBOUR: 'it returns false'. Refute it at one input. -/
def fnXMLReaderIsMatchesLocalPartOfNameWrong : ChangeSpec := { name := "fnXMLReaderIsMatchesLocalPartOfName", fn := fun _ => fun
  | [d1, d2, d3, d4] => { results := [.lit (.bool false)], args := [d1, d2, d3, d4] }
  | _ => none }
def FnXMLReaderIsMatchesLocalPartOfNameWrongFalsely : Prop := fnXMLReaderIsMatchesLocalPartOfNameRow.holds Try.pinned (OpenSpec.ofChange fnXMLReaderIsMatchesLocalPartOfNameWrong)

end Rows
end Go.Proofs.Qxb6604498a
