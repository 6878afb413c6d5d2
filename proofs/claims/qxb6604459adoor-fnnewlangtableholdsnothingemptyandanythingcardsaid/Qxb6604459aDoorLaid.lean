import Derived.Test.Qxb6604459aDoorRows
import Derived.ProofKit
import Derived.LaidMore
import Derived.LaidHandle
import Derived.Lib.LaidTab
import Derived.Stop.LaidErr
import Derived.MakeChecks
import Derived.Stop.Joined
namespace Go.Proofs.Qxb6604459aDoor
open Go.ChangeShapes Go.WideShapes Go.ChangeAt Go.RowKit

/-- What the rows list. -/
def laidAll : List (String × DataW Unit) := [("math/bits.deBruijn32tab", Rows.laid_math_bits_deBruijn32tab), ("math/bits.deBruijn64tab", Rows.laid_math_bits_deBruijn64tab), ("internal/strconv.uint64pow10", Rows.laid_internal_strconv_uint64pow10)]

def tab64 : List Int := [0, 1, 56, 2, 57, 49, 28, 3, 61, 58, 42, 50, 38, 29, 17, 4, 62, 47, 59, 36, 45, 43, 51, 22, 53, 39, 33, 30, 24, 18, 12, 5, 63, 55, 48, 27, 60, 41, 37, 16, 46, 35, 44, 21, 52, 32, 23, 11, 54, 26, 40, 15, 34, 20, 31, 10, 25, 14, 19, 9, 13, 8, 7, 6]

theorem g64 : Tryd.prog.globalNamed "math/bits.deBruijn64tab" = some 2 := by kernel_rfl

/-- What the rows' condition gives the walks. -/
theorem cell_of_laid {W : World} (h : laidMetH Tryd.prog laidAll W) : W.cell? ⟨2, 15, none⟩ = some (.int .u8 4) := by
  rw [MakeChecks.laidMetH_plain _ _ _ (by kernel_rfl)] at h
  have h2 := h.tail
  have hT : Lib.TabIs Tryd.prog W "math/bits.deBruijn64tab" .u8 tab64 :=
    Lib.tabIs_of_head (t := 91) (n := 64) (e := 5) g64 (by kernel_rfl) (by kernel_rfl) Tryd.underlying5 (by kernel_rfl) (by kernel_rfl) h2
  exact hT.cell g64 15 (by decide)

theorem i32_bounds {a : Int} (h : (Lit.int IntKind.i32 a).wf = true) : -2147483648 ≤ a ∧ a ≤ 2147483647 := by
  simp [Lit.wf, IntKind.min, IntKind.max, IntKind.signed, IntKind.bits] at h
  omega

theorem own : ownKnob Tryd.prog.godebug = none := by kernel_rfl

theorem door_met (os : Os) (args : Array Value) : laidMetH Tryd.prog laidAll ((World.doorLaid Tryd.prog 400 os).forCall (fun _ _ => 0) ⟨#[], args, []⟩).memory :=
  laidMetH_of_parts3 (fuel := 8) (laidMet_of_run' 8 (by kernel_rfl) (by kernel_rfl)) (by kernel_rfl) (by kernel_rfl)

end Go.Proofs.Qxb6604459aDoor
