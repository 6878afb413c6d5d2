import Derived.Test.Qxb6604459aDoorApp
namespace Go.Proofs.Qxb6604459aDoor
open Go.RowKit

theorem pow2_16 (w : World) : Calls Tryd.prog 49 #[.int .i64 16] w fun e w' => e = .returned (.bool true) ∧ w' = w := by
  go_enter Tryd.func49, Tryd.ntmps49
  go_wp2
  go_ret
  exact ⟨rfl, rfl⟩

theorem tz64_16 (w : World) (h : w.cell? ⟨2, 15, none⟩ = some (.int .u8 4)) : Calls Tryd.prog 53 #[.int .u64 16] w fun e w' => e = .returned (.int .i64 4) ∧ w' = w := by
  have h1 : bits BinOp.and IntKind.u64 16 (IntKind.u64.wrap (-16)) = 16 := by decide +kernel
  have h2 : IntKind.u64.wrap (16 * 285870213051353865) = 4573923408821661840 := by decide +kernel
  have h3 : IntKind.u64.wrap 4573923408821661840 = 4573923408821661840 := by decide +kernel
  go_enter Tryd.func53, Tryd.ntmps53
  go_wp2
  go_ret
  exact ⟨rfl, rfl⟩

theorem tz_16 (w : World) (h : w.cell? ⟨2, 15, none⟩ = some (.int .u8 4)) : Calls Tryd.prog 50 #[.int .u64 16] w fun e w' => e = .returned (.int .i64 4) ∧ w' = w := by
  go_enter Tryd.func50, Tryd.ntmps50
  go_wp2_with (go_at_call 53; refine (tz64_16 _ h).mono ?_; rintro e w' ⟨rfl, rfl⟩)
  go_ret
  exact ⟨rfl, rfl⟩

end Go.Proofs.Qxb6604459aDoor
