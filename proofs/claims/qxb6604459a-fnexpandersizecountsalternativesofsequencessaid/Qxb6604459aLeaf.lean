import Derived.Test.Qxb6604459aRows
import Derived.WalkKit
import Derived.WalkSpells
import Derived.WalkLawsBesides
namespace Go.Proofs.Qxb6604459a
open Go.RowKit

/-- 'x, ok := e.(T)', T a pointer type, e not nil. -/
theorem run_ta {P : Program} {asserted E : TypeId} {i : TypeInfo} (hu : P.underlying asserted = some (.pointer E)) (hj : P.info? asserted = some i) (hz : i.zero = some (.pointer none))
    (t xT : TypeId) (v : Value) (w : World) :
    (Instr.typeAssert (.iface t v) xT asserted true).run P w = .ok (if t = asserted then .tuple #[v, .bool true] else .tuple #[.pointer none, .bool false]) w := by
  by_cases h : t = asserted
  · simp [Instr.typeAssert, run_underlying hu, h]
  · simp [Instr.typeAssert, run_underlying hu, h, zeroValue, typeInfo, hj, hz]

theorem ta_of {P : Program} {asserted E : TypeId} (hu : P.underlying asserted = some (.pointer E)) (hj : (P.info? asserted).map (fun i => i.zero) = some (some (.pointer none)))
    (t xT : TypeId) (v : Value) (w : World) :
    (Instr.typeAssert (.iface t v) xT asserted true).run P w = .ok (if t = asserted then .tuple #[v, .bool true] else .tuple #[.pointer none, .bool false]) w := by
  obtain ⟨i, hi, hz⟩ := Option.map_eq_some_iff.1 hj
  exact run_ta hu hi hz t xT v w

theorem ta28 (t xT : TypeId) (v : Value) (w : World) : (Instr.typeAssert (.iface t v) xT 28 true).run Try.prog w = .ok (if t = 28 then .tuple #[v, .bool true] else .tuple #[.pointer none, .bool false]) w :=
  ta_of Try.underlying28 (by kernel_rfl) t xT v w
theorem ta35 (t xT : TypeId) (v : Value) (w : World) : (Instr.typeAssert (.iface t v) xT 35 true).run Try.prog w = .ok (if t = 35 then .tuple #[v, .bool true] else .tuple #[.pointer none, .bool false]) w :=
  ta_of Try.underlying35 (by kernel_rfl) t xT v w
theorem ta38 (t xT : TypeId) (v : Value) (w : World) : (Instr.typeAssert (.iface t v) xT 38 true).run Try.prog w = .ok (if t = 38 then .tuple #[v, .bool true] else .tuple #[.pointer none, .bool false]) w :=
  ta_of Try.underlying38 (by kernel_rfl) t xT v w
theorem ta49 (t xT : TypeId) (v : Value) (w : World) : (Instr.typeAssert (.iface t v) xT 49 true).run Try.prog w = .ok (if t = 49 then .tuple #[v, .bool true] else .tuple #[.pointer none, .bool false]) w :=
  ta_of Try.underlying49 (by kernel_rfl) t xT v w
theorem ta52 (t xT : TypeId) (v : Value) (w : World) : (Instr.typeAssert (.iface t v) xT 52 true).run Try.prog w = .ok (if t = 52 then .tuple #[v, .bool true] else .tuple #[.pointer none, .bool false]) w :=
  ta_of Try.underlying52 (by kernel_rfl) t xT v w
theorem ta54 (t xT : TypeId) (v : Value) (w : World) : (Instr.typeAssert (.iface t v) xT 54 true).run Try.prog w = .ok (if t = 54 then .tuple #[v, .bool true] else .tuple #[.pointer none, .bool false]) w :=
  ta_of Try.underlying54 (by kernel_rfl) t xT v w
theorem ta56 (t xT : TypeId) (v : Value) (w : World) : (Instr.typeAssert (.iface t v) xT 56 true).run Try.prog w = .ok (if t = 56 then .tuple #[v, .bool true] else .tuple #[.pointer none, .bool false]) w :=
  ta_of Try.underlying56 (by kernel_rfl) t xT v w
theorem ta59 (t xT : TypeId) (v : Value) (w : World) : (Instr.typeAssert (.iface t v) xT 59 true).run Try.prog w = .ok (if t = 59 then .tuple #[v, .bool true] else .tuple #[.pointer none, .bool false]) w :=
  ta_of Try.underlying59 (by kernel_rfl) t xT v w
theorem ta62 (t xT : TypeId) (v : Value) (w : World) : (Instr.typeAssert (.iface t v) xT 62 true).run Try.prog w = .ok (if t = 62 then .tuple #[v, .bool true] else .tuple #[.pointer none, .bool false]) w :=
  ta_of Try.underlying62 (by kernel_rfl) t xT v w
theorem ta65 (t xT : TypeId) (v : Value) (w : World) : (Instr.typeAssert (.iface t v) xT 65 true).run Try.prog w = .ok (if t = 65 then .tuple #[v, .bool true] else .tuple #[.pointer none, .bool false]) w :=
  ta_of Try.underlying65 (by kernel_rfl) t xT v w
theorem ta68 (t xT : TypeId) (v : Value) (w : World) : (Instr.typeAssert (.iface t v) xT 68 true).run Try.prog w = .ok (if t = 68 then .tuple #[v, .bool true] else .tuple #[.pointer none, .bool false]) w :=
  ta_of Try.underlying68 (by kernel_rfl) t xT v w
theorem ta70 (t xT : TypeId) (v : Value) (w : World) : (Instr.typeAssert (.iface t v) xT 70 true).run Try.prog w = .ok (if t = 70 then .tuple #[v, .bool true] else .tuple #[.pointer none, .bool false]) w :=
  ta_of Try.underlying70 (by kernel_rfl) t xT v w

attribute [local go_sem] ta28 ta35 ta38 ta49 ta52 ta54 ta56 ta59 ta62 ta65 ta68 ta70

set_option maxHeartbeats 400000 in
theorem leaf28 (v : Value) (w : World) :
    Calls Try.prog 14 #[.iface 28 v] w fun e w' => e = .returned (.bool true) ∧ w' = w := by
  go_enter Try.func14, Try.ntmps14
  go_wp2
  go_ret
  exact ⟨rfl, rfl⟩

end Go.Proofs.Qxb6604459a
