import Derived.Test.Qxb6604459aMemo
namespace Go.Proofs.Qxb6604459a
open Go.RowKit
attribute [local go_sem] ta28 ta35 ta38 ta49 ta52 ta54 ta56 ta59 ta62 ta65 ta68 ta70

def LeafTy (t : TypeId) : Prop := t = 28 ∨ t = 59 ∨ t = 62 ∨ t = 65 ∨ t = 68 ∨ t = 70
def NodeTy (t : TypeId) : Prop := t = 35 ∨ t = 38 ∨ t = 49 ∨ t = 52 ∨ t = 54 ∨ t = 56

set_option maxHeartbeats 400000 in
theorem isLeaf_yes (t : TypeId) (v : Value) (w : World) (ht : LeafTy t) :
    Calls Try.prog 14 #[.iface t v] w fun e w' => e = .returned (.bool true) ∧ w' = w := by
  rcases ht with rfl | rfl | rfl | rfl | rfl | rfl
  all_goals
    go_enter Try.func14, Try.ntmps14
    go_wp2
    go_ret
    exact ⟨rfl, rfl⟩

set_option maxHeartbeats 400000 in
theorem isLeaf_no (t : TypeId) (v : Value) (w : World) (ht : NodeTy t) :
    Calls Try.prog 14 #[.iface t v] w fun e w' => e = .returned (.bool false) ∧ w' = w := by
  rcases ht with rfl | rfl | rfl | rfl | rfl | rfl
  all_goals
    go_enter Try.func14, Try.ntmps14
    go_wp2
    go_ret
    exact ⟨rfl, rfl⟩

set_option maxHeartbeats 400000 in
theorem size_leaf (x : Value) (t : TypeId) (v : Value) (w : World) (ht : LeafTy t) :
    Calls Try.prog 13 #[x, .iface t v] w fun e w' => e = .returned (.int .i64 1) ∧ w' = w := by
  go_enter Try.func13, Try.ntmps13
  go_wp2_with (go_at_call 14; refine (isLeaf_yes _ _ _ ht).mono ?_; rintro e w' ⟨rfl, rfl⟩)
  go_ret
  exact ⟨rfl, rfl⟩

theorem nodeTy_ptr {t : TypeId} (ht : NodeTy t) : PtrTy Try.prog t := by
  rcases ht with rfl | rfl | rfl | rfl | rfl | rfl
  · obtain ⟨i, hi, q⟩ := Option.map_eq_some_iff.1 (show (Try.prog.info? 35).map (fun i => i.comparable) = some true by kernel_rfl)
    obtain ⟨j, hj, q'⟩ := Option.map_eq_some_iff.1 (show (Try.prog.info? 37).map (fun i => i.size) = some 1 by kernel_rfl)
    exact ⟨37, i, j, Try.underlying35, hi, q, hj, by omega⟩
  · obtain ⟨i, hi, q⟩ := Option.map_eq_some_iff.1 (show (Try.prog.info? 38).map (fun i => i.comparable) = some true by kernel_rfl)
    obtain ⟨j, hj, q'⟩ := Option.map_eq_some_iff.1 (show (Try.prog.info? 40).map (fun i => i.size) = some 1 by kernel_rfl)
    exact ⟨40, i, j, Try.underlying38, hi, q, hj, by omega⟩
  · obtain ⟨i, hi, q⟩ := Option.map_eq_some_iff.1 (show (Try.prog.info? 49).map (fun i => i.comparable) = some true by kernel_rfl)
    obtain ⟨j, hj, q'⟩ := Option.map_eq_some_iff.1 (show (Try.prog.info? 51).map (fun i => i.size) = some 4 by kernel_rfl)
    exact ⟨51, i, j, Try.underlying49, hi, q, hj, by omega⟩
  · obtain ⟨i, hi, q⟩ := Option.map_eq_some_iff.1 (show (Try.prog.info? 52).map (fun i => i.comparable) = some true by kernel_rfl)
    obtain ⟨j, hj, q'⟩ := Option.map_eq_some_iff.1 (show (Try.prog.info? 53).map (fun i => i.size) = some 4 by kernel_rfl)
    exact ⟨53, i, j, Try.underlying52, hi, q, hj, by omega⟩
  · obtain ⟨i, hi, q⟩ := Option.map_eq_some_iff.1 (show (Try.prog.info? 54).map (fun i => i.comparable) = some true by kernel_rfl)
    obtain ⟨j, hj, q'⟩ := Option.map_eq_some_iff.1 (show (Try.prog.info? 55).map (fun i => i.size) = some 4 by kernel_rfl)
    exact ⟨55, i, j, Try.underlying54, hi, q, hj, by omega⟩
  · obtain ⟨i, hi, q⟩ := Option.map_eq_some_iff.1 (show (Try.prog.info? 56).map (fun i => i.comparable) = some true by kernel_rfl)
    obtain ⟨j, hj, q'⟩ := Option.map_eq_some_iff.1 (show (Try.prog.info? 58).map (fun i => i.size) = some 2 by kernel_rfl)
    exact ⟨58, i, j, Try.underlying56, hi, q, hj, by omega⟩

/-- The lookup in the memo, over this program. -/
theorem memo_look {m : Nat} {w : World} {k : Key} (S : Key → Nat) (h : KeyOk Try.prog m w k) (M : List Key) (hM : ∀ k ∈ M, KeyOk Try.prog m w k) (hm : w.heap[m]? = some (.map (ents S 0 M).toArray M.length)) :
    (Instr.lookup 74 (.map (some m)) (.iface k.1 (.pointer (some ⟨k.2, 0, none⟩))) true).run Try.prog w = .ok (.tuple #[.int .i64 (if k ∈ M then (S k : Int) else 0), .bool (decide (k ∈ M))]) w := by
  obtain ⟨i, hi, hz⟩ := Option.map_eq_some_iff.1 (show (Try.prog.info? 3).map (fun i => i.zero) = some (some (.int .i64 0)) by kernel_rfl)
  exact run_lookup_memo S Try.underlying74 hi hz Try.underlying34 h M hM hm

theorem memo_put {m : Nat} {w : World} {k : Key} (S : Key → Nat) (h : KeyOk Try.prog m w k) (M : List Key) (hM : ∀ k ∈ M, KeyOk Try.prog m w k) (hm : w.heap[m]? = some (.map (ents S 0 M).toArray M.length)) (hk : k ∉ M) (n : Int) (hn : n = S k) :
    (Instr.mapUpdate 74 (.map (some m)) (.iface k.1 (.pointer (some ⟨k.2, 0, none⟩))) (.int .i64 n)).run Try.prog w = .ok () (putMemo S m w (M ++ [k])) :=
  run_update_memo S Try.underlying74 Try.underlying34 h M hM hm hk n hn

/-- A node that the memo holds. -/
theorem size_held (S : Key → Nat) (x m t b : Nat) (M : List Key) (w : World) (hx : w.cell? ⟨x, 8, none⟩ = some (.map (some m))) (hM : ∀ k ∈ M, KeyOk Try.prog m w k)
    (hm : w.heap[m]? = some (.map (ents S 0 M).toArray M.length)) (hk : (t, b) ∈ M) (ht : NodeTy t) :
    Calls Try.prog 13 #[.pointer (some ⟨x, 0, none⟩), .iface t (.pointer (some ⟨b, 0, none⟩))] w fun e w' => e = .returned (.int .i64 (S (t, b))) ∧ w' = w := by
  have hl := memo_look S (hM _ hk) M hM hm
  rw [if_pos hk, decide_eq_true hk] at hl
  clear hM hm hk
  generalize S (t, b) = n at *
  simp only at hl
  go_enter Try.func13, Try.ntmps13
  go_wp2_with (go_at_call 14; refine (isLeaf_no _ _ _ ht).mono ?_; rintro e w' ⟨rfl, rfl⟩)
  go_ret
  exact ⟨rfl, rfl⟩

end Go.Proofs.Qxb6604459a
