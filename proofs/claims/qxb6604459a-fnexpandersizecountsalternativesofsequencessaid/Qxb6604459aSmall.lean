import Derived.Test.Qxb6604459aDiff
import Derived.Test.Qxb6604459aClone
namespace Go.Proofs.Qxb6604459a
open Go.RowKit

theorem newExpander (w : World) :
    Calls Try.prog 7 #[] w fun e w' => e = .returned (.pointer (some ⟨w.heap.size + 1, 0, none⟩)) ∧ ∃ cs, cs[8]? = some (.map (some w.heap.size)) ∧ w' = (w.alloc (.map #[] 0)).alloc (.cells cs 78) := by
  have hmm := @run_makeMap Try.prog
  go_enter Try.func7, Try.ntmps7
  go_wp2
  go_ret
  exact ⟨rfl, _, rfl, rfl⟩

theorem memo_calls (S : Key → Nat) (x m t b : Nat) (M : List Key) (w : World) (hx : w.cell? ⟨x, 8, none⟩ = some (.map (some m))) (hM : ∀ k ∈ M, KeyOk Try.prog m w k)
    (hm : w.heap[m]? = some (.map (ents S 0 M).toArray M.length)) (hk : (t, b) ∈ M) :
    Calls Try.prog 9 #[.pointer (some ⟨x, 0, none⟩), .iface t (.pointer (some ⟨b, 0, none⟩))] w fun e w' => e = .returned (.tuple #[.int .i64 (S (t, b)), .bool true]) ∧ w' = w := by
  have hl := memo_look S (hM _ hk) M hM hm
  rw [if_pos hk, decide_eq_true hk] at hl
  clear hM hm hk
  generalize S (t, b) = n at *
  simp only at hl
  go_enter Try.func9, Try.ntmps9
  go_wp2
  go_ret2
  exact ⟨rfl, rfl⟩

theorem len_map {P : Program} {t k e ty : TypeId} {m : Nat} {es : Array MapEntry} {c : Nat} (w : World) (ht : P.underlying t = some (.map k e)) (hm : w.heap[m]? = some (.map es c)) :
    (Builtin.len_ #[t] ty #[.map (some m)]).run P w = .ok (.int .i64 es.size) w := by
  simp [Builtin.len_, run_underlying ht, MapKept.run_getObj_map hm, Result.andThen, goInt]

theorem memoLen_calls (S : Key → Nat) (x m : Nat) (M : List Key) (w : World) (hx : w.cell? ⟨x, 8, none⟩ = some (.map (some m))) 
    (hm : w.heap[m]? = some (.map (ents S 0 M).toArray M.length)) :
    Calls Try.prog 10 #[.pointer (some ⟨x, 0, none⟩)] w fun e w' => e = .returned (.int .i64 M.length) ∧ w' = w := by
  have hl := fun ty => len_map (P := Try.prog) (ty := ty) w Try.underlying74 hm
  simp only [List.size_toArray, ents_length] at hl
  clear hm
  generalize M.length = n at *
  go_enter Try.func10, Try.ntmps10
  go_wp2
  go_ret
  exact ⟨rfl, rfl⟩

theorem zzSize {S : Key → Nat} {x m : Nat} {w0 : World} {v : Value} {n : Nat} {f : List Key → List Key} (h : Sz S x m w0 v n f) (w : World) (M : List Key) (hst : St S m w0 w M) :
    Calls Try.prog 8 #[.pointer (some ⟨x, 0, none⟩), v] w fun e w' => e = .returned (.int .i64 (n : Int)) ∧ St S m w0 w' (f M) := by
  go_enter Try.func8, Try.ntmps8
  go_wp2_with fail
  refine (h _ M hst).mono ?_
  rintro e w1 ⟨rfl, h1⟩
  go_wp2
  go_ret
  exact ⟨rfl, h1⟩

end Go.Proofs.Qxb6604459a
