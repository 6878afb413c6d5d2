import Derived.Test.Qxb6604459aSeq
namespace Go.Proofs.Qxb6604459a
open Go.RowKit
attribute [local go_sem] ta28 ta35 ta38 ta49 ta52 ta54 ta56 ta59 ta62 ta65 ta68 ta70

/-- All but block m is as it was in w0. -/
structure Kp (m : Nat) (w0 w : World) : Prop where
  os : w.os = w0.os
  tape : w.tape = w0.tape
  output : w.output = w0.output
  size : w.heap.size = w0.heap.size
  block : ∀ k, k ≠ m → w.heap[k]? = w0.heap[k]?

theorem Kp.refl (m : Nat) (w : World) : Kp m w w := ⟨rfl, rfl, rfl, rfl, fun _ _ => rfl⟩
theorem Kp.drew {m : Nat} {w0 w : World} (h : Kp m w0 w) : Kp m w0 w.drew := ⟨h.os, h.tape, h.output, h.size, h.block⟩

theorem Kp.cell {m : Nat} {w0 w : World} (h : Kp m w0 w) {es : Array MapEntry} {c : Nat} (hm : w0.heap[m]? = some (.map es c)) {a : Addr} {v : Value} (ha : w0.cell? a = some v) : w.cell? a = some v := by
  have hne : a.block ≠ m := by
    intro e
    unfold World.cell? at ha
    rw [e, hm] at ha
    simp at ha
  rw [World.cell?_of_block (w := w0) (h.block a.block hne)]
  exact ha

theorem Kp.key {m : Nat} {w0 w : World} (h : Kp m w0 w) {k : Key} (hk : KeyOk Try.prog m w0 k) : KeyOk Try.prog m w k := by
  obtain ⟨h1, h2, cs, t, h3⟩ := hk
  exact ⟨h1, h2, cs, t, by rw [h.block _ h2]; exact h3⟩

/-- The memo M lies at block m; all else is as in w0. -/
structure St (S : Key → Nat) (m : Nat) (w0 w : World) (M : List Key) : Prop where
  kp : Kp m w0 w
  memo : w.heap[m]? = some (.map (ents S 0 M).toArray M.length)
  keys : ∀ k ∈ M, KeyOk Try.prog m w0 k

theorem St.keys' {S : Key → Nat} {m : Nat} {w0 w : World} {M : List Key} (h : St S m w0 w M) : ∀ k ∈ M, KeyOk Try.prog m w k := fun k hk => h.kp.key (h.keys k hk)

theorem St.drew {S : Key → Nat} {m : Nat} {w0 w : World} {M : List Key} (h : St S m w0 w M) : St S m w0 w.drew M := ⟨h.kp.drew, h.memo, h.keys⟩

theorem St.put {S : Key → Nat} {m : Nat} {w0 w : World} {M : List Key} (h : St S m w0 w M) {k : Key} (hk : KeyOk Try.prog m w0 k) : St S m w0 (putMemo S m w (M ++ [k])) (M ++ [k]) := by
  have hlt : m < w.heap.size := by
    rcases Nat.lt_or_ge m w.heap.size with h' | h'
    · exact h'
    · have := h.memo; rw [Array.getElem?_eq_none h'] at this; cases this
  refine ⟨⟨h.kp.os, h.kp.tape, h.kp.output, ?_, ?_⟩, ?_, ?_⟩
  · simp [putMemo, h.kp.size]
  · intro j hj
    simp only [putMemo]
    rw [Array.getElem?_setIfInBounds_ne (by omega)]
    exact h.kp.block j hj
  · simp only [putMemo]
    rw [Array.getElem?_setIfInBounds_self_of_lt hlt]
  · intro j hj
    rcases List.mem_append.1 hj with h' | h'
    · exact h.keys j h'
    · obtain rfl : j = k := by simpa using h'
      exact hk

/-- What size is told of the expander x, its memo's block m and the memory. -/
structure Env (x m : Nat) (w0 : World) : Prop where
  isMap : ∃ es c, w0.heap[m]? = some (.map es c)
  field : w0.cell? ⟨x, 8, none⟩ = some (.map (some m))

/-- 'size' of v is n; it turns the memo by f. -/
def Sz (S : Key → Nat) (x m : Nat) (w0 : World) (v : Value) (n : Nat) (f : List Key → List Key) : Prop :=
  ∀ w M, St S m w0 w M → Calls Try.prog 13 #[.pointer (some ⟨x, 0, none⟩), v] w fun e w' => e = .returned (.int .i64 (n : Int)) ∧ St S m w0 w' (f M)

def nodeF (k : Key) (g : List Key → List Key) (M : List Key) : List Key := if k ∈ M then M else g M ++ [k]

theorem sz_leaf (S : Key → Nat) (x m : Nat) (w0 : World) (t : TypeId) (v : Value) (ht : LeafTy t) : Sz S x m w0 (.iface t v) 1 id := by
  intro w M h
  refine (size_leaf _ t v w ht).mono ?_
  rintro e w' ⟨rfl, rfl⟩
  exact ⟨rfl, h⟩

theorem sz_held {S : Key → Nat} {x m : Nat} {w0 : World} (E : Env x m w0) {w : World} {M : List Key} (h : St S m w0 w M) {t b : Nat} (ht : NodeTy t) (hk : (t, b) ∈ M) (g : List Key → List Key) (n : Nat) (hS : S (t, b) = n) :
    Calls Try.prog 13 #[.pointer (some ⟨x, 0, none⟩), .iface t (.pointer (some ⟨b, 0, none⟩))] w fun e w' => e = .returned (.int .i64 (n : Int)) ∧ St S m w0 w' (nodeF (t, b) g M) := by
  obtain ⟨es, c, hm⟩ := E.isMap
  refine (size_held S x m t b M w (h.kp.cell hm E.field) h.keys' h.memo hk ht).mono ?_
  rintro e w' ⟨rfl, rfl⟩
  exact ⟨by rw [hS], by rw [nodeF, if_pos hk]; exact h⟩

theorem sz_seq {S : Key → Nat} {x m : Nat} {w0 : World} (E : Env x m w0) (b g n c : Nat) (hkey : KeyOk Try.prog m w0 (35, b)) (hb : w0.cell? ⟨b, 0, none⟩ = some (.slice (some ⟨g, 0, none⟩) n c))
    (hit : ∀ i, i < n → ∃ t v, LeafTy t ∧ w0.cell? ⟨g, i, none⟩ = some (.iface t v)) (hS : S (35, b) = n + 1) (hn : n ≤ 1099511627776) :
    Sz S x m w0 (.iface 35 (.pointer (some ⟨b, 0, none⟩))) (n + 1) (nodeF (35, b) id) := by
  intro w M h
  by_cases hk : (35, b) ∈ M
  · exact sz_held E h (.inl rfl) hk _ _ hS
  · obtain ⟨es, c', hm⟩ := E.isMap
    refine (size_seq S x m b g n c M w (h.kp.cell hm E.field) h.keys' h.memo hk (h.kp.key hkey) (h.kp.cell hm hb) ?_ hS hn).mono ?_
    · intro i hi
      obtain ⟨t, v, h1, h2⟩ := hit i hi
      exact ⟨t, v, h1, h.kp.cell hm h2⟩
    · rintro e w' ⟨rfl, rfl⟩
      exact ⟨by rw [Int.natCast_add]; rfl, by rw [nodeF, if_neg hk]; exact h.put hkey⟩

set_option maxHeartbeats 400000 in
theorem sz_wrap {S : Key → Nat} {x m : Nat} {w0 : World} (E : Env x m w0) (t b n : Nat) (v : Value) (f : List Key → List Key) (ht : t = 49 ∨ t = 52 ∨ t = 54) (hkey : KeyOk Try.prog m w0 (t, b)) (hb : w0.cell? ⟨b, 3, none⟩ = some v)
    (hv : Sz S x m w0 v n f) (hf : ∀ M, (t, b) ∉ M → (t, b) ∉ f M) (hS : S (t, b) = n + 1) (hn : n ≤ 1099511627776) :
    Sz S x m w0 (.iface t (.pointer (some ⟨b, 0, none⟩))) (n + 1) (nodeF (t, b) f) := by
  intro w M h
  have hnt : NodeTy t := by rcases ht with rfl | rfl | rfl <;> simp [NodeTy]
  by_cases hk : (t, b) ∈ M
  · exact sz_held E h hnt hk _ _ hS
  · obtain ⟨es, c', hm⟩ := E.isMap
    have hl := memo_look S (h.kp.key hkey) M h.keys' h.memo
    rw [if_neg hk, decide_eq_false hk] at hl
    simp only at hl
    have hx := h.kp.cell hm E.field
    have hc := h.kp.cell hm hb
    have HF : Hid ((t, b) ∉ f M) := hf M hk
    have HK : Hid ((t, b) ∉ M) := hk
    have HH : Hid (St S m w0 w M) := h
    have HS : Hid (S (t, b) = n + 1) := hS
    have HM : Hid (w0.heap[m]? = some (.map es c')) := hm
    have HB : Hid (w0.cell? ⟨b, 3, none⟩ = some v) := hb
    clear hf hk h hS hm hb
    rcases ht with rfl | rfl | rfl
    all_goals
      go_enter Try.func13, Try.ntmps13
      go_wp2_with (go_at_call 14; refine (isLeaf_no _ _ _ hnt).mono ?_; rintro e w' ⟨rfl, rfl⟩)
      refine (hv _ M HH.out).mono ?_
      rintro e w1 ⟨rfl, h1⟩
      have hx1 := h1.kp.cell HM.out E.field
      have hp := memo_put S (h1.kp.key hkey) (f M) h1.keys' h1.memo HF.out (1 + (n : Int)) (by rw [HS.out]; omega)
      simp only at hp
      have H1 : Hid (St S m w0 w1 (f M)) := h1
      clear h1 hl hx hc
      go_wp2
      go_ret
      exact ⟨by rw [Int.natCast_add]; first | rfl | (rw [Int.add_comm]; rfl), by rw [nodeF, if_neg HK.out]; exact H1.out.put hkey⟩

end Go.Proofs.Qxb6604459a
