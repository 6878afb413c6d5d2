import Derived.Test.Qxb6604459aSmall
import Derived.Test.Qxb6604459aAppend
namespace Go.Proofs.Qxb6604459a
open Go.RowKit

theorem Row.kp {m : Nat} {w0 w : World} (h : Kp m w0 w) {es : Array MapEntry} {c : Nat} (hm : w0.heap[m]? = some (.map es c)) {g : Nat} {t : TypeId} {xs : List Value} (hr : Row w0 g t xs) : Row w g t xs := by
  have hne : g ≠ m := by
    intro e
    unfold Row at hr
    rw [e, hm] at hr
    simp at hr
  unfold Row
  rw [h.block g hne]; exact hr

theorem Row.key {m : Nat} {w : World} {es : Array MapEntry} {c : Nat} (hm : w.heap[m]? = some (.map es c)) {g : Nat} {t : TypeId} {xs : List Value} (hr : Row w g t xs) {ty : TypeId} (hty : NodeTy ty) : KeyOk Try.prog m w (ty, g) := by
  have hne : g ≠ m := by
    intro e
    unfold Row at hr
    rw [e, hm] at hr
    simp at hr
  exact ⟨nodeTy_ptr hty, hne, _, _, hr⟩

theorem Own.kp {m : Nat} {w0 w : World} (h : Kp m w0 w) {es : Array MapEntry} {c : Nat} (hm : w0.heap[m]? = some (.map es c)) {g cap : Nat} {l : List Value} (ho : Own w0 g cap l) : Own w g cap l := by
  unfold Own at *
  obtain ⟨h1, h2⟩ := ho
  refine ⟨h1, ?_⟩
  rcases h2 with h2 | ⟨g', cap', cur, e, hb, hh, r⟩
  · exact .inl h2
  · refine .inr ⟨g', cap', cur, e, hb, ?_, r⟩
    have hne : g' ≠ m := by
      intro e
      rw [e, hm] at hh
      simp at hh
    rw [h.block g' hne]; exact hh

theorem Kp.below {m : Nat} {w0 w : World} (h : Kp m w0 w) {B : Nat} (hB : B ≤ m) : Below B w0 w :=
  ⟨h.os, h.tape, h.output, by rw [h.size]; exact Nat.le_refl _, fun k hk => h.block k (by omega)⟩

/-- A sequence of n leaves at block bs. -/
structure SeqAt (w : World) (n bs g : Nat) (xs : List Value) : Prop where
  row : Row w g 34 xs
  len : xs.length = n
  leaf : ∀ j, j < n → ∃ t v, LeafTy t ∧ xs[j]? = some (.iface t v)
  seq : Row w bs 37 [.slice (some ⟨g, 0, none⟩) n n]

theorem SeqAt.alloc {w : World} {n bs g : Nat} {xs : List Value} (h : SeqAt w n bs g xs) (o : Obj) : SeqAt (w.alloc o) n bs g xs := ⟨h.row.alloc o, h.len, h.leaf, h.seq.alloc o⟩

theorem SeqAt.kp {m : Nat} {w0 w : World} (k : Kp m w0 w) {es : Array MapEntry} {c : Nat} (hm : w0.heap[m]? = some (.map es c)) {n bs g : Nat} {xs : List Value} (h : SeqAt w0 n bs g xs) : SeqAt w n bs g xs :=
  ⟨h.row.kp k hm, h.len, h.leaf, h.seq.kp k hm⟩

theorem SeqAt.sz {S : Key → Nat} {x m : Nat} {w : World} (E : Env x m w) {n bs g : Nat} {xs : List Value} (h : SeqAt w n bs g xs) (hS : S (35, bs) = n + 1) (hn : n ≤ 1099511627776) :
    Sz S x m w (.iface 35 (.pointer (some ⟨bs, 0, none⟩))) (n + 1) (nodeF (35, bs) id) := by
  obtain ⟨es, c, hm⟩ := E.isMap
  refine sz_seq E bs g n n (h.seq.key hm (.inl rfl)) (h.seq.cell rfl) ?_ hS hn
  intro i hi
  obtain ⟨t, v, h1, h2⟩ := h.leaf i hi
  exact ⟨t, v, h1, h.row.cell h2⟩

def sv (bs : Nat) : Value := .iface 35 (.pointer (some ⟨bs, 0, none⟩))

/-- What the law has built: the alternation's parts. -/
structure Built (w : World) (n c bs g gp bo br bm bd : Nat) (xs : List Value) (lo lr lm : Value × Value × Value) (v4 v5 v6 v7 v8 : Value) : Prop where
  seq : SeqAt w n bs g xs
  opt : Row w bo 51 [lo.1, lo.2.1, lo.2.2, sv bs]
  rep : Row w br 53 [lr.1, lr.2.1, lr.2.2, sv bs]
  oom : Row w bm 55 [lm.1, lm.2.1, lm.2.2, sv bs]
  dif : Row w bd 58 [sv bs, sv bs]
  parts : Own w gp (c + 9) (List.replicate c (sv bs) ++ [.iface 49 (.pointer (some ⟨bo, 0, none⟩)), .iface 52 (.pointer (some ⟨br, 0, none⟩)), .iface 54 (.pointer (some ⟨bm, 0, none⟩)), .iface 56 (.pointer (some ⟨bd, 0, none⟩)), .iface 59 v4, .iface 62 v5, .iface 65 v6, .iface 68 v7, .iface 70 v8])

theorem Built.alloc {w : World} {n c bs g gp bo br bm bd : Nat} {xs : List Value} {lo lr lm : Value × Value × Value} {v4 v5 v6 v7 v8 : Value} (h : Built w n c bs g gp bo br bm bd xs lo lr lm v4 v5 v6 v7 v8) (o : Obj) :
    Built (w.alloc o) n c bs g gp bo br bm bd xs lo lr lm v4 v5 v6 v7 v8 :=
  ⟨h.seq.alloc o, h.opt.alloc o, h.rep.alloc o, h.oom.alloc o, h.dif.alloc o, h.parts.alloc o⟩

theorem Built.kp {m : Nat} {w0 w : World} (k : Kp m w0 w) {es : Array MapEntry} {cc : Nat} (hm : w0.heap[m]? = some (.map es cc)) {n c bs g gp bo br bm bd : Nat} {xs : List Value} {lo lr lm : Value × Value × Value} {v4 v5 v6 v7 v8 : Value} (h : Built w0 n c bs g gp bo br bm bd xs lo lr lm v4 v5 v6 v7 v8) :
    Built w n c bs g gp bo br bm bd xs lo lr lm v4 v5 v6 v7 v8 :=
  ⟨h.seq.kp k hm, h.opt.kp k hm, h.rep.kp k hm, h.oom.kp k hm, h.dif.kp k hm, h.parts.kp k hm⟩

/-- The sizes, by the kind of node. -/
def sizesOf (n c : Nat) (k : Key) : Nat :=
  if k.1 = 35 then n + 1 else if k.1 = 38 then (c + 5) * (n + 1) + 10 else if k.1 = 56 then 2 * n + 3 else n + 2

/-- Part i of the alternation: its value, its size, what it does to the memo. -/
def pv (c bs bo br bm bd : Nat) (v4 v5 v6 v7 v8 : Value) (i : Nat) : Value :=
  if i < c then sv bs else if i = c then .iface 49 (.pointer (some ⟨bo, 0, none⟩)) else if i = c + 1 then .iface 52 (.pointer (some ⟨br, 0, none⟩)) else if i = c + 2 then .iface 54 (.pointer (some ⟨bm, 0, none⟩))
  else if i = c + 3 then .iface 56 (.pointer (some ⟨bd, 0, none⟩)) else if i = c + 4 then .iface 59 v4 else if i = c + 5 then .iface 62 v5 else if i = c + 6 then .iface 65 v6 else if i = c + 7 then .iface 68 v7 else .iface 70 v8

def pn (n c : Nat) (i : Nat) : Nat := if i < c then n + 1 else if i < c + 3 then n + 2 else if i = c + 3 then 2 * n + 3 else 1

def pf (c bs bo br bm bd : Nat) (i : Nat) : List Key → List Key :=
  if i < c then nodeF (35, bs) id else if i = c then nodeF (49, bo) (nodeF (35, bs) id) else if i = c + 1 then nodeF (52, br) (nodeF (35, bs) id) else if i = c + 2 then nodeF (54, bm) (nodeF (35, bs) id)
  else if i = c + 3 then nodeF (56, bd) (fun M => nodeF (35, bs) id (nodeF (35, bs) id M)) else id

theorem sumTo_pn_lo (n c : Nat) : ∀ k, k ≤ c → sumTo (pn n c) k = k * (n + 1)
  | 0, _ => by simp [sumTo]
  | k + 1, h => by
    rw [sumTo, sumTo_pn_lo n c k (by omega), pn, if_pos (by omega), Nat.succ_mul]

theorem sumTo_pn (n c : Nat) : sumTo (pn n c) (c + 9) + 1 = (c + 5) * (n + 1) + 10 := by
  have h := sumTo_pn_lo n c c (Nat.le_refl _)
  have q : ∀ j, ¬ c + j < c := fun j => by omega
  simp only [sumTo, h, pn]
  simp [q]
  rw [Nat.add_mul]
  omega

theorem nodeF_not {k k' : Key} {g : List Key → List Key} (hne : k ≠ k') (hg : ∀ M, k ∉ M → k ∉ g M) (M : List Key) (h : k ∉ M) : k ∉ nodeF k' g M := by
  unfold nodeF
  split
  · exact h
  · intro hm
    rcases List.mem_append.1 hm with h1 | h1
    · exact hg M h h1
    · exact hne (by simpa using h1)

theorem effTo_not {k : Key} {f : Nat → List Key → List Key} (hf : ∀ i M, k ∉ M → k ∉ f i M) : ∀ n M, k ∉ M → k ∉ effTo f n M
  | 0, _, h => h
  | n + 1, M, h => hf n _ (effTo_not hf n M h)

theorem seqF_not {k : Key} (bs : Nat) (h : k.1 ≠ 35) (M : List Key) (hM : k ∉ M) : k ∉ nodeF (35, bs) id M :=
  nodeF_not (fun e => h (by rw [e])) (fun _ h => h) M hM

theorem pf_not (c bs bo br bm bd be i : Nat) (M : List Key) (h : (38, be) ∉ M) : (38, be) ∉ pf c bs bo br bm bd i M := by
  have hs : ∀ M, (38, be) ∉ M → (38, be) ∉ nodeF (35, bs) id M := fun M h => seqF_not bs (by simp) M h
  unfold pf
  split
  · exact hs M h
  split
  · exact nodeF_not (by simp) hs M h
  split
  · exact nodeF_not (by simp) hs M h
  split
  · exact nodeF_not (by simp) hs M h
  split
  · exact nodeF_not (by simp) (fun M h => hs _ (hs M h)) M h
  · exact h

theorem eff_lo (c bs bo br bm bd : Nat) : ∀ k, k ≤ c → effTo (pf c bs bo br bm bd) k [] = if k = 0 then [] else [(35, bs)]
  | 0, _ => rfl
  | k + 1, h => by
    rw [effTo, eff_lo c bs bo br bm bd k (by omega), pf, if_pos (by omega)]
    by_cases e : k = 0
    · subst e; simp [nodeF]
    · simp [e, nodeF]

theorem eff_all (c bs bo br bm bd : Nat) : effTo (pf c bs bo br bm bd) (c + 9) [] = [(35, bs), (49, bo), (52, br), (54, bm), (56, bd)] := by
  have h := eff_lo c bs bo br bm bd c (Nat.le_refl _)
  have q : ∀ j, ¬ c + j < c := fun j => by omega
  simp only [effTo, h, pf]
  by_cases e : c = 0
  · subst e; simp [nodeF]
  · simp [q, e, nodeF]

/-- The alternation's size, and the memo behind it. -/
theorem Built.sz {x m : Nat} {w : World} (E : Env x m w) {n c bs g gp bo br bm bd be : Nat} {xs : List Value} {lo lr lm : Value × Value × Value} {v4 v5 v6 v7 v8 : Value} (h : Built w n c bs g gp bo br bm bd xs lo lr lm v4 v5 v6 v7 v8)
    (halt : Row w be 40 [.slice (some ⟨gp, 0, none⟩) (c + 9) (c + 9)]) (hn : n ≤ 65536) (hc : c ≤ 4096) :
    Sz (sizesOf n c) x m w (.iface 38 (.pointer (some ⟨be, 0, none⟩))) ((c + 5) * (n + 1) + 10) (nodeF (38, be) (effTo (pf c bs bo br bm bd) (c + 9))) := by
  obtain ⟨es, cc, hm⟩ := E.isMap
  have hs := h.seq.sz (S := sizesOf n c) E (by simp [sizesOf]) (by omega)
  have hb : (c + 5) * (n + 1) ≤ 4101 * 65537 := Nat.mul_le_mul (by omega) (by omega)
  have hsum := sumTo_pn n c
  rw [← hsum]
  refine sz_alt E be gp (c + 9) (c + 9) (pv c bs bo br bm bd v4 v5 v6 v7 v8) (pn n c) (pf c bs bo br bm bd) (halt.key hm (by simp [NodeTy])) (halt.cell rfl) ?_ ?_ (fun M hM => effTo_not (pf_not c bs bo br bm bd be) _ M hM) (by rw [hsum]; simp [sizesOf]) (by omega) (by omega)
  · intro i hi
    refine h.parts.cell ?_
    by_cases h1 : i < c
    · rw [List.getElem?_append_left (by simpa using h1), List.getElem?_replicate, if_pos h1, pv, if_pos h1]
    · rw [List.getElem?_append_right (by simpa using h1), List.length_replicate]
      obtain ⟨j, rfl⟩ : ∃ j, i = c + j := ⟨i - c, by omega⟩
      rw [show c + j - c = j by omega, pv, if_neg h1]
      have hj : j < 9 := by omega
      match j, hj with
      | 0, _ => simp
      | 1, _ => simp
      | 2, _ => simp
      | 3, _ => simp
      | 4, _ => simp
      | 5, _ => simp
      | 6, _ => simp
      | 7, _ => simp
      | 8, _ => simp
  · intro i hi
    have hsn : ∀ t b, t ≠ 35 → ∀ M, (t, b) ∉ M → (t, b) ∉ nodeF (35, bs) id M := fun t b ht M hM => seqF_not bs ht M hM
    by_cases h1 : i < c
    · rw [pv, pn, pf, if_pos h1, if_pos h1, if_pos h1]; exact hs
    · obtain ⟨j, rfl⟩ : ∃ j, i = c + j := ⟨i - c, by omega⟩
      rw [pv, pn, pf, if_neg h1, if_neg h1, if_neg h1]
      have hj : j < 9 := by omega
      match j, hj with
      | 0, _ =>
        simp only [Nat.add_zero, if_true]
        rw [if_pos (by omega)]
        exact sz_wrap E 49 bo (n + 1) _ _ (by simp) (h.opt.key hm (by simp [NodeTy])) (h.opt.cell rfl) hs (hsn 49 bo (by simp)) (by simp [sizesOf]) (by omega)
      | 1, _ =>
        rw [if_neg (by omega), if_pos rfl, if_pos (by omega), if_neg (by omega), if_pos rfl]
        exact sz_wrap E 52 br (n + 1) _ _ (by simp) (h.rep.key hm (by simp [NodeTy])) (h.rep.cell rfl) hs (hsn 52 br (by simp)) (by simp [sizesOf]) (by omega)
      | 2, _ =>
        rw [if_neg (by omega), if_neg (by omega), if_pos rfl, if_pos (by omega), if_neg (by omega), if_neg (by omega), if_pos rfl]
        exact sz_wrap E 54 bm (n + 1) _ _ (by simp) (h.oom.key hm (by simp [NodeTy])) (h.oom.cell rfl) hs (hsn 54 bm (by simp)) (by simp [sizesOf]) (by omega)
      | 3, _ =>
        rw [if_neg (by omega), if_neg (by omega), if_neg (by omega), if_pos rfl, if_neg (by omega), if_pos rfl, if_neg (by omega), if_neg (by omega), if_neg (by omega), if_pos rfl]
        have := sz_diff E bd (n + 1) (n + 1) _ _ _ _ (h.dif.key hm (by simp [NodeTy])) (h.dif.cell rfl) (h.dif.cell rfl) hs hs (fun M hM => hsn 56 bd (by simp) _ (hsn 56 bd (by simp) M hM)) (by simp [sizesOf]; omega) (by omega)
        rw [show n + 1 + (n + 1) + 1 = 2 * n + 3 by omega] at this
        exact this
      | 4, _ => simp; exact sz_leaf _ _ _ _ 59 _ (by simp [LeafTy])
      | 5, _ => simp; exact sz_leaf _ _ _ _ 62 _ (by simp [LeafTy])
      | 6, _ => simp; exact sz_leaf _ _ _ _ 65 _ (by simp [LeafTy])
      | 7, _ => simp; exact sz_leaf _ _ _ _ 68 _ (by simp [LeafTy])
      | 8, _ => simp; exact sz_leaf _ _ _ _ 70 _ (by simp [LeafTy])

end Go.Proofs.Qxb6604459a
