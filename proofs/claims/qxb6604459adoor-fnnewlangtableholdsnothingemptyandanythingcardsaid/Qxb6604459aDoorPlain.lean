import Derived.Test.Qxb6604459aDoorRead
namespace Go.Proofs.Qxb6604459aDoor
open Go.RowKit

def und (b : UInt8) : Nat := if b.toNat < 58 then b.toNat - 48 else b.toNat - 87
def hval (l : List UInt8) : Nat := l.foldl (fun a b => a * 16 + und b) 0

theorem und_dig (k : Nat) (h : k < 16) : und (dig k) = k := by
  have key : ∀ k : Fin 16, und (dig k.val) = k.val := by decide
  exact key ⟨k, h⟩

theorem dig_ne (k : Nat) (h : k < 16) : dig k ≠ 45 := by
  have key : ∀ k : Fin 16, dig k.val ≠ 45 := by decide
  exact key ⟨k, h⟩

theorem foldl_hex : ∀ (l : List UInt8) (a : Nat), l.foldl (fun a b => a * 16 + und b) a = a * 16 ^ l.length + hval l
  | [], a => by simp [hval]
  | b :: r, a => by
    have h1 := foldl_hex r (a * 16 + und b)
    have h2 := foldl_hex r (und b)
    have e : hval (b :: r) = r.foldl (fun a b => a * 16 + und b) (und b) := by simp [hval]
    rw [List.foldl_cons, h1, e, h2, List.length_cons, Nat.pow_succ, Nat.add_mul, Nat.mul_assoc, Nat.mul_comm 16, Nat.add_assoc]

theorem hval_cons (b : UInt8) (r : List UInt8) : hval (b :: r) = und b * 16 ^ r.length + hval r := by
  have e : hval (b :: r) = r.foldl (fun a b => a * 16 + und b) (und b) := by simp [hval]
  rw [e, foldl_hex]

theorem hval_acc : ∀ (f n : Nat) (acc : List UInt8), n < 16 ^ f → hval (hexAcc f n acc) = n * 16 ^ acc.length + hval acc
  | 0, n, acc, h => by
    have : n = 0 := by simpa using h
    simp [hexAcc, this]
  | f + 1, n, acc, h => by
    rw [hexAcc]
    split
    · rename_i h16
      rw [hval_cons, und_dig n h16]
    · rw [hval_acc f (n / 16) _ (Nat.div_lt_of_lt_mul (by rw [Nat.pow_succ, Nat.mul_comm] at h; exact h)), hval_cons, und_dig _ (Nat.mod_lt _ (by omega)), List.length_cons, Nat.pow_succ, ← Nat.add_assoc, Nat.mul_comm (16 ^ acc.length) 16, ← Nat.mul_assoc, ← Nat.add_mul]
      congr 2
      have := Nat.div_add_mod n 16
      omega

theorem hexN_inj {a b : Nat} (ha : a ≤ 2147483648) (hb : b ≤ 2147483648) (h : hexN a = hexN b) : a = b := by
  have h1 := hval_acc 16 a [] (Nat.lt_of_le_of_lt ha (by decide))
  have h2 := hval_acc 16 b [] (Nat.lt_of_le_of_lt hb (by decide))
  have h3 : hval (hexN a) = hval (hexN b) := by rw [h]
  simp only [hexN] at h3
  rw [h1, h2] at h3
  simpa using h3

theorem hexAcc_ne : ∀ (f n : Nat) (acc : List UInt8), (∀ b ∈ acc, b ≠ 45) → ∀ b ∈ hexAcc f n acc, b ≠ 45
  | 0, _, _, h => h
  | f + 1, n, acc, h => by
    rw [hexAcc]
    split
    · rename_i h16
      intro b hb
      rcases List.mem_cons.1 hb with e | e
      · rw [e]; exact dig_ne n h16
      · exact h b e
    · refine hexAcc_ne f _ _ ?_
      intro b hb
      rcases List.mem_cons.1 hb with e | e
      · rw [e]; exact dig_ne _ (Nat.mod_lt _ (by omega))
      · exact h b e

theorem hexN_ne (n : Nat) : ∀ b ∈ hexN n, b ≠ 45 := hexAcc_ne 16 n [] (by simp)

theorem hexI_inj {a b : Int} (ha1 : -2147483648 ≤ a) (ha2 : a ≤ 2147483647) (hb1 : -2147483648 ≤ b) (hb2 : b ≤ 2147483647) (h : hexI a = hexI b) : a = b := by
  unfold hexI at h
  split at h <;> split at h
  · have := hexN_inj (by omega) (by omega) (List.cons.inj h).2
    omega
  · have := hexN_ne b.toNat 45 (by rw [← h]; simp)
    exact absurd rfl this
  · have := hexN_ne a.toNat 45 (by rw [h]; simp)
    exact absurd rfl this
  · have := hexN_inj (by omega) (by omega) h
    omega

/-- A number's text, a minus sign, and a rest: read back. -/
theorem split_dash : ∀ {l l' r r' : List UInt8}, (∀ b ∈ l, b ≠ 45) → (∀ b ∈ l', b ≠ 45) → l ++ 45 :: r = l' ++ 45 :: r' → l = l' ∧ r = r'
  | [], [], _, _, _, _, h => ⟨rfl, (List.cons.inj h).2⟩
  | [], b :: l', _, _, _, h', h => absurd (List.cons.inj h).1.symm (h' b (by simp))
  | b :: l, [], _, _, h1, _, h => absurd (List.cons.inj h).1 (h1 b (by simp))
  | b :: l, b' :: l', r, r', h1, h2, h => by
    obtain ⟨e1, e2⟩ := List.cons.inj h
    obtain ⟨e3, e4⟩ := split_dash (l := l) (l' := l') (r := r) (r' := r') (fun b hb => h1 b (by simp [hb])) (fun b hb => h2 b (by simp [hb])) e2
    exact ⟨by rw [e1, e3], e4⟩

theorem ckey_inj {lo hi lo' hi' : Int} (a1 : -2147483648 ≤ lo) (a2 : lo ≤ 2147483647) (b1 : -2147483648 ≤ hi) (b2 : hi ≤ 2147483647) (c1 : 0 ≤ lo') (c2 : lo' ≤ 2147483647) (d1 : -2147483648 ≤ hi') (d2 : hi' ≤ 2147483647) (h : ckey lo hi = ckey lo' hi') : lo = lo' ∧ hi = hi' := by
  have h1 : hexI lo ++ 45 :: hexI hi = hexI lo' ++ 45 :: hexI hi' := by
    have := List.append_cancel_left h
    simpa using this
  have e' : hexI lo' = hexN lo'.toNat := by unfold hexI; rw [if_neg (by omega)]
  by_cases hn : lo < 0
  · have e : hexI lo = 45 :: hexN (-lo).toNat := by unfold hexI; rw [if_pos hn]
    have hp := hexN_pos lo'.toNat
    rw [e, e'] at h1
    cases hq : hexN lo'.toNat with
    | nil => rw [hq] at hp; simp at hp
    | cons b r =>
      rw [hq] at h1
      have := hexN_ne lo'.toNat b (by rw [hq]; simp)
      exact absurd (List.cons.inj h1).1.symm this
  · have e : hexI lo = hexN lo.toNat := by unfold hexI; rw [if_neg hn]
    rw [e, e'] at h1
    obtain ⟨h2, h3⟩ := split_dash (hexN_ne _) (hexN_ne _) h1
    have := hexN_inj (by omega) (by omega) h2
    exact ⟨by omega, hexI_inj b1 b2 d1 d2 h3⟩

theorem ckey_new {lo hi : Int} (a1 : -2147483648 ≤ lo) (a2 : lo ≤ 2147483647) (b1 : -2147483648 ≤ hi) (b2 : hi ≤ 2147483647) (h : ¬ (lo = 0 ∧ hi = 1114111)) : ckey lo hi ∉ keys4 := by
  have hd : ckey lo hi = 99 :: ([104, 97, 114, 115] ++ (32 :: hexI lo ++ 45 :: hexI hi)) := rfl
  intro hm
  simp only [keys4, List.mem_cons, List.not_mem_nil, or_false] at hm
  rcases hm with e | e | e | e
  · rw [hd] at e; exact absurd (List.cons.inj e).1 (by decide)
  · rw [hd] at e; exact absurd (List.cons.inj e).1 (by decide)
  · rw [← kC_eq] at e
    exact h (ckey_inj a1 a2 b1 b2 (by decide) (by decide) (by decide) (by decide) e)
  · rw [hd] at e; exact absurd (List.cons.inj e).1 (by decide)

theorem ckey_length (lo hi : Int) : (ckey lo hi).length ≤ 41 := by
  have := hexI_length lo
  have := hexI_length hi
  simp [ckey]; omega

end Go.Proofs.Qxb6604459aDoor
