import Derived.Test.Qxb6604459aDoorMem
import Derived.Deep.RegionLaw
namespace Go.Proofs.Qxb6604459aDoor
open Go.RowKit

theorem info5 : (Tryd.prog.info? 5).map (fun i => (i.zero, i.size, i.bytes)) = some (some (.int .u8 0), 1, 1) := by kernel_rfl
theorem info62 : (Tryd.prog.info? 62).map (fun i => (i.zero, i.size, i.bytes)) = some (some (.agg #[.string ⟨#[]⟩, .slice none 0 0, .slice none 0 0, .bool false, .int .i32 0, .slice none 0 0, .bool false]), 7, 104) := by kernel_rfl

section
variable {w : World} {ops : Array Oper} {rest : List Oper} {o : Oper} {a : Act} {Q : Exit → Act → World → Prop} {K : Act → World → Prop} {E : Prop} {t tx e : TypeId} {z : Value} {sz bytes : Nat}

theorem wpList_app (hg : o.guard = none) (s x : Operand) (hop : o.op = Op.call { callee := Callee.builtin Builtin.append, args := #[s, x], argTypes := #[t, tx] })
    (ht : Tryd.prog.underlying t = some (.slice e)) (hi : (Tryd.prog.info? e).map (fun i => (i.zero, i.size, i.bytes)) = some (some z, sz, bytes)) (hzs : z.cells.size = sz)
    (n : Nat) (xs : List Value) (g : Nat) (v : Value) (hs : a.eval s = v) (hown : Own w v sz n xs g) (m : Nat) (news : List Value) (y : Value) (hx : a.eval x = y) (hsrc : Src Tryd.prog sz tx y m news w) (hm : 0 < m) (hlim : (n + m) * bytes ≤ 140737488355328) (hmax : n + m ≤ maxLen)
    (hK : ∀ cap' w' g', Own w' (.slice (some ⟨g', 0, none⟩) (n + m) cap') sz (n + m) (xs ++ news) g' → w.grownBy w' (some g) → (g' = g ∨ g' = w.heap.size) → wpList Tryd.prog ops Q rest (a.put o.dst (.slice (some ⟨g', 0, none⟩) (n + m) cap')) w') :
    wpList Tryd.prog ops Q (o :: rest) a w := by
  obtain ⟨i, h1, h2, h3, h4⟩ := info_parts hi
  obtain ⟨v', w', g', hr, r1, r2, r3⟩ := run_app (ty := o.type) ht h1 h2 h3 h4 hzs hown hsrc hm hlim hmax
  obtain ⟨cap', rfl, _⟩ := r1.form (by omega)
  refine wpList_plain hg fun K hK' => ?_
  unfold Oper.wp
  simp [execOp, hop, resolve, invoke, builtin, hs, hx, hr, Result.andThen]
  exact hK' _ _ (hK _ _ _ r1 r2 r3)

theorem step_app (hg : o.guard = none) (s x : Operand) (hop : o.op = Op.call { callee := Callee.builtin Builtin.append, args := #[s, x], argTypes := #[t, tx] })
    (ht : Tryd.prog.underlying t = some (.slice e)) (hi : (Tryd.prog.info? e).map (fun i => (i.zero, i.size, i.bytes)) = some (some z, sz, bytes)) (hzs : z.cells.size = sz)
    (n : Nat) (xs : List Value) (g : Nat) (v : Value) (hs : a.eval s = v) (hown : Own w v sz n xs g) (m : Nat) (news : List Value) (y : Value) (hx : a.eval x = y) (hsrc : Src Tryd.prog sz tx y m news w) (hm : 0 < m) (hlim : (n + m) * bytes ≤ 140737488355328) (hmax : n + m ≤ maxLen)
    (hK : ∀ cap' w' g', Own w' (.slice (some ⟨g', 0, none⟩) (n + m) cap') sz (n + m) (xs ++ news) g' → w.grownBy w' (some g) → (g' = g ∨ g' = w.heap.size) → K (a.put o.dst (.slice (some ⟨g', 0, none⟩) (n + m) cap')) w') :
    if Region.wanted o (yielded ops a.tmps) = true then Oper.wp Tryd.prog o a w K Q else E := by
  have hw : Region.wanted o (yielded ops a.tmps) = true := by simp [Region.wanted, hg]
  rw [if_pos hw]
  obtain ⟨i, h1, h2, h3, h4⟩ := info_parts hi
  obtain ⟨v', w', g', hr, r1, r2, r3⟩ := run_app (ty := o.type) ht h1 h2 h3 h4 hzs hown hsrc hm hlim hmax
  obtain ⟨cap', rfl, _⟩ := r1.form (by omega)
  unfold Oper.wp
  simp [execOp, hop, resolve, invoke, builtin, hs, hx, hr, Result.andThen]
  exact hK _ _ _ r1 r2 r3
end

/-- Bytes as cells. -/
def u8s (l : List UInt8) : List Value := l.map fun b => .int .u8 (b.toNat : Int)

theorem u8s_length (l : List UInt8) : (u8s l).length = l.length := by simp [u8s]
theorem u8s_append (l m : List UInt8) : u8s (l ++ m) = u8s l ++ u8s m := by simp [u8s]
theorem u8s_one (l : List UInt8) : ∀ u ∈ u8s l, u.oneCell' = true := by
  intro u hu
  obtain ⟨_, _, rfl⟩ := List.mem_map.1 hu
  rfl

/-- A slice of bytes of the call's own. -/
def OB (w : World) (v : Value) (l : List UInt8) (g : Nat) : Prop := Own w v 1 l.length (u8s l) g

/-! ### Hexadecimal -/
def dig (n : Nat) : UInt8 := if n < 10 then UInt8.ofNat (48 + n) else UInt8.ofNat (87 + n)

def hexAcc : Nat → Nat → List UInt8 → List UInt8
  | 0, _, acc => acc
  | f + 1, n, acc => if n < 16 then dig n :: acc else hexAcc f (n / 16) (dig (n % 16) :: acc)

def hexN (n : Nat) : List UInt8 := hexAcc 16 n []

def hexI (i : Int) : List UInt8 := if i < 0 then 45 :: hexN (-i).toNat else hexN i.toNat

theorem hexAcc_length : ∀ f n acc, (hexAcc f n acc).length ≤ f + acc.length
  | 0, _, acc => by simp [hexAcc]
  | f + 1, n, acc => by
    rw [hexAcc]
    split
    · simp; omega
    · have := hexAcc_length f (n / 16) (dig (n % 16) :: acc)
      simp at this ⊢
      omega

theorem hexN_length (n : Nat) : (hexN n).length ≤ 16 := by have := hexAcc_length 16 n []; simpa [hexN] using this
theorem hexI_length (i : Int) : (hexI i).length ≤ 17 := by
  unfold hexI
  split
  · have := hexN_length (-i).toNat; simp; omega
  · have := hexN_length i.toNat; omega

theorem hexAcc_pos : ∀ f n acc, 0 < f → 0 < (hexAcc f n acc).length
  | 0, _, _, h => absurd h (by omega)
  | f + 1, n, acc, _ => by
    rw [hexAcc]
    split
    · simp
    · cases f with
      | zero => simp [hexAcc]
      | succ f => exact hexAcc_pos (f + 1) _ _ (by omega)

theorem hexN_pos (n : Nat) : 0 < (hexN n).length := hexAcc_pos 16 n [] (by omega)

/-- One round: 'u >= 16'. -/
theorem hexAcc_step {f n : Nat} {acc : List UInt8} (h : 16 ≤ n) : hexAcc (f + 1) n acc = hexAcc f (n / 16) (dig (n % 16) :: acc) := by
  rw [hexAcc, if_neg (by omega)]
theorem hexAcc_last {f n : Nat} {acc : List UInt8} (h : n < 16) : hexAcc (f + 1) n acc = dig n :: acc := by
  rw [hexAcc, if_pos h]

end Go.Proofs.Qxb6604459aDoor
