import Derived.Test.Qxb6604662aRows
import Derived.WalkKit
import Derived.WalkSpells
import Derived.WalkLawsBesides
import Derived.Deep.AppendSrc
namespace Go.Proofs.Qxb6604662a
open Go.RowKit

theorem hid {p : Prop} (h : p) : Hid p := h

/-- Block g is a row of cells xs, of type t; none of them is frozen. -/
def Row (w : World) (g : Nat) (t : TypeId) (xs : List Value) : Prop := w.heap[g]? = some (.cells xs.toArray t (0, 0))

theorem Row.cell {w : World} {g : Nat} {t : TypeId} {xs : List Value} (h : Row w g t xs) {i : Nat} {v : Value} (hi : xs[i]? = some v) : w.cell? ⟨g, i, none⟩ = some v := by
  unfold Row at h
  simp [World.cell?, h, hi]

theorem Row.frozen {w : World} {g : Nat} {t : TypeId} {xs : List Value} (h : Row w g t xs) (i : Nat) : w.frozen? ⟨g, i, none⟩ = false := by
  unfold Row at h
  simp [World.frozen?, h]

theorem Row.lt {w : World} {g : Nat} {t : TypeId} {xs : List Value} (h : Row w g t xs) : g < w.heap.size := by
  unfold Row at h
  rcases Nat.lt_or_ge g w.heap.size with h' | h'
  · exact h'
  · rw [Array.getElem?_eq_none h'] at h; cases h

theorem Row.set {w : World} {g : Nat} {t : TypeId} {xs : List Value} (h : Row w g t xs) (i : Nat) (v : Value) : Row (w.setCell ⟨g, i, none⟩ v) g t (xs.set i v) := by
  unfold Row at *
  simp only [World.setCell, Array.getElem?_modify, if_true, h, Option.map_some]
  simp

theorem Row.set_other {w : World} {g : Nat} {t : TypeId} {xs : List Value} (h : Row w g t xs) {a : Addr} (hne : a.block ≠ g) (v : Value) : Row (w.setCell a v) g t xs := by
  unfold Row at *
  simp only [World.setCell, Array.getElem?_modify]
  rw [if_neg hne]; exact h

theorem Row.alloc {w : World} {g : Nat} {t : TypeId} {xs : List Value} (h : Row w g t xs) (o : Obj) : Row (w.alloc o) g t xs := by
  have hl := h.lt
  unfold Row at *
  simp only [World.alloc, Array.getElem?_push]
  rw [if_neg (by omega)]; exact h

theorem row_new_at (w : World) (t : TypeId) (xs : List Value) (q : Nat) (hq : q = w.heap.size) : Row (w.alloc (.cells xs.toArray t)) q t xs := by
  subst hq
  unfold Row World.alloc
  simp only [Array.getElem?_push_size]

theorem Row.drew {w : World} {g : Nat} {t : TypeId} {xs : List Value} (h : Row w g t xs) : Row w.drew g t xs := h

theorem Row.below {B : Nat} {w w' : World} {g : Nat} {t : TypeId} {xs : List Value} (h : Row w g t xs) (hb : Below B w w') (hg : g < B) : Row w' g t xs := by
  unfold Row at *
  rw [hb.block g hg]; exact h

theorem Row.grown {w w' : World} {q : Nat} {row : Option Nat} {t : TypeId} {xs : List Value} (h : Row w q t xs) (hg : w.grownBy w' row) (hne : some q ≠ row) : Row w' q t xs := by
  unfold Row
  rw [hg.block q h.lt hne]; exact h

/-- A slice of the call's own, at the head of block g (or nil): n elements of sz cells each: the cells xs. -/
def Own (w : World) (v : Value) (sz n : Nat) (xs : List Value) (g : Nat) : Prop :=
  xs.length = n * sz ∧ ((v = .slice none 0 0 ∧ n = 0) ∨ ∃ cap, v = .slice (some ⟨g, 0, none⟩) n cap ∧ n ≤ cap ∧ cap ≤ maxLen ∧ (∀ j, j < n * sz → w.cell? ⟨g, j, none⟩ = xs[j]?) ∧ ∀ j, j < cap * sz → (w.cell? ⟨g, j, none⟩).isSome = true ∧ w.frozen? ⟨g, j, none⟩ = false)

theorem Own.nil (w : World) (sz g : Nat) : Own w (.slice none 0 0) sz 0 [] g := ⟨by simp, .inl ⟨rfl, rfl⟩⟩

/-- It stands where its block stands. -/
theorem Own.kept {w w' : World} {v : Value} {sz n : Nat} {xs : List Value} {g : Nat} (h : Own w v sz n xs g) (hb : w'.heap[g]? = w.heap[g]?) : Own w' v sz n xs g := by
  obtain ⟨h1, h2⟩ := h
  refine ⟨h1, ?_⟩
  rcases h2 with h2 | ⟨cap, e, a, b, c, d⟩
  · exact .inl h2
  · refine .inr ⟨cap, e, a, b, fun j hj => ?_, fun j hj => ?_⟩
    · rw [World.cell?_of_block (w := w) (a := ⟨g, j, none⟩) hb]; exact c j hj
    · rw [World.cell?_of_block (w := w) (a := ⟨g, j, none⟩) hb, World.frozen?_of_block (w := w) (a := ⟨g, j, none⟩) hb]; exact d j hj

theorem Own.lt {w : World} {v : Value} {sz n : Nat} {xs : List Value} {g : Nat} (h : Own w v sz n xs g) (hsz : 0 < sz) (hn : 0 < n) : g < w.heap.size := by
  obtain ⟨h1, h2⟩ := h
  rcases h2 with ⟨_, h2⟩ | ⟨cap, e, a, b, c, d⟩
  · omega
  · obtain ⟨h3, _⟩ := d 0 (Nat.mul_pos (by omega) hsz)
    obtain ⟨u, hu⟩ := Option.isSome_iff_exists.1 h3
    exact World.block_lt_of_cell? _ _ hu

theorem Own.form {w : World} {v : Value} {sz n : Nat} {xs : List Value} {g : Nat} (h : Own w v sz n xs g) (hn : 0 < n) : ∃ cap, v = .slice (some ⟨g, 0, none⟩) n cap ∧ n ≤ cap := by
  rcases h.2 with ⟨_, h2⟩ | ⟨cap, e, a, _⟩
  · omega
  · exact ⟨cap, e, a⟩

theorem Own.cell {w : World} {v : Value} {sz n : Nat} {xs : List Value} {g : Nat} (h : Own w v sz n xs g) {j : Nat} {u : Value} (hu : xs[j]? = some u) : w.cell? ⟨g, j, none⟩ = some u := by
  obtain ⟨h1, h2⟩ := h
  have hj : j < xs.length := (List.getElem?_eq_some_iff.1 hu).1
  rcases h2 with ⟨_, h2⟩ | ⟨cap, e, a, b, c, d⟩
  · rw [h1, h2] at hj; omega
  · rw [c j (by omega)]; exact hu

theorem own_row {w : World} {g : Nat} {t : TypeId} {xs : List Value} {sz n : Nat} (h : Row w g t xs) (hl : xs.length = n * sz) (hm : n ≤ maxLen) : Own w (.slice (some ⟨g, 0, none⟩) n n) sz n xs g := by
  refine ⟨hl, .inr ⟨n, rfl, Nat.le_refl _, hm, fun j hj => ?_, fun j hj => ⟨?_, h.frozen j⟩⟩⟩
  · obtain ⟨u, hu⟩ : ∃ u, xs[j]? = some u := ⟨_, List.getElem?_eq_getElem (by omega)⟩
    rw [h.cell hu, hu]
  · rw [h.cell (i := j) (v := xs[j]'(by omega)) (by simp)]; rfl


theorem heap_setCells_tape (g : Nat) : ∀ (vs : List Value) (o : Nat) (w : World), (w.setCells g o vs).tape = w.tape
  | [], _, _ => rfl
  | v :: r, o, w => by rw [World.setCells, heap_setCells_tape g r]; rfl

theorem heap_setCells_size (g : Nat) : ∀ (vs : List Value) (o : Nat) (w : World), (w.setCells g o vs).heap.size = w.heap.size
  | [], _, _ => rfl
  | v :: r, o, w => by rw [World.setCells, heap_setCells_size g r]; simp

theorem heap_setCells_ne (g : Nat) : ∀ (vs : List Value) (o : Nat) (w : World) (k : Nat), k ≠ g → (w.setCells g o vs).heap[k]? = w.heap[k]?
  | [], _, _, _, _ => rfl
  | v :: r, o, w, k, h => by rw [World.setCells, heap_setCells_ne g r _ _ k h]; exact Below.heap_setCell _ _ _ _ h

theorem setCells_streams (g : Nat) : ∀ (vs : List Value) (o : Nat) (w : World), (w.setCells g o vs).os = w.os ∧ (w.setCells g o vs).output = w.output
  | [], _, _ => ⟨rfl, rfl⟩
  | v :: r, o, w => by rw [World.setCells]; exact setCells_streams g r (o + 1) _

theorem grown_setCells (w : World) (g o : Nat) (vs : List Value) : w.grownBy (w.setCells g o vs) (some g) :=
  ⟨(setCells_streams g vs o w).1, heap_setCells_tape g vs o w, (setCells_streams g vs o w).2, by rw [heap_setCells_size]; exact Nat.le_refl _, fun k _ hk => heap_setCells_ne g vs o w k (by simpa using hk)⟩

/-- append, both arms. -/
theorem run_app {P : Program} {w : World} {t tx ty e : TypeId} {i : TypeInfo} {z : Value} {sz bytes : Nat} (ht : P.underlying t = some (.slice e)) (hi : P.info? e = some i) (hz : i.zero = some z) (hsz : i.size = sz) (hby : i.bytes = bytes) (hzs : z.cells.size = sz)
    {v x : Value} {n m : Nat} {xs news : List Value} {g : Nat} (hown : Own w v sz n xs g) (hs : Src P sz tx x m news w) (hm : 0 < m) (hlim : (n + m) * bytes ≤ 140737488355328) (hmax : n + m ≤ maxLen) :
    ∃ v' w' g', (Builtin.append_ #[t, tx] ty #[v, x]).run P w = .ok v' w' ∧ Own w' v' sz (n + m) (xs ++ news) g' ∧ w.grownBy w' (some g) ∧ (g' = g ∨ g' = w.heap.size) := by
  subst hsz
  subst hby
  have hlen : (xs ++ news).length = (n + m) * i.size := by rw [List.length_append, hown.1, hs.newsLen, Nat.add_mul]
  have h63 : ((n + m : Nat) : Int) ≤ 9223372036854775807 := by simp only [maxLen] at hmax; omega
  have grow : ∀ (base : Option Addr) (cap : Nat), cap < n + m → (Builtin.firstCells i.size n (.slice base n cap)).run P w.drew = .ok xs.toArray w.drew →
      ∃ v' w' g', (Builtin.append_ #[t, tx] ty #[.slice base n cap, x]).run P w = .ok v' w' ∧ Own w' v' i.size (n + m) (xs ++ news) g' ∧ w.grownBy w' (some g) ∧ (g' = g ∨ g' = w.heap.size) := by
    intro base cap hcap hf
    have hr := run_append_grow_src (P := P) w t tx ty e i z ht hi hz base n cap xs hf x m news hs hcap h63 (growslice_fits hcap hlim)
    have hge := grownCap_ge w (n + m) cap e
    have hcm := grownCap_le_maxLen w (n + m) cap e hmax
    refine ⟨_, _, w.heap.size, hr, ⟨hlen, .inr ⟨_, rfl, hge, hcm, ?_, ?_⟩⟩, ?_, .inr rfl⟩
    · intro j hj
      rw [World.cell?_alloc_at _ _ _ _ (by simp), Array.getElem?_append_left (by rw [List.size_toArray, hlen]; exact hj)]
      simp
    · intro j hj
      have hsize : ((xs ++ news).toArray ++ Builtin.zeroCells z.cells (grownCap w (n + m) cap e - (n + m))).size = grownCap w (n + m) cap e * i.size := by
        rw [Array.size_append, List.size_toArray, hlen, size_zeroCells, hzs, ← Nat.add_mul]
        congr 1; omega
      refine ⟨?_, World.frozen?_alloc_at _ _ _ _ (by simp)⟩
      rw [World.cell?_alloc_at _ _ _ _ (by simp), Array.getElem?_eq_getElem (by omega)]
      rfl
    · exact ⟨rfl, rfl, rfl, by simp, fun k hk _ => Below.heap_alloc w.drew _ k hk⟩
  rcases hown.2 with ⟨rfl, rfl⟩ | ⟨cap, rfl, hnc, hcm, hcells, hall⟩
  · obtain rfl : xs = [] := List.eq_nil_of_length_eq_zero (by simpa using hown.1)
    exact grow none 0 (by omega) (run_firstCells_none w.drew i.size 0 0 0)
  · by_cases hroom : n + m ≤ cap
    · have hfit : n * i.size + news.length ≤ cap * i.size := by rw [hs.newsLen, ← Nat.add_mul]; exact Nat.mul_le_mul_right _ hroom
      have hr := run_append_room_src (P := P) w t tx ty e i ht hi g 0 n cap x m news hs hroom (fun j hj => by rw [Nat.zero_add]; exact (hall _ (by omega)).1) (fun j hj => by rw [Nat.zero_add]; exact (hall _ (by omega)).2)
      rw [Nat.zero_add] at hr
      have hin := World.cell?_setCells_in g news (n * i.size) w (fun j hj => (hall _ (by omega)).1)
      have hout := fun (j : Nat) (hj : j < n * i.size ∨ n * i.size + news.length ≤ j) => World.cell?_setCells_out g news (n * i.size) w ⟨g, j, none⟩ (fun _ _ => hj)
      refine ⟨_, _, g, hr, ⟨hlen, .inr ⟨cap, rfl, hroom, hcm, ?_, ?_⟩⟩, grown_setCells w g _ _, .inl rfl⟩
      · intro j hj
        rw [Nat.add_mul, ← hs.newsLen] at hj
        by_cases h1 : j < n * i.size
        · rw [hout j (.inl h1), hcells j h1, List.getElem?_append_left (by rw [hown.1]; exact h1)]
        · obtain ⟨q, rfl⟩ : ∃ q, j = n * i.size + q := ⟨j - n * i.size, by omega⟩
          rw [hin q (by omega), List.getElem?_append_right (by rw [hown.1]; omega), hown.1, show n * i.size + q - n * i.size = q by omega, List.getElem?_eq_getElem (by omega)]
      · intro j hj
        refine ⟨?_, by rw [World.frozen?_setCells]; exact (hall j hj).2⟩
        by_cases h1 : j < n * i.size
        · rw [hout j (.inl h1)]; exact (hall j hj).1
        · by_cases h2 : n * i.size + news.length ≤ j
          · rw [hout j (.inr h2)]; exact (hall j hj).1
          · obtain ⟨q, rfl⟩ : ∃ q, j = n * i.size + q := ⟨j - n * i.size, by omega⟩
            rw [hin q (by omega)]; rfl
    · refine grow (some ⟨g, 0, none⟩) cap (by omega) (run_firstCells_some w.drew i.size n _ n cap xs hown.1 ?_)
      intro j u hu
      rw [Addr.add_lit, Nat.zero_add]
      exact hown.cell hu

end Go.Proofs.Qxb6604662a
