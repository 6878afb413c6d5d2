import Derived.Test.Qxb6604459aDoorKey
namespace Go.Proofs.Qxb6604459aDoor
open Go.RowKit

theorem convOp (s : ByteArray) (w : World) : (convert 56 67 (.string s)).run Tryd.prog w = .ok (.slice (some ⟨w.heap.size, 0, none⟩) s.size (grownCap w s.size 0 5))
      (w.drew.alloc (.cells (bytesRow s (grownCap w s.size 0 5)) 5 ((bytesRow s (grownCap w s.size 0 5)).size, (bytesRow s (grownCap w s.size 0 5)).size + 1))) :=
  run_bytes_of_string w 56 67 5 s Tryd.underlying56 Tryd.underlying67 Tryd.underlying5

theorem grown_drew {w w' : World} {r : Option Nat} (h : w.drew.grownBy w' r) : w.grownBy w' r := ⟨h.os, h.tape, h.output, h.size, h.block⟩

theorem ob_snoc {w : World} {v : Value} {l : List UInt8} {b : UInt8} {g : Nat} (h : Own w v 1 (l.length + 1) (u8s l ++ [.int .u8 (b.toNat : Int)]) g) : OB w v (l ++ [b]) g := by
  unfold OB
  rw [List.length_append, u8s_append]
  exact h

/-- What langKey hands back. -/
def KeyP (w : World) (l : List UInt8) (e : Ending) (w' : World) : Prop :=
  ∃ cap g', e = .returned (.slice (some ⟨g', 0, none⟩) l.length cap) ∧ OB w' (.slice (some ⟨g', 0, none⟩) l.length cap) l g' ∧ Below w.heap.size w w' ∧ w.heap.size ≤ g'

set_option maxRecDepth 100000 in
set_option maxHeartbeats 1000000 in
theorem langKey (op : ByteArray) (ac asl : Option Addr) (gc nR cc gs nS cs : Nat) (lo hi : Nat → Int) (nb : Bool) (w : World) (h : w.cell? ⟨2, 15, none⟩ = some (.int .u8 4)) (hg2 : 2 < w.heap.size)
    (hop : op.size ≤ 20) (hop0 : 0 < op.size) (hac : 0 < nR → ac = some ⟨gc, 0, none⟩) (hR : ∀ i, i < nR → w.cell? ⟨gc, i * 2, none⟩ = some (.int .i32 (lo i)) ∧ w.cell? ⟨gc, i * 2 + 1, none⟩ = some (.int .i32 (hi i)) ∧ -2147483648 ≤ lo i ∧ lo i ≤ 2147483647 ∧ -2147483648 ≤ hi i ∧ hi i ≤ 2147483647) (hnR : nR ≤ 1)
    (has : 0 < nS → asl = some ⟨gs, 0, none⟩) (hS : ∀ i, i < nS → w.cell? ⟨gs, i, none⟩ = some (.int .i32 2)) (hnS : nS ≤ 3) :
    Calls Tryd.prog 39 #[.agg #[.string op, .slice ac nR cc, .slice asl nS cs, .bool nb, .int .i32 0, .slice none 0 0, .bool false]] w fun e w' => KeyP w ((op.data.toList ++ rangesTo lo hi nR) ++ subsTo nS) e w' := by
  have hcv := convOp op
  have HAC := hid hac
  have HR := hid hR
  have HAS := hid has
  have HS := hid hS
  clear hac hR has hS
  go_enter Tryd.func39, Tryd.ntmps39
  go_wp2
  have ho0 := own_bytes (w.alloc (.cells #[.string op, .slice ac nR cc, .slice asl nS cs, .bool nb, .int .i32 0, .slice none 0 0, .bool false] 62)) op (by omega)
  have hr0 : Row (w.alloc (.cells #[.string op, .slice ac nR cc, .slice asl nS cs, .bool nb, .int .i32 0, .slice none 0 0, .bool false] 62)) w.heap.size 62 [.string op, .slice ac nR cc, .slice asl nS cs, .bool nb, .int .i32 0, .slice none 0 0, .bool false] := row_new_at _ _ _ _ rfl
  rw [World.size_alloc] at ho0
  have HO0 := hid ho0
  have HR0 := hid hr0
  clear ho0 hr0 hcv
  go_loopw [3, 5, 14] (fun v3 v5 i wr => ∃ (k cap g : Nat) (l : List UInt8), k ≤ nR ∧ i = .int .i64 k ∧ (k = 0 → v5 = undef) ∧ l = op.data.toList ++ rangesTo lo hi k ∧ v3 = .slice (some ⟨g, 0, none⟩) l.length cap ∧ OB wr (.slice (some ⟨g, 0, none⟩) l.length cap) l g ∧ w.heap.size < g ∧ Row wr w.heap.size 62 [.string op, .slice ac nR cc, .slice asl nS cs, .bool nb, .int .i32 0, .slice none 0 0, .bool false] ∧ Below w.heap.size w wr) (fun _ _ i _ => nR - (intOf i).toNat)
  case atStart =>
    refine ⟨0, _, w.heap.size + 1, op.data.toList, Nat.zero_le _, rfl, fun _ => rfl, by simp [rangesTo], rfl, HO0.out, by omega, HR0.out.alloc _, ?_⟩
    exact (((Below.refl _ _).alloc (Nat.le_refl _) _).alloc (by simp) _).drew
  case round =>
    obtain ⟨k, cap, g, l, hk, rfl, h5, hl, rfl, hob, hg, hrow, hbel⟩ := hrel
    have hll : l.length ≤ 60 := by
      have := rangesTo_length lo hi k
      rw [hl, List.length_append, Array.length_toList]
      have e : op.data.size = op.size := rfl
      omega
    have hl0 : 0 < l.length := by
      rw [hl, List.length_append, Array.length_toList]
      have e : op.data.size = op.size := rfl
      omega
    have HL := hid hl
    have HO := hid hob
    have HR1 := hid hrow
    have HB := hid hbel
    clear HO0 HR0 hl hob hrow
    by_cases hlt : k < nR
    · obtain rfl : k = 0 := by omega
      obtain rfl := h5 rfl
      obtain rfl := HAC.out (by omega)
      obtain ⟨hc1, hc2, b1, b2, b3, b4⟩ := HR.out 0 hlt
      have hc1' := cell_later hbel hc1
      have hc2' := cell_later hbel hc2
      clear hc1 hc2 h5
      simp only [Nat.zero_mul, Nat.zero_add] at hc1' hc2'
      generalize hl0e : lo 0 = lo0 at *
      generalize hh0e : hi 0 = hi0 at *
      have HLE := hid hl0e
      have HHE := hid hh0e
      clear hl0e hh0e
      have hwl : IntKind.i64.wrap lo0 = lo0 := by rw [IntKind.wrap_i64]; omega
      have hwh : IntKind.i64.wrap hi0 = hi0 := by rw [IntKind.wrap_i64]; omega
      go_wp2
      have hgl : g < wr.heap.size := HO.out.lt (by omega) hl0
      have hr5 : Row (wr.alloc (.cells #[.int .i32 lo0, .int .i32 hi0] 55)) wr.heap.size 55 [.int .i32 lo0, .int .i32 hi0] := row_new_at _ _ _ _ rfl
      have ho5 : OB (wr.alloc (.cells #[.int .i32 lo0, .int .i32 hi0] 55)) (.slice (some ⟨g, 0, none⟩) l.length cap) l g := Own.kept HO.out (Below.heap_alloc _ _ _ hgl)
      have hb5 : Below w.heap.size w (wr.alloc (.cells #[.int .i32 lo0, .int .i32 hi0] 55)) := HB.out.alloc HB.out.size _
      have hrl5 := HR1.out.alloc (.cells #[.int .i32 lo0, .int .i32 hi0] 55)
      have hrb : w.heap.size < wr.heap.size := HR1.out.lt
      have hgr : g ≠ wr.heap.size := by omega
      have hgl5 : g < (wr.alloc (.cells #[.int .i32 lo0, .int .i32 hi0] 55)).heap.size := by simp; omega
      have hrb5 := hr5.lt
      generalize (wr.alloc (.cells #[.int .i32 lo0, .int .i32 hi0] 55)) = w5 at *
      generalize wr.heap.size = rb at *
      have HR5 := hid hr5
      have HO5 := hid ho5
      have HB5 := hid hb5
      have HRL5 := hid hrl5
      have hlo5 := hr5.cell (i := 0) rfl
      have hhi5 := hr5.cell (i := 1) rfl
      clear hr5 ho5 hb5 hrl5 HO HR1 HB hbel hc1' hc2' hgl
      have HOA : Hid (Own (w5.alloc (.cells #[.int .u8 32] 5)).drew (.slice (some ⟨g, 0, none⟩) l.length cap) 1 l.length (u8s l) g) := Own.kept (w := w5) HO5.out (Below.heap_alloc w5 _ _ hgl5)
      have HSA : Hid (Src Tryd.prog 1 67 (.slice (some ⟨w5.heap.size, 0, none⟩) 1 1) 1 [.int .u8 32] (w5.alloc (.cells #[.int .u8 32] 5)).drew) := by
        refine Src.ofSlice _ Tryd.underlying67 ⟨w5.heap.size, 0, none⟩ 1 1 [.int .u8 32] rfl ?_ (by simp [Value.oneCell'])
        exact cell_one_new w5 (.int .u8 32) 5
      have H25 := hid ((HB5.out.cell (p := ⟨2, 15, none⟩) hg2).trans h)
      have HN2 : Hid (some (⟨2, 15, none⟩ : Addr).block ≠ some g) := by
        intro e
        have := Option.some.inj e
        simp only at this
        omega
      have HLM : Hid ((l.length + 1) * 1 ≤ 140737488355328) := by show _ ≤ _; omega
      have hm1 : l.length + 1 ≤ maxLen := by simp only [maxLen]; omega
      have HM1 := hid hm1
      clear hm1
      go_region_law (first
        | (refine step_app rfl _ _ rfl Tryd.underlying67 info5 rfl l.length (u8s l) g (.slice (some ⟨g, 0, none⟩) l.length cap) ?_ HOA.out 1 [.int .u8 32] (.slice (some ⟨w5.heap.size, 0, none⟩) 1 1) ?_ HSA.out (Nat.lt_succ_self 0) HLM.out HM1.out ?_
           · first | (simp [Act.eval]; done) | (simp [Act.eval, Act.put]; done)
           · first | (simp [Act.eval]; done) | (simp [Act.eval, Act.put]; done)
           intro cap6 w6 g6 ho6 hgr6 hat6
           have HO6 : Hid (OB w6 (.slice (some ⟨g6, 0, none⟩) (l.length + 1) cap6) (l ++ [32]) g6) := ob_snoc ho6
           have HG6 := hid ((World.grownBy_alloc w5 (.cells #[.int .u8 32] 5) (some g)).trans (grown_drew hgr6))
           have hlo6 := (HR5.out.grown HG6.out (by simpa using Ne.symm hgr)).cell (i := 0) rfl
           have HAT6 : Hid (g6 = g ∨ w5.heap.size ≤ g6) := by rcases hat6 with e | e; exact .inl e; exact .inr (by rw [e]; simp)
           clear ho6 hgr6 hat6)
        | (go_simp
           go_at_call 45
           refine (appendInt16 _ (l ++ [32]) g6 lo0 w6 (HG6.out.cell H25.out HN2.out) HO6.out ?_ ?_ b1 b2 ?_ ?_).mono ?_
           · rw [List.length_append, List.length_singleton]; omega
           · rw [List.length_append, List.length_singleton]; omega
           · have := HG6.out.size; have := HB5.out.size; omega
           · rcases HAT6.out with e | e <;> omega
           intro e w7 hp
           obtain ⟨cap7, g7, rfl, ho7, hgr7, hat7⟩ := hp.trans HG6.out HAT6.out
           clear hp
           generalize hl7 : (l ++ [32] ++ hexI lo0) = l7 at *
           have HL7 := hid hl7
           have HO7 := hid ho7
           have HG7 := hid hgr7
           have HAT7 := hid hat7
           clear hl7 ho7 hgr7 hat7))
      all_goals
        have hl7 : l7.length ≤ 80 ∧ 0 < l7.length := by
          rw [← HL7.out, List.length_append, List.length_append, List.length_singleton]
          have := hexI_length lo0
          omega
        obtain ⟨hl7a, hl7b⟩ := hl7
        have hg7 : w.heap.size < g7 ∧ g7 ≠ rb := by
          have := HB5.out.size
          rcases HAT7.out with e | e <;> omega
        obtain ⟨hg7a, hg7b⟩ := hg7
        have HR7 := hid (HR5.out.grown HG7.out (by simpa using Ne.symm hgr))
        have hhi7 := HR7.out.cell (i := 1) rfl
        have hrb7 := HR7.out.lt
        have HRL7 := hid (HRL5.out.grown HG7.out (by simp; omega))
        have HB7 := hid (HB5.out.grown HG7.out HB5.out.size (fun k hk => by simp at hk; omega))
        have HN7 : Hid (some (⟨2, 15, none⟩ : Addr).block ≠ some g7) := by
          intro e
          have := Option.some.inj e
          simp only at this
          omega
        have H27 := hid ((HB7.out.cell (p := ⟨2, 15, none⟩) hg2).trans h)
        have hgl7 : g7 < w7.heap.size := HO7.out.lt (by omega) hl7b
        have HOB : Hid (Own (w7.alloc (.cells #[.int .u8 45] 5)).drew (.slice (some ⟨g7, 0, none⟩) l7.length cap7) 1 l7.length (u8s l7) g7) := Own.kept (w := w7) HO7.out (Below.heap_alloc w7 _ _ hgl7)
        have HSB : Hid (Src Tryd.prog 1 67 (.slice (some ⟨w7.heap.size, 0, none⟩) 1 1) 1 [.int .u8 45] (w7.alloc (.cells #[.int .u8 45] 5)).drew) := by
          refine Src.ofSlice _ Tryd.underlying67 ⟨w7.heap.size, 0, none⟩ 1 1 [.int .u8 45] rfl ?_ (by simp [Value.oneCell'])
          exact cell_one_new w7 (.int .u8 45) 5
        have HLM7 : Hid ((l7.length + 1) * 1 ≤ 140737488355328) := by show _ ≤ _; omega
        have HM7 : Hid (l7.length + 1 ≤ maxLen) := by show _ ≤ _; simp only [maxLen]; omega
        clear HO7 HG7 HAT7 HR5 HRL5 HO5 HOA HSA hlo5 hhi5
        go_wp2
        go_region_law (first
          | (refine step_app rfl _ _ rfl Tryd.underlying67 info5 rfl l7.length (u8s l7) g7 (.slice (some ⟨g7, 0, none⟩) l7.length cap7) ?_ HOB.out 1 [.int .u8 45] (.slice (some ⟨w7.heap.size, 0, none⟩) 1 1) ?_ HSB.out (Nat.lt_succ_self 0) HLM7.out HM7.out ?_
             · first | (simp [Act.eval]; done) | (simp [Act.eval, Act.put]; done)
             · first | (simp [Act.eval]; done) | (simp [Act.eval, Act.put]; done)
             intro cap8 w8 g8 ho8 hgr8 hat8
             have HO8 : Hid (OB w8 (.slice (some ⟨g8, 0, none⟩) (l7.length + 1) cap8) (l7 ++ [45]) g8) := ob_snoc ho8
             have HG8 := hid ((World.grownBy_alloc w7 (.cells #[.int .u8 45] 5) (some g7)).trans (grown_drew hgr8))
             have hhi8 := (HR7.out.grown HG8.out (by simpa using Ne.symm hg7b)).cell (i := 1) rfl
             have HAT8 : Hid (g8 = g7 ∨ w7.heap.size ≤ g8) := by rcases hat8 with e | e; exact .inl e; exact .inr (by rw [e]; simp)
             clear ho8 hgr8 hat8)
          | (go_simp
             go_at_call 45
             refine (appendInt16 _ (l7 ++ [45]) g8 hi0 w8 (HG8.out.cell H27.out HN7.out) HO8.out ?_ ?_ b3 b4 ?_ ?_).mono ?_
             · rw [List.length_append, List.length_singleton]; omega
             · rw [List.length_append, List.length_singleton]; omega
             · have := HG8.out.size; have := HB7.out.size; omega
             · rcases HAT8.out with e | e <;> omega
             intro e w9 hp
             obtain ⟨cap9, g9, rfl, ho9, hgr9, hat9⟩ := hp.trans HG8.out HAT8.out
             clear hp
             generalize hl9 : (l7 ++ [45] ++ hexI hi0) = l9 at *
             have HL9 := hid hl9
             have HO9 := hid ho9
             have HG9 := hid hgr9
             have HAT9 := hid hat9
             clear hl9 ho9 hgr9 hat9))
      all_goals
        go_wp2
        go_roundw
        case rel =>
          refine ⟨1, cap9, g9, l9, by omega, by go_num, fun h => absurd h (by omega), ?_, rfl, HO9.out, ?_, HRL7.out.grown HG9.out (by simp; omega), HB7.out.grown HG9.out HB7.out.size (fun k hk => by simp at hk; omega)⟩
          · rw [← HL9.out, ← HL7.out, HL.out]
            simp [rangesTo, HLE.out, HHE.out]
          · have := HB7.out.size
            rcases HAT9.out with e | e <;> omega
        case measure => simp [intOf]; omega
    · obtain rfl : k = nR := by omega
      have hsub := HR1.out.cell (i := 2) rfl
      generalize wr = w5 at *
      clear h5 hbel
      go_wp2
      go_loopw [3, 36] (fun v3 i wx => ∃ (q cap g : Nat) (l' : List UInt8), q ≤ nS ∧ i = .int .i64 q ∧ l' = l ++ subsTo q ∧ v3 = .slice (some ⟨g, 0, none⟩) l'.length cap ∧ OB wx (.slice (some ⟨g, 0, none⟩) l'.length cap) l' g ∧ w.heap.size < g ∧ Below w.heap.size w wx) (fun _ i _ => nS - (intOf i).toNat)
      case atStart => exact ⟨0, cap, g, l, Nat.zero_le _, rfl, by simp [subsTo], rfl, HO.out, hg, HB.out⟩
      case round =>
        obtain ⟨q, cap2, g2, l2, hq, rfl, hl2, rfl, hob2, hg2', hbel2⟩ := hrel
        have hll2 : l2.length ≤ 70 ∧ 0 < l2.length := by
          rw [hl2, List.length_append, subsTo_length]; omega
        obtain ⟨hl2a, hl2b⟩ := hll2
        have HL2 := hid hl2
        have HO2 := hid hob2
        have HB2 := hid hbel2
        clear hl2 hob2 hsub
        by_cases hlt2 : q < nS
        · obtain rfl := HAS.out (by omega)
          have hc := cell_later hbel2 (HS.out q hlt2)
          have hgl2 : g2 < wr.heap.size := HO2.out.lt (by omega) hl2b
          have HOA : Hid (Own (wr.alloc (.cells #[.int .u8 32] 5)) (.slice (some ⟨g2, 0, none⟩) l2.length cap2) 1 l2.length (u8s l2) g2) := Own.kept (w := wr) HO2.out (Below.heap_alloc wr _ _ hgl2)
          have HSA : Hid (Src Tryd.prog 1 67 (.slice (some ⟨wr.heap.size, 0, none⟩) 1 1) 1 [.int .u8 32] (wr.alloc (.cells #[.int .u8 32] 5))) :=
            Src.ofSlice _ Tryd.underlying67 ⟨wr.heap.size, 0, none⟩ 1 1 [.int .u8 32] rfl (cell_one_new wr (.int .u8 32) 5) (by simp [Value.oneCell'])
          have HM1 : Hid (l2.length + 1 ≤ maxLen) := by show _ ≤ _; simp only [maxLen]; omega
          generalize wr = w6 at *
          clear hbel2
          go_wp2_with (at_builtin; refine wpList_app rfl _ _ rfl Tryd.underlying67 info5 rfl l2.length (u8s l2) g2 _ rfl HOA.out 1 [.int .u8 32] _ rfl HSA.out (Nat.lt_succ_self 0) (by omega) HM1.out ?_)
          intro cap7 w7 g7 ho7 hgr7 hat7
          have HO7 : Hid (OB w7 (.slice (some ⟨g7, 0, none⟩) (l2.length + 1) cap7) (l2 ++ [32]) g7) := ob_snoc ho7
          have HG7 := hid ((World.grownBy_alloc w6 (.cells #[.int .u8 32] 5) (some g2)).trans hgr7)
          have HAT7 : Hid (g7 = g2 ∨ w6.heap.size ≤ g7) := by rcases hat7 with e | e; exact .inl e; exact .inr (by omega)
          clear ho7 hgr7 hat7
          go_wp2_with fail
          refine (appendInt10 _ (l2 ++ [32]) g7 _ HO7.out (by rw [List.length_append, List.length_singleton]; omega)).mono ?_
          intro e w8 hp
          obtain ⟨cap8, g8, rfl, ho8, hgr8, hat8⟩ := hp.trans HG7.out HAT7.out
          clear hp
          generalize hl8 : (l2 ++ [32] ++ [50]) = l8 at *
          have HL8 := hid hl8
          have HO8 := hid ho8
          have HG8 := hid hgr8
          have HAT8 := hid hat8
          clear hl8 ho8 hgr8 hat8
          go_wp2
          go_roundw
          case rel =>
            refine ⟨q + 1, cap8, g8, l8, by omega, by go_num, ?_, rfl, HO8.out, ?_, HB2.out.grown HG8.out HB2.out.size (fun k hk => by simp at hk; omega)⟩
            · rw [← HL8.out, HL2.out, subsTo]; simp
            · have := HB2.out.size
              rcases HAT8.out with e | e <;> omega
          case measure => simp [intOf]; omega
        · obtain rfl : q = nS := by omega
          go_wp2
          go_ret
          refine ⟨cap2, g2, ?_, ?_, HB2.out, by omega⟩
          · rw [← HL.out, ← HL2.out]; rfl
          · rw [← HL.out, ← HL2.out]; exact HO2.out

end Go.Proofs.Qxb6604459aDoor
