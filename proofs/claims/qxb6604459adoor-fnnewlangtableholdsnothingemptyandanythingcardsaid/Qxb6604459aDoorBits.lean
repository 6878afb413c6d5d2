import Derived.Test.Qxb6604459aDoorFmt
namespace Go.Proofs.Qxb6604459aDoor
open Go.RowKit

/-- The zero value of [65]byte. -/
def z84 : Array Value := Array.replicate 65 (.int .u8 0)
theorem zero84 (w : World) : (zeroValue 84).run Tryd.prog w = .ok (.agg z84) w := by
  obtain ⟨i, hi, hz⟩ := Option.map_eq_some_iff.1 (show (Tryd.prog.info? 84).map (fun i => i.zero) = some (some (.agg z84)) by kernel_rfl)
  simp [zeroValue, typeInfo, hi, hz]

theorem and15 (n : Nat) (h : n ≤ 2147483648) : bits BinOp.and IntKind.u64 (n : Int) 15 = ((n % 16 : Nat) : Int) := by
  have := bits_mask .u64 32 (by decide) (fun x h0 h1 => by rw [IntKind.wrap_u64]; omega) 4 (by decide) (n : Int) (by omega) (by omega)
  rw [show ((n % 16 : Nat) : Int) = (n : Int) % 16 by omega]
  simpa using this

theorem digs_at : ∀ (k : Nat) (_ : k < 16) (h : k < (⟨#[48, 49, 50, 51, 52, 53, 54, 55, 56, 57, 97, 98, 99, 100, 101, 102, 103, 104, 105, 106, 107, 108, 109, 110, 111, 112, 113, 114, 115, 116, 117, 118, 119, 120, 121, 122]⟩ : ByteArray).size),
    (⟨#[48, 49, 50, 51, 52, 53, 54, 55, 56, 57, 97, 98, 99, 100, 101, 102, 103, 104, 105, 106, 107, 108, 109, 110, 111, 112, 113, 114, 115, 116, 117, 118, 119, 120, 121, 122]⟩ : ByteArray)[k] = dig k := by
  intro k hk h
  have key : ∀ k : Fin 16, (⟨#[48, 49, 50, 51, 52, 53, 54, 55, 56, 57, 97, 98, 99, 100, 101, 102, 103, 104, 105, 106, 107, 108, 109, 110, 111, 112, 113, 114, 115, 116, 117, 118, 119, 120, 121, 122]⟩ : ByteArray)[k.val]'(Nat.lt_of_lt_of_le k.isLt (by decide)) = dig k.val := by decide
  exact key ⟨k, hk⟩

theorem drop_set (xs : List Value) (q : Nat) (v : Value) (h : q < xs.length) : (xs.set q v).drop q = v :: xs.drop (q + 1) := by
  rw [List.drop_eq_getElem_cons (by rw [List.length_set]; exact h)]
  congr 1
  · simp
  · rw [List.drop_set_of_lt (by omega)]

theorem sliceArr {t e : TypeId} {n q : Nat} {g : Nat} (ht : Tryd.prog.underlying t = some (.array n e)) (he : (Tryd.prog.info? e).map (fun i => i.size) = some 1) (hq : q < n) (w : World) :
    (Instr.sliceAt t (.pointer (some ⟨g, 0, none⟩)) (some (.int .i64 q)) none none).run Tryd.prog w = .ok (.slice (some ⟨g, q, none⟩) (n - q) (n - q)) w := by
  obtain ⟨i, hi, hz⟩ := Option.map_eq_some_iff.1 he
  have h1 : q ≤ n := by omega
  have h2 : ¬ n = q := by omega
  simp [Instr.sliceAt, Instr.sureAddr, run_underlying ht, Instr.sliceBounds, Instr.sliceBound, asIntOf, sizeOf, typeInfo, hi, hz, h1, h2, Addr.add_lit]

theorem grown_of {w w1 w2 : World} {g : Nat} (hb : Below w.heap.size w w1) (hg : w1.grownBy w2 (some g)) : w.grownBy w2 (some g) :=
  ⟨hg.os.trans hb.os, hg.tape.trans hb.tape, hg.output.trans hb.output, Nat.le_trans hb.size hg.size, fun k hk hne => (hg.block k (Nat.lt_of_lt_of_le hk hb.size) hne).trans (hb.block k hk)⟩

def FmtP (w : World) (l : List UInt8) (g : Nat) (e : Ending) (w' : World) : Prop :=
  ∃ cap g', e = .returned (.tuple #[.slice (some ⟨g', 0, none⟩) l.length cap, .string ⟨#[]⟩]) ∧ OB w' (.slice (some ⟨g', 0, none⟩) l.length cap) l g' ∧ w.grownBy w' (some g) ∧ (g' = g ∨ w.heap.size ≤ g')

set_option maxRecDepth 100000 in
set_option maxHeartbeats 1000000 in
theorem fmtBits (v : Value) (l : List UInt8) (g : Nat) (u0 : Nat) (w : World) (h : w.cell? ⟨2, 15, none⟩ = some (.int .u8 4)) (hown : OB w v l g) (hl : l.length ≤ 1000) (hl0 : 0 < l.length) (hu : u0 ≤ 2147483648) (hg2 : 2 < w.heap.size) :
    Calls Tryd.prog 44 #[v, .int .u64 u0, .int .i64 16, .bool false, .bool true] w fun e w' => FmtP w (l ++ hexN u0) g e w' := by
  have HO := hid hown
  have HU := hid hu
  clear hown hu
  have hz := zero84
  go_enter Tryd.func44, Tryd.ntmps44
  go_wp2_with (first
    | (go_at_call 49; refine (pow2_16 _).mono ?_; rintro e w' ⟨rfl, rfl⟩)
    | (go_at_call 50; refine (tz_16 _ (by go_simp)).mono ?_; rintro e w' ⟨rfl, rfl⟩))
  have hr0 : Row (w.alloc (.cells z84 84)) w.heap.size 84 z84.toList := row_new_at w 84 z84.toList _ rfl
  have HR0 := hid hr0
  clear hr0 hz
  go_loopw [1, 13] (fun uu i wr => ∃ (n f p : Nat) (L : List UInt8) (xs : List Value), uu = .int .u64 n ∧ i = .int .i64 p ∧ p + L.length = 65 ∧ f + L.length = 15 ∧ n < 16 ^ (f + 1) ∧ n ≤ 2147483648 ∧ hexAcc (f + 1) n L = hexN u0 ∧ Row wr w.heap.size 84 xs ∧ xs.length = 65 ∧ xs.drop p = u8s L ∧ Below w.heap.size w wr) (fun uu _ _ => (intOf uu).toNat)
  case atStart => exact ⟨u0, 15, 65, [], _, rfl, rfl, rfl, rfl, Nat.lt_of_le_of_lt HU.out (by decide), HU.out, rfl, HR0.out, rfl, rfl, (Below.refl _ _).alloc (Nat.le_refl _) _⟩
  case round =>
    obtain ⟨n, f, p, L, xs, rfl, rfl, hp, hf, hn, hn2, hex, hrow, hxl, hdr, hbel⟩ := hrel
    have hp50 : 50 ≤ p := by omega
    have hp65 : p ≤ 65 := by omega
    have HP := hid hp
    clear hp
    obtain ⟨q, rfl⟩ : ∃ q, p = q + 1 := ⟨p - 1, by omega⟩
    rw [Int.natCast_add]
    have HN := hid hn
    have HX := hid hex
    have HD := hid hdr
    have HB := hid hbel
    have HR := hid hrow
    have HL := hid hxl
    have HF := hid hf
    clear hn hex hdr hbel hf HR0 HU
    by_cases h16 : 16 ≤ n
    · obtain ⟨vq, hvq⟩ : ∃ v, xs[q]? = some v := ⟨_, List.getElem?_eq_getElem (by omega)⟩
      have hcur := hrow.cell hvq
      have hfz := hrow.frozen q
      clear hrow hxl hvq
      have hand := and15 n hn2
      have hm16 : n % 16 < 16 := Nat.mod_lt _ (by omega)
      go_wp2
      go_roundw
      case rel =>
        obtain ⟨f, rfl⟩ : ∃ f', f = f' + 1 := by
          cases f with
          | zero => have := HN.out; simp at this; omega
          | succ f => exact ⟨f, rfl⟩
        refine ⟨n / 16, f, q, dig (n % 16) :: L, xs.set q (.int .u8 ((dig (n % 16)).toNat : Int)), by go_num, rfl, ?_, ?_, ?_, by omega, ?_, ?_, ?_, ?_, HB.out.setCell (Nat.le_refl _) _⟩
        · have := HP.out; simp; omega
        · have := HF.out; simp; omega
        · have := HN.out
          rw [Nat.pow_succ] at this
          exact Nat.div_lt_of_lt_mul (by rw [Nat.mul_comm]; exact this)
        · rw [← hexAcc_step h16]; exact HX.out
        · rw [digs_at (n % 16) hm16]; exact HR.out.set q _
        · rw [List.length_set]; exact HL.out
        · rw [drop_set _ _ _ (by rw [HL.out]; omega), HD.out]; rfl
      case measure => simp [intOf]; omega
    · obtain ⟨vq, hvq⟩ : ∃ v, xs[q]? = some v := ⟨_, List.getElem?_eq_getElem (by omega)⟩
      have hcur := hrow.cell hvq
      have hfz := hrow.frozen q
      have hdg := digs_at n (by omega) (by show n < 36; omega)
      have HDG := hid hdg
      have hrow2 := hrow.set q (.int .u8 ((dig n).toNat : Int))
      have HR2 := hid hrow2
      have hxx : (xs.set q (.int .u8 ((dig n).toNat : Int))).drop q = u8s (hexN u0) := by
        rw [drop_set _ _ _ (by omega), HD.out, ← HX.out, hexAcc_last (by omega)]; rfl
      have HXX := hid hxx
      clear hrow hxl hvq hdg hrow2 hxx
      have hsl := fun wx : World => sliceArr (g := w.heap.size) (q := q) Tryd.underlying84 (by kernel_rfl) (by omega) wx
      have hlq : (hexN u0).length = 65 - q := by
        have := congrArg List.length HXX.out
        rw [u8s_length, List.length_drop, List.length_set, HL.out] at this
        exact this.symm
      have HLQ := hid hlq
      have hgl : g < w.heap.size := HO.out.lt (by omega) hl0
      have HOW : Hid (Own (wr.setCell ⟨w.heap.size, q, none⟩ (.int .u8 ((dig n).toNat : Int))) v 1 l.length (u8s l) g) :=
        HO.out.kept ((HB.out.setCell (Nat.le_refl _) _).block g hgl)
      have HSRC : Hid (Src Tryd.prog 1 67 (.slice (some ⟨w.heap.size, q, none⟩) (65 - q) (65 - q)) (65 - q) (u8s (hexN u0)) (wr.setCell ⟨w.heap.size, q, none⟩ (.int .u8 ((dig n).toNat : Int)))) := by
        refine Src.ofSlice _ Tryd.underlying67 _ _ _ _ (by rw [u8s_length, HLQ.out]; omega) ?_ (u8s_one _)
        intro j u hj
        rw [Addr.add_lit]
        refine HR2.out.cell ?_
        rw [← HXX.out, List.getElem?_drop] at hj
        exact hj
      have hq64 : 0 < 65 - q := by omega
      clear hlq
      rw [← HDG.out] at HOW HSRC
      go_wp2_with (at_builtin; refine wpList_app rfl _ _ rfl Tryd.underlying67 info5 rfl l.length (u8s l) g _ rfl HOW.out (65 - q) _ _ rfl HSRC.out hq64 (by omega) (by simp only [maxLen]; omega) ?_)
      intro cap' w2 g' hown2 hgr2 hat
      have HO2 := hid hown2
      have HG2 := hid hgr2
      have HAT := hid hat
      clear hown2 hgr2 hat
      go_wp2
      go_ret2
      have hlen : (l ++ hexN u0).length = l.length + (65 - q) := by rw [List.length_append, HLQ.out]
      refine ⟨cap', g', by rw [hlen]; rfl, ?_, grown_of (HB.out.setCell (Nat.le_refl _) _) HG2.out, ?_⟩
      · unfold OB
        rw [hlen, u8s_append]
        exact HO2.out
      · rcases HAT.out with e | e
        · exact .inl e
        · refine .inr ?_
          rw [e]
          exact HB.out.size

end Go.Proofs.Qxb6604459aDoor
