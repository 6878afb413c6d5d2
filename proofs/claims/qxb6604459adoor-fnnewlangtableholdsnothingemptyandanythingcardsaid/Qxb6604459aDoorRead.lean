import Derived.Test.Qxb6604459aDoorHex
namespace Go.Proofs.Qxb6604459aDoor
open Go.RowKit

theorem tabLen {w : World} {x : Nat} {a : Option Addr} {n c : Nat} (hx : w.cell? ⟨x, 0, none⟩ = some (.slice a n c)) : Calls Tryd.prog 13 #[.pointer (some ⟨x, 0, none⟩)] w fun e w' => e = .returned (.int .i64 n) ∧ w' = w := by
  go_enter Tryd.func13, Tryd.ntmps13
  go_wp2
  go_ret
  exact ⟨rfl, rfl⟩

theorem idsLen {w : World} {x m : Nat} {ks : List (List UInt8)} (hx : w.cell? ⟨x, 1, none⟩ = some (.map (some m))) (hm : w.heap[m]? = some (.map (kents 0 ks).toArray ks.length)) : Calls Tryd.prog 14 #[.pointer (some ⟨x, 0, none⟩)] w fun e w' => e = .returned (.int .i64 ks.length) ∧ w' = w := by
  have hl : (Builtin.len_ #[46] 3 #[.map (some m)]).run Tryd.prog w = .ok (.int .i64 ks.length) w := by
    simp [Builtin.len_, run_underlying Tryd.underlying46, MapKept.run_getObj_map hm, Result.andThen, kents_length ks 0, goInt]
  clear hm
  go_enter Tryd.func14, Tryd.ntmps14
  go_wp2
  go_ret
  exact ⟨rfl, rfl⟩

theorem tabAny {w : World} {x : Nat} {v : Int} (hx : w.cell? ⟨x, 2, none⟩ = some (.int .i32 v)) : Calls Tryd.prog 15 #[.pointer (some ⟨x, 0, none⟩)] w fun e w' => e = .returned (.int .i32 v) ∧ w' = w := by
  go_enter Tryd.func15, Tryd.ntmps15
  go_wp2
  go_ret
  exact ⟨rfl, rfl⟩

theorem tabBytes {w : World} {x : Nat} {v : Int} (hx : w.cell? ⟨x, 3, none⟩ = some (.int .i64 v)) : Calls Tryd.prog 20 #[.pointer (some ⟨x, 0, none⟩)] w fun e w' => e = .returned (.int .i64 v) ∧ w' = w := by
  go_enter Tryd.func20, Tryd.ntmps20
  go_wp2
  go_ret
  exact ⟨rfl, rfl⟩

theorem tabBudget {w : World} {x : Nat} {v : Int} (hx : w.cell? ⟨x, 4, none⟩ = some (.int .i64 v)) : Calls Tryd.prog 21 #[.pointer (some ⟨x, 0, none⟩)] w fun e w' => e = .returned (.int .i64 v) ∧ w' = w := by
  go_enter Tryd.func21, Tryd.ntmps21
  go_wp2
  go_ret
  exact ⟨rfl, rfl⟩

theorem tabOver {w : World} {x : Nat} {v : Bool} (hx : w.cell? ⟨x, 5, none⟩ = some (.bool v)) : Calls Tryd.prog 22 #[.pointer (some ⟨x, 0, none⟩)] w fun e w' => e = .returned (.bool v) ∧ w' = w := by
  go_enter Tryd.func22, Tryd.ntmps22
  go_wp2
  go_ret
  exact ⟨rfl, rfl⟩

theorem langOp {w : World} {x gl n c i : Nat} (v : ByteArray) (hx : w.cell? ⟨x, 0, none⟩ = some (.slice (some ⟨gl, 0, none⟩) n c)) (hi : i < n) (hc : w.cell? ⟨gl, i * 7, none⟩ = some (.string v)) : Calls Tryd.prog 27 #[.pointer (some ⟨x, 0, none⟩), .int .i64 i] w fun e w' => e = .returned (.string v) ∧ w' = w := by
  go_enter Tryd.func27, Tryd.ntmps27
  go_wp2
  go_ret
  exact ⟨rfl, rfl⟩

theorem langNull {w : World} {x gl n c i : Nat} (v : Bool) (hx : w.cell? ⟨x, 0, none⟩ = some (.slice (some ⟨gl, 0, none⟩) n c)) (hi : i < n) (hc : w.cell? ⟨gl, i * 7 + 3, none⟩ = some (.bool v)) : Calls Tryd.prog 28 #[.pointer (some ⟨x, 0, none⟩), .int .i64 i] w fun e w' => e = .returned (.bool v) ∧ w' = w := by
  go_enter Tryd.func28, Tryd.ntmps28
  go_wp2
  go_ret
  exact ⟨rfl, rfl⟩

theorem langSubs {w : World} {x gl n c i : Nat} (a : Option Addr) (v k : Nat) (hx : w.cell? ⟨x, 0, none⟩ = some (.slice (some ⟨gl, 0, none⟩) n c)) (hi : i < n) (hc : w.cell? ⟨gl, i * 7 + 2, none⟩ = some (.slice a v k)) : Calls Tryd.prog 29 #[.pointer (some ⟨x, 0, none⟩), .int .i64 i] w fun e w' => e = .returned (.int .i64 v) ∧ w' = w := by
  go_enter Tryd.func29, Tryd.ntmps29
  go_wp2
  go_ret
  exact ⟨rfl, rfl⟩

theorem langChars {w : World} {x gl n c i : Nat} (a : Option Addr) (v k : Nat) (hx : w.cell? ⟨x, 0, none⟩ = some (.slice (some ⟨gl, 0, none⟩) n c)) (hi : i < n) (hc : w.cell? ⟨gl, i * 7 + 1, none⟩ = some (.slice a v k)) : Calls Tryd.prog 30 #[.pointer (some ⟨x, 0, none⟩), .int .i64 i] w fun e w' => e = .returned (.int .i64 v) ∧ w' = w := by
  go_enter Tryd.func30, Tryd.ntmps30
  go_wp2
  go_ret
  exact ⟨rfl, rfl⟩

theorem langRest {w : World} {x gl n c i : Nat} (v : Int) (hx : w.cell? ⟨x, 0, none⟩ = some (.slice (some ⟨gl, 0, none⟩) n c)) (hi : i < n) (hc : w.cell? ⟨gl, i * 7 + 4, none⟩ = some (.int .i32 v)) : Calls Tryd.prog 31 #[.pointer (some ⟨x, 0, none⟩), .int .i64 i] w fun e w' => e = .returned (.int .i32 v) ∧ w' = w := by
  go_enter Tryd.func31, Tryd.ntmps31
  go_wp2
  go_ret
  exact ⟨rfl, rfl⟩

theorem langEdges {w : World} {x gl n c i : Nat} (a : Option Addr) (v k : Nat) (hx : w.cell? ⟨x, 0, none⟩ = some (.slice (some ⟨gl, 0, none⟩) n c)) (hi : i < n) (hc : w.cell? ⟨gl, i * 7 + 5, none⟩ = some (.slice a v k)) : Calls Tryd.prog 32 #[.pointer (some ⟨x, 0, none⟩), .int .i64 i] w fun e w' => e = .returned (.int .i64 v) ∧ w' = w := by
  go_enter Tryd.func32, Tryd.ntmps32
  go_wp2
  go_ret
  exact ⟨rfl, rfl⟩

theorem langDerived {w : World} {x gl n c i : Nat} (v : Bool) (hx : w.cell? ⟨x, 0, none⟩ = some (.slice (some ⟨gl, 0, none⟩) n c)) (hi : i < n) (hc : w.cell? ⟨gl, i * 7 + 6, none⟩ = some (.bool v)) : Calls Tryd.prog 33 #[.pointer (some ⟨x, 0, none⟩), .int .i64 i] w fun e w' => e = .returned (.bool v) ∧ w' = w := by
  go_enter Tryd.func33, Tryd.ntmps33
  go_wp2
  go_ret
  exact ⟨rfl, rfl⟩

theorem idOf {w : World} {x m j : Nat} {k : List UInt8} {ks : List (List UInt8)} (hx : w.cell? ⟨x, 1, none⟩ = some (.map (some m))) (hm : w.heap[m]? = some (.map (kents 0 ks).toArray ks.length)) (hk : kfind k ks 0 = some (j, .int .i32 j)) :
    Calls Tryd.prog 34 #[.pointer (some ⟨x, 0, none⟩), kstr k] w fun e w' => e = .returned (.tuple #[.int .i32 j, .bool true]) ∧ w' = w := by
  have hlk := run_lookup_at (w := w) (m := m) (k := k) (ks := ks) hm
  rw [hk] at hlk
  simp only [Option.map_some, Option.getD_some, Option.isSome_some] at hlk
  clear hk hm
  go_enter Tryd.func34, Tryd.ntmps34
  go_wp2
  go_ret2
  exact ⟨rfl, rfl⟩

theorem keyIs {w : World} {x m j : Nat} {k : List UInt8} {ks : List (List UInt8)} (hx : w.cell? ⟨x, 1, none⟩ = some (.map (some m))) (hm : w.heap[m]? = some (.map (kents 0 ks).toArray ks.length)) (hk : kfind k ks 0 = some (j, .int .i32 j)) :
    Calls Tryd.prog 19 #[.pointer (some ⟨x, 0, none⟩), kstr k, .int .i32 j] w fun e w' => e = .returned (.bool true) ∧ w' = w := by
  have HI := hid (idOf hx hm hk)
  clear hk hm hx
  go_enter Tryd.func19, Tryd.ntmps19
  go_wp2_with fail
  refine HI.out.mono ?_
  rintro e w' ⟨rfl, rfl⟩
  go_wp2
  go_ret
  exact ⟨rfl, rfl⟩

theorem charRange {w : World} {x gl n c i gc cn cc : Nat} {lo hi : Int} (hx : w.cell? ⟨x, 0, none⟩ = some (.slice (some ⟨gl, 0, none⟩) n c)) (h1 : i < n) (hc : w.cell? ⟨gl, i * 7 + 1, none⟩ = some (.slice (some ⟨gc, 0, none⟩) cn cc)) (h2 : 0 < cn)
    (hl : w.cell? ⟨gc, 0, none⟩ = some (.int .i32 lo)) (hh : w.cell? ⟨gc, 1, none⟩ = some (.int .i32 hi)) :
    Calls Tryd.prog 17 #[.pointer (some ⟨x, 0, none⟩), .int .i64 i, .int .i64 0] w fun e w' => e = .returned (.tuple #[.int .i32 lo, .int .i32 hi]) ∧ w' = w.drew := by
  go_enter Tryd.func17, Tryd.ntmps17
  go_wp2
  go_region
  all_goals
    go_wp2
    go_ret2
    exact ⟨rfl, rfl⟩

theorem subAt {w : World} {x gl n c i gs cn cc : Nat} {v : Int} (hx : w.cell? ⟨x, 0, none⟩ = some (.slice (some ⟨gl, 0, none⟩) n c)) (h1 : i < n) (hc : w.cell? ⟨gl, i * 7 + 2, none⟩ = some (.slice (some ⟨gs, 0, none⟩) cn cc)) (h2 : 0 < cn)
    (hl : w.cell? ⟨gs, 0, none⟩ = some (.int .i32 v)) :
    Calls Tryd.prog 18 #[.pointer (some ⟨x, 0, none⟩), .int .i64 i, .int .i64 0] w fun e w' => e = .returned (.int .i32 v) ∧ w' = w := by
  go_enter Tryd.func18, Tryd.ntmps18
  go_wp2
  go_ret
  exact ⟨rfl, rfl⟩

theorem langIs {w : World} {x gl n c i : Nat} (op : ByteArray) (ac asl : Option Addr) (nR cc nS cs : Nat) (nb : Bool) (hx : w.cell? ⟨x, 0, none⟩ = some (.slice (some ⟨gl, 0, none⟩) n c)) (hi : i < n)
    (hc : ∀ j v, (lcs op ac asl nR cc nS cs nb)[j]? = some v → w.cell? ⟨gl, i * 7 + j, none⟩ = some v) :
    Calls Tryd.prog 16 #[.pointer (some ⟨x, 0, none⟩), .int .i64 i, .string op, .bool nb, .int .i64 nS, .int .i64 nR] w fun e w' => e = .returned (.bool true) ∧ w' = w := by
  have H0 := hid (langOp op hx hi (hc 0 _ rfl))
  have H1 := hid (langNull nb hx hi (hc 3 _ rfl))
  have H2 := hid (langSubs asl nS cs hx hi (hc 2 _ rfl))
  have H3 := hid (langChars ac nR cc hx hi (hc 1 _ rfl))
  have H4 := hid (langRest 0 hx hi (hc 4 _ rfl))
  have H5 := hid (langEdges none 0 0 hx hi (hc 5 _ rfl))
  have H6 := hid (langDerived false hx hi (hc 6 _ rfl))
  have hbb : (op == op) = true := (MapKept.bytes_beq op op).2 rfl
  clear hx hc
  go_enter Tryd.func16, Tryd.ntmps16
  go_wp2_with (first
    | (go_at_call 27; refine H0.out.mono ?_; rintro e w' ⟨rfl, rfl⟩)
    | (go_at_call 28; refine H1.out.mono ?_; rintro e w' ⟨rfl, rfl⟩)
    | (go_at_call 29; refine H2.out.mono ?_; rintro e w' ⟨rfl, rfl⟩)
    | (go_at_call 30; refine H3.out.mono ?_; rintro e w' ⟨rfl, rfl⟩)
    | (go_at_call 31; refine H4.out.mono ?_; rintro e w' ⟨rfl, rfl⟩)
    | (go_at_call 32; refine H5.out.mono ?_; rintro e w' ⟨rfl, rfl⟩)
    | (go_at_call 33; refine H6.out.mono ?_; rintro e w' ⟨rfl, rfl⟩))
  go_ret
  exact ⟨rfl, rfl⟩

end Go.Proofs.Qxb6604459aDoor
