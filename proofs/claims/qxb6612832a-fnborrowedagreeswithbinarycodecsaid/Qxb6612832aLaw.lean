import Derived.Test.Qxb6612832aBin
namespace Go.Proofs.Qxb6612832a
open Go.RowKit
set_option linter.unusedVariables false
set_option linter.unusedSimpArgs false
attribute [local go_sem ↓] Go.wp_at_zero Go.wp_at_succ

theorem MhOk.below {w w' : World} {hc : Nat} {a : Option Addr} {len cap : Nat} (h : MhOk w hc a len cap) (hb : Below w.heap.size w w') : MhOk w' hc a len cap := fun w1 h1 => h w1 (hb.trans (h1.mono hb.size))

theorem bytes4 (v0 v1 v2 : Value) (a : Option Addr) (n cap : Nat) (w : World) (hn : n ≤ 1048576) : Calls Try.prog 4 #[v0, v1, v2, .slice a n cap] w fun e w' => e = .returned (.bool true) ∧ w = w' := by
  go_enter Try.func4, Try.ntmps4
  go_wp2
  go_ret
  exact ⟨rfl, rfl⟩
theorem bytes4_no (v0 v1 v2 : Value) (a : Option Addr) (n cap : Nat) (w : World) (hn : 1048576 < n) (hm : n ≤ maxLen) : Calls Try.prog 4 #[v0, v1, v2, .slice a n cap] w fun e w' => e = .returned (.bool false) ∧ w = w' := by
  unfold maxLen at hm
  go_enter Try.func4, Try.ntmps4
  go_wp2
  go_ret
  exact ⟨rfl, rfl⟩
theorem borrowed_any (ver : Int) (cd hc : Nat) (a : Option Addr) (len cap : Nat) (w : World) : Calls Try.prog 8 #[.agg #[.int .i64 ver, .int .u64 (cd : Nat), .int .u64 (hc : Nat), .slice a len cap]] w fun e w' => e = .returned (.bool ((cd : Int) == 85)) ∧ Below w.heap.size w w' := by
  go_enter Try.func8, Try.ntmps8
  go_wp2
  go_ret
  exact ⟨rfl, (Below.refl _ _).alloc (Nat.le_refl _) _⟩
theorem cid_any (ver : Int) (cd hc : Nat) (a : Option Addr) (len cap : Nat) (w : World) : Calls Try.prog 5 #[.int .i64 ver, .int .u64 (cd : Nat), .int .u64 (hc : Nat), .slice a len cap] w fun e w' => e = .returned (.agg #[.int .i64 ver, .int .u64 (cd : Nat), .int .u64 (hc : Nat), .slice a len cap]) ∧ Below w.heap.size w w' := by
  go_enter Try.func5, Try.ntmps5
  go_wp2
  refine bodyPost_ret (v := .agg #[.int .i64 ver, .int .u64 (cd : Nat), .int .u64 (hc : Nat), .slice a len cap]) (by simp [results, Try.results5, go_sem]) rfl ⟨rfl, ?_⟩
  exact (Below.refl _ _).alloc (Nat.le_refl _) _
theorem read_zero (w : World) (g cap : Nat) (xs rest : List Nat) (n : Nat) (hx : ByAt w g xs) (hd : xs = uv n ++ rest) (hn : n < 18446744073709551616) (hl : xs.length ≤ 1000000000) :
    Calls Try.prog 7 #[.slice (some ⟨g, 0, none⟩) xs.length cap, .int .i64 0] w fun e w' => e = .returned (.tuple #[.int .u64 (n : Nat), .int .i64 ((uv n).length : Nat), .bool true]) ∧ w = w' := by
  have := read_any w g cap xs rest 0 n hx hd hn (by omega)
  simpa using this
theorem read_next (w : World) (g cap : Nat) (xs pre rest : List Nat) (n : Nat) (hx : ByAt w g xs) (hd : xs = pre ++ (uv n ++ rest)) (hn : n < 18446744073709551616) (hl : xs.length ≤ 1000000000) :
    Calls Try.prog 7 #[.slice (some ⟨g, 0, none⟩) xs.length cap, .int .i64 (pre.length : Nat)] w fun e w' => (∃ k : Int, e = .returned (.tuple #[.int .u64 (n : Nat), .int .i64 k, .bool true])) ∧ w = w' := by
  refine (read_any w g cap xs rest pre.length n hx (by rw [hd, List.drop_left]) hn (by omega)).mono ?_
  rintro e w' ⟨rfl, rfl⟩
  exact ⟨⟨_, rfl⟩, rfl⟩

set_option maxRecDepth 100000 in
set_option maxHeartbeats 1000000 in
theorem law_main (w : World) (ver : Int) (nv cd hc : Nat) (a : Option Addr) (len cap : Nat) (hver : ver ≠ 0) (hnv : IntKind.u64.wrap ver = (nv : Nat)) (hnv2 : nv < 18446744073709551616) (hcd : cd < 18446744073709551616) (hhc : hc < 18446744073709551616) (hmh : MhOk w hc a len cap) (hlen : len ≤ 1048576) :
    Calls Try.prog 3 #[.int .i64 ver, .int .u64 (cd : Nat), .int .u64 (hc : Nat), .slice a len cap] w fun e w' => e = .returned (.bool true) ∧ Below w.heap.size w w' := by
  have HM := hid hmh
  clear hmh
  go_enter Try.func3, Try.ntmps3
  go_wp2_with (first | (go_at_call 4; refine (bytes4 _ _ _ _ _ _ _ hlen).mono ?_; rintro e w' ⟨rfl, rfl⟩) | (go_at_call 5; refine (cid_any _ _ _ _ _ _ _).mono ?_; rintro e w1 ⟨rfl, hb1⟩))
  have hA : Below w1.heap.size w1 (w1.alloc (.cells #[.int .i64 ver, .int .u64 (cd : Nat), .int .u64 (hc : Nat), .slice a len cap] 30)) := (Below.refl _ _).alloc (Nat.le_refl _) _
  have hB : Below w.heap.size w (w1.alloc (.cells #[.int .i64 ver, .int .u64 (cd : Nat), .int .u64 (hc : Nat), .slice a len cap] 30)) := hb1.trans (hA.mono hb1.size)
  have hsA : (w1.alloc (.cells #[.int .i64 ver, .int .u64 (cd : Nat), .int .u64 (hc : Nat), .slice a len cap] 30)).heap.size = w1.heap.size + 1 := by simp
  have k0 : (w1.alloc (.cells #[.int .i64 ver, .int .u64 (cd : Nat), .int .u64 (hc : Nat), .slice a len cap] 30)).cell? ⟨w1.heap.size, 0, none⟩ = some (.int .i64 ver) := cell_new rfl
  have k1 : (w1.alloc (.cells #[.int .i64 ver, .int .u64 (cd : Nat), .int .u64 (hc : Nat), .slice a len cap] 30)).cell? ⟨w1.heap.size, 1, none⟩ = some (.int .u64 (cd : Nat)) := cell_new rfl
  have k2 : (w1.alloc (.cells #[.int .i64 ver, .int .u64 (cd : Nat), .int .u64 (hc : Nat), .slice a len cap] 30)).cell? ⟨w1.heap.size, 2, none⟩ = some (.int .u64 (hc : Nat)) := cell_new rfl
  have k3 : (w1.alloc (.cells #[.int .i64 ver, .int .u64 (cd : Nat), .int .u64 (hc : Nat), .slice a len cap] 30)).cell? ⟨w1.heap.size, 3, none⟩ = some (.slice a len cap) := cell_new rfl
  have HM2 := hid (HM.out.below hB)
  generalize (w1.alloc (.cells #[.int .i64 ver, .int .u64 (cd : Nat), .int .u64 (hc : Nat), .slice a len cap] 30)) = wa at *
  go_wp2_with (first | (go_at_call 6; with_reducible refine (bin_any _ ver nv cd hc a len cap hver hnv hnv2 hcd hhc HM2.out).mono ?_; rintro e w2 ⟨g, cap', ys, rfl, hby, hxl, hb2⟩; generalize hxs : uv nv ++ (uv cd ++ ys) = xs at hby hxl ⊢; have HX := hid hxs.symm; have HB := hid hby; have c0 := (hb2.cell (p := ⟨w1.heap.size, 0, none⟩) (by show w1.heap.size < _; omega)).trans k0; have c1 := (hb2.cell (p := ⟨w1.heap.size, 1, none⟩) (by show w1.heap.size < _; omega)).trans k1; have c2 := (hb2.cell (p := ⟨w1.heap.size, 2, none⟩) (by show w1.heap.size < _; omega)).trans k2; have c3 := (hb2.cell (p := ⟨w1.heap.size, 3, none⟩) (by show w1.heap.size < _; omega)).trans k3; clear hby hxs k0 k1 k2 k3) | (go_at_call 7; with_reducible refine (read_zero _ g cap' xs (uv cd ++ ys) nv HB.out HX.out hnv2 hxl).mono ?_; rintro e w3 ⟨rfl, rfl⟩) | (go_at_call 7; with_reducible refine (read_next _ g cap' xs (uv nv) ys cd HB.out HX.out hcd hxl).mono ?_; rintro e w4 ⟨⟨kk, rfl⟩, rfl⟩) | (go_at_call 8; with_reducible refine (borrowed_any ver cd hc a len cap _).mono ?_; rintro e w5 ⟨rfl, hb5⟩))
  go_ret
  exact ⟨rfl, hB.trans ((hb2.trans (hb5.mono hb2.size)).mono hB.size)⟩

theorem law_big (w : World) (v0 v1 v2 : Value) (a : Option Addr) (len cap : Nat) (hbig : 1048576 < len) (hm : len ≤ maxLen) :
    Calls Try.prog 3 #[v0, v1, v2, .slice a len cap] w fun e w' => e = .returned (.bool true) ∧ Below w.heap.size w w' := by
  go_enter Try.func3, Try.ntmps3
  go_wp2_with (first | (go_at_call 4; refine (bytes4_no _ _ _ _ _ _ _ hbig hm).mono ?_; rintro e w' ⟨rfl, rfl⟩))
  go_ret
  exact ⟨rfl, Below.refl _ _⟩
theorem law_zero (w : World) (v1 v2 : Value) (a : Option Addr) (len cap : Nat) (hlen : len ≤ 1048576) :
    Calls Try.prog 3 #[.int .i64 0, v1, v2, .slice a len cap] w fun e w' => e = .returned (.bool true) ∧ Below w.heap.size w w' := by
  go_enter Try.func3, Try.ntmps3
  go_wp2_with (first | (go_at_call 4; refine (bytes4 _ _ _ _ _ _ _ hlen).mono ?_; rintro e w' ⟨rfl, rfl⟩))
  go_ret
  exact ⟨rfl, Below.refl _ _⟩
end Go.Proofs.Qxb6612832a
