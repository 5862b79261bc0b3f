import Derived.Test.Qxb6612769aState
import Derived.Laws.BitsAllLaws
namespace Go.Proofs.Qxb6612769a
open Go.RowKit
set_option linter.unusedVariables false
set_option linter.unusedSimpArgs false
attribute [local go_sem ↓] Go.wp_at_zero Go.wp_at_succ

theorem mask (h L : Nat) (hh : h < 18446744073709551616) (hL : L ≤ 20) : bits .and .u64 (h : Int) ((2 ^ L : Nat) - 1 : Int) = ((h % 2 ^ L : Nat) : Int) := by
  have hp : 2 ^ L ≤ 2 ^ 20 := Nat.pow_le_pow_right (by decide) hL
  have hp0 : 0 < 2 ^ L := Nat.pow_pos (by decide)
  have e20 : (2 : Nat) ^ 20 = 1048576 := rfl
  rw [e20] at hp
  rw [u64_and _ _ (by omega) (by omega) (by omega) (by omega), Int.toNat_natCast]
  congr 1
  have e : (((2 ^ L : Nat) : Int) - 1).toNat = 2 ^ L - 1 := by omega
  rw [e, Nat.and_two_pow_sub_one_eq_mod]

section
variable {w : World} {T Pb Hb n m : Nat} {blk hs pt : Nat → Nat} {nx fst : Nat → Value} {cnt : Nat → Nat} {hot : Nat → Value}

theorem partOf_any (h L : Nat) (ht : TabAt w T Pb Hb n) (hn : n = 2 ^ L) (hL : L ≤ 20) (hh : h < 18446744073709551616) :
    Calls Try.prog 24 #[P T, .int .u64 (h : Nat)] w fun e w' => e = .returned (.int .i64 ((h % n : Nat) : Int)) ∧ w = w' := by
  have hc := ht.c1
  have hm := mask h L hh hL
  rw [← hn] at hm
  have hp : 2 ^ L ≤ 2 ^ 20 := Nat.pow_le_pow_right (by decide) hL
  have hp0 : 0 < 2 ^ L := Nat.pow_pos (by decide)
  have e20 : (2 : Nat) ^ 20 = 1048576 := rfl
  rw [e20, ← hn] at hp
  rw [← hn] at hp0
  have hmod : h % n < n := Nat.mod_lt _ hp0
  clear hn hL
  generalize h % n = r at *
  go_enter Try.func24, Try.ntmps24
  go_wp2
  go_ret
  exact ⟨rfl, rfl⟩
theorem parts_any (ht : TabAt w T Pb Hb n) : Calls Try.prog 16 #[P T] w fun e w' => e = .returned (.int .i64 (n : Nat)) ∧ w = w' := by
  have hc := ht.c1
  go_enter Try.func16, Try.ntmps16
  go_wp2
  go_ret
  exact ⟨rfl, rfl⟩
theorem count_any (j : Nat) (ht : TS w T Pb Hb n m blk hs pt nx fst cnt hot) (hj : j < n) : Calls Try.prog 18 #[P T, .int .i64 (j : Nat)] w fun e w' => e = .returned (.int .i64 (cnt j : Nat)) ∧ w = w' := by
  have hc := ht.tab.c1
  have hp := ht.parts.c3 hj
  go_enter Try.func18, Try.ntmps18
  go_wp2
  go_ret
  exact ⟨rfl, rfl⟩
theorem part_any {b h q : Nat} {v : Value} (e : Ent w b h q v) : Calls Try.prog 19 #[P b] w fun e w' => e = .returned (.int .i64 (q : Nat)) ∧ w = w' := by
  have hc := e.c9
  go_enter Try.func19, Try.ntmps19
  go_wp2
  go_ret
  exact ⟨rfl, rfl⟩
theorem hash_any {b h q : Nat} {v : Value} (e : Ent w b h q v) : Calls Try.prog 22 #[P b] w fun e w' => e = .returned (.int .u64 (h : Nat)) ∧ w = w' := by
  have hc := e.c8
  go_enter Try.func22, Try.ntmps22
  go_wp2
  go_ret
  exact ⟨rfl, rfl⟩
theorem from_nil (w : World) : (convert 70 39 N).run Try.prog w = .ok N w := by
  simp [convert, run_underlying Try.underlying70, run_underlying Try.underlying39, Conv.unsafePointer]
theorem load_nil {b o : Nat} (hc : w.cell? ⟨b, o, none⟩ = some N) : Calls Try.prog 28 #[.pointer (some ⟨b, o, none⟩)] w fun e w' => e = .returned N ∧ w = w' := by
  have hl := load_ptr w ⟨b, o, none⟩ none hc
  have hf := from_nil w
  go_enter Try.func28, Try.ntmps28
  go_wp2
  go_ret
  exact ⟨rfl, rfl⟩
set_option maxRecDepth 100000 in
theorem load_some {b o x h q : Nat} {v : Value} (hc : w.cell? ⟨b, o, none⟩ = some (P x)) (he : Ent w x h q v) : Calls Try.prog 28 #[.pointer (some ⟨b, o, none⟩)] w fun e w' => e = .returned (P x) ∧ w = w' := by
  have hl := load_ptr w ⟨b, o, none⟩ (some ⟨x, 0, none⟩) hc
  obtain ⟨c, h0, h1, _⟩ := he
  have hf := from_unsafe w x c h0 h1
  clear h0 h1
  go_enter Try.func28, Try.ntmps28
  go_wp2
  go_ret
  exact ⟨rfl, rfl⟩
theorem store_some {b o x h q : Nat} {u v : Value} (hc : w.cell? ⟨b, o, none⟩ = some u) (hz : w.frozen? ⟨b, o, none⟩ = false) (he : Ent w x h q v) : Calls Try.prog 26 #[.pointer (some ⟨b, o, none⟩), P x] w fun e w' => e = .returned (.tuple #[]) ∧ w' = w.setCell ⟨b, o, none⟩ (P x) := by
  have hl := store_ptr w ⟨b, o, none⟩ (some ⟨x, 0, none⟩) u hc hz
  obtain ⟨c, h0, h1, _⟩ := he
  have hf := to_unsafe w x c h0 h1
  clear h0 h1
  go_enter Try.func26, Try.ntmps26
  go_wp2
  go_end0
  exact ⟨rfl, rfl⟩
end
end Go.Proofs.Qxb6612769a
