import Derived.Test.Qxb6612554aTime
namespace Go.Proofs.Qxb6612554a
open Go.RowKit
set_option linter.unusedVariables false
set_option linter.unusedSimpArgs false
attribute [local go_sem ↓] Go.wp_at_zero Go.wp_at_succ

def SubS (w : World) (x y : Int) (w' : World) : Prop :=
  w'.cell? ⟨w.heap.size, 0, none⟩ = some (.int .u64 (tn x)) ∧ w'.cell? ⟨w.heap.size, 1, none⟩ = some (.int .i64 (ts x)) ∧ w'.cell? ⟨w.heap.size, 2, none⟩ = some (.pointer none) ∧ w'.cell? ⟨w.heap.size + 1, 0, none⟩ = some (.int .u64 (tn y)) ∧ w'.cell? ⟨w.heap.size + 1, 1, none⟩ = some (.int .i64 (ts y)) ∧ w'.cell? ⟨w.heap.size + 1, 2, none⟩ = some (.pointer none) ∧ w.heap.size + 1 < w'.heap.size ∧ Below w.heap.size w w'

theorem sub_start (w : World) (x y : Int) : SubS w x y (((w.alloc (.cells #[.int .u64 (tn x), .int .i64 (ts x), .pointer none] 63)).alloc (.cells #[.int .u64 (tn y), .int .i64 (ts y), .pointer none] 63)).drew) := by
  refine ⟨by simp, by simp, by simp, by simp, by simp, by simp, by simp, ?_⟩
  exact (((Below.refl _ _).alloc (Nat.le_refl _) _).alloc (by simp) _).drew

theorem sub_keep {w w' w1 : World} {x y : Int} (hb : Below w'.heap.size w' w1) (h1 : w'.cell? ⟨w.heap.size, 0, none⟩ = some (.int .u64 (tn x))) (h2 : w'.cell? ⟨w.heap.size, 1, none⟩ = some (.int .i64 (ts x))) (h3 : w'.cell? ⟨w.heap.size, 2, none⟩ = some (.pointer none))
    (h4 : w'.cell? ⟨w.heap.size + 1, 0, none⟩ = some (.int .u64 (tn y))) (h5 : w'.cell? ⟨w.heap.size + 1, 1, none⟩ = some (.int .i64 (ts y))) (h6 : w'.cell? ⟨w.heap.size + 1, 2, none⟩ = some (.pointer none)) (h7 : w.heap.size + 1 < w'.heap.size) (h8 : Below w.heap.size w w') : SubS w x y w1 := by
  have hz := hb.size
  refine ⟨?_, ?_, ?_, ?_, ?_, ?_, by omega, h8.trans (hb.mono (by omega))⟩
  all_goals (rw [hb.cell (by simp; omega)]; assumption)

set_option maxHeartbeats 1000000 in
theorem sub_in (x y d : Int) (w : World) (hx0 : -9223372036854775808 ≤ x) (hx1 : x ≤ 9223372036854775807) (hy0 : -9223372036854775808 ≤ y) (hy1 : y ≤ 9223372036854775807)
    (hd : wrap64 (wrap64 ((ts x - ts y) * 1000000000) + (tn x - tn y)) = d) (hd0 : -9223372036854775808 ≤ d) (hd1 : d ≤ 9223372036854775807) :
    Calls Try.prog 58 #[T x, T y] w fun e w' => e = .returned (.int .i64 (if y + d == x then d else if x < y then -9223372036854775808 else 9223372036854775807)) ∧ Below w.heap.size w w' := by
  obtain ⟨n0, n1⟩ := tn_bd x
  obtain ⟨s0, s1⟩ := ts_bd x hx0 hx1
  obtain ⟨m0, m1⟩ := tn_bd y
  obtain ⟨t0, t1⟩ := ts_bd y hy0 hy1
  have e1 := b63' (tn x) (tn y) n0 n1 m0 m1
  have e2 := b63 (tn x) n0 n1
  have e3 := b63 (tn y) m0 m1
  have e4 := b30 (tn x) n0 n1
  have e5 := b30 (tn y) m0 m1
  go_enter Try.func58, Try.ntmps58
  go_wp2
  rw [hd]
  go_region_held3 (fun w' => w'.cell? ⟨w.heap.size, 0, none⟩ = some (.int .u64 (tn x)) ∧ w'.cell? ⟨w.heap.size, 1, none⟩ = some (.int .i64 (ts x)) ∧ w'.cell? ⟨w.heap.size, 2, none⟩ = some (.pointer none) ∧ w'.cell? ⟨w.heap.size + 1, 0, none⟩ = some (.int .u64 (tn y)) ∧ w'.cell? ⟨w.heap.size + 1, 1, none⟩ = some (.int .i64 (ts y)) ∧ w'.cell? ⟨w.heap.size + 1, 2, none⟩ = some (.pointer none) ∧ w.heap.size + 1 < w'.heap.size ∧ Below w.heap.size w w')
    (first | (go_split_ands; exact sub_start w _ _) | (go_split_ands; exact sub_keep hb1 ‹_› ‹_› ‹_› ‹_› ‹_› ‹_› ‹_› ‹_›) | (go_split_ands; exact sub_keep hb2 ‹_› ‹_› ‹_› ‹_› ‹_› ‹_› ‹_› ‹_›))
    (first | (go_at_call 41; refine (add_any y d _ hy0 hy1 hd0 hd1).mono ?_; rintro e w1 ⟨rfl, hb1⟩) | (go_at_call 75; refine (equal_any (y + d) x _).mono ?_; rintro e w2 ⟨rfl, hb2⟩))
  rename_i wz _ _ hs
  obtain ⟨c0, c1, c2, c3, c4, c5, hz, hbl⟩ := hs
  by_cases hq : y + d = x
  · have hq' : (y + d == x) = true := by simpa using hq
    go_wp2
    go_ret
    exact ⟨by simp [hq'], hbl⟩
  · have hq' : (y + d == x) = false := by simpa using hq
    go_wp2_with (go_at_call 76; refine (before_any x y _).mono ?_; rintro e w3 ⟨rfl, hb3⟩)
    all_goals
      go_ret
      refine ⟨?_, hbl.trans (hb3.mono (by omega))⟩
      simp [*]

theorem ret_int {k : IntKind} {a b : Int} (h : a = b) : Ending.returned (.int k a) = .returned (.int k b) := by rw [h]

theorem sub_any (x y : Int) (w : World) (hx0 : -9223372036854775808 ≤ x) (hx1 : x ≤ 9223372036854775807) (hy0 : -9223372036854775808 ≤ y) (hy1 : y ≤ 9223372036854775807) :
    Calls Try.prog 58 #[T x, T y] w fun e w' => e = .returned (.int .i64 (clamp (x - y))) ∧ Below w.heap.size w w' := by
  refine (sub_in x y _ w hx0 hx1 hy0 hy1 (sub_num x y hx0 hx1 hy0 hy1) (wrap64_bd _).1 (wrap64_bd _).2).mono ?_
  rintro e w' ⟨rfl, hw⟩
  refine ⟨ret_int ?_, hw⟩
  unfold clamp
  by_cases h1 : x - y < -9223372036854775808
  · rw [if_pos h1, if_neg (by simp; unfold wrap64; omega), if_pos (by omega)]
  · rw [if_neg h1]
    by_cases h2 : 9223372036854775807 < x - y
    · rw [if_pos h2, if_neg (by simp; unfold wrap64; omega), if_neg (by omega)]
    · rw [if_neg h2]
      have : wrap64 (x - y) = x - y := by unfold wrap64; omega
      rw [this, if_pos (by simp; omega)]
end Go.Proofs.Qxb6612554a
