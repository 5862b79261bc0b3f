import Derived.Test.Qxb6612554aRows
import Derived.WalkKit
import Derived.WalkLawsBesides
import Derived.Outline
import Derived.Deep.RegionHeld3
import Derived.Deep.DrawnRows
namespace Go.Proofs.Qxb6612554a
open Go.RowKit
set_option linter.unusedVariables false
set_option linter.unusedSimpArgs false
attribute [local go_sem ↓] Go.wp_at_zero Go.wp_at_succ

theorem b30 (n : Int) (h0 : 0 ≤ n) (h1 : n < 1000000000) : bits .and .u64 n 1073741823 = n := by
  rw [u64_and n 1073741823 h0 (by omega) (by omega) (by omega)]
  have : n.toNat &&& (1073741823 : Int).toNat = n.toNat % 2 ^ 30 := Nat.and_two_pow_sub_one_eq_mod n.toNat 30
  rw [this]; omega
theorem b63 (n : Int) (h0 : 0 ≤ n) (h1 : n < 1000000000) : bits .and .u64 n 9223372036854775808 = 0 := by
  rw [u64_and n 9223372036854775808 h0 (by omega) (by omega) (by omega)]
  have : n.toNat &&& (9223372036854775808 : Int).toNat = n.toNat / 2 ^ 63 % 2 * 2 ^ 63 := nat_bit 63 n.toNat
  rw [this]; omega
theorem b63' (n m : Int) (h0 : 0 ≤ n) (h1 : n < 1000000000) (h2 : 0 ≤ m) (h3 : m < 1000000000) : bits .and .u64 (bits .and .u64 n m) 9223372036854775808 = 0 := by
  rw [u64_and n m h0 (by omega) h2 (by omega)]
  have hle : n.toNat &&& m.toNat ≤ n.toNat := Nat.and_le_left
  exact b63 _ (by omega) (by omega)
theorem bNot (n : Int) (h0 : 0 ≤ n) (h1 : n < 1000000000) : bits .andNot .u64 n 1073741823 = 0 := by
  rw [u64_andNot n 1073741823 h0 (by omega) (by omega) (by omega)]
  have e : (18446744073709551615 - (1073741823 : Int).toNat) = 2 ^ 64 - 2 ^ 30 := by decide
  have h : n.toNat &&& (18446744073709551615 - (1073741823 : Int).toNat) = 0 := by
    rw [e]
    apply Nat.eq_of_testBit_eq
    intro i
    rw [Nat.testBit_and, Nat.zero_testBit]
    by_cases hi : i < 30
    · have : (2 ^ 64 - 2 ^ 30 : Nat).testBit i = false := by
        have e2 : (2 ^ 64 - 2 ^ 30 : Nat) = 2 ^ 30 * (2 ^ 34 - 1) := by decide
        rw [e2, Nat.testBit_two_pow_mul]; simp; omega
      rw [this]; simp
    · have : n.toNat.testBit i = false := Nat.testBit_lt_two_pow (Nat.lt_of_lt_of_le (show n.toNat < 2 ^ 30 by omega) (Nat.pow_le_pow_right (by omega) (by omega)))
      rw [this]; simp
  rw [h]; rfl
theorem bOr (n : Int) (h0 : 0 ≤ n) (h1 : n < 1000000000) : bits .or .u64 0 n = n := by
  rw [u64_or 0 n (by omega) (by omega) h0 (by omega)]
  simp; omega

theorem nsec_any (b : Nat) (o : Nat) (n : Int) (w : World) (h0 : 0 ≤ n) (h1 : n < 1000000000) (hc : w.cell? ⟨b, o, none⟩ = some (.int .u64 n)) :
    Calls Try.prog 61 #[.pointer (some ⟨b, o, none⟩)] w fun e w' => e = .returned (.int .i32 n) ∧ w' = w := by
  have hb := b30 n h0 h1
  go_enter Try.func61, Try.ntmps61
  go_wp2
  go_ret
  exact ⟨rfl, rfl⟩

theorem sec_any (b : Nat) (o : Nat) (n s : Int) (w : World) (h0 : 0 ≤ n) (h1 : n < 1000000000) (hc : w.cell? ⟨b, o, none⟩ = some (.int .u64 n)) (hc1 : w.cell? ⟨b, o + 1, none⟩ = some (.int .i64 s)) :
    Calls Try.prog 74 #[.pointer (some ⟨b, o, none⟩)] w fun e w' => e = .returned (.int .i64 s) ∧ w' = w := by
  have hb := b63 n h0 h1
  go_enter Try.func74, Try.ntmps74
  go_wp2
  go_ret
  exact ⟨rfl, rfl⟩

theorem dm (d : Int) (h0 : -9223372036854775808 ≤ d) (h1 : d ≤ 9223372036854775807) :
    -9223372038 < d.tdiv 1000000000 ∧ d.tdiv 1000000000 < 9223372038 ∧ -1000000000 < d.tmod 1000000000 ∧ d.tmod 1000000000 < 1000000000 ∧ d.tdiv 1000000000 * 1000000000 + d.tmod 1000000000 = d := by
  have h2 := Int.tmod_add_mul_tdiv d 1000000000
  have h3 := Int.tmod_lt_of_pos d (show (0 : Int) < 1000000000 by omega)
  have h4 : -1000000000 < d.tmod 1000000000 := Int.lt_tmod_of_pos d (by omega)
  omega


theorem addSec_any (b o : Nat) (n s d : Int) (w : World) (h0 : 0 ≤ n) (h1 : n < 1000000000) (hs0 : -20000000000 ≤ s) (hs1 : s ≤ 20000000000) (hd0 : -20000000000 ≤ d) (hd1 : d ≤ 20000000000)
    (hc : w.cell? ⟨b, o, none⟩ = some (.int .u64 n)) (hc1 : w.cell? ⟨b, o + 1, none⟩ = some (.int .i64 s)) (hf : w.frozen? ⟨b, o + 1, none⟩ = false) :
    Calls Try.prog 62 #[.pointer (some ⟨b, o, none⟩), .int .i64 d] w fun e w' => e = .returned (.tuple #[]) ∧ w' = w.setCell ⟨b, o + 1, none⟩ (.int .i64 (s + d)) := by
  have hb := b63 n h0 h1
  have he : (decide (s < s + d) == decide (0 < d)) = true := by
    rw [beq_iff_eq]; rw [decide_eq_decide]; omega
  go_enter Try.func62, Try.ntmps62
  go_wp2
  go_end0
  exact ⟨rfl, rfl⟩


theorem add_mid (n s d : Int) (w : World) (h0 : 0 ≤ n) (h1 : n < 1000000000) (hs0 : -10000000000 ≤ s) (hs1 : s ≤ 10000000000) (hd0 : -9223372036854775808 ≤ d) (hd1 : d ≤ 9223372036854775807)
    (hm0 : 0 ≤ n + d.tmod 1000000000) (hm1 : n + d.tmod 1000000000 < 1000000000) :
    Calls Try.prog 41 #[.agg #[.int .u64 n, .int .i64 s, .pointer none], .int .i64 d] w fun e w' => e = .returned (.agg #[.int .u64 (n + d.tmod 1000000000), .int .i64 (s + d.tdiv 1000000000), .pointer none]) ∧ Below w.heap.size w w' := by
  obtain ⟨q0, q1, r0, r1, hqr⟩ := dm d hd0 hd1
  clear hqr
  have e1 := b30 n h0 h1
  have e2 := b63 n h0 h1
  have e3 := b63 (n + d.tmod 1000000000) hm0 hm1
  have e4 := bNot n h0 h1
  have e5 := bOr (n + d.tmod 1000000000) hm0 hm1
  go_enter Try.func41, Try.ntmps41
  go_wp2_with (first | (go_at_call 62; refine (addSec_any _ _ (n + d.tmod 1000000000) s (d.tdiv 1000000000) _ hm0 hm1 (by omega) (by omega) (by omega) (by omega) (by simp) (by simp) (by simp)).mono ?_; rintro e w' ⟨rfl, rfl⟩) | (go_at_call 61; go_in))
  refine bodyPost_ret (v := .agg #[.int .u64 (n + d.tmod 1000000000), .int .i64 (s + d.tdiv 1000000000), .pointer none]) (by simp [results, Try.results41, go_sem]) rfl ⟨rfl, ?_⟩
  exact ((Below.refl _ _).alloc (Nat.le_refl _) _).alloc (by simp) _

theorem add_hi (n s d : Int) (w : World) (h0 : 0 ≤ n) (h1 : n < 1000000000) (hs0 : -10000000000 ≤ s) (hs1 : s ≤ 10000000000) (hd0 : -9223372036854775808 ≤ d) (hd1 : d ≤ 9223372036854775807)
    (hm0 : 1000000000 ≤ n + d.tmod 1000000000) :
    Calls Try.prog 41 #[.agg #[.int .u64 n, .int .i64 s, .pointer none], .int .i64 d] w fun e w' => e = .returned (.agg #[.int .u64 (n + d.tmod 1000000000 - 1000000000), .int .i64 (s + (d.tdiv 1000000000 + 1)), .pointer none]) ∧ Below w.heap.size w w' := by
  obtain ⟨q0, q1, r0, r1, hqr⟩ := dm d hd0 hd1
  clear hqr
  have e1 := b30 n h0 h1
  have e2 := b63 n h0 h1
  have e3 := b63 (n + d.tmod 1000000000 - 1000000000) (by omega) (by omega)
  have e4 := bNot n h0 h1
  have e5 := bOr (n + d.tmod 1000000000 - 1000000000) (by omega) (by omega)
  go_enter Try.func41, Try.ntmps41
  go_wp2_with (first | (go_at_call 62; refine (addSec_any _ _ (n + d.tmod 1000000000 - 1000000000) s (d.tdiv 1000000000 + 1) _ (by omega) (by omega) (by omega) (by omega) (by omega) (by omega) (by simp) (by simp) (by simp)).mono ?_; rintro e w' ⟨rfl, rfl⟩) | (go_at_call 61; go_in))
  refine bodyPost_ret (v := .agg #[.int .u64 (n + d.tmod 1000000000 - 1000000000), .int .i64 (s + (d.tdiv 1000000000 + 1)), .pointer none]) (by simp [results, Try.results41, go_sem]) rfl ⟨rfl, ?_⟩
  exact ((Below.refl _ _).alloc (Nat.le_refl _) _).alloc (by simp) _

theorem add_lo (n s d : Int) (w : World) (h0 : 0 ≤ n) (h1 : n < 1000000000) (hs0 : -10000000000 ≤ s) (hs1 : s ≤ 10000000000) (hd0 : -9223372036854775808 ≤ d) (hd1 : d ≤ 9223372036854775807)
    (hm0 : n + d.tmod 1000000000 < 0) :
    Calls Try.prog 41 #[.agg #[.int .u64 n, .int .i64 s, .pointer none], .int .i64 d] w fun e w' => e = .returned (.agg #[.int .u64 (n + d.tmod 1000000000 + 1000000000), .int .i64 (s + (d.tdiv 1000000000 - 1)), .pointer none]) ∧ Below w.heap.size w w' := by
  obtain ⟨q0, q1, r0, r1, hqr⟩ := dm d hd0 hd1
  clear hqr
  have e1 := b30 n h0 h1
  have e2 := b63 n h0 h1
  have e3 := b63 (n + d.tmod 1000000000 + 1000000000) (by omega) (by omega)
  have e4 := bNot n h0 h1
  have e5 := bOr (n + d.tmod 1000000000 + 1000000000) (by omega) (by omega)
  go_enter Try.func41, Try.ntmps41
  go_wp2_with (first | (go_at_call 62; refine (addSec_any _ _ (n + d.tmod 1000000000 + 1000000000) s (d.tdiv 1000000000 - 1) _ (by omega) (by omega) (by omega) (by omega) (by omega) (by omega) (by simp) (by simp) (by simp)).mono ?_; rintro e w' ⟨rfl, rfl⟩) | (go_at_call 61; go_in))
  refine bodyPost_ret (v := .agg #[.int .u64 (n + d.tmod 1000000000 + 1000000000), .int .i64 (s + (d.tdiv 1000000000 - 1)), .pointer none]) (by simp [results, Try.results41, go_sem]) rfl ⟨rfl, ?_⟩
  exact ((Below.refl _ _).alloc (Nat.le_refl _) _).alloc (by simp) _

/-- The nanoseconds within the second, the seconds: of the time that lies x nanoseconds behind the zero time. -/
def tn (x : Int) : Int := x % 1000000000
def ts (x : Int) : Int := x / 1000000000
/-- The value of a time.Time that lies x nanoseconds behind the zero time. -/
abbrev T (x : Int) : Value := .agg #[.int .u64 (tn x), .int .i64 (ts x), .pointer none]
theorem tn_bd (x : Int) : 0 ≤ tn x ∧ tn x < 1000000000 := by unfold tn; omega
theorem ts_bd (x : Int) (h0 : -9223372036854775808 ≤ x) (h1 : x ≤ 9223372036854775807) : -10000000000 ≤ ts x ∧ ts x ≤ 10000000000 := by unfold ts; omega
theorem ret_agg3 {n n' s s' : Int} {q : Value} (h : n = n') (h' : s = s') : Ending.returned (.agg #[.int .u64 n, .int .i64 s, q]) = .returned (.agg #[.int .u64 n', .int .i64 s', q]) := by rw [h, h']

theorem add_any (x d : Int) (w : World) (hx0 : -9223372036854775808 ≤ x) (hx1 : x ≤ 9223372036854775807) (hd0 : -9223372036854775808 ≤ d) (hd1 : d ≤ 9223372036854775807) :
    Calls Try.prog 41 #[T x, .int .i64 d] w fun e w' => e = .returned (T (x + d)) ∧ Below w.heap.size w w' := by
  obtain ⟨n0, n1⟩ := tn_bd x
  obtain ⟨s0, s1⟩ := ts_bd x hx0 hx1
  obtain ⟨q0, q1, r0, r1, hqr⟩ := dm d hd0 hd1
  have hs : tn x + d.tmod 1000000000 = tn (x + d) + 1000000000 * (ts (x + d) - ts x - d.tdiv 1000000000) := by
    unfold tn ts; omega
  have hb := tn_bd (x + d)
  by_cases hm0 : 0 ≤ tn x + d.tmod 1000000000
  · by_cases hm1 : tn x + d.tmod 1000000000 < 1000000000
    · refine (add_mid (tn x) (ts x) d w n0 n1 s0 s1 hd0 hd1 hm0 hm1).mono ?_
      rintro e w' ⟨rfl, hw⟩
      exact ⟨ret_agg3 (by omega) (by omega), hw⟩
    · refine (add_hi (tn x) (ts x) d w n0 n1 s0 s1 hd0 hd1 (by omega)).mono ?_
      rintro e w' ⟨rfl, hw⟩
      exact ⟨ret_agg3 (by omega) (by omega), hw⟩
  · refine (add_lo (tn x) (ts x) d w n0 n1 s0 s1 hd0 hd1 (by omega)).mono ?_
    rintro e w' ⟨rfl, hw⟩
    exact ⟨ret_agg3 (by omega) (by omega), hw⟩

theorem T0 : (Value.agg #[.int .u64 0, .int .i64 0, .pointer none]) = T 0 := by simp [T, tn, ts]

theorem equal_raw (n s m t : Int) (w : World) (h0 : 0 ≤ n) (h1 : n < 1000000000) (h2 : 0 ≤ m) (h3 : m < 1000000000) :
    Calls Try.prog 75 #[.agg #[.int .u64 n, .int .i64 s, .pointer none], .agg #[.int .u64 m, .int .i64 t, .pointer none]] w fun e w' => e = .returned (.bool (s == t && n == m)) ∧ Below w.heap.size w w' := by
  have e1 := b63' n m h0 h1 h2 h3
  have e2 := b63 n h0 h1
  have e3 := b63 m h2 h3
  have e4 := b30 n h0 h1
  have e5 := b30 m h2 h3
  by_cases hst : s = t
  · subst hst
    go_enter Try.func75, Try.ntmps75
    go_wp2
    go_ret
    exact ⟨by simp, ((Below.refl _ _).alloc (Nat.le_refl _) _).alloc (by simp) _⟩
  · have hb : (s == t) = false := beq_eq_false_iff_ne.2 hst
    go_enter Try.func75, Try.ntmps75
    go_wp2
    go_ret
    exact ⟨by simp [hb], ((Below.refl _ _).alloc (Nat.le_refl _) _).alloc (by simp) _⟩

theorem before_raw (n s m t : Int) (w : World) (h0 : 0 ≤ n) (h1 : n < 1000000000) (h2 : 0 ≤ m) (h3 : m < 1000000000) :
    Calls Try.prog 76 #[.agg #[.int .u64 n, .int .i64 s, .pointer none], .agg #[.int .u64 m, .int .i64 t, .pointer none]] w fun e w' => e = .returned (.bool (decide (s < t ∨ s = t ∧ n < m))) ∧ Below w.heap.size w w' := by
  have e1 := b63' n m h0 h1 h2 h3
  have e2 := b63 n h0 h1
  have e3 := b63 m h2 h3
  have e4 := b30 n h0 h1
  have e5 := b30 m h2 h3
  by_cases hlt : s < t
  · go_enter Try.func76, Try.ntmps76
    go_wp2
    go_ret
    exact ⟨by simp [hlt], ((Below.refl _ _).alloc (Nat.le_refl _) _).alloc (by simp) _⟩
  · have hlt' : decide (s < t) = false := by simpa using hlt
    by_cases hst : s = t
    · subst hst
      go_enter Try.func76, Try.ntmps76
      go_wp2
      go_ret
      exact ⟨by simp, ((Below.refl _ _).alloc (Nat.le_refl _) _).alloc (by simp) _⟩
    · have hb : (s == t) = false := beq_eq_false_iff_ne.2 hst
      go_enter Try.func76, Try.ntmps76
      go_wp2
      go_ret
      exact ⟨by simp [hlt, hst], ((Below.refl _ _).alloc (Nat.le_refl _) _).alloc (by simp) _⟩

theorem equal_any (x y : Int) (w : World) : Calls Try.prog 75 #[T x, T y] w fun e w' => e = .returned (.bool (x == y)) ∧ Below w.heap.size w w' := by
  refine (equal_raw (tn x) (ts x) (tn y) (ts y) w (tn_bd x).1 (tn_bd x).2 (tn_bd y).1 (tn_bd y).2).mono ?_
  rintro e w' ⟨rfl, hw⟩
  refine ⟨?_, hw⟩
  have : (ts x == ts y && tn x == tn y) = (x == y) := by
    rw [Bool.eq_iff_iff]; simp; unfold ts tn; omega
  rw [this]

theorem before_any (x y : Int) (w : World) : Calls Try.prog 76 #[T x, T y] w fun e w' => e = .returned (.bool (decide (x < y))) ∧ Below w.heap.size w w' := by
  refine (before_raw (tn x) (ts x) (tn y) (ts y) w (tn_bd x).1 (tn_bd x).2 (tn_bd y).1 (tn_bd y).2).mono ?_
  rintro e w' ⟨rfl, hw⟩
  refine ⟨?_, hw⟩
  have : (decide (ts x < ts y ∨ ts x = ts y ∧ tn x < tn y)) = (decide (x < y)) := by
    rw [decide_eq_decide]; unfold ts tn; omega
  rw [this]

/-- What Sub gives: the difference, held within int64. -/
def clamp (d : Int) : Int := if d < -9223372036854775808 then -9223372036854775808 else if 9223372036854775807 < d then 9223372036854775807 else d

theorem bcell {W w1 : World} (hb : Below W.heap.size W w1) : (∀ b o, b < W.heap.size → w1.cell? ⟨b, o, none⟩ = W.cell? ⟨b, o, none⟩) ∧ (∀ b o, b < W.heap.size → w1.frozen? ⟨b, o, none⟩ = W.frozen? ⟨b, o, none⟩) :=
  ⟨fun b o h => hb.cell (p := ⟨b, o, none⟩) h, fun b o h => hb.frozen (p := ⟨b, o, none⟩) h⟩

theorem sub_num (x y : Int) (hx0 : -9223372036854775808 ≤ x) (hx1 : x ≤ 9223372036854775807) (hy0 : -9223372036854775808 ≤ y) (hy1 : y ≤ 9223372036854775807) :
    wrap64 (wrap64 ((ts x - ts y) * 1000000000) + (tn x - tn y)) = wrap64 (x - y) := by
  unfold wrap64 ts tn; omega
theorem wrap64_bd (x : Int) : -9223372036854775808 ≤ wrap64 x ∧ wrap64 x ≤ 9223372036854775807 := by unfold wrap64; omega

end Go.Proofs.Qxb6612554a
