import Derived.Test.Qxb6612554aEs
namespace Go.Proofs.Qxb6612554a
open Go.RowKit
set_option linter.unusedVariables false
set_option linter.unusedSimpArgs false
attribute [local go_sem ↓] Go.wp_at_zero Go.wp_at_succ

def sortedB : List En → Bool
  | x :: y :: r => decide (x.la ≤ y.la) && sortedB (y :: r)
  | _ => true
theorem sorted_no : ∀ {es : List En} {k : Nat} {x y : En}, es[k]? = some x → es[k + 1]? = some y → y.la < x.la → sortedB es = false
  | [], _, _, _, h, _, _ => by simp at h
  | [a], k, x, y, _, h, _ => by simp at h
  | a :: b :: r, 0, x, y, h1, h2, h3 => by
    simp at h1 h2; subst h1 h2
    simp [sortedB]; omega
  | a :: b :: r, k + 1, x, y, h1, h2, h3 => by
    simp at h1 h2
    have := sorted_no (es := b :: r) (k := k) (by simpa using h1) (by simpa using h2) h3
    simp [sortedB, this]
theorem sorted_yes : ∀ {es : List En}, (∀ j x y, es[j]? = some x → es[j + 1]? = some y → x.la ≤ y.la) → sortedB es = true
  | [], _ => rfl
  | [a], _ => rfl
  | a :: b :: r, h => by
    have h1 := h 0 a b rfl rfl
    have h2 := sorted_yes (es := b :: r) (fun j x y hx hy => h (j + 1) x y (by simpa using hx) (by simpa using hy))
    simp [sortedB, h1, h2]

theorem sort_step {es : List En} {k : Nat} {x y : En} (h : ∀ j x y, j < k → es[j]? = some x → es[j + 1]? = some y → x.la ≤ y.la) (hx : es[k]? = some x) (hy : es[k + 1]? = some y) (h2 : x.la ≤ y.la) : ∀ j x y, j < k + 1 → es[j]? = some x → es[j + 1]? = some y → x.la ≤ y.la := fun j x' y' hj hx' hy' => by
  by_cases e : j = k
  · subst e; rw [hx] at hx'; rw [hy] at hy'; injection hx' with hx'; injection hy' with hy'; rw [← hx', ← hy']; exact h2
  · exact h j x' y' (by omega) hx' hy'

set_option maxHeartbeats 1000000 in
theorem sorted_any (a : Option Addr) (cap : Nat) (es : List En) (w : World) (h : EsAt w a es) (hlen : es.length ≤ 16384) :
    Calls Try.prog 13 #[.slice a es.length cap] w fun e w' => e = .returned (.bool (sortedB es)) ∧ ∃ n, w' = w.drewN n := by
  have HE : Hid (EsAt w a es) := h
  clear h
  go_enter Try.func13, Try.ntmps13
  go_wp2
  go_loopw [3] (fun i wr => ∃ k n : Nat, k ≤ es.length ∧ i = .int .i64 (k + 1 : Nat) ∧ wr = w.drewN n ∧ ∀ j x y, j < k → es[j]? = some x → es[j + 1]? = some y → x.la ≤ y.la) (fun i _ => es.length + 1 - (intOf i).toNat)
  case atStart => exact ⟨0, 0, Nat.zero_le _, rfl, rfl, fun j x y hj => by omega⟩
  case round =>
    obtain ⟨k, n, hk, rfl, rfl, hall⟩ := hrel
    have HA : Hid (∀ j x y, j < k → es[j]? = some x → es[j + 1]? = some y → x.la ≤ y.la) := hall
    clear hall
    by_cases hlt : k + 1 < es.length
    · obtain ⟨y, hy⟩ : ∃ y, es[k + 1]? = some y := ⟨es[k + 1], by simp [hlt]⟩
      obtain ⟨x, hx⟩ : ∃ x, es[k]? = some x := ⟨es[k], by simp⟩
      obtain ⟨b, o, rfl, c0, c1, c2, c3⟩ := HE.out k x hx
      obtain ⟨b', o', e', d0, d1, d2, d3⟩ := HE.out (k + 1) y hy
      injection e' with e'
      injection e' with e1 e2 e3
      subst e1 e2
      clear e3 c0 c1 c3 d0 d1 d3
      have HX : Hid (es[k]? = some x) := hx
      have HY : Hid (es[k + 1]? = some y) := hy
      clear hx hy
      have hk0 : (0 : Int) ≤ (k : Int) := by omega
      have hk1 : (k : Int) + 1 < (es.length : Int) := by omega
      by_cases hf : y.la < x.la
      · go_wp2
        go_quiet (fail)
        go_wp2
        go_ret
        exact ⟨ret_bool (sorted_no HX.out HY.out hf).symm, _, World.drewN_drewN _ _ _⟩
      · go_wp2
        go_quiet (fail)
        go_wp2
        go_roundw
        case rel => exact ⟨k + 1, _, by omega, by go_num, rfl, sort_step HA.out HX.out HY.out (by omega)⟩
        case measure => simp [intOf]; omega
    · go_wp2
      go_ret
      exact ⟨ret_bool (sorted_yes (fun j x y hx hy => HA.out j x y (by have := (List.getElem?_eq_some_iff.1 hy).1; omega) hx hy)).symm, _, rfl⟩

/-! ### The small ones -/
theorem bytes11 (a : Option Addr) (n cap : Nat) (now : Int) (w : World) (hn : n ≤ 1048576) : Calls Try.prog 11 #[.slice a n cap, .int .i64 now] w fun e w' => e = .returned (.bool true) ∧ w = w' := by
  go_enter Try.func11, Try.ntmps11
  go_wp2
  go_ret
  exact ⟨rfl, rfl⟩
theorem bytes11_no (a : Option Addr) (n cap : Nat) (now : Int) (w : World) (hn : 1048576 < n) (hm : n ≤ maxLen) : Calls Try.prog 11 #[.slice a n cap, .int .i64 now] w fun e w' => e = .returned (.bool false) ∧ w = w' := by
  unfold maxLen at hm
  go_enter Try.func11, Try.ntmps11
  go_wp2
  go_ret
  exact ⟨rfl, rfl⟩
theorem bytes18 (a : Option Addr) (n cap : Nat) (now now2 : Int) (w : World) (hn : n ≤ 1048576) : Calls Try.prog 18 #[.slice a n cap, .int .i64 now, .int .i64 now2] w fun e w' => e = .returned (.bool true) ∧ w = w' := by
  go_enter Try.func18, Try.ntmps18
  go_wp2
  go_ret
  exact ⟨rfl, rfl⟩
theorem bytes18_no (a : Option Addr) (n cap : Nat) (now now2 : Int) (w : World) (hn : 1048576 < n) (hm : n ≤ maxLen) : Calls Try.prog 18 #[.slice a n cap, .int .i64 now, .int .i64 now2] w fun e w' => e = .returned (.bool false) ∧ w = w' := by
  unfold maxLen at hm
  go_enter Try.func18, Try.ntmps18
  go_wp2
  go_ret
  exact ⟨rfl, rfl⟩
theorem bytes21 (a : Option Addr) (n cap : Nat) (i now : Int) (w : World) (hn : n ≤ 1048576) : Calls Try.prog 21 #[.slice a n cap, .int .i64 i, .int .i64 now] w fun e w' => e = .returned (.bool true) ∧ w = w' := by
  go_enter Try.func21, Try.ntmps21
  go_wp2
  go_ret
  exact ⟨rfl, rfl⟩
theorem bytes21_no (a : Option Addr) (n cap : Nat) (i now : Int) (w : World) (hn : 1048576 < n) (hm : n ≤ maxLen) : Calls Try.prog 21 #[.slice a n cap, .int .i64 i, .int .i64 now] w fun e w' => e = .returned (.bool false) ∧ w = w' := by
  unfold maxLen at hm
  go_enter Try.func21, Try.ntmps21
  go_wp2
  go_ret
  exact ⟨rfl, rfl⟩

def staleB (now last : Int) : Bool := decide (last ≤ now) && decide (900000000000 ≤ now - last)
theorem u64_sub (a b : Int) (h0 : -9223372036854775808 ≤ a) (h1 : a ≤ 9223372036854775807) (g0 : -9223372036854775808 ≤ b) (g1 : b ≤ 9223372036854775807) (h : b ≤ a) :
    IntKind.u64.wrap (IntKind.u64.wrap a - IntKind.u64.wrap b) = a - b := by
  simp only [IntKind.wrap_u64]; omega
theorem stale_any (now last : Int) (w : World) (h0 : -9223372036854775808 ≤ now) (h1 : now ≤ 9223372036854775807) (g0 : -9223372036854775808 ≤ last) (g1 : last ≤ 9223372036854775807) :
    Calls Try.prog 42 #[.int .i64 now, .int .i64 last] w fun e w' => e = .returned (.bool (staleB now last)) ∧ w = w' := by
  by_cases hle : last ≤ now
  · have hu := u64_sub now last h0 h1 g0 g1 hle
    go_enter Try.func42, Try.ntmps42
    go_wp2
    go_ret
    exact ⟨ret_bool (by simp [staleB, hle]), rfl⟩
  · have hle' : decide (last ≤ now) = false := by simpa using hle
    go_enter Try.func42, Try.ntmps42
    go_wp2
    go_ret
    exact ⟨ret_bool (by simp [staleB]; omega), rfl⟩
end Go.Proofs.Qxb6612554a
