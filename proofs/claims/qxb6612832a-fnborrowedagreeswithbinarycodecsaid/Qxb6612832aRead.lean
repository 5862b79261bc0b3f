import Derived.Test.Qxb6612832aUv
namespace Go.Proofs.Qxb6612832a
open Go.RowKit
set_option linter.unusedVariables false
set_option linter.unusedSimpArgs false
attribute [local go_sem ↓] Go.wp_at_zero Go.wp_at_succ

/-- The bytes lie in block g. -/
def ByAt (w : World) (g : Nat) (xs : List Nat) : Prop := ∀ j c, xs[j]? = some c → w.cell? ⟨g, j, none⟩ = some (.int .u8 (c : Nat))

/-- What the reader has read: lo, of s bits, in k bytes; m is to come. -/
structure RdR (xs rest : List Nat) (n p k s lo m : Nat) : Prop where
  sum : n = lo + 2 ^ s * m
  low : lo < 2 ^ s
  here : xs.drop (p + k) = uv m ++ rest
  bits : s = 7 * k
  few : k ≤ 9

theorem RdR.at {xs rest : List Nat} {n p k s lo m : Nat} (h : RdR xs rest n p k s lo m) : xs[p + k]? = some (if m < 128 then m else m % 128 + 128) := by
  have h0 : (xs.drop (p + k))[0]? = (uv m ++ rest)[0]? := by rw [h.here]
  rw [List.getElem?_drop] at h0
  rw [show p + k = p + k + 0 by rfl, h0]
  by_cases hm : m < 128
  · rw [uv_small hm, if_pos hm]; rfl
  · rw [uv_big hm, if_neg hm]; rfl
theorem RdR.mle {xs rest : List Nat} {n p k s lo m : Nat} (h : RdR xs rest n p k s lo m) (hn : n < 18446744073709551616) : 2 ^ s * m < 18446744073709551616 := by have := h.sum; omega
theorem RdR.next {xs rest : List Nat} {n p k s lo m : Nat} (h : RdR xs rest n p k s lo m) (hn : n < 18446744073709551616) (hm : ¬ m < 128) : RdR xs rest n p (k + 1) (s + 7) (lo + m % 128 * 2 ^ s) (m / 128) := by
  have hp : 2 ^ (s + 7) = 2 ^ s * 128 := by rw [Nat.pow_add]
  have hpos : 0 < 2 ^ s := Nat.pow_pos (by decide)
  refine ⟨?_, ?_, ?_, by have := h.bits; omega, ?_⟩
  · rw [h.sum, hp, Nat.mul_assoc]
    have e : 2 ^ s * m = 2 ^ s * (m % 128) + 2 ^ s * (128 * (m / 128)) := by
      rw [← Nat.mul_add, Nat.mod_add_div]
    rw [e, Nat.mul_comm (m % 128)]; omega
  · rw [hp]
    have h1 := h.low
    have h2 : m % 128 * 2 ^ s ≤ 127 * 2 ^ s := Nat.mul_le_mul_right _ (by omega)
    omega
  · have e : xs.drop (p + (k + 1)) = (xs.drop (p + k)).drop 1 := by rw [List.drop_drop]; congr 1
    rw [e, h.here, uv_big hm]; rfl
  · have hk := h.few
    by_cases h9 : k = 9
    · have hb := h.bits
      have h3 := h.mle hn
      rw [h9] at hb
      rw [hb] at h3
      have h4 : (2 : Nat) ^ (7 * 9) = 9223372036854775808 := rfl
      rw [h4] at h3
      omega
    · omega

theorem or_sum (lo x s : Nat) (hlo : lo < 2 ^ s) (hx : lo + x * 2 ^ s < 18446744073709551616) : Go.bits .or .u64 (lo : Int) ((x * 2 ^ s : Nat) : Int) = ((lo + x * 2 ^ s : Nat) : Int) := by
  rw [u64_or _ _ (by omega) (by omega) (by omega) (by omega), Int.toNat_natCast, Int.toNat_natCast]
  congr 1
  rw [Nat.or_comm, ← Nat.shiftLeft_eq, ← Nat.shiftLeft_add_eq_or_of_lt hlo, Nat.add_comm]

theorem and127 (c : Nat) (hc : c < 256) : Go.bits .and .u8 (c : Int) 127 = ((c % 128 : Nat) : Int) := by
  rw [u8_and _ 127 (by omega) (by omega) (by omega) (by omega), Int.toNat_natCast]
  congr 1
  exact Nat.and_two_pow_sub_one_eq_mod c 7
theorem rd_val (lo c s : Nat) (hc : c < 256) (hlo : lo < 2 ^ s) (hx : lo + c % 128 * 2 ^ s < 18446744073709551616) :
    Go.bits .or .u64 (lo : Int) (IntKind.u64.wrap (IntKind.u64.wrap (Go.bits .and .u8 (c : Int) 127) * 2 ^ s)) = ((lo + c % 128 * 2 ^ s : Nat) : Int) := by
  rw [and127 c hc, IntWalk.u64_in ((c % 128 : Nat) : Int) ⟨by omega, by omega⟩]
  have e : ((c % 128 : Nat) : Int) * 2 ^ s = ((c % 128 * 2 ^ s : Nat) : Int) := by simp
  rw [e, IntWalk.u64_in ((c % 128 * 2 ^ s : Nat) : Int) ⟨by omega, by omega⟩]
  exact or_sum lo _ s hlo hx

set_option maxRecDepth 100000 in
theorem read_any (w : World) (g cap : Nat) (xs rest : List Nat) (p n : Nat) (hx : ByAt w g xs) (hd : xs.drop p = uv n ++ rest) (hn : n < 18446744073709551616) (hl : xs.length ≤ 1000000000000) :
    Calls Try.prog 7 #[.slice (some ⟨g, 0, none⟩) xs.length cap, .int .i64 (p : Nat)] w fun e w' => e = .returned (.tuple #[.int .u64 (n : Nat), .int .i64 ((p + (uv n).length : Nat) : Int), .bool true]) ∧ w = w' := by
  have hp : p < xs.length := by
    have h1 := congrArg List.length hd
    have h2 := uv_pos n
    simp at h1; omega
  have HX := hid hx
  have HR0 : Hid (RdR xs rest n p 0 0 0 n) := ⟨by simp, by simp, hd, rfl, by omega⟩
  clear hx hd
  go_enter Try.func7, Try.ntmps7
  go_wp2
  go_loopw [7, 8, 9] (fun a b i wr => ∃ k s lo m : Nat, a = .int .u64 (lo : Nat) ∧ b = .int .u64 (s : Nat) ∧ i = .int .i64 ((p + k : Nat) : Int) ∧ RdR xs rest n p k s lo m ∧ (uv n).length = k + (uv m).length ∧ w = wr) (fun _ _ i _ => xs.length - (intOf i).toNat)
  case atStart => exact ⟨0, 0, 0, n, rfl, rfl, rfl, HR0.out, by simp, rfl⟩
  case round =>
    obtain ⟨k, s, lo, m, rfl, rfl, rfl, hR, hlen, rfl⟩ := hrel
    have HR := hid hR
    have hat := hR.at
    have hpk : p + k < xs.length := (List.getElem?_eq_some_iff.1 hat).1
    have hc := HX.out _ _ hat
    have hs63 : s ≤ 63 := by have := hR.bits; have := hR.few; omega
    have hmle := hR.mle hn
    have hlo := hR.low
    clear hR hat
    generalize hq : p + k = q at *
    have hq0 : (0 : Int) ≤ (q : Int) := by omega
    have hq1 : (q : Int) < (xs.length : Int) := by omega
    by_cases hlt : m < 128
    · rw [if_pos hlt] at hc
      go_wp2
      go_ret3
      have hv := rd_val lo m s (by omega) hlo (by rw [Nat.mod_eq_of_lt hlt, Nat.mul_comm, ← HR.out.sum]; exact hn)
      rw [Nat.mod_eq_of_lt hlt, Nat.mul_comm m, ← HR.out.sum] at hv
      refine ⟨?_, rfl⟩
      simp only [hv]
      have e : p + (uv n).length = q + 1 := by rw [hlen, uv_small hlt, ← hq]; simp; omega
      rw [e]; simp
    · rw [if_neg hlt] at hc
      go_wp2
      have hnx := HR.out.next hn hlt
      have hv := rd_val lo (m % 128 + 128) s (by omega) hlo (by have := hnx.sum; rw [show (m % 128 + 128) % 128 = m % 128 by omega]; omega)
      rw [show (m % 128 + 128) % 128 = m % 128 by omega] at hv
      have hv' : ((m % 128 + 128 : Nat) : Int) = (m : Int) % 128 + 128 := by omega
      rw [hv'] at hv
      refine ⟨⟨k + 1, s + 7, lo + m % 128 * 2 ^ s, m / 128, by rw [hv], by simp, by congr 1; omega, hnx, ?_, trivial⟩, ?_⟩
      · rw [hlen, uv_big hlt, List.length_cons]; omega
      · simp [intOf]; omega

end Go.Proofs.Qxb6612832a
