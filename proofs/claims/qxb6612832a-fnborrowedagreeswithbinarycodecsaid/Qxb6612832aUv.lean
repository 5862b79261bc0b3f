import Derived.Test.Qxb6612832aRows
import Derived.WalkKit
import Derived.WalkLawsBesides
import Derived.Outline
import Derived.Below
import Derived.Deep.RegionHeld3
import Derived.Deep.DrawnRows
import Derived.Deep.AppendLies
import Derived.Laws.BitsAllLaws
namespace Go.Proofs.Qxb6612832a
open Go.RowKit
set_option linter.unusedVariables false
set_option linter.unusedSimpArgs false
attribute [local go_sem ↓] Go.wp_at_zero Go.wp_at_succ

/-! ### The varint of a number, as a list of bytes -/
def uv (v : Nat) : List Nat := if h : v < 128 then [v] else (v % 128 + 128) :: uv (v / 128)
termination_by v
decreasing_by omega
theorem uv_small {v : Nat} (h : v < 128) : uv v = [v] := by rw [uv, dif_pos h]
theorem uv_big {v : Nat} (h : ¬ v < 128) : uv v = (v % 128 + 128) :: uv (v / 128) := by rw [uv, dif_neg h]
theorem uv_len : ∀ (k v : Nat), v < 128 ^ (k + 1) → (uv v).length ≤ k + 1
  | 0, v, h => by rw [uv_small (by simpa using h)]; simp
  | k + 1, v, h => by
    by_cases hv : v < 128
    · rw [uv_small hv]; simp
    · rw [uv_big hv, List.length_cons]
      have : v / 128 < 128 ^ (k + 1) := by
        rw [Nat.div_lt_iff_lt_mul (by decide)]
        rw [Nat.pow_succ] at h; exact h
      have := uv_len k (v / 128) this
      omega
theorem uv_len64 {v : Nat} (h : v < 18446744073709551616) : (uv v).length ≤ 10 := uv_len 9 v (Nat.lt_of_lt_of_le h (by decide))
theorem uv_pos (v : Nat) : 0 < (uv v).length := by
  by_cases h : v < 128
  · rw [uv_small h]; simp
  · rw [uv_big h]; simp

/-- Bytes as values. -/
def bV (l : List Nat) : List Value := l.map fun n => .int .u8 (n : Nat)
theorem bV_len (l : List Nat) : (bV l).length = l.length := by simp [bV]
theorem bV_append (a b : List Nat) : bV (a ++ b) = bV a ++ bV b := by simp [bV]
theorem info5 : (Try.prog.info? 5).map (fun i => (i.zero, i.size, i.bytes)) = some (some (.int .u8 0), 1, 1) := by kernel_rfl
theorem info_parts {o : Option TypeInfo} {z : Option Value} {s b : Nat} (h : o.map (fun i => (i.zero, i.size, i.bytes)) = some (z, s, b)) : ∃ i, o = some i ∧ i.zero = z ∧ i.size = s ∧ i.bytes = b := by
  cases o with
  | none => cases h
  | some i => simp at h; exact ⟨i, rfl, h.1, h.2.1, h.2.2⟩

def Hid (p : Prop) : Prop := p
theorem hid {p : Prop} (h : p) : Hid p := h
theorem Hid.out {p : Prop} (h : Hid p) : p := h

theorem or128 (m : Nat) : bits .or .u8 (((m : Int) % 256)) 128 = ((m % 128 + 128 : Nat) : Int) := by
  have e : ((m : Int) % 256) = ((m % 256 : Nat) : Int) := by omega
  rw [e, u8_or _ 128 (by omega) (by omega) (by omega) (by omega)]
  congr 1
  simp only [Int.toNat_natCast]
  have h2 : (128 : Int).toNat = 128 := rfl
  rw [h2]
  apply Nat.eq_of_testBit_eq
  intro i
  have e3 : m % 128 + 128 = 2 ^ 7 * 1 + m % 2 ^ 7 := by simp; omega
  rw [e3, Nat.testBit_two_pow_mul_add _ (Nat.mod_lt _ (by decide)), Nat.testBit_or, show (256 : Nat) = 2 ^ 8 by rfl, Nat.testBit_mod_two_pow, Nat.testBit_mod_two_pow, show (128 : Nat) = 2 ^ 7 by rfl, Nat.testBit_two_pow]
  by_cases h7 : i < 7
  · simp [h7, show i < 8 by omega, show ¬ 7 = i by omega]
  · by_cases h8 : i = 7
    · subst h8; simp
    · simp [h7, show ¬ i < 8 by omega, show ¬ 7 = i by omega]
      cases h : Nat.testBit 1 (i - 7) with
      | false => rfl
      | true =>
        have := Nat.testBit_one_eq_true_iff_self_eq_zero.1 h
        omega

/-- The state of Append's loop. -/
def ApR (w : World) (base : Nat) (tot : List Nat) (m : Nat) (v : Value) (wr : World) : Prop :=
  ∃ cs, wr.ownsRow base 5 1 v cs.length (bV cs) ∧ Below base w wr ∧ cs ++ uv m = tot ∧ m < 18446744073709551616

theorem one_cell (n : Int) : ∀ u ∈ [Value.int .u8 n], u.oneCell' = true := by intro u hu; simp at hu; subst hu; rfl
theorem cell_one_new (w : World) (v : Value) (t : Nat) : ∀ j u, [v][j]? = some u → (w.alloc (.cells #[v] t)).cell? ((⟨w.heap.size, 0, none⟩ : Addr).add j) = some u :=
  World.news_of_block (cs := #[v]) (t := t) (fr := (0, 0)) (by show (w.heap.push _)[w.heap.size]? = _; rw [Array.getElem?_push_size])

theorem ApR.below {w wr w2 : World} {base : Nat} {v : Value} {cs : List Nat} {ob : Obj} (ho : wr.ownsRow base 5 1 v cs.length (bV cs)) (hb : Below base w wr) (hs : base ≤ w.heap.size) (hg : (wr.alloc ob).grownBy w2 v.ownBlock) : Below base w w2 :=
  (hb.alloc (Nat.le_trans hs hb.size) ob).grown hg (by have := hb.size; simp; omega) fun j hj => (ho.lt j hj).1

set_option maxRecDepth 100000 in
theorem append_any (w : World) (base : Nat) (v : Value) (bs : List Nat) (n : Nat) (hs : base ≤ w.heap.size) (ho : w.ownsRow base 5 1 v bs.length (bV bs)) (hn : n < 18446744073709551616) (hl : bs.length ≤ 1000000000) :
    Calls Try.prog 10 #[v, .int .u64 (n : Nat)] w fun e w' => ∃ v', e = .returned v' ∧ w'.ownsRow base 5 1 v' (bs ++ uv n).length (bV (bs ++ uv n)) ∧ Below base w w' := by
  have h10 := uv_len64 hn
  obtain ⟨i0, hi, hz0, hz1, hz2⟩ := info_parts info5
  have HO : Hid (ApR w base (bs ++ uv n) n v w) := ⟨bs, ho, Below.refl _ _, rfl, hn⟩
  clear ho
  go_enter Try.func10, Try.ntmps10
  go_wp2
  go_loopw [0, 1] (fun u i wr => ∃ m : Nat, i = .int .u64 m ∧ ApR w base (bs ++ uv n) m u wr) (fun _ i _ => (intOf i).toNat)
  case atStart => exact ⟨n, rfl, HO.out⟩
  case round =>
    obtain ⟨m, rfl, cs, hown, hb, htot, hm⟩ := hrel
    have hlen : cs.length + (uv m).length = bs.length + (uv n).length := by
      have := congrArg List.length htot; simpa using this
    have hp := uv_pos m
    have HW : Hid (wr.ownsRow base 5 1 u0 cs.length (bV cs)) := hown
    have HB : Hid (Below base w wr) := hb
    have hsz := hb.size
    clear hown hb
    by_cases hlt : m < 128
    · go_wp2_with (first | (at_builtin; refine wpList_append_own _ rfl _ _ 23 rfl base 5 i0 (.int .u8 0) 1 1 Try.underlying23 hi hz0 hz1 hz2 rfl (by decide) _ _ _ rfl (HW.out.alloc _) ⟨wr.heap.size, 0, none⟩ 1 1 [_] rfl rfl (cell_one_new _ _ _) (one_cell _) (by unfold maxLen; omega) (by omega) (by simp; omega) ?_; intro v' w2 hown2 hgrow2 _))
      go_ret
      refine ⟨_, rfl, ?_, ApR.below HW.out HB.out hs hgrow2⟩
      rw [← htot, uv_small hlt, bV_append, List.length_append]
      exact hown2
    · have hor := or128 m
      go_wp2_with (first | (at_builtin; refine wpList_append_own _ rfl _ _ 23 rfl base 5 i0 (.int .u8 0) 1 1 Try.underlying23 hi hz0 hz1 hz2 rfl (by decide) _ _ _ rfl (HW.out.alloc _) ⟨wr.heap.size, 0, none⟩ 1 1 [_] rfl rfl (cell_one_new _ _ _) (one_cell _) (by unfold maxLen; omega) (by omega) (by simp; omega) ?_; intro v' w2 hown2 hgrow2 _))
      refine ⟨⟨m / 128, by simp, cs ++ [m % 128 + 128], ?_, ApR.below HW.out HB.out hs hgrow2, ?_, by omega⟩, ?_⟩
      · rw [bV_append, List.length_append]
        simpa [bV] using hown2
      · rw [← htot, uv_big hlt, List.append_assoc]; rfl
      · simp [intOf]; omega

end Go.Proofs.Qxb6612832a
