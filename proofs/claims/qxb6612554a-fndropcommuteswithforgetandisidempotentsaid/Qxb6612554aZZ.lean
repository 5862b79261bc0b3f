import Derived.Test.Qxb6612554aForget
namespace Go.Proofs.Qxb6612554a
open Go.RowKit
open Go.ChangeMaps (setBlock)
set_option linter.unusedVariables false
set_option linter.unusedSimpArgs false
attribute [local go_sem ↓] Go.wp_at_zero Go.wp_at_succ

theorem add_zero (d : Int) (w : World) (hd0 : -9223372036854775808 ≤ d) (hd1 : d ≤ 9223372036854775807) :
    Calls Try.prog 41 #[.agg #[.int .u64 0, .int .i64 0, .pointer none], .int .i64 d] w fun e w' => e = .returned (T d) ∧ Below w.heap.size w w' := by
  have := add_any 0 d w (by omega) (by omega) hd0 hd1
  rw [Int.zero_add] at this
  rw [T0]; exact this
theorem sub_zero (x : Int) (w : World) (hx0 : -9223372036854775808 ≤ x) (hx1 : x ≤ 9223372036854775807) :
    Calls Try.prog 58 #[T x, .agg #[.int .u64 0, .int .i64 0, .pointer none]] w fun e w' => e = .returned (.int .i64 x) ∧ Below w.heap.size w w' := by
  have := sub_any x 0 w hx0 hx1 (by omega) (by omega)
  have e : clamp (x - 0) = x := by unfold clamp; split <;> (try split) <;> omega
  rw [e] at this
  rw [T0]; exact this

theorem zzForget_any (L lb mb : Nat) (nx pv : Nat → Nat) (ns : List Nd) (now : Int) (w : World) (h : Lim w L lb mb nx pv ns) (hn0 : -9223372036854775808 ≤ now) (hn1 : now ≤ 9223372036854775807) (hla : ∀ n ∈ ns, -9223372036854775808 ≤ n.la ∧ n.la ≤ 9223372036854775807) :
    Calls Try.prog 15 #[P L, .int .i64 now] w fun e w' => e = .returned (.tuple #[]) ∧ ∃ nx' pv', Lim w' L lb mb nx' pv' (forgetL now ns) ∧ (∀ n ∈ ns, n ∉ forgetL now ns → Gone w' n) ∧ Kp (Own lb mb ns) w w' := by
  have HH := hid h
  have HL := hid hla
  clear h hla
  go_enter Try.func15, Try.ntmps15
  go_wp2_with (first | (go_at_call 41; refine (add_zero now _ hn0 hn1).mono ?_; rintro e w1 ⟨rfl, hb1⟩) | (go_at_call 40; refine (forget_any L lb mb nx pv ns now _ (HH.out.keep0 hb1) hn0 hn1 HL.out).mono ?_; rintro e w2 ⟨rfl, hw2⟩))
  go_end0
  obtain ⟨nx', pv', h1, h2, h3⟩ := hw2
  exact ⟨rfl, nx', pv', h1, h2, (Kp.of_below hb1).trans h3⟩

theorem zzDrop_in {w : World} {L lb mb : Nat} {nx pv : Nat → Nat} {xs ys : List Nd} {n : Nd} (h : Lim w L lb mb nx pv (xs ++ n :: ys)) :
    Calls Try.prog 20 #[P L, P n.b] w fun e w' => e = .returned (.tuple #[]) ∧ ∃ nx' pv', Lim w' L lb mb nx' pv' (xs ++ ys) ∧ Gone w' n ∧ Kp (Own lb mb (xs ++ n :: ys)) w w' := by
  have HH := hid h
  clear h
  go_enter Try.func20, Try.ntmps20
  go_wp2_with (first | (go_at_call 43; refine (drop_in HH.out).mono ?_; rintro e w2 ⟨rfl, hw2⟩))
  go_end0
  exact ⟨rfl, hw2⟩
theorem zzDrop_out {w : World} {L lb mb : Nat} {nx pv : Nat → Nat} {ns : List Nd} {n : Nd} (h : Lim w L lb mb nx pv ns) (hg : Gone w n) (hi : n.i ≤ 65535) (hni : n.i ∉ ns.map (·.i)) :
    Calls Try.prog 20 #[P L, P n.b] w fun e w' => e = .returned (.tuple #[]) ∧ Below w.heap.size w w' := by
  have HH := hid (drop_out h hg hi hni)
  clear h hg hi hni
  go_enter Try.func20, Try.ntmps20
  go_wp2_with (first | (go_at_call 43; refine HH.out.mono ?_; rintro e w2 ⟨rfl, hw2⟩))
  go_end0
  exact ⟨rfl, hw2⟩
end Go.Proofs.Qxb6612554a
