import Derived.Test.Qxb6612554aZZPush
namespace Go.Proofs.Qxb6612554a
open Go.RowKit
open Go.ChangeMaps (setBlock)
set_option linter.unusedVariables false
set_option linter.unusedSimpArgs false
attribute [local go_sem ↓] Go.wp_at_zero Go.wp_at_succ

set_option maxRecDepth 100000 in
theorem new54 (fn : Fn) (cs : Array Value) (w : World) : Calls Try.prog 54 #[.func fn #[] cs] w fun e w' => e = .returned (P (w.heap.size + 2)) ∧
    w' = ((w.alloc (.map #[] 0)).alloc (.cells #[P (w.heap.size + 1), P (w.heap.size + 1), N, .nilIface, .int .i64 0] 110)).alloc (.cells #[.func fn #[] cs, .int .i32 0, .int .u32 0, .map (some w.heap.size), P (w.heap.size + 1)] 91) := by
  have hmm := @run_makeMap Try.prog
  go_enter Try.func54, Try.ntmps54
  go_wp2_with (first | (go_at_call 70; refine (new_any _).mono ?_; rintro e w1 ⟨rfl, rfl⟩))
  go_ret
  exact ⟨rfl, rfl⟩

def newW (w : World) (fv : Value) : World := ((w.alloc (.map #[] 0)).alloc (.cells #[P (w.heap.size + 1), P (w.heap.size + 1), N, .nilIface, .int .i64 0] 110)).alloc (.cells #[fv, .int .i32 0, .int .u32 0, .map (some w.heap.size), P (w.heap.size + 1)] 91)
theorem newW_lim (w : World) (fv : Value) : Lim (newW w fv) (w.heap.size + 2) (w.heap.size + 1) w.heap.size (fun _ => w.heap.size + 1) (fun _ => w.heap.size + 1) [] ∧ Below w.heap.size w (newW w fv) := by
  refine ⟨⟨⟨fv, .int .i32 0, .int .u32 0, ?_⟩, ?_, ?_, ?_, ⟨#[], 0, ?_, rfl⟩, ⟨rfl, rfl, trivial⟩, by simp, by simp, ?_, by simp⟩, ?_⟩
  · have := Go.Deep.blk_alloc_new ((w.alloc (.map #[] 0)).alloc (.cells #[P (w.heap.size + 1), P (w.heap.size + 1), N, .nilIface, .int .i64 0] 110)) (.cells #[fv, .int .i32 0, .int .u32 0, .map (some w.heap.size), P (w.heap.size + 1)] 91)
    simpa [newW, Go.Deep.nblk_alloc] using this
  · unfold newW
    rw [Below.heap_alloc _ _ _ (by simp)]
    have := Go.Deep.blk_alloc_new (w.alloc (.map #[] 0)) (.cells #[P (w.heap.size + 1), P (w.heap.size + 1), N, .nilIface, .int .i64 0] 110)
    simpa [Go.Deep.nblk_alloc] using this
  · intro n hn; simp at hn
  · intro n hn; simp at hn
  · unfold newW
    rw [Below.heap_alloc _ _ _ (by simp; omega), Below.heap_alloc _ _ _ (by simp), Go.Deep.blk_alloc_new]
  · intro n hn; simp at hn
  · unfold newW
    exact (((Below.refl _ _).alloc (Nat.le_refl _) _).alloc (by simp) _).alloc (by simp; omega) _

set_option maxRecDepth 100000 in
theorem zzNew_any (now : Int) (w : World) (h0 : -9223372036854775808 ≤ now) (h1 : now ≤ 9223372036854775807) :
    Calls Try.prog 38 #[.int .i64 now] w fun e w' => ∃ B, w.heap.size ≤ B ∧ e = .returned (P (B + 2)) ∧ Lim w' (B + 2) (B + 1) B (fun _ => B + 1) (fun _ => B + 1) [] ∧ Below w.heap.size w w' := by
  have hmf : ∀ (fn : Fn) (first cap : Array Value) (w : World), (Instr.makeFunc fn first cap).run Try.prog w = .ok (.func fn first cap) w := fun _ _ _ _ => rfl
  go_enter Try.func38, Try.ntmps38
  go_wp2_with (first | (go_at_call 41; refine (add_zero now _ h0 h1).mono ?_; rintro e w1 ⟨rfl, hb1⟩) | (go_at_call 54; refine (new54 _ _ _).mono ?_; rintro e w2 ⟨rfl, hw2⟩; have HW := hid hw2; clear hw2))
  go_ret
  have hw := HW.out
  have hn := newW_lim (w1.alloc (.cells #[.int .u64 (tn now), .int .i64 (ts now), N] 63)) (.func (Fn.func 55) #[] #[.pointer (some ⟨w1.heap.size, 0, none⟩)])
  unfold newW at hn
  rw [← hw] at hn
  have hz := hb1.size
  refine ⟨w1.heap.size + 1, by omega, ?_, ?_⟩
  · simp
  · have e : (w1.alloc (.cells #[.int .u64 (tn now), .int .i64 (ts now), N] 63)).heap.size = w1.heap.size + 1 := by simp
    rw [e] at hn
    exact ⟨hn.1, (hb1.alloc hz _).trans (hn.2.mono (by omega))⟩
end Go.Proofs.Qxb6612554a
