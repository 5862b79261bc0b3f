import Derived.Test.Qxb6612727aRows
import Derived.WalkKit
import Derived.WalkLawsBesides
import Derived.Outline
import Derived.Deep.RegionHeld3
import Derived.Deep.DrawnRows
import Derived.ProofKit
import Derived.OpenShut
import Derived.ShutString
namespace Go.Proofs.Qxb6612727a.fnFirstExpenseMonthMovesWithTheGrant
open Go.ChangeShapes Go.WideShapes Go.ChangeAt Go.RowKit
open Go.ChangeMaps (open_string shut_string)
set_option linter.unusedVariables false      -- a walk need not use every 'w<i>' (that an integer argument fits its kind)

theorem own : ownKnob Try.prog.godebug = none := by kernel_rfl

attribute [local go_sem ↓] Go.wp_at_zero Go.wp_at_succ

theorem bytes (a0 : ByteArray) (v1 v2 v3 v4 v5 : Value) (w : World) (h : a0.size ≤ 1048576) :
    Calls Try.prog 4 #[.string a0, v1, v2, v3, v4, v5] w fun e w' => e = .returned (.bool true) ∧ w = w' := by
  go_enter Try.func4, Try.ntmps4
  go_wp2
  go_ret
  exact ⟨rfl, rfl⟩
theorem bytes_no (a0 : ByteArray) (v1 v2 v3 v4 v5 : Value) (w : World) (h : 1048576 < a0.size) (hm : a0.size ≤ maxLen) :
    Calls Try.prog 4 #[.string a0, v1, v2, v3, v4, v5] w fun e w' => e = .returned (.bool false) ∧ w = w' := by
  unfold maxLen at hm
  go_enter Try.func4, Try.ntmps4
  go_wp2
  go_ret
  exact ⟨rfl, rfl⟩
theorem add_any (m n : Int) (w : World) :
    Calls Try.prog 5 #[.int .i64 m, .int .i64 n] w fun e w' => e = .returned (.int .i64 (wrap64 (m + n))) ∧ w = w' := by
  go_enter Try.func5, Try.ntmps5
  go_wp2
  go_ret
  exact ⟨rfl, rfl⟩
theorem new_cell {w : World} {o : Obj} {cs : Array Value} {t k : Nat} {v : Value} (h : cs[k]? = some v) : ((w.alloc o).alloc (.cells cs t)).cell? ⟨w.heap.size + 1, k, none⟩ = some v := by
  unfold World.cell?
  have : ((w.alloc o).alloc (.cells cs t)).heap[w.heap.size + 1]? = some (.cells cs t) := by
    show ((w.heap.push o).push (.cells cs t))[w.heap.size + 1]? = _
    rw [show w.heap.size + 1 = (w.heap.push o).size by simp, Array.getElem?_push_size]
  simp only [this]; exact h
theorem old_cell {w : World} {o : Obj} {cs : Array Value} {t k : Nat} {v : Value} (h : cs[k]? = some v) : ((w.alloc (.cells cs t)).alloc o).cell? ⟨w.heap.size, k, none⟩ = some v := by
  unfold World.cell?
  have : ((w.alloc (.cells cs t)).alloc o).heap[w.heap.size]? = some (.cells cs t) := by
    show ((w.heap.push (.cells cs t)).push o)[w.heap.size]? = _
    rw [Array.getElem?_push, if_neg (by simp), Array.getElem?_push_size]
  simp [this, h]
/-- The first expense month of a plan granted in month g. -/
def fem (g f : Int) : Int := if f = 1 then g else wrap64 (g + 1)
theorem fem_any (b : Nat) (g f : Int) (w : World) (h1 : w.cell? ⟨b, 1, none⟩ = some (.int .i64 g)) (h2 : w.cell? ⟨b, 2, none⟩ = some (.int .i64 f)) :
    Calls Try.prog 6 #[.pointer (some ⟨b, 0, none⟩)] w fun e w' => e = .returned (.int .i64 (fem g f)) ∧ w = w' := by
  unfold fem
  by_cases hf : f = 1
  · rw [if_pos hf]
    go_enter Try.func6, Try.ntmps6
    go_wp2
    go_ret
    exact ⟨rfl, rfl⟩
  · rw [if_neg hf]
    go_enter Try.func6, Try.ntmps6
    go_wp2_with (first | (go_at_call 5; refine (add_any _ _ _).mono ?_; rintro e w' ⟨rfl, rfl⟩))
    go_ret
    exact ⟨rfl, rfl⟩

theorem walk (a0 : ByteArray) (a1 : Int) (a2 : Int) (a3 : Int) (a4 : Int) (a5 : Int) (w0 : a0.size ≤ maxLen) (w1 : (Lit.int .i64 a1).wf = true) (w2 : (Lit.int .i64 a2).wf = true) (w3 : (Lit.int .i64 a3).wf = true) (w4 : (Lit.int .i64 a4).wf = true) (w5 : (Lit.int .i64 a5).wf = true) (w : World) :
    Calls Try.prog 3 #[.string a0, .int .i64 a1, .int .i64 a2, .int .i64 a3, .int .i64 a4, .int .i64 a5] w fun e w' => e = .returned (.bool true) ∧ Grown w w' := by
  by_cases hbig : 1048576 < a0.size
  · go_enter Try.func3, Try.ntmps3
    go_wp2_with (first | (go_at_call 4; refine (bytes_no _ _ _ _ _ _ _ hbig w0).mono ?_; rintro e w' ⟨rfl, rfl⟩))
    go_ret
    exact ⟨rfl, Grown.refl _⟩
  have b1 : -9223372036854775808 ≤ a1 ∧ a1 ≤ 9223372036854775807 := by
    simp [Lit.wf, IntKind.min, IntKind.max, IntKind.bits, IntKind.signed] at w1; omega
  have hm1 : fem (wrap64 (a1 + a5)) a2 = wrap64 (fem a1 a2 + a5) := by
    unfold fem wrap64
    by_cases h : a2 = 1
    · rw [if_pos h, if_pos h]
    · rw [if_neg h, if_neg h]; omega
  by_cases hf : a2 = 1
  · subst hf
    have hm2 : wrap64 (fem a1 1 - a1) = 0 := by unfold fem wrap64; rw [if_pos rfl]; omega
    go_enter Try.func3, Try.ntmps3
    go_wp2_with (first | (go_at_call 4; refine (bytes _ _ _ _ _ _ _ (by omega)).mono ?_; rintro e w' ⟨rfl, rfl⟩) | (go_at_call 5; refine (add_any _ _ _).mono ?_; rintro e w' ⟨rfl, rfl⟩) | (go_at_call 6; refine (fem_any _ _ _ _ (by exact old_cell rfl) (by exact old_cell rfl)).mono ?_; rintro e w' ⟨rfl, rfl⟩) | (go_at_call 6; refine (fem_any _ _ _ _ (by exact new_cell rfl) (by exact new_cell rfl)).mono ?_; rintro e w' ⟨rfl, rfl⟩))
    go_ret
    exact ⟨rfl, by repeat (first | exact Grown.refl _ | apply Grown.drew | apply Grown.alloc)⟩
  · have hm2 : wrap64 (fem a1 a2 - a1) = 1 := by unfold fem wrap64; rw [if_neg hf]; omega
    go_enter Try.func3, Try.ntmps3
    go_wp2_with (first | (go_at_call 4; refine (bytes _ _ _ _ _ _ _ (by omega)).mono ?_; rintro e w' ⟨rfl, rfl⟩) | (go_at_call 5; refine (add_any _ _ _).mono ?_; rintro e w' ⟨rfl, rfl⟩) | (go_at_call 6; refine (fem_any _ _ _ _ (by exact old_cell rfl) (by exact old_cell rfl)).mono ?_; rintro e w' ⟨rfl, rfl⟩) | (go_at_call 6; refine (fem_any _ _ _ _ (by exact new_cell rfl) (by exact new_cell rfl)).mono ?_; rintro e w' ⟨rfl, rfl⟩))
    go_ret
    exact ⟨rfl, by repeat (first | exact Grown.refl _ | apply Grown.drew | apply Grown.alloc)⟩

/-! ### THE ROW's STEP: WRITTEN OUT: LEAVE IT -/
set_option maxRecDepth 100000 in
theorem lifted (os : Os) (started : os.Started) (H : Type) (enc : TypeId × Value → H) :
    ReturnsInHanded {} Try.checked os 3 .any (Rows.fnFirstExpenseMonthMovesWithTheGrantSpec.pre6 enc Try.prog Try.f3 Rows.fnFirstExpenseMonthMovesWithTheGrantRow.domain false) (Rows.fnFirstExpenseMonthMovesWithTheGrantSpec.post enc Try.prog Try.f3 false true false false) := by
  refine returnsInHanded_of_change (C := Try.checked) own started (by kernel_rfl) Try.func3
    (ChangeSpec.witness6 (enc := enc) (C := Try.checked) false ⟨#[], #[.string ByteArray.empty, .int .i64 0, .int .i64 0, .int .i64 0, .int .i64 0, .int .i64 0], []⟩ 8 (by kernel_rfl) (by kernel_rfl) (by kernel_rfl) (by kernel_rfl)) ?_
  intro W base args ds gs before hval0 hW hcnd _
  have hval : ∀ (j : Nat) t v, Try.f3.params[j]? = some t → args[j]? = some v → Value.okWide Try.prog W .any base t v := hval0
  have hW' := hW
  obtain ⟨p, q, hA0, hV, rfl, hfz, hnd⟩ := hW
  have hA : DataW.TrodAll enc Try.prog W 0 (fun _ => true) true Try.f3.params.toList args.toList ds p := hA0
  rw [Try.params3] at hA hval
  obtain ⟨v0, vs0, d0, ds0, p0, q0, hargs, rfl, rfl, h0, r0⟩ := trodAll_cons hA
  obtain ⟨v1, vs1, d1, ds1, p1, q1, rfl, rfl, rfl, h1, r1⟩ := trodAll_cons r0
  obtain ⟨v2, vs2, d2, ds2, p2, q2, rfl, rfl, rfl, h2, r2⟩ := trodAll_cons r1
  obtain ⟨v3, vs3, d3, ds3, p3, q3, rfl, rfl, rfl, h3, r3⟩ := trodAll_cons r2
  obtain ⟨v4, vs4, d4, ds4, p4, q4, rfl, rfl, rfl, h4, r4⟩ := trodAll_cons r3
  obtain ⟨v5, vs5, d5, ds5, p5, q5, rfl, rfl, rfl, h5, r5⟩ := trodAll_cons r4
  obtain ⟨rfl, rfl, rfl⟩ := trodAll_nil r5
  obtain rfl : args = #[v0, v1, v2, v3, v4, v5] := by cases args; simp_all
  obtain ⟨rfl, rfl⟩ := trodVars_none hV
  obtain ⟨a0, rfl, rfl, rfl, w0⟩ := open_string Try.underlying9 (hval 0 9 v0 rfl rfl) h0
  obtain ⟨a1, rfl, rfl, rfl, w1⟩ := open_int Try.underlying3 (hval 1 3 v1 rfl rfl) h1
  obtain ⟨a2, rfl, rfl, rfl, w2⟩ := open_int Try.underlying3 (hval 2 3 v2 rfl rfl) h2
  obtain ⟨a3, rfl, rfl, rfl, w3⟩ := open_int Try.underlying2 (hval 3 2 v3 rfl rfl) h3
  obtain ⟨a4, rfl, rfl, rfl, w4⟩ := open_int Try.underlying2 (hval 4 2 v4 rfl rfl) h4
  obtain ⟨a5, rfl, rfl, rfl, w5⟩ := open_int Try.underlying3 (hval 5 3 v5 rfl rfl) h5
  clear hA0 hval0
  simp only [List.append_nil] at hW'
  refine (walk a0 a1 a2 a3 a4 a5 w0 w1 w2 w3 w4 w5 W).mono fun e W' ⟨he, hg⟩ => ?_
  subst he
  exact ⟨_, rfl, post_of_same (pa := []) (pv := []) hW' (fun _ _ _ => (trodAll_cons_mk (shut_bool Try.underlying4 _) trodAll_mk0)) (fun sp _ => (trodAll_cons_mk (shut_string Try.underlying9 w0) (trodAll_cons_mk (shut_int Try.underlying3 w1) (trodAll_cons_mk (shut_int Try.underlying3 w2) (trodAll_cons_mk (shut_int Try.underlying2 w3) (trodAll_cons_mk (shut_int Try.underlying2 w4) (trodAll_cons_mk (shut_int Try.underlying3 w5) trodAll_mk0))))))) (fun _ _ => rfl) rfl
    (hg.frame _) hg.2.1 (ok_one (by kernel_rfl) rfl (okWide_bool_mk Try.underlying4 _))⟩

theorem over : Rows.fnFirstExpenseMonthMovesWithTheGrantRow.holds Try.pinned (OpenSpec.ofChange Rows.fnFirstExpenseMonthMovesWithTheGrantSpec) :=
  OpenClaim.holds_of_wide 3 Try.f3 rfl rfl rfl rfl rfl rfl rfl ⟨rfl, rfl, rfl, rfl, rfl⟩ rfl rfl rfl rfl rfl (by kernel_rfl) Try.func3 (by kernel_rfl)
    (of_decide_eq_true (by kernel_rfl)) (by unfold Func.isWrapper; first | (rw [if_pos (by decide +kernel)]; kernel_rfl) | (rw [if_neg (by decide +kernel)]; exact ⟨rfl, rfl⟩))
    (fun os started H enc _ => lifted os started H enc)

/-- ████ THE STATEMENT ████ -/
theorem proved : Rows.FnFirstExpenseMonthMovesWithTheGrantSaid :=
  over
end Go.Proofs.Qxb6612727a.fnFirstExpenseMonthMovesWithTheGrant
