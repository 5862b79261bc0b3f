import Derived.Test.Qxb6612769aLaw4
import Derived.Test.Qxb6612769aLaw4n
import Derived.WalkKit
import Derived.ProofKit
import Derived.OpenShut
import Derived.ShutString
import Derived.ChangeOld
import Derived.Below
namespace Go.Proofs.Qxb6612769a.fnGrowSpreadsEveryChainInOrder
open Go.ChangeShapes Go.WideShapes Go.ChangeAt Go.RowKit
open Go.ChangeMaps (open_string shut_string)
set_option linter.unusedVariables false

theorem own : ownKnob Try.prog.godebug = none := by kernel_rfl
theorem laidOut : laidOutB Try.prog = true := by kernel_rfl

/-- WHAT THE WALK IS TOLD OF A SLICE OF INTEGERS THAT CAME IN: it is nil; or it leads to a row of 'cap' cells, the numbers 'zs' (the first 'len' are its elements, the rest its spare room), each fitting its kind. -/
def IsRow (k : IntKind) (w : World) (a : Option Addr) (len cap : Nat) (zs : List Int) : Prop :=
  (a = none ∧ len = 0 ∧ cap = 0 ∧ zs = []) ∨
  ∃ x, a = some x ∧ len ≤ cap ∧ cap ≤ maxLen ∧ zs.length = cap ∧ (∀ i, i < zs.length → w.cell? (x.add i) = some (.int k (zs.getD i 0))) ∧ ∀ n ∈ zs, (Lit.int k n).wf = true

theorem wf_u64 {n : Int} (h : (Lit.int .u64 n).wf = true) : ((n.toNat : Nat) : Int) = n ∧ n.toNat < 18446744073709551616 := by
  simp [Lit.wf, IntKind.min, IntKind.max, IntKind.bits, IntKind.signed] at h
  omega
theorem spot_none {w : World} {a : Addr} {v : Value} (h : w.cell? a = some v) : a = ⟨a.block, a.off, none⟩ := by
  unfold World.cell? at h
  split at h
  · split at h
    · cases h
    · rename_i hs
      cases a with
      | mk b o s => cases s with
        | none => rfl
        | some s => simp at hs
  · cases h
theorem pk_of {w : World} {a : Option Addr} {len cap : Nat} {zs : List Int} (h : IsRow .i64 w a len cap zs) : PkAt w a len (fun i => zs.getD i 0) := fun i hi => by
  rcases h with ⟨rfl, rfl, rfl, rfl⟩ | ⟨x, rfl, h1, h2, h3, h4, h5⟩
  · omega
  · have hc := h4 i (by omega)
    have hs := spot_none (h4 0 (by omega))
    obtain ⟨b, o, s⟩ := x
    have hn : s = none := by
      have := congrArg Addr.spot hs
      simpa [Addr.add] using this
    subst hn
    refine ⟨b, o, rfl, ?_⟩
    have e : (⟨b, o, none⟩ : Addr).add i = ⟨b, o + i, none⟩ := by
      unfold Addr.add
      by_cases h0 : i = 0
      · subst h0; simp
      · simp [h0]
    rw [← e]; exact hc
theorem walk (a0 : Int) (a1 : Option Addr) (len1 cap1 : Nat) (z1 : List Int) (a2 : Option Addr) (len2 cap2 : Nat) (z2 : List Int) (w : World) (w0 : (Lit.int .i64 a0).wf = true) (w1 : IsRow .u64 w a1 len1 cap1 z1) (w2 : IsRow .i64 w a2 len2 cap2 z2) :
    Calls Try.prog 4 #[.int .i64 a0, .slice a1 len1 cap1, .slice a2 len2 cap2] w fun e w' => e = .returned (.bool true) ∧ Below w.heap.size w w' := by
  have hmx : len1 ≤ maxLen := by
    rcases w1 with ⟨_, rfl, _⟩ | ⟨_, _, h1, h2, _⟩ <;> omega
  have hmy : len2 ≤ maxLen := by
    rcases w2 with ⟨_, rfl, _⟩ | ⟨_, _, h1, h2, _⟩ <;> omega
  by_cases hb : 1048576 < len1
  · exact law4_big_a w _ _ _ _ _ _ _ hb hmx
  by_cases hb2 : 1048576 < len2
  · exact law4_big_b w _ _ _ _ _ _ _ (by omega) hb2 hmy
  by_cases hb3 : 1048576 < len1 + len2
  · exact law4_big_c w _ _ _ _ _ _ _ (by omega) (by omega) hb3
  by_cases hl : 16384 < len1
  · exact law4_long_a w _ _ _ _ _ _ _ (by omega) hl
  by_cases hl2 : 16384 < len2
  · exact law4_long_b w _ _ _ _ _ _ _ (by omega) (by omega) hl2
  by_cases c1 : a0 < 0
  · exact law4_l0 w _ _ _ _ _ _ _ (by omega) (by omega) c1
  by_cases c2 : 12 < a0
  · exact law4_l1 w _ _ _ _ _ _ _ (by omega) (by omega) (by omega) c2
  have hpk : PkAt w a2 len2 (fun i => z2.getD i 0) := pk_of w2
  by_cases hok : ∀ i, i < len2 → 0 ≤ z2.getD i 0 ∧ z2.getD i 0 < (len1 : Int)
  · obtain ⟨L, rfl⟩ := Int.eq_ofNat_of_zero_le (show 0 ≤ a0 by omega)
    have hpn : PkAt w a2 len2 (fun i => (((z2.getD i 0).toNat : Nat) : Int)) := fun i hi => by
      obtain ⟨b, o, h0, h1⟩ := hpk i hi
      have := (hok i hi).1
      exact ⟨b, o, h0, by rw [h1]; show some (Value.int .i64 (z2.getD i 0)) = some (Value.int .i64 (((z2.getD i 0).toNat : Nat) : Int)); rw [Int.toNat_of_nonneg this]⟩
    have hpm : ∀ i, i < len2 → (z2.getD i 0).toNat < len1 := fun i hi => by
      have := hok i hi
      omega
    rcases w1 with ⟨rfl, rfl, rfl, rfl⟩ | ⟨x, rfl, h1, h2, h3, h4, h5⟩
    · have hc0 : len2 = 0 := by
        rcases Nat.eq_zero_or_pos len2 with h | h
        · exact h
        · exact absurd (hpm 0 h) (Nat.not_lt_zero _)
      exact law4_nil w L 0 0 len2 cap2 a2 (fun _ => 0) (fun _ => 0) (by omega) (by omega) (by omega) rfl hc0
    · have hz : ∀ k, k < len1 → (Lit.int .u64 (z1.getD k 0)).wf = true := fun k hk => h5 _ (by
        have hk2 : k < z1.length := by omega
        rw [List.getD, List.getElem?_eq_getElem hk2]; exact List.getElem_mem hk2)
      refine law4_some w L len1 cap1 len2 cap2 x a2 (fun k => (z1.getD k 0).toNat) (fun i => (z2.getD i 0).toNat) (by omega) (by omega) (by omega) (fun k hk => ?_) (fun k hk => (wf_u64 (hz k hk)).2) hpn hpm
      rw [h4 k (by omega), (wf_u64 (hz k hk)).1]
  · exact law4_picks w _ _ _ _ _ _ _ _ (by omega) (by omega) (by omega) (by omega) hpk hok

/-! ### THE ROW's STEP: WRITTEN OUT: LEAVE IT -/
set_option maxRecDepth 100000 in
theorem lifted (os : Os) (started : os.Started) (H : Type) (enc : TypeId × Value → H) :
    ReturnsInHanded {} Try.checked os 4 .any (Rows.fnGrowSpreadsEveryChainInOrderSpec.pre6 enc Try.prog Try.f4 Rows.fnGrowSpreadsEveryChainInOrderRow.domain false) (Rows.fnGrowSpreadsEveryChainInOrderSpec.post enc Try.prog Try.f4 false true false false) := by
  refine returnsInHanded_of_change (C := Try.checked) own started (by kernel_rfl) Try.func4
    (ChangeSpec.witness6 (enc := enc) (C := Try.checked) false ⟨#[], #[.int .i64 0, .slice none 0 0, .slice none 0 0], []⟩ 8 (by kernel_rfl) (by kernel_rfl) (by kernel_rfl) (by kernel_rfl)) ?_
  intro W base args ds gs before hval0 hW hcnd _
  have hval : ∀ (j : Nat) t v, Try.f4.params[j]? = some t → args[j]? = some v → Value.okWide Try.prog W .any base t v := hval0
  have hW' := hW
  obtain ⟨p, q, hA0, hV, rfl, hfz, hnd⟩ := hW
  have hA : DataW.TrodAll enc Try.prog W 0 (fun _ => true) true Try.f4.params.toList args.toList ds p := hA0
  rw [Try.params4] at hA hval
  obtain ⟨v0, vs0, d0, ds0, p0, q0, hargs, rfl, rfl, h0, r0⟩ := trodAll_cons hA
  obtain ⟨v1, vs1, d1, ds1, p1, q1, rfl, rfl, rfl, h1, r1⟩ := trodAll_cons r0
  obtain ⟨v2, vs2, d2, ds2, p2, q2, rfl, rfl, rfl, h2, r2⟩ := trodAll_cons r1
  obtain ⟨rfl, rfl, rfl⟩ := trodAll_nil r2
  obtain rfl : args = #[v0, v1, v2] := by cases args; simp_all
  obtain ⟨rfl, rfl⟩ := trodVars_none hV
  obtain ⟨a0, rfl, rfl, rfl, w0⟩ := open_int Try.underlying3 (hval 0 3 v0 rfl rfl) h0
  obtain ⟨a1, len1, cap1, rfl⟩ := okWide_slice Try.underlying22 (hval 1 22 v1 rfl rfl)
  have k1 := h1
  have lt1 : ∀ x ∈ p1, x.block < W.heap.size := by obtain ⟨m, hm⟩ := k1; exact DataW.trod_lt m _ _ _ hm
  obtain ⟨z1, w1⟩ : ∃ zs, IsRow .u64 W a1 len1 cap1 zs := by
    obtain ⟨fuel, hf⟩ := h1
    rcases open_ints Try.underlying22 Try.underlying29 (by kernel_rfl) hf with ⟨hcs, _⟩ | ⟨x, l, c, zs, hcs, _, hl, hm, hz, _, hcell, hwz⟩
    · simp [Value.cells] at hcs
      obtain ⟨rfl, rfl, rfl⟩ := hcs
      exact ⟨[], .inl ⟨rfl, rfl, rfl, rfl⟩⟩
    · simp [Value.cells] at hcs
      obtain ⟨rfl, rfl, rfl⟩ := hcs
      exact ⟨zs, .inr ⟨_, rfl, hl, hm, by simpa using hz, hcell, hwz⟩⟩
  obtain ⟨a2, len2, cap2, rfl⟩ := okWide_slice Try.underlying23 (hval 2 23 v2 rfl rfl)
  have k2 := h2
  have lt2 : ∀ x ∈ p2, x.block < W.heap.size := by obtain ⟨m, hm⟩ := k2; exact DataW.trod_lt m _ _ _ hm
  obtain ⟨z2, w2⟩ : ∃ zs, IsRow .i64 W a2 len2 cap2 zs := by
    obtain ⟨fuel, hf⟩ := h2
    rcases open_ints Try.underlying23 Try.underlying3 (by kernel_rfl) hf with ⟨hcs, _⟩ | ⟨x, l, c, zs, hcs, _, hl, hm, hz, _, hcell, hwz⟩
    · simp [Value.cells] at hcs
      obtain ⟨rfl, rfl, rfl⟩ := hcs
      exact ⟨[], .inl ⟨rfl, rfl, rfl, rfl⟩⟩
    · simp [Value.cells] at hcs
      obtain ⟨rfl, rfl, rfl⟩ := hcs
      exact ⟨zs, .inr ⟨_, rfl, hl, hm, by simpa using hz, hcell, hwz⟩⟩
  clear hA0 hval0
  refine (walk a0 a1 len1 cap1 z1 a2 len2 cap2 z2 W w0 w1 w2).mono fun e W' ⟨he, bel⟩ => ?_
  subst he
  exact ⟨_, rfl, _, _, _, [], _, [], hW', trodAll_mk1 (shut_bool Try.underlying4 _), (trodAll_cons_mk (shut_int Try.underlying3 w0) (trodAll_cons_mk (Below.trod laidOut (by kernel_rfl) (of_decide_eq_true (by kernel_rfl)) k1 bel lt1) (trodAll_cons_mk (Below.trod laidOut (by kernel_rfl) (of_decide_eq_true (by kernel_rfl)) k2 bel lt2) trodAll_mk0))), rfl, bel.frame _, fun h => by cases h⟩

theorem over : Rows.fnGrowSpreadsEveryChainInOrderRow.holds Try.pinned (OpenSpec.ofChange Rows.fnGrowSpreadsEveryChainInOrderSpec) :=
  OpenClaim.holds_of_wide 4 Try.f4 rfl rfl rfl rfl rfl rfl rfl ⟨rfl, rfl, rfl, rfl, rfl⟩ rfl rfl rfl rfl rfl (by kernel_rfl) Try.func4 (by kernel_rfl)
    (of_decide_eq_true (by kernel_rfl)) (by unfold Func.isWrapper; first | (rw [if_pos (by decide +kernel)]; kernel_rfl) | (rw [if_neg (by decide +kernel)]; exact ⟨rfl, rfl⟩))
    (fun os started H enc _ => lifted os started H enc)

/-- ████ THE STATEMENT ████ -/
theorem proved : Rows.FnGrowSpreadsEveryChainInOrderSaid := over
end Go.Proofs.Qxb6612769a.fnGrowSpreadsEveryChainInOrder
