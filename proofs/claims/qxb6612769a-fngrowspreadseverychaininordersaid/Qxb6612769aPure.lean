import Derived.Test.Qxb6612769aNew
namespace Go.Proofs.Qxb6612769a
open Go.RowKit
set_option linter.unusedVariables false
set_option linter.unusedSimpArgs false

/-- The entries of partition j, oldest first. -/
def Fl (hs : Nat → Nat) (m M j : Nat) : List Nat := (List.range m).filter fun k => hs k % M == j
def dirL (b : Bool) (l : List Nat) : List Nat := if b then l.reverse else l
theorem dirL_mem {b : Bool} {l : List Nat} {k : Nat} : k ∈ dirL b l ↔ k ∈ l := by unfold dirL; split <;> simp
theorem dirL_len (b : Bool) (l : List Nat) : (dirL b l).length = l.length := by unfold dirL; split <;> simp
theorem dirL_nodup {b : Bool} {l : List Nat} (h : l.Nodup) : (dirL b l).Nodup := by
  unfold dirL; split
  · exact List.pairwise_reverse.2 (h.imp Ne.symm)
  · exact h
theorem dirL_filter (b : Bool) (l : List Nat) (p : Nat → Bool) : (dirL b l).filter p = dirL b (l.filter p) := by
  unfold dirL; split
  · rw [List.filter_reverse]
  · rfl
theorem dirL_rev (b : Bool) (l : List Nat) : (dirL b l).reverse = dirL (!b) l := by cases b <;> simp [dirL]
theorem Fl_mem {hs : Nat → Nat} {m M j k : Nat} : k ∈ Fl hs m M j ↔ k < m ∧ hs k % M = j := by simp [Fl]
theorem Fl_nodup (hs : Nat → Nat) (m M j : Nat) : (Fl hs m M j).Nodup := List.Pairwise.filter _ List.nodup_range
theorem Fl_len (hs : Nat → Nat) (m M j : Nat) : (Fl hs m M j).length ≤ m := by
  have := List.length_filter_le (fun k => hs k % M == j) (List.range m)
  simpa [Fl] using this
theorem spread_range (hs : Nat → Nat) (m M j : Nat) : spread hs M (List.range m) j = dirL true (Fl hs m M j) := rfl

theorem flat_one {g : Nat → List Nat} {i0 : Nat} : ∀ {N : Nat}, (∀ i, i < N → i ≠ i0 → g i = []) → flat g N = if i0 < N then g i0 else []
  | 0, _ => by simp [flat]
  | N + 1, h => by
    rw [flat_succ, flat_one (N := N) fun i hi => h i (by omega)]
    by_cases e : N = i0
    · subst e; simp
    · rw [h N (by omega) e, List.append_nil]
      by_cases e2 : i0 < N
      · rw [if_pos e2, if_pos (by omega)]
      · rw [if_neg e2, if_neg (by omega)]
theorem flat_filter (ch : Nat → List Nat) (p : Nat → Bool) : ∀ N, (flat ch N).filter p = flat (fun i => (ch i).filter p) N
  | 0 => rfl
  | N + 1 => by rw [flat_succ, flat_succ, List.filter_append, flat_filter ch p N]

/-- One grow turns every chain round. -/
theorem grow_turns {hs : Nat → Nat} {m M j : Nat} (b : Bool) (hM : 0 < M) (hj : j < 2 * M) : spread hs (2 * M) (flat (fun i => dirL b (Fl hs m M i)) M) j = dirL (!b) (Fl hs m (2 * M) j) := by
  have hmod : ∀ x, x % (2 * M) = j → x % M = j % M := fun x hx => by
    rw [← hx]; rw [Nat.mul_comm 2 M, Nat.mod_mul_right_mod]
  have hF : (flat (fun i => dirL b (Fl hs m M i)) M).filter (fun k => hs k % (2 * M) == j) = dirL b (Fl hs m (2 * M) j) := by
    rw [flat_filter, flat_one (i0 := j % M)]
    · rw [if_pos (Nat.mod_lt _ hM), dirL_filter]
      congr 1
      unfold Fl
      rw [List.filter_filter]
      refine List.filter_congr fun k _ => ?_
      by_cases e : hs k % (2 * M) = j
      · simp [e, hmod _ e]
      · simp [e]
    · intro i hi hne
      rw [List.filter_eq_nil_iff]
      intro k hk
      have h1 := (Fl_mem.1 (dirL_mem.1 hk)).2
      intro e
      have e' : hs k % (2 * M) = j := by simpa using e
      exact hne (by rw [← h1]; exact hmod _ e')
  unfold spread
  rw [hF, dirL_rev]

theorem flat_cnt (hs : Nat → Nat) (m M : Nat) (b : Bool) : ∀ N, (flat (fun i => dirL b (Fl hs m M i)) N).length = ((List.range m).filter fun k => decide (hs k % M < N)).length
  | 0 => by
    have : ((List.range m).filter fun k => decide (hs k % M < 0)) = [] := List.filter_eq_nil_iff.2 (by simp)
    rw [this]; rfl
  | N + 1 => by
    rw [flat_succ, List.length_append, flat_cnt hs m M b N, dirL_len]
    unfold Fl
    generalize List.range m = l
    induction l with
    | nil => rfl
    | cons x l ih =>
      simp only [List.filter_cons]
      by_cases h1 : hs x % M < N
      · simp [h1, show hs x % M < N + 1 by omega, show ¬ hs x % M = N by omega]; omega
      · by_cases h2 : hs x % M = N
        · simp [h1, h2]; omega
        · simp [h1, h2, show ¬ hs x % M < N + 1 by omega]; omega
theorem pf_dir (hs : Nat → Nat) (m M : Nat) (b : Bool) (hm : m ≤ 1000000) (oh : Nat → Option Nat) (ho : ∀ j, j < M → ∀ k, oh j = some k → k < m ∧ hs k % M = j) : PF M m hs (fun i => dirL b (Fl hs m M i)) oh := by
  refine ⟨fun j hj k hk => Fl_mem.1 (dirL_mem.1 hk), fun j hj => dirL_nodup (Fl_nodup _ _ _ _), fun j hj k hk => dirL_mem.2 (Fl_mem.2 (ho j hj k hk)), ?_⟩
  rw [flat_cnt]
  have := List.length_filter_le (fun k => decide (hs k % M < M)) (List.range m)
  simp at this ⊢
  omega
theorem flat_all {hs : Nat → Nat} {m M : Nat} {b : Bool} (hM : 0 < M) {k : Nat} (hk : k < m) : k ∈ flat (fun i => dirL b (Fl hs m M i)) M := by
  simp only [flat, List.mem_flatMap, List.mem_range]
  exact ⟨hs k % M, Nat.mod_lt _ hM, dirL_mem.2 (Fl_mem.2 ⟨hk, rfl⟩)⟩
theorem hotF_cold (hs : Nat → Nat) (M : Nat) : ∀ i, hotF hs M (fun _ => none) i = fun _ => none
  | 0 => rfl
  | i + 1 => by rw [hotF_none rfl, hotF_cold hs M i]

/-- A table whose chains all stand oldest first (b = false) or newest first (b = true). -/
structure TD (w : World) (T n m : Nat) (b : Bool) (hs blk : Nat → Nat) (oh : Nat → Option Nat) (Pb Hb : Nat) (pt : Nat → Nat) (nx fst : Nat → Value) (cnt : Nat → Nat) : Prop where
  ts : TS w T Pb Hb n m blk hs pt nx fst cnt (hVs blk oh)
  chains : ∀ j, j < n → Ch blk nx (fst j) (dirL b (Fl hs m n j)) ∧ cnt j = (Fl hs m n j).length
  pts : ∀ k, k < m → pt k = hs k % n

theorem NW.td {w w' : World} {T Pb Hb n m G : Nat} {hs blk pt : Nat → Nat} {nx fst : Nat → Value} {cnt : Nat → Nat} (h : NW w w' T Pb Hb n m G m m hs blk pt nx fst cnt) : TD w' T n m true hs blk (fun _ => none) Pb Hb pt nx fst cnt :=
  ⟨h.ts, fun j hj => by
    have := h.chains j hj
    rw [spread_range, dirL_len] at this
    exact this, h.pts⟩

theorem TD.grow {w : World} {T Pb Hb n m L : Nat} {b : Bool} {hs blk pt : Nat → Nat} {oh : Nat → Option Nat} {nx fst : Nat → Value} {cnt : Nat → Nat} (h : TD w T n m b hs blk oh Pb Hb pt nx fst cnt) (hn : n = 2 ^ L) (hL : L ≤ 15) (hm : m ≤ 1000000) (hh : ∀ k, k < m → hs k < 18446744073709551616)
    (ho : ∀ j, j < n → ∀ k, oh j = some k → k < m ∧ hs k % n = j) :
    Calls Try.prog 27 #[P T] w fun e w' => e = .returned (.tuple #[]) ∧ ∃ Pb' Hb' pt' nx' fst' cnt', TD w' T (2 * n) m (!b) hs blk (hotF hs (2 * n) oh n) Pb' Hb' pt' nx' fst' cnt' ∧ Kp (fun b => b = T ∨ ∃ k, k < m ∧ b = blk k) w w' := by
  have hn0 : 0 < n := by rw [hn]; exact Nat.pow_pos (by decide)
  refine (grow_any (ch := fun i => dirL b (Fl hs m n i)) L h.ts (fun j hj => (h.chains j hj).1) (pf_dir hs m n b hm oh ho) hn hL hh).mono ?_
  rintro e w' ⟨rfl, Pb', Hb', pt', nx', fst', cnt', ht, hc, hp, hk⟩
  refine ⟨rfl, _, _, _, _, _, _, ⟨ht, fun j hj => ?_, fun k hk => hp k (flat_all hn0 hk)⟩, hk⟩
  have := hc j hj
  rw [grow_turns b hn0 hj, dirL_len] at this
  exact this
end Go.Proofs.Qxb6612769a
