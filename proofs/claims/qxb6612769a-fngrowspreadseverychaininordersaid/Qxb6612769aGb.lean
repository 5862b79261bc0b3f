import Derived.Test.Qxb6612769aChain
namespace Go.Proofs.Qxb6612769a
open Go.RowKit
set_option linter.unusedVariables false
set_option linter.unusedSimpArgs false

theorem Kp.next {F G : Nat → Prop} {a b c : World} (h : Kp F a b) (k : Kp G b c) (hg : ∀ i, G i → F i ∨ a.heap.size ≤ i) : Kp F a c :=
  ⟨k.os.trans h.os, k.tape.trans h.tape, k.output.trans h.output, Nat.le_trans h.size k.size, fun i hi hf => (k.block i (Nat.lt_of_lt_of_le hi h.size) (fun g => by rcases hg i g with h1 | h1; exact hf h1; omega)).trans (h.block i hi hf)⟩

/-! ### What grow does, on lists -/
def spread (hs : Nat → Nat) (M : Nat) (done : List Nat) (j : Nat) : List Nat := (done.filter fun k => hs k % M == j).reverse
theorem spread_nil (hs : Nat → Nat) (M j : Nat) : spread hs M [] j = [] := rfl
theorem spread_here (hs : Nat → Nat) (M : Nat) (done : List Nat) (k : Nat) : spread hs M (done ++ [k]) (hs k % M) = k :: spread hs M done (hs k % M) := by
  simp [spread, List.filter_append]
theorem spread_other (hs : Nat → Nat) (M : Nat) (done : List Nat) {k j : Nat} (h : j ≠ hs k % M) : spread hs M (done ++ [k]) j = spread hs M done j := by
  have : (hs k % M == j) = false := by simpa using fun e => h e.symm
  simp [spread, List.filter_append, this]
theorem spread_mem {hs : Nat → Nat} {M j k : Nat} {done : List Nat} (h : k ∈ spread hs M done j) : k ∈ done ∧ hs k % M = j := by
  simp [spread] at h; exact h
theorem spread_le (hs : Nat → Nat) (M : Nat) (done : List Nat) (j : Nat) : (spread hs M done j).length ≤ done.length := by
  simp only [spread, List.length_reverse]; exact List.length_filter_le _ _

def flat (ch : Nat → List Nat) (i : Nat) : List Nat := (List.range i).flatMap ch
theorem flat_zero (ch : Nat → List Nat) : flat ch 0 = [] := rfl
theorem flat_succ (ch : Nat → List Nat) (i : Nat) : flat ch (i + 1) = flat ch i ++ ch i := by simp [flat, List.range_succ]

def hV (blk : Nat → Nat) : Option Nat → Value
  | none => N
  | some k => P (blk k)
def hotF (hs : Nat → Nat) (M : Nat) (oh : Nat → Option Nat) : Nat → Nat → Option Nat
  | 0 => fun _ => none
  | i + 1 => match oh i with
    | none => hotF hs M oh i
    | some k => up (hotF hs M oh i) (hs k % M) (some k)
theorem hotF_none {hs : Nat → Nat} {M i : Nat} {oh : Nat → Option Nat} (h : oh i = none) : hotF hs M oh (i + 1) = hotF hs M oh i := by simp [hotF, h]
theorem hotF_some {hs : Nat → Nat} {M i k : Nat} {oh : Nat → Option Nat} (h : oh i = some k) : hotF hs M oh (i + 1) = up (hotF hs M oh i) (hs k % M) (some k) := by simp [hotF, h]
def hVs (blk : Nat → Nat) (f : Nat → Option Nat) : Nat → Value := fun j => hV blk (f j)
theorem hVs_up (blk : Nat → Nat) (f : Nat → Option Nat) (q k : Nat) : hVs blk (up f q (some k)) = up (hVs blk f) q (P (blk k)) := by
  funext j
  unfold hVs up
  by_cases h : j = q <;> simp [h, hV]

/-- The chains are those of a table of n partitions. -/
structure PF (n m : Nat) (hs : Nat → Nat) (ch : Nat → List Nat) (oh : Nat → Option Nat) : Prop where
  mem : ∀ j, j < n → ∀ k ∈ ch j, k < m ∧ hs k % n = j
  nodup : ∀ j, j < n → (ch j).Nodup
  hot : ∀ j, j < n → ∀ k, oh j = some k → k ∈ ch j
  few : (flat ch n).length ≤ 1000000

theorem flat_mem {n m : Nat} {hs : Nat → Nat} {ch : Nat → List Nat} {oh : Nat → Option Nat} (h : PF n m hs ch oh) {i k : Nat} (hi : i ≤ n) (hk : k ∈ flat ch i) : k < m ∧ hs k % n < i := by
  simp [flat] at hk
  obtain ⟨j, hj, hk⟩ := hk
  obtain ⟨h1, h2⟩ := h.mem j (by omega) k hk
  exact ⟨h1, by omega⟩
theorem flat_len_le (ch : Nat → List Nat) {i n : Nat} (h : i ≤ n) : (flat ch i).length ≤ (flat ch n).length := by
  induction h with
  | refl => exact Nat.le_refl _
  | step _ ih => rw [flat_succ, List.length_append]; omega

/-- Where grow stands: the entries of 'done' are in the new table; the old chains from i0 on lie as they lay. -/
structure GB (w wr : World) (T Pb Hb n m : Nat) (blk hs : Nat → Nat) (fst : Nat → Value) (cnt : Nat → Nat) (ch : Nat → List Nat) (oh : Nat → Option Nat) (Pb' Hb' : Nat) (pt' : Nat → Nat) (nx' fst' : Nat → Value) (cnt' : Nat → Nat) (i0 ih : Nat) (done : List Nat) : Prop where
  ts : TS wr T Pb' Hb' (2 * n) m blk hs pt' nx' fst' cnt' (hVs blk (hotF hs (2 * n) oh ih))
  oldp : Parts wr Pb n fst cnt
  oldh : Hots wr Hb n (hVs blk oh)
  new : ∀ j, j < 2 * n → Ch blk nx' (fst' j) (spread hs (2 * n) done j) ∧ cnt' j = (spread hs (2 * n) done j).length
  old : ∀ i, i0 ≤ i → i < n → Ch blk nx' (fst i) (ch i)
  pts : ∀ k ∈ done, pt' k = hs k % (2 * n)
  np : Pb ≠ Pb'
  nh : Hb ≠ Hb'
  kp : Kp (fun b => b = T ∨ ∃ k, k < m ∧ b = blk k) w wr
  fresh : w.heap.size ≤ Pb' ∧ w.heap.size ≤ Hb'

section
variable {w wr : World} {T Pb Hb n m : Nat} {blk hs : Nat → Nat} {fst : Nat → Value} {cnt : Nat → Nat} {ch : Nat → List Nat} {oh : Nat → Option Nat} {Pb' Hb' : Nat} {pt' : Nat → Nat} {nx' fst' : Nat → Value} {cnt' : Nat → Nat} {i0 ih : Nat} {done : List Nat}

/-- The entry's partition is set. -/
theorem GB.part (h : GB w wr T Pb Hb n m blk hs fst cnt ch oh Pb' Hb' pt' nx' fst' cnt' i0 ih done) {k : Nat} (hk : k < m) (hd : k ∉ done) : GB w (wr.setCell ⟨blk k, 9, none⟩ (.int .i64 ((hs k % (2 * n) : Nat) : Int))) T Pb Hb n m blk hs fst cnt ch oh Pb' Hb' (up pt' k (hs k % (2 * n))) nx' fst' cnt' i0 ih done := by
  have e := h.ts.ents k hk
  refine ⟨h.ts.setPart hk _, h.oldp.other (e.ne_parts h.oldp).symm _ _, h.oldh.other (e.ne_hots h.oldh).symm _ _, h.new, h.old, fun i hi => ?_, h.np, h.nh, h.kp.setCell (.inl (.inr ⟨k, hk, rfl⟩)) _ _, h.fresh⟩
  rw [up_other _ _ (fun e => hd (by rw [← e]; exact hi))]
  exact h.pts i hi

/-- The entry is linked. -/
theorem GB.link (h : GB w wr T Pb Hb n m blk hs fst cnt ch oh Pb' Hb' pt' nx' fst' cnt' i0 ih done) {k : Nat} (hk : k < m) (hq : pt' k = hs k % (2 * n)) (hn : 0 < n) (hd : k ∉ done) (hold : ∀ i, i0 ≤ i → i < n → k ∉ ch i) {w2 : World}
    (ht : TS w2 T Pb' Hb' (2 * n) m blk hs pt' (up nx' k (fst' (pt' k))) (up fst' (pt' k) (P (blk k))) (up cnt' (pt' k) (cnt' (pt' k) + 1)) (hVs blk (hotF hs (2 * n) oh ih))) (hkp : Kp (fun b => b = Pb' ∨ b = blk k) wr w2) :
    GB w w2 T Pb Hb n m blk hs fst cnt ch oh Pb' Hb' pt' (up nx' k (fst' (pt' k))) (up fst' (pt' k) (P (blk k))) (up cnt' (pt' k) (cnt' (pt' k) + 1)) i0 ih (done ++ [k]) := by
  have e := h.ts.ents k hk
  have hql : hs k % (2 * n) < 2 * n := Nat.mod_lt _ (by omega)
  refine ⟨ht, h.oldp.keep (hkp.block _ h.oldp.lt ?_), h.oldh.keep (hkp.block _ h.oldh.lt ?_), fun j hj => ?_, fun i h1 h2 => (h.old i h1 h2).up (hold i h1 h2), fun i hi => ?_, h.np, h.nh, h.kp.next hkp ?_, h.fresh⟩
  · rintro (e1 | e1)
    · exact h.np e1
    · exact e.ne_parts h.oldp e1.symm
  · rintro (e1 | e1)
    · exact (h.oldh.ne_parts h.ts.parts) e1
    · exact e.ne_hots h.oldh e1.symm
  · have hns : k ∉ spread hs (2 * n) done j := fun hm => hd (spread_mem hm).1
    by_cases hj2 : j = hs k % (2 * n)
    · subst hj2
      rw [spread_here, hq, up_same, up_same]
      refine ⟨⟨rfl, ?_⟩, ?_⟩
      · rw [up_same]; exact (h.new _ hj).1.up hns
      · rw [(h.new _ hj).2]; simp
    · rw [spread_other _ _ _ hj2, hq, up_other _ _ hj2, up_other _ _ hj2]
      exact ⟨(h.new j hj).1.up hns, (h.new j hj).2⟩
  · rcases List.mem_append.1 hi with hi | hi
    · exact h.pts i hi
    · simp at hi; subst hi; exact hq
  · rintro i (rfl | rfl)
    · exact .inr h.fresh.1
    · exact .inl (.inr ⟨k, hk, rfl⟩)

/-- The hot entry of partition i is put into its new slot. -/
theorem GB.hot (h : GB w wr T Pb Hb n m blk hs fst cnt ch oh Pb' Hb' pt' nx' fst' cnt' i0 ih done) {k : Nat} (hk : k < m) (hq : pt' k = hs k % (2 * n)) (hn : 0 < n) (ho : oh ih = some k) :
    GB w (wr.setCell ⟨Hb', hs k % (2 * n), none⟩ (P (blk k))) T Pb Hb n m blk hs fst cnt ch oh Pb' Hb' pt' nx' fst' cnt' i0 (ih + 1) done := by
  have hql : hs k % (2 * n) < 2 * n := Nat.mod_lt _ (by omega)
  refine ⟨?_, h.oldp.other (fun e => h.ts.hots.ne_parts h.oldp e.symm) _ _, h.oldh.other h.nh _ _, h.new, h.old, h.pts, h.np, h.nh, h.kp.setCell (.inr h.fresh.2) _ _, h.fresh⟩
  rw [hotF_some ho, hVs_up]
  exact h.ts.setHot hql _
theorem GB.cold (h : GB w wr T Pb Hb n m blk hs fst cnt ch oh Pb' Hb' pt' nx' fst' cnt' i0 ih done) (ho : oh ih = none) : GB w wr T Pb Hb n m blk hs fst cnt ch oh Pb' Hb' pt' nx' fst' cnt' i0 (ih + 1) done := by
  refine ⟨?_, h.oldp, h.oldh, h.new, h.old, h.pts, h.np, h.nh, h.kp, h.fresh⟩
  rw [hotF_none ho]; exact h.ts
theorem GB.later (h : GB w wr T Pb Hb n m blk hs fst cnt ch oh Pb' Hb' pt' nx' fst' cnt' i0 ih done) {i1 : Nat} (hi : i0 ≤ i1) : GB w wr T Pb Hb n m blk hs fst cnt ch oh Pb' Hb' pt' nx' fst' cnt' i1 ih done :=
  ⟨h.ts, h.oldp, h.oldh, h.new, fun i h1 h2 => h.old i (by omega) h2, h.pts, h.np, h.nh, h.kp, h.fresh⟩
theorem GB.below {w2 : World} (h : GB w wr T Pb Hb n m blk hs fst cnt ch oh Pb' Hb' pt' nx' fst' cnt' i0 ih done) (hb : Below wr.heap.size wr w2) : GB w w2 T Pb Hb n m blk hs fst cnt ch oh Pb' Hb' pt' nx' fst' cnt' i0 ih done :=
  ⟨h.ts.keep0 hb, h.oldp.keep (hb.block _ h.oldp.lt), h.oldh.keep (hb.block _ h.oldh.lt), h.new, h.old, h.pts, h.np, h.nh, h.kp.trans (Kp.of_below hb), h.fresh⟩

/-- The beginning: two new rows are made, the table is turned to them. -/
theorem GB.start {pt : Nat → Nat} {nx : Nat → Value} (h : TS w T Pb Hb n m blk hs pt nx fst cnt (hVs blk oh)) (hch : ∀ j, j < n → Ch blk nx (fst j) (ch j)) {c1 : Array Value}
    (h1 : TabAt wr T w.heap.size (w.heap.size + 1) (2 * n)) (h2 : Parts wr w.heap.size (2 * n) (fun _ => N) (fun _ => 0)) (h3 : Hots wr (w.heap.size + 1) (2 * n) (fun _ => N)) (hkp : Kp (fun b => b = T) w wr) :
    GB w wr T Pb Hb n m blk hs fst cnt ch oh w.heap.size (w.heap.size + 1) pt nx (fun _ => N) (fun _ => 0) 0 0 [] := by
  have hP := h.parts.lt
  have hH := h.hots.lt
  refine ⟨⟨h1, h2, h3, fun k hk => (h.ents k hk).keep (hkp.block _ (h.ents k hk).lt ((h.ents k hk).ne_tab h.tab)), h.inj⟩, h.parts.keep (hkp.block _ hP (h.tab.ne_parts h.parts).symm), h.hots.keep (hkp.block _ hH (h.tab.ne_hots h.hots).symm), fun j hj => ⟨rfl, rfl⟩, fun i _ hi => hch i hi, fun k hk => by simp at hk, by omega, by omega, hkp.mono fun k _ e => .inl e, ⟨Nat.le_refl _, by omega⟩⟩
end
end Go.Proofs.Qxb6612769a
