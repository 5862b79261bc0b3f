import Derived.Test.Qxb6612769aMem
namespace Go.Proofs.Qxb6612769a
open Go.RowKit
set_option linter.unusedVariables false
set_option linter.unusedSimpArgs false
attribute [local go_sem ↓] Go.wp_at_zero Go.wp_at_succ

def up {α : Type} (f : Nat → α) (i : Nat) (v : α) : Nat → α := fun j => if j = i then v else f j
theorem up_same {α : Type} (f : Nat → α) (i : Nat) (v : α) : up f i v i = v := by simp [up]
theorem up_other {α : Type} (f : Nat → α) {i j : Nat} (v : α) (h : j ≠ i) : up f i v j = f j := by simp [up, h]

/-- An entry: its hash, its partition, the next of its chain. -/
def Ent (w : World) (b h pt : Nat) (nx : Value) : Prop := ∃ c, w.heap[b]? = some (.cells c 99 (0, 0)) ∧ c.size = 22 ∧ c[8]? = some (.int .u64 (h : Nat)) ∧ c[9]? = some (.int .i64 (pt : Nat)) ∧ c[10]? = some nx
/-- The partitions: their first entries, their counts. -/
def Parts (w : World) (Pb n : Nat) (fst : Nat → Value) (cnt : Nat → Nat) : Prop := ∃ c, w.heap[Pb]? = some (.cells c 106 (0, 0)) ∧ c.size = n * 44 ∧ ∀ i, i < n → c[i * 44 + 2]? = some (fst i) ∧ c[i * 44 + 3]? = some (.int .i64 (cnt i : Nat))
/-- The hot slots. -/
def Hots (w : World) (Hb n : Nat) (hot : Nat → Value) : Prop := ∃ c, w.heap[Hb]? = some (.cells c 72 (0, 0)) ∧ c.size = n ∧ ∀ i, i < n → c[i]? = some (hot i)
/-- The table's own block. -/
def TabAt (w : World) (T Pb Hb n : Nat) : Prop := ∃ c, w.heap[T]? = some (.cells c 86 (0, 0)) ∧ c.size = 8 ∧ c[1]? = some (.slice (some ⟨Pb, 0, none⟩) n n) ∧ c[7]? = some (.slice (some ⟨Hb, 0, none⟩) n n)

section
variable {w : World} {b h pt : Nat} {nx : Value}
theorem Ent.c8 (e : Ent w b h pt nx) : w.cell? ⟨b, 8, none⟩ = some (.int .u64 (h : Nat)) := by obtain ⟨c, h0, h1, h2, h3, h4⟩ := e; rw [cell_of_block h0, h2]
theorem Ent.c9 (e : Ent w b h pt nx) : w.cell? ⟨b, 9, none⟩ = some (.int .i64 (pt : Nat)) := by obtain ⟨c, h0, h1, h2, h3, h4⟩ := e; rw [cell_of_block h0, h3]
theorem Ent.c10 (e : Ent w b h pt nx) : w.cell? ⟨b, 10, none⟩ = some nx := by obtain ⟨c, h0, h1, h2, h3, h4⟩ := e; rw [cell_of_block h0, h4]
theorem Ent.fz (e : Ent w b h pt nx) (o : Nat) : w.frozen? ⟨b, o, none⟩ = false := by obtain ⟨c, h0, _⟩ := e; exact frozen_of_block h0 o
theorem Ent.plain (e : Ent w b h pt nx) : Plain w b := by obtain ⟨c, h0, _⟩ := e; exact ⟨c, _, h0⟩
theorem Ent.lt (e : Ent w b h pt nx) : b < w.heap.size := by obtain ⟨c, h0, _⟩ := e; exact lt_of_block h0
theorem Ent.next (e : Ent w b h pt nx) (v : Value) : Ent (w.setCell ⟨b, 10, none⟩ v) b h pt v := by
  obtain ⟨c, h0, h1, h2, h3, h4⟩ := e
  refine ⟨c.setIfInBounds 10 v, set_same h0 _ _, by simp [h1], ?_, ?_, ?_⟩
  · rw [Array.getElem?_setIfInBounds_ne (by omega)]; exact h2
  · rw [Array.getElem?_setIfInBounds_ne (by omega)]; exact h3
  · rw [Array.getElem?_setIfInBounds_self_of_lt (by omega)]
theorem Ent.part (e : Ent w b h pt nx) (q : Nat) : Ent (w.setCell ⟨b, 9, none⟩ (.int .i64 (q : Nat))) b h q nx := by
  obtain ⟨c, h0, h1, h2, h3, h4⟩ := e
  refine ⟨c.setIfInBounds 9 _, set_same h0 _ _, by simp [h1], ?_, ?_, ?_⟩
  · rw [Array.getElem?_setIfInBounds_ne (by omega)]; exact h2
  · rw [Array.getElem?_setIfInBounds_self_of_lt (by omega)]
  · rw [Array.getElem?_setIfInBounds_ne (by omega)]; exact h4
theorem Ent.other (e : Ent w b h pt nx) {k : Nat} (hk : b ≠ k) (o : Nat) (v : Value) : Ent (w.setCell ⟨k, o, none⟩ v) b h pt nx := by
  obtain ⟨c, h0, hr⟩ := e
  exact ⟨c, set_other h0 hk o v, hr⟩
theorem Ent.keep {w' : World} (e : Ent w b h pt nx) (hb : w'.heap[b]? = w.heap[b]?) : Ent w' b h pt nx := by
  obtain ⟨c, h0, hr⟩ := e
  exact ⟨c, by rw [hb]; exact h0, hr⟩
theorem Ent.ne_parts (e : Ent w b h pt nx) {Pb n : Nat} {fst : Nat → Value} {cnt : Nat → Nat} (p : Parts w Pb n fst cnt) : b ≠ Pb := by
  rintro rfl
  obtain ⟨c, h0, _⟩ := e
  obtain ⟨c', h1, _⟩ := p
  rw [h0] at h1; injection h1 with h1; injection h1 with _ h1 _; cases h1
theorem Ent.ne_hots (e : Ent w b h pt nx) {Hb n : Nat} {hot : Nat → Value} (p : Hots w Hb n hot) : b ≠ Hb := by
  rintro rfl
  obtain ⟨c, h0, _⟩ := e
  obtain ⟨c', h1, _⟩ := p
  rw [h0] at h1; injection h1 with h1; injection h1 with _ h1 _; cases h1
theorem Ent.ne_tab (e : Ent w b h pt nx) {T Pb Hb n : Nat} (p : TabAt w T Pb Hb n) : b ≠ T := by
  rintro rfl
  obtain ⟨c, h0, _⟩ := e
  obtain ⟨c', h1, _⟩ := p
  rw [h0] at h1; injection h1 with h1; injection h1 with _ h1 _; cases h1
end
section
variable {w : World} {Pb n : Nat} {fst : Nat → Value} {cnt : Nat → Nat}
theorem Parts.c2 (p : Parts w Pb n fst cnt) {i : Nat} (hi : i < n) : w.cell? ⟨Pb, i * 44 + 2, none⟩ = some (fst i) := by obtain ⟨c, h0, h1, h2⟩ := p; rw [cell_of_block h0, (h2 i hi).1]
theorem Parts.c3 (p : Parts w Pb n fst cnt) {i : Nat} (hi : i < n) : w.cell? ⟨Pb, i * 44 + 3, none⟩ = some (.int .i64 (cnt i : Nat)) := by obtain ⟨c, h0, h1, h2⟩ := p; rw [cell_of_block h0, (h2 i hi).2]
theorem Parts.fz (p : Parts w Pb n fst cnt) (o : Nat) : w.frozen? ⟨Pb, o, none⟩ = false := by obtain ⟨c, h0, _⟩ := p; exact frozen_of_block h0 o
theorem Parts.lt (p : Parts w Pb n fst cnt) : Pb < w.heap.size := by obtain ⟨c, h0, _⟩ := p; exact lt_of_block h0
theorem Parts.first (p : Parts w Pb n fst cnt) {i : Nat} (hi : i < n) (v : Value) : Parts (w.setCell ⟨Pb, i * 44 + 2, none⟩ v) Pb n (up fst i v) cnt := by
  obtain ⟨c, h0, h1, h2⟩ := p
  refine ⟨c.setIfInBounds (i * 44 + 2) v, set_same h0 _ _, by simp [h1], fun j hj => ⟨?_, ?_⟩⟩
  · by_cases e : j = i
    · subst e; rw [Array.getElem?_setIfInBounds_self_of_lt (by omega), up_same]
    · rw [Array.getElem?_setIfInBounds_ne (by omega), up_other _ _ e]; exact (h2 j hj).1
  · rw [Array.getElem?_setIfInBounds_ne (by omega)]; exact (h2 j hj).2
theorem Parts.count (p : Parts w Pb n fst cnt) {i : Nat} (hi : i < n) (v : Nat) : Parts (w.setCell ⟨Pb, i * 44 + 3, none⟩ (.int .i64 (v : Nat))) Pb n fst (up cnt i v) := by
  obtain ⟨c, h0, h1, h2⟩ := p
  refine ⟨c.setIfInBounds (i * 44 + 3) _, set_same h0 _ _, by simp [h1], fun j hj => ⟨?_, ?_⟩⟩
  · rw [Array.getElem?_setIfInBounds_ne (by omega)]; exact (h2 j hj).1
  · by_cases e : j = i
    · subst e; rw [Array.getElem?_setIfInBounds_self_of_lt (by omega), up_same]
    · rw [Array.getElem?_setIfInBounds_ne (by omega), up_other _ _ e]; exact (h2 j hj).2
theorem Parts.other (p : Parts w Pb n fst cnt) {k : Nat} (hk : Pb ≠ k) (o : Nat) (v : Value) : Parts (w.setCell ⟨k, o, none⟩ v) Pb n fst cnt := by
  obtain ⟨c, h0, hr⟩ := p
  exact ⟨c, set_other h0 hk o v, hr⟩
theorem Parts.keep {w' : World} (p : Parts w Pb n fst cnt) (hb : w'.heap[Pb]? = w.heap[Pb]?) : Parts w' Pb n fst cnt := by
  obtain ⟨c, h0, hr⟩ := p
  exact ⟨c, by rw [hb]; exact h0, hr⟩
end
section
variable {w : World} {Hb n : Nat} {hot : Nat → Value}
theorem Hots.c (p : Hots w Hb n hot) {i : Nat} (hi : i < n) : w.cell? ⟨Hb, i, none⟩ = some (hot i) := by obtain ⟨c, h0, h1, h2⟩ := p; rw [cell_of_block h0, h2 i hi]
theorem Hots.fz (p : Hots w Hb n hot) (o : Nat) : w.frozen? ⟨Hb, o, none⟩ = false := by obtain ⟨c, h0, _⟩ := p; exact frozen_of_block h0 o
theorem Hots.lt (p : Hots w Hb n hot) : Hb < w.heap.size := by obtain ⟨c, h0, _⟩ := p; exact lt_of_block h0
theorem Hots.set (p : Hots w Hb n hot) {i : Nat} (hi : i < n) (v : Value) : Hots (w.setCell ⟨Hb, i, none⟩ v) Hb n (up hot i v) := by
  obtain ⟨c, h0, h1, h2⟩ := p
  refine ⟨c.setIfInBounds i v, set_same h0 _ _, by simp [h1], fun j hj => ?_⟩
  by_cases e : j = i
  · subst e; rw [Array.getElem?_setIfInBounds_self_of_lt (by omega), up_same]
  · rw [Array.getElem?_setIfInBounds_ne (by omega), up_other _ _ e]; exact h2 j hj
theorem Hots.other (p : Hots w Hb n hot) {k : Nat} (hk : Hb ≠ k) (o : Nat) (v : Value) : Hots (w.setCell ⟨k, o, none⟩ v) Hb n hot := by
  obtain ⟨c, h0, hr⟩ := p
  exact ⟨c, set_other h0 hk o v, hr⟩
theorem Hots.keep {w' : World} (p : Hots w Hb n hot) (hb : w'.heap[Hb]? = w.heap[Hb]?) : Hots w' Hb n hot := by
  obtain ⟨c, h0, hr⟩ := p
  exact ⟨c, by rw [hb]; exact h0, hr⟩
theorem Hots.ne_parts (p : Hots w Hb n hot) {Pb m : Nat} {fst : Nat → Value} {cnt : Nat → Nat} (q : Parts w Pb m fst cnt) : Hb ≠ Pb := by
  rintro rfl
  obtain ⟨c, h0, _⟩ := p
  obtain ⟨c', h1, _⟩ := q
  rw [h0] at h1; injection h1 with h1; injection h1 with _ h1 _; cases h1
end
section
variable {w : World} {T Pb Hb n : Nat}
theorem TabAt.c1 (p : TabAt w T Pb Hb n) : w.cell? ⟨T, 1, none⟩ = some (.slice (some ⟨Pb, 0, none⟩) n n) := by obtain ⟨c, h0, h1, h2, h3⟩ := p; rw [cell_of_block h0, h2]
theorem TabAt.c7 (p : TabAt w T Pb Hb n) : w.cell? ⟨T, 7, none⟩ = some (.slice (some ⟨Hb, 0, none⟩) n n) := by obtain ⟨c, h0, h1, h2, h3⟩ := p; rw [cell_of_block h0, h3]
theorem TabAt.fz (p : TabAt w T Pb Hb n) (o : Nat) : w.frozen? ⟨T, o, none⟩ = false := by obtain ⟨c, h0, _⟩ := p; exact frozen_of_block h0 o
theorem TabAt.lt (p : TabAt w T Pb Hb n) : T < w.heap.size := by obtain ⟨c, h0, _⟩ := p; exact lt_of_block h0
theorem TabAt.plain (p : TabAt w T Pb Hb n) : Plain w T := by obtain ⟨c, h0, _⟩ := p; exact ⟨c, _, h0⟩
theorem TabAt.other (p : TabAt w T Pb Hb n) {k : Nat} (hk : T ≠ k) (o : Nat) (v : Value) : TabAt (w.setCell ⟨k, o, none⟩ v) T Pb Hb n := by
  obtain ⟨c, h0, hr⟩ := p
  exact ⟨c, set_other h0 hk o v, hr⟩
theorem TabAt.keep {w' : World} (p : TabAt w T Pb Hb n) (hb : w'.heap[T]? = w.heap[T]?) : TabAt w' T Pb Hb n := by
  obtain ⟨c, h0, hr⟩ := p
  exact ⟨c, by rw [hb]; exact h0, hr⟩
theorem TabAt.ne_parts (p : TabAt w T Pb Hb n) {Q m : Nat} {fst : Nat → Value} {cnt : Nat → Nat} (q : Parts w Q m fst cnt) : T ≠ Q := by
  rintro rfl
  obtain ⟨c, h0, _⟩ := p
  obtain ⟨c', h1, _⟩ := q
  rw [h0] at h1; injection h1 with h1; injection h1 with _ h1 _; cases h1
theorem TabAt.ne_hots (p : TabAt w T Pb Hb n) {Q m : Nat} {hot : Nat → Value} (q : Hots w Q m hot) : T ≠ Q := by
  rintro rfl
  obtain ⟨c, h0, _⟩ := p
  obtain ⟨c', h1, _⟩ := q
  rw [h0] at h1; injection h1 with h1; injection h1 with _ h1 _; cases h1
end

/-- A table of n partitions over the entries 0 .. m-1. -/
structure TS (w : World) (T Pb Hb n m : Nat) (blk hs pt : Nat → Nat) (nx fst : Nat → Value) (cnt : Nat → Nat) (hot : Nat → Value) : Prop where
  tab : TabAt w T Pb Hb n
  parts : Parts w Pb n fst cnt
  hots : Hots w Hb n hot
  ents : ∀ k, k < m → Ent w (blk k) (hs k) (pt k) (nx k)
  inj : ∀ k l, k < m → l < m → blk k = blk l → k = l

section
variable {w : World} {T Pb Hb n m : Nat} {blk hs pt : Nat → Nat} {nx fst : Nat → Value} {cnt : Nat → Nat} {hot : Nat → Value}
theorem TS.keep {w' : World} (h : TS w T Pb Hb n m blk hs pt nx fst cnt hot) {F : Nat → Prop} (k : Kp F w w') (h0 : ¬ F T) (h1 : ¬ F Pb) (h2 : ¬ F Hb) (h3 : ∀ i, i < m → ¬ F (blk i)) : TS w' T Pb Hb n m blk hs pt nx fst cnt hot :=
  ⟨h.tab.keep (k.block _ h.tab.lt h0), h.parts.keep (k.block _ h.parts.lt h1), h.hots.keep (k.block _ h.hots.lt h2), fun i hi => (h.ents i hi).keep (k.block _ (h.ents i hi).lt (h3 i hi)), h.inj⟩
theorem TS.keep0 {w' : World} (h : TS w T Pb Hb n m blk hs pt nx fst cnt hot) (hb : Below w.heap.size w w') : TS w' T Pb Hb n m blk hs pt nx fst cnt hot :=
  h.keep (F := fun _ => False) (Kp.of_below hb) id id id (fun _ _ => id)
/-- An entry's cell is set. -/
theorem TS.setPart (h : TS w T Pb Hb n m blk hs pt nx fst cnt hot) {k : Nat} (hk : k < m) (q : Nat) : TS (w.setCell ⟨blk k, 9, none⟩ (.int .i64 (q : Nat))) T Pb Hb n m blk hs (up pt k q) nx fst cnt hot := by
  have e := h.ents k hk
  refine ⟨h.tab.other (e.ne_tab h.tab).symm _ _, h.parts.other (e.ne_parts h.parts).symm _ _, h.hots.other (e.ne_hots h.hots).symm _ _, fun i hi => ?_, h.inj⟩
  by_cases hik : i = k
  · subst hik; rw [up_same]; exact e.part q
  · rw [up_other _ _ hik]; exact (h.ents i hi).other (fun e => hik (h.inj i k hi hk e)) _ _
theorem TS.setNext (h : TS w T Pb Hb n m blk hs pt nx fst cnt hot) {k : Nat} (hk : k < m) (v : Value) : TS (w.setCell ⟨blk k, 10, none⟩ v) T Pb Hb n m blk hs pt (up nx k v) fst cnt hot := by
  have e := h.ents k hk
  refine ⟨h.tab.other (e.ne_tab h.tab).symm _ _, h.parts.other (e.ne_parts h.parts).symm _ _, h.hots.other (e.ne_hots h.hots).symm _ _, fun i hi => ?_, h.inj⟩
  by_cases hik : i = k
  · subst hik; rw [up_same]; exact e.next v
  · rw [up_other _ _ hik]; exact (h.ents i hi).other (fun e => hik (h.inj i k hi hk e)) _ _
theorem TS.setFirst (h : TS w T Pb Hb n m blk hs pt nx fst cnt hot) {j : Nat} (hj : j < n) (v : Value) : TS (w.setCell ⟨Pb, j * 44 + 2, none⟩ v) T Pb Hb n m blk hs pt nx (up fst j v) cnt hot :=
  ⟨h.tab.other (h.tab.ne_parts h.parts) _ _, h.parts.first hj v, h.hots.other (h.hots.ne_parts h.parts) _ _, fun i hi => (h.ents i hi).other ((h.ents i hi).ne_parts h.parts) _ _, h.inj⟩
theorem TS.setCount (h : TS w T Pb Hb n m blk hs pt nx fst cnt hot) {j : Nat} (hj : j < n) (v : Nat) : TS (w.setCell ⟨Pb, j * 44 + 3, none⟩ (.int .i64 (v : Nat))) T Pb Hb n m blk hs pt nx fst (up cnt j v) hot :=
  ⟨h.tab.other (h.tab.ne_parts h.parts) _ _, h.parts.count hj v, h.hots.other (h.hots.ne_parts h.parts) _ _, fun i hi => (h.ents i hi).other ((h.ents i hi).ne_parts h.parts) _ _, h.inj⟩
theorem TS.setHot (h : TS w T Pb Hb n m blk hs pt nx fst cnt hot) {j : Nat} (hj : j < n) (v : Value) : TS (w.setCell ⟨Hb, j, none⟩ v) T Pb Hb n m blk hs pt nx fst cnt (up hot j v) :=
  ⟨h.tab.other (h.tab.ne_hots h.hots) _ _, h.parts.other (fun e => h.hots.ne_parts h.parts e.symm) _ _, h.hots.set hj v, fun i hi => (h.ents i hi).other ((h.ents i hi).ne_hots h.hots) _ _, h.inj⟩
theorem TS.drew (h : TS w T Pb Hb n m blk hs pt nx fst cnt hot) : TS w.drew T Pb Hb n m blk hs pt nx fst cnt hot := h.keep0 (Below.refl _ _).drew
end
end Go.Proofs.Qxb6612769a
