import Derived.Test.Qxb6612769aAid4
namespace Go.Proofs.Qxb6612769a
open Go.RowKit
set_option linter.unusedVariables false
set_option linter.unusedSimpArgs false
attribute [local go_sem ↓] Go.wp_at_zero Go.wp_at_succ

theorem neq_same (b : Nat) (w : World) : (binOp .neq 39 (P b) (P b)).run Try.prog w = .ok (.bool false) w := by
  obtain ⟨j, h1, h2⟩ := info99
  exact Go.Lib.run_neq_ptr_same w _ Try.underlying39 h1
theorem TD.setHot {w : World} {T Pb Hb n m : Nat} {b : Bool} {hs blk pt : Nat → Nat} {oh : Nat → Option Nat} {nx fst : Nat → Value} {cnt : Nat → Nat} (h : TD w T n m b hs blk oh Pb Hb pt nx fst cnt) {k : Nat} (hk : k < m) (hn : 0 < n) :
    Calls Try.prog 14 #[P T, P (blk k)] w fun e w' => e = .returned (.tuple #[]) ∧ TD w' T n m b hs blk (up oh (hs k % n) (some k)) Pb Hb pt nx fst cnt ∧ Kp (fun b => b = Hb) w w' := by
  have hp := h.pts k hk
  refine (setHot_any h.ts hk (by rw [hp]; exact Nat.mod_lt _ hn)).mono ?_
  rintro e w' ⟨rfl, ht, hkp⟩
  rw [hp, ← hVs_up] at ht
  exact ⟨rfl, ⟨ht, h.chains, h.pts⟩, hkp⟩
/-- Behind the growth of a table that was built on w0. -/
theorem one_table {w0 w1 w2 w3 : World} {T Pb Hb n m G : Nat} {hs blk pt : Nat → Nat} {nx fst : Nat → Value} {cnt : Nat → Nat} (h1 : NW w0 w1 T Pb Hb n m G m m hs blk pt nx fst cnt) (hk2 : Kp (fun b => b = Hb) w1 w2)
    (hk : Kp (fun b => b = T ∨ ∃ k, k < m ∧ b = blk k) w2 w3) : PtAt w3 (some ⟨G, 0, none⟩) blk (List.range m) ∧ Below w0.heap.size w0 w3 := by
  have hne := h1.ne_G
  refine ⟨(h1.pt.kp hk2 fun e => hne.2.2.1 e.symm).kp hk ?_, ?_⟩
  · rintro (e | ⟨k, hk, e⟩)
    · exact hne.1 e.symm
    · exact hne.2.2.2 k hk e.symm
  · have hz1 := h1.below.size
    have hz2 := hk2.size
    refine (h1.below.trans (hk2.below (by omega) fun b e => by rw [e]; exact h1.own.2.2.1)).trans (hk.below (by omega) ?_)
    rintro i (rfl | ⟨k, hk, rfl⟩)
    · exact h1.own.1
    · exact h1.own.2.2.2.2 k hk

/-- The row of the chains, filled up to j. -/
structure CR (w3 wr : World) (C M m j : Nat) (hs blk : Nat → Nat) (va : Nat → Option Addr) (vc : Nat → Nat) : Prop where
  row : wr.rowIs C 35 M (fun i => if i < j then .slice (va i) (Fl hs m M i).length (vc i) else .slice none 0 0)
  pts : ∀ i, i < j → PtAt wr (va i) blk (Fl hs m M i)
  below : Below w3.heap.size w3 wr
theorem CR.start (w3 : World) (M m : Nat) (hs blk : Nat → Nat) : CR w3 (w3.alloc (.cells (madeCells #[.slice none 0 0] M) 35)) w3.heap.size M m 0 hs blk (fun _ => none) (fun _ => 0) :=
  ⟨(World.rowIs_made w3 (.slice none 0 0) M 35).congr fun i _ => by simp, fun i hi => by omega, (Below.refl _ _).alloc (Nat.le_refl _) _⟩
theorem CR.keep0 {w3 wr w' : World} {C M m j : Nat} {hs blk : Nat → Nat} {va : Nat → Option Addr} {vc : Nat → Nat} (h : CR w3 wr C M m j hs blk va vc) (hb : Below wr.heap.size wr w') : CR w3 w' C M m j hs blk va vc :=
  ⟨h.row.of_block (hb.block _ h.row.lt), fun i hi => (h.pts i hi).below hb, h.below.trans (hb.mono h.below.size)⟩
theorem CR.ne {w3 wr : World} {C M m j : Nat} {hs blk : Nat → Nat} {va : Nat → Option Addr} {vc : Nat → Nat} (h : CR w3 wr C M m j hs blk va vc) {g p b : Nat} (hc : wr.cell? ⟨g, p, none⟩ = some (P b)) : g ≠ C := by
  rintro rfl
  by_cases hp : p < M
  · rw [h.row.cell hp] at hc
    injection hc with hc
    by_cases e : p < j
    · rw [if_pos e] at hc; cases hc
    · rw [if_neg e] at hc; cases hc
  · obtain ⟨c, h0, h1, h2⟩ := h.row
    rw [cell_of_block h0, Array.getElem?_eq_none (by omega)] at hc
    cases hc
theorem PtAt.row {w3 wr : World} {C M m j : Nat} {hs blk : Nat → Nat} {va : Nat → Option Addr} {vc : Nat → Nat} (h : CR w3 wr C M m j hs blk va vc) {a : Option Addr} {l : List Nat} (hp : PtAt wr a blk l) (o : Nat) (v : Value) : PtAt (wr.setCell ⟨C, o, none⟩ v) a blk l := fun p k hk => by
  obtain ⟨g, h0, h1⟩ := hp p k hk
  refine ⟨g, h0, ?_⟩
  have hg := h.ne h1
  rw [World.cell?_of_block (show (wr.setCell ⟨C, o, none⟩ v).heap[g]? = wr.heap[g]? by rw [hset, if_neg hg])]
  exact h1
theorem CR.store {w3 wr : World} {C M m j cap : Nat} {hs blk : Nat → Nat} {va : Nat → Option Addr} {vc : Nat → Nat} {a : Option Addr} (h : CR w3 wr C M m j hs blk va vc) (hC : w3.heap.size ≤ C) (hp : PtAt wr a blk (Fl hs m M j)) : CR w3 (wr.setCell ⟨C, j, none⟩ (.slice a (Fl hs m M j).length cap)) C M m (j + 1) hs blk (up va j a) (up vc j cap) := by
  refine ⟨(h.row.set j _).congr fun i hi => ?_, fun i hi => ?_, h.below.trans (((Kp.refl (fun b => b = C) wr).setCell (b := C) (.inl rfl) _ _).below h.below.size fun b e => by rw [e]; exact hC)⟩
  · by_cases e : i = j
    · subst e; simp [up_same]
    · by_cases e2 : i < j
      · simp [e, e2, show i < j + 1 by omega, up_other _ _ e]
      · simp [e, e2, show ¬ i < j + 1 by omega]
  · by_cases e : i = j
    · subst e; rw [up_same]; exact PtAt.row h hp _ _
    · rw [up_other _ _ e]; exact PtAt.row h (h.pts i (by omega)) _ _
theorem CR.here {w3 wr : World} {C M m j : Nat} {hs blk : Nat → Nat} {va : Nat → Option Addr} {vc : Nat → Nat} (h : CR w3 wr C M m j hs blk va vc) (hj : j < M) : wr.cell? ⟨C, j, none⟩ = some (.slice none 0 0) := by
  have := h.row.cell hj
  simpa using this
theorem CR.at {w3 wr : World} {C M m j i : Nat} {hs blk : Nat → Nat} {va : Nat → Option Addr} {vc : Nat → Nat} (h : CR w3 wr C M m j hs blk va vc) (hj : i < M) (hi : i < j) : wr.cell? ⟨C, i, none⟩ = some (.slice (va i) (Fl hs m M i).length (vc i)) := by
  have := h.row.cell hj
  rw [if_pos hi] at this; exact this
theorem pos_next {w : World} {Q M k : Nat} {hs : Nat → Nat} (h : w.rowIs Q 3 M (fun j => .int .i64 ((Fl hs k M j).length : Nat))) : (w.setCell ⟨Q, hs k % M, none⟩ (.int .i64 (((Fl hs k M (hs k % M)).length + 1 : Nat) : Int))).rowIs Q 3 M (fun j => .int .i64 ((Fl hs (k + 1) M j).length : Nat)) := by
  refine (h.set (hs k % M) _).congr fun j hj => ?_
  by_cases e : j = hs k % M
  · subst e; rw [if_pos rfl, Fl_succ_yes rfl]; simp
  · rw [if_neg e, Fl_succ_no (fun e2 => e e2.symm)]

theorem fill_next {w : World} {B n i : Nat} {a b : Value} (h : w.rowIs B 3 n (fun v => if v < i then a else b)) : (w.setCell ⟨B, i, none⟩ a).rowIs B 3 n (fun v => if v < i + 1 then a else b) :=
  (h.set i a).congr fun j hj => by
    by_cases e : j = i
    · subst e; simp
    · by_cases e2 : j < i
      · simp [e, e2, show j < i + 1 by omega]
      · simp [e, e2, show ¬ j < i + 1 by omega]
theorem below_set {w0 w : World} {B b : Nat} (h : Below B w0 w) (hb : B ≤ b) {o : Nat} {v : Value} (hs : B ≤ w0.heap.size := by omega) : Below B w0 (w.setCell ⟨b, o, none⟩ v) :=
  h.trans (((Kp.refl (fun k => k = b) w).setCell (b := b) (.inl rfl) _ _).below (Nat.le_trans hs h.size) fun k e => by rw [e]; exact hb)

theorem oh_next {w : World} {B n q p : Nat} {oh : Nat → Option Nat} (h : w.rowIs B 3 n (fun v => .int .i64 (enc (oh v)))) : (w.setCell ⟨B, q, none⟩ (.int .i64 (p : Nat))).rowIs B 3 n (fun v => .int .i64 (enc (up oh q (some p) v))) :=
  (h.set q _).congr fun j hj => by
    by_cases e : j = q
    · subst e; rw [if_pos rfl, up_same]; rfl
    · rw [if_neg e, up_other _ _ e]
theorem mask2 {h L n : Nat} (hn : n = 2 ^ L) (hh : h < 18446744073709551616) (hL : L ≤ 20) : bits .and .u64 (h : Int) ((n : Int) - 1) = ((h % n : Nat) : Int) := by
  rw [hn]; exact mask h L hh hL

theorem hotF_ok {hs : Nat → Nat} {M m : Nat} {oh : Nat → Option Nat} (ho : ∀ j k, oh j = some k → k < m) : ∀ i j k, hotF hs M oh i j = some k → k < m
  | 0, j, k, h => by cases h
  | i + 1, j, k, h => by
    cases e : oh i with
    | none => rw [hotF_none e] at h; exact hotF_ok ho i j k h
    | some p =>
      rw [hotF_some e] at h
      by_cases e2 : j = hs p % M
      · rw [e2, up_same] at h
        injection h with h
        rw [← h]; exact ho i p e
      · rw [up_other _ _ e2] at h
        exact hotF_ok ho i j k h
theorem cell_set_other {w : World} {b k p o : Nat} {v u : Value} (h : w.cell? ⟨b, p, none⟩ = some u) (hne : b ≠ k) : (w.setCell ⟨k, o, none⟩ v).cell? ⟨b, p, none⟩ = some u := by
  rw [World.cell?_of_block (show (w.setCell ⟨k, o, none⟩ v).heap[b]? = w.heap[b]? by rw [hset, if_neg hne])]; exact h

end Go.Proofs.Qxb6612769a
