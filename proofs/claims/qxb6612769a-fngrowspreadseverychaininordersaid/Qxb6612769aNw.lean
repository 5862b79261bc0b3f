import Derived.Test.Qxb6612769aGrow
namespace Go.Proofs.Qxb6612769a
open Go.RowKit
set_option linter.unusedVariables false
set_option linter.unusedSimpArgs false

theorem ch_blk {blk : Nat → Nat} {nx : Nat → Value} {k b : Nat} : ∀ {l : List Nat} {v : Value}, (∀ i ∈ l, i ≠ k) → Ch blk nx v l → Ch (up blk k b) nx v l
  | [], _, _, h => h
  | i :: l, v, hk, h => by
    refine ⟨?_, ch_blk (fun x hx => hk x (List.mem_cons_of_mem _ hx)) h.2⟩
    rw [up_other _ _ (hk i (by simp))]; exact h.1
theorem TabAt.alloc {w : World} {T Pb Hb n : Nat} (h : TabAt w T Pb Hb n) (ob : Obj) : TabAt (w.alloc ob) T Pb Hb n := h.keep (Below.heap_alloc w ob _ h.lt)

theorem TS.push {wr : World} {T Pb Hb n k : Nat} {blk hs pt : Nat → Nat} {nx fst : Nat → Value} {cnt : Nat → Nat} {hot : Nat → Value} (h : TS wr T Pb Hb n k blk hs pt nx fst cnt hot) {cs : Array Value} {q : Nat} (hsz : cs.size = 22) (h8 : cs[8]? = some (.int .u64 (hs k : Nat))) (h9 : cs[9]? = some (.int .i64 (q : Nat))) (h10 : cs[10]? = some N) :
    TS (wr.alloc (.cells cs 99)) T Pb Hb n (k + 1) (up blk k wr.heap.size) hs (up pt k q) (up nx k N) fst cnt hot := by
  have h0 := h.keep0 ((Below.refl wr.heap.size wr).alloc (Nat.le_refl _) (.cells cs 99))
  refine ⟨h0.tab, h0.parts, h0.hots, fun i hi => ?_, fun i l hi hl e => ?_⟩
  · by_cases e : i = k
    · subst e
      rw [up_same, up_same, up_same]
      exact ⟨cs, alloc_new wr _, hsz, h8, h9, h10⟩
    · rw [up_other _ _ e, up_other _ _ e, up_other _ _ e]
      exact h0.ents i (by omega)
  · by_cases ei : i = k
    · by_cases el : l = k
      · omega
      · subst ei
        rw [up_same, up_other _ _ el] at e
        have := (h.ents l (by omega)).lt
        omega
    · by_cases el : l = k
      · subst el
        rw [up_same, up_other _ _ ei] at e
        have := (h.ents i (by omega)).lt
        omega
      · rw [up_other _ _ ei, up_other _ _ el] at e
        exact h.inj i l (by omega) (by omega) e

/-- The hashes that came in. -/
def HsAt (w : World) (a : Option Addr) (m : Nat) (hs : Nat → Nat) : Prop := ∀ k, k < m → ∃ b, a = some ⟨b, 0, none⟩ ∧ w.cell? ⟨b, k, none⟩ = some (.int .u64 (hs k : Nat))
theorem HsAt.below {w w' : World} {a : Option Addr} {m : Nat} {hs : Nat → Nat} (h : HsAt w a m hs) (hb : Below w.heap.size w w') : HsAt w' a m hs := fun k hk => by
  obtain ⟨b, h0, h1⟩ := h k hk
  exact ⟨b, h0, by rw [hb.cell (World.block_lt_of_cell? w _ h1)]; exact h1⟩

/-- A table into which the first k entries have been put; the row G holds the first g of them. -/
structure NW (w wr : World) (T Pb Hb n m G k g : Nat) (hs blk pt : Nat → Nat) (nx fst : Nat → Value) (cnt : Nat → Nat) : Prop where
  ts : TS wr T Pb Hb n k blk hs pt nx fst cnt (fun _ => N)
  chains : ∀ j, j < n → Ch blk nx (fst j) (spread hs n (List.range k) j) ∧ cnt j = (spread hs n (List.range k) j).length
  pts : ∀ i, i < k → pt i = hs i % n
  row : wr.rowIs G 39 m (fun i => if i < g then P (blk i) else N)
  below : Below w.heap.size w wr
  own : w.heap.size ≤ T ∧ w.heap.size ≤ Pb ∧ w.heap.size ≤ Hb ∧ w.heap.size ≤ G ∧ ∀ i, i < k → w.heap.size ≤ blk i

theorem range_lt {hs : Nat → Nat} {n k j i : Nat} (h : i ∈ spread hs n (List.range k) j) : i < k := by
  have := (spread_mem h).1
  simpa using this

section
variable {w wr : World} {T Pb Hb n m G k : Nat} {hs blk pt : Nat → Nat} {nx fst : Nat → Value} {cnt : Nat → Nat}
theorem NW.ne_G {g : Nat} (h : NW w wr T Pb Hb n m G k g hs blk pt nx fst cnt) : T ≠ G ∧ Pb ≠ G ∧ Hb ≠ G ∧ ∀ i, i < k → blk i ≠ G := by
  obtain ⟨c, hG, _⟩ := h.row
  refine ⟨?_, ?_, ?_, fun i hi => ?_⟩
  · rintro rfl; obtain ⟨c', h1, _⟩ := h.ts.tab; rw [hG] at h1; injection h1 with h1; injection h1 with _ h1 _; cases h1
  · rintro rfl; obtain ⟨c', h1, _⟩ := h.ts.parts; rw [hG] at h1; injection h1 with h1; injection h1 with _ h1 _; cases h1
  · rintro rfl; obtain ⟨c', h1, _⟩ := h.ts.hots; rw [hG] at h1; injection h1 with h1; injection h1 with _ h1 _; cases h1
  · rintro rfl; obtain ⟨c', h1, _⟩ := h.ts.ents i hi; rw [hG] at h1; injection h1 with h1; injection h1 with _ h1 _; cases h1

/-- The new entry is linked. -/
theorem NW.link (h : NW w wr T Pb Hb n m G k k hs blk pt nx fst cnt) (hn : 0 < n) (hn1 : n ≤ 1000000) (hk : k ≤ 1000000) {cs : Array Value} (hsz : cs.size = 22) (h8 : cs[8]? = some (.int .u64 (hs k : Nat))) (h9 : cs[9]? = some (.int .i64 ((hs k % n : Nat) : Int))) (h10 : cs[10]? = some N) :
    Calls Try.prog 25 #[P T, P wr.heap.size] (wr.alloc (.cells cs 99)) fun e w' => e = .returned (.tuple #[]) ∧ ∃ blk' pt' nx' fst' cnt', blk' k = wr.heap.size ∧ NW w w' T Pb Hb n m G (k + 1) k hs blk' pt' nx' fst' cnt' := by
  have hP := h.ts.push hsz h8 h9 h10
  have hq : hs k % n < n := Nat.mod_lt _ hn
  have hup : up pt k (hs k % n) k = hs k % n := up_same _ _ _
  have hnew := h.chains _ hq
  have hbk : up blk k wr.heap.size k = wr.heap.size := up_same _ _ _
  have hcn : cnt (hs k % n) ≤ 1000000 := by
    rw [hnew.2]
    have := spread_le hs n (List.range k) (hs k % n)
    simp at this; omega
  have hl := link_any (k := k) hP (Nat.lt_succ_self k) (by rw [hup]; exact hq) (by rw [hup]; exact hcn) hn1 (by rw [hup]; exact hnew.1.ptr)
  rw [hbk, hup] at hl
  refine hl.mono ?_
  rintro e w' ⟨rfl, ht, hkp⟩
  have hsz2 := h.below.size
  refine ⟨rfl, _, _, _, _, _, hbk, ht, fun j hj => ?_, fun i hi => ?_, ?_, ?_, ?_⟩
  · have hns : k ∉ spread hs n (List.range k) j := fun hm => by have := range_lt hm; omega
    have hne : ∀ i ∈ spread hs n (List.range k) j, i ≠ k := fun i hi e => by have := range_lt hi; omega
    rw [List.range_succ]
    by_cases hj2 : j = hs k % n
    · subst hj2
      rw [spread_here, up_same, up_same]
      refine ⟨⟨by rw [hbk], ?_⟩, by rw [hnew.2]; simp⟩
      rw [up_same]
      exact ch_blk hne ((hnew.1.up hns).up hns)
    · rw [spread_other _ _ _ hj2, up_other _ _ hj2, up_other _ _ hj2]
      exact ⟨ch_blk hne (((h.chains j hj).1.up hns).up hns), (h.chains j hj).2⟩
  · by_cases e : i = k
    · subst e; exact hup
    · rw [up_other _ _ e]; exact h.pts i (by omega)
  · have hG := h.row.lt
    have hneG := h.ne_G
    refine ((h.row.alloc _).of_block (hkp.block G (by simp; omega) ?_)).congr fun i hi => ?_
    · rintro (e | e)
      · exact hneG.2.1 e.symm
      · omega
    · by_cases e : i < k
      · rw [if_pos e, if_pos e, up_other _ _ (by omega)]
      · rw [if_neg e, if_neg e]
  · refine (h.below.alloc h.below.size _).trans ((hkp.below (B := w.heap.size) (by simp; omega) ?_))
    rintro b (rfl | rfl)
    · exact h.own.2.1
    · exact h.below.size
  · refine ⟨h.own.1, h.own.2.1, h.own.2.2.1, h.own.2.2.2.1, fun i hi => ?_⟩
    by_cases e : i = k
    · subst e; rw [hbk]; exact h.below.size
    · rw [up_other _ _ e]; exact h.own.2.2.2.2 i (by omega)

/-- The new entry is laid into the row. -/
theorem NW.store (h : NW w wr T Pb Hb n m G (k + 1) k hs blk pt nx fst cnt) (hk : k < m) : NW w (wr.setCell ⟨G, k, none⟩ (P (blk k))) T Pb Hb n m G (k + 1) (k + 1) hs blk pt nx fst cnt := by
  have hne := h.ne_G
  have hkp : Kp (fun b => b = G) wr (wr.setCell ⟨G, k, none⟩ (P (blk k))) := (Kp.refl (fun b => b = G) wr).setCell (b := G) (.inl rfl) _ _
  refine ⟨h.ts.keep hkp hne.1 hne.2.1 hne.2.2.1 hne.2.2.2, h.chains, h.pts, (h.row.set k _).congr fun i hi => ?_, h.below.trans (hkp.below h.below.size fun b e => by rw [e]; exact h.own.2.2.2.1), h.own⟩
  by_cases e : i = k
  · subst e; simp
  · by_cases e2 : i < k
    · simp [e, e2, show i < k + 1 by omega]
    · simp [e, e2, show ¬ i < k + 1 by omega]
end

theorem tab_start (w : World) (n : Nat) :
    let w2 := (((w.alloc (.cells (pcells n) 106)).alloc (.cells (hcells n) 72)).alloc (.cells #[.int .u64 0, .slice (some ⟨w.heap.size, 0, none⟩) n n, N, .int .u64 0, N, .int .u64 0, .nilFunc, .slice (some ⟨w.heap.size + 1, 0, none⟩) n n] 86)).drew
    TabAt w2 (w.heap.size + 1 + 1) w.heap.size (w.heap.size + 1) n ∧ Parts w2 w.heap.size n (fun _ => N) (fun _ => 0) ∧ Hots w2 (w.heap.size + 1) n (fun _ => N) ∧ Below w.heap.size w w2 := by
  intro w2
  have a0 := alloc_new w (.cells (pcells n) 106)
  have a1 := alloc_new (w.alloc (.cells (pcells n) 106)) (.cells (hcells n) 72)
  have a2 := alloc_new ((w.alloc (.cells (pcells n) 106)).alloc (.cells (hcells n) 72)) (.cells #[.int .u64 0, .slice (some ⟨w.heap.size, 0, none⟩) n n, N, .int .u64 0, N, .int .u64 0, .nilFunc, .slice (some ⟨w.heap.size + 1, 0, none⟩) n n] 86)
  have s1 : (w.alloc (.cells (pcells n) 106)).heap.size = w.heap.size + 1 := by simp
  have s2 : ((w.alloc (.cells (pcells n) 106)).alloc (.cells (hcells n) 72)).heap.size = w.heap.size + 1 + 1 := by simp
  rw [s1] at a1
  rw [s2] at a2
  exact ⟨⟨_, a2, rfl, rfl, rfl⟩, parts_new (alloc_old (alloc_old a0 _) _), hots_new (alloc_old a1 _), ((((Below.refl _ _).alloc (Nat.le_refl _) _).alloc (by simp) _).alloc (by simp; omega) _).drew⟩
theorem tab_start' (w : World) (n : Nat) :
    let w2 := (((w.alloc (.cells (hcells n) 72)).alloc (.cells (pcells n) 106)).alloc (.cells #[.int .u64 0, .slice (some ⟨w.heap.size + 1, 0, none⟩) n n, N, .int .u64 0, N, .int .u64 0, .nilFunc, .slice (some ⟨w.heap.size, 0, none⟩) n n] 86)).drew
    TabAt w2 (w.heap.size + 1 + 1) (w.heap.size + 1) w.heap.size n ∧ Parts w2 (w.heap.size + 1) n (fun _ => N) (fun _ => 0) ∧ Hots w2 w.heap.size n (fun _ => N) ∧ Below w.heap.size w w2 := by
  intro w2
  have a0 := alloc_new w (.cells (hcells n) 72)
  have a1 := alloc_new (w.alloc (.cells (hcells n) 72)) (.cells (pcells n) 106)
  have a2 := alloc_new ((w.alloc (.cells (hcells n) 72)).alloc (.cells (pcells n) 106)) (.cells #[.int .u64 0, .slice (some ⟨w.heap.size + 1, 0, none⟩) n n, N, .int .u64 0, N, .int .u64 0, .nilFunc, .slice (some ⟨w.heap.size, 0, none⟩) n n] 86)
  have s1 : (w.alloc (.cells (hcells n) 72)).heap.size = w.heap.size + 1 := by simp
  have s2 : ((w.alloc (.cells (hcells n) 72)).alloc (.cells (pcells n) 106)).heap.size = w.heap.size + 1 + 1 := by simp
  rw [s1] at a1
  rw [s2] at a2
  exact ⟨⟨_, a2, rfl, rfl, rfl⟩, parts_new (alloc_old a1 _), hots_new (alloc_old (alloc_old a0 _) _), ((((Below.refl _ _).alloc (Nat.le_refl _) _).alloc (by simp) _).alloc (by simp; omega) _).drew⟩

/-- The empty table, and the row of nils behind it. -/
theorem NW.start {w w1 : World} {T Pb Hb n m : Nat} {hs : Nat → Nat} (ht : TabAt w1 T Pb Hb n) (hp : Parts w1 Pb n (fun _ => N) (fun _ => 0)) (hh : Hots w1 Hb n (fun _ => N)) (hb : Below w.heap.size w w1) (h0 : w.heap.size ≤ T) (h1 : w.heap.size ≤ Pb) (h2 : w.heap.size ≤ Hb) :
    NW w (w1.alloc (.cells (madeCells #[N] m) 39)) T Pb Hb n m w1.heap.size 0 0 hs (fun _ => 0) (fun _ => 0) (fun _ => N) (fun _ => N) (fun _ => 0) := by
  have hA : Below w1.heap.size w1 (w1.alloc (.cells (madeCells #[N] m) 39)) := (Below.refl _ _).alloc (Nat.le_refl _) _
  refine ⟨⟨ht.alloc _, hp.keep (hA.block _ hp.lt), hh.keep (hA.block _ hh.lt), fun k hk => by omega, fun k l hk => by omega⟩, fun j hj => ⟨rfl, rfl⟩, fun i hi => by omega, (World.rowIs_made w1 N m 39).congr fun i _ => by simp, hb.trans (hA.mono hb.size), ⟨h0, h1, h2, hb.size, fun i hi => by omega⟩⟩
end Go.Proofs.Qxb6612769a
