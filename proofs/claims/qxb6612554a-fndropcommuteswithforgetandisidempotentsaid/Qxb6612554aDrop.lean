import Derived.Test.Qxb6612554aLim
import Derived.Test.Qxb6612554aSub
namespace Go.Proofs.Qxb6612554a
open Go.RowKit
open Go.ChangeMaps (setBlock)
set_option linter.unusedVariables false
set_option linter.unusedSimpArgs false
attribute [local go_sem ↓] Go.wp_at_zero Go.wp_at_succ

theorem cell_setBlock {w : World} {mb : Nat} {ob : Obj} {b : Nat} (h : b ≠ mb) (o : Nat) : (setBlock w mb ob).cell? ⟨b, o, none⟩ = w.cell? ⟨b, o, none⟩ :=
  World.cell?_of_block (w := w) (by rw [hsetB, if_neg (fun x => h x.1)])
theorem range_setBlock {w : World} {mb : Nat} {ob : Obj} {b o : Nat} {cs : List Value} (h : b ≠ mb) (hr : w.rangeAt b o cs) : (setBlock w mb ob).rangeAt b o cs := fun j v hv => by
  rw [cell_setBlock h]; exact hr j v hv
theorem range_ent {w : World} {n : Nd} (h : EntAt w n) : w.rangeAt n.e 0 (kc n.i) := fun j v hv => by
  rw [cell_of_block h]
  have hj : j < (kc n.i).length := (List.getElem?_eq_some_iff.1 hv).1
  simp only [Nat.zero_add, List.getElem?_toArray, entL]
  rw [List.getElem?_append_left hj, hv]
theorem hid {p : Prop} (h : p) : Hid p := h
theorem info49 : (Try.prog.info? 49).map (·.size) = some 32 := by kernel_rfl

theorem tassert (e : Nat) (w : World) : (Instr.typeAssert (.iface 95 (P e)) 20 95 false).run Try.prog w = .ok (P e) w := by kernel_rfl

set_option maxRecDepth 100000 in
/-- The second statement of 'drop': from whatever world in which the element and its entry lie. -/
theorem drop_tail (L lb mb : Nat) (n : Nd) (w w1 : World) (X : Obj)
    (c3 : w1.cell? ⟨L, 3, none⟩ = some (.map (some mb))) (ce : w1.cell? ⟨n.b, 3, none⟩ = some (.iface 95 (P n.e))) (hr : w1.rangeAt n.e 0 (kc n.i)) (n1 : L ≠ mb) (n2 : n.b ≠ mb) (n3 : n.e ≠ mb)
    (c4 : w.cell? ⟨L, 4, none⟩ = some (P lb))
    (hdel : ∀ ty, (Builtin.delete_ #[88, 49] ty #[.map (some mb), .agg (kc n.i).toArray]).run Try.prog w1.drew = .ok (.tuple #[]) (setBlock w1.drew mb X))
    (hrem : Calls Try.prog 64 #[P lb, P n.b] w fun e w' => e = .returned (.iface 95 (P n.e)) ∧ w1 = w') :
    Calls Try.prog 43 #[P L, P n.b] w fun e w' => e = .returned (.tuple #[]) ∧ w' = setBlock w1.drew mb X := by
  have HR := hid hrem
  clear hrem
  have hu := Try.underlying49
  have hi := info49
  have hta := tassert n.e
  have hlen := kc_len n.i
  go_enter Try.func43, Try.ntmps43
  go_wp2_with fail
  refine HR.out.mono ?_
  rintro e w' ⟨rfl, rfl⟩
  go_wp2
  go_region_held3 (fun w' => w'.cell? ⟨L, 3, none⟩ = some (.map (some mb)) ∧ w'.cell? ⟨n.b, 3, none⟩ = some (.iface 95 (P n.e)) ∧ w'.rangeAt n.e 0 (kc n.i))
    (first | (exact ⟨c3, ce, hr⟩) | (exact ⟨(cell_setBlock n1 _).trans c3, (cell_setBlock n2 _).trans ce, range_setBlock n3 hr⟩)) (fail)
  go_wp2
  go_end0
  exact ⟨rfl, rfl⟩

theorem Lim.facts {w : World} {L lb mb : Nat} {nx pv : Nat → Nat} {xs ys : List Nd} {n : Nd} (h : Lim w L lb mb nx pv (xs ++ n :: ys)) :
    n.b ≠ pv n.b ∧ n.b ≠ nx n.b ∧ n.b ≠ lb ∧ pv n.b ∈ lb :: (xs ++ n :: ys).map (·.b) ∧ nx n.b ∈ lb :: (xs ++ n :: ys).map (·.b) ∧ nx (pv n.b) = n.b ∧ pv (nx n.b) = n.b ∧ nx n.b = headD (ys.map (·.b)) lb := by
  have hn : n ∈ xs ++ n :: ys := by simp
  have hring := h.ring
  have hnd := h.nd
  rw [List.map_append, List.map_cons] at hring hnd
  obtain ⟨r1, r2, r3, r4⟩ := ring_at hring
  have e3 : lb :: (xs.map (·.b) ++ n.b :: ys.map (·.b)) = (lb :: xs.map (·.b)) ++ (n.b :: ys.map (·.b)) := by simp
  rw [e3, List.nodup_append] at hnd
  obtain ⟨n1, n2, n3⟩ := hnd
  have hp : n.b ≠ pv n.b := fun e => n3 n.b (by rw [e, r1]; exact lastD_mem _ _) n.b (by simp) rfl
  have hl : n.b ≠ lb := h.ne hn
  have hq : n.b ≠ nx n.b := fun e => by
    have h1 := headD_mem (ys.map (·.b)) lb
    rw [← r3, ← e, List.mem_append, List.mem_singleton] at h1
    rcases h1 with h1 | h1
    · exact (List.nodup_cons.1 n2).1 h1
    · exact hl h1
  refine ⟨hp, hq, hl, ?_, ?_, r2, r4, r3⟩
  · rw [r1]
    have := lastD_mem (xs.map (·.b)) lb
    rw [List.mem_cons] at this ⊢
    rcases this with h1 | h1
    · exact Or.inl h1
    · exact Or.inr (by simp only [List.map_append, List.mem_append]; exact Or.inl h1)
  · rw [r3]
    have := headD_mem (ys.map (·.b)) lb
    rw [List.mem_append, List.mem_singleton] at this
    rw [List.mem_cons]
    rcases this with h1 | h1
    · exact Or.inr (by simp only [List.map_append, List.map_cons, List.mem_append, List.mem_cons]; exact Or.inr (Or.inr h1))
    · exact Or.inl h1

theorem cell_drew (w : World) (a : Addr) : w.drew.cell? a = w.cell? a := rfl

theorem drop_in {w : World} {L lb mb : Nat} {nx pv : Nat → Nat} {xs ys : List Nd} {n : Nd} (h : Lim w L lb mb nx pv (xs ++ n :: ys)) :
    Calls Try.prog 43 #[P L, P n.b] w fun e w' => e = .returned (.tuple #[]) ∧ ∃ nx' pv', Lim w' L lb mb nx' pv' (xs ++ ys) ∧ Gone w' n ∧ Kp (Own lb mb (xs ++ n :: ys)) w w' := by
  have hn : n ∈ xs ++ n :: ys := by simp
  obtain ⟨hp, hq, hl, hpm, hqm, e1, e2, _⟩ := h.facts
  have hnm : n.b ∈ lb :: (xs ++ n :: ys).map (·.b) := by rw [List.mem_cons]; exact Or.inr (List.mem_map.2 ⟨n, hn, rfl⟩)
  obtain ⟨es, c, hm, hh⟩ := h.map
  obtain ⟨v0, v1, v2, hL⟩ := h.lim
  have hmb : ∀ {x : Nat}, ¬ Own lb mb (xs ++ n :: ys) x → x ≠ mb := fun hx e => hx (Or.inr (Or.inl e))
  -- the world behind Remove
  have far : ∀ k, ¬ Own lb mb (xs ++ n :: ys) k → (remW w lb n.b (pv n.b) (nx n.b) ((xs ++ n :: ys).length : Nat)).heap[k]? = w.heap[k]? := fun k hk => by
    have k1 : k ≠ lb := fun e => hk (Or.inl e)
    have k3 : ∀ x ∈ lb :: (xs ++ n :: ys).map (·.b), k ≠ x := fun x hx e => by
      rcases List.mem_cons.1 hx with h1 | h1
      · exact k1 (e.trans h1)
      · obtain ⟨m, hm, e2⟩ := List.mem_map.1 h1
        exact hk (Or.inr (Or.inr ⟨m, hm, e.trans e2.symm⟩))
    rw [rem_heap _ _ _ _ _ _ _ (k3 _ hnm)]
    simp only [if_neg (k3 _ hpm), if_neg (k3 _ hqm), if_neg k1]
    simp
  have hmap : (remW w lb n.b (pv n.b) (nx n.b) ((xs ++ n :: ys).length : Nat)).heap[mb]? = some (.map es c) := by
    have k3 : ∀ x ∈ lb :: (xs ++ n :: ys).map (·.b), mb ≠ x := fun x hx e => h.mb_ne hx e.symm
    rw [rem_heap _ _ _ _ _ _ _ (k3 _ hnm), hm]
    simp only [if_neg (k3 _ hpm), if_neg (k3 _ hqm), if_neg (k3 lb (by simp))]
    simp
  have hent : EntAt (remW w lb n.b (pv n.b) (nx n.b) ((xs ++ n :: ys).length : Nat)) n := by
    unfold EntAt; rw [far _ (h.e_not (h.ent n hn))]; exact h.ent n hn
  have hlim := (far L h.L_not).trans hL
  have hel : (remW w lb n.b (pv n.b) (nx n.b) ((xs ++ n :: ys).length : Nat)).heap[n.b]? = some (.cells #[N, N, N, .iface 95 (P n.e)] 97 (0, 0)) := by
    rw [rem_heap_e _ _ _ _ _ _ hp hq hl, h.elem n hn]; rfl
  have hlen : ((xs ++ n :: ys).length : Int) ≤ 1000000 := by have := h.few; omega
  have hlen0 : (1 : Int) ≤ ((xs ++ n :: ys).length : Nat) := by simp; omega
  have hrem := Remove_in lb n.b (pv n.b) (nx n.b) ((xs ++ n :: ys).length : Nat) (.iface 95 (P n.e)) w hp hq hl hlen0 hlen (h.plain (by simp)) (h.c0 hnm) (h.c1 hnm) (h.c2 hn) (h.c3 hn)
    (by rw [h.c0 hpm, e1]) (by rw [h.c1 hqm, e2]) h.c4 (h.fz hnm 0) (h.fz hnm 1) (h.fz hnm 2) (h.fz hpm 0) (h.fz hqm 1) (h.fz (by simp) 4)
  have hj : ((xs ++ n :: ys).map fun n => (n.i, n.b))[xs.length]? = some (n.i, n.b) := by simp
  have hidx : (((xs ++ n :: ys).map fun n => (n.i, n.b)).map (·.1)).Nodup := by have := h.idx; rwa [List.map_map]
  have hsm : ∀ p ∈ (xs ++ n :: ys).map (fun n => (n.i, n.b)), p.1 ≤ 65535 := fun p hp => by obtain ⟨m, hm, rfl⟩ := List.mem_map.1 hp; exact h.small m hm
  have := drop_tail L lb mb n w (remW w lb n.b (pv n.b) (nx n.b) ((xs ++ n :: ys).length : Nat)).drew.drew (.map (es.eraseIdxIfInBounds xs.length) c)
    (by rw [cell_drew, cell_drew, cell_of_block hlim]; rfl) (by rw [cell_drew, cell_drew, cell_of_block hel]; rfl)
    (by rw [World.rangeAt_drew, World.rangeAt_drew]; exact range_ent hent) (hmb h.L_not) (h.mb_ne hnm) (hmb (h.e_not (h.ent n hn))) h.l4
    (fun ty => del_in hh hsm hidx hj (w := (remW w lb n.b (pv n.b) (nx n.b) ((xs ++ n :: ys).length : Nat)).drew.drew.drew) (by rw [drew_heap, drew_heap, drew_heap]; exact hmap))
    (hrem.mono fun e w' ⟨h1, h2⟩ => ⟨h1, h2.symm⟩)
  refine this.mono ?_
  rintro e w' ⟨rfl, rfl⟩
  exact ⟨rfl, _, _, h.dropped hm hh⟩

theorem setBlock_same {w : World} {b : Nat} {ob : Obj} (h : w.heap[b]? = some ob) (k : Nat) : (setBlock w b ob).heap[k]? = w.heap[k]? := by
  rw [hsetB]
  split
  · rename_i hk; rw [hk.1, h]
  · rfl

theorem drop_out {w : World} {L lb mb : Nat} {nx pv : Nat → Nat} {ns : List Nd} {n : Nd} (h : Lim w L lb mb nx pv ns) (hg : Gone w n) (hi : n.i ≤ 65535) (hni : n.i ∉ ns.map (·.i)) :
    Calls Try.prog 43 #[P L, P n.b] w fun e w' => e = .returned (.tuple #[]) ∧ Below w.heap.size w w' := by
  obtain ⟨es, c, hm, hh⟩ := h.map
  obtain ⟨v0, v1, v2, hL⟩ := h.lim
  have hmb : ∀ {x : Nat}, ¬ Own lb mb ns x → x ≠ mb := fun hx e => hx (Or.inr (Or.inl e))
  have hsm : ∀ p ∈ ns.map (fun n => (n.i, n.b)), p.1 ≤ 65535 := fun p hp => by obtain ⟨m, hm, rfl⟩ := List.mem_map.1 hp; exact h.small m hm
  have := drop_tail L lb mb n w w (.map es c) (by rw [cell_of_block hL]; rfl) (by rw [cell_of_block hg.1]; rfl) (range_ent hg.2) (hmb h.L_not)
    (fun e => by have := hg.1; rw [e, hm] at this; simp at this) (hmb (h.e_not hg.2)) h.l4
    (fun ty => del_out hh hsm hi (by rwa [List.map_map]) (w := w.drew) hm)
    (Remove_out lb n.b (.iface 95 (P n.e)) w (by rw [cell_of_block hg.1]; rfl) (by rw [cell_of_block hg.1]; rfl))
  refine this.mono ?_
  rintro e w' ⟨rfl, rfl⟩
  refine ⟨rfl, rfl, rfl, rfl, by rw [ChangeMaps.setBlock]; simp, fun k hk => ?_⟩
  exact setBlock_same (w := w.drew) hm k
end Go.Proofs.Qxb6612554a
