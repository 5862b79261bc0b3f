import Derived.Test.Qxb6612554aZZ
namespace Go.Proofs.Qxb6612554a
open Go.RowKit
open Go.ChangeMaps (setBlock)
set_option linter.unusedVariables false
set_option linter.unusedSimpArgs false
attribute [local go_sem ↓] Go.wp_at_zero Go.wp_at_succ

def pushW (w : World) (lb p eb : Nat) (n : Int) : World := (((w.setCell ⟨p, 0, none⟩ (P w.heap.size)).setCell ⟨lb, 1, none⟩ (P w.heap.size)).setCell ⟨lb, 4, none⟩ (.int .i64 (n + 1))).alloc (.cells #[P lb, P p, P lb, .iface 95 (P eb)] 97)

theorem push_heap (w : World) (lb p eb : Nat) (n : Int) (k : Nat) (hk : k < w.heap.size) : (pushW w lb p eb n).heap[k]? =
    (((w.heap[k]?).map (fun ob => if k = p then upC 0 (P w.heap.size) ob else ob)).map (fun ob => if k = lb then upC 1 (P w.heap.size) ob else ob)).map (fun ob => if k = lb then upC 4 (.int .i64 (n + 1)) ob else ob) := by
  unfold pushW
  rw [Below.heap_alloc _ _ _ (by simpa [World.setCell] using hk)]
  simp only [hset]
  rw [← ite_map, ← ite_map, ← ite_map]
theorem push_size (w : World) (lb p eb : Nat) (n : Int) : (pushW w lb p eb n).heap.size = w.heap.size + 1 := by
  unfold pushW; rw [Go.Deep.nblk_alloc]; simp [World.setCell]
theorem push_new (w : World) (lb p eb : Nat) (n : Int) : (pushW w lb p eb n).heap[w.heap.size]? = some (.cells #[P lb, P p, P lb, .iface 95 (P eb)] 97) := by
  have := Go.Deep.blk_alloc_new (((w.setCell ⟨p, 0, none⟩ (P w.heap.size)).setCell ⟨lb, 1, none⟩ (P w.heap.size)).setCell ⟨lb, 4, none⟩ (.int .i64 (n + 1))) (.cells #[P lb, P p, P lb, .iface 95 (P eb)] 97)
  have e : (((w.setCell ⟨p, 0, none⟩ (P w.heap.size)).setCell ⟨lb, 1, none⟩ (P w.heap.size)).setCell ⟨lb, 4, none⟩ (.int .i64 (n + 1))).heap.size = w.heap.size := by simp [World.setCell]
  rw [e] at this
  exact this
theorem push_os (w : World) (lb p eb : Nat) (n : Int) : (pushW w lb p eb n).os = w.os ∧ (pushW w lb p eb n).tape = w.tape ∧ (pushW w lb p eb n).output = w.output := by
  unfold pushW
  simp only [World.setCell, World.alloc, and_self]

theorem push_list (k p a b s : Nat) (l v : Value) (f : Nat × Nat) : upC 4 v (upC 1 (P s) (if k = p then upC 0 (P s) (.cells #[P a, P b, N, .nilIface, l] 110 f) else .cells #[P a, P b, N, .nilIface, l] 110 f)) =
    .cells #[P (if k = p then s else a), P s, N, .nilIface, v] 110 f := by
  by_cases h1 : k = p <;> simp only [h1, if_true, if_false] <;> simp [upC]
theorem push_elem (k p a b s : Nat) (l v : Value) (f : Nat × Nat) : (if k = p then upC 0 (P s) (.cells #[P a, P b, l, v] 97 f) else .cells #[P a, P b, l, v] 97 f) =
    .cells #[P (if k = p then s else a), P b, l, v] 97 f := by
  by_cases h1 : k = p <;> simp only [h1, if_true, if_false] <;> simp [upC]

def pushedW (w : World) (lb mb p : Nat) (len : Nat) (n : Nd) (es : Array MapEntry) (c : Nat) : World := setBlock (pushW w lb p n.e (len : Nat)).drew mb (.map (es.push ⟨K n.i, P n.b, c⟩) (c + 1))

set_option maxHeartbeats 1000000 in
theorem Lim.pushed {w : World} {L lb mb : Nat} {nx pv : Nat → Nat} {ns : List Nd} (h : Lim w L lb mb nx pv ns) {es : Array MapEntry} {c : Nat} (hm : w.heap[mb]? = some (.map es c)) (hh : Holds es (ns.map fun n => (n.i, n.b)))
    (n : Nd) (hb : n.b = w.heap.size) (he : EntAt w n) (hi : n.i ≤ 65535) (hni : n.i ∉ ns.map (·.i)) (hlen : ns.length < 16384) :
    Lim (pushedW w lb mb (pv lb) ns.length n es c) L lb mb (upd (upd nx (pv lb) n.b) n.b lb) (upd (upd pv lb n.b) n.b (pv lb)) (ns ++ [n]) ∧ Kp (Own lb mb ns) w (pushedW w lb mb (pv lb) ns.length n es c) := by
  have hlt : ∀ x ∈ lb :: ns.map (·.b), x < w.heap.size := fun x hx => by obtain ⟨c, t, h1, _⟩ := h.row hx; exact lt_of_block h1
  have hnew : n.b ∉ lb :: ns.map (·.b) := fun hx => by have := hlt _ hx; omega
  obtain ⟨hring, hpl, _⟩ := ring_push h.ring h.nd hnew
  have hpm : pv lb ∈ lb :: ns.map (·.b) := by rw [hpl]; exact lastD_mem _ _
  have hplt := hlt _ hpm
  have hllt := hlt lb (by simp)
  have hmlt := lt_of_block hm
  have heap : ∀ k, k ≠ mb → (pushedW w lb mb (pv lb) ns.length n es c).heap[k]? = (pushW w lb (pv lb) n.e (ns.length : Nat)).heap[k]? := fun k hk => by
    unfold pushedW
    rw [hsetB, if_neg (fun x => hk x.1), drew_heap]
  have far : ∀ k, k < w.heap.size → ¬ Own lb mb ns k → (pushedW w lb mb (pv lb) ns.length n es c).heap[k]? = w.heap[k]? := fun k hk hf => by
    have k1 : k ≠ lb := fun e => hf (Or.inl e)
    have k2 : k ≠ mb := fun e => hf (Or.inr (Or.inl e))
    have k3 : k ≠ pv lb := fun e => by
      rw [e] at hf
      rcases List.mem_cons.1 hpm with h1 | h1
      · exact hf (Or.inl h1)
      · obtain ⟨m, hm, e2⟩ := List.mem_map.1 h1
        exact hf (Or.inr (Or.inr ⟨m, hm, e2.symm⟩))
    rw [heap k k2, push_heap _ _ _ _ _ _ hk]
    simp only [if_neg k3, if_neg k1]
    simp
  have kp : Kp (Own lb mb ns) w (pushedW w lb mb (pv lb) ns.length n es c) := by
    obtain ⟨o1, o2, o3⟩ := push_os w lb (pv lb) n.e (ns.length : Nat)
    exact ⟨o1, o2, o3, by simp only [pushedW, ChangeMaps.setBlock, Array.size_setIfInBounds, drew_heap, push_size]; omega, far⟩
  have hnb : n.b ≠ mb := by omega
  refine ⟨⟨?_, ?_, ?_, ?_, ?_, ?_, ?_, ?_, ?_, ?_⟩, kp⟩
  · obtain ⟨v0, v1, v2, hL⟩ := h.lim
    exact ⟨v0, v1, v2, kp.keep hL h.L_not⟩
  · have hln : lb ≠ n.b := by omega
    rw [heap lb (h.mb_ne (by simp)), push_heap _ _ _ _ _ _ hllt, h.lst, upd_ne _ _ hln, upd_ne _ _ hln, upd_at]
    simp only [Option.map_some, if_true]
    rw [push_list, upd_ite, hb]
    simp
  · intro m hm
    rw [List.mem_append, List.mem_singleton] at hm
    rcases hm with hm | rfl
    · have hmb : m.b ∈ lb :: ns.map (·.b) := by rw [List.mem_cons]; exact Or.inr (List.mem_map.2 ⟨m, hm, rfl⟩)
      have hmn : m.b ≠ n.b := by have := hlt _ hmb; omega
      have hml := h.ne hm
      rw [heap m.b (h.mb_ne hmb), push_heap _ _ _ _ _ _ (hlt _ hmb), h.elem m hm, upd_ne _ _ hmn, upd_ne _ _ hmn, upd_ne _ _ hml]
      simp only [Option.map_some, if_neg hml]
      rw [push_elem, upd_ite, hb]
    · rw [heap m.b hnb, hb, push_new, upd_at, upd_at]
  · intro m hm
    rw [List.mem_append, List.mem_singleton] at hm
    rcases hm with hm | rfl
    · exact kp.keep (h.ent m hm) (h.e_not (h.ent m hm))
    · exact kp.keep he (h.e_not he)
  · refine ⟨es.push ⟨K n.i, P n.b, c⟩, c + 1, ?_, ?_⟩
    · unfold pushedW
      rw [hsetB, if_pos ⟨rfl, by rw [drew_heap, push_size]; omega⟩]
    · rw [List.map_append]; exact hh.push n.i n.b c
  · rw [List.map_append]; exact hring
  · rw [List.map_append, List.nodup_append]
    refine ⟨h.nodup, by simp, fun a ha b hb' => ?_⟩
    simp at hb'
    subst hb'
    intro e
    exact hnew (by rw [← e, List.mem_cons]; exact Or.inr ha)
  · rw [List.map_append, List.nodup_append]
    refine ⟨h.idx, by simp, fun a ha b hb' => ?_⟩
    simp at hb'
    subst hb'
    rintro rfl
    exact hni ha
  · intro m hm
    rw [List.mem_append, List.mem_singleton] at hm
    rcases hm with hm | rfl
    · exact h.small m hm
    · exact hi
  · simp; omega

theorem pushBack_lim {w : World} {L lb mb : Nat} {nx pv : Nat → Nat} {ns : List Nd} (h : Lim w L lb mb nx pv ns) (eb : Nat) (hlen : ns.length < 16384) :
    Calls Try.prog 56 #[P lb, .iface 95 (P eb)] w fun e w' => e = .returned (P w.heap.size) ∧ w' = pushW w lb (pv lb) eb (ns.length : Nat) := by
  have hlt : ∀ x ∈ lb :: ns.map (·.b), x < w.heap.size := fun x hx => by obtain ⟨c, t, h1, _⟩ := h.row hx; exact lt_of_block h1
  obtain ⟨A, p, hA, hp⟩ := split_last lb (ns.map (·.b))
  have hr := h.ring
  have e1 : lb :: ns.map (·.b) ++ [lb] = A ++ p :: [lb] := by rw [hA]; simp
  rw [e1, ring_cut] at hr
  obtain ⟨_, h1, h2, _⟩ := hr
  have hpm : pv lb ∈ lb :: ns.map (·.b) := by rw [h2, hA]; simp
  exact pushBack_any lb (pv lb) (nx lb) eb (ns.length : Nat) w (by omega) (by omega) (hlt lb (by simp)) (hlt _ hpm) (h.c0 (by simp)) (h.c1 (by simp)) (by rw [h.c0 hpm, h2, h1]) h.c4 (h.fz (by simp) 1) (h.fz hpm 0) (h.fz (by simp) 4)
end Go.Proofs.Qxb6612554a
