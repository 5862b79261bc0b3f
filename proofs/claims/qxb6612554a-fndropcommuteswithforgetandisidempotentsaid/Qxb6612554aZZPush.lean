import Derived.Test.Qxb6612554aBuild
namespace Go.Proofs.Qxb6612554a
open Go.RowKit
open Go.ChangeMaps (setBlock)
set_option linter.unusedVariables false
set_option linter.unusedSimpArgs false
attribute [local go_sem ↓] Go.wp_at_zero Go.wp_at_succ exec94

/-- What ZZPush's first statement reads: the limiter's list, the key. -/
def PuS (L lb s i : Nat) (w' : World) : Prop := w'.cell? ⟨L, 4, none⟩ = some (P lb) ∧ w'.rangeAt s 0 (kc i)
theorem PuS.on {L lb s i : Nat} {w w' : World} (h : PuS L lb s i w) (hb : Below w.heap.size w w') : PuS L lb s i w' :=
  ⟨by rw [hb.cell (World.block_lt_of_cell? w _ h.1)]; exact h.1, fun j v hv => by rw [hb.cell (World.block_lt_of_cell? w _ (h.2 j v hv))]; exact h.2 j v hv⟩
theorem PuS.drew {L lb s i : Nat} {w : World} (h : PuS L lb s i w) : PuS L lb s i w.drew := h
theorem PuS.alloc {L lb s i : Nat} {w : World} (h : PuS L lb s i w) (ob : Obj) : PuS L lb s i (w.alloc ob) := h.on ((Below.refl _ _).alloc (Nat.le_refl _) _)
theorem PuS.start {w : World} {L lb mb : Nat} {nx pv : Nat → Nat} {ns : List Nd} (h : Lim w L lb mb nx pv ns) (i : Nat) : PuS L lb w.heap.size i (w.alloc (.cells (kc i).toArray 49)) := by
  refine ⟨(acell (World.block_lt_of_cell? w _ h.l4) _ _).trans h.l4, fun j v hv => ?_⟩
  rw [cell_of_block (Go.Deep.blk_alloc_new w _)]
  simpa using hv

theorem PuS.by {L lb s i : Nat} {w w' : World} (hb : Below w.heap.size w w') (h : Hid (PuS L lb s i w)) : PuS L lb s i w' := PuS.on h.out hb
theorem PuS.al {L lb s i : Nat} {w : World} {ob : Obj} (h : Hid (PuS L lb s i w)) : PuS L lb s i (w.alloc ob) := PuS.alloc h.out ob
theorem pv_mem {w : World} {L lb mb : Nat} {nx pv : Nat → Nat} {ns : List Nd} (h : Lim w L lb mb nx pv ns) : pv lb ∈ lb :: ns.map (·.b) := by
  obtain ⟨A, p, hA, hp⟩ := split_last lb (ns.map (·.b))
  have hr := h.ring
  have e1 : lb :: ns.map (·.b) ++ [lb] = A ++ p :: [lb] := by rw [hA]; simp
  rw [e1, ring_cut] at hr
  obtain ⟨_, h1, h2, _⟩ := hr
  rw [h2, hA]; simp
theorem push_far {w w3 : World} {L lb mb : Nat} {nx pv : Nat → Nat} {ns : List Nd} (h : Lim w L lb mb nx pv ns) {eb : Nat} {n : Int} {k : Nat} (hk : k < w3.heap.size) (hf : k ∉ lb :: ns.map (·.b)) : (pushW w3 lb (pv lb) eb n).heap[k]? = w3.heap[k]? := by
  have k1 : k ≠ lb := fun e => hf (by simp [e])
  have k3 : k ≠ pv lb := fun e => hf (by rw [e]; exact pv_mem h)
  rw [push_heap _ _ _ _ _ _ hk]
  simp only [if_neg k3, if_neg k1]
  simp
theorem PuS.pushed {w w3 w5 : World} {L lb mb i : Nat} {nx pv : Nat → Nat} {ns : List Nd} (h : Lim w L lb mb nx pv ns) {eb : Nat} {n : Int} (e : Hid (w5 = pushW w3 lb (pv lb) eb n)) (hS : Hid (PuS L lb w.heap.size i w3)) : PuS L lb w.heap.size i w5 := by
  have hlt : ∀ x ∈ lb :: ns.map (·.b), x < w.heap.size := fun x hx => by obtain ⟨c, t, h1, _⟩ := h.row hx; exact lt_of_block h1
  have hL : L ∉ lb :: ns.map (·.b) := fun hx => by
    refine h.L_not ?_
    rcases List.mem_cons.1 hx with h1 | h1
    · exact Or.inl h1
    · obtain ⟨m, hm, e2⟩ := List.mem_map.1 h1
      exact Or.inr (Or.inr ⟨m, hm, e2.symm⟩)
  have hs : w.heap.size ∉ lb :: ns.map (·.b) := fun hx => by have := hlt _ hx; omega
  obtain ⟨h1, h2⟩ := hS.out
  rw [e.out]
  refine ⟨?_, fun j v hv => ?_⟩
  · rw [← h1]; exact World.cell?_of_block (w := w3) (push_far h (World.block_lt_of_cell? w3 _ h1) hL)
  · rw [← h2 j v hv]; exact World.cell?_of_block (w := w3) (push_far h (World.block_lt_of_cell? w3 _ (h2 j v hv)) hs)
theorem lim_chain {w w1 w2 : World} {L lb mb : Nat} {nx pv : Nat → Nat} {ns : List Nd} {o0 : Obj} (h : Lim w L lb mb nx pv ns) (h1 : Below (w.alloc o0).drew.heap.size (w.alloc o0).drew w1) (h2 : Below w1.heap.size w1 w2) : Lim w2 L lb mb nx pv ns :=
  ((h.keep0 ((Below.refl _ _).alloc (Nat.le_refl _) o0)).drew.keep0 h1).keep0 h2

theorem push_fin {w w1 w2 w5 : World} {L lb mb i : Nat} {nx pv : Nat → Nat} {ns : List Nd} {o0 : Obj} {f lf la fl : Int} (h : Lim w L lb mb nx pv ns) (h1 : Below (w.alloc o0).drew.heap.size (w.alloc o0).drew w1) (h2 : Below w1.heap.size w1 w2)
    (e : w5 = pushW (w2.alloc (.cells (kc i ++ ([.int .i64 f, .int .u64 (tn lf), .int .i64 (ts lf), .pointer none, .int .u64 (tn la), .int .i64 (ts la), .pointer none, .int .i64 fl, .slice none 0 0] : List Value)).toArray 94)) lb (pv lb) w2.heap.size (ns.length : Nat))
    (hS : PuS L lb w.heap.size i w5) (hi : i ≤ 65535) (hni : i ∉ ns.map (·.i)) (hlen : ns.length < 16384) :
    ∃ (es : Array MapEntry) (c : Nat), w5.cell? ⟨L, 3, none⟩ = some (.map (some mb)) ∧ w5.rangeAt w.heap.size 0 (kc i) ∧ L ≠ mb ∧ w.heap.size ≠ mb ∧
      (Instr.mapUpdate 88 (.map (some mb)) (.agg (kc i).toArray) (P (w2.heap.size + 1))).run Try.prog w5.drew = .ok () (setBlock w5.drew mb (.map (es.push ⟨K i, P (w2.heap.size + 1), c⟩) (c + 1))) ∧
      ∃ b eb nx' pv', Ending.returned (P (w2.heap.size + 1)) = Ending.returned (P b) ∧ w.heap.size ≤ b ∧ w.heap.size ≤ eb ∧ Lim (setBlock w5.drew mb (.map (es.push ⟨K i, P (w2.heap.size + 1), c⟩) (c + 1))) L lb mb nx' pv' (ns ++ [⟨i, b, eb, f, lf, la, fl⟩]) ∧
        Kp (Own lb mb ns) w (setBlock w5.drew mb (.map (es.push ⟨K i, P (w2.heap.size + 1), c⟩) (c + 1))) := by
  have hw2 := lim_chain h h1 h2
  have b0 : Below w.heap.size w w2 := by
    have z1 := h1.size
    have z2 := h2.size
    have z0 : w.heap.size ≤ (w.alloc o0).drew.heap.size := by simp
    exact ((((Below.refl w.heap.size w).alloc (Nat.le_refl _) o0).drew).trans (h1.mono z0)).trans (h2.mono (Nat.le_trans z0 z1))
  have z := b0.size
  generalize hob : Obj.cells (kc i ++ ([.int .i64 f, .int .u64 (tn lf), .int .i64 (ts lf), .pointer none, .int .u64 (tn la), .int .i64 (ts la), .pointer none, .int .i64 fl, .slice none 0 0] : List Value)).toArray 94 (0, 0) = ob at *
  have b1 : Below w2.heap.size w2 (w2.alloc ob) := (Below.refl _ _).alloc (Nat.le_refl _) _
  have hws : Lim (w2.alloc ob) L lb mb nx pv ns := hw2.keep0 b1
  have hent : EntAt (w2.alloc ob) ⟨i, w2.heap.size + 1, w2.heap.size, f, lf, la, fl⟩ := by
    unfold EntAt
    rw [Go.Deep.blk_alloc_new, ← hob]; rfl
  obtain ⟨es, c, hm, hh⟩ := hws.map
  have hmb : ∀ x ∈ lb :: ns.map (·.b), x ≠ mb := fun x hx => hws.mb_ne hx
  have hm5 : w5.heap[mb]? = some (.map es c) := by
    rw [e, push_far hws (lt_of_block hm) (fun hx => hmb _ hx rfl)]; exact hm
  have hL5 : w5.cell? ⟨L, 3, none⟩ = some (.map (some mb)) := by
    have hL : L ∉ lb :: ns.map (·.b) := fun hx => by
      refine h.L_not ?_
      rcases List.mem_cons.1 hx with h1 | h1
      · exact Or.inl h1
      · obtain ⟨m, hm, e2⟩ := List.mem_map.1 h1
        exact Or.inr (Or.inr ⟨m, hm, e2.symm⟩)
    rw [e, ← hws.l3]; exact World.cell?_of_block (w := w2.alloc ob) (push_far hws (World.block_lt_of_cell? _ _ hws.l3) hL)
  have hsm : ∀ p ∈ ns.map (fun n => (n.i, n.b)), p.1 ≤ 65535 := fun p hp => by obtain ⟨m, hm, rfl⟩ := List.mem_map.1 hp; exact h.small m hm
  have hmlt : mb < w.heap.size := by obtain ⟨es, c, hm, _⟩ := h.map; exact lt_of_block hm
  have hfin := hws.pushed hm hh ⟨i, w2.heap.size + 1, w2.heap.size, f, lf, la, fl⟩ (by simp) hent hi hni hlen
  refine ⟨es, c, hL5, hS.2, fun e => h.L_not (Or.inr (Or.inl e)), by omega, upd_out hh hsm hi (by rwa [List.map_map]) (w := w5.drew) hm5, ?_⟩
  have hl := hfin.1
  have hk := hfin.2
  unfold pushedW at hl hk
  rw [← e] at hl hk
  exact ⟨w2.heap.size + 1, w2.heap.size, _, _, rfl, by omega, z, hl, (Kp.of_below b0).trans ((Kp.of_below b1).trans hk)⟩

set_option maxRecDepth 100000 in
set_option maxHeartbeats 1000000 in
theorem zzPush_any (L lb mb i : Nat) (nx pv : Nat → Nat) (ns : List Nd) (f lf la fl : Int) (w : World) (h : Lim w L lb mb nx pv ns) (hi : i ≤ 65535) (hni : i ∉ ns.map (·.i)) (hlen : ns.length < 16384)
    (a0 : -9223372036854775808 ≤ lf) (a1 : lf ≤ 9223372036854775807) (b0 : -9223372036854775808 ≤ la) (b1 : la ≤ 9223372036854775807) :
    Calls Try.prog 39 #[P L, K i, .int .i64 f, .int .i64 lf, .int .i64 la, .int .i64 fl] w fun e w' => ∃ b eb nx' pv', e = .returned (P b) ∧ w.heap.size ≤ b ∧ w.heap.size ≤ eb ∧ Lim w' L lb mb nx' pv' (ns ++ [⟨i, b, eb, f, lf, la, fl⟩]) ∧ Kp (Own lb mb ns) w w' := by
  have HH := hid h
  have S0 := hid (PuS.start h i)
  have HN := hid hni
  clear h hni
  have hu := Try.underlying49
  have hin := info49
  have hlen32 := kc_len i
  unfold K
  go_enter Try.func39, Try.ntmps39
  go_wp2
  go_region_held3 (fun w' => w'.cell? ⟨L, 4, none⟩ = some (P lb) ∧ w'.rangeAt w.heap.size 0 (kc i))
    (first | exact S0.out.drew | exact PuS.by hb1 (hid ‹_›) | exact PuS.by hb2 (hid ‹_›) | exact PuS.al (hid ‹_›) | exact PuS.pushed HH.out HW5 (hid ‹_›))
    (first | (go_at_call_of 41 (Value.int IntKind.i64 lf); refine (add_zero lf _ a0 a1).mono ?_; rintro e w1 ⟨rfl, hb1⟩) | (go_at_call_of 41 (Value.int IntKind.i64 la); refine (add_zero la _ b0 b1).mono ?_; rintro e w2 ⟨rfl, hb2⟩) | (go_at_call 56; refine (pushBack_lim ((lim_chain HH.out hb1 hb2).keep0 ((Below.refl _ _).alloc (Nat.le_refl _) _)) _ hlen).mono ?_; rintro e w5 ⟨rfl, hw5⟩; have HW5 := hid hw5; clear hw5))
  have hS5 : PuS L lb w.heap.size i w5 := by assumption
  have HF := hid (push_fin (f := f) (lf := lf) (la := la) (fl := fl) HH.out hb1 hb2 HW5.out hS5 hi HN.out hlen)
  clear S0 hS5
  go_wp2
  obtain ⟨es, c, h3, hr5, n1, n2, hupd, hfin⟩ := HF.out
  have HF := hid hfin
  clear hfin
  go_region_held3 (fun w' => w'.cell? ⟨L, 3, none⟩ = some (.map (some mb)) ∧ w'.rangeAt w.heap.size 0 (kc i))
    (first | exact ⟨h3, hr5⟩ | exact ⟨(cell_setBlock n1 _).trans h3, range_setBlock n2 hr5⟩) (fail)
  go_wp2
  go_ret
  exact HF.out
end Go.Proofs.Qxb6612554a
