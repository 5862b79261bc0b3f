import Derived.Test.Qxb6612554aSnap
import Derived.Test.Qxb6612554aBuild2
namespace Go.Proofs.Qxb6612554a
open Go.RowKit
open Go.ChangeMaps (setBlock)
set_option linter.unusedVariables false
set_option linter.unusedSimpArgs false
attribute [local go_sem ↓] Go.wp_at_zero Go.wp_at_succ exec51 exec46

/-- A record's cells. -/
def recL (n : Nd) : List Value := kc n.i ++ [.int .i64 n.f, .int .i64 n.lf, .int .i64 n.la, .int .i64 n.fl]
theorem recL_len (n : Nd) : (recL n).length = 36 := by simp [recL, kc_len]
def recs (ns : List Nd) : List Value := (ns.map recL).flatten
theorem info51 : (Try.prog.info? 51).map (fun i => (i.zero, i.size, i.bytes)) = some (some (.agg (Array.replicate 32 (.int .u8 0) ++ #[.int .i64 0, .int .i64 0, .int .i64 0, .int .i64 0])), 36, 64) := by kernel_rfl

structure SnSt (w : World) (L lb mb : Nat) (nx pv : Nat → Nat) (ns xs ys : List Nd) (g cap : Nat) (wr : World) : Prop where
  whole : ns = xs ++ ys
  lim : Lim wr L lb mb nx pv ns
  own : wr.ownsRow w.heap.size 51 36 (.slice (some ⟨g, 0, none⟩) xs.length cap) xs.length (recs xs)
  below : Below w.heap.size w wr

theorem wpList_store_new {ops : Array Oper} {rest : List Oper} {op : Oper} {a : Act} {Q : Exit → Act → World → Prop} (hgd : op.guard = none) (ty : TypeId) (x y : Operand) (ho : op.op = .store ty x y)
    (w2 : World) (c : Array Value) (t : TypeId) (hx : a.eval x = .pointer (some ⟨w2.heap.size, 0, none⟩)) (cells : Array Value) (hy : a.eval y = .agg cells) (hsz : cells.size = c.size)
    (hi : (Try.prog.info? ty).map (·.size) = some cells.size) (h1 : cells.all (·.oneCell') = true)
    (h : ∀ wk, Below w2.heap.size w2 wk → wk.rangeAt w2.heap.size 0 cells.toList → wpList Try.prog ops Q rest (a.put op.dst undef) wk) : wpList Try.prog ops Q (op :: rest) a (w2.alloc (.cells c t)) := by
  have ht : (w2.alloc (.cells c t)).there w2.heap.size 0 cells.size := fun j hj => by
    rw [Nat.zero_add]
    refine ⟨?_, frozen_of_block (Go.Deep.blk_alloc_new w2 _) j⟩
    rw [cell_of_block (Go.Deep.blk_alloc_new w2 _), Array.getElem?_eq_getElem (by omega)]; rfl
  refine wpList_store_mid hgd ty x y ho w2.heap.size 0 cells hx hy ht hi h1 (h _ ?_ ?_)
  · exact below_setCells _ (Nat.le_refl _) _ _ _ ((Below.refl _ _).alloc (Nat.le_refl _) _)
  · exact World.rangeAt_setCells_same _ _ _ _ (by simpa using ht)
theorem neq_self (b : Nat) (w : World) : (binOp .neq 37 (P b) (P b)).run Try.prog w = .ok (.bool false) w := by
  obtain ⟨j, h1, h2⟩ := info97
  exact Go.Lib.run_neq_ptr_same w _ Try.underlying37 h1

section
variable {w wr : World} {L lb mb g cap : Nat} {nx pv : Nat → Nat} {ns xs ys : List Nd} {n : Nd}
theorem SnSt.start {w1 : World} (h : Lim w L lb mb nx pv ns) (hown : w1.ownsRow w.heap.size 51 36 (.slice (some ⟨w.heap.size, 0, none⟩) 0 ns.length) 0 []) (hg : w.grownBy w1 none) : SnSt w L lb mb nx pv ns [] ns w.heap.size ns.length w1 := by
  have hb : Below w.heap.size w w1 := (Below.refl _ _).grown hg (Nat.le_refl _) (by intro k hk; cases hk)
  exact ⟨rfl, h.keep0 hb, hown, hb⟩
theorem own_below {w0 w1 w2 : World} {e size : Nat} {m : Nat} {rs : List Value} (h : w1.ownsRow w0.heap.size e size (.slice (some ⟨g, 0, none⟩) m cap) m rs) (hb : Below w1.heap.size w1 w2) : w2.ownsRow w0.heap.size e size (.slice (some ⟨g, 0, none⟩) m cap) m rs := by
  obtain ⟨h1, h2⟩ := h
  refine ⟨h1, ?_⟩
  rcases h2 with h2 | ⟨g', cap', cur, hv, hg, hh, r⟩
  · exact Or.inl h2
  · refine Or.inr ⟨g', cap', cur, hv, hg, ?_, r⟩
    rw [hb.block _ (lt_of_block hh)]; exact hh
theorem own_lt_row {w0 w1 : World} {e size : Nat} {m : Nat} {rs : List Value} (h : w1.ownsRow w0.heap.size e size (.slice (some ⟨g, 0, none⟩) m cap) m rs) : g < w1.heap.size := by
  obtain ⟨h1, h2⟩ := h
  rcases h2 with ⟨h2, _⟩ | ⟨g', cap', cur, hv, hg, hh, r⟩
  · cases h2
  · injection hv with hv; injection hv with hv; injection hv with hv; rw [hv]; exact lt_of_block hh
theorem SnSt.on {w1 : World} (h : SnSt w L lb mb nx pv ns xs ys g cap wr) (hb : Below wr.heap.size wr w1) : SnSt w L lb mb nx pv ns xs ys g cap w1 :=
  ⟨h.whole, h.lim.keep0 hb, own_below h.own hb, h.below.trans (hb.mono h.below.size)⟩
theorem SnSt.mid {w2 wk w5 : World} {cs : List Value} (h : SnSt w L lb mb nx pv ns xs ys g cap wr) (hb2 : Below wr.heap.size wr w2) (hbk : Below w2.heap.size w2 wk) (hb5 : Below wk.heap.size wk w5) (hr : wk.rangeAt w2.heap.size 0 cs) :
    SnSt w L lb mb nx pv ns xs ys g cap w5 ∧ w5.rangeAt w2.heap.size 0 cs ∧ g < w2.heap.size := by
  refine ⟨((h.on hb2).on hbk).on hb5, fun j v hv => ?_, ?_⟩
  · rw [hb5.cell (World.block_lt_of_cell? _ _ (hr j v hv))]; exact hr j v hv
  · have := own_lt_row h.own; have := hb2.size; omega
theorem range_below {w1 w2 : World} {KB : Nat} {cs : List Value} (hb : Below w1.heap.size w1 w2) (h : Hid (w1.rangeAt KB 0 cs)) : w2.rangeAt KB 0 cs := fun j v hv => by
  rw [hb.cell (World.block_lt_of_cell? _ _ (h.out j v hv))]; exact h.out j v hv
theorem range_alloc {w1 : World} {KB : Nat} {cs : List Value} {ob : Obj} (h : Hid (w1.rangeAt KB 0 cs)) : (w1.alloc ob).rangeAt KB 0 cs := range_below ((Below.refl _ _).alloc (Nat.le_refl _) _) h
theorem range_grown {w1 w2 : World} {KB m : Nat} {cs : List Value} (hg : w1.grownBy w2 (Value.slice (some ⟨g, 0, none⟩) m cap).ownBlock) (hk : g < KB) (h : Hid (w1.rangeAt KB 0 cs)) : w2.rangeAt KB 0 cs := fun j v hv => by
  rw [hg.cell_far _ (World.block_lt_of_cell? _ _ (h.out j v hv)) (by simp [Value.ownBlock]; omega)]; exact h.out j v hv
theorem own_chain {w0 w5 w6 w7 : World} {e size : Nat} {m : Nat} {rs : List Value} (h : w5.ownsRow w0.heap.size e size (.slice (some ⟨g, 0, none⟩) m cap) m rs) (h6 : Below w5.drew.heap.size w5.drew w6) (h7 : Below w6.heap.size w6 w7) (ob : Obj) : (w7.alloc ob).ownsRow w0.heap.size e size (.slice (some ⟨g, 0, none⟩) m cap) m rs :=
  own_below (own_below (own_below (w1 := w5.drew) h h6) h7) ((Below.refl _ _).alloc (Nat.le_refl _) _)
theorem SnSt.step {w6 w7 w9 : World} {ob : Obj} {gg cap' : Nat} (h : SnSt w L lb mb nx pv ns xs (n :: ys) g cap wr) (h6 : Below wr.drew.heap.size wr.drew w6) (h7 : Below w6.heap.size w6 w7)
    (hown : w9.ownsRow w.heap.size 51 36 (.slice (some ⟨gg, 0, none⟩) (xs.length + 1) cap') (xs.length + 1) (recs xs ++ recL n)) (hg : (w7.alloc ob).grownBy w9 (Value.slice (some ⟨g, 0, none⟩) xs.length cap).ownBlock) :
    SnSt w L lb mb nx pv ns (xs ++ [n]) ys gg cap' w9 := by
  have hb : Below wr.heap.size wr (w7.alloc ob) := by
    have h6' : Below wr.heap.size wr w6 := ⟨h6.os, h6.tape, h6.output, h6.size, h6.block⟩
    have z := h6'.size
    have z7 := h7.size
    exact (h6'.trans (h7.mono z)).alloc (by omega) ob
  have hst := h.on hb
  have hbase : w.heap.size ≤ g ∧ ∃ cur, (w7.alloc ob).heap[g]? = some (.cells cur 51 (0, 0)) := by
    obtain ⟨_, h2⟩ := hst.own
    rcases h2 with ⟨h2, _⟩ | ⟨g', cap', cur, hv, hg, hh, r⟩
    · cases h2
    · injection hv with hv; injection hv with hv; injection hv with hv; rw [hv]; exact ⟨hg, cur, hh⟩
  obtain ⟨hg0, cur, hcur⟩ := hbase
  have hkp : Kp (fun k => k = g) (w7.alloc ob) w9 := ⟨hg.os, hg.tape, hg.output, hg.size, fun k hk hne => hg.block k hk (by simp [Value.ownBlock]; exact hne)⟩
  have hne : ∀ {k : Nat} {c : Array Value} {t : TypeId}, (w7.alloc ob).heap[k]? = some (.cells c t (0, 0)) → t ≠ 51 → ¬ (k = g) := fun hk ht e => by
    rw [e, hcur] at hk; injection hk with hk; injection hk with _ hk _; exact ht hk.symm
  have p3 := hst.lim
  refine ⟨by rw [h.whole]; simp, p3.keep hkp ?_ ?_ ?_ ?_ ?_, ?_, hst.below.trans (hkp.below hst.below.size fun k hk => by rw [hk]; exact hg0)⟩
  · obtain ⟨v0, v1, v2, hL⟩ := p3.lim; exact hne hL (by decide)
  · exact hne p3.lst (by decide)
  · intro e; obtain ⟨m, c, hm, _⟩ := p3.map; rw [e, hcur] at hm; injection hm with hm; cases hm
  · intro n hn; exact hne (p3.elem n hn) (by decide)
  · intro n hn; exact hne (p3.ent n hn) (by decide)
  · have e : recs (xs ++ [n]) = recs xs ++ recL n := by simp [recs]
    rw [e]; simpa using hown
theorem SnSt.limAt {w9 : World} {gg cap' : Nat} (h : SnSt w L lb mb nx pv ns xs (n :: ys) g cap wr) (h9 : SnSt w L lb mb nx pv ns (xs ++ [n]) ys gg cap' w9) : Lim w9 L lb mb nx pv (xs ++ n :: ys) := by
  rw [← h.whole]; exact h9.lim
theorem rec_new (w7 : World) (n : Nd) : ∀ j u, (recL n)[j]? = some u → (w7.alloc (.cells (recL n).toArray 51)).cell? ((⟨w7.heap.size, 0, none⟩ : Addr).add j) = some u := fun j u hu =>
  World.news_of_block (cs := (recL n).toArray) (t := 51) (fr := (0, 0)) (Go.Deep.blk_alloc_new w7 _) j u hu
theorem rec_one (n : Nd) : ∀ u ∈ recL n, u.oneCell' = true := fun u hu => by
  unfold recL at hu
  rw [List.mem_append] at hu
  rcases hu with hu | hu
  · have := kc_one n.i
    exact (Array.all_eq_true_iff_forall_mem.1 this) u (by simpa using hu)
  · simp at hu
    rcases hu with rfl | rfl | rfl | rfl <;> rfl
end

set_option maxRecDepth 100000 in
set_option maxHeartbeats 1000000 in
theorem snapshot_any (L lb mb : Nat) (nx pv : Nat → Nat) (ns : List Nd) (w : World) (h : Lim w L lb mb nx pv ns) (hb : ∀ n ∈ ns, (-9223372036854775808 ≤ n.lf ∧ n.lf ≤ 9223372036854775807) ∧ (-9223372036854775808 ≤ n.la ∧ n.la ≤ 9223372036854775807)) :
    Calls Try.prog 30 #[P L, .int .i64 (ns.length : Nat)] w fun e w' => ∃ g cap, e = .returned (.tuple #[.slice (some ⟨g, 0, none⟩) ns.length cap, .bool true]) ∧ SnSt w L lb mb nx pv ns ns [] g cap w' := by
  have HL := hid h
  have HB := hid hb
  have hlen := h.few
  clear h hb
  obtain ⟨i0, hi, hz0, hz1, hz2⟩ := info_parts info51
  go_enter Try.func30, Try.ntmps30
  go_wp2_with (first | (at_make; refine wpList_make_own _ rfl _ _ 46 rfl w.heap.size 51 i0 _ 36 Try.underlying46 hi hz0 hz1 .i64 .i64 _ ns.length rfl rfl rfl (by rw [hz2]; omega) (by unfold maxLen; omega) (Nat.le_refl _) ?_; intro w1 hown hgrow) | (go_at_call 45; refine (zzFront_any (SnSt.start HL.out hown hgrow).lim).mono ?_; rintro e w' ⟨rfl, rfl⟩))
  have ST := hid (SnSt.start HL.out hown hgrow)
  clear hown hgrow
  go_loopg [6, 7, 8] ns.length (fun k out el st wr => ∃ xs ys g cap, k = ys.length ∧ out = .slice (some ⟨g, 0, none⟩) xs.length cap ∧ el = elP ys ∧ st = .int .i64 (xs.length : Nat) ∧ SnSt w L lb mb nx pv ns xs ys g cap wr)
  case atStart => exact ⟨[], ns, w.heap.size, ns.length, rfl, rfl, rfl, rfl, ST.out⟩
  case round =>
    obtain ⟨xs, ys, g, cap, rfl, rfl, rfl, rfl, hst⟩ := hrel
    clear ST
    have ST := hid hst
    clear hst
    cases ys with
    | nil =>
      have hw := ST.out.whole
      rw [List.append_nil] at hw
      subst hw
      have hnk := hid (zzNumKeys_any ST.out.lim)
      have hll := hid (zzListLen_any ST.out.lim)
      go_wp2_with (first | (go_at_call 52; refine hnk.out.mono ?_; rintro e w' ⟨rfl, rfl⟩) | (go_at_call 53; refine hll.out.mono ?_; rintro e w' ⟨rfl, rfl⟩))
      go_ret2
      exact ⟨g, cap, rfl, ST.out⟩
    | cons n r =>
      rw [elP_cons]
      have hxl : (xs.length : Int) < (ns.length : Int) := by rw [ST.out.whole]; simp; omega
      have hkey := hid (zzKey_any ST.out.lim (n := n) (by rw [ST.out.whole]; simp))
      have hne := neq_self n.b
      have hu := Try.underlying49
      have hin := info49
      have hlen32 := kc_len n.i
      go_wp2_with (first | (go_at_call 46; refine hkey.out.mono ?_; rintro e w2 ⟨rfl, hb2⟩) | (go_at_call 47; refine (zzKeyElem_any ((ST.out.lim.keep0 hb2).keep0 hbk) (n := n) (by rw [ST.out.whole]; simp)).mono ?_; rintro e w5 ⟨rfl, hb5⟩) | (refine wpList_store_new rfl 49 _ _ rfl w2 _ 49 rfl (kc n.i).toArray rfl (by rw [List.size_toArray, kc_len]; rfl) (by rw [List.size_toArray, kc_len]; exact info49) (kc_one n.i) ?_; intro wk hbk hrk) | (refine wpList_load_mid rfl 49 _ rfl w2.heap.size 0 rfl (kc n.i) _ hrk Try.underlying49 rfl (by rw [kc_len]; exact info49) ?_))
      obtain ⟨ST5, HR5, hKB⟩ := SnSt.mid ST.out hb2 hbk hb5 hrk
      clear ST hb2 hbk hb5 hrk hne hkey
      generalize w2.heap.size = KB at *
      have ST := hid ST5
      have HR := hid HR5
      clear ST5 HR5
      have hnm : n ∈ ns := by rw [ST.out.whole]; simp
      have HNM := hid hnm
      obtain ⟨⟨g0, g1⟩, g2, g3⟩ := HB.out n hnm
      clear hnm
      go_region_held3 (fun w' => w'.rangeAt KB 0 (kc n.i))
        (first | exact HR.out | assumption | exact range_below hb6 (hid ‹_›) | exact range_below hb7 (hid ‹_›) | exact range_alloc (hid ‹_›) | exact range_grown hgrow hKB (hid ‹_›))
        (first | (go_at_call 48; refine (zzFailures_any ST.out.lim.drew HNM.out).mono ?_; rintro e w' ⟨rfl, rfl⟩) | (go_at_call 49; refine (zzLastFailure_any ST.out.lim.drew HNM.out g0 g1).mono ?_; rintro e w6 ⟨rfl, hb6⟩) | (go_at_call 50; refine (zzLastAttempt_any (ST.out.lim.drew.keep0 hb6) HNM.out g2 g3).mono ?_; rintro e w7 ⟨rfl, hb7⟩) | (go_at_call 36; refine (zzInFlight_any ((ST.out.lim.drew.keep0 hb6).keep0 hb7) HNM.out).mono ?_; rintro e w' ⟨rfl, rfl⟩) | (refine step_append_lies _ (by rfl) _ _ _ (by rfl) w.heap.size 51 i0 _ 36 64 Try.underlying46 hi hz0 hz1 hz2 rfl (by omega) (.slice (some ⟨g, 0, none⟩) xs.length cap) xs.length (recs xs) (by rfl) (own_chain ST.out.own hb6 hb7 _) ⟨w7.heap.size, 0, none⟩ 1 1 (recL n) (by rfl) (by rw [recL_len]) (rec_new w7 n) (rec_one n) (by omega) (by unfold maxLen; omega) (by omega) (by have := ST.out.below.size; have := hb6.size; have := hb7.size; simp at *; omega) (w7.heap.size + 1) (by simp) ?_; intro gg cap' w9 hown9 hgrow hat hlt9))
      have ST9 := hid (SnSt.step ST.out hb6 hb7 hown9 hgrow)
      have hnx := hid (zzNext_any (SnSt.limAt ST.out ST9.out))
      clear HR hb6 hb7 hown9 hgrow hat hlt9 ST HNM
      go_wp2_with (first | (go_at_call 51; refine hnx.out.mono ?_; rintro e w' ⟨rfl, rfl⟩))
      go_roundg r.length
      case measure => simp
      case rel => exact ⟨xs ++ [n], r, gg, cap', rfl, by simp, rfl, by simp, ST9.out⟩
end Go.Proofs.Qxb6612554a
