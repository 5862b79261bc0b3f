import Derived.Test.Qxb6612554aDrop
import Derived.Deep.LoopGhost
namespace Go.Proofs.Qxb6612554a
open Go.RowKit
open Go.ChangeMaps (setBlock)
set_option linter.unusedVariables false
set_option linter.unusedSimpArgs false
attribute [local go_sem ↓] Go.wp_at_zero Go.wp_at_succ

def fresh (now : Int) (n : Nd) : Bool := decide (clamp (now - n.la) < 900000000000)
def busy (n : Nd) : Bool := n.fl != 0
/-- What 'forget' leaves. -/
def forgetL (now : Int) : List Nd → List Nd
  | [] => []
  | n :: r => if fresh now n then n :: r else if busy n then n :: forgetL now r else forgetL now r

def elA (ys : List Nd) : Option Addr := ys.head?.map fun n => ⟨n.b, 0, none⟩
abbrev elP (ys : List Nd) : Value := .pointer (elA ys)
theorem elP_cons (n : Nd) (ys : List Nd) : elP (n :: ys) = P n.b := rfl
theorem elP_nil : elP [] = N := rfl

theorem ret_val {a b : Value} (h : a = b) : Ending.returned a = .returned b := by rw [h]

theorem front_lim {w : World} {L lb mb : Nat} {nx pv : Nat → Nat} {ns : List Nd} (h : Lim w L lb mb nx pv ns) : Calls Try.prog 57 #[P lb] w fun e w' => e = .returned (elP ns) ∧ w = w' := by
  cases ns with
  | nil => exact front_nil lb w (by have := h.c4; simpa using this)
  | cons n r =>
    have hr := h.ring
    simp only [List.map_cons, List.cons_append, Ring] at hr
    exact front_cons lb n.b ((n :: r).length : Nat) w (by simp; omega) (by rw [h.c0 (by simp), hr.1]) h.c4
theorem next_lim {w : World} {L lb mb : Nat} {nx pv : Nat → Nat} {xs ys : List Nd} {n : Nd} (h : Lim w L lb mb nx pv (xs ++ n :: ys)) : Calls Try.prog 59 #[P n.b] w fun e w' => e = .returned (elP ys) ∧ w = w' := by
  obtain ⟨hp, hq, hl, hpm, hqm, e1, e2, e3⟩ := h.facts
  have hn : n ∈ xs ++ n :: ys := by simp
  have hnm : n.b ∈ lb :: (xs ++ n :: ys).map (·.b) := by rw [List.mem_cons]; exact Or.inr (List.mem_map.2 ⟨n, hn, rfl⟩)
  cases ys with
  | nil => exact next_last lb n.b w (h.plain (by simp)) (by rw [h.c0 hnm, e3]; rfl) (h.c2 hn)
  | cons m r =>
    have hm : m ∈ xs ++ n :: m :: r := by simp
    exact next_more lb n.b m.b w (h.ne hm) (h.plain (by simp)) (h.plain (by rw [List.mem_cons]; exact Or.inr (List.mem_map.2 ⟨m, hm, rfl⟩))) (by rw [h.c0 hnm, e3]; rfl) (h.c2 hn)

/-- The state at the loop's head. -/
structure FgSt (w : World) (L lb mb B : Nat) (now : Int) (ns : List Nd) (nx pv : Nat → Nat) (zs ys : List Nd) (wr : World) : Prop where
  whole : ns = zs ++ ys
  lim : Lim wr L lb mb nx pv (zs.filter busy ++ ys)
  goes : forgetL now ns = zs.filter busy ++ forgetL now ys
  gone : ∀ n ∈ zs, busy n = false → Gone wr n
  kp : Kp (Own lb mb ns) w wr
  box : wr.heap[B]? = some (.cells #[.int .u64 (tn now), .int .i64 (ts now), N] 63 (0, 0))

theorem FgSt.start {w : World} {L lb mb : Nat} {nx pv : Nat → Nat} {ns : List Nd} (h : Lim w L lb mb nx pv ns) (now : Int) : FgSt w L lb mb w.heap.size now ns nx pv [] ns (w.alloc (.cells #[.int .u64 (tn now), .int .i64 (ts now), N] 63)) := by
  have hb : Below w.heap.size w (w.alloc (.cells #[.int .u64 (tn now), .int .i64 (ts now), N] 63)) := (Below.refl _ _).alloc (Nat.le_refl _) _
  exact ⟨rfl, h.keep0 hb, rfl, fun n hn => by simp at hn, Kp.of_below hb, by rw [Go.Deep.blk_alloc_new]⟩

section
variable {w : World} {L lb mb B : Nat} {now : Int} {ns : List Nd} {nx pv : Nat → Nat} {zs ys : List Nd} {wr : World} {n : Nd}
theorem FgSt.atEnd (h : FgSt w L lb mb B now ns nx pv zs [] wr) : ∃ nx' pv', Lim wr L lb mb nx' pv' (forgetL now ns) ∧ (∀ n ∈ ns, n ∉ forgetL now ns → Gone wr n) ∧ Kp (Own lb mb ns) w wr := by
  refine ⟨nx, pv, ?_, fun n hn hx => ?_, h.kp⟩
  · rw [h.goes]; exact h.lim
  · rw [h.goes] at hx
    rw [h.whole] at hn
    simp [forgetL] at hn hx
    exact h.gone n hn (hx hn)
theorem FgSt.la (h : FgSt w L lb mb B now ns nx pv zs (n :: ys) wr) (hla : ∀ n ∈ ns, -9223372036854775808 ≤ n.la ∧ n.la ≤ 9223372036854775807) : -9223372036854775808 ≤ n.la ∧ n.la ≤ 9223372036854775807 :=
  hla n (by rw [h.whole]; simp)
/-- What the test reads. -/
def FgCells (B : Nat) (now : Int) (n : Nd) (wr w' : World) : Prop :=
  w'.cell? ⟨B, 0, none⟩ = some (.int .u64 (tn now)) ∧ w'.cell? ⟨B, 1, none⟩ = some (.int .i64 (ts now)) ∧ w'.cell? ⟨B, 2, none⟩ = some N ∧ w'.cell? ⟨n.e, 36, none⟩ = some (.int .u64 (tn n.la)) ∧ w'.cell? ⟨n.e, 37, none⟩ = some (.int .i64 (ts n.la)) ∧ w'.cell? ⟨n.e, 38, none⟩ = some N ∧ Below wr.heap.size wr w'
theorem ent_cell {w : World} {n : Nd} (h : EntAt w n) (j : Nat) : w.cell? ⟨n.e, 32 + j, none⟩ = (entT n)[j]? := by
  rw [cell_of_block h]
  simp only [List.getElem?_toArray, entL]
  rw [List.getElem?_append_right (by rw [kc_len]; omega), kc_len, Nat.add_sub_cancel_left]
theorem FgSt.cells (h : FgSt w L lb mb B now ns nx pv zs (n :: ys) wr) : FgCells B now n wr wr := by
  have he := h.lim.ent n (by simp)
  refine ⟨by rw [cell_of_block h.box]; rfl, by rw [cell_of_block h.box]; rfl, by rw [cell_of_block h.box]; rfl, ?_, ?_, ?_, Below.refl _ _⟩
  · exact ent_cell he 4
  · exact ent_cell he 5
  · exact ent_cell he 6
theorem FgCells.drew {w' : World} (h : FgCells B now n wr w') : FgCells B now n wr w'.drew := by
  obtain ⟨a, b, c, d, e, f, g⟩ := h
  exact ⟨a, b, c, d, e, f, g.drew⟩
theorem FgCells.on {w' w1 : World} (h0 : FgCells B now n wr wr) (hb : Below w'.heap.size w' w1) (h : Hid (FgCells B now n wr w')) : FgCells B now n wr w1 := by
  have hg := h.out.2.2.2.2.2.2
  have h2 : Below wr.heap.size wr w1 := hg.trans (hb.mono hg.size)
  obtain ⟨a, b, c, d, e, f, g⟩ := h0
  refine ⟨?_, ?_, ?_, ?_, ?_, ?_, h2⟩
  · rw [h2.cell (World.block_lt_of_cell? wr _ a)]; exact a
  · rw [h2.cell (World.block_lt_of_cell? wr _ b)]; exact b
  · rw [h2.cell (World.block_lt_of_cell? wr _ c)]; exact c
  · rw [h2.cell (World.block_lt_of_cell? wr _ d)]; exact d
  · rw [h2.cell (World.block_lt_of_cell? wr _ e)]; exact e
  · rw [h2.cell (World.block_lt_of_cell? wr _ f)]; exact f
theorem Gone.below {w w' : World} (h : Gone w n) (hb : Below w.heap.size w w') : Gone w' n :=
  ⟨by rw [hb.block _ (lt_of_block h.1)]; exact h.1, by unfold EntAt; rw [hb.block _ (lt_of_block h.2)]; exact h.2⟩
theorem FgSt.below {w1 : World} (h : FgSt w L lb mb B now ns nx pv zs ys wr) (hb : Below wr.heap.size wr w1) : FgSt w L lb mb B now ns nx pv zs ys w1 :=
  ⟨h.whole, h.lim.keep0 hb, h.goes, fun n hn hx => (h.gone n hn hx).below hb, h.kp.trans (Kp.of_below hb), by rw [hb.block _ (lt_of_block h.box)]; exact h.box⟩
theorem FgSt.atFresh (h : FgSt w L lb mb B now ns nx pv zs (n :: ys) wr) (hf : fresh now n = true) : ∃ nx' pv', Lim wr L lb mb nx' pv' (forgetL now ns) ∧ (∀ n ∈ ns, n ∉ forgetL now ns → Gone wr n) ∧ Kp (Own lb mb ns) w wr := by
  have hg : forgetL now ns = zs.filter busy ++ n :: ys := by rw [h.goes]; simp [forgetL, hf]
  refine ⟨nx, pv, ?_, fun m hm hx => ?_, h.kp⟩
  · rw [hg]; exact h.lim
  · rw [hg] at hx
    rw [h.whole] at hm
    simp at hm hx
    rcases hm with hm | hm | hm
    · exact h.gone m hm (hx.1 hm)
    · exact absurd hm hx.2.1
    · exact absurd hm hx.2.2
theorem FgSt.passed (h : FgSt w L lb mb B now ns nx pv zs (n :: ys) wr) (hf : fresh now n = false) (hb : busy n = true) : FgSt w L lb mb B now ns nx pv (zs ++ [n]) ys wr := by
  refine ⟨by rw [h.whole]; simp, ?_, ?_, ?_, h.kp, h.box⟩
  · have := h.lim; simpa [hb] using this
  · rw [h.goes]; simp [forgetL, hf, hb]
  · intro m hm hx
    rw [List.mem_append, List.mem_singleton] at hm
    rcases hm with hm | rfl
    · exact h.gone m hm hx
    · rw [hb] at hx; cases hx
theorem FgSt.dropped {nx' pv' : Nat → Nat} {w2 : World} (h : FgSt w L lb mb B now ns nx pv zs (n :: ys) wr) (hf : fresh now n = false) (hb : busy n = false) (hl : Lim w2 L lb mb nx' pv' (zs.filter busy ++ ys)) (hg : Gone w2 n) (hk : Kp (Own lb mb (zs.filter busy ++ n :: ys)) wr w2) :
    FgSt w L lb mb B now ns nx' pv' (zs ++ [n]) ys w2 := by
  have hk' : Kp (Own lb mb ns) wr w2 := hk.mono fun k _ hf => by
    rcases hf with hf | hf | ⟨m, hm, e⟩
    · exact Or.inl hf
    · exact Or.inr (Or.inl hf)
    · refine Or.inr (Or.inr ⟨m, ?_, e⟩)
      rw [h.whole]
      rw [List.mem_append] at hm ⊢
      rcases hm with hm | hm
      · exact Or.inl (List.mem_filter.1 hm).1
      · exact Or.inr hm
  have hnot : ∀ {b : Nat} {c : Array Value} {t : TypeId}, wr.heap[b]? = some (.cells c t (0, 0)) → t ≠ 97 → t ≠ 110 → ¬ Own lb mb (zs.filter busy ++ n :: ys) b := by
    intro b c t hb h1 h2
    rintro (rfl | rfl | ⟨m, hm, rfl⟩)
    · rw [h.lim.lst] at hb; injection hb with hb; injection hb with _ hb _; exact h2 hb.symm
    · obtain ⟨es, cl, hm, _⟩ := h.lim.map; rw [hm] at hb; injection hb with hb; cases hb
    · rw [h.lim.elem m hm] at hb; injection hb with hb; injection hb with _ hb _; exact h1 hb.symm
  refine ⟨by rw [h.whole]; simp, ?_, ?_, ?_, h.kp.trans hk', hk.keep h.box (hnot h.box (by decide) (by decide))⟩
  · have := hl; simpa [hb] using this
  · rw [h.goes]; simp [forgetL, hf, hb]
  · intro m hm hx
    rw [List.mem_append, List.mem_singleton] at hm
    rcases hm with hm | rfl
    · have hgm := h.gone m hm hx
      refine ⟨hk.keep hgm.1 ?_, hk.keep hgm.2 (hnot hgm.2 (by decide) (by decide))⟩
      rintro (e | e | ⟨m', hm', e⟩)
      · have := h.lim.lst; rw [← e, hgm.1] at this; injection this with this; injection this with _ this _; cases this
      · obtain ⟨es, cl, hmm, _⟩ := h.lim.map; rw [← e, hgm.1] at hmm; injection hmm with hmm; cases hmm
      · have := h.lim.elem m' hm'; rw [← e, hgm.1] at this; injection this with this; injection this with this _ _; simp at this
    · exact hg
end

set_option maxRecDepth 100000 in
set_option maxHeartbeats 1000000 in
theorem forget_any (L lb mb : Nat) (nx pv : Nat → Nat) (ns : List Nd) (now : Int) (w : World) (h : Lim w L lb mb nx pv ns) (hn0 : -9223372036854775808 ≤ now) (hn1 : now ≤ 9223372036854775807) (hla : ∀ n ∈ ns, -9223372036854775808 ≤ n.la ∧ n.la ≤ 9223372036854775807) :
    Calls Try.prog 40 #[P L, T now] w fun e w' => e = .returned (.tuple #[]) ∧ ∃ nx' pv', Lim w' L lb mb nx' pv' (forgetL now ns) ∧ (∀ n ∈ ns, n ∉ forgetL now ns → Gone w' n) ∧ Kp (Own lb mb ns) w w' := by
  have HH := hid h
  have HL := hid hla
  have l4 := h.l4
  clear h hla
  have hlt : L < w.heap.size := World.block_lt_of_cell? w _ l4
  go_enter Try.func40, Try.ntmps40
  go_wp2_with fail
  have h0 : Lim (w.alloc (.cells #[.int .u64 (tn now), .int .i64 (ts now), N] 63)) L lb mb nx pv ns := HH.out.keep0 ((Below.refl _ _).alloc (Nat.le_refl _) _)
  have hst := hid (FgSt.start HH.out now)
  refine (front_lim h0).mono ?_
  rintro e w' ⟨rfl, rfl⟩
  clear h0
  generalize (w.alloc (.cells #[.int .u64 (tn now), .int .i64 (ts now), N] 63)) = w0 at *
  go_wp2
  go_loopg [4] ns.length (fun k el wr => ∃ nx pv zs ys, k = ys.length ∧ el = elP ys ∧ FgSt w L lb mb w.heap.size now ns nx pv zs ys wr)
  case atStart => exact ⟨nx, pv, [], ns, rfl, rfl, hst.out⟩
  case round =>
    obtain ⟨nx, pv, zs, ys, rfl, rfl, st⟩ := hrel
    have ST := hid st
    clear st
    cases ys with
    | nil =>
      go_wp2
      go_end0
      exact ⟨rfl, ST.out.atEnd⟩
    | cons n r =>
      rw [elP_cons]
      obtain ⟨q0, q1⟩ := ST.out.la HL.out
      have c3 := ST.out.lim.c3 (n := n) (by simp)
      have hta := tassert n.e
      have SS := hid (ST.out.cells)
      go_wp2
      go_region_held3 (fun w' => w'.cell? ⟨w.heap.size, 0, none⟩ = some (.int .u64 (tn now)) ∧ w'.cell? ⟨w.heap.size, 1, none⟩ = some (.int .i64 (ts now)) ∧ w'.cell? ⟨w.heap.size, 2, none⟩ = some N ∧ w'.cell? ⟨n.e, 36, none⟩ = some (.int .u64 (tn n.la)) ∧ w'.cell? ⟨n.e, 37, none⟩ = some (.int .i64 (ts n.la)) ∧ w'.cell? ⟨n.e, 38, none⟩ = some N ∧ Below wr.heap.size wr w')
        (first | (exact SS.out.drew) | (exact FgCells.on SS.out hb1 (hid ‹_›))) (first | (go_at_call 58; refine (sub_any now n.la _ hn0 hn1 q0 q1).mono ?_; rintro e w1 ⟨rfl, hb1⟩))
      have hs : FgCells w.heap.size now n wr w1 := by assumption
      have hbl := hs.2.2.2.2.2.2
      have st1 := ST.out.below hbl
      clear hs hbl ST SS c3 hb1
      have ST := hid st1
      have hnx := hid (next_lim st1.lim)
      have c39 : w1.cell? ⟨n.e, 39, none⟩ = some (.int .i64 n.fl) := ent_cell (st1.lim.ent n (by simp)) 7
      clear st1
      by_cases hf : clamp (now - n.la) < 900000000000
      · go_wp2
        refine bodyPost_ret (results_none rfl _ _ _) rfl ?_
        exact ⟨rfl, ST.out.atFresh (by simpa [fresh] using hf)⟩
      · have hf' : decide (clamp (now - n.la) < 900000000000) = false := by simpa using hf
        by_cases hz : n.fl = 0
        · have hz' : (n.fl == 0) = true := by simpa using hz
          go_wp2_with (first | (go_at_call 59; refine hnx.out.mono ?_; rintro e w' ⟨rfl, rfl⟩) | (go_at_call 43; refine (drop_in ST.out.lim).mono ?_; rintro e w2 ⟨rfl, hw2⟩))
          obtain ⟨nx', pv', hl2, hg2, hk2⟩ := hw2
          go_roundg r.length
          case measure => simp
          case rel => exact ⟨nx', pv', zs ++ [n], r, rfl, rfl, ST.out.dropped (by simpa [fresh] using hf) (by simp [busy, hz]) hl2 hg2 hk2⟩
        · have hz' : (n.fl == 0) = false := by simpa using hz
          go_wp2_with (first | (go_at_call 59; refine hnx.out.mono ?_; rintro e w' ⟨rfl, rfl⟩))
          go_roundg r.length
          case measure => simp
          case rel => exact ⟨nx, pv, zs ++ [n], r, rfl, rfl, ST.out.passed (by simpa [fresh] using hf) (by simp [busy, hz])⟩
end Go.Proofs.Qxb6612554a
