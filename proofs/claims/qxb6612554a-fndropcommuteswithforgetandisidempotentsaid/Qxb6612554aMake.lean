import Derived.Test.Qxb6612554aNew
import Derived.Test.Qxb6612554aEs
namespace Go.Proofs.Qxb6612554a
open Go.RowKit
open Go.ChangeMaps (setBlock)
set_option linter.unusedVariables false
set_option linter.unusedSimpArgs false
attribute [local go_sem ↓] Go.wp_at_zero Go.wp_at_succ

/-- The nodes are the entries, in order. -/
def Made (es : List En) (ns : List Nd) : Prop := ∀ (j : Nat) (n : Nd), ns[j]? = some n → n.i = j ∧ es[j]? = some ⟨n.f, n.lf, n.la, n.fl⟩
def elsF (ns : List Nd) (j : Nat) : Value := match ns[j]? with
  | some n => P n.b
  | none => N
/-- The state at the loop's head. -/
structure BuSt (w : World) (B G : Nat) (es : List En) (nx pv : Nat → Nat) (ns : List Nd) (wr : World) : Prop where
  lim : Lim wr (B + 2) (B + 1) B nx pv ns
  made : Made es ns
  row : wr.rowIs G 37 es.length (elsF ns)
  own : w.heap.size ≤ B ∧ ∀ n ∈ ns, w.heap.size ≤ n.b
  ents : ∀ n ∈ ns, w.heap.size ≤ n.e
  g : w.heap.size ≤ G
  below : Below w.heap.size w wr
/-- The copy of the entry. -/
def BuS (E : Nat) (x : En) (w' : World) : Prop := w'.cell? ⟨E, 0, none⟩ = some (.int .i64 x.f) ∧ w'.cell? ⟨E, 1, none⟩ = some (.int .i64 x.lf) ∧ w'.cell? ⟨E, 2, none⟩ = some (.int .i64 x.la) ∧ w'.cell? ⟨E, 3, none⟩ = some (.int .i64 x.fl)

section
variable {w : World} {B G : Nat} {es : List En} {nx pv : Nat → Nat} {ns : List Nd} {wr : World}
theorem BuSt.start {w1 : World} (hB : w.heap.size ≤ B) (hL : Lim w1 (B + 2) (B + 1) B nx pv []) (hb : Below w.heap.size w w1) : BuSt w B w1.heap.size es nx pv [] (w1.alloc (.cells (madeCells #[N] es.length) 37)) := by
  have h2 : Below w1.heap.size w1 (w1.alloc (.cells (madeCells #[N] es.length) 37)) := (Below.refl _ _).alloc (Nat.le_refl _) _
  refine ⟨hL.keep0 h2, fun j n h => by simp at h, ?_, ⟨hB, fun n hn => by simp at hn⟩, fun n hn => by simp at hn, hb.size, hb.trans (h2.mono hb.size)⟩
  exact (World.rowIs_made w1 N es.length 37).congr fun i _ => by simp [elsF]
theorem BuS.start (wr : World) (x : En) : BuS wr.heap.size x (wr.alloc (.cells #[.int .i64 x.f, .int .i64 x.lf, .int .i64 x.la, .int .i64 x.fl] 40)) := by
  refine ⟨?_, ?_, ?_, ?_⟩ <;> (rw [cell_of_block (Go.Deep.blk_alloc_new wr _)]; rfl)
theorem BuS.drew {E : Nat} {x : En} {w' : World} (h : BuS E x w') : BuS E x w'.drew := h
theorem BuS.by {E : Nat} {x : En} {w1 w2 : World} (hb : Below w1.heap.size w1 w2) (h : Hid (BuS E x w1)) : BuS E x w2 := by
  obtain ⟨a, b, c, d⟩ := h.out
  refine ⟨?_, ?_, ?_, ?_⟩
  · rw [hb.cell (World.block_lt_of_cell? _ _ a)]; exact a
  · rw [hb.cell (World.block_lt_of_cell? _ _ b)]; exact b
  · rw [hb.cell (World.block_lt_of_cell? _ _ c)]; exact c
  · rw [hb.cell (World.block_lt_of_cell? _ _ d)]; exact d
/-- The limiter in the world in which ZZPush is called. -/
theorem BuSt.chain {o0 : Obj} {w1 : World} (h : BuSt w B G es nx pv ns wr) (hb : Below (wr.alloc o0).drew.heap.size (wr.alloc o0).drew w1) : Lim w1 (B + 2) (B + 1) B nx pv ns :=
  (h.lim.keep0 ((Below.refl _ _).alloc (Nat.le_refl _) o0)).drew.keep0 hb
theorem BuSt.new (h : BuSt w B G es nx pv ns wr) : ns.length ∉ ns.map (·.i) := fun hm => by
  obtain ⟨n, hn, e⟩ := List.mem_map.1 hm
  obtain ⟨j, hj⟩ := List.getElem?_of_mem hn
  have := (h.made j n hj).1
  have hlt := (List.getElem?_eq_some_iff.1 hj).1
  omega
theorem BuSt.b0 {o0 : Obj} {w1 : World} (hb : Below (wr.alloc o0).drew.heap.size (wr.alloc o0).drew w1) : Below wr.heap.size wr w1 :=
  (((Below.refl wr.heap.size wr).alloc (Nat.le_refl _) o0).drew).trans (hb.mono (by simp))
theorem own_lt {L lb mb : Nat} (h : Lim wr L lb mb nx pv ns) {k : Nat} (hk : Own lb mb ns k) : k < wr.heap.size := by
  rcases hk with rfl | rfl | ⟨n, hn, rfl⟩
  · exact lt_of_block h.lst
  · obtain ⟨es, c, hm, _⟩ := h.map; exact lt_of_block hm
  · exact lt_of_block (h.elem n hn)
theorem BuSt.G_not (h : BuSt w B G es nx pv ns wr) : ¬ Own (B + 1) B ns G := by
  obtain ⟨c, hb, _⟩ := h.row
  rintro (e | e | ⟨n, hn, e⟩)
  · have := h.lim.lst; rw [← e, hb] at this; injection this with this; injection this with _ this _; cases this
  · obtain ⟨m, c2, hm, _⟩ := h.lim.map; rw [← e, hb] at hm; injection hm with hm; cases hm
  · have := h.lim.elem n hn; rw [← e, hb] at this; injection this with this; injection this with _ this _; cases this
theorem BuSt.keepG {o0 : Obj} {w1 w2 : World} (h : BuSt w B G es nx pv ns wr) (hb : Below (wr.alloc o0).drew.heap.size (wr.alloc o0).drew w1) (hk : Kp (Own (B + 1) B ns) w1 w2) (hl : ns.length < es.length) :
    w2.cell? ⟨G, ns.length, none⟩ = some N ∧ w2.frozen? ⟨G, ns.length, none⟩ = false := by
  obtain ⟨c, hc, h1, h2⟩ := h.row
  have hb0 := BuSt.b0 hb
  have e1 : w1.heap[G]? = some (.cells c 37 (0, 0)) := by rw [hb0.block G (lt_of_block hc)]; exact hc
  have e2 := hk.keep e1 h.G_not
  refine ⟨by rw [cell_of_block e2, h2 _ hl]; simp [elsF], frozen_of_block e2 _⟩
theorem BuS.pushed {x : En} {w1 w2 : World} (h : BuSt w B G es nx pv ns wr) (hk : Kp (Own (B + 1) B ns) w1 w2) (hs : Hid (BuS wr.heap.size x w1)) : BuS wr.heap.size x w2 := by
  have hn : ¬ Own (B + 1) B ns wr.heap.size := fun ho => by have := own_lt h.lim ho; omega
  obtain ⟨a, b, c, d⟩ := hs.out
  have e := hk.block _ (World.block_lt_of_cell? _ _ a) hn
  refine ⟨?_, ?_, ?_, ?_⟩
  · rw [← a]; exact World.cell?_of_block (w := w1) e
  · rw [← b]; exact World.cell?_of_block (w := w1) e
  · rw [← c]; exact World.cell?_of_block (w := w1) e
  · rw [← d]; exact World.cell?_of_block (w := w1) e
theorem BuS.stored {x : En} {w2 : World} {v : Value} (h : BuSt w B G es nx pv ns wr) (hs : Hid (BuS wr.heap.size x w2)) : BuS wr.heap.size x (w2.setCell ⟨G, ns.length, none⟩ v) := by
  have hn : wr.heap.size ≠ G := by have := h.row.lt; omega
  obtain ⟨a, b, c, d⟩ := hs.out
  have e : (w2.setCell ⟨G, ns.length, none⟩ v).heap[wr.heap.size]? = w2.heap[wr.heap.size]? := by rw [hset, if_neg hn]
  refine ⟨?_, ?_, ?_, ?_⟩
  · rw [← a]; exact World.cell?_of_block (w := w2) e
  · rw [← b]; exact World.cell?_of_block (w := w2) e
  · rw [← c]; exact World.cell?_of_block (w := w2) e
  · rw [← d]; exact World.cell?_of_block (w := w2) e
theorem BuSt.step {o0 : Obj} {w1 w2 : World} {x : En} {b2 eb : Nat} {nx' pv' : Nat → Nat} (h : BuSt w B G es nx pv ns wr) (hb : Below (wr.alloc o0).drew.heap.size (wr.alloc o0).drew w1)
    (hp : w1.heap.size ≤ b2 ∧ w1.heap.size ≤ eb ∧ Lim w2 (B + 2) (B + 1) B nx' pv' (ns ++ [⟨ns.length, b2, eb, x.f, x.lf, x.la, x.fl⟩]) ∧ Kp (Own (B + 1) B ns) w1 w2) (hx : es[ns.length]? = some x) (hl : ns.length < es.length) :
    BuSt w B G es nx' pv' (ns ++ [⟨ns.length, b2, eb, x.f, x.lf, x.la, x.fl⟩]) (w2.setCell ⟨G, ns.length, none⟩ (P b2)) := by
  obtain ⟨p1, p2, p3, p4⟩ := hp
  have hb0 := BuSt.b0 hb
  have z1 := hb0.size
  have z0 := h.below.size
  have hrow : w2.rowIs G 37 es.length (elsF ns) := by
    obtain ⟨c, hc, h1, h2⟩ := h.row
    exact ⟨c, p4.keep (by rw [hb0.block G (lt_of_block hc)]; exact hc) h.G_not, h1, h2⟩
  have hGlt := h.row.lt
  have hkp : Kp (fun k => k = G) w2 (w2.setCell ⟨G, ns.length, none⟩ (P b2)) := (Kp.refl (fun k => k = G) w2).setCell (b := G) (Or.inl rfl) _ _
  obtain ⟨cG, hcG, _⟩ := hrow
  have hne : ∀ {k : Nat} {c : Array Value} {t : TypeId}, w2.heap[k]? = some (.cells c t (0, 0)) → t ≠ 37 → ¬ (k = G) := fun hk ht e => by
    rw [e, hcG] at hk; injection hk with hk; injection hk with _ hk _; exact ht hk.symm
  refine ⟨p3.keep hkp ?_ ?_ ?_ ?_ ?_, ?_, ?_, ⟨h.own.1, ?_⟩, ?_, h.g, ?_⟩
  · obtain ⟨v0, v1, v2, hL⟩ := p3.lim; exact hne hL (by decide)
  · exact hne p3.lst (by decide)
  · intro e; obtain ⟨m, c, hm, _⟩ := p3.map; rw [e, hcG] at hm; injection hm with hm; cases hm
  · intro n hn; exact hne (p3.elem n hn) (by decide)
  · intro n hn; exact hne (p3.ent n hn) (by decide)
  · intro j n hj
    rw [List.getElem?_append] at hj
    split at hj
    · exact h.made j n hj
    · rename_i hge
      have : j = ns.length := by
        by_cases e : j - ns.length = 0
        · omega
        · rw [List.getElem?_eq_none (by simp; omega)] at hj; cases hj
      subst this
      simp at hj
      subst hj
      exact ⟨rfl, hx⟩
  · have hr2 : w2.rowIs G 37 es.length (elsF ns) := by
      obtain ⟨c, hc, h1, h2⟩ := h.row
      exact ⟨c, p4.keep (by rw [hb0.block G (lt_of_block hc)]; exact hc) h.G_not, h1, h2⟩
    refine (hr2.set ns.length (P b2)).congr fun j hj => ?_
    unfold elsF
    by_cases e : j = ns.length
    · subst e; simp
    · rw [if_neg e]
      by_cases hlt : j < ns.length
      · rw [List.getElem?_append_left hlt]
      · rw [List.getElem?_eq_none (by omega), List.getElem?_eq_none (by simp; omega)]
  · intro n hn
    rw [List.mem_append, List.mem_singleton] at hn
    rcases hn with hn | rfl
    · exact h.own.2 n hn
    · show w.heap.size ≤ b2; omega
  · intro n hn
    rw [List.mem_append, List.mem_singleton] at hn
    rcases hn with hn | rfl
    · exact h.ents n hn
    · show w.heap.size ≤ eb; omega
  · have k1 : Below w.heap.size w1 w2 := p4.below (by omega) fun k hk => by
      rcases hk with rfl | rfl | ⟨n, hn, rfl⟩
      · have := h.own.1; omega
      · exact h.own.1
      · exact h.own.2 n hn
    exact ((h.below.trans (hb0.mono z0)).trans k1).setCell h.g _
end

set_option maxRecDepth 100000 in
set_option maxHeartbeats 1000000 in
theorem build_any (a : Option Addr) (cap : Nat) (es : List En) (now : Int) (w : World) (h : EsAt w a es) (hok : ∀ x ∈ es, EnOk x) (hlen : es.length ≤ 16384) (h0 : -9223372036854775808 ≤ now) (h1 : now ≤ 9223372036854775807) :
    Calls Try.prog 14 #[.slice a es.length cap, .int .i64 now] w fun e w' => ∃ B G nx pv ns, e = .returned (.tuple #[P (B + 2), .slice (some ⟨G, 0, none⟩) es.length es.length]) ∧ ns.length = es.length ∧ BuSt w B G es nx pv ns w' := by
  have HE : Hid (EsAt w a es) := h
  have HO : Hid (∀ x ∈ es, EnOk x) := hok
  clear h hok
  have hmk := run_make_row' (P := Try.prog) 26 37 N 8 Try.underlying26 (by kernel_rfl) rfl .i64 .i64 es.length (by omega) (by omega)
  go_enter Try.func14, Try.ntmps14
  go_wp2_with (first | (go_at_call 38; refine (zzNew_any now _ h0 h1).mono ?_; rintro e w1 ⟨B, hB, rfl, hL, hb1⟩; have HL := hid hL; clear hL))
  have st0 := hid (BuSt.start (es := es) hB HL.out hb1)
  clear HL hb1 hmk hB
  generalize (w1.alloc (.cells (madeCells #[N] es.length) 37)) = wa at *
  generalize w1.heap.size = G at *
  go_loopw [8] (fun i wr => ∃ nx pv ns, ns.length ≤ es.length ∧ i = .int .i64 (ns.length : Nat) ∧ BuSt w B G es nx pv ns wr) (fun i _ => es.length - (intOf i).toNat)
  case atStart => exact ⟨_, _, [], Nat.zero_le _, rfl, st0.out⟩
  case round =>
    obtain ⟨nx, pv, ns, hk, rfl, hst⟩ := hrel
    have ST := hid hst
    clear hst st0
    by_cases hlt : ns.length < es.length
    · obtain ⟨x, hx⟩ : ∃ x, es[ns.length]? = some x := ⟨es[ns.length], by simp [hlt]⟩
      have hxo := HO.out x (List.mem_of_getElem? hx)
      obtain ⟨b, o, rfl, c0, c1, c2, c3⟩ := (HE.out.below ST.out.below) ns.length x hx
      have HX : Hid (es[ns.length]? = some x) := hx
      obtain ⟨-, ⟨g0, g1⟩, ⟨g2, g3⟩, -⟩ := hxo
      clear hx
      have hk0 : (0 : Int) ≤ (ns.length : Int) := by omega
      have hk1 : (ns.length : Int) < (es.length : Int) := by omega
      have S0 := hid (BuS.start wr x)
      go_wp2
      go_region_held3 (fun w' => w'.cell? ⟨wr.heap.size, 0, none⟩ = some (.int .i64 x.f) ∧ w'.cell? ⟨wr.heap.size, 1, none⟩ = some (.int .i64 x.lf) ∧ w'.cell? ⟨wr.heap.size, 2, none⟩ = some (.int .i64 x.la) ∧ w'.cell? ⟨wr.heap.size, 3, none⟩ = some (.int .i64 x.fl))
        (first | exact S0.out.drew | exact BuS.by hb1 (hid ‹_›) | exact BuS.pushed ST.out hP.out.2.2.2 (hid ‹_›) | exact BuS.stored ST.out (hid ‹_›))
        (first | (go_at_call 31; refine (keyOf_any ns.length _ (by omega)).mono ?_; rintro e w1 ⟨rfl, hb1⟩) | (go_at_call 39; refine (zzPush_any _ _ _ _ nx pv ns _ _ _ _ _ (BuSt.chain ST.out hb1) (by omega) (ST.out.new) (by omega) g0 g1 g2 g3).mono ?_; rintro e w2 ⟨b2, eb, nx', pv', rfl, hP⟩; have hP := hid hP; have hK := hid (BuSt.keepG ST.out hb1 hP.out.2.2.2 hlt); have hG := hK.out.1; have hGf := hK.out.2))
      have hfin := hid (BuSt.step ST.out hb1 hP.out HX.out hlt)
      clear hG hGf hK hP S0
      go_wp2
      go_roundw
      case rel => exact ⟨nx', pv', _, by simp; omega, by simp, hfin.out⟩
      case measure => simp [intOf]; omega
    · go_wp2
      go_ret2
      have e : ns.length = es.length := by omega
      exact ⟨B, G, nx, pv, ns, rfl, e, ST.out⟩
end Go.Proofs.Qxb6612554a
