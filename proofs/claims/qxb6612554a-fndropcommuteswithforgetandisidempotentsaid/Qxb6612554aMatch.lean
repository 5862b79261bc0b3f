import Derived.Test.Qxb6612554aSnap2
import Derived.Test.Qxb6612554aMake
import Derived.Test.Qxb6612554aSurv
namespace Go.Proofs.Qxb6612554a
open Go.RowKit
open Go.ChangeMaps (setBlock)
set_option linter.unusedVariables false
set_option linter.unusedSimpArgs false
attribute [local go_sem ↓] Go.wp_at_zero Go.wp_at_succ

def WantAt (w : World) (a : Option Addr) (S : List Nat) : Prop := ∀ k j, S[k]? = some j → ∃ b, a = some ⟨b, 0, none⟩ ∧ w.cell? ⟨b, k, none⟩ = some (.int .i64 (j : Nat))
theorem WantAt.below {w w' : World} {a : Option Addr} {S : List Nat} (h : WantAt w a S) (hb : Below w.heap.size w w') : WantAt w' a S := fun k j hj => by
  obtain ⟨b, h0, h1⟩ := h k j hj
  exact ⟨b, h0, by rw [hb.cell (World.block_lt_of_cell? w _ h1)]; exact h1⟩
/-- The nodes are those that 'want' names, with the entries' numbers. -/
def Fits (es : List En) (ns : List Nd) (S : List Nat) : Prop := ns.length = S.length ∧ ∀ (k : Nat) (n : Nd), ns[k]? = some n → S[k]? = some n.i ∧ es[n.i]? = some ⟨n.f, n.lf, n.la, n.fl⟩

theorem flat_at {l : List Nd} : ∀ {k : Nat} {n : Nd} (j : Nat), l[k]? = some n → j < 36 → (recs l)[k * 36 + j]? = (recL n)[j]? := by
  induction l with
  | nil => intro k n j h _; simp at h
  | cons a r ih =>
    intro k n j h hj
    have e : recs (a :: r) = recL a ++ recs r := by simp [recs]
    rw [e]
    cases k with
    | zero =>
      simp at h; subst h
      rw [Nat.zero_mul, Nat.zero_add, List.getElem?_append_left (by rw [recL_len]; exact hj)]
    | succ k =>
      rw [List.getElem?_append_right (by rw [recL_len]; omega), recL_len]
      have : (k + 1) * 36 + j - 36 = k * 36 + j := by omega
      rw [this]
      exact ih j (by simpa using h) hj
theorem range_rec {w w0 : World} {g cap m k : Nat} {ns : List Nd} {n : Nd} (h : w.ownsRow w0.heap.size 51 36 (.slice (some ⟨g, 0, none⟩) ns.length cap) ns.length (recs ns)) (hn : ns[k]? = some n) : w.rangeAt g (k * 36) (recL n) := fun j v hv => by
  have hj : j < 36 := by have := (List.getElem?_eq_some_iff.1 hv).1; rw [recL_len] at this; exact this
  have hk : k < ns.length := (List.getElem?_eq_some_iff.1 hn).1
  rw [h.cellAt (k * 36 + j) (by omega), flat_at j hn hj, hv]
theorem equal49 (i : Nat) (w : World) : (Op.equal 49 (.agg (kc i).toArray) (.agg (kc i).toArray)).run Try.prog w = .ok true w := by
  obtain ⟨l, hl⟩ := K_ok i
  obtain ⟨r, h1, h2⟩ := run_equal_deep w (m := 2) (by omega) (k := 49) (by kernel_rfl) (by kernel_rfl) hl hl
  have : r = true := h2.2 rfl
  rw [this] at h1
  exact h1
theorem neq49 (i : Nat) (w : World) : (binOp .neq 49 (.agg (kc i).toArray) (K i)).run Try.prog w = .ok (.bool false) w := by
  have h := equal49 i w
  unfold K
  simp only [binOp]
  simp [h]
theorem eqg49 (i : Nat) (w : World) : (eqGuard .neq 49 (.tmp 48) (.tmp 50) (.agg (kc i).toArray) (K i)).run Try.prog w = .ok () w := by
  kernel_rfl
theorem equalIn49 (i : Nat) (w : World) : (Op.equalIn 10000 49 (.agg (kc i).toArray) (.agg (kc i).toArray)).run Try.prog w = .ok true w := equal49 i w

/-- What the test of a round reads: the record's copy, the entry's copy. -/
def MaS (GB EB : Nat) (n : Nd) (w' : World) : Prop := w'.rangeAt GB 0 (kc n.i) ∧ w'.cell? ⟨GB, 32, none⟩ = some (.int .i64 n.f) ∧ w'.cell? ⟨GB, 33, none⟩ = some (.int .i64 n.lf) ∧ w'.cell? ⟨GB, 34, none⟩ = some (.int .i64 n.la) ∧ w'.cell? ⟨GB, 35, none⟩ = some (.int .i64 n.fl) ∧
  w'.cell? ⟨EB, 0, none⟩ = some (.int .i64 n.f) ∧ w'.cell? ⟨EB, 1, none⟩ = some (.int .i64 n.lf) ∧ w'.cell? ⟨EB, 2, none⟩ = some (.int .i64 n.la) ∧ w'.cell? ⟨EB, 3, none⟩ = some (.int .i64 n.fl)
theorem MaS.by {GB EB : Nat} {n : Nd} {w1 w2 : World} (hb : Below w1.heap.size w1 w2) (h : Hid (MaS GB EB n w1)) : MaS GB EB n w2 := by
  obtain ⟨a, b, c, d, e, f, g, i, j⟩ := h.out
  refine ⟨fun k v hv => ?_, ?_, ?_, ?_, ?_, ?_, ?_, ?_, ?_⟩
  · rw [hb.cell (World.block_lt_of_cell? _ _ (a k v hv))]; exact a k v hv
  · rw [hb.cell (World.block_lt_of_cell? _ _ b)]; exact b
  · rw [hb.cell (World.block_lt_of_cell? _ _ c)]; exact c
  · rw [hb.cell (World.block_lt_of_cell? _ _ d)]; exact d
  · rw [hb.cell (World.block_lt_of_cell? _ _ e)]; exact e
  · rw [hb.cell (World.block_lt_of_cell? _ _ f)]; exact f
  · rw [hb.cell (World.block_lt_of_cell? _ _ g)]; exact g
  · rw [hb.cell (World.block_lt_of_cell? _ _ i)]; exact i
  · rw [hb.cell (World.block_lt_of_cell? _ _ j)]; exact j
theorem MaS.drew {GB EB : Nat} {n : Nd} {w1 : World} (h : MaS GB EB n w1) : MaS GB EB n w1.drew := h
theorem rec_all (n : Nd) : (recL n).toArray.all (·.oneCell') = true := all_oneCell_toArray (rec_one n)
theorem info51s : (Try.prog.info? 51).map (·.size) = some 36 := by kernel_rfl

theorem range_alloc' {w1 : World} {KB o : Nat} {cs : List Value} {ob : Obj} (h : Hid (w1.rangeAt KB o cs)) : (w1.alloc ob).rangeAt KB o cs := World.rangeAt_alloc h.out ob
theorem wpList_store_at {ops : Array Oper} {rest : List Oper} {op : Oper} {a : Act} {Q : Exit → Act → World → Prop} (hgd : op.guard = none) (ty : TypeId) (x y : Operand) (ho : op.op = .store ty x y)
    (w2 : World) (B : Nat) (hB : w2.heap.size = B) (c : Array Value) (t : TypeId) (hx : a.eval x = .pointer (some ⟨B, 0, none⟩)) (cells : Array Value) (hy : a.eval y = .agg cells) (hsz : cells.size = c.size)
    (hi : (Try.prog.info? ty).map (·.size) = some cells.size) (h1 : cells.all (·.oneCell') = true)
    (h : ∀ wk, Below w2.heap.size w2 wk → wk.rangeAt B 0 cells.toList → wpList Try.prog ops Q rest (a.put op.dst undef) wk) : wpList Try.prog ops Q (op :: rest) a (w2.alloc (.cells c t)) := by
  subst hB
  exact wpList_store_new hgd ty x y ho w2 c t hx cells hy hsz hi h1 h
theorem MaS.start {wr wk : World} {n : Nd} (hb : Below (wr.alloc (.cells #[.int .i64 n.f, .int .i64 n.lf, .int .i64 n.la, .int .i64 n.fl] 40)).heap.size (wr.alloc (.cells #[.int .i64 n.f, .int .i64 n.lf, .int .i64 n.la, .int .i64 n.fl] 40)) wk) (hr : wk.rangeAt (wr.heap.size + 1) 0 (recL n).toArray.toList) :
    Below wr.heap.size wr wk ∧ MaS (wr.heap.size + 1) wr.heap.size n wk := by
  have hlt : wr.heap.size < (wr.alloc (.cells #[.int .i64 n.f, .int .i64 n.lf, .int .i64 n.la, .int .i64 n.fl] 40)).heap.size := by simp
  have hc : ∀ j, wk.cell? ⟨wr.heap.size, j, none⟩ = #[Value.int .i64 n.f, .int .i64 n.lf, .int .i64 n.la, .int .i64 n.fl][j]? := fun j => by
    rw [hb.cell hlt, cell_of_block (Go.Deep.blk_alloc_new wr _)]
  have hrc : ∀ j v, (recL n)[j]? = some v → wk.cell? ⟨wr.heap.size + 1, j, none⟩ = some v := fun j v hv => by
    have := hr j v hv
    rwa [Nat.zero_add] at this
  have h32 : ∀ j v, ([.int .i64 n.f, .int .i64 n.lf, .int .i64 n.la, .int .i64 n.fl] : List Value)[j]? = some v → wk.cell? ⟨wr.heap.size + 1, 32 + j, none⟩ = some v := fun j v hv => hrc _ _ (by
    unfold recL
    rw [List.getElem?_append_right (by rw [kc_len]; omega), kc_len, Nat.add_sub_cancel_left]; exact hv)
  refine ⟨((Below.refl _ _).alloc (Nat.le_refl _) _).trans (hb.mono (Nat.le_of_lt hlt)), fun j v hv => ?_, h32 0 _ rfl, h32 1 _ rfl, h32 2 _ rfl, h32 3 _ rfl, hc 0, hc 1, hc 2, hc 3⟩
  rw [Nat.zero_add]
  refine hrc j v ?_
  unfold recL
  rw [List.getElem?_append_left (List.getElem?_eq_some_iff.1 hv).1]; exact hv
theorem fits_ok {es : List En} {ns : List Nd} {S : List Nat} (h : Fits es ns S) (hok : ∀ x ∈ es, EnOk x) : ∀ n ∈ ns, (-9223372036854775808 ≤ n.lf ∧ n.lf ≤ 9223372036854775807) ∧ (-9223372036854775808 ≤ n.la ∧ n.la ≤ 9223372036854775807) := fun n hn => by
  obtain ⟨k, hk⟩ := List.getElem?_of_mem hn
  have := hok _ (List.mem_of_getElem? (h.2 k n hk).2)
  exact ⟨this.2.1, this.2.2.1⟩

set_option maxRecDepth 100000 in
set_option maxHeartbeats 1000000 in
theorem matches_any (L lb mb : Nat) (nx pv : Nat → Nat) (ns : List Nd) (S : List Nat) (es : List En) (a aw : Option Addr) (cap capw : Nat) (w : World) (h : Lim w L lb mb nx pv ns) (hf : Fits es ns S) (he : EsAt w a es) (hw : WantAt w aw S) (hok : ∀ x ∈ es, EnOk x) (hlen : es.length ≤ 16384) :
    Calls Try.prog 16 #[P L, .slice aw S.length capw, .slice a es.length cap] w fun e w' => e = .returned (.bool true) ∧ Below w.heap.size w w' ∧ Lim w' L lb mb nx pv ns := by
  have hfew := h.few
  have hls := hf.1
  rw [hls] at hfew
  have HS := hid (snapshot_any L lb mb nx pv ns w h (fits_ok hf hok))
  rw [hls] at HS
  have HF := hid hf
  have HE := hid he
  have HW := hid hw
  clear h hf he hw hok hls
  go_enter Try.func16, Try.ntmps16
  go_wp2_with (first | (go_at_call 30; refine HS.out.mono ?_; rintro e w1 ⟨g, cg, rfl, hst⟩; have ST := hid hst; clear hst))
  have hbs := ST.out.below
  have HE1 := hid (HE.out.below hbs)
  have HW1 := hid (HW.out.below hbs)
  clear HE HW HS
  go_loopw [9] (fun k wr => ∃ m : Nat, m ≤ S.length ∧ k = .int .i64 m ∧ Below w1.heap.size w1 wr) (fun k _ => S.length - (intOf k).toNat)
  case atStart => exact ⟨0, Nat.zero_le _, rfl, Below.refl _ _⟩
  case round =>
    obtain ⟨m, hm, rfl, hbw⟩ := hrel
    have hm0 : (0 : Int) ≤ (m : Int) := by omega
    by_cases hlt : m < S.length
    · have hm1 : (m : Int) < (S.length : Int) := by omega
      obtain ⟨n, hn⟩ : ∃ n, ns[m]? = some n := ⟨ns[m]'(by rw [HF.out.1]; exact hlt), by simp⟩
      obtain ⟨hS, hx⟩ := HF.out.2 m n hn
      obtain ⟨bw, rfl, cw⟩ := (HW1.out.below hbw) m n.i hS
      obtain ⟨b, o, rfl, c0, c1, c2, c3⟩ := (HE1.out.below hbw) n.i _ hx
      have hi0 : (0 : Int) ≤ (n.i : Int) := by omega
      have hi1 : (n.i : Int) < (es.length : Int) := by have := (List.getElem?_eq_some_iff.1 hx).1; omega
      have hi2 : n.i ≤ 65535 := by omega
      have HRG := hid (range_rec (m := m) (own_below (g := g) (cap := cg) ST.out.own hbw) hn)
      clear hS hx hn
      go_wp2_with (first | (refine wpList_load_mid rfl 51 _ rfl g (m * 36) rfl (recL n) _ (range_alloc' HRG) Try.underlying51 rfl (by rw [recL_len]; exact info51s) ?_) | (refine wpList_store_at rfl 51 _ _ rfl _ (wr.heap.size + 1) (by simp) _ 51 rfl (recL n).toArray rfl (by rw [List.size_toArray, recL_len]; rfl) (by rw [List.size_toArray, recL_len]; exact info51s) (rec_all n) ?_; intro wk hbk hrk))
      obtain ⟨hbk', hMS⟩ := MaS.start (n := n) hbk hrk
      have S0 := hid hMS
      have hnq := neq49 n.i
      have hgq := eqg49 n.i
      have hu := Try.underlying49
      have hin := info49
      have hlen32 := kc_len n.i
      clear hbk hrk hMS HRG c0 c1 c2 c3 cw
      go_region_held3 (fun w' => w'.rangeAt (wr.heap.size + 1) 0 (kc n.i) ∧ w'.cell? ⟨wr.heap.size + 1, 32, none⟩ = some (.int .i64 n.f) ∧ w'.cell? ⟨wr.heap.size + 1, 33, none⟩ = some (.int .i64 n.lf) ∧ w'.cell? ⟨wr.heap.size + 1, 34, none⟩ = some (.int .i64 n.la) ∧ w'.cell? ⟨wr.heap.size + 1, 35, none⟩ = some (.int .i64 n.fl) ∧
          w'.cell? ⟨wr.heap.size, 0, none⟩ = some (.int .i64 n.f) ∧ w'.cell? ⟨wr.heap.size, 1, none⟩ = some (.int .i64 n.lf) ∧ w'.cell? ⟨wr.heap.size, 2, none⟩ = some (.int .i64 n.la) ∧ w'.cell? ⟨wr.heap.size, 3, none⟩ = some (.int .i64 n.fl))
        (first | exact S0.out | assumption | exact MaS.by hb2 (hid ‹_›))
        (first | (go_at_call 31; refine (keyOf_any n.i _ hi2).mono ?_; rintro e w2 ⟨rfl, hb2⟩))
      have hb3 : Below wr.heap.size wr w2 := hbk'.trans (Below.mono ⟨hb2.os, hb2.tape, hb2.output, hb2.size, hb2.block⟩ hbk'.size)
      clear S0 hb2 hbk'
      go_wp2
      go_roundw
      case rel => exact ⟨m + 1, by omega, by go_num, hbw.trans (hb3.mono hbw.size)⟩
      case measure => simp [intOf]; omega
    · go_wp2
      go_ret
      exact ⟨rfl, hbs.trans (hbw.mono hbs.size), ST.out.lim.keep0 hbw⟩
end Go.Proofs.Qxb6612554a
