import Derived.Test.Qxb6612832aRead
import Derived.Deep.Upon
namespace Go.Proofs.Qxb6612832a
open Go.RowKit
set_option linter.unusedVariables false
set_option linter.unusedSimpArgs false
attribute [local go_sem ↓] Go.wp_at_zero Go.wp_at_succ

/-- Nothing is appended: nil is the second argument. -/
theorem wpList_append_nil {P : Program} (w : World) {ops : Array Oper} {rest : List Oper} {o : Oper} {a : Act} {Q : Exit → Act → World → Prop} (hgd : o.guard = none) (s x : Operand) (t : TypeId)
    (ho : o.op = .call { callee := .builtin .append, args := #[s, x], argTypes := #[t, t] }) (e : TypeId) (i : TypeInfo) (ht : P.underlying t = some (.slice e)) (hi : P.info? e = some i)
    (b : Option Addr) (n c : Nat) (hs : a.eval s = .slice b n c) (hle : n ≤ c) (hx : a.eval x = .slice none 0 0)
    (h : wpList P ops Q rest (a.put o.dst (.slice b n c)) w) : wpList P ops Q (o :: rest) a w :=
  wpList_plain hgd fun _ hK => by
    have hr := run_append_nothing w t t o.type e i ht hi b n c hle (.slice none 0 0) (Src.ofNil w ht 0)
    unfold Oper.wp execOp
    simp only [ho, resolve, invoke, builtin, Sem.run_bind, Sem.run_pure, Result.andThen_ok, List.map_toArray, List.map_cons, List.map_nil, hs, hx, hr]
    exact hK _ _ h

theorem own_below {w w' : World} {base B : Nat} {v : Value} {n : Nat} {xs : List Value} (h : w.ownsRow base 5 1 v n xs) (hb : Below B w w') (hB : w.heap.size ≤ B) : w'.ownsRow base 5 1 v n xs := by
  refine ⟨h.1, ?_⟩
  rcases h.2 with h2 | ⟨g, cap, cur, hv, hg, hblk, hr⟩
  · exact .inl h2
  · refine .inr ⟨g, cap, cur, hv, hg, ?_, hr⟩
    have hlt : g < w.heap.size := (Array.getElem?_eq_some_iff.1 hblk).1
    rw [hb.block g (by omega)]; exact hblk

theorem one_cells (l : List Nat) : ∀ u ∈ bV l, u.oneCell' = true := by
  intro u hu
  obtain ⟨n, _, rfl⟩ := List.mem_map.1 hu
  rfl

theorem cell_new {w : World} {cs : Array Value} {t k : Nat} {v : Value} (h : cs[k]? = some v) : (w.alloc (.cells cs t)).cell? ⟨w.heap.size, k, none⟩ = some v := by
  unfold World.cell?
  have : (w.alloc (.cells cs t)).heap[w.heap.size]? = some (.cells cs t) := by
    show (w.heap.push (.cells cs t))[w.heap.size]? = _
    rw [Array.getElem?_push_size]
  simp only [this]; exact h

theorem append_zero (w : World) (base : Nat) (v : Value) (bs : List Nat) (hs : base ≤ w.heap.size) (ho : w.ownsRow base 5 1 v bs.length (bV bs)) (hl : bs.length ≤ 1000000000) :
    Calls Try.prog 10 #[v, .int .u64 0] w fun e w' => ∃ v', e = .returned v' ∧ w'.ownsRow base 5 1 v' (bs ++ uv 0).length (bV (bs ++ uv 0)) ∧ Below base w w' := append_any w base v bs 0 hs ho (by decide) hl
theorem own_shape {w : World} {base : Nat} {v : Value} {bs : List Nat} {n : Nat} (h : w.ownsRow base 5 1 v (bs ++ uv n).length (bV (bs ++ uv n))) : ∃ g cap, v = .slice (some ⟨g, 0, none⟩) (bs ++ uv n).length cap ∧ (bs ++ uv n).length ≤ cap := by
  rcases h.2 with ⟨_, h0⟩ | ⟨g, cap, cur, hv, hb, hg, hle, _⟩
  · have := uv_pos n; simp at h0; rw [h0.2] at this; simp at this
  · exact ⟨g, cap, hv, hle⟩

set_option maxRecDepth 100000 in
theorem mh_nil (w : World) (hc : Nat) (hhc : hc < 18446744073709551616) :
    Calls Try.prog 9 #[.agg #[.int .u64 (hc : Nat), .slice none 0 0]] w fun e w' => ∃ v ys, e = .returned v ∧ w'.ownsRow (w.heap.size + 1) 5 1 v (uv hc ++ ys).length (bV (uv hc ++ ys)) ∧ ys.length ≤ 1048600 ∧ Below w.heap.size w w' := by
  obtain ⟨i0, hi, hz0, hz1, hz2⟩ := info_parts info5
  have hA : Below w.heap.size w (w.alloc (.cells #[.int .u64 (hc : Nat), .slice none 0 0] 28)) := (Below.refl _ _).alloc (Nat.le_refl _) _
  have hsA : (w.alloc (.cells #[.int .u64 (hc : Nat), .slice none 0 0] 28)).heap.size = w.heap.size + 1 := by simp
  have hcA : (w.alloc (.cells #[.int .u64 (hc : Nat), .slice none 0 0] 28)).cell? ⟨w.heap.size, 1, none⟩ = some (.slice none 0 0) := cell_new rfl
  have h10 := uv_len64 hhc
  have hle0 := Nat.le_of_eq hsA.symm
  have hO0 : (w.alloc (.cells #[.int .u64 (hc : Nat), .slice none 0 0] 28)).ownsRow (w.heap.size + 1) 5 1 (.slice none 0 0) ([] : List Nat).length (bV []) := World.ownsRow_nil _ _ _ _
  have hz : ([] : List Nat).length ≤ 1000000000 := by simp
  have hu1 : (uv hc).length ≤ 1000000000 := by omega
  have hl64 : 0 < 18446744073709551616 := by omega
  have h11 := uv_len64 hl64
  go_enter Try.func9, Try.ntmps9
  go_wp2_with (first | (go_at_call 10; with_reducible refine (append_any _ (w.heap.size + 1) _ [] _ hle0 hO0 hhc hz).mono ?_; rintro e w1 ⟨v1, rfl, ho1, hb1⟩; have hc1 : w1.cell? ⟨w.heap.size, 1, none⟩ = some (.slice none 0 0) := (hb1.cell (by simp)).trans hcA; have hs1 : w.heap.size + 1 ≤ w1.heap.size := Nat.le_trans (Nat.le_of_eq hsA.symm) hb1.size; have hB1 : Below w.heap.size w w1 := hA.trans (hb1.mono (by omega)); rw [List.nil_append] at ho1; have HO1 := hid ho1; clear ho1 hA hsA hcA hb1 hO0 hle0) | (go_at_call 10; with_reducible refine (append_zero _ (w.heap.size + 1) _ (uv hc) hs1 HO1.out hu1).mono ?_; rintro e w2 ⟨v2, rfl, ho2, hb2⟩; have hc2 : w2.cell? ⟨w.heap.size, 1, none⟩ = some (.slice none 0 0) := (hb2.cell (by simp)).trans hc1; have hs2 : w.heap.size + 1 ≤ w2.heap.size := Nat.le_trans hs1 hb2.size; have hB2 : Below w.heap.size w w2 := hB1.trans (hb2.mono (by omega)); obtain ⟨g2, c2, rfl, hle2⟩ := own_shape ho2; generalize hL2 : (uv hc ++ uv 0).length = L2 at ho2 hle2 ⊢; have hL2b : L2 ≤ 20 := Nat.le_trans (Nat.le_of_eq (hL2.symm.trans List.length_append)) (by omega); have HO2 := hid ho2; clear ho2 hb2) | (at_builtin; with_reducible refine wpList_append_nil _ rfl (.tmp 13) (.tmp 15) 23 rfl 5 i0 Try.underlying23 hi _ _ _ rfl hle2 rfl ?_))
  go_ret
  exact ⟨_, uv 0, rfl, by rw [hL2]; exact HO2.out, by omega, hB2⟩

set_option maxRecDepth 100000 in
theorem mh_some (w : World) (hc : Nat) (x : Addr) (len cap : Nat) (zs : List Nat) (hhc : hc < 18446744073709551616) (hzl : zs.length = len) (hd : ∀ j u, (bV zs)[j]? = some u → w.cell? (x.add j) = some u) (hlen : len ≤ 1048576) :
    Calls Try.prog 9 #[.agg #[.int .u64 (hc : Nat), .slice (some x) len cap]] w fun e w' => ∃ v ys, e = .returned v ∧ w'.ownsRow (w.heap.size + 1) 5 1 v (uv hc ++ ys).length (bV (uv hc ++ ys)) ∧ ys.length ≤ 1048600 ∧ Below w.heap.size w w' := by
  obtain ⟨i0, hi, hz0, hz1, hz2⟩ := info_parts info5
  have hA : Below w.heap.size w (w.alloc (.cells #[.int .u64 (hc : Nat), .slice (some x) len cap] 28)) := (Below.refl _ _).alloc (Nat.le_refl _) _
  have hsA : (w.alloc (.cells #[.int .u64 (hc : Nat), .slice (some x) len cap] 28)).heap.size = w.heap.size + 1 := by simp
  have hcA : (w.alloc (.cells #[.int .u64 (hc : Nat), .slice (some x) len cap] 28)).cell? ⟨w.heap.size, 1, none⟩ = some (.slice (some x) len cap) := cell_new rfl
  have h10 := uv_len64 hhc
  have hle0 := Nat.le_of_eq hsA.symm
  have hO0 : (w.alloc (.cells #[.int .u64 (hc : Nat), .slice (some x) len cap] 28)).ownsRow (w.heap.size + 1) 5 1 (.slice none 0 0) ([] : List Nat).length (bV []) := World.ownsRow_nil _ _ _ _
  have hz : ([] : List Nat).length ≤ 1000000000 := by simp
  have hu1 : (uv hc).length ≤ 1000000000 := by omega
  have hl64 : len < 18446744073709551616 := by omega
  have h11 := uv_len64 hl64
  go_enter Try.func9, Try.ntmps9
  go_wp2_with (first | (go_at_call 10; with_reducible refine (append_any _ (w.heap.size + 1) _ [] _ hle0 hO0 hhc hz).mono ?_; rintro e w1 ⟨v1, rfl, ho1, hb1⟩; have hc1 : w1.cell? ⟨w.heap.size, 1, none⟩ = some (.slice (some x) len cap) := (hb1.cell (by simp)).trans hcA; have hs1 : w.heap.size + 1 ≤ w1.heap.size := Nat.le_trans (Nat.le_of_eq hsA.symm) hb1.size; have hB1 : Below w.heap.size w w1 := hA.trans (hb1.mono (by omega)); rw [List.nil_append] at ho1; have HO1 := hid ho1; clear ho1 hA hsA hcA hb1 hO0 hle0) | (go_at_call 10; with_reducible refine (append_any _ (w.heap.size + 1) _ (uv hc) len hs1 HO1.out hl64 hu1).mono ?_; rintro e w2 ⟨v2, rfl, ho2, hb2⟩; have hc2 : w2.cell? ⟨w.heap.size, 1, none⟩ = some (.slice (some x) len cap) := (hb2.cell (by simp)).trans hc1; have hs2 : w.heap.size + 1 ≤ w2.heap.size := Nat.le_trans hs1 hb2.size; have hB2 : Below w.heap.size w w2 := hB1.trans (hb2.mono (by omega)); obtain ⟨g2, c2, rfl, hle2⟩ := own_shape ho2; generalize hL2 : (uv hc ++ uv len).length = L2 at ho2 hle2 ⊢; have hL2b : L2 ≤ 20 := Nat.le_trans (Nat.le_of_eq (hL2.symm.trans List.length_append)) (by omega); have HO2 := hid ho2; clear ho2 hb2) | (at_builtin; refine wpList_append_own _ rfl (.tmp 13) (.tmp 15) 23 rfl (w.heap.size + 1) 5 i0 (.int .u8 0) 1 1 Try.underlying23 hi hz0 hz1 hz2 rfl (by decide) _ _ _ rfl HO2.out x len cap (bV zs) rfl (by rw [bV_len, hzl, Nat.mul_one]) (fun j u hj => (hB2.cell (World.block_lt_of_cell? w _ (hd j u hj))).trans (hd j u hj)) (one_cells _) (by unfold maxLen; omega) (by omega) hs2 ?_; intro v3 w3 hown3 hgrow3 _))
  go_ret
  refine ⟨_, uv len ++ zs, rfl, ?_, by simp; omega, hB2.grown hgrow3 (by omega) fun j hj => Nat.le_of_succ_le (HO2.out.lt j hj).1⟩
  rw [← List.append_assoc, List.length_append, hL2, hzl, bV_append]
  exact hown3


end Go.Proofs.Qxb6612832a
