import Derived.Test.Qxb6612832aCid
namespace Go.Proofs.Qxb6612832a
open Go.RowKit
set_option linter.unusedVariables false
set_option linter.unusedSimpArgs false
attribute [local go_sem ↓] Go.wp_at_zero Go.wp_at_succ

/-- The multihash is written in every later world. -/
def MhOk (w : World) (hc : Nat) (a : Option Addr) (len cap : Nat) : Prop := ∀ w1, Below w.heap.size w w1 →
  Calls Try.prog 9 #[.agg #[.int .u64 (hc : Nat), .slice a len cap]] w1 fun e w' => ∃ v ys, e = .returned v ∧ w'.ownsRow (w1.heap.size + 1) 5 1 v (uv hc ++ ys).length (bV (uv hc ++ ys)) ∧ ys.length ≤ 1048600 ∧ Below w1.heap.size w1 w'

theorem MhOk.call {w : World} {hc : Nat} {a : Option Addr} {len cap : Nat} (h : MhOk w hc a len cap) {w1 : World} (hb : Below w.heap.size w w1) :
    Calls Try.prog 9 #[.agg #[.int .u64 (hc : Nat), .slice a len cap]] w1 fun e w' => ∃ v ys, e = .returned v ∧ w'.ownsRow (w1.heap.size + 1) 5 1 v (uv hc ++ ys).length (bV (uv hc ++ ys)) ∧ ys.length ≤ 1048600 ∧ Below w1.heap.size w1 w' := h w1 hb
theorem own_shape0 {w : World} {base : Nat} {v : Value} {ys : List Nat} {n : Nat} (h : w.ownsRow base 5 1 v (uv n ++ ys).length (bV (uv n ++ ys))) : ∃ g cap, v = .slice (some ⟨g, 0, none⟩) (uv n ++ ys).length cap ∧ base ≤ g ∧ g < w.heap.size ∧ ∀ j u, (bV (uv n ++ ys))[j]? = some u → w.cell? ((⟨g, 0, none⟩ : Addr).add j) = some u := by
  have hp := uv_pos n
  obtain ⟨g, cap, rfl, h1, h2⟩ := h.form (by simp; omega)
  exact ⟨g, cap, rfl, h1, h2, h.cells rfl⟩

set_option maxRecDepth 100000 in
theorem bin_any (w : World) (ver : Int) (nv cd hc : Nat) (a : Option Addr) (len cap : Nat) (hver : ver ≠ 0) (hnv : IntKind.u64.wrap ver = (nv : Nat)) (hnv2 : nv < 18446744073709551616) (hcd : cd < 18446744073709551616) (hhc : hc < 18446744073709551616) (hmh : MhOk w hc a len cap) :
    Calls Try.prog 6 #[.agg #[.int .i64 ver, .int .u64 (cd : Nat), .int .u64 (hc : Nat), .slice a len cap]] w fun e w' => ∃ g cap' ys, e = .returned (.slice (some ⟨g, 0, none⟩) (uv nv ++ (uv cd ++ ys)).length cap') ∧ ByAt w' g (uv nv ++ (uv cd ++ ys)) ∧ (uv nv ++ (uv cd ++ ys)).length ≤ 1000000000 ∧ Below w.heap.size w w' := by
  obtain ⟨i0, hi, hz0, hz1, hz2⟩ := info_parts info5
  have HM := hid hmh
  clear hmh
  have hA : Below w.heap.size w (w.alloc (.cells #[.int .i64 ver, .int .u64 (cd : Nat), .int .u64 (hc : Nat), .slice a len cap] 30)) := (Below.refl _ _).alloc (Nat.le_refl _) _
  have hsA : (w.alloc (.cells #[.int .i64 ver, .int .u64 (cd : Nat), .int .u64 (hc : Nat), .slice a len cap] 30)).heap.size = w.heap.size + 1 := by simp
  have k1 : (w.alloc (.cells #[.int .i64 ver, .int .u64 (cd : Nat), .int .u64 (hc : Nat), .slice a len cap] 30)).cell? ⟨w.heap.size, 1, none⟩ = some (.int .u64 (cd : Nat)) := cell_new rfl
  have k2 : (w.alloc (.cells #[.int .i64 ver, .int .u64 (cd : Nat), .int .u64 (hc : Nat), .slice a len cap] 30)).cell? ⟨w.heap.size, 2, none⟩ = some (.int .u64 (hc : Nat)) := cell_new rfl
  have k3 : (w.alloc (.cells #[.int .i64 ver, .int .u64 (cd : Nat), .int .u64 (hc : Nat), .slice a len cap] 30)).cell? ⟨w.heap.size, 3, none⟩ = some (.slice a len cap) := cell_new rfl
  have h10 := uv_len64 hnv2
  have h11 := uv_len64 hcd
  have h12 := uv_len64 hhc
  have hle0 := Nat.le_of_eq hsA.symm
  have hO0 : (w.alloc (.cells #[.int .i64 ver, .int .u64 (cd : Nat), .int .u64 (hc : Nat), .slice a len cap] 30)).ownsRow (w.heap.size + 1) 5 1 (.slice none 0 0) ([] : List Nat).length (bV []) := World.ownsRow_nil _ _ _ _
  have hz : ([] : List Nat).length ≤ 1000000000 := by simp
  have hu1 : (uv nv).length ≤ 1000000000 := by omega
  go_enter Try.func6, Try.ntmps6
  go_wp2_with (first | (go_at_call 10; with_reducible refine (append_any _ (w.heap.size + 1) _ [] nv hle0 hO0 hnv2 hz).mono ?_; rintro e w1 ⟨v1, rfl, ho1, hb1⟩; have c1 := (hb1.cell (p := ⟨w.heap.size, 1, none⟩) (by simp)).trans k1; have c2 := (hb1.cell (p := ⟨w.heap.size, 2, none⟩) (by simp)).trans k2; have c3 := (hb1.cell (p := ⟨w.heap.size, 3, none⟩) (by simp)).trans k3; have hs1 : w.heap.size + 1 ≤ w1.heap.size := Nat.le_trans (Nat.le_of_eq hsA.symm) hb1.size; have hB1 : Below w.heap.size w w1 := hA.trans (hb1.mono (by omega)); rw [List.nil_append] at ho1; have HO1 := hid ho1; clear ho1 hA hsA k1 k2 k3 hb1 hO0 hle0) | (go_at_call 10; with_reducible refine (append_any _ (w.heap.size + 1) _ (uv nv) cd hs1 HO1.out hcd hu1).mono ?_; rintro e w2 ⟨v2, rfl, ho2, hb2⟩; have d2 := (hb2.cell (p := ⟨w.heap.size, 2, none⟩) (by simp)).trans c2; have d3 := (hb2.cell (p := ⟨w.heap.size, 3, none⟩) (by simp)).trans c3; have hs2 : w.heap.size + 1 ≤ w2.heap.size := Nat.le_trans hs1 hb2.size; have hB2 : Below w.heap.size w w2 := hB1.trans (hb2.mono (by omega)); have HO2 := hid ho2; clear ho2 hb2 c1 c2 c3) | (go_at_call 9; with_reducible refine (HM.out.call hB2).mono ?_; rintro e w3 ⟨v3, ys, rfl, ho3, hyl, hb3⟩; obtain ⟨g3, c3, rfl, hg3, hg3', hcs⟩ := own_shape0 ho3; generalize hL3 : (uv hc ++ ys).length = L3 at ho3 ⊢; have hL3b : L3 ≤ 1048610 := Nat.le_trans (Nat.le_of_eq (hL3.symm.trans List.length_append)) (by omega); have hL3p : 0 < L3 := Nat.lt_of_lt_of_le (uv_pos hc) (Nat.le_trans (Nat.le_add_right _ ys.length) (Nat.le_of_eq (List.length_append.symm.trans hL3))); have hs3 : w.heap.size + 1 ≤ w3.heap.size := Nat.le_trans hs2 hb3.size; have HO3 := hid (own_below HO2.out hb3 (Nat.le_refl _)); have hB3 : Below w.heap.size w w3 := hB2.trans (hb3.mono (by omega)); clear ho3 hb3) | (at_builtin; refine wpList_append_lies _ rfl (.tmp 18) (.tmp 21) 23 rfl (w.heap.size + 1) 5 i0 (.int .u8 0) 1 1 Try.underlying23 hi hz0 hz1 hz2 rfl (by decide) _ _ _ rfl HO3.out ⟨g3, 0, none⟩ L3 c3 (bV (uv hc ++ ys)) rfl (by rw [bV_len, hL3, Nat.mul_one]) hcs (one_cells _) hL3p (by unfold maxLen; simp only [List.length_append]; omega) (by simp only [List.length_append]; omega) hs3 _ rfl ?_; intro g4 c4 w4 hown4 hgrow4 _ _))
  go_ret
  have hfin : uv nv ++ (uv cd ++ (uv hc ++ ys)) = (uv nv ++ uv cd) ++ (uv hc ++ ys) := by simp
  have hlen : ((uv nv ++ uv cd) ++ (uv hc ++ ys)).length = (uv nv ++ uv cd).length + L3 := by
    have := hL3; simp only [List.length_append] at this ⊢; omega
  refine ⟨g4, c4, uv hc ++ ys, ?_, ?_, ?_, hB3.grown hgrow4 (by omega) fun j hj => Nat.le_of_succ_le (HO3.out.lt j hj).1⟩
  · rw [hfin, hlen]; simp
  · rw [hfin]
    intro j c hj
    have hjl := (List.getElem?_eq_some_iff.1 hj).1
    rw [hlen] at hjl
    rw [← bV_append] at hown4
    rw [hown4.cellAt j (by omega)]
    unfold bV; rw [List.getElem?_map, hj]; rfl
  · rw [hfin, hlen, List.length_append]; omega
end Go.Proofs.Qxb6612832a
