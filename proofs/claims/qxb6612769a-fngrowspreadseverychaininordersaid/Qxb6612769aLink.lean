import Derived.Test.Qxb6612769aOps
import Derived.BigQuiet
namespace Go.Proofs.Qxb6612769a
open Go.RowKit
set_option linter.unusedVariables false
set_option linter.unusedSimpArgs false
attribute [local go_sem ↓] Go.wp_at_zero Go.wp_at_succ
section
variable {w : World} {T Pb Hb n m : Nat} {blk hs pt : Nat → Nat} {nx fst : Nat → Value} {cnt : Nat → Nat} {hot : Nat → Value}

set_option maxRecDepth 100000 in
theorem link_walk (T Pb b j c n : Nat) (v : Option Addr) (u : Value) (w : World) (hT : w.cell? ⟨T, 1, none⟩ = some (.slice (some ⟨Pb, 0, none⟩) n n)) (hp : w.cell? ⟨b, 9, none⟩ = some (.int .i64 (j : Nat))) (hu : w.cell? ⟨b, 10, none⟩ = some u)
    (h2 : w.cell? ⟨Pb, j * 44 + 2, none⟩ = some (.pointer v)) (h3 : w.cell? ⟨Pb, j * 44 + 3, none⟩ = some (.int .i64 (c : Nat))) (hj : j < n) (hc : c ≤ 1000000) (hne : b ≠ Pb)
    (fb : ∀ o, w.frozen? ⟨b, o, none⟩ = false) (fp : ∀ o, w.frozen? ⟨Pb, o, none⟩ = false) (hn : n ≤ 1000000) :
    Calls Try.prog 25 #[P T, P b] w fun e w' => e = .returned (.tuple #[]) ∧ ∃ q, w' = ((((w.drewN q).setCell ⟨b, 10, none⟩ (.pointer v)).setCell ⟨Pb, j * 44 + 2, none⟩ (P b)).setCell ⟨Pb, j * 44 + 3, none⟩ (.int .i64 ((c + 1 : Nat) : Int))) := by
  have hj0 : (0 : Int) ≤ (j : Int) := by omega
  have hj1 : (j : Int) < (n : Int) := by omega
  have f0 := fb 10
  have f2 := fp (j * 44 + 2)
  have f3 := fp (j * 44 + 3)
  clear fb fp
  go_enter Try.func25, Try.ntmps25
  go_wp2
  go_quiet (fail)
  have g2 : (w.drewN nq).cell? ⟨Pb, j * 44 + 2, none⟩ = some (.pointer v) := h2
  have g3 : (w.drewN nq).cell? ⟨Pb, j * 44 + 3, none⟩ = some (.int .i64 (c : Nat)) := h3
  have gu : (w.drewN nq).cell? ⟨b, 10, none⟩ = some u := hu
  have k0 : (w.drewN nq).frozen? ⟨b, 10, none⟩ = false := f0
  have k2 : (w.drewN nq).frozen? ⟨Pb, j * 44 + 2, none⟩ = false := f2
  have k3 : (w.drewN nq).frozen? ⟨Pb, j * 44 + 3, none⟩ = false := f3
  clear h2 h3 hu f0 f2 f3 hT hp
  go_wp2
  go_end0
  exact ⟨rfl, nq, by simp⟩

theorem drewN_below (w : World) (q : Nat) : Below w.heap.size w (w.drewN q) := ⟨rfl, rfl, rfl, Nat.le_refl _, fun _ _ => rfl⟩

/-- The entry k is put at the head of its partition's chain. -/
theorem link_any {k : Nat} (h : TS w T Pb Hb n m blk hs pt nx fst cnt hot) (hk : k < m) (hj : pt k < n) (hc : cnt (pt k) ≤ 1000000) (hn : n ≤ 1000000) (hv : ∃ p, fst (pt k) = .pointer p) :
    Calls Try.prog 25 #[P T, P (blk k)] w fun e w' => e = .returned (.tuple #[]) ∧ TS w' T Pb Hb n m blk hs pt (up nx k (fst (pt k))) (up fst (pt k) (P (blk k))) (up cnt (pt k) (cnt (pt k) + 1)) hot ∧ Kp (fun b => b = Pb ∨ b = blk k) w w' := by
  have e := h.ents k hk
  obtain ⟨p, hp⟩ := hv
  have h2 := h.parts.c2 hj
  rw [hp] at h2 ⊢
  refine (link_walk T Pb (blk k) (pt k) (cnt (pt k)) n _ _ w h.tab.c1 e.c9 e.c10 h2 (h.parts.c3 hj) hj hc (e.ne_parts h.parts) e.fz h.parts.fz hn).mono ?_
  rintro e w' ⟨rfl, q, rfl⟩
  refine ⟨rfl, (((h.keep0 (drewN_below w q)).setNext hk _).setFirst hj _).setCount hj _, ?_⟩
  exact (((Kp.of_below (drewN_below w q)).setCell (.inl (.inr rfl)) _ _).setCell (.inl (.inl rfl)) _ _).setCell (.inl (.inl rfl)) _ _

theorem hot_nil {j : Nat} (h : TS w T Pb Hb n m blk hs pt nx fst cnt hot) (hj : j < n) (hh : hot j = N) : Calls Try.prog 20 #[P T, .int .i64 (j : Nat)] w fun e w' => e = .returned N ∧ w = w' := by
  have h7 := h.tab.c7
  have hj0 : (0 : Int) ≤ (j : Int) := by omega
  have hj1 : (j : Int) < (n : Int) := by omega
  have hc := h.hots.c hj
  rw [hh] at hc
  go_enter Try.func20, Try.ntmps20
  go_wp2_with (first | (go_at_call 28; refine (load_nil hc).mono ?_; rintro e w' ⟨rfl, rfl⟩))
  go_ret
  exact ⟨rfl, rfl⟩
theorem hot_some {j k : Nat} (h : TS w T Pb Hb n m blk hs pt nx fst cnt hot) (hj : j < n) (hk : k < m) (hh : hot j = P (blk k)) : Calls Try.prog 20 #[P T, .int .i64 (j : Nat)] w fun e w' => e = .returned (P (blk k)) ∧ w = w' := by
  have h7 := h.tab.c7
  have hj0 : (0 : Int) ≤ (j : Int) := by omega
  have hj1 : (j : Int) < (n : Int) := by omega
  have hc := h.hots.c hj
  rw [hh] at hc
  go_enter Try.func20, Try.ntmps20
  go_wp2_with (first | (go_at_call 28; refine (load_some hc (h.ents k hk)).mono ?_; rintro e w' ⟨rfl, rfl⟩))
  go_ret
  exact ⟨rfl, rfl⟩
theorem setHot_any {k : Nat} (h : TS w T Pb Hb n m blk hs pt nx fst cnt hot) (hk : k < m) (hj : pt k < n) :
    Calls Try.prog 14 #[P T, P (blk k)] w fun e w' => e = .returned (.tuple #[]) ∧ TS w' T Pb Hb n m blk hs pt nx fst cnt (up hot (pt k) (P (blk k))) ∧ Kp (fun b => b = Hb) w w' := by
  have h7 := h.tab.c7
  have hj0 : (0 : Int) ≤ (pt k : Int) := by omega
  have hj1 : (pt k : Int) < (n : Int) := by omega
  have hc := h.hots.c hj
  have h9 := (h.ents k hk).c9
  generalize hjj : pt k = j at *
  have hz := h.hots.fz j
  have he := hid (h.ents k hk)
  have hst := hid (h.setHot hj (P (blk k)))
  have s7 := hst.out.tab.c7
  have s9 := (hst.out.ents k hk).c9
  rw [hjj] at s9
  go_enter Try.func14, Try.ntmps14
  go_wp2
  go_region_held3 (fun w' => w'.cell? ⟨T, 7, none⟩ = some (.slice (some ⟨Hb, 0, none⟩) n n) ∧ w'.cell? ⟨blk k, 9, none⟩ = some (.int .i64 (j : Nat)))
    (first | (exact ⟨h7, h9⟩) | (exact ⟨s7, s9⟩)) (first | (go_at_call 26; refine (store_some (by exact hc) (by exact hz) (by exact he.out)).mono ?_; rintro e w' ⟨rfl, rfl⟩))
  go_end0
  exact ⟨rfl, hst.out.drew, ((Kp.refl (fun b => b = Hb) w).setCell (b := Hb) (.inl rfl) _ _).drew⟩
end
end Go.Proofs.Qxb6612769a
