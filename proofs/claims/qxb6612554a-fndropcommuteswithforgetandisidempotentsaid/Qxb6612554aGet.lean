import Derived.Test.Qxb6612554aZZ
namespace Go.Proofs.Qxb6612554a
open Go.RowKit
open Go.ChangeMaps (setBlock)
set_option linter.unusedVariables false
set_option linter.unusedSimpArgs false
attribute [local go_sem ↓] Go.wp_at_zero Go.wp_at_succ

section
variable {w : World} {L lb mb : Nat} {nx pv : Nat → Nat} {ns xs ys : List Nd} {n : Nd}

theorem range_al (h : EntAt w n) (ob : Obj) : (w.alloc ob).rangeAt n.e 0 (kc n.i) := fun j v hv => by
  rw [acell (lt_of_block h)]; exact range_ent h j v hv
theorem there_new (w : World) : (w.alloc (.cells (Array.replicate 32 (Value.int .u8 0)) 49)).there w.heap.size 0 32 := fun j hj => by
  rw [Nat.zero_add]
  refine ⟨?_, frozen_of_block (Go.Deep.blk_alloc_new w _) j⟩
  rw [cell_of_block (Go.Deep.blk_alloc_new w _)]; simp [hj]

theorem zzFront_any (h : Lim w L lb mb nx pv ns) : Calls Try.prog 45 #[P L] w fun e w' => e = .returned (elP ns) ∧ w = w' := by
  have l4 := h.l4
  have HF := hid (front_lim h)
  clear h
  go_enter Try.func45, Try.ntmps45
  go_wp2_with (first | (go_at_call 57; refine HF.out.mono ?_; rintro e w' ⟨rfl, rfl⟩))
  go_ret
  exact ⟨rfl, rfl⟩
theorem zzNext_any (h : Lim w L lb mb nx pv (xs ++ n :: ys)) : Calls Try.prog 51 #[P n.b] w fun e w' => e = .returned (elP ys) ∧ w = w' := by
  have HF := hid (next_lim h)
  clear h
  go_enter Try.func51, Try.ntmps51
  go_wp2_with (first | (go_at_call 59; refine HF.out.mono ?_; rintro e w' ⟨rfl, rfl⟩))
  go_ret
  exact ⟨rfl, rfl⟩
theorem zzListLen_any (h : Lim w L lb mb nx pv ns) : Calls Try.prog 53 #[P L] w fun e w' => e = .returned (.int .i64 (ns.length : Nat)) ∧ w = w' := by
  have l4 := h.l4
  have HF := hid (len_any lb _ w h.c4)
  clear h
  go_enter Try.func53, Try.ntmps53
  go_wp2_with (first | (go_at_call 69; refine HF.out.mono ?_; rintro e w' ⟨rfl, rfl⟩))
  go_ret
  exact ⟨rfl, rfl⟩
theorem run_len_map {es : Array MapEntry} {c : Nat} (hm : w.heap[mb]? = some (.map es c)) (ty : TypeId) : (Builtin.len_ #[88] ty #[.map (some mb)]).run Try.prog w = .ok (.int .i64 (es.size : Nat)) w := by
  simp [Builtin.len_, run_underlying Try.underlying88, MapKept.run_getObj_map hm, Result.andThen]
  rfl
theorem zzNumKeys_any (h : Lim w L lb mb nx pv ns) : Calls Try.prog 52 #[P L] w fun e w' => e = .returned (.int .i64 (ns.length : Nat)) ∧ w = w' := by
  have l3 := h.l3
  obtain ⟨es, c, hm, hh⟩ := h.map
  have hl := run_len_map hm
  have hz := hh.size
  rw [List.length_map] at hz
  rw [hz] at hl
  clear hz hh hm h
  go_enter Try.func52, Try.ntmps52
  go_wp2
  go_ret
  exact ⟨rfl, rfl⟩

theorem zzFailures_any (h : Lim w L lb mb nx pv ns) (hn : n ∈ ns) : Calls Try.prog 48 #[P n.b] w fun e w' => e = .returned (.int .i64 n.f) ∧ w = w' := by
  have c3 := h.c3 hn
  have hta := tassert n.e
  have ce : w.cell? ⟨n.e, 32, none⟩ = some (.int .i64 n.f) := ent_cell (h.ent n hn) 0
  clear h hn
  go_enter Try.func48, Try.ntmps48
  go_wp2
  go_ret
  exact ⟨rfl, rfl⟩
theorem zzInFlight_any (h : Lim w L lb mb nx pv ns) (hn : n ∈ ns) : Calls Try.prog 36 #[P n.b] w fun e w' => e = .returned (.int .i64 n.fl) ∧ w = w' := by
  have c3 := h.c3 hn
  have hta := tassert n.e
  have ce : w.cell? ⟨n.e, 39, none⟩ = some (.int .i64 n.fl) := ent_cell (h.ent n hn) 7
  clear h hn
  go_enter Try.func36, Try.ntmps36
  go_wp2
  go_ret
  exact ⟨rfl, rfl⟩
theorem zzLastFailure_any (h : Lim w L lb mb nx pv ns) (hn : n ∈ ns) (h0 : -9223372036854775808 ≤ n.lf) (h1 : n.lf ≤ 9223372036854775807) : Calls Try.prog 49 #[P n.b] w fun e w' => e = .returned (.int .i64 n.lf) ∧ Below w.heap.size w w' := by
  have c3 := h.c3 hn
  have hta := tassert n.e
  have e0 : w.cell? ⟨n.e, 33, none⟩ = some (.int .u64 (tn n.lf)) := ent_cell (h.ent n hn) 1
  have e1 : w.cell? ⟨n.e, 34, none⟩ = some (.int .i64 (ts n.lf)) := ent_cell (h.ent n hn) 2
  have e2 : w.cell? ⟨n.e, 35, none⟩ = some N := ent_cell (h.ent n hn) 3
  clear h hn
  go_enter Try.func49, Try.ntmps49
  go_wp2_with (first | (go_at_call 58; refine (sub_zero n.lf _ h0 h1).mono ?_; rintro e w1 ⟨rfl, hb⟩))
  go_ret
  exact ⟨rfl, hb⟩
theorem zzLastAttempt_any (h : Lim w L lb mb nx pv ns) (hn : n ∈ ns) (h0 : -9223372036854775808 ≤ n.la) (h1 : n.la ≤ 9223372036854775807) : Calls Try.prog 50 #[P n.b] w fun e w' => e = .returned (.int .i64 n.la) ∧ Below w.heap.size w w' := by
  have c3 := h.c3 hn
  have hta := tassert n.e
  have e0 : w.cell? ⟨n.e, 36, none⟩ = some (.int .u64 (tn n.la)) := ent_cell (h.ent n hn) 4
  have e1 : w.cell? ⟨n.e, 37, none⟩ = some (.int .i64 (ts n.la)) := ent_cell (h.ent n hn) 5
  have e2 : w.cell? ⟨n.e, 38, none⟩ = some N := ent_cell (h.ent n hn) 6
  clear h hn
  go_enter Try.func50, Try.ntmps50
  go_wp2_with (first | (go_at_call 58; refine (sub_zero n.la _ h0 h1).mono ?_; rintro e w1 ⟨rfl, hb⟩))
  go_ret
  exact ⟨rfl, hb⟩

set_option maxRecDepth 100000 in
theorem zzKey_any (h : Lim w L lb mb nx pv ns) (hn : n ∈ ns) : Calls Try.prog 46 #[P n.b] w fun e w' => e = .returned (K n.i) ∧ Below w.heap.size w w' := by
  have c3 := h.c3 hn
  have hta := tassert n.e
  have HE := hid (h.ent n hn)
  have hlt : n.b < w.heap.size := lt_of_block (h.elem n hn)
  clear h hn
  go_enter Try.func46, Try.ntmps46
  go_wp2_with (first | (refine wpList_load_mid rfl 49 _ rfl n.e 0 rfl (kc n.i) _ (range_al HE.out _) Try.underlying49 rfl (by rw [kc_len]; exact info49) ?_) | (refine wpList_store_mid rfl 49 _ _ rfl w.heap.size 0 (kc n.i).toArray rfl rfl (there_new w) (by rw [List.size_toArray, kc_len]; exact info49) (kc_one n.i) ?_))
  refine bodyPost_ret (v := K n.i) (results_cell1 rfl _ _ _ rfl (run_loadVar_mid _ _ _ 49 (kc n.i) _ (World.rangeAt_setCells_same _ _ _ _ (by rw [kc_len]; exact there_new w)) Try.underlying49 rfl (by rw [kc_len]; exact info49))) rfl ⟨rfl, ?_⟩
  exact below_setCells _ (Nat.le_refl _) _ _ _ ((Below.refl _ _).alloc (Nat.le_refl _) _)
end
end Go.Proofs.Qxb6612554a
