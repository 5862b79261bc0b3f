import Derived.Test.Qxb6612554aGet
import Derived.Test.Qxb6612554aBuild
import Derived.Deep.AppendLies
namespace Go.Proofs.Qxb6612554a
open Go.RowKit
open Go.ChangeMaps (setBlock)
set_option linter.unusedVariables false
set_option linter.unusedSimpArgs false
attribute [local go_sem ↓] Go.wp_at_zero Go.wp_at_succ exec51

section
variable {w : World} {L lb mb : Nat} {nx pv : Nat → Nat} {ns xs ys : List Nd} {n : Nd}
theorem look_lim (h : Lim w L lb mb nx pv ns) (hn : n ∈ ns) : (Instr.lookup 88 (.map (some mb)) (.agg (kc n.i).toArray) false).run Try.prog w = .ok (P n.b) w := by
  obtain ⟨es, c, hm, hh⟩ := h.map
  obtain ⟨j, hj⟩ := List.getElem?_of_mem hn
  have hidx : ((ns.map fun n => (n.i, n.b)).map (·.1)).Nodup := by have := h.idx; rwa [List.map_map]
  have hsm : ∀ p ∈ ns.map (fun n => (n.i, n.b)), p.1 ≤ 65535 := fun p hp => by obtain ⟨m, hm, rfl⟩ := List.mem_map.1 hp; exact h.small m hm
  exact look_in hh hsm hidx (j := j) (by rw [List.getElem?_map, hj]; rfl) hm

set_option maxRecDepth 100000 in
theorem zzKeyElem_any (h : Lim w L lb mb nx pv ns) (hn : n ∈ ns) : Calls Try.prog 47 #[P L, K n.i] w fun e w' => e = .returned (P n.b) ∧ Below w.heap.size w w' := by
  have hb : Below w.heap.size w (w.alloc (.cells (kc n.i).toArray 49)) := (Below.refl _ _).alloc (Nat.le_refl _) _
  have h2 := (h.keep0 hb).drew
  have hlk := look_lim h2 hn
  have l3 := h2.l3
  have hr : (w.alloc (.cells (kc n.i).toArray 49)).drew.rangeAt w.heap.size 0 (kc n.i) := fun j v hv => by
    rw [cell_drew, cell_of_block (Go.Deep.blk_alloc_new w _)]
    simpa using hv
  have hu := Try.underlying49
  have hin := info49
  have hlen32 := kc_len n.i
  clear h h2 hn
  unfold K
  go_enter Try.func47, Try.ntmps47
  go_wp2
  go_region_held3 (fun w' => w'.cell? ⟨L, 3, none⟩ = some (.map (some mb)) ∧ w'.rangeAt w.heap.size 0 (kc n.i) ∧ (Instr.lookup 88 (.map (some mb)) (.agg (kc n.i).toArray) false).run Try.prog w' = .ok (P n.b) w')
    (exact ⟨l3, hr, hlk⟩) (fail)
  go_wp2
  go_ret
  exact ⟨rfl, hb.drew⟩
end
end Go.Proofs.Qxb6612554a
