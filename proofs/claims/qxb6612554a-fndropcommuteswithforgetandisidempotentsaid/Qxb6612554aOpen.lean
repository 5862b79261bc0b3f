import Derived.Test.Qxb6612554aEs
import Derived.Deep.Slices
import Derived.Deep.SlicePairs
import Derived.Deep.MidRow
import Derived.ProofKit
namespace Go.Proofs.Qxb6612554a
open Go.RowKit Go.Deep
set_option linter.unusedVariables false
set_option linter.unusedSimpArgs false

theorem cells40 : Try.prog.cellsOf 40 = 4 := by kernel_rfl
theorem cells3 : Try.prog.cellsOf 3 = 1 := by kernel_rfl
theorem cells2 : Try.prog.cellsOf 2 = 1 := by kernel_rfl
theorem wf_bd {n : Int} (h : (Lit.int .i64 n).wf = true) : -9223372036854775808 ≤ n ∧ n ≤ 9223372036854775807 := by
  simp [Lit.wf, IntKind.min, IntKind.max, IntKind.bits, IntKind.signed] at h; omega
theorem spot_none {w : World} {a : Addr} {v : Value} (h : w.cell? a = some v) : a = ⟨a.block, a.off, none⟩ := by
  unfold World.cell? at h
  split at h
  · split at h
    · cases h
    · rename_i hs
      cases a with
      | mk b o s => cases s with
        | none => rfl
        | some s => simp at hs
  · cases h

theorem len4 {α : Type} (l : List α) (h : l.length = 4) : ∃ a b c d, l = [a, b, c, d] := by
  match l, h with
  | [a, b, c, d], _ => exact ⟨a, b, c, d, rfl⟩
theorem open_es {H : Type} {enc : TypeId × Value → H} {W : World} {a : Option Addr} {len cap : Nat} {d : DataW H} {p : List MemPlace} (h : DataW.Trod enc Try.prog W 0 (fun _ => true) true 22 (.slice a len cap) d p) :
    ∃ es : List En, es.length = len ∧ EsAt W a es ∧ (∀ x ∈ es, EnOk x) ∧ len ≤ maxLen := by
  obtain ⟨fuel, hf⟩ := h
  rcases open_slice Try.underlying22 hf with ⟨hcs, _⟩ | ⟨x, l, c, m, n, D, Pl, hcs, _, hl, hm, hmm, _, hx⟩
  · simp [Value.cells] at hcs
    obtain ⟨rfl, rfl, rfl⟩ := hcs
    exact ⟨[], rfl, fun k x hk => by simp at hk, fun x hx => by simp at hx, by simp [maxLen]⟩
  · simp [Value.cells] at hcs
    obtain ⟨rfl, rfl, rfl⟩ := hcs
    simp at hmm
    have each : ∀ i, i < len → ∃ e : En, EnOk e ∧ W.cell? (x.add (i * 4)) = some (.int .i64 e.f) ∧ W.cell? (x.add (i * 4 + 1)) = some (.int .i64 e.lf) ∧ W.cell? (x.add (i * 4 + 2)) = some (.int .i64 e.la) ∧ W.cell? (x.add (i * 4 + 3)) = some (.int .i64 e.fl) := by
      intro i hi
      obtain ⟨cs', h1, h2⟩ := hx i (by omega)
      rw [cells40] at h1
      obtain ⟨_, hlen, hcell⟩ := World.cells?_some h1
      obtain ⟨xs, k, hk, hxy, _, hxl, hf⟩ := DataW.trod_struct Try.underlying40 h2
      obtain ⟨v0, v1, v2, v3, rfl⟩ := len4 cs' hlen
      · have q0 := hf 0 _ rfl
        have q1 := hf 1 _ rfl
        have q2 := hf 2 _ rfl
        have q3 := hf 3 _ rfl
        simp [cells3, cells2] at q0 q1 q2 q3
        have e0 := hcell 0 (by omega)
        have e1 := hcell 1 (by omega)
        have e2 := hcell 2 (by omega)
        have e3 := hcell 3 (by omega)
        rw [add_add] at e0 e1 e2 e3
        simp at e0 e1 e2 e3
        obtain ⟨y0, y1, y2, y3, rfl⟩ := len4 xs hxl
        · obtain ⟨n0, f0, _, g0⟩ := DataW.trod_int Try.underlying3 q0
          obtain ⟨n1, f1, _, g1⟩ := DataW.trod_int Try.underlying2 q1
          obtain ⟨n2, f2, _, g2⟩ := DataW.trod_int Try.underlying2 q2
          obtain ⟨n3, f3, _, g3⟩ := DataW.trod_int Try.underlying3 q3
          simp at f0 f1 f2 f3
          subst f0 f1 f2 f3
          exact ⟨⟨n0, n1, n2, n3⟩, ⟨wf_bd g0, wf_bd g1, wf_bd g2, wf_bd g3⟩, e0, e1, e2, e3⟩
    obtain ⟨E, hE⟩ := choose_lt (α := Int × Int × Int × Int) (n := len) (p := fun i e => EnOk ⟨e.1, e.2.1, e.2.2.1, e.2.2.2⟩ ∧ W.cell? (x.add (i * 4)) = some (.int .i64 e.1) ∧ W.cell? (x.add (i * 4 + 1)) = some (.int .i64 e.2.1) ∧ W.cell? (x.add (i * 4 + 2)) = some (.int .i64 e.2.2.1) ∧ W.cell? (x.add (i * 4 + 3)) = some (.int .i64 e.2.2.2)) (fun i hi => by
      obtain ⟨e, h⟩ := each i hi
      exact ⟨(e.f, e.lf, e.la, e.fl), h⟩)
    refine ⟨(List.range len).map fun i => ⟨(E i).1, (E i).2.1, (E i).2.2.1, (E i).2.2.2⟩, by simp, fun k y hy => ?_, fun y hy => ?_, by omega⟩
    · rw [List.getElem?_map] at hy
      by_cases hk : k < len
      · rw [List.getElem?_range hk] at hy
        simp at hy
        subst hy
        obtain ⟨_, h0, h1, h2, h3⟩ := hE k hk
        have hs := spot_none h0
        have hxs : x.spot = none := by
          by_cases hz : k * 4 = 0
          · rw [hz] at h0
            have := spot_none h0
            simp [Addr.add] at this
            rw [this]
          · have h00 := (hE 0 (by omega)).2.1
            have := spot_none h00
            simp [Addr.add] at this
            rw [this]
        obtain ⟨b, o, sp⟩ := x
        simp at hxs
        subst hxs
        refine ⟨b, o, rfl, ?_, ?_, ?_, ?_⟩
        · rw [Addr.add_mid] at h0; exact h0
        · rw [Addr.add_mid] at h1; exact h1
        · rw [Addr.add_mid] at h2; exact h2
        · rw [Addr.add_mid] at h3; exact h3
      · rw [List.getElem?_eq_none (by simp; omega)] at hy; simp at hy
    · obtain ⟨i, hi, rfl⟩ := List.mem_map.1 hy
      exact (hE i (by simpa using hi)).1
end Go.Proofs.Qxb6612554a
