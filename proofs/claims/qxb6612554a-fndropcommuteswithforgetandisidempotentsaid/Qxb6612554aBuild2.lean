import Derived.Test.Qxb6612554aBuild
namespace Go.Proofs.Qxb6612554a
open Go.RowKit
set_option linter.unusedVariables false
set_option linter.unusedSimpArgs false

theorem len_succ (l : List Value) (n : Nat) (h : l.length = n + 1) : ∃ a r, l = a :: r ∧ r.length = n := by
  cases l with
  | nil => simp at h
  | cons a r => exact ⟨a, r, rfl, by simpa using h⟩
theorem arr36 (x : Array Value) (h : x.size = 36) : ∃ k0 k1 k2 k3 k4 k5 k6 k7 k8 k9 k10 k11 k12 k13 k14 k15 k16 k17 k18 k19 k20 k21 k22 k23 k24 k25 k26 k27 k28 k29 k30 k31 k32 k33 k34 k35 : Value, x = #[k0, k1, k2, k3, k4, k5, k6, k7, k8, k9, k10, k11, k12, k13, k14, k15, k16, k17, k18, k19, k20, k21, k22, k23, k24, k25, k26, k27, k28, k29, k30, k31, k32, k33, k34, k35] := by
  obtain ⟨l⟩ := x
  simp only [List.size_toArray] at h
  obtain ⟨k0, l0, e0, h0⟩ := len_succ l 35 h
  obtain ⟨k1, l1, e1, h1⟩ := len_succ l0 34 h0
  obtain ⟨k2, l2, e2, h2⟩ := len_succ l1 33 h1
  obtain ⟨k3, l3, e3, h3⟩ := len_succ l2 32 h2
  obtain ⟨k4, l4, e4, h4⟩ := len_succ l3 31 h3
  obtain ⟨k5, l5, e5, h5⟩ := len_succ l4 30 h4
  obtain ⟨k6, l6, e6, h6⟩ := len_succ l5 29 h5
  obtain ⟨k7, l7, e7, h7⟩ := len_succ l6 28 h6
  obtain ⟨k8, l8, e8, h8⟩ := len_succ l7 27 h7
  obtain ⟨k9, l9, e9, h9⟩ := len_succ l8 26 h8
  obtain ⟨k10, l10, e10, h10⟩ := len_succ l9 25 h9
  obtain ⟨k11, l11, e11, h11⟩ := len_succ l10 24 h10
  obtain ⟨k12, l12, e12, h12⟩ := len_succ l11 23 h11
  obtain ⟨k13, l13, e13, h13⟩ := len_succ l12 22 h12
  obtain ⟨k14, l14, e14, h14⟩ := len_succ l13 21 h13
  obtain ⟨k15, l15, e15, h15⟩ := len_succ l14 20 h14
  obtain ⟨k16, l16, e16, h16⟩ := len_succ l15 19 h15
  obtain ⟨k17, l17, e17, h17⟩ := len_succ l16 18 h16
  obtain ⟨k18, l18, e18, h18⟩ := len_succ l17 17 h17
  obtain ⟨k19, l19, e19, h19⟩ := len_succ l18 16 h18
  obtain ⟨k20, l20, e20, h20⟩ := len_succ l19 15 h19
  obtain ⟨k21, l21, e21, h21⟩ := len_succ l20 14 h20
  obtain ⟨k22, l22, e22, h22⟩ := len_succ l21 13 h21
  obtain ⟨k23, l23, e23, h23⟩ := len_succ l22 12 h22
  obtain ⟨k24, l24, e24, h24⟩ := len_succ l23 11 h23
  obtain ⟨k25, l25, e25, h25⟩ := len_succ l24 10 h24
  obtain ⟨k26, l26, e26, h26⟩ := len_succ l25 9 h25
  obtain ⟨k27, l27, e27, h27⟩ := len_succ l26 8 h26
  obtain ⟨k28, l28, e28, h28⟩ := len_succ l27 7 h27
  obtain ⟨k29, l29, e29, h29⟩ := len_succ l28 6 h28
  obtain ⟨k30, l30, e30, h30⟩ := len_succ l29 5 h29
  obtain ⟨k31, l31, e31, h31⟩ := len_succ l30 4 h30
  obtain ⟨k32, l32, e32, h32⟩ := len_succ l31 3 h31
  obtain ⟨k33, l33, e33, h33⟩ := len_succ l32 2 h32
  obtain ⟨k34, l34, e34, h34⟩ := len_succ l33 1 h33
  obtain ⟨k35, l35, e35, h35⟩ := len_succ l34 0 h34
  have e36 : l35 = [] := List.eq_nil_of_length_eq_zero h35
  exact ⟨k0, k1, k2, k3, k4, k5, k6, k7, k8, k9, k10, k11, k12, k13, k14, k15, k16, k17, k18, k19, k20, k21, k22, k23, k24, k25, k26, k27, k28, k29, k30, k31, k32, k33, k34, k35, by rw [e0, e1, e2, e3, e4, e5, e6, e7, e8, e9, e10, e11, e12, e13, e14, e15, e16, e17, e18, e19, e20, e21, e22, e23, e24, e25, e26, e27, e28, e29, e30, e31, e32, e33, e34, e35, e36]⟩

theorem slice46_lit (k0 k1 k2 k3 k4 k5 k6 k7 k8 k9 k10 k11 k12 k13 k14 k15 k16 k17 k18 k19 k20 k21 k22 k23 k24 k25 k26 k27 k28 k29 k30 k31 k32 k33 k34 k35 : Value) (w : World) : (Instr.buildSlice 46 1 #[(0, .agg #[k0, k1, k2, k3, k4, k5, k6, k7, k8, k9, k10, k11, k12, k13, k14, k15, k16, k17, k18, k19, k20, k21, k22, k23, k24, k25, k26, k27, k28, k29, k30, k31, k32, k33, k34, k35])]).run Try.prog w = .ok (.slice (some ⟨w.heap.size, 0, none⟩) 1 1) (w.alloc (.cells #[k0, k1, k2, k3, k4, k5, k6, k7, k8, k9, k10, k11, k12, k13, k14, k15, k16, k17, k18, k19, k20, k21, k22, k23, k24, k25, k26, k27, k28, k29, k30, k31, k32, k33, k34, k35] 51)) := by
  kernel_rfl
theorem slice46 (x : Array Value) (h : x.size = 36) (w : World) : (Instr.buildSlice 46 1 #[(0, .agg x)]).run Try.prog w = .ok (.slice (some ⟨w.heap.size, 0, none⟩) 1 1) (w.alloc (.cells x 51)) := by
  obtain ⟨k0, k1, k2, k3, k4, k5, k6, k7, k8, k9, k10, k11, k12, k13, k14, k15, k16, k17, k18, k19, k20, k21, k22, k23, k24, k25, k26, k27, k28, k29, k30, k31, k32, k33, k34, k35, e⟩ := arr36 x h
  rw [e, slice46_lit]
theorem bslice_cells (t : TypeId) (len : Nat) (parts : Array (Nat × Value)) : Instr.buildSlice t len parts = Instr.buildSlice t len (parts.map fun p => (p.1, .agg p.2.cells)) := by
  unfold Instr.buildSlice
  have e : ∀ (place : Nat → Option (Nat × Nat)) (cs : Array Value), Instr.fill place cs (parts.map fun p => (p.1, Value.agg p.2.cells)).toList = Instr.fill place cs parts.toList := fun place cs => by
    rw [Array.toList_map, ← fill_cells]
  simp only [e]
theorem exec46 (ρ : Operand → Value) (p0 : Operand) (dst : Option Tmp) (ty : TypeId) (pos : String) (after : Array Edge) (guard : Option (Nat × Bool)) (w : World) (h0 : (ρ p0).cells.size = 36) :
    (execOp ρ { dst := dst, op := .buildSlice 46 1 #[(0, p0)], type := ty, pos := pos, after := after, guard := guard }).run Try.prog w = .ok (.value (.slice (some ⟨w.heap.size, 0, none⟩) 1 1)) (w.alloc (.cells (ρ p0).cells 51)) := by
  have := slice46 (ρ p0).cells h0 w
  have e : Instr.buildSlice 46 1 #[(0, ρ p0)] = Instr.buildSlice 46 1 #[(0, .agg (ρ p0).cells)] := by
    rw [bslice_cells]; simp only [List.map_toArray, List.map_cons, List.map_nil]
  simp only [execOp, List.map_toArray, List.map_cons, List.map_nil, Sem.run_bind, e, this, Result.andThen_ok, Sem.run_pure]
end Go.Proofs.Qxb6612554a
