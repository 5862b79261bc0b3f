import Derived.Test.Qxb6612554aPush
namespace Go.Proofs.Qxb6612554a
open Go.RowKit
open Go.ChangeMaps (setBlock)
set_option linter.unusedVariables false
set_option linter.unusedSimpArgs false

/-! ### A struct value built of parts: by the parts' cells alone -/
theorem agg_cells (x : Array Value) : (Value.agg x).cells = x := rfl
theorem fill_cells (place : Nat → Option (Nat × Nat)) : ∀ (l : List (Nat × Value)) (cs : Array Value), Instr.fill place cs l = Instr.fill place cs (l.map fun p => (p.1, .agg p.2.cells))
  | [], _ => rfl
  | (i, v) :: r, cs => by
    simp only [Instr.fill, List.map_cons, agg_cells, ← fill_cells place r]
    rfl
theorem build_cells (t : TypeId) (parts : Array (Nat × Value)) : Instr.build t parts = Instr.build t (parts.map fun p => (p.1, .agg p.2.cells)) := by
  unfold Instr.build
  have e : ∀ (place : Nat → Option (Nat × Nat)) (cs : Array Value), Instr.fill place cs (parts.map fun p => (p.1, Value.agg p.2.cells)).toList = Instr.fill place cs parts.toList := fun place cs => by
    rw [Array.toList_map, ← fill_cells]
  simp only [e]

theorem arr32 (x : Array Value) (h : x.size = 32) : ∃ k0 k1 k2 k3 k4 k5 k6 k7 k8 k9 k10 k11 k12 k13 k14 k15 k16 k17 k18 k19 k20 k21 k22 k23 k24 k25 k26 k27 k28 k29 k30 k31 : Value, x = #[k0, k1, k2, k3, k4, k5, k6, k7, k8, k9, k10, k11, k12, k13, k14, k15, k16, k17, k18, k19, k20, k21, k22, k23, k24, k25, k26, k27, k28, k29, k30, k31] := by
  obtain ⟨l⟩ := x
  simp only [List.size_toArray] at h
  match l, h with
  | [k0, k1, k2, k3, k4, k5, k6, k7, k8, k9, k10, k11, k12, k13, k14, k15, k16, k17, k18, k19, k20, k21, k22, k23, k24, k25, k26, k27, k28, k29, k30, k31], _ => exact ⟨k0, k1, k2, k3, k4, k5, k6, k7, k8, k9, k10, k11, k12, k13, k14, k15, k16, k17, k18, k19, k20, k21, k22, k23, k24, k25, k26, k27, k28, k29, k30, k31, rfl⟩
theorem arr1 (x : Array Value) (h : x.size = 1) : ∃ a : Value, x = #[a] := by
  obtain ⟨l⟩ := x
  match l, h with
  | [a], _ => exact ⟨a, rfl⟩
theorem arr3 (x : Array Value) (h : x.size = 3) : ∃ a b c : Value, x = #[a, b, c] := by
  obtain ⟨l⟩ := x
  match l, h with
  | [a, b, c], _ => exact ⟨a, b, c, rfl⟩

theorem build94_lit (k0 k1 k2 k3 k4 k5 k6 k7 k8 k9 k10 k11 k12 k13 k14 k15 k16 k17 k18 k19 k20 k21 k22 k23 k24 k25 k26 k27 k28 k29 k30 k31 f a0 a1 a2 b0 b1 b2 fl : Value) (w : World) :
    (Instr.build 94 #[(0, .agg #[k0, k1, k2, k3, k4, k5, k6, k7, k8, k9, k10, k11, k12, k13, k14, k15, k16, k17, k18, k19, k20, k21, k22, k23, k24, k25, k26, k27, k28, k29, k30, k31]), (1, .agg #[f]), (2, .agg #[a0, a1, a2]), (3, .agg #[b0, b1, b2]), (4, .agg #[fl])]).run Try.prog w =
    .ok (.agg #[k0, k1, k2, k3, k4, k5, k6, k7, k8, k9, k10, k11, k12, k13, k14, k15, k16, k17, k18, k19, k20, k21, k22, k23, k24, k25, k26, k27, k28, k29, k30, k31, f, a0, a1, a2, b0, b1, b2, fl, .slice none 0 0]) w := by
  kernel_rfl
theorem build94 (x0 x1 x2 x3 x4 : Value) (h0 : x0.cells.size = 32) (h1 : x1.cells.size = 1) (h2 : x2.cells.size = 3) (h3 : x3.cells.size = 3) (h4 : x4.cells.size = 1) (w : World) :
    (Instr.build 94 #[(0, x0), (1, x1), (2, x2), (3, x3), (4, x4)]).run Try.prog w = .ok (.agg (x0.cells ++ x1.cells ++ x2.cells ++ x3.cells ++ x4.cells ++ #[.slice none 0 0])) w := by
  rw [build_cells]
  simp only [List.map_toArray, List.map_cons, List.map_nil]
  obtain ⟨k0, k1, k2, k3, k4, k5, k6, k7, k8, k9, k10, k11, k12, k13, k14, k15, k16, k17, k18, k19, k20, k21, k22, k23, k24, k25, k26, k27, k28, k29, k30, k31, e0⟩ := arr32 _ h0
  obtain ⟨f, e1⟩ := arr1 _ h1
  obtain ⟨a0, a1, a2, e2⟩ := arr3 _ h2
  obtain ⟨b0, b1, b2, e3⟩ := arr3 _ h3
  obtain ⟨fl, e4⟩ := arr1 _ h4
  rw [e0, e1, e2, e3, e4, build94_lit]
  rfl
theorem build51_lit (k0 k1 k2 k3 k4 k5 k6 k7 k8 k9 k10 k11 k12 k13 k14 k15 k16 k17 k18 k19 k20 k21 k22 k23 k24 k25 k26 k27 k28 k29 k30 k31 a b c d : Value) (w : World) :
    (Instr.build 51 #[(0, .agg #[k0, k1, k2, k3, k4, k5, k6, k7, k8, k9, k10, k11, k12, k13, k14, k15, k16, k17, k18, k19, k20, k21, k22, k23, k24, k25, k26, k27, k28, k29, k30, k31]), (1, .agg #[a]), (2, .agg #[b]), (3, .agg #[c]), (4, .agg #[d])]).run Try.prog w =
    .ok (.agg #[k0, k1, k2, k3, k4, k5, k6, k7, k8, k9, k10, k11, k12, k13, k14, k15, k16, k17, k18, k19, k20, k21, k22, k23, k24, k25, k26, k27, k28, k29, k30, k31, a, b, c, d]) w := by
  kernel_rfl
theorem build51 (x0 x1 x2 x3 x4 : Value) (h0 : x0.cells.size = 32) (h1 : x1.cells.size = 1) (h2 : x2.cells.size = 1) (h3 : x3.cells.size = 1) (h4 : x4.cells.size = 1) (w : World) :
    (Instr.build 51 #[(0, x0), (1, x1), (2, x2), (3, x3), (4, x4)]).run Try.prog w = .ok (.agg (x0.cells ++ x1.cells ++ x2.cells ++ x3.cells ++ x4.cells)) w := by
  rw [build_cells]
  simp only [List.map_toArray, List.map_cons, List.map_nil]
  obtain ⟨k0, k1, k2, k3, k4, k5, k6, k7, k8, k9, k10, k11, k12, k13, k14, k15, k16, k17, k18, k19, k20, k21, k22, k23, k24, k25, k26, k27, k28, k29, k30, k31, e0⟩ := arr32 _ h0
  obtain ⟨a, e1⟩ := arr1 _ h1
  obtain ⟨b, e2⟩ := arr1 _ h2
  obtain ⟨c, e3⟩ := arr1 _ h3
  obtain ⟨d, e4⟩ := arr1 _ h4
  rw [e0, e1, e2, e3, e4, build51_lit]
  rfl

theorem exec94 (ρ : Operand → Value) (p0 p1 p2 p3 p4 : Operand) (dst : Option Tmp) (ty : TypeId) (pos : String) (after : Array Edge) (guard : Option (Nat × Bool)) (w : World) (h0 : (ρ p0).cells.size = 32) (h1 : (ρ p1).cells.size = 1) (h2 : (ρ p2).cells.size = 3) (h3 : (ρ p3).cells.size = 3) (h4 : (ρ p4).cells.size = 1) :
    (execOp ρ { dst := dst, op := .build 94 #[(0, p0), (1, p1), (2, p2), (3, p3), (4, p4)], type := ty, pos := pos, after := after, guard := guard }).run Try.prog w = .ok (.value (.agg ((ρ p0).cells ++ (ρ p1).cells ++ (ρ p2).cells ++ (ρ p3).cells ++ (ρ p4).cells ++ #[.slice none 0 0]))) w := by
  have := build94 (ρ p0) (ρ p1) (ρ p2) (ρ p3) (ρ p4) h0 h1 h2 h3 h4 w
  simp only [execOp, List.map_toArray, List.map_cons, List.map_nil, Sem.run_bind, this, Result.andThen_ok, Sem.run_pure]
theorem exec51 (ρ : Operand → Value) (p0 p1 p2 p3 p4 : Operand) (dst : Option Tmp) (ty : TypeId) (pos : String) (after : Array Edge) (guard : Option (Nat × Bool)) (w : World) (h0 : (ρ p0).cells.size = 32) (h1 : (ρ p1).cells.size = 1) (h2 : (ρ p2).cells.size = 1) (h3 : (ρ p3).cells.size = 1) (h4 : (ρ p4).cells.size = 1) :
    (execOp ρ { dst := dst, op := .build 51 #[(0, p0), (1, p1), (2, p2), (3, p3), (4, p4)], type := ty, pos := pos, after := after, guard := guard }).run Try.prog w = .ok (.value (.agg ((ρ p0).cells ++ (ρ p1).cells ++ (ρ p2).cells ++ (ρ p3).cells ++ (ρ p4).cells))) w := by
  have := build51 (ρ p0) (ρ p1) (ρ p2) (ρ p3) (ρ p4) h0 h1 h2 h3 h4 w
  simp only [execOp, List.map_toArray, List.map_cons, List.map_nil, Sem.run_bind, this, Result.andThen_ok, Sem.run_pure]
end Go.Proofs.Qxb6612554a
