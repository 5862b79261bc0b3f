import Derived.Test.Qxb6612769aGb
namespace Go.Proofs.Qxb6612769a
open Go.RowKit
set_option linter.unusedVariables false
set_option linter.unusedSimpArgs false

/-! ### Rows that are made -/
def partZ : Array Value := #[.int .i32 0, .int .u32 0, N, .int .i64 0] ++ Array.replicate 40 (.int .u8 0)
def pcells (c : Nat) : Array Value := madeCells partZ (c * 44)
def hcells (c : Nat) : Array Value := madeCells #[N] c
theorem info106 : (Try.prog.info? 106).map (fun i => (i.zero.map Value.cells, i.size, i.bytes)) = some (some partZ, 44, 64) := by kernel_rfl
theorem info72 : (Try.prog.info? 72).map (fun i => (i.zero.map Value.cells, i.size, i.bytes)) = some (some #[N], 1, 8) := by kernel_rfl
theorem info_cells {o : Option TypeInfo} {z : Array Value} {s b : Nat} (h : o.map (fun i => (i.zero.map Value.cells, i.size, i.bytes)) = some (some z, s, b)) : ∃ i v, o = some i ∧ i.zero = some v ∧ v.cells = z ∧ i.size = s ∧ i.bytes = b := by
  cases o with
  | none => cases h
  | some i =>
    simp at h
    obtain ⟨⟨v, h1, h2⟩, h3, h4⟩ := h
    exact ⟨i, v, rfl, h1, h2, h3, h4⟩
theorem make77 (c : Nat) (hc : c ≤ 1000000) (w : World) : (Instr.makeSlice 77 (.int .i64 (c : Int)) (.int .i64 (c : Int))).run Try.prog w = .ok (.slice (some ⟨w.heap.size, 0, none⟩) c c) (w.alloc (.cells (pcells c) 106)) := by
  obtain ⟨i, v, hi, hz, hv, hs, hb⟩ := info_cells info106
  have hr := run_make (P := Try.prog) w 77 106 i v Try.underlying77 hi hz .i64 .i64 c c (by omega) (Int.le_refl _) (by rw [hb]; omega) (by omega)
  simp only [Int.toNat_natCast, hs, hv] at hr
  exact hr
theorem make78 (c : Nat) (hc : c ≤ 1000000) (w : World) : (Instr.makeSlice 78 (.int .i64 (c : Int)) (.int .i64 (c : Int))).run Try.prog w = .ok (.slice (some ⟨w.heap.size, 0, none⟩) c c) (w.alloc (.cells (hcells c) 72)) := by
  obtain ⟨i, v, hi, hz, hv, hs, hb⟩ := info_cells info72
  have hr := run_make (P := Try.prog) w 78 72 i v Try.underlying78 hi hz .i64 .i64 c c (by omega) (Int.le_refl _) (by rw [hb]; omega) (by omega)
  simp only [Int.toNat_natCast, hs, hv, Nat.mul_one] at hr
  exact hr
theorem made_at (z : Array Value) (s n k : Nat) (hz : z.size = s) (hk : k < n) : (madeCells z n)[k]? = some (z[k % s]!) := by
  unfold madeCells
  simp [hk, hz]
theorem pcells_size (c : Nat) : (pcells c).size = c * 44 := size_madeCells _ _
theorem pcells_at (c i : Nat) (hi : i < c) : (pcells c)[i * 44 + 2]? = some N ∧ (pcells c)[i * 44 + 3]? = some (.int .i64 ((0 : Nat) : Int)) := by
  have hz : partZ.size = 44 := by simp [partZ]
  unfold pcells
  rw [made_at partZ 44 (c * 44) (i * 44 + 2) hz (by omega), made_at partZ 44 (c * 44) (i * 44 + 3) hz (by omega), show (i * 44 + 2) % 44 = 2 by omega, show (i * 44 + 3) % 44 = 3 by omega]
  exact ⟨rfl, rfl⟩
theorem hcells_size (c : Nat) : (hcells c).size = c := size_madeCells _ _
theorem hcells_at (c i : Nat) (hi : i < c) : (hcells c)[i]? = some N := by
  unfold hcells
  rw [made_at #[N] 1 c i rfl hi, show i % 1 = 0 by omega]
  rfl
theorem parts_new {w : World} {b c : Nat} (h : w.heap[b]? = some (.cells (pcells c) 106 (0, 0))) : Parts w b c (fun _ => N) (fun _ => 0) :=
  ⟨_, h, pcells_size c, fun i hi => pcells_at c i hi⟩
theorem hots_new {w : World} {b c : Nat} (h : w.heap[b]? = some (.cells (hcells c) 72 (0, 0))) : Hots w b c (fun _ => N) :=
  ⟨_, h, hcells_size c, fun i hi => hcells_at c i hi⟩

/-- grow's first two statements. -/
theorem grow_start {w : World} {T Pb Hb n c : Nat} (ht : TabAt w T Pb Hb n) :
    let w2 := (((w.setCell ⟨T, 1, none⟩ (.slice (some ⟨w.heap.size, 0, none⟩) c c)).setCell ⟨T, 7, none⟩ (.slice (some ⟨w.heap.size + 1, 0, none⟩) c c)).alloc (.cells (pcells c) 106)).alloc (.cells (hcells c) 72)
    TabAt w2 T w.heap.size (w.heap.size + 1) c ∧ Parts w2 w.heap.size c (fun _ => N) (fun _ => 0) ∧ Hots w2 (w.heap.size + 1) c (fun _ => N) ∧ Kp (fun b => b = T) w w2 := by
  intro w2
  obtain ⟨cs, h0, h1, h2, h3⟩ := ht
  have hT : T < w.heap.size := lt_of_block h0
  have e1 := set_same h0 1 (.slice (some ⟨w.heap.size, 0, none⟩) c c)
  have e2 := set_same e1 7 (.slice (some ⟨w.heap.size + 1, 0, none⟩) c c)
  have e3 := alloc_old (alloc_old e2 (.cells (pcells c) 106)) (.cells (hcells c) 72)
  have hs : ((w.setCell ⟨T, 1, none⟩ (.slice (some ⟨w.heap.size, 0, none⟩) c c)).setCell ⟨T, 7, none⟩ (.slice (some ⟨w.heap.size + 1, 0, none⟩) c c)).heap.size = w.heap.size := by
    simp [World.setCell]
  have p0 := alloc_new ((w.setCell ⟨T, 1, none⟩ (.slice (some ⟨w.heap.size, 0, none⟩) c c)).setCell ⟨T, 7, none⟩ (.slice (some ⟨w.heap.size + 1, 0, none⟩) c c)) (.cells (pcells c) 106)
  rw [hs] at p0
  have p1 := alloc_old p0 (.cells (hcells c) 72)
  have q0 := alloc_new (((w.setCell ⟨T, 1, none⟩ (.slice (some ⟨w.heap.size, 0, none⟩) c c)).setCell ⟨T, 7, none⟩ (.slice (some ⟨w.heap.size + 1, 0, none⟩) c c)).alloc (.cells (pcells c) 106)) (.cells (hcells c) 72)
  have hs2 : (((w.setCell ⟨T, 1, none⟩ (.slice (some ⟨w.heap.size, 0, none⟩) c c)).setCell ⟨T, 7, none⟩ (.slice (some ⟨w.heap.size + 1, 0, none⟩) c c)).alloc (.cells (pcells c) 106)).heap.size = w.heap.size + 1 := by
    simp [World.setCell]
  rw [hs2] at q0
  refine ⟨⟨_, e3, by simp [h1], ?_, ?_⟩, parts_new p1, hots_new q0, ?_⟩
  · rw [Array.getElem?_setIfInBounds_ne (by omega), Array.getElem?_setIfInBounds_self_of_lt (by omega)]
  · rw [Array.getElem?_setIfInBounds_self_of_lt (by simp [h1])]
  · exact ((((Kp.refl (fun b => b = T) w).setCell (b := T) (.inl rfl) _ _).setCell (b := T) (.inl rfl) _ _).alloc _).alloc _

/-! ### How far along a chain a pointer stands -/
def posM (blk : Nat → Nat) : List Nat → Nat → Nat
  | [], _ => 0
  | k :: l, b => if blk k = b then l.length + 1 else posM blk l b
def posV (blk : Nat → Nat) (l : List Nat) : Value → Nat
  | .pointer (some a) => posM blk l a.block
  | _ => 0
theorem posM_at (blk : Nat → Nat) (k : Nat) (rest : List Nat) : ∀ (xs : List Nat), (∀ x ∈ xs, blk x ≠ blk k) → posM blk (xs ++ k :: rest) (blk k) = rest.length + 1
  | [], _ => by simp [posM]
  | x :: xs, h => by
    show posM blk (x :: (xs ++ k :: rest)) (blk k) = _
    unfold posM
    rw [if_neg (h x (by simp))]
    exact posM_at blk k rest xs fun y hy => h y (List.mem_cons_of_mem _ hy)
theorem posV_ch {blk : Nat → Nat} {nx : Nat → Value} {p : Value} {xs rest l : List Nat} {m : Nat} (hc : Ch blk nx p rest) (hl : l = xs ++ rest) (hm : ∀ k ∈ l, k < m) (hnd : l.Nodup) (hinj : ∀ k l, k < m → l < m → blk k = blk l → k = l) : posV blk l p = rest.length := by
  cases rest with
  | nil => have : p = N := hc; rw [this]; rfl
  | cons k rest =>
    rw [hc.1]
    show posM blk l (blk k) = _
    rw [hl, posM_at blk k rest xs]
    · rfl
    · intro x hx e
      subst hl
      have hk := hinj x k (hm x (by simp [hx])) (hm k (by simp)) e
      rw [List.nodup_append] at hnd
      exact hnd.2.2 x hx k (by simp) hk
end Go.Proofs.Qxb6612769a
