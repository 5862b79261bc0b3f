import Derived.Test.Qxb6612769aRows
import Derived.WalkKit
import Derived.WalkLawsBesides
import Derived.Outline
import Derived.Below
import Derived.BigRegion
import Derived.LaidEqlPtr
import Derived.Lib.Builder
import Derived.Laws.LoneSync
import Derived.Deep.RegionHeld3
import Derived.Deep.DrawnRows
import Derived.Deep.OwnRows
import Derived.Deep.AppendLies
namespace Go.Proofs.Qxb6612769a
open Go.RowKit
set_option linter.unusedVariables false
set_option linter.unusedSimpArgs false

abbrev P (b : Nat) : Value := .pointer (some ⟨b, 0, none⟩)
abbrev N : Value := .pointer none
def Hid (p : Prop) : Prop := p
theorem hid {p : Prop} (h : p) : Hid p := h
theorem Hid.out {p : Prop} (h : Hid p) : p := h

/-! ### Cells -/
def upC (o : Nat) (v : Value) (ob : Obj) : Obj := match ob with
  | .cells c t f => .cells (c.setIfInBounds o v) t f
  | other => other
theorem hset (w : World) (b o : Nat) (v : Value) (k : Nat) : (w.setCell ⟨b, o, none⟩ v).heap[k]? = if k = b then (w.heap[k]?).map (upC o v) else w.heap[k]? := by
  simp only [World.setCell, Array.getElem?_modify]
  by_cases h : k = b
  · subst h
    simp only [if_true]
    congr 1
  · rw [if_neg (fun e => h e.symm), if_neg h]
theorem lt_of_block {w : World} {b : Nat} {ob : Obj} (h : w.heap[b]? = some ob) : b < w.heap.size := (Array.getElem?_eq_some_iff.1 h).1
theorem cell_of_block {w : World} {b : Nat} {c : Array Value} {t : TypeId} {f : Nat × Nat} (h : w.heap[b]? = some (.cells c t f)) (o : Nat) : w.cell? ⟨b, o, none⟩ = c[o]? := by
  simp [World.cell?, h]
theorem frozen_of_block {w : World} {b : Nat} {c : Array Value} {t : TypeId} (h : w.heap[b]? = some (.cells c t (0, 0))) (o : Nat) : w.frozen? ⟨b, o, none⟩ = false := by
  simp [World.frozen?, h]
theorem set_same {w : World} {b : Nat} {c : Array Value} {t : TypeId} {f : Nat × Nat} (h : w.heap[b]? = some (.cells c t f)) (o : Nat) (v : Value) : (w.setCell ⟨b, o, none⟩ v).heap[b]? = some (.cells (c.setIfInBounds o v) t f) := by
  rw [hset, if_pos rfl, h]; rfl
theorem set_other {w : World} {b k : Nat} {ob : Obj} (h : w.heap[k]? = some ob) (hk : k ≠ b) (o : Nat) (v : Value) : (w.setCell ⟨b, o, none⟩ v).heap[k]? = some ob := by
  rw [hset, if_neg hk, h]
theorem alloc_new (w : World) (ob : Obj) : (w.alloc ob).heap[w.heap.size]? = some ob := by
  show (w.heap.push ob)[w.heap.size]? = _
  rw [Array.getElem?_push_size]
theorem alloc_old {w : World} {k : Nat} {x : Obj} (h : w.heap[k]? = some x) (ob : Obj) : (w.alloc ob).heap[k]? = some x := by
  rw [Below.heap_alloc w ob k (lt_of_block h)]; exact h

/-! ### What is kept -/
structure Kp (F : Nat → Prop) (w w' : World) : Prop where
  os : w'.os = w.os
  tape : w'.tape = w.tape
  output : w'.output = w.output
  size : w.heap.size ≤ w'.heap.size
  block : ∀ k, k < w.heap.size → ¬ F k → w'.heap[k]? = w.heap[k]?
theorem Kp.refl (F : Nat → Prop) (w : World) : Kp F w w := ⟨rfl, rfl, rfl, Nat.le_refl _, fun _ _ _ => rfl⟩
theorem Kp.trans {F : Nat → Prop} {a b c : World} (h : Kp F a b) (k : Kp F b c) : Kp F a c :=
  ⟨k.os.trans h.os, k.tape.trans h.tape, k.output.trans h.output, Nat.le_trans h.size k.size, fun i hi hf => (k.block i (Nat.lt_of_lt_of_le hi h.size) hf).trans (h.block i hi hf)⟩
theorem Kp.mono {F G : Nat → Prop} {a b : World} (h : Kp F a b) (hg : ∀ k, k < a.heap.size → F k → G k) : Kp G a b :=
  ⟨h.os, h.tape, h.output, h.size, fun k hk hf => h.block k hk (fun x => hf (hg k hk x))⟩
theorem Kp.of_below {F : Nat → Prop} {a b : World} (h : Below a.heap.size a b) : Kp F a b := ⟨h.os, h.tape, h.output, h.size, fun k hk _ => h.block k hk⟩
theorem Kp.below {F : Nat → Prop} {a b : World} {B : Nat} (h : Kp F a b) (hB : B ≤ a.heap.size) (hf : ∀ k, F k → B ≤ k) : Below B a b :=
  ⟨h.os, h.tape, h.output, h.size, fun k hk => h.block k (by omega) (fun x => by have := hf k x; omega)⟩
theorem Kp.drew {F : Nat → Prop} {a b : World} (h : Kp F a b) : Kp F a b.drew := ⟨h.os, h.tape, h.output, h.size, h.block⟩
theorem Kp.setCell {F : Nat → Prop} {a w : World} (h : Kp F a w) {b : Nat} (hb : F b ∨ a.heap.size ≤ b) (o : Nat) (v : Value) : Kp F a (w.setCell ⟨b, o, none⟩ v) :=
  ⟨h.os, h.tape, h.output, by simpa [World.setCell] using h.size, fun k hk hf => by
    rw [hset, if_neg (by rintro rfl; rcases hb with hb | hb; exact hf hb; omega)]
    exact h.block k hk hf⟩
theorem Kp.alloc {F : Nat → Prop} {a w : World} (h : Kp F a w) (ob : Obj) : Kp F a (w.alloc ob) :=
  ⟨h.os, h.tape, h.output, by have := h.size; simp; omega, fun k hk hf => by
    rw [Below.heap_alloc w ob k (Nat.lt_of_lt_of_le hk h.size)]; exact h.block k hk hf⟩
theorem Kp.keep {F : Nat → Prop} {a w : World} (h : Kp F a w) {b : Nat} {ob : Obj} (hb : a.heap[b]? = some ob) (hf : ¬ F b) : w.heap[b]? = some ob := by
  rw [h.block b (lt_of_block hb) hf]; exact hb

/-! ### Pointers compared -/
theorem info99 : ∃ i, Try.prog.info? 99 = some i ∧ i.size ≠ 0 := by
  have h : (Try.prog.info? 99).map (·.size) = some 22 := by kernel_rfl
  obtain ⟨j, h1, h2⟩ := Option.map_eq_some_iff.1 h
  exact ⟨j, h1, by omega⟩
theorem info86 : ∃ i, Try.prog.info? 86 = some i ∧ i.size ≠ 0 := by
  have h : (Try.prog.info? 86).map (·.size) = some 8 := by kernel_rfl
  obtain ⟨j, h1, h2⟩ := Option.map_eq_some_iff.1 h
  exact ⟨j, h1, by omega⟩
def Plain (w : World) (b : Nat) : Prop := ∃ c t, w.heap[b]? = some (.cells c t (0, 0))
/-- '!=' of two pointers that differ. -/
theorem run_neq_ptr_other {Pr : Program} (w : World) {tp te : TypeId} {j : TypeInfo} {a b : Addr} {ca cb : Array Value} {ta tb : TypeId} (hp : Pr.underlying tp = some (.pointer te)) (hte : Pr.info? te = some j) (hsz : j.size ≠ 0)
    (hne : a ≠ b) (ha : w.heap[a.block]? = some (.cells ca ta (0, 0))) (hb : w.heap[b.block]? = some (.cells cb tb (0, 0))) :
    (binOp .neq tp (.pointer (some a)) (.pointer (some b))).run Pr w = .ok (.bool true) w := by
  have h : ∀ d : Nat, (Op.equalIn (d + 1) tp (.pointer (some a)) (.pointer (some b))).run Pr w = .ok false w := fun d => by
    simp [Op.equalIn, run_underlying hp, sizeOf, typeInfo, hte, hsz, run_sameAddr_other w hne ha hb]
  simp only [binOp]
  simp [Op.equal, Op.maxDepth, h 9999]
theorem neq39 (w : World) (a b : Nat) (ha : Plain w a) (hb : Plain w b) : (binOp .neq 39 (P a) (P b)).run Try.prog w = .ok (.bool (a != b)) w := by
  obtain ⟨j, h1, h2⟩ := info99
  by_cases h : a = b
  · subst h; rw [Go.Lib.run_neq_ptr_same w _ Try.underlying39 h1]; simp
  · obtain ⟨c, t, ha⟩ := ha
    obtain ⟨c', t', hb⟩ := hb
    rw [run_neq_ptr_other w Try.underlying39 h1 h2 (fun e => h (by injection e)) ha hb]
    have : (a != b) = true := by simpa using h
    rw [this]

/-! ### The conversions to and from a bare pointer; the atomic loads and stores -/
theorem shape_of_block {w : World} {b : Nat} {c : Array Value} {t : TypeId} {f : Nat × Nat} (h : w.heap[b]? = some (.cells c t f)) : w.shape? b = some (t, c.size) := by
  simp [World.shape?, h]
theorem lies99 : liesAt Try.prog Try.prog.depth 99 (22 / Try.prog.cellsOf 99) 0 99 1 = true := by kernel_rfl
theorem to_unsafe (w : World) (b : Nat) (c : Array Value) (h : w.heap[b]? = some (.cells c 99 (0, 0))) (hc : c.size = 22) : (convert 39 70 (P b)).run Try.prog w = .ok (P b) w := by
  obtain ⟨j, h1, h2⟩ := info99
  have := shape_of_block h
  rw [hc] at this
  exact Lib.run_to_unsafe w ⟨b, 0, none⟩ Try.underlying39 Try.underlying70 h1 h2 this (by show 0 < 22; omega)
theorem from_unsafe (w : World) (b : Nat) (c : Array Value) (h : w.heap[b]? = some (.cells c 99 (0, 0))) (hc : c.size = 22) : (convert 70 39 (P b)).run Try.prog w = .ok (P b) w := by
  obtain ⟨j, h1, h2⟩ := info99
  have := shape_of_block h
  rw [hc] at this
  exact Lib.run_from_unsafe w ⟨b, 0, none⟩ Try.underlying70 Try.underlying39 h1 this lies99

theorem ext34 : ∃ fn, Try.prog.funcs[34]? = some fn ∧ (fn.name == "runtime.NumGoroutine") = false ∧ fn.body.isNone = true ∧ Extern.findNext fn = none ∧ Extern.find fn = some (Extern.Atomic.loadT .ptr) :=
  ⟨_, Try.func34, by kernel_rfl, by kernel_rfl, by kernel_rfl, by kernel_rfl⟩
theorem ext33 : ∃ fn, Try.prog.funcs[33]? = some fn ∧ (fn.name == "runtime.NumGoroutine") = false ∧ fn.body.isNone = true ∧ Extern.findNext fn = none ∧ Extern.find fn = some Extern.Atomic.storeT :=
  ⟨_, Try.func33, by kernel_rfl, by kernel_rfl, by kernel_rfl, by kernel_rfl⟩
theorem load_ptr (w : World) (a : Addr) (p : Option Addr) (hc : w.cell? a = some (.pointer p)) : (callFunc 34 #[.pointer (some a)]).run Try.prog w = .ok (.value (.pointer p)) w := by
  obtain ⟨fn, hf, hname, hb, hn, he⟩ := ext34
  rw [run_callFunc_extern hf hname hb hn he]
  change (Sem.run Try.prog (do Extern.Atomic.read .ptr (← asAddr (.pointer (some a)))) w).andThen _ = _
  simp [Extern.Atomic.read, asAddr, hc, Result.andThen]
theorem store_ptr (w : World) (a : Addr) (p : Option Addr) (u : Value) (hc : w.cell? a = some u) (hz : w.frozen? a = false) : (callFunc 33 #[.pointer (some a), .pointer p]).run Try.prog w = .ok (.value (.tuple #[])) (w.setCell a (.pointer p)) := by
  obtain ⟨fn, hf, hname, hb, hn, he⟩ := ext33
  rw [run_callFunc_extern hf hname hb hn he]
  change (Sem.run Try.prog (do
    store (← asAddr (.pointer (some a))) (.pointer p) .atomic
    pure Extern.Atomic.none_) w).andThen _ = _
  simp [asAddr, hc, hz, run_store Try.prog w a (.pointer p) .atomic rfl, Result.andThen, Extern.Atomic.none_]
end Go.Proofs.Qxb6612769a
