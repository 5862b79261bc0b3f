import Derived.Test.Qxb6612554aState
namespace Go.Proofs.Qxb6612554a
open Go.RowKit
open Go.ChangeMaps (setBlock)
set_option linter.unusedVariables false
set_option linter.unusedSimpArgs false

/-! ### Blocks -/
def upC (o : Nat) (v : Value) : Obj → Obj
  | .cells c t f => .cells (c.setIfInBounds o v) t f
  | ob => ob

theorem hset (w : World) (b o : Nat) (v : Value) (k : Nat) : (w.setCell ⟨b, o, none⟩ v).heap[k]? = if k = b then (w.heap[k]?).map (upC o v) else w.heap[k]? := by
  simp only [World.setCell, Array.getElem?_modify]
  by_cases h : k = b
  · subst h
    simp only [if_true]
    congr 1
  · rw [if_neg (fun e => h e.symm), if_neg h]

theorem hsetB (w : World) (b : Nat) (ob : Obj) (k : Nat) : (setBlock w b ob).heap[k]? = if k = b ∧ k < w.heap.size then some ob else w.heap[k]? := by
  simp only [setBlock, Array.getElem?_setIfInBounds]
  by_cases h : b = k
  · subst h
    simp only [if_true, true_and]
    split
    · rfl
    · rename_i hk; rw [Array.getElem?_eq_none (by omega)]
  · rw [if_neg h, if_neg (fun e => h e.1.symm)]

/-- Outside F nothing has turned of what was there. -/
structure Kp (F : Nat → Prop) (w w' : World) : Prop where
  os : w'.os = w.os
  tape : w'.tape = w.tape
  output : w'.output = w.output
  size : w.heap.size ≤ w'.heap.size
  block : ∀ k, k < w.heap.size → ¬ F k → w'.heap[k]? = w.heap[k]?

theorem Kp.refl (F : Nat → Prop) (w : World) : Kp F w w := ⟨rfl, rfl, rfl, Nat.le_refl _, fun _ _ _ => rfl⟩
theorem Kp.trans {F : Nat → Prop} {a b c : World} (h : Kp F a b) (k : Kp F b c) : Kp F a c :=
  ⟨k.os.trans h.os, k.tape.trans h.tape, k.output.trans h.output, Nat.le_trans h.size k.size, fun i hi hf => (k.block i (Nat.lt_of_lt_of_le hi h.size) hf).trans (h.block i hi hf)⟩
theorem Kp.mono {F G : Nat → Prop} {a b : World} (h : Kp F a b) (hg : ∀ k, k < a.heap.size → F k → G k) : Kp G a b :=
  ⟨h.os, h.tape, h.output, h.size, fun k hk hf => h.block k hk (fun x => hf (hg k hk x))⟩
theorem Kp.of_below {F : Nat → Prop} {a b : World} (h : Below a.heap.size a b) : Kp F a b := ⟨h.os, h.tape, h.output, h.size, fun k hk _ => h.block k hk⟩
theorem Kp.below {F : Nat → Prop} {a b : World} {B : Nat} (h : Kp F a b) (hB : B ≤ a.heap.size) (hf : ∀ k, F k → B ≤ k) : Below B a b :=
  ⟨h.os, h.tape, h.output, h.size, fun k hk => h.block k (by omega) (fun x => by have := hf k x; omega)⟩
theorem Kp.drew {F : Nat → Prop} {a b : World} (h : Kp F a b) : Kp F a b.drew := ⟨h.os, h.tape, h.output, h.size, h.block⟩
theorem Kp.setCell {F : Nat → Prop} {a w : World} (h : Kp F a w) {b : Nat} (hb : F b ∨ a.heap.size ≤ b) (o : Nat) (v : Value) : Kp F a (w.setCell ⟨b, o, none⟩ v) :=
  ⟨h.os, h.tape, h.output, by simpa [World.setCell] using h.size, fun k hk hf => by
    rw [hset, if_neg (by rintro rfl; rcases hb with hb | hb; exact hf hb; omega)]
    exact h.block k hk hf⟩
theorem Kp.alloc {F : Nat → Prop} {a w : World} (h : Kp F a w) (ob : Obj) : Kp F a (w.alloc ob) :=
  ⟨h.os, h.tape, h.output, by have := h.size; simp; omega, fun k hk hf => by
    rw [Below.heap_alloc w ob k (Nat.lt_of_lt_of_le hk h.size)]; exact h.block k hk hf⟩
theorem Kp.setBlock {F : Nat → Prop} {a w : World} (h : Kp F a w) {b : Nat} (hb : F b ∨ a.heap.size ≤ b) (ob : Obj) : Kp F a (setBlock w b ob) :=
  ⟨h.os, h.tape, h.output, by have := h.size; simp [ChangeMaps.setBlock]; omega, fun k hk hf => by
    rw [hsetB, if_neg (by rintro ⟨rfl, _⟩; rcases hb with hb | hb; exact hf hb; omega)]
    exact h.block k hk hf⟩
theorem lt_of_block {w : World} {b : Nat} {ob : Obj} (h : w.heap[b]? = some ob) : b < w.heap.size := (Array.getElem?_eq_some_iff.1 h).1
theorem Kp.keep {F : Nat → Prop} {a w : World} (h : Kp F a w) {b : Nat} {ob : Obj} (hb : a.heap[b]? = some ob) (hf : ¬ F b) : w.heap[b]? = some ob := by
  rw [h.block b (lt_of_block hb) hf]; exact hb
theorem cell_of_block {w : World} {b : Nat} {c : Array Value} {t : TypeId} {f : Nat × Nat} (h : w.heap[b]? = some (.cells c t f)) (o : Nat) : w.cell? ⟨b, o, none⟩ = c[o]? := by
  simp [World.cell?, h]
theorem frozen_of_block {w : World} {b : Nat} {c : Array Value} {t : TypeId} (h : w.heap[b]? = some (.cells c t (0, 0))) (o : Nat) : w.frozen? ⟨b, o, none⟩ = false := by
  simp [World.frozen?, h]

/-! ### The limiter -/
/-- A key's number, its element's block, its entry's block, its entry's numbers. -/
structure Nd where
  i : Nat
  b : Nat
  e : Nat
  f : Int
  lf : Int
  la : Int
  fl : Int

def entT (n : Nd) : List Value := [.int .i64 n.f, .int .u64 (tn n.lf), .int .i64 (ts n.lf), N, .int .u64 (tn n.la), .int .i64 (ts n.la), N, .int .i64 n.fl, .slice none 0 0]
def entL (n : Nd) : List Value := kc n.i ++ entT n

/-- An entry lies in its block. -/
def EntAt (w : World) (n : Nd) : Prop := w.heap[n.e]? = some (.cells (entL n).toArray 94 (0, 0))

structure Lim (w : World) (L lb mb : Nat) (nx pv : Nat → Nat) (ns : List Nd) : Prop where
  lim : ∃ v0 v1 v2, w.heap[L]? = some (.cells #[v0, v1, v2, .map (some mb), P lb] 91 (0, 0))
  lst : w.heap[lb]? = some (.cells #[P (nx lb), P (pv lb), N, .nilIface, .int .i64 (ns.length : Nat)] 110 (0, 0))
  elem : ∀ n ∈ ns, w.heap[n.b]? = some (.cells #[P (nx n.b), P (pv n.b), P lb, .iface 95 (P n.e)] 97 (0, 0))
  ent : ∀ n ∈ ns, EntAt w n
  map : ∃ es c, w.heap[mb]? = some (.map es c) ∧ Holds es (ns.map fun n => (n.i, n.b))
  ring : Ring nx pv (lb :: ns.map (·.b) ++ [lb])
  nodup : (ns.map (·.b)).Nodup
  idx : (ns.map (·.i)).Nodup
  small : ∀ n ∈ ns, n.i ≤ 65535
  few : ns.length ≤ 16384

/-- An element that the limiter has let go. -/
def Gone (w : World) (n : Nd) : Prop := w.heap[n.b]? = some (.cells #[N, N, N, .iface 95 (P n.e)] 97 (0, 0)) ∧ EntAt w n

/-- What the limiter's operations may turn. -/
def Own (lb mb : Nat) (ns : List Nd) (k : Nat) : Prop := k = lb ∨ k = mb ∨ ∃ n ∈ ns, k = n.b

section
variable {w : World} {L lb mb : Nat} {nx pv : Nat → Nat} {ns : List Nd}
theorem Lim.ne (h : Lim w L lb mb nx pv ns) {n : Nd} (hn : n ∈ ns) : n.b ≠ lb := fun e => by
  have h1 := h.elem n hn
  rw [e, h.lst] at h1; simp at h1
theorem Lim.nd (h : Lim w L lb mb nx pv ns) : (lb :: ns.map (·.b)).Nodup := by
  refine List.nodup_cons.2 ⟨fun hm => ?_, h.nodup⟩
  obtain ⟨n, hn, e⟩ := List.mem_map.1 hm
  exact h.ne hn e

theorem lastD_mem (l : List Nat) (d : Nat) : lastD l d ∈ d :: l := by
  obtain ⟨A, p, hA, hp⟩ := split_last d l
  rw [← hp, hA]; simp
theorem headD_mem (l : List Nat) (d : Nat) : headD l d ∈ l ++ [d] := by
  obtain ⟨q, B, hB, hq⟩ := split_head d l
  rw [← hq, hB]; simp

/-- Each block of the ring is a plain row whose first two cells are its neighbours. -/
theorem Lim.row (h : Lim w L lb mb nx pv ns) {x : Nat} (hx : x ∈ lb :: ns.map (·.b)) : ∃ c t, w.heap[x]? = some (.cells c t (0, 0)) ∧ c[0]? = some (P (nx x)) ∧ c[1]? = some (P (pv x)) := by
  rcases List.mem_cons.1 hx with rfl | hx
  · exact ⟨_, _, h.lst, rfl, rfl⟩
  · obtain ⟨n, hn, rfl⟩ := List.mem_map.1 hx
    exact ⟨_, _, h.elem n hn, rfl, rfl⟩
theorem Lim.c0 (h : Lim w L lb mb nx pv ns) {x : Nat} (hx : x ∈ lb :: ns.map (·.b)) : w.cell? ⟨x, 0, none⟩ = some (P (nx x)) := by
  obtain ⟨c, t, h1, h2, h3⟩ := h.row hx
  rw [cell_of_block h1, h2]
theorem Lim.c1 (h : Lim w L lb mb nx pv ns) {x : Nat} (hx : x ∈ lb :: ns.map (·.b)) : w.cell? ⟨x, 1, none⟩ = some (P (pv x)) := by
  obtain ⟨c, t, h1, h2, h3⟩ := h.row hx
  rw [cell_of_block h1, h3]
theorem Lim.fz (h : Lim w L lb mb nx pv ns) {x : Nat} (hx : x ∈ lb :: ns.map (·.b)) (o : Nat) : w.frozen? ⟨x, o, none⟩ = false := by
  obtain ⟨c, t, h1, h2, h3⟩ := h.row hx
  exact frozen_of_block h1 o
theorem Lim.plain (h : Lim w L lb mb nx pv ns) {x : Nat} (hx : x ∈ lb :: ns.map (·.b)) : Plain w x := by
  obtain ⟨c, t, h1, h2, h3⟩ := h.row hx
  exact ⟨c, t, h1⟩
theorem Lim.c2 (h : Lim w L lb mb nx pv ns) {n : Nd} (hn : n ∈ ns) : w.cell? ⟨n.b, 2, none⟩ = some (P lb) := by rw [cell_of_block (h.elem n hn)]; rfl
theorem Lim.c3 (h : Lim w L lb mb nx pv ns) {n : Nd} (hn : n ∈ ns) : w.cell? ⟨n.b, 3, none⟩ = some (.iface 95 (P n.e)) := by rw [cell_of_block (h.elem n hn)]; rfl
theorem Lim.c4 (h : Lim w L lb mb nx pv ns) : w.cell? ⟨lb, 4, none⟩ = some (.int .i64 (ns.length : Nat)) := by rw [cell_of_block h.lst]; rfl
theorem Lim.l3 (h : Lim w L lb mb nx pv ns) : w.cell? ⟨L, 3, none⟩ = some (.map (some mb)) := by obtain ⟨_, _, _, h⟩ := h.lim; rw [cell_of_block h]; rfl
theorem Lim.l4 (h : Lim w L lb mb nx pv ns) : w.cell? ⟨L, 4, none⟩ = some (P lb) := by obtain ⟨_, _, _, h⟩ := h.lim; rw [cell_of_block h]; rfl
theorem Lim.L_not (h : Lim w L lb mb nx pv ns) : ¬ Own lb mb ns L := by
  obtain ⟨_, _, _, hL⟩ := h.lim
  rintro (rfl | rfl | ⟨n, hn, rfl⟩)
  · have := h.lst; rw [hL] at this; simp at this
  · obtain ⟨es, c, hm, _⟩ := h.map; rw [hL] at hm; simp at hm
  · have := h.elem n hn; rw [hL] at this; simp at this
theorem Lim.e_not (h : Lim w L lb mb nx pv ns) {n : Nd} (hn : EntAt w n) : ¬ Own lb mb ns n.e := by
  unfold EntAt at hn
  rintro (e | e | ⟨m, hm, e⟩)
  · have := h.lst; rw [e] at hn; rw [hn] at this; simp at this
  · obtain ⟨es, c, hm, _⟩ := h.map; rw [e] at hn; rw [hn] at hm; simp at hm
  · have := h.elem m hm; rw [e] at hn; rw [hn] at this; simp at this
theorem Lim.mb_ne (h : Lim w L lb mb nx pv ns) {x : Nat} (hx : x ∈ lb :: ns.map (·.b)) : x ≠ mb := by
  obtain ⟨c, t, h1, _, _⟩ := h.row hx
  obtain ⟨es, k, hm, _⟩ := h.map
  rintro rfl
  rw [h1] at hm; simp at hm

/-- The state is kept where what it is made of is kept. -/
theorem Lim.keep {w' : World} (h : Lim w L lb mb nx pv ns) {F : Nat → Prop} (k : Kp F w w') (hL : ¬ F L) (hlb : ¬ F lb) (hmb : ¬ F mb) (hb : ∀ n ∈ ns, ¬ F n.b) (he : ∀ n ∈ ns, ¬ F n.e) : Lim w' L lb mb nx pv ns := by
  obtain ⟨v0, v1, v2, h1⟩ := h.lim
  obtain ⟨es, c, h2, h3⟩ := h.map
  exact ⟨⟨v0, v1, v2, k.keep h1 hL⟩, k.keep h.lst hlb, fun n hn => k.keep (h.elem n hn) (hb n hn), fun n hn => k.keep (h.ent n hn) (he n hn), ⟨es, c, k.keep h2 hmb, h3⟩, h.ring, h.nodup, h.idx, h.small, h.few⟩
theorem Lim.keep0 {w' : World} (h : Lim w L lb mb nx pv ns) (k : Below w.heap.size w w') : Lim w' L lb mb nx pv ns :=
  h.keep (F := fun _ => False) (Kp.of_below k) id id id (fun _ _ => id) (fun _ _ => id)
theorem Lim.drew (h : Lim w L lb mb nx pv ns) : Lim w.drew L lb mb nx pv ns := h.keep0 (Below.refl _ _).drew
end

/-! ### A key is dropped -/
theorem ite_map (c : Prop) [Decidable c] (f : Obj → Obj) (o : Option Obj) : (if c then o.map f else o) = o.map (fun ob => if c then f ob else ob) := by
  by_cases h : c <;> simp [h]
theorem rem_heap (w : World) (lb e p q : Nat) (n : Int) (k : Nat) (hk : k ≠ e) : (remW w lb e p q n).heap[k]? =
    (((w.heap[k]?).map (fun ob => if k = p then upC 0 (P q) ob else ob)).map (fun ob => if k = q then upC 1 (P p) ob else ob)).map (fun ob => if k = lb then upC 4 (.int .i64 (n - 1)) ob else ob) := by
  unfold remW
  simp only [hset, if_neg hk]
  rw [← ite_map, ← ite_map, ← ite_map]
theorem rem_heap_e (w : World) (lb e p q : Nat) (n : Int) (hp : e ≠ p) (hq : e ≠ q) (hl : e ≠ lb) : (remW w lb e p q n).heap[e]? = (w.heap[e]?).map (fun ob => upC 2 N (upC 1 N (upC 0 N ob))) := by
  unfold remW
  simp only [hset, if_neg hp, if_neg hq, if_neg hl, if_true, Option.map_map]
  rfl

/-- The world behind 'drop'. -/
def dropW (w : World) (lb mb : Nat) (nx pv : Nat → Nat) (len : Nat) (e : Nat) (es : Array MapEntry) (c j : Nat) : World :=
  setBlock (remW w lb e (pv e) (nx e) (len : Nat)).drew.drew.drew mb (.map (es.eraseIdxIfInBounds j) c)

theorem upd_ite (f : Nat → Nat) (a v x : Nat) : upd f a v x = if x = a then v else f x := rfl

theorem remW_size (w : World) (lb e p q : Nat) (n : Int) : (remW w lb e p q n).heap.size = w.heap.size := by
  simp [remW, World.setCell]

theorem nodup_mid {α : Type} {a : α} {xs ys : List α} (h : (xs ++ a :: ys).Nodup) : (xs ++ ys).Nodup := h.sublist ((List.Sublist.refl xs).append (List.sublist_cons_self a ys))
theorem drew_heap (w : World) : w.drew.heap = w.heap := rfl
theorem dropW_os (w : World) (lb mb : Nat) (nx pv : Nat → Nat) (len : Nat) (e : Nat) (es : Array MapEntry) (c j : Nat) : (dropW w lb mb nx pv len e es c j).os = w.os ∧ (dropW w lb mb nx pv len e es c j).tape = w.tape ∧ (dropW w lb mb nx pv len e es c j).output = w.output ∧ (dropW w lb mb nx pv len e es c j).heap.size = w.heap.size := by
  refine ⟨?_, ?_, ?_, ?_⟩
  · simp only [dropW, ChangeMaps.setBlock, World.drew, remW, World.setCell]
  · simp only [dropW, ChangeMaps.setBlock, World.drew, remW, World.setCell]
  · simp only [dropW, ChangeMaps.setBlock, World.drew, remW, World.setCell]
  · simp only [dropW, ChangeMaps.setBlock, Array.size_setIfInBounds, drew_heap, remW_size]
theorem list_row (k p q a b : Nat) (l v : Value) (f : Nat × Nat) : upC 4 v (if k = q then upC 1 (P p) (if k = p then upC 0 (P q) (.cells #[P a, P b, N, .nilIface, l] 110 f) else .cells #[P a, P b, N, .nilIface, l] 110 f) else if k = p then upC 0 (P q) (.cells #[P a, P b, N, .nilIface, l] 110 f) else .cells #[P a, P b, N, .nilIface, l] 110 f) =
    .cells #[P (if k = p then q else a), P (if k = q then p else b), N, .nilIface, v] 110 f := by
  by_cases h1 : k = p <;> by_cases h2 : k = q <;> simp only [h1, h2, if_true, if_false] <;> simp_all [upC]
theorem elem_row (k p q a b : Nat) (l v : Value) (f : Nat × Nat) : (if k = q then upC 1 (P p) (if k = p then upC 0 (P q) (.cells #[P a, P b, l, v] 97 f) else .cells #[P a, P b, l, v] 97 f) else if k = p then upC 0 (P q) (.cells #[P a, P b, l, v] 97 f) else .cells #[P a, P b, l, v] 97 f) =
    .cells #[P (if k = p then q else a), P (if k = q then p else b), l, v] 97 f := by
  by_cases h1 : k = p <;> by_cases h2 : k = q <;> simp only [h1, h2, if_true, if_false] <;> simp_all [upC]

set_option maxHeartbeats 1000000 in
theorem Lim.dropped {w : World} {L lb mb : Nat} {nx pv : Nat → Nat} {xs ys : List Nd} {n : Nd} (h : Lim w L lb mb nx pv (xs ++ n :: ys)) {es : Array MapEntry} {c : Nat} (hm : w.heap[mb]? = some (.map es c)) (hh : Holds es ((xs ++ n :: ys).map fun n => (n.i, n.b))) :
    Lim (dropW w lb mb nx pv (xs ++ n :: ys).length n.b es c xs.length) L lb mb (upd nx (pv n.b) (nx n.b)) (upd pv (nx n.b) (pv n.b)) (xs ++ ys) ∧ Gone (dropW w lb mb nx pv (xs ++ n :: ys).length n.b es c xs.length) n ∧
      Kp (Own lb mb (xs ++ n :: ys)) w (dropW w lb mb nx pv (xs ++ n :: ys).length n.b es c xs.length) := by
  have hn : n ∈ xs ++ n :: ys := by simp
  have hsub : ∀ m ∈ xs ++ ys, m ∈ xs ++ n :: ys := fun m hm => by
    rw [List.mem_append] at hm ⊢; rcases hm with h | h
    · exact Or.inl h
    · exact Or.inr (by simp [h])
  have hring := h.ring
  have hnd := h.nd
  rw [List.map_append, List.map_cons] at hring hnd
  obtain ⟨r1, r2, r3, r4⟩ := ring_at hring
  have hnd2 := hnd
  have e3 : lb :: (xs.map (·.b) ++ n.b :: ys.map (·.b)) = (lb :: xs.map (·.b)) ++ (n.b :: ys.map (·.b)) := by simp
  rw [e3, List.nodup_append] at hnd2
  obtain ⟨n1, n2, n3⟩ := hnd2
  have hp : n.b ≠ pv n.b := fun e => n3 n.b (by rw [e, r1]; exact lastD_mem _ _) n.b (by simp) rfl
  have hl : n.b ≠ lb := h.ne hn
  have hq : n.b ≠ nx n.b := fun e => by
    have h1 := headD_mem (ys.map (·.b)) lb
    rw [← r3, ← e, List.mem_append, List.mem_singleton] at h1
    rcases h1 with h1 | h1
    · exact (List.nodup_cons.1 n2).1 h1
    · exact hl h1
  have hpm : pv n.b ∈ lb :: (xs ++ n :: ys).map (·.b) := by
    rw [r1]
    have := lastD_mem (xs.map (·.b)) lb
    rw [List.mem_cons] at this ⊢
    rcases this with h1 | h1
    · exact Or.inl h1
    · exact Or.inr (by simp only [List.map_append, List.mem_append]; exact Or.inl h1)
  have hqm : nx n.b ∈ lb :: (xs ++ n :: ys).map (·.b) := by
    rw [r3]
    have := headD_mem (ys.map (·.b)) lb
    rw [List.mem_append, List.mem_singleton] at this
    rw [List.mem_cons]
    rcases this with h1 | h1
    · exact Or.inr (by simp only [List.map_append, List.map_cons, List.mem_append, List.mem_cons]; exact Or.inr (Or.inr h1))
    · exact Or.inl h1
  have hmlt : mb < (remW w lb n.b (pv n.b) (nx n.b) ((xs ++ n :: ys).length : Nat)).heap.size := by rw [remW_size]; exact lt_of_block hm
  have heap : ∀ k, k ≠ mb → (dropW w lb mb nx pv (xs ++ n :: ys).length n.b es c xs.length).heap[k]? = (remW w lb n.b (pv n.b) (nx n.b) ((xs ++ n :: ys).length : Nat)).heap[k]? := fun k hk => by
    unfold dropW
    rw [hsetB, if_neg (fun x => hk x.1), drew_heap, drew_heap, drew_heap]
  have far : ∀ k, ¬ Own lb mb (xs ++ n :: ys) k → (dropW w lb mb nx pv (xs ++ n :: ys).length n.b es c xs.length).heap[k]? = w.heap[k]? := fun k hk => by
    have k1 : k ≠ lb := fun e => hk (Or.inl e)
    have k2 : k ≠ mb := fun e => hk (Or.inr (Or.inl e))
    have k3 : ∀ x ∈ lb :: (xs ++ n :: ys).map (·.b), k ≠ x := fun x hx e => by
      rcases List.mem_cons.1 hx with h1 | h1
      · exact k1 (e.trans h1)
      · obtain ⟨m, hm, e2⟩ := List.mem_map.1 h1
        exact hk (Or.inr (Or.inr ⟨m, hm, e.trans e2.symm⟩))
    rw [heap k k2, rem_heap _ _ _ _ _ _ _ (k3 _ (by rw [List.mem_cons]; exact Or.inr (List.mem_map.2 ⟨n, hn, rfl⟩)))]
    simp only [if_neg (k3 _ hpm), if_neg (k3 _ hqm), if_neg k1]
    simp
  have kp : Kp (Own lb mb (xs ++ n :: ys)) w (dropW w lb mb nx pv (xs ++ n :: ys).length n.b es c xs.length) :=
    ⟨(dropW_os _ _ _ _ _ _ _ _ _ _).1, (dropW_os _ _ _ _ _ _ _ _ _ _).2.1, (dropW_os _ _ _ _ _ _ _ _ _ _).2.2.1, Nat.le_of_eq (dropW_os _ _ _ _ _ _ _ _ _ _).2.2.2.symm, fun k _ hf => far k hf⟩
  refine ⟨⟨?_, ?_, ?_, ?_, ?_, ?_, ?_, ?_, ?_, ?_⟩, ⟨?_, ?_⟩, kp⟩
  · obtain ⟨v0, v1, v2, hL⟩ := h.lim
    exact ⟨v0, v1, v2, kp.keep hL h.L_not⟩
  · rw [heap lb (h.mb_ne (by simp)), rem_heap _ _ _ _ _ _ _ (Ne.symm hl), h.lst]
    simp only [Option.map_some, if_true, upd_ite]
    rw [list_row]
    have : (((xs ++ n :: ys).length : Nat) : Int) - 1 = (((xs ++ ys).length : Nat) : Int) := by simp; omega
    rw [this]
  · intro m hm
    have hm' := hsub m hm
    have hmb : m.b ∈ lb :: (xs ++ n :: ys).map (·.b) := by rw [List.mem_cons]; exact Or.inr (List.mem_map.2 ⟨m, hm', rfl⟩)
    have hmn : m.b ≠ n.b := fun e => by
      rw [List.mem_append] at hm
      rcases hm with h1 | h1
      · exact n3 n.b (by rw [← e]; simp; exact Or.inr ⟨m, h1, rfl⟩) n.b (by simp) rfl
      · exact (List.nodup_cons.1 n2).1 (by rw [← e]; exact List.mem_map.2 ⟨m, h1, rfl⟩)
    have hml : m.b ≠ lb := h.ne hm'
    rw [heap m.b (h.mb_ne hmb), rem_heap _ _ _ _ _ _ _ hmn, h.elem m hm']
    simp only [Option.map_some, if_neg hml, upd_ite]
    rw [elem_row]
  · intro m hm
    exact kp.keep (h.ent m (hsub m hm)) (h.e_not (h.ent m (hsub m hm)))
  · refine ⟨es.eraseIdxIfInBounds xs.length, c, ?_, ?_⟩
    · unfold dropW
      rw [hsetB, if_pos ⟨rfl, by rw [drew_heap, drew_heap, drew_heap]; exact hmlt⟩]
    · rw [List.map_append, List.map_cons] at hh
      have := hh.erase
      rw [List.length_map] at this
      rw [List.map_append]; exact this
  · rw [List.map_append]
    exact ring_remove hring hnd
  · have := h.nodup
    rw [List.map_append, List.map_cons] at this
    rw [List.map_append]
    exact nodup_mid this
  · have := h.idx
    rw [List.map_append, List.map_cons] at this
    rw [List.map_append]
    exact nodup_mid this
  · exact fun m hm => h.small m (hsub m hm)
  · have := h.few; simp at this ⊢; omega
  · rw [heap n.b (h.mb_ne (by rw [List.mem_cons]; exact Or.inr (List.mem_map.2 ⟨n, hn, rfl⟩))), rem_heap_e _ _ _ _ _ _ hp hq hl, h.elem n hn]
    rfl
  · exact kp.keep (h.ent n hn) (h.e_not (h.ent n hn))
end Go.Proofs.Qxb6612554a
