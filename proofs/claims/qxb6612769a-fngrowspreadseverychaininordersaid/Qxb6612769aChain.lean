import Derived.Test.Qxb6612769aLink
namespace Go.Proofs.Qxb6612769a
open Go.RowKit
set_option linter.unusedVariables false
set_option linter.unusedSimpArgs false
attribute [local go_sem ↓] Go.wp_at_zero Go.wp_at_succ

/-- From the pointer v the entries of the list are chained, and no more. -/
def Ch (blk : Nat → Nat) (nx : Nat → Value) : Value → List Nat → Prop
  | v, [] => v = N
  | v, k :: l => v = P (blk k) ∧ Ch blk nx (nx k) l
theorem Ch.up {blk : Nat → Nat} {nx : Nat → Value} {k : Nat} {u : Value} : ∀ {l : List Nat} {v : Value}, k ∉ l → Ch blk nx v l → Ch blk (up nx k u) v l
  | [], _, _, h => h
  | i :: l, v, hk, h => by
    have hki : i ≠ k := fun e => hk (by simp [e])
    refine ⟨h.1, ?_⟩
    rw [up_other _ _ hki]
    exact Ch.up (fun hm => hk (List.mem_cons_of_mem _ hm)) h.2
theorem Ch.ptr {blk : Nat → Nat} {nx : Nat → Value} {l : List Nat} {v : Value} (h : Ch blk nx v l) : ∃ p, v = .pointer p := by
  cases l with
  | nil => exact ⟨_, h⟩
  | cons k l => exact ⟨_, h.1⟩

def pV (blk : Nat → Nat) (l : List Nat) : List Value := l.map fun k => P (blk k)
theorem pV_len (blk : Nat → Nat) (l : List Nat) : (pV blk l).length = l.length := by simp [pV]
theorem info_parts {o : Option TypeInfo} {z : Option Value} {s b : Nat} (h : o.map (fun i => (i.zero, i.size, i.bytes)) = some (z, s, b)) : ∃ i, o = some i ∧ i.zero = z ∧ i.size = s ∧ i.bytes = b := by
  cases o with
  | none => cases h
  | some i => simp at h; exact ⟨i, rfl, h.1, h.2.1, h.2.2⟩
theorem info39 : (Try.prog.info? 39).map (fun i => (i.zero, i.size, i.bytes)) = some (some N, 1, 8) := by kernel_rfl
def vlen : Value → Nat
  | .slice _ n _ => n
  | _ => 0
theorem own_vlen {w : World} {base : Nat} {v : Value} {n : Nat} {xs : List Value} (h : w.ownsRow base 39 1 v n xs) : vlen v = n := by
  rcases h.2 with ⟨rfl, rfl⟩ | ⟨g, cap, cur, rfl, _⟩ <;> rfl
theorem one_cell (b : Nat) : ∀ u ∈ [P b], u.oneCell' = true := by intro u hu; simp at hu; subst hu; rfl
theorem cell_one_new (w : World) (v : Value) (t : Nat) : ∀ j u, [v][j]? = some u → (w.alloc (.cells #[v] t)).cell? ((⟨w.heap.size, 0, none⟩ : Addr).add j) = some u :=
  World.news_of_block (cs := #[v]) (t := t) (fr := (0, 0)) (alloc_new w _)

/-- The state of ZZchain's loop. -/
def ChR (w : World) (blk : Nat → Nat) (nx : Nat → Value) (l xs rest : List Nat) (v p : Value) (wr : World) : Prop :=
  l = xs ++ rest ∧ Ch blk nx p rest ∧ wr.ownsRow w.heap.size 39 1 v xs.length (pV blk xs) ∧ Below w.heap.size w wr
theorem ChR.step {w wr w2 : World} {blk : Nat → Nat} {nx : Nat → Value} {l xs rest : List Nat} {k : Nat} {v p v' : Value} {ob : Obj} (h : ChR w blk nx l xs (k :: rest) v p wr)
    (hown : w2.ownsRow w.heap.size 39 1 v' (xs.length + 1) (pV blk xs ++ [P (blk k)])) (hg : (wr.alloc ob).grownBy w2 v.ownBlock) : ChR w blk nx l (xs ++ [k]) rest v' (nx k) w2 := by
  obtain ⟨h1, h2, h3, h4⟩ := h
  refine ⟨by rw [h1]; simp, h2.2, by simpa [pV] using hown, (h4.alloc h4.size ob).grown hg (by have := h4.size; simp; omega) fun j hj => (h3.lt j hj).1⟩

section
variable {w : World} {T Pb Hb n m : Nat} {blk hs pt : Nat → Nat} {nx fst : Nat → Value} {cnt : Nat → Nat} {hot : Nat → Value}
set_option maxRecDepth 100000 in
theorem chain_any {j : Nat} {l : List Nat} (h : TS w T Pb Hb n m blk hs pt nx fst cnt hot) (hj : j < n) (hc : Ch blk nx (fst j) l) (hm : ∀ k ∈ l, k < m) (hl : l.length ≤ 1000000) :
    Calls Try.prog 17 #[P T, .int .i64 (j : Nat)] w fun e w' => ∃ v, e = .returned v ∧ w'.ownsRow w.heap.size 39 1 v l.length (pV blk l) ∧ Below w.heap.size w w' := by
  obtain ⟨i0, hi, hz0, hz1, hz2⟩ := info_parts info39
  have hT := h.tab.c1
  have hF := h.parts.c2 hj
  have hj0 : (0 : Int) ≤ (j : Int) := by omega
  have hj1 : (j : Int) < (n : Int) := by omega
  have H := hid h
  have HM := hid hm
  have HR0 : Hid (ChR w blk nx l [] l (.slice none 0 0) (fst j) w) := ⟨rfl, hc, World.ownsRow_nil _ _ _ _, Below.refl _ _⟩
  clear h hm hc
  go_enter Try.func17, Try.ntmps17
  go_wp2
  go_loopw [5, 6] (fun v p wr => ∃ xs rest, ChR w blk nx l xs rest v p wr) (fun v _ _ => l.length - vlen v)
  case atStart => exact ⟨[], l, HR0.out⟩
  case round =>
    obtain ⟨xs, rest, hR⟩ := hrel
    have HR := hid hR
    have hv := own_vlen hR.2.2.1
    have hlx : l.length = xs.length + rest.length := by rw [hR.1]; simp
    cases rest with
    | nil =>
      obtain ⟨h1, h2, h3, h4⟩ := hR
      have h2' : u6 = N := h2
      subst h2'
      go_wp2
      go_ret
      rw [List.append_nil] at h1
      exact ⟨_, rfl, by rw [h1]; exact h3, h4⟩
    | cons k rest =>
      have hk : k < m := HM.out k (by rw [hR.1]; simp)
      have h6 : u6 = P (blk k) := hR.2.1.1
      subst h6
      have hcn := ((H.out.keep0 hR.2.2.2).ents k hk).c10
      have hlt := ((H.out.keep0 hR.2.2.2).ents k hk).lt
      have hsz := hR.2.2.2.size
      obtain ⟨pn, hpn⟩ := hR.2.1.2.ptr
      clear hR
      go_wp2_with (first | (at_builtin; refine wpList_append_own _ rfl _ _ 35 rfl w.heap.size 39 i0 N 1 8 Try.underlying35 hi hz0 hz1 hz2 rfl (by decide) _ _ _ rfl (HR.out.2.2.1.alloc _) ⟨wr.heap.size, 0, none⟩ 1 1 [P (blk k)] rfl rfl (cell_one_new _ _ _) (one_cell _) (by unfold maxLen; omega) (by omega) (by simp; omega) ?_; intro v' w2 hown2 hgrow2 _; have HR2 := hid (HR.out.step hown2 hgrow2); have hcn2 := ((H.out.keep0 HR2.out.2.2.2).ents k hk).c10; have hv2 := own_vlen hown2; clear hown2 hgrow2))
      refine ⟨⟨xs ++ [k], rest, by rw [← hpn]; exact HR2.out⟩, ?_⟩
      simp only [List.length_cons] at hlx
      show l.length - vlen v' < l.length - vlen u5
      rw [hv, hv2]; omega
end
end Go.Proofs.Qxb6612769a
