import Derived.Test.Qxb6612769aPure
import Derived.Laws.CopyOwn
namespace Go.Proofs.Qxb6612769a
open Go.RowKit
set_option linter.unusedVariables false
set_option linter.unusedSimpArgs false
attribute [local go_sem ↓] Go.wp_at_zero Go.wp_at_succ

theorem bytes21 (v0 v2 : Value) (a : Option Addr) (n cap : Nat) (w : World) (hn : n ≤ 1048576) : Calls Try.prog 21 #[v0, .slice a n cap, v2] w fun e w' => e = .returned (.bool true) ∧ w = w' := by
  go_enter Try.func21, Try.ntmps21
  go_wp2
  go_ret
  exact ⟨rfl, rfl⟩
theorem bytes21_no (v0 v2 : Value) (a : Option Addr) (n cap : Nat) (w : World) (hn : 1048576 < n) (hm : n ≤ maxLen) : Calls Try.prog 21 #[v0, .slice a n cap, v2] w fun e w' => e = .returned (.bool false) ∧ w = w' := by
  unfold maxLen at hm
  go_enter Try.func21, Try.ntmps21
  go_wp2
  go_ret
  exact ⟨rfl, rfl⟩

theorem newTable_sum (L t n m : Nat) (hs : Nat → Nat) (a : Option Addr) (cap : Nat) (w : World) (hn : n = 2 ^ (L + t)) (hL : L + t ≤ 12) (hm : m ≤ 16384) (ha : HsAt w a m hs) (hh : ∀ k, k < m → hs k < 18446744073709551616) :
    Calls Try.prog 13 #[.int .i64 ((L : Int) + (t : Int)), .slice a m cap] w fun e w' => ∃ T Pb Hb G blk pt nx fst cnt, e = .returned (.tuple #[P T, .slice (some ⟨G, 0, none⟩) m m]) ∧ NW w w' T Pb Hb n m G m m hs blk pt nx fst cnt := by
  have := newTable_any (L + t) n m hs a cap w hn hL hm ha hh
  rw [show ((L + t : Nat) : Int) = (L : Int) + (t : Int) by omega] at this
  exact this

section
variable {w : World} {T Pb Hb n m L : Nat} {b : Bool} {hs blk pt : Nat → Nat} {oh : Nat → Option Nat} {nx fst : Nat → Value} {cnt : Nat → Nat}
theorem TD.zzgrow (h : TD w T n m b hs blk oh Pb Hb pt nx fst cnt) (hn : n = 2 ^ L) (hL : L ≤ 15) (hm : m ≤ 1000000) (hh : ∀ k, k < m → hs k < 18446744073709551616) (ho : ∀ j, j < n → ∀ k, oh j = some k → k < m ∧ hs k % n = j) :
    Calls Try.prog 15 #[P T] w fun e w' => e = .returned (.tuple #[]) ∧ ∃ Pb' Hb' pt' nx' fst' cnt', TD w' T (2 * n) m (!b) hs blk (hotF hs (2 * n) oh n) Pb' Hb' pt' nx' fst' cnt' ∧ Kp (fun b => b = T ∨ ∃ k, k < m ∧ b = blk k) w w' := by
  have HG := hid (h.grow hn hL hm hh ho)
  clear h hh ho
  go_enter Try.func15, Try.ntmps15
  go_wp2_with (first | (go_at_call 27; with_reducible refine HG.out.mono ?_; rintro e w' ⟨rfl, hx⟩))
  go_end0
  exact ⟨rfl, hx⟩
theorem TD.keep {w' : World} (h : TD w T n m b hs blk oh Pb Hb pt nx fst cnt) {F : Nat → Prop} (k : Kp F w w') (h0 : ¬ F T) (h1 : ¬ F Pb) (h2 : ¬ F Hb) (h3 : ∀ i, i < m → ¬ F (blk i)) : TD w' T n m b hs blk oh Pb Hb pt nx fst cnt :=
  ⟨h.ts.keep k h0 h1 h2 h3, h.chains, h.pts⟩
theorem TD.keep0 {w' : World} (h : TD w T n m b hs blk oh Pb Hb pt nx fst cnt) (hb : Below w.heap.size w w') : TD w' T n m b hs blk oh Pb Hb pt nx fst cnt :=
  ⟨h.ts.keep0 hb, h.chains, h.pts⟩

/-- A slice of pointers to the entries of l. -/
def PtAt (w : World) (a : Option Addr) (blk : Nat → Nat) (l : List Nat) : Prop := ∀ p k, l[p]? = some k → ∃ g, a = some ⟨g, 0, none⟩ ∧ w.cell? ⟨g, p, none⟩ = some (P (blk k))
theorem PtAt.below {w w' : World} {a : Option Addr} {blk : Nat → Nat} {l : List Nat} (h : PtAt w a blk l) (hb : Below w.heap.size w w') : PtAt w' a blk l := fun p k hk => by
  obtain ⟨g, h0, h1⟩ := h p k hk
  exact ⟨g, h0, by rw [hb.cell (World.block_lt_of_cell? w _ h1)]; exact h1⟩
theorem TD.chain (h : TD w T n m b hs blk oh Pb Hb pt nx fst cnt) {j : Nat} (hj : j < n) (hm : m ≤ 1000000) :
    Calls Try.prog 17 #[P T, .int .i64 (j : Nat)] w fun e w' => ∃ a cap, e = .returned (.slice a (Fl hs m n j).length cap) ∧ PtAt w' a blk (dirL b (Fl hs m n j)) ∧ Below w.heap.size w w' := by
  refine (chain_any h.ts hj (h.chains j hj).1 (fun k hk => (Fl_mem.1 (dirL_mem.1 hk)).1) (by rw [dirL_len]; have := Fl_len hs m n j; omega)).mono ?_
  rintro e w' ⟨v, rfl, ho, hb⟩
  rw [dirL_len] at ho
  rcases ho.2 with ⟨rfl, h0⟩ | ⟨g, cap, cur, rfl, _⟩
  · refine ⟨none, 0, by rw [h0], fun p k hk => ?_, hb⟩
    have hl := (List.getElem?_eq_some_iff.1 hk).1
    rw [dirL_len] at hl; omega
  · refine ⟨_, cap, rfl, fun p k hk => ⟨g, rfl, ?_⟩, hb⟩
    have hl := (List.getElem?_eq_some_iff.1 hk).1
    rw [dirL_len] at hl
    rw [ho.cellAt p (by omega)]
    unfold pV
    rw [List.getElem?_map, hk]; rfl
theorem TD.count (h : TD w T n m b hs blk oh Pb Hb pt nx fst cnt) {j : Nat} (hj : j < n) : Calls Try.prog 18 #[P T, .int .i64 (j : Nat)] w fun e w' => e = .returned (.int .i64 ((Fl hs m n j).length : Nat)) ∧ w = w' := by
  have := count_any j h.ts hj
  rw [(h.chains j hj).2] at this
  exact this
theorem TD.part (h : TD w T n m b hs blk oh Pb Hb pt nx fst cnt) {k : Nat} (hk : k < m) : Calls Try.prog 19 #[P (blk k)] w fun e w' => e = .returned (.int .i64 ((hs k % n : Nat) : Int)) ∧ w = w' := by
  have := part_any (h.ts.ents k hk)
  rw [h.pts k hk] at this
  exact this
end

/-- The k-th entry of the other chain. -/
theorem dir_same {l : List Nat} {p : Nat} (hp : p < l.length) : ∃ k, k ∈ l ∧ (dirL true l)[p]? = some k := by
  have hlen : p < l.reverse.length := by simpa using hp
  exact ⟨l.reverse[p], by rw [← List.mem_reverse]; exact List.getElem_mem hlen, List.getElem?_eq_getElem hlen⟩
theorem dir_turn {l : List Nat} {p : Nat} (hp : p < l.length) : ∃ k, k ∈ l ∧ (dirL false l)[p]? = some k ∧ (dirL true l)[l.length - 1 - p]? = some k := by
  refine ⟨l[p], List.getElem_mem hp, List.getElem?_eq_getElem hp, ?_⟩
  show l.reverse[l.length - 1 - p]? = _
  rw [List.getElem?_reverse (by omega), show l.length - 1 - (l.length - 1 - p) = p by omega]
  exact List.getElem?_eq_getElem hp
end Go.Proofs.Qxb6612769a
