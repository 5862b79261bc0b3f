import Derived.Test.Qxb6612554aTime
import Derived.BigQuiet
import Derived.Deep.QuietTactic
namespace Go.Proofs.Qxb6612554a
open Go.RowKit
set_option linter.unusedVariables false
set_option linter.unusedSimpArgs false
attribute [local go_sem ↓] Go.wp_at_zero Go.wp_at_succ

/-- An Entry of the argument. -/
structure En where
  f : Int
  lf : Int
  la : Int
  fl : Int
def EnOk (x : En) : Prop := (-9223372036854775808 ≤ x.f ∧ x.f ≤ 9223372036854775807) ∧ (-9223372036854775808 ≤ x.lf ∧ x.lf ≤ 9223372036854775807) ∧ (-9223372036854775808 ≤ x.la ∧ x.la ≤ 9223372036854775807) ∧ (-9223372036854775808 ≤ x.fl ∧ x.fl ≤ 9223372036854775807)
/-- The slice's elements lie in memory. -/
def EsAt (w : World) (a : Option Addr) (es : List En) : Prop := ∀ k x, es[k]? = some x → ∃ b o, a = some ⟨b, o, none⟩ ∧ w.cell? ⟨b, o + k * 4, none⟩ = some (.int .i64 x.f) ∧ w.cell? ⟨b, o + k * 4 + 1, none⟩ = some (.int .i64 x.lf) ∧ w.cell? ⟨b, o + k * 4 + 2, none⟩ = some (.int .i64 x.la) ∧ w.cell? ⟨b, o + k * 4 + 3, none⟩ = some (.int .i64 x.fl)
theorem EsAt.below {w w' : World} {a : Option Addr} {es : List En} (h : EsAt w a es) (hb : Below w.heap.size w w') : EsAt w' a es := fun k x hx => by
  obtain ⟨b, o, h0, h1, h2, h3, h4⟩ := h k x hx
  refine ⟨b, o, h0, ?_, ?_, ?_, ?_⟩
  · rw [hb.cell (World.block_lt_of_cell? w _ h1)]; exact h1
  · rw [hb.cell (World.block_lt_of_cell? w _ h2)]; exact h2
  · rw [hb.cell (World.block_lt_of_cell? w _ h3)]; exact h3
  · rw [hb.cell (World.block_lt_of_cell? w _ h4)]; exact h4

def okE (x : En) : Bool := decide (0 ≤ x.f) && decide (0 ≤ x.fl) && !(x.f == 0 && x.fl == 0)
def reachB (es : List En) : Bool := es.all okE
theorem reach_no {es : List En} {k : Nat} {x : En} (hx : es[k]? = some x) (h : okE x = false) : reachB es = false := by
  unfold reachB
  rw [List.all_eq_false]
  exact ⟨x, List.mem_of_getElem? hx, by rw [h]; simp⟩
theorem ret_bool {a b : Bool} (h : a = b) : Ending.returned (.bool a) = .returned (.bool b) := by rw [h]

theorem reach_yes {es : List En} {k : Nat} (hk : es.length ≤ k) (h : ∀ j x, j < k → es[j]? = some x → okE x = true) : reachB es = true := by
  unfold reachB
  rw [List.all_eq_true]
  intro x hx
  obtain ⟨j, hj⟩ := List.getElem?_of_mem hx
  exact h j x (by have := (List.getElem?_eq_some_iff.1 hj).1; omega) hj
theorem all_step {es : List En} {k : Nat} {x : En} {Q : En → Prop} (h : ∀ j x, j < k → es[j]? = some x → Q x) (hx : es[k]? = some x) (h2 : Q x) : ∀ j x, j < k + 1 → es[j]? = some x → Q x := fun j y hj hy => by
  by_cases e : j = k
  · subst e; rw [hx] at hy; injection hy with hy; rw [← hy]; exact h2
  · exact h j y (by omega) hy

set_option maxHeartbeats 1000000 in
theorem reachable_any (a : Option Addr) (cap : Nat) (es : List En) (w : World) (h : EsAt w a es) (hlen : es.length ≤ 16384) :
    Calls Try.prog 12 #[.slice a es.length cap] w fun e w' => e = .returned (.bool (reachB es)) ∧ w = w' := by
  have HE : Hid (EsAt w a es) := h
  clear h
  go_enter Try.func12, Try.ntmps12
  go_wp2
  go_loop [3] (fun i => ∃ k : Nat, k ≤ es.length ∧ i = .int .i64 k ∧ ∀ j x, j < k → es[j]? = some x → okE x = true) (fun i => es.length - (intOf i).toNat)
  case atStart => exact ⟨0, Nat.zero_le _, rfl, fun j x hj => by omega⟩
  case round =>
    obtain ⟨k, hk, rfl, hall⟩ := hrel
    have HA : Hid _ := hall
    clear hall
    by_cases hlt : k < es.length
    · obtain ⟨x, hx⟩ : ∃ x, es[k]? = some x := ⟨es[k], by simp [hlt]⟩
      obtain ⟨b, o, rfl, c0, c1, c2, c3⟩ := HE.out k x hx
      have HX : Hid (es[k]? = some x) := hx
      clear hx
      have hk0 : (0 : Int) ≤ (k : Int) := by omega
      have hk1 : (k : Int) < (es.length : Int) := by omega
      by_cases hf : x.f < 0
      · go_wp2
        go_ret
        exact ⟨ret_bool (reach_no HX.out (by simp [okE]; omega)).symm, rfl⟩
      · have hf' : decide (x.f < 0) = false := by simpa using hf
        by_cases hl : x.fl < 0
        · go_wp2
          go_ret
          exact ⟨ret_bool (reach_no HX.out (by simp [okE]; omega)).symm, rfl⟩
        · have hl' : decide (x.fl < 0) = false := by simpa using hl
          by_cases hz : x.f = 0
          · have hz' : (x.f == 0) = true := by simpa using hz
            by_cases hy : x.fl = 0
            · have hy' : (x.fl == 0) = true := by simpa using hy
              go_wp2
              go_ret
              exact ⟨ret_bool (reach_no HX.out (by simp [okE, hz, hy])).symm, rfl⟩
            · have hy' : (x.fl == 0) = false := by simpa using hy
              clear hz
              go_wp2
              go_round
              case rel => exact ⟨k + 1, by omega, by go_num, all_step HA.out HX.out (by simp [okE]; omega)⟩
              case measure => simp [intOf]; omega
          · have hz' : (x.f == 0) = false := by simpa using hz
            go_wp2
            go_round
            case rel => exact ⟨k + 1, by omega, by go_num, all_step HA.out HX.out (by simp [okE]; omega)⟩
            case measure => simp [intOf]; omega
    · go_wp2
      go_ret
      exact ⟨ret_bool (reach_yes (by omega) HA.out).symm, rfl⟩
end Go.Proofs.Qxb6612554a
