import Derived.Test.Qxb6612554aTime
import Derived.Deep.MidRow
import Derived.Deep.OwnRows
import Derived.Deep.LoopGhost
namespace Go.Proofs.Qxb6612554a
open Go.RowKit
set_option linter.unusedVariables false
set_option linter.unusedSimpArgs false
attribute [local go_sem ↓] Go.wp_at_zero Go.wp_at_succ

def kcell (i j : Nat) : Value := if j < 8 then .int .u8 ((i / 256 ^ j % 256 : Nat) : Int) else if j = 31 then .int .u8 165 else .int .u8 0
def kpart (i k j : Nat) : Value := if j < k then .int .u8 ((i / 256 ^ j % 256 : Nat) : Int) else .int .u8 0
def kc (i : Nat) : List Value := (List.range 32).map (kcell i)
def K (i : Nat) : Value := .agg (kc i).toArray

theorem range_of_row {w : World} {b t n : Nat} {f : Nat → Value} {cs : List Value} (h : w.rowIs b t n f) (e : ∀ j v, cs[j]? = some v → j < n ∧ f j = v) : w.rangeAt b 0 cs := fun j v hv => by
  obtain ⟨h1, h2⟩ := e j v hv
  rw [Nat.zero_add, h.cell h1, h2]
theorem there_of_row {w : World} {b t n : Nat} {f : Nat → Value} (h : w.rowIs b t n f) : w.there b 0 n := fun j hj => by
  rw [Nat.zero_add]; exact ⟨by rw [h.cell hj]; rfl, h.frozen j⟩
theorem kc_len (i : Nat) : (kc i).length = 32 := by simp [kc]
theorem kc_at (i j : Nat) (v : Value) (h : (kc i)[j]? = some v) : j < 32 ∧ kcell i j = v := by
  unfold kc at h
  rw [List.getElem?_map] at h
  by_cases hj : j < 32
  · rw [List.getElem?_range hj] at h; exact ⟨hj, by simpa using h⟩
  · rw [List.getElem?_eq_none (by simp; omega)] at h; simp at h
theorem kpart_kc (i : Nat) : ∀ j v, (kc i)[j]? = some v → j < 32 ∧ (fun j => if j = 31 then Value.int .u8 165 else kpart i 8 j) j = v := fun j v h => by
  obtain ⟨h1, h2⟩ := kc_at i j v h
  refine ⟨h1, ?_⟩
  rw [← h2]
  show (if j = 31 then Value.int .u8 165 else kpart i 8 j) = kcell i j
  unfold kpart kcell
  split <;> split <;> first | rfl | omega | (split <;> first | rfl | omega) | skip

theorem results_cell1 {fn : Func} {p : Tmp} {ty : TypeId} (h : fn.results = #[.cell p ty]) (tmps : Array Value) (P : Program) (w : World) {b o : Nat} (hp : tmps.getD p undef = .pointer (some ⟨b, o, none⟩)) {v : Value} (hl : (loadVar ty ⟨b, o, none⟩).run P w = .ok v w) :
    (results fn tmps).run P w = .ok v w := by
  have hp' : tmps[p]?.getD undef = .pointer (some ⟨b, o, none⟩) := by simpa using hp
  simp [results, h, Sem.run_bind, Result.andThen, hp', asAddr, hl]

theorem kc_one (i : Nat) : (kc i).toArray.all (·.oneCell') = true := by
  refine all_oneCell_toArray fun v hv => ?_
  unfold kc at hv
  obtain ⟨j, _, rfl⟩ := List.mem_map.1 hv
  unfold kcell
  split
  · rfl
  · split <;> rfl

theorem below_setCells {B : Nat} {a : World} (b : Nat) (hB : B ≤ b) : ∀ (vs : List Value) (o : Nat) (w : World), Below B a w → Below B a (w.setCells b o vs)
  | [], _, _, h => h
  | v :: r, o, w, h => below_setCells b hB r (o + 1) _ (h.setCell hB v)

theorem kpart_step (i k : Nat) : ∀ j, j < 32 → (if j = k then Value.int .u8 (((i / 256 ^ k % 256 : Nat)) : Int) else kpart i k j) = kpart i (k + 1) j := fun j _ => by
  unfold kpart
  by_cases h : j = k
  · subst h; rw [if_pos rfl, if_pos (by omega)]
  · rw [if_neg h]
    by_cases h2 : j < k
    · rw [if_pos h2, if_pos (by omega)]
    · rw [if_neg h2, if_neg (by omega)]

theorem byte_eq (i k : Nat) : ((i : Int) / 2 ^ (8 * k) % 256) = (((i / 256 ^ k % 256 : Nat)) : Int) := by
  have : (256 : Nat) ^ k = 2 ^ (8 * k) := by rw [Nat.pow_mul]
  rw [this]
  have h2 : ((2 : Int) ^ (8 * k)) = ((2 ^ (8 * k) : Nat) : Int) := by simp
  rw [h2]; omega

theorem key_round (i k : Nat) (w wr : World) (hlt : k < 8) (hr : wr.rowIs (w.heap.size + 1) 49 32 (kpart i k)) (hr0 : wr.rowIs w.heap.size 49 32 (fun _ => .int .u8 0)) (hb : Below w.heap.size w wr) :
    ∃ k', k' ≤ 8 ∧ Value.int .i64 ((k : Int) + 1) = .int .i64 (k' : Nat) ∧ (wr.setCell ⟨w.heap.size + 1, k, none⟩ (.int .u8 ((i : Int) / 2 ^ (8 * k) % 256))).rowIs (w.heap.size + 1) 49 32 (kpart i k') ∧
      (wr.setCell ⟨w.heap.size + 1, k, none⟩ (.int .u8 ((i : Int) / 2 ^ (8 * k) % 256))).rowIs w.heap.size 49 32 (fun _ => .int .u8 0) ∧ Below w.heap.size w (wr.setCell ⟨w.heap.size + 1, k, none⟩ (.int .u8 ((i : Int) / 2 ^ (8 * k) % 256))) := by
  refine ⟨k + 1, by omega, by simp, ?_, hr0.setOther (by simp) _, hb.setCell (by simp) _⟩
  rw [byte_eq]
  exact (hr.set k _).congr (kpart_step i k)

theorem key_start (i : Nat) (w : World) (c : Array Value) (hc : c.size = 32) (hz : ∀ j, j < 32 → c[j]? = some (.int .u8 0)) :
    ∃ k : Nat, k ≤ 8 ∧ Value.int .i64 0 = .int .i64 (k : Nat) ∧ ((w.alloc (.cells c 49)).alloc (.cells c 49)).rowIs (w.heap.size + 1) 49 32 (kpart i k) ∧ ((w.alloc (.cells c 49)).alloc (.cells c 49)).rowIs w.heap.size 49 32 (fun _ => .int .u8 0) ∧ Below w.heap.size w ((w.alloc (.cells c 49)).alloc (.cells c 49)) := by
  refine ⟨0, by omega, by simp, ?_, ?_, ((Below.refl _ _).alloc (Nat.le_refl _) _).alloc (by simp) _⟩
  · have := World.rowIs_alloc (w.alloc (.cells c 49)) c 49 (kpart i 0) (fun j hj => by rw [hz j (by omega)]; simp [kpart])
    rw [hc] at this
    simpa using this
  · have := (World.rowIs_alloc w c 49 (fun _ => .int .u8 0) (fun j hj => hz j (by omega))).alloc (.cells c 49)
    rw [hc] at this
    exact this

set_option maxHeartbeats 1000000 in
theorem keyOf_any (i : Nat) (w : World) (hi : i ≤ 65535) :
    Calls Try.prog 31 #[.int .i64 i] w fun e w' => e = .returned (K i) ∧ Below w.heap.size w w' := by
  go_enter Try.func31, Try.ntmps31
  go_wp2
  go_loopw [5] (fun b wr => ∃ k : Nat, k ≤ 8 ∧ b = .int .i64 k ∧ wr.rowIs (w.heap.size + 1) 49 32 (kpart i k) ∧ wr.rowIs w.heap.size 49 32 (fun _ => .int .u8 0) ∧ Below w.heap.size w wr) (fun b _ => 8 - (intOf b).toNat)
  case atStart => exact key_start i w (Array.replicate 32 (.int .u8 0)) (by simp) (by intro j hj; simp [hj])
  case round =>
    obtain ⟨k, hk, rfl, hr, hr0, hb⟩ := hrel
    by_cases hlt : k < 8
    · have hcell := hr.cell (i := k) (by omega)
      have hfr := hr.frozen k
      unfold kpart at hcell
      rw [if_neg (by omega)] at hcell
      have hlt' : (k : Int) < 8 := by omega
      have hk0 : (0 : Int) ≤ (k : Int) := by omega
      go_wp2
      go_roundw
      case rel => exact key_round i k w wr hlt hr hr0 hb
      case measure => simp [intOf]; omega
    · have hcell := hr.cell (i := 31) (by omega)
      have hfr := hr.frozen 31
      obtain rfl : k = 8 := by omega
      have hx := hr.set 31 (.int .u8 165)
      have hy := hr0.setOther (a := ⟨w.heap.size + 1, 31, none⟩) (by simp) (.int .u8 165)
      have HX : Hid _ := hx
      have HY : Hid _ := hy
      clear hr hr0 hx hy
      go_wp2_with (first | (refine wpList_load_mid rfl 49 _ rfl (w.heap.size + 1) 0 rfl (kc i) _ (range_of_row HX.out (kpart_kc i)) Try.underlying49 rfl (by kernel_rfl) ?_) | (refine wpList_store_mid rfl 49 _ _ rfl w.heap.size 0 (kc i).toArray rfl rfl (there_of_row HY.out) (by kernel_rfl) (kc_one i) ?_))
      refine bodyPost_ret (v := K i) (results_cell1 rfl _ _ _ rfl (run_loadVar_mid _ _ _ 49 (kc i) _ (World.rangeAt_setCells_same _ _ _ _ (by rw [kc_len]; exact there_of_row HY.out)) Try.underlying49 rfl (by kernel_rfl))) rfl ⟨rfl, ?_⟩
      exact below_setCells _ (Nat.le_refl _) _ _ _ (hb.setCell (by simp) _)
end Go.Proofs.Qxb6612554a
