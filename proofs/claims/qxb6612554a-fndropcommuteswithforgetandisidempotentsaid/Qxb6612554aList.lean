import Derived.Test.Qxb6612554aTime
import Derived.Deep.MidRow
import Derived.Deep.OwnRows
import Derived.BigRegion
import Derived.LaidEqlPtr
import Derived.Lib.Builder
namespace Go.Proofs.Qxb6612554a
open Go.RowKit
set_option linter.unusedVariables false
set_option linter.unusedSimpArgs false
attribute [local go_sem ↓] Go.wp_at_zero Go.wp_at_succ

/-- A pointer to block b's head. -/
abbrev P (b : Nat) : Value := .pointer (some ⟨b, 0, none⟩)
abbrev N : Value := .pointer none

set_option maxHeartbeats 1000000 in
theorem insert_any (lb eb ab nb : Nat) (n : Int) (v0 v1 v2 v3 : Value) (w : World) (h1 : eb ≠ ab) (h2 : eb ≠ nb) (h3 : eb ≠ lb) (hn0 : 0 ≤ n) (hn1 : n ≤ 1000000)
    (c0 : w.cell? ⟨eb, 0, none⟩ = some v0) (c1 : w.cell? ⟨eb, 1, none⟩ = some v1) (c2 : w.cell? ⟨eb, 2, none⟩ = some v2)
    (ca : w.cell? ⟨ab, 0, none⟩ = some (P nb)) (cn : w.cell? ⟨nb, 1, none⟩ = some v3) (cl : w.cell? ⟨lb, 4, none⟩ = some (.int .i64 n))
    (f0 : w.frozen? ⟨eb, 0, none⟩ = false) (f1 : w.frozen? ⟨eb, 1, none⟩ = false) (f2 : w.frozen? ⟨eb, 2, none⟩ = false) (fa : w.frozen? ⟨ab, 0, none⟩ = false) (fn : w.frozen? ⟨nb, 1, none⟩ = false) (fl : w.frozen? ⟨lb, 4, none⟩ = false) :
    Calls Try.prog 84 #[P lb, P eb, P ab] w fun e w' => e = .returned (P eb) ∧
      w' = (((((w.setCell ⟨eb, 1, none⟩ (P ab)).setCell ⟨eb, 0, none⟩ (P nb)).setCell ⟨ab, 0, none⟩ (P eb)).setCell ⟨nb, 1, none⟩ (P eb)).setCell ⟨eb, 2, none⟩ (P lb)).setCell ⟨lb, 4, none⟩ (.int .i64 (n + 1)) := by
  go_enter Try.func84, Try.ntmps84
  go_wp2
  go_ret
  exact ⟨rfl, rfl⟩

set_option maxHeartbeats 1000000 in
theorem remove_any (lb eb pb nb : Nat) (n : Int) (v2 : Value) (w : World) (h1 : eb ≠ pb) (h2 : eb ≠ nb) (h3 : eb ≠ lb) (hn0 : 1 ≤ n) (hn1 : n ≤ 1000000)
    (c0 : w.cell? ⟨eb, 0, none⟩ = some (P nb)) (c1 : w.cell? ⟨eb, 1, none⟩ = some (P pb)) (c2 : w.cell? ⟨eb, 2, none⟩ = some v2)
    (cp : w.cell? ⟨pb, 0, none⟩ = some (P eb)) (cn : w.cell? ⟨nb, 1, none⟩ = some (P eb)) (cl : w.cell? ⟨lb, 4, none⟩ = some (.int .i64 n))
    (f0 : w.frozen? ⟨eb, 0, none⟩ = false) (f1 : w.frozen? ⟨eb, 1, none⟩ = false) (f2 : w.frozen? ⟨eb, 2, none⟩ = false) (fp : w.frozen? ⟨pb, 0, none⟩ = false) (fn : w.frozen? ⟨nb, 1, none⟩ = false) (fl : w.frozen? ⟨lb, 4, none⟩ = false) :
    Calls Try.prog 77 #[P lb, P eb] w fun e w' => e = .returned (.tuple #[]) ∧
      w' = ((((((w.setCell ⟨pb, 0, none⟩ (P nb)).setCell ⟨nb, 1, none⟩ (P pb)).setCell ⟨eb, 0, none⟩ N).setCell ⟨eb, 1, none⟩ N).setCell ⟨eb, 2, none⟩ N).setCell ⟨lb, 4, none⟩ (.int .i64 (n - 1))).drew.drew := by
  go_enter Try.func77, Try.ntmps77
  go_wp2
  go_region
  all_goals go_wp2
  all_goals go_region
  all_goals go_wp2
  go_end0
  exact ⟨rfl, rfl⟩

theorem front_nil (lb : Nat) (w : World) (cl : w.cell? ⟨lb, 4, none⟩ = some (.int .i64 0)) : Calls Try.prog 57 #[P lb] w fun e w' => e = .returned N ∧ w = w' := by
  go_enter Try.func57, Try.ntmps57
  go_wp2
  go_ret
  exact ⟨rfl, rfl⟩
theorem front_cons (lb b : Nat) (n : Int) (w : World) (hn : 1 ≤ n) (c0 : w.cell? ⟨lb, 0, none⟩ = some (P b)) (cl : w.cell? ⟨lb, 4, none⟩ = some (.int .i64 n)) : Calls Try.prog 57 #[P lb] w fun e w' => e = .returned (P b) ∧ w = w' := by
  go_enter Try.func57, Try.ntmps57
  go_wp2
  go_ret
  exact ⟨rfl, rfl⟩
theorem len_any (lb : Nat) (n : Int) (w : World) (cl : w.cell? ⟨lb, 4, none⟩ = some (.int .i64 n)) : Calls Try.prog 69 #[P lb] w fun e w' => e = .returned (.int .i64 n) ∧ w = w' := by
  go_enter Try.func69, Try.ntmps69
  go_wp2
  go_ret
  exact ⟨rfl, rfl⟩
/-- The block is a plain row of cells, none of them frozen. -/
def Plain (w : World) (b : Nat) : Prop := ∃ c t, w.heap[b]? = some (.cells c t (0, 0))

theorem run_neq_ptr_other {Pr : Program} (w : World) {tp te : TypeId} {j : TypeInfo} {a b : Addr} {ca cb : Array Value} {ta tb : TypeId} (hp : Pr.underlying tp = some (.pointer te)) (hte : Pr.info? te = some j) (hsz : j.size ≠ 0)
    (hne : a ≠ b) (ha : w.heap[a.block]? = some (.cells ca ta (0, 0))) (hb : w.heap[b.block]? = some (.cells cb tb (0, 0))) :
    (binOp .neq tp (.pointer (some a)) (.pointer (some b))).run Pr w = .ok (.bool true) w := by
  have h : ∀ d : Nat, (Op.equalIn (d + 1) tp (.pointer (some a)) (.pointer (some b))).run Pr w = .ok false w := fun d => by
    simp [Op.equalIn, run_underlying hp, sizeOf, typeInfo, hte, hsz, run_sameAddr_other w hne ha hb]
  simp only [binOp]
  simp [Op.equal, Op.maxDepth, h 9999]

theorem info97 : ∃ j, Try.prog.info? 97 = some j ∧ j.size ≠ 0 := by
  have h : (Try.prog.info? 97).map (fun i => i.size) = some 4 := by kernel_rfl
  obtain ⟨j, h1, h2⟩ := Option.map_eq_some_iff.1 h
  exact ⟨j, h1, by omega⟩
theorem info110 : ∃ j, Try.prog.info? 110 = some j ∧ j.size ≠ 0 := by
  have h : (Try.prog.info? 110).map (fun i => i.size) = some 5 := by kernel_rfl
  obtain ⟨j, h1, h2⟩ := Option.map_eq_some_iff.1 h
  exact ⟨j, h1, by omega⟩
/-- '!=' of two element pointers. -/
theorem neq37 (w : World) (a b : Nat) (ha : Plain w a) (hb : Plain w b) : (binOp .neq 37 (P a) (P b)).run Try.prog w = .ok (.bool (a != b)) w := by
  obtain ⟨j, h1, h2⟩ := info97
  by_cases h : a = b
  · subst h; rw [Go.Lib.run_neq_ptr_same w _ Try.underlying37 h1]; simp
  · obtain ⟨c, t, ha⟩ := ha
    obtain ⟨c', t', hb⟩ := hb
    rw [run_neq_ptr_other w Try.underlying37 h1 h2 (fun e => h (by injection e)) ha hb]
    have : (a != b) = true := by simpa using h
    rw [this]
theorem eql89 (w : World) (a b : Nat) (ha : Plain w a) (hb : Plain w b) : (binOp .eql 89 (P a) (P b)).run Try.prog w = .ok (.bool (a == b)) w := by
  obtain ⟨j, h1, h2⟩ := info110
  by_cases h : a = b
  · subst h; rw [run_eql_ptr_same w _ Try.underlying89 h1]; simp
  · obtain ⟨c, t, ha⟩ := ha
    obtain ⟨c', t', hb⟩ := hb
    rw [run_eql_ptr_other w Try.underlying89 h1 h2 (fun e => h (by injection e)) ha hb]
    have : (a == b) = false := by simpa using h
    rw [this]

theorem next_last (lb eb : Nat) (w : World) (hl : Plain w lb) (c0 : w.cell? ⟨eb, 0, none⟩ = some (P lb)) (c2 : w.cell? ⟨eb, 2, none⟩ = some (P lb)) : Calls Try.prog 59 #[P eb] w fun e w' => e = .returned N ∧ w = w' := by
  have hq := neq37 w lb lb hl hl
  rw [bne_self_eq_false] at hq
  clear hl
  go_enter Try.func59, Try.ntmps59
  go_wp2
  go_ret
  exact ⟨rfl, rfl⟩
theorem next_more (lb eb nb : Nat) (w : World) (h : nb ≠ lb) (hl : Plain w lb) (hn : Plain w nb) (c0 : w.cell? ⟨eb, 0, none⟩ = some (P nb)) (c2 : w.cell? ⟨eb, 2, none⟩ = some (P lb)) : Calls Try.prog 59 #[P eb] w fun e w' => e = .returned (P nb) ∧ w = w' := by
  have hq := neq37 w nb lb hn hl
  have hb : (nb != lb) = true := by simpa using h
  rw [hb] at hq
  clear hl hn hb h
  go_enter Try.func59, Try.ntmps59
  go_wp2
  go_ret
  exact ⟨rfl, rfl⟩
theorem lazy_any (lb b : Nat) (w : World) (c0 : w.cell? ⟨lb, 0, none⟩ = some (P b)) : Calls Try.prog 71 #[P lb] w fun e w' => e = .returned (.tuple #[]) ∧ w = w' := by
  go_enter Try.func71, Try.ntmps71
  go_wp2
  go_end0
  exact ⟨rfl, rfl⟩
theorem new_any (w : World) : Calls Try.prog 70 #[] w fun e w' => e = .returned (P w.heap.size) ∧ w' = w.alloc (.cells #[P w.heap.size, P w.heap.size, N, .nilIface, .int .i64 0] 110) := by
  go_enter Try.func70, Try.ntmps70
  go_wp2
  go_ret
  exact ⟨rfl, rfl⟩

theorem acell {w : World} {b : Nat} (h : b < w.heap.size) (o : Nat) (ob : Obj) : (w.alloc ob).cell? ⟨b, o, none⟩ = w.cell? ⟨b, o, none⟩ := World.cell?_of_block (w := w) (Below.heap_alloc w ob b h)
theorem afrozen {w : World} {b : Nat} (h : b < w.heap.size) (o : Nat) (ob : Obj) : (w.alloc ob).frozen? ⟨b, o, none⟩ = w.frozen? ⟨b, o, none⟩ := World.frozen?_of_block (w := w) (Below.heap_alloc w ob b h)

set_option maxHeartbeats 1000000 in
theorem pushBack_any (lb pb hb eb : Nat) (n : Int) (w : World) (hn0 : 0 ≤ n) (hn1 : n ≤ 1000000) (hl : lb < w.heap.size) (hp : pb < w.heap.size)
    (c0 : w.cell? ⟨lb, 0, none⟩ = some (P hb)) (c1 : w.cell? ⟨lb, 1, none⟩ = some (P pb)) (cp : w.cell? ⟨pb, 0, none⟩ = some (P lb)) (cl : w.cell? ⟨lb, 4, none⟩ = some (.int .i64 n))
    (f1 : w.frozen? ⟨lb, 1, none⟩ = false) (fp : w.frozen? ⟨pb, 0, none⟩ = false) (fl : w.frozen? ⟨lb, 4, none⟩ = false) :
    Calls Try.prog 56 #[P lb, .iface 95 (P eb)] w fun e w' => e = .returned (P w.heap.size) ∧
      w' = (((w.setCell ⟨pb, 0, none⟩ (P w.heap.size)).setCell ⟨lb, 1, none⟩ (P w.heap.size)).setCell ⟨lb, 4, none⟩ (.int .i64 (n + 1))).alloc (.cells #[P lb, P pb, P lb, .iface 95 (P eb)] 97) := by
  have e1 : w.heap.size ≠ pb := by omega
  have e2 : w.heap.size ≠ lb := by omega
  go_enter Try.func56, Try.ntmps56
  go_wp2_with (first | (go_at_call 71; refine (lazy_any _ hb _ c0).mono ?_; rintro e w' ⟨rfl, rfl⟩) | (go_at_call 72; go_in))
  refine (insert_any lb w.heap.size pb lb n N N N (P pb) _ e1 e2 e2 hn0 hn1 (by simp) (by simp) (by simp) ((acell hp _ _).trans cp) ((acell hl _ _).trans c1) ((acell hl _ _).trans cl) (by simp) (by simp) (by simp) ((afrozen hp _ _).trans fp) ((afrozen hl _ _).trans f1) ((afrozen hl _ _).trans fl)).mono ?_
  rintro e w' ⟨rfl, hw⟩
  subst hw
  go_wp2
  go_ret
  exact ⟨rfl, rfl⟩

/-- The world behind the list's 'remove'. -/
def remW (w : World) (lb eb pb nb : Nat) (n : Int) : World := ((((((w.setCell ⟨pb, 0, none⟩ (P nb)).setCell ⟨nb, 1, none⟩ (P pb)).setCell ⟨eb, 0, none⟩ N).setCell ⟨eb, 1, none⟩ N).setCell ⟨eb, 2, none⟩ N).setCell ⟨lb, 4, none⟩ (.int .i64 (n - 1)))

set_option maxHeartbeats 1000000 in
theorem Remove_in (lb eb pb nb : Nat) (n : Int) (v : Value) (w : World) (h1 : eb ≠ pb) (h2 : eb ≠ nb) (h3 : eb ≠ lb) (hn0 : 1 ≤ n) (hn1 : n ≤ 1000000) (hl : Plain w lb)
    (c0 : w.cell? ⟨eb, 0, none⟩ = some (P nb)) (c1 : w.cell? ⟨eb, 1, none⟩ = some (P pb)) (c2 : w.cell? ⟨eb, 2, none⟩ = some (P lb)) (c3 : w.cell? ⟨eb, 3, none⟩ = some v)
    (cp : w.cell? ⟨pb, 0, none⟩ = some (P eb)) (cn : w.cell? ⟨nb, 1, none⟩ = some (P eb)) (cl : w.cell? ⟨lb, 4, none⟩ = some (.int .i64 n))
    (f0 : w.frozen? ⟨eb, 0, none⟩ = false) (f1 : w.frozen? ⟨eb, 1, none⟩ = false) (f2 : w.frozen? ⟨eb, 2, none⟩ = false) (fp : w.frozen? ⟨pb, 0, none⟩ = false) (fn : w.frozen? ⟨nb, 1, none⟩ = false) (fl : w.frozen? ⟨lb, 4, none⟩ = false) :
    Calls Try.prog 64 #[P lb, P eb] w fun e w' => e = .returned v ∧ w' = (remW w lb eb pb nb n).drew.drew := by
  have hq := eql89 w lb lb hl hl
  rw [beq_self_eq_true] at hq
  clear hl
  go_enter Try.func64, Try.ntmps64
  go_wp2_with (go_at_call 77; refine (remove_any lb eb pb nb n (P lb) _ h1 h2 h3 hn0 hn1 c0 c1 c2 cp cn cl f0 f1 f2 fp fn fl).mono ?_; rintro e w' ⟨rfl, rfl⟩)
  go_ret
  exact ⟨rfl, rfl⟩

theorem eql89_nil (w : World) (b : Nat) : (binOp .eql 89 N (P b)).run Try.prog w = .ok (.bool false) w := by
  have h : ∀ d : Nat, (Op.equalIn (d + 1) 89 N (P b)).run Try.prog w = .ok false w := fun d => by
    simp [Op.equalIn, run_underlying Try.underlying89]
  simp only [binOp]
  simp [Op.equal, Op.maxDepth, h 9999]

theorem Remove_out (lb eb : Nat) (v : Value) (w : World) (c2 : w.cell? ⟨eb, 2, none⟩ = some N) (c3 : w.cell? ⟨eb, 3, none⟩ = some v) :
    Calls Try.prog 64 #[P lb, P eb] w fun e w' => e = .returned v ∧ w = w' := by
  have hq := eql89_nil w lb
  go_enter Try.func64, Try.ntmps64
  go_wp2
  go_ret
  exact ⟨rfl, rfl⟩
end Go.Proofs.Qxb6612554a
