import Derived.Test.Qxb6612769aLaw5
namespace Go.Proofs.Qxb6612769a
open Go.RowKit
set_option linter.unusedVariables false
set_option linter.unusedSimpArgs false
attribute [local go_sem ↓] Go.wp_at_zero Go.wp_at_succ

theorem bytes12 (v0 : Value) (a b : Option Addr) (m c cap cap2 : Nat) (w : World) (h : m + c ≤ 1048576) : Calls Try.prog 12 #[v0, .slice a m cap, .slice b c cap2] w fun e w' => e = .returned (.bool true) ∧ w = w' := by
  go_enter Try.func12, Try.ntmps12
  go_wp2
  go_ret
  exact ⟨rfl, rfl⟩
theorem bytes12_a (v0 : Value) (a b : Option Addr) (m c cap cap2 : Nat) (w : World) (h : 1048576 < m) (hm : m ≤ maxLen) : Calls Try.prog 12 #[v0, .slice a m cap, .slice b c cap2] w fun e w' => e = .returned (.bool false) ∧ w = w' := by
  unfold maxLen at hm
  go_enter Try.func12, Try.ntmps12
  go_wp2
  go_ret
  exact ⟨rfl, rfl⟩
theorem bytes12_b (v0 : Value) (a b : Option Addr) (m c cap cap2 : Nat) (w : World) (h0 : m ≤ 1048576) (h : 1048576 < c) (hm : c ≤ maxLen) : Calls Try.prog 12 #[v0, .slice a m cap, .slice b c cap2] w fun e w' => e = .returned (.bool false) ∧ w = w' := by
  unfold maxLen at hm
  go_enter Try.func12, Try.ntmps12
  go_wp2
  go_ret
  exact ⟨rfl, rfl⟩
theorem bytes12_c (v0 : Value) (a b : Option Addr) (m c cap cap2 : Nat) (w : World) (h0 : m ≤ 1048576) (h1 : c ≤ 1048576) (h : 1048576 < m + c) : Calls Try.prog 12 #[v0, .slice a m cap, .slice b c cap2] w fun e w' => e = .returned (.bool false) ∧ w = w' := by
  have h' : (1048576 : Int) < (m : Int) + (c : Int) := by omega
  go_enter Try.func12, Try.ntmps12
  go_wp2
  go_ret
  exact ⟨rfl, rfl⟩

/-- The picks that came in. -/
def PkAt (w : World) (a : Option Addr) (c : Nat) (pk : Nat → Int) : Prop := ∀ i, i < c → ∃ b o, a = some ⟨b, o, none⟩ ∧ w.cell? ⟨b, o + i, none⟩ = some (.int .i64 (pk i))
theorem PkAt.below {w w' : World} {a : Option Addr} {c : Nat} {pk : Nat → Int} (h : PkAt w a c pk) (hb : Below w.heap.size w w') : PkAt w' a c pk := fun k hk => by
  obtain ⟨b, o, h0, h1⟩ := h k hk
  exact ⟨b, o, h0, by rw [hb.cell (World.block_lt_of_cell? w _ h1)]; exact h1⟩

set_option maxRecDepth 100000 in
theorem picks_yes (a : Option Addr) (c cap n : Nat) (pk : Nat → Int) (w : World) (h : PkAt w a c pk) (hc : c ≤ 16384) (hok : ∀ i, i < c → 0 ≤ pk i ∧ pk i < n) :
    Calls Try.prog 7 #[.slice a c cap, .int .i64 (n : Nat)] w fun e w' => e = .returned (.bool true) ∧ w = w' := by
  have HP := hid h
  have HO := hid hok
  clear h hok
  go_enter Try.func7, Try.ntmps7
  go_wp2
  go_loopw [5] (fun ix wr => ∃ i : Nat, i ≤ c ∧ ix = .int .i64 (i : Nat) ∧ w = wr) (fun ix _ => c - (intOf ix).toNat)
  case atStart => exact ⟨0, Nat.zero_le _, rfl, rfl⟩
  case round =>
    obtain ⟨i, hi, rfl, rfl⟩ := hrel
    by_cases hlt : i < c
    · obtain ⟨b, o, rfl, hcell⟩ := HP.out i hlt
      have h1 := (HO.out i hlt).1
      have h2 := (HO.out i hlt).2
      have hi0 : (0 : Int) ≤ (i : Int) := by omega
      have hi1 : (i : Int) < (c : Int) := by omega
      generalize pk i = p at *
      go_wp2
      refine ⟨⟨i + 1, by omega, by simp, trivial⟩, ?_⟩
      simp [intOf]; omega
    · go_wp2
      go_ret
      exact ⟨rfl, rfl⟩
set_option maxRecDepth 100000 in
theorem picks_no (a : Option Addr) (c cap n : Nat) (pk : Nat → Int) (w : World) (h : PkAt w a c pk) (hc : c ≤ 16384) (hok : ¬ ∀ i, i < c → 0 ≤ pk i ∧ pk i < n) :
    Calls Try.prog 7 #[.slice a c cap, .int .i64 (n : Nat)] w fun e w' => e = .returned (.bool false) ∧ w = w' := by
  have HP := hid h
  have HO := hid hok
  clear h hok
  go_enter Try.func7, Try.ntmps7
  go_wp2
  go_loopw [5] (fun ix wr => ∃ i : Nat, i ≤ c ∧ ix = .int .i64 (i : Nat) ∧ w = wr ∧ ∀ k, k < i → 0 ≤ pk k ∧ pk k < n) (fun ix _ => c - (intOf ix).toNat)
  case atStart => exact ⟨0, Nat.zero_le _, rfl, rfl, fun k hk => by omega⟩
  case round =>
    obtain ⟨i, hi, rfl, rfl, hall⟩ := hrel
    have HAll := hid hall
    clear hall
    by_cases hlt : i < c
    · obtain ⟨b, o, rfl, hcell⟩ := HP.out i hlt
      have hi0 : (0 : Int) ≤ (i : Int) := by omega
      have hi1 : (i : Int) < (c : Int) := by omega
      by_cases h1 : pk i < 0
      · go_wp2
        go_ret
        exact ⟨rfl, rfl⟩
      · by_cases h2 : pk i < n
        · have h1' : 0 ≤ pk i := by omega
          have hnext : ∀ k, k < i + 1 → 0 ≤ pk k ∧ pk k < n := fun k hk => by
            by_cases e : k = i
            · rw [e]; exact ⟨h1', h2⟩
            · exact HAll.out k (by omega)
          have HNx := hid hnext
          clear hnext
          go_wp2
          refine ⟨⟨i + 1, by omega, by simp, trivial, HNx.out⟩, ?_⟩
          simp [intOf]; omega
        · have h1' : 0 ≤ pk i := by omega
          have h2' : (n : Int) ≤ pk i := by omega
          go_wp2
          go_ret
          exact ⟨rfl, rfl⟩
    · exact absurd (fun k hk => HAll.out k (by omega)) HO.out

/-! ### The hot picks, on lists -/
def ohP (hs : Nat → Nat) (n : Nat) (pk : Nat → Nat) : Nat → Nat → Option Nat
  | 0 => fun _ => none
  | i + 1 => up (ohP hs n pk i) (hs (pk i) % n) (some (pk i))
theorem ohP_ok {hs : Nat → Nat} {n m c : Nat} {pk : Nat → Nat} (hp : ∀ i, i < c → pk i < m) : ∀ i, i ≤ c → ∀ j k, ohP hs n pk i j = some k → k < m ∧ hs k % n = j
  | 0, _, j, k, h => by cases h
  | i + 1, hi, j, k, h => by
    unfold ohP at h
    by_cases e : j = hs (pk i) % n
    · rw [e, up_same] at h
      injection h with h
      rw [← h]; exact ⟨hp i (by omega), e.symm⟩
    · rw [up_other _ _ e] at h
      exact ohP_ok hp i (by omega) j k h
def enc : Option Nat → Int
  | none => -1
  | some k => (k : Int)
theorem Fl_succ_yes {hs : Nat → Nat} {k M j : Nat} (h : hs k % M = j) : Fl hs (k + 1) M j = Fl hs k M j ++ [k] := by simp [Fl, List.range_succ, h]
theorem Fl_succ_no {hs : Nat → Nat} {k M j : Nat} (h : hs k % M ≠ j) : Fl hs (k + 1) M j = Fl hs k M j := by simp [Fl, List.range_succ, h]
theorem Fl_prefix (hs : Nat → Nat) (M j k : Nat) : ∀ d, ∃ r, Fl hs (k + d) M j = Fl hs k M j ++ r
  | 0 => ⟨[], by simp⟩
  | d + 1 => by
    obtain ⟨r, hr⟩ := Fl_prefix hs M j k d
    by_cases h : hs (k + d) % M = j
    · exact ⟨r ++ [k + d], by rw [← Nat.add_assoc, Fl_succ_yes h, hr, List.append_assoc]⟩
    · exact ⟨r, by rw [← Nat.add_assoc, Fl_succ_no h, hr]⟩
theorem Fl_at {hs : Nat → Nat} {k m M j : Nat} (hk : k < m) (h : hs k % M = j) : (Fl hs m M j)[(Fl hs k M j).length]? = some k ∧ (Fl hs k M j).length < (Fl hs m M j).length := by
  obtain ⟨r, hr⟩ := Fl_prefix hs M j (k + 1) (m - (k + 1))
  rw [show k + 1 + (m - (k + 1)) = m by omega, Fl_succ_yes h] at hr
  rw [hr]
  simp
end Go.Proofs.Qxb6612769a
