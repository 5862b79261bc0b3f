import Derived.Test.Qxb6612769aNw
namespace Go.Proofs.Qxb6612769a
open Go.RowKit
set_option linter.unusedVariables false
set_option linter.unusedSimpArgs false
attribute [local go_sem ↓] Go.wp_at_zero Go.wp_at_succ

theorem row_here {w wr : World} {T Pb Hb n m G k : Nat} {hs blk pt : Nat → Nat} {nx fst : Nat → Value} {cnt : Nat → Nat} (h : NW w wr T Pb Hb n m G (k + 1) k hs blk pt nx fst cnt) (hk : k < m) : wr.cell? ⟨G, k, none⟩ = some N := by
  have := h.row.cell hk
  simpa using this

set_option maxRecDepth 100000 in
set_option maxHeartbeats 1000000 in
theorem newTable_any (L n m : Nat) (hs : Nat → Nat) (a : Option Addr) (cap : Nat) (w : World) (hn : n = 2 ^ L) (hL : L ≤ 12) (hm : m ≤ 16384) (ha : HsAt w a m hs) (hh : ∀ k, k < m → hs k < 18446744073709551616) :
    Calls Try.prog 13 #[.int .i64 (L : Nat), .slice a m cap] w fun e w' => ∃ T Pb Hb G blk pt nx fst cnt, e = .returned (.tuple #[P T, .slice (some ⟨G, 0, none⟩) m m]) ∧ NW w w' T Pb Hb n m G m m hs blk pt nx fst cnt := by
  have hn0 : 0 < n := by rw [hn]; exact Nat.pow_pos (by decide)
  have hn1 : n ≤ 4096 := by rw [hn]; exact Nat.pow_le_pow_right (by decide) hL
  have hw : wrap64 (2 ^ L) = (n : Int) := by
    have e : ((2 : Int) ^ L) = ((2 ^ L : Nat) : Int) := by simp
    rw [e, ← hn]; unfold wrap64; omega
  have mk1 := make77 n (by omega)
  have mk2 := make78 n (by omega)
  have mk3 := run_make_row' (P := Try.prog) 35 39 N 8 Try.underlying35 (by kernel_rfl) rfl .i64 .i64 m (by omega) (by omega)
  have HN := hid hn
  have HA := hid ha
  have HH := hid hh
  clear hn ha hh
  go_enter Try.func13, Try.ntmps13
  go_wp2
  go_region
  · have HS := hid (tab_start w n)
    have HT := hid (HS.out.1)
    have HPs := hid (HS.out.2.1)
    have HHs := hid (HS.out.2.2.1)
    have HBl := hid (HS.out.2.2.2)
    clear HS
    generalize (((w.alloc (.cells (pcells n) 106)).alloc (.cells (hcells n) 72)).alloc (.cells #[.int .u64 0, .slice (some ⟨w.heap.size, 0, none⟩) n n, N, .int .u64 0, N, .int .u64 0, .nilFunc, .slice (some ⟨w.heap.size + 1, 0, none⟩) n n] 86)).drew = w1 at *
    have HNS := hid (NW.start (w := w) (w1 := w1) (m := m) (hs := hs) HT.out HPs.out HHs.out HBl.out (by omega) (by omega) (by omega))
    generalize w.heap.size + 1 + 1 = T at *
    clear mk1 mk2
    go_wp2
    go_loopw [9] (fun ix wr => ∃ k : Nat, k ≤ m ∧ ix = .int .i64 (k : Nat) ∧ ∃ blk pt nx fst cnt, NW w wr T w.heap.size (w.heap.size + 1) n m w1.heap.size k k hs blk pt nx fst cnt) (fun ix _ => m - (intOf ix).toNat)
    case atStart => exact ⟨0, Nat.zero_le _, rfl, _, _, _, _, _, HNS.out⟩
    case round =>
      obtain ⟨k, hk, rfl, blk, pt, nx, fst, cnt, hW⟩ := hrel
      have HW := hid hW
      by_cases hlt : k < m
      · obtain ⟨ab, rfl, hc⟩ := (HA.out.below hW.below) k hlt
        have hk0 : (0 : Int) ≤ (k : Int) := by omega
        have hk1 : (k : Int) < (m : Int) := by omega
        have hhk := HH.out k hlt
        have HPO := hid (fun ob => partOf_any (hs k) L (hW.ts.tab.alloc ob) HN.out (by omega) hhk)
        have HLK := hid (fun (cs : Array Value) h1 h2 h3 h4 => NW.link (cs := cs) hW hn0 (by omega) (by omega) h1 h2 h3 h4)
        clear hW
        generalize hs k % n = q at HPO HLK
        go_wp2_with (first | (go_at_call 24; with_reducible refine (HPO.out _).mono ?_; rintro e w' ⟨rfl, rfl⟩) | (go_at_call 25; refine (HLK.out _ (by rfl) (by rfl) (by rfl) (by rfl)).mono ?_; rintro e w3 ⟨rfl, blk', pt', nx', fst', cnt', hbk, hW3⟩; have hG := row_here hW3 hlt; have hGz := hW3.row.frozen k; have HW3 := hid hW3; clear hW3))
        refine ⟨⟨k + 1, by omega, by simp, _, _, _, _, _, by have := HW3.out.store hlt; rw [hbk] at this; exact this⟩, ?_⟩
        simp [intOf]; omega
      · go_wp2
        go_ret2
        have hkm : k = m := by omega
        subst hkm
        exact ⟨_, _, _, _, _, _, _, _, _, rfl, HW.out⟩
  · have HS := hid (tab_start' w n)
    have HT := hid (HS.out.1)
    have HPs := hid (HS.out.2.1)
    have HHs := hid (HS.out.2.2.1)
    have HBl := hid (HS.out.2.2.2)
    clear HS
    generalize (((w.alloc (.cells (hcells n) 72)).alloc (.cells (pcells n) 106)).alloc (.cells #[.int .u64 0, .slice (some ⟨w.heap.size + 1, 0, none⟩) n n, N, .int .u64 0, N, .int .u64 0, .nilFunc, .slice (some ⟨w.heap.size, 0, none⟩) n n] 86)).drew = w1 at *
    have HNS := hid (NW.start (w := w) (w1 := w1) (m := m) (hs := hs) HT.out HPs.out HHs.out HBl.out (by omega) (by omega) (by omega))
    generalize w.heap.size + 1 + 1 = T at *
    clear mk1 mk2
    go_wp2
    go_loopw [9] (fun ix wr => ∃ k : Nat, k ≤ m ∧ ix = .int .i64 (k : Nat) ∧ ∃ blk pt nx fst cnt, NW w wr T (w.heap.size + 1) w.heap.size n m w1.heap.size k k hs blk pt nx fst cnt) (fun ix _ => m - (intOf ix).toNat)
    case atStart => exact ⟨0, Nat.zero_le _, rfl, _, _, _, _, _, HNS.out⟩
    case round =>
      obtain ⟨k, hk, rfl, blk, pt, nx, fst, cnt, hW⟩ := hrel
      have HW := hid hW
      by_cases hlt : k < m
      · obtain ⟨ab, rfl, hc⟩ := (HA.out.below hW.below) k hlt
        have hk0 : (0 : Int) ≤ (k : Int) := by omega
        have hk1 : (k : Int) < (m : Int) := by omega
        have hhk := HH.out k hlt
        have HPO := hid (fun ob => partOf_any (hs k) L (hW.ts.tab.alloc ob) HN.out (by omega) hhk)
        have HLK := hid (fun (cs : Array Value) h1 h2 h3 h4 => NW.link (cs := cs) hW hn0 (by omega) (by omega) h1 h2 h3 h4)
        clear hW
        generalize hs k % n = q at HPO HLK
        go_wp2_with (first | (go_at_call 24; with_reducible refine (HPO.out _).mono ?_; rintro e w' ⟨rfl, rfl⟩) | (go_at_call 25; refine (HLK.out _ (by rfl) (by rfl) (by rfl) (by rfl)).mono ?_; rintro e w3 ⟨rfl, blk', pt', nx', fst', cnt', hbk, hW3⟩; have hG := row_here hW3 hlt; have hGz := hW3.row.frozen k; have HW3 := hid hW3; clear hW3))
        refine ⟨⟨k + 1, by omega, by simp, _, _, _, _, _, by have := HW3.out.store hlt; rw [hbk] at this; exact this⟩, ?_⟩
        simp [intOf]; omega
      · go_wp2
        go_ret2
        have hkm : k = m := by omega
        subst hkm
        exact ⟨_, _, _, _, _, _, _, _, _, rfl, HW.out⟩
end Go.Proofs.Qxb6612769a
