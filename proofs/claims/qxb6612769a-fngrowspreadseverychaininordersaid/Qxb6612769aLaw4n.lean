import Derived.Test.Qxb6612769aAux4
namespace Go.Proofs.Qxb6612769a
open Go.RowKit
set_option linter.unusedVariables false
set_option linter.unusedSimpArgs false
attribute [local go_sem ↓] Go.wp_at_zero Go.wp_at_succ

set_option maxRecDepth 100000 in
set_option maxHeartbeats 4000000 in
theorem law4_nil (w : World) (L m cap c cap2 : Nat) (a2 : Option Addr) (hs : Nat → Nat) (pk : Nat → Nat) (hL : L ≤ 12) (hm : m ≤ 16384) (hc : c ≤ 16384) (hm0 : m = 0) (hc0 : c = 0) :
    Calls Try.prog 4 #[.int .i64 (L : Nat), .slice none m cap, .slice a2 c cap2] w fun e w' => e = .returned (.bool true) ∧ Below w.heap.size w w' := by
  have HM0 := hid hm0
  have HC0 := hid hc0
  have HA : Hid (HsAt w none m hs) := fun k hk => by omega
  have HH : Hid (∀ k, k < m → hs k < 18446744073709551616) := fun k hk => by omega
  have HPM : Hid (∀ i, i < c → pk i < m) := fun k hk => by omega
  have HBB := hid (Below.refl w.heap.size w)
  have HPI := hid (picks_yes a2 c cap2 m (fun i => (pk i : Int)) w (fun i hi => by omega) hc (fun i hi => by omega))
  clear hm0 hc0
  go_enter Try.func4, Try.ntmps4
  go_wp2_with (first | (go_at_call 12; with_reducible refine (bytes12 _ _ _ _ _ _ _ _ (by omega)).mono ?_; rintro e w' ⟨rfl, rfl⟩) | (go_at_call 7; with_reducible refine HPI.out.mono ?_; rintro e w' ⟨rfl, rfl⟩))
  obtain ⟨n, hn⟩ : ∃ n, n = 2 ^ L := ⟨_, rfl⟩
  have hn0 : 0 < n := by rw [hn]; exact Nat.pow_pos (by decide)
  have hn1 : n ≤ 4096 := by rw [hn]; exact Nat.pow_le_pow_right (by decide) hL
  have hw : wrap64 (2 ^ L) = (n : Int) := by
    have e : ((2 : Int) ^ L) = ((2 ^ L : Nat) : Int) := by simp
    rw [e, ← hn]; unfold wrap64; omega
  have HN := hid hn
  clear hn
  go_wp2_with (first | (go_at_call 13; with_reducible refine (newTable_any L n m hs _ _ _ HN.out hL hm HA.out HH.out).mono ?_; rintro e w1 ⟨T, Pb, Hb, G, blk, pt, nx, fst, cnt, rfl, hw1⟩; have W1 := hid hw1; clear hw1))
  go_loopw [10] (fun ix wr => ∃ i : Nat, i ≤ c ∧ ix = .int .i64 (i : Nat) ∧ TD wr T n m true hs blk (ohP hs n pk i) Pb Hb pt nx fst cnt ∧ Kp (fun b => b = Hb) w1 wr) (fun ix _ => c - (intOf ix).toNat)
  case atStart => exact ⟨0, Nat.zero_le _, rfl, W1.out.td, Kp.refl _ _⟩
  case round =>
    obtain ⟨i, hi, rfl, hD, hK⟩ := hrel
    have HK := hid hK
    by_cases hlt : i < c
    · exact absurd hlt (by have := HC0.out; omega)
    · have hic : i = c := by omega
      have HZG := hid (hD.zzgrow HN.out (by omega) (by omega) HH.out (fun j _ k h => ohP_ok HPM.out i hi j k h))
      clear hD hK
      obtain ⟨M, hM⟩ : ∃ M, M = 2 * n := ⟨_, rfl⟩
      have hM2 : 2 * (n : Int) = (M : Int) := by omega
      have hMb : M ≤ 8192 := by omega
      have hM0 : 0 < M := by omega
      have HMM := hid hM
      rw [← hM] at HZG
      clear hM
      have mkC := run_make_row' (P := Try.prog) 42 35 (.slice none 0 0) 24 Try.underlying42 (by kernel_rfl) rfl .i64 .i64 M (by omega) (by omega)
      have mkQ := run_make_row' (P := Try.prog) 23 3 (.int .i64 0) 8 Try.underlying23 (by kernel_rfl) rfl .i64 .i64 M (by omega) (by omega)
      have mkL := run_make_row' (P := Try.prog) 23 3 (.int .i64 0) 8 Try.underlying23 (by kernel_rfl) rfl .i64 .i64 n (by omega) (by omega)
      go_wp2_with (first | (go_at_call 15; with_reducible refine HZG.out.mono ?_; rintro e w3 ⟨rfl, Pb3, Hb3, pt3, nx3, fst3, cnt3, hD3, hK3⟩; have HTD := hid hD3; have HOT := hid (one_table W1.out HK.out hK3); have hT3 := hD3.ts.tab; clear hD3 hK3) | (go_at_call 16; with_reducible refine (parts_any hT3).mono ?_; rintro e w' ⟨rfl, rfl⟩))
      have HCS := hid (CR.start w3 M m hs blk)
      have hwc : w3.heap.size ≤ w3.heap.size := Nat.le_refl _
      go_loopw [15] (fun ix wr => ∃ j : Nat, j ≤ M ∧ ix = .int .i64 (j : Nat) ∧ ∃ va vc, CR w3 wr w3.heap.size M m j hs blk va vc) (fun ix _ => M - (intOf ix).toNat)
      case atStart => exact ⟨0, Nat.zero_le _, rfl, _, _, HCS.out⟩
      case round =>
        obtain ⟨j, hj, rfl, va, vc, hR⟩ := hrel
        have HR := hid hR
        by_cases hjM : j < M
        · have HCA := hid ((HTD.out.keep0 hR.below).chain hjM (by omega))
          have hj0 : (0 : Int) ≤ (j : Int) := by omega
          have hj1 : (j : Int) < (M : Int) := by omega
          clear hR mkC mkQ mkL
          go_wp2_with (first | (go_at_call 17; with_reducible refine HCA.out.mono ?_; rintro e w4 ⟨aa, ca, rfl, hpa, hb4⟩; have HC4 := hid (HR.out.keep0 hb4); have hCc := HC4.out.here hjM; have hCz := HC4.out.row.frozen j; have HC5 := hid (HC4.out.store (cap := ca) (Nat.le_refl _) hpa); clear hpa hb4))
          have hcj : (w4.setCell ⟨w3.heap.size, j, none⟩ (.slice aa (Fl hs m M j).length ca)).cell? ⟨w3.heap.size, j, none⟩ = some (.slice aa (Fl hs m M j).length ca) := by
            have := HC5.out.at hjM (Nat.lt_succ_self j)
            rw [up_same, up_same] at this; exact this
          have HNC := hid ((HTD.out.keep0 HC5.out.below.drew).count hjM)
          go_region_held3 (fun w' => w'.cell? ⟨w3.heap.size, j, none⟩ = some (.slice aa (Fl hs m M j).length ca))
            (first | (exact hcj)) (first | (go_at_call 18; refine (HNC.out).mono ?_; rintro e w' ⟨rfl, rfl⟩))
          go_wp2
          refine ⟨⟨j + 1, by omega, by simp, _, _, HC5.out.keep0 (Below.refl _ _).drew⟩, ?_⟩
          simp [intOf]; omega
        · have hjeq : j = M := by omega
          subst hjeq
          clear hR mkC
          generalize wr = w4 at *
          have hQ0 : (w4.alloc (.cells (madeCells #[.int .i64 0] j) 3)).rowIs w4.heap.size 3 j (fun i => .int .i64 ((Fl hs 0 j i).length : Nat)) := (World.rowIs_made w4 (.int .i64 0) j 3).congr fun i _ => by simp [Fl]
          have HQ0 := hid hQ0
          clear hQ0
          go_wp2
          go_loopw [17] (fun ix wr => ∃ k : Nat, k ≤ m ∧ ix = .int .i64 (k : Nat) ∧ wr.rowIs w4.heap.size 3 j (fun i => .int .i64 ((Fl hs k j i).length : Nat)) ∧ Below w4.heap.size w4 wr) (fun ix _ => m - (intOf ix).toNat)
          case atStart => exact ⟨0, Nat.zero_le _, rfl, HQ0.out, (Below.refl _ _).alloc (Nat.le_refl _) _⟩
          case round =>
            obtain ⟨k, hk, rfl, hQr, hB⟩ := hrel
            have HQR := hid hQr
            have HB := hid hB
            by_cases hkm : k < m
            · exact absurd hkm (by have := HM0.out; omega)
            · have hkeq : k = m := by omega
              clear hQr hB
              generalize wr = w5 at *
              go_wp2
              go_loopw [19] (fun ix wr => ∃ i : Nat, i ≤ j ∧ ix = .int .i64 (i : Nat) ∧ Below w5.heap.size w5 wr) (fun ix _ => j - (intOf ix).toNat)
              case atStart => exact ⟨0, Nat.zero_le _, rfl, Below.refl _ _⟩
              case round =>
                obtain ⟨i4, hi4, rfl, hB4⟩ := hrel
                have HB4 := hid hB4
                by_cases hij : i4 < j
                · have hcQ := (HQR.out.of_block (hB4.block _ HQR.out.lt)).cell hij
                  rw [hkeq] at hcQ
                  have hcC := ((HR.out.keep0 HB.out).keep0 hB4).at hij hij
                  have hi0 : (0 : Int) ≤ (i4 : Int) := by omega
                  have hi1 : (i4 : Int) < (j : Int) := by omega
                  clear hB4
                  generalize (Fl hs m j i4).length = ln at *
                  go_wp2
                  go_quiet (fail)
                  go_wp2
                  refine ⟨⟨i4 + 1, by omega, by simp, HB4.out.trans ((drewN_below wr nq).mono HB4.out.size)⟩, ?_⟩
                  simp [intOf]; omega
                · clear hB4
                  generalize wr = w6 at *
                  have HB6 : Hid (Below w3.heap.size w3 w6) := HR.out.below.trans ((HB.out.trans (HB4.out.mono HB.out.size)).mono HR.out.below.size)
                  go_wp2
                  have hL0 : (w6.alloc (.cells (madeCells #[.int .i64 0] n) 3)).rowIs w6.heap.size 3 n (fun i => if i < 0 then .int .i64 (-1) else .int .i64 0) := (World.rowIs_made w6 (.int .i64 0) n 3).congr fun i _ => by simp
                  have HL0 := hid hL0
                  clear hL0
                  go_loopw [21] (fun ix wr => ∃ i : Nat, i ≤ n ∧ ix = .int .i64 (i : Nat) ∧ wr.rowIs w6.heap.size 3 n (fun v => if v < i then .int .i64 (-1) else .int .i64 0) ∧ Below w6.heap.size w6 wr) (fun ix _ => n - (intOf ix).toNat)
                  case atStart => exact ⟨0, Nat.zero_le _, rfl, HL0.out, (Below.refl _ _).alloc (Nat.le_refl _) _⟩
                  case round =>
                    obtain ⟨i5, hi5, rfl, hLr, hB5⟩ := hrel
                    have HLR := hid hLr
                    have HB5 := hid hB5
                    by_cases hin5 : i5 < n
                    · have hcL : wr.cell? ⟨w6.heap.size, i5, none⟩ = some (.int .i64 0) := by have := hLr.cell hin5; simpa using this
                      have hzL := hLr.frozen i5
                      have hi0 : (0 : Int) ≤ (i5 : Int) := by omega
                      have hi1 : (i5 : Int) < (n : Int) := by omega
                      clear hLr hB5
                      go_wp2
                      refine ⟨⟨i5 + 1, by omega, by simp, fill_next HLR.out, below_set HB5.out (Nat.le_refl _)⟩, ?_⟩
                      simp [intOf]; omega
                    · have hi5n : i5 = n := by omega
                      clear hLr hB5
                      go_wp2
                      generalize wr = w7 at *
                      have HO0 : Hid (w7.rowIs w6.heap.size 3 n (fun v => .int .i64 (enc (ohP hs n pk 0 v)))) := HLR.out.congr fun v hv => by rw [hi5n, if_pos hv]; rfl
                      have HBW6 : Hid (Below w.heap.size w w6) := HBB.out.trans ((HOT.out.2.trans (HB6.out.mono HOT.out.2.size)).mono HBB.out.size)
                      go_loopw [22] (fun ix wr => ∃ i : Nat, i ≤ c ∧ ix = .int .i64 (i : Nat) ∧ wr.rowIs w6.heap.size 3 n (fun v => .int .i64 (enc (ohP hs n pk i v))) ∧ Below w6.heap.size w6 wr) (fun ix _ => c - (intOf ix).toNat)
                      case atStart => exact ⟨0, Nat.zero_le _, rfl, HO0.out, HB5.out⟩
                      case round =>
                        obtain ⟨i6, hi6, rfl, hOr, hB6⟩ := hrel
                        have HOR := hid hOr
                        have HBR := hid hB6
                        by_cases hic6 : i6 < c
                        · exact absurd hic6 (by have := HC0.out; omega)
                        · have hi6c : i6 = c := by omega
                          clear hOr hB6
                          generalize wr = w8 at *
                          go_wp2
                          have hW0 : (w8.alloc (.cells (madeCells #[.int .i64 0] j) 3)).rowIs w8.heap.size 3 j (fun i => if i < 0 then .int .i64 (-1) else .int .i64 0) := (World.rowIs_made w8 (.int .i64 0) j 3).congr fun i _ => by simp
                          have HW0 := hid hW0
                          clear hW0
                          go_loopw [25] (fun ix wr => ∃ i : Nat, i ≤ j ∧ ix = .int .i64 (i : Nat) ∧ wr.rowIs w8.heap.size 3 j (fun v => if v < i then .int .i64 (-1) else .int .i64 0) ∧ Below w8.heap.size w8 wr) (fun ix _ => j - (intOf ix).toNat)
                          case atStart => exact ⟨0, Nat.zero_le _, rfl, HW0.out, (Below.refl _ _).alloc (Nat.le_refl _) _⟩
                          case round =>
                            obtain ⟨i7, hi7, rfl, hLr, hB7⟩ := hrel
                            have HLR7 := hid hLr
                            have HB7 := hid hB7
                            by_cases hin7 : i7 < j
                            · have hcL : wr.cell? ⟨w8.heap.size, i7, none⟩ = some (.int .i64 0) := by have := hLr.cell hin7; simpa using this
                              have hzL := hLr.frozen i7
                              have hi0 : (0 : Int) ≤ (i7 : Int) := by omega
                              have hi1 : (i7 : Int) < (j : Int) := by omega
                              clear hLr hB7
                              go_wp2
                              refine ⟨⟨i7 + 1, by omega, by simp, fill_next HLR7.out, below_set HB7.out (Nat.le_refl _)⟩, ?_⟩
                              simp [intOf]; omega
                            · have hi7n : i7 = j := by omega
                              clear hLr hB7
                              generalize wr = w9 at *
                              have HF0 : Hid (w9.rowIs w8.heap.size 3 j (fun v => .int .i64 (enc (hotF hs j (ohP hs n pk i) 0 v)))) := HLR7.out.congr fun v hv => by rw [hi7n, if_pos hv]; rfl
                              have HOL : Hid (w8.rowIs w6.heap.size 3 n (fun v => .int .i64 (enc (ohP hs n pk i v)))) := by rw [hic, ← hi6c]; exact HOR.out
                              have HB38 : Hid (Below w3.heap.size w3 w8) := HB6.out.trans (HBR.out.mono HB6.out.size)
                              have hlt68 : w6.heap.size < w8.heap.size := HOR.out.lt
                              have hltW : w.heap.size < w8.heap.size := Nat.lt_of_le_of_lt HBW6.out.size hlt68
                              go_wp2
                              go_loopw [26] (fun ix wr => ∃ s : Nat, s ≤ n ∧ ix = .int .i64 (s : Nat) ∧ wr.rowIs w8.heap.size 3 j (fun v => .int .i64 (enc (hotF hs j (ohP hs n pk i) s v))) ∧ Below w8.heap.size w8 wr) (fun ix _ => n - (intOf ix).toNat)
                              case atStart => exact ⟨0, Nat.zero_le _, rfl, HF0.out, HB7.out⟩
                              case round =>
                                obtain ⟨s, hs8, rfl, hWr, hB8⟩ := hrel
                                have HWR := hid hWr
                                have HB8 := hid hB8
                                by_cases hsn : s < n
                                · have hcL := (HOL.out.of_block (hB8.block _ HOL.out.lt)).cell hsn
                                  have hi0 : (0 : Int) ≤ (s : Int) := by omega
                                  have hi1 : (s : Int) < (n : Int) := by omega
                                  cases ho : ohP hs n pk i s with
                                  | none =>
                                    rw [ho] at hcL
                                    have hcL' : wr.cell? ⟨w6.heap.size, s, none⟩ = some (.int .i64 (-1)) := hcL
                                    have HO8 := hid ho
                                    clear hcL hWr hB8 ho
                                    go_wp2
                                    refine ⟨⟨s + 1, by omega, by simp, by rw [hotF_none HO8.out]; exact HWR.out, HB8.out⟩, ?_⟩
                                    simp [intOf]; omega
                                  | some p =>
                                    exact absurd (ohP_ok HPM.out i hi s p ho).1 (by have := HM0.out; omega)
                                · have hsn' : s = n := by omega
                                  clear hWr hB8
                                  generalize wr = w10 at *
                                  go_wp2
                                  go_loopw [27] (fun ix wr => ∃ v : Nat, v ≤ j ∧ ix = .int .i64 (v : Nat) ∧ Below w10.heap.size w10 wr) (fun ix _ => j - (intOf ix).toNat)
                                  case atStart => exact ⟨0, Nat.zero_le _, rfl, Below.refl _ _⟩
                                  case round =>
                                    obtain ⟨v, hv9, rfl, hB9⟩ := hrel
                                    have HB9 := hid hB9
                                    have HB3r : Hid (Below w3.heap.size w3 wr) := HB38.out.trans ((HB8.out.trans (hB9.mono HB8.out.size)).mono HB38.out.size)
                                    by_cases hvj : v < j
                                    · have hcW := (HWR.out.of_block (hB9.block _ HWR.out.lt)).cell hvj
                                      rw [hsn'] at hcW
                                      have hi0 : (0 : Int) ≤ (v : Int) := by omega
                                      have hi1 : (v : Int) < (j : Int) := by omega
                                      clear hB9 hkeq hi5n hi6c hi7n hsn' hic
                                      cases ho : hotF hs j (ohP hs n pk i) n v with
                                      | none =>
                                        rw [ho] at hcW
                                        have hcW' : wr.cell? ⟨w8.heap.size, v, none⟩ = some (.int .i64 (-1)) := hcW
                                        have HHT := hid (hot_nil (HTD.out.keep0 HB3r.out).ts hvj (by unfold hVs; rw [ho]; rfl))
                                        clear hcW ho
                                        go_wp2_with (first | (go_at_call 20; with_reducible refine HHT.out.mono ?_; rintro e w' ⟨rfl, rfl⟩))
                                        go_roundw
                                        case rel => exact ⟨v + 1, by omega, by go_num, HB9.out⟩
                                        case measure => simp [intOf]; omega
                                      | some p =>
                                        exact absurd (hotF_ok (fun j' k' h' => (ohP_ok HPM.out i hi j' k' h').1) n v p ho) (by have := HM0.out; omega)
                                    · go_wp2
                                      go_ret
                                      exact ⟨rfl, HBB.out.trans ((HOT.out.2.trans (HB3r.out.mono HOT.out.2.size)).mono HBB.out.size)⟩

/-! ### Where the law turns its input away -/
set_option maxRecDepth 100000 in
theorem law4_big_a (w : World) (v0 : Value) (a a2 : Option Addr) (m cap c cap2 : Nat) (hb : 1048576 < m) (hm : m ≤ maxLen) : Calls Try.prog 4 #[v0, .slice a m cap, .slice a2 c cap2] w fun e w' => e = .returned (.bool true) ∧ Below w.heap.size w w' := by
  go_enter Try.func4, Try.ntmps4
  go_wp2_with (first | (go_at_call 12; refine (bytes12_a _ _ _ _ _ _ _ _ hb hm).mono ?_; rintro e w' ⟨rfl, rfl⟩))
  go_ret
  exact ⟨rfl, Below.refl _ _⟩
set_option maxRecDepth 100000 in
theorem law4_big_b (w : World) (v0 : Value) (a a2 : Option Addr) (m cap c cap2 : Nat) (h0 : m ≤ 1048576) (hb : 1048576 < c) (hm : c ≤ maxLen) : Calls Try.prog 4 #[v0, .slice a m cap, .slice a2 c cap2] w fun e w' => e = .returned (.bool true) ∧ Below w.heap.size w w' := by
  go_enter Try.func4, Try.ntmps4
  go_wp2_with (first | (go_at_call 12; refine (bytes12_b _ _ _ _ _ _ _ _ h0 hb hm).mono ?_; rintro e w' ⟨rfl, rfl⟩))
  go_ret
  exact ⟨rfl, Below.refl _ _⟩
set_option maxRecDepth 100000 in
theorem law4_big_c (w : World) (v0 : Value) (a a2 : Option Addr) (m cap c cap2 : Nat) (h0 : m ≤ 1048576) (h1 : c ≤ 1048576) (hb : 1048576 < m + c) : Calls Try.prog 4 #[v0, .slice a m cap, .slice a2 c cap2] w fun e w' => e = .returned (.bool true) ∧ Below w.heap.size w w' := by
  go_enter Try.func4, Try.ntmps4
  go_wp2_with (first | (go_at_call 12; refine (bytes12_c _ _ _ _ _ _ _ _ h0 h1 hb).mono ?_; rintro e w' ⟨rfl, rfl⟩))
  go_ret
  exact ⟨rfl, Below.refl _ _⟩
set_option maxRecDepth 100000 in
theorem law4_long_a (w : World) (v0 : Value) (a a2 : Option Addr) (m cap c cap2 : Nat) (h0 : m + c ≤ 1048576) (hb : 16384 < m) : Calls Try.prog 4 #[v0, .slice a m cap, .slice a2 c cap2] w fun e w' => e = .returned (.bool true) ∧ Below w.heap.size w w' := by
  go_enter Try.func4, Try.ntmps4
  go_wp2_with (first | (go_at_call 12; refine (bytes12 _ _ _ _ _ _ _ _ h0).mono ?_; rintro e w' ⟨rfl, rfl⟩))
  go_ret
  exact ⟨rfl, Below.refl _ _⟩
set_option maxRecDepth 100000 in
theorem law4_long_b (w : World) (v0 : Value) (a a2 : Option Addr) (m cap c cap2 : Nat) (h0 : m + c ≤ 1048576) (h1 : m ≤ 16384) (hb : 16384 < c) : Calls Try.prog 4 #[v0, .slice a m cap, .slice a2 c cap2] w fun e w' => e = .returned (.bool true) ∧ Below w.heap.size w w' := by
  go_enter Try.func4, Try.ntmps4
  go_wp2_with (first | (go_at_call 12; refine (bytes12 _ _ _ _ _ _ _ _ h0).mono ?_; rintro e w' ⟨rfl, rfl⟩))
  go_ret
  exact ⟨rfl, Below.refl _ _⟩
set_option maxRecDepth 100000 in
theorem law4_l0 (w : World) (i : Int) (a a2 : Option Addr) (m cap c cap2 : Nat) (h1 : m ≤ 16384) (h2 : c ≤ 16384) (hi : i < 0) : Calls Try.prog 4 #[.int .i64 i, .slice a m cap, .slice a2 c cap2] w fun e w' => e = .returned (.bool true) ∧ Below w.heap.size w w' := by
  go_enter Try.func4, Try.ntmps4
  go_wp2_with (first | (go_at_call 12; refine (bytes12 _ _ _ _ _ _ _ _ (by omega)).mono ?_; rintro e w' ⟨rfl, rfl⟩))
  go_ret
  exact ⟨rfl, Below.refl _ _⟩
set_option maxRecDepth 100000 in
theorem law4_l1 (w : World) (i : Int) (a a2 : Option Addr) (m cap c cap2 : Nat) (h1 : m ≤ 16384) (h2 : c ≤ 16384) (hi0 : 0 ≤ i) (hi : 12 < i) : Calls Try.prog 4 #[.int .i64 i, .slice a m cap, .slice a2 c cap2] w fun e w' => e = .returned (.bool true) ∧ Below w.heap.size w w' := by
  go_enter Try.func4, Try.ntmps4
  go_wp2_with (first | (go_at_call 12; refine (bytes12 _ _ _ _ _ _ _ _ (by omega)).mono ?_; rintro e w' ⟨rfl, rfl⟩))
  go_ret
  exact ⟨rfl, Below.refl _ _⟩
set_option maxRecDepth 100000 in
theorem law4_picks (w : World) (i : Int) (a a2 : Option Addr) (m cap c cap2 : Nat) (pk : Nat → Int) (h1 : m ≤ 16384) (h2 : c ≤ 16384) (hi0 : 0 ≤ i) (hi : i ≤ 12) (hp : PkAt w a2 c pk) (hok : ¬ ∀ i, i < c → 0 ≤ pk i ∧ pk i < m) : Calls Try.prog 4 #[.int .i64 i, .slice a m cap, .slice a2 c cap2] w fun e w' => e = .returned (.bool true) ∧ Below w.heap.size w w' := by
  have HPI := hid (picks_no a2 c cap2 m pk w hp h2 hok)
  clear hp hok
  go_enter Try.func4, Try.ntmps4
  go_wp2_with (first | (go_at_call 12; refine (bytes12 _ _ _ _ _ _ _ _ (by omega)).mono ?_; rintro e w' ⟨rfl, rfl⟩) | (go_at_call 7; with_reducible refine HPI.out.mono ?_; rintro e w' ⟨rfl, rfl⟩))
  go_ret
  exact ⟨rfl, Below.refl _ _⟩
end Go.Proofs.Qxb6612769a
