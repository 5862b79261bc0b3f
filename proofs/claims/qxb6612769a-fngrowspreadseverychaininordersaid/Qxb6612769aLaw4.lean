import Derived.Test.Qxb6612769aAux4
namespace Go.Proofs.Qxb6612769a
open Go.RowKit
set_option linter.unusedVariables false
set_option linter.unusedSimpArgs false
attribute [local go_sem ↓] Go.wp_at_zero Go.wp_at_succ

set_option maxRecDepth 100000 in
set_option maxHeartbeats 4000000 in
theorem law4_some (w : World) (L m cap c cap2 : Nat) (x : Addr) (a2 : Option Addr) (hs : Nat → Nat) (pk : Nat → Nat) (hL : L ≤ 12) (hm : m ≤ 16384) (hc : c ≤ 16384) (hx : ∀ k, k < m → w.cell? (x.add k) = some (.int .u64 (hs k : Nat))) (hh : ∀ k, k < m → hs k < 18446744073709551616)
    (hp : PkAt w a2 c (fun i => (pk i : Int))) (hpm : ∀ i, i < c → pk i < m) :
    Calls Try.prog 4 #[.int .i64 (L : Nat), .slice (some x) m cap, .slice a2 c cap2] w fun e w' => e = .returned (.bool true) ∧ Below w.heap.size w w' := by
  have mk := run_make_row' (P := Try.prog) 22 29 (.int .u64 0) 8 Try.underlying22 (by kernel_rfl) rfl .i64 .i64 m (by omega) (by omega)
  have HH := hid hh
  have HPM := hid hpm
  have hb0 : Below w.heap.size w (w.alloc (.cells (madeCells #[.int .u64 0] m) 29)) := (Below.refl _ _).alloc (Nat.le_refl _) _
  have HB0 := hid hb0
  have HZ := hid (made_zU w m)
  have hsrc : ∀ j v, (uV hs m)[j]? = some v → (w.alloc (.cells (madeCells #[.int .u64 0] m) 29)).cell? (x.add j) = some v := fun j v hj => by
    have hjm : j < m := by have := (List.getElem?_eq_some_iff.1 hj).1; rwa [uV_len] at this
    rw [uV_at hs m j hjm] at hj
    rw [hb0.cell (World.block_lt_of_cell? w _ (hx j hjm)), hx j hjm]; exact hj
  have HSrc := hid hsrc
  have HPI := hid (picks_yes a2 c cap2 m (fun i => (pk i : Int)) w hp hc (fun i hi => ⟨by omega, by have := hpm i hi; show (pk i : Int) < (m : Int); omega⟩))
  have HPK := hid hp
  clear hx hh hsrc hb0 hp hpm
  go_enter Try.func4, Try.ntmps4
  go_wp2_with (first | (go_at_call 12; with_reducible refine (bytes12 _ _ _ _ _ _ _ _ (by omega)).mono ?_; rintro e w' ⟨rfl, rfl⟩) | (go_at_call 7; with_reducible refine HPI.out.mono ?_; rintro e w' ⟨rfl, rfl⟩) | ((with_reducible refine at_copy (d := 58) (s := 59) rfl ?_); (refine wpList_copy_splice rfl (.tmp 58) (.tmp 59) 22 22 rfl 29 Try.underlying22 info29 _ _ _ _ _ _ rfl rfl w.heap.size 0 (zU m) 29 HZ.out (uV hs m) (by rw [uV_len]; simp) (fun _ => ⟨rfl, x, rfl, HSrc.out⟩) (by rw [uV_len]; simp [zU]) (uV_one hs m) w.heap.size w HB0.out (Nat.le_refl _) ?_; intro w0 hg hbb; have HA := hid (hs_of_row hg.out); have HBB := hid hbb; clear hg hbb)))
  obtain ⟨n, hn⟩ : ∃ n, n = 2 ^ L := ⟨_, rfl⟩
  have hn0 : 0 < n := by rw [hn]; exact Nat.pow_pos (by decide)
  have hn1 : n ≤ 4096 := by rw [hn]; exact Nat.pow_le_pow_right (by decide) hL
  have hw : wrap64 (2 ^ L) = (n : Int) := by
    have e : ((2 : Int) ^ L) = ((2 ^ L : Nat) : Int) := by simp
    rw [e, ← hn]; unfold wrap64; omega
  have HN := hid hn
  clear hn mk
  go_wp2_with (first | (go_at_call 13; with_reducible refine (newTable_any L n m hs _ _ _ HN.out hL hm HA.out HH.out).mono ?_; rintro e w1 ⟨T, Pb, Hb, G, blk, pt, nx, fst, cnt, rfl, hw1⟩; have W1 := hid hw1; clear hw1))
  go_loopw [10] (fun ix wr => ∃ i : Nat, i ≤ c ∧ ix = .int .i64 (i : Nat) ∧ TD wr T n m true hs blk (ohP hs n pk i) Pb Hb pt nx fst cnt ∧ Kp (fun b => b = Hb) w1 wr) (fun ix _ => c - (intOf ix).toNat)
  case atStart => exact ⟨0, Nat.zero_le _, rfl, W1.out.td, Kp.refl _ _⟩
  case round =>
    obtain ⟨i, hi, rfl, hD, hK⟩ := hrel
    have HK := hid hK
    have HPW := hid (HPK.out.below (HBB.out.trans ((W1.out.below.trans (hK.below W1.out.below.size fun b e => by rw [e]; exact W1.out.own.2.2.1)).mono HBB.out.size)))
    by_cases hlt : i < c
    · obtain ⟨pb, po, rfl, hcp⟩ := HPW.out i hlt
      have hpi := HPM.out i hlt
      have hge : wr.cell? ⟨G, pk i, none⟩ = some (P (blk (pk i))) := pt_at (W1.out.pt.kp hK fun e => W1.out.ne_G.2.2.1 e.symm) hpi
      have HSH := hid (hD.setHot hpi hn0)
      have hi0 : (0 : Int) ≤ (i : Int) := by omega
      have hi1 : (i : Int) < (c : Int) := by omega
      have hq0 : (0 : Int) ≤ (pk i : Int) := by omega
      have hq1 : (pk i : Int) < (m : Int) := by omega
      clear hD hK
      go_wp2_with (first | (go_at_call 14; with_reducible refine HSH.out.mono ?_; rintro e w2 ⟨rfl, hD2, hK2⟩; have HD2 := hid hD2; have HK2 := hid hK2; clear hD2 hK2))
      refine ⟨⟨i + 1, by omega, by simp, HD2.out, HK.out.trans HK2.out⟩, ?_⟩
      simp [intOf]; omega
    · have hic : i = c := by omega
      have HZG := hid (hD.zzgrow HN.out (by omega) (by omega) HH.out (fun j _ k h => ohP_ok HPM.out i hi j k h))
      clear hD hK
      obtain ⟨M, hM⟩ : ∃ M, M = 2 * n := ⟨_, rfl⟩
      have hM2 : 2 * (n : Int) = (M : Int) := by omega
      have hMb : M ≤ 8192 := by omega
      have hM0 : 0 < M := by omega
      have HMM := hid hM
      rw [← hM] at HZG
      clear hM
      have mkC := run_make_row' (P := Try.prog) 42 35 (.slice none 0 0) 24 Try.underlying42 (by kernel_rfl) rfl .i64 .i64 M (by omega) (by omega)
      have mkQ := run_make_row' (P := Try.prog) 23 3 (.int .i64 0) 8 Try.underlying23 (by kernel_rfl) rfl .i64 .i64 M (by omega) (by omega)
      have mkL := run_make_row' (P := Try.prog) 23 3 (.int .i64 0) 8 Try.underlying23 (by kernel_rfl) rfl .i64 .i64 n (by omega) (by omega)
      go_wp2_with (first | (go_at_call 15; with_reducible refine HZG.out.mono ?_; rintro e w3 ⟨rfl, Pb3, Hb3, pt3, nx3, fst3, cnt3, hD3, hK3⟩; have HTD := hid hD3; have HOT := hid (one_table W1.out HK.out hK3); have hT3 := hD3.ts.tab; clear hD3 hK3) | (go_at_call 16; with_reducible refine (parts_any hT3).mono ?_; rintro e w' ⟨rfl, rfl⟩))
      have HCS := hid (CR.start w3 M m hs blk)
      have hwc : w3.heap.size ≤ w3.heap.size := Nat.le_refl _
      go_loopw [15] (fun ix wr => ∃ j : Nat, j ≤ M ∧ ix = .int .i64 (j : Nat) ∧ ∃ va vc, CR w3 wr w3.heap.size M m j hs blk va vc) (fun ix _ => M - (intOf ix).toNat)
      case atStart => exact ⟨0, Nat.zero_le _, rfl, _, _, HCS.out⟩
      case round =>
        obtain ⟨j, hj, rfl, va, vc, hR⟩ := hrel
        have HR := hid hR
        by_cases hjM : j < M
        · have HCA := hid ((HTD.out.keep0 hR.below).chain hjM (by omega))
          have hj0 : (0 : Int) ≤ (j : Int) := by omega
          have hj1 : (j : Int) < (M : Int) := by omega
          clear hR mkC mkQ mkL
          go_wp2_with (first | (go_at_call 17; with_reducible refine HCA.out.mono ?_; rintro e w4 ⟨aa, ca, rfl, hpa, hb4⟩; have HC4 := hid (HR.out.keep0 hb4); have hCc := HC4.out.here hjM; have hCz := HC4.out.row.frozen j; have HC5 := hid (HC4.out.store (cap := ca) (Nat.le_refl _) hpa); clear hpa hb4))
          have hcj : (w4.setCell ⟨w3.heap.size, j, none⟩ (.slice aa (Fl hs m M j).length ca)).cell? ⟨w3.heap.size, j, none⟩ = some (.slice aa (Fl hs m M j).length ca) := by
            have := HC5.out.at hjM (Nat.lt_succ_self j)
            rw [up_same, up_same] at this; exact this
          have HNC := hid ((HTD.out.keep0 HC5.out.below.drew).count hjM)
          go_region_held3 (fun w' => w'.cell? ⟨w3.heap.size, j, none⟩ = some (.slice aa (Fl hs m M j).length ca))
            (first | (exact hcj)) (first | (go_at_call 18; refine (HNC.out).mono ?_; rintro e w' ⟨rfl, rfl⟩))
          go_wp2
          refine ⟨⟨j + 1, by omega, by simp, _, _, HC5.out.keep0 (Below.refl _ _).drew⟩, ?_⟩
          simp [intOf]; omega
        · have hjeq : j = M := by omega
          subst hjeq
          clear hR mkC
          generalize wr = w4 at *
          have hQ0 : (w4.alloc (.cells (madeCells #[.int .i64 0] j) 3)).rowIs w4.heap.size 3 j (fun i => .int .i64 ((Fl hs 0 j i).length : Nat)) := (World.rowIs_made w4 (.int .i64 0) j 3).congr fun i _ => by simp [Fl]
          have HQ0 := hid hQ0
          clear hQ0
          go_wp2
          go_loopw [17] (fun ix wr => ∃ k : Nat, k ≤ m ∧ ix = .int .i64 (k : Nat) ∧ wr.rowIs w4.heap.size 3 j (fun i => .int .i64 ((Fl hs k j i).length : Nat)) ∧ Below w4.heap.size w4 wr) (fun ix _ => m - (intOf ix).toNat)
          case atStart => exact ⟨0, Nat.zero_le _, rfl, HQ0.out, (Below.refl _ _).alloc (Nat.le_refl _) _⟩
          case round =>
            obtain ⟨k, hk, rfl, hQr, hB⟩ := hrel
            have HQR := hid hQr
            have HB := hid hB
            by_cases hkm : k < m
            · have hql : hs k % j < j := Nat.mod_lt _ hM0
              have HCR := hid (HR.out.keep0 hB)
              have hfa := Fl_at hkm (rfl : hs k % j = hs k % j)
              obtain ⟨gc, hva, hcc⟩ := HCR.out.pts (hs k % j) hql _ k hfa.1
              have hcC := HCR.out.at hql hql
              rw [hva] at hcC
              have hcQ := hQr.cell hql
              have hzQ := hQr.frozen (hs k % j)
              have hB3 := HR.out.below.trans (hB.mono HR.out.below.size)
              have hcE : wr.cell? ⟨G, k, none⟩ = some (P (blk k)) := pt_at (HOT.out.1.below hB3) hkm
              have hch := hs_at ((HA.out.below HOT.out.2).below hB3) hkm
              have hmk := mask (hs k) (L + 1) (HH.out k hkm) (by omega)
              rw [show ((2 ^ (L + 1) : Nat) : Int) = (j : Int) by rw [HMM.out, HN.out, Nat.pow_succ]; omega, show 2 ^ (L + 1) = j by rw [HMM.out, HN.out, Nat.pow_succ]; omega] at hmk
              have HPa := hid (fun d => (((HTD.out.keep0 (hB3.trans ((drewN_below wr d).mono hB3.size))).part hkm).mono fun e w' h => ⟨h.1, h.2.symm⟩ : Calls Try.prog 19 #[P (blk k)] (wr.drewN d) fun e w' => e = .returned (.int .i64 ((hs k % j : Nat) : Int)) ∧ w' = wr.drewN d))
              have HPn := hid (pos_next hQr)
              have hns := neq_same (blk k)
              have hk0 : (0 : Int) ≤ (k : Int) := by omega
              have hk1 : (k : Int) < (m : Int) := by omega
              have hlf := Fl_len hs m j (hs k % j)
              have hlt2 := hfa.2
              clear hfa hva hQr hB hB3
              generalize hs k % j = q at *
              generalize (Fl hs k j q).length = ps at *
              generalize (Fl hs m j q).length = ln at *
              have hq0 : (0 : Int) ≤ (q : Int) := by omega
              have hq1 : (q : Int) < (j : Int) := by omega
              have hp0 : (0 : Int) ≤ (ps : Int) := by omega
              have hp1 : (ps : Int) < (ln : Int) := by omega
              have hp2 : (ps : Int) ≤ 16384 := by omega
              have hpd : decide ((ln : Int) ≤ (ps : Int)) = false := by simp; omega
              rw [show ((ps + 1 : Nat) : Int) = (ps : Int) + 1 by omega] at HPn
              go_wp2
              go_quiet (first | (go_at_call 19; refine Calls.quiet_of_same (HPa.out _)))
              have dcQ : (wr.drewN nq).cell? ⟨w4.heap.size, q, none⟩ = some (.int .i64 (ps : Nat)) := hcQ
              have dzQ : (wr.drewN nq).frozen? ⟨w4.heap.size, q, none⟩ = false := hzQ
              go_wp2
              refine ⟨⟨k + 1, by omega, by simp, HPn.out, (HB.out.trans ((drewN_below wr nq).mono HB.out.size)).trans (((Kp.refl (fun b => b = w4.heap.size) (wr.drewN nq)).setCell (b := w4.heap.size) (.inl rfl) _ _).below HB.out.size fun b e => Nat.le_of_eq e.symm)⟩, ?_⟩
              simp [intOf]; omega
            · have hkeq : k = m := by omega
              clear hQr hB
              generalize wr = w5 at *
              go_wp2
              go_loopw [19] (fun ix wr => ∃ i : Nat, i ≤ j ∧ ix = .int .i64 (i : Nat) ∧ Below w5.heap.size w5 wr) (fun ix _ => j - (intOf ix).toNat)
              case atStart => exact ⟨0, Nat.zero_le _, rfl, Below.refl _ _⟩
              case round =>
                obtain ⟨i4, hi4, rfl, hB4⟩ := hrel
                have HB4 := hid hB4
                by_cases hij : i4 < j
                · have hcQ := (HQR.out.of_block (hB4.block _ HQR.out.lt)).cell hij
                  rw [hkeq] at hcQ
                  have hcC := ((HR.out.keep0 HB.out).keep0 hB4).at hij hij
                  have hi0 : (0 : Int) ≤ (i4 : Int) := by omega
                  have hi1 : (i4 : Int) < (j : Int) := by omega
                  clear hB4
                  generalize (Fl hs m j i4).length = ln at *
                  go_wp2
                  go_quiet (fail)
                  go_wp2
                  refine ⟨⟨i4 + 1, by omega, by simp, HB4.out.trans ((drewN_below wr nq).mono HB4.out.size)⟩, ?_⟩
                  simp [intOf]; omega
                · clear hB4
                  generalize wr = w6 at *
                  have HB6 : Hid (Below w3.heap.size w3 w6) := HR.out.below.trans ((HB.out.trans (HB4.out.mono HB.out.size)).mono HR.out.below.size)
                  go_wp2
                  have hL0 : (w6.alloc (.cells (madeCells #[.int .i64 0] n) 3)).rowIs w6.heap.size 3 n (fun i => if i < 0 then .int .i64 (-1) else .int .i64 0) := (World.rowIs_made w6 (.int .i64 0) n 3).congr fun i _ => by simp
                  have HL0 := hid hL0
                  clear hL0
                  go_loopw [21] (fun ix wr => ∃ i : Nat, i ≤ n ∧ ix = .int .i64 (i : Nat) ∧ wr.rowIs w6.heap.size 3 n (fun v => if v < i then .int .i64 (-1) else .int .i64 0) ∧ Below w6.heap.size w6 wr) (fun ix _ => n - (intOf ix).toNat)
                  case atStart => exact ⟨0, Nat.zero_le _, rfl, HL0.out, (Below.refl _ _).alloc (Nat.le_refl _) _⟩
                  case round =>
                    obtain ⟨i5, hi5, rfl, hLr, hB5⟩ := hrel
                    have HLR := hid hLr
                    have HB5 := hid hB5
                    by_cases hin5 : i5 < n
                    · have hcL : wr.cell? ⟨w6.heap.size, i5, none⟩ = some (.int .i64 0) := by have := hLr.cell hin5; simpa using this
                      have hzL := hLr.frozen i5
                      have hi0 : (0 : Int) ≤ (i5 : Int) := by omega
                      have hi1 : (i5 : Int) < (n : Int) := by omega
                      clear hLr hB5
                      go_wp2
                      refine ⟨⟨i5 + 1, by omega, by simp, fill_next HLR.out, below_set HB5.out (Nat.le_refl _)⟩, ?_⟩
                      simp [intOf]; omega
                    · have hi5n : i5 = n := by omega
                      clear hLr hB5
                      go_wp2
                      generalize wr = w7 at *
                      have HO0 : Hid (w7.rowIs w6.heap.size 3 n (fun v => .int .i64 (enc (ohP hs n pk 0 v)))) := HLR.out.congr fun v hv => by rw [hi5n, if_pos hv]; rfl
                      have HBW6 : Hid (Below w.heap.size w w6) := HBB.out.trans ((HOT.out.2.trans (HB6.out.mono HOT.out.2.size)).mono HBB.out.size)
                      go_loopw [22] (fun ix wr => ∃ i : Nat, i ≤ c ∧ ix = .int .i64 (i : Nat) ∧ wr.rowIs w6.heap.size 3 n (fun v => .int .i64 (enc (ohP hs n pk i v))) ∧ Below w6.heap.size w6 wr) (fun ix _ => c - (intOf ix).toNat)
                      case atStart => exact ⟨0, Nat.zero_le _, rfl, HO0.out, HB5.out⟩
                      case round =>
                        obtain ⟨i6, hi6, rfl, hOr, hB6⟩ := hrel
                        have HOR := hid hOr
                        have HBR := hid hB6
                        by_cases hic6 : i6 < c
                        · have hBW := HBW6.out.trans (hB6.mono HBW6.out.size)
                          obtain ⟨pb, po, rfl, hcp⟩ := (HPK.out.below hBW) i6 hic6
                          have hpi := HPM.out i6 hic6
                          have hch := hs_at (HA.out.below (HOT.out.2.trans ((HB6.out.trans (hB6.mono HB6.out.size)).mono HOT.out.2.size))) hpi
                          have hmk := mask2 HN.out (HH.out _ hpi) (by omega)
                          have hql : hs (pk i6) % n < n := Nat.mod_lt _ hn0
                          have hcL := hOr.cell hql
                          have hzL := hOr.frozen (hs (pk i6) % n)
                          have HNx : Hid _ := hid (oh_next (q := hs (pk i6) % n) (p := pk i6) hOr)
                          have hi0 : (0 : Int) ≤ (i6 : Int) := by omega
                          have hi1 : (i6 : Int) < (c : Int) := by omega
                          have hp0 : (0 : Int) ≤ (pk i6 : Int) := by omega
                          have hp1 : (pk i6 : Int) < (m : Int) := by omega
                          clear hOr hB6 hBW
                          generalize hqe : hs (pk i6) % n = q at hmk hql hcL hzL HNx
                          have HQE := hid hqe
                          clear hqe
                          have hq0 : (0 : Int) ≤ (q : Int) := by omega
                          have hq1 : (q : Int) < (n : Int) := by omega
                          go_wp2
                          refine ⟨⟨i6 + 1, by omega, by simp, by unfold ohP; rw [HQE.out]; exact HNx.out, below_set HBR.out (Nat.le_refl _)⟩, ?_⟩
                          simp [intOf]; omega
                        · have hi6c : i6 = c := by omega
                          clear hOr hB6
                          generalize wr = w8 at *
                          go_wp2
                          have hW0 : (w8.alloc (.cells (madeCells #[.int .i64 0] j) 3)).rowIs w8.heap.size 3 j (fun i => if i < 0 then .int .i64 (-1) else .int .i64 0) := (World.rowIs_made w8 (.int .i64 0) j 3).congr fun i _ => by simp
                          have HW0 := hid hW0
                          clear hW0
                          go_loopw [25] (fun ix wr => ∃ i : Nat, i ≤ j ∧ ix = .int .i64 (i : Nat) ∧ wr.rowIs w8.heap.size 3 j (fun v => if v < i then .int .i64 (-1) else .int .i64 0) ∧ Below w8.heap.size w8 wr) (fun ix _ => j - (intOf ix).toNat)
                          case atStart => exact ⟨0, Nat.zero_le _, rfl, HW0.out, (Below.refl _ _).alloc (Nat.le_refl _) _⟩
                          case round =>
                            obtain ⟨i7, hi7, rfl, hLr, hB7⟩ := hrel
                            have HLR7 := hid hLr
                            have HB7 := hid hB7
                            by_cases hin7 : i7 < j
                            · have hcL : wr.cell? ⟨w8.heap.size, i7, none⟩ = some (.int .i64 0) := by have := hLr.cell hin7; simpa using this
                              have hzL := hLr.frozen i7
                              have hi0 : (0 : Int) ≤ (i7 : Int) := by omega
                              have hi1 : (i7 : Int) < (j : Int) := by omega
                              clear hLr hB7
                              go_wp2
                              refine ⟨⟨i7 + 1, by omega, by simp, fill_next HLR7.out, below_set HB7.out (Nat.le_refl _)⟩, ?_⟩
                              simp [intOf]; omega
                            · have hi7n : i7 = j := by omega
                              clear hLr hB7
                              generalize wr = w9 at *
                              have HF0 : Hid (w9.rowIs w8.heap.size 3 j (fun v => .int .i64 (enc (hotF hs j (ohP hs n pk i) 0 v)))) := HLR7.out.congr fun v hv => by rw [hi7n, if_pos hv]; rfl
                              have HOL : Hid (w8.rowIs w6.heap.size 3 n (fun v => .int .i64 (enc (ohP hs n pk i v)))) := by rw [hic, ← hi6c]; exact HOR.out
                              have HB38 : Hid (Below w3.heap.size w3 w8) := HB6.out.trans (HBR.out.mono HB6.out.size)
                              have hlt68 : w6.heap.size < w8.heap.size := HOR.out.lt
                              have hltW : w.heap.size < w8.heap.size := Nat.lt_of_le_of_lt HBW6.out.size hlt68
                              go_wp2
                              go_loopw [26] (fun ix wr => ∃ s : Nat, s ≤ n ∧ ix = .int .i64 (s : Nat) ∧ wr.rowIs w8.heap.size 3 j (fun v => .int .i64 (enc (hotF hs j (ohP hs n pk i) s v))) ∧ Below w8.heap.size w8 wr) (fun ix _ => n - (intOf ix).toNat)
                              case atStart => exact ⟨0, Nat.zero_le _, rfl, HF0.out, HB7.out⟩
                              case round =>
                                obtain ⟨s, hs8, rfl, hWr, hB8⟩ := hrel
                                have HWR := hid hWr
                                have HB8 := hid hB8
                                by_cases hsn : s < n
                                · have hcL := (HOL.out.of_block (hB8.block _ HOL.out.lt)).cell hsn
                                  have hi0 : (0 : Int) ≤ (s : Int) := by omega
                                  have hi1 : (s : Int) < (n : Int) := by omega
                                  cases ho : ohP hs n pk i s with
                                  | none =>
                                    rw [ho] at hcL
                                    have hcL' : wr.cell? ⟨w6.heap.size, s, none⟩ = some (.int .i64 (-1)) := hcL
                                    have HO8 := hid ho
                                    clear hcL hWr hB8 ho
                                    go_wp2
                                    refine ⟨⟨s + 1, by omega, by simp, by rw [hotF_none HO8.out]; exact HWR.out, HB8.out⟩, ?_⟩
                                    simp [intOf]; omega
                                  | some p =>
                                    rw [ho] at hcL
                                    have hcL' : wr.cell? ⟨w6.heap.size, s, none⟩ = some (.int .i64 (p : Nat)) := hcL
                                    have hpm := (ohP_ok HPM.out i hi s p ho).1
                                    have hch := hs_at (HA.out.below (HOT.out.2.trans ((HB38.out.trans (hB8.mono HB38.out.size)).mono HOT.out.2.size))) hpm
                                    have hmk := mask2 (L := L + 1) (n := j) (by rw [HMM.out, HN.out, Nat.pow_succ]; omega) (HH.out _ hpm) (by omega)
                                    have hql : hs p % j < j := Nat.mod_lt _ hM0
                                    have hcW := hWr.cell hql
                                    have hzW := hWr.frozen (hs p % j)
                                    have HNx : Hid _ := hid (oh_next (q := hs p % j) (p := p) hWr)
                                    have HO8 := hid ho
                                    have hp0 : (0 : Int) ≤ (p : Int) := by omega
                                    have hp1 : (p : Int) < (m : Int) := by omega
                                    clear hcL hWr hB8 ho
                                    generalize hqe : hs p % j = q at hmk hql hcW hzW HNx
                                    have HQE := hid hqe
                                    clear hqe
                                    have hq0 : (0 : Int) ≤ (q : Int) := by omega
                                    have hq1 : (q : Int) < (j : Int) := by omega
                                    have s1 := cell_set_other (k := w8.heap.size) (o := q) (v := .int .i64 (p : Nat)) hcL' (by omega)
                                    have s2 := cell_set_other (k := w8.heap.size) (o := q) (v := .int .i64 (p : Nat)) hch (by omega)
                                    go_wp2
                                    go_region
                                    go_wp2
                                    refine ⟨⟨s + 1, by omega, by simp, by rw [hotF_some HO8.out, HQE.out]; exact HNx.out, (below_set HB8.out (Nat.le_refl _)).drew⟩, ?_⟩
                                    simp [intOf]; omega
                                · have hsn' : s = n := by omega
                                  clear hWr hB8
                                  generalize wr = w10 at *
                                  go_wp2
                                  go_loopw [27] (fun ix wr => ∃ v : Nat, v ≤ j ∧ ix = .int .i64 (v : Nat) ∧ Below w10.heap.size w10 wr) (fun ix _ => j - (intOf ix).toNat)
                                  case atStart => exact ⟨0, Nat.zero_le _, rfl, Below.refl _ _⟩
                                  case round =>
                                    obtain ⟨v, hv9, rfl, hB9⟩ := hrel
                                    have HB9 := hid hB9
                                    have HB3r : Hid (Below w3.heap.size w3 wr) := HB38.out.trans ((HB8.out.trans (hB9.mono HB8.out.size)).mono HB38.out.size)
                                    by_cases hvj : v < j
                                    · have hcW := (HWR.out.of_block (hB9.block _ HWR.out.lt)).cell hvj
                                      rw [hsn'] at hcW
                                      have hi0 : (0 : Int) ≤ (v : Int) := by omega
                                      have hi1 : (v : Int) < (j : Int) := by omega
                                      clear hB9 hkeq hi5n hi6c hi7n hsn' hic
                                      cases ho : hotF hs j (ohP hs n pk i) n v with
                                      | none =>
                                        rw [ho] at hcW
                                        have hcW' : wr.cell? ⟨w8.heap.size, v, none⟩ = some (.int .i64 (-1)) := hcW
                                        have HHT := hid (hot_nil (HTD.out.keep0 HB3r.out).ts hvj (by unfold hVs; rw [ho]; rfl))
                                        clear hcW ho
                                        go_wp2_with (first | (go_at_call 20; with_reducible refine HHT.out.mono ?_; rintro e w' ⟨rfl, rfl⟩))
                                        go_roundw
                                        case rel => exact ⟨v + 1, by omega, by go_num, HB9.out⟩
                                        case measure => simp [intOf]; omega
                                      | some p =>
                                        rw [ho] at hcW
                                        have hcW' : wr.cell? ⟨w8.heap.size, v, none⟩ = some (.int .i64 (p : Nat)) := hcW
                                        have hpm := hotF_ok (fun j' k' h' => (ohP_ok HPM.out i hi j' k' h').1) n v p ho
                                        have HHT := hid (hot_some (HTD.out.keep0 HB3r.out).ts hvj hpm (by unfold hVs; rw [ho]; rfl))
                                        have hcE : wr.cell? ⟨G, p, none⟩ = some (P (blk p)) := pt_at (HOT.out.1.below HB3r.out) hpm
                                        have hns := neq_same (blk p)
                                        have hp0 : (0 : Int) ≤ (p : Int) := by omega
                                        have hp1 : (p : Int) < (m : Int) := by omega
                                        clear hcW ho
                                        go_wp2_with (first | (go_at_call 20; with_reducible refine HHT.out.mono ?_; rintro e w' ⟨rfl, rfl⟩))
                                        go_roundw
                                        case rel => exact ⟨v + 1, by omega, by go_num, HB9.out⟩
                                        case measure => simp [intOf]; omega
                                    · go_wp2
                                      go_ret
                                      exact ⟨rfl, HBB.out.trans ((HOT.out.2.trans (HB3r.out.mono HOT.out.2.size)).mono HBB.out.size)⟩
end Go.Proofs.Qxb6612769a
