import Derived.Test.Qxb6612769aLaw5
namespace Go.Proofs.Qxb6612769a
open Go.RowKit
set_option linter.unusedVariables false
set_option linter.unusedSimpArgs false
attribute [local go_sem ↓] Go.wp_at_zero Go.wp_at_succ

set_option maxRecDepth 100000 in
set_option maxHeartbeats 4000000 in
theorem law5_nil (w : World) (L t m cap : Nat) (hs : Nat → Nat) (hL : L ≤ 12) (ht : 1 ≤ t) (ht4 : t ≤ 4) (hLt : L + t ≤ 12) (hm : m ≤ 16384) (ha : HsAt w none m hs) (hh : ∀ k, k < m → hs k < 18446744073709551616) :
    Calls Try.prog 5 #[.int .i64 (L : Nat), .slice none m cap, .int .i64 (t : Nat)] w fun e w' => e = .returned (.bool true) ∧ Below w.heap.size w w' := by
  have HA := hid ha
  have HH := hid hh
  have HBB := hid (Below.refl w.heap.size w)
  clear ha hh
  go_enter Try.func5, Try.ntmps5
  go_wp2_with (first | (go_at_call 21; with_reducible refine (bytes21 _ _ _ _ _ _ (by omega)).mono ?_; rintro e w' ⟨rfl, rfl⟩))
  obtain ⟨n, hn⟩ : ∃ n, n = 2 ^ L := ⟨_, rfl⟩
  obtain ⟨N2, hN2⟩ : ∃ N2, N2 = 2 ^ (L + t) := ⟨_, rfl⟩
  have hN0 : 0 < N2 := by rw [hN2]; exact Nat.pow_pos (by decide)
  have hN1 : N2 ≤ 4096 := by rw [hN2]; exact Nat.pow_le_pow_right (by decide) hLt
  have hw : wrap64 (2 ^ (L + t)) = (N2 : Int) := by
    have e : ((2 : Int) ^ (L + t)) = ((2 ^ (L + t) : Nat) : Int) := by simp
    rw [e, ← hN2]; unfold wrap64; omega
  have HN := hid hn
  have HN2 := hid hN2
  clear hn hN2
  go_wp2_with (first | (go_at_call 13; with_reducible refine (newTable_any L n m hs _ _ _ HN.out hL hm HA.out HH.out).mono ?_; rintro e w1 ⟨T, Pb, Hb, G, blk, pt, nx, fst, cnt, rfl, hw1⟩; have W1 := hid hw1; clear hw1) | (go_at_call 13; with_reducible refine (newTable_sum L t N2 m hs _ _ _ HN2.out hLt hm (HA.out.below W1.out.below) HH.out).mono ?_; rintro e w2 ⟨T2, Pb2, Hb2, G2, blk2, pt2, nx2, fst2, cnt2, rfl, hw2⟩; have W2 := hid hw2; clear hw2))
  have TD0 : Hid (TD w2 T (2 ^ (L + 0)) m (0 % 2 == 0) hs blk (fun _ => none) Pb Hb pt nx fst cnt) := by
    have := W1.out.td.keep0 W2.out.below
    rw [HN.out] at this; exact this
  go_loopw [12] (fun ix wr => ∃ s : Nat, s ≤ t ∧ ix = .int .i64 (s : Nat) ∧ ∃ Pb Hb pt nx fst cnt, TD wr T (2 ^ (L + s)) m (s % 2 == 0) hs blk (fun _ => none) Pb Hb pt nx fst cnt ∧ Kp (fun b => b = T ∨ ∃ k, k < m ∧ b = blk k) w2 wr) (fun ix _ => t - (intOf ix).toNat)
  case atStart => exact ⟨0, Nat.zero_le _, rfl, _, _, _, _, _, _, TD0.out, Kp.refl _ _⟩
  case round =>
    obtain ⟨s, hst, rfl, Pb3, Hb3, pt3, nx3, fst3, cnt3, hD, hK⟩ := hrel
    have HK := hid hK
    by_cases hlt : s < t
    · have HZ3 := hid (hD.zzgrow rfl (by omega) (by omega) HH.out (fun _ _ _ h => by cases h))
      clear hD hK
      go_wp2_with (first | (go_at_call 15; with_reducible refine HZ3.out.mono ?_; rintro e w3 ⟨rfl, Pb4, Hb4, pt4, nx4, fst4, cnt4, hD4, hK4⟩; have HD4 := hid hD4; have HK4 := hid hK4; clear hD4 hK4))
      refine ⟨⟨s + 1, by omega, by simp, _, _, _, _, _, _, td_next HD4.out, HK.out.trans HK4.out⟩, ?_⟩
      simp [intOf]; omega
    · have hs2 : s = t := by omega
      subst hs2
      rw [← HN2.out] at hD
      have HTA := hid hD
      have HTT := hid (two_tables W1.out W2.out hK)
      have hta := hD.ts.tab
      have htb := HTT.out.1.ts.tab
      clear hD hK
      go_wp2_with (first | (go_at_call 16; with_reducible refine (parts_any hta).mono ?_; rintro e w' ⟨rfl, rfl⟩) | (go_at_call 16; with_reducible refine (parts_any htb).mono ?_; rintro e w' ⟨rfl, rfl⟩))
      generalize wr = w3 at *
      go_loopw [14] (fun ix wr => ∃ j : Nat, j ≤ N2 ∧ ix = .int .i64 (j : Nat) ∧ Below w3.heap.size w3 wr) (fun ix _ => N2 - (intOf ix).toNat)
      case atStart => exact ⟨0, Nat.zero_le _, rfl, Below.refl _ _⟩
      case round =>
        obtain ⟨j, hj, rfl, hB⟩ := hrel
        have HB := hid hB
        by_cases hjn : j < N2
        · have HCA := hid ((HTA.out.keep0 hB).chain hjn (by omega))
          have HTBj := hid (HTT.out.1.keep0 hB)
          clear hB
          go_wp2_with (first | (go_at_call 17; with_reducible refine HCA.out.mono ?_; rintro e w4 ⟨aa, ca, rfl, hpa, hb4⟩; have HPA := hid hpa; have HB4 := hid hb4; have HCB := hid ((HTBj.out.keep0 hb4).chain hjn (by omega)); clear hpa hb4) | (go_at_call 17; with_reducible refine HCB.out.mono ?_; rintro e w5 ⟨ab, cb, rfl, hpb, hb5⟩; have HPB := hid hpb; have HB5 := hid hb5; have HTA5 := hid (((HTA.out.keep0 HB.out).keep0 HB4.out).keep0 hb5); have HTB5 := hid ((HTBj.out.keep0 HB4.out).keep0 hb5); have HNA := hid (HTA5.out.count hjn); have HNB := hid (HTB5.out.count hjn); clear hpb hb5) | (go_at_call 18; with_reducible refine HNA.out.mono ?_; rintro e w' ⟨rfl, rfl⟩) | (go_at_call 18; with_reducible refine HNB.out.mono ?_; rintro e w' ⟨rfl, rfl⟩))
          have HPA5 := hid (HPA.out.below HB5.out)
          have hB5 : Below w3.heap.size w3 w5 := HB.out.trans ((HB4.out.trans (HB5.out.mono HB4.out.size)).mono HB.out.size)
          have HBX := hid hB5
          clear hB5
          go_loopw [17] (fun ix wr => ∃ p : Nat, p ≤ (Fl hs m N2 j).length ∧ ix = .int .i64 (p : Nat) ∧ Below w5.heap.size w5 wr) (fun ix _ => (Fl hs m N2 j).length - (intOf ix).toNat)
          case atStart => exact ⟨0, Nat.zero_le _, rfl, Below.refl _ _⟩
          case round =>
            obtain ⟨p, hp, rfl, hB6⟩ := hrel
            have HB6 := hid hB6
            by_cases hpl : p < (Fl hs m N2 j).length
            · have hp0 : (0 : Int) ≤ (p : Int) := by omega
              have hp1 : (p : Int) < ((Fl hs m N2 j).length : Int) := by omega
              have hp2 : (p : Int) ≤ 16384 := by have := Fl_len hs m N2 j; omega
              have hp3 : ((Fl hs m N2 j).length : Int) ≤ 16384 := by have := Fl_len hs m N2 j; omega
              cases hpar : (s % 2 == 0) with
              | true =>
                obtain ⟨k, hkm, hk⟩ := dir_same hpl
                rw [hpar] at HPA5
                obtain ⟨ga, rfl, hca⟩ := (HPA5.out.below hB6) p k hk
                obtain ⟨gb, rfl, hcb⟩ := (HPB.out.below hB6) p k hk
                have hkm2 := (Fl_mem.1 hkm).1
                have EA := hid ((HTA5.out.keep0 hB6).ts.ents k hkm2)
                have EB := hid ((HTB5.out.keep0 hB6).ts.ents k hkm2)
                have hmod : Int.tmod (s : Int) 2 = 0 := by simp at hpar; rw [Int.tmod_eq_emod_of_nonneg (by omega)]; omega
                clear hk hkm hB6
                go_wp2
                go_region_held3 (fun w' => w'.cell? ⟨ga, p, none⟩ = some (P (blk k)) ∧ w'.cell? ⟨gb, p, none⟩ = some (P (blk2 k)))
                  (first | (exact ⟨hca, hcb⟩)) (first | (go_at_call 22; refine (hash_any (by exact EA.out)).mono ?_; rintro e w' ⟨rfl, rfl⟩) | (go_at_call 22; refine (hash_any (by exact EB.out)).mono ?_; rintro e w' ⟨rfl, rfl⟩))
                go_wp2
                refine ⟨⟨p + 1, by omega, by simp, HB6.out.drew⟩, ?_⟩
                simp [intOf]; omega
              | false =>
                obtain ⟨k, hkm, hk, hk2⟩ := dir_turn hpl
                rw [hpar] at HPA5
                obtain ⟨ga, rfl, hca⟩ := (HPA5.out.below hB6) p k hk
                obtain ⟨gb, rfl, hcb⟩ := (HPB.out.below hB6) _ k hk2
                obtain ⟨q, hqd⟩ : ∃ q, q = (Fl hs m N2 j).length - 1 - p := ⟨_, rfl⟩
                rw [← hqd] at hcb
                have hqi : ((Fl hs m N2 j).length : Int) - 1 - (p : Int) = (q : Int) := by omega
                have hq0 : (0 : Int) ≤ (q : Int) := by omega
                have hq1 : (q : Int) < ((Fl hs m N2 j).length : Int) := by omega
                have hkm2 := (Fl_mem.1 hkm).1
                have EA := hid ((HTA5.out.keep0 hB6).ts.ents k hkm2)
                have EB := hid ((HTB5.out.keep0 hB6).ts.ents k hkm2)
                have hmod : Int.tmod (s : Int) 2 = 1 := by simp at hpar; rw [Int.tmod_eq_emod_of_nonneg (by omega)]; omega
                clear hk hk2 hkm hB6 hqd
                go_wp2
                go_region_held3 (fun w' => w'.cell? ⟨ga, p, none⟩ = some (P (blk k)) ∧ w'.cell? ⟨gb, q, none⟩ = some (P (blk2 k)))
                  (first | (exact ⟨hca, hcb⟩)) (first | (go_at_call 22; refine (hash_any (by exact EA.out)).mono ?_; rintro e w' ⟨rfl, rfl⟩) | (go_at_call 22; refine (hash_any (by exact EB.out)).mono ?_; rintro e w' ⟨rfl, rfl⟩))
                go_wp2
                refine ⟨⟨p + 1, by omega, by simp, HB6.out.drew⟩, ?_⟩
                simp [intOf]; omega
            · go_wp2
              refine ⟨⟨j + 1, by omega, by simp, HBX.out.trans (HB6.out.mono HBX.out.size)⟩, ?_⟩
              simp [intOf]; omega
        · clear hB
          generalize wr = w6 at *
          go_wp2
          go_loopw [20] (fun ix wr => ∃ k : Nat, k ≤ m ∧ ix = .int .i64 (k : Nat) ∧ Below w3.heap.size w3 wr) (fun ix _ => m - (intOf ix).toNat)
          case atStart => exact ⟨0, Nat.zero_le _, rfl, HB.out⟩
          case round =>
            obtain ⟨k, hk, rfl, hB7⟩ := hrel
            have HB7 := hid hB7
            by_cases hkm : k < m
            · have hk0 : (0 : Int) ≤ (k : Int) := by omega
              have hk1 : (k : Int) < (m : Int) := by omega
              have hra : wr.cell? ⟨G, k, none⟩ = some (P (blk k)) := pt_at (HTT.out.2.1.below hB7) hkm
              have hrb : wr.cell? ⟨G2, k, none⟩ = some (P (blk2 k)) := pt_at (HTT.out.2.2.1.below hB7) hkm
              have HPa := hid ((HTA.out.keep0 hB7).part hkm)
              have HPb := hid ((HTT.out.1.keep0 hB7).part hkm)
              exact absurd (HA.out k hkm) (by rintro ⟨_, h, _⟩; cases h)
            · go_wp2
              go_ret
              exact ⟨rfl, HBB.out.trans ((HTT.out.2.2.2.trans (HB7.out.mono HTT.out.2.2.2.size)).mono HBB.out.size)⟩

/-! ### Where the law turns its input away -/
set_option maxRecDepth 100000 in
theorem law5_big (w : World) (v0 v2 : Value) (a : Option Addr) (m cap : Nat) (hb : 1048576 < m) (hm : m ≤ maxLen) : Calls Try.prog 5 #[v0, .slice a m cap, v2] w fun e w' => e = .returned (.bool true) ∧ Below w.heap.size w w' := by
  go_enter Try.func5, Try.ntmps5
  go_wp2_with (first | (go_at_call 21; refine (bytes21_no _ _ _ _ _ _ hb hm).mono ?_; rintro e w' ⟨rfl, rfl⟩))
  go_ret
  exact ⟨rfl, Below.refl _ _⟩
set_option maxRecDepth 100000 in
theorem law5_long (w : World) (v0 v2 : Value) (a : Option Addr) (m cap : Nat) (hb : ¬ 1048576 < m) (hm : 16384 < m) : Calls Try.prog 5 #[v0, .slice a m cap, v2] w fun e w' => e = .returned (.bool true) ∧ Below w.heap.size w w' := by
  go_enter Try.func5, Try.ntmps5
  go_wp2_with (first | (go_at_call 21; refine (bytes21 _ _ _ _ _ _ (by omega)).mono ?_; rintro e w' ⟨rfl, rfl⟩))
  go_ret
  exact ⟨rfl, Below.refl _ _⟩
set_option maxRecDepth 100000 in
theorem law5_l0 (w : World) (i : Int) (v2 : Value) (a : Option Addr) (m cap : Nat) (hm : m ≤ 16384) (hi : i < 0) : Calls Try.prog 5 #[.int .i64 i, .slice a m cap, v2] w fun e w' => e = .returned (.bool true) ∧ Below w.heap.size w w' := by
  go_enter Try.func5, Try.ntmps5
  go_wp2_with (first | (go_at_call 21; refine (bytes21 _ _ _ _ _ _ (by omega)).mono ?_; rintro e w' ⟨rfl, rfl⟩))
  go_ret
  exact ⟨rfl, Below.refl _ _⟩
set_option maxRecDepth 100000 in
theorem law5_l1 (w : World) (i : Int) (v2 : Value) (a : Option Addr) (m cap : Nat) (hm : m ≤ 16384) (hi0 : 0 ≤ i) (hi : 12 < i) : Calls Try.prog 5 #[.int .i64 i, .slice a m cap, v2] w fun e w' => e = .returned (.bool true) ∧ Below w.heap.size w w' := by
  go_enter Try.func5, Try.ntmps5
  go_wp2_with (first | (go_at_call 21; refine (bytes21 _ _ _ _ _ _ (by omega)).mono ?_; rintro e w' ⟨rfl, rfl⟩))
  go_ret
  exact ⟨rfl, Below.refl _ _⟩
set_option maxRecDepth 100000 in
theorem law5_t0 (w : World) (i t : Int) (a : Option Addr) (m cap : Nat) (hm : m ≤ 16384) (hi0 : 0 ≤ i) (hi : i ≤ 12) (ht : t < 1) : Calls Try.prog 5 #[.int .i64 i, .slice a m cap, .int .i64 t] w fun e w' => e = .returned (.bool true) ∧ Below w.heap.size w w' := by
  go_enter Try.func5, Try.ntmps5
  go_wp2_with (first | (go_at_call 21; refine (bytes21 _ _ _ _ _ _ (by omega)).mono ?_; rintro e w' ⟨rfl, rfl⟩))
  go_ret
  exact ⟨rfl, Below.refl _ _⟩
set_option maxRecDepth 100000 in
theorem law5_t1 (w : World) (i t : Int) (a : Option Addr) (m cap : Nat) (hm : m ≤ 16384) (hi0 : 0 ≤ i) (hi : i ≤ 12) (ht : 1 ≤ t) (ht1 : 4 < t) : Calls Try.prog 5 #[.int .i64 i, .slice a m cap, .int .i64 t] w fun e w' => e = .returned (.bool true) ∧ Below w.heap.size w w' := by
  go_enter Try.func5, Try.ntmps5
  go_wp2_with (first | (go_at_call 21; refine (bytes21 _ _ _ _ _ _ (by omega)).mono ?_; rintro e w' ⟨rfl, rfl⟩))
  go_ret
  exact ⟨rfl, Below.refl _ _⟩
set_option maxRecDepth 100000 in
theorem law5_t2 (w : World) (i t : Int) (a : Option Addr) (m cap : Nat) (hm : m ≤ 16384) (hi0 : 0 ≤ i) (hi : i ≤ 12) (ht : 1 ≤ t) (ht1 : t ≤ 4) (hit : 12 < i + t) : Calls Try.prog 5 #[.int .i64 i, .slice a m cap, .int .i64 t] w fun e w' => e = .returned (.bool true) ∧ Below w.heap.size w w' := by
  go_enter Try.func5, Try.ntmps5
  go_wp2_with (first | (go_at_call 21; refine (bytes21 _ _ _ _ _ _ (by omega)).mono ?_; rintro e w' ⟨rfl, rfl⟩))
  go_ret
  exact ⟨rfl, Below.refl _ _⟩
end Go.Proofs.Qxb6612769a
