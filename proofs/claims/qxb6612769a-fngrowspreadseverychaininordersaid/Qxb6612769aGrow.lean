import Derived.Test.Qxb6612769aFresh
namespace Go.Proofs.Qxb6612769a
open Go.RowKit
set_option linter.unusedVariables false
set_option linter.unusedSimpArgs false
attribute [local go_sem ↓] Go.wp_at_zero Go.wp_at_succ
section
variable {w : World} {T Pb Hb n m : Nat} {blk hs pt : Nat → Nat} {nx fst : Nat → Value} {cnt : Nat → Nat} {ch : Nat → List Nat} {oh : Nat → Option Nat}

/-- Inside partition i: what is moved, what is to come. -/
def GRd (w wr : World) (T Pb Hb n m : Nat) (blk hs : Nat → Nat) (fst : Nat → Value) (cnt : Nat → Nat) (ch : Nat → List Nat) (oh : Nat → Option Nat) (i : Nat) (p : Value) : Prop :=
  ∃ xs rest Pb' Hb' pt' nx' fst' cnt', ch i = xs ++ rest ∧ GB w wr T Pb Hb n m blk hs fst cnt ch oh Pb' Hb' pt' nx' fst' cnt' (i + 1) i (flat ch i ++ xs) ∧ Ch blk nx' p rest

theorem GB.here {w wr : World} {xs : List Nat} {i : Nat} {Pb' Hb' : Nat} {pt' : Nat → Nat} {nx' fst' : Nat → Value} {cnt' : Nat → Nat} (hx : ch i = xs ++ []) (h : GB w wr T Pb Hb n m blk hs fst cnt ch oh Pb' Hb' pt' nx' fst' cnt' (i + 1) i (flat ch i ++ xs)) : GB w wr T Pb Hb n m blk hs fst cnt ch oh Pb' Hb' pt' nx' fst' cnt' (i + 1) i (flat ch (i + 1)) := by
  rw [List.append_nil] at hx
  rw [flat_succ, hx]; exact h
theorem Hots.cold (h : Hots w Hb n (hVs blk oh)) {i : Nat} (hi : i < n) (ho : oh i = none) : w.cell? ⟨Hb, i, none⟩ = some N := by
  have := h.c hi
  unfold hVs at this
  rw [ho] at this; exact this
theorem Hots.warm (h : Hots w Hb n (hVs blk oh)) {i k : Nat} (hi : i < n) (ho : oh i = some k) : w.cell? ⟨Hb, i, none⟩ = some (P (blk k)) := by
  have := h.c hi
  unfold hVs at this
  rw [ho] at this; exact this

theorem GRd.step {w wr : World} {xs rest : List Nat} {i k : Nat} {Pb' Hb' : Nat} {pt' : Nat → Nat} {nx' fst' : Nat → Value} {cnt' : Nat → Nat} {p : Value} (hpf : PF n m hs ch oh) (hin : i < n) (hn0 : 0 < n) (hn1 : n ≤ 32768) (hx : ch i = xs ++ k :: rest)
    (h : GB w wr T Pb Hb n m blk hs fst cnt ch oh Pb' Hb' pt' nx' fst' cnt' (i + 1) i (flat ch i ++ xs)) (hc : Ch blk nx' p (k :: rest)) :
    Calls Try.prog 25 #[P T, P (blk k)] (wr.setCell ⟨blk k, 9, none⟩ (.int .i64 ((hs k % (2 * n) : Nat) : Int))) fun e w' => e = .returned (.tuple #[]) ∧ GRd w w' T Pb Hb n m blk hs fst cnt ch oh i (nx' k) := by
  have hki : k ∈ ch i := by rw [hx]; simp
  obtain ⟨hkm, hkn⟩ := hpf.mem i hin k hki
  have hnd := hpf.nodup i hin
  rw [hx] at hnd
  have hnd2 := List.nodup_append.1 hnd
  have hnd3 := List.nodup_cons.1 hnd2.2.1
  have hd : k ∉ flat ch i ++ xs := fun hm => by
    rcases List.mem_append.1 hm with hm | hm
    · have := (flat_mem hpf (Nat.le_of_lt hin) hm).2; omega
    · exact hnd2.2.2 k hm k (by simp) rfl
  have hold : ∀ i', i + 1 ≤ i' → i' < n → k ∉ ch i' := fun i' h1 h2 hm => by
    have := (hpf.mem i' h2 k hm).2; omega
  have hP := h.part hkm hd
  have hql : hs k % (2 * n) < 2 * n := Nat.mod_lt _ (by omega)
  have hup : up pt' k (hs k % (2 * n)) k = hs k % (2 * n) := up_same _ _ _
  have hnew := h.new _ hql
  have hfew : (flat ch i ++ xs).length ≤ 1000000 := by
    have h1 := flat_len_le ch (show i + 1 ≤ n by omega)
    rw [flat_succ, hx] at h1
    have h2 := hpf.few
    simp only [List.length_append, List.length_cons] at h1 ⊢
    omega
  have hcn : cnt' (hs k % (2 * n)) ≤ 1000000 := by
    rw [hnew.2]
    exact Nat.le_trans (spread_le _ _ _ _) hfew
  refine (link_any hP.ts hkm (by rw [hup]; exact hql) (by rw [hup]; exact hcn) (by omega) (by rw [hup]; exact hnew.1.ptr)).mono ?_
  rintro e w' ⟨rfl, ht, hk⟩
  have hL := hP.link hkm hup hn0 hd hold ht hk
  refine ⟨rfl, xs ++ [k], rest, _, _, _, _, _, _, by rw [hx]; simp, by rw [← List.append_assoc]; exact hL, hc.2.up hnd3.1⟩

set_option maxRecDepth 100000 in
set_option maxHeartbeats 1000000 in
theorem grow_any (L : Nat) (h : TS w T Pb Hb n m blk hs pt nx fst cnt (hVs blk oh)) (hch : ∀ j, j < n → Ch blk nx (fst j) (ch j)) (hpf : PF n m hs ch oh) (hn : n = 2 ^ L) (hL : L ≤ 15) (hh : ∀ k, k < m → hs k < 18446744073709551616) :
    Calls Try.prog 27 #[P T] w fun e w' => e = .returned (.tuple #[]) ∧ ∃ Pb' Hb' pt' nx' fst' cnt', TS w' T Pb' Hb' (2 * n) m blk hs pt' nx' fst' cnt' (hVs blk (hotF hs (2 * n) oh n)) ∧ (∀ j, j < 2 * n → Ch blk nx' (fst' j) (spread hs (2 * n) (flat ch n) j) ∧ cnt' j = (spread hs (2 * n) (flat ch n) j).length) ∧ (∀ k ∈ flat ch n, pt' k = hs k % (2 * n)) ∧ Kp (fun b => b = T ∨ ∃ k, k < m ∧ b = blk k) w w' := by
  have hn0 : 0 < n := by rw [hn]; exact Nat.pow_pos (by decide)
  have hn1 : n ≤ 32768 := by rw [hn]; exact Nat.pow_le_pow_right (by decide) hL
  have HN := hid hn
  have H := hid h
  have HC := hid hch
  have HP := hid hpf
  have HH := hid hh
  have hT1 := h.tab.c1
  have hT7 := h.tab.c7
  clear h hch hpf hh hn
  go_enter Try.func27, Try.ntmps27
  go_wp2
  go_quiet (fail)
  have H1 := hid (H.out.keep0 (drewN_below w nq))
  have g1 := H1.out.tab.c1
  have g7 := H1.out.tab.c7
  have f1 := H1.out.tab.fz 1
  have f7 := H1.out.tab.fz 7
  have hlt := H1.out.tab.lt
  have hbd := hid (drewN_below w nq)
  clear hT1 hT7
  generalize w.drewN nq = wq at *
  have mk1 := make77 (2 * n) (by omega)
  have mk2 := make78 (2 * n) (by omega)
  have e2 : ((2 * n : Nat) : Int) = 2 * (n : Int) := by omega
  rw [e2] at mk1 mk2
  have HS := hid (grow_start (c := 2 * n) H1.out.tab)
  have hne : wq.heap.size ≠ T := by omega
  go_wp2
  have GBS := hid (GB.start (c1 := #[]) H1.out HC.out HS.out.1 HS.out.2.1 HS.out.2.2.1 HS.out.2.2.2)
  clear HS g1 g7 f1 f7 mk1 mk2
  go_loopw [34] (fun ix wr => ∃ i : Nat, i ≤ n ∧ ix = .int .i64 (i : Nat) ∧ ∃ Pb' Hb' pt' nx' fst' cnt', GB wq wr T Pb Hb n m blk hs fst cnt ch oh Pb' Hb' pt' nx' fst' cnt' i i (flat ch i)) (fun ix _ => n - (intOf ix).toNat)
  case atStart => exact ⟨0, Nat.zero_le _, rfl, _, _, _, _, _, _, GBS.out⟩
  case round =>
    obtain ⟨i, hi, rfl, Pb', Hb', pt', nx', fst', cnt', hG⟩ := hrel
    have HG := hid hG
    by_cases hin : i < n
    · have hc2 := hG.oldp.c2 hin
      have hi0 : (0 : Int) ≤ (i : Int) := by omega
      have hi1 : (i : Int) < (n : Int) := by omega
      have hcur := hG.old i (Nat.le_refl _) hin
      have HI : Hid (GRd wq wr T Pb Hb n m blk hs fst cnt ch oh i (fst i)) := ⟨[], ch i, Pb', Hb', pt', nx', fst', cnt', rfl, by rw [List.append_nil]; exact hG.later (Nat.le_succ i), hcur⟩
      obtain ⟨pv, hpv⟩ := hcur.ptr
      clear hG hcur
      go_wp2
      go_loopw [5] (fun p wr2 => GRd wq wr2 T Pb Hb n m blk hs fst cnt ch oh i p) (fun p _ => posV blk (ch i) p)
      case atStart => rw [← hpv]; exact HI.out
      case round =>
        obtain ⟨xs, rest, Pb2, Hb2, pt2, nx2, fst2, cnt2, hxr, hG2, hC2⟩ := hrel
        have HG2 := hid hG2
        have HC2 := hid hC2
        have HXR := hid hxr
        have HMM := hid (fun k hk => (HP.out.mem i hin k hk).1 : ∀ k ∈ ch i, k < m)
        have hpos := posV_ch hC2 hxr HMM.out (HP.out.nodup i hin) hG2.ts.inj
        cases rest with
        | nil =>
          have h5 : u5 = N := hC2
          subst h5
          have HF := hid (GB.here hxr hG2)
          cases ho : oh i with
          | none =>
            have hch := hG2.oldh.cold hin ho
            clear hG2 hC2 hxr
            go_wp2_with (first | (go_at_call 28; refine (load_nil hch).mono ?_; rintro e w' ⟨rfl, rfl⟩))
            refine ⟨⟨i + 1, by omega, by simp, _, _, _, _, _, _, HF.out.cold ho⟩, ?_⟩
            simp [intOf]; omega
          | some k =>
            have hch := hG2.oldh.warm hin ho
            have hk := HP.out.hot i hin k ho
            have hkm := HMM.out k hk
            have hE := hid (hG2.ts.ents k hkm)
            have hpk := hid (HF.out.pts k (by rw [flat_succ]; exact List.mem_append_right _ hk))
            have hT7 := hG2.ts.tab.c7
            have h9 := hE.out.c9
            rw [hpk.out] at h9
            have hq : hs k % (2 * n) < 2 * n := Nat.mod_lt _ (by omega)
            have hQ := hid (hG2.ts.hots.c hq)
            have hZ := hid (hG2.ts.hots.fz (hs k % (2 * n)))
            have HW := hid (HF.out.hot hkm hpk.out hn0 ho)
            have s7 := HW.out.ts.tab.c7
            have s9 := (HW.out.ts.ents k hkm).c9
            rw [hpk.out] at s9
            clear hG2 hC2 hxr
            generalize hs k % (2 * n) = q at *
            have hq0 : (0 : Int) ≤ (q : Int) := by omega
            have hq1 : (q : Int) < 2 * (n : Int) := by omega
            go_wp2_with (first | (go_at_call 28; refine (load_some hch hE.out).mono ?_; rintro e w' ⟨rfl, rfl⟩))
            go_region_held3 (fun w' => w'.cell? ⟨T, 7, none⟩ = some (.slice (some ⟨Hb2, 0, none⟩) (2 * n) (2 * n)) ∧ w'.cell? ⟨blk k, 9, none⟩ = some (.int .i64 (q : Nat)))
              (first | (exact ⟨hT7, h9⟩) | (exact ⟨s7, s9⟩)) (first | (go_at_call 26; refine (store_some (by exact hQ.out) (by exact hZ.out) (by exact hE.out)).mono ?_; rintro e w' ⟨rfl, rfl⟩))
            go_wp2
            refine ⟨⟨i + 1, by omega, by simp, _, _, _, _, _, _, HW.out.below (Below.refl _ _).drew⟩, ?_⟩
            simp [intOf]; omega
        | cons k rest =>
          have h5 : u5 = P (blk k) := hC2.1
          subst h5
          have hkm := HMM.out k (by rw [hxr]; simp)
          have hE := hid (hG2.ts.ents k hkm)
          obtain ⟨pn, hpn⟩ := hC2.2.ptr
          have c8 := hE.out.c8
          have c9 := hE.out.c9
          have c10 := hE.out.c10
          have f9 := hE.out.fz 9
          have hn2 : 2 * n = 2 ^ (L + 1) := by rw [HN.out, Nat.pow_succ]; omega
          have HPO := hid (partOf_any (hs k) (L + 1) hG2.ts.tab hn2 (by omega) (HH.out k hkm))
          have HLK := hid (GRd.step HP.out hin hn0 hn1 hxr hG2 hC2)
          rw [hpn] at c10 HLK
          have hnew : ∀ w', GRd wq w' T Pb Hb n m blk hs fst cnt ch oh i (.pointer pn) → posV blk (ch i) (.pointer pn) = rest.length := fun w' _ => by
            rw [← hpn]
            exact posV_ch hC2.2 (xs := xs ++ [k]) (by rw [hxr]; simp) HMM.out (HP.out.nodup i hin) hG2.ts.inj
          have HNW := hid hnew
          clear hG2 hC2 hxr hnew hn2
          generalize hs k % (2 * n) = q at *
          go_wp2_with (first | (go_at_call 24; with_reducible refine HPO.out.mono ?_; rintro e w' ⟨rfl, rfl⟩) | (go_at_call 25; with_reducible refine HLK.out.mono ?_; rintro e w3 ⟨rfl, hg3⟩; have HG3 := hid hg3; clear hg3))
          go_roundw
          case rel => exact HG3.out
          case measure =>
            have e1 := HNW.out w3 HG3.out
            simp only [List.length_cons] at hpos
            show posV blk (ch i) (.pointer pn) < posV blk (ch i) (P (blk k))
            rw [e1, hpos]; omega
    · have hin' : i = n := by omega
      subst hin'
      go_wp2
      go_end0
      exact ⟨rfl, _, _, _, _, _, _, HG.out.ts, HG.out.new, HG.out.pts, (Kp.of_below hbd.out).trans HG.out.kp⟩
end
end Go.Proofs.Qxb6612769a
