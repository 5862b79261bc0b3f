import Derived.Test.Qxb6612769aAid
namespace Go.Proofs.Qxb6612769a
open Go.RowKit
set_option linter.unusedVariables false
set_option linter.unusedSimpArgs false
attribute [local go_sem ↓] Go.wp_at_zero Go.wp_at_succ

def uV (hs : Nat → Nat) (m : Nat) : List Value := (List.range m).map fun k => .int .u64 (hs k : Nat)
theorem uV_len (hs : Nat → Nat) (m : Nat) : (uV hs m).length = m := by simp [uV]
theorem uV_one (hs : Nat → Nat) (m : Nat) : ∀ v ∈ uV hs m, v.oneCell' = true := by
  intro v hv
  obtain ⟨k, _, rfl⟩ := List.mem_map.1 hv
  rfl
theorem uV_at (hs : Nat → Nat) (m k : Nat) (hk : k < m) : (uV hs m)[k]? = some (.int .u64 (hs k : Nat)) := by
  unfold uV; rw [List.getElem?_map, List.getElem?_range hk]; rfl
def zU (m : Nat) : List Value := List.replicate m (.int .u64 0)
theorem splice_all (hs : Nat → Nat) (m : Nat) : splice (zU m) 0 (uV hs m) = uV hs m := by
  unfold splice zU
  rw [uV_len]; simp
theorem hs_of_row {w : World} {g m : Nat} {hs : Nat → Nat} (h : w.heap[g]? = some (.cells (splice (zU m) 0 (uV hs m)).toArray 29 (0, 0))) : HsAt w (some ⟨g, 0, none⟩) m hs := fun k hk => by
  refine ⟨g, rfl, ?_⟩
  rw [cell_of_block h, splice_all]
  simpa using uV_at hs m k hk
theorem made_zU (w : World) (m : Nat) : (w.alloc (.cells (madeCells #[.int .u64 0] m) 29)).heap[w.heap.size]? = some (.cells (zU m).toArray 29 (0, 0)) := by
  rw [alloc_new]
  have := toList_madeCells_one (.int .u64 0) m
  rw [show (zU m).toArray = madeCells #[.int .u64 0] m by unfold zU; rw [← this]]
/-- A guard: the next operation is this copy. -/
theorem at_copy {P : Program} {w : World} {ops : Array Oper} {rest : List Oper} {o : Oper} {a : Act} {Q : Exit → Act → World → Prop} {d s : Nat} (ho : o.op = .call { callee := .builtin .copy, args := #[.tmp d, .tmp s], argTypes := #[22, 22] }) (h : wpList P ops Q (o :: rest) a w) : wpList P ops Q (o :: rest) a w := h
theorem info29 : (Try.prog.info? 29).map (·.size) = some 1 := by kernel_rfl

theorem NW.pt {w wr : World} {T Pb Hb n m G : Nat} {hs blk pt : Nat → Nat} {nx fst : Nat → Value} {cnt : Nat → Nat} (h : NW w wr T Pb Hb n m G m m hs blk pt nx fst cnt) : PtAt wr (some ⟨G, 0, none⟩) blk (List.range m) := fun p k hk => by
  have hp : p < m := by have := (List.getElem?_eq_some_iff.1 hk).1; simpa using this
  rw [List.getElem?_range hp] at hk
  injection hk with hk
  subst hk
  refine ⟨G, rfl, ?_⟩
  have := h.row.cell hp
  rw [if_pos hp] at this; exact this
theorem PtAt.kp {w w' : World} {G : Nat} {blk : Nat → Nat} {l : List Nat} (h : PtAt w (some ⟨G, 0, none⟩) blk l) {F : Nat → Prop} (k : Kp F w w') (hG : ¬ F G) : PtAt w' (some ⟨G, 0, none⟩) blk l := fun p i hi => by
  obtain ⟨g, h0, h1⟩ := h p i hi
  refine ⟨g, h0, ?_⟩
  have hg : G = g := by injection h0 with h0; injection h0
  subst hg
  rw [World.cell?_of_block (k.block G (World.block_lt_of_cell? w _ h1) hG)]; exact h1
theorem hs_at {w : World} {g m k : Nat} {hs : Nat → Nat} (h : HsAt w (some ⟨g, 0, none⟩) m hs) (hk : k < m) : w.cell? ⟨g, k, none⟩ = some (.int .u64 (hs k : Nat)) := by
  obtain ⟨b, h0, h1⟩ := h k hk
  have hg : g = b := by injection h0 with h0; injection h0
  rw [hg]; exact h1
theorem pt_at {w : World} {G m k : Nat} {blk : Nat → Nat} (h : PtAt w (some ⟨G, 0, none⟩) blk (List.range m)) (hk : k < m) : w.cell? ⟨G, k, none⟩ = some (P (blk k)) := by
  obtain ⟨g, h0, h1⟩ := h k k (List.getElem?_range hk)
  have hg : G = g := by injection h0 with h0; injection h0
  rw [hg]; exact h1
theorem td_next {w : World} {T m L s Pb Hb : Nat} {hs blk pt : Nat → Nat} {nx fst : Nat → Value} {cnt : Nat → Nat} (h : TD w T (2 * 2 ^ (L + s)) m (!(s % 2 == 0)) hs blk (hotF hs (2 * 2 ^ (L + s)) (fun _ => none) (2 ^ (L + s))) Pb Hb pt nx fst cnt) : TD w T (2 ^ (L + (s + 1))) m ((s + 1) % 2 == 0) hs blk (fun _ => none) Pb Hb pt nx fst cnt := by
  rw [hotF_cold] at h
  have e1 : 2 * 2 ^ (L + s) = 2 ^ (L + (s + 1)) := by rw [← Nat.add_assoc, Nat.pow_succ]; omega
  have e2 : (!(s % 2 == 0)) = ((s + 1) % 2 == 0) := by
    rw [Bool.eq_iff_iff]; simp; omega
  rw [e1, e2] at h
  exact h
/-- Both tables, behind the growth of the first. -/
theorem two_tables {w0 w1 w2 w3 : World} {T Pb Hb n m G T2 Pb2 Hb2 N2 G2 : Nat} {hs blk pt blk2 pt2 : Nat → Nat} {nx fst nx2 fst2 : Nat → Value} {cnt cnt2 : Nat → Nat} (h1 : NW w0 w1 T Pb Hb n m G m m hs blk pt nx fst cnt) (h2 : NW w1 w2 T2 Pb2 Hb2 N2 m G2 m m hs blk2 pt2 nx2 fst2 cnt2)
    (hk : Kp (fun b => b = T ∨ ∃ k, k < m ∧ b = blk k) w2 w3) : TD w3 T2 N2 m true hs blk2 (fun _ => none) Pb2 Hb2 pt2 nx2 fst2 cnt2 ∧ PtAt w3 (some ⟨G, 0, none⟩) blk (List.range m) ∧ PtAt w3 (some ⟨G2, 0, none⟩) blk2 (List.range m) ∧ Below w0.heap.size w0 w3 := by
  have hT := h1.ts.tab.lt
  have hb : ∀ k, k < m → blk k < w1.heap.size := fun k hk => (h1.ts.ents k hk).lt
  have far : ∀ i, w1.heap.size ≤ i → ¬ (i = T ∨ ∃ k, k < m ∧ i = blk k) := by
    rintro i hi (rfl | ⟨k, hk, rfl⟩)
    · omega
    · have := hb k hk; omega
  have hne := h1.ne_G
  have o2 := h2.own
  refine ⟨h2.td.keep hk (far _ o2.1) (far _ o2.2.1) (far _ o2.2.2.1) (fun i hi => far _ (o2.2.2.2.2 i hi)), (h1.pt.below h2.below).kp hk ?_, h2.pt.kp hk (far _ o2.2.2.2.1), ?_⟩
  · rintro (e | ⟨k, hk, e⟩)
    · exact hne.1 e.symm
    · exact hne.2.2.2 k hk e.symm
  · have hz1 := h1.below.size
    have hz2 := h2.below.size
    refine (h1.below.trans (h2.below.mono hz1)).trans (hk.below (by omega) ?_)
    rintro i (rfl | ⟨k, hk, rfl⟩)
    · exact h1.own.1
    · exact h1.own.2.2.2.2 k hk

set_option maxRecDepth 100000 in
set_option maxHeartbeats 4000000 in
theorem law5_some (w : World) (L t m cap : Nat) (x : Addr) (hs : Nat → Nat) (hL : L ≤ 12) (ht : 1 ≤ t) (ht4 : t ≤ 4) (hLt : L + t ≤ 12) (hm : m ≤ 16384) (hx : ∀ k, k < m → w.cell? (x.add k) = some (.int .u64 (hs k : Nat))) (hh : ∀ k, k < m → hs k < 18446744073709551616) :
    Calls Try.prog 5 #[.int .i64 (L : Nat), .slice (some x) m cap, .int .i64 (t : Nat)] w fun e w' => e = .returned (.bool true) ∧ Below w.heap.size w w' := by
  have mk := run_make_row' (P := Try.prog) 22 29 (.int .u64 0) 8 Try.underlying22 (by kernel_rfl) rfl .i64 .i64 m (by omega) (by omega)
  have HX := hid hx
  have HH := hid hh
  have hb0 : Below w.heap.size w (w.alloc (.cells (madeCells #[.int .u64 0] m) 29)) := (Below.refl _ _).alloc (Nat.le_refl _) _
  have HB0 := hid hb0
  have HZ := hid (made_zU w m)
  have hsrc : ∀ j v, (uV hs m)[j]? = some v → (w.alloc (.cells (madeCells #[.int .u64 0] m) 29)).cell? (x.add j) = some v := fun j v hj => by
    have hjm : j < m := by have := (List.getElem?_eq_some_iff.1 hj).1; rwa [uV_len] at this
    rw [uV_at hs m j hjm] at hj
    rw [hb0.cell (World.block_lt_of_cell? w _ (hx j hjm)), hx j hjm]; exact hj
  have HSrc := hid hsrc
  clear hx hh hsrc hb0
  go_enter Try.func5, Try.ntmps5
  go_wp2_with (first | (go_at_call 21; with_reducible refine (bytes21 _ _ _ _ _ _ (by omega)).mono ?_; rintro e w' ⟨rfl, rfl⟩) | ((with_reducible refine at_copy (d := 55) (s := 56) rfl ?_); (refine wpList_copy_splice rfl (.tmp 55) (.tmp 56) 22 22 rfl 29 Try.underlying22 info29 _ _ _ _ _ _ rfl rfl w.heap.size 0 (zU m) 29 HZ.out (uV hs m) (by rw [uV_len]; simp) (fun _ => ⟨rfl, x, rfl, HSrc.out⟩) (by rw [uV_len]; simp [zU]) (uV_one hs m) w.heap.size w HB0.out (Nat.le_refl _) ?_; intro w0 hg hbb; have HA := hid (hs_of_row hg.out); have HBB := hid hbb; clear hg hbb)))
  obtain ⟨n, hn⟩ : ∃ n, n = 2 ^ L := ⟨_, rfl⟩
  obtain ⟨N2, hN2⟩ : ∃ N2, N2 = 2 ^ (L + t) := ⟨_, rfl⟩
  have hN0 : 0 < N2 := by rw [hN2]; exact Nat.pow_pos (by decide)
  have hN1 : N2 ≤ 4096 := by rw [hN2]; exact Nat.pow_le_pow_right (by decide) hLt
  have hw : wrap64 (2 ^ (L + t)) = (N2 : Int) := by
    have e : ((2 : Int) ^ (L + t)) = ((2 ^ (L + t) : Nat) : Int) := by simp
    rw [e, ← hN2]; unfold wrap64; omega
  have HN := hid hn
  have HN2 := hid hN2
  clear hn hN2 mk
  go_wp2_with (first | (go_at_call 13; with_reducible refine (newTable_any L n m hs _ _ _ HN.out hL hm HA.out HH.out).mono ?_; rintro e w1 ⟨T, Pb, Hb, G, blk, pt, nx, fst, cnt, rfl, hw1⟩; have W1 := hid hw1; clear hw1) | (go_at_call 13; with_reducible refine (newTable_sum L t N2 m hs _ _ _ HN2.out hLt hm (HA.out.below W1.out.below) HH.out).mono ?_; rintro e w2 ⟨T2, Pb2, Hb2, G2, blk2, pt2, nx2, fst2, cnt2, rfl, hw2⟩; have W2 := hid hw2; clear hw2))
  have TD0 : Hid (TD w2 T (2 ^ (L + 0)) m (0 % 2 == 0) hs blk (fun _ => none) Pb Hb pt nx fst cnt) := by
    have := W1.out.td.keep0 W2.out.below
    rw [HN.out] at this; exact this
  go_loopw [12] (fun ix wr => ∃ s : Nat, s ≤ t ∧ ix = .int .i64 (s : Nat) ∧ ∃ Pb Hb pt nx fst cnt, TD wr T (2 ^ (L + s)) m (s % 2 == 0) hs blk (fun _ => none) Pb Hb pt nx fst cnt ∧ Kp (fun b => b = T ∨ ∃ k, k < m ∧ b = blk k) w2 wr) (fun ix _ => t - (intOf ix).toNat)
  case atStart => exact ⟨0, Nat.zero_le _, rfl, _, _, _, _, _, _, TD0.out, Kp.refl _ _⟩
  case round =>
    obtain ⟨s, hst, rfl, Pb3, Hb3, pt3, nx3, fst3, cnt3, hD, hK⟩ := hrel
    have HK := hid hK
    by_cases hlt : s < t
    · have HZ3 := hid (hD.zzgrow rfl (by omega) (by omega) HH.out (fun _ _ _ h => by cases h))
      clear hD hK
      go_wp2_with (first | (go_at_call 15; with_reducible refine HZ3.out.mono ?_; rintro e w3 ⟨rfl, Pb4, Hb4, pt4, nx4, fst4, cnt4, hD4, hK4⟩; have HD4 := hid hD4; have HK4 := hid hK4; clear hD4 hK4))
      refine ⟨⟨s + 1, by omega, by simp, _, _, _, _, _, _, td_next HD4.out, HK.out.trans HK4.out⟩, ?_⟩
      simp [intOf]; omega
    · have hs2 : s = t := by omega
      subst hs2
      rw [← HN2.out] at hD
      have HTA := hid hD
      have HTT := hid (two_tables W1.out W2.out hK)
      have hta := hD.ts.tab
      have htb := HTT.out.1.ts.tab
      clear hD hK
      go_wp2_with (first | (go_at_call 16; with_reducible refine (parts_any hta).mono ?_; rintro e w' ⟨rfl, rfl⟩) | (go_at_call 16; with_reducible refine (parts_any htb).mono ?_; rintro e w' ⟨rfl, rfl⟩))
      generalize wr = w3 at *
      go_loopw [14] (fun ix wr => ∃ j : Nat, j ≤ N2 ∧ ix = .int .i64 (j : Nat) ∧ Below w3.heap.size w3 wr) (fun ix _ => N2 - (intOf ix).toNat)
      case atStart => exact ⟨0, Nat.zero_le _, rfl, Below.refl _ _⟩
      case round =>
        obtain ⟨j, hj, rfl, hB⟩ := hrel
        have HB := hid hB
        by_cases hjn : j < N2
        · have HCA := hid ((HTA.out.keep0 hB).chain hjn (by omega))
          have HTBj := hid (HTT.out.1.keep0 hB)
          clear hB
          go_wp2_with (first | (go_at_call 17; with_reducible refine HCA.out.mono ?_; rintro e w4 ⟨aa, ca, rfl, hpa, hb4⟩; have HPA := hid hpa; have HB4 := hid hb4; have HCB := hid ((HTBj.out.keep0 hb4).chain hjn (by omega)); clear hpa hb4) | (go_at_call 17; with_reducible refine HCB.out.mono ?_; rintro e w5 ⟨ab, cb, rfl, hpb, hb5⟩; have HPB := hid hpb; have HB5 := hid hb5; have HTA5 := hid (((HTA.out.keep0 HB.out).keep0 HB4.out).keep0 hb5); have HTB5 := hid ((HTBj.out.keep0 HB4.out).keep0 hb5); have HNA := hid (HTA5.out.count hjn); have HNB := hid (HTB5.out.count hjn); clear hpb hb5) | (go_at_call 18; with_reducible refine HNA.out.mono ?_; rintro e w' ⟨rfl, rfl⟩) | (go_at_call 18; with_reducible refine HNB.out.mono ?_; rintro e w' ⟨rfl, rfl⟩))
          have HPA5 := hid (HPA.out.below HB5.out)
          have hB5 : Below w3.heap.size w3 w5 := HB.out.trans ((HB4.out.trans (HB5.out.mono HB4.out.size)).mono HB.out.size)
          have HBX := hid hB5
          clear hB5
          go_loopw [17] (fun ix wr => ∃ p : Nat, p ≤ (Fl hs m N2 j).length ∧ ix = .int .i64 (p : Nat) ∧ Below w5.heap.size w5 wr) (fun ix _ => (Fl hs m N2 j).length - (intOf ix).toNat)
          case atStart => exact ⟨0, Nat.zero_le _, rfl, Below.refl _ _⟩
          case round =>
            obtain ⟨p, hp, rfl, hB6⟩ := hrel
            have HB6 := hid hB6
            by_cases hpl : p < (Fl hs m N2 j).length
            · have hp0 : (0 : Int) ≤ (p : Int) := by omega
              have hp1 : (p : Int) < ((Fl hs m N2 j).length : Int) := by omega
              have hp2 : (p : Int) ≤ 16384 := by have := Fl_len hs m N2 j; omega
              have hp3 : ((Fl hs m N2 j).length : Int) ≤ 16384 := by have := Fl_len hs m N2 j; omega
              cases hpar : (s % 2 == 0) with
              | true =>
                obtain ⟨k, hkm, hk⟩ := dir_same hpl
                rw [hpar] at HPA5
                obtain ⟨ga, rfl, hca⟩ := (HPA5.out.below hB6) p k hk
                obtain ⟨gb, rfl, hcb⟩ := (HPB.out.below hB6) p k hk
                have hkm2 := (Fl_mem.1 hkm).1
                have EA := hid ((HTA5.out.keep0 hB6).ts.ents k hkm2)
                have EB := hid ((HTB5.out.keep0 hB6).ts.ents k hkm2)
                have hmod : Int.tmod (s : Int) 2 = 0 := by simp at hpar; rw [Int.tmod_eq_emod_of_nonneg (by omega)]; omega
                clear hk hkm hB6
                go_wp2
                go_region_held3 (fun w' => w'.cell? ⟨ga, p, none⟩ = some (P (blk k)) ∧ w'.cell? ⟨gb, p, none⟩ = some (P (blk2 k)))
                  (first | (exact ⟨hca, hcb⟩)) (first | (go_at_call 22; refine (hash_any (by exact EA.out)).mono ?_; rintro e w' ⟨rfl, rfl⟩) | (go_at_call 22; refine (hash_any (by exact EB.out)).mono ?_; rintro e w' ⟨rfl, rfl⟩))
                go_wp2
                refine ⟨⟨p + 1, by omega, by simp, HB6.out.drew⟩, ?_⟩
                simp [intOf]; omega
              | false =>
                obtain ⟨k, hkm, hk, hk2⟩ := dir_turn hpl
                rw [hpar] at HPA5
                obtain ⟨ga, rfl, hca⟩ := (HPA5.out.below hB6) p k hk
                obtain ⟨gb, rfl, hcb⟩ := (HPB.out.below hB6) _ k hk2
                obtain ⟨q, hqd⟩ : ∃ q, q = (Fl hs m N2 j).length - 1 - p := ⟨_, rfl⟩
                rw [← hqd] at hcb
                have hqi : ((Fl hs m N2 j).length : Int) - 1 - (p : Int) = (q : Int) := by omega
                have hq0 : (0 : Int) ≤ (q : Int) := by omega
                have hq1 : (q : Int) < ((Fl hs m N2 j).length : Int) := by omega
                have hkm2 := (Fl_mem.1 hkm).1
                have EA := hid ((HTA5.out.keep0 hB6).ts.ents k hkm2)
                have EB := hid ((HTB5.out.keep0 hB6).ts.ents k hkm2)
                have hmod : Int.tmod (s : Int) 2 = 1 := by simp at hpar; rw [Int.tmod_eq_emod_of_nonneg (by omega)]; omega
                clear hk hk2 hkm hB6 hqd
                go_wp2
                go_region_held3 (fun w' => w'.cell? ⟨ga, p, none⟩ = some (P (blk k)) ∧ w'.cell? ⟨gb, q, none⟩ = some (P (blk2 k)))
                  (first | (exact ⟨hca, hcb⟩)) (first | (go_at_call 22; refine (hash_any (by exact EA.out)).mono ?_; rintro e w' ⟨rfl, rfl⟩) | (go_at_call 22; refine (hash_any (by exact EB.out)).mono ?_; rintro e w' ⟨rfl, rfl⟩))
                go_wp2
                refine ⟨⟨p + 1, by omega, by simp, HB6.out.drew⟩, ?_⟩
                simp [intOf]; omega
            · go_wp2
              refine ⟨⟨j + 1, by omega, by simp, HBX.out.trans (HB6.out.mono HBX.out.size)⟩, ?_⟩
              simp [intOf]; omega
        · clear hB
          generalize wr = w6 at *
          go_wp2
          go_loopw [20] (fun ix wr => ∃ k : Nat, k ≤ m ∧ ix = .int .i64 (k : Nat) ∧ Below w3.heap.size w3 wr) (fun ix _ => m - (intOf ix).toNat)
          case atStart => exact ⟨0, Nat.zero_le _, rfl, HB.out⟩
          case round =>
            obtain ⟨k, hk, rfl, hB7⟩ := hrel
            have HB7 := hid hB7
            by_cases hkm : k < m
            · have hk0 : (0 : Int) ≤ (k : Int) := by omega
              have hk1 : (k : Int) < (m : Int) := by omega
              have hra : wr.cell? ⟨G, k, none⟩ = some (P (blk k)) := pt_at (HTT.out.2.1.below hB7) hkm
              have hrb : wr.cell? ⟨G2, k, none⟩ = some (P (blk2 k)) := pt_at (HTT.out.2.2.1.below hB7) hkm
              have HPa := hid ((HTA.out.keep0 hB7).part hkm)
              have HPb := hid ((HTT.out.1.keep0 hB7).part hkm)
              have hch := hs_at ((HA.out.below HTT.out.2.2.2).below hB7) hkm
              have hmk := mask (hs k) (L + s) (HH.out k hkm) (by omega)
              rw [← HN2.out] at hmk
              have hql : hs k % N2 < N2 := Nat.mod_lt _ hN0
              clear hB7
              generalize hs k % N2 = q at *
              go_wp2_with (first | (go_at_call 19; with_reducible refine HPa.out.mono ?_; rintro e w' ⟨rfl, rfl⟩) | (go_at_call 19; with_reducible refine HPb.out.mono ?_; rintro e w' ⟨rfl, rfl⟩))
              refine ⟨⟨k + 1, by omega, by simp, HB7.out⟩, ?_⟩
              simp [intOf]; omega
            · go_wp2
              go_ret
              exact ⟨rfl, HBB.out.trans ((HTT.out.2.2.2.trans (HB7.out.mono HTT.out.2.2.2.size)).mono HBB.out.size)⟩
end Go.Proofs.Qxb6612769a
