import Derived.Test.Qxb6612554aHas
namespace Go.Proofs.Qxb6612554a
open Go.RowKit
set_option linter.unusedVariables false
set_option linter.unusedSimpArgs false
attribute [local go_sem ↓] Go.wp_at_zero Go.wp_at_succ

section
variable {es : List En} {all : List Nd} {now : Int} {n : Nd}
theorem pd1 {j : Nat} (h : Made es all) (h0 : InI now) (hok : ∀ x ∈ es, EnOk x) (e : n.i = j) : ∀ m ∈ all, (!(m.i == n.i) && (!(m.i == n.i) && (keepN now m && true))) = keepAt es now (j : Int) m.i := fun m hm => by
  subst e
  rw [keep_at h h0 hok hm]
  have : ((m.i : Int) == (n.i : Int)) = (m.i == n.i) := by
    rw [Bool.eq_iff_iff]; simp; omega
  rw [this]
  cases (m.i == n.i) <;> simp
theorem pd2 {j : Nat} (h : Made es all) (h0 : InI now) (hok : ∀ x ∈ es, EnOk x) (e : n.i = j) : ∀ m ∈ all, (keepN now m && (!(m.i == n.i) && true)) = keepAt es now (j : Int) m.i := fun m hm => by
  subst e
  rw [keep_at h h0 hok hm]
  have : ((m.i : Int) == (n.i : Int)) = (m.i == n.i) := by
    rw [Bool.eq_iff_iff]; simp; omega
  rw [this]
  cases (m.i == n.i) <;> simp
end

/-- The i-th element. -/
theorem Has.nth {w0 wr : World} {B G : Nat} {es : List En} {all : List Nd} {p : Nd → Bool} (h : Has w0 B G es all p wr) {i : Nat} (hi : i < es.length) : ∃ n ∈ all, n.i = i ∧ elsF all i = P n.b := by
  have hi' : i < all.length := by rw [h.len]; exact hi
  refine ⟨all[i], List.getElem_mem hi', (h.made i _ (List.getElem?_eq_getElem hi')).1, ?_⟩
  simp [elsF, List.getElem?_eq_getElem hi']
theorem Has.cellG {w0 wr : World} {B G : Nat} {es : List En} {all : List Nd} {p : Nd → Bool} (h : Has w0 B G es all p wr) {i : Nat} (hi : i < es.length) {b : Nat} (e : elsF all i = P b) : wr.cell? ⟨G, i, none⟩ = some (P b) := by
  rw [h.row.cell hi, e]

set_option maxRecDepth 100000 in
set_option maxHeartbeats 2000000 in
theorem law3_main (a : Option Addr) (cap : Nat) (es : List En) (i : Nat) (now : Int) (w : World) (h : EsAt w a es) (hok : ∀ x ∈ es, EnOk x) (hlen : es.length ≤ 16384) (hi : i < es.length) (h0 : -9223372036854775808 ≤ now) (h1 : now ≤ 9223372036854775807) (hr : reachB es = true) (hs : sortedB es = true) :
    Calls Try.prog 6 #[.slice a es.length cap, .int .i64 (i : Int), .int .i64 now] w fun e w' => e = .returned (.bool true) ∧ Below w.heap.size w w' := by
  have HE := hid h
  have HO := hid hok
  have HS := hid hs
  have I1 : InI now := ⟨h0, h1⟩
  clear h hok
  go_enter Try.func6, Try.ntmps6
  go_wp2_with (first | (go_at_call 21; refine (bytes21 _ _ _ _ _ _ (by omega)).mono ?_; rintro e w' ⟨rfl, rfl⟩) | (go_at_call 12; refine (reachable_any _ _ es _ HE.out hlen).mono ?_; rintro e w' ⟨rfl, rfl⟩) | (go_at_call 13; refine (sorted_any _ _ es _ HE.out hlen).mono ?_; rintro e w' ⟨rfl, nd, rfl⟩))
  have hbd := bdrewN w nd
  have HE1 := hid (HE.out.below hbd)
  generalize w.drewN nd = wd at *
  clear HE
  go_wp2_with (first | (go_at_call 17; refine (survivors_want a cap es now (i : Int) _ HE1.out HO.out hlen h0 h1).mono ?_; rintro e w1 ⟨aw, capw, rfl, hwt, hb1⟩; have HW := hid hwt; have HE2 := hid (HE1.out.below hb1); clear hwt) | (go_at_call 14; with_reducible refine (build_has a cap es now _ HE2.out HO.out hlen h0 h1).mono ?_; rintro e w2 ⟨B, G, all, rfl, hh⟩; have H0 := hid hh; clear hh) | (go_at_call 15; with_reducible refine (forget_has now H0.out HS.out HO.out h0 h1).mono ?_; rintro e w3 ⟨rfl, hh⟩; obtain ⟨n, hn, hni, hel⟩ := hh.nth hi; have HC := hh.cellG hi hel; have H1 := hid hh; clear hh))
  go_wp2_with (first | (go_at_call 20; with_reducible refine (drop_has H1.out hn hlen).mono ?_; rintro e w4 ⟨rfl, hh⟩; have HC2 := hh.cellG hi hel; have H2 := hid hh; clear hh))
  go_wp2_with (first | (go_at_call 20; with_reducible refine (drop_has H2.out hn hlen).mono ?_; rintro e w5 ⟨rfl, hh⟩; have H3 := hid hh; clear hh) | (go_at_call 14; with_reducible refine (build_has a cap es now _ (HE2.out.below H3.out.below) HO.out hlen h0 h1).mono ?_; rintro e w6 ⟨B', G', all', rfl, hh⟩; obtain ⟨n', hn', hni', hel'⟩ := hh.nth hi; have KC := hh.cellG hi hel'; have K0 := hid hh; clear hh))
  go_wp2_with (first | (go_at_call 20; with_reducible refine (drop_has K0.out hn' hlen).mono ?_; rintro e w7 ⟨rfl, hh⟩; have K1 := hid hh; clear hh) | (go_at_call 15; with_reducible refine (forget_has now K1.out HS.out HO.out h0 h1).mono ?_; rintro e w8 ⟨rfl, hh⟩; have K2 := hid hh; have H4 := hid (H3.out.keep0 hh.below); clear hh) | (go_at_call 16; with_reducible refine (match_has H4.out (pd1 H4.out.made I1 HO.out hni) HE2.out HW.out HO.out hlen).mono ?_; rintro e w9 ⟨rfl, hb9, -⟩; have K3 := hid (K2.out.keep0 hb9)) | (go_at_call 16; with_reducible refine (match_has K3.out (pd2 K3.out.made I1 HO.out hni') (HE2.out.below H3.out.below) (HW.out.below H3.out.below) HO.out hlen).mono ?_; rintro e w10 ⟨rfl, hb10, -⟩))
  go_ret
  have z1 := hbd.size
  have z2 := hb1.size
  have z3 := H3.out.below.size
  have z4 := K3.out.below.size
  exact ⟨rfl, hbd.trans ((hb1.trans ((H3.out.below.trans ((K3.out.below.trans (hb10.mono z4)).mono z3)).mono z2)).mono z1)⟩

theorem walk3 (a : Option Addr) (cap : Nat) (es : List En) (i now : Int) (w : World) (h : EsAt w a es) (hok : ∀ x ∈ es, EnOk x) (hm : es.length ≤ maxLen) (g0 : -9223372036854775808 ≤ i) (g1 : i ≤ 9223372036854775807) (h0 : -9223372036854775808 ≤ now) (h1 : now ≤ 9223372036854775807) :
    Calls Try.prog 6 #[.slice a es.length cap, .int .i64 i, .int .i64 now] w fun e w' => e = .returned (.bool true) ∧ Below w.heap.size w w' := by
  by_cases hbig : 1048576 < es.length
  · clear h hok
    go_enter Try.func6, Try.ntmps6
    go_wp2_with (first | (go_at_call 21; refine (bytes21_no _ _ _ _ _ _ hbig hm).mono ?_; rintro e w' ⟨rfl, rfl⟩))
    go_ret
    exact ⟨rfl, Below.refl _ _⟩
  by_cases hlen : es.length ≤ 16384
  · by_cases hneg : i < 0
    · clear h hok
      go_enter Try.func6, Try.ntmps6
      go_wp2_with (first | (go_at_call 21; refine (bytes21 _ _ _ _ _ _ (by omega)).mono ?_; rintro e w' ⟨rfl, rfl⟩))
      go_ret
      exact ⟨rfl, Below.refl _ _⟩
    obtain ⟨k, rfl⟩ := Int.eq_ofNat_of_zero_le (Int.not_lt.1 hneg)
    by_cases hk : k < es.length
    · cases hr : reachB es with
      | false =>
        have HE := hid h
        clear h hok
        go_enter Try.func6, Try.ntmps6
        go_wp2_with (first | (go_at_call 21; refine (bytes21 _ _ _ _ _ _ (by omega)).mono ?_; rintro e w' ⟨rfl, rfl⟩) | (go_at_call 12; refine (reachable_any _ _ es _ HE.out hlen).mono ?_; rintro e w' ⟨rfl, rfl⟩))
        go_ret
        exact ⟨rfl, Below.refl _ _⟩
      | true =>
        cases hs : sortedB es with
        | false =>
          have HE := hid h
          clear h hok
          go_enter Try.func6, Try.ntmps6
          go_wp2_with (first | (go_at_call 21; refine (bytes21 _ _ _ _ _ _ (by omega)).mono ?_; rintro e w' ⟨rfl, rfl⟩) | (go_at_call 12; refine (reachable_any _ _ es _ HE.out hlen).mono ?_; rintro e w' ⟨rfl, rfl⟩) | (go_at_call 13; refine (sorted_any _ _ es _ HE.out hlen).mono ?_; rintro e w' ⟨rfl, nd, rfl⟩))
          go_ret
          exact ⟨rfl, bdrewN _ _⟩
        | true => exact law3_main a cap es k now w h hok hlen hk h0 h1 hr hs
    · clear h hok
      go_enter Try.func6, Try.ntmps6
      go_wp2_with (first | (go_at_call 21; refine (bytes21 _ _ _ _ _ _ (by omega)).mono ?_; rintro e w' ⟨rfl, rfl⟩))
      go_ret
      exact ⟨rfl, Below.refl _ _⟩
  · clear h hok
    unfold maxLen at hm
    go_enter Try.func6, Try.ntmps6
    go_wp2_with (first | (go_at_call 21; refine (bytes21 _ _ _ _ _ _ (by omega)).mono ?_; rintro e w' ⟨rfl, rfl⟩))
    go_ret
    exact ⟨rfl, Below.refl _ _⟩
end Go.Proofs.Qxb6612554a
