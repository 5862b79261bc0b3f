import Derived.Test.Qxb6612554aHas
namespace Go.Proofs.Qxb6612554a
open Go.RowKit
set_option linter.unusedVariables false
set_option linter.unusedSimpArgs false
attribute [local go_sem ↓] Go.wp_at_zero Go.wp_at_succ

theorem keepN_back {now1 now2 : Int} {n : Nd} (h : now1 ≤ now2) (hk : keepN now2 n = true) : keepN now1 n = true := by
  unfold keepN at *
  rw [Bool.or_eq_true] at *
  rcases hk with hk | hk
  · exact .inl hk
  · exact .inr (fresh_back h hk)
theorem keepN_and {now1 now2 : Int} {n : Nd} (h : now1 ≤ now2) : (keepN now2 n && keepN now1 n) = keepN now2 n := by
  cases hk : keepN now2 n with
  | false => rfl
  | true => rw [keepN_back h hk]; rfl
section
variable {es : List En} {all : List Nd} {now1 now2 : Int}
theorem p1 (h : Made es all) (h0 : InI now1) (hok : ∀ x ∈ es, EnOk x) : ∀ n ∈ all, (keepN now1 n && true) = keepAt es now1 (-1) n.i := fun n hn => by
  rw [keep_at h h0 hok hn]
  have : ((n.i : Int) == -1) = false := by simp
  rw [this]; simp
theorem p2 (h : Made es all) (h0 : InI now2) (hok : ∀ x ∈ es, EnOk x) (hle : now1 ≤ now2) : ∀ n ∈ all, (keepN now2 n && (keepN now1 n && true)) = keepAt es now2 (-1) n.i := fun n hn => by
  rw [← p1 h h0 hok n hn, Bool.and_true, Bool.and_true, keepN_and hle]
theorem p3 (h : Made es all) (h0 : InI now2) (hok : ∀ x ∈ es, EnOk x) (hle : now1 ≤ now2) : ∀ n ∈ all, (keepN now2 n && (keepN now2 n && (keepN now1 n && true))) = keepAt es now2 (-1) n.i := fun n hn => by
  rw [p2 h h0 hok hle n hn, ← p1 h h0 hok n hn]; simp
end

set_option maxRecDepth 100000 in
set_option maxHeartbeats 2000000 in
theorem law2_main (a : Option Addr) (cap : Nat) (es : List En) (now1 now2 : Int) (w : World) (h : EsAt w a es) (hok : ∀ x ∈ es, EnOk x) (hlen : es.length ≤ 16384) (h0 : -9223372036854775808 ≤ now1) (h1 : now1 ≤ 9223372036854775807) (g0 : -9223372036854775808 ≤ now2) (g1 : now2 ≤ 9223372036854775807) (hle : now1 ≤ now2) (hr : reachB es = true) (hs : sortedB es = true) :
    Calls Try.prog 4 #[.slice a es.length cap, .int .i64 now1, .int .i64 now2] w fun e w' => e = .returned (.bool true) ∧ Below w.heap.size w w' := by
  have HE := hid h
  have HO := hid hok
  have HS := hid hs
  have I1 : InI now1 := ⟨h0, h1⟩
  have I2 : InI now2 := ⟨g0, g1⟩
  clear h hok
  go_enter Try.func4, Try.ntmps4
  go_wp2_with (first | (go_at_call 18; refine (bytes18 _ _ _ _ _ _ (by omega)).mono ?_; rintro e w' ⟨rfl, rfl⟩) | (go_at_call 12; refine (reachable_any _ _ es _ HE.out hlen).mono ?_; rintro e w' ⟨rfl, rfl⟩) | (go_at_call 13; refine (sorted_any _ _ es _ HE.out hlen).mono ?_; rintro e w' ⟨rfl, nd, rfl⟩))
  have hbd := bdrewN w nd
  have HE1 := hid (HE.out.below hbd)
  generalize w.drewN nd = wd at *
  clear HE
  go_wp2_with (first | (go_at_call 17; with_reducible refine (survivors_want a cap es now1 (-1) _ HE1.out HO.out hlen h0 h1).mono ?_; rintro e w1 ⟨aw1, capw1, rfl, hwt, hb1⟩; have HW1 := hid hwt; have HE2 := hid (HE1.out.below hb1); clear hwt) | (go_at_call 17; with_reducible refine (survivors_want a cap es now2 (-1) _ HE2.out HO.out hlen g0 g1).mono ?_; rintro e w2 ⟨aw2, capw2, rfl, hwt, hb2⟩; have HW2 := hid hwt; have HE3 := hid (HE2.out.below hb2); have HW3 := hid (HW1.out.below hb2); clear hwt) | (go_at_call 14; with_reducible refine (build_has a cap es now2 _ HE3.out HO.out hlen g0 g1).mono ?_; rintro e w3 ⟨B, G, all, rfl, hh⟩; have H0 := hid hh; clear hh) | (go_at_call 15; with_reducible refine (forget_has now1 H0.out HS.out HO.out h0 h1).mono ?_; rintro e w4 ⟨rfl, hh⟩; have H1 := hid hh; clear hh) | (go_at_call 16; with_reducible refine (match_has H1.out (p1 H1.out.made I1 HO.out) HE3.out HW3.out HO.out hlen).mono ?_; rintro e w5 ⟨rfl, -, hh⟩; have M1 := hid hh; clear hh))
  go_wp2_with (first | (go_at_call 15; with_reducible refine (forget_has now2 M1.out HS.out HO.out g0 g1).mono ?_; rintro e w6 ⟨rfl, hh⟩; have H2 := hid hh; clear hh) | (go_at_call 16; with_reducible refine (match_has H2.out (p2 H2.out.made I2 HO.out hle) HE3.out HW2.out HO.out hlen).mono ?_; rintro e w7 ⟨rfl, -, hh⟩; have M2 := hid hh; clear hh))
  go_wp2_with (first | (go_at_call 15; with_reducible refine (forget_has now2 M2.out HS.out HO.out g0 g1).mono ?_; rintro e w8 ⟨rfl, hh⟩; have H3 := hid hh; clear hh) | (go_at_call 16; with_reducible refine (match_has H3.out (p3 H3.out.made I2 HO.out hle) HE3.out HW2.out HO.out hlen).mono ?_; rintro e w9 ⟨rfl, -, hh⟩; have M3 := hid hh.below; clear hh))
  go_wp2_with (first | (go_at_call 14; with_reducible refine (build_has a cap es now2 _ (HE3.out.below M3.out) HO.out hlen g0 g1).mono ?_; rintro e w10 ⟨B', G', all', rfl, hh⟩; have K0 := hid hh; clear hh) | (go_at_call 15; with_reducible refine (forget_has now2 K0.out HS.out HO.out g0 g1).mono ?_; rintro e w11 ⟨rfl, hh⟩; have K1 := hid hh; clear hh) | (go_at_call 16; with_reducible refine (match_has K1.out (p1 K1.out.made I2 HO.out) (HE3.out.below M3.out) (HW2.out.below M3.out) HO.out hlen).mono ?_; rintro e w12 ⟨rfl, -, hh⟩; have K2 := hid hh.below; clear hh))
  go_ret
  have z1 := hbd.size
  have z2 := hb1.size
  have z3 := hb2.size
  have z4 := M3.out.size
  exact ⟨rfl, hbd.trans ((hb1.trans ((hb2.trans ((M3.out.trans (K2.out.mono z4)).mono z3)).mono z2)).mono z1)⟩

theorem walk2 (a : Option Addr) (cap : Nat) (es : List En) (now1 now2 : Int) (w : World) (h : EsAt w a es) (hok : ∀ x ∈ es, EnOk x) (hm : es.length ≤ maxLen) (h0 : -9223372036854775808 ≤ now1) (h1 : now1 ≤ 9223372036854775807) (g0 : -9223372036854775808 ≤ now2) (g1 : now2 ≤ 9223372036854775807) :
    Calls Try.prog 4 #[.slice a es.length cap, .int .i64 now1, .int .i64 now2] w fun e w' => e = .returned (.bool true) ∧ Below w.heap.size w w' := by
  by_cases hbig : 1048576 < es.length
  · clear h hok
    go_enter Try.func4, Try.ntmps4
    go_wp2_with (first | (go_at_call 18; refine (bytes18_no _ _ _ _ _ _ hbig hm).mono ?_; rintro e w' ⟨rfl, rfl⟩))
    go_ret
    exact ⟨rfl, Below.refl _ _⟩
  by_cases hlen : es.length ≤ 16384
  · by_cases hle : now1 ≤ now2
    · cases hr : reachB es with
      | false =>
        have HE := hid h
        clear h hok
        go_enter Try.func4, Try.ntmps4
        go_wp2_with (first | (go_at_call 18; refine (bytes18 _ _ _ _ _ _ (by omega)).mono ?_; rintro e w' ⟨rfl, rfl⟩) | (go_at_call 12; refine (reachable_any _ _ es _ HE.out hlen).mono ?_; rintro e w' ⟨rfl, rfl⟩))
        go_ret
        exact ⟨rfl, Below.refl _ _⟩
      | true =>
        cases hs : sortedB es with
        | false =>
          have HE := hid h
          clear h hok
          go_enter Try.func4, Try.ntmps4
          go_wp2_with (first | (go_at_call 18; refine (bytes18 _ _ _ _ _ _ (by omega)).mono ?_; rintro e w' ⟨rfl, rfl⟩) | (go_at_call 12; refine (reachable_any _ _ es _ HE.out hlen).mono ?_; rintro e w' ⟨rfl, rfl⟩) | (go_at_call 13; refine (sorted_any _ _ es _ HE.out hlen).mono ?_; rintro e w' ⟨rfl, nd, rfl⟩))
          go_ret
          exact ⟨rfl, bdrewN _ _⟩
        | true => exact law2_main a cap es now1 now2 w h hok hlen h0 h1 g0 g1 hle hr hs
    · clear h hok
      go_enter Try.func4, Try.ntmps4
      go_wp2_with (first | (go_at_call 18; refine (bytes18 _ _ _ _ _ _ (by omega)).mono ?_; rintro e w' ⟨rfl, rfl⟩))
      go_ret
      exact ⟨rfl, Below.refl _ _⟩
  · clear h hok
    unfold maxLen at hm
    go_enter Try.func4, Try.ntmps4
    go_wp2_with (first | (go_at_call 18; refine (bytes18 _ _ _ _ _ _ (by omega)).mono ?_; rintro e w' ⟨rfl, rfl⟩))
    go_ret
    exact ⟨rfl, Below.refl _ _⟩
end Go.Proofs.Qxb6612554a
