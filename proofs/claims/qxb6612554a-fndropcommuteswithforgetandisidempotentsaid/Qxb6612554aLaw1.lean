import Derived.Test.Qxb6612554aPure
namespace Go.Proofs.Qxb6612554a
open Go.RowKit
set_option linter.unusedVariables false
set_option linter.unusedSimpArgs false
attribute [local go_sem ↓] Go.wp_at_zero Go.wp_at_succ

theorem own_want {w0 w : World} {v : Value} {S : List Nat} (h : w.ownsRow w0.heap.size 3 1 v S.length (idxV S)) : ∃ aw capw, v = .slice aw S.length capw ∧ WantAt w aw S := by
  have hh := h
  obtain ⟨h1, h2⟩ := h
  rcases h2 with ⟨hv, hn⟩ | ⟨g, cap, cur, hv, hg, hb, _⟩
  · refine ⟨none, 0, by rw [hv, hn], fun k j hj => ?_⟩
    have := List.eq_nil_of_length_eq_zero hn
    rw [this] at hj; simp at hj
  · refine ⟨some ⟨g, 0, none⟩, cap, hv, fun k j hj => ⟨g, rfl, ?_⟩⟩
    rw [hv] at hh
    have hk := (List.getElem?_eq_some_iff.1 hj).1
    rw [hh.cellAt k (by omega)]
    simp [idxV, hj]
theorem survivors_want (a : Option Addr) (cap : Nat) (es : List En) (now skip : Int) (w : World) (h : EsAt w a es) (hok : ∀ x ∈ es, EnOk x) (hlen : es.length ≤ 16384) (h0 : -9223372036854775808 ≤ now) (h1 : now ≤ 9223372036854775807) :
    Calls Try.prog 17 #[.slice a es.length cap, .int .i64 now, .int .i64 skip] w fun e w' => ∃ aw capw, e = .returned (.slice aw (survF es now skip es.length).length capw) ∧ WantAt w' aw (survF es now skip es.length) ∧ Below w.heap.size w w' := by
  refine (survivors_any a cap es now skip w h hok hlen h0 h1).mono ?_
  rintro e w' ⟨v, rfl, hs⟩
  obtain ⟨aw, capw, hv, hw⟩ := own_want hs.1
  exact ⟨aw, capw, by rw [hv], hw, hs.2⟩

/-- The limiter's operations turn nothing that was there before it was built. -/
theorem BuSt.kp {w wr w' : World} {B G : Nat} {es : List En} {nx pv : Nat → Nat} {ns : List Nd} (h : BuSt w B G es nx pv ns wr) (hk : Kp (Own (B + 1) B ns) wr w') : Below w.heap.size w w' :=
  h.below.trans (hk.below h.below.size fun k hf => by
    rcases hf with rfl | rfl | ⟨n, hn, rfl⟩
    · have := h.own.1; omega
    · exact h.own.1
    · exact h.own.2 n hn)

theorem bdrewN (w : World) (n : Nat) : Below w.heap.size w (w.drewN n) := ⟨rfl, rfl, rfl, Nat.le_refl _, fun _ _ => rfl⟩
theorem law1_fits {es : List En} {ns : List Nd} {now : Int} (h : Made es ns) (hl : ns.length = es.length) (hs : sortedB es = true) (hok : ∀ x ∈ es, EnOk x) (h0 : InI now) : Fits es (forgetL now ns) (survF es now (-1) es.length) := by
  rw [forgetL_filter (h.sorted hs)]
  refine fits_filter h hl _ fun n hn => ?_
  rw [keep_at h h0 hok hn]
  have : ((n.i : Int) == -1) = false := by simp
  rw [this]; simp

set_option maxRecDepth 100000 in
set_option maxHeartbeats 1000000 in
theorem law1_main (a : Option Addr) (cap : Nat) (es : List En) (now : Int) (w : World) (h : EsAt w a es) (hok : ∀ x ∈ es, EnOk x) (hlen : es.length ≤ 16384) (h0 : -9223372036854775808 ≤ now) (h1 : now ≤ 9223372036854775807) (hr : reachB es = true) (hs : sortedB es = true) :
    Calls Try.prog 3 #[.slice a es.length cap, .int .i64 now] w fun e w' => e = .returned (.bool true) ∧ Below w.heap.size w w' := by
  have HE := hid h
  have HO := hid hok
  have HS := hid hs
  clear h hok
  go_enter Try.func3, Try.ntmps3
  go_wp2_with (first | (go_at_call 11; refine (bytes11 _ _ _ _ _ (by omega)).mono ?_; rintro e w' ⟨rfl, rfl⟩) | (go_at_call 12; refine (reachable_any _ _ es _ HE.out hlen).mono ?_; rintro e w' ⟨rfl, rfl⟩) | (go_at_call 13; refine (sorted_any _ _ es _ HE.out hlen).mono ?_; rintro e w' ⟨rfl, nd, rfl⟩))
  have hbd := bdrewN w nd
  have HE1 := hid (HE.out.below hbd)
  generalize w.drewN nd = wd at *
  clear HE
  go_wp2_with (first | (go_at_call 14; refine (build_any a cap es now _ HE1.out HO.out hlen h0 h1).mono ?_; rintro e w1 ⟨B, G, nx, pv, ns, rfl, hnl, hst⟩; have ST := hid hst; have HNL := hid hnl; clear hst hnl) | (go_at_call 15; refine (zzForget_any _ _ _ nx pv ns now _ ST.out.lim h0 h1 (ST.out.made.la HO.out)).mono ?_; rintro e w2 ⟨rfl, nx2, pv2, hl2, -, hk2⟩; have HL2 := hid hl2; have HK2 := hid (ST.out.kp hk2); clear hl2 hk2) | (go_at_call 17; refine (survivors_want a cap es now (-1) _ (HE1.out.below HK2.out) HO.out hlen h0 h1).mono ?_; rintro e w3 ⟨aw, capw, rfl, hwt, hb3⟩; have HWT := hid hwt; clear hwt) | (go_at_call 16; refine (matches_any _ _ _ nx2 pv2 _ _ es a aw cap capw _ (HL2.out.keep0 hb3) (law1_fits ST.out.made HNL.out HS.out HO.out ⟨h0, h1⟩) ((HE1.out.below HK2.out).below hb3) HWT.out HO.out hlen).mono ?_; rintro e w4 ⟨rfl, hb4, -⟩))
  go_ret
  have hz2 := HK2.out.size
  have hz3 := hb3.size
  exact ⟨rfl, hbd.trans (((HK2.out.trans (hb3.mono hz2)).trans (hb4.mono (by omega))).mono hbd.size)⟩

theorem walk1 (a : Option Addr) (cap : Nat) (es : List En) (now : Int) (w : World) (h : EsAt w a es) (hok : ∀ x ∈ es, EnOk x) (hm : es.length ≤ maxLen) (h0 : -9223372036854775808 ≤ now) (h1 : now ≤ 9223372036854775807) :
    Calls Try.prog 3 #[.slice a es.length cap, .int .i64 now] w fun e w' => e = .returned (.bool true) ∧ Below w.heap.size w w' := by
  by_cases hbig : 1048576 < es.length
  · clear h hok
    go_enter Try.func3, Try.ntmps3
    go_wp2_with (first | (go_at_call 11; refine (bytes11_no _ _ _ _ _ hbig hm).mono ?_; rintro e w' ⟨rfl, rfl⟩))
    go_ret
    exact ⟨rfl, Below.refl _ _⟩
  by_cases hlen : es.length ≤ 16384
  · cases hr : reachB es with
    | false =>
      have HE := hid h
      clear h hok
      go_enter Try.func3, Try.ntmps3
      go_wp2_with (first | (go_at_call 11; refine (bytes11 _ _ _ _ _ (by omega)).mono ?_; rintro e w' ⟨rfl, rfl⟩) | (go_at_call 12; refine (reachable_any _ _ es _ HE.out hlen).mono ?_; rintro e w' ⟨rfl, rfl⟩))
      go_ret
      exact ⟨rfl, Below.refl _ _⟩
    | true =>
      cases hs : sortedB es with
      | false =>
        have HE := hid h
        clear h hok
        go_enter Try.func3, Try.ntmps3
        go_wp2_with (first | (go_at_call 11; refine (bytes11 _ _ _ _ _ (by omega)).mono ?_; rintro e w' ⟨rfl, rfl⟩) | (go_at_call 12; refine (reachable_any _ _ es _ HE.out hlen).mono ?_; rintro e w' ⟨rfl, rfl⟩) | (go_at_call 13; refine (sorted_any _ _ es _ HE.out hlen).mono ?_; rintro e w' ⟨rfl, nd, rfl⟩))
        go_ret
        exact ⟨rfl, bdrewN _ _⟩
      | true => exact law1_main a cap es now w h hok hlen h0 h1 hr hs
  · clear h hok
    unfold maxLen at hm
    go_enter Try.func3, Try.ntmps3
    go_wp2_with (first | (go_at_call 11; refine (bytes11 _ _ _ _ _ (by omega)).mono ?_; rintro e w' ⟨rfl, rfl⟩))
    go_ret
    exact ⟨rfl, Below.refl _ _⟩
end Go.Proofs.Qxb6612554a
