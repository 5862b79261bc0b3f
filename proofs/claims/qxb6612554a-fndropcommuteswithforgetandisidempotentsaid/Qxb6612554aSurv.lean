import Derived.Test.Qxb6612554aEs2
import Derived.Maps.AppendAt
namespace Go.Proofs.Qxb6612554a
open Go.RowKit
set_option linter.unusedVariables false
set_option linter.unusedSimpArgs false
attribute [local go_sem ↓] Go.wp_at_zero Go.wp_at_succ

def keepAt (es : List En) (now skip : Int) (j : Nat) : Bool := match es[j]? with
  | some x => !((j : Int) == skip) && (x.fl != 0 || !staleB now x.la)
  | none => false
/-- The survivors' indices among the first k. -/
def survF (es : List En) (now skip : Int) (k : Nat) : List Nat := (List.range k).filter (keepAt es now skip)
theorem survF_yes {es : List En} {now skip : Int} {k : Nat} (h : keepAt es now skip k = true) : survF es now skip (k + 1) = survF es now skip k ++ [k] := by
  simp [survF, List.range_succ, h]
theorem survF_no {es : List En} {now skip : Int} {k : Nat} (h : keepAt es now skip k = false) : survF es now skip (k + 1) = survF es now skip k := by
  simp [survF, List.range_succ, h]
theorem survF_le (es : List En) (now skip : Int) (k : Nat) : (survF es now skip k).length ≤ k := by
  have := List.length_filter_le (keepAt es now skip) (List.range k)
  simpa [survF] using this
def idxV (l : List Nat) : List Value := l.map fun j => .int .i64 (j : Nat)
theorem info3 : (Try.prog.info? 3).map (fun i => (i.zero, i.size, i.bytes)) = some (some (.int .i64 0), 1, 8) := by kernel_rfl

/-- The loop's relation, apart from the counter. -/
def SvR (w : World) (es : List En) (now skip : Int) (k : Nat) (v : Value) (wr : World) : Prop :=
  wr.ownsRow w.heap.size 3 1 v (survF es now skip k).length (idxV (survF es now skip k)) ∧ Below w.heap.size w wr

theorem SvR.no {w wr : World} {es : List En} {now skip : Int} {k : Nat} {v : Value} (h : SvR w es now skip k v wr) (hk : keepAt es now skip k = false) : SvR w es now skip (k + 1) v wr := by
  unfold SvR; rw [survF_no hk]; exact h
theorem keep_skip {es : List En} {now skip : Int} {k : Nat} {x : En} (hx : es[k]? = some x) (h : (k : Int) = skip) : keepAt es now skip k = false := by simp [keepAt, hx, h]
theorem keep_stale {es : List En} {now skip : Int} {k : Nat} {x : En} (hx : es[k]? = some x) (h : (x.fl != 0) = false) (ht : staleB now x.la = true) : keepAt es now skip k = false := by simp [keepAt, hx, h, ht]
theorem keep_yes {es : List En} {now skip : Int} {k : Nat} {x : En} (hx : es[k]? = some x) (h : ((k : Int) == skip) = false) (ht : (x.fl != 0) = true ∨ staleB now x.la = false) : keepAt es now skip k = true := by
  rcases ht with ht | ht <;> simp [keepAt, hx, h, ht]

theorem one_cell (n : Int) : ∀ u ∈ [Value.int .i64 n], u.oneCell' = true := by intro u hu; simp at hu; subst hu; rfl
theorem SvR.yes {w wr w2 : World} {es : List En} {now skip : Int} {k : Nat} {v v' : Value} {ob : Obj} (h : SvR w es now skip k v wr) (hk : keepAt es now skip k = true)
    (hown : w2.ownsRow w.heap.size 3 1 v' ((survF es now skip k).length + 1) (idxV (survF es now skip k) ++ [.int .i64 (k : Nat)])) (hg : (wr.alloc ob).grownBy w2 v.ownBlock) : SvR w es now skip (k + 1) v' w2 := by
  unfold SvR
  rw [survF_yes hk]
  refine ⟨by simpa [idxV] using hown, (h.2.alloc h.2.size ob).grown hg (by have := h.2.size; simp; omega) ?_⟩
  intro j hj
  obtain ⟨_, h2⟩ := h.1
  rcases h2 with ⟨hv, _⟩ | ⟨g, cap, cur, hv, hg', _⟩
  · rw [hv] at hj; cases hj
  · rw [hv] at hj; simp [Value.ownBlock] at hj; omega

set_option maxRecDepth 100000 in
set_option maxHeartbeats 1000000 in
theorem survivors_any (a : Option Addr) (cap : Nat) (es : List En) (now skip : Int) (w : World) (h : EsAt w a es) (hok : ∀ x ∈ es, EnOk x) (hlen : es.length ≤ 16384) (h0 : -9223372036854775808 ≤ now) (h1 : now ≤ 9223372036854775807) :
    Calls Try.prog 17 #[.slice a es.length cap, .int .i64 now, .int .i64 skip] w fun e w' => ∃ v, e = .returned v ∧ SvR w es now skip es.length v w' := by
  have HE : Hid (EsAt w a es) := h
  have HO : Hid (∀ x ∈ es, EnOk x) := hok
  clear h hok
  obtain ⟨i0, hi, hz0, hz1, hz2⟩ := info_parts info3
  go_enter Try.func17, Try.ntmps17
  go_wp2_with (first | (at_make; refine wpList_make_own _ rfl _ _ 31 rfl w.heap.size 3 i0 (.int .i64 0) 1 Try.underlying31 hi hz0 hz1 .i64 .i64 _ es.length rfl rfl rfl (by rw [hz2]; omega) (by unfold maxLen; omega) (Nat.le_refl _) ?_; intro w1 hown hgrow))
  have hst : SvR w es now skip 0 (.slice (some ⟨w.heap.size, 0, none⟩) 0 es.length) w1 := ⟨hown, (Below.refl _ _).grown hgrow (Nat.le_refl _) (by intro k hk; cases hk)⟩
  have HS : Hid _ := hst
  clear hst hown hgrow
  go_loopw [7, 8] (fun v i wr => ∃ k : Nat, k ≤ es.length ∧ i = .int .i64 k ∧ SvR w es now skip k v wr) (fun _ i _ => es.length - (intOf i).toNat)
  case atStart => exact ⟨0, Nat.zero_le _, rfl, HS.out⟩
  case round =>
    obtain ⟨k, hk, rfl, hR⟩ := hrel
    have HR : Hid (SvR w es now skip k u7 wr) := hR
    clear hR
    by_cases hlt : k < es.length
    · obtain ⟨x, hx⟩ : ∃ x, es[k]? = some x := ⟨es[k], by simp [hlt]⟩
      have hxo := HO.out x (List.mem_of_getElem? hx)
      obtain ⟨b, o, rfl, c0, c1, c2, c3⟩ := (HE.out.below HR.out.2) k x hx
      have HX : Hid (es[k]? = some x) := hx
      have g0 := hxo.2.2.1.1
      have g1 := hxo.2.2.1.2
      clear hx hxo c0 c1
      have hk0 : (0 : Int) ≤ (k : Int) := by omega
      have hk1 : (k : Int) < (es.length : Int) := by omega
      by_cases hs : (k : Int) = skip
      · have hs' : ((k : Int) == skip) = true := by simpa using hs
        have HSk : Hid ((k : Int) = skip) := hs
        clear hs
        go_wp2
        go_roundw
        case rel => exact ⟨k + 1, by omega, by go_num, HR.out.no (keep_skip HX.out HSk.out)⟩
        case measure => simp [intOf]; omega
      · have hs' : ((k : Int) == skip) = false := by simpa using hs
        by_cases hf : x.fl = 0
        · have hf' : (x.fl != 0) = false := by simpa using hf
          clear hf
          by_cases ht : staleB now x.la = true
          · go_wp2_with (first | (go_at_call 42; refine (stale_any now x.la _ h0 h1 g0 g1).mono ?_; rintro e w' ⟨rfl, rfl⟩))
            go_roundw
            case rel => exact ⟨k + 1, by omega, by go_num, HR.out.no (keep_stale HX.out hf' ht)⟩
            case measure => simp [intOf]; omega
          · have ht' : staleB now x.la = false := by simpa using ht
            have hsl := survF_le es now skip k
            go_wp2_with (first | (at_builtin; refine wpList_append_own _ rfl _ _ 31 rfl w.heap.size 3 i0 (.int .i64 0) 1 8 Try.underlying31 hi hz0 hz1 hz2 rfl (by decide) _ _ _ rfl (HR.out.1.alloc _) ⟨wr.heap.size, 0, none⟩ 1 1 [.int .i64 (k : Nat)] rfl rfl (cell_one_new _ _ _) (one_cell _) (by unfold maxLen; omega) (by omega) (by have := HR.out.2.size; simp; omega) ?_; intro v' w2 hown2 hgrow2 _) | (go_at_call 42; refine (stale_any now x.la _ h0 h1 g0 g1).mono ?_; rintro e w' ⟨rfl, rfl⟩))
            have HR2 := HR.out.yes (keep_yes HX.out hs' (Or.inr ht')) hown2 hgrow2
            clear hown2 hgrow2
            go_wp2
            go_roundw
            case rel => exact ⟨k + 1, by omega, by go_num, HR2⟩
            case measure => simp [intOf]; omega
        · have hf' : (x.fl != 0) = true := by simpa using hf
          have hsl := survF_le es now skip k
          go_wp2_with (first | (at_builtin; refine wpList_append_own _ rfl _ _ 31 rfl w.heap.size 3 i0 (.int .i64 0) 1 8 Try.underlying31 hi hz0 hz1 hz2 rfl (by decide) _ _ _ rfl (HR.out.1.alloc _) ⟨wr.heap.size, 0, none⟩ 1 1 [.int .i64 (k : Nat)] rfl rfl (cell_one_new _ _ _) (one_cell _) (by unfold maxLen; omega) (by omega) (by have := HR.out.2.size; simp; omega) ?_; intro v' w2 hown2 hgrow2 _))
          have HR2 := HR.out.yes (keep_yes HX.out hs' (Or.inl hf')) hown2 hgrow2
          clear hown2 hgrow2
          go_wp2
          go_roundw
          case rel => exact ⟨k + 1, by omega, by go_num, HR2⟩
          case measure => simp [intOf]; omega
    · go_wp2
      go_ret
      have e : k = es.length := by omega
      exact ⟨_, rfl, by rw [← e]; exact HR.out⟩
end Go.Proofs.Qxb6612554a
