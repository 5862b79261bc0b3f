import Derived.Test.Qxb6612554aMatch
namespace Go.Proofs.Qxb6612554a
open Go.RowKit
set_option linter.unusedVariables false
set_option linter.unusedSimpArgs false

def keepN (now : Int) (n : Nd) : Bool := busy n || fresh now n
def InI (x : Int) : Prop := -9223372036854775808 ≤ x ∧ x ≤ 9223372036854775807

theorem fresh_stale {now : Int} {n : Nd} (h0 : InI now) (h1 : InI n.la) : fresh now n = !staleB now n.la := by
  unfold fresh staleB clamp InI at *
  rw [Bool.eq_iff_iff]
  simp
  split <;> (try split) <;> omega
theorem fresh_mono {now : Int} {a b : Nd} (h : a.la ≤ b.la) (hf : fresh now a = true) : fresh now b = true := by
  unfold fresh clamp at *
  simp at hf ⊢
  split at hf <;> (try split at hf) <;> split <;> (try split) <;> omega
theorem fresh_back {now1 now2 : Int} {a : Nd} (h : now1 ≤ now2) (hf : fresh now2 a = true) : fresh now1 a = true := by
  unfold fresh clamp at *
  simp at hf ⊢
  split at hf <;> (try split at hf) <;> split <;> (try split) <;> omega

theorem forgetL_filter {now : Int} : ∀ {ns : List Nd}, ns.Pairwise (fun a b => a.la ≤ b.la) → forgetL now ns = ns.filter (keepN now)
  | [], _ => rfl
  | n :: r, h => by
    rw [List.pairwise_cons] at h
    have ih := forgetL_filter (now := now) h.2
    unfold forgetL
    by_cases hf : fresh now n = true
    · rw [if_pos hf]
      have : (n :: r).filter (keepN now) = n :: r := by
        rw [List.filter_eq_self]
        intro m hm
        unfold keepN
        rcases List.mem_cons.1 hm with rfl | hm
        · simp [hf]
        · simp [fresh_mono (h.1 m hm) hf]
      rw [this]
    · rw [if_neg hf]
      have hf' : fresh now n = false := by simpa using hf
      by_cases hb : busy n = true
      · rw [if_pos hb, ih, List.filter_cons_of_pos (by simp [keepN, hb])]
      · rw [if_neg hb, ih, List.filter_cons_of_neg (by simp [keepN, hf', hb])]

theorem sorted_pairs : ∀ {es : List En}, sortedB es = true → ∀ (i j : Nat) (x y : En), i < j → es[i]? = some x → es[j]? = some y → x.la ≤ y.la
  | [], _, i, j, x, y, _, h, _ => by simp at h
  | [a], _, i, j, x, y, hij, _, h => by
    rw [List.getElem?_eq_none (by simp; omega)] at h; cases h
  | a :: b :: r, hs, i, j, x, y, hij, hx, hy => by
    simp [sortedB] at hs
    cases j with
    | zero => omega
    | succ j =>
      cases i with
      | zero =>
        simp at hx; subst hx
        cases j with
        | zero => simp at hy; subst hy; exact hs.1
        | succ j => exact Int.le_trans hs.1 (sorted_pairs hs.2 0 (j + 1) b y (by omega) rfl (by simpa using hy))
      | succ i => exact sorted_pairs hs.2 i j x y (by omega) (by simpa using hx) (by simpa using hy)

theorem Made.sorted {es : List En} {ns : List Nd} (h : Made es ns) (hs : sortedB es = true) : ns.Pairwise (fun a b => a.la ≤ b.la) := by
  rw [List.pairwise_iff_getElem]
  intro i j hi hj hij
  have h1 := (h i ns[i] (by simp)).2
  have h2 := (h j ns[j] (by simp)).2
  exact sorted_pairs hs i j _ _ hij h1 h2
theorem Made.idx {es : List En} {ns : List Nd} (h : Made es ns) : ns.map (·.i) = List.range ns.length := by
  apply List.ext_getElem?
  intro k
  rw [List.getElem?_map]
  by_cases hk : k < ns.length
  · rw [List.getElem?_range hk]
    have h1 := (h k ns[k] (by simp)).1
    simp [hk, h1]
  · rw [List.getElem?_eq_none (by omega), List.getElem?_eq_none (by simp; omega)]; rfl
theorem Made.at {es : List En} {ns : List Nd} (h : Made es ns) {n : Nd} (hn : n ∈ ns) : es[n.i]? = some ⟨n.f, n.lf, n.la, n.fl⟩ := by
  obtain ⟨k, hk⟩ := List.getElem?_of_mem hn
  obtain ⟨h1, h2⟩ := h k n hk
  rw [h1]; exact h2

/-- A part of the nodes, picked by what the survivors are picked by, fits the survivors. -/
theorem fits_filter {es : List En} {ns : List Nd} {now skip : Int} (h : Made es ns) (hl : ns.length = es.length) (p : Nd → Bool) (hp : ∀ n ∈ ns, p n = keepAt es now skip n.i) : Fits es (ns.filter p) (survF es now skip es.length) := by
  have e : (ns.filter p).map (·.i) = survF es now skip es.length := by
    unfold survF
    rw [← hl, ← h.idx, List.filter_map]
    congr 1
    exact List.filter_congr (fun n hn => hp n hn)
  refine ⟨by rw [← e, List.length_map], fun k n hk => ⟨?_, h.at (List.mem_filter.1 (List.mem_of_getElem? hk)).1⟩⟩
  rw [← e, List.getElem?_map, hk]; rfl
theorem keep_at {es : List En} {ns : List Nd} {now skip : Int} (h : Made es ns) (h0 : InI now) (hok : ∀ x ∈ es, EnOk x) {n : Nd} (hn : n ∈ ns) : keepAt es now skip n.i = (!((n.i : Int) == skip) && keepN now n) := by
  have hx := h.at hn
  have hb := (hok _ (List.mem_of_getElem? hx)).2.2.1
  unfold keepAt keepN
  rw [hx, fresh_stale h0 hb]
  rfl
theorem Made.la {es : List En} {ns : List Nd} (h : Made es ns) (hok : ∀ x ∈ es, EnOk x) : ∀ n ∈ ns, -9223372036854775808 ≤ n.la ∧ n.la ≤ 9223372036854775807 := fun n hn =>
  (hok _ (List.mem_of_getElem? (h.at hn))).2.2.1
end Go.Proofs.Qxb6612554a
