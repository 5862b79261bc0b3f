import Derived.Test.Qxb6612554aLaw1
namespace Go.Proofs.Qxb6612554a
open Go.RowKit
set_option linter.unusedVariables false
set_option linter.unusedSimpArgs false

theorem Gone.b_not {w : World} {L lb mb : Nat} {nx pv : Nat → Nat} {ns : List Nd} (h : Lim w L lb mb nx pv ns) {n : Nd} (hg : Gone w n) : ¬ Own lb mb ns n.b := by
  have hn := hg.1
  rintro (e | e | ⟨m, hm, e⟩)
  · have := h.lst; rw [e] at hn; rw [hn] at this; simp at this
  · obtain ⟨es, c, hm, _⟩ := h.map; rw [e] at hn; rw [hn] at hm; simp at hm
  · have := h.elem m hm; rw [e] at hn; rw [hn] at this; simp at this
theorem Gone.keep {w w' : World} {L lb mb : Nat} {nx pv : Nat → Nat} {ns : List Nd} (h : Lim w L lb mb nx pv ns) {n : Nd} (hg : Gone w n) (hk : Kp (Own lb mb ns) w w') : Gone w' n :=
  ⟨hk.keep hg.1 (hg.b_not h), hk.keep hg.2 (h.e_not hg.2)⟩
theorem Gone.keep0 {w w' : World} {n : Nd} (hg : Gone w n) (hb : Below w.heap.size w w') : Gone w' n :=
  ⟨by rw [hb.block _ (lt_of_block hg.1)]; exact hg.1, by unfold EntAt; rw [hb.block _ (lt_of_block hg.2)]; exact hg.2⟩

/-- A limiter that was built over es on the world w0 and holds now just the nodes that p names. -/
structure Has (w0 : World) (B G : Nat) (es : List En) (all : List Nd) (p : Nd → Bool) (wr : World) : Prop where
  lim : ∃ nx pv, Lim wr (B + 2) (B + 1) B nx pv (all.filter p)
  made : Made es all
  len : all.length = es.length
  own : w0.heap.size ≤ B ∧ ∀ n ∈ all, w0.heap.size ≤ n.b
  row : wr.rowIs G 37 es.length (elsF all)
  gnot : ¬ Own (B + 1) B all G
  gone : ∀ n ∈ all, p n = false → Gone wr n
  below : Below w0.heap.size w0 wr

theorem Made.inj {es : List En} {ns : List Nd} (h : Made es ns) {m n : Nd} (hm : m ∈ ns) (hn : n ∈ ns) (e : m.i = n.i) : m = n := by
  obtain ⟨j, hj⟩ := List.getElem?_of_mem hm
  obtain ⟨k, hk⟩ := List.getElem?_of_mem hn
  have e1 := (h j m hj).1
  have e2 := (h k n hk).1
  rw [e1, e2] at e
  rw [e, hk] at hj
  injection hj with hj
  exact hj.symm
theorem Made.lt {es : List En} {ns : List Nd} (h : Made es ns) {n : Nd} (hn : n ∈ ns) : n.i < ns.length := by
  obtain ⟨k, hk⟩ := List.getElem?_of_mem hn
  rw [(h k n hk).1]
  exact (List.getElem?_eq_some_iff.1 hk).1

section
variable {w0 wr : World} {B G : Nat} {es : List En} {all : List Nd} {p : Nd → Bool}

theorem BuSt.has {nx pv : Nat → Nat} (h : BuSt w0 B G es nx pv all wr) (hl : all.length = es.length) : Has w0 B G es all (fun _ => true) wr := by
  refine ⟨⟨nx, pv, ?_⟩, h.made, hl, h.own, h.row, h.G_not, fun n _ hp => (by cases hp), h.below⟩
  rw [List.filter_eq_self.2 (by simp)]
  exact h.lim

theorem Has.kp {w' : World} (h : Has w0 B G es all p wr) (hk : Kp (Own (B + 1) B (all.filter p)) wr w') : Below w0.heap.size w0 w' :=
  h.below.trans (hk.below h.below.size fun k hf => by
    rcases hf with rfl | rfl | ⟨n, hn, rfl⟩
    · have := h.own.1; omega
    · exact h.own.1
    · exact h.own.2 n (List.mem_filter.1 hn).1)
theorem Has.rowK {w' : World} (h : Has w0 B G es all p wr) (hk : Kp (Own (B + 1) B (all.filter p)) wr w') : w'.rowIs G 37 es.length (elsF all) :=
  h.row.of_block (hk.block G h.row.lt fun hf => h.gnot (by
    rcases hf with rfl | rfl | ⟨n, hn, rfl⟩
    · exact .inl rfl
    · exact .inr (.inl rfl)
    · exact .inr (.inr ⟨n, (List.mem_filter.1 hn).1, rfl⟩)))

/-- What is laid beside the limiter leaves it as it is. -/
theorem Has.keep0 {w' : World} (h : Has w0 B G es all p wr) (hb : Below wr.heap.size wr w') : Has w0 B G es all p w' := by
  obtain ⟨nx, pv, hl⟩ := h.lim
  exact ⟨⟨nx, pv, hl.keep0 hb⟩, h.made, h.len, h.own, h.row.of_block (hb.block G h.row.lt), h.gnot, fun n hn hp => (h.gone n hn hp).keep0 hb, h.below.trans (hb.mono h.below.size)⟩

theorem Has.congr {q : Nd → Bool} (h : Has w0 B G es all p wr) (e : ∀ n ∈ all, p n = q n) : Has w0 B G es all q wr := by
  obtain ⟨nx, pv, hl⟩ := h.lim
  refine ⟨⟨nx, pv, ?_⟩, h.made, h.len, h.own, h.row, h.gnot, fun n hn hp => h.gone n hn (by rw [e n hn]; exact hp), h.below⟩
  rw [← List.filter_congr e]
  exact hl

theorem forget_has (now : Int) (h : Has w0 B G es all p wr) (hs : sortedB es = true) (hok : ∀ x ∈ es, EnOk x) (h0 : -9223372036854775808 ≤ now) (h1 : now ≤ 9223372036854775807) :
    Calls Try.prog 15 #[P (B + 2), .int .i64 now] wr fun e w' => e = .returned (.tuple #[]) ∧ Has w0 B G es all (fun n => keepN now n && p n) w' := by
  obtain ⟨nx, pv, hl⟩ := h.lim
  refine (zzForget_any _ _ _ nx pv (all.filter p) now _ hl h0 h1 fun n hn => h.made.la hok n (List.mem_filter.1 hn).1).mono ?_
  rintro e w' ⟨rfl, nx2, pv2, hl2, hg2, hk2⟩
  have hf : forgetL now (all.filter p) = all.filter (fun n => keepN now n && p n) := by
    rw [forgetL_filter ((h.made.sorted hs).filter _), List.filter_filter]
  rw [hf] at hl2 hg2
  refine ⟨rfl, ⟨nx2, pv2, hl2⟩, h.made, h.len, h.own, h.rowK hk2, h.gnot, fun n hn hp => ?_, h.kp hk2⟩
  cases hpn : p n with
  | false => exact (h.gone n hn hpn).keep hl hk2
  | true => exact hg2 n (List.mem_filter.2 ⟨hn, hpn⟩) fun hm => by rw [(List.mem_filter.1 hm).2] at hp; cases hp

theorem drop_has {n : Nd} (h : Has w0 B G es all p wr) (hn : n ∈ all) (hlen : es.length ≤ 16384) :
    Calls Try.prog 20 #[P (B + 2), P n.b] wr fun e w' => e = .returned (.tuple #[]) ∧ Has w0 B G es all (fun m => !(m.i == n.i) && p m) w' := by
  obtain ⟨nx, pv, hl⟩ := h.lim
  cases hp : p n with
  | true =>
    obtain ⟨xs, ys, hxy⟩ := List.append_of_mem (List.mem_filter.2 ⟨hn, hp⟩)
    have hl' := hl
    rw [hxy] at hl'
    refine (zzDrop_in hl').mono ?_
    rintro e w' ⟨rfl, nx2, pv2, hl2, hg2, hk2⟩
    have hf : xs ++ ys = all.filter (fun m => !(m.i == n.i) && p m) := by
      rw [← List.filter_filter, hxy]
      have hnd := hl'.idx
      rw [List.map_append, List.map_cons] at hnd
      have hnd2 := List.nodup_append.1 hnd
      have hnd3 := List.nodup_cons.1 hnd2.2.1
      rw [List.filter_append, List.filter_cons_of_neg (by simp)]
      congr 1
      · symm; rw [List.filter_eq_self]
        intro m hm
        have := hnd2.2.2 m.i (List.mem_map_of_mem hm) n.i (by simp)
        simpa using this
      · symm; rw [List.filter_eq_self]
        intro m hm
        have : m.i ≠ n.i := fun e => hnd3.1 (by rw [← e]; exact List.mem_map_of_mem hm)
        simpa using this
    rw [hf] at hl2
    rw [← hxy] at hk2
    refine ⟨rfl, ⟨nx2, pv2, hl2⟩, h.made, h.len, h.own, h.rowK hk2, h.gnot, fun m hm hpm => ?_, h.kp hk2⟩
    by_cases he : m.i = n.i
    · rw [h.made.inj hm hn he]; exact hg2
    · refine (h.gone m hm ?_).keep hl hk2
      have : (!(m.i == n.i)) = true := by simpa using he
      rw [this] at hpm; simpa using hpm
  | false =>
    have hg := h.gone n hn hp
    have hlt := h.made.lt hn
    rw [h.len] at hlt
    refine (zzDrop_out hl hg (by omega) fun hm => ?_).mono ?_
    · obtain ⟨m, hm, e⟩ := List.mem_map.1 hm
      have := h.made.inj (List.mem_filter.1 hm).1 hn e
      rw [this] at hm
      rw [(List.mem_filter.1 hm).2] at hp; cases hp
    · rintro e w' ⟨rfl, hb⟩
      refine ⟨rfl, (h.keep0 hb).congr fun m hm => ?_⟩
      by_cases he : m.i = n.i
      · rw [h.made.inj hm hn he, hp]; simp
      · have : (!(m.i == n.i)) = true := by simpa using he
        rw [this]; simp

theorem match_has {a aw : Option Addr} {cap capw : Nat} {now skip : Int} (h : Has w0 B G es all p wr) (hp : ∀ n ∈ all, p n = keepAt es now skip n.i) (he : EsAt w0 a es) (hw : WantAt w0 aw (survF es now skip es.length)) (hok : ∀ x ∈ es, EnOk x) (hlen : es.length ≤ 16384) :
    Calls Try.prog 16 #[P (B + 2), .slice aw (survF es now skip es.length).length capw, .slice a es.length cap] wr fun e w' => e = .returned (.bool true) ∧ Below wr.heap.size wr w' ∧ Has w0 B G es all p w' := by
  obtain ⟨nx, pv, hl⟩ := h.lim
  refine (matches_any _ _ _ nx pv _ _ es a aw cap capw _ hl (fits_filter h.made h.len p hp) (he.below h.below) (hw.below h.below) hok hlen).mono ?_
  rintro e w' ⟨rfl, hb, -⟩
  exact ⟨rfl, hb, h.keep0 hb⟩
end

theorem build_has (a : Option Addr) (cap : Nat) (es : List En) (now : Int) (w : World) (h : EsAt w a es) (hok : ∀ x ∈ es, EnOk x) (hlen : es.length ≤ 16384) (h0 : -9223372036854775808 ≤ now) (h1 : now ≤ 9223372036854775807) :
    Calls Try.prog 14 #[.slice a es.length cap, .int .i64 now] w fun e w' => ∃ B G all, e = .returned (.tuple #[P (B + 2), .slice (some ⟨G, 0, none⟩) es.length es.length]) ∧ Has w B G es all (fun _ => true) w' := by
  refine (build_any a cap es now w h hok hlen h0 h1).mono ?_
  rintro e w' ⟨B, G, nx, pv, ns, rfl, hnl, hst⟩
  exact ⟨B, G, ns, rfl, hst.has hnl⟩
end Go.Proofs.Qxb6612554a
