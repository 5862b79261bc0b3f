import Derived.Test.Qxb6612554aKey
import Derived.Test.Qxb6612554aList
import Derived.ProofKit
namespace Go.Proofs.Qxb6612554a
open Go.RowKit
open Go.ChangeMaps (setBlock)
set_option linter.unusedVariables false
set_option linter.unusedSimpArgs false

theorem laidOut : laidOutB Try.prog = true := by kernel_rfl
theorem ntypes : Try.prog.types.size = 164 + 2 := by kernel_rfl
theorem cells5 : Try.prog.cellsOf 5 = 1 := by kernel_rfl
theorem cells49 : Try.prog.cellsOf 49 = 32 := by kernel_rfl
theorem keyType49 : Try.prog.keyType 49 = true := by kernel_rfl
theorem law49 : WideMaps.KeyLaw Try.prog 49 := deep_law_laid laidOut (m := 2) (by omega) (of_decide_eq_true (by kernel_rfl)) (by kernel_rfl) (by kernel_rfl)

theorem mapM_all {α β : Type} {f : α → Option β} {g : α → β} : ∀ l : List α, (∀ x ∈ l, f x = some (g x)) → l.mapM f = some (l.map g)
  | [], _ => rfl
  | x :: l, h => by
    rw [List.mapM_cons, h x (by simp), mapM_all l (fun y hy => h y (by simp [hy]))]; rfl

def knum (i j : Nat) : Int := if j < 8 then ((i / 256 ^ j % 256 : Nat) : Int) else if j = 31 then 165 else 0
theorem kcell_num (i j : Nat) : kcell i j = .int .u8 (knum i j) := by unfold kcell knum; split <;> (try split) <;> rfl
theorem knum_wf (i j : Nat) : (Lit.int .u8 (knum i j)).wf = true := by
  have : 0 ≤ knum i j ∧ knum i j ≤ 255 := by
    unfold knum; split
    · omega
    · split <;> omega
  simp [Lit.wf, IntKind.min, IntKind.max, IntKind.bits, IntKind.signed]; omega
theorem kc_get (i j : Nat) (h : j < 32) : ((kc i).drop (j * Try.prog.cellsOf 5)).take (Try.prog.cellsOf 5) = [.int .u8 (knum i j)] := by
  rw [cells5, Nat.mul_one]
  have : (kc i).drop j = kcell i j :: (kc i).drop (j + 1) := by
    rw [List.drop_eq_getElem_cons (by rw [kc_len]; exact h)]
    congr 1
    simp [kc]
  rw [this, List.take_succ_cons, kcell_num]; rfl
theorem K_ok (i : Nat) : ∃ l, keyOf Try.prog 49 (K i) = some l := by
  have hf : (K i).formed Try.prog 49 = true := by simp [K, Value.formed, Try.underlying49, cells49, kc_len]
  have hk : Try.prog.keyLits (Try.prog.types.size + 1) 49 (K i).cells.toList = some (((List.range 32).map fun j => [Lit.int .u8 (knum i j)]).flatten) := by
    rw [ntypes]
    show Try.prog.keyLits (165 + 1 + 1) 49 (kc i) = _
    unfold Program.keyLits
    simp only [Try.underlying49, kc_len, cells49, if_true]
    rw [mapM_all (g := fun j => [Lit.int .u8 (knum i j)])]
    · rfl
    · intro j hj
      rw [kc_get i j (by simpa using hj)]
      unfold Program.keyLits
      simp only [Try.underlying5]
      rw [if_pos ⟨trivial, knum_wf i j⟩]
  unfold keyOf
  simp only [Try.underlying49, keyType49, hf, Bool.and_self, if_true, hk]
  exact ⟨_, rfl⟩
theorem K_inj {i j : Nat} (hi : i ≤ 65535) (hj : j ≤ 65535) (h : K i = K j) : i = j := by
  have h1 : kc i = kc j := by
    unfold K at h
    injection h with h
    simpa using h
  have h0 : kcell i 0 = kcell j 0 := by
    have : (kc i)[0]? = (kc j)[0]? := by rw [h1]
    simpa [kc] using this
  have h2 : kcell i 1 = kcell j 1 := by
    have : (kc i)[1]? = (kc j)[1]? := by rw [h1]
    simpa [kc] using this
  simp [kcell] at h0 h2
  omega

/-- What the map holds, in its order: of each key's number its element's block. -/
def Holds (es : Array MapEntry) (ps : List (Nat × Nat)) : Prop := es.toList.map (fun x => (x.key, x.val)) = ps.map (fun p => (K p.1, P p.2))

theorem Holds.size {es : Array MapEntry} {ps : List (Nat × Nat)} (h : Holds es ps) : es.size = ps.length := by
  have := congrArg List.length h
  simpa using this
theorem Holds.at {es : Array MapEntry} {ps : List (Nat × Nat)} (h : Holds es ps) (j : Nat) (e : MapEntry) (he : es.toList[j]? = some e) : ∃ p, ps[j]? = some p ∧ e.key = K p.1 ∧ e.val = P p.2 := by
  have : (es.toList.map (fun x => (x.key, x.val)))[j]? = (ps.map (fun p => (K p.1, P p.2)))[j]? := by rw [h]
  rw [List.getElem?_map, List.getElem?_map, he] at this
  cases hp : ps[j]? with
  | none => rw [hp] at this; simp at this
  | some p =>
    rw [hp] at this
    simp only [Option.map_some, Option.some.injEq, Prod.mk.injEq] at this
    exact ⟨p, rfl, this.1, this.2⟩
theorem Holds.ok {es : Array MapEntry} {ps : List (Nat × Nat)} (h : Holds es ps) : ∀ e ∈ es.toList, ∃ l, keyOf Try.prog 49 e.key = some l := fun e he => by
  obtain ⟨j, hj⟩ := List.getElem?_of_mem he
  obtain ⟨p, _, h2, _⟩ := h.at j e hj
  rw [h2]; exact K_ok _

theorem find_in {es : Array MapEntry} {ps : List (Nat × Nat)} (h : Holds es ps) (hs : ∀ p ∈ ps, p.1 ≤ 65535) (nd : (ps.map (·.1)).Nodup) {j i b : Nat} (hp : ps[j]? = some (i, b)) (w : World) :
    (Instr.findKey 49 (K i) es.toList).run Try.prog w = .ok (some (j, P b)) w := by
  obtain ⟨l, hl⟩ := K_ok i
  have hi : i ≤ 65535 := hs (i, b) (List.mem_of_getElem? hp)
  rcases law49.find w hl es.toList h.ok with ⟨_, hn⟩ | ⟨j', e, hr, he, hk⟩
  · exfalso
    have : (es.toList.map (fun x => (x.key, x.val)))[j]? = some (K i, P b) := by rw [h, List.getElem?_map, hp]; rfl
    rw [List.getElem?_map] at this
    obtain ⟨e, he, h2⟩ := Option.map_eq_some_iff.1 this
    exact hn e (List.mem_of_getElem? he) (by injection h2)
  · obtain ⟨⟨i', b'⟩, hp', h2, h3⟩ := h.at j' e he
    have e1 : i = i' := K_inj hi (hs (i', b') (List.mem_of_getElem? hp')) (by rw [← hk, h2])
    subst e1
    have hj : j' = j := by
      have hlt : j' < (ps.map (·.1)).length := by have := (List.getElem?_eq_some_iff.1 hp').1; simpa using this
      have ea : (ps.map (·.1))[j']? = (ps.map (·.1))[j]? := by rw [List.getElem?_map, List.getElem?_map, hp, hp']; rfl
      exact (List.getElem?_inj hlt nd).1 ea
    subst hj
    rw [hp] at hp'
    have e4 : b = b' := (Prod.mk.inj (Option.some.inj hp')).2
    rw [hr, h3, e4]

theorem find_out {es : Array MapEntry} {ps : List (Nat × Nat)} (h : Holds es ps) (hs : ∀ p ∈ ps, p.1 ≤ 65535) {i : Nat} (hi : i ≤ 65535) (hn : i ∉ ps.map (·.1)) (w : World) :
    (Instr.findKey 49 (K i) es.toList).run Try.prog w = .ok none w := by
  obtain ⟨l, hl⟩ := K_ok i
  rcases law49.find w hl es.toList h.ok with ⟨hr, _⟩ | ⟨j', e, hr, he, hk⟩
  · exact hr
  · exfalso
    obtain ⟨⟨i', b'⟩, hp', h2, _⟩ := h.at j' e he
    have e1 : i = i' := K_inj hi (hs (i', b') (List.mem_of_getElem? hp')) (by rw [← hk, h2])
    rw [e1] at hn
    exact hn (List.mem_map.2 ⟨(i', b'), List.mem_of_getElem? hp', rfl⟩)

theorem check49 (w : World) (em : Bool) (i : Nat) : (Instr.checkKey em 10000 49 (K i)).run Try.prog w = .ok () w := by
  obtain ⟨l, hl⟩ := K_ok i
  exact law49.check w em hl

theorem look_in {es : Array MapEntry} {ps : List (Nat × Nat)} (h : Holds es ps) (hs : ∀ p ∈ ps, p.1 ≤ 65535) (nd : (ps.map (·.1)).Nodup) {j i b mb c : Nat} (hp : ps[j]? = some (i, b)) {w : World} (hb : w.heap[mb]? = some (.map es c)) :
    (Instr.lookup 88 (.map (some mb)) (K i) false).run Try.prog w = .ok (P b) w := by
  simp [Instr.lookup, run_underlying Try.underlying88, MapKept.run_getObj_map hb, check49, find_in h hs nd hp, Result.andThen]

theorem upd_out {es : Array MapEntry} {ps : List (Nat × Nat)} (h : Holds es ps) (hs : ∀ p ∈ ps, p.1 ≤ 65535) {i b mb c : Nat} (hi : i ≤ 65535) (hn : i ∉ ps.map (·.1)) {w : World} (hb : w.heap[mb]? = some (.map es c)) :
    (Instr.mapUpdate 88 (.map (some mb)) (K i) (P b)).run Try.prog w = .ok () (setBlock w mb (.map (es.push ⟨K i, P b, c⟩) (c + 1))) := by
  simp [Instr.mapUpdate, run_underlying Try.underlying88, MapKept.run_getObj_map hb, check49, find_out h hs hi hn, MapKept.run_setObj_map _ hb, Result.andThen, setBlock]
theorem Holds.push {es : Array MapEntry} {ps : List (Nat × Nat)} (h : Holds es ps) (i b c : Nat) : Holds (es.push ⟨K i, P b, c⟩) (ps ++ [(i, b)]) := by
  unfold Holds at *
  simp [h]

theorem del_in {es : Array MapEntry} {ps : List (Nat × Nat)} (h : Holds es ps) (hs : ∀ p ∈ ps, p.1 ≤ 65535) (nd : (ps.map (·.1)).Nodup) {j i b mb c ty : Nat} (hp : ps[j]? = some (i, b)) {w : World} (hb : w.heap[mb]? = some (.map es c)) :
    (Builtin.delete_ #[88, 49] ty #[.map (some mb), K i]).run Try.prog w = .ok (.tuple #[]) (setBlock w mb (.map (es.eraseIdxIfInBounds j) c)) := by
  simp [Builtin.delete_, run_underlying Try.underlying88, MapKept.run_getObj_map hb, check49, find_in h hs nd hp, MapKept.run_setObj_map _ hb, Result.andThen, setBlock]
theorem del_out {es : Array MapEntry} {ps : List (Nat × Nat)} (h : Holds es ps) (hs : ∀ p ∈ ps, p.1 ≤ 65535) {i mb c ty : Nat} (hi : i ≤ 65535) (hn : i ∉ ps.map (·.1)) {w : World} (hb : w.heap[mb]? = some (.map es c)) :
    (Builtin.delete_ #[88, 49] ty #[.map (some mb), K i]).run Try.prog w = .ok (.tuple #[]) (setBlock w mb (.map es c)) := by
  simp [Builtin.delete_, run_underlying Try.underlying88, MapKept.run_getObj_map hb, check49, find_out h hs hi hn, MapKept.run_setObj_map _ hb, Result.andThen, setBlock]
theorem map_erase {α β : Type} (f : α → β) : ∀ (l : List α) (n : Nat), (l.eraseIdx n).map f = (l.map f).eraseIdx n
  | [], _ => by simp
  | x :: l, 0 => by simp
  | x :: l, n + 1 => by simp [map_erase f l n]
theorem erase_mid {α : Type} (p : α) (bs : List α) : ∀ xs : List α, (xs ++ p :: bs).eraseIdx xs.length = xs ++ bs
  | [] => rfl
  | x :: xs => by simp [erase_mid p bs xs]
theorem Holds.erase {es : Array MapEntry} {xs bs : List (Nat × Nat)} {p : Nat × Nat} (h : Holds es (xs ++ p :: bs)) : Holds (es.eraseIdxIfInBounds xs.length) (xs ++ bs) := by
  have hsz := h.size
  unfold Holds at *
  have hlt : xs.length < es.size := by simp at hsz; omega
  rw [Array.eraseIdxIfInBounds_eq, dif_pos hlt, Array.toList_eraseIdx, map_erase, h, ← map_erase, erase_mid]
end Go.Proofs.Qxb6612554a
