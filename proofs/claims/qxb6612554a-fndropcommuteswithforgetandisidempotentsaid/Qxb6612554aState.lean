import Derived.Test.Qxb6612554aMaps
namespace Go.Proofs.Qxb6612554a
open Go.RowKit
open Go.ChangeMaps (setBlock)
set_option linter.unusedVariables false
set_option linter.unusedSimpArgs false

/-! ### Rings -/
def Ring (nx pv : Nat → Nat) : List Nat → Prop
  | a :: b :: r => nx a = b ∧ pv b = a ∧ Ring nx pv (b :: r)
  | _ => True

theorem ring_cut (nx pv : Nat → Nat) (a : Nat) (r : List Nat) : ∀ l : List Nat, Ring nx pv (l ++ a :: r) ↔ Ring nx pv (l ++ [a]) ∧ Ring nx pv (a :: r)
  | [] => by simp [Ring]
  | [x] => by simp [Ring, and_assoc]
  | x :: y :: l => by
    have := ring_cut nx pv a r (y :: l)
    simp only [List.cons_append, Ring] at this ⊢
    rw [this]; simp [and_assoc]

theorem ring_congr {nx pv nx' pv' : Nat → Nat} : ∀ l : List Nat, (∀ x ∈ l.dropLast, nx' x = nx x) → (∀ x ∈ l.tail, pv' x = pv x) → Ring nx pv l → Ring nx' pv' l
  | [], _, _, _ => trivial
  | [_], _, _, _ => trivial
  | a :: b :: r, h1, h2, ⟨e1, e2, e3⟩ => by
    refine ⟨by rw [h1 a (by simp), e1], by rw [h2 b (by simp), e2], ring_congr (b :: r) (fun x hx => h1 x ?_) (fun x hx => h2 x ?_) e3⟩
    · simp only [List.dropLast_cons_cons, List.mem_cons]; exact Or.inr hx
    · simp only [List.tail_cons, List.mem_cons] at hx ⊢; exact Or.inr hx

def upd (f : Nat → Nat) (a v : Nat) : Nat → Nat := fun x => if x = a then v else f x
theorem upd_at (f : Nat → Nat) (a v : Nat) : upd f a v a = v := by simp [upd]
theorem upd_ne (f : Nat → Nat) {a x : Nat} (v : Nat) (h : x ≠ a) : upd f a v x = f x := by simp [upd, h]

/-- The last of a list that is not empty; the first. -/
def lastD (l : List Nat) (d : Nat) : Nat := l.getLast?.getD d
def headD (l : List Nat) (d : Nat) : Nat := l.head?.getD d

theorem split_last (z : Nat) (xs : List Nat) : ∃ A p, z :: xs = A ++ [p] ∧ p = lastD xs z := by
  rcases List.eq_nil_or_concat xs with h | ⟨l, a, h⟩
  · subst h; exact ⟨[], z, rfl, rfl⟩
  · subst h; refine ⟨z :: l, a, by simp, by simp [lastD]⟩
theorem split_head (z : Nat) (ys : List Nat) : ∃ q B, ys ++ [z] = q :: B ∧ q = headD ys z := by
  cases ys with
  | nil => exact ⟨z, [], rfl, rfl⟩
  | cons y ys => exact ⟨y, ys ++ [z], rfl, rfl⟩

/-- One element out of the ring: the neighbours. -/
theorem ring_at {nx pv : Nat → Nat} {z e : Nat} {xs ys : List Nat} (h : Ring nx pv (z :: (xs ++ e :: ys) ++ [z])) :
    pv e = lastD xs z ∧ nx (pv e) = e ∧ nx e = headD ys z ∧ pv (nx e) = e := by
  obtain ⟨A, p, hA, hp⟩ := split_last z xs
  obtain ⟨q, B, hB, hq⟩ := split_head z ys
  have e1 : z :: (xs ++ e :: ys) ++ [z] = A ++ p :: e :: q :: B := by
    have : z :: (xs ++ e :: ys) ++ [z] = (z :: xs) ++ e :: (ys ++ [z]) := by simp
    rw [this, hA, hB]; simp
  rw [e1, ring_cut] at h
  obtain ⟨_, h1, h2, h3, h4, _⟩ := h
  exact ⟨by rw [h2, hp], by rw [h2, h1], by rw [h3, hq], by rw [h3, h4]⟩

theorem ring_remove {nx pv : Nat → Nat} {z e : Nat} {xs ys : List Nat} (h : Ring nx pv (z :: (xs ++ e :: ys) ++ [z])) (nd : (z :: (xs ++ e :: ys)).Nodup) :
    Ring (upd nx (pv e) (nx e)) (upd pv (nx e) (pv e)) (z :: (xs ++ ys) ++ [z]) := by
  obtain ⟨r1, r2, r3, r4⟩ := ring_at h
  obtain ⟨A, p, hA, hp⟩ := split_last z xs
  obtain ⟨q, B, hB, hq⟩ := split_head z ys
  have e1 : z :: (xs ++ e :: ys) ++ [z] = A ++ p :: e :: q :: B := by
    have : z :: (xs ++ e :: ys) ++ [z] = (z :: xs) ++ e :: (ys ++ [z]) := by simp
    rw [this, hA, hB]; simp
  have e2 : z :: (xs ++ ys) ++ [z] = A ++ p :: q :: B := by
    have : z :: (xs ++ ys) ++ [z] = (z :: xs) ++ (ys ++ [z]) := by simp
    rw [this, hA, hB]; simp
  have hpe : pv e = p := by rw [r1, hp]
  have hqe : nx e = q := by rw [r3, hq]
  rw [hpe, hqe]
  rw [e1, ring_cut] at h
  obtain ⟨h0, h1, h2, h3, h4, h5⟩ := h
  -- what the list's having no double gives
  have ndx : (z :: xs).Nodup ∧ ys.Nodup ∧ (∀ x ∈ z :: xs, x ∉ ys) := by
    have e3 : z :: (xs ++ e :: ys) = (z :: xs) ++ (e :: ys) := by simp
    rw [e3, List.nodup_append] at nd
    obtain ⟨n1, n2, n3⟩ := nd
    refine ⟨n1, (List.nodup_cons.1 n2).2, fun x hx hy => n3 x hx x (by simp [hy]) rfl⟩
  obtain ⟨n1, n2, n3⟩ := ndx
  have hpm : p ∈ z :: xs := by rw [hA]; simp
  rw [e2, ring_cut]
  refine ⟨ring_congr _ (fun x hx => upd_ne _ _ ?_) (fun x hx => upd_ne _ _ ?_) h0, upd_at _ _ _, upd_at _ _ _, ring_congr _ (fun x hx => upd_ne _ _ ?_) (fun x hx => upd_ne _ _ ?_) h5⟩
  · -- sources ahead of p
    rintro rfl
    rw [List.dropLast_concat] at hx
    rw [hA, List.nodup_append] at n1
    exact n1.2.2 x hx x (by simp) rfl
  · -- targets up to p: q is none of them
    rintro rfl
    rw [← hA, List.tail_cons] at hx
    have hqm : x ∈ ys ++ [z] := by rw [hB]; simp
    rw [List.mem_append, List.mem_singleton] at hqm
    rcases hqm with hy | hz
    · exact n3 x (by simp [hx]) hy
    · rw [hz] at hx; exact (List.nodup_cons.1 n1).1 hx
  · rintro rfl
    rw [← hB, List.dropLast_concat] at hx
    exact n3 x hpm hx
  · rintro rfl
    rw [List.tail_cons] at hx
    cases ys with
    | nil => simp at hB; rw [hB.2] at hx; simp at hx
    | cons y ys' =>
      simp at hB
      obtain ⟨hy, hB⟩ := hB
      rw [← hB, List.mem_append, List.mem_singleton] at hx
      rcases hx with hx | hx
      · rw [hy] at n2; exact (List.nodup_cons.1 n2).1 hx
      · refine n3 z (by simp) ?_; rw [← hx, hy]; simp

/-- One element more at the ring's end. -/
theorem ring_push {nx pv : Nat → Nat} {z e : Nat} {xs : List Nat} (h : Ring nx pv (z :: xs ++ [z])) (nd : (z :: xs).Nodup) (he : e ∉ z :: xs) :
    Ring (upd (upd nx (pv z) e) e z) (upd (upd pv z e) e (pv z)) (z :: (xs ++ [e]) ++ [z]) ∧ pv z = lastD xs z ∧ nx (pv z) = z := by
  obtain ⟨A, p, hA, hp⟩ := split_last z xs
  have e1 : z :: xs ++ [z] = A ++ p :: [z] := by rw [hA]; simp
  have e2 : z :: (xs ++ [e]) ++ [z] = A ++ p :: e :: [z] := by
    have : z :: (xs ++ [e]) ++ [z] = (z :: xs) ++ [e, z] := by simp
    rw [this, hA]; simp
  rw [e1, ring_cut] at h
  obtain ⟨h0, h1, h2, _⟩ := h
  have hpm : p ∈ z :: xs := by rw [hA]; simp
  have hpe : p ≠ e := fun h => he (h ▸ hpm)
  have hze : z ≠ e := fun h => he (by simp [h])
  refine ⟨?_, by rw [h2, hp], by rw [h2, h1]⟩
  rw [e2, ring_cut, h2]
  refine ⟨ring_congr _ (fun x hx => ?_) (fun x hx => ?_) h0, ?_, ?_, ?_, ?_, trivial⟩
  · rw [List.dropLast_concat] at hx
    have hxe : x ≠ e := fun h => he (by rw [hA, ← h]; simp [hx])
    have hxp : x ≠ p := by
      rintro rfl
      rw [hA, List.nodup_append] at nd
      exact nd.2.2 x hx x (by simp) rfl
    rw [upd_ne _ _ hxe, upd_ne _ _ hxp]
  · rw [← hA, List.tail_cons] at hx
    have hxe : x ≠ e := fun h => he (by simp [← h, hx])
    have hxz : x ≠ z := by rintro rfl; exact (List.nodup_cons.1 nd).1 hx
    rw [upd_ne _ _ hxe, upd_ne _ _ hxz]
  · rw [upd_ne _ _ hpe, upd_at]
  · rw [upd_at]
  · rw [upd_at]
  · rw [upd_ne _ _ hze, upd_at]
end Go.Proofs.Qxb6612554a
