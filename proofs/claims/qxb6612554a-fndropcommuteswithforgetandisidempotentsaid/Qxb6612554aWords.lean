import Derived.Test.Qxb6612554aRows
import Derived.ProofKit
namespace Go.Proofs.Qxb6612554a
set_option linter.unusedSimpArgs false
def ioN : List Nat := [104, 97, 114, 110, 101, 115, 115, 32, 98, 49, 49, 49, 53, 50, 48, 100, 102, 100, 49, 97, 48, 102, 56, 54, 49, 102, 53, 52, 51, 99, 50, 100, 54, 49, 50, 52, 99, 101, 97, 97, 51, 100, 49, 54, 98, 98, 97, 51, 53, 50, 53, 52, 102, 101, 53, 56, 101, 99, 101, 56, 52, 57, 97, 54, 49, 98, 100, 55, 48, 51, 52, 57, 32, 99, 117, 116, 32, 97, 116, 32, 101, 120, 97, 109, 112, 108, 101, 46, 99, 111, 109, 47, 107, 101, 121, 116, 117, 114, 110, 47, 107, 101, 121, 116, 117, 114, 110, 47, 122, 122, 108, 97, 119, 115, 95, 105, 110, 116, 101, 114, 110, 97, 108, 95, 116, 104, 114, 111, 116, 116, 108, 101, 95, 98, 49, 46, 70, 110, 70, 111, 114, 103, 101, 116, 75, 101, 101, 112, 115, 69, 120, 97, 99, 116, 108, 121, 70, 114, 101, 115, 104, 79, 114, 66, 117, 115, 121, 75, 101, 121, 115, 32, 101, 120, 97, 109, 112, 108, 101, 46, 99, 111, 109, 47, 107, 101, 121, 116, 117, 114, 110, 47, 107, 101, 121, 116, 117, 114, 110, 47, 122, 122, 108, 97, 119, 115, 95, 105, 110, 116, 101, 114, 110, 97, 108, 95, 116, 104, 114, 111, 116, 116, 108, 101, 95, 98, 49, 46, 70, 110, 70, 111, 114, 103, 101, 116, 73, 110, 83, 116, 101, 112, 115, 65, 103, 114, 101, 101, 115, 87, 105, 116, 104, 79, 110, 99, 101, 65, 110, 100, 73, 115, 73, 100, 101, 109, 112, 111, 116, 101, 110, 116, 32, 101, 120, 97, 109, 112, 108, 101, 46, 99, 111, 109, 47, 107, 101, 121, 116, 117, 114, 110, 47, 107, 101, 121, 116, 117, 114, 110, 47, 122, 122, 108, 97, 119, 115, 95, 105, 110, 116, 101, 114, 110, 97, 108, 95, 116, 104, 114, 111, 116, 116, 108, 101, 95, 98, 49, 46, 70, 110, 68, 114, 111, 112, 73, 110, 65, 110, 121, 79, 114, 100, 101, 114, 82, 101, 109, 111, 118, 101, 115, 69, 120, 97, 99, 116, 108, 121, 84, 104, 111, 115, 101, 75, 101, 121, 115, 32, 101, 120, 97, 109, 112, 108, 101, 46, 99, 111, 109, 47, 107, 101, 121, 116, 117, 114, 110, 47, 107, 101, 121, 116, 117, 114, 110, 47, 122, 122, 108, 97, 119, 115, 95, 105, 110, 116, 101, 114, 110, 97, 108, 95, 116, 104, 114, 111, 116, 116, 108, 101, 95, 98, 49, 46, 70, 110, 68, 114, 111, 112, 67, 111, 109, 109, 117, 116, 101, 115, 87, 105, 116, 104, 70, 111, 114, 103, 101, 116, 65, 110, 100, 73, 115, 73, 100, 101, 109, 112, 111, 116, 101, 110, 116, 32, 101, 120, 97, 109, 112, 108, 101, 46, 99, 111, 109, 47, 107, 101, 121, 116, 117, 114, 110, 47, 107, 101, 121, 116, 117, 114, 110, 47, 122, 122, 108, 97, 119, 115, 95, 105, 110, 116, 101, 114, 110, 97, 108, 95, 116, 104, 114, 111, 116, 116, 108, 101, 95, 98, 49, 46, 70, 110, 70, 97, 105, 108, 101, 100, 69, 110, 100, 115, 79, 110, 99, 101, 67, 111, 117, 110, 116, 105, 110, 103, 79, 110, 101, 70, 97, 105, 108, 117, 114, 101, 32, 101, 120, 97, 109, 112, 108, 101, 46, 99, 111, 109, 47, 107, 101, 121, 116, 117, 114, 110, 47, 107, 101, 121, 116, 117, 114, 110, 47, 122, 122, 108, 97, 119, 115, 95, 105, 110, 116, 101, 114, 110, 97, 108, 95, 116, 104, 114, 111, 116, 116, 108, 101, 95, 98, 49, 46, 70, 110, 70, 97, 105, 108, 101, 100, 65, 110, 100, 67, 108, 111, 115, 101, 68, 105, 102, 102, 101, 114, 79, 110, 108, 121, 73, 110, 84, 104, 101, 67, 111, 117, 110, 116, 32, 101, 120, 97, 109, 112, 108, 101, 46, 99, 111, 109, 47, 107, 101, 121, 116, 117, 114, 110, 47, 107, 101, 121, 116, 117, 114, 110, 47, 122, 122, 108, 97, 119, 115, 95, 105, 110, 116, 101, 114, 110, 97, 108, 95, 116, 104, 114, 111, 116, 116, 108, 101, 95, 98, 49, 46, 70, 110, 67, 108, 111, 115, 101, 69, 110, 100, 115, 79, 110, 99, 101, 76, 101, 97, 118, 105, 110, 103, 84, 104, 101, 67, 111, 117, 110, 116, 32, 101, 120, 97, 109, 112, 108, 101, 46, 99, 111, 109, 47, 107, 101, 121, 116, 117, 114, 110, 47, 107, 101, 121, 116, 117, 114, 110, 47, 122, 122, 108, 97, 119, 115, 95, 105, 110, 116, 101, 114, 110, 97, 108, 95, 116, 104, 114, 111, 116, 116, 108, 101, 95, 98, 49, 46, 70, 110, 67, 108, 111, 115, 105, 110, 103, 69, 118, 101, 114, 121, 67, 104, 101, 99, 107, 82, 101, 108, 101, 97, 115, 101, 115, 65, 110, 73, 100, 108, 101, 75, 101, 121]
theorem io : Try.prog.initOrder = String.ofList (ioN.map Char.ofNat) := by kernel_rfl
theorem ioL : Try.prog.initOrder.toList = ioN.map Char.ofNat := by rw [io, String.toList_ofList]
theorem lays : Try.prog.laysLater = false := by kernel_rfl
theorem bears : Try.prog.bearsReflect = false := by kernel_rfl
theorem door : Try.prog.doorFits [] = true := by kernel_rfl
theorem strip_cut (rest : List (List Char)) : stripLifts liftWords ("cut".toList :: rest) = ([], "cut".toList :: rest) := by kernel_rfl
theorem ws_cut : ∃ rest, behindMainWord (wordsSigns Try.prog.initOrder.toList) = "cut".toList :: rest := by
  have h : (behindMainWord (wordsSigns Try.prog.initOrder.toList)).head? = some "cut".toList := by
    rw [ioL]
    kernel_rfl
  cases hb : behindMainWord (wordsSigns Try.prog.initOrder.toList) with
  | nil => rw [hb] at h; cases h
  | cons c r => rw [hb] at h; injection h with h; exact ⟨r, by rw [h]⟩
theorem cut_ne : ("cut".toList == "gc".toList) = false ∧ ("cut".toList == "spec".toList) = false ∧ ("cut".toList == "carried".toList) = false := ⟨by kernel_rfl, by kernel_rfl, by kernel_rfl⟩
section
variable {Pr : Program} {rest : List (List Char)}
theorem mayEnter_of (h : behindMainWord (wordsSigns Pr.initOrder.toList) = "cut".toList :: rest) (h1 : Pr.laysLater = false) (h2 : Pr.bearsReflect = false) (h3 : Pr.doorFits [] = true) : Pr.mayEnter = true := by
  unfold Program.mayEnter
  rw [h]
  simp only [strip_cut, h1, h2, h3, cut_ne.1, cut_ne.2.1, cut_ne.2.2]
  simp
theorem headLifts_of (h : behindMainWord (wordsSigns Pr.initOrder.toList) = "cut".toList :: rest) : Pr.headLifts = [] := by
  unfold Program.headLifts
  rw [h, strip_cut]
  simp
theorem liftsFinal_of (h : behindMainWord (wordsSigns Pr.initOrder.toList) = "cut".toList :: rest) : Pr.liftsFinal = false := by
  unfold Program.liftsFinal
  rw [headLifts_of h, h]
  simp [cut_ne.2.2]
theorem make_of (h : behindMainWord (wordsSigns Pr.initOrder.toList) = "cut".toList :: rest) : Pr.make = some .cut := by
  unfold Program.make
  rw [h]
  simp [cut_ne.1, cut_ne.2.1]
end
theorem enters : Try.prog.mayEnter = true := by
  obtain ⟨rest, h⟩ := ws_cut
  exact mayEnter_of h lays bears door
theorem lifts : Try.prog.liftsFinal = false := by
  obtain ⟨rest, h⟩ := ws_cut
  exact liftsFinal_of h
theorem makes : Try.prog.make = some .cut := by
  obtain ⟨rest, h⟩ := ws_cut
  exact make_of h
theorem and_tt {a b : Bool} (h : a = true) (k : b = true) : (a && b) = true := by rw [h, k]; rfl
end Go.Proofs.Qxb6612554a
