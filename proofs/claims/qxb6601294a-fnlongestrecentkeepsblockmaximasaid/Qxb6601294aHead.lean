import Derived.Test.Qxb6601294aRows
import Derived.JoinedOf
namespace Go.Proofs.Qxb6601294a

/-- The head of the cut, sign by sign. -/
def headCodes : List Nat := [104, 97, 114, 110, 101, 115, 115, 32, 100, 101, 97, 51, 97, 57, 50, 98, 50, 49, 99, 98, 51, 97, 100, 100, 49, 52, 49, 99, 98, 51, 50, 57, 56, 57, 57, 97, 100, 99, 100, 99, 98, 53, 100, 102, 97, 53, 50, 98, 57, 100, 51, 97, 97, 97, 57, 100, 56, 102, 98, 57,
  100, 97, 56, 101, 50, 102, 56, 49, 53, 99, 101, 102, 32, 99, 117, 116, 32, 97, 116, 32, 101, 120, 97, 109, 112, 108, 101, 46, 99, 111, 109, 47, 104, 101, 97, 114, 116, 103, 97, 117, 103, 101, 47, 104, 101, 97, 114, 116, 103, 97, 117, 103, 101, 47, 122, 122, 108, 97, 119, 115,
  95, 114, 111, 111, 116, 95, 98, 49, 46, 70, 110, 66, 105, 116, 87, 105, 110, 100, 111, 119, 65, 100, 100, 65, 103, 114, 101, 101, 115, 87, 105, 116, 104, 66, 111, 111, 108, 87, 105, 110, 100, 111, 119, 32, 101, 120, 97, 109, 112, 108, 101, 46, 99, 111, 109, 47, 104, 101, 97, 114,
  116, 103, 97, 117, 103, 101, 47, 104, 101, 97, 114, 116, 103, 97, 117, 103, 101, 47, 122, 122, 108, 97, 119, 115, 95, 114, 111, 111, 116, 95, 98, 49, 46, 70, 110, 66, 105, 116, 87, 105, 110, 100, 111, 119, 71, 105, 118, 101, 115, 66, 97, 99, 107, 84, 104, 101, 73, 116, 101, 109,
  65, 100, 100, 101, 100, 67, 97, 112, 97, 99, 105, 116, 121, 66, 101, 102, 111, 114, 101, 32, 101, 120, 97, 109, 112, 108, 101, 46, 99, 111, 109, 47, 104, 101, 97, 114, 116, 103, 97, 117, 103, 101, 47, 104, 101, 97, 114, 116, 103, 97, 117, 103, 101, 47, 122, 122, 108, 97, 119, 115,
  95, 114, 111, 111, 116, 95, 98, 49, 46, 70, 110, 66, 105, 116, 87, 105, 110, 100, 111, 119, 72, 111, 108, 100, 115, 84, 104, 101, 76, 97, 116, 101, 115, 116, 73, 116, 101, 109, 115, 73, 110, 79, 114, 100, 101, 114, 32, 101, 120, 97, 109, 112, 108, 101, 46, 99, 111, 109, 47, 104,
  101, 97, 114, 116, 103, 97, 117, 103, 101, 47, 104, 101, 97, 114, 116, 103, 97, 117, 103, 101, 47, 122, 122, 108, 97, 119, 115, 95, 114, 111, 111, 116, 95, 98, 49, 46, 70, 110, 76, 111, 110, 103, 101, 115, 116, 82, 101, 99, 101, 110, 116, 73, 115, 84, 104, 101, 77, 97, 120, 79,
  102, 73, 116, 115, 83, 112, 97, 110, 32, 101, 120, 97, 109, 112, 108, 101, 46, 99, 111, 109, 47, 104, 101, 97, 114, 116, 103, 97, 117, 103, 101, 47, 104, 101, 97, 114, 116, 103, 97, 117, 103, 101, 47, 122, 122, 108, 97, 119, 115, 95, 114, 111, 111, 116, 95, 98, 49, 46, 70, 110,
  76, 111, 110, 103, 101, 115, 116, 82, 101, 99, 101, 110, 116, 75, 101, 101, 112, 115, 66, 108, 111, 99, 107, 77, 97, 120, 105, 109, 97, 32, 101, 120, 97, 109, 112, 108, 101, 46, 99, 111, 109, 47, 104, 101, 97, 114, 116, 103, 97, 117, 103, 101, 47, 104, 101, 97, 114, 116, 103, 97,
  117, 103, 101, 47, 122, 122, 108, 97, 119, 115, 95, 114, 111, 111, 116, 95, 98, 49, 46, 70, 110, 73, 110, 99, 97, 114, 110, 97, 116, 105, 111, 110, 84, 97, 107, 101, 65, 103, 114, 101, 101, 115, 87, 105, 116, 104, 72, 105, 115, 116, 111, 114, 105, 101, 115, 32, 101, 120, 97, 109,
  112, 108, 101, 46, 99, 111, 109, 47, 104, 101, 97, 114, 116, 103, 97, 117, 103, 101, 47, 104, 101, 97, 114, 116, 103, 97, 117, 103, 101, 47, 122, 122, 108, 97, 119, 115, 95, 114, 111, 111, 116, 95, 98, 49, 46, 70, 110, 73, 110, 99, 97, 114, 110, 97, 116, 105, 111, 110, 79, 117,
  116, 108, 97, 115, 116, 82, 117, 110, 84, 97, 107, 101, 115, 79, 118, 101, 114, 32, 101, 120, 97, 109, 112, 108, 101, 46, 99, 111, 109, 47, 104, 101, 97, 114, 116, 103, 97, 117, 103, 101, 47, 104, 101, 97, 114, 116, 103, 97, 117, 103, 101, 47, 122, 122, 108, 97, 119, 115, 95, 114,
  111, 111, 116, 95, 98, 49, 46, 70, 110, 73, 110, 99, 97, 114, 110, 97, 116, 105, 111, 110, 83, 99, 114, 105, 112, 116, 75, 101, 101, 112, 115, 73, 116, 115, 73, 110, 118, 97, 114, 105, 97, 110, 116]
theorem head_is : Try.prog.initOrder = String.ofList (headCodes.map Char.ofNat) := by kernel_rfl
theorem head_list : Try.prog.initOrder.toList = headCodes.map Char.ofNat := by rw [head_is, String.toList_ofList]
theorem strip_cut (r : List (List Char)) : stripLifts liftWords (['c', 'u', 't'] :: r) = ([], ['c', 'u', 't'] :: r) := by kernel_rfl
theorem may_of (P : Program) (r : List (List Char)) (h : behindMainWord (wordsSigns P.initOrder.toList) = ['c', 'u', 't'] :: r) (h1 : P.laysLater = false) (h2 : P.bearsReflect = false) (h3 : P.doorFits [] = true) : P.mayEnter = true := by
  unfold Program.mayEnter
  rw [h]
  simp only [strip_cut, h1, h2, h3]
  rfl
theorem lifts_of (P : Program) (r : List (List Char)) (h : behindMainWord (wordsSigns P.initOrder.toList) = ['c', 'u', 't'] :: r) : P.liftsFinal = false := by
  unfold Program.liftsFinal Program.headLifts
  simp only [h, strip_cut]
  rfl
theorem head_word : ∃ r, behindMainWord (wordsSigns Try.prog.initOrder.toList) = ['c', 'u', 't'] :: r := by
  rw [head_list]
  have h : (behindMainWord (wordsSigns (headCodes.map Char.ofNat))).head? = some ['c', 'u', 't'] := by kernel_rfl
  cases h2 : behindMainWord (wordsSigns (headCodes.map Char.ofNat)) with
  | nil => rw [h2] at h; cases h
  | cons a r => rw [h2] at h; exact ⟨r, by simpa using h⟩
theorem lays_later : Try.prog.laysLater = false := by kernel_rfl
theorem bears_reflect : Try.prog.bearsReflect = false := by kernel_rfl
theorem door_fits : Try.prog.doorFits [] = true := by kernel_rfl
theorem may_enter : Try.prog.mayEnter = true := by
  obtain ⟨r, h⟩ := head_word
  exact may_of Try.prog r h lays_later bears_reflect door_fits
theorem lifts_final : Try.prog.liftsFinal = false := by
  obtain ⟨r, h⟩ := head_word
  exact lifts_of Try.prog r h

theorem make_of (P : Program) (r : List (List Char)) (h : behindMainWord (wordsSigns P.initOrder.toList) = ['c', 'u', 't'] :: r) : P.make = some .cut := by
  unfold Program.make
  rw [h]
  have e1 : (['c', 'u', 't'] == "gc".toList || ['c', 'u', 't'] == "spec".toList) = false := by kernel_rfl
  have e2 : (['c', 'u', 't'] == "cut".toList) = true := by kernel_rfl
  simp only [e1, e2, Bool.true_or, if_true, Bool.false_eq_true, if_false]
theorem make_is : Try.prog.make = some .cut := by
  obtain ⟨r, h⟩ := head_word
  exact make_of Try.prog r h
end Go.Proofs.Qxb6601294a
