import Derived.Test.Qxb6600752aRows
import Derived.JoinedOf
namespace Go.Proofs.Qxb6600752a

/-- The head of the cut, sign by sign. -/
def headCodes : List Nat := [104, 97, 114, 110, 101, 115, 115, 32, 56, 56, 54, 50, 49, 97, 51, 97, 51, 51, 57, 100, 55, 102, 99, 52, 101, 55, 52, 101, 100, 55, 97, 48, 100, 54, 99, 100, 101, 99, 101, 101, 48, 48, 100, 49, 50, 53, 57, 57, 101, 51, 52, 98, 50, 50, 99, 98, 97, 49, 97, 57,
  101, 100, 100, 52, 48, 57, 100, 52, 56, 54, 52, 97, 32, 99, 117, 116, 32, 97, 116, 32, 101, 120, 97, 109, 112, 108, 101, 46, 99, 111, 109, 47, 115, 101, 114, 105, 97, 108, 119, 105, 115, 101, 47, 115, 101, 114, 105, 97, 108, 119, 105, 115, 101, 47, 122, 122, 108, 97, 119, 115,
  95, 105, 110, 116, 101, 114, 110, 97, 108, 95, 99, 104, 101, 99, 107, 95, 98, 49, 46, 70, 110, 80, 114, 101, 99, 101, 100, 101, 110, 99, 101, 73, 115, 84, 104, 101, 65, 108, 108, 80, 97, 105, 114, 115, 67, 111, 110, 102, 108, 105, 99, 116, 71, 114, 97, 112, 104, 32, 101, 120,
  97, 109, 112, 108, 101, 46, 99, 111, 109, 47, 115, 101, 114, 105, 97, 108, 119, 105, 115, 101, 47, 115, 101, 114, 105, 97, 108, 119, 105, 115, 101, 47, 122, 122, 108, 97, 119, 115, 95, 105, 110, 116, 101, 114, 110, 97, 108, 95, 99, 104, 101, 99, 107, 95, 98, 49, 46, 70, 110, 86,
  105, 101, 119, 82, 117, 108, 101, 115, 65, 99, 99, 101, 112, 116, 69, 120, 97, 99, 116, 108, 121, 84, 104, 101, 86, 105, 101, 119, 69, 113, 117, 105, 118, 97, 108, 101, 110, 116, 79, 114, 100, 101, 114, 115, 32, 101, 120, 97, 109, 112, 108, 101, 46, 99, 111, 109, 47, 115, 101, 114,
  105, 97, 108, 119, 105, 115, 101, 47, 115, 101, 114, 105, 97, 108, 119, 105, 115, 101, 47, 122, 122, 108, 97, 119, 115, 95, 105, 110, 116, 101, 114, 110, 97, 108, 95, 99, 104, 101, 99, 107, 95, 98, 49, 46, 70, 110, 80, 114, 101, 99, 101, 100, 101, 110, 99, 101, 79, 102, 83, 101,
  114, 105, 97, 108, 72, 105, 115, 116, 111, 114, 121, 80, 111, 105, 110, 116, 115, 70, 111, 114, 119, 97, 114, 100, 32, 101, 120, 97, 109, 112, 108, 101, 46, 99, 111, 109, 47, 115, 101, 114, 105, 97, 108, 119, 105, 115, 101, 47, 115, 101, 114, 105, 97, 108, 119, 105, 115, 101, 47, 122,
  122, 108, 97, 119, 115, 95, 105, 110, 116, 101, 114, 110, 97, 108, 95, 99, 104, 101, 99, 107, 95, 98, 49, 46, 70, 110, 65, 98, 111, 114, 116, 101, 100, 84, 114, 97, 110, 115, 97, 99, 116, 105, 111, 110, 76, 101, 97, 118, 101, 115, 71, 114, 97, 112, 104, 65, 110, 100, 82, 117,
  108, 101, 115, 65, 108, 111, 110, 101, 32, 101, 120, 97, 109, 112, 108, 101, 46, 99, 111, 109, 47, 115, 101, 114, 105, 97, 108, 119, 105, 115, 101, 47, 115, 101, 114, 105, 97, 108, 119, 105, 115, 101, 47, 122, 122, 108, 97, 119, 115, 95, 105, 110, 116, 101, 114, 110, 97, 108, 95, 99,
  104, 101, 99, 107, 95, 98, 49, 46, 70, 110, 67, 111, 110, 102, 108, 105, 99, 116, 83, 101, 114, 105, 97, 108, 105, 122, 97, 98, 108, 101, 72, 105, 115, 116, 111, 114, 121, 73, 115, 86, 105, 101, 119, 65, 99, 99, 101, 112, 116, 101, 100]
theorem head_is : Try.prog.initOrder = String.ofList (headCodes.map Char.ofNat) := by kernel_rfl
theorem head_list : Try.prog.initOrder.toList = headCodes.map Char.ofNat := by rw [head_is, String.toList_ofList]
theorem strip_cut (r : List (List Char)) : stripLifts liftWords (['c', 'u', 't'] :: r) = ([], ['c', 'u', 't'] :: r) := by kernel_rfl
theorem may_of (P : Program) (r : List (List Char)) (h : behindMainWord (wordsSigns P.initOrder.toList) = ['c', 'u', 't'] :: r) (h1 : P.laysLater = false) (h2 : P.bearsReflect = false) (h3 : P.doorFits [] = true) : P.mayEnter = true := by
  unfold Program.mayEnter
  rw [h]
  simp only [strip_cut, h1, h2, h3]
  rfl
theorem lifts_of (P : Program) (r : List (List Char)) (h : behindMainWord (wordsSigns P.initOrder.toList) = ['c', 'u', 't'] :: r) : P.liftsFinal = false := by
  unfold Program.liftsFinal Program.headLifts
  simp only [h, strip_cut]
  rfl
theorem head_word : ∃ r, behindMainWord (wordsSigns Try.prog.initOrder.toList) = ['c', 'u', 't'] :: r := by
  rw [head_list]
  have h : (behindMainWord (wordsSigns (headCodes.map Char.ofNat))).head? = some ['c', 'u', 't'] := by kernel_rfl
  cases h2 : behindMainWord (wordsSigns (headCodes.map Char.ofNat)) with
  | nil => rw [h2] at h; cases h
  | cons a r => rw [h2] at h; exact ⟨r, by simpa using h⟩
theorem lays_later : Try.prog.laysLater = false := by kernel_rfl
theorem bears_reflect : Try.prog.bearsReflect = false := by kernel_rfl
theorem door_fits : Try.prog.doorFits [] = true := by kernel_rfl
theorem may_enter : Try.prog.mayEnter = true := by
  obtain ⟨r, h⟩ := head_word
  exact may_of Try.prog r h lays_later bears_reflect door_fits
theorem lifts_final : Try.prog.liftsFinal = false := by
  obtain ⟨r, h⟩ := head_word
  exact lifts_of Try.prog r h

theorem make_of (P : Program) (r : List (List Char)) (h : behindMainWord (wordsSigns P.initOrder.toList) = ['c', 'u', 't'] :: r) : P.make = some .cut := by
  unfold Program.make
  rw [h]
  have e1 : (['c', 'u', 't'] == "gc".toList || ['c', 'u', 't'] == "spec".toList) = false := by kernel_rfl
  have e2 : (['c', 'u', 't'] == "cut".toList) = true := by kernel_rfl
  simp only [e1, e2, Bool.true_or, if_true, Bool.false_eq_true, if_false]
theorem make_is : Try.prog.make = some .cut := by
  obtain ⟨r, h⟩ := head_word
  exact make_of Try.prog r h
end Go.Proofs.Qxb6600752a
