/-
  SEAT b6002662a. THE ROW's CLOSED FACTS. The dump's head names nine roots, some 950 signs: 'String.toList' of it outgrows the kernel's memory lid. So the head's signs are written out as numbers, held against the head by the kernel's own reading of a string literal, and the facts that look into it are drawn from the first words.
-/
import Derived.Test.Qxb6002662aRows
import Derived.JoinedOf
namespace Go.Proofs.Qxb6002662a

/-- The signs of the dump's head, by their numbers. -/
def headCodes : List Nat := [
  104, 97, 114, 110, 101, 115, 115, 32, 101, 97, 100, 99, 53, 53, 51, 51, 98, 48, 101, 50, 52, 101, 49, 57, 98, 49, 51, 99, 49, 100, 57, 97, 98, 101, 52, 100, 51, 101, 51, 52,
  99, 50, 99, 56, 51, 48, 97, 97, 50, 57, 52, 101, 97, 51, 99, 99, 49, 48, 99, 99, 49, 55, 50, 51, 50, 54, 99, 57, 57, 101, 52, 51, 32, 99, 117, 116, 32, 97, 116, 32,
  101, 120, 97, 109, 112, 108, 101, 46, 99, 111, 109, 47, 99, 111, 110, 102, 105, 103, 45, 118, 97, 108, 117, 101, 45, 114, 101, 115, 111, 108, 118, 101, 114, 47, 99, 111, 110, 102, 105, 103,
  45, 118, 97, 108, 117, 101, 45, 114, 101, 115, 111, 108, 118, 101, 114, 47, 122, 122, 108, 97, 119, 115, 95, 114, 111, 111, 116, 95, 98, 49, 46, 70, 110, 75, 101, 121, 79, 102, 76, 105,
  116, 116, 108, 101, 69, 110, 100, 105, 97, 110, 80, 114, 101, 102, 105, 120, 32, 101, 120, 97, 109, 112, 108, 101, 46, 99, 111, 109, 47, 99, 111, 110, 102, 105, 103, 45, 118, 97, 108, 117,
  101, 45, 114, 101, 115, 111, 108, 118, 101, 114, 47, 99, 111, 110, 102, 105, 103, 45, 118, 97, 108, 117, 101, 45, 114, 101, 115, 111, 108, 118, 101, 114, 47, 122, 122, 108, 97, 119, 115, 95,
  114, 111, 111, 116, 95, 98, 49, 46, 70, 110, 75, 101, 121, 79, 102, 83, 97, 109, 101, 76, 101, 110, 103, 116, 104, 84, 101, 108, 108, 115, 65, 112, 97, 114, 116, 32, 101, 120, 97, 109,
  112, 108, 101, 46, 99, 111, 109, 47, 99, 111, 110, 102, 105, 103, 45, 118, 97, 108, 117, 101, 45, 114, 101, 115, 111, 108, 118, 101, 114, 47, 99, 111, 110, 102, 105, 103, 45, 118, 97, 108,
  117, 101, 45, 114, 101, 115, 111, 108, 118, 101, 114, 47, 122, 122, 108, 97, 119, 115, 95, 114, 111, 111, 116, 95, 98, 49, 46, 70, 110, 75, 101, 121, 79, 102, 83, 104, 111, 114, 116, 66,
  111, 117, 110, 100, 76, 111, 110, 103, 84, 97, 105, 108, 66, 108, 105, 110, 100, 32, 101, 120, 97, 109, 112, 108, 101, 46, 99, 111, 109, 47, 99, 111, 110, 102, 105, 103, 45, 118, 97, 108,
  117, 101, 45, 114, 101, 115, 111, 108, 118, 101, 114, 47, 99, 111, 110, 102, 105, 103, 45, 118, 97, 108, 117, 101, 45, 114, 101, 115, 111, 108, 118, 101, 114, 47, 122, 122, 108, 97, 119, 115,
  95, 114, 111, 111, 116, 95, 98, 49, 46, 70, 110, 65, 112, 112, 101, 110, 100, 69, 115, 99, 97, 112, 101, 100, 82, 111, 117, 110, 100, 84, 114, 105, 112, 32, 101, 120, 97, 109, 112, 108,
  101, 46, 99, 111, 109, 47, 99, 111, 110, 102, 105, 103, 45, 118, 97, 108, 117, 101, 45, 114, 101, 115, 111, 108, 118, 101, 114, 47, 99, 111, 110, 102, 105, 103, 45, 118, 97, 108, 117, 101,
  45, 114, 101, 115, 111, 108, 118, 101, 114, 47, 122, 122, 108, 97, 119, 115, 95, 114, 111, 111, 116, 95, 98, 49, 46, 70, 110, 65, 112, 112, 101, 110, 100, 69, 115, 99, 97, 112, 101, 100,
  80, 114, 101, 102, 105, 120, 65, 110, 100, 83, 112, 108, 105, 116, 32, 101, 120, 97, 109, 112, 108, 101, 46, 99, 111, 109, 47, 99, 111, 110, 102, 105, 103, 45, 118, 97, 108, 117, 101, 45,
  114, 101, 115, 111, 108, 118, 101, 114, 47, 99, 111, 110, 102, 105, 103, 45, 118, 97, 108, 117, 101, 45, 114, 101, 115, 111, 108, 118, 101, 114, 47, 122, 122, 108, 97, 119, 115, 95, 114, 111,
  111, 116, 95, 98, 49, 46, 70, 110, 65, 112, 112, 101, 110, 100, 69, 115, 99, 97, 112, 101, 100, 78, 111, 78, 101, 119, 108, 105, 110, 101, 69, 120, 97, 99, 116, 71, 114, 111, 119, 116,
  104, 32, 101, 120, 97, 109, 112, 108, 101, 46, 99, 111, 109, 47, 99, 111, 110, 102, 105, 103, 45, 118, 97, 108, 117, 101, 45, 114, 101, 115, 111, 108, 118, 101, 114, 47, 99, 111, 110, 102,
  105, 103, 45, 118, 97, 108, 117, 101, 45, 114, 101, 115, 111, 108, 118, 101, 114, 47, 122, 122, 108, 97, 119, 115, 95, 114, 111, 111, 116, 95, 98, 49, 46, 70, 110, 80, 105, 101, 99, 101,
  115, 65, 100, 100, 85, 110, 108, 105, 109, 105, 116, 101, 100, 74, 111, 105, 110, 115, 32, 101, 120, 97, 109, 112, 108, 101, 46, 99, 111, 109, 47, 99, 111, 110, 102, 105, 103, 45, 118, 97,
  108, 117, 101, 45, 114, 101, 115, 111, 108, 118, 101, 114, 47, 99, 111, 110, 102, 105, 103, 45, 118, 97, 108, 117, 101, 45, 114, 101, 115, 111, 108, 118, 101, 114, 47, 122, 122, 108, 97, 119,
  115, 95, 114, 111, 111, 116, 95, 98, 49, 46, 70, 110, 80, 105, 101, 99, 101, 115, 65, 100, 100, 84, 114, 105, 109, 83, 112, 97, 110, 32, 101, 120, 97, 109, 112, 108, 101, 46, 99, 111,
  109, 47, 99, 111, 110, 102, 105, 103, 45, 118, 97, 108, 117, 101, 45, 114, 101, 115, 111, 108, 118, 101, 114, 47, 99, 111, 110, 102, 105, 103, 45, 118, 97, 108, 117, 101, 45, 114, 101, 115,
  111, 108, 118, 101, 114, 47, 122, 122, 108, 97, 119, 115, 95, 114, 111, 111, 116, 95, 98, 49, 46, 70, 110, 80, 105, 101, 99, 101, 115, 65, 100, 100, 82, 101, 102, 117, 115, 101, 100, 80,
  97, 115, 116, 82, 111, 111, 109]

theorem head_is : Try.prog.initOrder = String.ofList (headCodes.map Char.ofNat) := by kernel_rfl
theorem head_list : Try.prog.initOrder.toList = headCodes.map Char.ofNat := by rw [head_is]; exact String.toList_ofList
theorem head_words : ∃ R, behindMainWord (wordsSigns Try.prog.initOrder.toList) = ['c', 'u', 't'] :: R := by
  rw [head_list]
  exact ⟨(behindMainWord (wordsSigns (headCodes.map Char.ofNat))).tail, by kernel_rfl⟩

section
variable {P : Program} {R : List (List Char)}
theorem make_of (h : behindMainWord (wordsSigns P.initOrder.toList) = ['c', 'u', 't'] :: R) : P.make = some .cut := by
  unfold Program.make
  rw [h]
  rfl
theorem strip_of (R : List (List Char)) : stripLifts liftWords (['c', 'u', 't'] :: R) = ([], ['c', 'u', 't'] :: R) := rfl
theorem lifts_of (h : behindMainWord (wordsSigns P.initOrder.toList) = ['c', 'u', 't'] :: R) : P.headLifts = [] := by
  unfold Program.headLifts
  rw [h, strip_of]
  rfl
theorem final_of (h : behindMainWord (wordsSigns P.initOrder.toList) = ['c', 'u', 't'] :: R) : P.liftsFinal = false := by
  unfold Program.liftsFinal
  rw [lifts_of h, h]
  rfl
theorem enter_of (h : behindMainWord (wordsSigns P.initOrder.toList) = ['c', 'u', 't'] :: R) (h1 : P.laysLater = false) (h2 : P.bearsReflect = false) (h3 : P.doorFits [] = true) : P.mayEnter = true := by
  unfold Program.mayEnter
  rw [h]
  simp only [strip_of, h1, h2, h3]
  rfl
end

theorem make_fact : (Try.prog.make == some Rows.fnPiecesAddUnlimitedJoinsRow.make) = true := by
  obtain ⟨R, h⟩ := head_words
  rw [make_of h]
  rfl
theorem lifted_fact : (Rows.fnPiecesAddUnlimitedJoinsRow.lifted == Try.prog.liftsFinal) = true := by
  obtain ⟨R, h⟩ := head_words
  rw [final_of h]
  rfl
theorem later_fact : Try.prog.laysLater = false := by kernel_rfl
theorem reflect_fact : Try.prog.bearsReflect = false := by kernel_rfl
theorem door_fact : Try.prog.doorFits [] = true := by kernel_rfl
theorem enter_fact : Try.prog.mayEnter = true := by
  obtain ⟨R, h⟩ := head_words
  exact enter_of h later_fact reflect_fact door_fact

set_option maxHeartbeats 1000000 in
theorem closed : joinedFacts Try.prog 9 Try.f9 Rows.fnPiecesAddUnlimitedJoinsSpec Rows.fnPiecesAddUnlimitedJoinsRow = true := by
  unfold joinedFacts
  simp only [Bool.and_eq_true]
  and_intros
  iterate 25 (focus as_aux_lemma => kernel_rfl)
  · exact enter_fact
  · exact lifted_fact
  · exact make_fact
  all_goals as_aux_lemma => kernel_rfl

end Go.Proofs.Qxb6002662a
