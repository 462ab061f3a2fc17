/-
  SEAT qxb6003793a. THE ROW's CLOSED FACTS, each a lemma of its own; those that look into the dump's head are drawn from its first words (the head's signs written out as numbers, held against the head by the kernel's own reading of a string literal).
-/
import Derived.Test.Qxb6003793aRows
import Derived.JoinedOf
namespace Go.Proofs.Qxb6003793a

/-- The signs of the dump's head, by their numbers. -/
def headCodes : List Nat := [
  104, 97, 114, 110, 101, 115, 115, 32, 101, 52, 98, 99, 55, 99, 102, 57, 51, 50, 57, 97, 52, 102, 100, 52, 55, 48, 53, 57, 55, 99, 99, 52, 56, 54, 48, 57, 97, 57, 52, 100,
  98, 49, 48, 53, 98, 101, 48, 50, 57, 99, 57, 102, 56, 97, 57, 57, 55, 53, 56, 54, 53, 56, 53, 48, 51, 100, 57, 98, 52, 51, 52, 50, 32, 99, 117, 116, 32, 97, 116, 32,
  101, 120, 97, 109, 112, 108, 101, 46, 99, 111, 109, 47, 114, 105, 102, 116, 119, 97, 116, 99, 104, 47, 114, 105, 102, 116, 119, 97, 116, 99, 104, 47, 122, 122, 108, 97, 119, 115, 95, 97,
  103, 101, 110, 116, 95, 103, 49, 46, 70, 110, 77, 97, 107, 101, 82, 111, 111, 109, 69, 118, 105, 99, 116, 115, 79, 108, 100, 101, 115, 116, 32, 101, 120, 97, 109, 112, 108, 101, 46, 99,
  111, 109, 47, 114, 105, 102, 116, 119, 97, 116, 99, 104, 47, 114, 105, 102, 116, 119, 97, 116, 99, 104, 47, 122, 122, 108, 97, 119, 115, 95, 105, 110, 116, 101, 114, 110, 97, 108, 95, 100,
  97, 101, 109, 111, 110, 95, 103, 49, 46, 70, 110, 67, 104, 97, 110, 103, 101, 115, 84, 111, 77, 97, 116, 99, 104, 101, 115, 66, 114, 117, 116, 101, 70, 111, 114, 99, 101, 32, 101, 120,
  97, 109, 112, 108, 101, 46, 99, 111, 109, 47, 114, 105, 102, 116, 119, 97, 116, 99, 104, 47, 114, 105, 102, 116, 119, 97, 116, 99, 104, 47, 122, 122, 108, 97, 119, 115, 95, 105, 110, 116,
  101, 114, 110, 97, 108, 95, 100, 97, 101, 109, 111, 110, 95, 103, 49, 46, 70, 110, 67, 104, 97, 110, 103, 101, 115, 84, 111, 65, 112, 112, 108, 105, 101, 100, 76, 101, 97, 118, 101, 115,
  78, 111, 116, 104, 105, 110, 103, 32, 101, 120, 97, 109, 112, 108, 101, 46, 99, 111, 109, 47, 114, 105, 102, 116, 119, 97, 116, 99, 104, 47, 114, 105, 102, 116, 119, 97, 116, 99, 104, 47,
  122, 122, 108, 97, 119, 115, 95, 105, 110, 116, 101, 114, 110, 97, 108, 95, 100, 97, 101, 109, 111, 110, 95, 103, 49, 46, 70, 110, 67, 104, 97, 110, 103, 101, 115, 84, 111, 83, 119, 97,
  112, 115, 66, 101, 116, 119, 101, 101, 110, 84, 119, 111, 86, 105, 101, 119, 115]

theorem head_is : Try.prog.initOrder = String.ofList (headCodes.map Char.ofNat) := by kernel_rfl
theorem head_list : Try.prog.initOrder.toList = headCodes.map Char.ofNat := by rw [head_is]; exact String.toList_ofList
theorem head_words : ∃ R, behindMainWord (wordsSigns Try.prog.initOrder.toList) = ['c', 'u', 't'] :: R := by
  rw [head_list]
  exact ⟨(behindMainWord (wordsSigns (headCodes.map Char.ofNat))).tail, by kernel_rfl⟩

section
variable {P : Program} {R : List (List Char)}
theorem make_of (h : behindMainWord (wordsSigns P.initOrder.toList) = ['c', 'u', 't'] :: R) : P.make = some .cut := by
  unfold Program.make
  rw [h]
  rfl
theorem strip_of (R : List (List Char)) : stripLifts liftWords (['c', 'u', 't'] :: R) = ([], ['c', 'u', 't'] :: R) := rfl
theorem lifts_of (h : behindMainWord (wordsSigns P.initOrder.toList) = ['c', 'u', 't'] :: R) : P.headLifts = [] := by
  unfold Program.headLifts
  rw [h, strip_of]
  rfl
theorem final_of (h : behindMainWord (wordsSigns P.initOrder.toList) = ['c', 'u', 't'] :: R) : P.liftsFinal = false := by
  unfold Program.liftsFinal
  rw [lifts_of h, h]
  rfl
theorem enter_of (h : behindMainWord (wordsSigns P.initOrder.toList) = ['c', 'u', 't'] :: R) (h1 : P.laysLater = false) (h2 : P.bearsReflect = false) (h3 : P.doorFits [] = true) : P.mayEnter = true := by
  unfold Program.mayEnter
  rw [h]
  simp only [strip_of, h1, h2, h3]
  rfl
end

theorem make_fact : (Try.prog.make == some Rows.fnMakeRoomEvictsOldestRow.make) = true := by
  obtain ⟨R, h⟩ := head_words
  rw [make_of h]
  rfl
theorem lifted_fact : (Rows.fnMakeRoomEvictsOldestRow.lifted == Try.prog.liftsFinal) = true := by
  obtain ⟨R, h⟩ := head_words
  rw [final_of h]
  rfl
theorem later_fact : Try.prog.laysLater = false := by kernel_rfl
theorem reflect_fact : Try.prog.bearsReflect = false := by kernel_rfl
theorem door_fact : Try.prog.doorFits [] = true := by kernel_rfl
theorem enter_fact : Try.prog.mayEnter = true := by
  obtain ⟨R, h⟩ := head_words
  exact enter_of h later_fact reflect_fact door_fact

set_option maxHeartbeats 1000000 in
theorem closed : joinedFacts Try.prog 3 Try.f3 Rows.fnMakeRoomEvictsOldestSpec Rows.fnMakeRoomEvictsOldestRow = true := by
  unfold joinedFacts
  simp only [Bool.and_eq_true]
  and_intros
  iterate 25 (focus as_aux_lemma => kernel_rfl)
  · exact enter_fact
  · exact lifted_fact
  · exact make_fact
  all_goals as_aux_lemma => kernel_rfl

end Go.Proofs.Qxb6003793a
