/-
  SEAT b6001176aD. 'Rows.FnPathStringJoinsAtTheSeamCardSaid': the card, proved. The walk is in Qxb6001176aDoorLaw.lean, the row's step in Qxb6001176aDoorRow.lean; the tie is given.
-/
import Derived.Test.Qxb6001176aDoorRow
import Derived.Test.Qxb6001176aDoorTie
import Derived.Test.Qxb6001176aDoorCards
import Derived.SevenTiedAt
namespace Go.Proofs.Qxb6001176aDoor
open Go

theorem over : Rows.fnPathStringJoinsAtTheSeamRow.holds Tryd.pinned (OpenSpec.ofChange Rows.fnPathStringJoinsAtTheSeamSpec) :=
  OpenClaim.holds_of_wide 3 Tryd.f3 rfl rfl rfl rfl rfl rfl rfl ⟨rfl, rfl, rfl, rfl, rfl⟩ rfl rfl rfl rfl rfl (by kernel_rfl) Tryd.func3 (by kernel_rfl)
    (of_decide_eq_true (by kernel_rfl)) (by unfold Func.isWrapper; first | (rw [if_pos (by decide +kernel)]; kernel_rfl) | (rw [if_neg (by decide +kernel)]; exact ⟨rfl, rfl⟩))
    (fun os started H enc _ => lifted os started H enc)

/-- THE STATEMENT -/
theorem proved : Rows.FnPathStringJoinsAtTheSeamCardSaid :=
  Claim7.holds_tied_plain_at .later [] [.data, .data, .data] true (true, "3c782bb15ca66d0523447f0783c948a47a200cc64f95e10c8427d1a1331395a5") false
    over (fun _ h => by cases h) (by kernel_rfl) (fun _ h => by cases h) fnPathStringJoinsAtTheSeam_row_tie rfl ⟨rfl, rfl⟩ (by kernel_rfl) rfl
    (fun f fn hf hfn => by
      obtain rfl : f = 3 := Option.some.inj ((show Tryd.prog.funcNamed Rows.fnPathStringJoinsAtTheSeamRow.func = some 3 by kernel_rfl).symm.trans hf) |>.symm
      obtain rfl : fn = Tryd.f3 := (Option.some.inj (Tryd.func3.symm.trans hfn)).symm
      exact ⟨by kernel_rfl, fun j t ht => by
        rw [Tryd.params3] at ht
        have hm : t ∈ [22, 23, 22, 23] := by simpa using Array.mem_of_getElem? ht
        have hall : ([22, 23, 22, 23].all fun u => !Tryd.prog.wantsStandIn u) = true := by kernel_rfl
        exact (show Tryd.prog.wantsStandIn t = false by simpa using List.all_eq_true.1 hall t hm)⟩)
    (by kernel_rfl)

end Go.Proofs.Qxb6001176aDoor
