/-
  The proof of 'Rows.FnWriteListCutAnywhereCardSaid': the row out of the walk; the tied card by the builder's one call, the tie as given.
-/
import Derived.Test.Qxb6608600aDoorCut
import Derived.Test.Qxb6608600aDoorOpen
import Derived.Test.Qxb6608600aDoorTie
import Derived.Test.Qxb6608600aDoorCards
import Derived.SevenTiedAt
namespace Go.Proofs.Qxb6608600aDoor
open Go

theorem fnWriteListCutAnywhere_row : Rows.FnWriteListCutAnywhereSaid :=
  OpenClaim.holds_of_wide 3 Tryd.f3 rfl rfl rfl rfl rfl rfl rfl ⟨rfl, rfl, rfl, rfl, rfl⟩ rfl rfl rfl rfl rfl (by kernel_rfl) Tryd.func3 (by kernel_rfl)
    (of_decide_eq_true (by kernel_rfl)) (by unfold Func.isWrapper; first | (rw [if_pos (by decide +kernel)]; kernel_rfl) | (rw [if_neg (by decide +kernel)]; exact ⟨rfl, rfl⟩))
    (fun os started H enc _ => lifted3 (fun p o c va vb xa xb w => law_cut p o c va vb xa xb w) os started H enc)

/-- The statement. -/
theorem fnWriteListCutAnywhere_card : Rows.FnWriteListCutAnywhereCardSaid :=
  Claim7.holds_tied_plain_at .later [] [.data, .data, .data, .wider] true Rows.fnWriteListCutAnywhereCard.stood.harness true
    fnWriteListCutAnywhere_row (fun _ h => by cases h) (by kernel_rfl) (fun _ h => by cases h) fnWriteListCutAnywhere_row_tie rfl ⟨rfl, rfl⟩ (by kernel_rfl) rfl
    (fun f fn hf hfn => by
      obtain rfl : f = 3 := Option.some.inj ((show Tryd.prog.funcNamed Rows.fnWriteListCutAnywhereRow.func = some 3 by kernel_rfl).symm.trans hf) |>.symm
      obtain rfl : fn = Tryd.f3 := (Option.some.inj (Tryd.func3.symm.trans hfn)).symm
      exact ⟨by kernel_rfl, fun j t ht => by
        rw [Tryd.params3] at ht
        have hm : t ∈ [9, 9, 22, 22, 9] := by simpa using Array.mem_of_getElem? ht
        have hall : ([9, 9, 22, 22, 9].all fun u => !Tryd.prog.wantsStandIn u) = true := by kernel_rfl
        exact (show Tryd.prog.wantsStandIn t = false by simpa using List.all_eq_true.1 hall t hm)⟩)
    (by kernel_rfl)
end Go.Proofs.Qxb6608600aDoor
