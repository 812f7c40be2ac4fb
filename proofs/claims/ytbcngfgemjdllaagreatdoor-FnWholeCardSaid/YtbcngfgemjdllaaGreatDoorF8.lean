/- Part F8: LF8. No conditions beyond those each statement names. -/
import Derived.Test.YtbcngfgemjdllaaGreatDoorCards
import Derived.Deep.DeepHandedRow
import Derived.Test.YtbcngfgemjdllaaGreatDoorB47
set_option linter.unusedVariables false
set_option linter.unusedSimpArgs false
namespace Go.Proofs.YtbcngfgemjdllaaGreatDoor.fnWhole
set_option maxHeartbeats 4000000 in
theorem facts:joinedFacts Tryz.prog 8 Tryz.f8 (OpenSpec.ofChange Rows.fnWholeSpec).bare Rows.fnWholeRow=true :=
  jf_of (by as_aux_lemma=>kernel_rfl)
    (by as_aux_lemma=>kernel_rfl)
    (by as_aux_lemma=>kernel_rfl)
    (by as_aux_lemma=>kernel_rfl)
    (by as_aux_lemma=>kernel_rfl)
    (by as_aux_lemma=>kernel_rfl)
    (by as_aux_lemma=>kernel_rfl)
    (by as_aux_lemma=>kernel_rfl)
    (by as_aux_lemma=>kernel_rfl)
    (by as_aux_lemma=>kernel_rfl)
    (by as_aux_lemma=>kernel_rfl)
    (by as_aux_lemma=>kernel_rfl)
    (by as_aux_lemma=>kernel_rfl)
    (by as_aux_lemma=>kernel_rfl)
    (by as_aux_lemma=>kernel_rfl)
    (by as_aux_lemma=>kernel_rfl)
    (by as_aux_lemma=>kernel_rfl)
    (by as_aux_lemma=>kernel_rfl)
    (by as_aux_lemma=>kernel_rfl)
    (by as_aux_lemma=>kernel_rfl)
    (by as_aux_lemma=>kernel_rfl)
    (by as_aux_lemma=>kernel_rfl)
theorem instOf:Func.isInstance Tryz.prog Tryz.f8 Rows.fnWholeRow.origin Rows.fnWholeRow.targs:=of_decide_eq_true (by kernel_rfl)
theorem wrapOf:Func.isWrapper Tryz.prog Tryz.f8 Rows.fnWholeRow.wrapper Rows.fnWholeRow.mainSum:=by unfold Func.isWrapper; first | (rw [if_pos (by decide +kernel)]; kernel_rfl) | (rw [if_neg (by decide +kernel)]; exact ⟨rfl,rfl⟩)
theorem wfOf:OpenClaim.wfByText (OpenSpec.ofChange Rows.fnWholeSpec) Rows.fnWholeRow=true:=by kernel_rfl
theorem goesOf:false=Rows.fnWholeRow.goesBy Tryz.prog:=by kernel_rfl
end Go.Proofs.YtbcngfgemjdllaaGreatDoor.fnWhole
