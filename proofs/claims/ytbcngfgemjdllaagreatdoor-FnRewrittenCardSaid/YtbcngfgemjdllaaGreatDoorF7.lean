/- Part F7: LF7. No conditions beyond those each statement names. -/
import Derived.Test.YtbcngfgemjdllaaGreatDoorCards
import Derived.Deep.DeepHandedRow
import Derived.Test.YtbcngfgemjdllaaGreatDoorB47
set_option linter.unusedVariables false
set_option linter.unusedSimpArgs false
namespace Go.Proofs.YtbcngfgemjdllaaGreatDoor.fnRewritten
set_option maxHeartbeats 4000000 in
theorem facts:joinedFacts Tryz.prog 7 Tryz.f7 (OpenSpec.ofChange Rows.fnRewrittenSpec).bare Rows.fnRewrittenRow=true :=
  jf_of (by as_aux_lemma=>kernel_rfl)
    (by as_aux_lemma=>kernel_rfl)
    (by as_aux_lemma=>kernel_rfl)
    (by as_aux_lemma=>kernel_rfl)
    (by as_aux_lemma=>kernel_rfl)
    (by as_aux_lemma=>kernel_rfl)
    (by as_aux_lemma=>kernel_rfl)
    (by as_aux_lemma=>kernel_rfl)
    (by as_aux_lemma=>kernel_rfl)
    (by as_aux_lemma=>kernel_rfl)
    (by as_aux_lemma=>kernel_rfl)
    (by as_aux_lemma=>kernel_rfl)
    (by as_aux_lemma=>kernel_rfl)
    (by as_aux_lemma=>kernel_rfl)
    (by as_aux_lemma=>kernel_rfl)
    (by as_aux_lemma=>kernel_rfl)
    (by as_aux_lemma=>kernel_rfl)
    (by as_aux_lemma=>kernel_rfl)
    (by as_aux_lemma=>kernel_rfl)
    (by as_aux_lemma=>kernel_rfl)
    (by as_aux_lemma=>kernel_rfl)
    (by as_aux_lemma=>kernel_rfl)
theorem instOf:Func.isInstance Tryz.prog Tryz.f7 Rows.fnRewrittenRow.origin Rows.fnRewrittenRow.targs:=of_decide_eq_true (by kernel_rfl)
theorem wrapOf:Func.isWrapper Tryz.prog Tryz.f7 Rows.fnRewrittenRow.wrapper Rows.fnRewrittenRow.mainSum:=by unfold Func.isWrapper; first | (rw [if_pos (by decide +kernel)]; kernel_rfl) | (rw [if_neg (by decide +kernel)]; exact ⟨rfl,rfl⟩)
theorem wfOf:OpenClaim.wfByText (OpenSpec.ofChange Rows.fnRewrittenSpec) Rows.fnRewrittenRow=true:=by kernel_rfl
theorem goesOf:false=Rows.fnRewrittenRow.goesBy Tryz.prog:=by kernel_rfl
end Go.Proofs.YtbcngfgemjdllaaGreatDoor.fnRewritten
