import Derived.Test.YtlnpifmdjcnflaaGreatDoorS51
set_option linter.unusedVariables false
set_option linter.unusedSimpArgs false
namespace Go.Proofs.YtlnpifmdjcnflaaGreatDoor
set_option maxHeartbeats 100000000 in
theorem closed : joinedFacts Tryz.prog 3 Tryz.f3 (OpenSpec.ofChange Rows.fnJTellTypeSpec).bare Rows.fnJTellTypeRow = true := by
  unfold joinedFacts
  simp only [Bool.and_eq_true]
  and_intros
  all_goals as_aux_lemma => kernel_rfl
end Go.Proofs.YtlnpifmdjcnflaaGreatDoor
