import Derived.Test.Qxb6602719aLift5
namespace Go.Proofs.Qxb6602719a

theorem over5 : Rows.fnHeaderMatchesMergedModelRow.holds Try.pinned (OpenSpec.ofChange Rows.fnHeaderMatchesMergedModelSpec) :=
  OpenClaim.holds_of_wide 5 Try.f5 rfl rfl rfl rfl rfl rfl rfl ⟨rfl, rfl, rfl, rfl, rfl⟩ rfl rfl rfl rfl rfl (by kernel_rfl) Try.func5 (by kernel_rfl)
    (of_decide_eq_true (by kernel_rfl)) (by unfold Func.isWrapper; rw [if_neg (by decide +kernel)]; exact ⟨rfl, rfl⟩)
    (fun os started H enc _ => lifted5 os started H enc)

theorem headerMatchesMergedModel : Rows.FnHeaderMatchesMergedModelSaid := over5
#print axioms headerMatchesMergedModel
end Go.Proofs.Qxb6602719a
