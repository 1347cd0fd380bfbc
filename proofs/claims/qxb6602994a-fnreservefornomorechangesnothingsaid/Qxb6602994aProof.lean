import Derived.Test.Qxb6602994aLift
namespace Go.Proofs.Qxb6602994a

theorem over9 : Rows.fnReserveForNoMoreChangesNothingRow.holds Try.pinned (OpenSpec.ofChange Rows.fnReserveForNoMoreChangesNothingSpec) :=
  OpenClaim.holds_of_wide 9 Try.f9 rfl rfl rfl rfl rfl rfl rfl ⟨rfl, rfl, rfl, rfl, rfl⟩ rfl rfl rfl rfl rfl (by kernel_rfl) Try.func9 (by kernel_rfl)
    (of_decide_eq_true (by kernel_rfl)) (by unfold Func.isWrapper; rw [if_neg (by decide +kernel)]; exact ⟨rfl, rfl⟩)
    (fun os started H enc _ => lifted9 os started H enc)

theorem reserveForNoMoreChangesNothing : Rows.FnReserveForNoMoreChangesNothingSaid := over9
#print axioms reserveForNoMoreChangesNothing
end Go.Proofs.Qxb6602994a
