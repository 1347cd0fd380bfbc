import Derived.Test.Qxb6602719aLift7
namespace Go.Proofs.Qxb6602719a

theorem over7 : Rows.fnHeaderEmptyValuesAreAbsentRow.holds Try.pinned (OpenSpec.ofChange Rows.fnHeaderEmptyValuesAreAbsentSpec) :=
  OpenClaim.holds_of_wide 7 Try.f7 rfl rfl rfl rfl rfl rfl rfl ⟨rfl, rfl, rfl, rfl, rfl⟩ rfl rfl rfl rfl rfl (by kernel_rfl) Try.func7 (by kernel_rfl)
    (of_decide_eq_true (by kernel_rfl)) (by unfold Func.isWrapper; rw [if_neg (by decide +kernel)]; exact ⟨rfl, rfl⟩)
    (fun os started H enc _ => lifted7 os started H enc)

theorem headerEmptyValuesAreAbsent : Rows.FnHeaderEmptyValuesAreAbsentSaid := over7
#print axioms headerEmptyValuesAreAbsent
end Go.Proofs.Qxb6602719a
