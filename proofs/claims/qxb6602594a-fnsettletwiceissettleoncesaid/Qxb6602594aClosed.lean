import Derived.Test.Qxb6602594aWords
namespace Go.Proofs.Qxb6602594a
theorem closedAll : joinedFacts Try.prog 6 Try.f6 Rows.fnSettleTwiceIsSettleOnceSpec Rows.fnSettleTwiceIsSettleOnceRow = true := by
  unfold joinedFacts
  simp only [Bool.and_eq_true]
  exact ⟨⟨⟨⟨⟨⟨⟨⟨⟨⟨⟨⟨⟨⟨⟨⟨⟨⟨⟨⟨⟨⟨⟨⟨⟨⟨⟨⟨⟨⟨⟨(by kernel_rfl), (by kernel_rfl)⟩, (by kernel_rfl)⟩, (by kernel_rfl)⟩, (by kernel_rfl)⟩, (by kernel_rfl)⟩, (by kernel_rfl)⟩, (by kernel_rfl)⟩, (by kernel_rfl)⟩, (by kernel_rfl)⟩, (by kernel_rfl)⟩, (by kernel_rfl)⟩, (by kernel_rfl)⟩, (by kernel_rfl)⟩, (by kernel_rfl)⟩, (by kernel_rfl)⟩, (by kernel_rfl)⟩, (by kernel_rfl)⟩, (by kernel_rfl)⟩, (by kernel_rfl)⟩, (by kernel_rfl)⟩, (by kernel_rfl)⟩, (by kernel_rfl)⟩, (by kernel_rfl)⟩, (by kernel_rfl)⟩, mayEnter⟩, (by rw [liftsFinal]; kernel_rfl)⟩, (by rw [make]; kernel_rfl)⟩, (by kernel_rfl)⟩, (by kernel_rfl)⟩, (by kernel_rfl)⟩, (by kernel_rfl)⟩
end Go.Proofs.Qxb6602594a
