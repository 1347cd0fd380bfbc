import Derived.Test.Qxb6602719aCase
namespace Go.Proofs.Qxb6602719a
open Go.RowKit

set_option maxHeartbeats 1000000 in
theorem asciiLetter (a : Int) (w : World) :
    Calls Try.prog 30 #[.int .u8 a] w fun e w' => e = .returned (.bool (letter a)) ∧ w' = w := by
  unfold letter
  go_enter Try.func30, Try.ntmps30
  go_wp2
  · rename_i h
    go_ret
    exact ⟨by simp [h], rfl⟩
  · rename_i h
    go_ret
    exact ⟨by simp; omega, rfl⟩

set_option maxHeartbeats 1000000 in
theorem sameUpToCaseBit (a b : Int) (w : World) (a0 : 0 ≤ a) (a1 : a < 256) (b0 : 0 ≤ b) (b1 : b < 256) :
    Calls Try.prog 36 #[.int .u8 a, .int .u8 b] w fun e w' => e = .returned (.bool (decide (lower a = lower b))) ∧ w' = w := by
  rw [← caseBit_eq a0 a1 b0 b1]
  unfold caseBit
  have HL := asciiLetter a
  by_cases h : a = b
  · subst h
    go_enter Try.func36, Try.ntmps36
    go_wp2_with fail
    go_ret
    exact ⟨by simp, rfl⟩
  · by_cases h2 : bits .xor .u8 a b = 32
    · go_enter Try.func36, Try.ntmps36
      go_wp2_with (go_at_call 30; refine (HL _).mono ?_; rintro e w' ⟨rfl, rfl⟩)
      go_ret
      exact ⟨by simp [h, h2], rfl⟩
    · go_enter Try.func36, Try.ntmps36
      go_wp2_with fail
      go_ret
      exact ⟨by simp [h, h2], rfl⟩
end Go.Proofs.Qxb6602719a
