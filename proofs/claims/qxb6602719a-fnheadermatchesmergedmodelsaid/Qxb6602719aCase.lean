import Derived.Test.Qxb6602719aFold
namespace Go.Proofs.Qxb6602719a
open Go.RowKit

def letter (a : Int) : Bool := decide (97 ≤ bits .or .u8 a 32) && decide (bits .or .u8 a 32 ≤ 122)
def caseBit (a b : Int) : Bool := decide (a = b) || (decide (bits .xor .u8 a b = 32) && letter a)

theorem caseBit_nat : ∀ a, a < 256 → ∀ b, b < 256 → caseBit (a : Nat) (b : Nat) = decide (lower (a : Nat) = lower (b : Nat)) := by decide +kernel

theorem caseBit_eq {a b : Int} (a0 : 0 ≤ a) (a1 : a < 256) (b0 : 0 ≤ b) (b1 : b < 256) : caseBit a b = decide (lower a = lower b) := by
  obtain ⟨m, rfl⟩ := Int.eq_ofNat_of_zero_le a0
  obtain ⟨n, rfl⟩ := Int.eq_ofNat_of_zero_le b0
  exact caseBit_nat m (by omega) n (by omega)

end Go.Proofs.Qxb6602719a
