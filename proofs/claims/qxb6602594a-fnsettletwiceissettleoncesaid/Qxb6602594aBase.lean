import Derived.Test.Qxb6602594aProg
import Derived.WalkKit
import Derived.WalkLawsBesides
import Derived.Deep.QuietTactic
import Derived.BigQuiet
import Derived.RegionTactic
import Derived.ChangeAlike
namespace Go.Proofs.Qxb6602594a
open Go.RowKit

/-- the slice at address a holds the n values f 0, f 1, .. -/
def Row (w : World) (a : Option Addr) (n : Nat) (f : Nat → Value) : Prop :=
  ∀ i, i < n → ∃ b off, a = some ⟨b, off, none⟩ ∧ b < w.heap.size ∧ w.cell? ⟨b, off + i, none⟩ = some (f i)

/-- a slice of slices: row i has L i values F i 0, F i 1, .. -/
def Rows2 (w : World) (a : Option Addr) (n : Nat) (L : Nat → Nat) (F : Nat → Nat → Value) : Prop :=
  ∀ i, i < n → ∃ b off ak ck, a = some ⟨b, off, none⟩ ∧ b < w.heap.size ∧ w.cell? ⟨b, off + i, none⟩ = some (.slice ak (L i) ck) ∧ Row w ak (L i) (F i)

/-- the world is as it was; a bool came back; if it is true, p -/
def BoolIf (w : World) (p : Prop) (e : Ending) (w' : World) : Prop := w' = w ∧ ∃ b : Bool, e = .returned (.bool b) ∧ (b = true → p)

theorem BoolIf.no {w : World} {p : Prop} : BoolIf w p (.returned (.bool false)) w := ⟨rfl, false, rfl, by simp⟩
theorem BoolIf.yes {w : World} {p : Prop} {b : Bool} (h : p) : BoolIf w p (.returned (.bool b)) w := ⟨rfl, b, rfl, fun _ => h⟩

/-- the sum of the first n of L -/
def sumTo (L : Nat → Nat) : Nat → Nat
  | 0 => 0
  | n + 1 => sumTo L n + L n

theorem Row.below {w w' : World} {a : Option Addr} {n : Nat} {f : Nat → Value} {B : Nat} (h : Row w a n f) (hb : Below B w w') (hB : w.heap.size ≤ B) : Row w' a n f := by
  intro i hi
  obtain ⟨b, off, e, hlt, hc⟩ := h i hi
  exact ⟨b, off, e, Nat.lt_of_lt_of_le hlt hb.size, (hb.cell (p := ⟨b, off + i, none⟩) (Nat.lt_of_lt_of_le hlt hB)).trans hc⟩

theorem Rows2.below {w w' : World} {a : Option Addr} {n : Nat} {L : Nat → Nat} {F : Nat → Nat → Value} {B : Nat} (h : Rows2 w a n L F) (hb : Below B w w') (hB : w.heap.size ≤ B) : Rows2 w' a n L F := by
  intro i hi
  obtain ⟨b, off, ak, ck, e, hlt, hc, hr⟩ := h i hi
  exact ⟨b, off, ak, ck, e, Nat.lt_of_lt_of_le hlt hb.size, (hb.cell (p := ⟨b, off + i, none⟩) (Nat.lt_of_lt_of_le hlt hB)).trans hc, hr.below hb hB⟩

set_option maxHeartbeats 1000000 in
theorem same32 (a1 a2 : Option Addr) (c1 c2 n : Nat) (z : Nat → Int) (w : World) (hb : n ≤ 1000000000)
    (h1 : Row w a1 n (fun i => .int .i32 (z i))) (h2 : Row w a2 n (fun i => .int .i32 (z i))) :
    Calls Try.prog 31 #[.slice a1 n c1, .slice a2 n c2] w fun e w' => e = .returned (.bool true) ∧ ∃ m, w' = w.drewN m := by
  go_enter Try.func31, Try.ntmps31
  go_wp2
  go_loopw [5] (fun i wr => ∃ k m : Nat, k ≤ n ∧ i = .int .i64 k ∧ wr = w.drewN m) (fun i _ => n - (intOf i).toNat)
  case atStart => exact ⟨0, 0, by omega, rfl, rfl⟩
  case round =>
    obtain ⟨k, m, hk, rfl, rfl⟩ := hrel
    by_cases hlt : k < n
    · obtain ⟨b1, o1, rfl, _, e1⟩ := h1 k hlt
      obtain ⟨b2, o2, rfl, _, e2⟩ := h2 k hlt
      clear h1 h2
      go_wp2
      go_quiet (fail)
      go_wp2
      go_roundw
      case rel => exact ⟨k + 1, _, by omega, by go_num, rfl⟩
      case measure => simp [intOf]; omega
    · go_wp2
      go_ret
      exact ⟨rfl, m, rfl⟩

set_option maxHeartbeats 1000000 in
theorem sameStr (a1 a2 : Option Addr) (c1 c2 n : Nat) (z : Nat → ByteArray) (w : World) (hb : n ≤ 1000000000)
    (h1 : Row w a1 n (fun i => .string (z i))) (h2 : Row w a2 n (fun i => .string (z i))) :
    Calls Try.prog 25 #[.slice a1 n c1, .slice a2 n c2] w fun e w' => e = .returned (.bool true) ∧ ∃ m, w' = w.drewN m := by
  go_enter Try.func25, Try.ntmps25
  go_wp2
  go_loopw [5] (fun i wr => ∃ k m : Nat, k ≤ n ∧ i = .int .i64 k ∧ wr = w.drewN m) (fun i _ => n - (intOf i).toNat)
  case atStart => exact ⟨0, 0, by omega, rfl, rfl⟩
  case round =>
    obtain ⟨k, m, hk, rfl, rfl⟩ := hrel
    by_cases hlt : k < n
    · obtain ⟨b1, o1, rfl, _, e1⟩ := h1 k hlt
      obtain ⟨b2, o2, rfl, _, e2⟩ := h2 k hlt
      clear h1 h2
      go_wp2
      go_quiet (fail)
      go_wp2
      go_roundw
      case rel => exact ⟨k + 1, _, by omega, by go_num, rfl⟩
      case measure => simp [intOf]; omega
    · go_wp2
      go_ret
      exact ⟨rfl, m, rfl⟩

end Go.Proofs.Qxb6602594a
