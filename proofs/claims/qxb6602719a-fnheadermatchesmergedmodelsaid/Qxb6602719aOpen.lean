import Derived.Test.Qxb6602719aRows
import Derived.Test.Qxb6602719aBase
import Derived.ProofKit
import Derived.OpenShut
import Derived.ShutString
import Derived.ChangeOld
import Derived.Deep.Strs
import Derived.Deep.Slices
namespace Go.Proofs.Qxb6602719a
open Go.ChangeShapes Go.WideShapes Go.ChangeAt Go.RowKit
open Go.Deep (open_slice1 open_strs choose_lt)

theorem own : ownKnob Try.prog.godebug = none := by kernel_rfl
theorem laidOut : laidOutB Try.prog = true := by kernel_rfl
theorem cells33 : Try.prog.cellsOf 33 = 1 := by kernel_rfl
theorem cells9 : Try.prog.cellsOf 9 = 1 := by kernel_rfl

theorem rowAt {w : World} {a : Addr} {n : Nat} {f : Nat → Value} (h : ∀ i, i < n → w.cell? (a.add i) = some (f i)) : Row w (some a) n f := by
  intro i hi
  obtain ⟨b, off, spot⟩ := a
  have h0 := h i hi
  have hspot : spot = none := by
    have := World.cell?_spot (h 0 (by omega))
    simpa [Addr.add] using this
  subst hspot
  rw [Go.WideShapes.add_plain] at h0
  exact ⟨b, off, rfl, World.block_lt_of_cell? _ _ h0, h0⟩

section
variable {H : Type} {enc : TypeId × Value → H} {W : World}

theorem strRow {fuel : Nat} {V : Value} {x : DataW H × List MemPlace} (h : DataW.trod enc Try.prog W 0 (fun _ => true) true fuel 33 [V] = some x) :
    ∃ (a : Option Addr) (n c : Nat) (S : Nat → ByteArray), V = .slice a n c ∧ Row W a n (fun i => .string (S i)) ∧ ∀ i, i < n → (S i).size ≤ maxLen := by
  rcases open_strs Try.underlying33 Try.underlying9 cells9 h with ⟨hcs, _⟩ | ⟨a, n, c, m, S, hcs, _, hl, _, hm, _, hx⟩
  · simp at hcs
    exact ⟨none, 0, 0, fun _ => ByteArray.empty, hcs, fun i hi => by omega, fun i hi => by omega⟩
  · simp at hcs
    simp only [if_true] at hm
    exact ⟨some a, n, c, S, hcs, rowAt (fun i hi => (hx i (by omega)).1), fun i hi => (hx i (by omega)).2⟩

theorem strRows {fuel : Nat} {V : Value} {x : DataW H × List MemPlace} (h : DataW.trod enc Try.prog W 0 (fun _ => true) true fuel 34 [V] = some x) :
    ∃ (a : Option Addr) (n c : Nat) (L : Nat → Nat) (S : Nat → Nat → ByteArray), V = .slice a n c ∧ Rows2 W a n L (fun i j => .string (S i j)) ∧ ∀ i j, i < n → j < L i → (S i j).size ≤ maxLen := by
  rcases open_slice1 Try.underlying34 cells33 h with ⟨hcs, _⟩ | ⟨a, n, c, m, f, U, D, Pl, hcs, _, hl, _, hm, _, hx⟩
  · simp at hcs
    exact ⟨none, 0, 0, fun _ => 0, fun _ _ => ByteArray.empty, hcs, fun i hi => by omega, fun i j hi => by omega⟩
  · simp at hcs
    simp only [if_true] at hm
    have each : ∀ i, i < n → ∃ q : Option Addr × Nat × Nat × (Nat → ByteArray), U i = .slice q.1 q.2.1 q.2.2.1 ∧ Row W q.1 q.2.1 (fun j => .string (q.2.2.2 j)) ∧ ∀ j, j < q.2.1 → (q.2.2.2 j).size ≤ maxLen := by
      intro i hi
      obtain ⟨a', n', c', S', e1, e2, e3⟩ := strRow (hx i (by omega)).2
      exact ⟨(a', n', c', S'), e1, e2, e3⟩
    obtain ⟨q, hq⟩ := choose_lt each
    have row := rowAt (w := W) (a := a) (n := n) (f := U) (fun i hi => (hx i (by omega)).1)
    refine ⟨some a, n, c, fun i => (q i).2.1, fun i j => (q i).2.2.2 j, hcs, fun i hi => ?_, fun i j hi hj => (hq i hi).2.2 j hj⟩
    obtain ⟨b, off, e, hlt, hc⟩ := row i hi
    exact ⟨b, off, (q i).1, (q i).2.2.1, e, hlt, by rw [hc, (hq i hi).1], (hq i hi).2.1⟩

end
end Go.Proofs.Qxb6602719a
