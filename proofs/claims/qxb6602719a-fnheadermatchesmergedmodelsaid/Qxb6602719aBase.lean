import Derived.Test.Qxb6602719aProg
import Derived.WalkKit
import Derived.WalkLawsBesides
import Derived.Deep.QuietTactic
import Derived.BigQuiet
import Derived.RegionTactic
import Derived.ChangeAlike
import Derived.Deep.OwnRows
import Derived.WalkSpells
namespace Go.Proofs.Qxb6602719a
open Go.RowKit

theorem Hid.mk {p : Prop} (h : p) : Hid p := h

/-- the slice at address a holds the n values f 0, f 1, .. -/
def Row (w : World) (a : Option Addr) (n : Nat) (f : Nat → Value) : Prop :=
  ∀ i, i < n → ∃ b off, a = some ⟨b, off, none⟩ ∧ b < w.heap.size ∧ w.cell? ⟨b, off + i, none⟩ = some (f i)

/-- a slice of slices: row i has L i values F i 0, F i 1, .. -/
def Rows2 (w : World) (a : Option Addr) (n : Nat) (L : Nat → Nat) (F : Nat → Nat → Value) : Prop :=
  ∀ i, i < n → ∃ b off ak ck, a = some ⟨b, off, none⟩ ∧ b < w.heap.size ∧ w.cell? ⟨b, off + i, none⟩ = some (.slice ak (L i) ck) ∧ Row w ak (L i) (F i)

/-- the world is as it was; a bool came back; if it is true, p -/
def BoolIf (w : World) (p : Prop) (e : Ending) (w' : World) : Prop := w' = w ∧ ∃ b : Bool, e = .returned (.bool b) ∧ (b = true → p)

theorem BoolIf.no {w : World} {p : Prop} : BoolIf w p (.returned (.bool false)) w := ⟨rfl, false, rfl, by simp⟩
theorem BoolIf.yes {w : World} {p : Prop} {b : Bool} (h : p) : BoolIf w p (.returned (.bool b)) w := ⟨rfl, b, rfl, fun _ => h⟩

/-- the sum of the first n of L -/
def sumTo (L : Nat → Nat) : Nat → Nat
  | 0 => 0
  | n + 1 => sumTo L n + L n

theorem Row.below {w w' : World} {a : Option Addr} {n : Nat} {f : Nat → Value} {B : Nat} (h : Row w a n f) (hb : Below B w w') (hB : w.heap.size ≤ B) : Row w' a n f := by
  intro i hi
  obtain ⟨b, off, e, hlt, hc⟩ := h i hi
  exact ⟨b, off, e, Nat.lt_of_lt_of_le hlt hb.size, (hb.cell (p := ⟨b, off + i, none⟩) (Nat.lt_of_lt_of_le hlt hB)).trans hc⟩

theorem Rows2.below {w w' : World} {a : Option Addr} {n : Nat} {L : Nat → Nat} {F : Nat → Nat → Value} {B : Nat} (h : Rows2 w a n L F) (hb : Below B w w') (hB : w.heap.size ≤ B) : Rows2 w' a n L F := by
  intro i hi
  obtain ⟨b, off, ak, ck, e, hlt, hc, hr⟩ := h i hi
  exact ⟨b, off, ak, ck, e, Nat.lt_of_lt_of_le hlt hb.size, (hb.cell (p := ⟨b, off + i, none⟩) (Nat.lt_of_lt_of_le hlt hB)).trans hc, hr.below hb hB⟩

/-- as Row, the cells lying in a block from lo on -/
def RowGe (w : World) (lo : Nat) (a : Option Addr) (n : Nat) (f : Nat → Value) : Prop :=
  ∀ i, i < n → ∃ b off, a = some ⟨b, off, none⟩ ∧ lo ≤ b ∧ b < w.heap.size ∧ w.cell? ⟨b, off + i, none⟩ = some (f i)

theorem RowGe.row {w : World} {lo : Nat} {a : Option Addr} {n : Nat} {f : Nat → Value} (h : RowGe w lo a n f) : Row w a n f := fun i hi => by
  obtain ⟨b, off, e, _, hb, hc⟩ := h i hi
  exact ⟨b, off, e, hb, hc⟩

theorem RowGe.mono {w : World} {lo lo' : Nat} {a : Option Addr} {n : Nat} {f : Nat → Value} (h : RowGe w lo a n f) (hl : lo' ≤ lo) : RowGe w lo' a n f := fun i hi => by
  obtain ⟨b, off, e, h1, hb, hc⟩ := h i hi
  exact ⟨b, off, e, by omega, hb, hc⟩

theorem RowGe.below {w w' : World} {lo : Nat} {a : Option Addr} {n : Nat} {f : Nat → Value} {B : Nat} (h : RowGe w lo a n f) (hb : Below B w w') (hB : w.heap.size ≤ B) : RowGe w' lo a n f := by
  intro i hi
  obtain ⟨b, off, e, h1, hlt, hc⟩ := h i hi
  exact ⟨b, off, e, h1, Nat.lt_of_lt_of_le hlt hb.size, (hb.cell (p := ⟨b, off + i, none⟩) (Nat.lt_of_lt_of_le hlt hB)).trans hc⟩

theorem RowGe.setCell {w : World} {lo : Nat} {a : Option Addr} {n : Nat} {f : Nat → Value} (h : RowGe w lo a n f) {p : Addr} (hp : p.block < lo) (v : Value) : RowGe (w.setCell p v) lo a n f := by
  intro i hi
  obtain ⟨b, off, e, h1, hlt, hc⟩ := h i hi
  refine ⟨b, off, e, h1, by simpa [World.setCell] using hlt, ?_⟩
  rw [World.cell?_of_block (w := w) (Below.heap_setCell w p v b (by omega))]
  exact hc

/-- a fresh slice of n values f came back; what was there is as it was -/
def Cloned (w : World) (n : Nat) (f : Nat → Value) (e : Ending) (w' : World) : Prop :=
  ∃ a' c', e = .returned (.slice a' n c') ∧ RowGe w' w.heap.size a' n f ∧ Below w.heap.size w w'

/-- a fresh slice of fresh slices came back -/
def Cloned2 (w : World) (n : Nat) (L : Nat → Nat) (F : Nat → Nat → Value) (e : Ending) (w' : World) : Prop :=
  ∃ a' c', e = .returned (.slice a' n c') ∧ Rows2 w' a' n L F ∧ Below w.heap.size w w'

theorem Row.zero {w : World} {n : Nat} {f : Nat → Value} (h : Row w none n f) : n = 0 := by
  cases n with
  | zero => rfl
  | succ n => obtain ⟨_, _, e, _⟩ := h 0 (by omega); cases e

theorem Row.of_rowIs {w : World} {b : Nat} {t : TypeId} {n : Nat} {f g : Nat → Value} (h : w.rowIs b t n g) (e : ∀ i, i < n → g i = f i) : RowGe w b (some ⟨b, 0, none⟩) n f := by
  intro i hi
  refine ⟨b, 0, rfl, Nat.le_refl _, h.lt, ?_⟩
  rw [Nat.zero_add, h.cell hi, e i hi]

theorem Try.info9 : (Try.prog.info? 9).map (fun i => (i.zero, i.size, i.bytes)) = some (some (.string ByteArray.empty), 1, 16) := by kernel_rfl
theorem Try.info33 : (Try.prog.info? 33).map (fun i => (i.zero, i.size, i.bytes)) = some (some (.slice none 0 0), 1, 24) := by kernel_rfl

/-- Go's lowerASCII -/
def lower (z : Int) : Int := if 65 ≤ z ∧ z ≤ 90 then z + 32 else z

set_option maxHeartbeats 1000000 in
theorem lowerASCII (z : Int) (w : World) (h0 : 0 ≤ z) (h1 : z < 256) :
    Calls Try.prog 33 #[.int .u8 z] w fun e w' => e = .returned (.int .u8 (lower z)) ∧ w' = w := by
  unfold lower
  by_cases h : 65 ≤ z ∧ z ≤ 90
  · rw [if_pos h]
    obtain ⟨h2, h3⟩ := h
    go_enter Try.func33, Try.ntmps33
    go_wp2
    go_ret
    exact ⟨rfl, rfl⟩
  · rw [if_neg h]
    go_enter Try.func33, Try.ntmps33
    go_wp2
    all_goals
      go_ret
      exact ⟨rfl, rfl⟩
end Go.Proofs.Qxb6602719a
