import Derived.Test.Qxb6602994aProg
import Derived.WalkKit
import Derived.WalkLawsBesides
import Derived.Deep.QuietTactic
import Derived.BigQuiet
import Derived.RegionTactic
import Derived.ChangeAlike
import Derived.Deep.OwnRows
import Derived.WalkSpells
import Derived.Below
import Derived.Deep.MidRow
namespace Go.Proofs.Qxb6602994a
open Go.RowKit

theorem Hid.mk {p : Prop} (h : p) : Hid p := h

/-- the slice at address a holds the n values f 0, f 1, .. -/
def Row (w : World) (a : Option Addr) (n : Nat) (f : Nat → Value) : Prop :=
  ∀ i, i < n → ∃ b off, a = some ⟨b, off, none⟩ ∧ b < w.heap.size ∧ w.cell? ⟨b, off + i, none⟩ = some (f i)

/-- as Row, the cells lying in a block from lo on -/
def RowGe (w : World) (lo : Nat) (a : Option Addr) (n : Nat) (f : Nat → Value) : Prop :=
  ∀ i, i < n → ∃ b off, a = some ⟨b, off, none⟩ ∧ lo ≤ b ∧ b < w.heap.size ∧ w.cell? ⟨b, off + i, none⟩ = some (f i)

theorem RowGe.row {w : World} {lo : Nat} {a : Option Addr} {n : Nat} {f : Nat → Value} (h : RowGe w lo a n f) : Row w a n f := fun i hi => by
  obtain ⟨b, off, e, _, hb, hc⟩ := h i hi
  exact ⟨b, off, e, hb, hc⟩

theorem Row.below {w w' : World} {a : Option Addr} {n : Nat} {f : Nat → Value} {B : Nat} (h : Row w a n f) (hb : Below B w w') (hB : w.heap.size ≤ B) : Row w' a n f := by
  intro i hi
  obtain ⟨b, off, e, hlt, hc⟩ := h i hi
  exact ⟨b, off, e, Nat.lt_of_lt_of_le hlt hb.size, (hb.cell (p := ⟨b, off + i, none⟩) (Nat.lt_of_lt_of_le hlt hB)).trans hc⟩

theorem Row.zero {w : World} {n : Nat} {f : Nat → Value} (h : Row w none n f) : n = 0 := by
  cases n with
  | zero => rfl
  | succ n => obtain ⟨_, _, e, _⟩ := h 0 (by omega); cases e

/-- a row with an element has an address, and its cells lie there -/
theorem Row.addr {w : World} {a : Option Addr} {n : Nat} {f : Nat → Value} (h : Row w a n f) (hn : 0 < n) : ∃ b off, a = some ⟨b, off, none⟩ ∧ b < w.heap.size ∧ ∀ i, i < n → w.cell? ⟨b, off + i, none⟩ = some (f i) := by
  obtain ⟨b, off, rfl, hb, _⟩ := h 0 hn
  refine ⟨b, off, rfl, hb, fun i hi => ?_⟩
  obtain ⟨b', off', e, _, hc⟩ := h i hi
  cases e
  exact hc

theorem Row.of_rowIs {w : World} {b : Nat} {t : TypeId} {n : Nat} {f g : Nat → Value} (h : w.rowIs b t n g) (e : ∀ i, i < n → g i = f i) : RowGe w b (some ⟨b, 0, none⟩) n f := by
  intro i hi
  refine ⟨b, 0, rfl, Nat.le_refl _, h.lt, ?_⟩
  rw [Nat.zero_add, h.cell hi, e i hi]

/-- the world is as it was; a bool came back; if it is true, p -/
def BoolIf (w : World) (p : Prop) (e : Ending) (w' : World) : Prop := w' = w ∧ ∃ b : Bool, e = .returned (.bool b) ∧ (b = true → p)

theorem BoolIf.no {w : World} {p : Prop} : BoolIf w p (.returned (.bool false)) w := ⟨rfl, false, rfl, by simp⟩
theorem BoolIf.yes {w : World} {p : Prop} {b : Bool} (h : p) : BoolIf w p (.returned (.bool b)) w := ⟨rfl, b, rfl, fun _ => h⟩

/-- a fresh slice of n values f came back; what was there is as it was -/
def Cloned (w : World) (n : Nat) (f : Nat → Value) (e : Ending) (w' : World) : Prop :=
  ∃ a' c', e = .returned (.slice a' n c') ∧ RowGe w' w.heap.size a' n f ∧ Below w.heap.size w w'

/-- true came back; what was there is as it was -/
def Good (w : World) (e : Ending) (w' : World) : Prop := e = .returned (.bool true) ∧ Below w.heap.size w w'
theorem Good.same {w : World} : Good w (.returned (.bool true)) w := ⟨rfl, Below.refl _ _⟩

theorem Try.info30 : (Try.prog.info? 30).map (fun i => (i.zero, i.size, i.bytes)) = some (some (.int .u64 0), 1, 8) := by kernel_rfl
theorem Try.info3 : (Try.prog.info? 3).map (fun i => (i.zero, i.size, i.bytes)) = some (some (.int .i64 0), 1, 8) := by kernel_rfl

theorem drewN_below {B : Nat} {a w : World} (h : Below B a w) (d : Nat) : Below B a (w.drewN d) := ⟨h.os, h.tape, h.output, h.size, h.block⟩

/-- the slice of pairs at address a -/
def Prs (w : World) (a : Option Addr) (n : Nat) (Hs Ps : Nat → Int) : Prop :=
  ∀ i, i < n → ∃ b off, a = some ⟨b, off, none⟩ ∧ b < w.heap.size ∧ w.cell? ⟨b, off + i * 2, none⟩ = some (.int .u64 (Hs i)) ∧ w.cell? ⟨b, off + i * 2 + 1, none⟩ = some (.int .i64 (Ps i))

theorem Prs.zero {w : World} {n : Nat} {Hs Ps : Nat → Int} (h : Prs w none n Hs Ps) : n = 0 := by
  cases n with
  | zero => rfl
  | succ n => obtain ⟨_, _, e, _⟩ := h 0 (by omega); cases e

/-- how many of the first n are taken -/
def tk (Ps : Nat → Int) : Nat → Nat
  | 0 => 0
  | n + 1 => if Ps n = 0 then tk Ps n else tk Ps n + 1

theorem tk_le (Ps : Nat → Int) (n : Nat) : tk Ps n ≤ n := by
  induction n with
  | zero => exact Nat.le_refl _
  | succ n ih => unfold tk; split <;> omega

set_option maxHeartbeats 1000000 in
theorem zzBytes (a : Option Addr) (n c : Nat) (x1 x2 x3 x4 : Int) (w : World) : Calls Try.prog 29 #[.slice a n c, .int .i64 x1, .int .i64 x2, .int .i64 x3, .int .i64 x4] w (BoolIf w (n ≤ 1048576)) := by
  by_cases h : n ≤ 1048576
  · go_enter Try.func29, Try.ntmps29
    go_wp2
    go_ret
    exact BoolIf.yes h
  · go_enter Try.func29, Try.ntmps29
    go_wp2
    go_ret
    exact BoolIf.no

/-- the number z came back; the world stands -/
def IntIs (w : World) (z : Int) (e : Ending) (w' : World) : Prop := e = .returned (.int .i64 z) ∧ w' = w

set_option maxHeartbeats 1000000 in
theorem takenCount (a : Option Addr) (n c : Nat) (Hs Ps : Nat → Int) (w : World) (hn : n ≤ 1048576) (h : Prs w a n Hs Ps) : Calls Try.prog 23 #[.slice a n c] w (IntIs w (tk Ps n)) := by
  go_enter Try.func23, Try.ntmps23
  go_wp2
  go_loop [3, 4] (fun t i => ∃ k : Nat, k ≤ n ∧ i = .int .i64 k ∧ t = .int .i64 (tk Ps k)) (fun _ i => n - (intOf i).toNat)
  case atStart => exact ⟨0, by omega, rfl, rfl⟩
  case round =>
    obtain ⟨k, hk, rfl, rfl⟩ := hrel
    by_cases hlt : k < n
    · obtain ⟨b, off, rfl, _, _, hc⟩ := h k hlt
      have hl := tk_le Ps k
      by_cases hz : Ps k = 0
      · have HT : Hid (tk Ps (k + 1) = tk Ps k) := Hid.mk (by rw [tk, if_pos hz])
        rw [hz] at hc
        generalize tk Ps k = t at *
        clear h
        go_wp2
        exact ⟨⟨k + 1, by omega, by go_num, by rw [HT.out]⟩, by simp [intOf]; omega⟩
      · have HT : Hid (tk Ps (k + 1) = tk Ps k + 1) := Hid.mk (by rw [tk, if_neg hz])
        have hz' : (Ps k == 0) = false := by simpa using hz
        generalize tk Ps k = t at *
        generalize Ps k = p at *
        clear h
        go_wp2
        exact ⟨⟨k + 1, by omega, by go_num, by rw [HT.out]; go_num⟩, by simp [intOf]; omega⟩
    · have e : k = n := by omega
      rw [e]
      go_wp2
      go_ret
      exact ⟨rfl, rfl⟩
end Go.Proofs.Qxb6602994a
