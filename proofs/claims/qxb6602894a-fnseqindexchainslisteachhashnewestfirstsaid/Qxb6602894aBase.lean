import Derived.Test.Qxb6602894aProg
import Derived.WalkKit
import Derived.WalkLawsBesides
import Derived.Deep.QuietTactic
import Derived.BigQuiet
import Derived.RegionTactic
import Derived.ChangeAlike
import Derived.Deep.OwnRows
import Derived.WalkSpells
import Derived.Below
namespace Go.Proofs.Qxb6602894a
open Go.RowKit

theorem Hid.mk {p : Prop} (h : p) : Hid p := h

/-- the slice at address a holds the n values f 0, f 1, .. -/
def Row (w : World) (a : Option Addr) (n : Nat) (f : Nat → Value) : Prop :=
  ∀ i, i < n → ∃ b off, a = some ⟨b, off, none⟩ ∧ b < w.heap.size ∧ w.cell? ⟨b, off + i, none⟩ = some (f i)

/-- as Row, the cells lying in a block from lo on -/
def RowGe (w : World) (lo : Nat) (a : Option Addr) (n : Nat) (f : Nat → Value) : Prop :=
  ∀ i, i < n → ∃ b off, a = some ⟨b, off, none⟩ ∧ lo ≤ b ∧ b < w.heap.size ∧ w.cell? ⟨b, off + i, none⟩ = some (f i)

theorem RowGe.row {w : World} {lo : Nat} {a : Option Addr} {n : Nat} {f : Nat → Value} (h : RowGe w lo a n f) : Row w a n f := fun i hi => by
  obtain ⟨b, off, e, _, hb, hc⟩ := h i hi
  exact ⟨b, off, e, hb, hc⟩

theorem Row.below {w w' : World} {a : Option Addr} {n : Nat} {f : Nat → Value} {B : Nat} (h : Row w a n f) (hb : Below B w w') (hB : w.heap.size ≤ B) : Row w' a n f := by
  intro i hi
  obtain ⟨b, off, e, hlt, hc⟩ := h i hi
  exact ⟨b, off, e, Nat.lt_of_lt_of_le hlt hb.size, (hb.cell (p := ⟨b, off + i, none⟩) (Nat.lt_of_lt_of_le hlt hB)).trans hc⟩

theorem Row.zero {w : World} {n : Nat} {f : Nat → Value} (h : Row w none n f) : n = 0 := by
  cases n with
  | zero => rfl
  | succ n => obtain ⟨_, _, e, _⟩ := h 0 (by omega); cases e

/-- a row with an element has an address, and its cells lie there -/
theorem Row.addr {w : World} {a : Option Addr} {n : Nat} {f : Nat → Value} (h : Row w a n f) (hn : 0 < n) : ∃ b off, a = some ⟨b, off, none⟩ ∧ b < w.heap.size ∧ ∀ i, i < n → w.cell? ⟨b, off + i, none⟩ = some (f i) := by
  obtain ⟨b, off, rfl, hb, _⟩ := h 0 hn
  refine ⟨b, off, rfl, hb, fun i hi => ?_⟩
  obtain ⟨b', off', e, _, hc⟩ := h i hi
  cases e
  exact hc

theorem Row.of_rowIs {w : World} {b : Nat} {t : TypeId} {n : Nat} {f g : Nat → Value} (h : w.rowIs b t n g) (e : ∀ i, i < n → g i = f i) : RowGe w b (some ⟨b, 0, none⟩) n f := by
  intro i hi
  refine ⟨b, 0, rfl, Nat.le_refl _, h.lt, ?_⟩
  rw [Nat.zero_add, h.cell hi, e i hi]

/-- the world is as it was; a bool came back; if it is true, p -/
def BoolIf (w : World) (p : Prop) (e : Ending) (w' : World) : Prop := w' = w ∧ ∃ b : Bool, e = .returned (.bool b) ∧ (b = true → p)

theorem BoolIf.no {w : World} {p : Prop} : BoolIf w p (.returned (.bool false)) w := ⟨rfl, false, rfl, by simp⟩
theorem BoolIf.yes {w : World} {p : Prop} {b : Bool} (h : p) : BoolIf w p (.returned (.bool b)) w := ⟨rfl, b, rfl, fun _ => h⟩

/-- a fresh slice of n values f came back; what was there is as it was -/
def Cloned (w : World) (n : Nat) (f : Nat → Value) (e : Ending) (w' : World) : Prop :=
  ∃ a' c', e = .returned (.slice a' n c') ∧ RowGe w' w.heap.size a' n f ∧ Below w.heap.size w w'

/-- true came back; what was there is as it was -/
def Good (w : World) (e : Ending) (w' : World) : Prop := e = .returned (.bool true) ∧ Below w.heap.size w w'
theorem Good.same {w : World} : Good w (.returned (.bool true)) w := ⟨rfl, Below.refl _ _⟩

theorem Try.info29 : (Try.prog.info? 29).map (fun i => (i.zero, i.size, i.bytes)) = some (some (.int .u64 0), 1, 8) := by kernel_rfl
theorem Try.info21 : (Try.prog.info? 21).map (fun i => (i.zero, i.size, i.bytes)) = some (some (.int .i32 0), 1, 4) := by kernel_rfl

theorem drewN_below {B : Nat} {a w : World} (h : Below B a w) (d : Nat) : Below B a (w.drewN d) := ⟨h.os, h.tape, h.output, h.size, h.block⟩

set_option maxHeartbeats 1000000 in
theorem zzBytes8 (a : Option Addr) (n c : Nat) (w : World) : Calls Try.prog 8 #[.slice a n c] w (BoolIf w (n ≤ 1048576)) := by
  by_cases h : n ≤ 1048576
  · go_enter Try.func8, Try.ntmps8
    go_wp2
    go_ret
    exact BoolIf.yes h
  · go_enter Try.func8, Try.ntmps8
    go_wp2
    go_ret
    exact BoolIf.no

set_option maxHeartbeats 1000000 in
theorem zzBytes11 (a : Option Addr) (n c : Nat) (w : World) : Calls Try.prog 11 #[.slice a n c] w (BoolIf w (n ≤ 1048576)) := by
  by_cases h : n ≤ 1048576
  · go_enter Try.func11, Try.ntmps11
    go_wp2
    go_ret
    exact BoolIf.yes h
  · go_enter Try.func11, Try.ntmps11
    go_wp2
    go_ret
    exact BoolIf.no

set_option maxHeartbeats 1000000 in
theorem cloneU64 (a : Option Addr) (c n : Nat) (z : Nat → Int) (w : World) (hn : n ≤ 1048576) (h : Row w a n (fun i => .int .u64 (z i))) :
    Calls Try.prog 9 #[.slice a n c] w (Cloned w n (fun i => .int .u64 (z i))) := by
  have heq := fun w' a => Lib.run_eql_slice_nil (P := Try.prog) w' 22 29 a n c 0 0 Try.underlying22
  have hmk := run_make_row' (P := Try.prog) 22 29 (.int .u64 0) 8 Try.underlying22 Try.info29 rfl .i64 .i64 n (by omega) (by omega)
  cases a with
  | none =>
    have := h.zero
    subst this
    go_enter Try.func9, Try.ntmps9
    go_wp2
    go_ret
    exact ⟨none, 0, rfl, fun i hi => by omega, Below.refl _ _⟩
  | some x =>
    go_enter Try.func9, Try.ntmps9
    go_wp2
    clear heq hmk
    go_loopw [4] (fun i wr => ∃ (k : Nat) (g : Nat → Value), k ≤ n ∧ i = .int .i64 k ∧ wr.rowIs w.heap.size 29 n g ∧ (∀ i, i < k → g i = .int .u64 (z i)) ∧ Below w.heap.size w wr) (fun i _ => n - (intOf i).toNat)
    case atStart => exact ⟨0, _, by omega, rfl, World.rowIs_made w _ n 29, fun j hj => by omega, (Below.refl _ _).alloc (Nat.le_refl _) _⟩
    case round =>
      obtain ⟨k, g, hk, rfl, hrow, hg, hbel⟩ := hrel
      by_cases hlt : k < n
      · obtain ⟨b, off, e, hb, hc⟩ := h k hlt
        simp only [Option.some.injEq] at e
        subst e
        have hc' := (hbel.cell (p := ⟨b, off + k, none⟩) hb).trans hc
        have hd := hrow.cell hlt
        have hf := hrow.frozen k
        have R1 := Hid.mk (hrow.set k (.int .u64 (z k)))
        have R2 := Hid.mk (hbel.setCell (p := ⟨w.heap.size, k, none⟩) (Nat.le_refl _) (.int .u64 (z k)))
        have R3 : Hid (∀ i, i < k + 1 → (if i = k then .int .u64 (z k) else g i) = Value.int .u64 (z i)) := fun i hi => by
          by_cases e : i = k
          · subst e; rw [if_pos rfl]
          · rw [if_neg e]; exact hg i (by omega)
        have H := Hid.mk h
        clear hrow hbel hg h hc
        go_wp2
        go_roundw
        case rel => exact ⟨k + 1, _, by omega, by go_num, R1.out, R3.out, R2.out⟩
        case measure => simp [intOf]; omega
      · have e : k = n := by omega
        subst e
        have R := Hid.mk (Row.of_rowIs hrow (fun i hi => hg i hi))
        have R2 := Hid.mk hbel
        clear hrow hg hbel h
        go_wp2
        go_ret
        exact ⟨_, _, rfl, R.out, R2.out⟩
end Go.Proofs.Qxb6602894a
