import Derived.Test.Qxb6602594aBase
import Derived.Deep.OwnRows
import Derived.WalkSpells
namespace Go.Proofs.Qxb6602594a
open Go.RowKit

/-- as Row, the cells lying in a block from lo on -/
def RowGe (w : World) (lo : Nat) (a : Option Addr) (n : Nat) (f : Nat → Value) : Prop :=
  ∀ i, i < n → ∃ b off, a = some ⟨b, off, none⟩ ∧ lo ≤ b ∧ b < w.heap.size ∧ w.cell? ⟨b, off + i, none⟩ = some (f i)

theorem RowGe.row {w : World} {lo : Nat} {a : Option Addr} {n : Nat} {f : Nat → Value} (h : RowGe w lo a n f) : Row w a n f := fun i hi => by
  obtain ⟨b, off, e, _, hb, hc⟩ := h i hi
  exact ⟨b, off, e, hb, hc⟩

theorem RowGe.mono {w : World} {lo lo' : Nat} {a : Option Addr} {n : Nat} {f : Nat → Value} (h : RowGe w lo a n f) (hl : lo' ≤ lo) : RowGe w lo' a n f := fun i hi => by
  obtain ⟨b, off, e, h1, hb, hc⟩ := h i hi
  exact ⟨b, off, e, by omega, hb, hc⟩

theorem RowGe.below {w w' : World} {lo : Nat} {a : Option Addr} {n : Nat} {f : Nat → Value} {B : Nat} (h : RowGe w lo a n f) (hb : Below B w w') (hB : w.heap.size ≤ B) : RowGe w' lo a n f := by
  intro i hi
  obtain ⟨b, off, e, h1, hlt, hc⟩ := h i hi
  exact ⟨b, off, e, h1, Nat.lt_of_lt_of_le hlt hb.size, (hb.cell (p := ⟨b, off + i, none⟩) (Nat.lt_of_lt_of_le hlt hB)).trans hc⟩

theorem RowGe.setCell {w : World} {lo : Nat} {a : Option Addr} {n : Nat} {f : Nat → Value} (h : RowGe w lo a n f) {p : Addr} (hp : p.block < lo) (v : Value) : RowGe (w.setCell p v) lo a n f := by
  intro i hi
  obtain ⟨b, off, e, h1, hlt, hc⟩ := h i hi
  refine ⟨b, off, e, h1, by simpa [World.setCell] using hlt, ?_⟩
  rw [World.cell?_of_block (w := w) (Below.heap_setCell w p v b (by omega))]
  exact hc

/-- a fresh slice of n values f came back; what was there is as it was -/
def Cloned (w : World) (n : Nat) (f : Nat → Value) (e : Ending) (w' : World) : Prop :=
  ∃ a' c', e = .returned (.slice a' n c') ∧ RowGe w' w.heap.size a' n f ∧ Below w.heap.size w w'

/-- a fresh slice of fresh slices came back -/
def Cloned2 (w : World) (n : Nat) (L : Nat → Nat) (F : Nat → Nat → Value) (e : Ending) (w' : World) : Prop :=
  ∃ a' c', e = .returned (.slice a' n c') ∧ Rows2 w' a' n L F ∧ Below w.heap.size w w'

theorem Row.zero {w : World} {n : Nat} {f : Nat → Value} (h : Row w none n f) : n = 0 := by
  cases n with
  | zero => rfl
  | succ n => obtain ⟨_, _, e, _⟩ := h 0 (by omega); cases e

theorem Hid.mk {p : Prop} (h : p) : Hid p := h

theorem Row.of_rowIs {w : World} {b : Nat} {t : TypeId} {n : Nat} {f g : Nat → Value} (h : w.rowIs b t n g) (e : ∀ i, i < n → g i = f i) : RowGe w b (some ⟨b, 0, none⟩) n f := by
  intro i hi
  refine ⟨b, 0, rfl, Nat.le_refl _, h.lt, ?_⟩
  rw [Nat.zero_add, h.cell hi, e i hi]

theorem Try.info21 : (Try.prog.info? 21).map (fun i => (i.zero, i.size, i.bytes)) = some (some (.int .i32 0), 1, 4) := by kernel_rfl
theorem Try.info9 : (Try.prog.info? 9).map (fun i => (i.zero, i.size, i.bytes)) = some (some (.string ByteArray.empty), 1, 16) := by kernel_rfl
theorem Try.info5 : (Try.prog.info? 5).map (fun i => (i.zero, i.size, i.bytes)) = some (some (.int .u8 0), 1, 1) := by kernel_rfl
theorem Try.info23 : (Try.prog.info? 23).map (fun i => (i.zero, i.size, i.bytes)) = some (some (.slice none 0 0), 1, 24) := by kernel_rfl
theorem Try.info48 : (Try.prog.info? 48).map (fun i => (i.zero, i.size, i.bytes)) = some (some (.slice none 0 0), 1, 24) := by kernel_rfl

set_option maxHeartbeats 1000000 in
theorem clone32 (a : Option Addr) (c n : Nat) (z : Nat → Int) (w : World) (hn : n ≤ 1048576) (h : Row w a n (fun i => .int .i32 (z i))) :
    Calls Try.prog 35 #[.slice a n c] w (Cloned w n (fun i => .int .i32 (z i))) := by
  have heq := fun w' a => Lib.run_eql_slice_nil (P := Try.prog) w' 48 21 a n c 0 0 Try.underlying48
  have hmk := run_make_row' (P := Try.prog) 48 21 (.int .i32 0) 4 Try.underlying48 Try.info21 rfl .i64 .i64 n (by omega) (by omega)
  cases a with
  | none =>
    have := h.zero
    subst this
    go_enter Try.func35, Try.ntmps35
    go_wp2
    go_ret
    exact ⟨none, 0, rfl, fun i hi => by omega, Below.refl _ _⟩
  | some x =>
    go_enter Try.func35, Try.ntmps35
    go_wp2
    clear heq hmk
    go_loopw [4] (fun i wr => ∃ (k : Nat) (g : Nat → Value), k ≤ n ∧ i = .int .i64 k ∧ wr.rowIs w.heap.size 21 n g ∧ (∀ j, j < k → g j = .int .i32 (z j)) ∧ Below w.heap.size w wr) (fun i _ => n - (intOf i).toNat)
    case atStart => exact ⟨0, _, by omega, rfl, World.rowIs_made w _ n 21, fun j hj => by omega, (Below.refl _ _).alloc (Nat.le_refl _) _⟩
    case round =>
      obtain ⟨k, g, hk, rfl, hrow, hg, hbel⟩ := hrel
      by_cases hlt : k < n
      · obtain ⟨b, off, e, hb, hc⟩ := h k hlt
        simp only [Option.some.injEq] at e
        subst e
        have hc' := (hbel.cell (p := ⟨b, off + k, none⟩) hb).trans hc
        have hd := hrow.cell hlt
        have hf := hrow.frozen k
        have R1 := Hid.mk (hrow.set k (.int .i32 (z k)))
        have R2 := Hid.mk (hbel.setCell (p := ⟨w.heap.size, k, none⟩) (Nat.le_refl _) (.int .i32 (z k)))
        have HG := Hid.mk hg
        clear hrow hbel hg h hc
        go_wp2
        go_roundw
        case rel =>
          refine ⟨k + 1, _, by omega, by go_num, R1.out, fun j hj => ?_, R2.out⟩
          by_cases e : j = k
          · subst e; simp
          · rw [if_neg e]; exact HG.out j (by omega)
        case measure => simp [intOf]; omega
      · have e : k = n := by omega
        subst e
        have R := Hid.mk (Row.of_rowIs hrow hg)
        have R2 := Hid.mk hbel
        clear hrow hg hbel h
        go_wp2
        go_ret
        exact ⟨_, _, rfl, R.out, R2.out⟩

set_option maxHeartbeats 1000000 in
theorem cloneStr (a : Option Addr) (c n : Nat) (z : Nat → ByteArray) (w : World) (hn : n ≤ 1048576) (h : Row w a n (fun i => .string (z i))) :
    Calls Try.prog 13 #[.slice a n c] w (Cloned w n (fun i => .string (z i))) := by
  have heq := fun w' a => Lib.run_eql_slice_nil (P := Try.prog) w' 23 9 a n c 0 0 Try.underlying23
  have hmk := run_make_row' (P := Try.prog) 23 9 (.string ByteArray.empty) 16 Try.underlying23 Try.info9 rfl .i64 .i64 n (by omega) (by omega)
  cases a with
  | none =>
    have := h.zero
    subst this
    go_enter Try.func13, Try.ntmps13
    go_wp2
    go_ret
    exact ⟨none, 0, rfl, fun i hi => by omega, Below.refl _ _⟩
  | some x =>
    go_enter Try.func13, Try.ntmps13
    go_wp2
    clear heq hmk
    go_loopw [4] (fun i wr => ∃ (k : Nat) (g : Nat → Value), k ≤ n ∧ i = .int .i64 k ∧ wr.rowIs w.heap.size 9 n g ∧ (∀ j, j < k → g j = .string (z j)) ∧ Below w.heap.size w wr) (fun i _ => n - (intOf i).toNat)
    case atStart => exact ⟨0, _, by omega, rfl, World.rowIs_made w _ n 9, fun j hj => by omega, (Below.refl _ _).alloc (Nat.le_refl _) _⟩
    case round =>
      obtain ⟨k, g, hk, rfl, hrow, hg, hbel⟩ := hrel
      by_cases hlt : k < n
      · obtain ⟨b, off, e, hb, hc⟩ := h k hlt
        simp only [Option.some.injEq] at e
        subst e
        have hc' := (hbel.cell (p := ⟨b, off + k, none⟩) hb).trans hc
        have hd := hrow.cell hlt
        have hf := hrow.frozen k
        have R1 := Hid.mk (hrow.set k (.string (z k)))
        have R2 := Hid.mk (hbel.setCell (p := ⟨w.heap.size, k, none⟩) (Nat.le_refl _) (.string (z k)))
        have HG := Hid.mk hg
        clear hrow hbel hg h hc
        go_wp2
        go_roundw
        case rel =>
          refine ⟨k + 1, _, by omega, by go_num, R1.out, fun j hj => ?_, R2.out⟩
          by_cases e : j = k
          · subst e; simp
          · rw [if_neg e]; exact HG.out j (by omega)
        case measure => simp [intOf]; omega
      · have e : k = n := by omega
        subst e
        have R := Hid.mk (Row.of_rowIs hrow hg)
        have R2 := Hid.mk hbel
        clear hrow hg hbel h
        go_wp2
        go_ret
        exact ⟨_, _, rfl, R.out, R2.out⟩

set_option maxHeartbeats 1000000 in
theorem cloneU8 (a : Option Addr) (c n : Nat) (z : Nat → Int) (w : World) (hn : n ≤ 1048576) (h : Row w a n (fun i => .int .u8 (z i))) :
    Calls Try.prog 12 #[.slice a n c] w (Cloned w n (fun i => .int .u8 (z i))) := by
  have heq := fun w' a => Lib.run_eql_slice_nil (P := Try.prog) w' 22 5 a n c 0 0 Try.underlying22
  have hmk := run_make_row' (P := Try.prog) 22 5 (.int .u8 0) 1 Try.underlying22 Try.info5 rfl .i64 .i64 n (by omega) (by omega)
  cases a with
  | none =>
    have := h.zero
    subst this
    go_enter Try.func12, Try.ntmps12
    go_wp2
    go_ret
    exact ⟨none, 0, rfl, fun i hi => by omega, Below.refl _ _⟩
  | some x =>
    go_enter Try.func12, Try.ntmps12
    go_wp2
    clear heq hmk
    go_loopw [4] (fun i wr => ∃ (k : Nat) (g : Nat → Value), k ≤ n ∧ i = .int .i64 k ∧ wr.rowIs w.heap.size 5 n g ∧ (∀ j, j < k → g j = .int .u8 (z j)) ∧ Below w.heap.size w wr) (fun i _ => n - (intOf i).toNat)
    case atStart => exact ⟨0, _, by omega, rfl, World.rowIs_made w _ n 5, fun j hj => by omega, (Below.refl _ _).alloc (Nat.le_refl _) _⟩
    case round =>
      obtain ⟨k, g, hk, rfl, hrow, hg, hbel⟩ := hrel
      by_cases hlt : k < n
      · obtain ⟨b, off, e, hb, hc⟩ := h k hlt
        simp only [Option.some.injEq] at e
        subst e
        have hc' := (hbel.cell (p := ⟨b, off + k, none⟩) hb).trans hc
        have hd := hrow.cell hlt
        have hf := hrow.frozen k
        have R1 := Hid.mk (hrow.set k (.int .u8 (z k)))
        have R2 := Hid.mk (hbel.setCell (p := ⟨w.heap.size, k, none⟩) (Nat.le_refl _) (.int .u8 (z k)))
        have HG := Hid.mk hg
        clear hrow hbel hg h hc
        go_wp2
        go_roundw
        case rel =>
          refine ⟨k + 1, _, by omega, by go_num, R1.out, fun j hj => ?_, R2.out⟩
          by_cases e : j = k
          · subst e; simp
          · rw [if_neg e]; exact HG.out j (by omega)
        case measure => simp [intOf]; omega
      · have e : k = n := by omega
        subst e
        have R := Hid.mk (Row.of_rowIs hrow hg)
        have R2 := Hid.mk hbel
        clear hrow hg hbel h
        go_wp2
        go_ret
        exact ⟨_, _, rfl, R.out, R2.out⟩

end Go.Proofs.Qxb6602594a
