import Derived.Test.Qxb6602994aBase
import Derived.Laws.BitsAllLaws
import Derived.Laws.MakeOwn
import Derived.OwnWalk
namespace Go.Proofs.Qxb6602994a
open Go.RowKit

/-- the box of the index: slots, n, sink -/
def Box (w : World) (bx : Nat) (sv : Value) (nn sink : Int) : Prop := w.rowIs bx 62 3 (fun i => if i = 0 then sv else if i = 1 then .int .i64 nn else .int .i64 sink)

theorem Box.c0 {w : World} {bx : Nat} {sv : Value} {nn sink : Int} (h : Box w bx sv nn sink) : w.cell? ⟨bx, 0, none⟩ = some sv := World.rowIs.cell h (i := 0) (by omega)
theorem Box.c1 {w : World} {bx : Nat} {sv : Value} {nn sink : Int} (h : Box w bx sv nn sink) : w.cell? ⟨bx, 1, none⟩ = some (.int .i64 nn) := World.rowIs.cell h (i := 1) (by omega)
theorem Box.c2 {w : World} {bx : Nat} {sv : Value} {nn sink : Int} (h : Box w bx sv nn sink) : w.cell? ⟨bx, 2, none⟩ = some (.int .i64 sink) := World.rowIs.cell h (i := 2) (by omega)
theorem Box.set0 {w : World} {bx : Nat} {sv : Value} {nn sink : Int} (h : Box w bx sv nn sink) (u : Value) : Box (w.setCell ⟨bx, 0, none⟩ u) bx u nn sink :=
  World.rowIs.congr (World.rowIs.set h 0 u) fun i _ => by by_cases e : i = 0 <;> simp [e]

/-- the cells of slots -/
def pc (Hs Ps : Nat → Int) (j : Nat) : Value := if j % 2 = 0 then .int .u64 (Hs (j / 2)) else .int .i64 (Ps (j / 2))

/-- block b holds the m slots Hs, Ps -/
def Slots (w : World) (b m : Nat) (Hs Ps : Nat → Int) : Prop := w.rowIs b 64 (m * 2) (pc Hs Ps)

theorem pc0 (Hs Ps : Nat → Int) (i : Nat) : pc Hs Ps (i * 2) = .int .u64 (Hs i) := by
  unfold pc; rw [if_pos (by omega), show i * 2 / 2 = i from by omega]
theorem pc1 (Hs Ps : Nat → Int) (i : Nat) : pc Hs Ps (i * 2 + 1) = .int .i64 (Ps i) := by
  unfold pc; rw [if_neg (by omega), show (i * 2 + 1) / 2 = i from by omega]

theorem Slots.c0 {w : World} {b m : Nat} {Hs Ps : Nat → Int} (h : Slots w b m Hs Ps) {i : Nat} (hi : i < m) : w.cell? ⟨b, i * 2, none⟩ = some (.int .u64 (Hs i)) := by
  rw [World.rowIs.cell h (by omega), pc0]
theorem Slots.c1 {w : World} {b m : Nat} {Hs Ps : Nat → Int} (h : Slots w b m Hs Ps) {i : Nat} (hi : i < m) : w.cell? ⟨b, i * 2 + 1, none⟩ = some (.int .i64 (Ps i)) := by
  rw [World.rowIs.cell h (by omega), pc1]

/-- one value laid over the others -/
def upd (f : Nat → Int) (p : Nat) (z : Int) : Nat → Int := fun i => if i = p then z else f i

theorem Slots.put {w : World} {b m : Nat} {Hs Ps : Nat → Int} (h : Slots w b m Hs Ps) (p : Nat) (x y : Int) :
    Slots ((w.setCell ⟨b, p * 2, none⟩ (.int .u64 x)).setCell ⟨b, p * 2 + 1, none⟩ (.int .i64 y)) b m (upd Hs p x) (upd Ps p y) := by
  refine World.rowIs.congr (World.rowIs.set (World.rowIs.set h (p * 2) _) (p * 2 + 1) _) fun j _ => ?_
  by_cases e1 : j = p * 2 + 1
  · subst e1
    rw [if_pos rfl, pc1]
    simp [upd]
  · rw [if_neg e1]
    by_cases e2 : j = p * 2
    · subst e2
      rw [if_pos rfl, pc0]
      simp [upd]
    · rw [if_neg e2]
      unfold pc upd
      by_cases e3 : j % 2 = 0
      · rw [if_pos e3, if_pos e3, if_neg (by omega)]
      · rw [if_neg e3, if_neg e3, if_neg (by omega)]

/-- the slots that a slice value leads to -/
inductive SlotsV (w : World) (base m : Nat) (Hs Ps : Nat → Int) : Value → Prop
  | nil (h : m = 0) : SlotsV w base m Hs Ps (.slice none m m)
  | some (b : Nat) (hb : base ≤ b) (h : Slots w b m Hs Ps) : SlotsV w base m Hs Ps (.slice (some ⟨b, 0, none⟩) m m)

theorem tk_upd {Ps : Nat → Int} {p : Nat} {y : Int} (hy : y ≠ 0) (hp : Ps p = 0) (m : Nat) : tk (upd Ps p y) m = tk Ps m + if p < m then 1 else 0 := by
  induction m with
  | zero => rfl
  | succ m ih =>
    rw [tk, tk, ih]
    by_cases e : m = p
    · subst e
      rw [if_pos hp, if_neg (by simpa [upd] using hy)]
      simp
    · have : upd Ps p y m = Ps m := by simp [upd, e]
      have e2 : (p < m + 1) ↔ (p < m) := by omega
      simp only [this, e2]
      split <;> split <;> omega

theorem tk_free {Ps : Nat → Int} {m : Nat} (h : tk Ps m < m) : ∃ f, f < m ∧ Ps f = 0 := by
  induction m with
  | zero => omega
  | succ m ih =>
    rw [tk] at h
    by_cases e : Ps m = 0
    · exact ⟨m, by omega, e⟩
    · rw [if_neg e] at h
      obtain ⟨f, h1, h2⟩ := ih (by omega)
      exact ⟨f, by omega, h2⟩

theorem tk_zero (m : Nat) : tk (fun _ => 0) m = 0 := by
  induction m with
  | zero => rfl
  | succ m ih => rw [tk, if_pos rfl, ih]

/-- reserve has been; nothing was to do -/
def Kept (w : World) (e : Ending) (w' : World) : Prop := e = .returned (.tuple #[]) ∧ ∃ d, w' = w.drewN d

set_option maxRecDepth 100000 in
set_option maxHeartbeats 1000000 in
theorem reserve_noop (bx m : Nat) (a : Option Addr) (nn sink k : Int) (w : World) (hm : m ≤ 1048576) (hn0 : 0 ≤ nn) (hn1 : nn ≤ 1048576) (hk0 : -65536 ≤ k) (hk1 : k ≤ 65536) (hle : 2 * (nn + k) ≤ m)
    (box : Box w bx (.slice a m m) nn sink) : Calls Try.prog 35 #[.pointer (some ⟨bx, 0, none⟩), .int .i64 k] w (Kept w) := by
  have c0 := box.c0
  have c1 := box.c1
  clear box
  have hd : decide (2 * (nn + k) ≤ (m : Int)) = true := decide_eq_true hle
  go_enter Try.func35, Try.ntmps35
  go_wp2
  go_quiet (fail)
  go_wp2
  go_end0
  exact ⟨rfl, _, rfl⟩
end Go.Proofs.Qxb6602994a
