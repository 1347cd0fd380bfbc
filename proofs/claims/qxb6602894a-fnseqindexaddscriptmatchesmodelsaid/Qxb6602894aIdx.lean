import Derived.Test.Qxb6602894aBase
import Derived.Maps.OwnSet
import Derived.Maps.AppendAt
import Derived.OneCell
import Derived.OwnWalk
namespace Go.Proofs.Qxb6602894a
open Go.RowKit Go.Maps

/-- the greatest j < k with H j = h -/
def lastB (H : Nat → Int) : Nat → Int → Option Nat
  | 0, _ => none
  | k + 1, h => if H k = h then some k else lastB H k h

/-- as Go writes it: -1 where there is none -/
def enc32 : Option Nat → Int
  | none => -1
  | some j => j

/-- how many i < k have no earlier one of their hash -/
def distinct (H : Nat → Int) : Nat → Nat
  | 0 => 0
  | k + 1 => if lastB H k (H k) = none then distinct H k + 1 else distinct H k

theorem lastB_some {H : Nat → Int} {k : Nat} {h : Int} {j : Nat} (e : lastB H k h = some j) : j < k ∧ H j = h ∧ ∀ q, j < q → q < k → H q ≠ h := by
  induction k with
  | zero => cases e
  | succ k ih =>
    unfold lastB at e
    split at e
    · rename_i hk; cases e; exact ⟨by omega, hk, fun q h1 h2 => by omega⟩
    · rename_i hk
      obtain ⟨h1, h2, h3⟩ := ih e
      refine ⟨by omega, h2, fun q h4 h5 => ?_⟩
      rcases Nat.lt_succ_iff_lt_or_eq.1 h5 with h6 | rfl
      · exact h3 q h4 h6
      · exact hk

theorem lastB_none {H : Nat → Int} {k : Nat} {h : Int} (e : lastB H k h = none) : ∀ q, q < k → H q ≠ h := by
  induction k with
  | zero => intro q hq; omega
  | succ k ih =>
    unfold lastB at e
    split at e
    · cases e
    · rename_i hk
      intro q hq
      rcases Nat.lt_succ_iff_lt_or_eq.1 hq with h6 | rfl
      · exact ih e q h6
      · exact hk

theorem lastB_eq_some {H : Nat → Int} {k : Nat} {h : Int} {j : Nat} (h1 : j < k) (h2 : H j = h) (h3 : ∀ q, j < q → q < k → H q ≠ h) : lastB H k h = some j := by
  cases e : lastB H k h with
  | none => exact absurd h2 (lastB_none e j h1)
  | some i =>
    obtain ⟨g1, g2, g3⟩ := lastB_some e
    rcases Nat.lt_trichotomy i j with h | h | h
    · exact absurd h2 (g3 j h h1)
    · rw [h]
    · exact absurd g2 (h3 i h g1)

theorem lastB_eq_none {H : Nat → Int} {k : Nat} {h : Int} (h1 : ∀ q, q < k → H q ≠ h) : lastB H k h = none := by
  cases e : lastB H k h with
  | none => rfl
  | some i => exact absurd (lastB_some e).2.1 (h1 i (lastB_some e).1)

theorem distinct_le (H : Nat → Int) (k : Nat) : distinct H k ≤ k := by
  induction k with
  | zero => exact Nat.le_refl _
  | succ k ih => unfold distinct; split <;> omega

/-- an element of the map reads as itself -/
def RH : Value → Option (DataW Value × List MemPlace) := fun v => some (.held v, [])

theorem law29 : Keyed Try.prog 29 := int_keyed Try.underlying29
theorem isKey (x : Int) : WideAt.IsKeyLit (.int .u64 x) := by simp [WideAt.IsKeyLit]

/-- D is the map behind k adds -/
structure MapOk (H : Nat → Int) (k : Nat) (D : DataW Value) : Prop where
  has : ∀ h, has D (.int .u64 h) = (lastB H k h).isSome
  at_ : ∀ h j, lastB H k h = some j → ∀ zd, D.atKey (.int .u64 h) zd = .held (.int .i32 j)
  size : size D = distinct H k

theorem MapOk.start (H : Nat → Int) : MapOk H 0 (.map []) := ⟨fun _ => rfl, fun _ _ e => by (cases e), rfl⟩

theorem MapOk.put {H : Nat → Int} {k : Nat} {D : DataW Value} (h : MapOk H k D) (hD : Tidy D) : MapOk H (k + 1) (D.put (.int .u64 (H k)) (.held (.int .i32 k))) where
  has x := by
    unfold lastB
    by_cases e : H k = x
    · subst e
      rw [if_pos rfl, has_put_same hD.isMap (isKey _)]
      rfl
    · rw [if_neg e, has_put_other (fun e' => e (by cases e'; rfl)), h.has]
  at_ x j hj zd := by
    unfold lastB at hj
    by_cases e : H k = x
    · subst e
      rw [if_pos rfl] at hj
      cases hj
      exact atKey_put_same hD.isMap (isKey _) _ _
    · rw [if_neg e] at hj
      rw [atKey_put_other (fun e' => e (by cases e'; rfl)), h.at_ x j hj]
  size := by
    rw [size_put hD, h.has, h.size, distinct]
    cases lastB H k (H k) <;> simp

/-- next behind k adds -/
def nexts (H : Nat → Int) (k : Nat) : List Value := (List.range k).map fun i => .int .i32 (enc32 (lastB H i (H i)))

theorem nexts_succ (H : Nat → Int) (k : Nat) : nexts H (k + 1) = nexts H k ++ [.int .i32 (enc32 (lastB H k (H k)))] := by simp [nexts, List.range_succ]
theorem nexts_get {H : Nat → Int} {k i : Nat} (h : i < k) : (nexts H k)[i]? = some (.int .i32 (enc32 (lastB H i (H i)))) := by simp [nexts, h]

theorem zero21 (w : World) : (zeroValue 21).run Try.prog w = .ok (.int .i32 0) w := by rw [Try.zeroValue21]

theorem keyU {h : Int} (h0 : 0 ≤ h) (h1 : h < 18446744073709551616) : keyOf Try.prog 29 (.int .u64 h) = some (.int .u64 h) := by
  simp [keyOf, Try.underlying29, mapKey, Lit.wf, IntKind.min, IntKind.max, IntKind.signed, IntKind.bits]
  omega

/-- what the map gives at a key -/
theorem look {w : World} {b k : Nat} {D : DataW Value} {H : Nat → Int} (hw : w.ownsMap Try.prog 29 RH b k D) (h : MapOk H k D) {x : Int} (h0 : 0 ≤ x) (h1 : x < 18446744073709551616) :
    ∃ v, (Instr.lookup 25 (.map (some b)) (.int .u64 x) true).run Try.prog w = .ok (.tuple #[v, .bool (lastB H k x).isSome]) w ∧ ∀ j, lastB H k x = some j → v = .int .i32 j := by
  obtain ⟨v, ps, hrun, hv⟩ := hw.look_ok law29 Try.underlying25 (zero21 w) (zd := .held (.int .i32 0)) (zp := []) rfl (keyU h0 h1)
  rw [h.has] at hrun
  refine ⟨v, hrun, fun j hj => ?_⟩
  rw [h.at_ x j hj] at hv
  simp only [RH, Option.some.injEq, Prod.mk.injEq, DataW.held.injEq] at hv
  exact hv.1

theorem map_step {w : World} {b k : Nat} {D : DataW Value} {H : Nat → Int} (hw : w.ownsMap Try.prog 29 RH b k D) (h : MapOk H k D) (hk : k ≤ 4096) (h0 : 0 ≤ H k) (h1 : H k < 18446744073709551616) :
    ∃ w1, (Instr.mapUpdate 25 (.map (some b)) (.int .u64 (H k)) (.int .i32 k)).run Try.prog w = .ok () w1 ∧ (∃ D', w1.ownsMap Try.prog 29 RH b (k + 1) D' ∧ MapOk H (k + 1) D') ∧ w.grownBy w1 (some b) := by
  obtain ⟨w1, hrun, hown, hg⟩ := hw.update (d := .held (.int .i32 k)) (ps := []) law29 Try.underlying25 (by unfold maxLen; omega) (keyU h0 h1) rfl
  exact ⟨w1, hrun, ⟨_, hown, h.put (hw.tidy law29)⟩, hg⟩

/-- the two fields behind k adds -/
inductive MapV (w : World) (base : Nat) (H : Nat → Int) (k : Nat) : Value → Prop
  | nil (h : k = 0) : MapV w base H k (.map none)
  | some (b : Nat) (D : DataW Value) (hb : base ≤ b) (h : w.ownsMap Try.prog 29 RH b k D) (hD : MapOk H k D) : MapV w base H k (.map (some b))

structure Idx (w : World) (base : Nat) (H : Nat → Int) (k : Nat) (mv nv : Value) : Prop where
  map : MapV w base H k mv
  row : w.ownsRow base 21 1 nv k (nexts H k)

theorem ownsMap_below {w w' : World} {b n B : Nat} {D : DataW Value} (h : w.ownsMap Try.prog 29 RH b n D) (hb : Below B w w') (hB : w.heap.size ≤ B) : w'.ownsMap Try.prog 29 RH b n D := by
  have hlt := h.lt
  obtain ⟨es, clock, h1, h2, h3, h4⟩ := h
  exact ⟨es, clock, (hb.block b (by omega)).trans h1, h2, h3, h4⟩

theorem map_ne_row {w : World} {b n base k : Nat} {D : DataW Value} {v : Value} {t : TypeId} {xs : List Value} (h : w.ownsMap Try.prog 29 RH b n D) (hr : w.ownsRow base t 1 v k xs) : v.ownBlock ≠ some b := by
  obtain ⟨es, clock, h1, _⟩ := h
  rcases hr.2 with ⟨rfl, _⟩ | ⟨g, cap, cur, rfl, _, hg, _⟩
  · simp [Value.ownBlock]
  · simp only [Value.ownBlock, ne_eq, Option.some.injEq]
    intro e
    rw [e, h1] at hg
    cases hg

theorem ownsRow_shape {w : World} {base : Nat} {e : TypeId} {size : Nat} {v : Value} {n : Nat} {xs : List Value} (h : w.ownsRow base e size v n xs) : ∃ a c, v = .slice a n c := by
  rcases h.2 with ⟨rfl, rfl⟩ | ⟨g, cap, cur, rfl, _⟩
  · exact ⟨_, _, rfl⟩
  · exact ⟨_, _, rfl⟩

/-- the box of the two fields -/
def Box (w : World) (bx : Nat) (mv nv : Value) : Prop := w.rowIs bx 40 2 (fun i => if i = 0 then mv else nv)

/-- add has been: nothing came back; the box holds the two fields behind one more add -/
def Added (w : World) (bx base : Nat) (H : Nat → Int) (k : Nat) (e : Ending) (w' : World) : Prop :=
  e = .returned (.tuple #[]) ∧ ∃ mv nv, Box w' bx mv nv ∧ Idx w' base H k mv nv ∧ Below base w w'
end Go.Proofs.Qxb6602894a
