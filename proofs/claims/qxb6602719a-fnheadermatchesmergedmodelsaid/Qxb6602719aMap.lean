import Derived.Test.Qxb6602719aBase
import Derived.Maps.OwnSet
import Derived.Maps.RangeWalk
import Derived.Sort.KeysCollected
import Derived.BigRegion
import Derived.StringKeys
namespace Go.Proofs.Qxb6602719a
open Go.RowKit Go.Maps

/-- an element of the map reads as itself -/
def RH : Value → Option (DataW Value × List MemPlace) := fun v => some (.held v, [])

theorem law9 : Keyed Try.prog 9 := string_keyed Try.underlying9

theorem isKey (x : List UInt8) : WideAt.IsKeyLit (.string x) := by simp [WideAt.IsKeyLit]

/-- at key x stands a slice of the strings l -/
def Stands (w : World) (D : DataW Value) (x : List UInt8) (l : List ByteArray) : Prop :=
  has D (.string x) = true ∧ ∃ a c, (∀ zd, D.atKey (.string x) zd = .held (.slice a l.length c)) ∧ Row w a l.length (fun j => .string (l.getD j ByteArray.empty))

/-- D holds V, the rows lying in w -/
def Holds' (w : World) (D : DataW Value) (V : List UInt8 → Option (List ByteArray)) : Prop :=
  ∀ x, (V x = none → has D (.string x) = false) ∧ ∀ l, V x = some l → Stands w D x l

/-- the map value mv holds V -/
inductive MapIs (w : World) (n : Nat) : Value → (List UInt8 → Option (List ByteArray)) → Prop
  | nil : MapIs w n (.map none) (fun _ => none)
  | some (b : Nat) (D : DataW Value) (V : List UInt8 → Option (List ByteArray)) (h : w.ownsMap Try.prog 9 RH b n D) (hv : Holds' w D V) : MapIs w n (.map (some b)) V

theorem Stands.below {w w' : World} {D : DataW Value} {x : List UInt8} {l : List ByteArray} {B : Nat} (h : Stands w D x l) (hb : Below B w w') (hB : w.heap.size ≤ B) : Stands w' D x l := by
  obtain ⟨h1, a, c, h2, h3⟩ := h
  exact ⟨h1, a, c, h2, h3.below hb hB⟩

theorem Holds'.below {w w' : World} {D : DataW Value} {V : List UInt8 → Option (List ByteArray)} {B : Nat} (h : Holds' w D V) (hb : Below B w w') (hB : w.heap.size ≤ B) : Holds' w' D V :=
  fun x => ⟨(h x).1, fun l hl => ((h x).2 l hl).below hb hB⟩

theorem ownsMap_below {w w' : World} {b n B : Nat} {D : DataW Value} (h : w.ownsMap Try.prog 9 RH b n D) (hb : Below B w w') (hB : w.heap.size ≤ B) : w'.ownsMap Try.prog 9 RH b n D := by
  have hlt := h.lt
  obtain ⟨es, clock, h1, h2, h3, h4⟩ := h
  exact ⟨es, clock, (hb.block b (by omega)).trans h1, h2, h3, h4⟩

theorem MapIs.below {w w' : World} {n B : Nat} {v : Value} {V : List UInt8 → Option (List ByteArray)} (h : MapIs w n v V) (hb : Below B w w') (hB : w.heap.size ≤ B) : MapIs w' n v V := by
  cases h with
  | nil => exact .nil
  | some b D _ h hv => exact .some b D _ (ownsMap_below h hb hB) (hv.below hb hB)

theorem run_makeMap_hint (n : Nat) (w : World) : (Instr.makeMap 40 (some (.int .i64 n))).run Try.prog w = .ok (.map (some w.heap.size)) (w.alloc (.map #[] 0)) := by
  simp [Instr.makeMap, run_underlying Try.underlying40, asInt, asIntOf]

/-- a key laid over the others -/
def put (V : List UInt8 → Option (List ByteArray)) (x : List UInt8) (l : List ByteArray) : List UInt8 → Option (List ByteArray) := fun y => if y = x then some l else V y

theorem Holds'.put {w : World} {D : DataW Value} {V : List UInt8 → Option (List ByteArray)} (h : Holds' w D V) (hD : IsMap D) (x : List UInt8) (l : List ByteArray) (a : Option Addr) (c : Nat) (hr : Row w a l.length (fun j => .string (l.getD j ByteArray.empty))) :
    Holds' w (D.put (.string x) (.held (.slice a l.length c))) (put V x l) := by
  intro y
  unfold Qxb6602719a.put
  by_cases e : y = x
  · subst e
    rw [if_pos rfl]
    refine ⟨fun h => by (cases h), fun l' hl' => ?_⟩
    cases hl'
    exact ⟨has_put_same hD (isKey y) _, a, c, fun zd => atKey_put_same hD (isKey y) _ _, hr⟩
  · have hne : (Lit.string y) ≠ .string x := fun h => e (by cases h; rfl)
    rw [if_neg e]
    refine ⟨fun hn => by rw [has_put_other hne]; exact (h y).1 hn, fun l' hl' => ?_⟩
    obtain ⟨h1, a', c', h2, h3⟩ := (h y).2 l' hl'
    exact ⟨by rw [has_put_other hne]; exact h1, a', c', fun zd => by rw [atKey_put_other hne]; exact h2 zd, h3⟩
end Go.Proofs.Qxb6602719a
