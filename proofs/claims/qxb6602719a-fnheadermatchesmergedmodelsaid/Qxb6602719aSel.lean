import Derived.Test.Qxb6602719aMap
import Derived.Test.Qxb6602719aFold
import Derived.Lib.Join
namespace Go.Proofs.Qxb6602719a
open Go.RowKit Go.Maps

abbrev View := List UInt8 → Option (List ByteArray)

/-- is key x chosen? -/
def sel (V : View) (nm : List UInt8) (x : List UInt8) : Bool :=
  match V x with
  | some l => !l.isEmpty && foldL x nm
  | none => false

/-- the values of the keys ss -/
def vals (V : View) (ss : List (List UInt8)) : List ByteArray := ss.flatMap fun x => (V x).getD []

/-- all sizes -/
def total (l : List ByteArray) : Nat := (l.map ByteArray.size).sum

def joined (V : View) (ss : List (List UInt8)) : ByteArray := ⟨(Lib.join ((vals V (ss.mergeSort leB)).map (·.data.toList)) [44]).toArray⟩

/-- header's answer -/
def Head (w : World) (V : View) (nm : List UInt8) (e : Ending) (w' : World) : Prop :=
  ∃ ss : List (List UInt8), ss.Nodup ∧ (∀ x, x ∈ ss ↔ sel V nm x = true) ∧ e = .returned (.tuple #[.string (joined V ss), .bool (!ss.isEmpty)]) ∧ Below w.heap.size w w'

structure Bnd (V : View) : Prop where
  row : ∀ x l, V x = some l → l.length + total l ≤ 1048576
  key : ∀ x l, V x = some l → x.length ≤ 1048576

def CollSel (V : View) (nm : List UInt8) (left : Lit → Bool) (ss : List (List UInt8)) : Prop := ss.Nodup ∧ ∀ x, x ∈ ss ↔ (sel V nm x = true ∧ left (.string x) = false)

theorem sel_some {V : View} {nm x : List UInt8} (h : sel V nm x = true) : ∃ l, V x = some l ∧ l ≠ [] ∧ foldL x nm = true := by
  unfold sel at h
  cases hv : V x with
  | none => rw [hv] at h; cases h
  | some l =>
    rw [hv] at h
    simp only [Bool.and_eq_true, Bool.not_eq_true', List.isEmpty_eq_false_iff] at h
    exact ⟨l, rfl, h.1, h.2⟩

theorem CollSel.start {w : World} {D : DataW Value} {V : View} (h : Holds' w D V) (nm : List UInt8) : CollSel V nm (has D) [] := by
  refine ⟨List.nodup_nil, fun x => ⟨fun h => by (cases h), fun ⟨h1, h2⟩ => ?_⟩⟩
  obtain ⟨l, hl, _⟩ := sel_some h1
  rw [((h x).2 l hl).1] at h2
  cases h2

theorem CollSel.take {V : View} {nm : List UInt8} {left : Lit → Bool} {ss : List (List UInt8)} (h : CollSel V nm left ss) {x : List UInt8} (hl : left (.string x) = true) (hs : sel V nm x = true) : CollSel V nm (fun z => left z && !z.sameKey (.string x)) (ss ++ [x]) := by
  have hnew : x ∉ ss := fun hx => by have := ((h.2 x).1 hx).2; rw [hl] at this; cases this
  refine ⟨List.nodup_append.2 ⟨h.1, by simp, fun a ha b hb => by simp at hb; subst hb; exact fun e => hnew (e ▸ ha)⟩, fun y => ?_⟩
  by_cases hy : y = x
  · subst hy; simp [hs, Lit.sameKey]
  · simp [h.2 y, hy, Lit.sameKey]

theorem CollSel.skip {V : View} {nm : List UInt8} {left : Lit → Bool} {ss : List (List UInt8)} (h : CollSel V nm left ss) {x : List UInt8} (hl : left (.string x) = true) (hs : sel V nm x = false) : CollSel V nm (fun z => left z && !z.sameKey (.string x)) ss := by
  have hnew : x ∉ ss := fun hx => by have := ((h.2 x).1 hx).2; rw [hl] at this; cases this
  refine ⟨h.1, fun y => ?_⟩
  by_cases hy : y = x
  · subst hy; simp [hnew, hs]
  · simp [h.2 y, hy, Lit.sameKey]

theorem CollSel.done {V : View} {nm : List UInt8} {left : Lit → Bool} {ss : List (List UInt8)} (h : CollSel V nm left ss) (hl : ∀ kl, left kl = false) : ∀ x, x ∈ ss ↔ sel V nm x = true := fun x => by
  rw [h.2 x, hl]; simp

theorem joined_nil (V : View) : joined V [] = ⟨#[]⟩ := by
  simp [joined, vals, Lib.join]

theorem head_nil {w w' : World} {nm : List UInt8} (h : Below w.heap.size w w') : Head w (fun _ => none) nm (.returned (.tuple #[.string ⟨#[]⟩, .bool false])) w' :=
  ⟨[], List.nodup_nil, fun x => by simp [sel], by rw [joined_nil]; rfl, h⟩
end Go.Proofs.Qxb6602719a
