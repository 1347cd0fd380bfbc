import Derived.Test.Qxb6602594aClone2
import Derived.Maps.OwnSet
import Derived.Maps.AppendAt
namespace Go.Proofs.Qxb6602594a
open Go.RowKit Go.Maps

structure App where
  txn : Int
  value : ByteArray
  line : Int
  readLen : Int
  next : Int
  pos : Int
structure Tx where
  file : Int
  outcome : Int
  refs : List (Int × Int)
structure Ls where
  order : List ByteArray
  apps : List App
  idx : DataW Unit
structure Hi where
  txs : List Tx
  n : Nat
  ls : Nat → Ls

def appCells (a : App) : List Value := [.int .i32 a.txn, .string a.value, .int .i32 a.line, .int .i32 a.readLen, .int .i32 a.next, .int .i32 a.pos]
def refCells (p : Int × Int) : List Value := [.int .i32 p.1, .int .i32 p.2]
def txCells (p : Tx × Value) : List Value := [.int .i32 p.1.file, .int .u64 0, .int .i64 0, .int .i64 0, .int .u8 p.1.outcome, .slice none 0 0, p.2, .bool false, .bool false, .int .i64 0]

theorem length_flat {α : Type} {f : α → List Value} {s : Nat} (hf : ∀ a, (f a).length = s) (l : List α) : (l.flatMap f).length = l.length * s := by
  induction l with
  | nil => simp
  | cons a l ih => rw [List.flatMap_cons, List.length_append, ih, hf, List.length_cons, Nat.add_mul, Nat.one_mul, Nat.add_comm]

theorem flat_get {α : Type} {f : α → List Value} {s : Nat} (hf : ∀ a, (f a).length = s) (l : List α) (i j : Nat) (hi : i < l.length) (hj : j < s) :
    (l.flatMap f)[i * s + j]? = (f l[i])[j]? := by
  induction l generalizing i with
  | nil => simp at hi
  | cons a l ih =>
    rw [List.flatMap_cons]
    cases i with
    | zero =>
      rw [Nat.zero_mul, Nat.zero_add, List.getElem?_append_left (by rw [hf]; exact hj)]
      rfl
    | succ i =>
      rw [List.getElem?_append_right (by rw [hf, Nat.add_mul, Nat.one_mul]; omega), hf]
      have e : (i + 1) * s + j - s = i * s + j := by rw [Nat.add_mul, Nat.one_mul]; omega
      rw [e]
      exact ih i (by simpa using hi)

theorem flat_set {α : Type} {f : α → List Value} {s : Nat} (hf : ∀ a, (f a).length = s) (l : List α) (i j : Nat) (hi : i < l.length) (hj : j < s) (v : Value) (b : α) (hb : f b = (f l[i]).set j v) :
    (l.flatMap f).set (i * s + j) v = (l.set i b).flatMap f := by
  induction l generalizing i with
  | nil => simp at hi
  | cons a l ih =>
    rw [List.flatMap_cons]
    cases i with
    | zero =>
      rw [Nat.zero_mul, Nat.zero_add, List.set_append_left _ _ (by rw [hf]; exact hj), List.set_cons_zero, List.flatMap_cons, hb]
      rfl
    | succ i =>
      rw [List.set_append_right _ _ (by rw [hf, Nat.add_mul, Nat.one_mul]; omega), hf]
      have e : (i + 1) * s + j - s = i * s + j := by rw [Nat.add_mul, Nat.one_mul]; omega
      rw [e, List.set_cons_succ, List.flatMap_cons, ih i (by simpa using hi) hb]

/-! ### what keeps what -/

/-- the kind of a block: the element type of a row; a map -/
def kind (w : World) (b : Nat) : Option (Option TypeId) :=
  match w.heap[b]? with
  | some (.cells _ t _) => some (some t)
  | some (.map _ _) => some none
  | _ => none

theorem kind_rowIs {w : World} {b : Nat} {t : TypeId} {n : Nat} {f : Nat → Value} (h : w.rowIs b t n f) : kind w b = some (some t) := by
  obtain ⟨c, hb, _⟩ := h
  simp [kind, hb]

theorem kind_ownsMap {w : World} {P : Program} {k : TypeId} {R : Value → Option (DataW Unit × List MemPlace)} {b n : Nat} {D : DataW Unit} (h : w.ownsMap P k R b n D) : kind w b = some none := by
  obtain ⟨es, clock, hb, _⟩ := h
  simp [kind, hb]

theorem kind_ownsRow {w : World} {base : Nat} {e : TypeId} {size : Nat} {v : Value} {n : Nat} {xs : List Value} (h : w.ownsRow base e size v n xs) {g : Nat} (hg : v.ownBlock = some g) : kind w g = some (some e) := by
  rcases h.2 with ⟨rfl, _⟩ | ⟨g', cap, cur, rfl, _, hgg, _⟩
  · simp [Value.ownBlock] at hg
  · simp [Value.ownBlock] at hg
    subst hg
    simp [kind, hgg]

theorem rowIs_kept {w w' : World} {b : Nat} {t : TypeId} {n : Nat} {f : Nat → Value} {row : Option Nat} (h : w.rowIs b t n f) (hg : w.grownBy w' row) (hne : some b ≠ row) : w'.rowIs b t n f :=
  h.of_block (hg.block b h.lt hne)

/-- a write to a block of another kind keeps an owned row -/
theorem ownsRow_kept {w w' : World} {base : Nat} {e : TypeId} {size : Nat} {v : Value} {n : Nat} {xs : List Value} {r : Option Nat} (h : w.ownsRow base e size v n xs) (hg : w.grownBy w' r) (hk : ∀ b, r = some b → kind w b ≠ some (some e)) :
    w'.ownsRow base e size v n xs := by
  refine h.kept hg ?_
  cases hv : v.ownBlock with
  | none => exact .inl rfl
  | some g =>
    refine .inr (fun e => ?_)
    exact hk g e.symm (kind_ownsRow h hv)

theorem rowIs_kept' {w w' : World} {b : Nat} {t : TypeId} {n : Nat} {f : Nat → Value} {r : Option Nat} (h : w.rowIs b t n f) (hg : w.grownBy w' r) (hk : ∀ b, r = some b → kind w b ≠ some (some t)) : w'.rowIs b t n f :=
  rowIs_kept h hg (fun e => hk b e.symm (kind_rowIs h))

theorem ownsMap_kept' {w w' : World} {P : Program} {k : TypeId} {R : Value → Option (DataW Unit × List MemPlace)} {b n : Nat} {D : DataW Unit} {r : Option Nat} (h : w.ownsMap P k R b n D) (hg : w.grownBy w' r) (hk : ∀ b, r = some b → kind w b ≠ some none) : w'.ownsMap P k R b n D :=
  h.kept hg (fun e => hk b e.symm (kind_ownsMap h))

/-! ### the history in memory -/
structure Lay where
  tv : Value
  lb : Nat
  ov : Nat → Value
  av : Nat → Value
  mb : Nat → Nat
  N : Nat

structure ListOk (B : Nat) (w : World) (Y : Lay) (l : Nat) (s : Ls) : Prop where
  ord : w.ownsRow B 9 1 (Y.ov l) s.order.length (s.order.map .string)
  apps : w.ownsRow B 90 6 (Y.av l) s.apps.length (s.apps.flatMap appCells)
  idx : w.ownsMap Try.prog 9 (plainElem Try.prog 21) (Y.mb l) s.apps.length s.idx
  mB : B ≤ Y.mb l

structure TxOk (B : Nat) (w : World) (tv : Value) (tr : List (Tx × Value)) : Prop where
  row : w.ownsRow B 81 10 tv tr.length (tr.flatMap txCells)
  refs : ∀ p ∈ tr, w.ownsRow B 93 2 p.2 p.1.refs.length (p.1.refs.flatMap refCells)

structure Rep (B : Nat) (w : World) (hb : Nat) (Y : Lay) (H : Hi) : Prop where
  hB : B ≤ hb
  lB : B ≤ Y.lb
  hist : ∃ f, w.rowIs hb 75 9 f ∧ f 1 = Y.tv ∧ f 2 = .slice (some ⟨Y.lb, 0, none⟩) Y.N Y.N
  txs : ∃ tr : List (Tx × Value), tr.map Prod.fst = H.txs ∧ TxOk B w Y.tv tr
  lists : ∃ f, w.rowIs Y.lb 88 (Y.N * 10) f ∧ ∀ l, l < H.n → f (l * 10 + 1) = Y.ov l ∧ f (l * 10 + 3) = Y.av l ∧ f (l * 10 + 4) = .map (some (Y.mb l))
  each : ∀ l, l < H.n → ListOk B w Y l (H.ls l)
  apart : ∀ l l', l < H.n → l' < H.n → l ≠ l' → Y.mb l ≠ Y.mb l' ∧ ((Y.av l).ownBlock = none ∨ (Y.av l).ownBlock ≠ (Y.av l').ownBlock)
  hn : H.n ≤ Y.N

theorem ListOk.kept {B : Nat} {w w' : World} {Y : Lay} {l : Nat} {s : Ls} {r : Option Nat} (h : ListOk B w Y l s) (hg : w.grownBy w' r) (hk : ∀ b, r = some b → kind w b ≠ some (some 9) ∧ kind w b ≠ some (some 90) ∧ kind w b ≠ some none) : ListOk B w' Y l s :=
  ⟨ownsRow_kept h.ord hg (fun b e => (hk b e).1), ownsRow_kept h.apps hg (fun b e => (hk b e).2.1), ownsMap_kept' h.idx hg (fun b e => (hk b e).2.2), h.mB⟩

theorem TxOk.kept {B : Nat} {w w' : World} {tv : Value} {tr : List (Tx × Value)} {r : Option Nat} (h : TxOk B w tv tr) (hg : w.grownBy w' r) (hk : ∀ b, r = some b → kind w b ≠ some (some 81) ∧ kind w b ≠ some (some 93)) : TxOk B w' tv tr :=
  ⟨ownsRow_kept h.row hg (fun b e => (hk b e).1), fun p hp => ownsRow_kept (h.refs p hp) hg (fun b e => (hk b e).2)⟩

/-- new blocks alone keep the history -/
theorem Rep.kept {B : Nat} {w w' : World} {hb : Nat} {Y : Lay} {H : Hi} (h : Rep B w hb Y H) (hg : w.grownBy w' none) : Rep B w' hb Y H := by
  obtain ⟨f, h1, h2⟩ := h.hist
  obtain ⟨tr, t1, t2⟩ := h.txs
  obtain ⟨g, g1, g2⟩ := h.lists
  exact ⟨h.hB, h.lB, ⟨f, rowIs_kept' h1 hg (fun _ e => by cases e), h2⟩, ⟨tr, t1, t2.kept hg (fun _ e => by cases e)⟩, ⟨g, rowIs_kept' g1 hg (fun _ e => by cases e), g2⟩,
    fun l hl => (h.each l hl).kept hg (fun _ e => by cases e), h.apart, h.hn⟩

theorem Below.grownBy {w w' : World} (h : Below w.heap.size w w') : w.grownBy w' none := ⟨h.os, h.tape, h.output, h.size, fun k hk _ => h.block k hk⟩

theorem Rep.below {B : Nat} {w w' : World} {hb : Nat} {Y : Lay} {H : Hi} (h : Rep B w hb Y H) (hg : Below w.heap.size w w') : Rep B w' hb Y H := h.kept (Below.grownBy hg)
end Go.Proofs.Qxb6602594a
