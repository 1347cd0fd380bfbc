import Derived.Test.Qxb6602594aRep
namespace Go.Proofs.Qxb6602594a
open Go.RowKit Go.Maps

def key (s : ByteArray) : Lit := .string s.data.toList
def atInt (D : DataW Unit) (s : ByteArray) : Int := match D.atKey (key s) (.lit (.int .i32 0)) with | .lit (.int _ c) => c | _ => 0

theorem key_inj {s t : ByteArray} (h : key s = key t) : s = t := by
  simp only [key, Lit.string.injEq] at h
  cases s; cases t
  congr
  exact Array.toList_inj.1 h

theorem atInt_of {D : DataW Unit} {s : ByteArray} {c : Int} (h : D.atKey (key s) (.lit (.int .i32 0)) = .lit (.int .i32 c)) : atInt D s = c := by simp [atInt, h]

theorem isKey (s : ByteArray) : WideAt.IsKeyLit (key s) := by simp [key, WideAt.IsKeyLit]

theorem atInt_put_same {D : DataW Unit} (h : IsMap D) (s : ByteArray) (c : Int) : atInt (D.put (key s) (.lit (.int .i32 c))) s = c :=
  atInt_of (atKey_put_same h (isKey s) _ _)

theorem atInt_put_other {D : DataW Unit} {s t : ByteArray} (h : t ≠ s) (d : DataW Unit) : atInt (D.put (key s) d) t = atInt D t := by
  unfold atInt
  rw [atKey_put_other (fun e => h (key_inj e))]

/-- one place of a list's order is settled -/
def step (l p : Nat) (v : ByteArray) (H : Hi) : Hi :=
  if Maps.has (H.ls l).idx (key v) = true then
    { H with ls := fun i => if i = l then { H.ls l with apps := (H.ls l).apps.modify (atInt (H.ls l).idx v).toNat (fun a => { a with pos := p }) } else H.ls i }
  else
    { H with
      txs := H.txs ++ [⟨-1, 4, [((l : Int), ((H.ls l).apps.length : Int))]⟩]
      ls := fun i => if i = l then { H.ls l with apps := (H.ls l).apps ++ [⟨H.txs.length, v, 0, -1, -1, p⟩], idx := (H.ls l).idx.put (key v) (.lit (.int .i32 (H.ls l).apps.length)) } else H.ls i }

def inner (l : Nat) (H : Hi) : Nat → Hi
  | 0 => H
  | k + 1 => step l k (((H.ls l).order).getD k ByteArray.empty) (inner l H k)

def outer (H : Hi) : Nat → Hi
  | 0 => H
  | l + 1 => inner l (outer H l) ((H.ls l).order.length)

theorem step_n (l p : Nat) (v : ByteArray) (H : Hi) : (step l p v H).n = H.n := by unfold step; split <;> rfl
theorem step_order (l p : Nat) (v : ByteArray) (H : Hi) (i : Nat) : ((step l p v H).ls i).order = (H.ls i).order := by
  unfold step
  split <;> (show (if i = l then _ else _ : Ls).order = _; by_cases e : i = l <;> simp [e])
theorem step_other (l p : Nat) (v : ByteArray) (H : Hi) {i : Nat} (h : i ≠ l) : (step l p v H).ls i = H.ls i := by
  unfold step
  split <;> (show (if i = l then _ else _ : Ls) = _; simp [h])
theorem inner_n (l : Nat) (H : Hi) (k : Nat) : (inner l H k).n = H.n := by
  induction k with
  | zero => rfl
  | succ k ih => rw [inner, step_n, ih]
theorem inner_order (l : Nat) (H : Hi) (k i : Nat) : ((inner l H k).ls i).order = (H.ls i).order := by
  induction k with
  | zero => rfl
  | succ k ih => rw [inner, step_order, ih]
theorem inner_other (l : Nat) (H : Hi) (k : Nat) {i : Nat} (h : i ≠ l) : (inner l H k).ls i = H.ls i := by
  induction k with
  | zero => rfl
  | succ k ih => rw [inner, step_other _ _ _ _ h, ih]
theorem outer_n (H : Hi) (l : Nat) : (outer H l).n = H.n := by
  induction l with
  | zero => rfl
  | succ l ih => rw [outer, inner_n, ih]
theorem outer_order (H : Hi) (l i : Nat) : ((outer H l).ls i).order = (H.ls i).order := by
  induction l with
  | zero => rfl
  | succ l ih => rw [outer, inner_order, ih]
theorem outer_other (H : Hi) (l : Nat) {i : Nat} (h : l ≤ i) : (outer H l).ls i = H.ls i := by
  induction l with
  | zero => rfl
  | succ l ih => rw [outer, inner_other _ _ _ (by omega), ih (by omega)]

/-- what the walk wants of a history -/
structure Good (H : Hi) (m : Nat) : Prop where
  n : H.n ≤ 1048576
  map : ∀ l, IsMap (H.ls l).idx
  rng : ∀ l v, Maps.has (H.ls l).idx (key v) = true → 0 ≤ atInt (H.ls l).idx v ∧ atInt (H.ls l).idx v < (H.ls l).apps.length
  str : ∀ l, ∀ s ∈ (H.ls l).order, s.size ≤ maxLen
  txs : H.txs.length ≤ m
  apps : ∀ l, (H.ls l).apps.length ≤ m

theorem Good.step {H : Hi} {m : Nat} (h : Good H m) (l p : Nat) (v : ByteArray) : Good (step l p v H) (m + 1) := by
  refine ⟨by rw [step_n]; exact h.n, ?_, ?_, fun i => by rw [step_order]; exact h.str i, ?_, ?_⟩
  · intro i
    by_cases e : i = l
    · subst e
      unfold Qxb6602594a.step
      split
      · simpa using h.map i
      · simpa using (h.map i).put _ _
    · rw [step_other _ _ _ _ e]; exact h.map i
  · intro i u hu
    by_cases e : i = l
    · subst e
      unfold Qxb6602594a.step at hu ⊢
      split at hu
      · rename_i hh
        rw [if_pos hh]
        simp only [if_true, List.length_modify] at hu ⊢
        exact h.rng i u hu
      · rename_i hh
        rw [if_neg hh]
        simp only [if_true, List.length_append, List.length_singleton] at hu ⊢
        by_cases eu : u = v
        · subst eu
          rw [atInt_put_same (h.map i)]
          omega
        · rw [has_put_other (fun e => eu (key_inj e))] at hu
          rw [atInt_put_other eu]
          have := h.rng i u hu
          omega
    · rw [step_other _ _ _ _ e] at hu ⊢; exact h.rng i u hu
  · unfold Qxb6602594a.step
    split
    · exact Nat.le_succ_of_le h.txs
    · simp only [List.length_append, List.length_singleton]; have := h.txs; omega
  · intro i
    have := h.apps i
    by_cases e : i = l
    · subst e
      unfold Qxb6602594a.step
      split
      · simp only [if_true, List.length_modify]; omega
      · simp only [if_true, List.length_append, List.length_singleton]; omega
    · rw [step_other _ _ _ _ e]; omega

theorem Good.mono {H : Hi} {m m' : Nat} (h : Good H m) (hm : m ≤ m') : Good H m' := ⟨h.n, h.map, h.rng, h.str, Nat.le_trans h.txs hm, fun l => Nat.le_trans (h.apps l) hm⟩

theorem Good.inner {H : Hi} {m : Nat} (h : Good H m) (l k : Nat) : Good (inner l H k) (m + k) := by
  induction k with
  | zero => exact h
  | succ k ih => exact ih.step _ _ _

theorem Good.outer {H : Hi} {m : Nat} (h : Good H m) (l : Nat) : Good (outer H l) (m + sumTo (fun i => (H.ls i).order.length) l) := by
  induction l with
  | zero => exact h
  | succ l ih => have := ih.inner l ((H.ls l).order.length); rw [Nat.add_assoc] at this; exact this
end Go.Proofs.Qxb6602594a
