import Derived.Test.Qxb6602594aNewT
import Derived.Test.Qxb6602594aIdem
namespace Go.Proofs.Qxb6602594a
open Go.RowKit Go.Maps

theorem idxTo_rng (d : Dat) (l x : Nat) (v : ByteArray) (h : Maps.has (idxTo d l x) (key v) = true) : 0 ≤ atInt (idxTo d l x) v ∧ atInt (idxTo d l x) v < x := by
  induction x with
  | zero => simp [idxTo, Maps.has] at h
  | succ x ih =>
    rw [idxTo] at h ⊢
    by_cases e : v = d.S1 l x
    · subst e
      rw [atInt_put_same (idxTo_tidy d l x).1.isMap]
      omega
    · rw [has_put_other (fun e' => e (key_inj e'))] at h
      rw [atInt_put_other e]
      have := ih h
      omega

theorem lsTo_eq (d : Dat) (n l : Nat) : lsTo d n l = if l < n then lsAt d l (d.L1 l) else zeroLs := by
  induction n with
  | zero => simp [lsTo]
  | succ n ih =>
    rw [lsTo, ih]
    by_cases e : l = n
    · subst e; simp
    · by_cases h : l < n
      · rw [if_neg e, if_pos h, if_pos (by omega)]
      · rw [if_neg e, if_neg h, if_neg (by omega)]

/-- every transaction has at most one append; every append's value is a string -/
structure Fine (H : Hi) : Prop where
  refs : ∀ t ∈ H.txs, t.refs.length ≤ 1
  val : ∀ l, ∀ a ∈ (H.ls l).apps, a.value.size ≤ maxLen

theorem Fine.step {H : Hi} (h : Fine H) (l p : Nat) (v : ByteArray) (hv : v.size ≤ maxLen) : Fine (step l p v H) := by
  unfold Qxb6602594a.step
  split
  · refine ⟨h.refs, fun i a ha => ?_⟩
    by_cases e : i = l
    · subst e
      simp only [if_true] at ha
      obtain ⟨j, hj, hja⟩ := List.getElem_of_mem ha
      have h1 : ((H.ls i).apps.modify (atInt (H.ls i).idx v).toNat (fun a => { a with pos := p }))[j]? = some a := by rw [List.getElem?_eq_getElem hj, hja]
      rw [List.getElem?_modify] at h1
      obtain ⟨b, hb, hb'⟩ := Option.map_eq_some_iff.1 h1
      have hm := h.val i b (List.mem_of_getElem? hb)
      split at hb'
      · subst hb'; exact hm
      · subst hb'; exact hm
    · simp only [if_neg e] at ha; exact h.val i a ha
  · refine ⟨fun t ht => ?_, fun i a ha => ?_⟩
    · simp only [List.mem_append, List.mem_singleton] at ht
      rcases ht with ht | rfl
      · exact h.refs t ht
      · simp
    · by_cases e : i = l
      · subst e
        simp only [if_true, List.mem_append, List.mem_singleton] at ha
        rcases ha with ha | rfl
        · exact h.val i a ha
        · exact hv
      · simp only [if_neg e] at ha; exact h.val i a ha

theorem size_getD {o : List ByteArray} (h : ∀ s ∈ o, s.size ≤ maxLen) (k : Nat) : (o.getD k ByteArray.empty).size ≤ maxLen := by
  rw [List.getD_eq_getElem?_getD]
  cases e : o[k]? with
  | none => simp
  | some s => exact h s (List.mem_of_getElem? e)

theorem Fine.inner {H : Hi} (h : Fine H) (l k : Nat) (hs : ∀ s ∈ (H.ls l).order, s.size ≤ maxLen) : Fine (inner l H k) := by
  induction k with
  | zero => exact h
  | succ k ih => exact ih.step _ _ _ (size_getD hs k)

theorem Fine.outer {H : Hi} (h : Fine H) (l : Nat) (hs : ∀ l, ∀ s ∈ (H.ls l).order, s.size ≤ maxLen) : Fine (outer H l) := by
  induction l with
  | zero => exact h
  | succ l ih => exact ih.inner _ _ (by rw [outer_order]; exact hs l)

theorem txsTo_refs (nO : Nat) (oc : Nat → Int) (k : Nat) : ∀ t ∈ txsTo nO oc k, t.refs.length ≤ 1 := by
  induction k with
  | zero => intro t ht; rw [txsTo] at ht; rw [List.eq_of_mem_replicate ht]; simp
  | succ k ih =>
    intro t ht
    rw [txsTo] at ht
    obtain ⟨j, hj, hja⟩ := List.getElem_of_mem ht
    have h1 : ((txsTo nO oc k).modify k (fun t => { t with outcome := oc k }))[j]? = some t := by rw [List.getElem?_eq_getElem hj, hja]
    rw [List.getElem?_modify] at h1
    obtain ⟨b, hb, hb'⟩ := Option.map_eq_some_iff.1 h1
    have hm := ih b (List.mem_of_getElem? hb)
    split at hb'
    · subst hb'; exact hm
    · subst hb'; exact hm

theorem appsTo_val (d : Dat) (l : Nat) (hs : ∀ i, i < d.L1 l → (d.S1 l i).size ≤ maxLen) (x : Nat) (hx : x ≤ d.L1 l) : ∀ a ∈ appsTo d l x, a.value.size ≤ maxLen := by
  induction x with
  | zero => intro a ha; rw [appsTo] at ha; rw [List.eq_of_mem_replicate ha]; simp
  | succ x ih =>
    intro a ha
    rw [appsTo] at ha
    rcases List.mem_or_eq_of_mem_set ha with ha | rfl
    · exact ih (by omega) a ha
    · exact hs x (by omega)

structure Bounds (d : Dat) : Prop where
  nL : d.nL ≤ 1048576
  nO : d.nO ≤ 1048576
  L0 : ∀ l, l < d.nL → d.L0 l ≤ 1048576
  L1 : ∀ l, l < d.nL → d.L1 l ≤ 1048576
  sum : sumTo d.L0 d.nL ≤ 1048576
  S0 : ∀ l i, l < d.nL → i < d.L0 l → (d.S0 l i).size ≤ maxLen
  S1 : ∀ l i, l < d.nL → i < d.L1 l → (d.S1 l i).size ≤ maxLen

theorem newHi_good {d : Dat} (h : Bounds d) : Good (newHi d) 1048576 := by
  refine ⟨h.nL, fun l => ?_, fun l v hv => ?_, fun l s hs => ?_, by simp only [newHi, txsTo_length]; exact h.nO, fun l => ?_⟩
  · simp only [newHi, lsTo_eq]
    split
    · exact (idxTo_tidy d l _).1.isMap
    · exact isMap_empty
  · simp only [newHi, lsTo_eq] at hv ⊢
    split at hv
    · rename_i hl
      simp only [if_pos hl, lsAt, appsTo_length] at hv ⊢
      exact idxTo_rng d l _ v hv
    · simp [zeroLs, Maps.has] at hv
  · simp only [newHi, lsTo_eq] at hs
    split at hs
    · rename_i hl
      simp only [lsAt, ord, List.mem_map, List.mem_range] at hs
      obtain ⟨i, hi, rfl⟩ := hs
      exact h.S0 l i hl hi
    · simp [zeroLs] at hs
  · simp only [newHi, lsTo_eq]
    split
    · rename_i hl; simp only [lsAt, appsTo_length]; exact h.L1 l hl
    · simp [zeroLs]

theorem newHi_fine {d : Dat} (h : Bounds d) : Fine (newHi d) := by
  refine ⟨txsTo_refs _ _ _, fun l a ha => ?_⟩
  simp only [newHi, lsTo_eq] at ha
  split at ha
  · rename_i hl
    exact appsTo_val d l (fun i hi => h.S1 l i hl hi) _ (Nat.le_refl _) a ha
  · simp [zeroLs] at ha

theorem sumTo_congr {f g : Nat → Nat} {n : Nat} (h : ∀ i, i < n → f i = g i) : sumTo f n = sumTo g n := by
  induction n with
  | zero => rfl
  | succ n ih => rw [sumTo, sumTo, ih (fun i hi => h i (by omega)), h n (by omega)]

theorem newHi_sum (d : Dat) : sumTo (fun i => ((newHi d).ls i).order.length) (newHi d).n = sumTo d.L0 d.nL := by
  refine sumTo_congr (fun i hi => ?_)
  simp only [newHi, lsTo_eq] at hi ⊢
  rw [if_pos hi]
  simp [lsAt, ord]

theorem sum_ge (f : Nat → Nat) {n i : Nat} (h : i < n) : f i ≤ sumTo f n := by
  induction n with
  | zero => omega
  | succ n ih =>
    rw [sumTo]
    by_cases e : i = n
    · subst e; omega
    · have := ih (by omega); omega

/-- the history settled once -/
def H1 (d : Dat) : Hi := outer (newHi d) d.nL

theorem H1_n (d : Dat) : (H1 d).n = d.nL := outer_n _ _

theorem H1_good {d : Dat} (h : Bounds d) : Good (H1 d) 2097152 := by
  have g := (newHi_good h).outer d.nL
  have e := newHi_sum d
  have hs := h.sum
  simp only [newHi] at e g
  rw [e] at g
  exact g.mono (by omega)

theorem H1_fine {d : Dat} (h : Bounds d) : Fine (H1 d) := (newHi_fine h).outer _ (newHi_good h).str

theorem H1_sum (d : Dat) : sumTo (fun i => ((H1 d).ls i).order.length) (H1 d).n = sumTo d.L0 d.nL := by
  rw [← newHi_sum]
  have : (H1 d).n = (newHi d).n := outer_n _ _
  rw [this]
  refine sumTo_congr (fun i _ => ?_)
  unfold H1
  rw [outer_order]

theorem H1_order {d : Dat} (h : Bounds d) {l : Nat} (hl : l < d.nL) : ((H1 d).ls l).order.length ≤ 1048576 := by
  have e : ((H1 d).ls l).order.length = d.L0 l := by
    unfold H1
    rw [outer_order]
    simp only [newHi, lsTo_eq]
    rw [if_pos hl]
    simp [lsAt, ord]
  rw [e]
  exact h.L0 l hl

theorem H1_again {d : Dat} (h : Bounds d) : outer (H1 d) (H1 d).n = H1 d := by
  have := outer_twice (newHi_good h)
  rw [H1_n]
  exact this
end Go.Proofs.Qxb6602594a
