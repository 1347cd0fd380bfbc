import Derived.Test.Qxb6602719aVals
import Derived.Test.Qxb6602719aBuild
import Derived.Test.Qxb6602719aBudget
namespace Go.Proofs.Qxb6602719a
open Go.RowKit Go.Maps

theorem vals_congr {V1 V2 : View} (ss : List (List UInt8)) (h : ∀ x ∈ ss, V1 x = V2 x) : vals V1 ss = vals V2 ss := by
  induction ss with
  | nil => rfl
  | cons x ss ih =>
    have e : ∀ V : View, vals V (x :: ss) = (V x).getD [] ++ vals V ss := fun V => by simp [vals]
    rw [e, e, h x (by simp), ih (fun y hy => h y (by simp [hy]))]

theorem same_answer {V1 V2 : View} {nm : List UInt8} {s1 s2 : List (List UInt8)} (hsel : ∀ x, sel V1 nm x = sel V2 nm x) (hV : ∀ x, sel V1 nm x = true → V1 x = V2 x)
    (n1 : s1.Nodup) (n2 : s2.Nodup) (m1 : ∀ x, x ∈ s1 ↔ sel V1 nm x = true) (m2 : ∀ x, x ∈ s2 ↔ sel V2 nm x = true) : joined V1 s1 = joined V2 s2 ∧ (!s1.isEmpty) = (!s2.isEmpty) := by
  have hp : s1.Perm s2 := (List.perm_ext_iff_of_nodup n1 n2).2 fun x => by rw [m1, m2, hsel]
  refine ⟨?_, by rw [hp.isEmpty_eq]⟩
  unfold joined
  rw [mergeSort_of_perm hp]
  have : vals V1 (s2.mergeSort leB) = vals V2 (s2.mergeSort leB) := by
    exact vals_congr _ fun x hx => hV x (by rw [hsel, ← m2]; exact List.mem_mergeSort.1 hx)
  rw [this]

theorem laid_some {K : Nat → ByteArray} {L : Nat → Nat} {S : Nat → Nat → ByteArray} {n : Nat} {x : List UInt8} {l : List ByteArray} (h : laid K L S n x = some l) : ∃ i, i < n ∧ x = (K i).data.toList ∧ l = rowOf L S i := by
  induction n with
  | zero => cases h
  | succ n ih =>
    unfold laid put at h
    by_cases e : x = (K n).data.toList
    · rw [if_pos e] at h
      cases h
      exact ⟨n, by omega, e, rfl⟩
    · rw [if_neg e] at h
      obtain ⟨i, hi, r⟩ := ih h
      exact ⟨i, by omega, r⟩

theorem total_rowOf (L : Nat → Nat) (S : Nat → Nat → ByteArray) (i : Nat) : total (rowOf L S i) = sumTo (fun j => (S i j).size) (L i) := by
  unfold rowOf
  generalize L i = m
  induction m with
  | zero => rfl
  | succ m ih => rw [List.range_succ, List.map_append, total_append, ih]; simp [total, sumTo]

theorem bnd_laid {K : Nat → ByteArray} {L : Nat → Nat} {S : Nat → Nat → ByteArray} {n : Nat} (hb : Budget n L S) (hk : ∀ i, i < n → (K i).size ≤ 1048576) : Bnd (laid K L S n) where
  row x l h := by
    obtain ⟨i, hi, _, rfl⟩ := laid_some h
    rw [rowOf_length, total_rowOf]
    exact hb i hi
  key x l h := by
    obtain ⟨i, hi, rfl, _⟩ := laid_some h
    rw [len_data]
    exact hk i hi

theorem bnd_put {V : View} (h : Bnd V) {x : List UInt8} (hx : x.length ≤ 1048576) : Bnd (put V x []) where
  row y l hl := by
    unfold put at hl
    split at hl
    · cases hl; simp [total]
    · exact h.row y l hl
  key y l hl := by
    unfold put at hl
    split at hl
    · rename_i e; rw [e]; exact hx
    · exact h.key y l hl

/-- a key with no values answers as an absent one -/
theorem sel_put {V : View} {x : List UInt8} (hx : V x = none) (nm : List UInt8) : (∀ y, sel V nm y = sel (put V x []) nm y) ∧ ∀ y, sel V nm y = true → V y = put V x [] y := by
  refine ⟨fun y => ?_, fun y hy => ?_⟩
  · unfold sel put
    by_cases e : y = x
    · subst e; simp [hx]
    · simp [e]
  · unfold put
    by_cases e : y = x
    · subst e
      unfold sel at hy
      rw [hx] at hy
      cases hy
    · rw [if_neg e]

theorem laid_none {K : Nat → ByteArray} {L : Nat → Nat} {S : Nat → Nat → ByteArray} {n : Nat} {s : ByteArray} (h : ∀ i, i < n → K i ≠ s) : laid K L S n s.data.toList = none := by
  cases hl : laid K L S n s.data.toList with
  | none => rfl
  | some l =>
    obtain ⟨i, hi, e, _⟩ := laid_some hl
    refine absurd ?_ (h i hi)
    have : (K i).data = s.data := Array.toList_inj.1 e.symm
    cases hk : K i
    cases s
    simp_all

end Go.Proofs.Qxb6602719a
