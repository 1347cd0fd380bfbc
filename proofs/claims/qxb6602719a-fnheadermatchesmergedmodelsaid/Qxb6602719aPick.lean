import Derived.Test.Qxb6602719aLaw
namespace Go.Proofs.Qxb6602719a
open Go.RowKit Go.Maps

theorem lt_of_lt_of_le' {a b c : List UInt8} (h1 : a < b) (h2 : b ≤ c) : a < c := by
  rcases Decidable.em (b = c) with rfl | h
  · exact h1
  · refine List.lt_trans h1 ?_
    rcases Decidable.em (b < c) with h3 | h3
    · exact h3
    · exact absurd (List.le_antisymm h2 (List.not_lt.1 h3)) h

/-- sorted, each once -/
def Strict (ts : List (List UInt8)) : Prop := ∀ (a b : Nat) (ha : a < ts.length) (hb : b < ts.length), a < b → ts[a] < ts[b]

theorem strict_sort {ss : List (List UInt8)} (h : ss.Nodup) : Strict (ss.mergeSort leB) := by
  have hp : (ss.mergeSort leB).Pairwise (fun a b => leB a b = true) := List.pairwise_mergeSort (fun a b c h1 h2 => by simp only [leB, decide_eq_true_eq] at *; exact List.le_trans h1 h2) (fun a b => by simp only [leB, Bool.or_eq_true, decide_eq_true_eq]; exact List.le_total a b) ss
  have hn : (ss.mergeSort leB).Nodup := (List.mergeSort_perm ss leB).nodup_iff.2 h
  intro a b ha hb hab
  have h1 := List.pairwise_iff_getElem.1 hp a b ha hb hab
  have h2 := List.pairwise_iff_getElem.1 hn a b ha hb hab
  simp only [leB, decide_eq_true_eq] at h1
  rcases Decidable.em ((ss.mergeSort leB)[a] < (ss.mergeSort leB)[b]) with h3 | h3
  · exact h3
  · exact absurd (List.le_antisymm h1 (List.not_lt.1 h3)) h2

/-- what the search has found among the first i: nothing, or b -/
def Found (P : Nat → Bool) (key : Nat → List UInt8) (C : List UInt8 → Prop) (i : Nat) : Option Nat → Prop
  | none => ∀ q, q < i → P q = true → ¬ C (key q)
  | some b => b < i ∧ P b = true ∧ C (key b) ∧ ∀ q, q < i → P q = true → C (key q) → key b ≤ key q

theorem Found.skip {P : Nat → Bool} {key : Nat → List UInt8} {C : List UInt8 → Prop} {i : Nat} {o : Option Nat} (h : Found P key C i o) (hi : P i = false ∨ ¬ C (key i)) : Found P key C (i + 1) o := by
  have aux : ∀ q, q < i + 1 → P q = true → C (key q) → q < i := fun q hq hp hc => by
    rcases Nat.lt_succ_iff_lt_or_eq.1 hq with h1 | rfl
    · exact h1
    · rcases hi with h1 | h1
      · rw [hp] at h1; cases h1
      · exact absurd hc h1
  cases o with
  | none => exact fun q hq hp hc => h q (aux q hq hp hc) hp hc
  | some b => exact ⟨by have := h.1; omega, h.2.1, h.2.2.1, fun q hq hp hc => h.2.2.2 q (aux q hq hp hc) hp hc⟩

theorem Found.keep {P : Nat → Bool} {key : Nat → List UInt8} {C : List UInt8 → Prop} {i b : Nat} (h : Found P key C i (some b)) (hi : ¬ key i < key b) : Found P key C (i + 1) (some b) :=
  ⟨by have := h.1; omega, h.2.1, h.2.2.1, fun q hq hp hc => by
    rcases Nat.lt_succ_iff_lt_or_eq.1 hq with h1 | rfl
    · exact h.2.2.2 q h1 hp hc
    · exact List.not_lt.1 hi⟩

theorem Found.first {P : Nat → Bool} {key : Nat → List UInt8} {C : List UInt8 → Prop} {i : Nat} (h : Found P key C i none) (hp : P i = true) (hc : C (key i)) : Found P key C (i + 1) (some i) :=
  ⟨by omega, hp, hc, fun q hq hp hc => by
    rcases Nat.lt_succ_iff_lt_or_eq.1 hq with h1 | rfl
    · exact absurd hc (h q h1 hp)
    · exact List.le_refl _⟩

theorem Found.better {P : Nat → Bool} {key : Nat → List UInt8} {C : List UInt8 → Prop} {i b : Nat} (h : Found P key C i (some b)) (hp : P i = true) (hc : C (key i)) (hi : key i < key b) : Found P key C (i + 1) (some i) :=
  ⟨by omega, hp, hc, fun q hq hp hc => by
    rcases Nat.lt_succ_iff_lt_or_eq.1 hq with h1 | rfl
    · exact List.le_of_lt (lt_of_lt_of_le' hi (h.2.2.2 q h1 hp hc))
    · exact List.le_refl _⟩

theorem Found.done {P : Nat → Bool} {key : Nat → List UInt8} {n r : Nat} {ts : List (List UInt8)} {prev : List UInt8} {o : Option Nat} (hs : Strict ts) (hm : ∀ x, x ∈ ts ↔ ∃ i, i < n ∧ P i = true ∧ x = key i)
    (hr : r < ts.length) (hp : ∀ h : 0 < r, prev = ts[r - 1]) (h : Found P key (fun x => r = 0 ∨ prev < x) n o) : ∃ b, o = some b ∧ b < n ∧ P b = true ∧ key b = ts[r] := by
  obtain ⟨i0, hi0, hp0, e0⟩ := (hm _).1 (List.getElem_mem hr)
  have hc0 : r = 0 ∨ prev < key i0 := by
    rcases Nat.eq_zero_or_pos r with h0 | h0
    · exact .inl h0
    · right
      rw [hp h0, ← e0]
      exact hs _ _ _ _ (by omega)
  cases o with
  | none => exact absurd hc0 (h i0 hi0 hp0)
  | some b =>
    obtain ⟨hb, hpb, hcb, hle⟩ := h
    refine ⟨b, rfl, hb, hpb, ?_⟩
    have h1 := hle i0 hi0 hp0 hc0
    obtain ⟨q, hq, eq⟩ := List.getElem_of_mem ((hm (key b)).2 ⟨b, hb, hpb, rfl⟩)
    rw [← e0, ← eq] at h1
    rcases Nat.lt_trichotomy q r with h2 | h2 | h2
    · exfalso
      have h0 : 0 < r := by omega
      rcases hcb with h3 | h3
      · omega
      · rw [hp h0, ← eq] at h3
        rcases Decidable.em (q = r - 1) with rfl | h4
        · exact List.lt_irrefl _ h3
        · exact List.lt_irrefl _ (List.lt_trans h3 (hs q (r - 1) hq (by omega) (by omega)))
    · subst h2; exact eq.symm
    · exact absurd (lt_of_lt_of_le' (hs r q hr hq h2) h1) (List.lt_irrefl _)

/-- the chosen indices below k -/
def idx (P : Nat → Bool) (k : Nat) : List Nat := (List.range k).filter P

theorem idx_succ (P : Nat → Bool) (k : Nat) : idx P (k + 1) = if P k = true then idx P k ++ [k] else idx P k := by
  unfold idx
  rw [List.range_succ, List.filter_append]
  split
  · rename_i h; simp [h]
  · rename_i h; simp [h]

theorem mem_idx {P : Nat → Bool} {k i : Nat} : i ∈ idx P k ↔ i < k ∧ P i = true := by simp [idx]

/-- no later pair has i's key -/
def liveB (K : Nat → ByteArray) (n i : Nat) : Bool := (List.range n).all fun j => !decide (i < j) || !decide ((K j).data.toList = (K i).data.toList)

theorem liveB_iff {K : Nat → ByteArray} {n i : Nat} : liveB K n i = true ↔ ∀ j, i < j → j < n → (K j).data.toList ≠ (K i).data.toList := by
  simp only [liveB, List.all_eq_true, List.mem_range, Bool.or_eq_true, Bool.not_eq_true', decide_eq_false_iff_not]
  refine ⟨fun h j h1 h2 => (h j h2).resolve_left (by omega), fun h j h2 => ?_⟩
  rcases Nat.lt_or_ge i j with h1 | h1
  · exact .inr (h j h1 h2)
  · exact .inl (by omega)

/-- is pair i chosen? -/
def pick (K : Nat → ByteArray) (L : Nat → Nat) (nm : ByteArray) (n i : Nat) : Bool := liveB K n i && decide (0 < L i) && foldEq (K i) nm

theorem laid_live {K : Nat → ByteArray} {L : Nat → Nat} {S : Nat → Nat → ByteArray} {n i : Nat} (hi : i < n) (h : ∀ j, i < j → j < n → (K j).data.toList ≠ (K i).data.toList) : laid K L S n (K i).data.toList = some (rowOf L S i) := by
  induction n with
  | zero => omega
  | succ n ih =>
    unfold laid put
    rcases Nat.lt_succ_iff_lt_or_eq.1 hi with h1 | rfl
    · rw [if_neg (fun e => h n h1 (by omega) e.symm)]
      exact ih h1 (fun j h2 h3 => h j h2 (by omega))
    · rw [if_pos rfl]

theorem laid_last {K : Nat → ByteArray} {L : Nat → Nat} {S : Nat → Nat → ByteArray} {n : Nat} {x : List UInt8} {l : List ByteArray} (h : laid K L S n x = some l) : ∃ i, i < n ∧ x = (K i).data.toList ∧ l = rowOf L S i ∧ ∀ j, i < j → j < n → (K j).data.toList ≠ (K i).data.toList := by
  induction n with
  | zero => cases h
  | succ n ih =>
    unfold laid put at h
    by_cases e : x = (K n).data.toList
    · rw [if_pos e] at h
      cases h
      exact ⟨n, by omega, e, rfl, fun j h1 h2 => by omega⟩
    · rw [if_neg e] at h
      obtain ⟨i, hi, h1, h2, h3⟩ := ih h
      refine ⟨i, by omega, h1, h2, fun j h4 h5 => ?_⟩
      rcases Nat.lt_succ_iff_lt_or_eq.1 h5 with h6 | rfl
      · exact h3 j h4 h6
      · exact fun e' => e (h1.trans e'.symm)

section
variable {K : Nat → ByteArray} {L : Nat → Nat} {S : Nat → Nat → ByteArray} {nm : ByteArray} {n : Nat}

theorem pick_iff {i : Nat} : pick K L nm n i = true ↔ (∀ j, i < j → j < n → (K j).data.toList ≠ (K i).data.toList) ∧ 0 < L i ∧ foldEq (K i) nm = true := by
  simp only [pick, Bool.and_eq_true, liveB_iff, decide_eq_true_eq, and_assoc]

/-- the chosen keys -/
def chosen (K : Nat → ByteArray) (L : Nat → Nat) (nm : ByteArray) (n : Nat) : List (List UInt8) := (idx (pick K L nm n) n).map fun i => (K i).data.toList

theorem mem_chosen {x : List UInt8} : x ∈ chosen K L nm n ↔ ∃ i, i < n ∧ pick K L nm n i = true ∧ x = (K i).data.toList := by
  simp only [chosen, List.mem_map, mem_idx]
  exact ⟨fun ⟨i, ⟨h1, h2⟩, h3⟩ => ⟨i, h1, h2, h3.symm⟩, fun ⟨i, h1, h2, h3⟩ => ⟨i, ⟨h1, h2⟩, h3.symm⟩⟩

theorem laid_pick {i : Nat} (hi : i < n) (h : pick K L nm n i = true) : laid K L S n (K i).data.toList = some (rowOf L S i) := laid_live hi (pick_iff.1 h).1

theorem chosen_sel (x : List UInt8) : x ∈ chosen K L nm n ↔ sel (laid K L S n) nm.data.toList x = true := by
  rw [mem_chosen]
  constructor
  · rintro ⟨i, hi, hp, rfl⟩
    unfold sel
    rw [laid_pick hi hp]
    obtain ⟨_, h1, h2⟩ := pick_iff.1 hp
    have : rowOf L S i ≠ [] := fun e => by have := rowOf_length L S i; rw [e] at this; simp at this; omega
    simp [this]
    exact h2
  · intro h
    obtain ⟨l, hl, hne, hf⟩ := sel_some h
    obtain ⟨i, hi, rfl, rfl, hlast⟩ := laid_last hl
    refine ⟨i, hi, pick_iff.2 ⟨hlast, ?_, hf⟩, rfl⟩
    have := rowOf_length L S i
    have h2 := List.length_pos_iff.2 hne
    omega

theorem chosen_nodup : (chosen K L nm n).Nodup := by
  unfold chosen List.Nodup
  rw [List.pairwise_map]
  have hlt : (idx (pick K L nm n) n).Pairwise (· < ·) := List.Pairwise.filter _ List.pairwise_lt_range
  refine List.Pairwise.imp_of_mem ?_ hlt
  intro a b ha hb hab e
  exact (pick_iff.1 (mem_idx.1 ha).2).1 b hab (mem_idx.1 hb).1 e.symm

theorem chosen_length : (chosen K L nm n).length = (idx (pick K L nm n) n).length := by simp [chosen]
end

/-- the values' bytes, a comma between -/
def jn (xs : List ByteArray) : List UInt8 := Lib.join (xs.map (·.data.toList)) [44]

theorem jn_nil : jn [] = [] := by simp [jn, Lib.join]
theorem jn_one (y : ByteArray) : jn [y] = y.data.toList := by simp [jn, Lib.join]
theorem jn_snoc {xs : List ByteArray} (h : xs ≠ []) (y : ByteArray) : jn (xs ++ [y]) = jn xs ++ [44] ++ y.data.toList := by
  unfold jn Lib.join List.intercalate
  induction xs with
  | nil => exact absurd rfl h
  | cons x xs ih =>
    cases xs with
    | nil => simp
    | cons z zs =>
      have := ih (by simp)
      simp only [List.cons_append, List.map_cons, List.intersperse_cons_cons, List.flatten_cons] at this ⊢
      rw [this]
      simp

theorem jn_len (xs : List ByteArray) : (jn xs).length ≤ xs.length + total xs := join_bound xs
end Go.Proofs.Qxb6602719a
