import Derived.Test.Qxb6602719aSel
namespace Go.Proofs.Qxb6602719a
open Go.RowKit Go.Maps

theorem vals_append (V : View) (ss ts : List (List UInt8)) : vals V (ss ++ ts) = vals V ss ++ vals V ts := by simp [vals]

theorem vals_take_succ (V : View) (ts : List (List UInt8)) {k : Nat} (h : k < ts.length) : vals V (ts.take (k + 1)) = vals V (ts.take k) ++ (V ts[k]).getD [] := by
  rw [List.take_succ_eq_append_getElem h, vals_append]
  simp [vals]

theorem total_append (a b : List ByteArray) : total (a ++ b) = total a + total b := by simp [total]

theorem vals_bound {V : View} (hB : Bnd V) (ss : List (List UInt8)) : (vals V ss).length + total (vals V ss) ≤ ss.length * 1048576 := by
  induction ss with
  | nil => simp [vals, total]
  | cons x ss ih =>
    have e : vals V (x :: ss) = (V x).getD [] ++ vals V ss := by simp [vals]
    rw [e, List.length_append, total_append, List.length_cons]
    have : ((V x).getD []).length + total ((V x).getD []) ≤ 1048576 := by
      cases hv : V x with
      | none => simp [total]
      | some l => exact hB.row x l hv
    omega

theorem len_data (x : ByteArray) : x.data.toList.length = x.size := by rw [Array.length_toList]; rfl

theorem join_bound (xs : List ByteArray) : (Lib.join (xs.map (·.data.toList)) [44]).length ≤ xs.length + total xs := by
  unfold Lib.join List.intercalate
  induction xs with
  | nil => simp
  | cons x xs ih =>
    cases xs with
    | nil => simp only [List.map_cons, List.map_nil, List.intersperse_singleton, List.flatten_cons, List.flatten_nil, List.append_nil, len_data, total, List.sum_cons, List.sum_nil, List.length_cons, List.length_nil]; omega
    | cons y ys =>
      rw [List.map_cons, List.map_cons, List.intersperse_cons_cons, List.flatten_cons, List.flatten_cons, List.length_append, List.length_append]
      rw [List.map_cons] at ih
      have e : total (x :: y :: ys) = x.size + total (y :: ys) := by simp [total]
      rw [e, len_data]
      simp only [List.length_cons, List.length_nil] at ih ⊢
      omega

theorem vals_pos {V : View} {nm : List UInt8} {ts : List (List UInt8)} (h : ∀ x ∈ ts, sel V nm x = true) (hne : ts ≠ []) : 0 < (vals V ts).length := by
  cases ts with
  | nil => exact absurd rfl hne
  | cons x ts =>
    obtain ⟨l, hl, hn, _⟩ := sel_some (h x (by simp))
    have : 0 < l.length := List.length_pos_iff.2 hn
    simp [vals, hl]
    omega

theorem ownsRow_shape {w : World} {base : Nat} {e : TypeId} {size : Nat} {v : Value} {n : Nat} {xs : List Value} (h : w.ownsRow base e size v n xs) : ∃ a c, v = .slice a n c := by
  rcases h.2 with ⟨rfl, rfl⟩ | ⟨g, cap, cur, rfl, _⟩
  · exact ⟨_, _, rfl⟩
  · exact ⟨_, _, rfl⟩

/-- a row with an element has an address, and its cells lie there -/
theorem Row.addr {w : World} {a : Option Addr} {n : Nat} {f : Nat → Value} (h : Row w a n f) (hn : 0 < n) : ∃ b off, a = some ⟨b, off, none⟩ ∧ b < w.heap.size ∧ ∀ i, i < n → w.cell? ⟨b, off + i, none⟩ = some (f i) := by
  obtain ⟨b, off, rfl, hb, _⟩ := h 0 hn
  refine ⟨b, off, rfl, hb, fun i hi => ?_⟩
  obtain ⟨b', off', e, _, hc⟩ := h i hi
  cases e
  exact hc

theorem add_eq (b off j : Nat) : Addr.add ⟨b, off, none⟩ j = ⟨b, off + j, none⟩ := by unfold Addr.add; split <;> simp_all
end Go.Proofs.Qxb6602719a
