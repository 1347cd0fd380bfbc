import Derived.Test.Qxb6602594aRows
import Derived.Test.Qxb6602594aMain
import Derived.Test.Qxb6602594aClosed
import Derived.ProofKit
import Derived.OpenShut
import Derived.ShutString
import Derived.ChangeOld
import Derived.Deep.Strs
import Derived.Deep.Slices
namespace Go.Proofs.Qxb6602594a
open Go.ChangeShapes Go.WideShapes Go.ChangeAt Go.RowKit
open Go.ChangeMaps (open_string shut_string)
open Go.Deep (open_slice1 open_strs choose_lt)
set_option linter.unusedVariables false

theorem own : ownKnob Try.prog.godebug = none := by kernel_rfl
theorem laidOut : laidOutB Try.prog = true := by kernel_rfl
theorem cells23 : Try.prog.cellsOf 23 = 1 := by kernel_rfl
theorem cells9 : Try.prog.cellsOf 9 = 1 := by kernel_rfl
theorem cells48 : Try.prog.cellsOf 48 = 1 := by kernel_rfl
theorem cells21 : Try.prog.cellsOf 21 = 1 := by kernel_rfl
theorem cells5 : Try.prog.cellsOf 5 = 1 := by kernel_rfl

theorem rowOf {w : World} {a : Addr} {n : Nat} {f : Nat → Value} (h : ∀ i, i < n → w.cell? (a.add i) = some (f i)) : Row w (some a) n f := by
  intro i hi
  obtain ⟨b, off, spot⟩ := a
  have h0 := h i hi
  have hspot : spot = none := by
    have := World.cell?_spot (h 0 (by omega))
    simpa [Addr.add] using this
  subst hspot
  rw [Go.WideShapes.add_plain] at h0
  exact ⟨b, off, rfl, World.block_lt_of_cell? _ _ h0, h0⟩

section
variable {H : Type} {enc : TypeId × Value → H} {W : World}

theorem strRow {fuel : Nat} {V : Value} {x : DataW H × List MemPlace} (h : DataW.trod enc Try.prog W 0 (fun _ => true) true fuel 23 [V] = some x) :
    ∃ (a : Option Addr) (n c : Nat) (S : Nat → ByteArray), V = .slice a n c ∧ Row W a n (fun i => .string (S i)) ∧ ∀ i, i < n → (S i).size ≤ maxLen := by
  rcases open_strs Try.underlying23 Try.underlying9 cells9 h with ⟨hcs, _⟩ | ⟨a, n, c, m, S, hcs, _, hl, _, hm, _, hx⟩
  · simp at hcs
    exact ⟨none, 0, 0, fun _ => ByteArray.empty, hcs, fun i hi => by omega, fun i hi => by omega⟩
  · simp at hcs
    simp only [if_true] at hm
    exact ⟨some a, n, c, S, hcs, rowOf (fun i hi => (hx i (by omega)).1), fun i hi => (hx i (by omega)).2⟩

theorem intRow {fuel : Nat} {V : Value} {x : DataW H × List MemPlace} (h : DataW.trod enc Try.prog W 0 (fun _ => true) true fuel 48 [V] = some x) :
    ∃ (a : Option Addr) (n c : Nat) (S : Nat → Int), V = .slice a n c ∧ Row W a n (fun i => .int .i32 (S i)) := by
  rcases open_ints Try.underlying48 Try.underlying21 cells21 h with ⟨hcs, _⟩ | ⟨a, n, c, zs, hcs, _, hl, _, hz, _, hcell, _⟩
  · simp at hcs
    exact ⟨none, 0, 0, fun _ => 0, hcs, fun i hi => by omega⟩
  · simp at hcs
    simp only [if_true] at hz
    exact ⟨some a, n, c, fun i => zs.getD i 0, hcs, rowOf (fun i hi => hcell i (by omega))⟩

theorem strRows {fuel : Nat} {V : Value} {x : DataW H × List MemPlace} (h : DataW.trod enc Try.prog W 0 (fun _ => true) true fuel 37 [V] = some x) :
    ∃ (a : Option Addr) (n c : Nat) (L : Nat → Nat) (S : Nat → Nat → ByteArray), V = .slice a n c ∧ Rows2 W a n L (fun i j => .string (S i j)) ∧ ∀ i j, i < n → j < L i → (S i j).size ≤ maxLen := by
  rcases open_slice1 Try.underlying37 cells23 h with ⟨hcs, _⟩ | ⟨a, n, c, m, f, U, D, Pl, hcs, _, hl, _, hm, _, hx⟩
  · simp at hcs
    exact ⟨none, 0, 0, fun _ => 0, fun _ _ => ByteArray.empty, hcs, fun i hi => by omega, fun i j hi => by omega⟩
  · simp at hcs
    simp only [if_true] at hm
    have each : ∀ i, i < n → ∃ q : Option Addr × Nat × Nat × (Nat → ByteArray), U i = .slice q.1 q.2.1 q.2.2.1 ∧ Row W q.1 q.2.1 (fun j => .string (q.2.2.2 j)) ∧ ∀ j, j < q.2.1 → (q.2.2.2 j).size ≤ maxLen := by
      intro i hi
      obtain ⟨a', n', c', S', e1, e2, e3⟩ := strRow (hx i (by omega)).2
      exact ⟨(a', n', c', S'), e1, e2, e3⟩
    obtain ⟨q, hq⟩ := choose_lt each
    have row := rowOf (w := W) (a := a) (n := n) (f := U) (fun i hi => (hx i (by omega)).1)
    refine ⟨some a, n, c, fun i => (q i).2.1, fun i j => (q i).2.2.2 j, hcs, fun i hi => ?_, fun i j hi hj => (hq i hi).2.2 j hj⟩
    obtain ⟨b, off, e, hlt, hc⟩ := row i hi
    exact ⟨b, off, (q i).1, (q i).2.2.1, e, hlt, by rw [hc, (hq i hi).1], (hq i hi).2.1⟩

theorem intRows {fuel : Nat} {V : Value} {x : DataW H × List MemPlace} (h : DataW.trod enc Try.prog W 0 (fun _ => true) true fuel 38 [V] = some x) :
    ∃ (a : Option Addr) (n c : Nat) (L : Nat → Nat) (S : Nat → Nat → Int), V = .slice a n c ∧ Rows2 W a n L (fun i j => .int .i32 (S i j)) := by
  rcases open_slice1 Try.underlying38 cells48 h with ⟨hcs, _⟩ | ⟨a, n, c, m, f, U, D, Pl, hcs, _, hl, _, hm, _, hx⟩
  · simp at hcs
    exact ⟨none, 0, 0, fun _ => 0, fun _ _ => 0, hcs, fun i hi => by omega⟩
  · simp at hcs
    simp only [if_true] at hm
    have each : ∀ i, i < n → ∃ q : Option Addr × Nat × Nat × (Nat → Int), U i = .slice q.1 q.2.1 q.2.2.1 ∧ Row W q.1 q.2.1 (fun j => .int .i32 (q.2.2.2 j)) := by
      intro i hi
      obtain ⟨a', n', c', S', e1, e2⟩ := intRow (hx i (by omega)).2
      exact ⟨(a', n', c', S'), e1, e2⟩
    obtain ⟨q, hq⟩ := choose_lt each
    have row := rowOf (w := W) (a := a) (n := n) (f := U) (fun i hi => (hx i (by omega)).1)
    refine ⟨some a, n, c, fun i => (q i).2.1, fun i j => (q i).2.2.2 j, hcs, fun i hi => ?_⟩
    obtain ⟨b, off, e, hlt, hc⟩ := row i hi
    exact ⟨b, off, (q i).1, (q i).2.2.1, e, hlt, by rw [hc, (hq i hi).1], (hq i hi).2⟩

theorem u8Row {fuel : Nat} {V : Value} {x : DataW H × List MemPlace} (h : DataW.trod enc Try.prog W 0 (fun _ => true) true fuel 22 [V] = some x) :
    ∃ (a : Option Addr) (n c : Nat) (S : Nat → Int), V = .slice a n c ∧ Row W a n (fun i => .int .u8 (S i)) := by
  rcases open_ints Try.underlying22 Try.underlying5 cells5 h with ⟨hcs, _⟩ | ⟨a, n, c, zs, hcs, _, hl, _, hz, _, hcell, _⟩
  · simp at hcs
    exact ⟨none, 0, 0, fun _ => 0, hcs, fun i hi => by omega⟩
  · simp at hcs
    simp only [if_true] at hz
    exact ⟨some a, n, c, fun i => zs.getD i 0, hcs, rowOf (fun i hi => hcell i (by omega))⟩
end

set_option maxRecDepth 100000 in
set_option maxHeartbeats 2000000 in
theorem lifted (os : Os) (started : os.Started) (H : Type) (enc : TypeId × Value → H) :
    ReturnsInHanded {} Try.checked os 6 .any (Rows.fnSettleTwiceIsSettleOnceSpec.pre6 enc Try.prog Try.f6 Rows.fnSettleTwiceIsSettleOnceRow.domain false) (Rows.fnSettleTwiceIsSettleOnceSpec.post enc Try.prog Try.f6 false true false false) := by
  refine returnsInHanded_of_change (C := Try.checked) own started (by kernel_rfl) Try.func6
    (ChangeSpec.witness6 (enc := enc) (C := Try.checked) false ⟨#[], #[.slice none 0 0, .slice none 0 0, .slice none 0 0, .slice none 0 0, .slice none 0 0, .slice none 0 0, .slice none 0 0, .slice none 0 0], []⟩ 8 (by kernel_rfl) (by kernel_rfl) (by kernel_rfl) (by kernel_rfl)) ?_
  intro W base args ds gs before hval0 hW hcnd _
  have hval : ∀ (j : Nat) t v, Try.f6.params[j]? = some t → args[j]? = some v → Value.okWide Try.prog W .any base t v := hval0
  have hW' := hW
  obtain ⟨p, q, hA0, hV, rfl, hfz, hnd⟩ := hW
  have hA : DataW.TrodAll enc Try.prog W 0 (fun _ => true) true Try.f6.params.toList args.toList ds p := hA0
  rw [Try.params6] at hA hval
  obtain ⟨v0, vs0, d0, ds0, p0, q0, hargs, rfl, rfl, h0, r0⟩ := trodAll_cons hA
  obtain ⟨v1, vs1, d1, ds1, p1, q1, rfl, rfl, rfl, h1, r1⟩ := trodAll_cons r0
  obtain ⟨v2, vs2, d2, ds2, p2, q2, rfl, rfl, rfl, h2, r2⟩ := trodAll_cons r1
  obtain ⟨v3, vs3, d3, ds3, p3, q3, rfl, rfl, rfl, h3, r3⟩ := trodAll_cons r2
  obtain ⟨v4, vs4, d4, ds4, p4, q4, rfl, rfl, rfl, h4, r4⟩ := trodAll_cons r3
  obtain ⟨v5, vs5, d5, ds5, p5, q5, rfl, rfl, rfl, h5, r5⟩ := trodAll_cons r4
  obtain ⟨v6, vs6, d6, ds6, p6, q6, rfl, rfl, rfl, h6, r6⟩ := trodAll_cons r5
  obtain ⟨v7, vs7, d7, ds7, p7, q7, rfl, rfl, rfl, h7, r7⟩ := trodAll_cons r6
  obtain ⟨rfl, rfl, rfl⟩ := trodAll_nil r7
  obtain rfl : args = #[v0, v1, v2, v3, v4, v5, v6, v7] := by cases args; simp_all
  obtain ⟨rfl, rfl⟩ := trodVars_none hV
  obtain ⟨a0, len0, cap0, rfl⟩ := okWide_slice Try.underlying37 (hval 0 37 v0 rfl rfl)
  obtain ⟨a1, len1, cap1, rfl⟩ := okWide_slice Try.underlying37 (hval 1 37 v1 rfl rfl)
  obtain ⟨a2, len2, cap2, rfl⟩ := okWide_slice Try.underlying38 (hval 2 38 v2 rfl rfl)
  obtain ⟨a3, len3, cap3, rfl⟩ := okWide_slice Try.underlying38 (hval 3 38 v3 rfl rfl)
  obtain ⟨a4, len4, cap4, rfl⟩ := okWide_slice Try.underlying38 (hval 4 38 v4 rfl rfl)
  obtain ⟨a5, len5, cap5, rfl⟩ := okWide_slice Try.underlying38 (hval 5 38 v5 rfl rfl)
  obtain ⟨a6, len6, cap6, rfl⟩ := okWide_slice Try.underlying38 (hval 6 38 v6 rfl rfl)
  obtain ⟨a7, len7, cap7, rfl⟩ := okWide_slice Try.underlying22 (hval 7 22 v7 rfl rfl)
  have k0 := h0
  have lt0 : ∀ x ∈ p0, x.block < W.heap.size := by obtain ⟨m, hm⟩ := k0; exact DataW.trod_lt m _ _ _ hm
  have k1 := h1
  have lt1 : ∀ x ∈ p1, x.block < W.heap.size := by obtain ⟨m, hm⟩ := k1; exact DataW.trod_lt m _ _ _ hm
  have k2 := h2
  have lt2 : ∀ x ∈ p2, x.block < W.heap.size := by obtain ⟨m, hm⟩ := k2; exact DataW.trod_lt m _ _ _ hm
  have k3 := h3
  have lt3 : ∀ x ∈ p3, x.block < W.heap.size := by obtain ⟨m, hm⟩ := k3; exact DataW.trod_lt m _ _ _ hm
  have k4 := h4
  have lt4 : ∀ x ∈ p4, x.block < W.heap.size := by obtain ⟨m, hm⟩ := k4; exact DataW.trod_lt m _ _ _ hm
  have k5 := h5
  have lt5 : ∀ x ∈ p5, x.block < W.heap.size := by obtain ⟨m, hm⟩ := k5; exact DataW.trod_lt m _ _ _ hm
  have k6 := h6
  have lt6 : ∀ x ∈ p6, x.block < W.heap.size := by obtain ⟨m, hm⟩ := k6; exact DataW.trod_lt m _ _ _ hm
  have k7 := h7
  have lt7 : ∀ x ∈ p7, x.block < W.heap.size := by obtain ⟨m, hm⟩ := k7; exact DataW.trod_lt m _ _ _ hm
  obtain ⟨fu0, hf0⟩ := h0
  obtain ⟨_, _, _, L0, S0, e0, R0, Z0⟩ := strRows (V := .slice a0 len0 cap0) (by simpa [Value.cells] using hf0)
  simp only [Value.slice.injEq] at e0
  obtain ⟨rfl, rfl, rfl⟩ := e0
  obtain ⟨fu1, hf1⟩ := h1
  obtain ⟨_, _, _, L1, S1, e1, R1, Z1⟩ := strRows (V := .slice a1 len1 cap1) (by simpa [Value.cells] using hf1)
  simp only [Value.slice.injEq] at e1
  obtain ⟨rfl, rfl, rfl⟩ := e1
  obtain ⟨fu2, hf2⟩ := h2
  obtain ⟨_, _, _, L2, S2, e2, R2⟩ := intRows (V := .slice a2 len2 cap2) (by simpa [Value.cells] using hf2)
  simp only [Value.slice.injEq] at e2
  obtain ⟨rfl, rfl, rfl⟩ := e2
  obtain ⟨fu3, hf3⟩ := h3
  obtain ⟨_, _, _, L3, S3, e3, R3⟩ := intRows (V := .slice a3 len3 cap3) (by simpa [Value.cells] using hf3)
  simp only [Value.slice.injEq] at e3
  obtain ⟨rfl, rfl, rfl⟩ := e3
  obtain ⟨fu4, hf4⟩ := h4
  obtain ⟨_, _, _, L4, S4, e4, R4⟩ := intRows (V := .slice a4 len4 cap4) (by simpa [Value.cells] using hf4)
  simp only [Value.slice.injEq] at e4
  obtain ⟨rfl, rfl, rfl⟩ := e4
  obtain ⟨fu5, hf5⟩ := h5
  obtain ⟨_, _, _, L5, S5, e5, R5⟩ := intRows (V := .slice a5 len5 cap5) (by simpa [Value.cells] using hf5)
  simp only [Value.slice.injEq] at e5
  obtain ⟨rfl, rfl, rfl⟩ := e5
  obtain ⟨fu6, hf6⟩ := h6
  obtain ⟨_, _, _, L6, S6, e6, R6⟩ := intRows (V := .slice a6 len6 cap6) (by simpa [Value.cells] using hf6)
  simp only [Value.slice.injEq] at e6
  obtain ⟨rfl, rfl, rfl⟩ := e6
  obtain ⟨fu7, hf7⟩ := h7
  obtain ⟨_, _, _, S7, e7, R7⟩ := u8Row (V := .slice a7 len7 cap7) (by simpa [Value.cells] using hf7)
  simp only [Value.slice.injEq] at e7
  obtain ⟨rfl, rfl, rfl⟩ := e7
  clear hA0 hval0
  refine (main_walk a0 a1 a2 a3 a4 a5 a6 a7 len0 len1 len2 len3 len4 len5 len6 len7 cap0 cap1 cap2 cap3 cap4 cap5 cap6 cap7 L0 L1 L2 L3 L4 L5 L6 S0 S1 S2 S3 S4 S5 S6 S7 W R0 R1 R2 R3 R4 R5 R6 R7 Z0 Z1).mono fun e W' ⟨he, bel⟩ => ?_
  subst he
  exact ⟨_, rfl, _, _, _, [], _, [], hW', trodAll_mk1 (shut_bool Try.underlying4 _), (trodAll_cons_mk (Below.trod laidOut (by kernel_rfl) (of_decide_eq_true (by kernel_rfl)) k0 bel lt0) (trodAll_cons_mk (Below.trod laidOut (by kernel_rfl) (of_decide_eq_true (by kernel_rfl)) k1 bel lt1) (trodAll_cons_mk (Below.trod laidOut (by kernel_rfl) (of_decide_eq_true (by kernel_rfl)) k2 bel lt2) (trodAll_cons_mk (Below.trod laidOut (by kernel_rfl) (of_decide_eq_true (by kernel_rfl)) k3 bel lt3) (trodAll_cons_mk (Below.trod laidOut (by kernel_rfl) (of_decide_eq_true (by kernel_rfl)) k4 bel lt4) (trodAll_cons_mk (Below.trod laidOut (by kernel_rfl) (of_decide_eq_true (by kernel_rfl)) k5 bel lt5) (trodAll_cons_mk (Below.trod laidOut (by kernel_rfl) (of_decide_eq_true (by kernel_rfl)) k6 bel lt6) (trodAll_cons_mk (Below.trod laidOut (by kernel_rfl) (of_decide_eq_true (by kernel_rfl)) k7 bel lt7) trodAll_mk0)))))))), rfl, bel.frame _, fun h => by cases h⟩

theorem over : Rows.fnSettleTwiceIsSettleOnceRow.holds Try.pinned (OpenSpec.ofChange Rows.fnSettleTwiceIsSettleOnceSpec) :=
  OpenClaim.holds_of_wide 6 Try.f6 rfl rfl rfl rfl rfl rfl rfl ⟨rfl, rfl, rfl, rfl, rfl⟩ rfl rfl rfl rfl rfl (by kernel_rfl) Try.func6 closedAll
    (of_decide_eq_true (by kernel_rfl)) (by unfold Func.isWrapper; rw [if_neg (by decide +kernel)]; exact ⟨rfl, rfl⟩)
    (fun os started H enc _ => lifted os started H enc)

theorem settleTwiceIsSettleOnce : Rows.FnSettleTwiceIsSettleOnceSaid := over
#print axioms settleTwiceIsSettleOnce
end Go.Proofs.Qxb6602594a
