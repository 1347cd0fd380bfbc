import Derived.Test.Qxb6602994aRows
import Derived.Test.Qxb6602994aMain
import Derived.ProofKit
import Derived.OpenShut
import Derived.ShutString
import Derived.ChangeOld
import Derived.Deep.SlicePairs
namespace Go.Proofs.Qxb6602994a
open Go.ChangeShapes Go.WideShapes Go.ChangeAt Go.RowKit
open Go.Deep (open_slice_pairs choose_lt)
set_option linter.unusedVariables false

theorem own : ownKnob Try.prog.godebug = none := by kernel_rfl
theorem laidOut : laidOutB Try.prog = true := by kernel_rfl
theorem cells48 : Try.prog.cellsOf 48 = 2 := by kernel_rfl
theorem cells30 : Try.prog.cellsOf 30 = 1 := by kernel_rfl
theorem cells3 : Try.prog.cellsOf 3 = 1 := by kernel_rfl

theorem u64_of_wf {y : Int} (h : (Lit.int .u64 y).wf = true) : 0 ≤ y ∧ y < 18446744073709551616 := by
  simp [Lit.wf, IntKind.min, IntKind.max, IntKind.signed, IntKind.bits] at h
  omega

section
variable {H : Type} {enc : TypeId × Value → H} {W : World}

theorem pairs {fuel : Nat} {V : Value} {x : DataW H × List MemPlace} (h : DataW.trod enc Try.prog W 0 (fun _ => true) true fuel 38 [V] = some x) :
    ∃ (a : Option Addr) (n c : Nat) (Hs Ps : Nat → Int), V = .slice a n c ∧ Prs W a n Hs Ps ∧ ∀ i, i < n → 0 ≤ Hs i ∧ Hs i < 18446744073709551616 := by
  rcases open_slice_pairs Try.underlying38 Try.underlying48 cells48 rfl rfl cells30 cells3 h with ⟨hcs, _⟩ | ⟨a, n, c, m, f, V0, V1, D0, D1, P0, P1, hcs, _, hl, _, hm, _, hx⟩
  · simp at hcs
    exact ⟨none, 0, 0, fun _ => 0, fun _ => 0, hcs, fun i hi => by omega, fun i hi => by omega⟩
  · simp at hcs
    simp only [if_true] at hm
    have each : ∀ i, i < n → ∃ q : Int × Int, W.cell? (a.add (i * 2)) = some (.int .u64 q.1) ∧ W.cell? (a.add (i * 2 + 1)) = some (.int .i64 q.2) ∧ 0 ≤ q.1 ∧ q.1 < 18446744073709551616 := by
      intro i hi
      obtain ⟨h1, h2, h3, h4⟩ := hx i (by omega)
      obtain ⟨z0, e0, _, g0⟩ := DataW.trod_int Try.underlying30 h3
      obtain ⟨z1, e1, _, g1⟩ := DataW.trod_int Try.underlying3 h4
      simp only [List.cons.injEq, and_true] at e0 e1
      exact ⟨(z0, z1), by rw [h1, e0], by rw [h2, e1], u64_of_wf g0⟩
    obtain ⟨q, hq⟩ := choose_lt each
    refine ⟨some a, n, c, fun i => (q i).1, fun i => (q i).2, hcs, fun i hi => ?_, fun i hi => (hq i hi).2.2⟩
    obtain ⟨h1, h2, _⟩ := hq i hi
    obtain ⟨b, off, spot⟩ := a
    have hspot : spot = none := by
      have := World.cell?_spot (hq 0 (by omega)).1
      simpa [Addr.add] using this
    subst hspot
    rw [Go.WideShapes.add_plain] at h1 h2
    exact ⟨b, off, rfl, World.block_lt_of_cell? _ _ h1, h1, h2⟩
end

set_option maxRecDepth 100000 in
set_option maxHeartbeats 2000000 in
theorem lifted9 (os : Os) (started : os.Started) (H : Type) (enc : TypeId × Value → H) :
    ReturnsInHanded {} Try.checked os 9 .any (Rows.fnReserveForNoMoreChangesNothingSpec.pre6 enc Try.prog Try.f9 Rows.fnReserveForNoMoreChangesNothingRow.domain false) (Rows.fnReserveForNoMoreChangesNothingSpec.post enc Try.prog Try.f9 false true false false) := by
  refine returnsInHanded_of_change (C := Try.checked) own started (by kernel_rfl) Try.func9
    (ChangeSpec.witness6 (enc := enc) (C := Try.checked) false ⟨#[], #[.slice none 0 0, .int .i64 0, .int .i64 0, .int .i64 0, .int .i64 0], []⟩ 8 (by kernel_rfl) (by kernel_rfl) (by kernel_rfl) (by kernel_rfl)) ?_
  intro W base args ds gs before hval0 hW hcnd _
  have hval : ∀ (j : Nat) t v, Try.f9.params[j]? = some t → args[j]? = some v → Value.okWide Try.prog W .any base t v := hval0
  have hW' := hW
  obtain ⟨p, q, hA0, hV, rfl, hfz, hnd⟩ := hW
  have hA : DataW.TrodAll enc Try.prog W 0 (fun _ => true) true Try.f9.params.toList args.toList ds p := hA0
  rw [Try.params9] at hA hval
  obtain ⟨v0, vs0, d0, ds0, p0, q0, hargs, rfl, rfl, h0, r0⟩ := trodAll_cons hA
  obtain ⟨v1, vs1, d1, ds1, p1, q1, rfl, rfl, rfl, h1, r1⟩ := trodAll_cons r0
  obtain ⟨v2, vs2, d2, ds2, p2, q2, rfl, rfl, rfl, h2, r2⟩ := trodAll_cons r1
  obtain ⟨v3, vs3, d3, ds3, p3, q3, rfl, rfl, rfl, h3, r3⟩ := trodAll_cons r2
  obtain ⟨v4, vs4, d4, ds4, p4, q4, rfl, rfl, rfl, h4, r4⟩ := trodAll_cons r3
  obtain ⟨rfl, rfl, rfl⟩ := trodAll_nil r4
  obtain rfl : args = #[v0, v1, v2, v3, v4] := by cases args; simp_all
  obtain ⟨rfl, rfl⟩ := trodVars_none hV
  obtain ⟨a0, len0, cap0, rfl⟩ := okWide_slice Try.underlying38 (hval 0 38 v0 rfl rfl)
  obtain ⟨z1, rfl⟩ := okWide_int Try.underlying3 (hval 1 3 v1 rfl rfl)
  obtain ⟨z2, rfl⟩ := okWide_int Try.underlying3 (hval 2 3 v2 rfl rfl)
  obtain ⟨z3, rfl⟩ := okWide_int Try.underlying3 (hval 3 3 v3 rfl rfl)
  obtain ⟨z4, rfl⟩ := okWide_int Try.underlying3 (hval 4 3 v4 rfl rfl)
  have k0 := h0
  have lt0 : ∀ x ∈ p0, x.block < W.heap.size := by obtain ⟨m, hm⟩ := k0; exact DataW.trod_lt m _ _ _ hm
  have k1 := h1
  have lt1 : ∀ x ∈ p1, x.block < W.heap.size := by obtain ⟨m, hm⟩ := k1; exact DataW.trod_lt m _ _ _ hm
  have k2 := h2
  have lt2 : ∀ x ∈ p2, x.block < W.heap.size := by obtain ⟨m, hm⟩ := k2; exact DataW.trod_lt m _ _ _ hm
  have k3 := h3
  have lt3 : ∀ x ∈ p3, x.block < W.heap.size := by obtain ⟨m, hm⟩ := k3; exact DataW.trod_lt m _ _ _ hm
  have k4 := h4
  have lt4 : ∀ x ∈ p4, x.block < W.heap.size := by obtain ⟨m, hm⟩ := k4; exact DataW.trod_lt m _ _ _ hm
  obtain ⟨fu0, hf0⟩ := h0
  obtain ⟨_, _, _, Hs, Ps, e0, R0, G0⟩ := pairs (V := .slice a0 len0 cap0) (by simpa [Value.cells] using hf0)
  simp only [Value.slice.injEq] at e0
  obtain ⟨rfl, rfl, rfl⟩ := e0
  clear hA0 hval0
  refine (main9 a0 len0 cap0 Hs Ps z1 z2 z3 z4 W R0 G0).mono fun e W' ⟨he, bel⟩ => ?_
  subst he
  exact ⟨_, rfl, _, _, _, [], _, [], hW', trodAll_mk1 (shut_bool Try.underlying4 _), (trodAll_cons_mk (Below.trod laidOut (by kernel_rfl) (of_decide_eq_true (by kernel_rfl)) k0 bel lt0) (trodAll_cons_mk (Below.trod laidOut (by kernel_rfl) (of_decide_eq_true (by kernel_rfl)) k1 bel lt1) (trodAll_cons_mk (Below.trod laidOut (by kernel_rfl) (of_decide_eq_true (by kernel_rfl)) k2 bel lt2) (trodAll_cons_mk (Below.trod laidOut (by kernel_rfl) (of_decide_eq_true (by kernel_rfl)) k3 bel lt3) (trodAll_cons_mk (Below.trod laidOut (by kernel_rfl) (of_decide_eq_true (by kernel_rfl)) k4 bel lt4) trodAll_mk0))))), rfl, bel.frame _, fun h => by cases h⟩
end Go.Proofs.Qxb6602994a
