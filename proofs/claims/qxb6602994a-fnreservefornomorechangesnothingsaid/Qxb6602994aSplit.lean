import Derived.Test.Qxb6602994aBase
namespace Go.Proofs.Qxb6602994a
open Go.RowKit

/-- a row of hashes and a row of positions came back -/
def Split (w : World) (n : Nat) (Hs Ps : Nat → Int) (e : Ending) (w' : World) : Prop :=
  ∃ a1 c1 a2 c2, e = .returned (.tuple #[.slice a1 n c1, .slice a2 n c2]) ∧ Row w' a1 n (fun i => .int .u64 (Hs i)) ∧ Row w' a2 n (fun i => .int .i64 (Ps i)) ∧ Below w.heap.size w w'

set_option maxHeartbeats 1000000 in
theorem splitSlots (a : Option Addr) (n c : Nat) (Hs Ps : Nat → Int) (w : World) (hn : n ≤ 1048576) (h : Prs w a n Hs Ps) : Calls Try.prog 24 #[.slice a n c] w (Split w n Hs Ps) := by
  have heq := fun w' a => Lib.run_eql_slice_nil (P := Try.prog) w' 38 48 a n c 0 0 Try.underlying38
  have hm1 := run_make_row' (P := Try.prog) 41 30 (.int .u64 0) 8 Try.underlying41 Try.info30 rfl .i64 .i64 n (by omega) (by omega)
  have hm2 := run_make_row' (P := Try.prog) 42 3 (.int .i64 0) 8 Try.underlying42 Try.info3 rfl .i64 .i64 n (by omega) (by omega)
  cases a with
  | none =>
    have := h.zero
    subst this
    go_enter Try.func24, Try.ntmps24
    go_wp2
    go_ret2
    exact ⟨none, 0, none, 0, rfl, fun i hi => by omega, fun i hi => by omega, Below.refl _ _⟩
  | some x =>
    go_enter Try.func24, Try.ntmps24
    go_wp2
    clear heq hm1 hm2
    go_loopw [6] (fun i wr => ∃ (k : Nat) (g1 g2 : Nat → Value), k ≤ n ∧ i = .int .i64 k ∧ wr.rowIs w.heap.size 30 n g1 ∧ wr.rowIs (w.heap.size + 1) 3 n g2 ∧ (∀ i, i < k → g1 i = .int .u64 (Hs i) ∧ g2 i = .int .i64 (Ps i)) ∧ Below w.heap.size w wr) (fun i _ => n - (intOf i).toNat)
    case atStart =>
      have h2 : ((w.alloc (.cells (madeCells #[.int .u64 0] n) 30)).alloc (.cells (madeCells #[.int .i64 0] n) 3)).rowIs (w.heap.size + 1) 3 n (fun _ => .int .i64 0) := by
        have := World.rowIs_made (w.alloc (.cells (madeCells #[.int .u64 0] n) 30)) (.int .i64 0) n 3
        simpa using this
      exact ⟨0, _, _, by omega, rfl, (World.rowIs_made w (.int .u64 0) n 30).alloc _, h2, fun j hj => by omega, ((Below.refl _ _).alloc (Nat.le_refl _) _).alloc (by simp) _⟩
    case round =>
      obtain ⟨k, g1, g2, hk, rfl, row1, row2, hg, hbel⟩ := hrel
      by_cases hlt : k < n
      · obtain ⟨b, off, e, hb, hc1, hc2⟩ := h k hlt
        simp only [Option.some.injEq] at e
        subst e
        have d1 := (hbel.cell (p := ⟨b, off + k * 2, none⟩) hb).trans hc1
        have d2 := (hbel.cell (p := ⟨b, off + k * 2 + 1, none⟩) hb).trans hc2
        have r1 := row1.cell hlt
        have f1 := row1.frozen k
        have s2 := row2.setOther (a := ⟨w.heap.size, k, none⟩) (by simp) (.int .u64 (Hs k))
        have s1 := row1.set k (.int .u64 (Hs k))
        have r2 := s2.cell hlt
        have f2 := s2.frozen k
        have b1 := hbel.setCell (p := ⟨w.heap.size, k, none⟩) (Nat.le_refl _) (.int .u64 (Hs k))
        have d3 := (b1.cell (p := ⟨b, off + k * 2 + 1, none⟩) hb).trans hc2
        have R1 := Hid.mk (s1.setOther (a := ⟨w.heap.size + 1, k, none⟩) (by simp) (.int .i64 (Ps k)))
        have R2 := Hid.mk (s2.set k (.int .i64 (Ps k)))
        have B2 := Hid.mk (b1.setCell (p := ⟨w.heap.size + 1, k, none⟩) (by simp) (.int .i64 (Ps k)))
        have R3 : Hid (∀ i, i < k + 1 → (if i = k then .int .u64 (Hs k) else g1 i) = Value.int .u64 (Hs i) ∧ (if i = k then .int .i64 (Ps k) else g2 i) = Value.int .i64 (Ps i)) := fun i hi => by
          by_cases e : i = k
          · subst e; simp
          · simp only [if_neg e]; exact hg i (by omega)
        have H := Hid.mk h
        clear row1 row2 hbel hg h hc1 hc2 s1 s2 b1 d2
        go_wp2
        go_roundw
        case rel => exact ⟨k + 1, _, _, by omega, by go_num, R1.out, R2.out, R3.out, B2.out⟩
        case measure => simp [intOf]; omega
      · have e : k = n := by omega
        subst e
        have R := Hid.mk (Row.of_rowIs row1 (fun i hi => (hg i hi).1)).row
        have R' := Hid.mk (Row.of_rowIs row2 (fun i hi => (hg i hi).2)).row
        have R2 := Hid.mk hbel
        clear row1 row2 hg hbel h
        go_wp2
        go_ret2
        exact ⟨_, _, _, _, rfl, R.out, R'.out, R2.out⟩
end Go.Proofs.Qxb6602994a
