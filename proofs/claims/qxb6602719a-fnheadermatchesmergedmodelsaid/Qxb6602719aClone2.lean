import Derived.Test.Qxb6602719aClone
namespace Go.Proofs.Qxb6602719a
open Go.RowKit

set_option maxHeartbeats 1000000 in
theorem cloneVals (a : Option Addr) (c n : Nat) (L : Nat → Nat) (S : Nat → Nat → ByteArray) (w : World) (hn : n ≤ 1048576) (hL : ∀ i, i < n → L i ≤ 1048576) (h : Rows2 w a n L (fun i j => .string (S i j))) :
    Calls Try.prog 17 #[.slice a n c] w (Cloned2 w n L (fun i j => .string (S i j))) := by
  have heq := fun w' a => Lib.run_eql_slice_nil (P := Try.prog) w' 34 33 a n c 0 0 Try.underlying34
  have hmk := run_make_row' (P := Try.prog) 34 33 (.slice none 0 0) 24 Try.underlying34 Try.info33 rfl .i64 .i64 n (by omega) (by omega)
  cases a with
  | none =>
    have : n = 0 := by
      cases n with
      | zero => rfl
      | succ n => obtain ⟨_, _, _, _, e, _⟩ := h 0 (by omega); cases e
    subst this
    go_enter Try.func17, Try.ntmps17
    go_wp2
    go_ret
    exact ⟨none, 0, rfl, fun i hi => by omega, Below.refl _ _⟩
  | some x =>
    go_enter Try.func17, Try.ntmps17
    go_wp2
    clear heq hmk
    go_loopw [4] (fun i wr => ∃ (k : Nat) (g : Nat → Value), k ≤ n ∧ i = .int .i64 k ∧ wr.rowIs w.heap.size 33 n g ∧ (∀ i, i < k → ∃ ai ci, g i = .slice ai (L i) ci ∧ RowGe wr (w.heap.size + 1) ai (L i) (fun j => .string (S i j))) ∧ Below w.heap.size w wr) (fun i _ => n - (intOf i).toNat)
    case atStart => exact ⟨0, _, by omega, rfl, World.rowIs_made w _ n 33, fun j hj => by omega, (Below.refl _ _).alloc (Nat.le_refl _) _⟩
    case round =>
      obtain ⟨k, g, hk, rfl, hrow, hg, hbel⟩ := hrel
      by_cases hlt : k < n
      · obtain ⟨b, off, ak, ck, e, hb, hc, hr⟩ := h k hlt
        simp only [Option.some.injEq] at e
        subst e
        have hc' := (hbel.cell (p := ⟨b, off + k, none⟩) hb).trans hc
        have hr' := Hid.mk (hr.below hbel (Nat.le_refl _))
        have HR := Hid.mk hrow
        have HB := Hid.mk hbel
        have HG := Hid.mk hg
        have HL := hL k hlt
        have H := Hid.mk h
        clear hrow hbel hg h hc hr hL
        go_wp2_with fail
        refine (cloneStrings ak ck (L k) (S k) wr HL hr'.out).mono ?_
        rintro e w1 ⟨a1, c1, rfl, hcl, hb1⟩
        have hsz : w.heap.size < wr.heap.size := HR.out.lt
        have hrow := HR.out.of_block (hb1.block w.heap.size hsz)
        have hd := hrow.cell hlt
        have hf := hrow.frozen k
        have R1 := Hid.mk (hrow.set k (.slice a1 (L k) c1))
        have R2 := Hid.mk ((HB.out.trans (hb1.mono (Nat.le_of_lt hsz))).setCell (p := ⟨w.heap.size, k, none⟩) (Nat.le_refl _) (.slice a1 (L k) c1))
        have R3 : Hid (∀ i, i < k + 1 → ∃ ai ci, (if i = k then .slice a1 (L k) c1 else g i) = Value.slice ai (L i) ci ∧ RowGe (w1.setCell ⟨w.heap.size, k, none⟩ (.slice a1 (L k) c1)) (w.heap.size + 1) ai (L i) (fun j => .string (S i j))) := by
          intro i hi
          by_cases e : i = k
          · subst e
            exact ⟨a1, c1, by simp, (hcl.mono hsz).setCell (by simp) _⟩
          · obtain ⟨ai, ci, e1, e2⟩ := HG.out i (by omega)
            exact ⟨ai, ci, by rw [if_neg e]; exact e1, (e2.below hb1 (Nat.le_refl _)).setCell (by simp) _⟩
        clear hrow hcl hb1 HR HB HG hr' HL hc'
        go_wp2
        go_roundw
        case rel => exact ⟨k + 1, _, by omega, by go_num, R1.out, R3.out, R2.out⟩
        case measure => simp [intOf]; omega
      · have e : k = n := by omega
        subst e
        have R : Hid (Rows2 wr (some ⟨w.heap.size, 0, none⟩) k L (fun i j => .string (S i j))) := by
          intro i hi
          obtain ⟨ai, ci, e1, e2⟩ := hg i hi
          exact ⟨w.heap.size, 0, ai, ci, rfl, hrow.lt, by rw [Nat.zero_add, hrow.cell hi, e1], e2.row⟩
        have R2 := Hid.mk hbel
        clear hrow hg hbel h
        go_wp2
        go_ret
        exact ⟨_, _, rfl, R.out, R2.out⟩

end Go.Proofs.Qxb6602719a
