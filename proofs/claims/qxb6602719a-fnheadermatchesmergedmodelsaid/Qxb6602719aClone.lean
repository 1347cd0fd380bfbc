import Derived.Test.Qxb6602719aBase
import Derived.Laws.CopyOwn
import Derived.OwnWalk
import Derived.Deep.Heap
namespace Go.Proofs.Qxb6602719a
open Go.RowKit

theorem splice_all {α : Type} (L cs : List α) (h : L.length = cs.length) : splice L 0 cs = cs := by
  unfold splice
  rw [List.take_zero, List.nil_append, Nat.zero_add, ← h, List.drop_length, List.append_nil]

set_option maxHeartbeats 1000000 in
theorem cloneStrings (a : Option Addr) (c n : Nat) (z : Nat → ByteArray) (w : World) (hn : n ≤ 1048576) (h : Row w a n (fun i => .string (z i))) :
    Calls Try.prog 16 #[.slice a n c] w (Cloned w n (fun i => .string (z i))) := by
  have heq := fun w' a => Lib.run_eql_slice_nil (P := Try.prog) w' 33 9 a n c 0 0 Try.underlying33
  have hmk := run_make_row' (P := Try.prog) 33 9 (.string ByteArray.empty) 16 Try.underlying33 Try.info9 rfl .i64 .i64 n (by omega) (by omega)
  cases a with
  | none =>
    have := h.zero
    subst this
    go_enter Try.func16, Try.ntmps16
    go_wp2
    go_ret
    exact ⟨none, 0, rfl, fun i hi => by omega, Below.refl _ _⟩
  | some x =>
    obtain ⟨cs, hcs⟩ : ∃ cs : List Value, cs = (List.range n).map (fun i => .string (z i)) := ⟨_, rfl⟩
    have hlen : cs.length = n := by rw [hcs]; simp
    have hget : ∀ i, i < n → cs[i]? = some (.string (z i)) := fun i hi => by rw [hcs]; simp [hi]
    have hone : ∀ v ∈ cs, v.oneCell' = true := fun v hv => by
      rw [hcs] at hv
      obtain ⟨i, _, rfl⟩ := List.mem_map.1 hv
      rfl
    have hsz : (Try.prog.info? 9).map (·.size) = some 1 := by kernel_rfl
    clear hcs
    have hblk : (w.alloc (.cells (madeCells #[.string ByteArray.empty] n) 9)).heap[w.heap.size]? = some (.cells (madeCells #[.string ByteArray.empty] n).toList.toArray 9 (0, 0)) := by
      rw [Array.toArray_toList]; exact Deep.blk_alloc_new _ _
    have hbel : Below w.heap.size w (w.alloc (.cells (madeCells #[.string ByteArray.empty] n) 9)) := (Below.refl _ _).alloc (Nat.le_refl _) _
    have hcl : (madeCells #[.string ByteArray.empty] n).toList.length = n := by rw [Array.length_toList]; exact size_madeCells _ _
    have hpos : ∀ j v, cs[j]? = some v → (w.alloc (.cells (madeCells #[.string ByteArray.empty] n) 9)).cell? (x.add j) = some v := fun j v hv => by
      have hj : j < n := by rw [← hlen]; exact (List.getElem?_eq_some_iff.1 hv).1
      obtain ⟨b, off, e, hb, hc⟩ := h j hj
      rw [hget j hj] at hv
      simp only [Option.some.injEq] at e
      subst e
      rw [← hv, show Addr.add ⟨b, off, none⟩ j = ⟨b, off + j, none⟩ from by unfold Addr.add; split <;> simp_all]
      exact (hbel.cell (p := ⟨b, off + j, none⟩) hb).trans hc
    have HF : Hid (splice (madeCells #[.string ByteArray.empty] n).toList 0 cs = cs) := splice_all _ _ (hcl.trans hlen.symm)
    have H1 := Hid.mk hblk
    have H2 := Hid.mk hbel
    have H3 := Hid.mk hcl
    have H4 := Hid.mk hpos
    have H5 := Hid.mk hone
    have H6 := Hid.mk hget
    have H7 := Hid.mk hlen
    have H8 := Hid.mk hsz
    clear hblk hbel hcl hpos hone hget hlen hsz h
    go_enter Try.func16, Try.ntmps16
    go_wp2_with (refine wpList_copy_splice rfl (.tmp 9) (.tmp 10) 33 33 rfl 9 Try.underlying33 H8.out (some ⟨w.heap.size, 0, none⟩) (some x) n n n c rfl rfl w.heap.size 0 _ 9 H1.out cs (by rw [H7.out]; exact (Nat.min_self n).symm) (fun _ => ⟨rfl, x, rfl, H4.out⟩) (by rw [H3.out, H7.out]; omega) H5.out w.heap.size w H2.out (Nat.le_refl _) ?_; intro w2 HG2 hB2)
    rw [HF.out] at HG2
    have R : Hid (RowGe w2 w.heap.size (some ⟨w.heap.size, 0, none⟩) n (fun i => .string (z i))) := by
      have hr : w2.rowIs w.heap.size 9 n (fun i => .string (z i)) := ⟨_, HG2.out, by simpa using H7.out, fun i hi => by rw [List.getElem?_toArray]; exact H6.out i hi⟩
      exact Row.of_rowIs hr (fun i hi => rfl)
    have R2 := Hid.mk hB2
    clear HG2 hB2
    go_wp2
    go_ret
    exact ⟨_, _, rfl, R.out, R2.out⟩
end Go.Proofs.Qxb6602719a
