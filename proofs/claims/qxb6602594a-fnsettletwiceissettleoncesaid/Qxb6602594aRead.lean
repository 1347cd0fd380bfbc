import Derived.Test.Qxb6602594aNewT
namespace Go.Proofs.Qxb6602594a
open Go.RowKit Go.Maps

set_option maxHeartbeats 1000000 in
theorem zzSettle (B : Nat) (w : World) (hb lb : Nat) (ov av : Nat → Value) (mb : Nat → Nat) (tv : Value) (H : Hi) (m : Nat) (hG : Good H m) (hm : m + sumTo (fun i => (H.ls i).order.length) H.n ≤ 100000000)
    (h : Rep B w hb ⟨tv, lb, ov, av, mb, H.n⟩ H) :
    Calls Try.prog 22 #[.pointer (some ⟨hb, 0, none⟩)] w (Left B w hb lb ov mb H.n (outer H H.n)) := by
  have HC := Hid.mk (settle_walk B w hb lb ov av mb tv H m hG hm h)
  clear hG hm h
  go_enter Try.func22, Try.ntmps22
  go_wp2_with fail
  refine HC.out.mono ?_
  rintro e w' ⟨rfl, h⟩
  go_wp2
  go_end0
  exact ⟨rfl, h⟩

set_option maxHeartbeats 1000000 in
theorem zzSizes (B : Nat) (w : World) (hb : Nat) (Y : Lay) (H : Hi) (h : Rep B w hb Y H) :
    Calls Try.prog 23 #[.pointer (some ⟨hb, 0, none⟩)] w fun e w' => e = .returned (.tuple #[.int .i64 Y.N, .int .i64 H.txs.length]) ∧ ∃ m, w' = w.drewN m := by
  obtain ⟨c1, c2, _, _⟩ := h.head
  obtain ⟨tr, etr, T⟩ := h.txs
  have el : tr.length = H.txs.length := by rw [← etr]; simp
  obtain ⟨ta, tc, htv⟩ := ownsRow_shape T.row
  rw [htv, el] at c1
  clear htv el T etr h
  go_enter Try.func23, Try.ntmps23
  go_wp2
  go_quiet (fail)
  go_wp2
  go_ret2
  exact ⟨rfl, _, rfl⟩

set_option maxHeartbeats 1000000 in
theorem zzIndex (B : Nat) (w : World) (hb : Nat) (Y : Lay) (H : Hi) (h : Rep B w hb Y H) (l : Nat) (hl : l < H.n) (hn : H.n = Y.N) (v : ByteArray) (hv : v.size ≤ maxLen) :
    Calls Try.prog 28 #[.pointer (some ⟨hb, 0, none⟩), .int .i64 l, .string v] w fun e w' => e = .returned (.tuple #[.int .i32 (atInt (H.ls l).idx v), .bool (Maps.has (H.ls l).idx (key v))]) ∧ w' = w := by
  obtain ⟨c1, c2, _, _⟩ := h.head
  obtain ⟨_, _, p4, _, _⟩ := h.list hl
  have hlk := h.look hl v hv
  rw [hn] at hl
  clear h hn c1
  generalize atInt (H.ls l).idx v = c at *
  generalize Maps.has (H.ls l).idx (key v) = b at *
  go_enter Try.func28, Try.ntmps28
  go_wp2
  go_ret2
  exact ⟨rfl, rfl⟩

set_option maxHeartbeats 1000000 in
theorem zzIndexLen (B : Nat) (w : World) (hb : Nat) (Y : Lay) (H : Hi) (h : Rep B w hb Y H) (l : Nat) (hl : l < H.n) (hn : H.n = Y.N) :
    Calls Try.prog 29 #[.pointer (some ⟨hb, 0, none⟩), .int .i64 l] w fun e w' => e = .returned (.int .i64 (Maps.size (H.ls l).idx)) ∧ w' = w := by
  obtain ⟨c1, c2, _, _⟩ := h.head
  obtain ⟨_, _, p4, _, _⟩ := h.list hl
  have hlen := (h.each l hl).idx.len Try.underlying72
  rw [hn] at hl
  clear h hn c1
  generalize Maps.size (H.ls l).idx = c at *
  go_enter Try.func29, Try.ntmps29
  go_wp2
  go_ret
  exact ⟨rfl, rfl⟩

set_option maxHeartbeats 1000000 in
theorem zzOrder (B : Nat) (w : World) (hb : Nat) (Y : Lay) (H : Hi) (h : Rep B w hb Y H) (l : Nat) (hl : l < H.n) (hn : H.n = Y.N) (ho : (H.ls l).order.length ≤ 100000000) :
    Calls Try.prog 26 #[.pointer (some ⟨hb, 0, none⟩), .int .i64 l] w (Cloned w (H.ls l).order.length (fun i => .string ((H.ls l).order.getD i ByteArray.empty))) := by
  obtain ⟨i9, i9h, i9z, i9s, i9b⟩ := info_parts Try.info9
  obtain ⟨c1, c2, _, _⟩ := h.head
  obtain ⟨p1, _, _, _, _⟩ := h.list hl
  have O := (h.each l hl).ord
  obtain ⟨oa, oc, hov⟩ := ownsRow_shape O
  rw [hov] at p1 O
  have HNone : Hid (oa = none → (H.ls l).order.length = 0) := by
    intro e
    rcases O.2 with ⟨_, h0⟩ | ⟨g, cap, cur, hv, _⟩
    · exact h0
    · rw [e] at hv; cases hv
  have HNews : Hid (∀ ad, oa = some ad → ∀ j u, ((H.ls l).order.map Value.string)[j]? = some u → w.cell? (ad.add j) = some u) := by
    intro ad e j u hj
    rcases O.2 with ⟨hv, h0⟩ | ⟨g, cap, cur, hv, _⟩
    · rw [e] at hv; cases hv
    · rw [e] at hv
      simp only [Value.slice.injEq, Option.some.injEq] at hv
      rw [hv.1]
      exact O.cells (g := g) (by rw [e, hv.1]; rfl) j u hj
  have HOne : Hid (∀ u ∈ (H.ls l).order.map Value.string, u.oneCell' = true) := by
    intro u hu
    obtain ⟨s, _, rfl⟩ := List.mem_map.1 hu
    rfl
  have HLen : Hid (((H.ls l).order.map Value.string).length = (H.ls l).order.length * 1) := by show _ = _; simp
  rw [hn] at hl
  have I1 := Hid.mk i9h
  have I2 := Hid.mk i9z
  have I3 := Hid.mk i9s
  have I4 := Hid.mk i9b
  clear h hn c1 O hov i9h i9z i9s i9b
  go_enter Try.func26, Try.ntmps26
  go_wp2_with (at_builtin; refine wpList_append_nil_any _ rfl (.const (.slice none 0 0)) (.tmp 12) 23 rfl w.heap.size 9 i9 _ 1 16 Try.underlying23 I1.out I2.out I3.out I4.out rfl (by decide) rfl oa (H.ls l).order.length oc ((H.ls l).order.map .string) rfl HLen.out HNone.out HNews.out HOne.out (by unfold maxLen; omega) (by omega) (Nat.le_refl _) ?_; intro v1 w2 hown1 hg1; obtain ⟨a1, ca1, hv1⟩ := ownsRow_shape hown1; rw [hv1] at hown1 ⊢; clear hv1)
  go_ret
  refine ⟨a1, ca1, rfl, ?_, below_of_grown hg1 (Nat.le_refl _) (fun _ e => by cases e)⟩
  intro i hi
  rcases hown1.2 with ⟨_, h0⟩ | ⟨g, cap, cur, hv, hBg, hgg, _⟩
  · omega
  · simp only [Value.slice.injEq] at hv
    obtain ⟨rfl, _, rfl⟩ := hv
    refine ⟨g, 0, rfl, hBg, (Array.getElem?_eq_some_iff.1 hgg).1, ?_⟩
    rw [Nat.zero_add, hown1.cellAt i (by omega), List.getElem?_map, List.getElem?_eq_getElem hi]
    simp [hi]
end Go.Proofs.Qxb6602594a
