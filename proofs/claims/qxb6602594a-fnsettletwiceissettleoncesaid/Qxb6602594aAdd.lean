import Derived.Test.Qxb6602594aRep
import Derived.Deep.RegionLaw
import Derived.Deep.AppendLies
namespace Go.Proofs.Qxb6602594a
open Go.RowKit Go.Maps

theorem Try.info81 : (Try.prog.info? 81).map (fun i => (i.zero, i.size, i.bytes)) = some (some (.agg #[.int .i32 0, .int .u64 0, .int .i64 0, .int .i64 0, .int .u8 0, .slice none 0 0, .slice none 0 0, .bool false, .bool false, .int .i64 0]), 10, 104) := by kernel_rfl

/-- append onto an owned row, as one step of a region that draws -/
theorem step_append_own_at {P : Program} {ops : Array Oper} {o : Oper} {a : Act} {w : World} {K : Act → World → Prop} {Q : Exit → Act → World → Prop} {E : Prop}
    (hg : o.guard = none) (s x : Operand) (t : TypeId) (hop : o.op = Op.call { callee := Callee.builtin Builtin.append, args := #[s, x], argTypes := #[t, t] })
    (base : Nat) (e : TypeId) (i : TypeInfo) (z : Value) (size bytes : Nat) (ht : P.underlying t = some (.slice e)) (hi : P.info? e = some i) (hz : i.zero = some z)
    (hsize : i.size = size) (hby : i.bytes = bytes) (hzs : z.cells.size = size) (hsz : 0 < size)
    (v : Value) (n : Nat) (xs : List Value) (hs : a.eval s = v) (hown : w.ownsRow base e size v n xs)
    (ad : Addr) (m c : Nat) (news : List Value) (hx : a.eval x = .slice (some ad) m c) (hl : news.length = m * size) (hnews : ∀ j u, news[j]? = some u → w.cell? (ad.add j) = some u) (h1 : ∀ u ∈ news, u.oneCell' = true)
    (h63 : n + m ≤ maxLen) (hbytes : (n + m) * bytes ≤ 140737488355328) (hbase : base ≤ w.heap.size)
    (hK : ∀ v' w', w'.ownsRow base e size v' (n + m) (xs ++ news) → w.grownBy w' v.ownBlock → (v' = .slice none 0 0 ↔ v = .slice none 0 0 ∧ m = 0) → (v'.ownBlock = v.ownBlock ∨ v'.ownBlock = some w.heap.size) → K (a.put o.dst v') w') :
    if Region.wanted o (yielded ops a.tmps) = true then Oper.wp P o a w K Q else E := by
  have hw : Region.wanted o (yielded ops a.tmps) = true := by simp [Region.wanted, hg]
  rw [if_pos hw]
  obtain ⟨v', w', hr, h2, h3, h4, h5⟩ := run_append_own_at (P := P) w base t o.type e i z size bytes ht hi hz hsize hby hzs hsz v n xs hown ad m c news hl hnews h1 h63 hbytes hbase
  unfold Oper.wp execOp
  simp only [hop, resolve, invoke, builtin, Sem.run_bind, Sem.run_pure, Result.andThen_ok, List.map_toArray, List.map_cons, List.map_nil, hs, hx, hr]
  exact hK v' w' h2 h3 h4 h5

theorem ownsRow_shape {w : World} {base : Nat} {e : TypeId} {size : Nat} {v : Value} {n : Nat} {xs : List Value} (h : w.ownsRow base e size v n xs) : ∃ a c, v = .slice a n c := by
  rcases h.2 with ⟨rfl, rfl⟩ | ⟨g, cap, cur, rfl, _⟩
  · exact ⟨_, _, rfl⟩
  · exact ⟨_, _, rfl⟩

/-- what add leaves -/
def Added (w : World) (hb B nT : Nat) (v : Value) (xs news : List Value) (e : Ending) (w' : World) : Prop :=
  e = .returned (.int .i32 nT) ∧ ∃ v' w1, w1.ownsRow B 81 10 v' (nT + 1) (xs ++ news) ∧ w.grownBy w1 v.ownBlock ∧ (v'.ownBlock = v.ownBlock ∨ ∃ g, v'.ownBlock = some g ∧ w.heap.size ≤ g) ∧ w' = w1.setCell ⟨hb, 1, none⟩ v'

theorem grownBy_two {w w' : World} {o1 o2 : Obj} {r : Option Nat} (h : ((w.alloc o1).alloc o2).grownBy w' r) : w.grownBy w' r :=
  ⟨h.os, h.tape, h.output, by have := h.size; simp at this; omega, fun k hk hr => by rw [h.block k (by simp; omega) hr, Below.heap_alloc _ _ _ (by simp; omega), Below.heap_alloc _ _ _ hk]⟩

theorem grownBy_two_drew {w w' : World} {o1 o2 : Obj} {r : Option Nat} (h : ((w.alloc o1).alloc o2).drew.grownBy w' r) : w.grownBy w' r :=
  grownBy_two (o1 := o1) (o2 := o2) ⟨h.os, h.tape, h.output, h.size, h.block⟩

theorem cell_kept {w w' : World} {r : Option Nat} (h : w.grownBy w' r) {a : Addr} (ha : a.block < w.heap.size) (hne : some a.block ≠ r) : w'.cell? a = w.cell? a ∧ w'.frozen? a = w.frozen? a :=
  ⟨World.cell?_of_block (h.block a.block ha hne), World.frozen?_of_block (h.block a.block ha hne)⟩

theorem own_two {w : World} {o1 o2 : Obj} {v v' : Value} (h : v'.ownBlock = v.ownBlock ∨ v'.ownBlock = some ((w.alloc o1).alloc o2).drew.heap.size) : v'.ownBlock = v.ownBlock ∨ ∃ g, v'.ownBlock = some g ∧ w.heap.size ≤ g := by
  rcases h with h | h
  · exact .inl h
  · refine .inr ⟨_, h, ?_⟩
    show w.heap.size ≤ ((w.alloc o1).alloc o2).heap.size
    simp
    omega

theorem new_cells (w : World) (l : List Value) (t : TypeId) {b : Nat} (hb : b = w.heap.size) : ∀ j u, l[j]? = some u → (w.alloc (.cells l.toArray t)).cell? ((⟨b, 0, none⟩ : Addr).add j) = some u := by
  intro j u hj
  subst hb
  have hadd : (⟨w.heap.size, 0, none⟩ : Addr).add j = ⟨w.heap.size, j, none⟩ := by unfold Addr.add; split <;> simp_all
  rw [hadd, cell_of_row _ _ j l.toArray t (0, 0) (heap_alloc_new w _)]
  simpa using hj

theorem new_cells_drew (w : World) (l : List Value) (t : TypeId) {b : Nat} (hb : b = w.heap.size) : ∀ j u, l[j]? = some u → (w.alloc (.cells l.toArray t)).drew.cell? ((⟨b, 0, none⟩ : Addr).add j) = some u := by
  intro j u hj
  have := new_cells w l t hb j u hj
  simpa [World.drew, World.cell?] using this

set_option maxHeartbeats 1000000 in
theorem add_walk (w : World) (hb B nT : Nat) (v : Value) (xs : List Value) (hhb : hb < w.heap.size) (hB : B ≤ w.heap.size) (hn : nT ≤ 1000000000)
    (hrow : w.ownsRow B 81 10 v nT xs) (hc : w.cell? ⟨hb, 1, none⟩ = some v) (hf : w.frozen? ⟨hb, 1, none⟩ = false) (hne : some hb ≠ v.ownBlock) :
    Calls Try.prog 46 #[.pointer (some ⟨hb, 0, none⟩), .agg #[.int .i32 (-1), .int .u64 0, .int .i64 0, .int .i64 0, .int .u8 4, .slice none 0 0, .slice none 0 0, .bool false, .bool false, .int .i64 0]] w
      (Added w hb B nT v xs (txCells (⟨-1, 4, []⟩, .slice none 0 0))) := by
  obtain ⟨i0, hi, hz0, hz1, hz2⟩ := info_parts Try.info81
  have HN := Hid.mk hne
  clear hne
  have HNEW := Hid.mk (new_cells_drew (w.alloc (.cells (txCells (⟨-1, 4, []⟩, .slice none 0 0)).toArray 81)) (txCells (⟨-1, 4, []⟩, .slice none 0 0)) 81 (b := w.heap.size + 1) (by simp))
  have HONE : Hid (∀ u ∈ txCells (⟨-1, 4, []⟩, .slice none 0 0), u.oneCell' = true) := by show ∀ u ∈ _, _; simp [txCells, Value.oneCell']
  go_enter Try.func46, Try.ntmps46
  go_wp2
  go_region_law (refine step_append_own_at rfl (.tmp 9) (.tmp 11) 70 rfl B 81 i0 _ 10 104 Try.underlying70 hi hz0 hz1 hz2 rfl (by decide) v nT xs (by simp [Act.eval]) (by exact (hrow.alloc _).alloc _) ⟨w.heap.size + 1, 0, none⟩ 1 1 (txCells (⟨-1, 4, []⟩, .slice none 0 0)) (by simp [Act.eval]) rfl ?zz1 ?zz2 (by unfold maxLen; omega) (by omega) (by simp; omega) ?_; (case zz1 => exact HNEW.out); (case zz2 => exact HONE.out); intro v' w1 hown' hgrow' hnil' hat'; clear hnil'; obtain ⟨a', c', hv'⟩ := ownsRow_shape hown'; rw [hv'] at hown' hat' ⊢; clear hv'; have hgrow := grownBy_two_drew hgrow'; have hcc := cell_kept (a := ⟨hb, 1, none⟩) hgrow hhb HN.out; rw [hc, hf] at hcc; obtain ⟨hc1, hf1⟩ := hcc; have HAT := Hid.mk (own_two hat'); have HOWN := Hid.mk hown'; have HGROW := Hid.mk hgrow; clear hat' hown' hgrow hgrow')
  all_goals go_wp2
  all_goals go_ret
  all_goals exact ⟨by go_num, _, w1, HOWN.out, HGROW.out, HAT.out, rfl⟩
end Go.Proofs.Qxb6602594a
