import Derived.Test.Qxb6602894aIdx
namespace Go.Proofs.Qxb6602894a
open Go.RowKit Go.Maps

theorem map_ne_box {w : World} {b n bx : Nat} {D : DataW Value} {mv nv : Value} (h : w.ownsMap Try.prog 29 RH b n D) (hx : Box w bx mv nv) : bx ≠ b := by
  obtain ⟨es, clock, h1, _⟩ := h
  obtain ⟨c, h2, _⟩ := hx
  intro e
  rw [e, h1] at h2
  cases h2

theorem row_ne_box {w : World} {base k bx : Nat} {mv nv v : Value} {xs : List Value} (h : w.ownsRow base 21 1 v k xs) (hx : Box w bx mv nv) : v.ownBlock ≠ some bx := by
  obtain ⟨c, h2, _⟩ := hx
  rcases h.2 with ⟨rfl, _⟩ | ⟨g, cap, cur, rfl, _, hg, _⟩
  · simp [Value.ownBlock]
  · simp only [Value.ownBlock, ne_eq, Option.some.injEq]
    intro e
    rw [e, h2] at hg
    cases hg

theorem Box.kept {w w' : World} {bx : Nat} {mv nv : Value} {row : Option Nat} (h : Box w bx mv nv) (hg : w.grownBy w' row) (hne : some bx ≠ row) : Box w' bx mv nv :=
  World.rowIs.of_block h (hg.block bx (World.rowIs.lt h) hne)

theorem Box.c0 {w : World} {bx : Nat} {mv nv : Value} (h : Box w bx mv nv) : w.cell? ⟨bx, 0, none⟩ = some mv := World.rowIs.cell h (i := 0) (by omega)
theorem Box.c1 {w : World} {bx : Nat} {mv nv : Value} (h : Box w bx mv nv) : w.cell? ⟨bx, 1, none⟩ = some nv := World.rowIs.cell h (i := 1) (by omega)

theorem Box.set0 {w : World} {bx : Nat} {mv nv : Value} (h : Box w bx mv nv) (u : Value) : Box (w.setCell ⟨bx, 0, none⟩ u) bx u nv :=
  World.rowIs.congr (World.rowIs.set h 0 u) fun i _ => by by_cases e : i = 0 <;> simp [e]
theorem Box.set1 {w : World} {bx : Nat} {mv nv : Value} (h : Box w bx mv nv) (u : Value) : Box (w.setCell ⟨bx, 1, none⟩ u) bx mv u :=
  World.rowIs.congr (World.rowIs.set h 1 u) fun i hi => by
    by_cases e : i = 1
    · subst e; simp
    · have : i = 0 := by omega
      subst this; simp

section
variable {w w1 w4 : World} {bx base b k : Nat} {nv v' x : Value} {H : Nat → Int} {D : DataW Value}

/-- the box behind the append -/
theorem box4 (box1 : Box w1 bx (.map (some b)) nv) (row1 : w1.ownsRow base 21 1 nv k (nexts H k)) (hg4 : (w1.alloc (.cells #[x] 21)).grownBy w4 nv.ownBlock) : Box w4 bx (.map (some b)) nv :=
  Box.kept (World.rowIs.alloc box1 _) hg4 (fun e => row_ne_box row1 box1 e.symm)

theorem finish (hbx : base ≤ bx) (hbb : base ≤ b) (hB : base ≤ w1.heap.size) (box1 : Box w1 bx (.map (some b)) nv) (map1 : w1.ownsMap Try.prog 29 RH b (k + 1) D) (hD : MapOk H (k + 1) D) (row1 : w1.ownsRow base 21 1 nv k (nexts H k)) (bel1 : Below base w w1)
    (hown4 : w4.ownsRow base 21 1 v' (k + 1) (nexts H k ++ [.int .i32 (enc32 (lastB H k (H k)))])) (hg4 : (w1.alloc (.cells #[x] 21)).grownBy w4 nv.ownBlock) :
    Added w bx base H (k + 1) (.returned (.tuple #[])) (w4.setCell ⟨bx, 1, none⟩ v') := by
  have b4 := box4 box1 row1 hg4
  have m4 := (map1.alloc (.cells #[x] 21)).kept hg4 (fun e => map_ne_row map1 row1 e.symm)
  refine ⟨rfl, _, _, b4.set1 v', ⟨.some b D hbb (m4.setCell (fun e => map_ne_box map1 box1 e.symm) _) hD, ?_⟩, ?_⟩
  · rw [nexts_succ]
    exact ownsRow_setCell_other hown4 (row_ne_box hown4 b4) _
  · exact ((bel1.alloc hB _).grown hg4 (by simp; omega) (fun j hj => (row1.lt j hj).1)).setCell hbx _
end

set_option maxRecDepth 100000 in
set_option maxHeartbeats 1000000 in
theorem add_some (bx base b k : Nat) (nv : Value) (H : Nat → Int) (D : DataW Value) (w : World) (hbx : base ≤ bx) (hbb : base ≤ b) (hB : base ≤ w.heap.size) (hk : k ≤ 4096) (g0 : 0 ≤ H k) (g1 : H k < 18446744073709551616)
    (box : Box w bx (.map (some b)) nv) (map : w.ownsMap Try.prog 29 RH b k D) (hD : MapOk H k D) (row : w.ownsRow base 21 1 nv k (nexts H k)) :
    Calls Try.prog 18 #[.pointer (some ⟨bx, 0, none⟩), .int .u64 (H k), .int .i64 k] w (Added w bx base H (k + 1)) := by
  obtain ⟨v, hlook, hv⟩ := look map hD g0 g1
  obtain ⟨w1, hrun, ⟨D', map1, hD'⟩, hg1⟩ := map_step map hD hk g0 g1
  have box1 := box.kept hg1 (fun e => map_ne_box map box (by cases e; rfl))
  have row1 := row.kept hg1 (.inr (map_ne_row map row))
  have bel1 : Below base w w1 := (Below.refl _ _).grown hg1 hB (fun j hj => by cases hj; exact hbb)
  have c0 := box.c0
  have d0 := box1.c0
  have d1 := box1.c1
  have hB1 := bel1.size
  obtain ⟨an, cn, rfl⟩ := ownsRow_shape row
  have B1 := Hid.mk box1
  have R1 := Hid.mk row1
  have M1 := Hid.mk map1
  have D1 := Hid.mk hD'
  have L1 := Hid.mk bel1
  clear box1 row1 map1 hD' bel1 hg1 map hD row box
  obtain ⟨i0, hi, hz0, hz1, hz2⟩ := info_parts Try.info21
  have q25 : ∀ (w : World) (r : Option Nat), (binOp .eql 25 (.map r) (.map none)).run Try.prog w = .ok (.bool r.isNone) w := fun w r => run_eql_map_nil w _ _ _ r Try.underlying25
  cases hl : lastB H k (H k) with
  | none =>
    rw [hl] at hlook
    simp only [Option.isSome_none] at hlook
    have HL := Hid.mk hl
    clear hl hv
    go_enter Try.func18, Try.ntmps18
    go_wp2_with (at_builtin; refine wpList_append_own _ rfl _ _ 26 rfl base 21 i0 (.int .i32 0) 1 4 Try.underlying26 hi hz0 hz1 hz2 rfl (by decide) _ _ _ rfl (R1.out.alloc _) ⟨w1.heap.size, 0, none⟩ 1 1 [.int .i32 (-1)] rfl rfl (cell_one_new _ _ _) (by simp [Value.oneCell']) (by unfold maxLen; omega) (by omega) (by simp; omega) ?_; intro v4 w4 hown4 hg4 hnil4; clear hnil4; obtain ⟨a4, c4, rfl⟩ := ownsRow_shape hown4; have Z4 := Hid.mk (box4 B1.out R1.out hg4); have z0 := Z4.out.c0; have z1 := Z4.out.c1; have z2 := World.rowIs.frozen Z4.out 1; go_frame)
    go_end0
    exact finish hbx hbb (by omega) B1.out M1.out D1.out R1.out L1.out (by rw [HL.out]; exact hown4) hg4
  | some j =>
    have hv' := hv j hl
    have hj := (lastB_some hl).1
    rw [hl] at hlook
    simp only [Option.isSome_some] at hlook
    subst hv'
    have HL := Hid.mk hl
    clear hl hv
    go_enter Try.func18, Try.ntmps18
    go_wp2_with (at_builtin; refine wpList_append_own _ rfl _ _ 26 rfl base 21 i0 (.int .i32 0) 1 4 Try.underlying26 hi hz0 hz1 hz2 rfl (by decide) _ _ _ rfl (R1.out.alloc _) ⟨w1.heap.size, 0, none⟩ 1 1 [.int .i32 j] rfl rfl (cell_one_new _ _ _) (by simp [Value.oneCell']) (by unfold maxLen; omega) (by omega) (by simp; omega) ?_; intro v4 w4 hown4 hg4 hnil4; clear hnil4; obtain ⟨a4, c4, rfl⟩ := ownsRow_shape hown4; have Z4 := Hid.mk (box4 B1.out R1.out hg4); have z0 := Z4.out.c0; have z1 := Z4.out.c1; have z2 := World.rowIs.frozen Z4.out 1; go_frame)
    go_end0
    exact finish hbx hbb (by omega) B1.out M1.out D1.out R1.out L1.out (by rw [HL.out]; exact hown4) hg4

theorem run_makeMap (w : World) : (Instr.makeMap 25 none).run Try.prog w = .ok (.map (some w.heap.size)) (w.alloc (.map #[] 0)) := by
  simp [Instr.makeMap]

set_option maxRecDepth 100000 in
set_option maxHeartbeats 1000000 in
theorem add_nil (bx base : Nat) (nv : Value) (H : Nat → Int) (w : World) (hbx : base ≤ bx) (hB : base ≤ w.heap.size) (g0 : 0 ≤ H 0) (g1 : H 0 < 18446744073709551616)
    (box : Box w bx (.map none) nv) (row : w.ownsRow base 21 1 nv 0 (nexts H 0)) :
    Calls Try.prog 18 #[.pointer (some ⟨bx, 0, none⟩), .int .u64 (H 0), .int .i64 0] w (Added w bx base H 1) := by
  have boxa : Box (w.alloc (.map #[] 0)) bx (.map none) nv := World.rowIs.alloc box _
  have mapa := World.ownsMap_made w Try.prog 29 RH
  have rowa := row.alloc (.map #[] 0)
  have hne := map_ne_box mapa boxa
  have boxb := boxa.set0 (.map (some w.heap.size))
  have mapb : ((w.alloc (.map #[] 0)).setCell ⟨bx, 0, none⟩ (.map (some w.heap.size))).ownsMap Try.prog 29 RH w.heap.size 0 (.map []) := mapa.setCell (fun e => hne e.symm) _
  have rowb := ownsRow_setCell_other (a := ⟨bx, 0, none⟩) rowa (row_ne_box rowa boxa) (.map (some w.heap.size))
  have belb : Below base w ((w.alloc (.map #[] 0)).setCell ⟨bx, 0, none⟩ (.map (some w.heap.size))) := ((Below.refl _ _).alloc hB _).setCell hbx _
  have hD := MapOk.start H
  have y0 := box.c0
  have y1 := boxa.c0
  have y2 := World.rowIs.frozen boxa 0
  have y3 := boxb.c0
  have hbb : base ≤ w.heap.size := hB
  obtain ⟨v, hlook, _⟩ := look mapb hD g0 g1
  obtain ⟨w1, hrun, ⟨D', map1, hD'⟩, hg1⟩ := map_step mapb hD (by omega) g0 g1
  have box1 := boxb.kept hg1 (fun e => map_ne_box mapb boxb (by cases e; rfl))
  have row1 := rowb.kept hg1 (.inr (map_ne_row mapb rowb))
  have bel1 : Below base w w1 := belb.grown hg1 (Nat.le_trans hB belb.size) (fun j hj => by cases hj; exact hbb)
  have d0 := box1.c0
  have d1 := box1.c1
  have hB1 := bel1.size
  obtain ⟨an, cn, rfl⟩ := ownsRow_shape row
  have B1 := Hid.mk box1
  have R1 := Hid.mk row1
  have M1 := Hid.mk map1
  have D1 := Hid.mk hD'
  have L1 := Hid.mk bel1
  have HL : Hid (lastB H 0 (H 0) = none) := rfl
  simp only [lastB, Option.isSome_none] at hlook
  have hrun' : (Instr.mapUpdate 25 (.map (some w.heap.size)) (.int .u64 (H 0)) (.int .i32 0)).run Try.prog ((w.alloc (.map #[] 0)).setCell ⟨bx, 0, none⟩ (.map (some w.heap.size))) = .ok () w1 := hrun
  clear box1 row1 map1 hD' bel1 hg1 row box boxa mapa rowa boxb mapb rowb belb hD hrun
  obtain ⟨i0, hi, hz0, hz1, hz2⟩ := info_parts Try.info21
  have q25 : ∀ (w : World) (r : Option Nat), (binOp .eql 25 (.map r) (.map none)).run Try.prog w = .ok (.bool r.isNone) w := fun w r => run_eql_map_nil w _ _ _ r Try.underlying25
  have mk := run_makeMap
  go_enter Try.func18, Try.ntmps18
  go_wp2_with (at_builtin; refine wpList_append_own _ rfl _ _ 26 rfl base 21 i0 (.int .i32 0) 1 4 Try.underlying26 hi hz0 hz1 hz2 rfl (by decide) _ _ _ rfl (R1.out.alloc _) ⟨w1.heap.size, 0, none⟩ 1 1 [.int .i32 (-1)] rfl rfl (cell_one_new _ _ _) (by simp [Value.oneCell']) (by unfold maxLen; omega) (by omega) (by simp; omega) ?_; intro v4 w4 hown4 hg4 hnil4; clear hnil4; obtain ⟨a4, c4, rfl⟩ := ownsRow_shape hown4; have Z4 := Hid.mk (box4 B1.out R1.out hg4); have z0 := Z4.out.c0; have z1 := Z4.out.c1; have z2 := World.rowIs.frozen Z4.out 1; go_frame)
  go_end0
  exact finish (k := 0) hbx hbb (by omega) B1.out M1.out D1.out R1.out L1.out (by rw [HL.out]; exact hown4) hg4

theorem add (bx base k : Nat) (mv nv : Value) (H : Nat → Int) (w : World) (hbx : base ≤ bx) (hB : base ≤ w.heap.size) (hk : k ≤ 4096) (g0 : 0 ≤ H k) (g1 : H k < 18446744073709551616)
    (box : Box w bx mv nv) (idx : Idx w base H k mv nv) :
    Calls Try.prog 18 #[.pointer (some ⟨bx, 0, none⟩), .int .u64 (H k), .int .i64 k] w (Added w bx base H (k + 1)) := by
  obtain ⟨hm, hr⟩ := idx
  cases hm with
  | nil h => subst h; exact add_nil bx base nv H w hbx hB g0 g1 box hr
  | some b D hb h hD => exact add_some bx base b k nv H D w hbx hb hB hk g0 g1 box h hD hr

theorem Idx.drewN {w : World} {base : Nat} {H : Nat → Int} {k : Nat} {mv nv : Value} (h : Idx w base H k mv nv) (d : Nat) : Idx (w.drewN d) base H k mv nv := by
  refine ⟨?_, h.row⟩
  have hm := h.map
  cases hm with
  | nil h' => exact .nil h'
  | some b D hb h' hD => exact .some b D hb h' hD

/-- one more add has been: the two fields came back -/
def ZzAdded (w : World) (base : Nat) (H : Nat → Int) (k : Nat) (e : Ending) (w' : World) : Prop :=
  ∃ o a c, e = .returned (.tuple #[.map o, .slice a k c]) ∧ Idx w' base H k (.map o) (.slice a k c) ∧ Below base w w'

set_option maxRecDepth 100000 in
set_option maxHeartbeats 1000000 in
theorem zzAdd (base k : Nat) (mo : Option Nat) (an : Option Addr) (cn : Nat) (H : Nat → Int) (w : World) (hB : base ≤ w.heap.size) (hk : k ≤ 4096) (g0 : 0 ≤ H k) (g1 : H k < 18446744073709551616)
    (idx : Idx w base H k (.map mo) (.slice an k cn)) :
    Calls Try.prog 10 #[.map mo, .slice an k cn, .int .u64 (H k), .int .i64 k] w (ZzAdded w base H (k + 1)) := by
  have box : Box (w.alloc (.cells #[.map mo, .slice an k cn] 40)) w.heap.size (.map mo) (.slice an k cn) := World.rowIs_alloc w _ 40 _ (fun i hi => by
    have : i < 2 := hi
    rcases i with _ | _ | i
    · rfl
    · rfl
    · omega)
  have idx2 : Idx (w.alloc (.cells #[.map mo, .slice an k cn] 40)) base H k (.map mo) (.slice an k cn) := by
    refine ⟨?_, idx.row.alloc _⟩
    have hm := idx.map
    cases hm with
    | nil h => exact .nil h
    | some b D hb h hD => exact .some b D hb (h.alloc _) hD
  have hadd := add w.heap.size base k _ _ H _ hB (by simp; omega) hk g0 g1 box idx2
  have bela : Below base w (w.alloc (.cells #[.map mo, .slice an k cn] 40)) := (Below.refl _ _).alloc hB _
  have BA := Hid.mk bela
  clear box idx2 bela idx
  go_enter Try.func10, Try.ntmps10
  go_wp2_with fail
  refine hadd.mono ?_
  rintro e w' ⟨rfl, mv, nv, box', idx', bel'⟩
  obtain ⟨a, c, rfl⟩ := ownsRow_shape idx'.row
  obtain ⟨o, rfl⟩ : ∃ o, mv = .map o := by
    have hm := idx'.map
    cases hm
    · exact ⟨_, rfl⟩
    · exact ⟨_, rfl⟩
  have x0 := box'.c0
  have x1 := box'.c1
  have I := Hid.mk idx'
  have L := Hid.mk (BA.out.trans bel')
  clear box' idx' bel' hadd
  generalize w.heap.size = bx at *
  go_wp2
  go_quiet (fail)
  go_wp2
  go_ret2
  exact ⟨_, _, _, rfl, I.out.drewN _, drewN_below L.out _⟩
end Go.Proofs.Qxb6602894a
