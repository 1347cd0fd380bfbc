import Derived.Test.Qxb6602594aOps
import Derived.Test.Qxb6602594aModel
import Derived.Maps.OwnOps
import Derived.Deep.Cut
namespace Go.Proofs.Qxb6602594a
open Go.RowKit Go.Maps
open Go.WideMaps (keyOf_string_mk)

theorem Try.info90 : (Try.prog.info? 90).map (fun i => (i.zero, i.size, i.bytes)) = some (some (.agg #[.int .i32 0, .string ByteArray.empty, .int .i32 0, .int .i32 0, .int .i32 0, .int .i32 0]), 6, 40) := by kernel_rfl
theorem law9 : Keyed Try.prog 9 := string_keyed Try.underlying9
theorem zero21 (w : World) : (zeroValue 21).run Try.prog w = .ok (.int .i32 0) w := by kernel_rfl

/-- what settle leaves -/
def Left (B : Nat) (w : World) (hb lb : Nat) (ov : Nat → Value) (mb : Nat → Nat) (N : Nat) (H : Hi) (e : Ending) (w' : World) : Prop :=
  e = .returned (.tuple #[]) ∧ ∃ tv av, Rep B w' hb ⟨tv, lb, ov, av, mb, N⟩ H ∧ Below B w w'

theorem Rep.head {B : Nat} {w : World} {hb : Nat} {Y : Lay} {H : Hi} (h : Rep B w hb Y H) : w.cell? ⟨hb, 1, none⟩ = some Y.tv ∧ w.cell? ⟨hb, 2, none⟩ = some (.slice (some ⟨Y.lb, 0, none⟩) Y.N Y.N) ∧ w.frozen? ⟨hb, 1, none⟩ = false ∧ hb < w.heap.size := by
  obtain ⟨f, h1, h2, h3⟩ := h.hist
  exact ⟨by rw [h1.cell (by omega), h2], by rw [h1.cell (by omega), h3], h1.frozen 1, h1.lt⟩

theorem Rep.list {B : Nat} {w : World} {hb : Nat} {Y : Lay} {H : Hi} (h : Rep B w hb Y H) {l : Nat} (hl : l < H.n) :
    w.cell? ⟨Y.lb, l * 10 + 1, none⟩ = some (Y.ov l) ∧ w.cell? ⟨Y.lb, l * 10 + 3, none⟩ = some (Y.av l) ∧ w.cell? ⟨Y.lb, l * 10 + 4, none⟩ = some (.map (some (Y.mb l))) ∧ w.frozen? ⟨Y.lb, l * 10 + 3, none⟩ = false ∧ Y.lb < w.heap.size := by
  obtain ⟨f, h1, h2⟩ := h.lists
  obtain ⟨e1, e2, e3⟩ := h2 l hl
  have hN := h.hn
  exact ⟨by rw [h1.cell (by omega), e1], by rw [h1.cell (by omega), e2], by rw [h1.cell (by omega), e3], h1.frozen _, h1.lt⟩

theorem Rep.size {B : Nat} {w : World} {hb : Nat} {Y : Lay} {H : Hi} (h : Rep B w hb Y H) : B ≤ w.heap.size := Nat.le_of_lt (Nat.lt_of_le_of_lt h.hB h.head.2.2.2)

theorem Rep.ordAt {B : Nat} {w : World} {hb : Nat} {Y : Lay} {H : Hi} (h : Rep B w hb Y H) {l : Nat} (hl : l < H.n) {k : Nat} (hk : k < (H.ls l).order.length) :
    ∃ g cap, Y.ov l = .slice (some ⟨g, 0, none⟩) (H.ls l).order.length cap ∧ w.cell? ⟨g, k, none⟩ = some (.string ((H.ls l).order.getD k ByteArray.empty)) := by
  have L := (h.each l hl).ord
  rcases L.2 with ⟨_, h0⟩ | ⟨g, cap, cur, hv, _⟩
  · omega
  · refine ⟨g, cap, hv, ?_⟩
    rw [hv] at L
    rw [L.cellAt k (by omega), List.getElem?_map, List.getElem?_eq_getElem hk]
    simp [hk]

theorem Rep.look {B : Nat} {w : World} {hb : Nat} {Y : Lay} {H : Hi} (h : Rep B w hb Y H) {l : Nat} (hl : l < H.n) (v : ByteArray) (hv : v.size ≤ maxLen) :
    (Instr.lookup 72 (.map (some (Y.mb l))) (.string v) true).run Try.prog w = .ok (.tuple #[.int .i32 (atInt (H.ls l).idx v), .bool (Maps.has (H.ls l).idx (key v))]) w := by
  obtain ⟨u, ps, hr, hu⟩ := (h.each l hl).idx.look_ok law9 Try.underlying72 (zero21 w) (plainElem_int Try.underlying21 (a := 0) (by decide)) (keyOf_string_mk Try.underlying9 hv)
  obtain ⟨a, rfl, e, _⟩ := plainElem_int_inv Try.underlying21 hu
  simp only [Prod.mk.injEq] at e
  rw [hr, atInt_of e.1]
  rfl

theorem modify_set (l : List App) (x : Nat) (h : x < l.length) (f : App → App) : l.modify x f = l.set x (f l[x]) := by
  apply List.ext_getElem?
  intro j
  rw [List.getElem?_modify, List.getElem?_set]
  by_cases e : x = j
  · subst e; simp [h]
  · simp [e]

theorem grownBy_one {w w' : World} {o1 : Obj} {r : Option Nat} (h : (w.alloc o1).grownBy w' r) : w.grownBy w' r :=
  ⟨h.os, h.tape, h.output, by have := h.size; simp at this; omega, fun k hk hr => by rw [h.block k (by simp; omega) hr, Below.heap_alloc _ _ _ hk]⟩

theorem Rep.appIdx {B : Nat} {w w1 : World} {hb : Nat} {Y : Lay} {H : Hi} (h : Rep B w hb Y H) {l : Nat} (hl : l < H.n) (v' : Value) (hg : w.grownBy w1 (Y.av l).ownBlock) :
    (w1.setCell ⟨Y.lb, l * 10 + 3, none⟩ v').ownsMap Try.prog 9 (plainElem Try.prog 21) (Y.mb l) (H.ls l).apps.length (H.ls l).idx := by
  obtain ⟨gl, g1, g2⟩ := h.lists
  have k0 : ∀ b, (Y.av l).ownBlock = some b → kind w b = some (some 90) := fun b hb' => kind_ownsRow (h.each l hl).apps hb'
  have g1' := rowIs_kept' g1 hg (fun b hb' => by rw [k0 b hb']; simp)
  have k1 := kind_rowIs g1'
  have G := grownBy_setCell w1 ⟨Y.lb, l * 10 + 3, none⟩ v'
  exact ownsMap_kept' (ownsMap_kept' (h.each l hl).idx hg (fun b hb' => by rw [k0 b hb']; simp)) G (fun b hb' => by cases hb'; rw [k1]; simp)

theorem step_new {l p : Nat} {v : ByteArray} {H : Hi} (h : Maps.has (H.ls l).idx (key v) = false) : step l p v H =
    { txs := H.txs ++ [⟨-1, 4, [((l : Int), ((H.ls l).apps.length : Int))]⟩], n := H.n,
      ls := fun i => if i = l then { order := (H.ls l).order, apps := (H.ls l).apps ++ [⟨H.txs.length, v, 0, -1, -1, p⟩], idx := (H.ls l).idx.put (key v) (.lit (.int .i32 (H.ls l).apps.length)) } else H.ls i } := by
  unfold step
  rw [if_neg (by simp [h])]

theorem own_one {w : World} {o1 : Obj} {v v' : Value} (h : v'.ownBlock = v.ownBlock ∨ v'.ownBlock = some (w.alloc o1).heap.size) : v'.ownBlock = v.ownBlock ∨ ∃ g, v'.ownBlock = some g ∧ w.heap.size ≤ g := by
  rcases h with h | h
  · exact .inl h
  · refine .inr ⟨_, h, ?_⟩
    simp

set_option maxRecDepth 100000 in
set_option maxHeartbeats 2000000 in
theorem settle_walk (B : Nat) (w : World) (hb lb : Nat) (ov av : Nat → Value) (mb : Nat → Nat) (tv : Value) (H : Hi) (m : Nat) (hG : Good H m) (hm : m + sumTo (fun i => (H.ls i).order.length) H.n ≤ 100000000)
    (h : Rep B w hb ⟨tv, lb, ov, av, mb, H.n⟩ H) :
    Calls Try.prog 44 #[.pointer (some ⟨hb, 0, none⟩)] w (Left B w hb lb ov mb H.n (outer H H.n)) := by
  have hn := hG.n
  obtain ⟨_, c2, _, hlt⟩ := h.head
  have HR := Hid.mk h
  have HG := Hid.mk hG
  obtain ⟨i0, hi, hz0, hz1, hz2⟩ := info_parts Try.info90
  have HI := Hid.mk hi
  have HZ0 := Hid.mk hz0
  have HZ1 := Hid.mk hz1
  have HZ2 := Hid.mk hz2
  clear h hG hi hz0 hz1 hz2
  go_enter Try.func44, Try.ntmps44
  go_wp2
  clear c2
  go_loopw [14] (fun i wr => ∃ (l : Nat) (tv : Value) (av : Nat → Value), l ≤ H.n ∧ i = .int .i64 l ∧ Rep B wr hb ⟨tv, lb, ov, av, mb, H.n⟩ (outer H l) ∧ Below B w wr) (fun i _ => H.n - (intOf i).toNat)
  case atStart => exact ⟨0, tv, av, by omega, rfl, HR.out, Below.refl _ _⟩
  case round =>
    obtain ⟨l, tv1, av1, hl, rfl, R, hbel⟩ := hrel
    by_cases hll : l < H.n
    · have hl1 : l < (outer H l).n := by rw [outer_n]; exact hll
      obtain ⟨_, d2, _, _⟩ := R.head
      obtain ⟨q1, q2, q3, q4, q5⟩ := R.list hl1
      simp only at d2 q1 q2 q3 q4 q5
      have eo : ((outer H l).ls l).order = (H.ls l).order := outer_order H l l
      obtain ⟨oa, oc, hov⟩ := ownsRow_shape (R.each l hl1).ord
      simp only [eo] at hov
      rw [hov] at q1
      have HOV := Hid.mk hov
      have HB1 := Hid.mk hbel
      have HR1 := Hid.mk R
      have GO := Hid.mk (HG.out.outer l)
      have hsum : Hid (m + sumTo (fun i => (H.ls i).order.length) l + (H.ls l).order.length ≤ 100000000) := by
        have hs : ∀ a b : Nat, sumTo (fun i => (H.ls i).order.length) a ≤ sumTo (fun i => (H.ls i).order.length) (a + b) := by
          intro a b
          induction b with
          | zero => exact Nat.le_refl _
          | succ b ih => exact Nat.le_trans ih (Nat.le_add_right _ _)
        have := hs (l + 1) (H.n - (l + 1))
        rw [show l + 1 + (H.n - (l + 1)) = H.n by omega] at this
        show _ ≤ _
        simp only [sumTo] at this
        omega
      have hN : (H.ls l).order.length ≤ 100000000 := by have := hsum.out; omega
      clear hov hbel R q2 q3 q4 q5 eo hm
      go_wp2
      clear d2 q1
      go_loopw [28] (fun i wr => ∃ (k : Nat) (tv : Value) (av : Nat → Value), k ≤ (H.ls l).order.length ∧ i = .int .i64 k ∧ Rep B wr hb ⟨tv, lb, ov, av, mb, H.n⟩ (inner l (outer H l) k) ∧ Below B w wr) (fun i _ => (H.ls l).order.length - (intOf i).toNat)
      case atStart => exact ⟨0, tv1, av1, by omega, rfl, HR1.out, HB1.out⟩
      case round =>
        obtain ⟨k, tv2, av2, hk, rfl, R, hbel⟩ := hrel
        clear HR1 HB1
        by_cases hkl : k < (H.ls l).order.length
        · have GI := Hid.mk (GO.out.inner l k)
          have hl2 : l < (inner l (outer H l) k).n := by rw [inner_n]; exact hl1
          have eo : ((inner l (outer H l) k).ls l).order = (H.ls l).order := by rw [inner_order, outer_order]
          have NX : Hid (inner l (outer H l) (k + 1) = step l k ((H.ls l).order.getD k ByteArray.empty) (inner l (outer H l) k)) := by
            show inner l (outer H l) (k + 1) = _
            rw [inner, outer_order]
          obtain ⟨g, gc, ev, hcv⟩ := R.ordAt hl2 (k := k) (by rw [eo]; exact hkl)
          simp only [eo] at ev hcv
          have hvs : ((H.ls l).order.getD k ByteArray.empty).size ≤ maxLen := by
            have := GI.out.str l ((H.ls l).order.getD k ByteArray.empty)
            rw [eo] at this
            refine this ?_
            rw [List.getD_eq_getElem?_getD, List.getElem?_eq_getElem hkl]
            exact List.getElem_mem hkl
          rw [HOV.out] at ev
          simp only [Value.slice.injEq, true_and] at ev
          obtain ⟨rfl, rfl⟩ := ev
          have hkb : k ≤ 100000000 := by omega
          have hk0 : m + sumTo (fun i => (H.ls i).order.length) l + k ≤ 100000000 := by have := hsum.out; omega
          generalize (H.ls l).order.getD k ByteArray.empty = v at *
          generalize inner l (outer H l) k = G at *
          obtain ⟨p1, p2, p3, p4, p5⟩ := R.list hl2
          have hlk := R.look hl2 v hvs
          simp only at p1 p2 p3 p4 p5 hlk
          by_cases hh : Maps.has (G.ls l).idx (key v) = true
          · obtain ⟨r0, r1⟩ := GI.out.rng l v hh
            obtain ⟨x, hx⟩ := Int.eq_ofNat_of_zero_le r0
            rw [hx, hh] at hlk
            rw [hx] at r1
            have hxl : x < (G.ls l).apps.length := by omega
            have hap := GI.out.apps l
            obtain ⟨ga, gac, hav, hBg, hfz, ⟨u, hcu⟩, R'⟩ := R.setPos hl2 (x := x) hxl (k : Int)
            simp only at hav
            rw [hav] at p2
            have R2 : Hid (Rep B (wr.setCell ⟨ga, x * 6 + 5, none⟩ (.int .i32 (k : Int))) hb ⟨tv2, lb, ov, av2, mb, H.n⟩ (step l k v G)) := by
              unfold step
              rw [if_pos hh, hx, Int.toNat_natCast, modify_set _ _ hxl]
              exact R'
            have B2 := Hid.mk (hbel.setCell (p := ⟨ga, x * 6 + 5, none⟩) hBg (.int .i32 (k : Int)))
            have hal : (G.ls l).apps.length ≤ 100000000 := by omega
            clear R' R hbel hav GI hh hx p1 p4 p5 hvs hk0 hap eo hN
            generalize (G.ls l).apps.length = na at *
            go_wp2
            go_roundw
            case rel => exact ⟨k + 1, tv2, av2, by omega, by go_num, by rw [NX.out]; exact R2.out, B2.out⟩
            case measure => simp [intOf]; omega
          · have hh' : Maps.has (G.ls l).idx (key v) = false := by simpa using hh
            rw [hh'] at hlk
            obtain ⟨tr, etr, T⟩ := R.txs
            obtain ⟨z1, z2, z3, z4⟩ := R.head
            simp only at z1 z2 z3
            have hne : some hb ≠ tv2.ownBlock := by
              intro e
              obtain ⟨f, h1, _⟩ := R.hist
              have k1 := kind_rowIs h1
              have k2 := kind_ownsRow T.row e.symm
              rw [k1] at k2
              simp at k2
            have etl : tr.length = G.txs.length := by rw [← etr]; simp
            have htl : tr.length ≤ 100000000 := by have := GI.out.txs; omega
            have hal : (G.ls l).apps.length ≤ 100000000 := by have := GI.out.apps l; omega
            have HN := Hid.mk hne
            have HT := Hid.mk T
            have HR := Hid.mk R
            have HB := Hid.mk hbel
            have HH := Hid.mk hh'
            have HE := Hid.mk etr
            have HEL := Hid.mk etl
            clear hne T R hbel hh' etr hh etl
            go_wp2_with fail
            refine (add_walk wr hb B tr.length tv2 (tr.flatMap txCells) z4 HR.out.size (by omega) HT.out.row z1 z3 HN.out).mono ?_
            rintro e wA ⟨rfl, v1, w1, hown, hg, hat, hwA⟩
            have RA := HR.out.added HE.out HT.out hown hg HN.out
            rw [← hwA] at RA
            have BA : Below B wr wA := by
              rw [hwA]
              exact (below_of_grown hg HR.out.size (fun b hb' => (HT.out.row.lt b hb').1)).setCell (p := ⟨hb, 1, none⟩) HR.out.hB v1
            have hlA : l < ({ G with txs := G.txs ++ [⟨-1, 4, []⟩] } : Hi).n := hl2
            obtain ⟨pA1, pA2, pA3, pA4, pA5⟩ := RA.list hlA
            have LA := RA.each l hlA
            have hown1 := LA.apps
            simp only at pA1 pA2 pA3 pA4 pA5 hown1
            obtain ⟨aa, ac, hav⟩ := ownsRow_shape hown1
            rw [hav] at pA2 hown1
            have HAV := Hid.mk hav
            have HO := Hid.mk hown1
            have HRA := Hid.mk RA
            have HBA := Hid.mk BA
            have HNEW := Hid.mk (new_cells wA (appCells ⟨tr.length, v, 0, -1, -1, 0⟩) 90 (b := wA.heap.size) rfl)
            have HONE : Hid (∀ u ∈ appCells ⟨tr.length, v, 0, -1, -1, 0⟩, u.oneCell' = true) := by show ∀ u ∈ _, _; simp [appCells, Value.oneCell']
            have hsA : B ≤ wA.heap.size := RA.size
            have HNL : Hid (some lb ≠ (Value.slice aa (G.ls l).apps.length ac).ownBlock) := by
              intro e
              obtain ⟨f, h1, _⟩ := RA.lists
              have k1 := kind_rowIs h1
              have k2 := kind_ownsRow hown1 e.symm
              simp only at k1
              rw [k1] at k2
              simp at k2
            clear hav hown1 RA BA LA hwA hown hg hat p1 p2 p3 p4 p5 z1 z2 z3 hlk hcv hlA pA1 pA3
            generalize hna : (G.ls l).apps.length = na at *
            have HNA := Hid.mk hna
            clear hna
            go_upto_region 12 with (at_builtin; refine wpList_append_own_at _ rfl (.tmp 57) (.tmp 61) 86 rfl B 90 i0 _ 6 40 Try.underlying86 HI.out HZ0.out HZ1.out HZ2.out rfl (by decide) (.slice aa na ac) na ((G.ls l).apps.flatMap appCells) rfl (HO.out.alloc _) ⟨wA.heap.size, 0, none⟩ 1 1 (appCells ⟨tr.length, v, 0, -1, -1, 0⟩) rfl rfl HNEW.out HONE.out (by unfold maxLen; omega) (by omega) (by simp; omega) ?_; intro v2 wB hown2 hg2 hnil2 hat2; obtain ⟨a2, ca2, hv2⟩ := ownsRow_shape hown2; rw [hv2] at hown2 hat2 ⊢; clear hv2 hnil2; have hg2' := grownBy_one hg2; have hcc := cell_kept (a := ⟨lb, l * 10 + 3, none⟩) hg2' pA5 HNL.out; rw [pA2, pA4] at hcc; obtain ⟨hc2, hf2⟩ := hcc; have HO2 := Hid.mk hown2; have HG2 := Hid.mk hg2'; have HT2 := Hid.mk (own_one hat2); clear hown2 hg2 hg2' hat2 pA2 pA4)
            have RB : Rep B (wB.setCell ⟨lb, l * 10 + 3, none⟩ (.slice a2 (na + 1) ca2)) hb ⟨v1, lb, ov, fun i => if i = l then .slice a2 (na + 1) ca2 else av2 i, mb, H.n⟩
                { txs := G.txs ++ [⟨-1, 4, []⟩], n := G.n, ls := fun i => if i = l then { G.ls l with apps := (G.ls l).apps ++ [⟨tr.length, v, 0, -1, -1, 0⟩] } else G.ls i } :=
              HRA.out.appApp (l := l) hl2 (by simp only [HNA.out]; exact HO2.out) (by simp only [HAV.out]; exact HG2.out) (by simp only [HAV.out]; exact HT2.out)
            have MB := HRA.out.appIdx (l := l) hl2 (.slice a2 (na + 1) ca2) (by simp only [HAV.out]; exact HG2.out)
            have BB : Below B wr (wB.setCell ⟨lb, l * 10 + 3, none⟩ (.slice a2 (na + 1) ca2)) :=
              (HBA.out.trans (below_of_grown HG2.out HRA.out.size (fun b hb' => (HO.out.lt b hb').1))).setCell (p := ⟨lb, l * 10 + 3, none⟩) HRA.out.lB _
            simp only [HNA.out] at MB
            generalize wB.setCell ⟨lb, l * 10 + 3, none⟩ (.slice a2 (na + 1) ca2) = wC at *
            obtain ⟨pB1, pB2, pB3, pB4, pB5⟩ := RB.list hl2
            simp only at pB1 pB2 pB3 pB4 pB5
            have HRB := Hid.mk RB
            have HBB := Hid.mk BB
            have HMB := Hid.mk MB
            clear RB BB MB hc2 hf2 HRA HBA HO2 HG2 HT2 HO HNEW HONE HNL pB1 pB2 pB4 pB5 pA5
            have hwf : (Lit.int .i32 (na : Int)).wf = true := WalkArith.wf_i32 (by omega)
            go_upto_region 13 with (at_mapUpdate; refine wpList_mapUpdate_own _ rfl _ _ _ 72 rfl 9 21 law9 Try.underlying72 _ (mb l) na _ rfl HMB.out (by unfold maxLen; omega) (.string v) (.int .i32 (na : Int)) _ rfl rfl (keyOf_string_mk Try.underlying9 hvs) _ [] (plainElem_int Try.underlying21 hwf) ?_; intro wD hownD hgD)
            have hlen : ((G.ls l).apps ++ [(⟨tr.length, v, 0, -1, -1, 0⟩ : App)]).length = na + 1 := by rw [List.length_append, HNA.out]; rfl
            have RD := HRB.out.idxPut (l := l) hl2 (k := na + 1) (by simp only [if_true]; omega) hownD hgD
            have BD : Below B wr wD := HBB.out.trans (below_of_grown hgD HRB.out.size (fun b hb' => by cases hb'; exact (HRB.out.each l hl2).mB))
            have hxt : tr.length < (G.txs ++ [(⟨-1, 4, []⟩ : Tx)]).length := by rw [List.length_append, HEL.out]; simp
            have hxl : (G.txs ++ [(⟨-1, 4, []⟩ : Tx)]).length = tr.length + 1 := by rw [List.length_append, HEL.out]; rfl
            obtain ⟨gt, gtc, htv, hBt, hgt, hkt, hfzt, ⟨ut, hct⟩, RE⟩ := RD.setRefs RD.size (x := tr.length) hxt ((l : Int), (na : Int))
            obtain ⟨y1, y2, y3, y4⟩ := RD.head
            simp only at y1 htv
            rw [htv, hxl] at y1
            have hfa : ∀ o, (wD.alloc o).frozen? ⟨gt, tr.length * 10 + 6, none⟩ = false := fun o => (World.frozen?_of_block (Below.heap_alloc wD o gt hgt)).trans hfzt
            have hca : ∀ o, (wD.alloc o).cell? ⟨gt, tr.length * 10 + 6, none⟩ = some ut := fun o => (World.cell?_of_block (Below.heap_alloc wD o gt hgt)).trans hct
            have BE : Below B wr ((wD.alloc (.cells (refCells ((l : Int), (na : Int))).toArray 93)).setCell ⟨gt, tr.length * 10 + 6, none⟩ (.slice (some ⟨wD.heap.size, 0, none⟩) 1 1)) :=
              (BD.alloc RD.size _).setCell (p := ⟨gt, tr.length * 10 + 6, none⟩) hBt _
            have HRE : Hid (Rep B ((wD.alloc (.cells (refCells ((l : Int), (na : Int))).toArray 93)).setCell ⟨gt, tr.length * 10 + 6, none⟩ (.slice (some ⟨wD.heap.size, 0, none⟩) 1 1)) hb
                ⟨v1, lb, ov, fun i => if i = l then .slice a2 (na + 1) ca2 else av2 i, mb, H.n⟩
                { txs := G.txs ++ [⟨-1, 4, [((l : Int), (na : Int))]⟩], n := G.n, ls := fun i => if i = l then { order := (G.ls l).order, apps := (G.ls l).apps ++ [⟨tr.length, v, 0, -1, -1, 0⟩], idx := (G.ls l).idx.put (key v) (.lit (.int .i32 na)) } else G.ls i }) := by
              refine cast ?_ RE
              congr
              · simp only [HEL.out]
                rw [List.set_append_right _ _ (Nat.le_refl _)]
                simp
              · funext i
                by_cases hi : i = l
                · simp [hi]; rfl
                · simp [hi]
            have HBE := Hid.mk BE
            have HL := Hid.mk hlen
            clear RE BE RD BD HRB HBB HMB hownD hgD htv y2 y3 hkt hfzt hct pB3 hwf hlen hxl hxt
            go_upto_region 14 with fail
            have RE2 := HRE.out
            have BE2 := HBE.out
            rw [World.setCell_alloc_past _ _ _ _ hgt] at RE2 BE2
            have e93 : (refCells ((l : Int), (na : Int))).toArray = #[.int .i32 (l : Int), .int .i32 (na : Int)] := rfl
            rw [e93] at RE2 BE2
            generalize (wD.setCell ⟨gt, tr.length * 10 + 6, none⟩ (.slice (some ⟨wD.heap.size, 0, none⟩) 1 1)).alloc (.cells #[.int .i32 (l : Int), .int .i32 (na : Int)] 93) = wE at *
            obtain ⟨pE1, pE2, pE3, pE4, pE5⟩ := RE2.list hl2
            simp only [if_true] at pE2
            obtain ⟨ge, gec, hav, hBg, hfz, ⟨u, hcu⟩, R'⟩ := RE2.setPos hl2 (x := na) (by simp only [if_true]; rw [HL.out]; omega) (k : Int)
            simp only [if_true, Value.slice.injEq] at hav
            obtain ⟨rfl, hq, rfl⟩ := hav
            clear hq
            have R2 : Hid (Rep B (wE.setCell ⟨ge, na * 6 + 5, none⟩ (.int .i32 (k : Int))) hb ⟨v1, lb, ov, fun i => if i = l then .slice (some ⟨ge, 0, none⟩) (na + 1) ca2 else av2 i, mb, H.n⟩ (step l k v G)) := by
              show Rep _ _ _ _ _
              rw [step_new HH.out, HNA.out]
              refine cast ?_ R'
              congr
              · funext i
                by_cases hi : i = l
                · subst hi
                  simp only [if_true]
                  congr
                  rw [List.set_append_right _ _ (by rw [HNA.out]; omega), HNA.out]
                  simp [HEL.out, HNA.out]
                · simp [hi]
            have B2 := Hid.mk (HB.out.trans (BE2.setCell (p := ⟨ge, na * 6 + 5, none⟩) hBg (.int .i32 (k : Int))))
            clear R' RE2 BE2 HRE HBE pE1 pE3 pE4 pE5 hfa hca y1 hgt
            go_wp2
            go_roundw
            case rel => exact ⟨k + 1, _, _, by omega, by go_num, by rw [NX.out]; exact R2.out, B2.out⟩
            case measure => simp [intOf]; omega
        · have e : k = (H.ls l).order.length := by omega
          subst e
          have R2 : Hid (Rep B wr hb ⟨tv2, lb, ov, av2, mb, H.n⟩ (outer H (l + 1))) := R
          have B2 := Hid.mk hbel
          clear R hbel
          go_wp2
          go_roundw
          case rel => exact ⟨l + 1, tv2, av2, by omega, by go_num, R2.out, B2.out⟩
          case measure => simp [intOf]; omega
    · have e : l = H.n := by omega
      subst e
      have R2 := Hid.mk R
      have B2 := Hid.mk hbel
      clear R hbel
      go_wp2
      go_end0
      exact ⟨rfl, _, _, R2.out, B2.out⟩
end Go.Proofs.Qxb6602594a
