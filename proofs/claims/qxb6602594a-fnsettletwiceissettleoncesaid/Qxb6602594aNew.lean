import Derived.Test.Qxb6602594aNewT
import Derived.Deep.RegionHeld
namespace Go.Proofs.Qxb6602594a
open Go.RowKit Go.Maps

/-- what ZZNewHistory leaves -/
def Built (w : World) (d : Dat) (e : Ending) (w' : World) : Prop :=
  ∃ hb tv lb ov av mb, e = .returned (.pointer (some ⟨hb, 0, none⟩)) ∧ Rep w.heap.size w' hb ⟨tv, lb, ov, av, mb, d.nL⟩ (newHi d) ∧ Below w.heap.size w w'

set_option maxRecDepth 100000 in
set_option maxHeartbeats 8000000 in
theorem new_walk (d : Dat) (a0 a1 a2 a3 a4 a5 a6 a7 : Option Addr) (c0 c1 c2 c3 c4 c5 c6 c7 : Nat) (w : World) (gL : d.nL ≤ 1048576) (gO : d.nO ≤ 1048576) (g0 : ∀ l, l < d.nL → d.L0 l ≤ 1048576) (g1 : ∀ l, l < d.nL → d.L1 l ≤ 1048576)
    (hs : ∀ l i, l < d.nL → i < d.L1 l → (d.S1 l i).size ≤ maxLen)
    (h0 : Rows2 w a0 d.nL d.L0 (fun l i => .string (d.S0 l i))) (h1 : Rows2 w a1 d.nL d.L1 (fun l i => .string (d.S1 l i)))
    (h2 : Rows2 w a2 d.nL d.L1 (fun l i => .int .i32 (d.S2 l i))) (h3 : Rows2 w a3 d.nL d.L1 (fun l i => .int .i32 (d.S3 l i))) (h4 : Rows2 w a4 d.nL d.L1 (fun l i => .int .i32 (d.S4 l i)))
    (h5 : Rows2 w a5 d.nL d.L1 (fun l i => .int .i32 (d.S5 l i))) (h6 : Rows2 w a6 d.nL d.L1 (fun l i => .int .i32 (d.S6 l i))) (h7 : Row w a7 d.nO (fun i => .int .u8 (d.oc i))) :
    Calls Try.prog 21 #[.slice a0 d.nL c0, .slice a1 d.nL c1, .slice a2 d.nL c2, .slice a3 d.nL c3, .slice a4 d.nL c4, .slice a5 d.nL c5, .slice a6 d.nL c6, .slice a7 d.nO c7] w (Built w d) := by
  obtain ⟨i9, i9h, i9z, i9s, i9b⟩ := info_parts Try.info9
  have I9h := Hid.mk i9h
  have I9z := Hid.mk i9z
  have I9s := Hid.mk i9s
  have I9b := Hid.mk i9b
  clear i9h i9z i9s i9b
  generalize hnL : d.nL = nL at *
  generalize hnO : d.nO = nO at *
  generalize hoc : d.oc = oc at *
  have HnL := Hid.mk hnL
  have HnO := Hid.mk hnO
  have Hoc := Hid.mk hoc
  clear hnL hnO hoc
  have hmT := make81 nO gO
  have hmL := make88 nL gL
  go_enter Try.func21, Try.ntmps21
  go_upto_region 1 with fail
  go_cut [17] (fun p wc => ∃ hb tb lb, p = .pointer (some ⟨hb, 0, none⟩) ∧ Rep w.heap.size wc hb ⟨.slice (some ⟨tb, 0, none⟩) nO nO, lb, fun _ => undef, fun _ => undef, fun _ => 0, nL⟩ ⟨txsTo nO oc 0, 0, fun _ => zeroLs⟩ ∧ Below w.heap.size w wc)
  case first =>
    go_region
    · go_wp2_with fail
      go_meet
      case rel =>
        obtain ⟨x1, x2, x3, x4⟩ := alloc3 w (.cells (madeCells (txCells (⟨0, 0, []⟩, .slice none 0 0)).toArray (nO * 10)) 81) (.cells (madeCells #[.string ByteArray.empty, .slice none 0 0, .int .i32 0, .slice none 0 0, .map none, .slice none 0 0, .slice none 0 0, .int .i64 0, .int .i64 0, .int .i64 0] (nL * 10)) 88)
          (.cells #[.slice none 0 0, .slice (some ⟨w.heap.size, 0, none⟩) nO nO, .slice (some ⟨w.heap.size + 1, 0, none⟩) nL nL, .map none, .map none, .slice none 0 0, .map none, .int .i64 0, .string ⟨#[]⟩] 75)
        exact ⟨w.heap.size + 1 + 1, w.heap.size, w.heap.size + 1, rfl, new_rep (by unfold maxLen; omega) x1 x2 x3 (by omega) (by omega) (by omega), x4⟩
    · go_wp2_with fail
      go_meet
      case rel =>
        obtain ⟨x1, x2, x3, x4⟩ := alloc3 w (.cells (madeCells #[.string ByteArray.empty, .slice none 0 0, .int .i32 0, .slice none 0 0, .map none, .slice none 0 0, .slice none 0 0, .int .i64 0, .int .i64 0, .int .i64 0] (nL * 10)) 88) (.cells (madeCells (txCells (⟨0, 0, []⟩, .slice none 0 0)).toArray (nO * 10)) 81)
          (.cells #[.slice none 0 0, .slice (some ⟨w.heap.size + 1, 0, none⟩) nO nO, .slice (some ⟨w.heap.size, 0, none⟩) nL nL, .map none, .map none, .slice none 0 0, .map none, .int .i64 0, .string ⟨#[]⟩] 75)
        exact ⟨w.heap.size + 1 + 1, w.heap.size + 1, w.heap.size, rfl, new_rep (by unfold maxLen; omega) x2 x1 x3 (by omega) (by omega) (by omega), x4⟩
  case rest =>
    obtain ⟨hb, tb, lb, rfl, R, hbel⟩ := hcut
    clear hmT hmL
    go_wp2
    go_loopw [32] (fun i wr => ∃ k : Nat, k ≤ nO ∧ i = .int .i64 k ∧ Rep w.heap.size wr hb ⟨.slice (some ⟨tb, 0, none⟩) nO nO, lb, fun _ => undef, fun _ => undef, fun _ => 0, nL⟩ ⟨txsTo nO oc k, 0, fun _ => zeroLs⟩ ∧ Below w.heap.size w wr) (fun i _ => nO - (intOf i).toNat)
    case atStart => exact ⟨0, by omega, rfl, R, hbel⟩
    case round =>
      clear R hbel
      obtain ⟨k, hk, rfl, R, hbel⟩ := hrel
      by_cases hlt : k < nO
      · obtain ⟨b7, o7, rfl, hb7, e7⟩ := h7 k hlt
        have e7' := (hbel.cell (p := ⟨b7, o7 + k, none⟩) hb7).trans e7
        obtain ⟨f, q1, q2, q3⟩ := R.hist
        have z1 : wr.cell? ⟨hb, 1, none⟩ = some (.slice (some ⟨tb, 0, none⟩) nO nO) := by rw [q1.cell (by omega), q2]
        obtain ⟨hBt, htlt, hfz, ⟨u, hcu⟩, R'⟩ := R.setOut (x := k) (by simp only [txsTo_length]; exact hlt) (oc k) rfl
        have R2 := Hid.mk R'
        have B2 := Hid.mk (hbel.setCell (p := ⟨tb, k * 10 + 4, none⟩) hBt (.int .u8 (oc k)))
        clear R R' hbel q1 q2 q3 e7
        go_wp2
        go_region
        go_wp2
        go_roundw
        case rel => exact ⟨k + 1, by omega, by go_num, R2.out.drew, B2.out.drew⟩
        case measure => simp [intOf]; omega
      · have e : k = nO := by omega
        subst e
        generalize hT0 : txsTo k oc k = T0 at *
        have HT0 := Hid.mk hT0
        have HR0 := Hid.mk R
        have HB0 := Hid.mk hbel
        clear hT0 R hbel
        go_wp2
        go_loopw [49] (fun i wr => ∃ (l : Nat) (ov av : Nat → Value) (mb : Nat → Nat), l ≤ nL ∧ i = .int .i64 l ∧ Rep w.heap.size wr hb ⟨.slice (some ⟨tb, 0, none⟩) k k, lb, ov, av, mb, nL⟩ ⟨T0, l, lsTo d l⟩ ∧ Below w.heap.size w wr) (fun i _ => nL - (intOf i).toNat)
        case atStart => exact ⟨0, _, _, _, by omega, rfl, HR0.out, HB0.out⟩
        case round =>
          clear HR0 HB0
          obtain ⟨l, ov, av, mb, hl, rfl, R, hbel⟩ := hrel
          by_cases hll : l < nL
          · obtain ⟨bo, oo, ak, ck, rfl, hbo, hco, hro⟩ := h0 l hll
            obtain ⟨bv, ofv, vk, vc, rfl, hbv, hcv, hrv⟩ := h1 l hll
            obtain ⟨_, z2, _, zlt⟩ := R.head
            simp only at z2
            obtain ⟨fl, rowL⟩ := R.row
            simp only at rowL
            have y1 := rowL.cell (i := l * 10 + 2) (by omega)
            have y2 := rowL.frozen (l * 10 + 2)
            have R1 := Hid.mk (R.raw (l := l) (j := 2) (Nat.le_refl _) (.int .i32 (-1)))
            have B1 := Hid.mk (hbel.setCell (p := ⟨lb, l * 10 + 2, none⟩) R.lB (.int .i32 (-1)))
            have W1 := Hid.mk (rowL.set (l * 10 + 2) (.int .i32 (-1)))
            have HLB := Hid.mk R.lB
            have hBs : w.heap.size ≤ wr.heap.size := hbel.size
            clear R hbel rowL
            simp only at R1
            go_upto_region 12 with fail
            generalize wr.setCell ⟨lb, l * 10 + 2, none⟩ (.int .i32 (-1)) = w1 at *
            have hco1 := (B1.out.cell (p := ⟨bo, oo + l, none⟩) hbo).trans hco
            have hro1 := Hid.mk (hro.below B1.out (Nat.le_refl _)).cells
            obtain ⟨x1, x2⟩ : w1.cell? ⟨lb, l * 10 + 1, none⟩ = some (fl (l * 10 + 1)) ∧ w1.frozen? ⟨lb, l * 10 + 1, none⟩ = false := by
              refine ⟨?_, W1.out.frozen _⟩
              rw [W1.out.cell (by omega), if_neg (by omega)]
            have hlb1 : lb < w1.heap.size := W1.out.lt
            have g0l := g0 l hll
            have g1l := g1 l hll
            have hBs1 : w.heap.size ≤ w1.heap.size := B1.out.size
            have HLen : Hid (((ord d l).map Value.string).length = d.L0 l * 1) := by show _ = _; simp [ord]
            have HOne : Hid (∀ u ∈ (ord d l).map Value.string, u.oneCell' = true) := by
              intro u hu
              obtain ⟨s, _, rfl⟩ := List.mem_map.1 hu
              rfl
            have HNews : Hid (∀ ad, ak = some ad → ∀ j u, ((ord d l).map Value.string)[j]? = some u → w1.cell? (ad.add j) = some u) := by
              have := hro1.out.2
              simpa [ord, Hid] using this
            clear y1 y2 z2 hco hro
            go_upto_region 13 with (at_builtin; refine wpList_append_nil_any _ rfl (.const (.slice none 0 0)) (.tmp 65) 23 rfl w.heap.size 9 i9 _ 1 16 Try.underlying23 I9h.out I9z.out I9s.out I9b.out rfl (by decide) rfl ak (d.L0 l) ck ((ord d l).map .string) rfl HLen.out hro1.out.1 HNews.out HOne.out (by unfold maxLen; omega) (by omega) hBs1 ?_; intro v1 w2 hown1 hg1; obtain ⟨a1, ca1, hv1⟩ := ownsRow_shape hown1; rw [hv1] at hown1 ⊢; clear hv1; have hcc := cell_kept (a := ⟨lb, l * 10 + 1, none⟩) hg1 hlb1 (by simp); rw [x1, x2] at hcc; obtain ⟨hc1, hf1⟩ := hcc; have HO1 := Hid.mk hown1; have HG1 := Hid.mk hg1; clear hown1 hg1 x1 x2 hco1)
            have G1s := grownBy_setCell w2 ⟨lb, l * 10 + 1, none⟩ (.slice a1 (d.L0 l) ca1)
            have W2a := rowIs_kept' W1.out HG1.out (fun _ e => by cases e)
            have R2 := (R1.out.kept HG1.out).raw (l := l) (j := 1) (Nat.le_refl _) (.slice a1 (d.L0 l) ca1)
            have W2 := W2a.set (l * 10 + 1) (.slice a1 (d.L0 l) ca1)
            have O2 := ownsRow_kept HO1.out G1s (fun b e => by cases e; rw [kind_rowIs W2a]; simp)
            have B2 := (B1.out.grown HG1.out hBs1 (fun _ e => by cases e)).setCell (p := ⟨lb, l * 10 + 1, none⟩) HLB.out (.slice a1 (d.L0 l) ca1)
            simp only at R2
            generalize w2.setCell ⟨lb, l * 10 + 1, none⟩ (.slice a1 (d.L0 l) ca1) = w3 at *
            have hcv3 := (B2.cell (p := ⟨bv, ofv + l, none⟩) hbv).trans hcv
            have hlb3 : lb < w3.heap.size := W2.lt
            have hmA := make90 (d.L1 l) g1l
            have hca : ∀ o, (w3.alloc o).cell? ⟨lb, l * 10 + 3, none⟩ = some (fl (l * 10 + 3)) := fun o => by
              rw [World.cell?_of_block (w := w3) (Below.heap_alloc w3 o lb hlb3), W2.cell (by omega), if_neg (by omega), if_neg (by omega)]
            have hfa : ∀ o, (w3.alloc o).frozen? ⟨lb, l * 10 + 3, none⟩ = false := fun o => (World.frozen?_of_block (w := w3) (Below.heap_alloc w3 o lb hlb3)).trans (W2.frozen _)
            have HR2 := Hid.mk R2
            have HW2 := Hid.mk W2
            have HO2 := Hid.mk O2
            have HB2 := Hid.mk B2
            clear R2 W2 O2 B2 W2a G1s HG1 HO1 R1 W1 B1 hc1 hf1 HLen HOne HNews hro1
            go_upto_region 14 with fail
            have fresh3 : Hid (∀ i, i < l → some w3.heap.size ≠ (av i).ownBlock) := by
              intro i hi e
              have := ((HR2.out.each i hi).apps.lt w3.heap.size e.symm).2
              omega
            have G3s := grownBy_setCell w3 ⟨lb, l * 10 + 3, none⟩ (.slice (some ⟨w3.heap.size, 0, none⟩) (d.L1 l) (d.L1 l))
            have W3a := HW2.out.set (l * 10 + 3) (.slice (some ⟨w3.heap.size, 0, none⟩) (d.L1 l) (d.L1 l))
            have G3b := World.grownBy_alloc (w3.setCell ⟨lb, l * 10 + 3, none⟩ (.slice (some ⟨w3.heap.size, 0, none⟩) (d.L1 l) (d.L1 l))) (.cells (madeCells (appCells ⟨0, ByteArray.empty, 0, 0, 0, 0⟩).toArray (d.L1 l * 6)) 90) none
            have R3 := (HR2.out.raw (l := l) (j := 3) (Nat.le_refl _) (.slice (some ⟨w3.heap.size, 0, none⟩) (d.L1 l) (d.L1 l))).kept G3b
            have W3 := rowIs_kept' W3a G3b (fun _ e => by cases e)
            have O3 := ownsRow_kept (ownsRow_kept HO2.out G3s (fun b e => by cases e; rw [kind_rowIs HW2.out]; simp)) G3b (fun _ e => by cases e)
            have B3 := (HB2.out.setCell (p := ⟨lb, l * 10 + 3, none⟩) HLB.out (.slice (some ⟨w3.heap.size, 0, none⟩) (d.L1 l) (d.L1 l))).trans (below_of_grown (B := w.heap.size) G3b (by simpa [World.setCell] using HB2.out.size) (fun _ e => by cases e))
            have A3 := World.ownsRow_lit (base := w.heap.size) (e := 90) (size := 6) (w3.setCell ⟨lb, l * 10 + 3, none⟩ (.slice (some ⟨w3.heap.size, 0, none⟩) (d.L1 l) (d.L1 l))) (madeCells (appCells ⟨0, ByteArray.empty, 0, 0, 0, 0⟩).toArray (d.L1 l * 6)) (d.L1 l) (by simpa [World.setCell] using HB2.out.size) (by unfold maxLen; omega) (size_madeCells _ _)
            rw [made_flat (s := 6) (fun _ => rfl) (by omega), show (w3.setCell ⟨lb, l * 10 + 3, none⟩ (.slice (some ⟨w3.heap.size, 0, none⟩) (d.L1 l) (d.L1 l))).heap.size = w3.heap.size by simp [World.setCell]] at A3
            generalize (w3.setCell ⟨lb, l * 10 + 3, none⟩ (.slice (some ⟨w3.heap.size, 0, none⟩) (d.L1 l) (d.L1 l))).alloc (.cells (madeCells (appCells ⟨0, ByteArray.empty, 0, 0, 0, 0⟩).toArray (d.L1 l * 6)) 90) = w4 at *
            generalize w3.heap.size = ab at *
            have hlb4 : lb < w4.heap.size := W3.lt
            have hca4 : ∀ o, (w4.alloc o).cell? ⟨lb, l * 10 + 4, none⟩ = some (fl (l * 10 + 4)) := fun o => by
              rw [World.cell?_of_block (w := w4) (Below.heap_alloc w4 o lb hlb4), W3.cell (by omega), if_neg (by omega), if_neg (by omega), if_neg (by omega)]
            have hfa4 : ∀ o, (w4.alloc o).frozen? ⟨lb, l * 10 + 4, none⟩ = false := fun o => (World.frozen?_of_block (w := w4) (Below.heap_alloc w4 o lb hlb4)).trans (W3.frozen _)
            have HR3 := Hid.mk R3
            have HW3 := Hid.mk W3
            have HO3 := Hid.mk O3
            have HB3 := Hid.mk B3
            have HA3 := Hid.mk A3
            clear R3 W3 O3 B3 A3 W3a G3s G3b HR2 HW2 HO2 HB2 hcv3 hca hfa hmA hlb3 hBs hBs1 hlb1
            have hmm := @run_makeMap Try.prog
            go_upto_region 15 with fail
            have fresh4 : Hid (∀ i, i < l → w4.heap.size ≠ mb i) := by
              intro i hi e
              have := (HR3.out.each i hi).idx.lt
              simp only at this
              omega
            have G4s := grownBy_setCell w4 ⟨lb, l * 10 + 4, none⟩ (.map (some w4.heap.size))
            have W4a := HW3.out.set (l * 10 + 4) (.map (some w4.heap.size))
            have G4b := World.grownBy_alloc (w4.setCell ⟨lb, l * 10 + 4, none⟩ (.map (some w4.heap.size))) (.map #[] 0) none
            have R4 := (HR3.out.raw (l := l) (j := 4) (Nat.le_refl _) (.map (some w4.heap.size))).kept G4b
            have W4 := rowIs_kept' W4a G4b (fun _ e => by cases e)
            have O4 := ownsRow_kept (ownsRow_kept HO3.out G4s (fun b e => by cases e; rw [kind_rowIs HW3.out]; simp)) G4b (fun _ e => by cases e)
            have A4 := ownsRow_kept (ownsRow_kept HA3.out G4s (fun b e => by cases e; rw [kind_rowIs HW3.out]; simp)) G4b (fun _ e => by cases e)
            have hB4 : w.heap.size ≤ w4.heap.size := HB3.out.size
            have B4 := (HB3.out.setCell (p := ⟨lb, l * 10 + 4, none⟩) HLB.out (.map (some w4.heap.size))).trans (below_of_grown (B := w.heap.size) G4b (by simpa [World.setCell] using hB4) (fun _ e => by cases e))
            have M4 := World.ownsMap_made (H := Unit) (w4.setCell ⟨lb, l * 10 + 4, none⟩ (.map (some w4.heap.size))) Try.prog 9 (plainElem Try.prog 21)
            rw [show (w4.setCell ⟨lb, l * 10 + 4, none⟩ (.map (some w4.heap.size))).heap.size = w4.heap.size by simp [World.setCell]] at M4
            generalize (w4.setCell ⟨lb, l * 10 + 4, none⟩ (.map (some w4.heap.size))).alloc (.map #[] 0) = w5 at *
            generalize w4.heap.size = mn at *
            have q1 : w5.cell? ⟨lb, l * 10 + 1, none⟩ = some (.slice a1 (d.L0 l) ca1) := by rw [W4.cell (by omega), if_neg (by omega), if_neg (by omega), if_pos rfl]
            have q3 : w5.cell? ⟨lb, l * 10 + 3, none⟩ = some (.slice (some ⟨ab, 0, none⟩) (d.L1 l) (d.L1 l)) := by rw [W4.cell (by omega), if_neg (by omega), if_pos rfl]
            have q4 : w5.cell? ⟨lb, l * 10 + 4, none⟩ = some (.map (some mn)) := by rw [W4.cell (by omega), if_pos rfl]
            have R5 := R4.newList (s := lsAt d l 0) hll (ov := .slice a1 (d.L0 l) ca1) (av := .slice (some ⟨ab, 0, none⟩) (d.L1 l) (d.L1 l)) (mb := mn)
              q1 q3 q4
              (by simpa [lsAt, ord] using O4) (by simpa [lsAt, appsTo] using A4) (by exact M4.mono (Nat.zero_le _)) hB4
              (fun i hi => ⟨fresh4.out i hi, .inr (fresh3.out i hi)⟩)
            simp only at R5
            have hcv5 := (B4.cell (p := ⟨bv, ofv + l, none⟩) hbv).trans hcv
            have HR5 := Hid.mk R5
            have HB5 := Hid.mk B4
            clear q1 q3 q4 R4 W4 O4 A4 B4 M4 W4a G4s G4b HR3 HW3 HO3 HA3 HB3 fresh3 fresh4 hca4 hfa4 hlb4 hmm R5
            go_wp2
            obtain ⟨b2, o2, k2, kc2, rfl, hb2, hc2, hr2⟩ := h2 l hll
            obtain ⟨b3, o3, k3, kc3, rfl, hb3, hc3, hr3⟩ := h3 l hll
            obtain ⟨b4, o4, k4, kc4, rfl, hb4, hc4, hr4⟩ := h4 l hll
            obtain ⟨b5, o5, k5, kc5, rfl, hb5, hc5, hr5⟩ := h5 l hll
            obtain ⟨b6, o6, k6, kc6, rfl, hb6, hc6, hr6⟩ := h6 l hll
            clear hcv5
            go_loopw [87] (fun i wr => ∃ (x : Nat), x ≤ d.L1 l ∧ i = .int .i64 x ∧ Rep w.heap.size wr hb ⟨.slice (some ⟨tb, 0, none⟩) k k, lb, fun i => if i = l then .slice a1 (d.L0 l) ca1 else ov i, fun i => if i = l then .slice (some ⟨ab, 0, none⟩) (d.L1 l) (d.L1 l) else av i, fun i => if i = l then mn else mb i, nL⟩ ⟨T0, l + 1, fun i => if i = l then lsAt d l x else lsTo d l i⟩ ∧ Below w.heap.size w wr) (fun i _ => d.L1 l - (intOf i).toNat)
            case atStart => exact ⟨0, by omega, rfl, HR5.out, HB5.out⟩
            case round =>
              clear HR5 HB5
              obtain ⟨x, hx, rfl, R, hbel⟩ := hrel
              by_cases hxl : x < d.L1 l
              · have hln : l < (⟨T0, l + 1, fun i => if i = l then lsAt d l x else lsTo d l i⟩ : Hi).n := Nat.lt_succ_self l
                obtain ⟨_, p3, p4, _, _⟩ := R.list hln
                simp only [if_true] at p3 p4
                obtain ⟨e1, f1, rfl, hbv1, t1⟩ := hrv x hxl
                obtain ⟨e2, f2, rfl, hbv2, t2⟩ := hr2 x hxl
                obtain ⟨e3, f3, rfl, hbv3, t3⟩ := hr3 x hxl
                obtain ⟨e4, f4, rfl, hbv4, t4⟩ := hr4 x hxl
                obtain ⟨e5, f5, rfl, hbv5, t5⟩ := hr5 x hxl
                obtain ⟨e6, f6, rfl, hbv6, t6⟩ := hr6 x hxl
                have s1 := (hbel.cell (p := ⟨bv, ofv + l, none⟩) hbv).trans hcv
                have s2 := (hbel.cell (p := ⟨b2, o2 + l, none⟩) hb2).trans hc2
                have s3 := (hbel.cell (p := ⟨b3, o3 + l, none⟩) hb3).trans hc3
                have s4 := (hbel.cell (p := ⟨b4, o4 + l, none⟩) hb4).trans hc4
                have s5 := (hbel.cell (p := ⟨b5, o5 + l, none⟩) hb5).trans hc5
                have s6 := (hbel.cell (p := ⟨b6, o6 + l, none⟩) hb6).trans hc6
                have u1 := (hbel.cell (p := ⟨e1, f1 + x, none⟩) hbv1).trans t1
                have u2 := (hbel.cell (p := ⟨e2, f2 + x, none⟩) hbv2).trans t2
                have u3 := (hbel.cell (p := ⟨e3, f3 + x, none⟩) hbv3).trans t3
                have u4 := (hbel.cell (p := ⟨e4, f4 + x, none⟩) hbv4).trans t4
                have u5 := (hbel.cell (p := ⟨e5, f5 + x, none⟩) hbv5).trans t5
                have u6 := (hbel.cell (p := ⟨e6, f6 + x, none⟩) hbv6).trans t6
                have hap : x < ((⟨T0, l + 1, fun i => if i = l then lsAt d l x else lsTo d l i⟩ : Hi).ls l).apps.length := by simp only [if_true, lsAt, appsTo_length]; exact hxl
                obtain ⟨hBa, hlta, hfza, hcua, R'⟩ := R.setApp hln hap ⟨d.S2 l x, d.S1 l x, d.S3 l x, d.S4 l x, d.S5 l x, d.S6 l x⟩ (g := ab) (n := d.L1 l) (cap := d.L1 l) (by simp only [if_true])
                obtain ⟨y0, z0⟩ := hcua 0 (by omega)
                obtain ⟨y1, z1⟩ := hcua 1 (by omega)
                obtain ⟨y2, z2⟩ := hcua 2 (by omega)
                obtain ⟨y3, z3⟩ := hcua 3 (by omega)
                obtain ⟨y4, z4⟩ := hcua 4 (by omega)
                obtain ⟨y5, z5⟩ := hcua 5 (by omega)
                rw [Nat.add_zero] at z0
                have HS := hs l x hll hxl
                have GA := (stored6 (by have := (R.each l hln).apps; simpa [lsAt, appsTo_length] using this) (x * 6) ⟨d.S2 l x, d.S1 l x, d.S3 l x, d.S4 l x, d.S5 l x, d.S6 l x⟩).2
                rw [setCells_six] at GA R'
                have hnl : lb ≠ ab := by
                  intro e
                  have k1 := kind_rowIs R.row.choose_spec
                  have k2 := kind_ownsRow (R.each l hln).apps (g := ab) (by simp [Value.ownBlock])
                  simp only at k1
                  rw [e, k2] at k1
                  simp at k1
                have keep : ∀ (bb oo : Nat) (u : Value), bb ≠ ab → wr.cell? ⟨bb, oo, none⟩ = some u → (six wr ab (x * 6) (.int .i32 (d.S2 l x)) (.string (d.S1 l x)) (.int .i32 (d.S3 l x)) (.int .i32 (d.S4 l x)) (.int .i32 (d.S5 l x)) (.int .i32 (d.S6 l x))).drew.cell? ⟨bb, oo, none⟩ = some u := by
                  intro bb oo u hne hc
                  rw [drew_cell, (cell_kept (a := ⟨bb, oo, none⟩) GA (World.block_lt_of_cell? _ _ hc) (by simpa using hne)).1]
                  exact hc
                have HK : Hid ((fun (W : World) => W.cell? ⟨lb, l * 10 + 3, none⟩ = some (.slice (some ⟨ab, 0, none⟩) (d.L1 l) (d.L1 l)) ∧ W.cell? ⟨bv, ofv + l, none⟩ = some (.slice (some ⟨e1, f1, none⟩) (d.L1 l) vc) ∧ W.cell? ⟨e1, f1 + x, none⟩ = some (.string (d.S1 l x))
                  ∧ W.cell? ⟨b2, o2 + l, none⟩ = some (.slice (some ⟨e2, f2, none⟩) (d.L1 l) kc2) ∧ W.cell? ⟨e2, f2 + x, none⟩ = some (.int .i32 (d.S2 l x))
                  ∧ W.cell? ⟨b3, o3 + l, none⟩ = some (.slice (some ⟨e3, f3, none⟩) (d.L1 l) kc3) ∧ W.cell? ⟨e3, f3 + x, none⟩ = some (.int .i32 (d.S3 l x))
                  ∧ W.cell? ⟨b4, o4 + l, none⟩ = some (.slice (some ⟨e4, f4, none⟩) (d.L1 l) kc4) ∧ W.cell? ⟨e4, f4 + x, none⟩ = some (.int .i32 (d.S4 l x))
                  ∧ W.cell? ⟨b5, o5 + l, none⟩ = some (.slice (some ⟨e5, f5, none⟩) (d.L1 l) kc5) ∧ W.cell? ⟨e5, f5 + x, none⟩ = some (.int .i32 (d.S5 l x))
                  ∧ W.cell? ⟨b6, o6 + l, none⟩ = some (.slice (some ⟨e6, f6, none⟩) (d.L1 l) kc6) ∧ W.cell? ⟨e6, f6 + x, none⟩ = some (.int .i32 (d.S6 l x))) (six wr ab (x * 6) (.int .i32 (d.S2 l x)) (.string (d.S1 l x)) (.int .i32 (d.S3 l x)) (.int .i32 (d.S4 l x)) (.int .i32 (d.S5 l x)) (.int .i32 (d.S6 l x))).drew) :=
                  ⟨keep _ _ _ hnl p3, keep _ _ _ (by omega) s1, keep _ _ _ (by omega) u1, keep _ _ _ (by omega) s2, keep _ _ _ (by omega) u2, keep _ _ _ (by omega) s3, keep _ _ _ (by omega) u3, keep _ _ _ (by omega) s4, keep _ _ _ (by omega) u4, keep _ _ _ (by omega) s5, keep _ _ _ (by omega) u5, keep _ _ _ (by omega) s6, keep _ _ _ (by omega) u6⟩
                have HRA := Hid.mk R'.drew
                have HBA := Hid.mk (hbel.trans (below_of_grown GA hbel.size (fun _ e => by cases e; exact hBa))).drew
                clear hcv hc2 hc3 hc4 hc5 hc6 t1 t2 t3 t4 t5 t6 hbv1 hbv2 hbv3 hbv4 hbv5 hbv6 hcua hap hrv hr2 hr3 hr4 hr5 hr6 keep hnl GA R R' hbel p4
                go_wp2
                go_region_held (fun W => W.cell? ⟨lb, l * 10 + 3, none⟩ = some (.slice (some ⟨ab, 0, none⟩) (d.L1 l) (d.L1 l)) ∧ W.cell? ⟨bv, ofv + l, none⟩ = some (.slice (some ⟨e1, f1, none⟩) (d.L1 l) vc) ∧ W.cell? ⟨e1, f1 + x, none⟩ = some (.string (d.S1 l x))
                  ∧ W.cell? ⟨b2, o2 + l, none⟩ = some (.slice (some ⟨e2, f2, none⟩) (d.L1 l) kc2) ∧ W.cell? ⟨e2, f2 + x, none⟩ = some (.int .i32 (d.S2 l x))
                  ∧ W.cell? ⟨b3, o3 + l, none⟩ = some (.slice (some ⟨e3, f3, none⟩) (d.L1 l) kc3) ∧ W.cell? ⟨e3, f3 + x, none⟩ = some (.int .i32 (d.S3 l x))
                  ∧ W.cell? ⟨b4, o4 + l, none⟩ = some (.slice (some ⟨e4, f4, none⟩) (d.L1 l) kc4) ∧ W.cell? ⟨e4, f4 + x, none⟩ = some (.int .i32 (d.S4 l x))
                  ∧ W.cell? ⟨b5, o5 + l, none⟩ = some (.slice (some ⟨e5, f5, none⟩) (d.L1 l) kc5) ∧ W.cell? ⟨e5, f5 + x, none⟩ = some (.int .i32 (d.S5 l x))
                  ∧ W.cell? ⟨b6, o6 + l, none⟩ = some (.slice (some ⟨e6, f6, none⟩) (d.L1 l) kc6) ∧ W.cell? ⟨e6, f6 + x, none⟩ = some (.int .i32 (d.S6 l x))) (first | (simp only [six_eq]; exact HK.out) | go_keep) (fail)
                simp only [six_eq]
                clear s1 s2 s3 s4 s5 s6 u1 u2 u3 u4 u5 u6 z0 z1 z2 z3 z4 z5 p3 hfza
                generalize (six wr ab (x * 6) (.int .i32 (d.S2 l x)) (.string (d.S1 l x)) (.int .i32 (d.S3 l x)) (.int .i32 (d.S4 l x)) (.int .i32 (d.S5 l x)) (.int .i32 (d.S6 l x))).drew = w6 at *
                obtain ⟨_, s1, u1, _⟩ := HK.out
                obtain ⟨_, _, p4, _, _⟩ := HRA.out.list hln
                simp only [if_true] at p4
                obtain ⟨wM, hrM, hbM, RM⟩ := HRA.out.drew.mapStep (l := l) (x := x) (mn := mn) hln (by simp only [if_true, lsAt, List.length_set, appsTo_length]; exact hxl) (by omega) d (by simp [lsAt]) (by simp) HS
                have RZ : Hid (Rep w.heap.size wM hb ⟨.slice (some ⟨tb, 0, none⟩) k k, lb, fun i => if i = l then .slice a1 (d.L0 l) ca1 else ov i, fun i => if i = l then .slice (some ⟨ab, 0, none⟩) (d.L1 l) (d.L1 l) else av i, fun i => if i = l then mn else mb i, nL⟩ ⟨T0, l + 1, fun i => if i = l then lsAt d l (x + 1) else lsTo d l i⟩) := by
                  refine cast ?_ RM
                  congr
                  funext i
                  by_cases hi : i = l
                  · simp [hi, lsAt, appsTo]
                  · simp [hi]
                have BZ := Hid.mk (HBA.out.drew.trans hbM)
                clear RM hbM HRA HBA HK
                go_wp2_with fail
                go_region
                go_wp2
                go_roundw
                case rel => exact ⟨x + 1, by omega, by go_num, RZ.out, BZ.out⟩
                case measure => simp [intOf]; omega
              · have e : x = d.L1 l := by omega
                subst e
                have R2 : Hid (Rep w.heap.size wr hb ⟨.slice (some ⟨tb, 0, none⟩) k k, lb, fun i => if i = l then .slice a1 (d.L0 l) ca1 else ov i, fun i => if i = l then .slice (some ⟨ab, 0, none⟩) (d.L1 l) (d.L1 l) else av i, fun i => if i = l then mn else mb i, nL⟩ ⟨T0, l + 1, lsTo d (l + 1)⟩) := R
                have B2 := Hid.mk hbel
                clear R hbel
                go_wp2
                go_roundw
                case rel => exact ⟨l + 1, _, _, _, by omega, by go_num, R2.out, B2.out⟩
                case measure => simp [intOf]; omega
          · have e : l = nL := by omega
            subst e
            have R2 := Hid.mk R
            have B2 := Hid.mk hbel
            clear R hbel
            go_wp2
            go_ret
            refine ⟨hb, .slice (some ⟨tb, 0, none⟩) k k, lb, ov, av, mb, rfl, ?_, B2.out⟩
            have := R2.out
            unfold newHi
            rw [HnL.out, HnO.out, Hoc.out, HT0.out]
            exact this
end Go.Proofs.Qxb6602594a
