import Derived.Test.Qxb6602719aVals
import Derived.Test.Qxb6602719aShelf
import Derived.Maps.AppendAt
import Derived.Sort.OwnSorted
import Derived.Laws.IdiomRangeMap
import Derived.OwnWalk
namespace Go.Proofs.Qxb6602719a
open Go.RowKit Go.Maps Go.Sort

/-- a bool came back; the world may have drawn -/
def FoldPost (w : World) (b : Bool) (e : Ending) (w' : World) : Prop := w.grownBy w' none ∧ e = .returned (.bool b)

theorem zero33 (w : World) : (zeroValue 33).run Try.prog w = .ok (.slice none 0 0) w := by
  rw [Try.zeroValue33]

theorem keyOf_enc {x : List UInt8} (h : x.length ≤ 1048576) : keyOf Try.prog 9 (encStr x) = some (.string x) := by
  have := WideMaps.keyOf_string_mk (P := Try.prog) (k := 9) (s := ⟨x.toArray⟩) Try.underlying9 (by show x.toArray.size ≤ maxLen; unfold maxLen; simp; omega)
  simpa [encStr] using this

/-- what the map gives at a chosen key, and where its row lies -/
theorem look_at {w : World} {b n : Nat} {D : DataW Value} {V : View} {nm x : List UInt8} (h : w.ownsMap Try.prog 9 RH b n D) (hV : Holds' w D V) (hB : Bnd V) (hs : sel V nm x = true) :
    ∃ l b' o' c, V x = some l ∧ 0 < l.length ∧ (Instr.lookup 40 (.map (some b)) (encStr x) false).run Try.prog w = .ok (.slice (some ⟨b', o', none⟩) l.length c) w ∧ ∀ j u, (l.map Value.string)[j]? = some u → w.cell? (Addr.add ⟨b', o', none⟩ j) = some u := by
  obtain ⟨l, hl, hne, _⟩ := sel_some hs
  obtain ⟨_, ar, cr, hat, hrw⟩ := (hV x).2 l hl
  obtain ⟨v, ps, hrun, hv⟩ := h.lookup law9 Try.underlying40 (zero33 w) (zd := .held (.slice none 0 0)) (zp := []) rfl (keyOf_enc (hB.key x l hl))
  have hv' : v = .slice ar l.length cr := by
    rw [hat] at hv
    simp only [RH, Option.some.injEq, Prod.mk.injEq, DataW.held.injEq] at hv
    exact hv.1
  subst hv'
  obtain ⟨b', o', rfl, _, hcells⟩ := hrw.addr (List.length_pos_iff.2 hne)
  refine ⟨l, b', o', cr, hl, List.length_pos_iff.2 hne, hrun, fun j u hu => ?_⟩
  rw [List.getElem?_map] at hu
  cases hj : l[j]? with
  | none => rw [hj] at hu; cases hu
  | some y =>
    rw [hj] at hu
    cases hu
    have hjl := (List.getElem?_eq_some_iff.1 hj).1
    rw [add_eq, hcells j hjl]
    simp [List.getD, hj]

theorem heap_drewN (w : World) (m : Nat) : w.grownBy (w.drewN m) none := ⟨rfl, rfl, rfl, Nat.le_refl _, fun _ _ _ => rfl⟩

theorem foldEnc (x : List UInt8) (t : ByteArray) (w : World) (h : x.length ≤ 1048576) : Calls Try.prog 27 #[encStr x, .string t] w (FoldPost w (foldL x t.data.toList)) := by
  refine (equalFold ⟨x.toArray⟩ t w (by simpa [ByteArray.size] using h)).mono ?_
  rintro e w' ⟨⟨m, rfl⟩, rfl⟩
  exact ⟨heap_drewN _ _, rfl⟩

set_option maxRecDepth 100000 in
set_option maxHeartbeats 1000000 in
theorem header_nil (cb : Nat) (nm : ByteArray) (w : World) (hc : w.cell? ⟨cb, 6, none⟩ = some (.map none)) :
    Calls Try.prog 28 #[.pointer (some ⟨cb, 0, none⟩), .string nm] w (Head w (fun _ => none) nm.data.toList) := by
  have hrg := run_range_nilMap (P := Try.prog) w 40 9 33 Try.underlying40
  have hnx : ∀ ty, (Instr.next (.pointer (some ⟨w.heap.size, 0, none⟩)) false ty).run Try.prog (w.alloc (.mapIter none 0 #[] 0)) = _ := fun ty => run_next_nilMap _ ty 0 0 #[]
  go_enter Try.func28, Try.ntmps28
  go_wp2
  go_loopw [6] (fun v wr => v = .slice none 0 0 ∧ wr = w.alloc (.mapIter none 0 #[] 0)) (fun _ _ => 0)
  case atStart => exact ⟨rfl, rfl⟩
  case round =>
    obtain ⟨rfl, rfl⟩ := hrel
    go_wp2
    go_ret2
    exact head_nil ((Below.refl _ _).alloc (Nat.le_refl _) _)

set_option maxRecDepth 100000 in
set_option maxHeartbeats 1000000 in
theorem header_some (cb b n : Nat) (nm : ByteArray) (w : World) (D : DataW Value) (V : View) (hc : w.cell? ⟨cb, 6, none⟩ = some (.map (some b))) (hown : w.ownsMap Try.prog 9 RH b n D) (hV : Holds' w D V) (hB : Bnd V) (hn : n ≤ 8192) :
    Calls Try.prog 28 #[.pointer (some ⟨cb, 0, none⟩), .string nm] w (Head w V nm.data.toList) := by
  have hbl := hown.lt
  go_enter Try.func28, Try.ntmps28
  go_wp2_with (at_range; refine wpList_range_own _ rfl _ 40 rfl 9 33 law9 Try.underlying40 _ b n _ rfl hown ?_; intro w0 hrg0 hg0 hs0)
  go_frame
  go_loopw [6] (fun v wr => ∃ (left : Lit → Bool) (cnt : Nat) (ss : List (List UInt8)), wr.ranges Try.prog 9 RH b w.heap.size n D left cnt ∧ ss.length + cnt ≤ n ∧
      wr.ownsRow w.heap.size 9 1 v ss.length (ss.map encStr) ∧ CollSel V nm.data.toList left ss ∧ Below w.heap.size w wr)
    (fun _ wr => wr.rangeLeft b w.heap.size)
  case atStart =>
    exact ⟨_, _, [], hrg0, by have := hown.size_le; simpa using this, World.ownsRow_nil _ _ _ _, CollSel.start hV _, (Below.refl _ _).grown hg0 (Nat.le_refl _) (fun j hj => by cases hj)⟩
  case round =>
    obtain ⟨left, cnt, ss, hrg, hcs, hrow, hC, hnx⟩ := hrel
    go_wp2_with (at_next; refine wpList_next_ranges _ rfl _ rfl 9 law9 RH encStr (fun v : Value => v) (fun key kl hk => by obtain ⟨x, hx, _⟩ := Maps.keyOf_str Try.underlying9 hk; exact ⟨x, hx⟩) (fun v y _ => ⟨v, rfl⟩) b w.heap.size n _ _ _ rfl hrg ?_ ?_)
    · intro hc0 hl0
      have hdone := hC.done hl0
      have hnd := hC.1
      by_cases hss : ss = []
      · subst hss
        obtain ⟨ra, rc, rfl⟩ := ownsRow_shape hrow
        have HF : Hid (∀ x, x ∈ ([] : List (List UInt8)) ↔ sel V nm.data.toList x = true) := hdone
        clear hdone hC hrow hrg hrg0 hcs hl0 hc0
        simp only [List.length_nil]
        go_wp2
        go_ret2
        exact ⟨[], List.nodup_nil, HF.out, by rw [joined_nil]; rfl, hnx⟩
      · have hpos : 0 < ss.length := List.length_pos_iff.2 hss
        rcases hrow.2 with ⟨_, h0⟩ | ⟨g, cap, cur, rfl, hbase, hb, h1, h2, h3, h4⟩
        · omega
        have hH : Go.Sort.Holds encStr wr g 0 ss.toArray := holds_of_block hb (by simpa using h4)
        have hgl : g < wr.heap.size := (Array.getElem?_eq_some_iff.1 hb).1
        have hcall := Try.slices_Sort_string g 0 cap ss wr hH hgl (by omega)
        go_wp2_with (go_at_call 34; refine hcall.mono ?_; rintro e wS' ⟨rfl, nn, os, rfl⟩)
        obtain ⟨ts, hts⟩ : ∃ ts, ts = ss.mergeSort (fun x y => decide (x ≤ y)) := ⟨_, rfl⟩
        rw [← hts]
        have htl : ts.length = ss.length := by rw [hts]; simp
        have htsel : ∀ x ∈ ts, sel V nm.data.toList x = true := fun x hx => (hdone x).1 (by rw [hts] at hx; exact List.mem_mergeSort.1 hx)
        have hgS : wr.grownBy (grow (putRow encStr («Sort».ahead wr nn) g 0 ts.toArray) os) (some g) := grownBy_sorted _
        have hoS : (grow (putRow encStr («Sort».ahead wr nn) g 0 ts.toArray) os).ownsRow w.heap.size 9 1 (.slice (some ⟨g, 0, none⟩) ss.length cap) ss.length (ts.map encStr) := ownsRow_sorted htl hbase hb h1 h2 h3
        have HF : Hid (∀ w', Below w.heap.size w w' → Head w V nm.data.toList (.returned (.tuple #[.string ⟨(Lib.join ((vals V ts).map (·.data.toList)) [44]).toArray⟩, .bool true])) w') := by
          intro w' hw'
          refine ⟨ss, hnd, hdone, ?_, hw'⟩
          rw [hts]
          cases ss with
          | nil => exact absurd rfl hss
          | cons x ss => rfl
        have hBS := hnx.grown hgS hnx.size (fun j hj => by cases hj; exact hbase)
        have hln : ss.length ≤ n := by omega
        generalize grow (putRow encStr («Sort».ahead wr nn) g 0 ts.toArray) os = wS at *
        generalize ss.length = m at *
        clear hts hgS hcall hH hb h1 h2 h3 h4 hrow hrg hrg0 hg0 hs0 hcs hC hc0 hl0 hdone hnd hss hnx
        have hmS := ownsMap_below hown hBS (Nat.le_refl _)
        have hVS := hV.below hBS (Nat.le_refl _)
        have hcS := (hBS.cell (p := ⟨cb, 6, none⟩) (World.block_lt_of_cell? _ _ hc)).trans hc
        have hcbS := World.block_lt_of_cell? _ _ hcS
        have hgS := (hoS.lt g rfl).2
        clear hown hV hc
        go_loopw [9, 41] (fun vv i wq => ∃ k : Nat, k ≤ m ∧ i = .int .i64 k ∧ wq.ownsRow wS.heap.size 9 1 vv (vals V (ts.take k)).length ((vals V (ts.take k)).map .string) ∧ Below wS.heap.size wS wq) (fun _ i _ => m - (intOf i).toNat)
        case atStart => exact ⟨0, by omega, rfl, World.ownsRow_nil _ _ _ _, Below.refl _ _⟩
        case round =>
          obtain ⟨k, hk, rfl, hrow, hbel⟩ := hrel
          by_cases hlt : k < m
          · have hkt : k < ts.length := by omega
            have hsx := htsel _ (List.getElem_mem hkt)
            have hcx : wr.cell? ⟨g, k, none⟩ = some (encStr ts[k]) := by
              rw [hbel.cell (p := ⟨g, k, none⟩) hgS, hoS.cellAt k (by omega), List.getElem?_map, List.getElem?_eq_getElem hkt]
              rfl
            have hcc := (hbel.cell (p := ⟨cb, 6, none⟩) hcbS).trans hcS
            obtain ⟨l, b', o', c, hl, hlp, hrun, hcells⟩ := look_at (ownsMap_below hmS hbel (Nat.le_refl _)) (hVS.below hbel (Nat.le_refl _)) hB hsx
            have HV : Hid (vals V (ts.take (k + 1)) = vals V (ts.take k) ++ l) := by
              show _ = _
              rw [vals_take_succ V ts hkt, hl]
              rfl
            have hvb := vals_bound hB (ts.take k)
            rw [List.length_take_of_le (by omega)] at hvb
            have hlb := hB.row _ l hl
            have hkb : k * 1048576 ≤ 8192 * 1048576 := Nat.mul_le_mul_right _ (by omega)
            have HLT : Hid (∀ j, u9.ownBlock = some j → wS.heap.size ≤ j) := fun j hj => (hrow.lt j hj).1
            have HC := Hid.mk hcells
            have hone : Hid (∀ u ∈ l.map Value.string, u.oneCell' = true) := fun u hu => by obtain ⟨y, _, rfl⟩ := List.mem_map.1 hu; rfl
            have HR := Hid.mk hrow
            have hBz := hbel.size
            generalize ts[k] = x at *
            generalize hvn : (vals V (ts.take k)).length = vn at *
            have hvn1 : vn + l.length ≤ 8589934592 + 1048576 := by omega
            have HVN := Hid.mk hvn
            clear hvb hlb hkb hrow hcells hvn
            obtain ⟨i0, hi, hz0, hz1, hz2⟩ := info_parts Try.info9
            go_wp2_with (at_builtin; refine wpList_append_own_at _ rfl (.tmp 45) (.tmp 51) 33 rfl wS.heap.size 9 i0 (.string ByteArray.empty) 1 16 Try.underlying33 hi hz0 hz1 hz2 rfl (by decide) u9 _ _ rfl HR.out ⟨b', o', none⟩ l.length c (l.map Value.string) rfl (by simp) HC.out hone.out (by unfold maxLen; omega) (by omega) hBz ?_; intro v' w4 hown' hg4 hnil4 hob4; go_frame)
            refine ⟨⟨k + 1, by omega, by go_num, ?_, hbel.grown hg4 hBz (fun j hj => HLT.out j hj)⟩, by simp [intOf]; omega⟩
            rw [HV.out, List.map_append, List.length_append, HVN.out]
            exact hown'
          · have hkm : k = ts.length := by omega
            subst hkm
            rw [List.take_length] at hrow
            have hvp := vals_pos htsel (fun e => by rw [e] at hk hlt htl; simp at htl; omega)
            have hvb := vals_bound hB ts
            have hjb := join_bound (vals V ts)
            have hkb : ts.length * 1048576 ≤ 8192 * 1048576 := Nat.mul_le_mul_right _ (by omega)
            rcases hrow.2 with ⟨_, h0⟩ | ⟨gv, capv, curv, rfl, hbv, hbb, q1, q2, q3, q4⟩
            · omega
            have hcs : ∀ (j : Nat) y, (vals V ts)[j]? = some y → wr.cell? ⟨gv, 0 + j, none⟩ = some (.string y) := fun j y hy => by
              rw [Nat.zero_add, hrow.cellAt j (by have := (List.getElem?_eq_some_iff.1 hy).1; omega), List.getElem?_map, hy]
              rfl
            have hcall := Try.strings_Join gv 0 capv (vals V ts) ⟨#[44]⟩ wr hcs (Array.getElem?_eq_some_iff.1 hbb).1 (by omega) q1 (by show (Lib.join _ [44]).length ≤ _; omega)
            have HB := Hid.mk (hBS.trans (hbel.mono hBS.size))
            have hBz := Nat.le_trans hBS.size hbel.size
            clear hcs hrow hbb hvb hjb hkb q1 q2 q3 q4 hbel hBS
            go_wp2_with (go_at_call 35; refine hcall.mono ?_; rintro e w5 ⟨rfl, h5⟩)
            go_ret2
            exact HF.out _ (HB.out.trans (h5.mono hBz))
    · intro x c kl yd yp w2 cnt2 hkey hlk hv hat hrg2 hlt hg2 hs2 hen
      obtain ⟨x', ex, rfl, _⟩ := Maps.keyOf_str Try.underlying9 hkey
      obtain rfl : x = x' := encStr_inj ex
      have hhas := has_true_of_atKey hat
      obtain ⟨l, hl⟩ : ∃ l, V x = some l := by
        cases hvx : V x with
        | none => rw [(hV x).1 hvx] at hhas; cases hhas
        | some l => exact ⟨l, rfl⟩
      obtain ⟨_, ar, cr, hat', hrw⟩ := (hV x).2 l hl
      have hcy : yd = .held c := by simp only [RH, Option.some.injEq, Prod.mk.injEq] at hv; exact hv.1.symm
      have hc' : c = .slice ar l.length cr := by
        have := (hat .nil).symm.trans (hat' .nil)
        rw [hcy] at this
        cases this
        rfl
      subst hc'
      have hrow2 := hrow.kept hg2 (Or.inr (row_ne_iter hrow hrg).symm)
      have hx1 := hB.key x l hl
      clear hs2 hkey hv hat hcy hhas hat' ex
      by_cases hle : l = []
      · subst hle
        have hsn : sel V nm.data.toList x = false := by simp [sel, hl]
        have H1 := Hid.mk (hC.skip hlk hsn)
        clear hsn
        simp only [List.length_nil] at hen ⊢
        go_wp2
        go_roundw
        case rel =>
          exact ⟨_, cnt2, ss, hrg2, by omega, hrow2, H1.out, hnx.grown hg2 hnx.size (fun j hj => by cases hj; exact Nat.le_refl _)⟩
        case measure => rw [hrg2.left_eq, hrg.left_eq]; exact hlt
      · have hlp : 0 < l.length := List.length_pos_iff.2 hle
        cases hf : foldL x nm.data.toList with
        | false =>
          have hsn : sel V nm.data.toList x = false := by simp [sel, hl, hf]
          have H1 := Hid.mk (hC.skip hlk hsn)
          clear hsn
          have hcall := foldEnc x nm
          rw [hf] at hcall
          go_wp2_with (go_at_call 27; refine (hcall _ hx1).mono ?_; rintro e w3 ⟨hg3, rfl⟩)
          have hrg3 := hrg2.kept hg3 (by simp) (by simp)
          refine ⟨⟨_, cnt2, ss, hrg3, by omega, hrow2.kept hg3 (by cases u6.ownBlock <;> simp), H1.out, ?_⟩, by rw [hrg3.left_eq, hrg.left_eq]; exact hlt⟩
          exact (hnx.grown hg2 hnx.size (fun j hj => by cases hj; exact Nat.le_refl _)).grown hg3 (Nat.le_trans hnx.size hg2.size) (fun j hj => by cases hj)
        | true =>
          have hsn : sel V nm.data.toList x = true := by simp [sel, hl, hf, hle]
          have H1 := Hid.mk (hC.take hlk hsn)
          clear hsn
          have hcall := foldEnc x nm
          rw [hf] at hcall
          obtain ⟨i0, hi, hz0, hz1, hz2⟩ := info_parts Try.info9
          have hrow3 := fun w3 (hg3 : w2.grownBy w3 none) => hrow2.kept hg3 (by cases u6.ownBlock <;> simp)
          have hz3 : ∀ w3 : World, w2.grownBy w3 none → w.heap.size ≤ w3.heap.size := fun w3 hg3 => Nat.le_trans hnx.size (Nat.le_trans hg2.size hg3.size)
          go_wp2_with (first
            | (go_at_call 27; refine (hcall _ hx1).mono ?_; rintro e w3 ⟨hg3, rfl⟩)
            | (at_builtin; refine wpList_append_own _ rfl _ _ 33 rfl w.heap.size 9 i0 (.string ByteArray.empty) 1 16 Try.underlying33 hi hz0 hz1 hz2 rfl (by decide) _ _ _ rfl ((hrow3 _ hg3).alloc _) ⟨w3.heap.size, 0, none⟩ 1 1 [encStr x] rfl rfl (cell_one_new _ _ _) (by simp [Value.oneCell', encStr]) (by unfold maxLen at *; omega) (by omega) (by have := hz3 _ hg3; simp; omega) ?_; intro v' w4 hown' hg4 hnil4; go_frame))
          have hrg3 := hrg2.kept hg3 (by simp) (by simp)
          have hrg4 := (hrg3.alloc _).kept hg4 (row_ne_low (hrow3 _ hg3) hbl) (row_ne_iter (hrow3 _ hg3) hrg3)
          have hsz3 := hz3 _ hg3
          go_roundw
          case rel =>
            refine ⟨_, cnt2, ss ++ [x], hrg4, by simp; omega, by simpa using hown', H1.out, ?_⟩
            exact (((hnx.grown hg2 hnx.size (fun j hj => by cases hj; exact Nat.le_refl _)).grown hg3 (Nat.le_trans hnx.size hg2.size) (fun j hj => by cases hj)).alloc hsz3 _).grown hg4 (by simp; omega) (fun j hj => ((hrow3 _ hg3).lt j hj).1)
          case measure => rw [hrg4.left_eq, hrg.left_eq]; exact hlt
end Go.Proofs.Qxb6602719a
