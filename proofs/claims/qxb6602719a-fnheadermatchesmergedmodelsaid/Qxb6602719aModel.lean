import Derived.Test.Qxb6602719aPick
import Derived.Test.Qxb6602719aFoldN
import Derived.BigQuiet
import Derived.Deep.RegionWith
import Derived.Lib.AppendStr
import Derived.Laws.IdiomStrings
import Derived.Maps.AppendAt
import Derived.OwnWalk
import Derived.Sort.Walk0
namespace Go.Proofs.Qxb6602719a
open Go.RowKit Go.Maps

theorem Try.info4 : (Try.prog.info? 4).map (fun i => (i.zero, i.size, i.bytes)) = some (some (.bool false), 1, 1) := by kernel_rfl
theorem Try.info5 : (Try.prog.info? 5).map (fun i => (i.zero, i.size, i.bytes)) = some (some (.int .u8 0), 1, 1) := by kernel_rfl

/-- the bytes l as cells -/
def byteCells (l : List UInt8) : List Value := l.map fun b => Value.int .u8 b.toNat

theorem drewN_below {B : Nat} {a w : World} (h : Below B a w) (d : Nat) : Below B a (w.drewN d) := ⟨h.os, h.tape, h.output, h.size, h.block⟩

theorem less_true {x y : ByteArray} (h : x.data.toList < y.data.toList) : Op.bytesLess x.toList y.toList = true := by
  rw [ByteArray.toList_eq, ByteArray.toList_eq, Go.Proofs.bytesLess_eq]
  exact decide_eq_true h
theorem less_false {x y : ByteArray} (h : ¬ x.data.toList < y.data.toList) : Op.bytesLess x.toList y.toList = false := by
  rw [ByteArray.toList_eq, ByteArray.toList_eq, Go.Proofs.bytesLess_eq]
  exact decide_eq_false h

theorem byteCells_append (a b : List UInt8) : byteCells (a ++ b) = byteCells a ++ byteCells b := by simp [byteCells]
theorem byteCells_str (s : ByteArray) : byteCells s.data.toList = Lib.strCells s := rfl

theorem rowOf_take_succ {L : Nat → Nat} {S : Nat → Nat → ByteArray} {b j : Nat} (h : j < L b) : (rowOf L S b).take (j + 1) = (rowOf L S b).take j ++ [S b j] := by
  rw [List.take_succ_eq_append_getElem (by rw [rowOf_length]; exact h)]
  simp [rowOf]

theorem total_take_le (l : List ByteArray) (j : Nat) : (l.take j).length + total (l.take j) ≤ l.length + total l := by
  have h := congrArg total (List.take_append_drop j l)
  have h2 := congrArg List.length (List.take_append_drop j l)
  rw [total_append] at h
  rw [List.length_append] at h2
  omega

/-- the search's answer as Go's int -/
def bestOf : Option Nat → Int
  | none => -1
  | some b => b

theorem pick_no_live {K : Nat → ByteArray} {L : Nat → Nat} {nm : ByteArray} {n i j : Nat} (h1 : i < j) (h2 : j < n) (h : (K j).data.toList = (K i).data.toList) : pick K L nm n i = false := by
  cases hp : pick K L nm n i with
  | false => rfl
  | true => exact absurd h ((pick_iff.1 hp).1 j h1 h2)

theorem pick_no_len {K : Nat → ByteArray} {L : Nat → Nat} {nm : ByteArray} {n i : Nat} (h : ¬ 0 < L i) : pick K L nm n i = false := by
  cases hp : pick K L nm n i with
  | false => rfl
  | true => exact absurd (pick_iff.1 hp).2.1 h

theorem pick_no_fold {K : Nat → ByteArray} {L : Nat → Nat} {nm : ByteArray} {n i : Nat} (h : foldEq (K i) nm = false) : pick K L nm n i = false := by
  cases hp : pick K L nm n i with
  | false => rfl
  | true => rw [(pick_iff.1 hp).2.2] at h; cases h

/-- the bools of the first k pairs are laid -/
def Laid1 (w : World) (B n : Nat) (P : Nat → Bool) (k : Nat) : Prop := w.rowIs B 4 n (fun i => .bool (decide (i < k) && P i))

theorem Laid1.no {w : World} {B n k : Nat} {P : Nat → Bool} (h : Laid1 w B n P k) (hp : P k = false) : Laid1 w B n P (k + 1) := by
  refine World.rowIs.congr h fun i _ => ?_
  by_cases e : i = k
  · subst e; simp [hp]
  · have : (decide (i < k + 1)) = decide (i < k) := by simp; omega
    rw [this]

theorem Laid1.yes {w : World} {B n k : Nat} {P : Nat → Bool} (h : Laid1 w B n P k) (hp : P k = true) : Laid1 (w.setCell ⟨B, k, none⟩ (.bool true)) B n P (k + 1) := by
  refine World.rowIs.congr (World.rowIs.set h k (.bool true)) fun i _ => ?_
  by_cases e : i = k
  · subst e; simp [hp]
  · have : (decide (i < k + 1)) = decide (i < k) := by simp; omega
    rw [if_neg e, this]

set_option maxRecDepth 100000 in
set_option maxHeartbeats 1000000 in
theorem headerModel (a0 a1 : Option Addr) (n c0 c1 : Nat) (L : Nat → Nat) (K : Nat → ByteArray) (S : Nat → Nat → ByteArray) (nm : ByteArray) (w : World) (hn : n ≤ 4096) (gk : ∀ i, i < n → (K i).size ≤ 1048576) (hB : Bnd (laid K L S n))
    (h0 : Row w a0 n (fun i => .string (K i))) (h1 : Rows2 w a1 n L (fun i j => .string (S i j))) (hL : ∀ i, i < n → L i ≤ 1048576) :
    Calls Try.prog 20 #[.slice a0 n c0, .slice a1 n c1, .string nm] w (Head w (laid K L S n) nm.data.toList) := by
  have hmk := run_make_row' (P := Try.prog) 57 4 (.bool false) 1 Try.underlying57 Try.info4 rfl .i64 .i64 n (by omega) (by omega)
  obtain ⟨P, hP⟩ : ∃ P, P = pick K L nm n := ⟨_, rfl⟩
  have HP := Hid.mk hP
  clear hP
  go_enter Try.func20, Try.ntmps20
  go_wp2
  clear hmk
  go_loopw [10, 11] (fun ns i wr => ∃ k : Nat, k ≤ n ∧ i = .int .i64 k ∧ ns = .int .i64 (idx P k).length ∧ Laid1 wr w.heap.size n P k ∧ Below w.heap.size w wr) (fun _ i _ => n - (intOf i).toNat)
  case atStart => exact ⟨0, by omega, rfl, rfl, (World.rowIs_made w _ n 4).congr (fun i _ => by simp), (Below.refl _ _).alloc (Nat.le_refl _) _⟩
  case round =>
    obtain ⟨k, hk, rfl, rfl, hrow, hbel⟩ := hrel
    obtain ⟨w1, hw1⟩ : ∃ w1, w1 = wr := ⟨wr, rfl⟩
    subst hw1
    have HR := Hid.mk hrow
    have HBe := Hid.mk hbel
    clear hrow hbel
    by_cases hlt : k < n
    · obtain ⟨b0, o0, rfl, hb0, hcells⟩ := h0.addr (by omega)
      have hck := (HBe.out.cell (p := ⟨b0, o0 + k, none⟩) hb0).trans (hcells k hlt)
      have HC : Hid (∀ i, i < n → w1.cell? ⟨b0, o0 + i, none⟩ = some (.string (K i))) := fun i hi => (HBe.out.cell (p := ⟨b0, o0 + i, none⟩) hb0).trans (hcells i hi)
      have H0 := Hid.mk h0
      have H1 := Hid.mk h1
      clear hcells h0 h1
      go_wp2
      go_loopw [12, 13] (fun lv j wq => ∃ m d : Nat, k < m ∧ m ≤ n ∧ lv = .bool true ∧ j = .int .i64 m ∧ wq = w1.drewN d ∧ ∀ q, k < q → q < m → (K q).data.toList ≠ (K k).data.toList) (fun _ j _ => n - (intOf j).toNat)
      case atStart => exact ⟨k + 1, 0, by omega, by omega, rfl, by go_num, rfl, fun q h1 h2 => by omega⟩
      case round =>
        obtain ⟨m, d, hm0, hm, rfl, rfl, hw, hne⟩ := hrel
        have HNE := Hid.mk hne
        have HW := Hid.mk hw
        clear hne
        by_cases hml : m < n
        · have c1 := HC.out m hml
          have c2 : wr.cell? ⟨b0, o0 + m, none⟩ = some (.string (K m)) := by rw [hw]; exact c1
          have c3 : wr.cell? ⟨b0, o0 + k, none⟩ = some (.string (K k)) := by rw [hw]; exact hck
          clear hw c1 hck
          by_cases he : (K m).data.toList = (K k).data.toList
          · have HX := Hid.mk (pick_no_live (L := L) (nm := nm) hm0 hml he)
            have he' : ((K m).toList == (K k).toList) = true := by rw [ByteArray.toList_eq, ByteArray.toList_eq, he]; simp
            clear he
            generalize K m = sm at *
            generalize K k = sk at *
            go_wp2
            go_quiet (fail)
            go_wp2
            go_roundw
            case rel => exact ⟨k + 1, by omega, by go_num, by rw [idx_succ, HP.out, HX.out]; simp, by rw [HW.out]; exact HR.out.no (by rw [HP.out]; exact HX.out), by rw [HW.out]; exact drewN_below (drewN_below HBe.out _) _⟩
            case measure => simp [intOf]; omega
          · have HX := Hid.mk he
            have he' : ((K m).toList == (K k).toList) = false := by rw [ByteArray.toList_eq, ByteArray.toList_eq]; simpa using he
            have HX2 : Hid (∀ q, k < q → q < m + 1 → (K q).data.toList ≠ (K k).data.toList) := fun q h1 h2 => by
              by_cases e : q = m
              · subst e; exact HX.out
              · exact HNE.out q h1 (by omega)
            clear he
            generalize hsm : K m = sm at *
            generalize hsk : K k = sk at *
            go_wp2
            go_quiet (fail)
            go_wp2
            go_roundw
            case rel => exact ⟨m + 1, _, by omega, by omega, rfl, by go_num, by rw [HW.out, World.drewN_drewN], HX2.out⟩
            case measure => simp [intOf]; omega
        · have HLv : Hid (∀ j, k < j → j < n → (K j).data.toList ≠ (K k).data.toList) := fun j h1 h2 => HNE.out j h1 (by omega)
          clear hw hck
          have c3 : wr.cell? ⟨b0, o0 + k, none⟩ = some (.string (K k)) := by rw [HW.out]; exact HC.out k hlt
          obtain ⟨b1, o1, ak, ck, rfl, hb1, hc1, _⟩ := H1.out k hlt
          have c4 : wr.cell? ⟨b1, o1 + k, none⟩ = some (.slice ak (L k) ck) := by rw [HW.out]; exact (HBe.out.cell (p := ⟨b1, o1 + k, none⟩) hb1).trans hc1
          clear hc1
          by_cases hl : 0 < L k
          · have hcall := fun w' => foldModel (K k) nm w' (gk k hlt)
            cases hf : foldEq (K k) nm with
            | false =>
              have HX := Hid.mk (pick_no_fold (L := L) (n := n) hf)
              rw [hf] at hcall
              generalize K k = sk at *
              generalize L k = lk at *
              go_wp2_with fail
              refine (hcall _).mono ?_
              rintro e w3 ⟨⟨d', hw3⟩, rfl⟩
              have HW3 : Hid (w3 = w1.drewN (d + d')) := Hid.mk (by rw [hw3, HW.out, World.drewN_drewN])
              clear hw3
              go_wp2
              go_roundw
              case rel => exact ⟨k + 1, by omega, by go_num, by rw [idx_succ, HP.out, HX.out]; simp, by rw [HW3.out]; exact HR.out.no (by rw [HP.out]; exact HX.out), by rw [HW3.out]; exact drewN_below HBe.out _⟩
              case measure => simp [intOf]; omega
            | true =>
              have HX := Hid.mk (pick_iff.2 ⟨HLv.out, hl, hf⟩)
              rw [hf] at hcall
              generalize K k = sk at *
              generalize L k = lk at *
              go_wp2_with fail
              refine (hcall _).mono ?_
              rintro e w3 ⟨⟨d', hw3⟩, rfl⟩
              have HW3 : Hid (w3 = w1.drewN (d + d')) := Hid.mk (by rw [hw3, HW.out, World.drewN_drewN])
              clear hw3
              have HR3 : Hid (Laid1 w3 w.heap.size n P k) := by rw [HW3.out]; exact HR.out
              have hd := World.rowIs.cell HR3.out hlt
              have hz := World.rowIs.frozen HR3.out k
              have HR4 := Hid.mk (HR3.out.yes (by rw [HP.out]; exact HX.out))
              have HB3 : Hid (Below w.heap.size w w3) := by rw [HW3.out]; exact drewN_below HBe.out _
              have hil : (idx P k).length ≤ k := by have := List.length_filter_le P (List.range k); simpa [idx] using this
              have HI : Hid ((idx P (k + 1)).length = (idx P k).length + 1) := Hid.mk (by rw [idx_succ, if_pos (by rw [HP.out]; exact HX.out)]; simp)
              generalize (idx P k).length = ni at *
              go_wp2
              go_roundw
              case rel => exact ⟨k + 1, by omega, by go_num, by rw [HI.out]; go_num, HR4.out, HB3.out.setCell (Nat.le_refl _) _⟩
              case measure => simp [intOf]; omega
          · have HX := Hid.mk (pick_no_len (K := K) (nm := nm) (n := n) hl)
            have hl0 : L k = 0 := by omega
            rw [hl0] at c4
            go_wp2
            go_roundw
            case rel => exact ⟨k + 1, by omega, by go_num, by rw [idx_succ, HP.out, HX.out]; simp, by rw [HW.out]; exact HR.out.no (by rw [HP.out]; exact HX.out), by rw [HW.out]; exact drewN_below HBe.out _⟩
            case measure => simp [intOf]; omega
    · have e : k = n := by omega
      subst e
      have hP := HP.out
      by_cases hz : (idx P k).length = 0
      · have HF : Hid (chosen K L nm k = []) := List.length_eq_zero_iff.1 (by rw [chosen_length, ← hP]; exact hz)
        have HS := Hid.mk (fun x => (chosen_sel (K := K) (L := L) (S := S) (nm := nm) (n := k) x))
        rw [hz]
        clear hP HP
        go_wp2
        go_ret2
        refine ⟨[], List.nodup_nil, fun x => ?_, by rw [joined_nil]; rfl, HBe.out⟩
        rw [← HS.out x, HF.out]
      · have hzp : 0 < (idx P k).length := by omega
        obtain ⟨ts, hts⟩ : ∃ ts, ts = (chosen K L nm k).mergeSort (fun x y => decide (x ≤ y)) := ⟨_, rfl⟩
        have htl : ts.length = (idx P k).length := by rw [hts, hP]; simp [chosen_length]
        have hil : (idx P k).length ≤ k := by have := List.length_filter_le P (List.range k); simpa [idx] using this
        have HST : Hid (Strict ts) := by rw [hts]; exact strict_sort chosen_nodup
        have HM : Hid (∀ x, x ∈ ts ↔ ∃ i, i < k ∧ P i = true ∧ x = (K i).data.toList) := fun x => by rw [hts, List.mem_mergeSort, mem_chosen, hP]
        have HF : Hid (∀ w', Below w.heap.size w w' → Head w (laid K L S k) nm.data.toList (.returned (.tuple #[.string ⟨(jn (vals (laid K L S k) ts)).toArray⟩, .bool true])) w') := by
          intro w' hw'
          refine ⟨chosen K L nm k, chosen_nodup, fun x => chosen_sel x, ?_, hw'⟩
          rw [hts]
          have hne : (!(chosen K L nm k).isEmpty) = true := by
            cases hc : chosen K L nm k with
            | nil => rw [hts, hc] at htl; simp at htl; omega
            | cons x xs => rfl
          rw [hne]
          rfl
        have HV : Hid (∀ i, i < k → P i = true → laid K L S k (K i).data.toList = some (rowOf L S i)) := fun i hi hp => laid_pick hi (by rw [hP] at hp; exact hp)
        have hcs := (World.rowIs.lt HR.out)
        have HRk : Hid (∀ i, i < k → w1.cell? ⟨w.heap.size, i, none⟩ = some (.bool (P i))) := fun i hi => by rw [World.rowIs.cell HR.out hi]; simp [hi]
        obtain ⟨b0, o0, rfl, hb0, hcells⟩ := h0.addr (by omega)
        have HC : Hid (∀ i, i < k → w1.cell? ⟨b0, o0 + i, none⟩ = some (.string (K i))) := fun i hi => (HBe.out.cell (p := ⟨b0, o0 + i, none⟩) hb0).trans (hcells i hi)
        have hb0' : b0 < w1.heap.size := Nat.lt_of_lt_of_le hb0 HBe.out.size
        have H1 := Hid.mk (h1.below HBe.out (Nat.le_refl _))
        have HLB := Hid.mk (fun (i : Nat) (hi : i < k) => hL i hi)
        clear hts hP HP h0 h1 hcells gk hL hlt hk HR hz hb0
        generalize laid K L S k = V at *
        generalize hns : (idx P k).length = ns at *
        clear hns
        obtain ⟨i5, hi5, hz5, hs5, hb5⟩ := info_parts Try.info5
        obtain ⟨w2, hmk2, hown2, hg2⟩ := run_make_own (P := Try.prog) w1 w1.heap.size 24 5 i5 (.int .u8 0) 1 Try.underlying24 hi5 hz5 hs5 .i64 .i64 64 (by rw [hb5]; decide) (by decide) (Nat.le_refl _)
        have hmk3 : (Instr.makeSlice 24 (.int .i64 0) (.int .i64 64)).run Try.prog w1 = .ok (.slice (some ⟨w1.heap.size, 0, none⟩) 0 64) w2 := hmk2
        have HO2 := Hid.mk hown2
        have HG2 := Hid.mk hg2
        clear hmk2 hown2 hg2
        have hns0 : ((ns : Int) == 0) = false := by simp; omega
        go_wp2
        clear hmk3
        go_loopw [14, 15, 16, 17] (fun out wn pv rd wq => ∃ (r : Nat) (p : ByteArray), r ≤ ns ∧ rd = .int .i64 r ∧ pv = .string p ∧ (∀ h : 0 < r, ∃ h' : r - 1 < ts.length, p.data.toList = ts[r - 1]) ∧ wn = .int .i64 (vals V (ts.take r)).length ∧
            wq.ownsRow w1.heap.size 5 1 out (jn (vals V (ts.take r))).length (byteCells (jn (vals V (ts.take r)))) ∧ out ≠ .slice none 0 0 ∧ Below w1.heap.size w1 wq) (fun _ _ _ rd _ => ns - (intOf rd).toNat)
        case atStart => exact ⟨0, _, by omega, rfl, rfl, fun h => by omega, rfl, HO2.out, by simp, (Below.refl _ _).grown HG2.out (Nat.le_refl _) (fun j hj => by cases hj)⟩
        case round =>
          obtain ⟨r, p, hr, rfl, rfl, hpv, rfl, hrow, hnn, hbel⟩ := hrel
          obtain ⟨w3, hw3⟩ : ∃ w3, w3 = wr := ⟨wr, rfl⟩
          subst hw3
          have HPV := Hid.mk hpv
          have HRw := Hid.mk hrow
          have HN := Hid.mk hnn
          have HB3 := Hid.mk hbel
          have hgr := hbel.size
          clear hpv hrow hnn hbel
          by_cases hrl : r < ns
          · have hvt : (vals V (ts.take r)).length + total (vals V (ts.take r)) ≤ 4294967296 := by
              have h1 := vals_bound hB (ts.take r)
              rw [List.length_take_of_le (by omega)] at h1
              have h2 : r * 1048576 ≤ 4096 * 1048576 := Nat.mul_le_mul_right _ (by omega)
              omega
            have HVL := Hid.mk hvt
            clear hvt
            have hvl : (vals V (ts.take r)).length ≤ 4294967296 := by have := HVL.out; omega
            generalize hvn : (vals V (ts.take r)).length = vn at *
            have HVN := Hid.mk hvn
            clear hvn
            go_wp2
            go_loopw [18, 19] (fun bt i wq => ∃ (q d : Nat) (o : Option Nat), q ≤ k ∧ i = .int .i64 q ∧ bt = .int .i64 (bestOf o) ∧ wq = w3.drewN d ∧ Found P (fun i => (K i).data.toList) (fun x => r = 0 ∨ p.data.toList < x) q o) (fun _ i _ => k - (intOf i).toNat)
            case atStart => exact ⟨0, 0, none, by omega, rfl, rfl, rfl, fun q hq => by omega⟩
            case round =>
              obtain ⟨q, d, o, hq, rfl, rfl, hw, hfd⟩ := hrel
              have HW := Hid.mk hw
              have HFD := Hid.mk hfd
              clear hfd
              by_cases hql : q < k
              · have cS : wr.cell? ⟨w.heap.size, q, none⟩ = some (.bool (P q)) := by rw [hw]; exact (HB3.out.cell (p := ⟨w.heap.size, q, none⟩) hcs).trans (HRk.out q hql)
                have cK : wr.cell? ⟨b0, o0 + q, none⟩ = some (.string (K q)) := by rw [hw]; exact (HB3.out.cell (p := ⟨b0, o0 + q, none⟩) hb0').trans (HC.out q hql)
                have HCK : Hid (∀ b, b < k → w3.cell? ⟨b0, o0 + b, none⟩ = some (.string (K b))) := fun b hb => (HB3.out.cell (p := ⟨b0, o0 + b, none⟩) hb0').trans (HC.out b hb)
                cases hpq : P q with
                | false =>
                  rw [hpq] at cS
                  have HX := Hid.mk (HFD.out.skip (.inl hpq))
                  clear hw cK
                  go_wp2
                  go_roundw
                  case rel => exact ⟨q + 1, d, o, by omega, by go_num, rfl, HW.out, HX.out⟩
                  case measure => simp [intOf]; omega
                | true =>
                  rw [hpq] at cS
                  have HPQ := Hid.mk hpq
                  clear hpq
                  by_cases hcand : ¬ (r = 0 ∨ p.data.toList < (K q).data.toList)
                  · have hr0 : 0 < r := by rcases Nat.eq_zero_or_pos r with h | h; (· exact absurd (.inl h) hcand); (· exact h)
                    have hls := less_false (x := p) (y := K q) (fun h => hcand (.inr h))
                    have HX := Hid.mk (HFD.out.skip (.inr hcand))
                    clear hw hcand
                    generalize K q = sq at *
                    go_wp2
                    go_roundw
                    case rel => exact ⟨q + 1, d, o, by omega, by go_num, rfl, HW.out, HX.out⟩
                    case measure => simp [intOf]; omega
                  · have hc := Decidable.not_not.1 hcand
                    clear hcand
                    cases o with
                    | none =>
                      have HX := Hid.mk (HFD.out.first HPQ.out hc)
                      rw [show bestOf none = -1 from rfl]
                      by_cases hr0 : r = 0
                      · have hr1 : ¬ 0 < r := by omega
                        clear hr0 hw HFD hc
                        generalize K q = sq at *
                        go_wp2
                        go_quiet (fail)
                        go_wp2
                        go_roundw
                        case rel => exact ⟨q + 1, _, some q, by omega, by go_num, rfl, by rw [HW.out, World.drewN_drewN], HX.out⟩
                        case measure => simp [intOf]; omega
                      · have hls' := less_true (hc.resolve_left hr0)
                        have hrp : 0 < r := by omega
                        clear hr0 hw HFD hc
                        generalize K q = sq at *
                        go_wp2
                        go_quiet (fail)
                        go_wp2
                        go_roundw
                        case rel => exact ⟨q + 1, _, some q, by omega, by go_num, rfl, by rw [HW.out, World.drewN_drewN], HX.out⟩
                        case measure => simp [intOf]; omega
                    | some b =>
                      have hb := HFD.out.1
                      have cB : wr.cell? ⟨b0, o0 + b, none⟩ = some (.string (K b)) := by rw [hw]; exact HCK.out b (by omega)
                      have hbz : decide ((b : Int) < 0) = false := decide_eq_false (by omega)
                      rw [show bestOf (some b) = (b : Int) from rfl]
                      by_cases hbt : (K q).data.toList < (K b).data.toList
                      · have hbl := less_true hbt
                        have HX := Hid.mk (HFD.out.better HPQ.out hc hbt)
                        clear hbt
                        by_cases hr0 : r = 0
                        · have hr1 : ¬ 0 < r := by omega
                          clear hr0 hw HFD hc
                          generalize K q = sq at *
                          go_wp2
                          go_quiet (fail)
                          go_wp2
                          go_roundw
                          case rel => exact ⟨q + 1, _, some q, by omega, by go_num, rfl, by rw [HW.out, World.drewN_drewN], HX.out⟩
                          case measure => simp [intOf]; omega
                        · have hls' := less_true (hc.resolve_left hr0)
                          have hrp : 0 < r := by omega
                          clear hr0 hw HFD hc
                          generalize K q = sq at *
                          go_wp2
                          go_quiet (fail)
                          go_wp2
                          go_roundw
                          case rel => exact ⟨q + 1, _, some q, by omega, by go_num, rfl, by rw [HW.out, World.drewN_drewN], HX.out⟩
                          case measure => simp [intOf]; omega
                      · have hbl := less_false hbt
                        have HX := Hid.mk (HFD.out.keep hbt)
                        clear hbt
                        by_cases hr0 : r = 0
                        · have hr1 : ¬ 0 < r := by omega
                          clear hr0 hw HFD hc
                          generalize K q = sq at *
                          go_wp2
                          go_quiet (fail)
                          go_wp2
                          go_roundw
                          case rel => exact ⟨q + 1, _, some b, by omega, by go_num, rfl, by rw [HW.out, World.drewN_drewN], HX.out⟩
                          case measure => simp [intOf]; omega
                        · have hls' := less_true (hc.resolve_left hr0)
                          have hrp : 0 < r := by omega
                          clear hr0 hw HFD hc
                          generalize K q = sq at *
                          go_wp2
                          go_quiet (fail)
                          go_wp2
                          go_roundw
                          case rel => exact ⟨q + 1, _, some b, by omega, by go_num, rfl, by rw [HW.out, World.drewN_drewN], HX.out⟩
                          case measure => simp [intOf]; omega
              · have hfd : Found P (fun i => (K i).data.toList) (fun x => r = 0 ∨ p.data.toList < x) k o := by
                  have e : q = k := by omega
                  rw [← e]
                  exact HFD.out
                obtain ⟨b, rfl, hbn, hpb, hkb⟩ := hfd.done HST.out HM.out (by omega) (fun h => (HPV.out h).2)
                have HKB := Hid.mk hkb
                have cK : wr.cell? ⟨b0, o0 + b, none⟩ = some (.string (K b)) := by rw [hw]; exact (HB3.out.cell (p := ⟨b0, o0 + b, none⟩) hb0').trans (HC.out b hbn)
                obtain ⟨b1, o1, ab, cb, rfl, hb1, hc1, hr1⟩ := H1.out b hbn
                have HR1 := Hid.mk hr1
                have HC1 := Hid.mk hc1
                have c4 : wr.cell? ⟨b1, o1 + b, none⟩ = some (.slice ab (L b) cb) := by rw [hw]; exact (HB3.out.cell (p := ⟨b1, o1 + b, none⟩) hb1).trans hc1
                have HVR := Hid.mk (HV.out b hbn hpb)
                have HT : Hid (vals V (ts.take (r + 1)) = vals V (ts.take r) ++ rowOf L S b) := Hid.mk (by rw [vals_take_succ V ts (by omega), ← hkb, HVR.out]; rfl)
                have HYB : Hid (∀ j, (jn (vals V (ts.take r) ++ (rowOf L S b).take j)).length ≤ 4294967296 + 1048576) := fun j => by
                  have h1 := jn_len (vals V (ts.take r) ++ (rowOf L S b).take j)
                  have h2 := total_take_le (rowOf L S b) j
                  have h3 := hB.row _ _ HVR.out
                  have h4 := HVL.out
                  have h5 := HVN.out
                  rw [total_append, List.length_append] at h1
                  omega
                have hlb := HLB.out b hbn
                have HO : Hid (wr.ownsRow w1.heap.size 5 1 u14 (jn (vals V (ts.take r) ++ (rowOf L S b).take 0)).length (byteCells (jn (vals V (ts.take r) ++ (rowOf L S b).take 0)))) := Hid.mk (by rw [hw, List.take_zero, List.append_nil]; exact HRw.out)
                have HBw : Hid (Below w1.heap.size w1 wr) := Hid.mk (by rw [hw]; exact drewN_below HB3.out _)
                have HRS : Hid (∀ j, j < L b → (rowOf L S b).take (j + 1) = (rowOf L S b).take j ++ [S b j]) := fun j hj => rowOf_take_succ hj
                have HL0 := Hid.mk (rowOf_length L S b)
                have HRL : Hid ((rowOf L S b).take (L b) = rowOf L S b) := Hid.mk (by rw [List.take_of_length_le (by rw [rowOf_length]; exact Nat.le_refl _)])
                rw [show bestOf (some b) = (b : Int) from rfl]
                generalize rowOf L S b = rw0 at *
                generalize hxs : vals V (ts.take r) = xs at *
                generalize L b = lb at *
                clear hw hc1 hr1 hkb hpb HFD hfd
                go_wp2
                go_loopw [14, 15, 20] (fun out wn jv wq => ∃ j : Nat, j ≤ lb ∧ jv = .int .i64 j ∧ wn = .int .i64 (vn + j) ∧ wq.ownsRow w1.heap.size 5 1 out (jn (xs ++ rw0.take j)).length (byteCells (jn (xs ++ rw0.take j))) ∧ out ≠ .slice none 0 0 ∧ Below w1.heap.size w1 wq) (fun _ _ jv _ => lb - (intOf jv).toNat)
                case atStart => exact ⟨0, by omega, rfl, by simp, HO.out, HN.out, HBw.out⟩
                case round =>
                  obtain ⟨j, hj, rfl, rfl, hrw5, hnn5, hbel5⟩ := hrel
                  have c5 := (hbel5.cell (p := ⟨b1, o1 + b, none⟩) hb1).trans HC1.out
                  have c6 := (hbel5.cell (p := ⟨b0, o0 + b, none⟩) hb0').trans (HC.out b hbn)
                  have g5 := hbel5.size
                  have HRw5 := Hid.mk hrw5
                  have HN5 := Hid.mk hnn5
                  have HB5 := Hid.mk hbel5
                  clear hrw5 hnn5 hbel5 c4 cK
                  by_cases hjl : j < lb
                  · obtain ⟨b2, o2, rfl, hb2, hc2⟩ := HR1.out j hjl
                    simp only at hc2
                    have c7 := (HB5.out.cell (p := ⟨b2, o2 + j, none⟩) hb2).trans hc2
                    have hyb := HYB.out j
                    have hyb' := HYB.out (j + 1)
                    have hyl : (xs ++ rw0.take j).length = vn + j := by rw [List.length_append, HVN.out, List.length_take_of_le (by rw [HL0.out]; omega)]
                    have HYS : Hid (xs ++ rw0.take (j + 1) = xs ++ rw0.take j ++ [S b j]) := Hid.mk (by rw [HRS.out j hjl, List.append_assoc])
                    rw [HYS.out] at hyb'
                    generalize hys : xs ++ rw0.take j = ys at *
                    clear hys
                    by_cases hvj : 0 < vn + j
                    · have hjs := jn_snoc (xs := ys) (fun e => by rw [e] at hyl; simp at hyl; omega) (S b j)
                      have hsl : (jn ys).length + 1 + (S b j).size ≤ 4294967296 + 1048576 := by
                        rw [hjs] at hyb'
                        simp only [List.length_append, List.length_cons, List.length_nil, len_data] at hyb'
                        omega
                      have HJS := Hid.mk hjs
                      have HSL := Hid.mk hsl
                      have HLT : Hid (∀ g, u14.ownBlock = some g → w1.heap.size ≤ g) := fun g hg => (HRw5.out.lt g hg).1
                      have HC2 := Hid.mk hc2
                      clear hjs hsl hyb hyb' hyl hc2
                      generalize S b j = sv at *
                      generalize hjn : (jn ys).length = jl at *
                      have HJN := Hid.mk hjn
                      clear hjn
                      go_wp2_with (first
                        | (at_builtin; refine Lib.wpList_append_own_string _ rfl _ _ 24 9 rfl w1.heap.size 5 i5 Try.underlying24 Try.underlying9 hi5 hz5 hs5 hb5 _ _ _ rfl hown4 sv rfl (by have := HSL.out; unfold maxLen; omega) (by have := HSL.out; omega) hsz4 ?_; intro v5 w6 hown6 hg6 hnil6; go_frame)
                        | (at_builtin; refine wpList_append_own _ rfl _ _ 24 rfl w1.heap.size 5 i5 (.int .u8 0) 1 1 Try.underlying24 hi5 hz5 hs5 hb5 rfl (by decide) _ _ _ rfl (HRw5.out.alloc _) ⟨wr.heap.size, 0, none⟩ 1 1 [.int .u8 44] rfl rfl (cell_one_new _ _ _) (by simp [Value.oneCell']) (by have := HSL.out; unfold maxLen; omega) (by have := HSL.out; omega) (by simp; omega) ?_; intro v4 w4 hown4 hg4 hnil4; have B4 := Hid.mk ((HB5.out.alloc g5 _).grown hg4 (by simp; omega) (fun g hg => HLT.out g hg)); have d5 := (B4.out.cell (p := ⟨b1, o1 + b, none⟩) hb1).trans HC1.out; have d7 := (B4.out.cell (p := ⟨b2, o2 + j, none⟩) hb2).trans HC2.out; have hsz4 := B4.out.size; go_frame))
                      have hg6' : w4.grownBy w6 v4.ownBlock := hg6
                      have hnil4' : v4 = .slice none 0 0 ↔ u14 = .slice none 0 0 ∧ 1 = 0 := hnil4
                      have hnil6' : v5 = .slice none 0 0 ↔ v4 = .slice none 0 0 ∧ sv.size = 0 := hnil6
                      have hl4 : ∀ g, v4.ownBlock = some g → w1.heap.size ≤ g := fun g hg => (hown4.lt g hg).1
                      refine ⟨⟨j + 1, by omega, by go_num, by go_num, ?_, fun e => by have := (hnil4'.1 (hnil6'.1 e).1).2; omega, B4.out.grown hg6' hsz4 hl4⟩, by simp [intOf]; omega⟩
                      rw [HYS.out, HJS.out, byteCells_append, byteCells_append, byteCells_str]
                      simp only [List.length_append, List.length_cons, List.length_nil, len_data, HJN.out]
                      exact hown6
                    · have hv0 : vn = 0 := by omega
                      have hj0 : j = 0 := by omega
                      have hye : ys = [] := List.length_eq_zero_iff.1 (by omega)
                      have HJ0 := Hid.mk (jn_one (S b j))
                      have HLT : Hid (∀ g, u14.ownBlock = some g → w1.heap.size ≤ g) := fun g hg => (HRw5.out.lt g hg).1
                      have HRz : Hid (wr.ownsRow w1.heap.size 5 1 u14 0 []) := Hid.mk (by have := HRw5.out; rw [hye, jn_nil] at this; exact this)
                      rw [hye, List.nil_append, jn_one, len_data] at hyb'
                      have HYZ := Hid.mk hye
                      clear hyb hyl hc2 hye HRw5 hv0 hj0
                      generalize S b j = sv at *
                      go_wp2_with (at_builtin; refine Lib.wpList_append_own_string _ rfl _ _ 24 9 rfl w1.heap.size 5 i5 Try.underlying24 Try.underlying9 hi5 hz5 hs5 hb5 _ _ _ rfl HRz.out sv rfl (by unfold maxLen; omega) (by omega) g5 ?_; intro v5 w6 hown6 hg6 hnil6; go_frame)
                      have hg6' : wr.grownBy w6 u14.ownBlock := hg6
                      have hnil6' : v5 = .slice none 0 0 ↔ u14 = .slice none 0 0 ∧ sv.size = 0 := hnil6
                      refine ⟨⟨j + 1, by omega, by go_num, by go_num, ?_, fun e => HN5.out (hnil6'.1 e).1, HB5.out.grown hg6' g5 HLT.out⟩, by simp [intOf]; omega⟩
                      rw [HYS.out, HYZ.out, List.nil_append, HJ0.out, byteCells_str, len_data]
                      rw [Nat.zero_add, List.nil_append] at hown6
                      exact hown6
                  · have e : j = lb := by omega
                    have HOe : Hid (wr.ownsRow w1.heap.size 5 1 u14 (jn (xs ++ rw0)).length (byteCells (jn (xs ++ rw0)))) := Hid.mk (by have := HRw5.out; rw [e, HRL.out] at this; exact this)
                    have HLE : Hid ((xs ++ rw0).length = vn + j) := Hid.mk (by rw [List.length_append, HVN.out, HL0.out, e])
                    clear HRw5
                    generalize K b = kb at *
                    go_wp2
                    go_roundw
                    case rel => exact ⟨r + 1, kb, by omega, by go_num, rfl, fun _ => ⟨by omega, by simpa using HKB.out⟩, by rw [HT.out, HLE.out]; go_num, by rw [HT.out]; exact HOe.out, HN5.out, HB5.out⟩
                    case measure => simp [intOf]; omega
          · have e2 : r = ts.length := by omega
            have h9 := HRw.out
            rw [e2, List.take_length] at h9
            generalize hjl : jn (vals V ts) = jl at *
            rcases h9.2 with ⟨e, _⟩ | ⟨g, cap, cur, rfl, hgb, hblk, q1, q2, q3, q4⟩
            · exact absurd e HN.out
            have hcv := run_convert_bytes_back (P := Try.prog) w3 24 9 5 ⟨g, 0, none⟩ cap jl Try.underlying24 Try.underlying5 Try.underlying9 (fun j hj => by
              rw [add_eq, Nat.zero_add, h9.cellAt j (by omega)]
              simp [byteCells, hj])
            have HB9 := Hid.mk (HBe.out.trans (HB3.out.mono HBe.out.size))
            clear h9 hblk q3 q4 e2 HRw
            go_wp2
            go_ret2
            exact HF.out _ HB9.out
end Go.Proofs.Qxb6602719a
