import Derived.Test.Qxb6602719aZh
import Derived.Test.Qxb6602719aClone2
namespace Go.Proofs.Qxb6602719a
open Go.RowKit Go.Maps

/-- true came back; what was there is as it was -/
def Good (w : World) (e : Ending) (w' : World) : Prop := e = .returned (.bool true) ∧ Below w.heap.size w w'

theorem Good.same {w : World} : Good w (.returned (.bool true)) w := ⟨rfl, Below.refl _ _⟩

theorem MapIs.shape {w : World} {n : Nat} {v : Value} {V : View} (h : MapIs w n v V) : ∃ o, v = .map o := by
  cases h
  · exact ⟨_, rfl⟩
  · exact ⟨_, rfl⟩

theorem box_cell (w : World) (o : Option Nat) : (w.alloc (.cells #[.string ⟨#[]⟩, .pointer none, .int .i64 0, .slice none 0 0, .slice none 0 0, .string ⟨#[]⟩, .map o] 47)).cell? ⟨w.heap.size, 6, none⟩ = some (.map o) := by
  have := heap_alloc_new w (.cells #[.string ⟨#[]⟩, .pointer none, .int .i64 0, .slice none 0 0, .slice none 0 0, .string ⟨#[]⟩, .map o] 47)
  unfold World.cell?
  rw [this]
  rfl

/-- two calls lie in memory, each with its map -/
structure Two (w : World) (c1 c2 : Nat) (v1 v2 : Value) (k : Nat) (V : View) (x : List UInt8) : Prop where
  l1 : w.cell? ⟨c1, 6, none⟩ = some v1
  l2 : w.cell? ⟨c2, 6, none⟩ = some v2
  m1 : MapIs w k v1 V
  m2 : MapIs w (k + 1) v2 (put V x [])

theorem Two.below {w w' : World} {c1 c2 : Nat} {v1 v2 : Value} {k : Nat} {V : View} {x : List UInt8} (h : Two w c1 c2 v1 v2 k V x) (hb : Below w.heap.size w w') : Two w' c1 c2 v1 v2 k V x :=
  ⟨(hb.cell (p := ⟨c1, 6, none⟩) (World.block_lt_of_cell? _ _ h.l1)).trans h.l1, (hb.cell (p := ⟨c2, 6, none⟩) (World.block_lt_of_cell? _ _ h.l2)).trans h.l2, h.m1.below hb (Nat.le_refl _), h.m2.below hb (Nat.le_refl _)⟩

/-- the answer g, ok; what was there is as it was -/
def Ans (w : World) (g : ByteArray) (ok : Bool) (e : Ending) (w' : World) : Prop := e = .returned (.tuple #[.string g, .bool ok]) ∧ Below w.heap.size w w'

theorem Two.first {w : World} {c1 c2 : Nat} {v1 v2 : Value} {k : Nat} {V : View} {x : List UInt8} (h : Two w c1 c2 v1 v2 k V x) (hB : Bnd V) (hk : k ≤ 4096) (nm : ByteArray) :
    Calls Try.prog 19 #[.pointer (some ⟨c1, 0, none⟩), .string nm] w (Head w V nm.data.toList) := zzheader c1 k nm w v1 V h.l1 h.m1 hB (by omega)

theorem Two.second {w : World} {c1 c2 : Nat} {v1 v2 : Value} {k : Nat} {V : View} {x : List UInt8} (h : Two w c1 c2 v1 v2 k V x) (hB : Bnd (put V x [])) (hk : k ≤ 4096) (hx : V x = none) (nm : ByteArray) {s1 : List (List UInt8)} (n1 : s1.Nodup) (m1 : ∀ y, y ∈ s1 ↔ sel V nm.data.toList y = true) :
    Calls Try.prog 19 #[.pointer (some ⟨c2, 0, none⟩), .string nm] w (Ans w (joined V s1) (!s1.isEmpty)) := by
  refine (zzheader c2 (k + 1) nm w v2 _ h.l2 h.m2 hB (by omega)).mono ?_
  rintro e w' ⟨s2, n2, m2, rfl, b⟩
  obtain ⟨e1, e2⟩ := same_answer (sel_put hx nm.data.toList).1 (sel_put hx nm.data.toList).2 n1 n2 m1 m2
  exact ⟨by rw [e1, e2], b⟩

set_option maxRecDepth 100000 in
set_option maxHeartbeats 4000000 in
theorem main7 (a0 a1 : Option Addr) (n0 n1 c0 c1 : Nat) (L : Nat → Nat) (K : Nat → ByteArray) (S : Nat → Nat → ByteArray) (nm ex : ByteArray) (nil : Bool) (w : World)
    (h0 : Row w a0 n0 (fun i => .string (K i))) (h1 : Rows2 w a1 n1 L (fun i j => .string (S i j))) :
    Calls Try.prog 7 #[.slice a0 n0 c0, .slice a1 n1 c1, .string nm, .string ex, .bool nil] w (Good w) := by
  have HZ := zzBytes a0 a1 n0 n1 c0 c1 L K S nm ex nil w h0 h1
  go_enter Try.func7, Try.ntmps7
  go_wp2_with fail
  refine HZ.mono ?_
  rintro e w' ⟨rfl, b, rfl, hsm⟩
  cases b with
  | false =>
    clear HZ h0 h1 hsm
    go_wp2
    go_ret
    exact Good.same
  | true =>
    have hs := hsm rfl
    clear hsm HZ
    by_cases g0' : ¬ (n0 ≤ 4096)
    · clear h0 h1 hs
      go_wp2
      go_ret
      exact Good.same
    have g0 : n0 ≤ 4096 := Decidable.not_not.1 g0'
    clear g0'
    by_cases g1' : ¬ (n1 ≤ 4096)
    · clear h0 h1 hs
      go_wp2
      go_ret
      exact Good.same
    have g1 : n1 ≤ 4096 := Decidable.not_not.1 g1'
    clear g1'
    have HB := headerBudget a0 a1 n0 n1 c0 c1 L K S nm ex w' h0 h1 g0 g1 hs.key hs.row (fun i j hi hj => Nat.le_trans (hs.str i j hi hj) (by decide)) hs.nm hs.ex
    have HS := Hid.mk hs
    clear hs
    go_wp2_with fail
    refine HB.mono ?_
    rintro e w2 ⟨rfl, b, rfl, hbud⟩
    cases b with
    | false =>
      clear HB h0 h1 hbud
      go_wp2
      go_ret
      exact Good.same
    | true =>
      have HU := Hid.mk (hbud rfl)
      clear hbud HB
      by_cases gn' : ¬ (n1 = n0)
      · clear h0 h1
        go_wp2
        go_ret
        exact Good.same
      have gn : n1 = n0 := Decidable.not_not.1 gn'
      clear gn'
      subst gn
      go_wp2
      go_loopw [11] (fun i wr => ∃ k : Nat, k ≤ n1 ∧ i = .int .i64 k ∧ wr = w2 ∧ ∀ i, i < k → K i ≠ ex) (fun i _ => n1 - (intOf i).toNat)
      case atStart => exact ⟨0, by omega, rfl, rfl, fun i hi => by omega⟩
      case round =>
        obtain ⟨k, hk, rfl, rfl, hne⟩ := hrel
        have HN := Hid.mk hne
        clear hne
        by_cases hlt : k < n1
        · obtain ⟨b0, o0, rfl, _, hc0⟩ := h0 k hlt
          simp only at hc0
          clear h0 h1
          by_cases he : K k = ex
          · rw [he] at hc0
            go_wp2
            go_ret
            exact Good.same
          · have HN2 : Hid (∀ i, i < k + 1 → K i ≠ ex) := fun i hi => by by_cases e : i = k; (· subst e; exact he); (· exact HN.out i (by omega))
            go_wp2
            · go_ret
              exact Good.same
            · exact ⟨⟨k + 1, by omega, by go_num, trivial, HN2.out⟩, by simp [intOf]; omega⟩
        · have hkn : k = n1 := by omega
          subst hkn
          have hK := cloneStrings a0 c0 k K wr (by omega) h0
          go_wp2_with fail
          refine hK.mono ?_
          rintro e w1 ⟨ka, kc, rfl, kr, kb⟩
          have hV := cloneVals a1 c1 k L S w1 (by omega) HS.out.row (h1.below kb (Nat.le_refl _))
          have KR := Hid.mk kr
          have KB := Hid.mk kb
          clear hK kr kb h0 h1
          go_wp2_with fail
          refine hV.mono ?_
          rintro e w3 ⟨va, vc, rfl, vr, vb⟩
          have KR2 := Hid.mk (KR.out.below vb (Nat.le_refl _)).row
          have VR := Hid.mk vr
          have B3 := Hid.mk (KB.out.trans (vb.mono KB.out.size))
          clear hV vr vb KR KB
          have hH := buildHeaders ka va k kc vc L K S false w3 (by omega) HS.out.key KR2.out VR.out
          go_wp2_with fail
          refine hH.mono ?_
          rintro e w4 ⟨v1, rfl, m1, b1, _⟩
          obtain ⟨o1, rfl⟩ := m1.shape
          have M1 := Hid.mk m1
          have B4 := Hid.mk (B3.out.trans (b1.mono B3.out.size))
          have KR4 := Hid.mk (KR2.out.below b1 (Nat.le_refl _))
          have VR4 := Hid.mk (VR.out.below b1 (Nat.le_refl _))
          clear hH m1 b1 B3 KR2 VR
          go_wp2_with fail
          have cell1 := box_cell w4 o1
          have bel5 := (Below.refl w4.heap.size w4).alloc (Nat.le_refl _) (.cells #[.string ⟨#[]⟩, .pointer none, .int .i64 0, .slice none 0 0, .slice none 0 0, .string ⟨#[]⟩, .map o1] 47)
          generalize w4.alloc (.cells #[.string ⟨#[]⟩, .pointer none, .int .i64 0, .slice none 0 0, .slice none 0 0, .string ⟨#[]⟩, .map o1] 47) = w5 at *
          have M1' := Hid.mk (M1.out.below bel5 (Nat.le_refl _))
          have B5 := Hid.mk (B4.out.trans (bel5.mono B4.out.size))
          have hH := buildHeaders ka va k kc vc L K S true w5 (by omega) HS.out.key (KR4.out.below bel5 (Nat.le_refl _)) (VR4.out.below bel5 (Nat.le_refl _))
          generalize w4.heap.size = cb1 at *
          have hcb1 := World.block_lt_of_cell? _ _ cell1
          have C1 := Hid.mk cell1
          clear cell1 bel5 M1 B4 KR4 VR4
          refine hH.mono ?_
          rintro e w6 ⟨v2, rfl, _, b2, hx⟩
          obtain ⟨bm, D, rfl, hbm, hown, hhold⟩ := hx rfl
          have bnd1 := Hid.mk (bnd_laid (K := K) HU.out HS.out.key)
          have bnd2 := Hid.mk (bnd_put bnd1.out (x := ex.data.toList) (by rw [len_data]; exact HS.out.ex))
          have hnone := Hid.mk (laid_none (L := L) (S := S) HN.out)
          have hexs := HS.out.ex
          clear hH hx HN HU HS
          generalize laid K L S k = V1 at *
          cases nil with
          | true =>
            obtain ⟨w7, hrun, D', hown', hhold', hbel'⟩ := map_step hown hhold (by omega) ex hexs [] none 0 (fun j hj => by simp at hj) hbm b2
            have O1 := Hid.mk hown'
            have O2 := Hid.mk hhold'
            have O3 := Hid.mk hbel'
            have hrun' : (Instr.mapUpdate 40 (.map (some bm)) (.string ex) (.slice none 0 0)).run Try.prog w6 = .ok () w7 := hrun
            clear hown' hhold' hbel' hown hhold b2 hrun
            go_wp2_with fail
            have cell2 := box_cell w7 (some bm)
            have bel8 := (Below.refl w7.heap.size w7).alloc (Nat.le_refl _) (.cells #[.string ⟨#[]⟩, .pointer none, .int .i64 0, .slice none 0 0, .slice none 0 0, .string ⟨#[]⟩, .map (some bm)] 47)
            generalize w7.alloc (.cells #[.string ⟨#[]⟩, .pointer none, .int .i64 0, .slice none 0 0, .slice none 0 0, .string ⟨#[]⟩, .map (some bm)] 47) = w8 at *
            generalize hcb2 : w7.heap.size = cb2 at *
            have T : Two w8 cb1 cb2 (.map o1) (.map (some bm)) k V1 ex.data.toList := by
              subst hcb2
              refine ⟨?_, cell2, (M1'.out.below O3.out (Nat.le_refl _)).below bel8 (Nat.le_refl _), (MapIs.some bm D' _ O1.out (O2.out.below O3.out (Nat.le_refl _))).below bel8 (Nat.le_refl _)⟩
              exact (bel8.cell (p := ⟨cb1, 6, none⟩) (Nat.lt_of_lt_of_le hcb1 O3.out.size)).trans ((O3.out.cell (p := ⟨cb1, 6, none⟩) hcb1).trans C1.out)
            have B8 : Hid (Below wr.heap.size wr w8) := by
              subst hcb2
              have b7 := B5.out.trans (O3.out.mono B5.out.size)
              exact b7.trans (bel8.mono b7.size)
            have T8 := Hid.mk T
            clear T cell2 bel8 hcb2 O1 O2 O3 M1' C1 B5 hcb1 hbm
            refine (T8.out.first bnd1.out g1 nm).mono ?_
            rintro e w9 ⟨s1, nd1, me1, rfl, b9⟩
            have T9 := Hid.mk (T8.out.below b9)
            have B9 := Hid.mk (B8.out.trans (b9.mono B8.out.size))
            have H2 := T9.out.second bnd2.out g1 hnone.out nm nd1 me1
            generalize joined V1 s1 = ga at *
            generalize (!s1.isEmpty) = oka at *
            clear b9 T8 B8 nd1 me1
            go_wp2_with fail
            refine H2.mono ?_
            rintro e w10 ⟨rfl, b10⟩
            have T10 := Hid.mk (T9.out.below b10)
            have B10 := Hid.mk (B9.out.trans (b10.mono B9.out.size))
            clear b10 T9 B9 H2
            go_wp2_with fail
            refine (T10.out.first bnd1.out g1 ex).mono ?_
            rintro e w11 ⟨s3, nd3, me3, rfl, b11⟩
            have T11 := Hid.mk (T10.out.below b11)
            have B11 := Hid.mk (B10.out.trans (b11.mono B10.out.size))
            have H4 := T11.out.second bnd2.out g1 hnone.out ex nd3 me3
            generalize joined V1 s3 = gb at *
            generalize (!s3.isEmpty) = okb at *
            clear b11 T10 B10 nd3 me3
            go_wp2_with fail
            refine H4.mono ?_
            rintro e w12 ⟨rfl, b12⟩
            have B12 := Hid.mk (B11.out.trans (b12.mono B11.out.size))
            clear b12 T11 B11 H4
            go_wp2
            go_ret
            exact ⟨rfl, B12.out⟩
          | false =>
            obtain ⟨w7, hrun, D', hown', hhold', hbel'⟩ := map_step (wr := w6.alloc (.cells #[] 9)) (hown.alloc _) hhold (by omega) ex hexs [] (some ⟨w6.heap.size, 0, none⟩) 0 (fun j hj => by simp at hj) hbm (b2.alloc b2.size _)
            have O1 := Hid.mk hown'
            have O2 := Hid.mk hhold'
            have O3 := Hid.mk hbel'
            have hrun' : (Instr.mapUpdate 40 (.map (some bm)) (.string ex) (.slice (some ⟨w6.heap.size, 0, none⟩) 0 0)).run Try.prog (w6.alloc (.cells #[] 9)) = .ok () w7 := hrun
            clear hown' hhold' hbel' hown hhold b2 hrun
            go_wp2_with fail
            have cell2 := box_cell w7 (some bm)
            have bel8 := (Below.refl w7.heap.size w7).alloc (Nat.le_refl _) (.cells #[.string ⟨#[]⟩, .pointer none, .int .i64 0, .slice none 0 0, .slice none 0 0, .string ⟨#[]⟩, .map (some bm)] 47)
            generalize w7.alloc (.cells #[.string ⟨#[]⟩, .pointer none, .int .i64 0, .slice none 0 0, .slice none 0 0, .string ⟨#[]⟩, .map (some bm)] 47) = w8 at *
            generalize hcb2 : w7.heap.size = cb2 at *
            have T : Two w8 cb1 cb2 (.map o1) (.map (some bm)) k V1 ex.data.toList := by
              subst hcb2
              refine ⟨?_, cell2, (M1'.out.below O3.out (Nat.le_refl _)).below bel8 (Nat.le_refl _), (MapIs.some bm D' _ O1.out (O2.out.below O3.out (Nat.le_refl _))).below bel8 (Nat.le_refl _)⟩
              exact (bel8.cell (p := ⟨cb1, 6, none⟩) (Nat.lt_of_lt_of_le hcb1 O3.out.size)).trans ((O3.out.cell (p := ⟨cb1, 6, none⟩) hcb1).trans C1.out)
            have B8 : Hid (Below wr.heap.size wr w8) := by
              subst hcb2
              have b7 := B5.out.trans (O3.out.mono B5.out.size)
              exact b7.trans (bel8.mono b7.size)
            have T8 := Hid.mk T
            clear T cell2 bel8 hcb2 O1 O2 O3 M1' C1 B5 hcb1 hbm
            refine (T8.out.first bnd1.out g1 nm).mono ?_
            rintro e w9 ⟨s1, nd1, me1, rfl, b9⟩
            have T9 := Hid.mk (T8.out.below b9)
            have B9 := Hid.mk (B8.out.trans (b9.mono B8.out.size))
            have H2 := T9.out.second bnd2.out g1 hnone.out nm nd1 me1
            generalize joined V1 s1 = ga at *
            generalize (!s1.isEmpty) = oka at *
            clear b9 T8 B8 nd1 me1
            go_wp2_with fail
            refine H2.mono ?_
            rintro e w10 ⟨rfl, b10⟩
            have T10 := Hid.mk (T9.out.below b10)
            have B10 := Hid.mk (B9.out.trans (b10.mono B9.out.size))
            clear b10 T9 B9 H2
            go_wp2_with fail
            refine (T10.out.first bnd1.out g1 ex).mono ?_
            rintro e w11 ⟨s3, nd3, me3, rfl, b11⟩
            have T11 := Hid.mk (T10.out.below b11)
            have B11 := Hid.mk (B10.out.trans (b11.mono B10.out.size))
            have H4 := T11.out.second bnd2.out g1 hnone.out ex nd3 me3
            generalize joined V1 s3 = gb at *
            generalize (!s3.isEmpty) = okb at *
            clear b11 T10 B10 nd3 me3
            go_wp2_with fail
            refine H4.mono ?_
            rintro e w12 ⟨rfl, b12⟩
            have B12 := Hid.mk (B11.out.trans (b12.mono B11.out.size))
            clear b12 T11 B11 H4
            go_wp2
            go_ret
            exact ⟨rfl, B12.out⟩
end Go.Proofs.Qxb6602719a
