import Derived.Test.Qxb6602719aMain
import Derived.Test.Qxb6602719aModel
import Derived.Test.Qxb6602719aZzM
namespace Go.Proofs.Qxb6602719a
open Go.RowKit Go.Maps

/-- the model answers as header has answered -/
theorem modelSame {w : World} {n : Nat} {a0 a1 : Option Addr} {c0 c1 : Nat} {L : Nat → Nat} {K : Nat → ByteArray} {S : Nat → Nat → ByteArray} (hn : n ≤ 4096) (gk : ∀ i, i < n → (K i).size ≤ 1048576) (hB : Bnd (laid K L S n))
    (h0 : Row w a0 n (fun i => .string (K i))) (h1 : Rows2 w a1 n L (fun i j => .string (S i j))) (hL : ∀ i, i < n → L i ≤ 1048576) (nm : ByteArray) {s1 : List (List UInt8)} (n1 : s1.Nodup) (m1 : ∀ y, y ∈ s1 ↔ sel (laid K L S n) nm.data.toList y = true) :
    Calls Try.prog 20 #[.slice a0 n c0, .slice a1 n c1, .string nm] w (Ans w (joined (laid K L S n) s1) (!s1.isEmpty)) := by
  refine (headerModel a0 a1 n c0 c1 L K S nm w hn gk hB h0 h1 hL).mono ?_
  rintro e w' ⟨s2, n2, m2, rfl, b⟩
  obtain ⟨e1, e2⟩ := same_answer (fun _ => rfl) (fun _ _ => rfl) n1 n2 m1 m2
  exact ⟨by rw [e1, e2], b⟩

set_option maxRecDepth 100000 in
set_option maxHeartbeats 4000000 in
theorem main5 (a0 a1 : Option Addr) (n0 n1 c0 c1 : Nat) (L : Nat → Nat) (K : Nat → ByteArray) (S : Nat → Nat → ByteArray) (nm : ByteArray) (w : World)
    (h0 : Row w a0 n0 (fun i => .string (K i))) (h1 : Rows2 w a1 n1 L (fun i j => .string (S i j))) :
    Calls Try.prog 5 #[.slice a0 n0 c0, .slice a1 n1 c1, .string nm] w (Good w) := by
  have HZ := zzBytesM a0 a1 n0 n1 c0 c1 L K S nm w h0 h1
  go_enter Try.func5, Try.ntmps5
  go_wp2_with fail
  refine HZ.mono ?_
  rintro e w' ⟨rfl, b, rfl, hsm⟩
  cases b with
  | false =>
    clear HZ h0 h1 hsm
    go_wp2
    go_ret
    exact Good.same
  | true =>
    have hs := hsm rfl
    clear hsm HZ
    by_cases g0' : ¬ (n0 ≤ 4096)
    · clear h0 h1 hs
      go_wp2
      go_ret
      exact Good.same
    have g0 : n0 ≤ 4096 := Decidable.not_not.1 g0'
    clear g0'
    by_cases g1' : ¬ (n1 ≤ 4096)
    · clear h0 h1 hs
      go_wp2
      go_ret
      exact Good.same
    have g1 : n1 ≤ 4096 := Decidable.not_not.1 g1'
    clear g1'
    have HB := headerBudget a0 a1 n0 n1 c0 c1 L K S nm ⟨#[]⟩ w' h0 h1 g0 g1 hs.key hs.row (fun i j hi hj => Nat.le_trans (hs.str i j hi hj) (by decide)) hs.nm (Nat.zero_le _)
    have HS := Hid.mk hs
    clear hs
    go_wp2_with fail
    refine HB.mono ?_
    rintro e w2 ⟨rfl, b, rfl, hbud⟩
    cases b with
    | false =>
      clear HB h0 h1 hbud
      go_wp2
      go_ret
      exact Good.same
    | true =>
      have HU := Hid.mk (hbud rfl)
      clear hbud HB
      by_cases gn' : ¬ (n1 = n0)
      · clear h0 h1
        go_wp2
        go_ret
        exact Good.same
      have gn : n1 = n0 := Decidable.not_not.1 gn'
      clear gn'
      subst gn
      have hK := cloneStrings a0 c0 n1 K w2 (by omega) h0
      go_wp2_with fail
      refine hK.mono ?_
      rintro e w1 ⟨ka, kc, rfl, kr, kb⟩
      have hV := cloneVals a1 c1 n1 L S w1 (by omega) HS.out.row (h1.below kb (Nat.le_refl _))
      have KR := Hid.mk kr
      have KB := Hid.mk kb
      clear hK kr kb h0 h1
      go_wp2_with fail
      refine hV.mono ?_
      rintro e w3 ⟨va, vc, rfl, vr, vb⟩
      have KR2 := Hid.mk (KR.out.below vb (Nat.le_refl _)).row
      have VR := Hid.mk vr
      have B3 := Hid.mk (KB.out.trans (vb.mono KB.out.size))
      clear hV vr vb KR KB
      have hH := buildHeaders ka va n1 kc vc L K S false w3 (by omega) HS.out.key KR2.out VR.out
      go_wp2_with fail
      refine hH.mono ?_
      rintro e w4 ⟨v1, rfl, m1, b1, _⟩
      obtain ⟨o1, rfl⟩ := m1.shape
      have M1 := Hid.mk m1
      have B4 := Hid.mk (B3.out.trans (b1.mono B3.out.size))
      have KR4 := Hid.mk (KR2.out.below b1 (Nat.le_refl _))
      have VR4 := Hid.mk (VR.out.below b1 (Nat.le_refl _))
      clear hH m1 b1 B3 KR2 VR
      go_wp2_with fail
      have cell1 := box_cell w4 o1
      have bel5 := (Below.refl w4.heap.size w4).alloc (Nat.le_refl _) (.cells #[.string ⟨#[]⟩, .pointer none, .int .i64 0, .slice none 0 0, .slice none 0 0, .string ⟨#[]⟩, .map o1] 47)
      generalize w4.alloc (.cells #[.string ⟨#[]⟩, .pointer none, .int .i64 0, .slice none 0 0, .slice none 0 0, .string ⟨#[]⟩, .map o1] 47) = w5 at *
      have M1' := Hid.mk (M1.out.below bel5 (Nat.le_refl _))
      have B5 := Hid.mk (B4.out.trans (bel5.mono B4.out.size))
      have KR5 := Hid.mk (KR4.out.below bel5 (Nat.le_refl _))
      have VR5 := Hid.mk (VR4.out.below bel5 (Nat.le_refl _))
      have bnd1 := Hid.mk (bnd_laid (K := K) HU.out HS.out.key)
      generalize w4.heap.size = cb1 at *
      have hX := zzheader cb1 n1 nm w5 (.map o1) (laid K L S n1) cell1 M1'.out bnd1.out (by omega)
      clear cell1 bel5 M1 B4 KR4 VR4 M1'
      refine hX.mono ?_
      rintro e w6 ⟨s1, nd1, me1, rfl, b6⟩
      have H2 := modelSame (c0 := kc) (c1 := vc) (by omega) HS.out.key bnd1.out (KR5.out.below b6 (Nat.le_refl _)) (VR5.out.below b6 (Nat.le_refl _)) HS.out.row nm nd1 me1
      have B6 := Hid.mk (B5.out.trans (b6.mono B5.out.size))
      generalize joined (laid K L S n1) s1 = ga at *
      generalize (!s1.isEmpty) = oka at *
      clear b6 nd1 me1 hX KR5 VR5 B5
      go_wp2_with fail
      refine H2.mono ?_
      rintro e w7 ⟨rfl, b7⟩
      have B7 := Hid.mk (B6.out.trans (b7.mono B6.out.size))
      clear b7 H2
      go_wp2
      go_ret
      exact ⟨rfl, B7.out⟩
end Go.Proofs.Qxb6602719a
