import Derived.Test.Qxb6602994aZz
import Derived.Test.Qxb6602994aSplit
namespace Go.Proofs.Qxb6602994a
open Go.RowKit

set_option maxRecDepth 100000 in
set_option maxHeartbeats 2000000 in
theorem main9 (a : Option Addr) (n c : Nat) (Hs Ps : Nat → Int) (nn sink k j : Int) (w : World) (h : Prs w a n Hs Ps) (gh : ∀ i, i < n → 0 ≤ Hs i ∧ Hs i < 18446744073709551616) :
    Calls Try.prog 9 #[.slice a n c, .int .i64 nn, .int .i64 sink, .int .i64 k, .int .i64 j] w (Good w) := by
  have HZ := zzBytes a n c nn sink k j w
  go_enter Try.func9, Try.ntmps9
  go_wp2_with fail
  refine HZ.mono ?_
  rintro e w' ⟨rfl, b, rfl, hsm⟩
  have HP := Hid.mk h
  have GH := Hid.mk gh
  clear h gh
  cases b with
  | false =>
    clear HZ hsm
    go_wp2
    go_ret
    exact Good.same
  | true =>
    clear hsm HZ
    by_cases g1' : ¬ (n ≤ 65536)
    · go_wp2
      go_ret
      exact Good.same
    have g1 : n ≤ 65536 := Decidable.not_not.1 g1'
    clear g1'
    by_cases g2 : k < -65536
    · go_wp2
      go_ret
      exact Good.same
    by_cases g3 : 65536 < k
    · go_wp2
      go_ret
      exact Good.same
    by_cases g4 : j < -65536
    · go_wp2
      go_ret
      exact Good.same
    by_cases g5 : k < j
    · go_wp2
      go_ret
      exact Good.same
    have hT := takenCount a n c Hs Ps w' (by omega) HP.out
    have htl := tk_le Ps n
    go_wp2_with fail
    refine hT.mono ?_
    rintro e w2 ⟨rfl, rfl⟩
    clear hT
    by_cases hnn : ¬ (nn = (tk Ps n : Int))
    · generalize (tk Ps n) = t at *
      go_wp2
      go_ret
      exact Good.same
    have hn1 : nn = (tk Ps n : Int) := Decidable.not_not.1 hnn
    clear hnn
    subst hn1
    by_cases h2n' : ¬ (2 * tk Ps n ≤ n)
    · generalize (tk Ps n) = t at *
      go_wp2
      go_ret
      exact Good.same
    have h2n : 2 * tk Ps n ≤ n := Decidable.not_not.1 h2n'
    clear h2n'
    have fit : Fit n Hs Ps (tk Ps n) k := .inr ⟨rfl, h2n, g1, GH.out⟩
    have FIT := Hid.mk fit
    clear fit
    have hS := splitSlots a n c Hs Ps w2 (by omega) HP.out
    generalize (tk Ps n) = t at *
    go_wp2_with fail
    refine hS.mono ?_
    rintro e w3 ⟨a1, c1, a2, c2, rfl, r1, r2, b3⟩
    have hA := zzReserve a1 a2 c1 c2 n Hs Ps t sink k w3 (by omega) (by omega) (by omega) (by omega) (by omega) FIT.out r1 r2
    have B3 := Hid.mk b3
    clear hS r1 r2 b3 FIT
    go_wp2_with fail
    refine hA.mono ?_
    rintro e w4 ⟨a3, a4, c3, c4, m', Hs', Ps', rfl, r3, r4, hm', hroom, _, b4⟩
    have hA2 := zzReserve a3 a4 c3 c4 m' Hs' Ps' t sink j w4 hm' (by omega) (by omega) (by omega) (by omega) (.inl (by omega)) r3 r4
    have B4 := Hid.mk (B3.out.trans (b4.mono B3.out.size))
    have R3 := Hid.mk r3
    have R4 := Hid.mk r4
    clear hA r3 r4 b4
    go_wp2_with fail
    refine hA2.mono ?_
    rintro e w5 ⟨a5, a6, c5, c6, m2, Hs2, Ps2, rfl, r5, r6, hm2, hroom2, hsame, b5⟩
    obtain ⟨rfl, hs⟩ := hsame (by omega)
    have B5 := Hid.mk (B4.out.trans (b5.mono B4.out.size))
    have R3' := Hid.mk (R3.out.below b5 (Nat.le_refl _))
    have R4' := Hid.mk (R4.out.below b5 (Nat.le_refl _))
    have R5 := Hid.mk r5
    have R6 := Hid.mk r6
    have HSAME := Hid.mk hs
    clear hA2 r5 r6 b5 hs R3 R4
    clear hsame
    go_wp2
    go_loopw [21] (fun qv wq => ∃ (q d : Nat), q ≤ m2 ∧ qv = .int .i64 q ∧ wq = w5.drewN d) (fun qv _ => m2 - (intOf qv).toNat)
    case atStart => exact ⟨0, 0, by omega, rfl, rfl⟩
    case round =>
      obtain ⟨q, d, hq, rfl, hw⟩ := hrel
      have HW := Hid.mk hw
      by_cases hql : q < m2
      · obtain ⟨b3, o3, rfl, _, e3⟩ := R3'.out q hql
        obtain ⟨b4, o4, rfl, _, e4⟩ := R4'.out q hql
        obtain ⟨b5, o5, rfl, _, e5⟩ := R5.out q hql
        obtain ⟨b6, o6, rfl, _, e6⟩ := R6.out q hql
        simp only at e3 e4 e5 e6
        rw [(HSAME.out q hql).1] at e5
        rw [(HSAME.out q hql).2] at e6
        have x3 : wr.cell? ⟨b3, o3 + q, none⟩ = some (.int .u64 (Hs' q)) := by rw [hw]; exact e3
        have x4 : wr.cell? ⟨b4, o4 + q, none⟩ = some (.int .i64 (Ps' q)) := by rw [hw]; exact e4
        have x5 : wr.cell? ⟨b5, o5 + q, none⟩ = some (.int .u64 (Hs' q)) := by rw [hw]; exact e5
        have x6 : wr.cell? ⟨b6, o6 + q, none⟩ = some (.int .i64 (Ps' q)) := by rw [hw]; exact e6
        clear hw e3 e4 e5 e6
        generalize Hs' q = hx at *
        generalize Ps' q = px at *
        go_wp2
        go_quiet (fail)
        go_wp2
        go_roundw
        case rel => exact ⟨q + 1, _, by omega, by go_num, by rw [HW.out, World.drewN_drewN]⟩
        case measure => simp [intOf]; omega
      · have BF : Hid (Below w2.heap.size w2 wr) := Hid.mk (by rw [hw]; exact drewN_below B5.out _)
        clear hw
        go_wp2
        go_ret
        exact ⟨rfl, BF.out⟩
end Go.Proofs.Qxb6602994a
