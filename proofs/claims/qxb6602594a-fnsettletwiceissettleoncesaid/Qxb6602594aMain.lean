import Derived.Test.Qxb6602594aNew
import Derived.Test.Qxb6602594aRead
import Derived.Test.Qxb6602594aRead3
import Derived.Test.Qxb6602594aFin
import Derived.Test.Qxb6602594aZz
import Derived.Test.Qxb6602594aBytes
import Derived.Test.Qxb6602594aShape
namespace Go.Proofs.Qxb6602594a
open Go.RowKit Go.Maps

theorem Rows2.len {w : World} {a : Option Addr} {n : Nat} {L L' : Nat → Nat} {F : Nat → Nat → Value} (h : Rows2 w a n L F) (e : ∀ l, l < n → L l = L' l) : Rows2 w a n L' F := by
  intro i hi
  obtain ⟨b, off, ak, ck, e1, e2, e3, e4⟩ := h i hi
  rw [e i hi] at e3 e4
  exact ⟨b, off, ak, ck, e1, e2, e3, e4⟩

/-- what the law leaves -/
def Law (w : World) (e : Ending) (w' : World) : Prop := e = .returned (.bool true) ∧ Below w.heap.size w w'

set_option maxRecDepth 100000 in
set_option maxHeartbeats 8000000 in
theorem main_walk (a0 a1 a2 a3 a4 a5 a6 a7 : Option Addr) (n0 n1 n2 n3 n4 n5 n6 nO c0 c1 c2 c3 c4 c5 c6 c7 : Nat) (L0 L1 L2 L3 L4 L5 L6 : Nat → Nat) (S0 S1 : Nat → Nat → ByteArray) (S2 S3 S4 S5 S6 : Nat → Nat → Int) (oc : Nat → Int) (w : World)
    (h0 : Rows2 w a0 n0 L0 (fun i j => .string (S0 i j))) (h1 : Rows2 w a1 n1 L1 (fun i j => .string (S1 i j)))
    (h2 : Rows2 w a2 n2 L2 (fun i j => .int .i32 (S2 i j))) (h3 : Rows2 w a3 n3 L3 (fun i j => .int .i32 (S3 i j))) (h4 : Rows2 w a4 n4 L4 (fun i j => .int .i32 (S4 i j)))
    (h5 : Rows2 w a5 n5 L5 (fun i j => .int .i32 (S5 i j))) (h6 : Rows2 w a6 n6 L6 (fun i j => .int .i32 (S6 i j))) (h7 : Row w a7 nO (fun i => .int .u8 (oc i)))
    (z0 : ∀ i j, i < n0 → j < L0 i → (S0 i j).size ≤ maxLen) (z1 : ∀ i j, i < n1 → j < L1 i → (S1 i j).size ≤ maxLen) :
    Calls Try.prog 6 #[.slice a0 n0 c0, .slice a1 n1 c1, .slice a2 n2 c2, .slice a3 n3 c3, .slice a4 n4 c4, .slice a5 n5 c5, .slice a6 n6 c6, .slice a7 nO c7] w (Law w) := by
  have R0 := Hid.mk h0
  have R1 := Hid.mk h1
  have R2 := Hid.mk h2
  have R3 := Hid.mk h3
  have R4 := Hid.mk h4
  have R5 := Hid.mk h5
  have R6 := Hid.mk h6
  have R7 := Hid.mk h7
  have Z0 := Hid.mk z0
  have Z1 := Hid.mk z1
  clear h0 h1 h2 h3 h4 h5 h6 h7 z0 z1
  go_enter Try.func6, Try.ntmps6
  go_wp2_with fail
  refine (zzBytes a0 a1 a2 a3 a4 a5 a6 a7 n0 n1 n2 n3 n4 n5 n6 nO c0 c1 c2 c3 c4 c5 c6 c7 L0 L1 L2 L3 L4 L5 L6 S0 S1 _ _ _ _ _ w R0.out R1.out R2.out R3.out R4.out R5.out R6.out).mono ?_
  rintro e w' ⟨rfl, b, rfl, hb⟩
  cases b with
  | false =>
    clear hb
    go_wp2
    go_ret
    exact ⟨rfl, Below.refl _ _⟩
  | true =>
    have SM := Hid.mk (hb rfl)
    clear hb
    go_wp2_with fail
    refine (tooBig a0 a1 a2 a3 a4 a5 a6 a7 n0 n1 n2 n3 n4 n5 n6 nO c0 c1 c2 c3 c4 c5 c6 c7 L0 L1 L2 L3 L4 L5 L6 S0 S1 S2 S3 S4 S5 S6 w' SM.out.g0 SM.out.g1 SM.out.g2 SM.out.g3 SM.out.g4 SM.out.g5 SM.out.g6 SM.out.g7 R0.out R1.out R2.out R3.out R4.out R5.out R6.out).mono ?_
    rintro e w ⟨rfl, b, rfl⟩
    cases b with
    | true =>
      go_wp2
      go_ret
      exact ⟨rfl, Below.refl _ _⟩
    | false =>
      go_wp2_with fail
      refine (shape a0 a1 a2 a3 a4 a5 a6 n0 n1 n2 n3 n4 n5 n6 c0 c1 c2 c3 c4 c5 c6 L1 L2 L3 L4 L5 L6 _ _ _ _ _ _ w SM.out.g0 R1.out R2.out R3.out R4.out R5.out R6.out).mono ?_
      rintro e w' ⟨rfl, b, rfl, hb⟩
      cases b with
      | false =>
        clear hb
        go_wp2
        go_ret
        exact ⟨rfl, Below.refl _ _⟩
      | true =>
        obtain ⟨rfl, rfl, rfl, rfl, rfl, rfl, hsh⟩ := hb rfl
        have BD : Hid (Bounds ⟨S0, S1, S2, S3, S4, S5, S6, L0, L1, oc, nO, n6⟩) :=
          ⟨SM.out.g0, SM.out.g7, fun l hl => Nat.le_trans (sum_ge L0 hl) SM.out.sum, SM.out.row, SM.out.sum, Z0.out, Z1.out⟩
        have Q2 := Hid.mk (R2.out.len (L' := L1) (fun l hl => (hsh l hl).1))
        have Q3 := Hid.mk (R3.out.len (L' := L1) (fun l hl => (hsh l hl).2.1))
        have Q4 := Hid.mk (R4.out.len (L' := L1) (fun l hl => (hsh l hl).2.2.1))
        have Q5 := Hid.mk (R5.out.len (L' := L1) (fun l hl => (hsh l hl).2.2.2.1))
        have Q6 := Hid.mk (R6.out.len (L' := L1) (fun l hl => (hsh l hl).2.2.2.2))
        have BB := Hid.mk (Below.refl w'.heap.size w')
        have BN := SM.out.g0
        clear hb hsh R2 R3 R4 R5 R6 Z0 Z1 SM
        go_wp2_with fail
        refine (cloneStrRows a0 c0 n6 L0 S0 w' BD.out.nL BD.out.L0 R0.out).mono ?_
        rintro e v1 ⟨b0, d0, rfl, r0, bb⟩
        have K0 := Hid.mk r0
        replace R1 := Hid.mk (R1.out.below bb (Nat.le_refl _))
        replace Q2 := Hid.mk (Q2.out.below bb (Nat.le_refl _))
        replace Q3 := Hid.mk (Q3.out.below bb (Nat.le_refl _))
        replace Q4 := Hid.mk (Q4.out.below bb (Nat.le_refl _))
        replace Q5 := Hid.mk (Q5.out.below bb (Nat.le_refl _))
        replace Q6 := Hid.mk (Q6.out.below bb (Nat.le_refl _))
        replace R7 := Hid.mk (R7.out.below bb (Nat.le_refl _))
        replace BB := Hid.mk (BB.out.trans (bb.mono BB.out.size))
        clear bb r0 R0
        go_wp2_with fail
        refine (cloneStrRows a1 c1 n6 L1 S1 v1 BD.out.nL BD.out.L1 R1.out).mono ?_
        rintro e v2 ⟨b1, d1, rfl, r1, bb⟩
        replace K0 := Hid.mk (K0.out.below bb (Nat.le_refl _))
        have K1 := Hid.mk r1
        replace Q2 := Hid.mk (Q2.out.below bb (Nat.le_refl _))
        replace Q3 := Hid.mk (Q3.out.below bb (Nat.le_refl _))
        replace Q4 := Hid.mk (Q4.out.below bb (Nat.le_refl _))
        replace Q5 := Hid.mk (Q5.out.below bb (Nat.le_refl _))
        replace Q6 := Hid.mk (Q6.out.below bb (Nat.le_refl _))
        replace R7 := Hid.mk (R7.out.below bb (Nat.le_refl _))
        replace BB := Hid.mk (BB.out.trans (bb.mono BB.out.size))
        clear bb r1 R1
        go_wp2_with fail
        refine (cloneI32Rows a2 c2 n6 L1 S2 v2 BD.out.nL BD.out.L1 Q2.out).mono ?_
        rintro e v3 ⟨b2, d2, rfl, r2, bb⟩
        replace K0 := Hid.mk (K0.out.below bb (Nat.le_refl _))
        replace K1 := Hid.mk (K1.out.below bb (Nat.le_refl _))
        have K2 := Hid.mk r2
        replace Q3 := Hid.mk (Q3.out.below bb (Nat.le_refl _))
        replace Q4 := Hid.mk (Q4.out.below bb (Nat.le_refl _))
        replace Q5 := Hid.mk (Q5.out.below bb (Nat.le_refl _))
        replace Q6 := Hid.mk (Q6.out.below bb (Nat.le_refl _))
        replace R7 := Hid.mk (R7.out.below bb (Nat.le_refl _))
        replace BB := Hid.mk (BB.out.trans (bb.mono BB.out.size))
        clear bb r2 Q2
        go_wp2_with fail
        refine (cloneI32Rows a3 c3 n6 L1 S3 v3 BD.out.nL BD.out.L1 Q3.out).mono ?_
        rintro e v4 ⟨b3, d3, rfl, r3, bb⟩
        replace K0 := Hid.mk (K0.out.below bb (Nat.le_refl _))
        replace K1 := Hid.mk (K1.out.below bb (Nat.le_refl _))
        replace K2 := Hid.mk (K2.out.below bb (Nat.le_refl _))
        have K3 := Hid.mk r3
        replace Q4 := Hid.mk (Q4.out.below bb (Nat.le_refl _))
        replace Q5 := Hid.mk (Q5.out.below bb (Nat.le_refl _))
        replace Q6 := Hid.mk (Q6.out.below bb (Nat.le_refl _))
        replace R7 := Hid.mk (R7.out.below bb (Nat.le_refl _))
        replace BB := Hid.mk (BB.out.trans (bb.mono BB.out.size))
        clear bb r3 Q3
        go_wp2_with fail
        refine (cloneI32Rows a4 c4 n6 L1 S4 v4 BD.out.nL BD.out.L1 Q4.out).mono ?_
        rintro e v5 ⟨b4, d4, rfl, r4, bb⟩
        replace K0 := Hid.mk (K0.out.below bb (Nat.le_refl _))
        replace K1 := Hid.mk (K1.out.below bb (Nat.le_refl _))
        replace K2 := Hid.mk (K2.out.below bb (Nat.le_refl _))
        replace K3 := Hid.mk (K3.out.below bb (Nat.le_refl _))
        have K4 := Hid.mk r4
        replace Q5 := Hid.mk (Q5.out.below bb (Nat.le_refl _))
        replace Q6 := Hid.mk (Q6.out.below bb (Nat.le_refl _))
        replace R7 := Hid.mk (R7.out.below bb (Nat.le_refl _))
        replace BB := Hid.mk (BB.out.trans (bb.mono BB.out.size))
        clear bb r4 Q4
        go_wp2_with fail
        refine (cloneI32Rows a5 c5 n6 L1 S5 v5 BD.out.nL BD.out.L1 Q5.out).mono ?_
        rintro e v6 ⟨b5, d5, rfl, r5, bb⟩
        replace K0 := Hid.mk (K0.out.below bb (Nat.le_refl _))
        replace K1 := Hid.mk (K1.out.below bb (Nat.le_refl _))
        replace K2 := Hid.mk (K2.out.below bb (Nat.le_refl _))
        replace K3 := Hid.mk (K3.out.below bb (Nat.le_refl _))
        replace K4 := Hid.mk (K4.out.below bb (Nat.le_refl _))
        have K5 := Hid.mk r5
        replace Q6 := Hid.mk (Q6.out.below bb (Nat.le_refl _))
        replace R7 := Hid.mk (R7.out.below bb (Nat.le_refl _))
        replace BB := Hid.mk (BB.out.trans (bb.mono BB.out.size))
        clear bb r5 Q5
        go_wp2_with fail
        refine (cloneI32Rows a6 c6 n6 L1 S6 v6 BD.out.nL BD.out.L1 Q6.out).mono ?_
        rintro e v7 ⟨b6, d6, rfl, r6, bb⟩
        replace K0 := Hid.mk (K0.out.below bb (Nat.le_refl _))
        replace K1 := Hid.mk (K1.out.below bb (Nat.le_refl _))
        replace K2 := Hid.mk (K2.out.below bb (Nat.le_refl _))
        replace K3 := Hid.mk (K3.out.below bb (Nat.le_refl _))
        replace K4 := Hid.mk (K4.out.below bb (Nat.le_refl _))
        replace K5 := Hid.mk (K5.out.below bb (Nat.le_refl _))
        have K6 := Hid.mk r6
        replace R7 := Hid.mk (R7.out.below bb (Nat.le_refl _))
        replace BB := Hid.mk (BB.out.trans (bb.mono BB.out.size))
        clear bb r6 Q6
        go_wp2_with fail
        refine (cloneU8 a7 c7 nO oc v7 BD.out.nO R7.out).mono ?_
        rintro e v8 ⟨b7, d7, rfl, r7, bb⟩
        replace K0 := Hid.mk (K0.out.below bb (Nat.le_refl _))
        replace K1 := Hid.mk (K1.out.below bb (Nat.le_refl _))
        replace K2 := Hid.mk (K2.out.below bb (Nat.le_refl _))
        replace K3 := Hid.mk (K3.out.below bb (Nat.le_refl _))
        replace K4 := Hid.mk (K4.out.below bb (Nat.le_refl _))
        replace K5 := Hid.mk (K5.out.below bb (Nat.le_refl _))
        replace K6 := Hid.mk (K6.out.below bb (Nat.le_refl _))
        have K7 := Hid.mk r7.row
        replace BB := Hid.mk (BB.out.trans (bb.mono BB.out.size))
        clear bb r7 R7
        obtain ⟨d, hd⟩ : ∃ d : Dat, d = ⟨S0, S1, S2, S3, S4, S5, S6, L0, L1, oc, nO, n6⟩ := ⟨_, rfl⟩
        have HD := Hid.mk hd
        rw [← hd] at BD
        have HBD := Hid.mk BD.out
        have NEW : Hid (∀ v : World, Below v8.heap.size v8 v → Calls Try.prog 21 #[.slice b0 n6 d0, .slice b1 n6 d1, .slice b2 n6 d2, .slice b3 n6 d3, .slice b4 n6 d4, .slice b5 n6 d5, .slice b6 n6 d6, .slice b7 nO d7] v (Built v d)) := by
          intro v hv
          have := new_walk d b0 b1 b2 b3 b4 b5 b6 b7 d0 d1 d2 d3 d4 d5 d6 d7 v BD.out.nL BD.out.nO BD.out.L0 BD.out.L1 BD.out.S1
          rw [hd] at this ⊢
          exact this (K0.out.below hv (Nat.le_refl _)) (K1.out.below hv (Nat.le_refl _)) (K2.out.below hv (Nat.le_refl _)) (K3.out.below hv (Nat.le_refl _)) (K4.out.below hv (Nat.le_refl _)) (K5.out.below hv (Nat.le_refl _)) (K6.out.below hv (Nat.le_refl _)) (K7.out.below hv (Nat.le_refl _))
        have hnd : Hid (d.nL = n6) := by rw [hd]; rfl
        clear hd BD K0 K1 K2 K3 K4 K5 K6 K7
        have GN := Hid.mk (newHi_good HBD.out)
        have SN : Hid (1048576 + sumTo (fun i => ((newHi d).ls i).order.length) (newHi d).n ≤ 100000000) := by have := HBD.out.sum; show _ ≤ _; rw [newHi_sum]; omega
        have GH := Hid.mk (H1_good HBD.out)
        have SH : Hid (2097152 + sumTo (fun i => ((H1 d).ls i).order.length) (H1 d).n ≤ 100000000) := by have := HBD.out.sum; show _ ≤ _; rw [H1_sum]; omega
        go_wp2_with fail
        refine (NEW.out _ (Below.refl _ _)).mono ?_
        rintro e x1 ⟨hb1, tv1, lb1, ov1, av1, mb1, rfl, P1, bb1⟩
        have HP1 := Hid.mk P1
        have HX1 := Hid.mk bb1
        clear P1 bb1
        go_wp2_with fail
        refine (zzSettle _ _ hb1 lb1 ov1 av1 mb1 tv1 (newHi d) 1048576 GN.out SN.out HP1.out).mono ?_
        rintro e x2 ⟨rfl, tv2, av2, P2, bb2⟩
        have HP2 : Hid (Rep v8.heap.size x2 hb1 ⟨tv2, lb1, ov1, av2, mb1, n6⟩ (H1 d)) := by have := P2; rw [← hnd.out]; exact this
        have HX2 := Hid.mk (HX1.out.trans bb2)
        clear P2 bb2 HP1 HX1
        go_wp2_with fail
        refine (NEW.out _ HX2.out).mono ?_
        rintro e x3 ⟨hb2, tv3, lb2, ov2, av3, mb2, rfl, P3, bb3⟩
        have HP3 := Hid.mk P3
        have HX3 := Hid.mk bb3
        clear P3 bb3 NEW
        go_wp2_with fail
        refine (zzSettle _ _ hb2 lb2 ov2 av3 mb2 tv3 (newHi d) 1048576 GN.out SN.out HP3.out).mono ?_
        rintro e x4 ⟨rfl, tv4, av4, P4, bb4⟩
        have HP4 : Hid (Rep x2.heap.size x4 hb2 ⟨tv4, lb2, ov2, av4, mb2, (H1 d).n⟩ (H1 d)) := by have := P4; rw [H1_n]; exact this
        have HX4 := Hid.mk (HX3.out.trans bb4)
        clear P4 bb4 HP3 HX3
        go_wp2_with fail
        refine (zzSettle _ _ hb2 lb2 ov2 av4 mb2 tv4 (H1 d) 2097152 GH.out SH.out HP4.out).mono ?_
        rintro e x5 ⟨rfl, tv5, av5, P5, bb5⟩
        rw [H1_again HBD.out, H1_n, hnd.out] at P5
        have HP5 := Hid.mk P5
        have HX5 := Hid.mk (HX4.out.trans bb5)
        clear P5 bb5 HP4 HX4
        have HQ := Hid.mk (HP2.out.below HX5.out)
        have HT : Hid (Below w'.heap.size w' x5) := by
          have t1 := BB.out.trans (HX2.out.mono BB.out.size)
          exact t1.trans (HX5.out.mono t1.size)
        clear HP2 HX2 HX5 BB GN SN SH
        go_wp2_with fail
        refine (zzSizes _ _ hb1 _ _ HQ.out).mono ?_
        rintro e x6 ⟨rfl, m6, hx6⟩
        have b6 : Below x5.heap.size x5 x6 := by rw [hx6]; exact below_drewN (Below.refl _ _) _
        replace HQ := Hid.mk (HQ.out.below b6)
        replace HP5 := Hid.mk (HP5.out.below b6)
        replace HT := Hid.mk (HT.out.trans (b6.mono HT.out.size))
        clear hx6 b6
        go_wp2_with fail
        refine (zzSizes _ _ hb2 _ _ HP5.out).mono ?_
        rintro e x7 ⟨rfl, m7, hx7⟩
        have b7 : Below x6.heap.size x6 x7 := by rw [hx7]; exact below_drewN (Below.refl _ _) _
        replace HQ := Hid.mk (HQ.out.below b7)
        replace HP5 := Hid.mk (HP5.out.below b7)
        replace HT := Hid.mk (HT.out.trans (b7.mono HT.out.size))
        clear hx7 b7
        simp only
        have nT : (H1 d).txs.length ≤ 2097152 := GH.out.txs
        generalize hnT : (H1 d).txs.length = nt at *
        have HNT := Hid.mk hnT
        clear hnT
        go_wp2_with fail
        go_loopw [23] (fun i wr => ∃ x : Nat, x ≤ nt ∧ i = .int .i64 x ∧ Below x7.heap.size x7 wr) (fun i _ => nt - (intOf i).toNat)
        case atStart => exact ⟨0, by omega, rfl, Below.refl _ _⟩
        case round =>
          obtain ⟨x, hx, rfl, hbx⟩ := hrel
          by_cases hxl : x < nt
          · have hxt : x < (H1 d).txs.length := by rw [HNT.out]; exact hxl
            have hr := (H1_fine HBD.out).refs (H1 d).txs[x] (List.getElem_mem hxt)
            have C1 := Hid.mk (fun y (hy : Below x7.heap.size x7 y) => zzTxn _ y hb1 _ (H1 d) (HQ.out.below hy) x hxt (by omega))
            have C2 := Hid.mk (fun y (hy : Below x7.heap.size x7 y) => zzTxn _ y hb2 _ (H1 d) (HP5.out.below hy) x hxt (by omega))
            generalize (H1 d).txs[x] = t at *
            have HB := Hid.mk hbx
            clear hbx hxt
            go_wp2_with fail
            refine (C1.out _ HB.out).mono ?_
            rintro e y1 ⟨p1, q1, p2, q2, rfl, r1, r2, bb⟩
            replace HB := Hid.mk (HB.out.trans (bb.mono HB.out.size))
            have G1 := Hid.mk r1
            have G2 := Hid.mk r2
            clear r1 r2 bb
            go_wp2_with fail
            refine (C2.out _ HB.out).mono ?_
            rintro e y2 ⟨p3, q3, p4, q4, rfl, r3, r4, bb⟩
            replace HB := Hid.mk (HB.out.trans (bb.mono HB.out.size))
            replace G1 := Hid.mk (G1.out.below bb (Nat.le_refl _))
            replace G2 := Hid.mk (G2.out.below bb (Nat.le_refl _))
            have G3 := Hid.mk r3
            have G4 := Hid.mk r4
            clear r3 r4 bb C1 C2
            go_wp2_with fail
            refine (same32 p1 p3 q1 q3 t.refs.length _ _ (by omega) G1.out G3.out).mono ?_
            rintro e y3 ⟨rfl, m3, hy3⟩
            have bb : Below y2.heap.size y2 y3 := by rw [hy3]; exact below_drewN (Below.refl _ _) _
            replace HB := Hid.mk (HB.out.trans (bb.mono HB.out.size))
            replace G2 := Hid.mk (G2.out.below bb (Nat.le_refl _))
            replace G4 := Hid.mk (G4.out.below bb (Nat.le_refl _))
            clear bb hy3 G1 G3
            go_wp2_with fail
            refine (same32 p2 p4 q2 q4 t.refs.length _ _ (by omega) G2.out G4.out).mono ?_
            rintro e y4 ⟨rfl, m4, hy4⟩
            have bb : Below y3.heap.size y3 y4 := by rw [hy4]; exact below_drewN (Below.refl _ _) _
            replace HB := Hid.mk (HB.out.trans (bb.mono HB.out.size))
            clear bb hy4 G2 G4
            go_wp2_with fail
            go_roundw
            case rel => exact ⟨x + 1, by omega, by go_num, HB.out⟩
            case measure => simp [intOf]; omega
          · have HB := Hid.mk hbx
            clear hbx
            have hN6 : n6 ≤ 1048576 := BN
            go_wp2_with fail
            go_loopw [32] (fun i wr => ∃ l : Nat, l ≤ n6 ∧ i = .int .i64 l ∧ Below x7.heap.size x7 wr) (fun i _ => n6 - (intOf i).toNat)
            case atStart => exact ⟨0, by omega, rfl, HB.out⟩
            case round =>
              clear HB
              obtain ⟨l, hl, rfl, hbx⟩ := hrel
              by_cases hll : l < n6
              · have hln : l < (H1 d).n := by rw [H1_n, hnd.out]; exact hll
                have eN : (H1 d).n = n6 := by rw [H1_n, hnd.out]
                have ho : ((H1 d).ls l).order.length ≤ 1048576 := H1_order HBD.out (by rw [hnd.out]; exact hll)
                have ha : ((H1 d).ls l).apps.length ≤ 2097152 := GH.out.apps l
                have FV := Hid.mk ((H1_fine HBD.out).val l)
                have OA := Hid.mk (fun y (hy : Below x7.heap.size x7 y) => zzOrder _ y hb1 _ (H1 d) (HQ.out.below hy) l hln eN (by omega))
                have PA := Hid.mk (fun y (hy : Below x7.heap.size x7 y) => zzAppends _ y hb1 _ (H1 d) (HQ.out.below hy) l hln eN (by omega))
                have IA := Hid.mk (fun y (hy : Below x7.heap.size x7 y) v hv => zzIndex _ y hb1 _ (H1 d) (HQ.out.below hy) l hln eN v hv)
                have NA := Hid.mk (fun y (hy : Below x7.heap.size x7 y) => zzIndexLen _ y hb1 _ (H1 d) (HQ.out.below hy) l hln eN)
                have OB := Hid.mk (fun y (hy : Below x7.heap.size x7 y) => zzOrder _ y hb2 _ (H1 d) (HP5.out.below hy) l hln eN (by omega))
                have PB := Hid.mk (fun y (hy : Below x7.heap.size x7 y) => zzAppends _ y hb2 _ (H1 d) (HP5.out.below hy) l hln eN (by omega))
                have IB := Hid.mk (fun y (hy : Below x7.heap.size x7 y) v hv => zzIndex _ y hb2 _ (H1 d) (HP5.out.below hy) l hln eN v hv)
                have NB := Hid.mk (fun y (hy : Below x7.heap.size x7 y) => zzIndexLen _ y hb2 _ (H1 d) (HP5.out.below hy) l hln eN)
                have HB := Hid.mk hbx
                clear hbx hln eN HQ HP5 HT GH
                generalize (H1 d).ls l = ls at *
                go_wp2_with fail
                refine (OA.out _ HB.out).mono ?_
                rintro e y1 ⟨p1, q1, rfl, r1, bb⟩
                replace HB := Hid.mk (HB.out.trans (bb.mono HB.out.size))
                have G1 := Hid.mk r1.row
                clear bb r1
                go_wp2_with fail
                refine (OB.out _ HB.out).mono ?_
                rintro e y2 ⟨p2, q2, rfl, r2, bb⟩
                replace HB := Hid.mk (HB.out.trans (bb.mono HB.out.size))
                replace G1 := Hid.mk (G1.out.below bb (Nat.le_refl _))
                have G2 := Hid.mk r2.row
                clear bb r2
                go_wp2_with fail
                refine (sameStr p1 p2 q1 q2 ls.order.length _ _ (by omega) G1.out G2.out).mono ?_
                rintro e y3 ⟨rfl, m3, hy3⟩
                have bb : Below y2.heap.size y2 y3 := by rw [hy3]; exact below_drewN (Below.refl _ _) _
                replace HB := Hid.mk (HB.out.trans (bb.mono HB.out.size))
                clear bb hy3
                clear G1 G2 OA OB
                go_wp2_with fail
                refine (PA.out _ HB.out).mono ?_
                rintro e y4 ⟨pa0, qa0, pa1, qa1, pa2, qa2, pa3, qa3, pa4, qa4, pa5, qa5, rfl, ra0, ra1, ra2, ra3, ra4, ra5, bb⟩
                replace HB := Hid.mk (HB.out.trans (bb.mono HB.out.size))
                have GA0 := Hid.mk ra0
                have GA1 := Hid.mk ra1
                have GA2 := Hid.mk ra2
                have GA3 := Hid.mk ra3
                have GA4 := Hid.mk ra4
                have GA5 := Hid.mk ra5
                clear bb ra0 ra1 ra2 ra3 ra4 ra5
                go_wp2_with fail
                refine (PB.out _ HB.out).mono ?_
                rintro e y5 ⟨pb0, qb0, pb1, qb1, pb2, qb2, pb3, qb3, pb4, qb4, pb5, qb5, rfl, rb0, rb1, rb2, rb3, rb4, rb5, bb⟩
                replace HB := Hid.mk (HB.out.trans (bb.mono HB.out.size))
                replace GA0 := Hid.mk (GA0.out.below bb (Nat.le_refl _))
                replace GA1 := Hid.mk (GA1.out.below bb (Nat.le_refl _))
                replace GA2 := Hid.mk (GA2.out.below bb (Nat.le_refl _))
                replace GA3 := Hid.mk (GA3.out.below bb (Nat.le_refl _))
                replace GA4 := Hid.mk (GA4.out.below bb (Nat.le_refl _))
                replace GA5 := Hid.mk (GA5.out.below bb (Nat.le_refl _))
                have GB0 := Hid.mk rb0
                have GB1 := Hid.mk rb1
                have GB2 := Hid.mk rb2
                have GB3 := Hid.mk rb3
                have GB4 := Hid.mk rb4
                have GB5 := Hid.mk rb5
                clear bb rb0 rb1 rb2 rb3 rb4 rb5
                go_wp2_with fail
                refine (sameStr pa0 pb0 qa0 qb0 ls.apps.length _ _ (by omega) GA0.out GB0.out).mono ?_
                rintro e y6 ⟨rfl, m6, hy6⟩
                have bb : Below y5.heap.size y5 y6 := by rw [hy6]; exact below_drewN (Below.refl _ _) _
                replace HB := Hid.mk (HB.out.trans (bb.mono HB.out.size))
                replace GA0 := Hid.mk (GA0.out.below bb (Nat.le_refl _))
                replace GA1 := Hid.mk (GA1.out.below bb (Nat.le_refl _))
                replace GA2 := Hid.mk (GA2.out.below bb (Nat.le_refl _))
                replace GA3 := Hid.mk (GA3.out.below bb (Nat.le_refl _))
                replace GA4 := Hid.mk (GA4.out.below bb (Nat.le_refl _))
                replace GA5 := Hid.mk (GA5.out.below bb (Nat.le_refl _))
                replace GB0 := Hid.mk (GB0.out.below bb (Nat.le_refl _))
                replace GB1 := Hid.mk (GB1.out.below bb (Nat.le_refl _))
                replace GB2 := Hid.mk (GB2.out.below bb (Nat.le_refl _))
                replace GB3 := Hid.mk (GB3.out.below bb (Nat.le_refl _))
                replace GB4 := Hid.mk (GB4.out.below bb (Nat.le_refl _))
                replace GB5 := Hid.mk (GB5.out.below bb (Nat.le_refl _))
                clear bb hy6
                go_wp2_with fail
                refine (same32 pa1 pb1 qa1 qb1 ls.apps.length _ _ (by omega) GA1.out GB1.out).mono ?_
                rintro e y7 ⟨rfl, m7, hy7⟩
                have bb : Below y6.heap.size y6 y7 := by rw [hy7]; exact below_drewN (Below.refl _ _) _
                replace HB := Hid.mk (HB.out.trans (bb.mono HB.out.size))
                replace GA0 := Hid.mk (GA0.out.below bb (Nat.le_refl _))
                replace GA1 := Hid.mk (GA1.out.below bb (Nat.le_refl _))
                replace GA2 := Hid.mk (GA2.out.below bb (Nat.le_refl _))
                replace GA3 := Hid.mk (GA3.out.below bb (Nat.le_refl _))
                replace GA4 := Hid.mk (GA4.out.below bb (Nat.le_refl _))
                replace GA5 := Hid.mk (GA5.out.below bb (Nat.le_refl _))
                replace GB0 := Hid.mk (GB0.out.below bb (Nat.le_refl _))
                replace GB1 := Hid.mk (GB1.out.below bb (Nat.le_refl _))
                replace GB2 := Hid.mk (GB2.out.below bb (Nat.le_refl _))
                replace GB3 := Hid.mk (GB3.out.below bb (Nat.le_refl _))
                replace GB4 := Hid.mk (GB4.out.below bb (Nat.le_refl _))
                replace GB5 := Hid.mk (GB5.out.below bb (Nat.le_refl _))
                clear bb hy7
                go_wp2_with fail
                refine (same32 pa2 pb2 qa2 qb2 ls.apps.length _ _ (by omega) GA2.out GB2.out).mono ?_
                rintro e y8 ⟨rfl, m8, hy8⟩
                have bb : Below y7.heap.size y7 y8 := by rw [hy8]; exact below_drewN (Below.refl _ _) _
                replace HB := Hid.mk (HB.out.trans (bb.mono HB.out.size))
                replace GA0 := Hid.mk (GA0.out.below bb (Nat.le_refl _))
                replace GA1 := Hid.mk (GA1.out.below bb (Nat.le_refl _))
                replace GA2 := Hid.mk (GA2.out.below bb (Nat.le_refl _))
                replace GA3 := Hid.mk (GA3.out.below bb (Nat.le_refl _))
                replace GA4 := Hid.mk (GA4.out.below bb (Nat.le_refl _))
                replace GA5 := Hid.mk (GA5.out.below bb (Nat.le_refl _))
                replace GB0 := Hid.mk (GB0.out.below bb (Nat.le_refl _))
                replace GB1 := Hid.mk (GB1.out.below bb (Nat.le_refl _))
                replace GB2 := Hid.mk (GB2.out.below bb (Nat.le_refl _))
                replace GB3 := Hid.mk (GB3.out.below bb (Nat.le_refl _))
                replace GB4 := Hid.mk (GB4.out.below bb (Nat.le_refl _))
                replace GB5 := Hid.mk (GB5.out.below bb (Nat.le_refl _))
                clear bb hy8
                go_wp2_with fail
                refine (same32 pa3 pb3 qa3 qb3 ls.apps.length _ _ (by omega) GA3.out GB3.out).mono ?_
                rintro e y9 ⟨rfl, m9, hy9⟩
                have bb : Below y8.heap.size y8 y9 := by rw [hy9]; exact below_drewN (Below.refl _ _) _
                replace HB := Hid.mk (HB.out.trans (bb.mono HB.out.size))
                replace GA0 := Hid.mk (GA0.out.below bb (Nat.le_refl _))
                replace GA1 := Hid.mk (GA1.out.below bb (Nat.le_refl _))
                replace GA2 := Hid.mk (GA2.out.below bb (Nat.le_refl _))
                replace GA3 := Hid.mk (GA3.out.below bb (Nat.le_refl _))
                replace GA4 := Hid.mk (GA4.out.below bb (Nat.le_refl _))
                replace GA5 := Hid.mk (GA5.out.below bb (Nat.le_refl _))
                replace GB0 := Hid.mk (GB0.out.below bb (Nat.le_refl _))
                replace GB1 := Hid.mk (GB1.out.below bb (Nat.le_refl _))
                replace GB2 := Hid.mk (GB2.out.below bb (Nat.le_refl _))
                replace GB3 := Hid.mk (GB3.out.below bb (Nat.le_refl _))
                replace GB4 := Hid.mk (GB4.out.below bb (Nat.le_refl _))
                replace GB5 := Hid.mk (GB5.out.below bb (Nat.le_refl _))
                clear bb hy9
                go_wp2_with fail
                refine (same32 pa4 pb4 qa4 qb4 ls.apps.length _ _ (by omega) GA4.out GB4.out).mono ?_
                rintro e y10 ⟨rfl, m10, hy10⟩
                have bb : Below y9.heap.size y9 y10 := by rw [hy10]; exact below_drewN (Below.refl _ _) _
                replace HB := Hid.mk (HB.out.trans (bb.mono HB.out.size))
                replace GA0 := Hid.mk (GA0.out.below bb (Nat.le_refl _))
                replace GA1 := Hid.mk (GA1.out.below bb (Nat.le_refl _))
                replace GA2 := Hid.mk (GA2.out.below bb (Nat.le_refl _))
                replace GA3 := Hid.mk (GA3.out.below bb (Nat.le_refl _))
                replace GA4 := Hid.mk (GA4.out.below bb (Nat.le_refl _))
                replace GA5 := Hid.mk (GA5.out.below bb (Nat.le_refl _))
                replace GB0 := Hid.mk (GB0.out.below bb (Nat.le_refl _))
                replace GB1 := Hid.mk (GB1.out.below bb (Nat.le_refl _))
                replace GB2 := Hid.mk (GB2.out.below bb (Nat.le_refl _))
                replace GB3 := Hid.mk (GB3.out.below bb (Nat.le_refl _))
                replace GB4 := Hid.mk (GB4.out.below bb (Nat.le_refl _))
                replace GB5 := Hid.mk (GB5.out.below bb (Nat.le_refl _))
                clear bb hy10
                go_wp2_with fail
                refine (same32 pa5 pb5 qa5 qb5 ls.apps.length _ _ (by omega) GA5.out GB5.out).mono ?_
                rintro e y11 ⟨rfl, m11, hy11⟩
                have bb : Below y10.heap.size y10 y11 := by rw [hy11]; exact below_drewN (Below.refl _ _) _
                replace HB := Hid.mk (HB.out.trans (bb.mono HB.out.size))
                replace GA0 := Hid.mk (GA0.out.below bb (Nat.le_refl _))
                replace GA1 := Hid.mk (GA1.out.below bb (Nat.le_refl _))
                replace GA2 := Hid.mk (GA2.out.below bb (Nat.le_refl _))
                replace GA3 := Hid.mk (GA3.out.below bb (Nat.le_refl _))
                replace GA4 := Hid.mk (GA4.out.below bb (Nat.le_refl _))
                replace GA5 := Hid.mk (GA5.out.below bb (Nat.le_refl _))
                replace GB0 := Hid.mk (GB0.out.below bb (Nat.le_refl _))
                replace GB1 := Hid.mk (GB1.out.below bb (Nat.le_refl _))
                replace GB2 := Hid.mk (GB2.out.below bb (Nat.le_refl _))
                replace GB3 := Hid.mk (GB3.out.below bb (Nat.le_refl _))
                replace GB4 := Hid.mk (GB4.out.below bb (Nat.le_refl _))
                replace GB5 := Hid.mk (GB5.out.below bb (Nat.le_refl _))
                clear bb hy11
                clear PA PB GB0 GB1 GB2 GB3 GB4 GB5 GA1 GA2 GA3 GA4 GA5
                go_wp2_with fail
                refine (NA.out _ HB.out).mono ?_
                rintro e yy ⟨rfl, rfl⟩
                go_wp2_with fail
                refine (NB.out _ HB.out).mono ?_
                rintro e yz ⟨rfl, rfl⟩
                clear NA NB
                go_wp2_with fail
                go_loopw [45] (fun i wr => ∃ k : Nat, k ≤ ls.apps.length ∧ i = .int .i64 k ∧ wr = yz) (fun i _ => ls.apps.length - (intOf i).toNat)
                case atStart => exact ⟨0, by omega, rfl, rfl⟩
                case round =>
                  obtain ⟨k, hk, rfl, hw⟩ := hrel
                  subst hw
                  by_cases hkl : k < ls.apps.length
                  · obtain ⟨bk, ok, rfl, _, hck⟩ := GA0.out k hkl
                    have hvk : (ls.apps.getD k zeroApp).value.size ≤ maxLen := FV.out _ (by rw [List.getD_eq_getElem?_getD, List.getElem?_eq_getElem hkl]; exact List.getElem_mem hkl)
                    simp only at hck
                    generalize (ls.apps.getD k zeroApp).value = v at hck hvk
                    clear FV GA0
                    go_wp2_with fail
                    refine (IA.out _ HB.out v hvk).mono ?_
                    rintro e yc ⟨rfl, hyc⟩
                    rw [hyc]
                    clear hyc
                    go_wp2_with fail
                    refine (IB.out _ HB.out v hvk).mono ?_
                    rintro e ye ⟨rfl, hye⟩
                    rw [hye]
                    clear hye
                    go_wp2_with fail
                    go_roundw
                    case rel => exact ⟨k + 1, by omega, by go_num, trivial⟩
                    case measure => simp [intOf]; omega
                  · go_wp2_with fail
                    go_roundw
                    case rel => exact ⟨l + 1, by omega, by go_num, HB.out⟩
                    case measure => simp [intOf]; omega
              · have HB := Hid.mk hbx
                clear hbx
                go_wp2
                go_ret
                exact ⟨rfl, HT.out.trans (HB.out.mono HT.out.size)⟩
end Go.Proofs.Qxb6602594a
