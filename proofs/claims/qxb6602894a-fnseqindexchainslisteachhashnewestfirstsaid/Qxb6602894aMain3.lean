import Derived.Test.Qxb6602894aAdd
namespace Go.Proofs.Qxb6602894a
open Go.RowKit Go.Maps

/-- what the script has left: hs's cells, next's cells, and the map's answers; n > 0 -/
structure Left (w : World) (H : Nat → Int) (n b0 o0 g b : Nat) : Prop where
  hs : ∀ i, i < n → w.cell? ⟨b0, o0 + i, none⟩ = some (.int .u64 (H i))
  nx : ∀ i, i < n → w.cell? ⟨g, i, none⟩ = some (.int .i32 (enc32 (lastB H i (H i))))
  look : ∀ i, i < n → ∀ j, lastB H n (H i) = some j → (Instr.lookup 25 (.map (some b)) (.int .u64 (H i)) true).run Try.prog w = .ok (.tuple #[.int .i32 j, .bool true]) w
  len : (Builtin.len_ #[25] 3 #[.map (some b)]).run Try.prog w = .ok (.int .i64 (distinct H n)) w

theorem left_of {w : World} {H : Nat → Int} {n b0 o0 base cn : Nat} {o : Option Nat} {an : Option Addr} (hn : 0 < n) (gh : ∀ i, i < n → 0 ≤ H i ∧ H i < 18446744073709551616) (hs : ∀ i, i < n → w.cell? ⟨b0, o0 + i, none⟩ = some (.int .u64 (H i))) (h : Idx w base H n (.map o) (.slice an n cn)) :
    ∃ g b, o = some b ∧ an = some ⟨g, 0, none⟩ ∧ Left w H n b0 o0 g b := by
  obtain ⟨hm, hr⟩ := h
  rcases hr.2 with ⟨_, e⟩ | ⟨g, cap, cur, e, _, _, _⟩
  · omega
  cases e
  cases hm with
  | nil h => omega
  | some b D hb h hD =>
    refine ⟨g, b, rfl, rfl, hs, fun i hi => ?_, fun i hi j hj => ?_, ?_⟩
    · rw [hr.cellAt i (by omega), nexts_get hi]
    · obtain ⟨v, hrun, hv⟩ := Qxb6602894a.look h hD (gh i hi).1 (gh i hi).2
      rw [hrun, hv j hj, hj]
      rfl
    · rw [h.len Try.underlying25, hD.size]

theorem Left.drewN {w : World} {H : Nat → Int} {n b0 o0 g b : Nat} (h : Left w H n b0 o0 g b) {cn base : Nat} (hi : Idx w base H n (.map (some b)) (.slice (some ⟨g, 0, none⟩) n cn)) (hn : 0 < n) (gh : ∀ i, i < n → 0 ≤ H i ∧ H i < 18446744073709551616) (d : Nat) : Left (w.drewN d) H n b0 o0 g b := by
  obtain ⟨g', b', e1, e2, hl⟩ := left_of (w := w.drewN d) (b0 := b0) (o0 := o0) hn gh (fun i hi => h.hs i hi) (hi.drewN d)
  cases e1
  cases e2
  exact hl

set_option maxRecDepth 100000 in
set_option maxHeartbeats 2000000 in
theorem main3 (a : Option Addr) (c n : Nat) (H : Nat → Int) (w : World) (h : Row w a n (fun i => .int .u64 (H i))) (gh : ∀ i, i < n → 0 ≤ H i ∧ H i < 18446744073709551616) :
    Calls Try.prog 3 #[.slice a n c] w (Good w) := by
  have HZ := zzBytes8 a n c w
  go_enter Try.func3, Try.ntmps3
  go_wp2_with fail
  refine HZ.mono ?_
  rintro e w' ⟨rfl, b, rfl, hsm⟩
  cases b with
  | false =>
    clear HZ h hsm
    go_wp2
    go_ret
    exact Good.same
  | true =>
    clear hsm HZ
    by_cases g0' : ¬ (n ≤ 4096)
    · clear h
      go_wp2
      go_ret
      exact Good.same
    have hn : n ≤ 4096 := Decidable.not_not.1 g0'
    clear g0'
    have hK := cloneU64 a c n H w' (by omega) h
    go_wp2_with fail
    refine hK.mono ?_
    rintro e w1 ⟨ka, kc, rfl, kr, kb⟩
    have KR := Hid.mk kr.row
    have KB := Hid.mk kb
    have GH := Hid.mk gh
    clear hK kr kb h gh
    go_wp2
    go_loopw [3, 4, 5] (fun lv nv i wr => ∃ (k : Nat) (o : Option Nat) (an : Option Addr) (cn : Nat), k ≤ n ∧ i = .int .i64 k ∧ lv = .map o ∧ nv = .slice an k cn ∧ Idx wr w1.heap.size H k (.map o) (.slice an k cn) ∧ Below w1.heap.size w1 wr) (fun _ _ i _ => n - (intOf i).toNat)
    case atStart => exact ⟨0, none, none, 0, by omega, rfl, rfl, rfl, ⟨.nil rfl, World.ownsRow_nil _ _ _ _⟩, Below.refl _ _⟩
    case round =>
      obtain ⟨k, o, an, cn, hk, rfl, rfl, rfl, hidx, hbel⟩ := hrel
      by_cases hlt : k < n
      · obtain ⟨b0, o0, rfl, hb0, hc0⟩ := KR.out k hlt
        have d0 := (hbel.cell (p := ⟨b0, o0 + k, none⟩) hb0).trans hc0
        have hA := zzAdd w1.heap.size k o an cn H wr hbel.size (by omega) (GH.out k hlt).1 (GH.out k hlt).2 hidx
        have BL := Hid.mk hbel
        clear hidx hbel hc0
        go_wp2_with fail
        refine hA.mono ?_
        rintro e w3 ⟨o', a', c', rfl, idx', bel'⟩
        have I := Hid.mk idx'
        have L := Hid.mk (BL.out.trans bel')
        clear idx' bel' hA
        go_wp2
        go_roundw
        case rel => exact ⟨k + 1, o', a', c', by omega, by go_num, rfl, by simp, I.out, L.out⟩
        case measure => simp [intOf]; omega
      · have e : k = n := by omega
        subst e
        have BG := Hid.mk (KB.out.trans (hbel.mono KB.out.size))
        by_cases hk0 : k = 0
        · subst hk0
          have hlen : (Builtin.len_ #[25] 3 #[.map o]).run Try.prog wr = .ok (.int .i64 0) wr := by
            have hm := hidx.map
            cases hm with
            | nil _ => exact Maps.len_nil (w := wr) Try.underlying25 3
            | some b D hb h hD => rw [h.len Try.underlying25, hD.size]; rfl
          clear hidx hbel
          go_wp2
          go_loopw [6, 7] (fun ds i wq => ds = .int .i64 0 ∧ i = .int .i64 0 ∧ wq = wr) (fun _ _ _ => 0)
          case atStart => exact ⟨rfl, rfl, rfl⟩
          case round =>
            obtain ⟨rfl, rfl, rfl⟩ := hrel
            go_wp2
            go_ret
            exact ⟨rfl, BG.out⟩
        · have hkp : 0 < k := by omega
          clear hk0 hlt hk
          obtain ⟨b0, o0, rfl, hb0, hc0⟩ := KR.out.addr hkp
          obtain ⟨g, b, rfl, rfl, hL⟩ := left_of hkp GH.out (fun i hi => (hbel.cell (p := ⟨b0, o0 + i, none⟩) hb0).trans (hc0 i hi)) hidx
          have HL := Hid.mk (fun d => hL.drewN hidx hkp GH.out d)
          obtain ⟨w2, hw2⟩ : ∃ w2, w2 = wr := ⟨wr, rfl⟩
          subst hw2
          clear hL hidx hbel hc0 KR
          obtain ⟨n, hnk⟩ : ∃ n, n = k := ⟨k, rfl⟩
          subst hnk
          go_wp2
          go_loopw [6, 7] (fun ds i wq => ∃ k d : Nat, k ≤ n ∧ i = .int .i64 k ∧ ds = .int .i64 (distinct H k) ∧ wq = w2.drewN d) (fun _ i _ => n - (intOf i).toNat)
          case atStart => exact ⟨0, 0, by omega, rfl, rfl, rfl⟩
          case round =>
            obtain ⟨k, d, hk, rfl, rfl, hw⟩ := hrel
            have HW := Hid.mk hw
            clear hw
            by_cases hlt : k < n
            · have hdl := distinct_le H k
              go_wp2
              obtain ⟨w2', hw2'⟩ : ∃ w2, w2 = wr := ⟨wr, rfl⟩
              subst hw2'
              go_loopw [8, 9] (fun pv j wq => ∃ (m d : Nat), m ≤ k ∧ pv = .int .i64 (-1) ∧ j = .int .i64 ((m : Int) - 1) ∧ wq = w2.drewN d ∧ ∀ q, m ≤ q → q < k → H q ≠ H k) (fun _ j _ => (intOf j + 1).toNat)
              case atStart => exact ⟨k, d, Nat.le_refl _, rfl, by go_num, HW.out, fun q h1 h2 => by omega⟩
              case round =>
                obtain ⟨m, d3, hm, rfl, rfl, hw3, hne3⟩ := hrel
                have HW3 := Hid.mk hw3
                have HNE3 := Hid.mk hne3
                clear hw3 hne3
                cases m with
                | zero =>
                  have HLB : Hid (lastB H k (H k) = none) := Hid.mk (lastB_eq_none (fun q hq => HNE3.out q (by omega) hq))
                  have HD : Hid (distinct H (k + 1) = distinct H k + 1) := Hid.mk (by rw [distinct, if_pos HLB.out])
                  have hnx := (HL.out d3).nx k hlt
                  rw [← HW3.out, HLB.out, show enc32 none = -1 from rfl] at hnx
                  rw [show (((0 : Nat) : Int) - 1) = -1 from by omega]
                  generalize hdk : distinct H k = dk at *
                  clear hdk
                  go_wp2
                  go_loopw [10, 11] (fun nw j wq => ∃ (m d : Nat), k < m ∧ m ≤ n ∧ nw = .int .i64 k ∧ j = .int .i64 ((m : Int) - 1) ∧ wq = w2.drewN d ∧ ∀ q, m ≤ q → q < n → H q ≠ H k) (fun _ j _ => (intOf j).toNat)
                  case atStart => exact ⟨n, _, hlt, Nat.le_refl _, rfl, by go_num, HW3.out, fun q h1 h2 => by omega⟩
                  case round =>
                    obtain ⟨m, d4, hm0, hm1, rfl, rfl, hw4, hne4⟩ := hrel
                    have HW4 := Hid.mk hw4
                    have HNE4 := Hid.mk hne4
                    clear hw4 hne4
                    obtain ⟨m, rfl⟩ : ∃ m', m = m' + 1 := ⟨m - 1, by omega⟩
                    rw [show (((m + 1 : Nat) : Int) - 1) = (m : Int) from by omega]
                    by_cases hmk : k < m
                    · have e1 := (HL.out d4).hs m (by omega)
                      have e2 := (HL.out d4).hs k hlt
                      rw [← HW4.out] at e1 e2
                      by_cases he : H m = H k
                      · have HN : Hid (lastB H n (H k) = some m) := Hid.mk (lastB_eq_some (by omega) he (fun q h1 h2 => HNE4.out q (by omega) h2))
                        rw [he] at e1
                        clear he
                        go_wp2
                        go_quiet (fail)
                        have HW5 : Hid (wr.drewN nq = w2.drewN (d4 + nq)) := Hid.mk (by rw [HW4.out, World.drewN_drewN])
                        have hlk := (HL.out (d4 + nq)).look k hlt m HN.out
                        have e5 := (HL.out (d4 + nq)).hs k hlt
                        rw [← HW5.out] at hlk e5
                        clear e1 e2
                        generalize wr.drewN nq = w5 at *
                        go_wp2
                        go_roundw
                        case rel => exact ⟨k + 1, _, by omega, by go_num, by rw [HD.out] <;> first | rfl | go_num, HW5.out⟩
                        case measure => simp [intOf]; omega
                      · have hne : (H m == H k) = false := by simpa using he
                        have HNX : Hid (∀ q, m ≤ q → q < n → H q ≠ H k) := fun q h1 h2 => by
                          by_cases e : q = m
                          · subst e; exact he
                          · exact HNE4.out q (by omega) h2
                        clear he
                        generalize H m = x at *
                        generalize H k = y at *
                        go_wp2
                        go_quiet (fail)
                        go_wp2
                        go_roundw
                        case rel => exact ⟨m, _, by omega, by omega, rfl, by go_num, by rw [HW4.out, World.drewN_drewN], HNX.out⟩
                        case measure => simp [intOf]; omega
                    · have hmk' : m = k := by omega
                      have HN : Hid (lastB H n (H k) = some k) := Hid.mk (lastB_eq_some hlt rfl (fun q h1 h2 => HNE4.out q (by omega) h2))
                      have hlk := (HL.out d4).look k hlt k HN.out
                      have e2 := (HL.out d4).hs k hlt
                      rw [← HW4.out] at hlk e2
                      go_wp2
                      go_roundw
                      case rel => exact ⟨k + 1, d4, by omega, by go_num, by rw [HD.out] <;> first | rfl | go_num, HW4.out⟩
                      case measure => simp [intOf]; omega
                | succ m =>
                  rw [show (((m + 1 : Nat) : Int) - 1) = (m : Int) from by omega]
                  have e1 := (HL.out d3).hs m (by omega)
                  have e2 := (HL.out d3).hs k hlt
                  rw [← HW3.out] at e1 e2
                  by_cases he : H m = H k
                  · have HLB : Hid (lastB H k (H k) = some m) := Hid.mk (lastB_eq_some (by omega) he (fun q h1 h2 => HNE3.out q (by omega) h2))
                    have HD : Hid (distinct H (k + 1) = distinct H k) := Hid.mk (by rw [distinct, if_neg (by rw [HLB.out]; simp)])
                    have hmz : ((m : Int) == -1) = false := by simp <;> omega
                    rw [he] at e1
                    clear he
                    generalize hdk : distinct H k = dk at *
                    clear hdk
                    go_wp2
                    go_quiet (fail)
                    have HW3' : Hid (wr.drewN nq = w2.drewN (d3 + nq)) := Hid.mk (by rw [HW3.out, World.drewN_drewN])
                    have hnx := (HL.out (d3 + nq)).nx k hlt
                    rw [← HW3'.out, HLB.out, show enc32 (some m) = (m : Int) from rfl] at hnx
                    generalize wr.drewN nq = w5 at *
                    go_wp2
                    go_loopw [10, 11] (fun nw j wq => ∃ (m d : Nat), k < m ∧ m ≤ n ∧ nw = .int .i64 k ∧ j = .int .i64 ((m : Int) - 1) ∧ wq = w2.drewN d ∧ ∀ q, m ≤ q → q < n → H q ≠ H k) (fun _ j _ => (intOf j).toNat)
                    case atStart => exact ⟨n, _, hlt, Nat.le_refl _, rfl, by go_num, HW3'.out, fun q h1 h2 => by omega⟩
                    case round =>
                      obtain ⟨m, d4, hm0, hm1, rfl, rfl, hw4, hne4⟩ := hrel
                      have HW4 := Hid.mk hw4
                      have HNE4 := Hid.mk hne4
                      clear hw4 hne4
                      obtain ⟨m, rfl⟩ : ∃ m', m = m' + 1 := ⟨m - 1, by omega⟩
                      rw [show (((m + 1 : Nat) : Int) - 1) = (m : Int) from by omega]
                      by_cases hmk : k < m
                      · have e1 := (HL.out d4).hs m (by omega)
                        have e2 := (HL.out d4).hs k hlt
                        rw [← HW4.out] at e1 e2
                        by_cases he : H m = H k
                        · have HN : Hid (lastB H n (H k) = some m) := Hid.mk (lastB_eq_some (by omega) he (fun q h1 h2 => HNE4.out q (by omega) h2))
                          rw [he] at e1
                          clear he
                          go_wp2
                          go_quiet (fail)
                          have HW5 : Hid (wr.drewN nq = w2.drewN (d4 + nq)) := Hid.mk (by rw [HW4.out, World.drewN_drewN])
                          have hlk := (HL.out (d4 + nq)).look k hlt m HN.out
                          have e5 := (HL.out (d4 + nq)).hs k hlt
                          rw [← HW5.out] at hlk e5
                          clear e1 e2
                          generalize wr.drewN nq = w5 at *
                          go_wp2
                          go_roundw
                          case rel => exact ⟨k + 1, _, by omega, by go_num, by rw [HD.out] <;> first | rfl | go_num, HW5.out⟩
                          case measure => simp [intOf]; omega
                        · have hne : (H m == H k) = false := by simpa using he
                          have HNX : Hid (∀ q, m ≤ q → q < n → H q ≠ H k) := fun q h1 h2 => by
                            by_cases e : q = m
                            · subst e; exact he
                            · exact HNE4.out q (by omega) h2
                          clear he
                          generalize H m = x at *
                          generalize H k = y at *
                          go_wp2
                          go_quiet (fail)
                          go_wp2
                          go_roundw
                          case rel => exact ⟨m, _, by omega, by omega, rfl, by go_num, by rw [HW4.out, World.drewN_drewN], HNX.out⟩
                          case measure => simp [intOf]; omega
                      · have hmk' : m = k := by omega
                        have HN : Hid (lastB H n (H k) = some k) := Hid.mk (lastB_eq_some hlt rfl (fun q h1 h2 => HNE4.out q (by omega) h2))
                        have hlk := (HL.out d4).look k hlt k HN.out
                        have e2 := (HL.out d4).hs k hlt
                        rw [← HW4.out] at hlk e2
                        go_wp2
                        go_roundw
                        case rel => exact ⟨k + 1, d4, by omega, by go_num, by rw [HD.out] <;> first | rfl | go_num, HW4.out⟩
                        case measure => simp [intOf]; omega

                  · have hne : (H m == H k) = false := by simpa using he
                    have HNX : Hid (∀ q, m ≤ q → q < k → H q ≠ H k) := fun q h1 h2 => by
                      by_cases e : q = m
                      · subst e; exact he
                      · exact HNE3.out q (by omega) h2
                    clear he
                    generalize H m = x at *
                    generalize H k = y at *
                    go_wp2
                    go_quiet (fail)
                    go_wp2
                    go_roundw
                    case rel => exact ⟨m, _, by omega, rfl, by go_num, by rw [HW3.out, World.drewN_drewN], HNX.out⟩
                    case measure => simp [intOf] <;> omega
            · have e : k = n := by omega
              have hlen := (HL.out d).len
              rw [← HW.out] at hlen
              rw [e]
              have BF : Hid (Below w'.heap.size w' wr) := Hid.mk (by rw [HW.out]; exact drewN_below BG.out _)
              go_wp2
              go_ret
              exact ⟨rfl, BF.out⟩
end Go.Proofs.Qxb6602894a
