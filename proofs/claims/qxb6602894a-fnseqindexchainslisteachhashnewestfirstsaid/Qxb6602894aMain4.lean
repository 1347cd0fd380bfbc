import Derived.Test.Qxb6602894aMain3
namespace Go.Proofs.Qxb6602894a
open Go.RowKit Go.Maps

/-- how many q < m have hash h -/
def cnt (H : Nat → Int) (h : Int) : Nat → Nat
  | 0 => 0
  | m + 1 => if H m = h then cnt H h m + 1 else cnt H h m

theorem cnt_le (H : Nat → Int) (h : Int) (m : Nat) : cnt H h m ≤ m := by
  induction m with
  | zero => exact Nat.le_refl _
  | succ m ih => unfold cnt; split <;> omega

theorem cnt_gap {H : Nat → Int} {h : Int} {s m : Nat} (hs : s ≤ m) (hne : ∀ q, s ≤ q → q < m → H q ≠ h) : cnt H h m = cnt H h s := by
  induction m with
  | zero => rw [show s = 0 from by omega]
  | succ m ih =>
    rcases Nat.lt_succ_iff_lt_or_eq.1 (Nat.lt_succ_of_le hs) with h1 | rfl
    · rw [cnt, if_neg (hne m (by omega) (by omega))]
      exact ih (by omega) (fun q h2 h3 => hne q h2 (by omega))
    · rfl

theorem cnt_last {H : Nat → Int} {h : Int} {s m : Nat} (e : lastB H m h = some s) : cnt H h m = cnt H h s + 1 := by
  obtain ⟨h1, h2, h3⟩ := lastB_some e
  rw [cnt_gap (s := s + 1) (by omega) (fun q h4 h5 => h3 q (by omega) h5), cnt, if_pos h2]

set_option maxRecDepth 100000 in
set_option maxHeartbeats 2000000 in
theorem main4 (a : Option Addr) (c n : Nat) (H : Nat → Int) (w : World) (h : Row w a n (fun i => .int .u64 (H i))) (gh : ∀ i, i < n → 0 ≤ H i ∧ H i < 18446744073709551616) :
    Calls Try.prog 4 #[.slice a n c] w (Good w) := by
  have HZ := zzBytes11 a n c w
  go_enter Try.func4, Try.ntmps4
  go_wp2_with fail
  refine HZ.mono ?_
  rintro e w' ⟨rfl, b, rfl, hsm⟩
  cases b with
  | false =>
    clear HZ h hsm
    go_wp2
    go_ret
    exact Good.same
  | true =>
    clear hsm HZ
    by_cases g0' : ¬ (n ≤ 4096)
    · clear h
      go_wp2
      go_ret
      exact Good.same
    have hn : n ≤ 4096 := Decidable.not_not.1 g0'
    clear g0'
    have hK := cloneU64 a c n H w' (by omega) h
    go_wp2_with fail
    refine hK.mono ?_
    rintro e w1 ⟨ka, kc, rfl, kr, kb⟩
    have KR := Hid.mk kr.row
    have KB := Hid.mk kb
    have GH := Hid.mk gh
    clear hK kr kb h gh
    go_wp2
    go_loopw [3, 4, 5] (fun lv nv i wr => ∃ (k : Nat) (o : Option Nat) (an : Option Addr) (cn : Nat), k ≤ n ∧ i = .int .i64 k ∧ lv = .map o ∧ nv = .slice an k cn ∧ Idx wr w1.heap.size H k (.map o) (.slice an k cn) ∧ Below w1.heap.size w1 wr) (fun _ _ i _ => n - (intOf i).toNat)
    case atStart => exact ⟨0, none, none, 0, by omega, rfl, rfl, rfl, ⟨.nil rfl, World.ownsRow_nil _ _ _ _⟩, Below.refl _ _⟩
    case round =>
      obtain ⟨k, o, an, cn, hk, rfl, rfl, rfl, hidx, hbel⟩ := hrel
      by_cases hlt : k < n
      · obtain ⟨b0, o0, rfl, hb0, hc0⟩ := KR.out k hlt
        have d0 := (hbel.cell (p := ⟨b0, o0 + k, none⟩) hb0).trans hc0
        have hA := zzAdd w1.heap.size k o an cn H wr hbel.size (by omega) (GH.out k hlt).1 (GH.out k hlt).2 hidx
        have BL := Hid.mk hbel
        clear hidx hbel hc0
        go_wp2_with fail
        refine hA.mono ?_
        rintro e w3 ⟨o', a', c', rfl, idx', bel'⟩
        have I := Hid.mk idx'
        have L := Hid.mk (BL.out.trans bel')
        clear idx' bel' hA
        go_wp2
        go_roundw
        case rel => exact ⟨k + 1, o', a', c', by omega, by go_num, rfl, by simp, I.out, L.out⟩
        case measure => simp [intOf]; omega
      · have e : k = n := by omega
        subst e
        have BG := Hid.mk (KB.out.trans (hbel.mono KB.out.size))
        by_cases hk0 : k = 0
        · subst hk0
          clear hidx hbel
          go_wp2
          go_loopw [6] (fun i wq => i = .int .i64 0 ∧ wq = wr) (fun _ _ => 0)
          case atStart => exact ⟨rfl, rfl⟩
          case round =>
            obtain ⟨rfl, rfl⟩ := hrel
            go_wp2
            go_ret
            exact ⟨rfl, BG.out⟩
        · have hkp : 0 < k := by omega
          clear hk0 hlt hk
          obtain ⟨b0, o0, rfl, hb0, hc0⟩ := KR.out.addr hkp
          obtain ⟨g, b, rfl, rfl, hL⟩ := left_of hkp GH.out (fun i hi => (hbel.cell (p := ⟨b0, o0 + i, none⟩) hb0).trans (hc0 i hi)) hidx
          have HL := Hid.mk hL
          obtain ⟨w2, hw2⟩ : ∃ w2, w2 = wr := ⟨wr, rfl⟩
          subst hw2
          clear hL hidx hbel hc0 KR
          obtain ⟨n, hnk⟩ : ∃ n, n = k := ⟨k, rfl⟩
          subst hnk
          go_wp2
          go_loopw [6] (fun i wq => ∃ k : Nat, k ≤ n ∧ i = .int .i64 k ∧ wq = w2) (fun i _ => n - (intOf i).toNat)
          case atStart => exact ⟨0, by omega, rfl, rfl⟩
          case round =>
            obtain ⟨k, hk, rfl, rfl⟩ := hrel
            by_cases hlt : k < n
            · have ek := HL.out.hs k hlt
              obtain ⟨h, hh⟩ : ∃ h, h = H k := ⟨_, rfl⟩
              rw [← hh] at ek
              have HH := Hid.mk hh
              clear hh
              go_wp2
              obtain ⟨w2, hw2⟩ : ∃ w2, w2 = wr := ⟨wr, rfl⟩
              subst hw2
              go_loopw [8, 9] (fun oc j wq => ∃ m : Nat, m ≤ n ∧ j = .int .i64 m ∧ oc = .int .i64 (cnt H h m) ∧ wq = w2) (fun _ j _ => n - (intOf j).toNat)
              case atStart => exact ⟨0, by omega, rfl, rfl, rfl⟩
              case round =>
                obtain ⟨m, hm, rfl, rfl, rfl⟩ := hrel
                have hcl := cnt_le H h m
                by_cases hml : m < n
                · have e1 := HL.out.hs m hml
                  by_cases he : H m = h
                  · have HC : Hid (cnt H h (m + 1) = cnt H h m + 1) := Hid.mk (by rw [cnt, if_pos he])
                    rw [he] at e1
                    clear he
                    generalize cnt H h m = cm at *
                    go_wp2
                    go_roundw
                    case rel => exact ⟨m + 1, by omega, by go_num, by rw [HC.out]; go_num, trivial⟩
                    case measure => simp [intOf]; omega
                  · have HC : Hid (cnt H h (m + 1) = cnt H h m) := Hid.mk (by rw [cnt, if_neg he])
                    have hne : (H m == h) = false := by simpa using he
                    clear he
                    generalize H m = x at *
                    generalize cnt H h m = cm at *
                    go_wp2
                    go_roundw
                    case rel => exact ⟨m + 1, by omega, by go_num, by rw [HC.out], trivial⟩
                    case measure => simp [intOf]; omega
                · have e : m = n := by omega
                  rw [e]
                  rw [e] at hcl
                  obtain ⟨s0, hs0⟩ : ∃ s0, lastB H n h = some s0 := by
                    cases hl : lastB H n h with
                    | none => exact absurd HH.out.symm (lastB_none hl k hlt)
                    | some s0 => exact ⟨s0, rfl⟩
                  have hlk := HL.out.look k hlt s0 (by rw [← HH.out]; exact hs0)
                  rw [← HH.out] at hlk
                  have HS0 := Hid.mk hs0
                  generalize hcn : cnt H h n = cn at *
                  have HCN := Hid.mk hcn
                  clear hcn e hml hm hs0
                  go_wp2
                  obtain ⟨w2, hw2⟩ : ∃ w2, w2 = wr := ⟨wr, rfl⟩
                  subst hw2
                  go_loopw [10, 12, 13, 14] (fun sv sn rc pv wq => ∃ (m x : Nat), m ≤ n ∧ sv = .int .i32 (enc32 (lastB H m h)) ∧ sn = .int .i64 x ∧ cnt H h m + x = cn ∧ rc = .bool (decide (m ≤ k)) ∧ pv = .int .i64 m ∧ wq = w2) (fun _ _ _ pv _ => (intOf pv).toNat)
                  case atStart => exact ⟨n, 0, Nat.le_refl _, by rw [HS0.out]; rfl, rfl, HCN.out, by rw [decide_eq_false (by omega)], rfl, rfl⟩
                  case round =>
                    obtain ⟨m, x, hm, rfl, rfl, hx, rfl, rfl, rfl⟩ := hrel
                    have HX := Hid.mk hx
                    clear hx
                    cases hl : lastB H m h with
                    | none =>
                      have hmk : m ≤ k := Nat.le_of_not_lt (fun hlt' => lastB_none hl k hlt' HH.out.symm)
                      have hxe : x = cn := by
                        have h1 := HX.out
                        rw [cnt_gap (s := 0) (Nat.zero_le _) (fun q _ hq => lastB_none hl q hq)] at h1
                        simpa [cnt] using h1
                      rw [show enc32 none = -1 from rfl, decide_eq_true hmk, hxe]
                      clear hxe hl
                      go_wp2
                      exact ⟨⟨k + 1, by omega, by go_num, trivial⟩, by simp [intOf]; omega⟩
                    | some s =>
                      obtain ⟨q1, q2, q3⟩ := lastB_some hl
                      have e1 := HL.out.hs s (by omega)
                      have e2 := HL.out.nx s (by omega)
                      rw [q2] at e1 e2
                      have HC := Hid.mk (cnt_last hl)
                      have hz : ((s : Int) == -1) = false := by simp <;> omega
                      rw [show enc32 (some s) = (s : Int) from rfl]
                      clear hl
                      have hxl : x ≤ 4096 := by have := HX.out; omega
                      by_cases hsk : s = k
                      · have hde : ((s : Int) == (k : Int)) = true := by simp [hsk]
                        have HXX : Hid (cnt H h s + (x + 1) = cn) := Hid.mk (by have h1 := HX.out; have h2 := HC.out; omega)
                        have HRK : Hid (decide (s ≤ k) = true) := decide_eq_true (by omega)
                        clear hsk q3
                        generalize hen : enc32 (lastB H s h) = en at *
                        have HEN := Hid.mk hen
                        clear hen
                        go_wp2
                        exact ⟨⟨s, x + 1, by omega, by rw [HEN.out], by go_num, HXX.out, by rw [HRK.out], rfl, trivial⟩, by simp [intOf]; omega⟩
                      · have hde : ((s : Int) == (k : Int)) = false := by simp; omega
                        have HXX : Hid (cnt H h s + (x + 1) = cn) := Hid.mk (by have h1 := HX.out; have h2 := HC.out; omega)
                        have HRK : Hid (decide (s ≤ k) = decide (m ≤ k)) := Hid.mk (by
                          by_cases hmk : m ≤ k
                          · rw [decide_eq_true hmk, decide_eq_true (by omega)]
                          · rw [decide_eq_false hmk, decide_eq_false]
                            intro hle
                            exact q3 k (by omega) (by omega) HH.out.symm)
                        clear hsk q3
                        generalize hen : enc32 (lastB H s h) = en at *
                        have HEN := Hid.mk hen
                        clear hen
                        generalize decide (m ≤ k) = rc at *
                        go_wp2
                        exact ⟨⟨s, x + 1, by omega, by rw [HEN.out], by go_num, HXX.out, by rw [HRK.out], rfl, trivial⟩, by simp [intOf]; omega⟩
            · have BF : Hid (Below w'.heap.size w' wr) := BG
              go_wp2
              go_ret
              exact ⟨rfl, BF.out⟩
end Go.Proofs.Qxb6602894a
