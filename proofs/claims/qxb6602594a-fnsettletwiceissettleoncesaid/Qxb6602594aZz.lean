import Derived.Test.Qxb6602594aBase
namespace Go.Proofs.Qxb6602594a
open Go.RowKit

/-- what zzBytes tells -/
structure Small (n0 n1 n2 n3 n4 n5 n6 n7 : Nat) (L0 L1 : Nat → Nat) : Prop where
  g0 : n0 ≤ 1048576
  g1 : n1 ≤ 1048576
  g2 : n2 ≤ 1048576
  g3 : n3 ≤ 1048576
  g4 : n4 ≤ 1048576
  g5 : n5 ≤ 1048576
  g6 : n6 ≤ 1048576
  g7 : n7 ≤ 1048576
  sum : sumTo L0 n0 ≤ 1048576
  row : ∀ i, i < n1 → L1 i ≤ 1048576

set_option maxRecDepth 100000 in
set_option maxHeartbeats 4000000 in
theorem zzBytes (a0 a1 a2 a3 a4 a5 a6 a7 : Option Addr) (n0 n1 n2 n3 n4 n5 n6 n7 c0 c1 c2 c3 c4 c5 c6 c7 : Nat) (L0 L1 L2 L3 L4 L5 L6 : Nat → Nat) (S0 S1 : Nat → Nat → ByteArray) (F2 F3 F4 F5 F6 : Nat → Nat → Value) (w : World)
    (h0 : Rows2 w a0 n0 L0 (fun i j => .string (S0 i j))) (h1 : Rows2 w a1 n1 L1 (fun i j => .string (S1 i j)))
    (h2 : Rows2 w a2 n2 L2 F2) (h3 : Rows2 w a3 n3 L3 F3) (h4 : Rows2 w a4 n4 L4 F4)
    (h5 : Rows2 w a5 n5 L5 F5) (h6 : Rows2 w a6 n6 L6 F6) :
    Calls Try.prog 30 #[.slice a0 n0 c0, .slice a1 n1 c1, .slice a2 n2 c2, .slice a3 n3 c3, .slice a4 n4 c4, .slice a5 n5 c5, .slice a6 n6 c6, .slice a7 n7 c7] w
      (BoolIf w (Small n0 n1 n2 n3 n4 n5 n6 n7 L0 L1)) := by
  go_enter Try.func30, Try.ntmps30
  go_wp2
  · go_ret; exact BoolIf.no
  go_loop [17, 18] (fun t i => ∃ (k : Nat) (z : Int), k ≤ n0 ∧ i = .int .i64 k ∧ t = .int .i64 z ∧ 0 ≤ z ∧ z ≤ 1048576 ∧ (sumTo L0 k : Int) ≤ z) (fun _ i => n0 - (intOf i).toNat)
  case atStart => exact ⟨0, _, by omega, rfl, rfl, by omega, by omega, by simp [sumTo]⟩
  case round =>
    obtain ⟨k, z, hk, rfl, rfl, hz0, hz1, hzs⟩ := hrel
    by_cases hlt : k < n0
    · obtain ⟨b, off, ak, ck, rfl, _, hc, hr⟩ := h0 k hlt
      have HS : Hid (sumTo L0 (k + 1) = sumTo L0 k + L0 k) := rfl
      generalize L0 k = lk at *
      go_wp2
      · go_ret; exact BoolIf.no
      · go_ret; exact BoolIf.no
      go_loop [17, 19] (fun t i => ∃ (j : Nat) (z : Int), j ≤ lk ∧ i = .int .i64 j ∧ t = .int .i64 z ∧ 0 ≤ z ∧ z ≤ 1048576 ∧ (sumTo L0 k : Int) + lk ≤ z) (fun _ i => lk - (intOf i).toNat)
      case atStart => exact ⟨0, _, by omega, rfl, rfl, by omega, by omega, by omega⟩
      case round =>
        obtain ⟨j, y, hj, rfl, rfl, hy0, hy1, hys⟩ := hrel
        by_cases hjl : j < lk
        · obtain ⟨b2, off2, rfl, _, hc2⟩ := hr j hjl
          generalize S0 k j = sv at *
          go_wp2
          · go_ret; exact BoolIf.no
          · go_ret; exact BoolIf.no
          exact ⟨⟨j + 1, _, by omega, by go_num, rfl, by omega, by omega, by omega⟩, by simp [intOf]; omega⟩
        · go_wp2
          exact ⟨⟨k + 1, _, by omega, by go_num, rfl, by omega, by omega, by rw [HS.out]; omega⟩, by simp [intOf]; omega⟩
    · have e : k = n0 := by omega
      have HZ : Hid (sumTo L0 n0 ≤ 1048576) := by subst e; show _ ≤ _; omega
      clear hzs h0
      clear e
      go_wp2
      · go_ret; exact BoolIf.no
      · go_ret; exact BoolIf.no
      go_loop [17, 20] (fun t i => ∃ (k : Nat) (z : Int), k ≤ n1 ∧ i = .int .i64 k ∧ t = .int .i64 z ∧ 0 ≤ z ∧ z ≤ 1048576 ∧ ∀ i, i < k → L1 i ≤ 1048576) (fun _ i => n1 - (intOf i).toNat)
      case atStart => exact ⟨0, _, by omega, rfl, rfl, by omega, by omega, fun i hi => by omega⟩
      case round =>
        obtain ⟨k, z, hk, rfl, rfl, hz0, hz1, hrow⟩ := hrel
        have HR : Hid (∀ i, i < k → L1 i ≤ 1048576) := hrow
        clear hrow
        by_cases hlt : k < n1
        · obtain ⟨b, off, ak, ck, rfl, _, hc, hr⟩ := h1 k hlt
          have HA : Hid (L1 k ≤ 1048576 → ∀ i, i < k + 1 → L1 i ≤ 1048576) := fun h i hi => by by_cases e : i = k; (· subst e; exact h); (· exact HR.out i (by omega))
          generalize L1 k = lk at *
          go_wp2
          · go_ret; exact BoolIf.no
          · go_ret; exact BoolIf.no
          go_loop [17, 21] (fun t i => ∃ (j : Nat) (z : Int), j ≤ lk ∧ i = .int .i64 j ∧ t = .int .i64 z ∧ 0 ≤ z ∧ z ≤ 1048576) (fun _ i => lk - (intOf i).toNat)
          case atStart => exact ⟨0, _, by omega, rfl, rfl, by omega, by omega⟩
          case round =>
            obtain ⟨j, y, hj, rfl, rfl, hy0, hy1⟩ := hrel
            by_cases hjl : j < lk
            · obtain ⟨b2, off2, rfl, _, hc2⟩ := hr j hjl
              generalize S1 k j = sv at *
              go_wp2
              · go_ret; exact BoolIf.no
              · go_ret; exact BoolIf.no
              exact ⟨⟨j + 1, _, by omega, by go_num, rfl, by omega, by omega⟩, by simp [intOf]; omega⟩
            · go_wp2
              exact ⟨⟨k + 1, _, by omega, by go_num, rfl, by omega, by omega, HA.out (by omega)⟩, by simp [intOf]; omega⟩
        · have e : k = n1 := by omega
          have HR1 : Hid (∀ i, i < n1 → L1 i ≤ 1048576) := by subst e; exact HR.out
          clear HR h1
          clear e
          go_wp2
          · go_ret; exact BoolIf.no
          · go_ret; exact BoolIf.no
          go_loop [17, 22] (fun t i => ∃ (k : Nat) (z : Int), k ≤ n2 ∧ i = .int .i64 k ∧ t = .int .i64 z ∧ 0 ≤ z ∧ z ≤ 1048576) (fun _ i => n2 - (intOf i).toNat)
          case atStart => exact ⟨0, _, by omega, rfl, rfl, by omega, by omega⟩
          case round =>
            obtain ⟨k, z, hk, rfl, rfl, hz0, hz1⟩ := hrel
            by_cases hlt : k < n2
            · obtain ⟨b, off, ak, ck, rfl, _, hc, hr⟩ := h2 k hlt
              generalize L2 k = lk at *
              clear hr
              go_wp2
              · go_ret; exact BoolIf.no
              · go_ret; exact BoolIf.no
              exact ⟨⟨k + 1, _, by omega, by go_num, rfl, by omega, by omega⟩, by simp [intOf]; omega⟩
            · have e : k = n2 := by omega
              clear h2
              clear e
              go_wp2
              · go_ret; exact BoolIf.no
              · go_ret; exact BoolIf.no
              go_loop [17, 23] (fun t i => ∃ (k : Nat) (z : Int), k ≤ n3 ∧ i = .int .i64 k ∧ t = .int .i64 z ∧ 0 ≤ z ∧ z ≤ 1048576) (fun _ i => n3 - (intOf i).toNat)
              case atStart => exact ⟨0, _, by omega, rfl, rfl, by omega, by omega⟩
              case round =>
                obtain ⟨k, z, hk, rfl, rfl, hz0, hz1⟩ := hrel
                by_cases hlt : k < n3
                · obtain ⟨b, off, ak, ck, rfl, _, hc, hr⟩ := h3 k hlt
                  generalize L3 k = lk at *
                  clear hr
                  go_wp2
                  · go_ret; exact BoolIf.no
                  · go_ret; exact BoolIf.no
                  exact ⟨⟨k + 1, _, by omega, by go_num, rfl, by omega, by omega⟩, by simp [intOf]; omega⟩
                · have e : k = n3 := by omega
                  clear h3
                  clear e
                  go_wp2
                  · go_ret; exact BoolIf.no
                  · go_ret; exact BoolIf.no
                  go_loop [17, 24] (fun t i => ∃ (k : Nat) (z : Int), k ≤ n4 ∧ i = .int .i64 k ∧ t = .int .i64 z ∧ 0 ≤ z ∧ z ≤ 1048576) (fun _ i => n4 - (intOf i).toNat)
                  case atStart => exact ⟨0, _, by omega, rfl, rfl, by omega, by omega⟩
                  case round =>
                    obtain ⟨k, z, hk, rfl, rfl, hz0, hz1⟩ := hrel
                    by_cases hlt : k < n4
                    · obtain ⟨b, off, ak, ck, rfl, _, hc, hr⟩ := h4 k hlt
                      generalize L4 k = lk at *
                      clear hr
                      go_wp2
                      · go_ret; exact BoolIf.no
                      · go_ret; exact BoolIf.no
                      exact ⟨⟨k + 1, _, by omega, by go_num, rfl, by omega, by omega⟩, by simp [intOf]; omega⟩
                    · have e : k = n4 := by omega
                      clear h4
                      clear e
                      go_wp2
                      · go_ret; exact BoolIf.no
                      · go_ret; exact BoolIf.no
                      go_loop [17, 25] (fun t i => ∃ (k : Nat) (z : Int), k ≤ n5 ∧ i = .int .i64 k ∧ t = .int .i64 z ∧ 0 ≤ z ∧ z ≤ 1048576) (fun _ i => n5 - (intOf i).toNat)
                      case atStart => exact ⟨0, _, by omega, rfl, rfl, by omega, by omega⟩
                      case round =>
                        obtain ⟨k, z, hk, rfl, rfl, hz0, hz1⟩ := hrel
                        by_cases hlt : k < n5
                        · obtain ⟨b, off, ak, ck, rfl, _, hc, hr⟩ := h5 k hlt
                          generalize L5 k = lk at *
                          clear hr
                          go_wp2
                          · go_ret; exact BoolIf.no
                          · go_ret; exact BoolIf.no
                          exact ⟨⟨k + 1, _, by omega, by go_num, rfl, by omega, by omega⟩, by simp [intOf]; omega⟩
                        · have e : k = n5 := by omega
                          clear h5
                          clear e
                          go_wp2
                          · go_ret; exact BoolIf.no
                          · go_ret; exact BoolIf.no
                          go_loop [17, 26] (fun t i => ∃ (k : Nat) (z : Int), k ≤ n6 ∧ i = .int .i64 k ∧ t = .int .i64 z ∧ 0 ≤ z ∧ z ≤ 1048576) (fun _ i => n6 - (intOf i).toNat)
                          case atStart => exact ⟨0, _, by omega, rfl, rfl, by omega, by omega⟩
                          case round =>
                            obtain ⟨k, z, hk, rfl, rfl, hz0, hz1⟩ := hrel
                            by_cases hlt : k < n6
                            · obtain ⟨b, off, ak, ck, rfl, _, hc, hr⟩ := h6 k hlt
                              generalize L6 k = lk at *
                              clear hr
                              go_wp2
                              · go_ret; exact BoolIf.no
                              · go_ret; exact BoolIf.no
                              exact ⟨⟨k + 1, _, by omega, by go_num, rfl, by omega, by omega⟩, by simp [intOf]; omega⟩
                            · have e : k = n6 := by omega
                              clear h6
                              clear e
                              go_wp2
                              · go_ret; exact BoolIf.no
                              · go_ret; exact BoolIf.no
                              go_ret
                              exact BoolIf.yes ⟨by omega, by omega, by omega, by omega, by omega, by omega, by omega, by omega, HZ.out, HR1.out⟩
end Go.Proofs.Qxb6602594a
