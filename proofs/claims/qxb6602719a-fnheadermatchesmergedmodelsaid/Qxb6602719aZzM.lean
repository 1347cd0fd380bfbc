import Derived.Test.Qxb6602719aZz
namespace Go.Proofs.Qxb6602719a
open Go.RowKit

set_option maxRecDepth 100000 in
set_option maxHeartbeats 4000000 in
theorem zzBytesM (a0 a1 : Option Addr) (n0 n1 c0 c1 : Nat) (L : Nat → Nat) (K : Nat → ByteArray) (S : Nat → Nat → ByteArray) (nm : ByteArray) (w : World)
    (h0 : Row w a0 n0 (fun i => .string (K i))) (h1 : Rows2 w a1 n1 L (fun i j => .string (S i j))) :
    Calls Try.prog 14 #[.slice a0 n0 c0, .slice a1 n1 c1, .string nm] w
      (BoolIf w (Small n0 n1 K L S nm ByteArray.empty)) := by
  go_enter Try.func14, Try.ntmps14
  go_wp2
  · go_ret; exact BoolIf.no
  go_loop [7, 8] (fun t i => ∃ (k : Nat) (z : Int), k ≤ n0 ∧ i = .int .i64 k ∧ t = .int .i64 z ∧ 0 ≤ z ∧ z ≤ 1048576 ∧ ∀ i, i < k → (K i).size ≤ 1048576) (fun _ i => n0 - (intOf i).toNat)
  case atStart => exact ⟨0, _, by omega, rfl, rfl, by omega, by omega, fun i hi => by omega⟩
  case round =>
    obtain ⟨k, z, hk, rfl, rfl, hz0, hz1, hzs⟩ := hrel
    have HR := Hid.mk hzs
    clear hzs
    by_cases hlt : k < n0
    · obtain ⟨b, off, rfl, _, hc⟩ := h0 k hlt
      have HA : Hid ((K k).size ≤ 1048576 → ∀ i, i < k + 1 → (K i).size ≤ 1048576) := fun h i hi => by by_cases e : i = k; (· subst e; exact h); (· exact HR.out i (by omega))
      simp only at hc
      generalize K k = sv at *
      go_wp2
      · go_ret; exact BoolIf.no
      · go_ret; exact BoolIf.no
      exact ⟨⟨k + 1, _, by omega, by go_num, rfl, by omega, by omega, HA.out (by omega)⟩, by simp [intOf]; omega⟩
    · have e : k = n0 := by omega
      have HZ : Hid (∀ i, i < n0 → (K i).size ≤ 1048576) := by subst e; exact HR.out
      clear HR h0
      clear e
      go_wp2
      · go_ret; exact BoolIf.no
      · go_ret; exact BoolIf.no
      go_loop [7, 9] (fun t i => ∃ (k : Nat) (z : Int), k ≤ n1 ∧ i = .int .i64 k ∧ t = .int .i64 z ∧ 0 ≤ z ∧ z ≤ 1048576 ∧ RowOk L S k) (fun _ i => n1 - (intOf i).toNat)
      case atStart => exact ⟨0, _, by omega, rfl, rfl, by omega, by omega, fun i hi => by omega⟩
      case round =>
        obtain ⟨k, z, hk, rfl, rfl, hz0, hz1, hrow⟩ := hrel
        have HR : Hid (RowOk L S k) := hrow
        clear hrow
        by_cases hlt : k < n1
        · obtain ⟨b, off, ak, ck, rfl, _, hc, hr⟩ := h1 k hlt
          have HA : Hid (L k ≤ 1048576 → ColOk S k (L k) → RowOk L S (k + 1)) := fun h1 h2 => HR.out.succ h1 h2
          generalize L k = lk at *
          go_wp2
          · go_ret; exact BoolIf.no
          · go_ret; exact BoolIf.no
          go_loop [7, 10] (fun t i => ∃ (j : Nat) (z : Int), j ≤ lk ∧ i = .int .i64 j ∧ t = .int .i64 z ∧ 0 ≤ z ∧ z ≤ 1048576 ∧ ColOk S k j) (fun _ i => lk - (intOf i).toNat)
          case atStart => exact ⟨0, _, by omega, rfl, rfl, by omega, by omega, fun j hj => by omega⟩
          case round =>
            obtain ⟨j, y, hj, rfl, rfl, hy0, hy1, hco⟩ := hrel
            have HCO := Hid.mk hco
            clear hco
            by_cases hjl : j < lk
            · obtain ⟨b2, off2, rfl, _, hc2⟩ := hr j hjl
              have HCS : Hid ((S k j).size ≤ 1048576 → ColOk S k (j + 1)) := fun h => HCO.out.succ h
              simp only at hc2
              generalize S k j = sv at *
              go_wp2
              · go_ret; exact BoolIf.no
              · go_ret; exact BoolIf.no
              exact ⟨⟨j + 1, _, by omega, by go_num, rfl, by omega, by omega, HCS.out (by omega)⟩, by simp [intOf]; omega⟩
            · have HRR : Hid (RowOk L S (k + 1)) := HA.out (by omega) (fun i hi => HCO.out i (by omega))
              go_wp2
              exact ⟨⟨k + 1, _, by omega, by go_num, rfl, by omega, by omega, HRR.out⟩, by simp [intOf]; omega⟩
        · have e : k = n1 := by omega
          have HR1 : Hid (RowOk L S n1) := by subst e; exact HR.out
          clear HR h1
          clear e
          go_wp2
          · go_ret; exact BoolIf.no
          · go_ret; exact BoolIf.no
          go_ret
          exact BoolIf.yes ⟨by omega, by omega, HZ.out, fun i hi => (HR1.out i hi).1, fun i j hi hj => (HR1.out i hi).2 j hj, by first | omega | simp, by first | omega | simp⟩
end Go.Proofs.Qxb6602719a
