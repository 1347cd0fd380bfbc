import Derived.Test.Qxb6602719aZz
namespace Go.Proofs.Qxb6602719a
open Go.RowKit

/-- every row's strings and the row's own length sum to at most 1<<20 -/
def Budget (n1 : Nat) (L : Nat → Nat) (S : Nat → Nat → ByteArray) : Prop := ∀ i, i < n1 → L i + sumTo (fun j => (S i j).size) (L i) ≤ 1048576

set_option maxRecDepth 100000 in
set_option maxHeartbeats 4000000 in
theorem headerBudget (a0 a1 : Option Addr) (n0 n1 c0 c1 : Nat) (L : Nat → Nat) (K : Nat → ByteArray) (S : Nat → Nat → ByteArray) (nm ex : ByteArray) (w : World)
    (h0 : Row w a0 n0 (fun i => .string (K i))) (h1 : Rows2 w a1 n1 L (fun i j => .string (S i j)))
    (g0 : n0 ≤ 4096) (g1 : n1 ≤ 4096) (gk : ∀ i, i < n0 → (K i).size ≤ 1048576) (gl : ∀ i, i < n1 → L i ≤ 1048576) (gs : ∀ i j, i < n1 → j < L i → (S i j).size ≤ 140737488355328) (gn : nm.size ≤ 1048576) (ge : ex.size ≤ 1048576) :
    Calls Try.prog 15 #[.slice a0 n0 c0, .slice a1 n1 c1, .string nm, .string ex] w (BoolIf w (Budget n1 L S)) := by
  go_enter Try.func15, Try.ntmps15
  go_wp2
  · go_ret; exact BoolIf.no
  go_loop [9, 10] (fun t i => ∃ (k : Nat) (z : Int), k ≤ n0 ∧ i = .int .i64 k ∧ t = .int .i64 z ∧ 0 ≤ z ∧ z ≤ 1048576) (fun _ i => n0 - (intOf i).toNat)
  case atStart => exact ⟨0, _, by omega, rfl, rfl, by omega, by omega⟩
  case round =>
    obtain ⟨k, z, hk, rfl, rfl, hz0, hz1⟩ := hrel
    by_cases hlt : k < n0
    · obtain ⟨b, off, rfl, _, hc⟩ := h0 k hlt
      have hgk := gk k hlt
      simp only at hc
      generalize K k = sv at *
      go_wp2
      · go_ret; exact BoolIf.no
      exact ⟨⟨k + 1, _, by omega, by go_num, rfl, by omega, by omega⟩, by simp [intOf]; omega⟩
    · clear h0 gk
      go_wp2
      go_loop [9, 11] (fun t i => ∃ (k : Nat) (z : Int), k ≤ n1 ∧ i = .int .i64 k ∧ t = .int .i64 z ∧ 0 ≤ z ∧ z ≤ 1048576 ∧ Budget k L S) (fun _ i => n1 - (intOf i).toNat)
      case atStart => exact ⟨0, _, by omega, rfl, rfl, by omega, by omega, fun i hi => by omega⟩
      case round =>
        obtain ⟨k, z, hk, rfl, rfl, hz0, hz1, hrow⟩ := hrel
        have HR := Hid.mk hrow
        clear hrow
        by_cases hlt : k < n1
        · obtain ⟨b, off, ak, ck, rfl, _, hc, hr⟩ := h1 k hlt
          have hgl := gl k hlt
          have hgs := fun j => gs k j hlt
          have HA : Hid (L k + sumTo (fun j => (S k j).size) (L k) ≤ 1048576 → Budget (k + 1) L S) := fun h i hi => by by_cases e : i = k; (· subst e; exact h); (· exact HR.out i (by omega))
          generalize L k = lk at *
          go_wp2
          · go_ret; exact BoolIf.no
          go_loop [9, 12] (fun t i => ∃ (j : Nat) (z : Int), j ≤ lk ∧ i = .int .i64 j ∧ t = .int .i64 z ∧ 0 ≤ z ∧ z ≤ 1048576 ∧ (lk : Int) + sumTo (fun j => (S k j).size) j ≤ z) (fun _ i => lk - (intOf i).toNat)
          case atStart => exact ⟨0, _, by omega, rfl, rfl, by omega, by omega, by simp only [sumTo]; omega⟩
          case round =>
            obtain ⟨j, y, hj, rfl, rfl, hy0, hy1, hys⟩ := hrel
            by_cases hjl : j < lk
            · obtain ⟨b2, off2, rfl, _, hc2⟩ := hr j hjl
              have hg := hgs j hjl
              have HS : Hid (sumTo (fun j => (S k j).size) (j + 1) = sumTo (fun j => (S k j).size) j + (S k j).size) := rfl
              have HY : Hid ((lk : Int) + sumTo (fun j => (S k j).size) j ≤ y) := hys
              simp only at hc2
              generalize hss : sumTo (fun j => (S k j).size) = ss at *
              clear hys hss hgs gs
              generalize S k j = sv at *
              go_wp2
              · go_ret; exact BoolIf.no
              exact ⟨⟨j + 1, _, by omega, by go_num, rfl, by omega, by omega, by have := HS.out; have := HY.out; omega⟩, by simp [intOf]; omega⟩
            · have e : j = lk := by omega
              have HB : Hid (Budget (k + 1) L S) := by subst e; exact HA.out (by omega)
              clear hys e
              go_wp2
              exact ⟨⟨k + 1, _, by omega, by go_num, rfl, by omega, by omega, HB.out⟩, by simp [intOf]; omega⟩
        · have e : k = n1 := by omega
          have HR1 : Hid (Budget n1 L S) := by subst e; exact HR.out
          clear HR h1
          clear e
          go_wp2
          go_ret
          exact BoolIf.yes HR1.out
end Go.Proofs.Qxb6602719a
