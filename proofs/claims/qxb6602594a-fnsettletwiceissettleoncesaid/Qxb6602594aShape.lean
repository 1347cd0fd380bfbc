import Derived.Test.Qxb6602594aBase
namespace Go.Proofs.Qxb6602594a
open Go.RowKit

def ShapeOk (n0 : Nat) (L1 L2 L3 L4 L5 L6 : Nat → Nat) : Prop := ∀ l, l < n0 → L2 l = L1 l ∧ L3 l = L1 l ∧ L4 l = L1 l ∧ L5 l = L1 l ∧ L6 l = L1 l

set_option maxHeartbeats 2000000 in
theorem shape (a0 a1 a2 a3 a4 a5 a6 : Option Addr) (n0 n1 n2 n3 n4 n5 n6 c0 c1 c2 c3 c4 c5 c6 : Nat) (L1 L2 L3 L4 L5 L6 : Nat → Nat) (F1 F2 F3 F4 F5 F6 : Nat → Nat → Value) (w : World)
    (g0 : n0 ≤ 1048576) (h1 : Rows2 w a1 n1 L1 F1)
    (h2 : Rows2 w a2 n2 L2 F2) (h3 : Rows2 w a3 n3 L3 F3) (h4 : Rows2 w a4 n4 L4 F4)
    (h5 : Rows2 w a5 n5 L5 F5) (h6 : Rows2 w a6 n6 L6 F6) :
    Calls Try.prog 18 #[.slice a0 n0 c0, .slice a1 n1 c1, .slice a2 n2 c2, .slice a3 n3 c3, .slice a4 n4 c4, .slice a5 n5 c5, .slice a6 n6 c6] w
      (BoolIf w (n1 = n0 ∧ n2 = n0 ∧ n3 = n0 ∧ n4 = n0 ∧ n5 = n0 ∧ n6 = n0 ∧ ShapeOk n0 L1 L2 L3 L4 L5 L6)) := by
  by_cases hall : n1 = n0 ∧ n2 = n0 ∧ n3 = n0 ∧ n4 = n0 ∧ n5 = n0 ∧ n6 = n0
  · obtain ⟨rfl, rfl, rfl, rfl, rfl, rfl⟩ := hall
    go_enter Try.func18, Try.ntmps18
    go_wp2
    go_loop [16] (fun i => ∃ (k : Nat), k ≤ n6 ∧ i = .int .i64 k ∧ ShapeOk k L1 L2 L3 L4 L5 L6) (fun i => n6 - (intOf i).toNat)
    case atStart => exact ⟨0, by omega, rfl, fun l hl => by omega⟩
    case round =>
      obtain ⟨k, hk, rfl, hs⟩ := hrel
      have HS : Hid (ShapeOk k L1 L2 L3 L4 L5 L6) := hs
      clear hs
      by_cases hlt : k < n6
      · obtain ⟨b1, o1, ak1, ck1, rfl, _, hc1, _⟩ := h1 k hlt
        obtain ⟨b2, o2, ak2, ck2, rfl, _, hc2, _⟩ := h2 k hlt
        obtain ⟨b3, o3, ak3, ck3, rfl, _, hc3, _⟩ := h3 k hlt
        obtain ⟨b4, o4, ak4, ck4, rfl, _, hc4, _⟩ := h4 k hlt
        obtain ⟨b5, o5, ak5, ck5, rfl, _, hc5, _⟩ := h5 k hlt
        obtain ⟨b6, o6, ak6, ck6, rfl, _, hc6, _⟩ := h6 k hlt
        clear h1 h2 h3 h4 h5 h6
        have HA : Hid ((L2 k = L1 k ∧ L3 k = L1 k ∧ L4 k = L1 k ∧ L5 k = L1 k ∧ L6 k = L1 k) → ShapeOk (k + 1) L1 L2 L3 L4 L5 L6) := by
          intro h l hl
          by_cases e : l = k
          · subst e; exact h
          · exact HS.out l (by omega)
        generalize L1 k = l1 at *
        generalize L2 k = l2 at *
        generalize L3 k = l3 at *
        generalize L4 k = l4 at *
        generalize L5 k = l5 at *
        generalize L6 k = l6 at *
        by_cases hl : l2 = l1 ∧ l3 = l1 ∧ l4 = l1 ∧ l5 = l1 ∧ l6 = l1
        · obtain ⟨rfl, rfl, rfl, rfl, rfl⟩ := hl
          go_wp2
          exact ⟨⟨k + 1, by omega, by go_num, HA.out ⟨rfl, rfl, rfl, rfl, rfl⟩⟩, by simp [intOf]; omega⟩
        · go_wp2
          all_goals (go_ret; exact BoolIf.no)
      · go_wp2
        go_ret
        have e : k = n6 := by omega
        subst e
        exact BoolIf.yes HS.out
  · go_enter Try.func18, Try.ntmps18
    go_wp2
    all_goals (go_ret; exact BoolIf.no)
end Go.Proofs.Qxb6602594a
