import Derived.Test.Qxb6602719aFoldM
import Derived.Deep.RegionWith
namespace Go.Proofs.Qxb6602719a
open Go.RowKit

set_option maxHeartbeats 1000000 in
theorem foldModel (s t : ByteArray) (w : World) (hs : s.size ≤ 1048576) :
    Calls Try.prog 29 #[.string s, .string t] w (BoolDrew w (foldEq s t)) := by
  by_cases hst : s.size = t.size
  · have hlen : Hid (s.size = t.size) := hst
    generalize hn : s.size = n at hst
    have hn' := Hid.mk hn
    have l1 : ∀ w' : World, (Builtin.len_ #[9] 3 #[.string s]).run Try.prog w' = .ok (.int .i64 n) w' := fun w' => by rw [run_len_string w' 9 3 s Try.underlying9, hn]; rfl
    have l2 : ∀ w' : World, (Builtin.len_ #[9] 3 #[.string t]).run Try.prog w' = .ok (.int .i64 n) w' := fun w' => by rw [run_len_string w' 9 3 t Try.underlying9, ← hst]; rfl
    have HT := Hid.mk hst
    clear hst
    rw [hn] at hs
    clear hn
    go_enter Try.func29, Try.ntmps29
    go_wp2
    go_loopw [5] (fun i wr => ∃ k m : Nat, k ≤ n ∧ i = .int .i64 k ∧ wr = w.drewN m ∧ ∀ (j : Nat) (h1 : j < s.size) (h2 : j < t.size), j < k → lower (s[j]'h1).toNat = lower (t[j]'h2).toNat) (fun i _ => n - (intOf i).toNat)
    case atStart => exact ⟨0, 0, by omega, rfl, rfl, fun j _ _ h => by omega⟩
    case round =>
      obtain ⟨k, m, hk, rfl, hwr, hall⟩ := hrel
      have HA := Hid.mk hall
      have HW := Hid.mk hwr
      clear hall hwr
      by_cases hlt : k < n
      · have b1 : k < s.size := by rw [hn'.out]; exact hlt
        have b2 : k < t.size := by rw [← HT.out]; exact hlt
        have i1 : ∀ w' : World, (Instr.index 9 (.string s) (.int .i64 k)).run Try.prog w' = .ok (.int .u8 (s[k]'b1).toNat) w' := fun w' => by
          rw [run_index_string w' 9 s .i64 k Try.underlying9, dif_pos ⟨by omega, by omega⟩]; rfl
        have i2 : ∀ w' : World, (Instr.index 9 (.string t) (.int .i64 k)).run Try.prog w' = .ok (.int .u8 (t[k]'b2).toNat) w' := fun w' => by
          rw [run_index_string w' 9 t .i64 k Try.underlying9, dif_pos ⟨by omega, by omega⟩]; rfl
        have x1 : ((s[k]'b1).toNat : Int) < 256 := by have := (s[k]'b1).toNat_lt; omega
        have y1 : ((t[k]'b2).toNat : Int) < 256 := by have := (t[k]'b2).toNat_lt; omega
        have x0 : (0 : Int) ≤ ((s[k]'b1).toNat : Int) := by omega
        have y0 : (0 : Int) ≤ ((t[k]'b2).toNat : Int) := by omega
        have HN : Hid (¬ lower (s[k]'b1).toNat = lower (t[k]'b2).toNat → foldEq s t = false) := fun h => foldEq_ne b1 b2 h
        have HY : Hid (lower (s[k]'b1).toNat = lower (t[k]'b2).toNat → ∀ (j : Nat) (h1 : j < s.size) (h2 : j < t.size), j < k + 1 → lower (s[j]'h1).toNat = lower (t[j]'h2).toNat) := fun h j h1 h2 hj => by
          by_cases e : j = k
          · subst e; exact h
          · exact HA.out j h1 h2 (by omega)
        generalize ((s[k]'b1).toNat : Int) = x at *
        generalize ((t[k]'b2).toNat : Int) = y at *
        have HC := fun w' => sameUpToCaseBit x y w' x0 x1 y0 y1
        by_cases hxy : lower x = lower y
        · rw [decide_eq_true hxy] at HC
          go_wp2
          go_quiet ((go_at_call_of 36 (Value.int IntKind.u8 x); exact Calls.quiet_of_same (HC _)))
          go_wp2
          go_roundw
          case rel => exact ⟨k + 1, _, by omega, by go_num, by rw [HW.out, World.drewN_drewN], HY.out hxy⟩
          case measure => simp [intOf]; omega
        · rw [decide_eq_false hxy] at HC
          go_wp2
          go_quiet ((go_at_call_of 36 (Value.int IntKind.u8 x); exact Calls.quiet_of_same (HC _)))
          go_wp2
          go_ret
          exact ⟨⟨_, by rw [HW.out, World.drewN_drewN]⟩, by rw [HN.out hxy]; rfl⟩
      · have HE : Hid (foldEq s t = true) := by
          refine foldEq_eq hlen.out fun j h1 h2 => HA.out j h1 h2 ?_
          have := hn'.out
          omega
        go_wp2
        go_ret
        exact ⟨⟨_, HW.out⟩, by rw [HE.out]; rfl⟩
  · have HE := Hid.mk (foldEq_len hst)
    go_enter Try.func29, Try.ntmps29
    go_wp2
    go_ret
    exact ⟨⟨0, rfl⟩, by rw [HE.out]; rfl⟩
end Go.Proofs.Qxb6602719a
