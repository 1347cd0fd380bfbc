import Derived.Test.Qxb6602594aBase
namespace Go.Proofs.Qxb6602594a
open Go.RowKit

set_option maxHeartbeats 1000000 in
theorem strBytes (a : Option Addr) (c n : Nat) (L : Nat → Nat) (S : Nat → Nat → ByteArray) (z : Int) (w : World) (hn : n ≤ 1048576)
    (h : Rows2 w a n L (fun i j => .string (S i j))) :
    Calls Try.prog 42 #[.slice a n c, .int .i64 z] w fun e w' => w' = w ∧ ∃ r : Int, e = .returned (.int .i64 r) := by
  go_enter Try.func42, Try.ntmps42
  go_wp2
  go_loop [1, 5] (fun t i => ∃ (k : Nat) (z : Int), k ≤ n ∧ i = .int .i64 k ∧ t = .int .i64 z) (fun _ i => n - (intOf i).toNat)
  case atStart => exact ⟨0, z, by omega, rfl, rfl⟩
  case round =>
    obtain ⟨k, y, hk, rfl, rfl⟩ := hrel
    by_cases hlt : k < n
    · obtain ⟨b, off, ak, ck, rfl, _, hc, hr⟩ := h k hlt
      generalize hlk : L k = lk at hc hr
      clear h hlk
      go_wp2
      · go_ret
        exact ⟨rfl, _, rfl⟩
      · go_loop [1, 6] (fun t i => ∃ (j : Nat) (z : Int), j ≤ lk ∧ i = .int .i64 j ∧ t = .int .i64 z) (fun _ i => lk - (intOf i).toNat)
        case atStart => exact ⟨0, _, by omega, rfl, rfl⟩
        case round =>
          obtain ⟨j, y2, hj, rfl, rfl⟩ := hrel
          by_cases hjl : j < lk
          · obtain ⟨b', off', rfl, _, hc'⟩ := hr j hjl
            go_wp2
            · exact ⟨⟨j + 1, _, by omega, by go_num, rfl⟩, by simp [intOf]; omega⟩
            · exact ⟨⟨k + 1, _, by omega, by go_num, rfl⟩, by simp [intOf]; omega⟩
          · go_wp2
            exact ⟨⟨k + 1, _, by omega, by go_num, rfl⟩, by simp [intOf]; omega⟩
      · go_ret
        exact ⟨rfl, _, rfl⟩
    · go_wp2
      go_ret
      exact ⟨rfl, _, rfl⟩

set_option maxHeartbeats 1000000 in
theorem i32Bytes (a : Option Addr) (c n : Nat) (L : Nat → Nat) (S : Nat → Nat → Int) (z : Int) (w : World) (hn : n ≤ 1048576)
    (h : Rows2 w a n L (fun i j => .int .i32 (S i j))) :
    Calls Try.prog 43 #[.slice a n c, .int .i64 z] w fun e w' => w' = w ∧ ∃ r : Int, e = .returned (.int .i64 r) := by
  go_enter Try.func43, Try.ntmps43
  go_wp2
  go_loop [1, 5] (fun t i => ∃ (k : Nat) (z : Int), k ≤ n ∧ i = .int .i64 k ∧ t = .int .i64 z) (fun _ i => n - (intOf i).toNat)
  case atStart => exact ⟨0, z, by omega, rfl, rfl⟩
  case round =>
    obtain ⟨k, y, hk, rfl, rfl⟩ := hrel
    by_cases hlt : k < n
    · obtain ⟨b, off, ak, ck, rfl, _, hc, hr⟩ := h k hlt
      generalize hlk : L k = lk at hc hr
      clear h hlk hr
      go_wp2
      · go_ret
        exact ⟨rfl, _, rfl⟩
      · exact ⟨⟨k + 1, _, by omega, by go_num, rfl⟩, by simp [intOf]; omega⟩
      · go_ret
        exact ⟨rfl, _, rfl⟩
    · go_wp2
      go_ret
      exact ⟨rfl, _, rfl⟩

set_option maxHeartbeats 2000000 in
theorem tooBig (a0 a1 a2 a3 a4 a5 a6 a7 : Option Addr) (n0 n1 n2 n3 n4 n5 n6 n7 c0 c1 c2 c3 c4 c5 c6 c7 : Nat) (L0 L1 L2 L3 L4 L5 L6 : Nat → Nat) (S0 S1 : Nat → Nat → ByteArray) (S2 S3 S4 S5 S6 : Nat → Nat → Int) (w : World)
    (g0 : n0 ≤ 1048576) (g1 : n1 ≤ 1048576) (g2 : n2 ≤ 1048576) (g3 : n3 ≤ 1048576) (g4 : n4 ≤ 1048576) (g5 : n5 ≤ 1048576) (g6 : n6 ≤ 1048576) (g7 : n7 ≤ 1048576)
    (h0 : Rows2 w a0 n0 L0 (fun i j => .string (S0 i j))) (h1 : Rows2 w a1 n1 L1 (fun i j => .string (S1 i j)))
    (h2 : Rows2 w a2 n2 L2 (fun i j => .int .i32 (S2 i j))) (h3 : Rows2 w a3 n3 L3 (fun i j => .int .i32 (S3 i j))) (h4 : Rows2 w a4 n4 L4 (fun i j => .int .i32 (S4 i j)))
    (h5 : Rows2 w a5 n5 L5 (fun i j => .int .i32 (S5 i j))) (h6 : Rows2 w a6 n6 L6 (fun i j => .int .i32 (S6 i j))) :
    Calls Try.prog 17 #[.slice a0 n0 c0, .slice a1 n1 c1, .slice a2 n2 c2, .slice a3 n3 c3, .slice a4 n4 c4, .slice a5 n5 c5, .slice a6 n6 c6, .slice a7 n7 c7] w fun e w' => w' = w ∧ ∃ b : Bool, e = .returned (.bool b) := by
  go_enter Try.func17, Try.ntmps17
  go_wp2_with fail
  refine (strBytes a0 c0 n0 L0 S0 _ _ g0 h0).mono ?_
  rintro e w' ⟨rfl, r, rfl⟩
  go_wp2_with fail
  refine (strBytes a1 c1 n1 L1 S1 _ _ g1 h1).mono ?_
  rintro e w' ⟨rfl, r, rfl⟩
  go_wp2_with fail
  refine (i32Bytes a2 c2 n2 L2 S2 _ _ g2 h2).mono ?_
  rintro e w' ⟨rfl, r, rfl⟩
  go_wp2_with fail
  refine (i32Bytes a3 c3 n3 L3 S3 _ _ g3 h3).mono ?_
  rintro e w' ⟨rfl, r, rfl⟩
  go_wp2_with fail
  refine (i32Bytes a4 c4 n4 L4 S4 _ _ g4 h4).mono ?_
  rintro e w' ⟨rfl, r, rfl⟩
  go_wp2_with fail
  refine (i32Bytes a5 c5 n5 L5 S5 _ _ g5 h5).mono ?_
  rintro e w' ⟨rfl, r, rfl⟩
  go_wp2_with fail
  refine (i32Bytes a6 c6 n6 L6 S6 _ _ g6 h6).mono ?_
  rintro e w' ⟨rfl, r, rfl⟩
  go_wp2_with fail
  go_ret
  exact ⟨rfl, _, rfl⟩
end Go.Proofs.Qxb6602594a
