import Derived.Test.Qxb6602719aMap
namespace Go.Proofs.Qxb6602719a
open Go.RowKit Go.Maps
open Go.WideMaps (keyOf_string_mk)

/-- row k of vals -/
def rowOf (L : Nat → Nat) (S : Nat → Nat → ByteArray) (k : Nat) : List ByteArray := (List.range (L k)).map (S k)

theorem rowOf_length (L : Nat → Nat) (S : Nat → Nat → ByteArray) (k : Nat) : (rowOf L S k).length = L k := by simp [rowOf]
theorem rowOf_getD (L : Nat → Nat) (S : Nat → Nat → ByteArray) (k : Nat) {j : Nat} (hj : j < L k) : (rowOf L S k).getD j ByteArray.empty = S k j := by simp [rowOf, List.getD, hj]

theorem rowOf_row {w : World} {a : Option Addr} {L : Nat → Nat} {S : Nat → Nat → ByteArray} {k : Nat} (h : Row w a (L k) (fun j => .string (S k j))) : Row w a (rowOf L S k).length (fun j => .string ((rowOf L S k).getD j ByteArray.empty)) := by
  rw [rowOf_length]
  intro j hj
  obtain ⟨b, off, e, hb, hc⟩ := h j hj
  exact ⟨b, off, e, hb, by rw [hc]; simp only [rowOf_getD L S k hj]⟩

/-- the first k pairs, a later one over an earlier one -/
def laid (K : Nat → ByteArray) (L : Nat → Nat) (S : Nat → Nat → ByteArray) : Nat → List UInt8 → Option (List ByteArray)
  | 0 => fun _ => none
  | k + 1 => put (laid K L S k) (K k).data.toList (rowOf L S k)

/-- a fresh map came back that holds V -/
def Laid (w : World) (n : Nat) (V : List UInt8 → Option (List ByteArray)) (al : Bool) (e : Ending) (w' : World) : Prop :=
  ∃ v, e = .returned v ∧ MapIs w' n v V ∧ Below w.heap.size w w' ∧ (al = true → ∃ b D, v = .map (some b) ∧ w.heap.size ≤ b ∧ w'.ownsMap Try.prog 9 RH b n D ∧ Holds' w D V)

theorem map_step {wr w0 : World} {B k : Nat} {D : DataW Value} {V : List UInt8 → Option (List ByteArray)} (h : wr.ownsMap Try.prog 9 RH B k D) (hv : Holds' w0 D V) (hk : k ≤ 1048576) (s : ByteArray) (hs : s.size ≤ 1048576) (l : List ByteArray) (a : Option Addr) (c : Nat)
    (hr : Row w0 a l.length (fun j => .string (l.getD j ByteArray.empty))) (hB : w0.heap.size ≤ B) (hbel : Below w0.heap.size w0 wr) :
    ∃ w1, (Instr.mapUpdate 40 (.map (some B)) (.string s) (.slice a l.length c)).run Try.prog wr = .ok () w1 ∧
      ∃ D', w1.ownsMap Try.prog 9 RH B (k + 1) D' ∧ Holds' w0 D' (put V s.data.toList l) ∧ Below w0.heap.size w0 w1 := by
  obtain ⟨w1, hrun, hown, hg⟩ := h.update (d := .held (.slice a l.length c)) (ps := []) law9 Try.underlying40 (by unfold maxLen; omega) (keyOf_string_mk (s := s) Try.underlying9 (by unfold maxLen; omega)) rfl
  refine ⟨w1, hrun, _, hown, hv.put h.isMap _ l a c hr, ?_⟩
  refine hbel.trans ⟨hg.os, hg.tape, hg.output, hg.size, fun i hi => hg.block i (Nat.lt_of_lt_of_le hi hbel.size) (fun e => ?_)⟩
  simp only [Option.some.injEq] at e
  omega

set_option maxHeartbeats 1000000 in
theorem buildHeaders (a0 a1 : Option Addr) (n c0 c1 : Nat) (L : Nat → Nat) (K : Nat → ByteArray) (S : Nat → Nat → ByteArray) (al : Bool) (w : World) (hn : n ≤ 4096) (gk : ∀ i, i < n → (K i).size ≤ 1048576)
    (h0 : Row w a0 n (fun i => .string (K i))) (h1 : Rows2 w a1 n L (fun i j => .string (S i j))) :
    Calls Try.prog 18 #[.slice a0 n c0, .slice a1 n c1, .bool al] w (Laid w n (laid K L S n) al) := by
  by_cases hz : n = 0 ∧ al = false
  · obtain ⟨rfl, rfl⟩ := hz
    go_enter Try.func18, Try.ntmps18
    go_wp2
    go_ret
    exact ⟨_, rfl, .nil, Below.refl _ _, fun h => by cases h⟩
  · have hmm := run_makeMap_hint n
    by_cases hn0 : n = 0
    · have hal : al = true := by
        cases al with
        | true => rfl
        | false => exact absurd ⟨hn0, rfl⟩ hz
      subst hal hn0
      have hm0 : ∀ w : World, (Instr.makeMap 40 (some (.int .i64 0))).run Try.prog w = .ok (.map (some w.heap.size)) (w.alloc (.map #[] 0)) := run_makeMap_hint 0
      clear hz h0 h1 gk hmm
      go_enter Try.func18, Try.ntmps18
      go_wp2
      go_loopw [8] (fun i wr => i = .int .i64 0 ∧ wr = w.alloc (.map #[] 0)) (fun _ _ => 0)
      case atStart => exact ⟨rfl, rfl⟩
      case round =>
      obtain ⟨rfl, rfl⟩ := hrel
      go_wp2
      go_ret
      have hb := (Below.refl w.heap.size w).alloc (Nat.le_refl _) (.map #[] 0)
      have hH : Holds' w (.map []) (laid K L S 0) := fun x => ⟨fun _ => rfl, fun l hl => by cases hl⟩
      exact ⟨_, rfl, .some _ _ _ (World.ownsMap_made w Try.prog 9 RH) (hH.below hb (Nat.le_refl _)), hb, fun _ => ⟨_, _, rfl, Nat.le_refl _, World.ownsMap_made w Try.prog 9 RH, hH⟩⟩
    · have hn1 : 0 < n := by omega
      clear hz hn0
      go_enter Try.func18, Try.ntmps18
      go_wp2
      clear hmm
      go_loopw [8] (fun i wr => ∃ (k : Nat) (D : DataW Value), k ≤ n ∧ i = .int .i64 k ∧ wr.ownsMap Try.prog 9 RH w.heap.size k D ∧ Holds' w D (laid K L S k) ∧ Below w.heap.size w wr) (fun i _ => n - (intOf i).toNat)
      case atStart => exact ⟨0, _, by omega, rfl, World.ownsMap_made w Try.prog 9 RH, fun x => ⟨fun _ => rfl, fun l hl => by cases hl⟩, (Below.refl _ _).alloc (Nat.le_refl _) _⟩
      case round =>
        obtain ⟨k, D, hk, rfl, hown, hD, hbel⟩ := hrel
        by_cases hlt : k < n
        · obtain ⟨b0, o0, rfl, hb0, hc0⟩ := h0 k hlt
          obtain ⟨b1, o1, ak, ck, rfl, hb1, hc1, hr1⟩ := h1 k hlt
          simp only at hc0
          have d0 := (hbel.cell (p := ⟨b0, o0 + k, none⟩) hb0).trans hc0
          have d1 := (hbel.cell (p := ⟨b1, o1 + k, none⟩) hb1).trans hc1
          have e0 : wr.drew.cell? ⟨b0, o0 + k, none⟩ = some (.string (K k)) := d0
          have e1 : wr.drew.cell? ⟨b1, o1 + k, none⟩ = some (.slice ak (L k) ck) := d1
          obtain ⟨w1, hrun, D', hown', hD', hbel'⟩ := map_step (wr := wr.drew) hown.drew hD (by omega) (K k) (gk k hlt) (rowOf L S k) ak ck (rowOf_row hr1) (Nat.le_refl _) hbel.drew
          rw [rowOf_length] at hrun
          have A1 := Hid.mk hown'
          have A2 : Hid (Holds' w D' (laid K L S (k + 1))) := hD'
          have A3 := Hid.mk hbel'
          clear hown' hD' hbel' hown hD hbel hc0 hc1 hr1
          clear d0 d1 h0 h1 gk
          generalize K k = s at *
          generalize L k = lk at *
          go_wp2
          go_region
          go_wp2
          go_roundw
          case rel => exact ⟨k + 1, D', by omega, by go_num, A1.out, A2.out, A3.out⟩
          case measure => simp [intOf]; omega
        · have e : k = n := by omega
          subst e
          have R1 := Hid.mk hown
          have R2 := Hid.mk hD
          have R3 := Hid.mk hbel
          clear hown hD hbel h0 h1
          go_wp2
          go_ret
          exact ⟨_, rfl, .some _ D _ R1.out (R2.out.below R3.out (Nat.le_refl _)), R3.out, fun _ => ⟨_, D, rfl, Nat.le_refl _, R1.out, R2.out⟩⟩
end Go.Proofs.Qxb6602719a
