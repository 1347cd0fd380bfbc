import Derived.Test.Qxb6602994aRes
namespace Go.Proofs.Qxb6602994a
open Go.RowKit

theorem Try.info64 : (Try.prog.info? 64).map (fun i => (i.zero, i.size, i.bytes)) = some (some (.agg #[.int .u64 0, .int .i64 0]), 2, 16) := by kernel_rfl

/-- the cells of s free slots -/
def zz (s : Nat) : Array Value := madeCells #[.int .u64 0, .int .i64 0] (s * 2)

theorem make64 (s : Nat) (hs : s ≤ 1048576) (w : World) : (Instr.makeSlice 60 (.int .i64 s) (.int .i64 s)).run Try.prog w = .ok (.slice (some ⟨w.heap.size, 0, none⟩) s s) (w.alloc (.cells (zz s) 64)) := by
  obtain ⟨i, hi, hz, h1, h2⟩ := info_parts Try.info64
  have := run_make (P := Try.prog) w 60 64 i _ Try.underlying60 hi hz .i64 .i64 s s (by omega) (Int.le_refl _) (by rw [h2]; omega) (by omega)
  rw [this, h1]
  rfl

theorem slots_made (w : World) (s : Nat) : Slots (w.alloc (.cells (zz s) 64)) w.heap.size s (fun _ => 0) (fun _ => 0) := by
  have hz : (zz s).size = s * 2 := size_madeCells _ _
  have h := World.rowIs_alloc w (zz s) 64 (pc (fun _ => 0) (fun _ => 0)) (fun j hj => by
    rw [hz] at hj
    unfold pc zz madeCells
    by_cases e : j % 2 = 0
    · simp [hj, e]
    · have : j % 2 = 1 := by omega
      simp [hj, this])
  rw [hz] at h
  exact h

theorem mask_eq (e : Nat) (x : Int) (h0 : 0 ≤ x) (h1 : x < 18446744073709551616) (he : 2 ^ e ≤ 393216) : bits .and .u64 x (((2 ^ e : Nat) : Int) - 1) = ((x.toNat % 2 ^ e : Nat) : Int) := by
  have hp : 0 < 2 ^ e := Nat.two_pow_pos e
  rw [u64_and x _ h0 h1 (by omega) (by omega)]
  have : (((2 ^ e : Nat) : Int) - 1).toNat = 2 ^ e - 1 := by omega
  rw [this, Nat.and_two_pow_sub_one_eq_mod]

theorem tk_mono (Ps : Nat → Int) {i m : Nat} (h : i < m) : tk Ps (i + 1) ≤ tk Ps m := by
  induction m with
  | zero => omega
  | succ m ih =>
    rcases Nat.lt_succ_iff_lt_or_eq.1 h with h1 | rfl
    · have h2 := ih h1
      have h3 : tk Ps m ≤ tk Ps (m + 1) := by rw [tk]; split <;> omega
      omega
    · exact Nat.le_refl _

theorem probe_lt {p f s : Nat} (hp : p < s) (hf : f < s) (hne : p ≠ f) : (f + s - (p + 1) % s) % s < (f + s - p) % s := by
  by_cases h1 : p + 1 = s
  · have e1 : (p + 1) % s = 0 := by rw [h1, Nat.mod_self]
    rw [e1, Nat.sub_zero, Nat.add_mod_right, Nat.mod_eq_of_lt hf, show f + s - p = f + 1 from by omega]
    rw [Nat.mod_eq_of_lt (by omega)]
    omega
  · rw [Nat.mod_eq_of_lt (a := p + 1) (by omega)]
    rcases Nat.lt_or_ge p f with h2 | h2
    · rw [show f + s - (p + 1) = (f - (p + 1)) + s from by omega, show f + s - p = (f - p) + s from by omega, Nat.add_mod_right, Nat.add_mod_right, Nat.mod_eq_of_lt (by omega), Nat.mod_eq_of_lt (by omega)]
      omega
    · rw [Nat.mod_eq_of_lt (by omega), Nat.mod_eq_of_lt (by omega)]
      omega

/-- reserve has been; there is room -/
def Grown (w : World) (bx base : Nat) (nn sink k : Int) (e : Ending) (w' : World) : Prop :=
  e = .returned (.tuple #[]) ∧ ∃ (b s : Nat) (Hs Ps : Nat → Int), base ≤ b ∧ s ≤ 393216 ∧ 2 * (nn + k) ≤ s ∧ Box w' bx (.slice (some ⟨b, 0, none⟩) s s) nn sink ∧ Slots w' b s Hs Ps ∧ Below base w w'

set_option maxRecDepth 100000 in
set_option maxHeartbeats 1000000 in
theorem reserve_grow (bx base m : Nat) (sv : Value) (Hs Ps : Nat → Int) (sink k : Int) (w : World) (hbx : base ≤ bx) (hB : base ≤ w.heap.size) (hm : m ≤ 65536) (hk1 : k ≤ 65536) (h2n : 2 * tk Ps m ≤ m) (hgt : ¬ 2 * ((tk Ps m : Int) + k) ≤ m)
    (gh : ∀ i, i < m → 0 ≤ Hs i ∧ Hs i < 18446744073709551616) (box : Box w bx sv (tk Ps m) sink) (slots : SlotsV w base m Hs Ps sv) :
    Calls Try.prog 35 #[.pointer (some ⟨bx, 0, none⟩), .int .i64 k] w (Grown w bx base (tk Ps m) sink k) := by
  obtain ⟨a, rfl⟩ : ∃ a, sv = .slice a m m := by
    cases slots
    · exact ⟨_, rfl⟩
    · exact ⟨_, rfl⟩
  have hk0 : 0 < k := by omega
  generalize hnn : tk Ps m = nn at *
  have HNN := Hid.mk hnn
  have c0 := box.c0
  have c1 := box.c1
  have hd : decide (2 * ((nn : Int) + k) ≤ (m : Int)) = false := decide_eq_false hgt
  have BX := Hid.mk box
  have SL := Hid.mk slots
  have GH := Hid.mk gh
  clear box slots gh hnn
  go_enter Try.func35, Try.ntmps35
  go_wp2
  go_quiet (fail)
  go_wp2
  have c0' : (w.drewN nq).cell? ⟨bx, 0, none⟩ = some (.slice a m m) := c0
  have c1' : (w.drewN nq).cell? ⟨bx, 1, none⟩ = some (.int .i64 nn) := c1
  have BX' : Hid (Box (w.drewN nq) bx (.slice a m m) nn sink) := BX
  have SL' : Hid (SlotsV (w.drewN nq) base m Hs Ps (.slice a m m)) := by
    have h := SL.out
    cases h with
    | nil h => exact .nil h
    | some b hb h => exact .some b hb h
  have B1 : Hid (Below base w (w.drewN nq)) := drewN_below (Below.refl _ _) _
  have hB0 : base ≤ (w.drewN nq).heap.size := hB
  generalize w.drewN nq = w1 at *
  clear c0 c1 BX SL
  go_loopw [4] (fun sz wq => ∃ (s e : Nat), sz = .int .i64 s ∧ s = 2 ^ e ∧ 8 ≤ s ∧ s ≤ 393216 ∧ wq = w1) (fun sz _ => 393216 - (intOf sz).toNat)
  case atStart => exact ⟨8, 3, rfl, rfl, by omega, by omega, rfl⟩
  case round =>
    obtain ⟨s, e, rfl, hse, hs8, hsm, hw⟩ := hrel
    subst hw
    by_cases hlt : (s : Int) < 2 * ((nn : Int) + k)
    · have HSE : Hid (s * 2 = 2 ^ (e + 1)) := Hid.mk (by rw [hse, Nat.pow_succ])
      clear hse
      go_wp2
      go_roundw
      case rel => exact ⟨s * 2, e + 1, by go_num, HSE.out, by omega, by omega, trivial⟩
      case measure => simp [intOf]; omega
    · have HSE := Hid.mk hse
      clear hse
      have mk := make64 s (by omega)
      have y1 : Box (wr.alloc (.cells (zz s) 64)) bx (.slice a m m) nn sink := World.rowIs.alloc BX'.out _
      have y2 := slots_made wr s
      have hne : bx ≠ wr.heap.size := Nat.ne_of_lt (World.rowIs.lt BX'.out)
      have z0 := y1.c0
      have z1 := World.rowIs.frozen y1 0
      have y3 := y1.set0 (.slice (some ⟨wr.heap.size, 0, none⟩) s s)
      have y4 : Slots ((wr.alloc (.cells (zz s) 64)).setCell ⟨bx, 0, none⟩ (.slice (some ⟨wr.heap.size, 0, none⟩) s s)) wr.heap.size s (fun _ => 0) (fun _ => 0) := World.rowIs.setOther y2 (Ne.symm hne) _
      have hB1 : base ≤ wr.heap.size := hB0
      have y5 : Below base w ((wr.alloc (.cells (zz s) 64)).setCell ⟨bx, 0, none⟩ (.slice (some ⟨wr.heap.size, 0, none⟩) s s)) := (B1.out.alloc hB1 _).setCell hbx _
      have y6 : SlotsV ((wr.alloc (.cells (zz s) 64)).setCell ⟨bx, 0, none⟩ (.slice (some ⟨wr.heap.size, 0, none⟩) s s)) base m Hs Ps (.slice a m m) := by
        have h := SL'.out
        cases h with
        | nil h => exact .nil h
        | some b hb h =>
          refine .some b hb (World.rowIs.setOther (World.rowIs.alloc h _) ?_ _)
          intro e
          obtain ⟨c, h2, _⟩ := h
          obtain ⟨c', h3, _⟩ := BX'.out
          have e' : b = bx := e
          rw [e', h3] at h2
          cases h2
      have Y3 := Hid.mk y3
      have Y4 := Hid.mk y4
      have Y5 := Hid.mk y5
      have hbn : bx < wr.heap.size := World.rowIs.lt BX'.out
      have OLD : Hid (∀ i, i < m → ∃ b, a = some ⟨b, 0, none⟩ ∧ b < wr.heap.size ∧ ((wr.alloc (.cells (zz s) 64)).setCell ⟨bx, 0, none⟩ (.slice (some ⟨wr.heap.size, 0, none⟩) s s)).cell? ⟨b, i * 2, none⟩ = some (.int .u64 (Hs i)) ∧
          ((wr.alloc (.cells (zz s) 64)).setCell ⟨bx, 0, none⟩ (.slice (some ⟨wr.heap.size, 0, none⟩) s s)).cell? ⟨b, i * 2 + 1, none⟩ = some (.int .i64 (Ps i))) := by
        intro i hi
        have h := SL'.out
        have h6 := y6
        cases h with
        | nil h => omega
        | some b hb h =>
          cases h6 with
          | some b' hb' h' => exact ⟨b, rfl, World.rowIs.lt h, h'.c0 hi, h'.c1 hi⟩
      have HBN := Hid.mk hbn
      clear y1 y2 y3 y4 y5 y6 SL' BX' B1 hne hbn
      go_wp2
      have hbn := HBN.out
      have hcb := Y3.out.c0
      have hszz : ((wr.alloc (.cells (zz s) 64)).setCell ⟨bx, 0, none⟩ (.slice (some ⟨wr.heap.size, 0, none⟩) s s)).heap.size = wr.heap.size + 1 := by simp [World.setCell]
      clear z0 z1 c0' c1' mk
      generalize (wr.alloc (.cells (zz s) 64)).setCell ⟨bx, 0, none⟩ (.slice (some ⟨wr.heap.size, 0, none⟩) s s) = w2 at *
      generalize wr.heap.size = nb at *
      go_loopw [48] (fun iv wq => ∃ (i : Nat) (Hs' Ps' : Nat → Int), i ≤ m ∧ iv = .int .i64 i ∧ Slots wq nb s Hs' Ps' ∧ tk Ps' s ≤ tk Ps i ∧ Below nb w2 wq) (fun iv _ => m - (intOf iv).toNat)
      case atStart => exact ⟨0, _, _, by omega, rfl, Y4.out, by rw [tk_zero]; exact Nat.zero_le _, Below.refl _ _⟩
      case round =>
        obtain ⟨i, Hs', Ps', hi, rfl, hsl, htk, hbel⟩ := hrel
        by_cases hil : i < m
        · obtain ⟨b, rfl, hb, e0, e1⟩ := OLD.out i hil
          have d0 := (hbel.cell (p := ⟨b, i * 2, none⟩) hb).trans e0
          have d1 := (hbel.cell (p := ⟨b, i * 2 + 1, none⟩) hb).trans e1
          have dbx := (hbel.cell (p := ⟨bx, 0, none⟩) hbn).trans hcb
          have SLN := Hid.mk hsl
          have hnbw : nb ≤ wr.heap.size := Nat.le_of_lt (World.rowIs.lt hsl)
          have HTK := Hid.mk htk
          have HBL := Hid.mk hbel
          clear hsl htk hbel e0 e1
          by_cases hz : Ps i = 0
          · have HT : Hid (tk Ps (i + 1) = tk Ps i) := Hid.mk (by rw [tk, if_pos hz])
            rw [hz] at d1
            clear hz
            generalize Hs i = hx at *
            go_wp2
            exact ⟨⟨i + 1, Hs', Ps', by omega, by go_num, World.rowIs.alloc SLN.out _, by rw [HT.out]; exact HTK.out, HBL.out.alloc hnbw _⟩, by simp [intOf]; omega⟩
          · have HT : Hid (tk Ps (i + 1) = tk Ps i + 1) := Hid.mk (by rw [tk, if_neg hz])
            have hz' : (Ps i == 0) = false := by simpa using hz
            have HZ := Hid.mk hz
            clear hz
            have HG := GH.out i hil
            generalize Hs i = hx at *
            generalize Ps i = px at *
            obtain ⟨g0, g1⟩ := HG
            obtain ⟨p0, hp0, hmask⟩ : ∃ p0 : Nat, p0 < s ∧ bits .and .u64 hx ((s : Int) - 1) = (p0 : Int) := by
              refine ⟨hx.toNat % s, Nat.mod_lt _ (by omega), ?_⟩
              have h := mask_eq e hx g0 g1 (by rw [← HSE.out]; exact hsm)
              rw [← HSE.out] at h
              exact h
            obtain ⟨f, hf, hf0⟩ : ∃ f, f < s ∧ Ps' f = 0 := tk_free (by
              have h1 := HTK.out
              have h2 := HT.out
              have h3 : tk Ps (i + 1) ≤ tk Ps m := tk_mono Ps hil
              have h4 := HNN.out
              omega)
            have HF0 := Hid.mk hf0
            clear hf0
            have SLA : Hid (Slots (wr.alloc (.cells #[.int .u64 hx, .int .i64 px] 64)) nb s Hs' Ps') := World.rowIs.alloc SLN.out _
            have HBA : Hid (Below nb w2 (wr.alloc (.cells #[.int .u64 hx, .int .i64 px] 64))) := HBL.out.alloc hnbw _
            have abx : (wr.alloc (.cells #[.int .u64 hx, .int .i64 px] 64)).cell? ⟨bx, 0, none⟩ = some (.slice (some ⟨nb, 0, none⟩) s s) := (HBA.out.cell (p := ⟨bx, 0, none⟩) hbn).trans hcb
            have a0 : (wr.alloc (.cells #[.int .u64 hx, .int .i64 px] 64)).cell? ⟨wr.heap.size, 0, none⟩ = some (.int .u64 hx) := by unfold World.cell?; rw [heap_alloc_new]; rfl
            have a1 : (wr.alloc (.cells #[.int .u64 hx, .int .i64 px] 64)).cell? ⟨wr.heap.size, 1, none⟩ = some (.int .i64 px) := by unfold World.cell?; rw [heap_alloc_new]; rfl
            go_wp2
            generalize wr.alloc (.cells #[.int .u64 hx, .int .i64 px] 64) = w3 at *
            generalize wr.heap.size = tb at *
            go_loopw [9] (fun pv wq => ∃ p : Nat, p < s ∧ pv = .int .u64 p ∧ wq = w3) (fun pv _ => (f + s - (intOf pv).toNat) % s)
            case atStart => exact ⟨p0, hp0, rfl, rfl⟩
            case round =>
              obtain ⟨p, hp, rfl, hw3⟩ := hrel
              subst hw3
              have s1 := SLA.out.c1 hp
              by_cases hpz : Ps' p = 0
              · have s0 := SLA.out.c0 hp
                have f0 := World.rowIs.frozen SLA.out (p * 2)
                have f1 := World.rowIs.frozen SLA.out (p * 2 + 1)
                have SLP := Hid.mk (SLA.out.put p hx px)
                have HPZ := Hid.mk hpz
                have BLP := Hid.mk ((HBA.out.setCell (p := ⟨nb, p * 2, none⟩) (Nat.le_refl _) (.int .u64 hx)).setCell (p := ⟨nb, p * 2 + 1, none⟩) (Nat.le_refl _) (.int .i64 px))
                rw [hpz] at s1
                clear hpz
                generalize Hs' p = hh at *
                go_wp2
                go_region
                go_wp2
                exact ⟨⟨i + 1, upd Hs' p hx, upd Ps' p px, by omega, by go_num, SLP.out, by rw [HT.out, tk_upd HZ.out HPZ.out, if_pos hp]; have := HTK.out; omega, BLP.out.drew⟩, by simp [intOf]; omega⟩
              · have hpz' : (Ps' p == 0) = false := by simpa using hpz
                have hne : p ≠ f := fun e => hpz (by rw [e]; exact HF0.out)
                have hmask2 : bits .and .u64 ((p : Int) + 1) ((s : Int) - 1) = (((p + 1) % s : Nat) : Int) := by
                  have h := mask_eq e ((p : Int) + 1) (by omega) (by omega) (by rw [← HSE.out]; exact hsm)
                  rw [← HSE.out] at h
                  rw [h, show ((p : Int) + 1).toNat = p + 1 from by omega]
                have HM : Hid ((f + s - (p + 1) % s) % s < (f + s - p) % s) := Hid.mk (probe_lt hp hf hne)
                have hq : (p + 1) % s < s := Nat.mod_lt _ (by omega)
                generalize (p + 1) % s = p' at *
                generalize Ps' p = pp at *
                clear hpz
                go_wp2
                go_roundw
                case rel => exact ⟨p', hq, rfl, trivial⟩
                case measure => simp [intOf]; exact HM.out
        · have BF : Hid (Box wr bx (.slice (some ⟨nb, 0, none⟩) s s) nn sink) := World.rowIs.of_block Y3.out (hbel.block bx hbn)
          have BB := Hid.mk (Y5.out.trans (hbel.mono hB1))
          have SF := Hid.mk hsl
          clear hsl htk hbel hcb
          go_wp2
          go_end0
          exact ⟨rfl, nb, s, Hs', Ps', hB1, hsm, by omega, BF.out, SF.out, BB.out⟩
end Go.Proofs.Qxb6602994a
