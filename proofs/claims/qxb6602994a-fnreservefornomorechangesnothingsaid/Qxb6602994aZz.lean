import Derived.Test.Qxb6602994aGrow
namespace Go.Proofs.Qxb6602994a
open Go.RowKit

theorem results_tmp4 {fn : Func} {t u v x : Tmp} (h : fn.results = #[.tmp t, .tmp u, .tmp v, .tmp x]) (tmps : Array Value) (P : Program) (w : World) :
    (results fn tmps).run P w = .ok (.tuple #[tmps.getD t undef, tmps.getD u undef, tmps.getD v undef, tmps.getD x undef]) w := by
  simp [results, h]

/-- is the new table as the old one where there was room? -/
def Same (m m' : Nat) (Hs Ps Hs' Ps' : Nat → Int) (z : Int) : Prop := 2 * z ≤ m → m' = m ∧ ∀ i, i < m → Hs' i = Hs i ∧ Ps' i = Ps i

/-- reserve has been -/
def Room (w : World) (bx base m : Nat) (Hs Ps : Nat → Int) (nn sink k : Int) (e : Ending) (w' : World) : Prop :=
  e = .returned (.tuple #[]) ∧ ∃ (a : Option Addr) (m' : Nat) (Hs' Ps' : Nat → Int), m' ≤ 393216 ∧ 2 * (nn + k) ≤ m' ∧ Same m m' Hs Ps Hs' Ps' (nn + k) ∧ Box w' bx (.slice a m' m') nn sink ∧ SlotsV w' base m' Hs' Ps' (.slice a m' m') ∧ Below base w w'

/-- what reserve asks: there is room, or n counts the taken ones -/
def Fit (m : Nat) (Hs Ps : Nat → Int) (nn k : Int) : Prop := 2 * (nn + k) ≤ m ∨ (nn = (tk Ps m : Int) ∧ 2 * tk Ps m ≤ m ∧ m ≤ 65536 ∧ ∀ i, i < m → 0 ≤ Hs i ∧ Hs i < 18446744073709551616)

theorem SlotsV.shape {w : World} {base m : Nat} {Hs Ps : Nat → Int} {sv : Value} (h : SlotsV w base m Hs Ps sv) : ∃ a, sv = .slice a m m := by
  cases h
  · exact ⟨_, rfl⟩
  · exact ⟨_, rfl⟩

theorem reserve (bx base m : Nat) (sv : Value) (Hs Ps : Nat → Int) (nn sink k : Int) (w : World) (hbx : base ≤ bx) (hB : base ≤ w.heap.size) (hm : m ≤ 393216) (hn0 : 0 ≤ nn) (hn1 : nn ≤ 65536) (hk0 : -65536 ≤ k) (hk1 : k ≤ 65536)
    (fit : Fit m Hs Ps nn k) (box : Box w bx sv nn sink) (slots : SlotsV w base m Hs Ps sv) :
    Calls Try.prog 35 #[.pointer (some ⟨bx, 0, none⟩), .int .i64 k] w (Room w bx base m Hs Ps nn sink k) := by
  by_cases hle : 2 * (nn + k) ≤ m
  · obtain ⟨a, rfl⟩ := slots.shape
    refine (reserve_noop bx m a nn sink k w (by omega) hn0 (by omega) hk0 hk1 hle box).mono ?_
    rintro e w' ⟨rfl, d, rfl⟩
    refine ⟨rfl, a, m, Hs, Ps, hm, hle, fun _ => ⟨rfl, fun _ _ => ⟨rfl, rfl⟩⟩, box, ?_, drewN_below (Below.refl _ _) _⟩
    cases slots with
    | nil h => exact .nil h
    | some b hb h => exact .some b hb h
  · rcases fit with h | ⟨rfl, h2, h3, gh⟩
    · exact absurd h hle
    refine (reserve_grow bx base m sv Hs Ps sink k w hbx hB h3 hk1 h2 hle gh box slots).mono ?_
    rintro e w' ⟨rfl, b, s, Hs', Ps', h4, h5, h6, h7, h8, h9⟩
    exact ⟨rfl, some ⟨b, 0, none⟩, s, Hs', Ps', h5, h6, fun h => absurd h hle, h7, .some b h4 h8, h9⟩

/-- ZZReserve has been: the fields came back -/
def Zres (w : World) (m : Nat) (Hs Ps : Nat → Int) (nn sink k : Int) (e : Ending) (w' : World) : Prop :=
  ∃ (a1 a2 : Option Addr) (c1 c2 m' : Nat) (Hs' Ps' : Nat → Int), e = .returned (.tuple #[.slice a1 m' c1, .slice a2 m' c2, .int .i64 nn, .int .i64 sink]) ∧ Row w' a1 m' (fun i => .int .u64 (Hs' i)) ∧ Row w' a2 m' (fun i => .int .i64 (Ps' i)) ∧
    m' ≤ 393216 ∧ 2 * (nn + k) ≤ m' ∧ Same m m' Hs Ps Hs' Ps' (nn + k) ∧ Below w.heap.size w w'

theorem Slots.congr {w : World} {b m : Nat} {Hs Ps Hs' Ps' : Nat → Int} (h : Slots w b m Hs' Ps') (e : ∀ i, i < m → Hs' i = Hs i ∧ Ps' i = Ps i) : Slots w b m Hs Ps :=
  World.rowIs.congr h fun j hj => by unfold pc; rw [(e (j / 2) (by omega)).1, (e (j / 2) (by omega)).2]

theorem box_made (w : World) (sv : Value) (nn sink : Int) : Box (w.alloc (.cells #[sv, .int .i64 nn, .int .i64 sink] 62)) w.heap.size sv nn sink := World.rowIs_alloc w _ 62 _ (fun i hi => by
  have : i < 3 := hi
  rcases i with _ | _ | _ | i
  · rfl
  · rfl
  · rfl
  · omega)

set_option maxRecDepth 100000 in
set_option maxHeartbeats 2000000 in
theorem zzReserve (a1 a2 : Option Addr) (c1 c2 m : Nat) (Hs Ps : Nat → Int) (nn sink k : Int) (w : World) (hm : m ≤ 393216) (hn0 : 0 ≤ nn) (hn1 : nn ≤ 65536) (hk0 : -65536 ≤ k) (hk1 : k ≤ 65536)
    (fit : Fit m Hs Ps nn k) (r1 : Row w a1 m (fun i => .int .u64 (Hs i))) (r2 : Row w a2 m (fun i => .int .i64 (Ps i))) :
    Calls Try.prog 25 #[.slice a1 m c1, .slice a2 m c2, .int .i64 nn, .int .i64 sink, .int .i64 k] w (Zres w m Hs Ps nn sink k) := by
  have hne := fun w' a => run_neq_slice_nil_any (P := Try.prog) w' 41 30 a m c1 0 0 Try.underlying41
  have box0 := box_made w (.slice none 0 0) nn sink
  have bel0 : Below w.heap.size w (w.alloc (.cells #[.slice none 0 0, .int .i64 nn, .int .i64 sink] 62)) := (Below.refl _ _).alloc (Nat.le_refl _) _
  cases a1 with
  | none =>
    have hm0 := r1.zero
    subst hm0
    have hcall := reserve w.heap.size w.heap.size 0 (.slice none 0 0) Hs Ps nn sink k (w.alloc (.cells #[.slice none 0 0, .int .i64 nn, .int .i64 sink] 62)) (Nat.le_refl _) (by simp) hm hn0 hn1 hk0 hk1 fit box0 (.nil rfl)
    have BLW := Hid.mk bel0
    clear box0 bel0 r1 r2 fit
    go_enter Try.func25, Try.ntmps25
    go_wp2_with fail
    clear hne
    refine hcall.mono ?_
    rintro e w4 ⟨rfl, a, m', Hs', Ps', hm', hroom, hsame, box4, slots4, bel4⟩
    have hm1 := run_make_row' (P := Try.prog) 41 30 (.int .u64 0) 8 Try.underlying41 Try.info30 rfl .i64 .i64 m' (by omega) (by omega)
    have hm2 := run_make_row' (P := Try.prog) 42 3 (.int .i64 0) 8 Try.underlying42 Try.info3 rfl .i64 .i64 m' (by omega) (by omega)
    have d0 := box4.c0
    have hbx4 := World.rowIs.lt box4
    have BX4 := Hid.mk box4
    have SL4 := Hid.mk slots4
    have BL4 : Hid (Below w.heap.size w w4) := Hid.mk (BLW.out.trans bel4)
    have HSM := Hid.mk hsame
    clear hsame box4 slots4 bel4 hcall
    have OLD : Hid (∀ i, i < m' → ∃ b, a = some ⟨b, 0, none⟩ ∧ b < w4.heap.size ∧ w4.cell? ⟨b, i * 2, none⟩ = some (.int .u64 (Hs' i)) ∧ w4.cell? ⟨b, i * 2 + 1, none⟩ = some (.int .i64 (Ps' i))) := by
      intro i hi
      have h := SL4.out
      cases h with
      | nil h => omega
      | some b hb h => exact ⟨b, rfl, World.rowIs.lt h, h.c0 hi, h.c1 hi⟩
    have dA : (w4.alloc (.cells (madeCells #[.int .u64 0] m') 30)).cell? ⟨w.heap.size, 0, none⟩ = some (.slice a m' m') := Box.c0 (World.rowIs.alloc BX4.out _)
    generalize hbxe : w.heap.size = bx at *
    go_wp2
    clear hm1 hm2 dA
    go_loopw [18] (fun jv wq => ∃ (j : Nat) (g1 g2 : Nat → Value), j ≤ m' ∧ jv = .int .i64 j ∧ wq.rowIs w4.heap.size 30 m' g1 ∧ wq.rowIs (w4.heap.size + 1) 3 m' g2 ∧ (∀ i, i < j → g1 i = .int .u64 (Hs' i) ∧ g2 i = .int .i64 (Ps' i)) ∧ Below w4.heap.size w4 wq) (fun jv _ => m' - (intOf jv).toNat)
    case atStart =>
      have h2 : ((w4.alloc (.cells (madeCells #[.int .u64 0] m') 30)).alloc (.cells (madeCells #[.int .i64 0] m') 3)).rowIs (w4.heap.size + 1) 3 m' (fun _ => .int .i64 0) := by
        have := World.rowIs_made (w4.alloc (.cells (madeCells #[.int .u64 0] m') 30)) (.int .i64 0) m' 3
        simpa using this
      exact ⟨0, _, _, by omega, rfl, (World.rowIs_made w4 (.int .u64 0) m' 30).alloc _, h2, fun j hj => by omega, ((Below.refl _ _).alloc (Nat.le_refl _) _).alloc (by simp) _⟩
    case round =>
      obtain ⟨j, g1, g2, hj, rfl, row1, row2, hg, hbel⟩ := hrel
      have dbx := (hbel.cell (p := ⟨bx, 0, none⟩) hbx4).trans d0
      by_cases hjl : j < m'
      · obtain ⟨b, rfl, hb, e0, e1⟩ := OLD.out j hjl
        have x0 := (hbel.cell (p := ⟨b, j * 2, none⟩) hb).trans e0
        have q1 := row1.cell hjl
        have f1 := row1.frozen j
        have s2 := row2.setOther (a := ⟨w4.heap.size, j, none⟩) (by simp) (.int .u64 (Hs' j))
        have s1 := row1.set j (.int .u64 (Hs' j))
        have q2 := s2.cell hjl
        have f2 := s2.frozen j
        have b1 := hbel.setCell (p := ⟨w4.heap.size, j, none⟩) (Nat.le_refl _) (.int .u64 (Hs' j))
        have x1 := (b1.cell (p := ⟨b, j * 2 + 1, none⟩) hb).trans e1
        have dby := (b1.cell (p := ⟨bx, 0, none⟩) hbx4).trans d0
        have R1 := Hid.mk (s1.setOther (a := ⟨w4.heap.size + 1, j, none⟩) (by simp) (.int .i64 (Ps' j)))
        have R2 := Hid.mk (s2.set j (.int .i64 (Ps' j)))
        have B2 := Hid.mk (b1.setCell (p := ⟨w4.heap.size + 1, j, none⟩) (by simp) (.int .i64 (Ps' j)))
        have R3 : Hid (∀ i, i < j + 1 → (if i = j then .int .u64 (Hs' j) else g1 i) = Value.int .u64 (Hs' i) ∧ (if i = j then .int .i64 (Ps' j) else g2 i) = Value.int .i64 (Ps' i)) := fun i hi => by
          by_cases e : i = j
          · subst e; simp
          · simp only [if_neg e]; exact hg i (by omega)
        clear row1 row2 hbel hg s1 s2 b1 e0 e1
        generalize Hs' j = hx at *
        generalize Ps' j = px at *
        go_wp2
        go_roundw
        case rel => exact ⟨j + 1, _, _, by omega, by go_num, R1.out, R2.out, R3.out, B2.out⟩
        case measure => simp [intOf]; omega
      · have e : j = m' := by omega
        subst e
        have R := Hid.mk (Row.of_rowIs row1 (fun i hi => (hg i hi).1)).row
        have R' := Hid.mk (Row.of_rowIs row2 (fun i hi => (hg i hi).2)).row
        have BF := Hid.mk (BL4.out.trans (hbel.mono (Nat.le_of_lt hbx4)))
        have y1 := (hbel.cell (p := ⟨bx, 1, none⟩) hbx4).trans BX4.out.c1
        have y2 := (hbel.cell (p := ⟨bx, 2, none⟩) hbx4).trans BX4.out.c2
        clear row1 row2 hg hbel
        go_wp2
        go_quiet (fail)
        go_wp2
        refine bodyPost_ret (results_tmp4 rfl _ _ _) rfl ?_
        exact ⟨_, _, _, _, j, Hs', Ps', rfl, R.out, R'.out, hm', hroom, HSM.out, by rw [hbxe]; exact drewN_below BF.out _⟩
  | some x =>
    have mk := make64 m (by omega)
    have box2 : Box ((w.alloc (.cells #[.slice (some ⟨w.heap.size + 1, 0, none⟩) m m, .int .i64 nn, .int .i64 sink] 62)).alloc (.cells (zz m) 64)) w.heap.size (.slice (some ⟨w.heap.size + 1, 0, none⟩) m m) nn sink := World.rowIs.alloc (box_made w _ nn sink) _
    have slots2 : Slots ((w.alloc (.cells #[.slice (some ⟨w.heap.size + 1, 0, none⟩) m m, .int .i64 nn, .int .i64 sink] 62)).alloc (.cells (zz m) 64)) (w.heap.size + 1) m (fun _ => 0) (fun _ => 0) := by
      have h := slots_made (w.alloc (.cells #[.slice (some ⟨w.heap.size + 1, 0, none⟩) m m, .int .i64 nn, .int .i64 sink] 62)) m
      simpa using h
    have bel2 : Below w.heap.size w ((w.alloc (.cells #[.slice (some ⟨w.heap.size + 1, 0, none⟩) m m, .int .i64 nn, .int .i64 sink] 62)).alloc (.cells (zz m) 64)) := ((Below.refl _ _).alloc (Nat.le_refl _) _).alloc (by simp) _
    have BX2 := Hid.mk box2
    have SL2 := Hid.mk slots2
    have BL2 := Hid.mk bel2
    have Q1 := Hid.mk r1
    have Q2 := Hid.mk r2
    have FIT := Hid.mk fit
    clear box0 bel0 box2 slots2 bel2 r1 r2 fit
    go_enter Try.func25, Try.ntmps25
    go_wp2
    clear mk hne
    generalize (w.alloc (.cells #[.slice (some ⟨w.heap.size + 1, 0, none⟩) m m, .int .i64 nn, .int .i64 sink] 62)).alloc (.cells (zz m) 64) = w2 at *
    go_loopw [15] (fun jv wq => ∃ (j : Nat) (Hs' Ps' : Nat → Int), j ≤ m ∧ jv = .int .i64 j ∧ Slots wq (w.heap.size + 1) m Hs' Ps' ∧ (∀ i, i < j → Hs' i = Hs i ∧ Ps' i = Ps i) ∧ Below (w.heap.size + 1) w2 wq) (fun jv _ => m - (intOf jv).toNat)
    case atStart => exact ⟨0, _, _, by omega, rfl, SL2.out, fun i hi => by omega, Below.refl _ _⟩
    case round =>
      obtain ⟨j, Hs', Ps', hj, rfl, hsl, heq, hbel⟩ := hrel
      by_cases hjl : j < m
      · obtain ⟨b1, o1, ex, hb1, hc1⟩ := Q1.out j hjl
        obtain ⟨b2, o2, rfl, hb2, hc2⟩ := Q2.out j hjl
        simp only [Option.some.injEq] at ex
        subst ex
        simp only at hc1 hc2
        have x1 := (hbel.cell (p := ⟨b1, o1 + j, none⟩) (by show b1 < _; omega)).trans ((BL2.out.cell (p := ⟨b1, o1 + j, none⟩) hb1).trans hc1)
        have x2 := (hbel.cell (p := ⟨b2, o2 + j, none⟩) (by show b2 < _; omega)).trans ((BL2.out.cell (p := ⟨b2, o2 + j, none⟩) hb2).trans hc2)
        have x3 := (hbel.cell (p := ⟨w.heap.size, 0, none⟩) (by show w.heap.size < _; omega)).trans BX2.out.c0
        have s0 := hsl.c0 hjl
        have s1 := hsl.c1 hjl
        have f0 := World.rowIs.frozen hsl (j * 2)
        have f1 := World.rowIs.frozen hsl (j * 2 + 1)
        have SLP := Hid.mk (hsl.put j (Hs j) (Ps j))
        have BLP := Hid.mk ((hbel.setCell (p := ⟨w.heap.size + 1, j * 2, none⟩) (Nat.le_refl _) (.int .u64 (Hs j))).setCell (p := ⟨w.heap.size + 1, j * 2 + 1, none⟩) (Nat.le_refl _) (.int .i64 (Ps j)))
        have HEQ : Hid (∀ i, i < j + 1 → upd Hs' j (Hs j) i = Hs i ∧ upd Ps' j (Ps j) i = Ps i) := fun i hi => by
          by_cases e : i = j
          · subst e; simp [upd]
          · simp only [upd, if_neg e]; exact heq i (by omega)
        clear hsl heq hbel hc1 hc2
        generalize hhx : Hs j = hx at *
        generalize hpx : Ps j = px at *
        generalize Hs' j = hy at *
        generalize Ps' j = py at *
        clear hhx hpx
        go_wp2
        go_region
        go_wp2
        exact ⟨⟨j + 1, _, _, by omega, by go_num, SLP.out, HEQ.out, BLP.out.drew⟩, by simp [intOf]; omega⟩
      · have e : j = m := by omega
        have hcall := reserve w.heap.size w.heap.size m (.slice (some ⟨w.heap.size + 1, 0, none⟩) m m) Hs Ps nn sink k wr (Nat.le_refl _) (Nat.le_trans BL2.out.size hbel.size) hm hn0 hn1 hk0 hk1 FIT.out (World.rowIs.of_block BX2.out (hbel.block w.heap.size (by omega))) (.some _ (by omega) (hsl.congr (fun i hi => heq i (by omega))))
        have BLW : Hid (Below w.heap.size w wr) := Hid.mk (BL2.out.trans (hbel.mono (by omega)))
        clear hsl heq hbel e
        clear BX2 SL2 BL2 Q1 Q2 FIT
        go_wp2_with fail
        refine hcall.mono ?_
        rintro e w4 ⟨rfl, a, m', Hs', Ps', hm', hroom, hsame, box4, slots4, bel4⟩
        have hm1 := run_make_row' (P := Try.prog) 41 30 (.int .u64 0) 8 Try.underlying41 Try.info30 rfl .i64 .i64 m' (by omega) (by omega)
        have hm2 := run_make_row' (P := Try.prog) 42 3 (.int .i64 0) 8 Try.underlying42 Try.info3 rfl .i64 .i64 m' (by omega) (by omega)
        have d0 := box4.c0
        have hbx4 := World.rowIs.lt box4
        have BX4 := Hid.mk box4
        have SL4 := Hid.mk slots4
        have BL4 : Hid (Below w.heap.size w w4) := Hid.mk (BLW.out.trans bel4)
        have HSM := Hid.mk hsame
        clear hsame box4 slots4 bel4 hcall
        have OLD : Hid (∀ i, i < m' → ∃ b, a = some ⟨b, 0, none⟩ ∧ b < w4.heap.size ∧ w4.cell? ⟨b, i * 2, none⟩ = some (.int .u64 (Hs' i)) ∧ w4.cell? ⟨b, i * 2 + 1, none⟩ = some (.int .i64 (Ps' i))) := by
          intro i hi
          have h := SL4.out
          cases h with
          | nil h => omega
          | some b hb h => exact ⟨b, rfl, World.rowIs.lt h, h.c0 hi, h.c1 hi⟩
        have dA : (w4.alloc (.cells (madeCells #[.int .u64 0] m') 30)).cell? ⟨w.heap.size, 0, none⟩ = some (.slice a m' m') := Box.c0 (World.rowIs.alloc BX4.out _)
        generalize hbxe : w.heap.size = bx at *
        go_wp2
        clear hm1 hm2 dA
        go_loopw [18] (fun jv wq => ∃ (j : Nat) (g1 g2 : Nat → Value), j ≤ m' ∧ jv = .int .i64 j ∧ wq.rowIs w4.heap.size 30 m' g1 ∧ wq.rowIs (w4.heap.size + 1) 3 m' g2 ∧ (∀ i, i < j → g1 i = .int .u64 (Hs' i) ∧ g2 i = .int .i64 (Ps' i)) ∧ Below w4.heap.size w4 wq) (fun jv _ => m' - (intOf jv).toNat)
        case atStart =>
          have h2 : ((w4.alloc (.cells (madeCells #[.int .u64 0] m') 30)).alloc (.cells (madeCells #[.int .i64 0] m') 3)).rowIs (w4.heap.size + 1) 3 m' (fun _ => .int .i64 0) := by
            have := World.rowIs_made (w4.alloc (.cells (madeCells #[.int .u64 0] m') 30)) (.int .i64 0) m' 3
            simpa using this
          exact ⟨0, _, _, by omega, rfl, (World.rowIs_made w4 (.int .u64 0) m' 30).alloc _, h2, fun j hj => by omega, ((Below.refl _ _).alloc (Nat.le_refl _) _).alloc (by simp) _⟩
        case round =>
          obtain ⟨j, g1, g2, hj, rfl, row1, row2, hg, hbel⟩ := hrel
          have dbx := (hbel.cell (p := ⟨bx, 0, none⟩) hbx4).trans d0
          by_cases hjl : j < m'
          · obtain ⟨b, rfl, hb, e0, e1⟩ := OLD.out j hjl
            have x0 := (hbel.cell (p := ⟨b, j * 2, none⟩) hb).trans e0
            have q1 := row1.cell hjl
            have f1 := row1.frozen j
            have s2 := row2.setOther (a := ⟨w4.heap.size, j, none⟩) (by simp) (.int .u64 (Hs' j))
            have s1 := row1.set j (.int .u64 (Hs' j))
            have q2 := s2.cell hjl
            have f2 := s2.frozen j
            have b1 := hbel.setCell (p := ⟨w4.heap.size, j, none⟩) (Nat.le_refl _) (.int .u64 (Hs' j))
            have x1 := (b1.cell (p := ⟨b, j * 2 + 1, none⟩) hb).trans e1
            have dby := (b1.cell (p := ⟨bx, 0, none⟩) hbx4).trans d0
            have R1 := Hid.mk (s1.setOther (a := ⟨w4.heap.size + 1, j, none⟩) (by simp) (.int .i64 (Ps' j)))
            have R2 := Hid.mk (s2.set j (.int .i64 (Ps' j)))
            have B2 := Hid.mk (b1.setCell (p := ⟨w4.heap.size + 1, j, none⟩) (by simp) (.int .i64 (Ps' j)))
            have R3 : Hid (∀ i, i < j + 1 → (if i = j then .int .u64 (Hs' j) else g1 i) = Value.int .u64 (Hs' i) ∧ (if i = j then .int .i64 (Ps' j) else g2 i) = Value.int .i64 (Ps' i)) := fun i hi => by
              by_cases e : i = j
              · subst e; simp
              · simp only [if_neg e]; exact hg i (by omega)
            clear row1 row2 hbel hg s1 s2 b1 e0 e1
            generalize Hs' j = hx at *
            generalize Ps' j = px at *
            go_wp2
            go_roundw
            case rel => exact ⟨j + 1, _, _, by omega, by go_num, R1.out, R2.out, R3.out, B2.out⟩
            case measure => simp [intOf]; omega
          · have e : j = m' := by omega
            subst e
            have R := Hid.mk (Row.of_rowIs row1 (fun i hi => (hg i hi).1)).row
            have R' := Hid.mk (Row.of_rowIs row2 (fun i hi => (hg i hi).2)).row
            have BF := Hid.mk (BL4.out.trans (hbel.mono (Nat.le_of_lt hbx4)))
            have y1 := (hbel.cell (p := ⟨bx, 1, none⟩) hbx4).trans BX4.out.c1
            have y2 := (hbel.cell (p := ⟨bx, 2, none⟩) hbx4).trans BX4.out.c2
            clear row1 row2 hg hbel
            go_wp2
            go_quiet (fail)
            go_wp2
            refine bodyPost_ret (results_tmp4 rfl _ _ _) rfl ?_
            exact ⟨_, _, _, _, j, Hs', Ps', rfl, R.out, R'.out, hm', hroom, HSM.out, by rw [hbxe]; exact drewN_below BF.out _⟩
end Go.Proofs.Qxb6602994a
