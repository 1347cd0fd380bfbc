import Derived.Test.Qxb6602594aRead2
namespace Go.Proofs.Qxb6602594a
open Go.RowKit Go.Maps

def zeroApp : App := ⟨0, ByteArray.empty, 0, 0, 0, 0⟩

theorem Rep.appsAt {B : Nat} {w : World} {hb : Nat} {Y : Lay} {H : Hi} (h : Rep B w hb Y H) {l : Nat} (hl : l < H.n) :
    ∃ aa ac, Y.av l = .slice aa (H.ls l).apps.length ac ∧ ∀ i, i < (H.ls l).apps.length → ∃ ag, aa = some ⟨ag, 0, none⟩ ∧ ag < w.heap.size ∧
      w.cell? ⟨ag, i * 6, none⟩ = some (.int .i32 ((H.ls l).apps.getD i zeroApp).txn) ∧ w.cell? ⟨ag, i * 6 + 1, none⟩ = some (.string ((H.ls l).apps.getD i zeroApp).value) ∧ w.cell? ⟨ag, i * 6 + 2, none⟩ = some (.int .i32 ((H.ls l).apps.getD i zeroApp).line) ∧
      w.cell? ⟨ag, i * 6 + 3, none⟩ = some (.int .i32 ((H.ls l).apps.getD i zeroApp).readLen) ∧ w.cell? ⟨ag, i * 6 + 4, none⟩ = some (.int .i32 ((H.ls l).apps.getD i zeroApp).next) ∧ w.cell? ⟨ag, i * 6 + 5, none⟩ = some (.int .i32 ((H.ls l).apps.getD i zeroApp).pos) := by
  have row := (h.each l hl).apps
  obtain ⟨aa, ac, hv⟩ := ownsRow_shape row
  refine ⟨aa, ac, hv, fun i hi => ?_⟩
  rcases row.2 with ⟨_, h0⟩ | ⟨g, cap, cur, hv', _, hgg, _⟩
  · omega
  · rw [hv] at hv'
    simp only [Value.slice.injEq] at hv'
    obtain ⟨rfl, _, rfl⟩ := hv'
    rw [hv] at row
    have eg : (H.ls l).apps.getD i zeroApp = (H.ls l).apps[i] := by simp [hi]
    have cell : ∀ j, j < 6 → w.cell? ⟨g, i * 6 + j, none⟩ = (appCells (H.ls l).apps[i])[j]? := fun j hj => by
      rw [row.cellAt (i * 6 + j) (by omega), flat_get (f := appCells) (s := 6) (fun _ => rfl) (H.ls l).apps i j hi hj]
    rw [eg]
    have c0 := cell 0 (by omega)
    rw [Nat.add_zero] at c0
    exact ⟨g, rfl, (Array.getElem?_eq_some_iff.1 hgg).1, by rw [c0]; rfl, by rw [cell 1 (by omega)]; rfl, by rw [cell 2 (by omega)]; rfl, by rw [cell 3 (by omega)]; rfl, by rw [cell 4 (by omega)]; rfl, by rw [cell 5 (by omega)]; rfl⟩

/-- what ZZListAppends leaves -/
def AppsRead (w : World) (s : List App) (e : Ending) (w' : World) : Prop :=
  ∃ a0 c0 a1 c1 a2 c2 a3 c3 a4 c4 a5 c5, e = .returned (.tuple #[.slice a0 s.length c0, .slice a1 s.length c1, .slice a2 s.length c2, .slice a3 s.length c3, .slice a4 s.length c4, .slice a5 s.length c5]) ∧
    Row w' a0 s.length (fun i => .string (s.getD i zeroApp).value) ∧ Row w' a1 s.length (fun i => .int .i32 (s.getD i zeroApp).txn) ∧ Row w' a2 s.length (fun i => .int .i32 (s.getD i zeroApp).line) ∧ Row w' a3 s.length (fun i => .int .i32 (s.getD i zeroApp).readLen) ∧ Row w' a4 s.length (fun i => .int .i32 (s.getD i zeroApp).next) ∧ Row w' a5 s.length (fun i => .int .i32 (s.getD i zeroApp).pos) ∧ Below w.heap.size w w'

set_option maxRecDepth 100000 in
set_option maxHeartbeats 4000000 in
theorem zzAppends (B : Nat) (w : World) (hb : Nat) (Y : Lay) (H : Hi) (h : Rep B w hb Y H) (l : Nat) (hl : l < H.n) (hn : H.n = Y.N) (ha : (H.ls l).apps.length ≤ 100000000) :
    Calls Try.prog 27 #[.pointer (some ⟨hb, 0, none⟩), .int .i64 l] w (AppsRead w (H.ls l).apps) := by
  obtain ⟨c1, c2, _, hlt⟩ := h.head
  obtain ⟨_, p3, _, _, _⟩ := h.list hl
  obtain ⟨aa, ac, hav, hcells⟩ := h.appsAt hl
  rw [hav] at p3
  rw [hn] at hl
  have HF := Hid.mk hcells
  clear hcells hav h c1 hn
  generalize (H.ls l).apps = s at *
  generalize hnr : s.length = n at *
  have HNR := Hid.mk hnr
  clear hnr
  have hmk := run_make_row' (P := Try.prog) 48 21 (.int .i32 0) 4 Try.underlying48 Try.info21 rfl .i64 .i64 n (by omega) (by omega)
  have hmk2 := run_make_row' (P := Try.prog) 23 9 (.string ByteArray.empty) 16 Try.underlying23 Try.info9 rfl .i64 .i64 n (by omega) (by omega)
  go_enter Try.func27, Try.ntmps27
  go_wp2
  clear hmk hmk2
  go_loopw [40] (fun i wr => ∃ k : Nat, k ≤ n ∧ i = .int .i64 k ∧ Filled wr (w.heap.size) 9 n k (fun i => .string (s.getD i zeroApp).value) ∧ Filled wr (w.heap.size + 1) 21 n k (fun i => .int .i32 (s.getD i zeroApp).txn) ∧ Filled wr (w.heap.size + 1 + 1) 21 n k (fun i => .int .i32 (s.getD i zeroApp).line) ∧ Filled wr (w.heap.size + 1 + 1 + 1) 21 n k (fun i => .int .i32 (s.getD i zeroApp).readLen) ∧ Filled wr (w.heap.size + 1 + 1 + 1 + 1) 21 n k (fun i => .int .i32 (s.getD i zeroApp).next) ∧ Filled wr (w.heap.size + 1 + 1 + 1 + 1 + 1) 21 n k (fun i => .int .i32 (s.getD i zeroApp).pos) ∧ Below w.heap.size w wr) (fun i _ => n - (intOf i).toNat)
  case atStart => exact ⟨0, by omega, rfl, ((((((Filled.made _ _ n 9 _ (by simp)).alloc _).alloc _).alloc _).alloc _).alloc _), (((((Filled.made _ _ n 21 _ (by simp)).alloc _).alloc _).alloc _).alloc _), ((((Filled.made _ _ n 21 _ (by simp)).alloc _).alloc _).alloc _), (((Filled.made _ _ n 21 _ (by simp)).alloc _).alloc _), ((Filled.made _ _ n 21 _ (by simp)).alloc _), (Filled.made _ _ n 21 _ (by simp)), ((((((Below.refl _ _).alloc (Nat.le_refl _) _).alloc (by simp) _).alloc (by simp; omega) _).alloc (by simp; omega) _).alloc (by simp; omega) _).alloc (by simp; omega) _⟩
  case round =>
    obtain ⟨k, hk, rfl, F0, F1, F2, F3, F4, F5, hbel⟩ := hrel
    by_cases hkn : k < n
    · obtain ⟨ag, rfl, hag, t0, t1, t2, t3, t4, t5⟩ := HF.out k hkn
      have s0 := (hbel.cell (p := ⟨ag, k * 6 + 1, none⟩) hag).trans t1
      obtain ⟨u0, y0⟩ := F0.cell hkn
      have x0 := F0.frozen
      replace F0 := F0.step
      replace F1 := F1.other (a := ⟨w.heap.size, k, none⟩) (by show _ ≠ _; simp only; omega) (.string (s.getD k zeroApp).value)
      replace F2 := F2.other (a := ⟨w.heap.size, k, none⟩) (by show _ ≠ _; simp only; omega) (.string (s.getD k zeroApp).value)
      replace F3 := F3.other (a := ⟨w.heap.size, k, none⟩) (by show _ ≠ _; simp only; omega) (.string (s.getD k zeroApp).value)
      replace F4 := F4.other (a := ⟨w.heap.size, k, none⟩) (by show _ ≠ _; simp only; omega) (.string (s.getD k zeroApp).value)
      replace F5 := F5.other (a := ⟨w.heap.size, k, none⟩) (by show _ ≠ _; simp only; omega) (.string (s.getD k zeroApp).value)
      replace hbel := hbel.setCell (p := ⟨w.heap.size, k, none⟩) (by show _ ≤ _; simp only; omega) (.string (s.getD k zeroApp).value)
      have G0 := Hid.mk F0
      have G1 := Hid.mk F1
      have G2 := Hid.mk F2
      have G3 := Hid.mk F3
      have G4 := Hid.mk F4
      have G5 := Hid.mk F5
      have GB := Hid.mk hbel
      clear F0 F1 F2 F3 F4 F5 hbel
      generalize ew : (s.getD k zeroApp).value = z0 at s0 G0 G1 G2 G3 G4 G5 GB
      have HZ0 := Hid.mk ew
      clear ew
      go_upto_region 12 with fail
      generalize wr.setCell ⟨w.heap.size, k, none⟩ (.string z0) = w1 at *
      have F0 := G0.out
      have F1 := G1.out
      have F2 := G2.out
      have F3 := G3.out
      have F4 := G4.out
      have F5 := G5.out
      have hbel := GB.out
      clear G0 G1 G2 G3 G4 G5 GB s0 y0 x0
      have s1 := (hbel.cell (p := ⟨ag, k * 6, none⟩) hag).trans t0
      obtain ⟨u1, y1⟩ := F1.cell hkn
      have x1 := F1.frozen
      replace F0 := F0.other (a := ⟨w.heap.size + 1, k, none⟩) (by show _ ≠ _; simp only; omega) (.int .i32 (s.getD k zeroApp).txn)
      replace F1 := F1.step
      replace F2 := F2.other (a := ⟨w.heap.size + 1, k, none⟩) (by show _ ≠ _; simp only; omega) (.int .i32 (s.getD k zeroApp).txn)
      replace F3 := F3.other (a := ⟨w.heap.size + 1, k, none⟩) (by show _ ≠ _; simp only; omega) (.int .i32 (s.getD k zeroApp).txn)
      replace F4 := F4.other (a := ⟨w.heap.size + 1, k, none⟩) (by show _ ≠ _; simp only; omega) (.int .i32 (s.getD k zeroApp).txn)
      replace F5 := F5.other (a := ⟨w.heap.size + 1, k, none⟩) (by show _ ≠ _; simp only; omega) (.int .i32 (s.getD k zeroApp).txn)
      replace hbel := hbel.setCell (p := ⟨w.heap.size + 1, k, none⟩) (by show _ ≤ _; simp only; omega) (.int .i32 (s.getD k zeroApp).txn)
      have G0 := Hid.mk F0
      have G1 := Hid.mk F1
      have G2 := Hid.mk F2
      have G3 := Hid.mk F3
      have G4 := Hid.mk F4
      have G5 := Hid.mk F5
      have GB := Hid.mk hbel
      clear F0 F1 F2 F3 F4 F5 hbel
      generalize ew : (s.getD k zeroApp).txn = z1 at s1 G0 G1 G2 G3 G4 G5 GB
      have HZ1 := Hid.mk ew
      clear ew
      go_upto_region 13 with fail
      generalize w1.setCell ⟨w.heap.size + 1, k, none⟩ (.int .i32 z1) = w2 at *
      have F0 := G0.out
      have F1 := G1.out
      have F2 := G2.out
      have F3 := G3.out
      have F4 := G4.out
      have F5 := G5.out
      have hbel := GB.out
      clear G0 G1 G2 G3 G4 G5 GB s1 y1 x1
      have s2 := (hbel.cell (p := ⟨ag, k * 6 + 2, none⟩) hag).trans t2
      obtain ⟨u2, y2⟩ := F2.cell hkn
      have x2 := F2.frozen
      replace F0 := F0.other (a := ⟨w.heap.size + 1 + 1, k, none⟩) (by show _ ≠ _; simp only; omega) (.int .i32 (s.getD k zeroApp).line)
      replace F1 := F1.other (a := ⟨w.heap.size + 1 + 1, k, none⟩) (by show _ ≠ _; simp only; omega) (.int .i32 (s.getD k zeroApp).line)
      replace F2 := F2.step
      replace F3 := F3.other (a := ⟨w.heap.size + 1 + 1, k, none⟩) (by show _ ≠ _; simp only; omega) (.int .i32 (s.getD k zeroApp).line)
      replace F4 := F4.other (a := ⟨w.heap.size + 1 + 1, k, none⟩) (by show _ ≠ _; simp only; omega) (.int .i32 (s.getD k zeroApp).line)
      replace F5 := F5.other (a := ⟨w.heap.size + 1 + 1, k, none⟩) (by show _ ≠ _; simp only; omega) (.int .i32 (s.getD k zeroApp).line)
      replace hbel := hbel.setCell (p := ⟨w.heap.size + 1 + 1, k, none⟩) (by show _ ≤ _; simp only; omega) (.int .i32 (s.getD k zeroApp).line)
      have G0 := Hid.mk F0
      have G1 := Hid.mk F1
      have G2 := Hid.mk F2
      have G3 := Hid.mk F3
      have G4 := Hid.mk F4
      have G5 := Hid.mk F5
      have GB := Hid.mk hbel
      clear F0 F1 F2 F3 F4 F5 hbel
      generalize ew : (s.getD k zeroApp).line = z2 at s2 G0 G1 G2 G3 G4 G5 GB
      have HZ2 := Hid.mk ew
      clear ew
      go_upto_region 14 with fail
      generalize w2.setCell ⟨w.heap.size + 1 + 1, k, none⟩ (.int .i32 z2) = w3 at *
      have F0 := G0.out
      have F1 := G1.out
      have F2 := G2.out
      have F3 := G3.out
      have F4 := G4.out
      have F5 := G5.out
      have hbel := GB.out
      clear G0 G1 G2 G3 G4 G5 GB s2 y2 x2
      have s3 := (hbel.cell (p := ⟨ag, k * 6 + 3, none⟩) hag).trans t3
      obtain ⟨u3, y3⟩ := F3.cell hkn
      have x3 := F3.frozen
      replace F0 := F0.other (a := ⟨w.heap.size + 1 + 1 + 1, k, none⟩) (by show _ ≠ _; simp only; omega) (.int .i32 (s.getD k zeroApp).readLen)
      replace F1 := F1.other (a := ⟨w.heap.size + 1 + 1 + 1, k, none⟩) (by show _ ≠ _; simp only; omega) (.int .i32 (s.getD k zeroApp).readLen)
      replace F2 := F2.other (a := ⟨w.heap.size + 1 + 1 + 1, k, none⟩) (by show _ ≠ _; simp only; omega) (.int .i32 (s.getD k zeroApp).readLen)
      replace F3 := F3.step
      replace F4 := F4.other (a := ⟨w.heap.size + 1 + 1 + 1, k, none⟩) (by show _ ≠ _; simp only; omega) (.int .i32 (s.getD k zeroApp).readLen)
      replace F5 := F5.other (a := ⟨w.heap.size + 1 + 1 + 1, k, none⟩) (by show _ ≠ _; simp only; omega) (.int .i32 (s.getD k zeroApp).readLen)
      replace hbel := hbel.setCell (p := ⟨w.heap.size + 1 + 1 + 1, k, none⟩) (by show _ ≤ _; simp only; omega) (.int .i32 (s.getD k zeroApp).readLen)
      have G0 := Hid.mk F0
      have G1 := Hid.mk F1
      have G2 := Hid.mk F2
      have G3 := Hid.mk F3
      have G4 := Hid.mk F4
      have G5 := Hid.mk F5
      have GB := Hid.mk hbel
      clear F0 F1 F2 F3 F4 F5 hbel
      generalize ew : (s.getD k zeroApp).readLen = z3 at s3 G0 G1 G2 G3 G4 G5 GB
      have HZ3 := Hid.mk ew
      clear ew
      go_upto_region 15 with fail
      generalize w3.setCell ⟨w.heap.size + 1 + 1 + 1, k, none⟩ (.int .i32 z3) = w4 at *
      have F0 := G0.out
      have F1 := G1.out
      have F2 := G2.out
      have F3 := G3.out
      have F4 := G4.out
      have F5 := G5.out
      have hbel := GB.out
      clear G0 G1 G2 G3 G4 G5 GB s3 y3 x3
      have s4 := (hbel.cell (p := ⟨ag, k * 6 + 4, none⟩) hag).trans t4
      obtain ⟨u4, y4⟩ := F4.cell hkn
      have x4 := F4.frozen
      replace F0 := F0.other (a := ⟨w.heap.size + 1 + 1 + 1 + 1, k, none⟩) (by show _ ≠ _; simp only; omega) (.int .i32 (s.getD k zeroApp).next)
      replace F1 := F1.other (a := ⟨w.heap.size + 1 + 1 + 1 + 1, k, none⟩) (by show _ ≠ _; simp only; omega) (.int .i32 (s.getD k zeroApp).next)
      replace F2 := F2.other (a := ⟨w.heap.size + 1 + 1 + 1 + 1, k, none⟩) (by show _ ≠ _; simp only; omega) (.int .i32 (s.getD k zeroApp).next)
      replace F3 := F3.other (a := ⟨w.heap.size + 1 + 1 + 1 + 1, k, none⟩) (by show _ ≠ _; simp only; omega) (.int .i32 (s.getD k zeroApp).next)
      replace F4 := F4.step
      replace F5 := F5.other (a := ⟨w.heap.size + 1 + 1 + 1 + 1, k, none⟩) (by show _ ≠ _; simp only; omega) (.int .i32 (s.getD k zeroApp).next)
      replace hbel := hbel.setCell (p := ⟨w.heap.size + 1 + 1 + 1 + 1, k, none⟩) (by show _ ≤ _; simp only; omega) (.int .i32 (s.getD k zeroApp).next)
      have G0 := Hid.mk F0
      have G1 := Hid.mk F1
      have G2 := Hid.mk F2
      have G3 := Hid.mk F3
      have G4 := Hid.mk F4
      have G5 := Hid.mk F5
      have GB := Hid.mk hbel
      clear F0 F1 F2 F3 F4 F5 hbel
      generalize ew : (s.getD k zeroApp).next = z4 at s4 G0 G1 G2 G3 G4 G5 GB
      have HZ4 := Hid.mk ew
      clear ew
      go_upto_region 16 with fail
      generalize w4.setCell ⟨w.heap.size + 1 + 1 + 1 + 1, k, none⟩ (.int .i32 z4) = w5 at *
      have F0 := G0.out
      have F1 := G1.out
      have F2 := G2.out
      have F3 := G3.out
      have F4 := G4.out
      have F5 := G5.out
      have hbel := GB.out
      clear G0 G1 G2 G3 G4 G5 GB s4 y4 x4
      have s5 := (hbel.cell (p := ⟨ag, k * 6 + 5, none⟩) hag).trans t5
      obtain ⟨u5, y5⟩ := F5.cell hkn
      have x5 := F5.frozen
      replace F0 := F0.other (a := ⟨w.heap.size + 1 + 1 + 1 + 1 + 1, k, none⟩) (by show _ ≠ _; simp only; omega) (.int .i32 (s.getD k zeroApp).pos)
      replace F1 := F1.other (a := ⟨w.heap.size + 1 + 1 + 1 + 1 + 1, k, none⟩) (by show _ ≠ _; simp only; omega) (.int .i32 (s.getD k zeroApp).pos)
      replace F2 := F2.other (a := ⟨w.heap.size + 1 + 1 + 1 + 1 + 1, k, none⟩) (by show _ ≠ _; simp only; omega) (.int .i32 (s.getD k zeroApp).pos)
      replace F3 := F3.other (a := ⟨w.heap.size + 1 + 1 + 1 + 1 + 1, k, none⟩) (by show _ ≠ _; simp only; omega) (.int .i32 (s.getD k zeroApp).pos)
      replace F4 := F4.other (a := ⟨w.heap.size + 1 + 1 + 1 + 1 + 1, k, none⟩) (by show _ ≠ _; simp only; omega) (.int .i32 (s.getD k zeroApp).pos)
      replace F5 := F5.step
      replace hbel := hbel.setCell (p := ⟨w.heap.size + 1 + 1 + 1 + 1 + 1, k, none⟩) (by show _ ≤ _; simp only; omega) (.int .i32 (s.getD k zeroApp).pos)
      have G0 := Hid.mk F0
      have G1 := Hid.mk F1
      have G2 := Hid.mk F2
      have G3 := Hid.mk F3
      have G4 := Hid.mk F4
      have G5 := Hid.mk F5
      have GB := Hid.mk hbel
      clear F0 F1 F2 F3 F4 F5 hbel
      generalize ew : (s.getD k zeroApp).pos = z5 at s5 G0 G1 G2 G3 G4 G5 GB
      have HZ5 := Hid.mk ew
      clear ew
      go_wp2
      go_roundw
      case rel => exact ⟨k + 1, by omega, by go_num, G0.out, G1.out, G2.out, G3.out, G4.out, G5.out, GB.out⟩
      case measure => simp [intOf]; omega
    · have e : k = n := by omega
      subst e
      have G0 := Hid.mk F0
      have G1 := Hid.mk F1
      have G2 := Hid.mk F2
      have G3 := Hid.mk F3
      have G4 := Hid.mk F4
      have G5 := Hid.mk F5
      have GB := Hid.mk hbel
      clear F0 F1 F2 F3 F4 F5 hbel
      go_wp2
      refine bodyPost_ret (v := .tuple #[.slice (some ⟨w.heap.size, 0, none⟩) k k, .slice (some ⟨w.heap.size + 1, 0, none⟩) k k, .slice (some ⟨w.heap.size + 1 + 1, 0, none⟩) k k, .slice (some ⟨w.heap.size + 1 + 1 + 1, 0, none⟩) k k, .slice (some ⟨w.heap.size + 1 + 1 + 1 + 1, 0, none⟩) k k, .slice (some ⟨w.heap.size + 1 + 1 + 1 + 1 + 1, 0, none⟩) k k]) (by simp [results, Try.results27, go_sem]) rfl ?_
      refine ⟨_, _, _, _, _, _, _, _, _, _, _, _, by rw [HNR.out], ?_, ?_, ?_, ?_, ?_, ?_, GB.out⟩
      · rw [HNR.out]; exact G0.out.row
      · rw [HNR.out]; exact G1.out.row
      · rw [HNR.out]; exact G2.out.row
      · rw [HNR.out]; exact G3.out.row
      · rw [HNR.out]; exact G4.out.row
      · rw [HNR.out]; exact G5.out.row
end Go.Proofs.Qxb6602594a
