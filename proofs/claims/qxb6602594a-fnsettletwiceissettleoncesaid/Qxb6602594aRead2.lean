import Derived.Test.Qxb6602594aNewT
namespace Go.Proofs.Qxb6602594a
open Go.RowKit Go.Maps

/-- block b is a row of n cells whose first k hold f -/
def Filled (w : World) (b : Nat) (t : TypeId) (n k : Nat) (f : Nat → Value) : Prop := ∃ g, w.rowIs b t n g ∧ ∀ i, i < k → g i = f i

theorem Filled.cell {w : World} {b : Nat} {t : TypeId} {n k : Nat} {f : Nat → Value} (h : Filled w b t n k f) (hk : k < n) : ∃ u, w.cell? ⟨b, k, none⟩ = some u := by
  obtain ⟨g, h1, _⟩ := h
  exact ⟨_, h1.cell hk⟩
theorem Filled.frozen {w : World} {b : Nat} {t : TypeId} {n k : Nat} {f : Nat → Value} (h : Filled w b t n k f) : w.frozen? ⟨b, k, none⟩ = false := by
  obtain ⟨g, h1, _⟩ := h
  exact h1.frozen k
theorem Filled.step {w : World} {b : Nat} {t : TypeId} {n k : Nat} {f : Nat → Value} (h : Filled w b t n k f) : Filled (w.setCell ⟨b, k, none⟩ (f k)) b t n (k + 1) f := by
  obtain ⟨g, h1, h2⟩ := h
  refine ⟨_, h1.set k (f k), fun i hi => ?_⟩
  by_cases e : i = k
  · subst e; simp
  · rw [if_neg e]; exact h2 i (by omega)
theorem Filled.other {w : World} {b : Nat} {t : TypeId} {n k : Nat} {f : Nat → Value} (h : Filled w b t n k f) {a : Addr} (ha : b ≠ a.block) (v : Value) : Filled (w.setCell a v) b t n k f := by
  obtain ⟨g, h1, h2⟩ := h
  exact ⟨g, h1.setOther ha v, h2⟩
theorem Filled.alloc {w : World} {b : Nat} {t : TypeId} {n k : Nat} {f : Nat → Value} (h : Filled w b t n k f) (o : Obj) : Filled (w.alloc o) b t n k f := by
  obtain ⟨g, h1, h2⟩ := h
  exact ⟨g, h1.alloc o, h2⟩
theorem Filled.made (w : World) (z : Value) (n : Nat) (t : TypeId) (f : Nat → Value) {b : Nat} (hb : b = w.heap.size) : Filled (w.alloc (.cells (madeCells #[z] n) t)) b t n 0 f := by
  subst hb
  exact ⟨_, World.rowIs_made w z n t, fun i hi => by omega⟩
theorem Filled.row {w : World} {b : Nat} {t : TypeId} {n : Nat} {f : Nat → Value} (h : Filled w b t n n f) : Row w (some ⟨b, 0, none⟩) n f := by
  obtain ⟨g, h1, h2⟩ := h
  exact (Row.of_rowIs h1 h2).row
theorem Filled.lt {w : World} {b : Nat} {t : TypeId} {n k : Nat} {f : Nat → Value} (h : Filled w b t n k f) : b < w.heap.size := by
  obtain ⟨g, h1, _⟩ := h
  exact h1.lt
theorem Filled.drewN {w : World} {b : Nat} {t : TypeId} {n k : Nat} {f : Nat → Value} (h : Filled w b t n k f) (m : Nat) : Filled (w.drewN m) b t n k f := by
  obtain ⟨g, h1, h2⟩ := h
  refine ⟨g, h1.of_block ?_, h2⟩
  simp [World.drewN]

theorem Rep.tx {B : Nat} {w : World} {hb : Nat} {Y : Lay} {H : Hi} (h : Rep B w hb Y H) {x : Nat} (hx : x < H.txs.length) :
    ∃ g cap ra rc, Y.tv = .slice (some ⟨g, 0, none⟩) H.txs.length cap ∧ g < w.heap.size ∧ w.cell? ⟨g, x * 10, none⟩ = some (.int .i32 H.txs[x].file) ∧ w.cell? ⟨g, x * 10 + 4, none⟩ = some (.int .u8 H.txs[x].outcome) ∧ w.cell? ⟨g, x * 10 + 6, none⟩ = some (.slice ra H.txs[x].refs.length rc) ∧
      ∀ i (hi : i < H.txs[x].refs.length), ∃ rg, ra = some ⟨rg, 0, none⟩ ∧ rg < w.heap.size ∧ w.cell? ⟨rg, i * 2, none⟩ = some (.int .i32 (H.txs[x].refs[i]).1) ∧ w.cell? ⟨rg, i * 2 + 1, none⟩ = some (.int .i32 (H.txs[x].refs[i]).2) := by
  obtain ⟨tr, e, T⟩ := h.txs
  have hl : tr.length = H.txs.length := by rw [← e]; simp
  have hx' : x < tr.length := by omega
  have ex : H.txs[x] = tr[x].1 := by
    have : H.txs[x]? = some tr[x].1 := by rw [← e]; simp [hx']
    rw [List.getElem?_eq_getElem hx] at this
    exact Option.some.inj this
  obtain ⟨g, cap, cur, hv, hBg, hgg⟩ : ∃ g cap cur, Y.tv = .slice (some ⟨g, 0, none⟩) tr.length cap ∧ B ≤ g ∧ w.heap[g]? = some (.cells cur 81 (0, 0)) := by
    rcases T.row.2 with ⟨_, h0⟩ | ⟨g, cap, cur, hv, hBg, hgg, _⟩
    · omega
    · exact ⟨g, cap, cur, hv, hBg, hgg⟩
  have row := T.row
  rw [hv] at row
  have cell : ∀ j, j < 10 → w.cell? ⟨g, x * 10 + j, none⟩ = (txCells tr[x])[j]? := fun j hj => by
    rw [row.cellAt (x * 10 + j) (by omega), flat_get (f := txCells) (s := 10) (fun _ => rfl) tr x j hx' hj]
  have rr := T.refs tr[x] (List.getElem_mem hx')
  obtain ⟨ra, rc, hrv⟩ := ownsRow_shape rr
  refine ⟨g, cap, ra, rc, by rw [hv, hl], (Array.getElem?_eq_some_iff.1 hgg).1, ?_, ?_, ?_, ?_⟩
  · have := cell 0 (by omega); rw [Nat.add_zero] at this; rw [this, ex]; rfl
  · rw [cell 4 (by omega), ex]; rfl
  · rw [cell 6 (by omega), ex]; simp [txCells, hrv]
  · rw [ex]
    intro i hi
    rcases rr.2 with ⟨_, h0⟩ | ⟨rg, rcap, rcur, hrv', _, hrg, _⟩
    · omega
    · rw [hrv] at hrv'
      simp only [Value.slice.injEq] at hrv'
      obtain ⟨rfl, _, rfl⟩ := hrv'
      rw [hrv] at rr
      refine ⟨rg, rfl, (Array.getElem?_eq_some_iff.1 hrg).1, ?_, ?_⟩
      · have := rr.cellAt (i * 2) (by omega)
        rw [this]
        have := flat_get (f := refCells) (s := 2) (fun _ => rfl) tr[x].1.refs i 0 hi (by omega)
        rw [Nat.add_zero] at this
        rw [this]; rfl
      · rw [rr.cellAt (i * 2 + 1) (by omega), flat_get (f := refCells) (s := 2) (fun _ => rfl) tr[x].1.refs i 1 hi (by omega)]; rfl

/-- what ZZTxn leaves -/
def TxRead (w : World) (t : Tx) (e : Ending) (w' : World) : Prop :=
  ∃ a1 c1 a2 c2, e = .returned (.tuple #[.int .u8 t.outcome, .int .i32 t.file, .slice a1 t.refs.length c1, .slice a2 t.refs.length c2]) ∧
    Row w' a1 t.refs.length (fun i => .int .i32 (t.refs.getD i (0, 0)).1) ∧ Row w' a2 t.refs.length (fun i => .int .i32 (t.refs.getD i (0, 0)).2) ∧ Below w.heap.size w w'

set_option maxHeartbeats 2000000 in
theorem zzTxn (B : Nat) (w : World) (hb : Nat) (Y : Lay) (H : Hi) (h : Rep B w hb Y H) (x : Nat) (hx : x < H.txs.length) (hr : H.txs[x].refs.length ≤ 1048576) :
    Calls Try.prog 24 #[.pointer (some ⟨hb, 0, none⟩), .int .i64 x] w (TxRead w H.txs[x]) := by
  obtain ⟨c1, c2, _, hlt⟩ := h.head
  obtain ⟨g, cap, ra, rc, htv, hglt, q0, q4, q6, hrefs⟩ := h.tx hx
  rw [htv] at c1
  have HF : Hid (∀ i, i < H.txs[x].refs.length → ∃ rg, ra = some ⟨rg, 0, none⟩ ∧ rg < w.heap.size ∧ w.cell? ⟨rg, i * 2, none⟩ = some (.int .i32 (H.txs[x].refs.getD i (0, 0)).1) ∧ w.cell? ⟨rg, i * 2 + 1, none⟩ = some (.int .i32 (H.txs[x].refs.getD i (0, 0)).2)) := by
    intro i hi
    obtain ⟨rg, a, b, c, d⟩ := hrefs i hi
    exact ⟨rg, a, b, by rw [c]; simp [hi], by rw [d]; simp [hi]⟩
  clear hrefs htv h c2
  generalize H.txs[x] = t at *
  generalize H.txs.length = nT at *
  generalize hnr : t.refs.length = n at *
  have HNR := Hid.mk hnr
  clear hnr
  have hmk := run_make_row' (P := Try.prog) 48 21 (.int .i32 0) 4 Try.underlying48 Try.info21 rfl .i64 .i64 n (by omega) (by omega)
  have hq6 : ∀ o, (w.alloc o).cell? ⟨g, x * 10 + 6, none⟩ = some (.slice ra n rc) := fun o => (World.cell?_of_block (w := w) (Below.heap_alloc w o g hglt)).trans q6
  go_enter Try.func24, Try.ntmps24
  go_wp2
  clear hmk hq6
  go_loopw [33] (fun i wr => ∃ k : Nat, k ≤ n ∧ i = .int .i64 k ∧ Filled wr w.heap.size 21 n k (fun i => .int .i32 (t.refs.getD i (0, 0)).1) ∧ Filled wr (w.heap.size + 1) 21 n k (fun i => .int .i32 (t.refs.getD i (0, 0)).2) ∧ Below w.heap.size w wr) (fun i _ => n - (intOf i).toNat)
  case atStart => exact ⟨0, by omega, rfl, (Filled.made w _ n 21 _ rfl).alloc _, Filled.made _ _ n 21 _ (by simp), ((Below.refl _ _).alloc (Nat.le_refl _) _).alloc (by simp) _⟩
  case round =>
    obtain ⟨k, hk, rfl, F1, F2, hbel⟩ := hrel
    by_cases hkn : k < n
    · obtain ⟨rg, rfl, hrg, t1, t2⟩ := HF.out k hkn
      have s6 := (hbel.cell (p := ⟨g, x * 10 + 6, none⟩) hglt).trans q6
      have s1 := (hbel.cell (p := ⟨rg, k * 2, none⟩) hrg).trans t1
      obtain ⟨u1, y1⟩ := F1.cell hkn
      have y2 := F1.frozen
      have N1 := F1.step
      have N2 := F2.other (a := ⟨w.heap.size, k, none⟩) (by simp) (.int .i32 (t.refs.getD k (0, 0)).1)
      have NB := hbel.setCell (p := ⟨w.heap.size, k, none⟩) (Nat.le_refl _) (.int .i32 (t.refs.getD k (0, 0)).1)
      have HN1 := Hid.mk N1
      have HN2 := Hid.mk N2
      have HNB := Hid.mk NB
      clear F1 F2 hbel N1 N2 NB
      generalize ew : (t.refs.getD k (0, 0)).1 = z1 at *
      have HZ1 := Hid.mk ew
      clear ew
      go_upto_region 8 with fail
      generalize wr.setCell ⟨w.heap.size, k, none⟩ (.int .i32 z1) = w1 at *
      have s6' := (HNB.out.cell (p := ⟨g, x * 10 + 6, none⟩) hglt).trans q6
      have s2 := (HNB.out.cell (p := ⟨rg, k * 2 + 1, none⟩) hrg).trans t2
      obtain ⟨u2, y3⟩ := HN2.out.cell hkn
      have y4 := HN2.out.frozen
      have M1 := HN1.out.other (a := ⟨w.heap.size + 1, k, none⟩) (by simp) (.int .i32 (t.refs.getD k (0, 0)).2)
      have M2 := HN2.out.step
      have MB := HNB.out.setCell (p := ⟨w.heap.size + 1, k, none⟩) (by simp) (.int .i32 (t.refs.getD k (0, 0)).2)
      have HM1 := Hid.mk M1
      have HM2 := Hid.mk M2
      have HMB := Hid.mk MB
      clear M1 M2 MB HN1 HN2 HNB s6 s1 y1 y2 t1 t2
      generalize ew : (t.refs.getD k (0, 0)).2 = z2 at *
      have HZ2 := Hid.mk ew
      clear ew
      go_wp2
      go_roundw
      case rel => exact ⟨k + 1, by omega, by go_num, HM1.out, HM2.out, HMB.out⟩
      case measure => simp [intOf]; omega
    · have e : k = n := by omega
      subst e
      have s0 := (hbel.cell (p := ⟨g, x * 10, none⟩) hglt).trans q0
      have s4 := (hbel.cell (p := ⟨g, x * 10 + 4, none⟩) hglt).trans q4
      have H1 := Hid.mk F1
      have H2 := Hid.mk F2
      have H3 := Hid.mk hbel
      clear F1 F2 hbel q0 q4
      go_wp2
      go_quiet (fail)
      go_wp2
      refine bodyPost_ret (v := .tuple #[.int .u8 t.outcome, .int .i32 t.file, .slice (some ⟨w.heap.size, 0, none⟩) k k, .slice (some ⟨w.heap.size + 1, 0, none⟩) k k]) (by simp [results, Try.results24, go_sem]) rfl ?_
      refine ⟨_, _, _, _, by rw [HNR.out], ?_, ?_, ?_⟩
      · rw [HNR.out]; exact (H1.out.drewN _).row
      · rw [HNR.out]; exact (H2.out.drewN _).row
      · exact below_drewN H3.out _
end Go.Proofs.Qxb6602594a
