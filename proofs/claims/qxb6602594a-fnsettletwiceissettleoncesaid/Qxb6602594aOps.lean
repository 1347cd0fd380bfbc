import Derived.Test.Qxb6602594aAdd
namespace Go.Proofs.Qxb6602594a
open Go.RowKit Go.Maps

theorem grownBy_setCell (w : World) (a : Addr) (u : Value) : w.grownBy (w.setCell a u) (some a.block) :=
  ⟨rfl, rfl, rfl, by simp [World.setCell], fun k _ hk => Below.heap_setCell w a u k (fun e => hk (by rw [e]))⟩

theorem kind_kept {w w' : World} {r : Option Nat} {b : Nat} {t : Option TypeId} (h : kind w b = some t) (hg : w.grownBy w' r) (hne : some b ≠ r) : kind w' b = some t := by
  have hlt : b < w.heap.size := by
    unfold kind at h
    by_cases hb : b < w.heap.size
    · exact hb
    · rw [Array.getElem?_eq_none (by omega)] at h; cases h
  unfold kind at h ⊢
  rw [hg.block b hlt hne]
  exact h

theorem below_of_grown {B : Nat} {w w' : World} {r : Option Nat} (hg : w.grownBy w' r) (hB : B ≤ w.heap.size) (hr : ∀ k, r = some k → B ≤ k) : Below B w w' :=
  (Below.refl B w).grown hg hB hr

/-- a transaction without appends has been added -/
theorem Rep.added {B : Nat} {w w1 : World} {hb : Nat} {Y : Lay} {H : Hi} (h : Rep B w hb Y H) {tr : List (Tx × Value)} (e : tr.map Prod.fst = H.txs) (T : TxOk B w Y.tv tr) {v' : Value} {f o : Int}
    (hown : w1.ownsRow B 81 10 v' (tr.length + 1) (tr.flatMap txCells ++ txCells (⟨f, o, []⟩, .slice none 0 0))) (hg : w.grownBy w1 Y.tv.ownBlock) (hne : some hb ≠ Y.tv.ownBlock) :
    Rep B (w1.setCell ⟨hb, 1, none⟩ v') hb { Y with tv := v' } { H with txs := H.txs ++ [⟨f, o, []⟩] } := by
  obtain ⟨fh, h1, h2, h3⟩ := h.hist
  obtain ⟨g, g1, g2⟩ := h.lists
  have k0 : ∀ b, Y.tv.ownBlock = some b → kind w b = some (some 81) := fun b hb' => kind_ownsRow T.row hb'
  have h1' := rowIs_kept h1 hg hne
  have g1' := rowIs_kept' g1 hg (fun b hb' => by rw [k0 b hb']; simp)
  have k1 := kind_rowIs h1'
  have G := grownBy_setCell w1 ⟨hb, 1, none⟩ v'
  refine ⟨h.hB, h.lB, ⟨_, h1'.set 1 v', by simp, by simpa using h3⟩, ⟨tr ++ [(⟨f, o, []⟩, .slice none 0 0)], by simp [e], ?_, ?_⟩, ⟨g, rowIs_kept' g1' G (fun b hb' => by cases hb'; rw [k1]; simp), g2⟩, ?_, h.apart, h.hn⟩
  · rw [List.flatMap_append, List.flatMap_singleton, List.length_append]
    exact ownsRow_kept hown G (fun b hb' => by cases hb'; rw [k1]; simp)
  · intro p hp
    rw [List.mem_append, List.mem_singleton] at hp
    rcases hp with hp | rfl
    · exact ownsRow_kept (ownsRow_kept (T.refs p hp) hg (fun b hb' => by rw [k0 b hb']; simp)) G (fun b hb' => by cases hb'; rw [k1]; simp)
    · exact World.ownsRow_nil _ _ _ _
  · intro l hl
    have L := ((h.each l hl).kept hg (fun b hb' => by rw [k0 b hb']; simp)).kept G (fun b hb' => by cases hb'; rw [k1]; simp)
    exact ⟨L.ord, L.apps, L.idx, L.mB⟩

/-- the last transaction's appends are set -/
theorem Rep.setRefs {B : Nat} {w : World} {hb : Nat} {Y : Lay} {H : Hi} (h : Rep B w hb Y H) (hBw : B ≤ w.heap.size) {x : Nat} (hx : x < H.txs.length) (p : Int × Int) :
    ∃ g cap, Y.tv = .slice (some ⟨g, 0, none⟩) H.txs.length cap ∧ B ≤ g ∧ g < w.heap.size ∧ kind w g = some (some 81) ∧ w.frozen? ⟨g, x * 10 + 6, none⟩ = false ∧ (∃ u, w.cell? ⟨g, x * 10 + 6, none⟩ = some u) ∧
    Rep B ((w.alloc (.cells (refCells p).toArray 93)).setCell ⟨g, x * 10 + 6, none⟩ (.slice (some ⟨w.heap.size, 0, none⟩) 1 1)) hb Y
      { H with txs := H.txs.set x { H.txs[x] with refs := [p] } } := by
  obtain ⟨fh, h1, h2, h3⟩ := h.hist
  obtain ⟨gl, g1, g2⟩ := h.lists
  obtain ⟨tr, e, T⟩ := h.txs
  have hl : tr.length = H.txs.length := by rw [← e]; simp
  have hx' : x < tr.length := by omega
  obtain ⟨g, cap, cur, hv, hBg, hgg⟩ : ∃ g cap cur, Y.tv = .slice (some ⟨g, 0, none⟩) tr.length cap ∧ B ≤ g ∧ w.heap[g]? = some (.cells cur 81 (0, 0)) := by
    rcases T.row.2 with ⟨_, h0⟩ | ⟨g, cap, cur, hv, hBg, hgg, _⟩
    · omega
    · exact ⟨g, cap, cur, hv, hBg, hgg⟩
  have hob : Y.tv.ownBlock = some g := by rw [hv]; rfl
  have k0 : kind w g = some (some 81) := kind_ownsRow T.row hob
  have hglt : g < w.heap.size := (Array.getElem?_eq_some_iff.1 hgg).1
  have row := T.row
  rw [hv] at row
  have hfr := row.frozenAt (x * 10 + 6)
  have hce := row.cellAt (x * 10 + 6) (by omega)
  have hget := flat_get (f := txCells) (s := 10) (fun _ => rfl) tr x 6 hx' (by omega)
  refine ⟨g, cap, by rw [hv, hl], hBg, hglt, k0, hfr, ⟨tr[x].2, by rw [hce, hget]; simp [txCells]⟩, ?_⟩
  have A : w.grownBy (w.alloc (.cells (refCells p).toArray 93)) none := World.grownBy_alloc _ _ _
  have G := grownBy_setCell (w.alloc (.cells (refCells p).toArray 93)) ⟨g, x * 10 + 6, none⟩ (.slice (some ⟨w.heap.size, 0, none⟩) 1 1)
  have k1 : kind (w.alloc (.cells (refCells p).toArray 93)) g = some (some 81) := kind_kept k0 A (by simp)
  have T1 : TxOk B (w.alloc (.cells (refCells p).toArray 93)) Y.tv tr := T.kept A (fun _ e => by cases e)
  have row1 := T1.row
  rw [hv] at row1
  have st := (row1.stored (x * 10 + 6) (.slice (some ⟨w.heap.size, 0, none⟩) 1 1)).1
  rw [flat_set (f := txCells) (s := 10) (fun _ => rfl) tr x 6 hx' (by omega) _ ({ tr[x].1 with refs := [p] }, .slice (some ⟨w.heap.size, 0, none⟩) 1 1) (by simp [txCells])] at st
  refine ⟨h.hB, h.lB, ⟨fh, rowIs_kept' (rowIs_kept' h1 A (fun _ e => by cases e)) G (fun b e => by cases e; rw [k1]; simp), h2, h3⟩, ⟨tr.set x ({ tr[x].1 with refs := [p] }, .slice (some ⟨w.heap.size, 0, none⟩) 1 1), ?_, ?_, ?_⟩,
    ⟨gl, rowIs_kept' (rowIs_kept' g1 A (fun _ e => by cases e)) G (fun b e => by cases e; rw [k1]; simp), g2⟩, ?_, h.apart, h.hn⟩
  · have ex : H.txs[x]? = some tr[x].1 := by rw [← e]; simp [hx']
    rw [List.getElem?_eq_getElem hx] at ex
    rw [List.map_set, e, Option.some.inj ex]
  · rw [hv, List.length_set]; exact st
  · intro q hq
    rcases List.mem_or_eq_of_mem_set hq with hq | rfl
    · exact ownsRow_kept (T1.refs q hq) G (fun b e => by cases e; rw [k1]; simp)
    · have := World.ownsRow_lit (base := B) (e := 93) (size := 2) w (refCells p).toArray 1 hBw (by decide) rfl
      have := ownsRow_kept this G (fun b e => by cases e; rw [k1]; simp)
      simpa using this
  · intro l hl
    exact ((h.each l hl).kept A (fun _ e => by cases e)).kept G (fun b e => by cases e; rw [k1]; simp)

/-- an append has been added to list l -/
theorem Rep.appApp {B : Nat} {w w1 : World} {hb : Nat} {Y : Lay} {H : Hi} (h : Rep B w hb Y H) {l : Nat} (hl : l < H.n) {v' : Value} {a : App}
    (hown : w1.ownsRow B 90 6 v' ((H.ls l).apps.length + 1) ((H.ls l).apps.flatMap appCells ++ appCells a)) (hg : w.grownBy w1 (Y.av l).ownBlock) (hat : v'.ownBlock = (Y.av l).ownBlock ∨ ∃ g, v'.ownBlock = some g ∧ w.heap.size ≤ g) :
    Rep B (w1.setCell ⟨Y.lb, l * 10 + 3, none⟩ v') hb { Y with av := fun i => if i = l then v' else Y.av i }
      { H with ls := fun i => if i = l then { H.ls l with apps := (H.ls l).apps ++ [a] } else H.ls i } := by
  obtain ⟨fh, h1, h2, h3⟩ := h.hist
  obtain ⟨gl, g1, g2⟩ := h.lists
  obtain ⟨tr, e, T⟩ := h.txs
  have k0 : ∀ b, (Y.av l).ownBlock = some b → kind w b = some (some 90) := fun b hb' => kind_ownsRow (h.each l hl).apps hb'
  have h1' := rowIs_kept' h1 hg (fun b hb' => by rw [k0 b hb']; simp)
  have g1' := rowIs_kept' g1 hg (fun b hb' => by rw [k0 b hb']; simp)
  have k1 := kind_rowIs g1'
  have G := grownBy_setCell w1 ⟨Y.lb, l * 10 + 3, none⟩ v'
  refine ⟨h.hB, h.lB, ⟨fh, rowIs_kept' h1' G (fun b hb' => by cases hb'; rw [k1]; simp), h2, h3⟩, ⟨tr, e, (T.kept hg (fun b hb' => by rw [k0 b hb']; simp)).kept G (fun b hb' => by cases hb'; rw [k1]; simp)⟩,
    ⟨_, g1'.set (l * 10 + 3) v', ?_⟩, ?_, ?_, h.hn⟩
  · intro i hi
    obtain ⟨e1, e2, e3⟩ := g2 i hi
    refine ⟨by rw [if_neg (by omega)]; exact e1, ?_, by rw [if_neg (by omega)]; exact e3⟩
    by_cases hil : i = l
    · subst hil; simp
    · rw [if_neg (by omega)]; simp only [if_neg hil]; exact e2
  · intro i hi
    by_cases hil : i = l
    · subst hil
      have L := h.each i hi
      refine ⟨?_, ?_, ?_, L.mB⟩
      · simp only [if_true]
        exact ownsRow_kept (ownsRow_kept L.ord hg (fun b hb' => by rw [k0 b hb']; simp)) G (fun b hb' => by cases hb'; rw [k1]; simp)
      · simp only [if_true, List.flatMap_append, List.flatMap_singleton, List.length_append, List.length_singleton]
        exact ownsRow_kept hown G (fun b hb' => by cases hb'; rw [k1]; simp)
      · simp only [if_true, List.length_append, List.length_singleton]
        exact (ownsMap_kept' (ownsMap_kept' L.idx hg (fun b hb' => by rw [k0 b hb']; simp)) G (fun b hb' => by cases hb'; rw [k1]; simp)).mono (Nat.le_succ _)
    · have L := h.each i hi
      simp only [if_neg hil]
      refine ⟨?_, ?_, ?_, L.mB⟩
      · exact ownsRow_kept (ownsRow_kept L.ord hg (fun b hb' => by rw [k0 b hb']; simp)) G (fun b hb' => by cases hb'; rw [k1]; simp)
      · simp only [if_neg hil]
        refine ownsRow_kept (L.apps.kept hg ?_) G (fun b hb' => by cases hb'; rw [k1]; simp)
        exact (h.apart i l hi hl hil).2
      · exact ownsMap_kept' (ownsMap_kept' L.idx hg (fun b hb' => by rw [k0 b hb']; simp)) G (fun b hb' => by cases hb'; rw [k1]; simp)
  · have new : ∀ i, i < H.n → i ≠ l → v'.ownBlock ≠ (Y.av i).ownBlock ∨ (Y.av i).ownBlock = none := by
      intro i hi hil
      rcases hat with e | ⟨g, e, hg'⟩
      · rw [e]
        rcases (h.apart i l hi hl hil).2 with h0 | h0
        · exact .inr h0
        · exact .inl (fun e' => h0 e'.symm)
      · cases hv : (Y.av i).ownBlock with
        | none => exact .inr rfl
        | some q =>
          refine .inl (fun e' => ?_)
          have := ((h.each i hi).apps.lt q hv).2
          rw [e] at e'
          cases e'
          omega
    intro i j hi hj hij
    refine ⟨(h.apart i j hi hj hij).1, ?_⟩
    by_cases hil : i = l
    · subst hil
      simp only [if_true, if_neg (Ne.symm hij)]
      rcases new j hj (Ne.symm hij) with e | e
      · exact .inr e
      · cases hv : v'.ownBlock with
        | none => exact .inl rfl
        | some q => rw [e]; exact .inr (by simp)
    · by_cases hjl : j = l
      · subst hjl
        simp only [if_true, if_neg hij]
        rcases new i hi hij with e | e
        · exact .inr (fun e' => e e'.symm)
        · exact .inl e
      · simp only [if_neg hil, if_neg hjl]
        exact (h.apart i j hi hj hij).2

/-- the map of list l has been written -/
theorem Rep.idxPut {B : Nat} {w w1 : World} {hb : Nat} {Y : Lay} {H : Hi} (h : Rep B w hb Y H) {l : Nat} (hl : l < H.n) {D : DataW Unit} {k : Nat} (hk : k ≤ (H.ls l).apps.length)
    (hown : w1.ownsMap Try.prog 9 (plainElem Try.prog 21) (Y.mb l) k D) (hg : w.grownBy w1 (some (Y.mb l))) :
    Rep B w1 hb Y { H with ls := fun i => if i = l then { H.ls l with idx := D } else H.ls i } := by
  obtain ⟨fh, h1, h2, h3⟩ := h.hist
  obtain ⟨gl, g1, g2⟩ := h.lists
  obtain ⟨tr, e, T⟩ := h.txs
  have k0 := kind_ownsMap (h.each l hl).idx
  refine ⟨h.hB, h.lB, ⟨fh, rowIs_kept' h1 hg (fun b hb' => by cases hb'; rw [k0]; simp), h2, h3⟩, ⟨tr, e, T.kept hg (fun b hb' => by cases hb'; rw [k0]; simp)⟩,
    ⟨gl, rowIs_kept' g1 hg (fun b hb' => by cases hb'; rw [k0]; simp), g2⟩, ?_, h.apart, h.hn⟩
  intro i hi
  have L := h.each i hi
  by_cases hil : i = l
  · subst hil
    simp only [if_true]
    exact ⟨ownsRow_kept L.ord hg (fun b hb' => by cases hb'; rw [k0]; simp), ownsRow_kept L.apps hg (fun b hb' => by cases hb'; rw [k0]; simp), hown.mono hk, L.mB⟩
  · simp only [if_neg hil]
    exact ⟨ownsRow_kept L.ord hg (fun b hb' => by cases hb'; rw [k0]; simp), ownsRow_kept L.apps hg (fun b hb' => by cases hb'; rw [k0]; simp), L.idx.kept hg (fun e => (h.apart i l hi hl hil).1 (Option.some.inj e)), L.mB⟩

/-- an append's place has been set -/
theorem Rep.setPos {B : Nat} {w : World} {hb : Nat} {Y : Lay} {H : Hi} (h : Rep B w hb Y H) {l : Nat} (hl : l < H.n) {x : Nat} (hx : x < (H.ls l).apps.length) (p : Int) :
    ∃ g cap, Y.av l = .slice (some ⟨g, 0, none⟩) (H.ls l).apps.length cap ∧ B ≤ g ∧ w.frozen? ⟨g, x * 6 + 5, none⟩ = false ∧ (∃ u, w.cell? ⟨g, x * 6 + 5, none⟩ = some u) ∧
    Rep B (w.setCell ⟨g, x * 6 + 5, none⟩ (.int .i32 p)) hb Y
      { H with ls := fun i => if i = l then { H.ls l with apps := (H.ls l).apps.set x { (H.ls l).apps[x] with pos := p } } else H.ls i } := by
  obtain ⟨fh, h1, h2, h3⟩ := h.hist
  obtain ⟨gl, g1, g2⟩ := h.lists
  obtain ⟨tr, e, T⟩ := h.txs
  have L := h.each l hl
  obtain ⟨g, cap, cur, hv, hBg, hgg⟩ : ∃ g cap cur, Y.av l = .slice (some ⟨g, 0, none⟩) (H.ls l).apps.length cap ∧ B ≤ g ∧ w.heap[g]? = some (.cells cur 90 (0, 0)) := by
    rcases L.apps.2 with ⟨_, h0⟩ | ⟨g, cap, cur, hv, hBg, hgg, _⟩
    · omega
    · exact ⟨g, cap, cur, hv, hBg, hgg⟩
  have hob : (Y.av l).ownBlock = some g := by rw [hv]; rfl
  have k0 : kind w g = some (some 90) := kind_ownsRow L.apps hob
  have row := L.apps
  rw [hv] at row
  have hfr := row.frozenAt (x * 6 + 5)
  have hce := row.cellAt (x * 6 + 5) (by omega)
  have hget := flat_get (f := appCells) (s := 6) (fun _ => rfl) (H.ls l).apps x 5 hx (by omega)
  refine ⟨g, cap, hv, hBg, hfr, ⟨.int .i32 (H.ls l).apps[x].pos, by rw [hce, hget]; simp [appCells]⟩, ?_⟩
  have G := grownBy_setCell w ⟨g, x * 6 + 5, none⟩ (.int .i32 p)
  have st := (row.stored (x * 6 + 5) (.int .i32 p)).1
  rw [flat_set (f := appCells) (s := 6) (fun _ => rfl) (H.ls l).apps x 5 hx (by omega) _ { (H.ls l).apps[x] with pos := p } (by simp [appCells])] at st
  refine ⟨h.hB, h.lB, ⟨fh, rowIs_kept' h1 G (fun b hb' => by cases hb'; rw [k0]; simp), h2, h3⟩, ⟨tr, e, T.kept G (fun b hb' => by cases hb'; rw [k0]; simp)⟩,
    ⟨gl, rowIs_kept' g1 G (fun b hb' => by cases hb'; rw [k0]; simp), g2⟩, ?_, h.apart, h.hn⟩
  intro i hi
  have Li := h.each i hi
  by_cases hil : i = l
  · subst hil
    simp only [if_true]
    refine ⟨ownsRow_kept Li.ord G (fun b hb' => by cases hb'; rw [k0]; simp), ?_, ?_, Li.mB⟩
    · rw [hv]; simp only [List.length_set]; exact st
    · simp only [List.length_set]; exact ownsMap_kept' Li.idx G (fun b hb' => by cases hb'; rw [k0]; simp)
  · simp only [if_neg hil]
    refine ⟨ownsRow_kept Li.ord G (fun b hb' => by cases hb'; rw [k0]; simp), Li.apps.kept G ?_, ownsMap_kept' Li.idx G (fun b hb' => by cases hb'; rw [k0]; simp), Li.mB⟩
    rw [← hob]
    exact (h.apart i l hi hl hil).2
end Go.Proofs.Qxb6602594a
