import Derived.Test.Qxb6602594aOps
namespace Go.Proofs.Qxb6602594a
open Go.RowKit Go.Maps

theorem modify_eq_set {α : Type} (l : List α) (x : Nat) (h : x < l.length) (f : α → α) : l.modify x f = l.set x (f l[x]) := by
  apply List.ext_getElem?
  intro j
  rw [List.getElem?_modify, List.getElem?_set]
  by_cases e : x = j
  · subst e; simp [h]
  · simp [e]

theorem Rep.drew {B : Nat} {w : World} {hb : Nat} {Y : Lay} {H : Hi} (h : Rep B w hb Y H) : Rep B w.drew hb Y H := h.kept ⟨rfl, rfl, rfl, Nat.le_refl _, fun _ _ _ => rfl⟩

theorem Rep.row {B : Nat} {w : World} {hb : Nat} {Y : Lay} {H : Hi} (h : Rep B w hb Y H) : ∃ f, w.rowIs Y.lb 88 (Y.N * 10) f := by
  obtain ⟨gl, g1, g2⟩ := h.lists
  exact ⟨gl, g1⟩

/-- a transaction's outcome is set -/
theorem Rep.setOut {B : Nat} {w : World} {hb : Nat} {Y : Lay} {H : Hi} (h : Rep B w hb Y H) {x : Nat} (hx : x < H.txs.length) (o : Int) {g n cap : Nat} (hv : Y.tv = .slice (some ⟨g, 0, none⟩) n cap) :
    B ≤ g ∧ g < w.heap.size ∧ w.frozen? ⟨g, x * 10 + 4, none⟩ = false ∧ (∃ u, w.cell? ⟨g, x * 10 + 4, none⟩ = some u) ∧
    Rep B (w.setCell ⟨g, x * 10 + 4, none⟩ (.int .u8 o)) hb Y { H with txs := H.txs.modify x (fun t => { t with outcome := o }) } := by
  obtain ⟨fh, h1, h2, h3⟩ := h.hist
  obtain ⟨gl, g1, g2⟩ := h.lists
  obtain ⟨tr, e, T⟩ := h.txs
  have hl : tr.length = H.txs.length := by rw [← e]; simp
  have hx' : x < tr.length := by omega
  have row := T.row
  have hn : n = tr.length := by
    rcases row.2 with ⟨_, h0⟩ | ⟨g', cap', cur, hv', _⟩
    · omega
    · rw [hv] at hv'; simp only [Value.slice.injEq] at hv'; exact hv'.2.1
  subst hn
  have hob : Y.tv.ownBlock = some g := by rw [hv]; rfl
  have k0 : kind w g = some (some 81) := kind_ownsRow T.row hob
  obtain ⟨hBg, hglt⟩ := T.row.lt g hob
  rw [hv] at row
  have hfr := row.frozenAt (x * 10 + 4)
  have hce := row.cellAt (x * 10 + 4) (by omega)
  have hget := flat_get (f := txCells) (s := 10) (fun _ => rfl) tr x 4 hx' (by omega)
  refine ⟨hBg, hglt, hfr, ⟨.int .u8 tr[x].1.outcome, by rw [hce, hget]; simp [txCells]⟩, ?_⟩
  have G := grownBy_setCell w ⟨g, x * 10 + 4, none⟩ (.int .u8 o)
  have st := (row.stored (x * 10 + 4) (.int .u8 o)).1
  rw [flat_set (f := txCells) (s := 10) (fun _ => rfl) tr x 4 hx' (by omega) _ ({ tr[x].1 with outcome := o }, tr[x].2) (by simp [txCells])] at st
  refine ⟨h.hB, h.lB, ⟨fh, rowIs_kept' h1 G (fun b e => by cases e; rw [k0]; simp), h2, h3⟩, ⟨tr.set x ({ tr[x].1 with outcome := o }, tr[x].2), ?_, ?_, ?_⟩,
    ⟨gl, rowIs_kept' g1 G (fun b e => by cases e; rw [k0]; simp), g2⟩, ?_, h.apart, h.hn⟩
  · have ex : H.txs[x]? = some tr[x].1 := by rw [← e]; simp [hx']
    rw [List.getElem?_eq_getElem hx] at ex
    rw [List.map_set, e, modify_eq_set _ _ hx, Option.some.inj ex]
  · rw [hv, List.length_set]; exact st
  · intro q hq
    rcases List.mem_or_eq_of_mem_set hq with hq | rfl
    · exact ownsRow_kept (T.refs q hq) G (fun b e => by cases e; rw [k0]; simp)
    · exact ownsRow_kept (T.refs tr[x] (List.getElem_mem hx')) G (fun b e => by cases e; rw [k0]; simp)
  · intro l hl
    exact (h.each l hl).kept G (fun b e => by cases e; rw [k0]; simp)

/-- a cell of a list that is not yet told is written -/
theorem Rep.raw {B : Nat} {w : World} {hb : Nat} {Y : Lay} {H : Hi} (h : Rep B w hb Y H) {l j : Nat} (hl : H.n ≤ l) (v : Value) : Rep B (w.setCell ⟨Y.lb, l * 10 + j, none⟩ v) hb Y H := by
  obtain ⟨fh, h1, h2, h3⟩ := h.hist
  obtain ⟨gl, g1, g2⟩ := h.lists
  obtain ⟨tr, e, T⟩ := h.txs
  have k0 := kind_rowIs g1
  have G := grownBy_setCell w ⟨Y.lb, l * 10 + j, none⟩ v
  refine ⟨h.hB, h.lB, ⟨fh, rowIs_kept' h1 G (fun b e => by cases e; rw [k0]; simp), h2, h3⟩, ⟨tr, e, T.kept G (fun b e => by cases e; rw [k0]; simp)⟩,
    ⟨_, g1.set (l * 10 + j) v, ?_⟩, fun i hi => (h.each i hi).kept G (fun b e => by cases e; rw [k0]; simp), h.apart, h.hn⟩
  intro i hi
  obtain ⟨e1, e2, e3⟩ := g2 i hi
  exact ⟨by rw [if_neg (by omega)]; exact e1, by rw [if_neg (by omega)]; exact e2, by rw [if_neg (by omega)]; exact e3⟩

/-- one list more is told -/
theorem Rep.newList {B : Nat} {w : World} {hb : Nat} {Y : Lay} {H : Hi} (h : Rep B w hb Y H) (hl : H.n < Y.N) {ov av : Value} {mb : Nat} {s : Ls}
    (c1 : w.cell? ⟨Y.lb, H.n * 10 + 1, none⟩ = some ov) (c3 : w.cell? ⟨Y.lb, H.n * 10 + 3, none⟩ = some av) (c4 : w.cell? ⟨Y.lb, H.n * 10 + 4, none⟩ = some (.map (some mb)))
    (ho : w.ownsRow B 9 1 ov s.order.length (s.order.map .string)) (ha : w.ownsRow B 90 6 av s.apps.length (s.apps.flatMap appCells)) (hm : w.ownsMap Try.prog 9 (plainElem Try.prog 21) mb s.apps.length s.idx) (hB : B ≤ mb)
    (apart : ∀ i, i < H.n → mb ≠ Y.mb i ∧ (av.ownBlock = none ∨ av.ownBlock ≠ (Y.av i).ownBlock)) :
    Rep B w hb { Y with ov := fun i => if i = H.n then ov else Y.ov i, av := fun i => if i = H.n then av else Y.av i, mb := fun i => if i = H.n then mb else Y.mb i }
      { H with n := H.n + 1, ls := fun i => if i = H.n then s else H.ls i } := by
  obtain ⟨gl, g1, g2⟩ := h.lists
  refine ⟨h.hB, h.lB, h.hist, h.txs, ⟨gl, g1, ?_⟩, ?_, ?_, hl⟩
  · intro i hi
    by_cases e : i = H.n
    · subst e
      simp only [if_true]
      rw [g1.cell (by omega)] at c1 c3 c4
      exact ⟨Option.some.inj c1, Option.some.inj c3, Option.some.inj c4⟩
    · simp only [if_neg e]
      exact g2 i (by simp only at hi; omega)
  · intro i hi
    by_cases e : i = H.n
    · subst e
      simp only [if_true]
      exact ⟨by simpa using ho, by simpa using ha, by simpa using hm, by simpa using hB⟩
    · have L := h.each i (by simp only at hi; omega)
      simp only [if_neg e]
      exact ⟨by simpa [e] using L.ord, by simpa [e] using L.apps, by simpa [e] using L.idx, by simpa [e] using L.mB⟩
  · intro i j hi hj hij
    simp only at hi hj
    by_cases e : i = H.n
    · subst e
      have hj' : j ≠ H.n := fun e => hij e.symm
      simp only [if_true, if_neg hj']
      exact apart j (by omega)
    · by_cases e' : j = H.n
      · subst e'
        simp only [if_true, if_neg e]
        obtain ⟨p, q⟩ := apart i (by omega)
        refine ⟨fun x => p x.symm, ?_⟩
        rcases q with q | q
        · rw [q]
          cases (Y.av i).ownBlock with
          | none => exact .inl rfl
          | some z => exact .inr (by simp)
        · exact .inr (fun x => q x.symm)
      · simp only [if_neg e, if_neg e']
        exact h.apart i j (by omega) (by omega) hij

theorem stored6 {w : World} {B g n cap : Nat} {xs : List Value} (h : w.ownsRow B 90 6 (.slice (some ⟨g, 0, none⟩) n cap) n xs) (o : Nat) (a : App) :
    (w.setCells g o (appCells a)).ownsRow B 90 6 (.slice (some ⟨g, 0, none⟩) n cap) n ((((((xs.set o (.int .i32 a.txn)).set (o + 1) (.string a.value)).set (o + 2) (.int .i32 a.line)).set (o + 3) (.int .i32 a.readLen)).set (o + 4) (.int .i32 a.next)).set (o + 5) (.int .i32 a.pos)) ∧ w.grownBy (w.setCells g o (appCells a)) (some g) := by
  have tr : ∀ {a b c : World} {r : Option Nat}, a.grownBy b r → b.grownBy c r → a.grownBy c r := fun p q =>
    ⟨q.os.trans p.os, q.tape.trans p.tape, q.output.trans p.output, Nat.le_trans p.size q.size, fun k hk hr => (q.block k (Nat.lt_of_lt_of_le hk p.size) hr).trans (p.block k hk hr)⟩
  obtain ⟨h1, G1⟩ := h.stored o (.int .i32 a.txn)
  obtain ⟨h2, G2⟩ := h1.stored (o + 1) (.string a.value)
  obtain ⟨h3, G3⟩ := h2.stored (o + 2) (.int .i32 a.line)
  obtain ⟨h4, G4⟩ := h3.stored (o + 3) (.int .i32 a.readLen)
  obtain ⟨h5, G5⟩ := h4.stored (o + 4) (.int .i32 a.next)
  obtain ⟨h6, G6⟩ := h5.stored (o + 5) (.int .i32 a.pos)
  exact ⟨h6, tr (tr (tr (tr (tr G1 G2) G3) G4) G5) G6⟩

/-- an append of list l is written whole -/
theorem Rep.setApp {B : Nat} {w : World} {hb : Nat} {Y : Lay} {H : Hi} (h : Rep B w hb Y H) {l : Nat} (hl : l < H.n) {x : Nat} (hx : x < (H.ls l).apps.length) (a : App) {g n cap : Nat} (hv : Y.av l = .slice (some ⟨g, 0, none⟩) n cap) :
    B ≤ g ∧ g < w.heap.size ∧ (∀ j, w.frozen? ⟨g, j, none⟩ = false) ∧ (∀ j, j < 6 → ∃ u, w.cell? ⟨g, x * 6 + j, none⟩ = some u) ∧
    Rep B (w.setCells g (x * 6) (appCells a)) hb Y { H with ls := fun i => if i = l then { H.ls l with apps := (H.ls l).apps.set x a } else H.ls i } := by
  obtain ⟨fh, h1, h2, h3⟩ := h.hist
  obtain ⟨gl, g1, g2⟩ := h.lists
  obtain ⟨tr, e, T⟩ := h.txs
  have L := h.each l hl
  have row := L.apps
  have hn : n = (H.ls l).apps.length := by
    rcases row.2 with ⟨_, h0⟩ | ⟨g', cap', cur, hv', _⟩
    · omega
    · rw [hv] at hv'; simp only [Value.slice.injEq] at hv'; exact hv'.2.1
  subst hn
  have hob : (Y.av l).ownBlock = some g := by rw [hv]; rfl
  have k0 : kind w g = some (some 90) := kind_ownsRow L.apps hob
  obtain ⟨hBg, hglt⟩ := L.apps.lt g hob
  rw [hv] at row
  refine ⟨hBg, hglt, fun j => row.frozenAt j, ?_, ?_⟩
  · intro j hj
    rw [row.cellAt (x * 6 + j) (by omega), flat_get (f := appCells) (s := 6) (fun _ => rfl) (H.ls l).apps x j hx hj]
    exact ⟨_, List.getElem?_eq_getElem (by simpa [appCells] using hj)⟩
  obtain ⟨st, G⟩ := stored6 row (x * 6) a
  have eq : (((((((H.ls l).apps.flatMap appCells).set (x * 6) (.int .i32 a.txn)).set (x * 6 + 1) (.string a.value)).set (x * 6 + 2) (.int .i32 a.line)).set (x * 6 + 3) (.int .i32 a.readLen)).set (x * 6 + 4) (.int .i32 a.next)).set (x * 6 + 5) (.int .i32 a.pos)
      = ((H.ls l).apps.set x a).flatMap appCells := by
    generalize hb0 : (H.ls l).apps[x] = b0
    have s1 := flat_set (f := appCells) (s := 6) (fun _ => rfl) (H.ls l).apps x 0 hx (by omega) (.int .i32 a.txn) { b0 with txn := a.txn } (by simp [appCells, hb0])
    have s2 := flat_set (f := appCells) (s := 6) (fun _ => rfl) ((H.ls l).apps.set x { b0 with txn := a.txn }) x 1 (by simpa using hx) (by omega) (.string a.value) { b0 with txn := a.txn, value := a.value } (by simp [appCells])
    have s3 := flat_set (f := appCells) (s := 6) (fun _ => rfl) ((H.ls l).apps.set x { b0 with txn := a.txn, value := a.value }) x 2 (by simpa using hx) (by omega) (.int .i32 a.line) { b0 with txn := a.txn, value := a.value, line := a.line } (by simp [appCells])
    have s4 := flat_set (f := appCells) (s := 6) (fun _ => rfl) ((H.ls l).apps.set x { b0 with txn := a.txn, value := a.value, line := a.line }) x 3 (by simpa using hx) (by omega) (.int .i32 a.readLen) { b0 with txn := a.txn, value := a.value, line := a.line, readLen := a.readLen } (by simp [appCells])
    have s5 := flat_set (f := appCells) (s := 6) (fun _ => rfl) ((H.ls l).apps.set x { b0 with txn := a.txn, value := a.value, line := a.line, readLen := a.readLen }) x 4 (by simpa using hx) (by omega) (.int .i32 a.next) { b0 with txn := a.txn, value := a.value, line := a.line, readLen := a.readLen, next := a.next } (by simp [appCells])
    have s6 := flat_set (f := appCells) (s := 6) (fun _ => rfl) ((H.ls l).apps.set x { b0 with txn := a.txn, value := a.value, line := a.line, readLen := a.readLen, next := a.next }) x 5 (by simpa using hx) (by omega) (.int .i32 a.pos) a (by simp [appCells])
    simp only [Nat.add_zero, List.set_set] at s1 s2 s3 s4 s5 s6
    rw [s1, s2, s3, s4, s5, s6]
  rw [eq] at st
  refine ⟨h.hB, h.lB, ⟨fh, rowIs_kept' h1 G (fun b hb' => by cases hb'; rw [k0]; simp), h2, h3⟩, ⟨tr, e, T.kept G (fun b hb' => by cases hb'; rw [k0]; simp)⟩,
    ⟨gl, rowIs_kept' g1 G (fun b hb' => by cases hb'; rw [k0]; simp), g2⟩, ?_, h.apart, h.hn⟩
  intro i hi
  have Li := h.each i hi
  by_cases hil : i = l
  · subst hil
    simp only [if_true]
    refine ⟨ownsRow_kept Li.ord G (fun b hb' => by cases hb'; rw [k0]; simp), ?_, ?_, Li.mB⟩
    · rw [hv]; simp only [List.length_set]; exact st
    · simp only [List.length_set]; exact ownsMap_kept' Li.idx G (fun b hb' => by cases hb'; rw [k0]; simp)
  · simp only [if_neg hil]
    refine ⟨ownsRow_kept Li.ord G (fun b hb' => by cases hb'; rw [k0]; simp), Li.apps.kept G ?_, ownsMap_kept' Li.idx G (fun b hb' => by cases hb'; rw [k0]; simp), Li.mB⟩
    rw [← hob]
    exact (h.apart i l hi hl hil).2

section
variable {P : Program} (w : World)
theorem run_append_nil_any (base : Nat) (t ty e : TypeId) (i : TypeInfo) (z : Value) (size bytes : Nat) (ht : P.underlying t = some (.slice e)) (hi : P.info? e = some i) (hz : i.zero = some z)
    (hsize : i.size = size) (hby : i.bytes = bytes) (hzs : z.cells.size = size) (hsz : 0 < size)
    (ak : Option Addr) (m c : Nat) (news : List Value) (hl : news.length = m * size) (hnone : ak = none → m = 0) (hnews : ∀ ad, ak = some ad → ∀ j u, news[j]? = some u → w.cell? (ad.add j) = some u) (h1 : ∀ u ∈ news, u.oneCell' = true)
    (h63 : m ≤ maxLen) (hbytes : m * bytes ≤ 140737488355328) (hbase : base ≤ w.heap.size) :
    ∃ v' w', (Builtin.append_ #[t, t] ty #[.slice none 0 0, .slice ak m c]).run P w = .ok v' w' ∧ w'.ownsRow base e size v' m news ∧ w.grownBy w' none := by
  cases ak with
  | none =>
    have := hnone rfl
    subst this
    have : news = [] := List.eq_nil_of_length_eq_zero (by simpa using hl)
    subst this
    refine ⟨.slice none 0 0, w, ?_, World.ownsRow_nil w base e size, ⟨rfl, rfl, rfl, Nat.le_refl _, fun _ _ _ => rfl⟩⟩
    simp [Builtin.append_, run_underlying ht, sizeOf, typeInfo, hi, Builtin.lenOf, Builtin.firstCells]
  | some ad =>
    obtain ⟨v', w', hr, h2, h3, _, _⟩ := run_append_own_at (P := P) w base t ty e i z size bytes ht hi hz hsize hby hzs hsz (.slice none 0 0) 0 [] (World.ownsRow_nil w base e size) ad m c news hl (hnews ad rfl) h1 (by omega) (by simpa using hbytes) hbase
    simp only [Nat.zero_add, List.nil_append] at h2
    exact ⟨v', w', hr, h2, h3⟩

theorem wpList_append_nil_any {ops : Array Oper} {rest : List Oper} {o : Oper} {a : Act} {Q : Exit → Act → World → Prop} (hgd : o.guard = none) (s x : Operand) (t : TypeId)
    (ho : o.op = .call { callee := .builtin .append, args := #[s, x], argTypes := #[t, t] })
    (base : Nat) (e : TypeId) (i : TypeInfo) (z : Value) (size bytes : Nat) (ht : P.underlying t = some (.slice e)) (hi : P.info? e = some i) (hz : i.zero = some z)
    (hsize : i.size = size) (hby : i.bytes = bytes) (hzs : z.cells.size = size) (hsz : 0 < size) (hs : a.eval s = .slice none 0 0)
    (ak : Option Addr) (m c : Nat) (news : List Value) (hx : a.eval x = .slice ak m c) (hl : news.length = m * size) (hnone : ak = none → m = 0) (hnews : ∀ ad, ak = some ad → ∀ j u, news[j]? = some u → w.cell? (ad.add j) = some u) (h1 : ∀ u ∈ news, u.oneCell' = true)
    (h63 : m ≤ maxLen) (hbytes : m * bytes ≤ 140737488355328) (hbase : base ≤ w.heap.size)
    (h : ∀ v' w', w'.ownsRow base e size v' m news → w.grownBy w' none → wpList P ops Q rest (a.put o.dst v') w') : wpList P ops Q (o :: rest) a w := by
  refine wpList_plain hgd fun K hK => ?_
  obtain ⟨v', w', hr, h2, h3⟩ := run_append_nil_any (P := P) w base t o.type e i z size bytes ht hi hz hsize hby hzs hsz ak m c news hl hnone hnews h1 h63 hbytes hbase
  unfold Oper.wp execOp
  simp only [ho, resolve, invoke, builtin, Sem.run_bind, Sem.run_pure, Result.andThen_ok, List.map_toArray, List.map_cons, List.map_nil, hs, hx, hr]
  exact hK _ _ (h v' w' h2 h3)
end
end Go.Proofs.Qxb6602594a
