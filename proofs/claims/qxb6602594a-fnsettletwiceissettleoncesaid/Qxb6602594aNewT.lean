import Derived.Test.Qxb6602594aOps2
import Derived.Test.Qxb6602594aModel
import Derived.Test.Qxb6602594aSettle
import Derived.Deep.DeepCutAuto
import Derived.BigRegion
namespace Go.Proofs.Qxb6602594a
open Go.RowKit Go.Maps
open Go.WideMaps (keyOf_string_mk)

theorem Try.info88 : (Try.prog.info? 88).map (fun i => (i.zero, i.size, i.bytes)) = some (some (.agg #[.string ByteArray.empty, .slice none 0 0, .int .i32 0, .slice none 0 0, .map none, .slice none 0 0, .slice none 0 0, .int .i64 0, .int .i64 0, .int .i64 0]), 10, 152) := by kernel_rfl

theorem make81 (n : Nat) (hn : n ≤ 1048576) (w : World) :
    (Instr.makeSlice 70 (.int .i64 (n : Int)) (.int .i64 (n : Int))).run Try.prog w = .ok (.slice (some ⟨w.heap.size, 0, none⟩) n n) (w.alloc (.cells (madeCells (txCells (⟨0, 0, []⟩, .slice none 0 0)).toArray (n * 10)) 81)) := by
  obtain ⟨i0, hi, hz0, hz1, hz2⟩ := info_parts Try.info81
  have := run_make (P := Try.prog) w 70 81 i0 _ Try.underlying70 hi hz0 .i64 .i64 n n (by omega) (Int.le_refl _) (by rw [hz2]; omega) (by omega)
  simp only [Int.toNat_natCast, hz1] at this
  exact this

theorem make88 (n : Nat) (hn : n ≤ 1048576) (w : World) :
    (Instr.makeSlice 71 (.int .i64 (n : Int)) (.int .i64 (n : Int))).run Try.prog w = .ok (.slice (some ⟨w.heap.size, 0, none⟩) n n) (w.alloc (.cells (madeCells #[.string ByteArray.empty, .slice none 0 0, .int .i32 0, .slice none 0 0, .map none, .slice none 0 0, .slice none 0 0, .int .i64 0, .int .i64 0, .int .i64 0] (n * 10)) 88)) := by
  obtain ⟨i0, hi, hz0, hz1, hz2⟩ := info_parts Try.info88
  have := run_make (P := Try.prog) w 71 88 i0 _ Try.underlying71 hi hz0 .i64 .i64 n n (by omega) (Int.le_refl _) (by rw [hz2]; omega) (by omega)
  simp only [Int.toNat_natCast, hz1] at this
  exact this

theorem made_flat {α : Type} {f : α → List Value} {s : Nat} (hf : ∀ a, (f a).length = s) (hs : 0 < s) (a : α) (n : Nat) : (madeCells (f a).toArray (n * s)).toList = (List.replicate n a).flatMap f := by
  apply List.ext_getElem?
  intro i
  by_cases hi : i < n * s
  · have e : i = (i / s) * s + i % s := by rw [Nat.mul_comm]; exact (Nat.div_add_mod i s).symm
    have hd : i / s < n := Nat.div_lt_of_lt_mul (by rw [Nat.mul_comm]; exact hi)
    have hm : i % s < (f a).length := by rw [hf]; exact Nat.mod_lt _ hs
    have hg := flat_get hf (List.replicate n a) (i / s) (i % s) (by simpa using hd) (Nat.mod_lt _ hs)
    rw [← e] at hg
    rw [hg]
    simp only [madeCells, Array.toList_map, Array.toList_range, List.getElem?_map, List.getElem?_range hi, Option.map_some, List.size_toArray, hf, List.getElem_replicate]
    rw [List.getElem?_eq_getElem hm]
    simp [hm]
  · rw [List.getElem?_eq_none (by simp [madeCells]; omega), List.getElem?_eq_none (by rw [length_flat hf]; simp; omega)]

def zeroLs : Ls := ⟨[], [], .map []⟩

theorem arr_getD (c : Array Value) (i : Nat) (h : i < c.size) : c[i]? = some (c.getD i undef) := by
  rw [Array.getD_eq_getD_getElem?, Array.getElem?_eq_getElem h]
  rfl

theorem alloc3 (w : World) (A D C : Obj) : (((w.alloc A).alloc D).alloc C).drew.heap[w.heap.size]? = some A ∧ (((w.alloc A).alloc D).alloc C).drew.heap[w.heap.size + 1]? = some D ∧ (((w.alloc A).alloc D).alloc C).drew.heap[w.heap.size + 1 + 1]? = some C ∧
    Below w.heap.size w (((w.alloc A).alloc D).alloc C).drew := by
  refine ⟨?_, ?_, ?_, ((((Below.refl _ _).alloc (Nat.le_refl _) _).alloc (by simp) _).alloc (by simp; omega) _).drew⟩
  · show (((w.alloc A).alloc D).alloc C).heap[w.heap.size]? = some A
    rw [Below.heap_alloc _ _ _ (by simp; omega), Below.heap_alloc _ _ _ (by simp)]
    exact heap_alloc_new w A
  · show (((w.alloc A).alloc D).alloc C).heap[w.heap.size + 1]? = some D
    rw [Below.heap_alloc _ _ _ (by simp)]
    have := heap_alloc_new (w.alloc A) D
    simpa using this
  · show (((w.alloc A).alloc D).alloc C).heap[w.heap.size + 1 + 1]? = some C
    have := heap_alloc_new ((w.alloc A).alloc D) C
    simpa using this

theorem new_rep {B : Nat} {W : World} {hb tb lb nO nL : Nat} {zs : Array Value} {f0 f3 f4 f5 f6 f7 f8 : Value} (hO : nO ≤ maxLen)
    (hT : W.heap[tb]? = some (.cells (madeCells (txCells (⟨0, 0, []⟩, .slice none 0 0)).toArray (nO * 10)) 81 (0, 0)))
    (hL : W.heap[lb]? = some (.cells (madeCells zs (nL * 10)) 88 (0, 0)))
    (hH : W.heap[hb]? = some (.cells #[f0, .slice (some ⟨tb, 0, none⟩) nO nO, .slice (some ⟨lb, 0, none⟩) nL nL, f3, f4, f5, f6, f7, f8] 75 (0, 0))) (b1 : B ≤ tb) (b2 : B ≤ lb) (b3 : B ≤ hb) :
    Rep B W hb ⟨.slice (some ⟨tb, 0, none⟩) nO nO, lb, fun _ => undef, fun _ => undef, fun _ => 0, nL⟩ ⟨List.replicate nO ⟨0, 0, []⟩, 0, fun _ => zeroLs⟩ := by
  have rowT : W.ownsRow B 81 10 (.slice (some ⟨tb, 0, none⟩) nO nO) nO ((List.replicate nO ((⟨0, 0, []⟩ : Tx), Value.slice none 0 0)).flatMap txCells) := by
    refine ⟨by rw [length_flat (s := 10) (fun _ => rfl)]; simp, .inr ⟨tb, nO, _, rfl, b1, hT, Nat.le_refl _, hO, size_madeCells _ _, ?_⟩⟩
    rw [← made_flat (s := 10) (fun _ => rfl) (by omega), List.take_of_length_le (by simp [madeCells])]
  refine ⟨b3, b2, ⟨fun i => #[f0, .slice (some ⟨tb, 0, none⟩) nO nO, .slice (some ⟨lb, 0, none⟩) nL nL, f3, f4, f5, f6, f7, f8].getD i undef, ⟨_, hH, rfl, fun i hi => ?_⟩, rfl, rfl⟩,
    ⟨List.replicate nO ((⟨0, 0, []⟩ : Tx), Value.slice none 0 0), by simp, by simpa using rowT, ?_⟩, ⟨fun i => (madeCells zs (nL * 10)).getD i undef, ⟨_, hL, size_madeCells _ _, fun i hi => ?_⟩, fun l hl => by simp at hl⟩,
    fun l hl => by simp at hl, fun l l' hl => by simp at hl, Nat.zero_le _⟩
  · exact arr_getD _ i hi
  · intro p hp
    have := List.eq_of_mem_replicate hp
    subst this
    exact World.ownsRow_nil _ _ _ _
  · exact arr_getD _ i (by rw [size_madeCells]; exact hi)

/-- the transactions after k rounds -/
def txsTo (nO : Nat) (oc : Nat → Int) : Nat → List Tx
  | 0 => List.replicate nO ⟨0, 0, []⟩
  | k + 1 => (txsTo nO oc k).modify k (fun t => { t with outcome := oc k })
theorem txsTo_length (nO : Nat) (oc : Nat → Int) (k : Nat) : (txsTo nO oc k).length = nO := by
  induction k with
  | zero => simp [txsTo]
  | succ k ih => rw [txsTo, List.length_modify, ih]

/-- what the history is built of -/
structure Dat where
  S0 : Nat → Nat → ByteArray
  S1 : Nat → Nat → ByteArray
  S2 : Nat → Nat → Int
  S3 : Nat → Nat → Int
  S4 : Nat → Nat → Int
  S5 : Nat → Nat → Int
  S6 : Nat → Nat → Int
  L0 : Nat → Nat
  L1 : Nat → Nat
  oc : Nat → Int
  nO : Nat
  nL : Nat

def appsTo (d : Dat) (l : Nat) : Nat → List App
  | 0 => List.replicate (d.L1 l) ⟨0, ByteArray.empty, 0, 0, 0, 0⟩
  | i + 1 => (appsTo d l i).set i ⟨d.S2 l i, d.S1 l i, d.S3 l i, d.S4 l i, d.S5 l i, d.S6 l i⟩
def idxTo (d : Dat) (l : Nat) : Nat → DataW Unit
  | 0 => .map []
  | i + 1 => (idxTo d l i).put (key (d.S1 l i)) (.lit (.int .i32 i))
def ord (d : Dat) (l : Nat) : List ByteArray := (List.range (d.L0 l)).map (d.S0 l)
def lsAt (d : Dat) (l i : Nat) : Ls := ⟨ord d l, appsTo d l i, idxTo d l i⟩
def lsTo (d : Dat) : Nat → Nat → Ls
  | 0, _ => zeroLs
  | l + 1, i => if i = l then lsAt d l (d.L1 l) else lsTo d l i
def newHi (d : Dat) : Hi := ⟨txsTo d.nO d.oc d.nO, d.nL, lsTo d d.nL⟩

theorem appsTo_length (d : Dat) (l i : Nat) : (appsTo d l i).length = d.L1 l := by
  induction i with
  | zero => simp [appsTo]
  | succ i ih => rw [appsTo, List.length_set, ih]

theorem make90 (n : Nat) (hn : n ≤ 1048576) (w : World) :
    (Instr.makeSlice 86 (.int .i64 (n : Int)) (.int .i64 (n : Int))).run Try.prog w = .ok (.slice (some ⟨w.heap.size, 0, none⟩) n n) (w.alloc (.cells (madeCells (appCells ⟨0, ByteArray.empty, 0, 0, 0, 0⟩).toArray (n * 6)) 90)) := by
  obtain ⟨i0, hi, hz0, hz1, hz2⟩ := info_parts Try.info90
  have := run_make (P := Try.prog) w 86 90 i0 _ Try.underlying86 hi hz0 .i64 .i64 n n (by omega) (Int.le_refl _) (by rw [hz2]; omega) (by omega)
  simp only [Int.toNat_natCast, hz1] at this
  exact this

theorem Row.cells {w : World} {a : Option Addr} {n : Nat} {f : Nat → Value} (h : Row w a n f) : (a = none → n = 0) ∧ ∀ ad, a = some ad → ∀ j u, ((List.range n).map f)[j]? = some u → w.cell? (ad.add j) = some u := by
  refine ⟨fun e => by subst e; exact h.zero, fun ad e j u hj => ?_⟩
  have hjn : j < n := by
    have := (List.getElem?_eq_some_iff.1 hj).1
    simpa using this
  obtain ⟨b, off, e', _, hc⟩ := h j hjn
  rw [e] at e'
  cases e'
  have hadd : (⟨b, off, none⟩ : Addr).add j = ⟨b, off + j, none⟩ := by unfold Addr.add; split <;> simp_all
  rw [hadd, hc]
  rw [List.getElem?_map, List.getElem?_range hjn] at hj
  simpa using hj

theorem idxTo_tidy (d : Dat) (l x : Nat) : Tidy (idxTo d l x) ∧ Maps.size (idxTo d l x) ≤ x := by
  induction x with
  | zero => exact ⟨tidy_empty, Nat.le_refl _⟩
  | succ x ih =>
    refine ⟨ih.1.put (isKey _) _, ?_⟩
    rw [idxTo, size_put ih.1]
    split <;> omega

theorem ownsMap_tight {w : World} {P : Program} {k : TypeId} {R : Value → Option (DataW Unit × List MemPlace)} {b n : Nat} {D : DataW Unit} (h : w.ownsMap P k R b n D) : w.ownsMap P k R b (Maps.size D) D := by
  obtain ⟨es, clock, hb, F, hs, rfl⟩ := h
  exact ⟨es, clock, hb, F, by simp [Maps.size, length_sorted], rfl⟩

theorem drew_cell (w : World) (a : Addr) : w.drew.cell? a = w.cell? a := rfl

/-- six cells set one after another -/
def six (w : World) (g o : Nat) (v0 v1 v2 v3 v4 v5 : Value) : World :=
  (((((w.setCell ⟨g, o, none⟩ v0).setCell ⟨g, o + 1, none⟩ v1).setCell ⟨g, o + 2, none⟩ v2).setCell ⟨g, o + 3, none⟩ v3).setCell ⟨g, o + 4, none⟩ v4).setCell ⟨g, o + 5, none⟩ v5

theorem setCells_six (w : World) (g o : Nat) (a : App) : w.setCells g o (appCells a) = six w g o (.int .i32 a.txn) (.string a.value) (.int .i32 a.line) (.int .i32 a.readLen) (.int .i32 a.next) (.int .i32 a.pos) := rfl

theorem six_eq (w : World) (g o : Nat) (v0 v1 v2 v3 v4 v5 : Value) : (((((w.setCell ⟨g, o, none⟩ v0).setCell ⟨g, o + 1, none⟩ v1).setCell ⟨g, o + 2, none⟩ v2).setCell ⟨g, o + 3, none⟩ v3).setCell ⟨g, o + 4, none⟩ v4).setCell ⟨g, o + 5, none⟩ v5 = six w g o v0 v1 v2 v3 v4 v5 := rfl
/-- the map of list l takes one value more -/
theorem Rep.mapStep {B : Nat} {w : World} {hb : Nat} {Y : Lay} {H : Hi} (h : Rep B w hb Y H) {l x mn : Nat} (hl : l < H.n) (hx : x < (H.ls l).apps.length) (hxb : x ≤ 1048576) (d : Dat) (hd : (H.ls l).idx = idxTo d l x) (hmn : Y.mb l = mn) (hs : (d.S1 l x).size ≤ maxLen) :
    ∃ wM, (Instr.mapUpdate 72 (.map (some mn)) (.string (d.S1 l x)) (.int .i32 (x : Int))).run Try.prog w = .ok () wM ∧ Below B w wM ∧
      Rep B wM hb Y { H with ls := fun i => if i = l then { H.ls l with idx := idxTo d l (x + 1) } else H.ls i } := by
  have M := (h.each l hl).idx
  rw [hd] at M
  have M' := (ownsMap_tight M).mono (idxTo_tidy d l x).2
  obtain ⟨wM, hrun, hown, hg⟩ := M'.update law9 Try.underlying72 (by unfold maxLen; omega) (keyOf_string_mk Try.underlying9 hs) (plainElem_int Try.underlying21 (a := (x : Int)) (WalkArith.wf_i32 (by omega)))
  rw [hmn] at hrun
  exact ⟨wM, hrun, below_of_grown hg h.size (fun b e => by cases e; exact (h.each l hl).mB), h.idxPut hl (k := x + 1) hx hown hg⟩
end Go.Proofs.Qxb6602594a
