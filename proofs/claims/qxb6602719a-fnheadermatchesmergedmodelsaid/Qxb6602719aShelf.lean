import Derived.Shelf.Strings.OnBuilder
import Derived.Shelf.Sort.Plain
import Derived.Shelf.Slices.In.SortNone
import Derived.Test.Qxb6602719aProg
namespace Go.Proofs
open Go.Shelf
def Try.lays156_ren : Go.Shelf.Ren := ⟨fun | 156 => 35 | 165 => 40 | 166 => 32 | 169 => 11 | 240 => 37 | 241 => 53 | 276 => 41 | 277 => 60 | n => n, fun | 31 => 33 | 9 => 9 | 3 => 3 | 4 => 4 | 0 => 0 | 20 => 20 | 72 => 26 | 76 => 61 | 70 => 23 | 37 => 24 | 75 => 59 | 127 => 56 | 164 => 70 | 5 => 5 | 80 => 30 | n => n, fun | n => n⟩
theorem Try.lays156 : Go.Proofs.Lays.n156 Try.prog Try.lays156_ren := {
  mixed := by kernel_rfl
  f156 := Try.func35.trans (congrArg some (by kernel_rfl))
  f165 := Try.func40.trans (congrArg some (by kernel_rfl))
  f166 := Try.func32.trans (congrArg some (by kernel_rfl))
  f169 := Try.func11.trans (congrArg some (by kernel_rfl))
  f240 := Try.func37.trans (congrArg some (by kernel_rfl))
  f241 := Try.func53.trans (congrArg some (by kernel_rfl))
  f276 := Try.func41.trans (congrArg some (by kernel_rfl))
  f277 := Try.func60.trans (congrArg some (by kernel_rfl))
  t0 := Try.underlying0
  a0 := Try.isAgg0
  z0 := Try.sizeOf0
  v0 := Try.zeroValue0
  t3 := Try.underlying3
  a3 := Try.isAgg3
  z3 := Try.sizeOf3
  v3 := Try.zeroValue3
  t4 := Try.underlying4
  a4 := Try.isAgg4
  z4 := Try.sizeOf4
  v4 := Try.zeroValue4
  t9 := Try.underlying9
  a9 := Try.isAgg9
  z9 := Try.sizeOf9
  v9 := Try.zeroValue9
  t20 := Try.underlying20
  a20 := Try.isAgg20
  z20 := Try.sizeOf20
  v20 := Try.zeroValue20
  t31 := Try.underlying33
  a31 := Try.isAgg33
  z31 := Try.sizeOf33
  v31 := Try.zeroValue33
  t37 := Try.underlying24
  a37 := Try.isAgg24
  z37 := Try.sizeOf24
  v37 := Try.zeroValue24
  t70 := Try.underlying23
  a70 := Try.isAgg23
  z70 := Try.sizeOf23
  v70 := Try.zeroValue23
  t72 := Try.underlying26
  a72 := Try.isAgg26
  z72 := Try.sizeOf26
  v72 := Try.zeroValue26
  t75 := Try.underlying59
  a75 := Try.isAgg59
  z75 := Try.sizeOf59
  v75 := Try.zeroValue59
  t76 := Try.underlying61
  a76 := Try.isAgg61
  z76 := Try.sizeOf61
  v76 := Try.zeroValue61
  t127 := Try.underlying56
  a127 := Try.isAgg56
  z127 := Try.sizeOf56
  v127 := Try.zeroValue56
  t164 := Try.underlying70
  a164 := Try.isAgg70
  z164 := Try.sizeOf70
  v164 := Try.zeroValue70 }
theorem Try.Builder_Extra_156 : Builder.Extra Try.prog Try.lays156_ren := {
  sizeBuilder := by kernel_rfl
  liesBuilder := by kernel_rfl
  t5 := Try.underlying5
  a5 := Try.isAgg5
  z5 := Try.sizeOf5
  v5 := Try.zeroValue5
  infoByte := by kernel_rfl
  cellsByte := by kernel_rfl
  sizeByte := by kernel_rfl
  neB5 := by decide }
open Go.RowKit in
/-- No element: the empty string; the world is as it was. (Whatever the slice's address and capacity: a nil slice too.) (LAID: no walk: one application.) -/
theorem Try.strings_Join_none (a : Option Addr) (c : Nat) (sep : ByteArray) (w : World) :
    Calls Try.prog 35 #[.slice a 0 c, .string sep] w fun e w' => e = .returned (.string ⟨#[]⟩) ∧ w' = w := Any.strings_Join_none Try.lays156 Try.Builder_Extra_156 a c sep w
open Go.RowKit in
/-- strings.Join: "Join concatenates the elements of its first argument to create a single string. The separator string sep is placed between elements in the resulting string.": HOWEVER MANY ELEMENTS. Below the heap's end the world is as it was. (LAID: no walk: one application.) -/
theorem Try.strings_Join (bk o c : Nat) (xs : List ByteArray) (sep : ByteArray) (w : World) (hcells : ∀ (j : Nat) x, xs[j]? = some x → w.cell? ⟨bk, o + j, none⟩ = some (.string x)) (hbk : bk < w.heap.size) (hN : xs.length ≤ 140737488355328) (hcap : xs.length ≤ c) (hlen : (Lib.join (xs.map (·.data.toList)) sep.data.toList).length ≤ 140737488355328) :
    Calls Try.prog 35 #[.slice (some ⟨bk, o, none⟩) xs.length c, .string sep] w fun e w' => e = .returned (.string ⟨(Lib.join (xs.map (·.data.toList)) sep.data.toList).toArray⟩) ∧ Below w.heap.size w w' := Any.strings_Join Try.lays156 Try.Builder_Extra_156 bk o c xs sep w hcells hbk hN hcap hlen
def Try.lays190_ren : Go.Shelf.Ren := ⟨fun | 190 => 34 | 125 => 39 | 258 => 38 | 128 => 51 | 129 => 52 | 302 => 42 | 303 => 43 | 304 => 44 | 305 => 45 | 306 => 46 | 307 => 47 | 308 => 48 | 309 => 49 | 310 => 50 | 333 => 54 | 329 => 55 | 330 => 56 | 334 => 57 | 335 => 58 | 336 => 59 | 344 => 61 | n => n, fun | 31 => 33 | 9 => 9 | 3 => 3 | 46 => 55 | 0 => 0 | 51 => 81 | 53 => 83 | 4 => 4 | 183 => 74 | 182 => 73 | 131 => 78 | 5 => 5 | 218 => 84 | 222 => 88 | 228 => 91 | 229 => 92 | n => n, fun | n => n⟩
theorem Try.lays190 : Go.Proofs.Lays.n190 Try.prog Try.lays190_ren := {
  mixed := by kernel_rfl
  f125 := Try.func39.trans (congrArg some (by kernel_rfl))
  f128 := Try.func51.trans (congrArg some (by kernel_rfl))
  f129 := Try.func52.trans (congrArg some (by kernel_rfl))
  f190 := Try.func34.trans (congrArg some (by kernel_rfl))
  f258 := Try.func38.trans (congrArg some (by kernel_rfl))
  f302 := Try.func42.trans (congrArg some (by kernel_rfl))
  f303 := Try.func43.trans (congrArg some (by kernel_rfl))
  f304 := Try.func44.trans (congrArg some (by kernel_rfl))
  f305 := Try.func45.trans (congrArg some (by kernel_rfl))
  f306 := Try.func46.trans (congrArg some (by kernel_rfl))
  f307 := Try.func47.trans (congrArg some (by kernel_rfl))
  f308 := Try.func48.trans (congrArg some (by kernel_rfl))
  f309 := Try.func49.trans (congrArg some (by kernel_rfl))
  f310 := Try.func50.trans (congrArg some (by kernel_rfl))
  f329 := Try.func55.trans (congrArg some (by kernel_rfl))
  f330 := Try.func56.trans (congrArg some (by kernel_rfl))
  f333 := Try.func54.trans (congrArg some (by kernel_rfl))
  f334 := Try.func57.trans (congrArg some (by kernel_rfl))
  f335 := Try.func58.trans (congrArg some (by kernel_rfl))
  f336 := Try.func59.trans (congrArg some (by kernel_rfl))
  f344 := Try.func61.trans (congrArg some (by kernel_rfl))
  t0 := Try.underlying0
  a0 := Try.isAgg0
  z0 := Try.sizeOf0
  v0 := Try.zeroValue0
  t3 := Try.underlying3
  a3 := Try.isAgg3
  z3 := Try.sizeOf3
  v3 := Try.zeroValue3
  t4 := Try.underlying4
  a4 := Try.isAgg4
  z4 := Try.sizeOf4
  v4 := Try.zeroValue4
  t5 := Try.underlying5
  a5 := Try.isAgg5
  z5 := Try.sizeOf5
  v5 := Try.zeroValue5
  t9 := Try.underlying9
  a9 := Try.isAgg9
  z9 := Try.sizeOf9
  v9 := Try.zeroValue9
  t31 := Try.underlying33
  a31 := Try.isAgg33
  z31 := Try.sizeOf33
  v31 := Try.zeroValue33
  t46 := Try.underlying55
  a46 := Try.isAgg55
  z46 := Try.sizeOf55
  v46 := Try.zeroValue55
  t51 := Try.underlying81
  a51 := Try.isAgg81
  z51 := Try.sizeOf81
  v51 := Try.zeroValue81
  t53 := Try.underlying83
  a53 := Try.isAgg83
  z53 := Try.sizeOf83
  v53 := Try.zeroValue83
  t131 := Try.underlying78
  a131 := Try.isAgg78
  z131 := Try.sizeOf78
  v131 := Try.zeroValue78
  t182 := Try.underlying73
  a182 := Try.isAgg73
  z182 := Try.sizeOf73
  v182 := Try.zeroValue73
  t183 := Try.underlying74
  a183 := Try.isAgg74
  z183 := Try.sizeOf74
  v183 := Try.zeroValue74
  t218 := Try.underlying84
  a218 := Try.isAgg84
  z218 := Try.sizeOf84
  v218 := Try.zeroValue84
  t222 := Try.underlying88
  a222 := Try.isAgg88
  z222 := Try.sizeOf88
  v222 := Try.zeroValue88
  t228 := Try.underlying91
  a228 := Try.isAgg91
  z228 := Try.sizeOf91
  v228 := Try.zeroValue91
  t229 := Try.underlying92
  a229 := Try.isAgg92
  z229 := Try.sizeOf92
  v229 := Try.zeroValue92 }
open Go.Sort Go.RowKit in
theorem Try.slices_Sort_string (blk off cap : Nat) (ss : List (List UInt8)) (w : World) (hH : Holds encStr w blk off ss.toArray) (hblk : blk < w.heap.size) (hsz : ss.length < 4611686018427387904) :
    Calls Try.prog 34 #[.slice (some ⟨blk, off, none⟩) ss.length cap] w fun e w' =>
      e = .returned (.tuple #[]) ∧ ∃ n os, w' = grow (putRow encStr (Sort.ahead w n) blk off (ss.mergeSort fun x y => decide (x ≤ y)).toArray) os := Any.slices_Sort_string Try.lays190 blk off cap ss w hH hblk hsz
open Go.RowKit Go.Sort in
/-- .. and plain. (LAID: no walk: one application.) -/
theorem Try.slices_Sort_string_none (p : Option Addr) (cap : Nat) (w : World) :
    Calls Try.prog 34 #[.slice p 0 cap] w fun e w' => e = .returned (.tuple #[]) ∧ w' = w := Any.slices_Sort_string_none Try.lays190 p cap w
end Go.Proofs
