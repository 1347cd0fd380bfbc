import Derived.Test.Qxb6602719aHead
import Derived.Test.Qxb6602719aLaw
namespace Go.Proofs.Qxb6602719a
open Go.RowKit Go.Maps

theorem header (cb n : Nat) (nm : ByteArray) (w : World) (v : Value) (V : View) (hc : w.cell? ⟨cb, 6, none⟩ = some v) (hm : MapIs w n v V) (hB : Bnd V) (hn : n ≤ 8192) :
    Calls Try.prog 28 #[.pointer (some ⟨cb, 0, none⟩), .string nm] w (Head w V nm.data.toList) := by
  cases hm with
  | nil => exact header_nil cb nm w hc
  | some b D _ h hv => exact header_some cb b n nm w D V hc h hv hB hn

set_option maxRecDepth 100000 in
theorem zzheader (cb n : Nat) (nm : ByteArray) (w : World) (v : Value) (V : View) (hc : w.cell? ⟨cb, 6, none⟩ = some v) (hm : MapIs w n v V) (hB : Bnd V) (hn : n ≤ 8192) :
    Calls Try.prog 19 #[.pointer (some ⟨cb, 0, none⟩), .string nm] w (Head w V nm.data.toList) := by
  have H := header cb n nm w v V hc hm hB hn
  clear hc hm hB hn
  go_enter Try.func19, Try.ntmps19
  go_wp2_with (go_at_call 28; refine H.mono ?_; rintro e w' ⟨ss, h1, h2, rfl, h4⟩)
  go_ret2
  exact ⟨ss, h1, h2, rfl, h4⟩
end Go.Proofs.Qxb6602719a
