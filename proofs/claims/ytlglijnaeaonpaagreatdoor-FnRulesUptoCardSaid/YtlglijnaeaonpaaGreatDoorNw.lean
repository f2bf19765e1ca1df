/- A world for the witness. -/
import Derived.Test.YtlglijnaeaonpaaGreatDoorNv
set_option linter.all false
/- A world for the witness. -/
namespace Go.Proofs.YtlglijnaeaonpaaGreatDoor.Css
open Go.RowKit Go.ChangeShapes Go.WideShapes Go.Deep Go.Lib

/-! ### A world for the witness -/
def litVal : DataW Unit → Value
  | .lit (.int k n) => .int k n
  | _ => undef
def aggVals : DataW Unit → List Value
  | .agg ps => ps.flatMap fun d => match d with | .agg qs => qs.map litVal | d => [litVal d]
  | _ => []
noncomputable def low : Nat := (World.holding Tryz.prog default ⟨#[], #[], []⟩).heap.size
noncomputable def laidWorld (os : Os) : World :=
  let w0 := World.holding Tryz.prog os ⟨#[.cells #[.string ⟨#[69, 79, 70]⟩] 212], #[], []⟩
  let put (h : Array Obj) (g : Nat) (cs : Array Value) : Array Obj := h.modify g fun
    | .cells _ t frozen => .cells cs t frozen
    | o => o
  let h0 := put w0.heap 0 #[.iface 198 (.pointer (some ⟨low, 0, none⟩))]
  let h1 := put h0 1 (aggVals Rows.laid_loop_example_pub_g01476_pub_tdcss_Hash_table).toArray
  let h2 := put h1 2 (aggVals Rows.laid_unicode_utf8_first).toArray
  let h3 := put h2 3 (aggVals Rows.laid_unicode_utf8_acceptRanges).toArray
  let h5 := put h3 5 (aggVals Rows.laid_unicode_properties).toArray
  let h7 := put h5 7 (aggVals Rows.laid_internal_strconv_uint64pow10).toArray
  let h8 := put h7 8 (aggVals Rows.laid_math_bits_deBruijn32tab).toArray
  let h9 := put h8 9 (aggVals Rows.laid_math_bits_deBruijn64tab).toArray
  { w0 with heap := h9 }
theorem laid_met (os : Os) (args : Array Value) : laidMet Tryz.prog Rows.fnStyleRow.laid ((laidWorld os).forCall (fun _ _ => 0) ⟨#[], args, []⟩).memory :=
  (LaidIn.of_run [0, 1, 2, 3, 5, 7, 8, 9, low] 8 (by kernel_rfl) (by kernel_rfl) (by kernel_rfl) (by kernel_rfl)).met
end Go.Proofs.YtlglijnaeaonpaaGreatDoor.Css
