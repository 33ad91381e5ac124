/- The law on parsing: an input that fits. -/
import Derived.Test.YtifnodoffgfpbaaGreatDoorPa7
namespace Go.Proofs.YtifnodoffgfpbaaGreatDoor.fnParse
open Go Go.ChangeShapes Go.WideShapes Go.RowKit
/-- an input that fits -/
def in0 : Array Value := #[.agg #[.int .u16 0, .bool false, .int .u16 0, .bool false, .bool false, .bool false, .bool false, .bool false, .bool false, .int .u16 0, .slice none 0 0, .slice none 0 0, .slice none 0 0, .slice none 0 0], .bool false]
abbrev la : List (String × DataW Unit) := Rows.fnParseUptoRow.laid
noncomputable abbrev w0 (os : Os) : World := (wmOf la os).forCall (fun _ _ => 0) ⟨#[], in0, []⟩

set_option maxRecDepth 100000 in
theorem met (os : Os) : laidMetH PP la (w0 os).memory := by
  rw [MakeChecks.laidMetH_plain _ _ _ (by kernel_rfl)]
  exact laidMet_of_run' 12 (by kernel_rfl) (by kernel_rfl)
theorem t1 (os : Os) : (w0 os).variablesZipB PP = true := by kernel_rfl
theorem t2 (os : Os) : ((w0 os).heap.toList.drop PP.globals.size).take ((begin PP (fun _ _ => 0) default).world.heap.size - PP.globals.size) = (begin PP (fun _ _ => 0) default).world.heap.toList.drop PP.globals.size := by kernel_rfl
theorem t3 (os : Os) : Input.okWideB PP (w0 os) 8 ⟨#[], in0, []⟩ = true := by kernel_rfl
theorem fits (os : Os) (H : Type) (enc : TypeId × Value → H) : ((DataW.whole enc PP (w0 os).memory Tryz.f8.params.toList Rows.fnParseSpec.vars false in0.toList 16).any fun x => Rows.uptoSmall H (x.1 ++ x.2.1)) = true := by kernel_rfl
theorem sized (os : Os) (H : Type) (enc : TypeId × Value → H) : (Rows.OpenSpec.upto Rows.fnParseSpec).bare.sizedB enc PP Tryz.f8 false (w0 os).memory in0 16 = true := by kernel_rfl

end Go.Proofs.YtifnodoffgfpbaaGreatDoor.fnParse
