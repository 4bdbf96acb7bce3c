/-
  The frames of the rows whose laid list is io.EOF alone.
-/
import Derived.Test.YtabaholflahepaaDoorFrame
namespace Go.Proofs.YtabaholflahepaaDoor
open Go.ChangeShapes Go.WideShapes Go.ChangeAt Go.RowKit
set_option maxRecDepth 100000

def laid1 : List (String × DataW Unit) := [("io.EOF", Rows.laid_io_EOF)]
theorem door_met1 (os : Os) (args : Array Value) : laidMetH Tryd.prog laid1 ((World.doorLaid Tryd.prog 57 os).forCall (fun _ _ => 0) ⟨#[], args, []⟩).memory :=
  laidMetH_of_parts3 (fuel := 8) (laidMet_of_run' 8 (by kernel_rfl) (by kernel_rfl)) (by kernel_rfl) (by kernel_rfl)
end Go.Proofs.YtabaholflahepaaDoor
