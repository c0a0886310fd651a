/- The row's witness: the door's own heap, behind the run of the program's variables, meets the row's condition. No condition. -/
import Derived.Test.YtinfkihnedpdnaaGreatDoorRows
import Derived.ProofKit
import Derived.LaidMore
import Derived.LaidHandle
import Derived.LaidLaws
namespace Go.Proofs.YtinfkihnedpdnaaGreatDoor
open Go.ChangeShapes Go.WideShapes Go.RowKit

set_option maxRecDepth 100000 in
theorem door_met (os : Os) (args : Array Value) : laidMetH Tryz.prog Rows.fnKindRow.laid ((World.doorLaid Tryz.prog 205 os).forCall (fun _ _ => 0) ⟨#[], args, []⟩).memory :=
  laidMetH_of_parts3 (fuel := 8) (laidMet_of_run' 8 (by kernel_rfl) (by kernel_rfl)) (by kernel_rfl) (by kernel_rfl)

theorem door_shaped (os : Os) (args : Array Value) : ((World.doorLaid Tryz.prog 205 os).forCall (fun _ _ => 0) ⟨#[], args, []⟩).Shaped Tryz.prog :=
  World.shaped_of_RefB (by kernel_rfl) (by kernel_rfl)

end Go.Proofs.YtinfkihnedpdnaaGreatDoor
