/- The witness: the listed variables as the program lays them. -/
import Derived.Test.YtlfpjdcogkcjlaaGreatDoorRows
import Derived.WalkKit
import Derived.ProofKit
import Derived.LaidMore
import Derived.Lay
import Derived.Stop.Joined
namespace Go.Proofs.YtlfpjdcogkcjlaaGreatDoor.F
open Go.ChangeShapes Go.WideShapes Go.ChangeAt Go.RowKit
theorem own : ownKnob Tryz.prog.godebug = none := by kernel_rfl
noncomputable abbrev laid : List (String × DataW Unit) := Rows.fnTextBadRow.laid
theorem wit_shaped (os : Os) (args : Array Value) : ((World.laidAll Tryz.prog os laid).forCall (fun _ _ => 0) ⟨#[], args, []⟩).Shaped Tryz.prog := World.shaped_of_ZipB (by kernel_rfl) (by kernel_rfl)
theorem wit_met (os : Os) (args : Array Value) : laidMetH Tryz.prog laid ((World.laidAll Tryz.prog os laid).forCall (fun _ _ => 0) ⟨#[], args, []⟩).memory := by
  rw [MakeChecks.laidMetH_plain _ _ _ (by kernel_rfl)]
  exact laidMet_laidAll _ (by kernel_rfl) (by kernel_rfl)
end Go.Proofs.YtlfpjdcogkcjlaaGreatDoor.F
