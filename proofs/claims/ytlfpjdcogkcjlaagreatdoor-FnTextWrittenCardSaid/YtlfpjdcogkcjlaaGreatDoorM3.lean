/- Merged: T28 AL14 Base ALib T2 T3 T4 T5 T6 T7 T8 T9 T10 T11 T12 T13 T14 T15 T16 -/
import Derived.Test.YtlfpjdcogkcjlaaGreatDoorM2
import Derived.Test.YtlfpjdcogkcjlaaGreatDoorRows
import Derived.WalkKit
import Derived.ProofKit
import Derived.LaidMore
import Derived.Lay
import Derived.Stop.Joined
import Derived.Test.YtlfpjdcogkcjlaaGreatDoorProg
import Derived.Test.YtlfpjdcogkcjlaaGreatDoorShelf
import Derived.Lib.LaidTab
import Derived.Lib.AppendIntMem
import Derived.Lib.ItoaLen
import Derived.Lib.AtoiErrMem
/- The witness: the listed variables as the program lays them. -/
namespace Go.Proofs.YtlfpjdcogkcjlaaGreatDoor.F
open Go.ChangeShapes Go.WideShapes Go.ChangeAt Go.RowKit
theorem own : ownKnob Tryz.prog.godebug = none := by kernel_rfl
noncomputable abbrev laid : List (String × DataW Unit) := Rows.fnTextBadRow.laid
theorem wit_shaped (os : Os) (args : Array Value) : ((World.laidAll Tryz.prog os laid).forCall (fun _ _ => 0) ⟨#[], args, []⟩).Shaped Tryz.prog := World.shaped_of_ZipB (by kernel_rfl) (by kernel_rfl)
theorem wit_met (os : Os) (args : Array Value) : laidMetH Tryz.prog laid ((World.laidAll Tryz.prog os laid).forCall (fun _ _ => 0) ⟨#[], args, []⟩).memory := by
  rw [MakeChecks.laidMetH_plain _ _ _ (by kernel_rfl)]
  exact laidMet_laidAll _ (by kernel_rfl) (by kernel_rfl)
end Go.Proofs.YtlfpjdcogkcjlaaGreatDoor.F
/-
  What the program's types say, as equations.
-/
namespace Go.Proofs.YtlfpjdcogkcjlaaGreatDoor.F
open Go.RowKit Go.Proofs.YtlfpjdcogkcjlaaGreatDoor.AL
set_option linter.unusedVariables false
theorem kd2 : kd Tryz.prog 2 = (some Kind.one) := by kernel_rfl
theorem sz2 : szA Tryz.prog 2 = some 1 := by kernel_rfl
theorem kd3 : kd Tryz.prog 3 = (some Kind.one) := by kernel_rfl
theorem sz3 : szA Tryz.prog 3 = some 1 := by kernel_rfl
theorem kd4 : kd Tryz.prog 4 = (some Kind.one) := by kernel_rfl
theorem sz4 : szA Tryz.prog 4 = some 1 := by kernel_rfl
theorem kd5 : kd Tryz.prog 5 = (some Kind.one) := by kernel_rfl
theorem sz5 : szA Tryz.prog 5 = some 1 := by kernel_rfl
theorem kd9 : kd Tryz.prog 9 = (some Kind.one) := by kernel_rfl
theorem sz9 : szA Tryz.prog 9 = some 1 := by kernel_rfl
theorem kd22 : kd Tryz.prog 22 = (some Kind.one) := by kernel_rfl
theorem sz22 : szA Tryz.prog 22 = some 1 := by kernel_rfl
theorem el22 : el Tryz.prog 22 = (some (3, (1, (8, ((Value.int IntKind.i64 0) :: []))))) := by kernel_rfl
theorem kd23 : kd Tryz.prog 23 = (some Kind.one) := by kernel_rfl
theorem sz23 : szA Tryz.prog 23 = some 1 := by kernel_rfl
theorem el23 : el Tryz.prog 23 = (some (47, (2, (16, ((Value.int IntKind.i64 0) :: ((Value.int IntKind.i64 0) :: [])))))) := by kernel_rfl
theorem kd25 : kd Tryz.prog 25 = (some (Kind.many 18)) := by kernel_rfl
theorem sz25 : szA Tryz.prog 25 = some 18 := by kernel_rfl
theorem zc25 : zc Tryz.prog 25 = (some ((Value.int IntKind.u8 0) :: ((Value.bool false) :: ((Value.int IntKind.i64 0) :: ((Value.int IntKind.i64 0) :: ((Value.int IntKind.i64 0) :: ((Value.int IntKind.i64 0) :: ((Value.bool false) :: ((Value.int IntKind.i64 0) :: ((Value.slice none 0 0) :: ((Value.slice none 0 0) :: ((Value.slice none 0 0) :: ((Value.slice none 0 0) :: ((Value.slice none 0 0) :: ((Value.slice none 0 0) :: ((Value.slice none 0 0) :: ((Value.slice none 0 0) :: ((Value.slice none 0 0) :: ((Value.slice none 0 0) :: []))))))))))))))))))) := by kernel_rfl
theorem fp25 : fp Tryz.prog 25 = (some ((0, 1) :: ((1, 1) :: ((2, 1) :: ((3, 1) :: ((4, 1) :: ((5, 1) :: ((6, 1) :: ((7, 1) :: ((8, 1) :: ((9, 1) :: ((10, 1) :: ((11, 1) :: ((12, 1) :: ((13, 1) :: ((14, 1) :: ((15, 1) :: ((16, 1) :: ((17, 1) :: []))))))))))))))))))) := by kernel_rfl
theorem fo25_0 : fo Tryz.prog 25 0 = (some 0) := by kernel_rfl
theorem fo25_1 : fo Tryz.prog 25 1 = (some 1) := by kernel_rfl
theorem fo25_2 : fo Tryz.prog 25 2 = (some 2) := by kernel_rfl
theorem fo25_3 : fo Tryz.prog 25 3 = (some 3) := by kernel_rfl
theorem fo25_4 : fo Tryz.prog 25 4 = (some 4) := by kernel_rfl
theorem fo25_5 : fo Tryz.prog 25 5 = (some 5) := by kernel_rfl
theorem fo25_6 : fo Tryz.prog 25 6 = (some 6) := by kernel_rfl
theorem fo25_7 : fo Tryz.prog 25 7 = (some 7) := by kernel_rfl
theorem fo25_8 : fo Tryz.prog 25 8 = (some 8) := by kernel_rfl
theorem fo25_9 : fo Tryz.prog 25 9 = (some 9) := by kernel_rfl
theorem fo25_10 : fo Tryz.prog 25 10 = (some 10) := by kernel_rfl
theorem fo25_11 : fo Tryz.prog 25 11 = (some 11) := by kernel_rfl
theorem fo25_12 : fo Tryz.prog 25 12 = (some 12) := by kernel_rfl
theorem fo25_13 : fo Tryz.prog 25 13 = (some 13) := by kernel_rfl
theorem fo25_14 : fo Tryz.prog 25 14 = (some 14) := by kernel_rfl
theorem fo25_15 : fo Tryz.prog 25 15 = (some 15) := by kernel_rfl
theorem fo25_16 : fo Tryz.prog 25 16 = (some 16) := by kernel_rfl
theorem fo25_17 : fo Tryz.prog 25 17 = (some 17) := by kernel_rfl
theorem kd31 : kd Tryz.prog 31 = (some (Kind.many 16)) := by kernel_rfl
theorem sz31 : szA Tryz.prog 31 = some 16 := by kernel_rfl
theorem zc31 : zc Tryz.prog 31 = (some ((Value.string (ByteArray.mk (List.toArray []))) :: ((Value.string (ByteArray.mk (List.toArray []))) :: ((Value.string (ByteArray.mk (List.toArray []))) :: ((Value.string (ByteArray.mk (List.toArray []))) :: ((Value.string (ByteArray.mk (List.toArray []))) :: ((Value.string (ByteArray.mk (List.toArray []))) :: ((Value.string (ByteArray.mk (List.toArray []))) :: ((Value.string (ByteArray.mk (List.toArray []))) :: ((Value.string (ByteArray.mk (List.toArray []))) :: ((Value.string (ByteArray.mk (List.toArray []))) :: ((Value.string (ByteArray.mk (List.toArray []))) :: ((Value.string (ByteArray.mk (List.toArray []))) :: ((Value.string (ByteArray.mk (List.toArray []))) :: ((Value.string (ByteArray.mk (List.toArray []))) :: ((Value.string (ByteArray.mk (List.toArray []))) :: ((Value.string (ByteArray.mk (List.toArray []))) :: []))))))))))))))))) := by kernel_rfl
theorem ar31 : ar Tryz.prog 31 = (some (16, 1)) := by kernel_rfl
theorem kd32 : kd Tryz.prog 32 = (some Kind.one) := by kernel_rfl
theorem sz32 : szA Tryz.prog 32 = some 1 := by kernel_rfl
theorem el32 : el Tryz.prog 32 = (some (52, (2, (16, ((Value.int IntKind.i64 0) :: ((Value.int IntKind.i64 0) :: [])))))) := by kernel_rfl
theorem kd34 : kd Tryz.prog 34 = (some (Kind.many 18)) := by kernel_rfl
theorem sz34 : szA Tryz.prog 34 = some 18 := by kernel_rfl
theorem zc34 : zc Tryz.prog 34 = (some ((Value.int IntKind.u8 0) :: ((Value.bool false) :: ((Value.int IntKind.i64 0) :: ((Value.int IntKind.i64 0) :: ((Value.int IntKind.i64 0) :: ((Value.int IntKind.i64 0) :: ((Value.bool false) :: ((Value.int IntKind.i64 0) :: ((Value.slice none 0 0) :: ((Value.slice none 0 0) :: ((Value.slice none 0 0) :: ((Value.slice none 0 0) :: ((Value.slice none 0 0) :: ((Value.slice none 0 0) :: ((Value.slice none 0 0) :: ((Value.slice none 0 0) :: ((Value.slice none 0 0) :: ((Value.slice none 0 0) :: []))))))))))))))))))) := by kernel_rfl
theorem fp34 : fp Tryz.prog 34 = (some ((0, 1) :: ((1, 1) :: ((2, 1) :: ((3, 1) :: ((4, 1) :: ((5, 1) :: ((6, 1) :: ((7, 1) :: ((8, 1) :: ((9, 1) :: ((10, 1) :: ((11, 1) :: ((12, 1) :: ((13, 1) :: ((14, 1) :: ((15, 1) :: ((16, 1) :: ((17, 1) :: []))))))))))))))))))) := by kernel_rfl
theorem fo34_0 : fo Tryz.prog 34 0 = (some 0) := by kernel_rfl
theorem fo34_1 : fo Tryz.prog 34 1 = (some 1) := by kernel_rfl
theorem fo34_2 : fo Tryz.prog 34 2 = (some 2) := by kernel_rfl
theorem fo34_3 : fo Tryz.prog 34 3 = (some 3) := by kernel_rfl
theorem fo34_4 : fo Tryz.prog 34 4 = (some 4) := by kernel_rfl
theorem fo34_5 : fo Tryz.prog 34 5 = (some 5) := by kernel_rfl
theorem fo34_6 : fo Tryz.prog 34 6 = (some 6) := by kernel_rfl
theorem fo34_7 : fo Tryz.prog 34 7 = (some 7) := by kernel_rfl
theorem fo34_8 : fo Tryz.prog 34 8 = (some 8) := by kernel_rfl
theorem fo34_9 : fo Tryz.prog 34 9 = (some 9) := by kernel_rfl
theorem fo34_10 : fo Tryz.prog 34 10 = (some 10) := by kernel_rfl
theorem fo34_11 : fo Tryz.prog 34 11 = (some 11) := by kernel_rfl
theorem fo34_12 : fo Tryz.prog 34 12 = (some 12) := by kernel_rfl
theorem fo34_13 : fo Tryz.prog 34 13 = (some 13) := by kernel_rfl
theorem fo34_14 : fo Tryz.prog 34 14 = (some 14) := by kernel_rfl
theorem fo34_15 : fo Tryz.prog 34 15 = (some 15) := by kernel_rfl
theorem fo34_16 : fo Tryz.prog 34 16 = (some 16) := by kernel_rfl
theorem fo34_17 : fo Tryz.prog 34 17 = (some 17) := by kernel_rfl
theorem el38 : el Tryz.prog 38 = (some (5, (1, (1, ((Value.int IntKind.u8 0) :: []))))) := by kernel_rfl
theorem el42 : el Tryz.prog 42 = (some (9, (1, (16, ((Value.string (ByteArray.mk (List.toArray []))) :: []))))) := by kernel_rfl
theorem kd47 : kd Tryz.prog 47 = (some (Kind.many 2)) := by kernel_rfl
theorem sz47 : szA Tryz.prog 47 = some 2 := by kernel_rfl
theorem zc47 : zc Tryz.prog 47 = (some ((Value.int IntKind.i64 0) :: ((Value.int IntKind.i64 0) :: []))) := by kernel_rfl
theorem fp47 : fp Tryz.prog 47 = (some ((0, 1) :: ((1, 1) :: []))) := by kernel_rfl
theorem fo47_0 : fo Tryz.prog 47 0 = (some 0) := by kernel_rfl
theorem fo47_1 : fo Tryz.prog 47 1 = (some 1) := by kernel_rfl
theorem kd52 : kd Tryz.prog 52 = (some (Kind.many 2)) := by kernel_rfl
theorem sz52 : szA Tryz.prog 52 = some 2 := by kernel_rfl
theorem zc52 : zc Tryz.prog 52 = (some ((Value.int IntKind.i64 0) :: ((Value.int IntKind.i64 0) :: []))) := by kernel_rfl
theorem fo52_0 : fo Tryz.prog 52 0 = (some 0) := by kernel_rfl
theorem el55 : el Tryz.prog 55 = (some (2, (1, (8, ((Value.int IntKind.i64 0) :: []))))) := by kernel_rfl
theorem zc60 : zc Tryz.prog 60 = (some ((Value.string (ByteArray.mk (List.toArray []))) :: ((Value.string (ByteArray.mk (List.toArray []))) :: ((Value.string (ByteArray.mk (List.toArray []))) :: ((Value.string (ByteArray.mk (List.toArray []))) :: ((Value.string (ByteArray.mk (List.toArray []))) :: ((Value.string (ByteArray.mk (List.toArray []))) :: []))))))) := by kernel_rfl
theorem kd72 : kd Tryz.prog 72 = (some (Kind.many 2)) := by kernel_rfl
theorem sz72 : szA Tryz.prog 72 = some 2 := by kernel_rfl
theorem zc72 : zc Tryz.prog 72 = (some ((Value.string (ByteArray.mk (List.toArray []))) :: ((Value.slice none 0 0) :: []))) := by kernel_rfl
theorem fp72 : fp Tryz.prog 72 = (some ((0, 1) :: ((1, 1) :: []))) := by kernel_rfl
theorem fo72_0 : fo Tryz.prog 72 0 = (some 0) := by kernel_rfl
theorem fo72_1 : fo Tryz.prog 72 1 = (some 1) := by kernel_rfl
theorem el73 : el Tryz.prog 73 = (some (72, (2, (40, ((Value.string (ByteArray.mk (List.toArray []))) :: ((Value.slice none 0 0) :: [])))))) := by kernel_rfl
theorem isStrMap76 : isStrMap Tryz.prog 76 = (some 4) := by kernel_rfl
theorem zv4 : zv Tryz.prog 4 = (some (Value.bool false)) := by kernel_rfl
theorem kd80 : kd Tryz.prog 80 = (some Kind.one) := by kernel_rfl
theorem sz80 : szA Tryz.prog 80 = some 1 := by kernel_rfl
theorem kd84 : kd Tryz.prog 84 = (some (Kind.many 2)) := by kernel_rfl
theorem sz84 : szA Tryz.prog 84 = some 2 := by kernel_rfl
theorem zc84 : zc Tryz.prog 84 = (some ((Value.int IntKind.i64 0) :: ((Value.int IntKind.i64 0) :: []))) := by kernel_rfl
theorem fp84 : fp Tryz.prog 84 = (some ((0, 1) :: ((1, 1) :: []))) := by kernel_rfl
theorem fo84_0 : fo Tryz.prog 84 0 = (some 0) := by kernel_rfl
theorem fo84_1 : fo Tryz.prog 84 1 = (some 1) := by kernel_rfl
theorem kd88 : kd Tryz.prog 88 = (some (Kind.many 4)) := by kernel_rfl
theorem sz88 : szA Tryz.prog 88 = some 4 := by kernel_rfl
theorem zc88 : zc Tryz.prog 88 = (some ((Value.int IntKind.i64 0) :: ((Value.int IntKind.i64 0) :: ((Value.int IntKind.i64 0) :: ((Value.int IntKind.i64 0) :: []))))) := by kernel_rfl
theorem fp88 : fp Tryz.prog 88 = (some ((0, 1) :: ((1, 1) :: ((2, 1) :: ((3, 1) :: []))))) := by kernel_rfl
theorem fo88_0 : fo Tryz.prog 88 0 = (some 0) := by kernel_rfl
theorem fo88_1 : fo Tryz.prog 88 1 = (some 1) := by kernel_rfl
theorem fo88_2 : fo Tryz.prog 88 2 = (some 2) := by kernel_rfl
theorem fo88_3 : fo Tryz.prog 88 3 = (some 3) := by kernel_rfl
theorem kd91 : kd Tryz.prog 91 = (some (Kind.many 3)) := by kernel_rfl
theorem sz91 : szA Tryz.prog 91 = some 3 := by kernel_rfl
theorem zc91 : zc Tryz.prog 91 = (some ((Value.int IntKind.i64 0) :: ((Value.int IntKind.i64 0) :: ((Value.int IntKind.i64 0) :: [])))) := by kernel_rfl
theorem fp91 : fp Tryz.prog 91 = (some ((0, 1) :: ((1, 1) :: ((2, 1) :: [])))) := by kernel_rfl
theorem fo91_0 : fo Tryz.prog 91 0 = (some 0) := by kernel_rfl
theorem fo91_1 : fo Tryz.prog 91 1 = (some 1) := by kernel_rfl
theorem fo91_2 : fo Tryz.prog 91 2 = (some 2) := by kernel_rfl
theorem el94 : el Tryz.prog 94 = (some (99, (2, (16, ((Value.int IntKind.i64 0) :: ((Value.int IntKind.i64 0) :: [])))))) := by kernel_rfl
theorem kd99 : kd Tryz.prog 99 = (some (Kind.many 2)) := by kernel_rfl
theorem sz99 : szA Tryz.prog 99 = some 2 := by kernel_rfl
theorem zc99 : zc Tryz.prog 99 = (some ((Value.int IntKind.i64 0) :: ((Value.int IntKind.i64 0) :: []))) := by kernel_rfl
theorem fp99 : fp Tryz.prog 99 = (some ((0, 1) :: ((1, 1) :: []))) := by kernel_rfl
theorem fo99_0 : fo Tryz.prog 99 0 = (some 0) := by kernel_rfl
theorem fo99_1 : fo Tryz.prog 99 1 = (some 1) := by kernel_rfl
theorem kd100 : kd Tryz.prog 100 = (some Kind.one) := by kernel_rfl
theorem sz100 : szA Tryz.prog 100 = some 1 := by kernel_rfl
theorem el100 : el Tryz.prog 100 = (some (84, (2, (16, ((Value.int IntKind.i64 0) :: ((Value.int IntKind.i64 0) :: [])))))) := by kernel_rfl
theorem kd102 : kd Tryz.prog 102 = (some (Kind.many 19)) := by kernel_rfl
theorem sz102 : szA Tryz.prog 102 = some 19 := by kernel_rfl
theorem zc102 : zc Tryz.prog 102 = (some ((Value.int IntKind.i64 0) :: ((Value.int IntKind.i64 0) :: ((Value.int IntKind.i64 0) :: ((Value.int IntKind.i64 0) :: ((Value.int IntKind.i64 0) :: ((Value.int IntKind.i64 0) :: ((Value.int IntKind.i64 0) :: ((Value.int IntKind.i64 0) :: ((Value.int IntKind.i64 0) :: ((Value.slice none 0 0) :: ((Value.slice none 0 0) :: ((Value.slice none 0 0) :: ((Value.slice none 0 0) :: ((Value.slice none 0 0) :: ((Value.slice none 0 0) :: ((Value.slice none 0 0) :: ((Value.slice none 0 0) :: ((Value.slice none 0 0) :: ((Value.slice none 0 0) :: [])))))))))))))))))))) := by kernel_rfl
theorem fp102 : fp Tryz.prog 102 = (some ((0, 1) :: ((1, 2) :: ((3, 1) :: ((4, 2) :: ((6, 1) :: ((7, 2) :: ((9, 1) :: ((10, 1) :: ((11, 1) :: ((12, 1) :: ((13, 1) :: ((14, 1) :: ((15, 1) :: ((16, 1) :: ((17, 1) :: ((18, 1) :: []))))))))))))))))) := by kernel_rfl
theorem fo102_0 : fo Tryz.prog 102 0 = (some 0) := by kernel_rfl
theorem fo102_1 : fo Tryz.prog 102 1 = (some 1) := by kernel_rfl
theorem fo102_2 : fo Tryz.prog 102 2 = (some 3) := by kernel_rfl
theorem fo102_3 : fo Tryz.prog 102 3 = (some 4) := by kernel_rfl
theorem fo102_4 : fo Tryz.prog 102 4 = (some 6) := by kernel_rfl
theorem fo102_5 : fo Tryz.prog 102 5 = (some 7) := by kernel_rfl
theorem fo102_6 : fo Tryz.prog 102 6 = (some 9) := by kernel_rfl
theorem fo102_7 : fo Tryz.prog 102 7 = (some 10) := by kernel_rfl
theorem fo102_8 : fo Tryz.prog 102 8 = (some 11) := by kernel_rfl
theorem fo102_9 : fo Tryz.prog 102 9 = (some 12) := by kernel_rfl
theorem fo102_10 : fo Tryz.prog 102 10 = (some 13) := by kernel_rfl
theorem fo102_11 : fo Tryz.prog 102 11 = (some 14) := by kernel_rfl
theorem fo102_12 : fo Tryz.prog 102 12 = (some 15) := by kernel_rfl
theorem fo102_13 : fo Tryz.prog 102 13 = (some 16) := by kernel_rfl
theorem fo102_14 : fo Tryz.prog 102 14 = (some 17) := by kernel_rfl
theorem fo102_15 : fo Tryz.prog 102 15 = (some 18) := by kernel_rfl
theorem kd109 : kd Tryz.prog 109 = (some (Kind.many 0)) := by kernel_rfl
theorem sz109 : szA Tryz.prog 109 = some 0 := by kernel_rfl
theorem zc109 : zc Tryz.prog 109 = (some []) := by kernel_rfl
theorem fp109 : fp Tryz.prog 109 = (some []) := by kernel_rfl
theorem isStrMap124 : isStrMap Tryz.prog 124 = (some 80) := by kernel_rfl
theorem zv80 : zv Tryz.prog 80 = (some (Value.int IntKind.i64 0)) := by kernel_rfl
theorem zc127 : zc Tryz.prog 127 = (some ((Value.string (ByteArray.mk (List.toArray []))) :: ((Value.string (ByteArray.mk (List.toArray []))) :: ((Value.string (ByteArray.mk (List.toArray []))) :: ((Value.string (ByteArray.mk (List.toArray []))) :: ((Value.string (ByteArray.mk (List.toArray []))) :: ((Value.string (ByteArray.mk (List.toArray []))) :: ((Value.string (ByteArray.mk (List.toArray []))) :: [])))))))) := by kernel_rfl
theorem kd153 : kd Tryz.prog 153 = (some (Kind.many 6)) := by kernel_rfl
theorem sz153 : szA Tryz.prog 153 = some 6 := by kernel_rfl
theorem zc153 : zc Tryz.prog 153 = (some ((Value.int IntKind.i64 0) :: ((Value.int IntKind.i64 0) :: ((Value.int IntKind.i64 0) :: ((Value.int IntKind.i64 0) :: ((Value.int IntKind.i64 0) :: ((Value.int IntKind.i64 0) :: []))))))) := by kernel_rfl
theorem ar153 : ar Tryz.prog 153 = (some (6, 1)) := by kernel_rfl
theorem isIface157 : isIface Tryz.prog 157 = (some false) := by kernel_rfl
theorem kd159 : kd Tryz.prog 159 = (some (Kind.many 1)) := by kernel_rfl
theorem sz159 : szA Tryz.prog 159 = some 1 := by kernel_rfl
theorem zc159 : zc Tryz.prog 159 = (some ((Value.string (ByteArray.mk (List.toArray []))) :: [])) := by kernel_rfl
theorem fp159 : fp Tryz.prog 159 = (some ((0, 1) :: [])) := by kernel_rfl
theorem isStrMap177 : isStrMap Tryz.prog 177 = (some 84) := by kernel_rfl
theorem zv84 : zv Tryz.prog 84 = (some (Value.agg (List.toArray ((Value.int IntKind.i64 0) :: ((Value.int IntKind.i64 0) :: []))))) := by kernel_rfl
theorem fp52 : fp Tryz.prog 52 = some [(0, 1), (1, 1)] := by kernel_rfl
theorem eq2_47 : eq2 Tryz.prog 47 = true := by kernel_rfl
theorem eq2_84 : eq2 Tryz.prog 84 = true := by kernel_rfl
theorem eq2_99 : eq2 Tryz.prog 99 = true := by kernel_rfl
theorem fp31 : fp Tryz.prog 31 = none := by kernel_rfl
theorem ars31 : ars Tryz.prog 31 = some 1 := by kernel_rfl
theorem fp60 : fp Tryz.prog 60 = none := by kernel_rfl
theorem ars60 : ars Tryz.prog 60 = some 1 := by kernel_rfl
theorem fp127 : fp Tryz.prog 127 = none := by kernel_rfl
theorem ars127 : ars Tryz.prog 127 = some 1 := by kernel_rfl
theorem mixed : Tryz.prog.follows .mixedOrders = true := by kernel_rfl
end Go.Proofs.YtlfpjdcogkcjlaaGreatDoor.F
/-
  The facts of the package-level variables that the texts' functions read, carried over calls; and the shelf's contracts in the forms that the walks use.
-/
namespace Go.Proofs.YtlfpjdcogkcjlaaGreatDoor.B
open Go.RowKit
set_option linter.unusedVariables false

theorem pw_cell_below {w w' : World} (hb : Below w.heap.size w w') {a : Addr} {x : Value} (h : w.cell? a = some x) : w'.cell? a = some x :=
  (hb.cell (World.block_lt_of_cell? w a h)).trans h
/-- What the listed variables hold. -/
structure Glob (w : World) : Prop where
  ascii : Lib.TabIs Tryz.prog w "strings.asciiSpace" .u8 Lib.asciiSpaceTab
  pow : Lib.TabIs Tryz.prog w "internal/strconv.uint64pow10" .u64 Lib.pow10Tab
  errS : ∃ ev, w.cell? ⟨10, 0, none⟩ = some ev ∧ (ev = .nilIface ∨ ∃ te pe, ev = .iface te pe)
  errR : ∃ ev, w.cell? ⟨11, 0, none⟩ = some ev ∧ (ev = .nilIface ∨ ∃ te pe, ev = .iface te pe)
  mo : w.cell? ⟨0, 0, none⟩ = some (.int .i64 0) ∧ w.cell? ⟨0, 1, none⟩ = some (.int .i64 0)
  tu : w.cell? ⟨2, 0, none⟩ = some (.int .i64 1) ∧ w.cell? ⟨2, 1, none⟩ = some (.int .i64 0)
  we : w.cell? ⟨3, 0, none⟩ = some (.int .i64 2) ∧ w.cell? ⟨3, 1, none⟩ = some (.int .i64 0)
  th : w.cell? ⟨4, 0, none⟩ = some (.int .i64 3) ∧ w.cell? ⟨4, 1, none⟩ = some (.int .i64 0)
  fr : w.cell? ⟨5, 0, none⟩ = some (.int .i64 4) ∧ w.cell? ⟨5, 1, none⟩ = some (.int .i64 0)
  sa : w.cell? ⟨6, 0, none⟩ = some (.int .i64 5) ∧ w.cell? ⟨6, 1, none⟩ = some (.int .i64 0)
  su : w.cell? ⟨7, 0, none⟩ = some (.int .i64 6) ∧ w.cell? ⟨7, 1, none⟩ = some (.int .i64 0)

theorem gAscii : Tryz.prog.globalNamed "strings.asciiSpace" = some 1 := by kernel_rfl
theorem gPow : Tryz.prog.globalNamed "internal/strconv.uint64pow10" = some 9 := by kernel_rfl

theorem tab_below {n : String} {g : Nat} {k : IntKind} {zs : List Int} {w w' : World} (hg : Tryz.prog.globalNamed n = some g) (h : Lib.TabIs Tryz.prog w n k zs) (hb : Below w.heap.size w w') : Lib.TabIs Tryz.prog w' n k zs := by
  unfold Lib.TabIs World.var? at h ⊢
  rw [hg] at h ⊢
  simp only [Option.bind_some] at h ⊢
  have hlt : g < w.heap.size := by
    rcases Nat.lt_or_ge g w.heap.size with h' | h'
    · exact h'
    · rw [Array.getElem?_eq_none h'] at h; cases h
  rw [hb.block g hlt]
  exact h
theorem two_below {w w' : World} (hb : Below w.heap.size w w') {a b : Addr} {x y : Value} (h : w.cell? a = some x ∧ w.cell? b = some y) : w'.cell? a = some x ∧ w'.cell? b = some y :=
  ⟨pw_cell_below hb h.1, pw_cell_below hb h.2⟩
theorem Glob.below {w w' : World} (h : Glob w) (hb : Below w.heap.size w w') : Glob w' where
  ascii := tab_below gAscii h.ascii hb
  pow := tab_below gPow h.pow hb
  errS := by obtain ⟨ev, h1, h2⟩ := h.errS; exact ⟨ev, pw_cell_below hb h1, h2⟩
  errR := by obtain ⟨ev, h1, h2⟩ := h.errR; exact ⟨ev, pw_cell_below hb h1, h2⟩
  mo := two_below hb h.mo
  tu := two_below hb h.tu
  we := two_below hb h.we
  th := two_below hb h.th
  fr := two_below hb h.fr
  sa := two_below hb h.sa
  su := two_below hb h.su

/-- strconv.Itoa. -/
theorem itoa_calls (n : Int) (h0 : -9223372036854775808 ≤ n) (h1 : n ≤ 9223372036854775807) (w : World) (hG : Glob w) :
    Calls Tryz.prog 35 #[.int .i64 n] w fun e w' => e = .returned (.string ⟨(Lib.itoa n).toArray⟩) ∧ Below w.heap.size w w' :=
  (Tryz.strconv_Itoa n h0 h1 w hG.pow).mono fun e w' ⟨he, k, os, hw⟩ => ⟨he, hw ▸ Lib.below_grow _ w (Nat.le_refl _) k os⟩

end Go.Proofs.YtlfpjdcogkcjlaaGreatDoor.B
/-
  Contracts of the library in the logic's terms.
-/
namespace Go.Proofs.YtlfpjdcogkcjlaaGreatDoor.AL
open Go.RowKit
set_option linter.unusedVariables false
set_option linter.unusedSimpArgs false
variable {P : Program} {C : Base}

theorem szs_below {w w' : World} (h : Below w.heap.size w w') : Szs w w' := fun b arr e fr hb => by
  have hlt : b < w.heap.size := (Array.getElem?_eq_some_iff.1 hb).1
  exact ⟨arr, by rw [h.block b hlt]; exact hb, rfl⟩
theorem RepH.belowW {m : Places} {w w' : World} {H : Heap} (h : RepH C m w H) (hb : Below w.heap.size w w') : RepH C m w' H where
  below := h.below.trans (hb.mono h.size)
  size := Nat.le_trans h.size hb.size
  len := h.len
  glob := h.glob
  obj := fun o x b hx hm => by
    cases x with
    | gone => trivial
    | _ => exact relO_far (h.obj o _ b hx hm) (szs_below hb) (hb.block _ (h.mine_lt hx hm (by simp)))
  apart := h.apart
theorem vals_eq {m : Places} {w : World} {args : List Value} {vals : Array Value} (h : rels m w (args.map .val) vals.toList) : vals = args.toArray := by
  have hp : ∀ l : List Value, plains (l.map .val) = some l := by
    intro l
    induction l with
    | nil => rfl
    | cons v l ih => simp [plains, plain, ih]
  have := plains_rel (hp args) h
  rw [← this]
/-- A library's function that answers plainly. -/
theorem A_lib {f : FuncId} {args : List Value} {rv : Value} {H : Heap} (hc : Callable P f) (h : ∀ w, Below C.B C.w0 w → C.B ≤ w.heap.size → Calls P f args.toArray w fun e w' => e = .returned rv ∧ Below w.heap.size w w') : ACalls P C f (args.map .val) H fun r H' => r = .val rv ∧ H' = H :=
  ⟨hc, fun m w vals h1 h2 => by
    rw [vals_eq h2]
    refine (h w h1.below h1.size).mono ?_
    rintro e w' ⟨rfl, hb⟩
    exact ⟨rv, m, H, .val rv, rfl, ⟨List.prefix_refl m, szs_below hb, h1.belowW hb⟩, rfl, rfl, rfl⟩⟩
theorem callable_of {f : FuncId} {fn : Func} (hf : P.funcs[f]? = some fn) (hn : (fn.name == "runtime.NumGoroutine") = false) (hb : fn.body.isNone = false) : Callable P f := ⟨fn, hf, hn, hb⟩

/-- Where a claim's call begins: the world, its variables laid as the program lays them. -/
abbrev CB (w0 : World) : Base := ⟨w0.heap.size, w0, 19⟩
end Go.Proofs.YtlfpjdcogkcjlaaGreatDoor.AL
namespace Go.Proofs.YtlfpjdcogkcjlaaGreatDoor.F
open Go.RowKit Go.Proofs.YtlfpjdcogkcjlaaGreatDoor.AL Go.Proofs.YtlfpjdcogkcjlaaGreatDoor.B
set_option linter.unusedVariables false
theorem itoa_A {w0 : World} (hG : Glob w0) (n : Int) (h0 : -9223372036854775808 ≤ n) (h1 : n ≤ 9223372036854775807) (H : Heap) : ACalls Tryz.prog (CB w0) 35 [vI n] H fun r H' => r = vS (Lib.itoa n) ∧ H' = H :=
  A_lib (args := [.int .i64 n]) (callable_of Tryz.func35 (by kernel_rfl) (by kernel_rfl)) fun w hb _ => itoa_calls n h0 h1 w (hG.below hb)
end Go.Proofs.YtlfpjdcogkcjlaaGreatDoor.F
/- The dates' texts. -/
namespace Go.Proofs.YtlfpjdcogkcjlaaGreatDoor.F
open Go.RowKit Go.Proofs.YtlfpjdcogkcjlaaGreatDoor.AL Go.Proofs.YtlfpjdcogkcjlaaGreatDoor.B
set_option linter.unusedVariables false
set_option linter.unusedSimpArgs false
set_option maxRecDepth 20000
attribute [local irreducible] aops acode bindK bindV bindH callX callK condK guardK Kseq Kblk Knorm Kfun Kloop Kjoin outK AWp appendA
attribute [local go_sem] acode_skip acode_seq acode_region acode_cond acode_block acode_exit acode_ret acode_loop Kseq_normal Kseq_exit Kseq_ret Kblk_normal Kblk_ret Kblk_eq Kblk_ne Knorm_eq Kloop_normal Kloop_exit Kloop_ret Kjoin_normal Kjoin_exit Kjoin_ret condK_true condK_false bindK_put bindV_put bindK_no bindV_no bindH_no aops_nil gops wantK_some wantV_bool wantV_undef guardK_true guardK_false guardK_none aops_move aops_assign aops_pick aops_nilCheck aops_binOp aops_unOp aops_convert aops_fieldAddr aops_indexAddr aops_slice aops_index aops_extract aops_makeInterface aops_makeFunc aops_build aops_load aops_lookup aops_alloc aops_box aops_buildSlice aops_makeSlice aops_makeMap aops_store aops_insert aops_mapUpdate aops_len aops_append aops_call opA_tmp opA_const opA_global opA_func get_mk look_nil look_eq look_ne len_mk List.map_cons List.map_nil Option.map_some Option.map_none bin_add bin_sub bin_mul bin_quo bin_rem bin_eql bin_neq bin_lss bin_leq bin_gtr bin_geq bin_cat bin_seql bin_sneq bin_neq_ifc bin_eql_ifc bin_neq_nn bin_eql_nn bin_neq_ptr bin_eql_ptr bin_neq_pn isIfc_true isPtr_true bin_eql2 bin_neq2 aops_max max_int un_not un_neg lenA_K lenK_str lenK_nil lenK_sl lenK_array pick_bool pick_val bindV_ite bindK_ite bindH_ite slotV_sl slotK_some slotV_ptr slotR_some sliceV_sl cutK_some sliceV_str cutS_some bound_none bound_some indexA_str atS_some mkS fieldV_ptr loadV_ptr cellsK_ro cellsK_own loadK_one loadK_many storeA_ptr storeK_own allocA_some heap_len heap_get0 heap_get heap_set0 heap_set Kfun_ret Kfun_normal resA_nil resA_tmp resA_cell outK_some packA_one packA_nil packA_two List.length_cons List.length_nil List.getElem?_cons_zero List.getElem?_cons_succ List.set_cons_zero List.set_cons_succ List.cons_append List.nil_append List.append_assoc Nat.zero_add Nat.add_zero List.all_cons List.all_nil Value.oneCell' Bool.and_true Bool.and_self if_true if_false Bool.false_eq_true partsA buildV buildA fillA Option.bind_some putCells List.drop_succ_cons List.drop_zero List.take_succ_cons List.take_zero List.take_nil List.drop_nil and_self and_true true_and Option.some.injEq ne_eq not_false_eq_true Option.map_map List.getElem?_toArray beq_self_eq_true Bool.true_beq Bool.false_beq Bool.not_true Bool.not_false decide_true decide_false beq_true Nat.mul_one Nat.one_mul Nat.zero_mul bsA buildSliceA zerosN List.append_nil Int.toNat_natCast Int.toNat_zero boxA one_val one_ptr one_sl one_mp one_ifc one_fn avCells_agg avCells_val valCells_true valCells_agg avCells_ptr avCells_sl avCells_mp avCells_ifc avCells_fn app_cons app_nil lookupA insertA ifaceV extractA kd2 ars127 fp127 ars60 fp60 ars31 fp31 eq2_99 eq2_84 eq2_47 fp52 sz2 kd3 sz3 kd4 sz4 kd5 sz5 kd9 sz9 kd22 sz22 el22 kd23 sz23 el23 kd25 sz25 zc25 fp25 fo25_0 fo25_1 fo25_2 fo25_3 fo25_4 fo25_5 fo25_6 fo25_7 fo25_8 fo25_9 fo25_10 fo25_11 fo25_12 fo25_13 fo25_14 fo25_15 fo25_16 fo25_17 kd31 sz31 zc31 ar31 kd32 sz32 el32 kd34 sz34 zc34 fp34 fo34_0 fo34_1 fo34_2 fo34_3 fo34_4 fo34_5 fo34_6 fo34_7 fo34_8 fo34_9 fo34_10 fo34_11 fo34_12 fo34_13 fo34_14 fo34_15 fo34_16 fo34_17 el38 el42 kd47 sz47 zc47 fp47 fo47_0 fo47_1 kd52 sz52 zc52 fo52_0 el55 zc60 kd72 sz72 zc72 fp72 fo72_0 fo72_1 el73 isStrMap76 zv4 kd80 sz80 kd84 sz84 zc84 fp84 fo84_0 fo84_1 kd88 sz88 zc88 fp88 fo88_0 fo88_1 fo88_2 fo88_3 kd91 sz91 zc91 fp91 fo91_0 fo91_1 fo91_2 el94 kd99 sz99 zc99 fp99 fo99_0 fo99_1 kd100 sz100 el100 kd102 sz102 zc102 fp102 fo102_0 fo102_1 fo102_2 fo102_3 fo102_4 fo102_5 fo102_6 fo102_7 fo102_8 fo102_9 fo102_10 fo102_11 fo102_12 fo102_13 fo102_14 fo102_15 kd109 sz109 zc109 fp109 isStrMap124 zv80 zc127 kd153 sz153 zc153 ar153 isIface157 kd159 sz159 zc159 fp159 isStrMap177 zv84 Tryz.underlying3 Tryz.underlying4 Tryz.underlying5 Tryz.underlying9 Tryz.underlying21 Tryz.underlying22 Tryz.underlying23 Tryz.underlying32 Tryz.underlying38 Tryz.underlying42 Tryz.underlying47 Tryz.underlying55 Tryz.underlying67 Tryz.underlying73 Tryz.underlying80 Tryz.underlying84 Tryz.underlying94 Tryz.underlying100 Tryz.underlying2 Tryz.underlying127 Tryz.underlying60 Tryz.underlying31
attribute [local go_sem_proc] Nat.reduceLT Nat.reduceBEq Nat.reduceAdd Int.reduceBEq Nat.reduceLeDiff reduceIte Nat.reduceEqDiff Int.reduceEq Int.reduceLE Int.reduceLT Int.reduceNe Nat.reduceMul Nat.reduceSub Int.reduceToNat
theorem momentOf_A (w0 : World) (t : Int) (h0 : 0 ≤ t) (h1 : t ≤ 9223372036854775807) (H : Heap) : ACalls Tryz.prog (CB w0) 45 [vI t] H fun r H' => r = .agg [vI (t / 86400), vI (t % 86400 / 3600), vI (t % 86400 / 60 % 60), vI (t % 86400 % 60)] ∧ ∃ G, H' = H ++ G := by
  refine A_fun (N := 16) (rs := [.cell 2 88]) Tryz.func45 rfl rfl rfl (by kernel_rfl) (by kernel_rfl) (Nat.le_of_ble_eq_true rfl) ?_
  rintro e he ⟨g0, -⟩
  simp only [go_sem, he, g0]
  rw [Int.tdiv_eq_ediv_of_nonneg h0, Int.tmod_eq_emod_of_nonneg h0]
  have q := Int.emod_nonneg t (show (86400 : Int) ≠ 0 by omega)
  rw [Int.tdiv_eq_ediv_of_nonneg q, Int.tdiv_eq_ediv_of_nonneg q, Int.tmod_eq_emod_of_nonneg q, wI64 (by omega), wI64 (by omega), wI64 (by omega), Int.tmod_eq_emod_of_nonneg (by omega)]
  exact ⟨rfl, _, rfl⟩
def padTo (d : Nat) (l : List UInt8) : Nat → List UInt8
  | 0 => l
  | k + 1 => if l.length < d then padTo d (48 :: l) k else l
def padded (n d : Int) : List UInt8 := padTo d.toNat (Lib.itoa n) d.toNat
theorem padTo_done (d : Nat) (l : List UInt8) (h : d ≤ l.length) : ∀ k, padTo d l k = l
  | 0 => rfl
  | k + 1 => by simp [padTo]; omega
theorem padded_A {w0 : World} (hG : Glob w0) (n d : Int) (h0 : -9223372036854775808 ≤ n) (h1 : n ≤ 9223372036854775807) (hd0 : 0 ≤ d) (hd : d ≤ 100) (H : Heap) : ACalls Tryz.prog (CB w0) 47 [vI n, vI d] H fun r H' => r = vS (padded n d) ∧ H' = H := by
  refine A_fun (N := 15) (rs := [.tmp 4]) Tryz.func47 rfl rfl rfl (by kernel_rfl) (by kernel_rfl) (Nat.le_of_ble_eq_true rfl) ?_
  rintro e he ⟨g0, g1, -⟩
  simp only [go_sem, he, g0, g1]
  refine callX_of (r := _) (H' := H) (itoa_A hG n h0 h1 H) (List.prefix_refl _) ?_
  simp only [go_sem, he, g0, g1, setD_some]
  refine A_while d.toNat (fun k e h => h = H ∧ len e = 15 ∧ AL.get e 1 = vI d ∧ ∃ l, AL.get e 5 = vS l ∧ padTo d.toNat l k = padded n d ∧ d.toNat ≤ l.length + k) (by kernel_rfl) ?_ ?_
  · simp only [go_sem, he, g0, g1]
    exact ⟨_, rfl, rfl, by omega⟩
  · rintro k e h ⟨rfl, he, g1, l, g5, hk, hl⟩
    simp only [go_sem, he, g1, g5]
    refine condK_of (fun hc => ?_) fun hc => ?_
    · have hc := of_decide_eq_true hc
      simp only [go_sem, he, g1, g5]
      refine ⟨by omega, ?_⟩
      obtain ⟨j, rfl⟩ : ∃ j, k = j + 1 := ⟨k - 1, by omega⟩
      rw [padTo, if_pos (by omega)] at hk
      exact ⟨j, by omega, _, rfl, hk, by simp only [List.length_cons]; omega⟩
    · have hc := of_decide_eq_false hc
      simp only [go_sem, he, g1, g5]
      rw [padTo_done _ _ (by omega)] at hk
      rw [hk]

/-- Is a year a leap year? -/
def leap (y : Int) : Bool := decide (y % 4 = 0) && (decide (y % 100 ≠ 0) || decide (y % 400 = 0))
theorem leap_A {w0 : World} (y : Int) (h0 : 0 ≤ y) (H : Heap) : ACalls Tryz.prog (CB w0) 97 [vI y] H fun r H' => r = vB (leap y) ∧ H' = H := by
  refine A_fun (N := 16) (rs := [.tmp 2]) Tryz.func97 rfl rfl rfl (by kernel_rfl) (by kernel_rfl) (Nat.le_of_ble_eq_true rfl) ?_
  rintro e he ⟨g0, -⟩
  have e4 : y.tmod 4 = y % 4 := Int.tmod_eq_emod_of_nonneg h0
  have e1 : y.tmod 100 = y % 100 := Int.tmod_eq_emod_of_nonneg h0
  have e2 : y.tmod 400 = y % 400 := Int.tmod_eq_emod_of_nonneg h0
  by_cases c4 : y % 4 = 0
  · by_cases c1 : y % 100 = 0
    · simp only [go_sem, he, g0, e4, e1, e2, c4, c1]
      simp [leap, c4, c1]
    · simp only [go_sem, he, g0, e4, e1, e2, c4, c1]
      simp [leap, c4, c1]
  · simp only [go_sem, he, g0, e4, c4]
    simp [leap, c4]
def monthDays (y m : Int) : Int := if m = 4 ∨ m = 6 ∨ m = 9 ∨ m = 11 then 30 else if m = 2 then (if leap y then 29 else 28) else 31
theorem monthDays_A {w0 : World} (y m : Int) (h0 : 0 ≤ y) (H : Heap) : ACalls Tryz.prog (CB w0) 73 [vI y, vI m] H fun r H' => r = vI (monthDays y m) ∧ H' = H := by
  refine A_fun (N := 15) (rs := [.tmp 4]) Tryz.func73 rfl rfl rfl (by kernel_rfl) (by kernel_rfl) (Nat.le_of_ble_eq_true rfl) ?_
  rintro e he ⟨g0, g1, -⟩
  unfold monthDays
  by_cases a4 : m = 4
  · simp only [go_sem, he, g0, g1, a4, true_or]
  by_cases a6 : m = 6
  · simp only [go_sem, he, g0, g1, a6, true_or, or_true]
  by_cases a9 : m = 9
  · simp only [go_sem, he, g0, g1, a9, true_or, or_true]
  by_cases a11 : m = 11
  · simp only [go_sem, he, g0, g1, a11, true_or, or_true]
  by_cases a2 : m = 2
  · simp only [go_sem, he, g0, g1, a2, or_false, if_false]
    refine callX_of (leap_A y h0 H) (List.prefix_refl _) ?_
    simp only [go_sem, he, setD_some]
    cases leap y <;> simp only [go_sem, he, if_false, Bool.false_eq_true]
  simp only [go_sem, he, g0, g1, a4, a6, a9, a11, a2, or_false, if_false]
/-- The days before a year. -/
def before (y : Int) : Int := 365 * (y - 1) + (y - 1) / 4 - (y - 1) / 100 + (y - 1) / 400
theorem before_A {w0 : World} (y : Int) (h0 : 1 ≤ y) (h1 : y ≤ 1000000000000) (H : Heap) : ACalls Tryz.prog (CB w0) 24 [vI y] H fun r H' => r = vI (before y) ∧ H' = H := by
  refine A_fun (N := 17) (rs := [.tmp 2]) Tryz.func24 rfl rfl rfl (by kernel_rfl) (by kernel_rfl) (Nat.le_of_ble_eq_true rfl) ?_
  rintro e he ⟨g0, -⟩
  have w1 : IntKind.i64.wrap (y - 1) = y - 1 := wI64 (by omega)
  have t4 : (y - 1).tdiv 4 = (y - 1) / 4 := Int.tdiv_eq_ediv_of_nonneg (by omega)
  have t1 : (y - 1).tdiv 100 = (y - 1) / 100 := Int.tdiv_eq_ediv_of_nonneg (by omega)
  have t2 : (y - 1).tdiv 400 = (y - 1) / 400 := Int.tdiv_eq_ediv_of_nonneg (by omega)
  simp only [go_sem, he, g0, w1, t4, t1, t2]
  rw [wI64 (n := 365 * (y - 1)) (by omega), wI64 (n := (y - 1) / 4) (by omega), wI64 (n := (y - 1) / 100) (by omega), wI64 (n := (y - 1) / 400) (by omega), wI64 (n := 365 * (y - 1) + (y - 1) / 4) (by omega), wI64 (n := 365 * (y - 1) + (y - 1) / 4 - (y - 1) / 100) (by omega), wI64 (by omega)]
  rfl
/-- The year of a day, from a year on. -/
def yearUp (n : Int) : Nat → Int → Int
  | 0, y => y
  | k + 1, y => if before (y + 1) ≤ n then yearUp n k (y + 1) else y
def monthUp (y : Int) : Nat → Int → Int → Int × Int
  | 0, m, d => (m, d)
  | k + 1, m, d => if monthDays y m < d then monthUp y k (m + 1) (d - monthDays y m) else (m, d)
def yearOf (n : Int) : Int := yearUp n (n.toNat + 1) (n / 366 + 1)
def dayOf (n : Int) : Int × Int := monthUp (yearOf n) 400 1 (n - before (yearOf n) + 1)
theorem yearUp_done {n y : Int} (h : ¬ before (y + 1) ≤ n) : ∀ k, yearUp n k y = y
  | 0 => rfl
  | k + 1 => by rw [yearUp, if_neg h]
theorem monthUp_done {y m d : Int} (h : ¬ monthDays y m < d) : ∀ k, monthUp y k m d = (m, d)
  | 0 => rfl
  | k + 1 => by rw [monthUp, if_neg h]
theorem before_big {y : Int} (h : 1 ≤ y) : y - 1 ≤ before y := by unfold before; omega
theorem before_step (y : Int) : before (y + 1) ≤ before y + 367 := by unfold before; omega
theorem monthDays_pos (y m : Int) : 28 ≤ monthDays y m ∧ monthDays y m ≤ 31 := by unfold monthDays; split <;> (try split) <;> (try split) <;> omega
theorem dayOf_A {w0 : World} (n : Int) (h0 : 0 ≤ n) (h1 : n ≤ 100000000) (H : Heap) : ACalls Tryz.prog (CB w0) 46 [vI n] H fun r H' => r = .agg [vI (yearOf n), vI (dayOf n).1, vI (dayOf n).2] ∧ ∃ G, H' = H ++ G := by
  refine A_fun (N := 42) (rs := [.cell 2 91]) Tryz.func46 rfl rfl rfl (by kernel_rfl) (by kernel_rfl) (Nat.le_of_ble_eq_true rfl) ?_
  rintro e he ⟨g0, -⟩
  have t1 : n.tdiv 366 = n / 366 := Int.tdiv_eq_ediv_of_nonneg h0
  have w1 : IntKind.i64.wrap (n / 366) = n / 366 := wI64 (by omega)
  have w2 : IntKind.i64.wrap (n / 366 + 1) = n / 366 + 1 := wI64 (by omega)
  simp only [go_sem, he, g0, t1, w1, w2]
  refine A_while (n.toNat + 1) (fun k e h => h = H ++ [.own 91 [vI 0, vI 0, vI 0]] ∧ len e = 42 ∧ AL.get e 0 = vI n ∧ AL.get e 2 = .ptr H.length 0 ∧ ∃ y : Int, AL.get e 3 = vI y ∧ yearUp n k y = yearOf n ∧ n + 1 ≤ y + k ∧ 1 ≤ y ∧ y ≤ n + 1 ∧ before y ≤ n) (by kernel_rfl) ?_ ?_
  · simp only [go_sem, he, g0]
    exact ⟨_, rfl, rfl, by omega, by omega, by omega, by unfold before; omega⟩
  · rintro k e h ⟨rfl, he, g0, g2, y, g3, hk, hm, hy, hy2, hbn⟩
    have w1 : IntKind.i64.wrap (y + 1) = y + 1 := wI64 (by omega)
    simp only [go_sem, he, g0, g2, g3, w1]
    refine callX_of (before_A (y + 1) (by omega) (by omega) _) (List.prefix_refl _) ?_
    simp only [go_sem, he, g0, g2, g3, w1, setD_some]
    refine condK_of (fun hc => ?_) fun hc => ?_
    · have hc := of_decide_eq_true hc
      have hb := before_big (y := y + 1) (by omega)
      simp only [go_sem, he, g0, g2, g3, w1]
      obtain ⟨j, rfl⟩ : ∃ j, k = j + 1 := ⟨k - 1, by omega⟩
      rw [yearUp, if_pos hc] at hk
      exact ⟨j, by omega, _, rfl, hk, by omega, by omega, by omega, hc⟩
    · have hc := of_decide_eq_false hc
      rw [yearUp_done hc] at hk
      subst hk
      simp only [go_sem, he, g0, g2, g3, w1]
      refine callX_of (before_A (yearOf n) (by omega) (by omega) _) (List.prefix_refl _) ?_
      have hb0 := before_big hy
      have hd : n - before (yearOf n) + 1 ≤ 367 := by have := before_step (yearOf n); omega
      have w3 : IntKind.i64.wrap (n - before (yearOf n)) = n - before (yearOf n) := wI64 (by omega)
      have w4 : IntKind.i64.wrap (n - before (yearOf n) + 1) = n - before (yearOf n) + 1 := wI64 (by omega)
      simp only [go_sem, he, g0, g2, g3, w1, w3, w4, setD_some, List.replicate]
      generalize hY : yearOf n = y at *
      refine A_while 400 (fun k e h => ∃ m d : Int, h = H ++ [.own 91 [vI 0, vI 0, vI 0], .own 91 [vI y, vI m, vI d]] ∧ len e = 42 ∧ AL.get e 2 = .ptr H.length 0 ∧ AL.get e 3 = vI y ∧ AL.get e 4 = .ptr (H.length + 1) 0 ∧ monthUp y k m d = dayOf n ∧ d ≤ 28 * k ∧ 1 ≤ m ∧ m + k ≤ 401) (by kernel_rfl) ?_ ?_
      · simp only [go_sem, he, g2, g3]
        exact ⟨1, n - before y + 1, rfl, by unfold dayOf; rw [hY], by omega, by omega, by omega⟩
      · rintro k e h ⟨m, d, rfl, he, g2, g3, g4, hk, hd, hm, hmk⟩
        have hp := monthDays_pos y m
        simp only [go_sem, he, g2, g3, g4]
        refine acode_draw mixed (by kernel_rfl) ?_
        simp only [go_sem, he, g2, g3, g4]
        refine callX_of (monthDays_A y m (by omega) _) (List.prefix_refl _) ?_
        simp only [go_sem, he, g2, g3, g4, setD_some]
        refine condK_of (fun hc => ?_) fun hc => ?_
        · have hc := of_decide_eq_true hc
          simp only [go_sem, he, g2, g3, g4]
          refine acode_draw mixed (by kernel_rfl) ?_
          simp only [go_sem, he, g2, g3, g4]
          refine callX_of (monthDays_A y m (by omega) _) (List.prefix_refl _) ?_
          simp only [go_sem, he, g2, g3, g4, setD_some]
          rw [wI64 (n := m + 1) (by omega), wI64 (n := d - monthDays y m) (by omega)]
          obtain ⟨j, rfl⟩ : ∃ j, k = j + 1 := ⟨k - 1, by omega⟩
          rw [monthUp, if_pos hc] at hk
          exact ⟨j, by omega, _, _, rfl, hk, by omega, by omega, by omega⟩
        · have hc := of_decide_eq_false hc
          rw [monthUp_done hc] at hk
          rw [← hk]
          simp only [go_sem, he, g2, g3, g4]
          exact ⟨_, rfl⟩
theorem momentOf_P {w0 : World} (t : Int) (h0 : 0 ≤ t) (h1 : t ≤ 9223372036854775807) (H : Heap) : ACalls Tryz.prog (CB w0) 45 [vI t] H fun r H' => r = .agg [vI (t / 86400), vI (t % 86400 / 3600), vI (t % 86400 / 60 % 60), vI (t % 86400 % 60)] ∧ H' = H :=
  (momentOf_A w0 t h0 h1 H).plain1 rfl
theorem dayOf_P {w0 : World} (n : Int) (h0 : 0 ≤ n) (h1 : n ≤ 100000000) (H : Heap) : ACalls Tryz.prog (CB w0) 46 [vI n] H fun r H' => r = .agg [vI (yearOf n), vI (dayOf n).1, vI (dayOf n).2] ∧ H' = H :=
  (dayOf_A n h0 h1 H).plain1 rfl
/-- spec.DateText -/
def dateText (t : Int) : List UInt8 :=
  padded (yearOf (t / 86400)) 4 ++ padded (dayOf (t / 86400)).1 2 ++ padded (dayOf (t / 86400)).2 2 ++ [84] ++ padded (t % 86400 / 3600) 2 ++ padded (t % 86400 / 60 % 60) 2 ++ padded (t % 86400 % 60) 2 ++ [90]
theorem padTo_length (d : Nat) : ∀ (k : Nat) (l : List UInt8), (padTo d l k).length ≤ max d l.length
  | 0, l => by simp [padTo]; omega
  | k + 1, l => by
    unfold padTo
    split
    · have := padTo_length d k (48 :: l)
      simp only [List.length_cons] at this
      omega
    · omega
theorem yearUp_le {n : Int} : ∀ (k : Nat) (y : Int), before y ≤ n → 1 ≤ y → before (yearUp n k y) ≤ n ∧ y ≤ yearUp n k y ∧ yearUp n k y ≤ y + k
  | 0, y, h, h1 => ⟨h, by simp [yearUp], by simp [yearUp]⟩
  | k + 1, y, h, h1 => by
    unfold yearUp
    split
    · rename_i hc
      have := yearUp_le k (y + 1) hc (by omega)
      omega
    · omega
theorem yearOf_ok {n : Int} (h : 0 ≤ n) : before (yearOf n) ≤ n ∧ 1 ≤ yearOf n ∧ yearOf n ≤ 2 * n + 2 := by
  have := yearUp_le (n := n) (n.toNat + 1) (n / 366 + 1) (by unfold before; omega) (by omega)
  unfold yearOf
  omega
theorem monthUp_ok (y : Int) : ∀ (k : Nat) (m d : Int), 1 ≤ d → m ≤ (monthUp y k m d).1 ∧ (monthUp y k m d).1 ≤ m + k ∧ 1 ≤ (monthUp y k m d).2 ∧ (monthUp y k m d).2 ≤ d
  | 0, m, d, h => by simp [monthUp]; omega
  | k + 1, m, d, h => by
    have hp := monthDays_pos y m
    unfold monthUp
    split
    · rename_i hc
      have := monthUp_ok y k (m + 1) (d - monthDays y m) (by omega)
      omega
    · simp only; omega
theorem dayOf_ok {n : Int} (h : 0 ≤ n) : 1 ≤ (dayOf n).1 ∧ (dayOf n).1 ≤ 401 ∧ 1 ≤ (dayOf n).2 ∧ (dayOf n).2 ≤ n + 1 := by
  have h1 := yearOf_ok h
  have h2 := before_big h1.2.1
  have := monthUp_ok (yearOf n) 400 1 (n - before (yearOf n) + 1) (by omega)
  unfold dayOf
  omega
theorem padded_length (n : Int) (d : Int) (h0 : -9223372036854775808 ≤ n) (h1 : n ≤ 9223372036854775807) (hd : d ≤ 100) : (padded n d).length ≤ 100 := by
  have := padTo_length d.toNat d.toNat (Lib.itoa n)
  have := Lib.itoa_length_le n h0 h1
  unfold padded
  omega
theorem dateText_A {w0 : World} (hG : Glob w0) (t : Int) (h0 : 0 ≤ t) (h1 : t ≤ 1000000000000) (H : Heap) : ACalls Tryz.prog (CB w0) 25 [vI t] H fun r H' => r = vS (dateText t) ∧ H' = H := by
  refine ACalls.plain1 rfl ?_
  refine A_fun (N := 35) (rs := [.tmp 2]) Tryz.func25 rfl rfl rfl (by kernel_rfl) (by kernel_rfl) (Nat.le_of_ble_eq_true rfl) ?_
  rintro e he ⟨g0, -⟩
  simp only [go_sem, he, g0]
  refine callX_of (momentOf_P t h0 (by omega) _) (List.prefix_refl _) ?_
  simp only [go_sem, he, g0, setD_some]
  refine callX_of (dayOf_P (t / 86400) (by omega) (by omega) _) (List.prefix_refl _) ?_
  simp only [go_sem, he, g0, setD_some]
  refine acode_draw mixed (by kernel_rfl) ?_
  simp only [go_sem, he]
  have hy := yearOf_ok (n := t / 86400) (by omega)
  have hd := dayOf_ok (n := t / 86400) (by omega)
  refine callX_of (padded_A hG _ 4 (by omega) (by omega) (by omega) (by omega) _) (List.prefix_refl _) ?_
  simp only [go_sem, he, setD_some]
  refine callX_of (padded_A hG _ 2 (by omega) (by omega) (by omega) (by omega) _) (List.prefix_refl _) ?_
  simp only [go_sem, he, setD_some]
  have l1 := padded_length (yearOf (t / 86400)) 4 (by omega) (by omega) (by omega)
  have l2 := padded_length (dayOf (t / 86400)).1 2 (by omega) (by omega) (by omega)
  have l3 := padded_length (dayOf (t / 86400)).2 2 (by omega) (by omega) (by omega)
  have l4 := padded_length (t % 86400 / 3600) 2 (by omega) (by omega) (by omega)
  have l5 := padded_length (t % 86400 / 60 % 60) 2 (by omega) (by omega) (by omega)
  have l6 := padded_length (t % 86400 % 60) 2 (by omega) (by omega) (by omega)
  refine ⟨by omega, ?_⟩
  refine callX_of (padded_A hG _ 2 (by omega) (by omega) (by omega) (by omega) _) (List.prefix_refl _) ?_
  simp only [go_sem, he, setD_some, List.length_append]
  refine ⟨by omega, by omega, ?_⟩
  refine callX_of (padded_A hG _ 2 (by omega) (by omega) (by omega) (by omega) _) (List.prefix_refl _) ?_
  simp only [go_sem, he, setD_some, List.length_append]
  refine ⟨by omega, ?_⟩
  refine callX_of (padded_A hG _ 2 (by omega) (by omega) (by omega) (by omega) _) (List.prefix_refl _) ?_
  simp only [go_sem, he, setD_some, List.length_append]
  refine ⟨by omega, ?_⟩
  refine callX_of (padded_A hG _ 2 (by omega) (by omega) (by omega) (by omega) _) (List.prefix_refl _) ?_
  simp only [go_sem, he, setD_some, List.length_append]
  refine ⟨by omega, by omega, ?_, _, rfl⟩
  simp only [dateText, List.append_assoc, List.cons_append, List.nil_append]

def freqs : List (List UInt8) := [[89, 69, 65, 82, 76, 89], [77, 79, 78, 84, 72, 76, 89], [87, 69, 69, 75, 76, 89], [68, 65, 73, 76, 89], [72, 79, 85, 82, 76, 89], [77, 73, 78, 85, 84, 69, 76, 89], [83, 69, 67, 79, 78, 68, 76, 89]]
def wdays : List (List UInt8) := [[77, 79], [84, 85], [87, 69], [84, 72], [70, 82], [83, 65], [83, 85]]
theorem frequencies_A {w0 : World} (H : Heap) : ACalls Tryz.prog (CB w0) 20 [] H fun r H' => r = .sl true H.length 0 7 1 ∧ H' = H ++ [.own 9 (freqs.map vS)] := by
  refine A_fun (N := 2) (rs := [.tmp 0]) Tryz.func20 rfl rfl rfl (by kernel_rfl) (by kernel_rfl) (Nat.le_of_ble_eq_true rfl) ?_
  rintro e he -
  simp only [go_sem, he]
  exact rfl
theorem weekdays_A {w0 : World} (H : Heap) : ACalls Tryz.prog (CB w0) 38 [] H fun r H' => r = .sl true H.length 0 7 1 ∧ H' = H ++ [.own 9 (wdays.map vS)] := by
  refine A_fun (N := 2) (rs := [.tmp 0]) Tryz.func38 rfl rfl rfl (by kernel_rfl) (by kernel_rfl) (Nat.le_of_ble_eq_true rfl) ?_
  rintro e he -
  simp only [go_sem, he]
  exact rfl

/-- A slice of n elements of st cells each. -/
def SlOf (H : Heap) (x : AV) (n st : Nat) (cell : Nat → AV) : Prop := (x = .val (.slice none 0 0) ∧ n = 0) ∨ ∃ own o off cs, x = .sl own o off n st ∧ cellsK H[o]? = some cs ∧ ∀ i, i < n * st → cs[off + i]? = some (cell i)
theorem cellsK_more {H G : Heap} {o : Nat} {cs : List AV} (h : cellsK H[o]? = some cs) : cellsK (H ++ G)[o]? = some cs := by
  cases ho : H[o]? with
  | none => rw [ho] at h; cases h
  | some x => rw [get_more ho, ← ho]; exact h
theorem SlOf.more {H : Heap} {x : AV} {n st : Nat} {cell : Nat → AV} (h : SlOf H x n st cell) (G : Heap) : SlOf (H ++ G) x n st cell := by
  rcases h with h | ⟨own, o, off, cs, h1, h2, h3⟩
  · exact .inl h
  · exact .inr ⟨own, o, off, cs, h1, cellsK_more h2, h3⟩
theorem SlOf.len {H : Heap} {x : AV} {n st : Nat} {cell : Nat → AV} (h : SlOf H x n st cell) (e : TypeId) : lenK (some (.slice e)) x = some (vI n) := by
  rcases h with ⟨rfl, rfl⟩ | ⟨own, o, off, cs, rfl, _⟩ <;> rfl
def IntsAt (H : Heap) (x : AV) (l : List Int) : Prop := SlOf H x l.length 1 fun i => vI (l.getD i 0)
/-- Texts with a sign between each two. -/
def joinB (c : UInt8) : List (List UInt8) → List UInt8
  | [] => []
  | [a] => a
  | a :: b :: r => a ++ c :: joinB c (b :: r)
theorem joinB_snoc (c : UInt8) (a : List UInt8) : ∀ l : List (List UInt8), l ≠ [] → joinB c (l ++ [a]) = joinB c l ++ c :: a
  | [], h => absurd rfl h
  | [b], _ => rfl
  | b :: d :: r, _ => by
    show b ++ c :: joinB c (d :: r ++ [a]) = _
    rw [joinB_snoc c a (d :: r) (by simp)]
    simp [joinB]
theorem joinB_take (c : UInt8) (l : List (List UInt8)) (k : Nat) (a : List UInt8) (h : l[k]? = some a) : joinB c (l.take (k + 1)) = if k = 0 then a else joinB c (l.take k) ++ c :: a := by
  rw [List.take_add_one, h]
  split
  · rename_i hk; subst hk; rfl
  · rename_i hk
    refine joinB_snoc c a _ ?_
    intro e
    have hlt := (List.getElem?_eq_some_iff.1 h).1
    have := congrArg List.length e
    rw [List.length_take, List.length_nil] at this
    omega
def joined (l : List Int) : List UInt8 := joinB 44 (l.map Lib.itoa)
theorem joined_A {w0 : World} (hG : Glob w0) (l : List Int) (hl : l.length ≤ 1000000) (hr : ∀ n ∈ l, -9223372036854775808 ≤ n ∧ n ≤ 9223372036854775807) (x : AV) (H : Heap) (hx : IntsAt H x l) : ACalls Tryz.prog (CB w0) 36 [x] H fun r H' => r = vS (joined l) ∧ H' = H := by
  refine A_fun (N := 23) (rs := [.tmp 2]) Tryz.func36 rfl rfl rfl (by kernel_rfl) (by kernel_rfl) (Nat.le_of_ble_eq_true rfl) ?_
  rintro e he ⟨g0, -⟩
  have hlen := hx.len 3
  simp only [go_sem, he, g0, hlen]
  refine A_while l.length (fun k e h => h = H ∧ len e = 23 ∧ AL.get e 6 = x ∧ AL.get e 7 = vI l.length ∧ ∃ (i : Nat) (out : List UInt8), AL.get e 8 = vI i ∧ AL.get e 3 = vS out ∧ i + k = l.length ∧ out = joinB 44 ((l.map Lib.itoa).take i) ∧ out.length ≤ 22 * i) (by kernel_rfl) ?_ ?_
  · simp only [go_sem, he, g0]
    exact ⟨0, _, rfl, rfl, by omega, rfl, by simp⟩
  · rintro k e h ⟨rfl, he, g6, g7, i, out, g8, g3, hik, hout, hol⟩
    simp only [go_sem, he, g6, g7, g8, g3]
    refine condK_of (fun hc => ?_) fun hc => ?_
    · have hc := of_decide_eq_true hc
      rcases hx with ⟨rfl, h0⟩ | ⟨own, o, off, cs, rfl, hcs, hcell⟩
      · omega
      have hci := hcell i (by omega)
      simp only [go_sem, he, g6, g7, g8, g3, hcs, hci, Int.toNat_natCast]
      have hi : i < l.length := by omega
      have hrn := hr (l.getD i 0) (by rw [List.getD_eq_getElem?_getD, List.getElem?_eq_getElem hi]; exact List.getElem_mem hi)
      have hli := Lib.itoa_length_le _ hrn.1 hrn.2
      have hst := joinB_take 44 (l.map Lib.itoa) i (Lib.itoa (l.getD i 0)) (by rw [List.getElem?_map, List.getD_eq_getElem?_getD, List.getElem?_eq_getElem hi]; rfl)
      have wi : IntKind.i64.wrap ((i : Int) + 1) = ((i + 1 : Nat) : Int) := by rw [wI64 (by omega)]; rfl
      refine ⟨by omega, condK_of (fun hp => ?_) fun hp => ?_⟩
      · have hp := of_decide_eq_true hp
        simp only [go_sem, he, g6, g7, g8, g3, wi]
        refine ⟨by omega, callX_of (itoa_A hG _ hrn.1 hrn.2 _) (List.prefix_refl _) ?_⟩
        simp only [go_sem, he, g6, g7, g8, g3, wi, setD_some, List.length_append]
        rw [if_neg (by omega), ← hout] at hst
        refine ⟨by omega, k - 1, by omega, i + 1, _, rfl, rfl, by omega, by rw [hst], by simp only [List.length_append, List.length_cons]; omega⟩
      · have hp := of_decide_eq_false hp
        have h0 : i = 0 := by omega
        subst h0
        simp only [go_sem, he, g6, g7, g8, g3, wi]
        refine callX_of (itoa_A hG _ hrn.1 hrn.2 _) (List.prefix_refl _) ?_
        simp only [go_sem, he, g6, g7, g8, g3, wi, setD_some, List.length_append]
        have ho : out = [] := List.eq_nil_of_length_eq_zero (by omega)
        subst ho
        rw [if_pos rfl] at hst
        exact ⟨by simp only [List.length_nil]; omega, k - 1, by omega, 1, _, rfl, rfl, by omega, hst.symm, by simp only [List.nil_append]; omega⟩
    · have hc := of_decide_eq_false hc
      have : i = l.length := by omega
      simp only [go_sem, he, g6, g7, g8, g3]
      rw [hout, this, List.take_of_length_le (by simp)]
      rfl

def DaysAt (H : Heap) (x : AV) (l : List (Int × Int)) : Prop := SlOf H x l.length 2 fun i => if i % 2 = 0 then vI (l.getD (i / 2) (0, 0)).1 else vI (l.getD (i / 2) (0, 0)).2
theorem take_two {cs : List AV} {k : Nat} {a b : AV} (h1 : cs[k]? = some a) (h2 : cs[k + 1]? = some b) : k + 2 ≤ cs.length ∧ (cs.drop k).take 2 = [a, b] := by
  have l1 := (List.getElem?_eq_some_iff.1 h1).1
  have l2 := (List.getElem?_eq_some_iff.1 h2).1
  refine ⟨by omega, ?_⟩
  rw [List.drop_eq_getElem_cons l1, List.drop_eq_getElem_cons l2]
  have e1 := (List.getElem?_eq_some_iff.1 h1).2
  have e2 := (List.getElem?_eq_some_iff.1 h2).2
  simp only [List.take_succ_cons, List.take_zero, e1, e2]
theorem days_load {H : Heap} {l : List (Int × Int)} {off : Nat} {cs : List AV} (hcell : ∀ i, i < l.length * 2 → cs[off + i]? = some (if i % 2 = 0 then vI (l.getD (i / 2) (0, 0)).1 else vI (l.getD (i / 2) (0, 0)).2)) {i : Nat} (hi : i < l.length) : off + i * 2 + 2 ≤ cs.length ∧ (cs.drop (off + i * 2)).take 2 = [vI (l.getD i (0, 0)).1, vI (l.getD i (0, 0)).2] := by
  have h1 := hcell (i * 2) (by omega)
  have h2 := hcell (i * 2 + 1) (by omega)
  rw [if_pos (by omega), show i * 2 / 2 = i by omega] at h1
  rw [if_neg (by omega), show (i * 2 + 1) / 2 = i by omega] at h2
  exact take_two h1 h2
/-- A weekday's text. -/
def dayText (d : Int × Int) : List UInt8 := (if d.2 = 0 then [] else Lib.itoa d.2) ++ wdays.getD d.1.toNat []
def days (l : List (Int × Int)) : List UInt8 := joinB 44 (l.map dayText)
def DayOk (d : Int × Int) : Prop := 0 ≤ d.1 ∧ d.1 ≤ 6 ∧ -9223372036854775808 ≤ d.2 ∧ d.2 ≤ 9223372036854775807
theorem wday_get {w : Int} (h0 : 0 ≤ w) (h1 : w ≤ 6) : (wdays.map vS)[w.toNat]? = some (vS (wdays.getD w.toNat [])) ∧ (wdays.getD w.toNat []).length = 2 := by
  obtain ⟨k, rfl⟩ : ∃ k : Nat, w = k := ⟨w.toNat, by omega⟩
  have : k < 7 := by omega
  simp only [Int.toNat_natCast]
  match k, this with
  | 0, _ => exact ⟨rfl, rfl⟩
  | 1, _ => exact ⟨rfl, rfl⟩
  | 2, _ => exact ⟨rfl, rfl⟩
  | 3, _ => exact ⟨rfl, rfl⟩
  | 4, _ => exact ⟨rfl, rfl⟩
  | 5, _ => exact ⟨rfl, rfl⟩
  | 6, _ => exact ⟨rfl, rfl⟩
theorem days_A {w0 : World} (hG : Glob w0) (l : List (Int × Int)) (hl : l.length ≤ 1000000) (hr : ∀ d ∈ l, DayOk d) (x : AV) (H : Heap) (hx : DaysAt H x l) : ACalls Tryz.prog (CB w0) 37 [x] H fun r H' => r = vS (days l) ∧ H' = H := by
  refine ACalls.plain1 rfl ?_
  refine A_fun (N := 34) (rs := [.tmp 2]) Tryz.func37 rfl rfl rfl (by kernel_rfl) (by kernel_rfl) (Nat.le_of_ble_eq_true rfl) ?_
  rintro e he ⟨g0, -⟩
  have hlen := hx.len 47
  simp only [go_sem, he, g0, hlen]
  refine A_while l.length (fun k e h => (∃ G, h = H ++ G) ∧ len e = 34 ∧ AL.get e 6 = x ∧ AL.get e 7 = vI l.length ∧ ∃ (i : Nat) (out : List UInt8), AL.get e 8 = vI i ∧ AL.get e 3 = vS out ∧ i + k = l.length ∧ out = joinB 44 ((l.map dayText).take i) ∧ out.length ≤ 24 * i) (by kernel_rfl) ?_ ?_
  · simp only [go_sem, he, g0]
    exact ⟨⟨[], (List.append_nil _).symm⟩, 0, _, rfl, rfl, by omega, rfl, by simp⟩
  · rintro k e h ⟨hG1, he, g6, g7, i, out, g8, g3, hik, hout, hol⟩
    simp only [go_sem, he, g6, g7, g8, g3]
    refine condK_of (fun hc => ?_) fun hc => ?_
    · have hc := of_decide_eq_true hc
      have hi : i < l.length := by omega
      have hxh : DaysAt h x l := by obtain ⟨G, rfl⟩ := hG1; exact hx.more G
      rcases hxh with ⟨rfl, h0⟩ | ⟨own, o, off, cs, rfl, hcs, hcell⟩
      · omega
      obtain ⟨hd1, hd2⟩ := days_load (H := h) hcell hi
      obtain ⟨hw0, hw1, hn0, hn1⟩ := hr (l.getD i (0, 0)) (by rw [List.getD_eq_getElem?_getD, List.getElem?_eq_getElem hi]; exact List.getElem_mem hi)
      have hli := Lib.itoa_length_le _ hn0 hn1
      obtain ⟨hwd, hwl⟩ := wday_get hw0 hw1
      have hst := joinB_take 44 (l.map dayText) i (dayText (l.getD i (0, 0))) (by rw [List.getElem?_map, List.getD_eq_getElem?_getD, List.getElem?_eq_getElem hi]; rfl)
      have wi : IntKind.i64.wrap ((i : Int) + 1) = ((i + 1 : Nat) : Int) := by rw [wI64 (by omega)]; rfl
      simp only [go_sem, he, g6, g7, g8, g3, hcs, hd1, hd2, Int.toNat_natCast]
      generalize hd : l.getD i (0, 0) = d at *
      obtain ⟨w, n⟩ := d
      refine ⟨by omega, ?_⟩
      refine cond_join (fun e1 h1 => h1 = h ++ [.own 47 [vI w, vI n]] ∧ len e1 = 34 ∧ AL.get e1 5 = .ptr h.length 0 ∧ AL.get e1 6 = .sl own o off l.length 2 ∧ AL.get e1 7 = vI l.length ∧ AL.get e1 8 = vI i ∧ AL.get e1 3 = vS (if i = 0 then out else out ++ [44])) (fun hp => ?_) (fun hp => ?_) ?_
      · have hp := of_decide_eq_true hp
        simp only [go_sem, he, g6, g7, g8, g3]
        rw [if_neg (by omega)]
        exact ⟨by omega, rfl⟩
      · have hp := of_decide_eq_false hp
        simp only [go_sem, he, g6, g7, g8, g3]
        rw [if_pos (by omega)]
      rintro e h1 ⟨rfl, he, g5, g6, g7, g8, g3⟩
      simp only [go_sem, he, g5, g6, g7, g8, g3]
      simp only at hw0 hw1 hn0 hn1 hli hwd hwl
      generalize ho1 : (if i = 0 then out else out ++ [44]) = o1 at *
      have hl1 : o1.length ≤ 24 * i + 1 := by rw [← ho1]; split <;> (try simp only [List.length_append, List.length_cons, List.length_nil]) <;> omega
      refine cond_join (fun e1 h1 => h1 = h ++ [.own 47 [vI w, vI n]] ∧ len e1 = 34 ∧ AL.get e1 5 = .ptr h.length 0 ∧ AL.get e1 6 = .sl own o off l.length 2 ∧ AL.get e1 7 = vI l.length ∧ AL.get e1 8 = vI i ∧ AL.get e1 3 = vS (o1 ++ if n = 0 then [] else Lib.itoa n)) (fun hp => ?_) (fun hp => ?_) ?_
      · have hp : n ≠ 0 := by simpa using hp
        simp only [go_sem, he, g5, g6, g7, g8, g3]
        refine callX_of (itoa_A hG _ hn0 hn1 _) (List.prefix_refl _) ?_
        simp only [go_sem, he, g5, g6, g7, g8, g3, setD_some]
        rw [if_neg hp]
        exact ⟨by omega, rfl⟩
      · have hp : n = 0 := by simpa using hp
        simp only [go_sem, he, g5, g6, g7, g8, g3]
        rw [if_pos hp, List.append_nil]
      rintro e h1 ⟨rfl, he, g5, g6, g7, g8, g3⟩
      generalize ho2 : (o1 ++ if n = 0 then [] else Lib.itoa n) = o2 at *
      have hl2 : o2.length ≤ 24 * i + 22 := by rw [← ho2]; split <;> (try simp only [List.length_append, List.length_nil]) <;> omega
      simp only [go_sem, he, g5, g6, g7, g8, g3]
      refine acode_draw mixed (by kernel_rfl) ?_
      simp only [go_sem, he, g5, g6, g7, g8, g3]
      refine callX_of (weekdays_A _) (List.prefix_append _ _) ?_
      simp only [go_sem, he, g5, g6, g7, g8, g3, setD_some, hwd, hwl]
      have hfin : o2 ++ wdays.getD w.toNat [] = joinB 44 (List.take (i + 1) (List.map dayText l)) := by
        rw [hst, ← ho2, ← ho1, ← hout]
        by_cases h0 : i = 0
        · have : out = [] := List.eq_nil_of_length_eq_zero (by omega)
          simp only [h0, if_true, this, dayText, List.nil_append]
        · simp only [h0, if_false, dayText, List.append_assoc, List.cons_append, List.nil_append]
      refine ⟨⟨hw0, by omega⟩, by omega, k - 1, by omega, ?_, i + 1, _, by rw [wi], rfl, by omega, hfin, by simp only [List.length_append, hwl]; omega⟩
      obtain ⟨G, rfl⟩ := hG1
      exact ⟨_, List.append_assoc _ _ _⟩
    · have hc := of_decide_eq_false hc
      have : i = l.length := by omega
      simp only [go_sem, he, g6, g7, g8, g3]
      rw [hout, this, List.take_of_length_le (by simp)]
      exact ⟨rfl, hG1⟩

/-- A slice of texts of the call's own, behind objects that stay. -/
def OutAt (H h : Heap) (x : AV) (l : List (List UInt8)) : Prop := (∃ G, h = H ++ G) ∧ ∃ o, x = .sl true o 0 l.length 1 ∧ h[o]? = some (.own 9 (l.map vS)) ∧ H.length ≤ o
theorem set_behind {H G : Heap} {o : Nat} {y : AObj} (h : H.length ≤ o) : (H ++ G).set o y = H ++ G.set (o - H.length) y := List.set_append_right _ _ h
theorem one_vS (l : List UInt8) : (vS l).one = true := rfl
theorem all_one (l : List (List UInt8)) : (l.map vS).all AV.one = true := by
  rw [List.all_eq_true]
  intro x hx
  obtain ⟨s, _, rfl⟩ := List.mem_map.1 hx
  rfl
/-- A slice, and one text behind it. -/
theorem OutAt.push {H h : Heap} {x : AV} {l : List (List UInt8)} (hO : OutAt H h x l) (s : List UInt8) (hl : l.length ≤ 100000000) : ∃ x' h', appendA Tryz.prog 42 x (.sl true h.length 0 1 1) (h ++ [AObj.own 9 [vS s]]) = some (x', h') ∧ OutAt H h' x' (l ++ [s]) ∧ ∀ (p : Nat) (y : AObj), h[p]? = some y → (∀ cs, y ≠ AObj.own 9 cs) → h'[p]? = some y := by
  obtain ⟨⟨G, rfl⟩, o, rfl, ho, hol⟩ := hO
  have hlt : o < (H ++ G).length := (List.getElem?_eq_some_iff.1 ho).1
  refine ⟨.sl true (H ++ G ++ [AObj.own 9 [vS s]]).length 0 (l.length + 1) 1, ((H ++ G) ++ [AObj.own 9 [vS s]]).set o .gone ++ [AObj.own 9 (l.map vS ++ [vS s])], ?_, ⟨?_, ?_⟩, ?_⟩
  · have h1 : cellsOf (H ++ G ++ [AObj.own 9 [vS s]]) (H ++ G).length = some [vS s] := by unfold cellsOf; rw [heap_get0]; rfl
    have h2 : (H ++ G ++ [AObj.own 9 [vS s]])[o]? = some (.own 9 (l.map vS)) := by rw [get_less hlt]; exact ho
    unfold appendA
    rw [el42]
    simp only [h1, h2]
    rw [if_pos ⟨by simp, trivial, by rfl⟩, if_pos ⟨trivial, trivial, by simp, by omega, by omega⟩]
    simp only [Nat.mul_one, List.drop_zero, List.take_succ_cons, List.take_zero]
    rw [List.take_of_length_le (by simp)]
  · refine ⟨(G ++ [AObj.own 9 [vS s]]).set (o - H.length) .gone ++ [AObj.own 9 (l.map vS ++ [vS s])], ?_⟩
    rw [List.append_assoc, set_behind hol, List.append_assoc]
  · refine ⟨(H ++ G ++ [AObj.own 9 [vS s]]).length, by simp, ?_, by simp⟩
    have : ((H ++ G ++ [AObj.own 9 [vS s]]).set o .gone).length = (H ++ G ++ [AObj.own 9 [vS s]]).length := List.length_set
    rw [← this, heap_get0]
    simp
  · intro p y hp hy
    have hpo : o ≠ p := by
      rintro rfl
      rw [ho] at hp
      exact hy _ (Option.some.inj hp).symm
    have hpl : p < (H ++ G).length := (List.getElem?_eq_some_iff.1 hp).1
    rw [get_less (by simp only [List.length_set, List.length_append, List.length_cons, List.length_nil] at hpl ⊢; omega), List.getElem?_set_ne hpo, get_less hpl]
    exact hp
theorem OutAt.more {H h : Heap} {x : AV} {l : List (List UInt8)} (hO : OutAt H h x l) (G : Heap) : OutAt H (h ++ G) x l := by
  obtain ⟨⟨G0, rfl⟩, o, h1, h2, h3⟩ := hO
  exact ⟨⟨G0 ++ G, List.append_assoc _ _ _⟩, o, h1, get_more h2, h3⟩
/-- A rule of the specification's. -/
structure Ru where
  freq : Nat
  hasStart : Bool
  start : Int
  interval : Int
  wkst : Int
  count : Int
  hasUntil : Bool
  til : Int
  setPos : List Int
  month : List Int
  monthDay : List Int
  yearDay : List Int
  weekNo : List Int
  day : List (Int × Int)
  hour : List Int
  minute : List Int
  second : List Int
  easter : List Int
/-- The slices of a rule, as values. -/
structure Rs where
  setPos : AV
  month : AV
  monthDay : AV
  yearDay : AV
  weekNo : AV
  day : AV
  hour : AV
  minute : AV
  second : AV
  easter : AV
abbrev vU (n : Nat) : AV := .val (.int .u8 (n : Int))
/-- A rule's cells. -/
def ruCells (r : Ru) (x : Rs) : List AV := [vU r.freq, vB r.hasStart, vI r.start, vI r.interval, vI r.wkst, vI r.count, vB r.hasUntil, vI r.til, x.setPos, x.month, x.monthDay, x.yearDay, x.weekNo, x.day, x.hour, x.minute, x.second, x.easter]
structure RuAt (H : Heap) (r : Ru) (x : Rs) : Prop where
  setPos : IntsAt H x.setPos r.setPos
  month : IntsAt H x.month r.month
  monthDay : IntsAt H x.monthDay r.monthDay
  yearDay : IntsAt H x.yearDay r.yearDay
  weekNo : IntsAt H x.weekNo r.weekNo
  day : DaysAt H x.day r.day
  hour : IntsAt H x.hour r.hour
  minute : IntsAt H x.minute r.minute
  second : IntsAt H x.second r.second
  easter : IntsAt H x.easter r.easter
theorem RuAt.more {H : Heap} {r : Ru} {x : Rs} (h : RuAt H r x) (G : Heap) : RuAt (H ++ G) r x :=
  ⟨h.setPos.more G, h.month.more G, h.monthDay.more G, h.yearDay.more G, h.weekNo.more G, h.day.more G, h.hour.more G, h.minute.more G, h.second.more G, h.easter.more G⟩
theorem SlOf.one {H : Heap} {x : AV} {n st : Nat} {cell : Nat → AV} (h : SlOf H x n st cell) : x.one = true := by
  rcases h with ⟨rfl, _⟩ | ⟨own, o, off, cs, rfl, _⟩ <;> rfl
def IntsOk (l : List Int) : Prop := l.length ≤ 1000 ∧ ∀ n ∈ l, -9223372036854775808 ≤ n ∧ n ≤ 9223372036854775807
/-- A rule whose numbers are numbers. -/
structure RuOk (r : Ru) : Prop where
  freq : r.freq ≤ 6
  wkst : 0 ≤ r.wkst ∧ r.wkst ≤ 6
  interval : 0 ≤ r.interval ∧ r.interval ≤ 9223372036854775807
  count : 0 ≤ r.count ∧ r.count ≤ 9223372036854775807
  til : 0 ≤ r.til ∧ r.til ≤ 1000000000000
  setPos : IntsOk r.setPos
  month : IntsOk r.month
  monthDay : IntsOk r.monthDay
  yearDay : IntsOk r.yearDay
  weekNo : IntsOk r.weekNo
  day : r.day.length ≤ 1000 ∧ ∀ d ∈ r.day, DayOk d
  hour : IntsOk r.hour
  minute : IntsOk r.minute
  second : IntsOk r.second
  easter : IntsOk r.easter
theorem freq_get {f : Nat} (h : f ≤ 6) : (freqs.map vS)[f]? = some (vS (freqs.getD f [])) ∧ (freqs.getD f []).length ≤ 8 := by
  match f, h with
  | 0, _ => exact ⟨rfl, by decide⟩
  | 1, _ => exact ⟨rfl, by decide⟩
  | 2, _ => exact ⟨rfl, by decide⟩
  | 3, _ => exact ⟨rfl, by decide⟩
  | 4, _ => exact ⟨rfl, by decide⟩
  | 5, _ => exact ⟨rfl, by decide⟩
  | 6, _ => exact ⟨rfl, by decide⟩
def pFreq (r : Ru) : List (List UInt8) := [[70, 82, 69, 81, 61] ++ freqs.getD r.freq []]
def pUntil (r : Ru) : List (List UInt8) := if r.hasUntil then [[85, 78, 84, 73, 76, 61] ++ dateText r.til] else []
def pCount (r : Ru) : List (List UInt8) := if 0 < r.count then [[67, 79, 85, 78, 84, 61] ++ Lib.itoa r.count] else []
def pInterval (r : Ru) : List (List UInt8) := if 1 < r.interval then [[73, 78, 84, 69, 82, 86, 65, 76, 61] ++ Lib.itoa r.interval] else []
theorem pUntil_len (r : Ru) : (pUntil r).length ≤ 1 := by unfold pUntil; split <;> simp
theorem pCount_len (r : Ru) : (pCount r).length ≤ 1 := by unfold pCount; split <;> simp
theorem pInterval_len (r : Ru) : (pInterval r).length ≤ 1 := by unfold pInterval; split <;> simp
def pOne (p : List UInt8 × AV × List Int) : List (List UInt8) := if p.2.2.length = 0 then [] else [p.1 ++ 61 :: joined p.2.2]
theorem joinB_length (c : UInt8) (m : Nat) : ∀ l : List (List UInt8), (∀ s ∈ l, s.length ≤ m) → (joinB c l).length ≤ (m + 1) * l.length
  | [], _ => by simp [joinB]
  | [a], h => by have := h a (by simp); simp [joinB]; omega
  | a :: b :: r, h => by
    have h1 := h a (by simp)
    have h2 := joinB_length c m (b :: r) fun s hs => h s (List.mem_cons_of_mem _ hs)
    show (a ++ c :: joinB c (b :: r)).length ≤ (m + 1) * ((b :: r).length + 1)
    rw [List.length_append, List.length_cons, Nat.mul_add]
    omega
theorem joined_length {l : List Int} (h : IntsOk l) : (joined l).length ≤ 22 * l.length := by
  have := joinB_length 44 21 (l.map Lib.itoa) (by
    intro s hs
    obtain ⟨n, hn, rfl⟩ := List.mem_map.1 hs
    exact Lib.itoa_length_le n (h.2 n hn).1 (h.2 n hn).2)
  rw [List.length_map] at this
  exact this
theorem pOne_length (p : List UInt8 × AV × List Int) : (pOne p).length ≤ 1 := by unfold pOne; split <;> simp
/-- The nine lists, with their names. -/
def nine (r : Ru) (x : Rs) : List (List UInt8 × AV × List Int) := [([66, 89, 83, 69, 67, 79, 78, 68], x.second, r.second), ([66, 89, 77, 73, 78, 85, 84, 69], x.minute, r.minute), ([66, 89, 72, 79, 85, 82], x.hour, r.hour), ([66, 89, 77, 79, 78, 84, 72, 68, 65, 89], x.monthDay, r.monthDay), ([66, 89, 89, 69, 65, 82, 68, 65, 89], x.yearDay, r.yearDay), ([66, 89, 87, 69, 69, 75, 78, 79], x.weekNo, r.weekNo), ([66, 89, 77, 79, 78, 84, 72], x.month, r.month), ([66, 89, 83, 69, 84, 80, 79, 83], x.setPos, r.setPos), ([66, 89, 69, 65, 83, 84, 69, 82], x.easter, r.easter)]
def nineCells (x : Rs) : List AV := [vS [66, 89, 83, 69, 67, 79, 78, 68], x.second, vS [66, 89, 77, 73, 78, 85, 84, 69], x.minute, vS [66, 89, 72, 79, 85, 82], x.hour, vS [66, 89, 77, 79, 78, 84, 72, 68, 65, 89], x.monthDay, vS [66, 89, 89, 69, 65, 82, 68, 65, 89], x.yearDay, vS [66, 89, 87, 69, 69, 75, 78, 79], x.weekNo, vS [66, 89, 77, 79, 78, 84, 72], x.month, vS [66, 89, 83, 69, 84, 80, 79, 83], x.setPos, vS [66, 89, 69, 65, 83, 84, 69, 82], x.easter]
theorem nine_spec (r : Ru) (x : Rs) {H : Heap} (hx : RuAt H r x) (hr : RuOk r) {i : Nat} (hi : i < 9) : ∃ n a l, (nine r x)[i]? = some (n, a, l) ∧ n.length ≤ 10 ∧ i * 2 + 2 ≤ (nineCells x).length ∧ ((nineCells x).drop (i * 2)).take 2 = [vS n, a] ∧ IntsAt H a l ∧ IntsOk l := by
  match i, hi with
  | 0, _ => exact ⟨_, _, _, rfl, by decide, by show _ ≤ 18; omega, rfl, hx.second, hr.second⟩
  | 1, _ => exact ⟨_, _, _, rfl, by decide, by show _ ≤ 18; omega, rfl, hx.minute, hr.minute⟩
  | 2, _ => exact ⟨_, _, _, rfl, by decide, by show _ ≤ 18; omega, rfl, hx.hour, hr.hour⟩
  | 3, _ => exact ⟨_, _, _, rfl, by decide, by show _ ≤ 18; omega, rfl, hx.monthDay, hr.monthDay⟩
  | 4, _ => exact ⟨_, _, _, rfl, by decide, by show _ ≤ 18; omega, rfl, hx.yearDay, hr.yearDay⟩
  | 5, _ => exact ⟨_, _, _, rfl, by decide, by show _ ≤ 18; omega, rfl, hx.weekNo, hr.weekNo⟩
  | 6, _ => exact ⟨_, _, _, rfl, by decide, by show _ ≤ 18; omega, rfl, hx.month, hr.month⟩
  | 7, _ => exact ⟨_, _, _, rfl, by decide, by show _ ≤ 18; omega, rfl, hx.setPos, hr.setPos⟩
  | 8, _ => exact ⟨_, _, _, rfl, by decide, by show _ ≤ 18; omega, rfl, hx.easter, hr.easter⟩
def pDay (r : Ru) : List (List UInt8) := if r.day.length = 0 then [] else [[66, 89, 68, 65, 89, 61] ++ days r.day]
def pWkst (r : Ru) : List (List UInt8) := if r.wkst = 0 then [] else [[87, 75, 83, 84, 61] ++ wdays.getD r.wkst.toNat []]
theorem pDay_len (r : Ru) : (pDay r).length ≤ 1 := by unfold pDay; split <;> simp
theorem days_length {l : List (Int × Int)} (hl : l.length ≤ 1000) (h : ∀ d ∈ l, DayOk d) : (days l).length ≤ 24 * l.length := by
  have := joinB_length 44 23 (l.map dayText) (by
    intro s hs
    obtain ⟨d, hd, rfl⟩ := List.mem_map.1 hs
    obtain ⟨h0, h1, h2, h3⟩ := h d hd
    have hw := (wday_get h0 h1).2
    have hi := Lib.itoa_length_le d.2 h2 h3
    unfold dayText
    rw [List.length_append, hw]
    split <;> (try simp only [List.length_nil]) <;> omega)
  rw [List.length_map] at this
  exact this
def pNine (r : Ru) (x : Rs) : List (List UInt8) := (nine r x).flatMap pOne
theorem dateText_length {t : Int} (h0 : 0 ≤ t) (h1 : t ≤ 1000000000000) : (dateText t).length ≤ 1000 := by
  have hy := yearOf_ok (n := t / 86400) (by omega)
  have hd := dayOf_ok (n := t / 86400) (by omega)
  have l1 := padded_length (yearOf (t / 86400)) 4 (by omega) (by omega) (by omega)
  have l2 := padded_length (dayOf (t / 86400)).1 2 (by omega) (by omega) (by omega)
  have l3 := padded_length (dayOf (t / 86400)).2 2 (by omega) (by omega) (by omega)
  have l4 := padded_length (t % 86400 / 3600) 2 (by omega) (by omega) (by omega)
  have l5 := padded_length (t % 86400 / 60 % 60) 2 (by omega) (by omega) (by omega)
  have l6 := padded_length (t % 86400 % 60) 2 (by omega) (by omega) (by omega)
  unfold dateText
  simp only [List.length_append, List.length_cons, List.length_nil]
  omega
set_option maxHeartbeats 4000000 in
theorem parts_A {w0 : World} (hG : Glob w0) (r : Ru) (x : Rs) (hr : RuOk r) (H : Heap) (hx : RuAt H r x) : ACalls Tryz.prog (CB w0) 18 [.agg (ruCells r x)] H fun v H' => OutAt H H' v (pFreq r ++ pUntil r ++ pCount r ++ pInterval r ++ pNine r x ++ pDay r ++ pWkst r) := by
  refine A_fun (N := 114) (rs := [.tmp 2]) Tryz.func18 rfl rfl rfl (by kernel_rfl) (by kernel_rfl) (Nat.le_of_ble_eq_true rfl) ?_
  rintro e he ⟨g0, -⟩
  obtain ⟨hf, hfl⟩ := freq_get hr.freq
  have hbox : ∀ {h : Heap} {x' : AV} {l : List (List UInt8)}, OutAt (H ++ [.own 25 (ruCells r x)]) h x' l → h[H.length]? = some (.own 25 (ruCells r x)) ∧ RuAt h r x := by
    rintro h x' l ⟨⟨G, rfl⟩, _⟩
    rw [List.append_assoc, heap_get0]
    exact ⟨rfl, hx.more _⟩
  have hB : ∀ G, (H ++ [.own 25 (ruCells r x)] ++ G)[H.length]? = some (.own 25 (ruCells r x)) := fun G => by rw [List.append_assoc, heap_get0]; rfl
  have hB0 : (H ++ [.own 25 (ruCells r x)])[H.length]? = some (.own 25 (ruCells r x)) := heap_get0
  unfold ruCells at g0 hB hB0 hbox
  simp only [go_sem, he, g0, hx.setPos.one, hx.month.one, hx.monthDay.one, hx.yearDay.one, hx.weekNo.one, hx.day.one, hx.hour.one, hx.minute.one, hx.second.one, hx.easter.one]
  generalize hH1 : H ++ [AObj.own 25 [vU r.freq, vB r.hasStart, vI r.start, vI r.interval, vI r.wkst, vI r.count, vB r.hasUntil, vI r.til, x.setPos, x.month, x.monthDay, x.yearDay, x.weekNo, x.day, x.hour, x.minute, x.second, x.easter]] = H1 at *
  refine acode_draw mixed (by kernel_rfl) ?_
  simp only [go_sem, he]
  refine callX_of (frequencies_A _) (List.prefix_append _ _) ?_
  simp only [go_sem, he, setD_some, hB, hf, Int.toNat_natCast]
  refine ⟨by have := hr.freq; omega, by omega, ?_⟩
  have hO1 : OutAt H1 (H1 ++ [AObj.own 9 (List.map vS freqs), AObj.own 9 [vS (70 :: 82 :: 69 :: 81 :: 61 :: freqs.getD r.freq [])]]) (AV.sl true (H1.length + 1) 0 1 1) (pFreq r) := ⟨⟨_, rfl⟩, _, rfl, by rw [heap_get]; rfl, by omega⟩
  refine cond_join (fun e h => len e = 114 ∧ AL.get e 1 = .ptr H.length 0 ∧ ∃ x', AL.get e 3 = x' ∧ OutAt H1 h x' (pFreq r ++ pUntil r)) (fun hp => ?_) (fun hp => ?_) ?_
  · simp only [go_sem, he, hB]
    refine callX_of (dateText_A hG _ hr.til.1 hr.til.2 _) (List.prefix_refl _) ?_
    have hdl := dateText_length hr.til.1 hr.til.2
    have hl1 : (pFreq r).length ≤ 100000000 := by show 1 ≤ 100000000; omega
    have hpush := hO1.push ([85, 78, 84, 73, 76, 61] ++ dateText r.til) hl1
    obtain ⟨x', h', ha, hO, -⟩ := hpush
    simp only [go_sem, he, hB, setD_some] at ha ⊢
    rw [ha]
    simp only [go_sem, he]
    refine ⟨by omega, _, rfl, ?_⟩
    unfold pUntil
    rw [if_pos hp]
    exact hO
  · simp only [go_sem, he, hB]
    unfold pUntil
    rw [if_neg (by simp [hp]), List.append_nil]
    exact ⟨_, rfl, hO1⟩
  rintro e h ⟨he, g1, x', g3, hO⟩
  have hb := (hbox hO).1
  have hlc := Lib.itoa_length_le r.count (by have := hr.count; omega) hr.count.2
  have hli := Lib.itoa_length_le r.interval (by have := hr.interval; omega) hr.interval.2
  have lu := pUntil_len r
  have lc := pCount_len r
  simp only [go_sem, he, g1, g3, hb]
  refine cond_join (fun e h => len e = 114 ∧ AL.get e 1 = .ptr H.length 0 ∧ ∃ x', AL.get e 3 = x' ∧ OutAt H1 h x' (pFreq r ++ pUntil r ++ pCount r)) (fun hp => ?_) (fun hp => ?_) ?_
  · have hp := of_decide_eq_true hp
    simp only [go_sem, he, g1, g3, hb]
    refine callX_of (itoa_A hG _ (by omega) hr.count.2 _) (List.prefix_refl _) ?_
    have hpush := hO.push ([67, 79, 85, 78, 84, 61] ++ Lib.itoa r.count) (by simp only [List.length_append, pFreq, List.length_cons, List.length_nil]; omega)
    obtain ⟨x2, h2, ha, hO2, -⟩ := hpush
    simp only [go_sem, he, g1, g3, hb, setD_some] at ha ⊢
    rw [ha]
    simp only [go_sem, he, g1]
    refine ⟨by omega, _, rfl, ?_⟩
    unfold pCount
    rw [if_pos hp]
    simpa only [List.append_assoc] using hO2
  · have hp := of_decide_eq_false hp
    simp only [go_sem, he, g1, g3]
    unfold pCount
    rw [if_neg hp, List.append_nil]
    exact ⟨_, rfl, hO⟩
  rintro e h ⟨he, g1, x', g3, hO⟩
  have hb := (hbox hO).1
  have lv := pInterval_len r
  simp only [go_sem, he, g1, g3, hb]
  refine cond_join (fun e h => len e = 114 ∧ AL.get e 1 = .ptr H.length 0 ∧ ∃ x', AL.get e 3 = x' ∧ OutAt H1 h x' (pFreq r ++ pUntil r ++ pCount r ++ pInterval r)) (fun hp => ?_) (fun hp => ?_) ?_
  · have hp := of_decide_eq_true hp
    simp only [go_sem, he, g1, g3, hb]
    refine callX_of (itoa_A hG _ (by omega) hr.interval.2 _) (List.prefix_refl _) ?_
    have hpush := hO.push ([73, 78, 84, 69, 82, 86, 65, 76, 61] ++ Lib.itoa r.interval) (by simp only [List.length_append, pFreq, List.length_cons, List.length_nil]; omega)
    obtain ⟨x2, h2, ha, hO2, -⟩ := hpush
    simp only [go_sem, he, g1, g3, hb, setD_some] at ha ⊢
    rw [ha]
    simp only [go_sem, he, g1]
    refine ⟨by omega, _, rfl, ?_⟩
    unfold pInterval
    rw [if_pos hp]
    simpa only [List.append_assoc] using hO2
  · have hp := of_decide_eq_false hp
    simp only [go_sem, he, g1, g3]
    unfold pInterval
    rw [if_neg hp, List.append_nil]
    exact ⟨_, rfl, hO⟩
  rintro e h ⟨he, g1, x', g3, hO⟩
  have hb := (hbox hO).1
  simp only [go_sem, he, g1, g3, hb, avCells_one hx.setPos.one, avCells_one hx.month.one, avCells_one hx.monthDay.one, avCells_one hx.yearDay.one, avCells_one hx.weekNo.one, avCells_one hx.hour.one, avCells_one hx.minute.one, avCells_one hx.second.one, avCells_one hx.easter.one, hx.setPos.one, hx.month.one, hx.monthDay.one, hx.yearDay.one, hx.weekNo.one, hx.hour.one, hx.minute.one, hx.second.one, hx.easter.one]
  have hO9 := hO.more [.own 72 (nineCells x)]
  generalize hL : pFreq r ++ pUntil r ++ pCount r ++ pInterval r = L0 at *
  have hL0 : L0.length ≤ 4 := by rw [← hL]; simp only [List.length_append, pFreq, List.length_cons, List.length_nil]; omega
  refine A_while 9 (fun k e h' => ∃ (i : Nat) (x2 : AV), i + k = 9 ∧ len e = 114 ∧ AL.get e 1 = .ptr H.length 0 ∧ AL.get e 71 = vI i ∧ AL.get e 70 = vI 9 ∧ AL.get e 69 = .sl true h.length 0 9 2 ∧ AL.get e 3 = x2 ∧ OutAt H1 h' x2 (L0 ++ ((nine r x).take i).flatMap pOne) ∧ (((nine r x).take i).flatMap pOne).length ≤ i ∧ h'[h.length]? = some (.own 72 (nineCells x))) (by kernel_rfl) ?_ ?_
  · simp only [go_sem, he, g1, g3]
    refine ⟨0, x', rfl, rfl, rfl, rfl, ?_, by simp, rfl⟩
    show OutAt H1 _ x' (L0 ++ [])
    rw [List.append_nil]
    exact hO9
  · rintro k e h' ⟨i, x2, hik, he, g1, g71, g70, g69, g3, hO, hfl, h72⟩
    simp only [go_sem, he, g1, g3, g69, g70, g71]
    refine condK_of (fun hc => ?_) fun hc => ?_
    · have hc := of_decide_eq_true hc
      have hi : i < 9 := by omega
      have hxh := (hbox hO).2
      obtain ⟨n, a, l, hn1, hn2, hn3, hn4, hn5, hn6⟩ := nine_spec r x hxh hr hi
      simp only [go_sem, he, g1, g3, g69, g70, g71, h72, hn3, hn4, Int.toNat_natCast]
      have hlen := hn5.len 3
      simp only [hn5.one, go_sem, he, g1, g3, g69, g70, g71]
      refine ⟨by omega, ?_⟩
      simp only [hlen, go_sem, he, g1, g3, g69, g70, g71]
      have hnine : (nine r x).take (i + 1) = (nine r x).take i ++ [(n, a, l)] := by rw [List.take_add_one, hn1]; rfl
      have hLi : (L0 ++ ((nine r x).take i).flatMap pOne).length ≤ 20 := by rw [List.length_append]; omega
      refine cond_join (fun e h2 => ∃ x2, len e = 114 ∧ AL.get e 1 = .ptr H.length 0 ∧ AL.get e 71 = vI i ∧ AL.get e 70 = vI 9 ∧ AL.get e 69 = .sl true h.length 0 9 2 ∧ AL.get e 3 = x2 ∧ OutAt H1 h2 x2 (L0 ++ ((nine r x).take i).flatMap pOne ++ pOne (n, a, l)) ∧ h2[h.length]? = some (.own 72 (nineCells x))) (fun hp => ?_) (fun hp => ?_) ?_
      · have hp := of_decide_eq_true hp
        simp only [go_sem, he, g1, g3, g69, g70, g71]
        refine acode_draw mixed (by kernel_rfl) ?_
        have hO' := hO.more [.own 72 [vS n, a]]
        simp only [go_sem, he, g1, g3, g69, g70, g71]
        refine ⟨by omega, ?_⟩
        refine callX_of (joined_A hG l (by have := hn6.1; omega) hn6.2 a _ (hn5.more _)) (List.prefix_refl _) ?_
        have hpush := hO'.push (n ++ 61 :: joined l) (by omega)
        obtain ⟨x3, h3, ha, hO3, hkeep⟩ := hpush
        simp only [go_sem, he, g1, g3, g69, g70, g71, setD_some] at ha ⊢
        rw [ha]
        have hjl := joined_length hn6
        have hl6 := hn6.1
        simp only [go_sem, he, g1, g3, g69, g70, g71]
        refine ⟨by simp only [List.length_append, List.length_cons, List.length_nil]; omega, x3, rfl, ?_, hkeep _ _ (get_more h72) (by intro cs; simp)⟩
        have hp1 : pOne (n, a, l) = [n ++ 61 :: joined l] := by unfold pOne; rw [if_neg (by simp only; omega)]
        rw [hp1]
        simpa only [List.append_assoc] using hO3
      · have hp := of_decide_eq_false hp
        simp only [go_sem, he, g1, g3, g69, g70, g71]
        refine ⟨x2, rfl, ?_, get_more h72⟩
        have hp1 : pOne (n, a, l) = [] := by unfold pOne; rw [if_pos (by simp only; omega)]
        rw [hp1, List.append_nil]
        exact hO.more _
      rintro e h2 ⟨x2, he, g1, g71, g70, g69, g3, hO, h72⟩
      have wi : IntKind.i64.wrap ((i : Int) + 1) = ((i + 1 : Nat) : Int) := by rw [wI64 (by omega)]; rfl
      simp only [go_sem, he, g1, g3, g69, g70, g71, wi]
      have hpl := pOne_length (n, a, l)
      refine ⟨k - 1, by omega, i + 1, x2, by omega, rfl, rfl, ?_, ?_, h72⟩
      · rw [hnine, List.flatMap_append, List.flatMap_singleton, ← List.append_assoc]; exact hO
      · rw [hnine, List.flatMap_append, List.flatMap_singleton, List.length_append]; omega
    · have hc := of_decide_eq_false hc
      have hi9 : i = 9 := by omega
      have hall : (nine r x).take i = nine r x := by rw [hi9]; rfl
      rw [hall] at hO hfl
      obtain ⟨hb, hxh⟩ := hbox hO
      have hlen := hxh.day.len 47
      have hLn : (L0 ++ (nine r x).flatMap pOne).length ≤ 20 := by rw [List.length_append]; omega
      have hdl := days_length hr.day.1 hr.day.2
      have hd1 := hr.day.1
      simp only [hlen, go_sem, he, g1, g3, g69, g70, g71, hb]
      refine cond_join (fun e h => len e = 114 ∧ AL.get e 1 = .ptr H.length 0 ∧ ∃ x', AL.get e 3 = x' ∧ OutAt H1 h x' (L0 ++ pNine r x ++ pDay r)) (fun hp => ?_) (fun hp => ?_) ?_
      · have hp := of_decide_eq_true hp
        simp only [go_sem, he, g1, g3, hb]
        refine callX_of (days_A hG r.day (by omega) hr.day.2 _ _ hxh.day) (List.prefix_refl _) ?_
        have hpush := hO.push ([66, 89, 68, 65, 89, 61] ++ days r.day) (by omega)
        obtain ⟨x3, h3, ha, hO3, -⟩ := hpush
        simp only [go_sem, he, g1, g3, hb, setD_some] at ha ⊢
        rw [ha]
        simp only [go_sem, he, g1]
        refine ⟨by omega, x3, rfl, ?_⟩
        unfold pDay pNine
        rw [if_neg (by omega)]
        simpa only [List.append_assoc] using hO3
      · have hp := of_decide_eq_false hp
        simp only [go_sem, he, g1, g3]
        refine ⟨x2, rfl, ?_⟩
        unfold pDay
        rw [if_pos (by omega), List.append_nil]
        exact hO
      rintro e h4 ⟨he, g1, x4, g3, hO⟩
      have hb := (hbox hO).1
      have lD := pDay_len r
      have hLw : (L0 ++ pNine r x ++ pDay r).length ≤ 21 := by rw [List.length_append]; have : (L0 ++ pNine r x).length ≤ 20 := hLn; omega
      obtain ⟨hwd, hwl⟩ := wday_get hr.wkst.1 hr.wkst.2
      simp only [go_sem, he, g1, g3, hb]
      refine cond_join (fun e h => len e = 114 ∧ ∃ x', AL.get e 3 = x' ∧ OutAt H1 h x' (L0 ++ pNine r x ++ pDay r ++ pWkst r)) (fun hp => ?_) (fun hp => ?_) ?_
      · have hp : r.wkst ≠ 0 := by simpa using hp
        simp only [go_sem, he, g1, g3, hb]
        refine acode_draw mixed (by kernel_rfl) ?_
        simp only [go_sem, he, g1, g3, hb]
        refine callX_of (weekdays_A _) (List.prefix_append _ _) ?_
        have hpush := (hO.more [.own 9 (wdays.map vS)]).push ([87, 75, 83, 84, 61] ++ wdays.getD r.wkst.toNat []) (by omega)
        obtain ⟨x3, h3, ha, hO3, -⟩ := hpush
        have hb2 : (h4 ++ [AObj.own 9 (wdays.map vS)])[H.length]? = h4[H.length]? := by rw [hb]; exact get_more hb
        simp only [go_sem, he, g1, g3, hb2, hb, hwd, hwl, setD_some] at ha ⊢
        rw [ha]
        simp only [go_sem, he, g1]
        refine ⟨by have := hr.wkst; omega, x3, rfl, ?_⟩
        unfold pWkst
        rw [if_neg hp]
        simpa only [List.append_assoc] using hO3
      · have hp : r.wkst = 0 := by simpa using hp
        simp only [go_sem, he, g1, g3]
        refine ⟨x4, rfl, ?_⟩
        unfold pWkst
        rw [if_pos hp, List.append_nil]
        simpa only [List.append_assoc] using hO
      rintro e h5 ⟨he, x5, g3, hO⟩
      simp only [go_sem, he, g3]
      obtain ⟨⟨G, rfl⟩, o, h1, h2, h3⟩ := hO
      have h3' : H.length ≤ o := by rw [← hH1, List.length_append] at h3; omega
      rw [← hL] at h1 h2
      simp only [← hH1, List.append_assoc] at h1 h2 ⊢
      exact ⟨⟨_, rfl⟩, o, h1, h2, h3'⟩

theorem cast1 : ((1 : Nat) : Int) = 1 := rfl
theorem nn (n : Nat) : (0 ≤ (n : Int)) = True := by simp
/-- Where a sign is first met. -/
def idx (c : UInt8) : List UInt8 → Option Nat
  | [] => none
  | b :: r => if b = c then some 0 else (idx c r).map (· + 1)
def idxI (c : UInt8) (s : List UInt8) : Int := match idx c s with
  | some n => n
  | none => -1
theorem idx_drop_hit {c : UInt8} {s : List UInt8} {i : Nat} (hi : i < s.length) (h : s.getD i 0 = c) (hno : ∀ j, j < i → s.getD j 0 ≠ c) : idx c s = some i := by
  induction s generalizing i with
  | nil => simp at hi
  | cons b r ih =>
    cases i with
    | zero => simp at h; simp [idx, h]
    | succ i =>
      have h0 := hno 0 (by omega)
      simp at h0
      rw [idx, if_neg h0, ih (by simpa using hi) (by simpa using h) fun j hj => by simpa using hno (j + 1) (by omega)]
      rfl
theorem idx_none {c : UInt8} {s : List UInt8} (hno : ∀ j, j < s.length → s.getD j 0 ≠ c) : idx c s = none := by
  induction s with
  | nil => rfl
  | cons b r ih =>
    have h0 := hno 0 (by simp)
    simp at h0
    rw [idx, if_neg h0, ih fun j hj => by simpa using hno (j + 1) (by simpa using hj)]
    rfl
theorem take_one {s : List UInt8} {i : Nat} (hi : i < s.length) : (s.take (i + 1)).drop i = [s.getD i 0] := by
  rw [List.drop_take, show i + 1 - i = 1 by omega, List.drop_eq_getElem_cons hi, List.getD_eq_getElem?_getD, List.getElem?_eq_getElem hi]
  rfl
theorem zzIndex_A {w0 : World} (s : List UInt8) (c : UInt8) (hs : s.length ≤ 1000000000) (H : Heap) : ACalls Tryz.prog (CB w0) 111 [vS s, vS [c]] H fun r H' => r = vI (idxI c s) ∧ H' = H := by
  refine A_fun (N := 25) (rs := [.tmp 4]) Tryz.func111 rfl rfl rfl (by kernel_rfl) (by kernel_rfl) (Nat.le_of_ble_eq_true rfl) ?_
  rintro e he ⟨g0, g1, -⟩
  simp only [go_sem, he, g0, g1]
  refine A_while (s.length + 1) (fun k e h => h = H ∧ len e = 25 ∧ AL.get e 0 = vS s ∧ AL.get e 1 = vS [c] ∧ ∃ i : Nat, AL.get e 5 = vI i ∧ i + k = s.length + 1 ∧ i ≤ s.length ∧ ∀ j, j < i → s.getD j 0 ≠ c) (by kernel_rfl) ?_ ?_
  · simp only [go_sem, he, g0, g1]
    exact ⟨0, rfl, by omega, by omega, fun j hj => by omega⟩
  · rintro k e h ⟨rfl, he, g0, g1, i, g5, hik, hi, hno⟩
    have w1 : IntKind.i64.wrap ((i : Int) + 1) = ((i + 1 : Nat) : Int) := by rw [wI64 (by omega)]; rfl
    simp only [go_sem, he, g0, g1, g5, cast1, nn, w1]
    refine condK_of (fun hc => ?_) fun hc => ?_
    · have hc := of_decide_eq_true hc
      have hlt : i < s.length := by omega
      simp only [go_sem, he, g0, g1, g5, cast1, nn, w1, Int.toNat_natCast, take_one hlt]
      refine ⟨by omega, condK_of (fun hq => ?_) fun hq => ?_⟩
      · have hq : s.getD i 0 = c := by have := of_decide_eq_true hq; simpa using this
        simp only [go_sem, he, g0, g1, g5, cast1, nn, w1]
        unfold idxI
        rw [idx_drop_hit hlt hq hno]
      · have hq : s.getD i 0 ≠ c := by have := of_decide_eq_false hq; simpa using this
        simp only [go_sem, he, g0, g1, g5, cast1, nn, w1]
        refine ⟨k - 1, by omega, i + 1, rfl, by omega, by omega, fun j hj => ?_⟩
        rcases Nat.lt_or_ge j i with h1 | h1
        · exact hno j h1
        · have : j = i := by omega
          rw [this]; exact hq
    · have hc := of_decide_eq_false hc
      have : i = s.length := by omega
      subst this
      simp only [go_sem, he, g0, g1, g5, cast1, nn, w1]
      unfold idxI
      rw [idx_none hno]
/-- A slice of texts that grows: none yet, or one of the call's own. -/
def OutN (H h : Heap) (x : AV) (l : List (List UInt8)) : Prop := (x = .val (.slice none 0 0) ∧ l = [] ∧ ∃ G, h = H ++ G) ∨ OutAt H h x l
theorem OutN.push {H h : Heap} {x : AV} {l : List (List UInt8)} (hO : OutN H h x l) (s : List UInt8) (hl : l.length ≤ 100000000) : ∃ x' h', appendA Tryz.prog 42 x (.sl true h.length 0 1 1) (h ++ [AObj.own 9 [vS s]]) = some (x', h') ∧ OutAt H h' x' (l ++ [s]) ∧ ∀ (p : Nat) (y : AObj), h[p]? = some y → (∀ cs, y ≠ AObj.own 9 cs) → h'[p]? = some y := by
  rcases hO with ⟨rfl, rfl, G, rfl⟩ | hO
  · refine ⟨.sl true (H ++ G ++ [AObj.own 9 [vS s]]).length 0 1 1, (H ++ G ++ [AObj.own 9 [vS s]]) ++ [.own 9 [vS s]], ?_, ⟨⟨G ++ [AObj.own 9 [vS s]] ++ [.own 9 [vS s]], by simp only [List.append_assoc]⟩, _, rfl, by rw [heap_get0]; rfl, by simp only [List.length_append]; omega⟩, fun p y hp _ => get_more (get_more hp)⟩
    have h1 : cellsOf (H ++ G ++ [AObj.own 9 [vS s]]) (H ++ G).length = some [vS s] := by unfold cellsOf; rw [heap_get0]; rfl
    unfold appendA
    rw [el42]
    simp only [h1]
    rw [if_pos ⟨by simp, trivial, by rfl⟩]
    rfl
  · exact hO.push s hl
/-- A text cut at a sign. -/
def splitN (c : UInt8) : Nat → List UInt8 → List (List UInt8)
  | 0, s => [s]
  | k + 1, s => match idx c s with
    | none => [s]
    | some i => s.take i :: splitN c k (s.drop (i + 1))
def split (c : UInt8) (s : List UInt8) : List (List UInt8) := splitN c (s.length + 1) s
theorem idx_lt {c : UInt8} : ∀ {s : List UInt8} {i : Nat}, idx c s = some i → i < s.length
  | [], _, h => by simp [idx] at h
  | b :: r, i, h => by
    unfold idx at h
    split at h
    · simp at h; subst h; simp
    · obtain ⟨j, h1, rfl⟩ := Option.map_eq_some_iff.1 h
      have := idx_lt h1
      simp; omega
theorem zzSplit_A {w0 : World} (s : List UInt8) (c : UInt8) (hs : s.length ≤ 1000000) (H : Heap) : ACalls Tryz.prog (CB w0) 84 [vS s, vS [c]] H fun r H' => OutAt H H' r (split c s) := by
  refine A_fun (N := 58) (rs := [.tmp 4]) Tryz.func84 rfl rfl rfl (by kernel_rfl) (by kernel_rfl) (Nat.le_of_ble_eq_true rfl) ?_
  rintro e he ⟨g0, g1, -⟩
  simp only [go_sem, he, g0, g1, cast1, Int.reduceEq]
  refine A_while (s.length + 1) (fun k e h => len e = 58 ∧ AL.get e 1 = vS [c] ∧ ∃ cur x l, AL.get e 0 = vS cur ∧ AL.get e 5 = x ∧ OutN H h x l ∧ l ++ splitN c k cur = split c s ∧ cur.length + 1 ≤ k ∧ l.length + k ≤ s.length + 1) (by kernel_rfl) ?_ ?_
  · simp only [go_sem, he, g0, g1]
    exact ⟨s, _, [], rfl, rfl, .inl ⟨rfl, rfl, [], (List.append_nil _).symm⟩, rfl, by omega, by simp⟩
  · rintro k e h ⟨he, g1, cur, x, l, g0, g5, hO, hk, hck, hlk⟩
    simp only [go_sem, he, g0, g1, g5]
    refine callX_of (zzIndex_A cur c (by omega) _) (List.prefix_refl _) ?_
    simp only [go_sem, he, g0, g1, g5, setD_some]
    cases hi : idx c cur with
    | none =>
      have hd : decide ((-1 : Int) < 0) = true := rfl
      have hpush := hO.push cur (by omega)
      obtain ⟨x2, h2, ha, hO2, -⟩ := hpush
      obtain ⟨m, rfl⟩ : ∃ m, k = m + 1 := ⟨k - 1, by omega⟩
      rw [splitN, hi] at hk
      simp only [idxI, hi, hd, go_sem, he, g0, g1, g5] at ha ⊢
      rw [ha]
      simp only [go_sem, he]
      rw [← hk]
      exact hO2
    | some i =>
      have hd : decide ((i : Int) < 0) = false := decide_eq_false (by omega)
      have hlt := idx_lt hi
      have hpush := hO.push (cur.take i) (by omega)
      obtain ⟨x2, h2, ha, hO2, -⟩ := hpush
      obtain ⟨m, rfl⟩ : ∃ m, k = m + 1 := ⟨k - 1, by omega⟩
      rw [splitN, hi] at hk
      have w1 : IntKind.i64.wrap ((i : Int) + 1) = ((i + 1 : Nat) : Int) := by rw [wI64 (by omega)]; rfl
      simp only [idxI, hi, hd, cast1, nn, Int.toNat_natCast, w1, go_sem, he, g0, g1, g5] at ha ⊢
      refine ⟨by omega, ?_⟩
      rw [ha]
      simp only [cast1, nn, Int.toNat_natCast, w1, go_sem, he, g0, g1]
      rw [List.take_length]
      refine ⟨by omega, m, by omega, _, _, l ++ [cur.take i], rfl, rfl, .inr hO2, ?_, ?_, ?_⟩
      · rw [← hk, List.append_assoc]; rfl
      · rw [List.length_drop]; omega
      · rw [List.length_append, List.length_cons, List.length_nil]; omega

/-- An error that is not nil. -/
abbrev vE : AV := .ifc 207 .any
/-- strconv.Atoi's answer. -/
def atoiR (s : List UInt8) : AV := match Lib.atoiAll s with
  | .ok v => .tup [vI v, .val .nilIface]
  | .range => .tup [vI (Lib.atoiSat s), vE]
  | _ => .tup [vI 0, vE]
theorem A_libR {P : Program} {C : Base} {f : FuncId} {args : List Value} {x : AV} {H : Heap} (hc : Callable P f) (h : ∀ w, Below C.B C.w0 w → C.B ≤ w.heap.size → Calls P f args.toArray w fun e w' => ∃ rv, e = .returned rv ∧ (∀ m, rel m w' x rv) ∧ Below w.heap.size w w') : ACalls P C f (args.map .val) H fun r H' => r = x ∧ H' = H :=
  ⟨hc, fun m w vals h1 h2 => by
    rw [vals_eq h2]
    refine (h w h1.below h1.size).mono ?_
    rintro e w' ⟨rv, rfl, hr, hb⟩
    exact ⟨rv, m, H, x, rfl, ⟨List.prefix_refl m, szs_below hb, h1.belowW hb⟩, hr m, rfl, rfl⟩⟩
theorem atoi_bad (s : ByteArray) (hlim : s.size ≤ 281474976710656) (h1 : ∀ v, Lib.atoiAll s.data.toList ≠ .ok v) (h2 : Lib.atoiAll s.data.toList ≠ .range) (ev : Value) (w : World) (hv : w.cell? ⟨10, 0, none⟩ = some ev) (hev : ev = .nilIface ∨ ∃ te pe, ev = .iface te pe) :
    Calls Tryz.prog 89 #[.string s] w fun e w' => ∃ N, e = .returned (.tuple #[.int .i64 (0), .iface 207 (.pointer (some ⟨N, 0, none⟩))]) ∧ w.heap.size ≤ N ∧ w'.heap[N]? = some (.cells #[.string ⟨#[65, 116, 111, 105]⟩, .string s, ev] 240 (0, 0)) ∧ Below w.heap.size w w' := by
  cases h : Lib.atoiAll s.data.toList with
  | ok v => exact absurd h (h1 v)
  | range => exact absurd h h2
  | _ => exact Any.strconv_Atoi_syntax Tryz.laysC172 s hlim h ev w hv hev
theorem atoi_A {w0 : World} (hG : Glob w0) (s : List UInt8) (hs : s.length ≤ 1000000) (H : Heap) : ACalls Tryz.prog (CB w0) 89 [vS s] H fun r H' => r = atoiR s ∧ H' = H := by
  refine A_libR (args := [.string (S s)]) (callable_of Tryz.func89 (by kernel_rfl) (by kernel_rfl)) fun w hb _ => ?_
  have hg := hG.below hb
  unfold atoiR
  cases ha : Lib.atoiAll s with
  | ok v =>
    refine (Tryz.strconv_Atoi_ok (S s) (by rw [S_size]; omega) v ha w).mono ?_
    rintro e w' ⟨rfl, hw⟩
    refine ⟨_, rfl, fun m => ⟨_, rfl, rfl, rfl, trivial⟩, ?_⟩
    rcases hw with rfl | ⟨t, rfl⟩
    · exact Below.refl _ _
    · exact Lib.bytesWorld_below _ _ _
  | range =>
    obtain ⟨ev, h1, h2⟩ := hg.errR
    refine (Tryz.strconv_Atoi_range (S s) (by rw [S_size]; omega) ha ev w h1 h2).mono ?_
    rintro e w' ⟨N, rfl, _, _, hw⟩
    exact ⟨_, rfl, fun m => ⟨_, rfl, rfl, ⟨_, rfl, trivial⟩, trivial⟩, hw⟩
  | _ =>
    obtain ⟨ev, h1, h2⟩ := hg.errS
    refine (atoi_bad (S s) (by rw [S_size]; omega) (fun v hv => by have := ha.symm.trans hv; cases this) (fun hv => by have := ha.symm.trans hv; cases this) ev w h1 h2).mono ?_
    rintro e w' ⟨N, rfl, _, _, hw⟩
    exact ⟨_, rfl, fun m => ⟨_, rfl, rfl, ⟨_, rfl, trivial⟩, trivial⟩, hw⟩
/-- What was made is left out, and the answer known less well. -/
theorem ACalls.drop {P : Program} {C : Base} {f : FuncId} {args : List AV} {H : Heap} {R : AV → Prop} {x : AV} (h : ACalls P C f args H fun r H' => R r ∧ ∃ G, H' = H ++ G) (hx : ∀ r, R r → ∀ m m0 w v, rel m w r v → rel m0 w x v) : ACalls P C f args H fun r H' => r = x ∧ H' = H :=
  ⟨h.1, fun m w vals h1 h2 => (h.2 m w vals h1 h2).mono fun e w' ⟨rv, m', H', r, a, b, c, hr, G, hG⟩ => by
    subst hG
    exact ⟨rv, m, H, x, a, ⟨List.prefix_refl m, b.szs, h1.back b.rep b.pre⟩, hx r hr _ _ _ _ c, rfl, rfl⟩⟩
abbrev vErr : AV := .ifc 157 .any
theorem errorsNew_A {w0 : World} (s : List UInt8) (H : Heap) : ACalls Tryz.prog (CB w0) 71 [vS s] H fun r H' => r = vErr ∧ H' = H := by
  refine ACalls.drop (R := fun r => ∃ y, r = .ifc 157 y) ?_ ?_
  · refine A_fun (N := 7) (rs := [.tmp 2]) Tryz.func71 rfl rfl rfl (by kernel_rfl) (by kernel_rfl) (Nat.le_of_ble_eq_true rfl) ?_
    rintro e he ⟨g0, -⟩
    simp only [go_sem, he, g0]
    exact ⟨⟨_, rfl⟩, _, rfl⟩
  · rintro r ⟨y, rfl⟩ m m0 w v ⟨u, h1, _⟩
    exact ⟨u, h1, trivial⟩
theorem findA_nil {a : List UInt8} : findA (S a) [] = none := rfl
theorem findA_cons {a b : List UInt8} {c : AV} {l : List (ByteArray × AV)} : findA (S a) ((S b, c) :: l) = if a = b then some c else findA (S a) l := by
  rw [findA]
  by_cases h : a = b
  · simp [h]
  · have : ¬ S a = S b := fun e => h (S_inj.1 e)
    rw [if_neg this, if_neg h]
/-- A frequency's number by its name. -/
def freqOf (s : List UInt8) : Option Int := if s = [89, 69, 65, 82, 76, 89] then some (0) else if s = [77, 79, 78, 84, 72, 76, 89] then some (1) else if s = [87, 69, 69, 75, 76, 89] then some (2) else if s = [68, 65, 73, 76, 89] then some (3) else if s = [72, 79, 85, 82, 76, 89] then some (4) else if s = [77, 73, 78, 85, 84, 69, 76, 89] then some (5) else if s = [83, 69, 67, 79, 78, 68, 76, 89] then some (6) else none
theorem freq_chain (s : List UInt8) : (if s = [89, 69, 65, 82, 76, 89] then some (vI 0) else if s = [77, 79, 78, 84, 72, 76, 89] then some (vI 1) else if s = [87, 69, 69, 75, 76, 89] then some (vI 2) else if s = [68, 65, 73, 76, 89] then some (vI 3) else if s = [72, 79, 85, 82, 76, 89] then some (vI 4) else if s = [77, 73, 78, 85, 84, 69, 76, 89] then some (vI 5) else if s = [83, 69, 67, 79, 78, 68, 76, 89] then some (vI 6) else none) = (freqOf s).map vI := by
  unfold freqOf
  repeat' split
  all_goals rfl
def freqR (s : List UInt8) : AV := match freqOf s with
  | some n => .tup [vI n, .val .nilIface]
  | none => .tup [vI 0, vErr]
theorem strToFreq_A {w0 : World} (s : List UInt8) (hs : s.length ≤ 1000000) (H : Heap) : ACalls Tryz.prog (CB w0) 41 [vS s] H fun r H' => r = freqR s ∧ ∃ G, H' = H ++ G := by
  refine A_fun (N := 21) (rs := [.tmp 2, .tmp 3]) Tryz.func41 rfl rfl rfl (by kernel_rfl) (by kernel_rfl) (Nat.le_of_ble_eq_true rfl) ?_
  rintro e he ⟨g0, -⟩
  simp (decide := true) only [go_sem, he, g0, findA_nil, findA_cons, if_false]
  rw [freq_chain]
  unfold freqR
  cases freqOf s with
  | some n =>
    simp only [go_sem, he, g0]
    exact ⟨_, rfl⟩
  | none =>
    simp only [go_sem, he, g0]
    refine ⟨by omega, callX_of (errorsNew_A _ _) (List.prefix_refl _) ?_⟩
    simp only [go_sem, he, setD_some]
    exact ⟨_, rfl⟩

mutual
/-- Does it lead to no object? -/
def flat : AV → Bool
  | .val _ => true
  | .any => true
  | .ifc _ x => flat x
  | .agg l => flats l
  | .tup l => flats l
  | _ => false
def flats : List AV → Bool
  | [] => true
  | c :: l => flat c && flats l
end
mutual
theorem flat_rel {m m0 : Places} {w : World} : ∀ {c : AV} {v : Value}, flat c = true → rel m w c v → rel m0 w c v
  | .val _, _, _, h => h
  | .any, _, _, _ => trivial
  | .ifc _ x, _, hf, ⟨u, h1, h2⟩ => ⟨u, h1, flat_rel (by simpa [flat] using hf) h2⟩
  | .agg l, _, hf, ⟨vs, h1, h2⟩ => ⟨vs, h1, flats_rel (by simpa [flat] using hf) h2⟩
  | .tup l, _, hf, ⟨vs, h1, h2⟩ => ⟨vs, h1, flats_rel (by simpa [flat] using hf) h2⟩
  | .ptr .., _, hf, _ => by simp [flat] at hf
  | .sl .., _, hf, _ => by simp [flat] at hf
  | .mp .., _, hf, _ => by simp [flat] at hf
  | .fn .., _, hf, _ => by simp [flat] at hf
theorem flats_rel {m m0 : Places} {w : World} : ∀ {l : List AV} {vs : List Value}, flats l = true → rels m w l vs → rels m0 w l vs
  | [], [], _, _ => trivial
  | c :: l, v :: vs, hf, h => by
    simp only [flats, Bool.and_eq_true] at hf
    exact ⟨flat_rel hf.1 h.1, flats_rel hf.2 h.2⟩
  | [], _ :: _, _, h => h.elim
  | _ :: _, [], _, h => h.elim
end
/-- An answer that leads to no object: what was made is left out. -/
theorem ACalls.flat {P : Program} {C : Base} {f : FuncId} {args : List AV} {H : Heap} {x : AV} (hx : F.flat x = true) (h : ACalls P C f args H fun r H' => r = x ∧ ∃ G, H' = H ++ G) : ACalls P C f args H fun r H' => r = x ∧ H' = H :=
  ACalls.drop (R := fun r => r = x) h fun r hr m m0 w v hv => by subst hr; exact flat_rel hx hv
/-- The weekdays' variables. -/
structure GH (H : Heap) : Prop where
  mo : H[0]? = some (.ro [vI 0, vI 0])
  tu : H[2]? = some (.ro [vI 1, vI 0])
  we : H[3]? = some (.ro [vI 2, vI 0])
  th : H[4]? = some (.ro [vI 3, vI 0])
  fr : H[5]? = some (.ro [vI 4, vI 0])
  sa : H[6]? = some (.ro [vI 5, vI 0])
  su : H[7]? = some (.ro [vI 6, vI 0])
theorem GH.more {H : Heap} (h : GH H) (G : Heap) : GH (H ++ G) :=
  ⟨get_more h.mo, get_more h.tu, get_more h.we, get_more h.th, get_more h.fr, get_more h.sa, get_more h.su⟩
theorem GH.at {H : Heap} (h : GH H) : (∀ G, (H ++ G)[0]? = some (.ro [vI 0, vI 0])) ∧ (∀ G, (H ++ G)[2]? = some (.ro [vI 1, vI 0])) ∧ (∀ G, (H ++ G)[3]? = some (.ro [vI 2, vI 0])) ∧ (∀ G, (H ++ G)[4]? = some (.ro [vI 3, vI 0])) ∧ (∀ G, (H ++ G)[5]? = some (.ro [vI 4, vI 0])) ∧ (∀ G, (H ++ G)[6]? = some (.ro [vI 5, vI 0])) ∧ (∀ G, (H ++ G)[7]? = some (.ro [vI 6, vI 0])) :=
  ⟨fun _ => get_more h.mo, fun _ => get_more h.tu, fun _ => get_more h.we, fun _ => get_more h.th, fun _ => get_more h.fr, fun _ => get_more h.sa, fun _ => get_more h.su⟩
/-- An answer with an error beside it. -/
def exR {α : Type} (f : α → AV) (z : AV) : Except Nat α → AV
  | .ok a => .tup [f a, .val .nilIface]
  | .error t => .tup [z, .ifc t .any]
/-- A weekday's number by its name. -/
def wdNum (s : List UInt8) : Option Int := if s = [77, 79] then some 0 else if s = [84, 85] then some 1 else if s = [87, 69] then some 2 else if s = [84, 72] then some 3 else if s = [70, 82] then some 4 else if s = [83, 65] then some 5 else if s = [83, 85] then some 6 else none
def wdOf (s : List UInt8) : Except Nat (Int × Int) :=
  if s.length < 2 then .error 157 else match wdNum (s.drop (s.length - 2)) with
  | none => .error 157
  | some k => if 2 < s.length then (match Lib.atoiAll (s.take (s.length - 2)) with
    | .ok n => .ok (k, n)
    | _ => .error 207) else .ok (k, 0)
abbrev vD (d : Int × Int) : AV := .agg [vI d.1, vI d.2]
def wdR (s : List UInt8) : AV := exR vD (vD (0, 0)) (wdOf s)
theorem exR_flat {α : Type} {f : α → AV} {z : AV} (x : Except Nat α) (hz : F.flat z = true) (hf : ∀ a, F.flat (f a) = true) : F.flat (exR f z x) = true := by
  cases x with
  | ok a => simp [exR, F.flat, flats, hf a]
  | error t => simp [exR, F.flat, flats, hz]
theorem wdR_flat (s : List UInt8) : F.flat (wdR s) = true := exR_flat _ rfl fun _ => rfl
theorem wd_chain (s : List UInt8) : (if s = [77, 79] then some (vD (0, 0)) else if s = [84, 85] then some (vD (1, 0)) else if s = [87, 69] then some (vD (2, 0)) else if s = [84, 72] then some (vD (3, 0)) else if s = [70, 82] then some (vD (4, 0)) else if s = [83, 65] then some (vD (5, 0)) else if s = [83, 85] then some (vD (6, 0)) else none) = (wdNum s).map fun k => vD (k, 0) := by
  unfold wdNum
  repeat' split
  all_goals rfl
theorem strToWeekday_A {w0 : World} (hG : Glob w0) (s : List UInt8) (hs : s.length ≤ 1000000) (H : Heap) (hH : GH H) : ACalls Tryz.prog (CB w0) 90 [vS s] H fun r H' => r = wdR s ∧ H' = H := by
  refine ACalls.flat (wdR_flat s) ?_
  refine A_fun (N := 60) (rs := [.cell 2 84, .tmp 3]) Tryz.func90 rfl rfl rfl (by kernel_rfl) (by kernel_rfl) (Nat.le_of_ble_eq_true rfl) ?_
  rintro e he ⟨g0, -⟩
  simp only [go_sem, he, g0]
  refine condK_of (fun hc => ?_) fun hc => ?_
  · have hc := of_decide_eq_true hc
    simp only [go_sem, he, g0]
    refine ⟨by omega, callX_of (errorsNew_A _ _) (List.prefix_refl _) ?_⟩
    simp only [go_sem, he, setD_some]
    refine ⟨?_, _, rfl⟩
    unfold wdR wdOf
    rw [if_pos (by omega)]
    rfl
  · have hc := of_decide_eq_false hc
    obtain ⟨m0, m2, m3, m4, m5, m6, m7⟩ := hH.at
    have w1 : IntKind.i64.wrap ((s.length : Int) - 2) = ((s.length - 2 : Nat) : Int) := by rw [wI64 (by omega)]; omega
    simp (decide := true) only [go_sem, he, g0, m0, m2, m3, m4, m5, m6, m7, findA_nil, findA_cons, if_false, w1, nn]
    refine ⟨by omega, ?_⟩
    rw [List.take_length, wd_chain]
    unfold wdR wdOf
    rw [if_neg (by omega)]
    cases wdNum (s.drop (s.length - 2)) with
    | none =>
      simp only [Option.map_none, go_sem, he, g0]
      refine ⟨by omega, callX_of (errorsNew_A _ _) (List.prefix_refl _) ?_⟩
      simp only [go_sem, he, setD_some]
      exact ⟨rfl, _, rfl⟩
    | some k =>
      simp only [Option.map_some, go_sem, he, g0]
      refine condK_of (fun hd => ?_) fun hd => ?_
      · have hd := of_decide_eq_true hd
        simp only [go_sem, he, g0, w1, nn]
        refine ⟨by omega, callX_of (atoi_A hG _ (by rw [List.length_take]; omega) _) (List.prefix_refl _) ?_⟩
        rw [if_pos (by omega)]
        unfold atoiR
        cases Lib.atoiAll (s.take (s.length - 2)) with
        | ok n =>
          simp only [go_sem, he, g0, setD_some]
          exact ⟨rfl, _, rfl⟩
        | range =>
          simp only [go_sem, he, g0, setD_some]
          exact ⟨rfl, _, rfl⟩
        | _ =>
          simp only [go_sem, he, g0, setD_some]
          exact ⟨rfl, _, rfl⟩
      · have hd := of_decide_eq_false hd
        simp only [go_sem, he, g0, w1, nn]
        rw [if_neg (by omega)]
        exact ⟨rfl, _, rfl⟩

theorem splitN_length (c : UInt8) : ∀ (k : Nat) (s : List UInt8), (splitN c k s).length ≤ k + 1 ∧ 0 < (splitN c k s).length
  | 0, s => by simp [splitN]
  | k + 1, s => by
    unfold splitN
    split
    · simp
    · have := splitN_length c k (s.drop (‹Nat› + 1))
      simp only [List.length_cons]; omega
theorem split_length (c : UInt8) (s : List UInt8) : (split c s).length ≤ s.length + 2 ∧ 0 < (split c s).length := splitN_length c _ s
theorem splitN_mem (c : UInt8) : ∀ (k : Nat) (s x : List UInt8), x ∈ splitN c k s → x.length ≤ s.length
  | 0, s, x, h => by simp [splitN] at h; simp [h]
  | k + 1, s, x, h => by
    unfold splitN at h
    split at h
    · simp at h; simp [h]
    · rcases List.mem_cons.1 h with rfl | h
      · rw [List.length_take]; omega
      · have := splitN_mem c k _ x h
        rw [List.length_drop] at this; omega
theorem split_mem {c : UInt8} {s x : List UInt8} (h : x ∈ split c s) : x.length ≤ s.length := splitN_mem c _ s x h
def mapAcc {α β : Type} (f : α → Except Nat β) (acc : List β) : List α → Except Nat (List β)
  | [] => .ok acc
  | a :: r => match f a with
    | .ok b => mapAcc f (acc ++ [b]) r
    | .error t => .error t
def atoiE (s : List UInt8) : Except Nat Int := match Lib.atoiAll s with
  | .ok n => .ok n
  | _ => .error 207
def intsOf (s : List UInt8) : Except Nat (List Int) := mapAcc atoiE [] (split 44 s)
def daysOf (s : List UInt8) : Except Nat (List (Int × Int)) := mapAcc wdOf [] (split 44 s)
theorem drop_get {α : Type} {l : List α} {i : Nat} (h : i < l.length) : ∃ a, l[i]? = some a ∧ l.drop i = a :: l.drop (i + 1) :=
  ⟨l[i], List.getElem?_eq_getElem h, List.drop_eq_getElem_cons h⟩
theorem putCells_one {cs : List AV} {i : Nat} {c : AV} (h : i < cs.length) : (putCells cs i [c]).length = cs.length ∧ ∀ j, (putCells cs i [c])[j]? = if j = i then some c else cs[j]? := by
  refine ⟨by rw [putCells_length _ _ _ (by simp; omega)], fun j => ?_⟩
  rw [putCells_get _ _ _ (by simp; omega)]
  by_cases hj : j = i
  · subst hj; simp
  · rw [if_neg (by simp; omega), if_neg hj]
/-- A slice of numbers out of a text, with its error. -/
def IntsR (H h : Heap) (r : AV) : Except Nat (List Int) → Prop
  | .ok l => ∃ p, r = .tup [.sl true p 0 l.length 1, .val .nilIface] ∧ h[p]? = some (.own 3 (l.map vI)) ∧ H.length ≤ p
  | .error t => r = .tup [.val (.slice none 0 0), .ifc t .any]
theorem strToInts_A {w0 : World} (hG : Glob w0) (s : List UInt8) (hs : s.length ≤ 100000) (H : Heap) : ACalls Tryz.prog (CB w0) 91 [vS s] H fun r H' => IntsR H H' r (intsOf s) ∧ ∃ G, H' = H ++ G := by
  refine A_fun (N := 34) (rs := [.tmp 2, .tmp 3]) Tryz.func91 rfl rfl rfl (by kernel_rfl) (by kernel_rfl) (Nat.le_of_ble_eq_true rfl) ?_
  rintro e he ⟨g0, -⟩
  simp only [go_sem, he, g0]
  refine callX_any (zzSplit_A s 44 (by omega) _) ?_
  rintro r h ⟨⟨G, rfl⟩, o, rfl, ho, hol⟩
  have hsl := split_length 44 s
  have hsm : ∀ x ∈ split 44 s, x.length ≤ s.length := fun x => split_mem
  unfold intsOf
  generalize split 44 s = ss at *
  simp only [go_sem, he, g0, setD_some, ho, makeSliceA]
  refine ⟨by omega, ?_⟩
  refine A_while ss.length (fun k e h => ∃ (i p : Nat) (cs : List AV) (vs : List Int), i + k = ss.length ∧ len e = 34 ∧ AL.get e 14 = .sl true o 0 ss.length 1 ∧ AL.get e 15 = vI ss.length ∧ AL.get e 16 = vI i ∧ AL.get e 5 = .sl true p 0 ss.length 1 ∧ (∃ G, h = H ++ G) ∧ H.length ≤ p ∧ o ≠ p ∧ h[o]? = some (.own 9 (ss.map vS)) ∧ h[p]? = some (.own 3 cs) ∧ cs.length = ss.length ∧ vs.length = i ∧ (∀ j, j < i → cs[j]? = some (vI (vs.getD j 0))) ∧ mapAcc atoiE vs (ss.drop i) = mapAcc atoiE [] ss) (by kernel_rfl) ?_ ?_
  · simp only [go_sem, he, g0]
    have hlt : o < (H ++ G).length := (List.getElem?_eq_some_iff.1 ho).1
    refine ⟨0, _, zerosN [Value.int IntKind.i64 0] ss.length, [], by omega, rfl, rfl, ⟨_, rfl⟩, by omega, by rw [← List.length_append]; omega, ?_, ?_, by simp [zerosN_length], rfl, fun j hj => by omega, rfl⟩
    · rw [← List.append_assoc]; exact get_more ho
    · rw [← List.append_assoc, ← List.length_append]; exact heap_get0
  · rintro k e h ⟨i, p, cs, vs, hik, he, g14, g15, g16, g5, ⟨G1, rfl⟩, hp, hop, ho, hcs, hcl, hvl, hcv, hm⟩
    simp only [go_sem, he, g14, g15, g16, g5]
    refine condK_of (fun hc => ?_) fun hc => ?_
    · have hc := of_decide_eq_true hc
      obtain ⟨a, ha, hd⟩ := drop_get (l := ss) (i := i) (by omega)
      have hai : (ss.map vS)[i]? = some (vS a) := by rw [List.getElem?_map, ha]; rfl
      have hal := hsm a (List.mem_of_getElem? ha)
      simp only [go_sem, he, g14, g15, g16, g5, ho, hai, Int.toNat_natCast]
      refine ⟨by omega, callX_of (atoi_A hG a (by omega) _) (List.prefix_refl _) ?_⟩
      rw [hd, mapAcc] at hm
      unfold atoiR
      have wi : IntKind.i64.wrap ((i : Int) + 1) = ((i + 1 : Nat) : Int) := by rw [wI64 (by omega)]; rfl
      cases hq : Lib.atoiAll a with
      | ok n =>
        have ea : atoiE a = .ok n := by unfold atoiE; rw [hq]
        replace hm : mapAcc atoiE (vs ++ [n]) (ss.drop (i + 1)) = mapAcc atoiE [] ss := by rw [ea] at hm; exact hm
        simp only [go_sem, he, g14, g15, g16, g5, hcs, setD_some, Int.toNat_natCast, wi]
        obtain ⟨p1, p2⟩ := putCells_one (cs := cs) (i := i) (c := vI n) (by omega)
        refine ⟨by omega, by omega, k - 1, by omega, i + 1, p, putCells cs i [vI n], vs ++ [n], by omega, rfl, rfl, ⟨_, set_behind hp⟩, hp, hop, ?_, ?_, by omega, by simp; omega, ?_, hm⟩
        · rw [List.getElem?_set_ne (by omega)]; exact ho
        · rw [List.getElem?_set_self (List.getElem?_eq_some_iff.1 hcs).1]; simp [putCells]
        · intro j hj
          rw [p2]
          by_cases h1 : j = i
          · rw [if_pos h1, h1, ← hvl]; simp
          · rw [if_neg h1, hcv j (by omega), List.getD_eq_getElem?_getD, List.getD_eq_getElem?_getD, List.getElem?_append_left (by omega)]
      | range =>
        have ea : atoiE a = .error 207 := by unfold atoiE; rw [hq]
        replace hm : .error 207 = mapAcc atoiE [] ss := by rw [ea] at hm; exact hm
        simp only [go_sem, he, g14, g15, g16, g5, hcs, setD_some, Int.toNat_natCast, wi]
        refine ⟨by omega, by omega, ?_, _, set_behind hp⟩
        rw [← hm]
        exact rfl
      | _ =>
        have ea : atoiE a = .error 207 := by unfold atoiE; rw [hq]
        replace hm : .error 207 = mapAcc atoiE [] ss := by rw [ea] at hm; exact hm
        simp only [go_sem, he, g14, g15, g16, g5, hcs, setD_some, Int.toNat_natCast, wi]
        refine ⟨by omega, by omega, ?_, _, set_behind hp⟩
        rw [← hm]
        exact rfl
    · have hc := of_decide_eq_false hc
      simp only [go_sem, he, g14, g15, g16, g5]
      have hi : i = ss.length := by omega
      rw [hi, List.drop_length, mapAcc] at hm
      refine ⟨?_, _, rfl⟩
      rw [← hm]
      have hcs' : cs = vs.map vI := by
        refine List.ext_getElem? fun j => ?_
        by_cases hj : j < i
        · rw [hcv j hj, List.getElem?_map, List.getD_eq_getElem?_getD]
          rw [List.getElem?_eq_getElem (by omega)]; rfl
        · rw [List.getElem?_eq_none (by omega), List.getElem?_eq_none (by rw [List.length_map]; omega)]
      refine ⟨p, ?_, by rw [hcs, hcs'], hp⟩
      rw [← hi, hvl]
/-- A slice of weekdays out of a text, with its error. -/
def DaysR (H h : Heap) (r : AV) : Except Nat (List (Int × Int)) → Prop
  | .ok l => ∃ p cs, r = .tup [.sl true p 0 l.length 2, .val .nilIface] ∧ h[p]? = some (.own 84 cs) ∧ H.length ≤ p ∧ (∀ i, i < l.length * 2 → cs[i]? = some (if i % 2 = 0 then vI (l.getD (i / 2) (0, 0)).1 else vI (l.getD (i / 2) (0, 0)).2))
  | .error t => r = .tup [.val (.slice none 0 0), .ifc t .any]
theorem strToWeekdays_A {w0 : World} (hG : Glob w0) (s : List UInt8) (hs : s.length ≤ 100000) (H : Heap) (hH : GH H) : ACalls Tryz.prog (CB w0) 92 [vS s] H fun r H' => DaysR H H' r (daysOf s) ∧ ∃ G, H' = H ++ G := by
  refine A_fun (N := 34) (rs := [.tmp 2, .tmp 3]) Tryz.func92 rfl rfl rfl (by kernel_rfl) (by kernel_rfl) (Nat.le_of_ble_eq_true rfl) ?_
  rintro e he ⟨g0, -⟩
  simp only [go_sem, he, g0]
  refine callX_any (zzSplit_A s 44 (by omega) _) ?_
  rintro r h ⟨⟨G, rfl⟩, o, rfl, ho, hol⟩
  have hsl := split_length 44 s
  have hsm : ∀ x ∈ split 44 s, x.length ≤ s.length := fun x => split_mem
  unfold daysOf
  generalize split 44 s = ss at *
  simp only [go_sem, he, g0, setD_some, ho, makeSliceA]
  refine ⟨by omega, ?_⟩
  refine A_while ss.length (fun k e h => ∃ (i p : Nat) (cs : List AV) (vs : List (Int × Int)), i + k = ss.length ∧ len e = 34 ∧ AL.get e 14 = .sl true o 0 ss.length 1 ∧ AL.get e 15 = vI ss.length ∧ AL.get e 16 = vI i ∧ AL.get e 5 = .sl true p 0 ss.length 2 ∧ (∃ G, h = H ++ G) ∧ H.length ≤ p ∧ o ≠ p ∧ h[o]? = some (.own 9 (ss.map vS)) ∧ h[p]? = some (.own 84 cs) ∧ cs.length = ss.length * 2 ∧ vs.length = i ∧ (∀ j, j < i * 2 → cs[j]? = some (if j % 2 = 0 then vI (vs.getD (j / 2) (0, 0)).1 else vI (vs.getD (j / 2) (0, 0)).2)) ∧ mapAcc wdOf vs (ss.drop i) = mapAcc wdOf [] ss) (by kernel_rfl) ?_ ?_
  · simp only [go_sem, he, g0]
    have hlt : o < (H ++ G).length := (List.getElem?_eq_some_iff.1 ho).1
    refine ⟨0, _, zerosN [Value.int IntKind.i64 0, Value.int IntKind.i64 0] ss.length, [], by omega, rfl, rfl, ⟨_, rfl⟩, by omega, by rw [← List.length_append]; omega, ?_, ?_, by simp [zerosN_length], rfl, fun j hj => by omega, rfl⟩
    · rw [← List.append_assoc]; exact get_more ho
    · rw [← List.append_assoc, ← List.length_append]; exact heap_get0
  · rintro k e h ⟨i, p, cs, vs, hik, he, g14, g15, g16, g5, ⟨G1, rfl⟩, hp, hop, ho, hcs, hcl, hvl, hcv, hm⟩
    simp only [go_sem, he, g14, g15, g16, g5]
    refine condK_of (fun hc => ?_) fun hc => ?_
    · have hc := of_decide_eq_true hc
      obtain ⟨a, ha, hd⟩ := drop_get (l := ss) (i := i) (by omega)
      have hai : (ss.map vS)[i]? = some (vS a) := by rw [List.getElem?_map, ha]; rfl
      have hal := hsm a (List.mem_of_getElem? ha)
      simp only [go_sem, he, g14, g15, g16, g5, ho, hai, Int.toNat_natCast]
      refine ⟨by omega, callX_of (strToWeekday_A hG a (by omega) _ (hH.more _)) (List.prefix_refl _) ?_⟩
      rw [hd, mapAcc] at hm
      unfold wdR
      have wi : IntKind.i64.wrap ((i : Int) + 1) = ((i + 1 : Nat) : Int) := by rw [wI64 (by omega)]; rfl
      cases hq : wdOf a with
      | ok n =>
        replace hm : mapAcc wdOf (vs ++ [n]) (ss.drop (i + 1)) = mapAcc wdOf [] ss := by rw [hq] at hm; exact hm
        simp only [exR, go_sem, he, g14, g15, g16, g5, hcs, setD_some, Int.toNat_natCast, wi]
        refine ⟨by omega, by omega, k - 1, by omega, i + 1, p, putCells cs (i * 2) [vI n.1, vI n.2], vs ++ [n], by omega, rfl, rfl, ⟨_, set_behind hp⟩, hp, hop, ?_, ?_, ?_, by simp; omega, ?_, hm⟩
        · rw [List.getElem?_set_ne (by omega)]; exact ho
        · rw [List.getElem?_set_self (List.getElem?_eq_some_iff.1 hcs).1]; simp [putCells]
        · rw [putCells_length _ _ _ (by simp; omega)]; omega
        · intro j hj
          rw [putCells_get _ _ _ (by simp; omega)]
          by_cases h1 : i * 2 ≤ j
          · rw [if_pos (by simp; omega)]
            have hg : (vs ++ [n]).getD (j / 2) (0, 0) = n := by
              rw [show j / 2 = vs.length by omega, List.getD_eq_getElem?_getD]; simp
            rw [hg]
            by_cases h2 : j = i * 2
            · subst h2; rw [if_pos (by omega)]; simp
            · rw [show j = i * 2 + 1 by omega, if_neg (by omega)]; simp
          · rw [if_neg (by omega), hcv j (by omega)]
            have hg : (vs ++ [n]).getD (j / 2) (0, 0) = vs.getD (j / 2) (0, 0) := by
              rw [List.getD_eq_getElem?_getD, List.getD_eq_getElem?_getD, List.getElem?_append_left (by omega)]
            rw [hg]
      | error t =>
        replace hm : .error t = mapAcc wdOf [] ss := by rw [hq] at hm; exact hm
        simp only [exR, go_sem, he, g14, g15, g16, g5, hcs, setD_some, Int.toNat_natCast, wi]
        refine ⟨by omega, by omega, ?_, _, set_behind hp⟩
        rw [← hm]
        exact rfl
    · have hc := of_decide_eq_false hc
      simp only [go_sem, he, g14, g15, g16, g5]
      have hi : i = ss.length := by omega
      rw [hi, List.drop_length, mapAcc] at hm
      refine ⟨?_, _, rfl⟩
      rw [← hm]
      refine ⟨p, cs, by rw [← hi, hvl], hcs, hp, fun j hj => hcv j (by omega)⟩

def isDig (c : UInt8) : Bool := decide (48 ≤ c.toNat) && decide (c.toNat ≤ 57)
def digFold (l : List UInt8) : Int := l.foldl (fun a c => 10 * a + ((c.toNat : Int) - 48)) 0
def zDigits (s : List UInt8) (n : Nat) : Option (Int × List UInt8) := if s.length < n then none else if (s.take n).all isDig then some (digFold (s.take n), s.drop n) else none
def zDigitsR (s : List UInt8) (n : Nat) : AV := match zDigits s n with
  | some (v, r) => .tup [vI v, vS r, vB true]
  | none => .tup [vI 0, vS s, vB false]
theorem digFold_snoc (l : List UInt8) (c : UInt8) : digFold (l ++ [c]) = 10 * digFold l + ((c.toNat : Int) - 48) := by simp [digFold]
theorem digFold_le : ∀ (n : Nat) (l : List UInt8), l.length = n → l.all isDig = true → 0 ≤ digFold l ∧ digFold l ≤ 10 ^ n - 1
  | 0, l, h, _ => by rw [List.eq_nil_of_length_eq_zero h]; simp [digFold]
  | n + 1, l, h, ha => by
    obtain ⟨l', c, rfl⟩ : ∃ l' c, l = l' ++ [c] := ⟨l.dropLast, l.getLast (by intro e; simp [e] at h), (List.dropLast_concat_getLast _).symm⟩
    simp only [List.all_append, List.all_cons, List.all_nil, Bool.and_true, Bool.and_eq_true, isDig, decide_eq_true_eq] at ha
    have ih := digFold_le n l' (by simpa using h) (by simpa [isDig] using ha.1)
    rw [digFold_snoc, Int.pow_succ]
    omega
theorem all_dig {s : List UInt8} {n i : Nat} {c : UInt8} (ha : (s.take n).all isDig = true) (h : i < n) (hi : i < s.length) (hc : s.getD i 0 = c) : 48 ≤ c.toNat ∧ c.toNat ≤ 57 := by
  have hm : c ∈ s.take n := by
    refine List.mem_of_getElem? (i := i) ?_
    rw [List.getElem?_take_of_lt h, List.getElem?_eq_getElem hi, ← hc, List.getD_eq_getElem?_getD, List.getElem?_eq_getElem hi]; rfl
  have := List.all_eq_true.1 ha c hm
  simpa [isDig] using this
theorem zdigits_A {w0 : World} (s : List UInt8) (n : Nat) (hs : s.length ≤ 1000000) (hn : n ≤ 8) (H : Heap) : ACalls Tryz.prog (CB w0) 137 [vS s, vI n] H fun r H' => r = zDigitsR s n ∧ H' = H := by
  refine A_fun (N := 42) (rs := [.tmp 4, .tmp 5, .tmp 6]) Tryz.func137 rfl rfl rfl (by kernel_rfl) (by kernel_rfl) (Nat.le_of_ble_eq_true rfl) ?_
  rintro e he ⟨g0, g1, -⟩
  simp only [go_sem, he, g0, g1]
  unfold zDigitsR zDigits
  refine condK_of (fun hc => ?_) fun hc => ?_
  · have hc := of_decide_eq_true hc
    rw [if_pos (by omega)]
    simp only [go_sem, he, g0, g1]
  · have hc := of_decide_eq_false hc
    rw [if_neg (by omega)]
    simp only [go_sem, he, g0, g1]
    refine A_while n (fun k e h => h = H ∧ len e = 42 ∧ AL.get e 0 = vS s ∧ AL.get e 1 = vI n ∧ ∃ (i : Nat), AL.get e 8 = vI i ∧ AL.get e 7 = vI (digFold (s.take i)) ∧ i + k = n ∧ (s.take i).all isDig = true) (by kernel_rfl) ?_ ?_
    · simp only [go_sem, he, g0, g1]
      exact ⟨0, rfl, rfl, by omega, rfl⟩
    · rintro k e h ⟨rfl, he, g0, g1, i, g8, g7, hik, hall⟩
      simp only [go_sem, he, g0, g1, g7, g8]
      refine condK_of (fun hc => ?_) fun hc => ?_
      · have hc := of_decide_eq_true hc
        have hi : i < s.length := by omega
        have htk : s.take (i + 1) = s.take i ++ [s.getD i 0] := by rw [List.take_add_one, List.getD_eq_getElem?_getD, List.getElem?_eq_getElem hi]; rfl
        have hdf := digFold_le i (s.take i) (by rw [List.length_take]; omega) hall
        have hp : (10 : Int) ^ i ≤ 100000000 := by
          have : (10 : Int) ^ i ≤ 10 ^ 8 := by exact_mod_cast Nat.pow_le_pow_right (by omega) (by omega)
          omega
        generalize hcc : s.getD i 0 = c at *
        by_cases h48 : (c.toNat : Int) < 48
        · have e48 := decide_eq_true h48
          simp only [go_sem, he, g0, g1, g7, g8, Int.toNat_natCast, hcc, e48]
          refine ⟨by omega, ?_⟩
          rw [if_neg (fun ha => by have := all_dig ha (show i < n by omega) hi hcc; omega)]
        · have e48 := decide_eq_false h48
          simp only [go_sem, he, g0, g1, g7, g8, Int.toNat_natCast, hcc, e48]
          refine ⟨by omega, by omega, condK_of (fun hq => ?_) fun hq => ?_⟩
          · have hq := of_decide_eq_true hq
            simp only [go_sem, he, g0, g1, g7, g8]
            rw [if_neg (fun ha => by have := all_dig ha (show i < n by omega) hi hcc; omega)]
          · have hq := of_decide_eq_false hq
            have u1 : IntKind.u8.wrap ((c.toNat : Int) - 48) = (c.toNat : Int) - 48 := wU8 (by omega)
            have u2 : IntKind.i64.wrap ((c.toNat : Int) - 48) = (c.toNat : Int) - 48 := wI64 (by omega)
            have u3 : IntKind.i64.wrap (10 * digFold (s.take i)) = 10 * digFold (s.take i) := wI64 (by omega)
            have u4 : IntKind.i64.wrap (10 * digFold (s.take i) + ((c.toNat : Int) - 48)) = digFold (s.take (i + 1)) := by rw [htk, digFold_snoc, wI64 (by omega)]
            have wi : IntKind.i64.wrap ((i : Int) + 1) = ((i + 1 : Nat) : Int) := by rw [wI64 (by omega)]; rfl
            simp only [go_sem, he, g0, g1, g7, g8, Int.toNat_natCast, hcc, u1, conv_int (P := Tryz.prog) (s := 5) (d := 3) Tryz.underlying5 Tryz.underlying3, u2, u3, u4, wi]
            refine ⟨by omega, k - 1, by omega, i + 1, rfl, rfl, by omega, ?_⟩
            rw [htk, List.all_append, hall]
            simp [isDig]; omega
      · have hc := of_decide_eq_false hc
        have : i = n := by omega
        subst this
        simp only [go_sem, he, g0, g1, g7, g8, Int.toNat_natCast]
        refine acode_draw mixed (by kernel_rfl) ?_
        simp only [go_sem, he, g0, g1, g7, g8, Int.toNat_natCast, nn, hall]
        rw [List.take_length]
        refine ⟨by omega, rfl⟩

theorem zleap_A {w0 : World} (y : Int) (h0 : 0 ≤ y) (H : Heap) : ACalls Tryz.prog (CB w0) 162 [vI y] H fun r H' => r = vB (leap y) ∧ H' = H := by
  refine A_fun (N := 16) (rs := [.tmp 2]) Tryz.func162 rfl rfl rfl (by kernel_rfl) (by kernel_rfl) (Nat.le_of_ble_eq_true rfl) ?_
  rintro e he ⟨g0, -⟩
  have e4 : y.tmod 4 = y % 4 := Int.tmod_eq_emod_of_nonneg h0
  have e1 : y.tmod 100 = y % 100 := Int.tmod_eq_emod_of_nonneg h0
  have e2 : y.tmod 400 = y % 400 := Int.tmod_eq_emod_of_nonneg h0
  by_cases c4 : y % 4 = 0
  · by_cases c1 : y % 100 = 0
    · simp only [go_sem, he, g0, e4, e1, e2, c4, c1]
      simp [leap, c4, c1]
    · simp only [go_sem, he, g0, e4, e1, e2, c4, c1]
      simp [leap, c4, c1]
  · simp only [go_sem, he, g0, e4, c4]
    simp [leap, c4]
theorem zmonthDays_A {w0 : World} (y m : Int) (h0 : 0 ≤ y) (H : Heap) : ACalls Tryz.prog (CB w0) 138 [vI m, vI y] H fun r H' => r = vI (monthDays y m) ∧ H' = H := by
  refine A_fun (N := 15) (rs := [.tmp 4]) Tryz.func138 rfl rfl rfl (by kernel_rfl) (by kernel_rfl) (Nat.le_of_ble_eq_true rfl) ?_
  rintro e he ⟨g0, g1, -⟩
  unfold monthDays
  by_cases a2 : m = 2
  · simp only [go_sem, he, g0, g1, a2, or_false, if_false]
    refine callX_of (zleap_A y h0 H) (List.prefix_refl _) ?_
    simp only [go_sem, he, setD_some]
    cases leap y <;> simp only [go_sem, he, if_false, Bool.false_eq_true]
  by_cases a4 : m = 4
  · simp only [go_sem, he, g0, g1, a4, true_or]
  by_cases a6 : m = 6
  · simp only [go_sem, he, g0, g1, a6, true_or, or_true]
  by_cases a9 : m = 9
  · simp only [go_sem, he, g0, g1, a9, true_or, or_true]
  by_cases a11 : m = 11
  · simp only [go_sem, he, g0, g1, a11, true_or, or_true]
  simp only [go_sem, he, g0, g1, a4, a6, a9, a11, a2, or_false, if_false]
theorem div_self_bound (a b : Int) (hb : 1 ≤ b) : (0 ≤ a → 0 ≤ a / b ∧ a / b ≤ a) ∧ (a ≤ 0 → a ≤ a / b ∧ a / b ≤ 0) := by
  refine ⟨fun h => ⟨Int.ediv_nonneg h (by omega), Int.ediv_le_self b h⟩, fun h => ⟨?_, ?_⟩⟩
  · refine (Int.le_ediv_iff_mul_le (by omega)).2 ?_
    have := Int.mul_le_mul_of_nonpos_left h hb
    omega
  · have h2 : a / b ≤ 0 / b := Int.ediv_le_ediv (by omega) h
    simpa using h2
theorem tdiv_neg_floor (a b : Int) (h : a ≤ 0) (hb : 0 < b) : (a.tmod b = 0 ∧ a.tdiv b = a / b) ∨ (a.tmod b < 0 ∧ a.tdiv b = a / b + 1) := by
  obtain ⟨c, rfl⟩ : ∃ c, a = -c := ⟨-a, by omega⟩
  have hc : 0 ≤ c := by omega
  rw [Int.neg_tdiv, Int.neg_tmod, Int.tdiv_eq_ediv_of_nonneg hc, Int.tmod_eq_emod_of_nonneg hc]
  have e1 := Int.emod_add_mul_ediv c b
  have e2 := Int.emod_nonneg c (show b ≠ 0 by omega)
  have e3 := Int.emod_lt_of_pos c hb
  by_cases hz : c % b = 0
  · left
    refine ⟨by omega, ?_⟩
    have : -c = b * (-(c / b)) := by rw [Int.mul_neg]; omega
    rw [this, Int.mul_ediv_cancel_left _ (by omega)]
  · right
    refine ⟨by omega, ?_⟩
    have h0 : b * (-(c / b) - 1) = -(b * (c / b)) - b := by rw [Int.mul_sub, Int.mul_neg, Int.mul_one]
    have h1 : -c = (b - c % b) + b * (-(c / b) - 1) := by omega
    rw [h1, Int.add_mul_ediv_left _ _ (by omega), Int.ediv_eq_zero_of_lt (a := b - c % b) (b := b) (by omega) (by omega)]
    omega
theorem floor_A {w0 : World} (a b : Int) (ha : -9000000000000000000 ≤ a ∧ a ≤ 9000000000000000000) (hb : 1 ≤ b ∧ b ≤ 9000000000000000000) (H : Heap) : ACalls Tryz.prog (CB w0) 163 [vI a, vI b] H fun r H' => r = vI (a / b) ∧ H' = H := by
  refine A_fun (N := 16) (rs := [.tmp 4]) Tryz.func163 rfl rfl rfl (by kernel_rfl) (by kernel_rfl) (Nat.le_of_ble_eq_true rfl) ?_
  rintro e he ⟨g0, g1, -⟩
  have hb0 : b ≠ 0 := by omega
  have hle := div_self_bound a b hb.1
  rcases Int.le_total 0 a with h | h
  · have t1 : a.tdiv b = a / b := Int.tdiv_eq_ediv_of_nonneg h
    have t2 : a.tmod b = a % b := Int.tmod_eq_emod_of_nonneg h
    have hr := Int.emod_nonneg a hb0
    have w1 : IntKind.i64.wrap (a / b) = a / b := wI64 (by omega)
    have hd : decide (a % b < 0) = false := decide_eq_false (by omega)
    simp only [go_sem, he, g0, g1, t1, t2, w1, hd, hb0]
  · have hd1 := tdiv_neg_floor a b h (by omega)
    have hb1 : -9000000000000000000 ≤ a.tdiv b ∧ a.tdiv b ≤ 9000000000000000001 := by
      rcases hd1 with ⟨-, e⟩ | ⟨-, e⟩ <;> omega
    have w1 : IntKind.i64.wrap (a.tdiv b) = a.tdiv b := wI64 (by omega)
    rcases hd1 with ⟨h1, h2⟩ | ⟨h1, h2⟩
    · have hd : decide (a.tmod b < 0) = false := decide_eq_false (by omega)
      rw [h2] at w1
      simp only [go_sem, he, g0, g1, w1, hd, hb0, h2]
    · have hd : decide (a.tmod b < 0) = true := decide_eq_true (by omega)
      have w2 : IntKind.i64.wrap (a.tdiv b - 1) = a / b := by rw [wI64 (by omega)]; omega
      simp only [go_sem, he, g0, g1, w1, w2, hd, hb0]
theorem daysTo_A {w0 : World} (y : Int) (h0 : -1000000000 ≤ y) (h1 : y ≤ 1000000000) (H : Heap) : ACalls Tryz.prog (CB w0) 164 [vI y] H fun r H' => r = vI (before y) ∧ H' = H := by
  refine A_fun (N := 17) (rs := [.tmp 2]) Tryz.func164 rfl rfl rfl (by kernel_rfl) (by kernel_rfl) (Nat.le_of_ble_eq_true rfl) ?_
  rintro e he ⟨g0, -⟩
  have w1 : IntKind.i64.wrap (y - 1) = y - 1 := wI64 (by omega)
  have w2 : IntKind.i64.wrap (365 * (y - 1)) = 365 * (y - 1) := wI64 (by omega)
  have w3 : IntKind.i64.wrap (365 * (y - 1) + (y - 1) / 4) = 365 * (y - 1) + (y - 1) / 4 := wI64 (by omega)
  have w4 : IntKind.i64.wrap (365 * (y - 1) + (y - 1) / 4 - (y - 1) / 100) = 365 * (y - 1) + (y - 1) / 4 - (y - 1) / 100 := wI64 (by omega)
  have w5 : IntKind.i64.wrap (365 * (y - 1) + (y - 1) / 4 - (y - 1) / 100 + (y - 1) / 400) = before y := by rw [wI64 (by omega)]; rfl
  simp only [go_sem, he, g0, w1]
  refine callX_of (floor_A (y - 1) 4 (by omega) (by omega) H) (List.prefix_refl _) ?_
  simp only [go_sem, he, setD_some, w2, w3]
  refine callX_of (floor_A (y - 1) 100 (by omega) (by omega) H) (List.prefix_refl _) ?_
  simp only [go_sem, he, setD_some, w4]
  refine callX_of (floor_A (y - 1) 400 (by omega) (by omega) H) (List.prefix_refl _) ?_
  simp only [go_sem, he, setD_some, w5]
/-- The days of the first months of a year. -/
def msum (y : Int) : Nat → Int
  | 0 => 0
  | k + 1 => msum y k + monthDays y (k + 1)
theorem msum_bound (y : Int) : ∀ k : Nat, 28 * (k : Int) ≤ msum y k ∧ msum y k ≤ 31 * k
  | 0 => by simp [msum]
  | k + 1 => by
    have := msum_bound y k
    have := monthDays_pos y (k + 1)
    simp only [msum]; omega
theorem before_bound (y : Int) : 365 * (y - 1) - (y - 1).natAbs ≤ before y ∧ before y ≤ 365 * (y - 1) + (y - 1).natAbs := by unfold before; omega
/-- The seconds of a date. -/
def dateSec (y mo d h mi s : Int) : Int := (before (y + (mo - 1) / 12) + d - 1 + msum (y + (mo - 1) / 12) ((mo - 1) % 12).toNat) * 86400 + h * 3600 + mi * 60 + s
structure DateOk (y mo d h mi s n : Int) : Prop where
  y : 0 ≤ y + (mo - 1) / 12 ∧ y ≤ 1000000 ∧ -1000000 ≤ y
  mo : -1000000 ≤ mo ∧ mo ≤ 1000000
  d : -1000000000 ≤ d ∧ d ≤ 1000000000
  h : -1000000000 ≤ h ∧ h ≤ 1000000000
  mi : -1000000000 ≤ mi ∧ mi ≤ 1000000000
  s : -1000000000 ≤ s ∧ s ≤ 1000000000
  n : 0 ≤ n ∧ n < 1000000000
theorem zDate_A {w0 : World} (y mo d h mi s n : Int) (ok : DateOk y mo d h mi s n) (z : AV) (hz : avCells z = some []) (H : Heap) : ACalls Tryz.prog (CB w0) 139 [vI y, vI mo, vI d, vI h, vI mi, vI s, vI n, z] H fun r H' => r = .agg [vI (dateSec y mo d h mi s), vI n] ∧ H' = H := by
  refine ACalls.plain1 rfl ?_
  refine A_fun (N := 71) (rs := [.cell 16 99]) Tryz.func139 rfl rfl rfl (by kernel_rfl) (by kernel_rfl) (Nat.le_of_ble_eq_true rfl) ?_
  rintro e he ⟨g0, g1, g2, g3, g4, g5, g6, g7, -⟩
  obtain ⟨⟨y0, y1, y2⟩, ⟨mo0, mo1⟩, ⟨d0, d1⟩, ⟨h0, h1⟩, ⟨mi0, mi1⟩, ⟨s0, s1⟩, ⟨n0, n1⟩⟩ := ok
  have w1 : IntKind.i64.wrap mo = mo := wI64 (by omega)
  have w2 : IntKind.i64.wrap (mo - 1) = mo - 1 := wI64 (by omega)
  have w3 : IntKind.i64.wrap y = y := wI64 (by omega)
  have w4 : IntKind.i64.wrap (y + (mo - 1) / 12) = y + (mo - 1) / 12 := wI64 (by omega)
  have w5 : IntKind.i64.wrap (12 * ((mo - 1) / 12)) = 12 * ((mo - 1) / 12) := wI64 (by omega)
  have w6 : IntKind.i64.wrap (mo - 1 - 12 * ((mo - 1) / 12)) = (mo - 1) % 12 := by rw [wI64 (by omega)]; omega
  simp only [go_sem, he, g0, g1, g2, g3, g4, g5, g6, g7, hz, w1, w2, w3, conv_int (P := Tryz.prog) (s := 185) (d := 2) Tryz.underlying185 Tryz.underlying2, conv_int (P := Tryz.prog) (s := 3) (d := 2) Tryz.underlying3 Tryz.underlying2]
  refine callX_of (floor_A (mo - 1) 12 (by omega) (by omega) _) (List.prefix_refl _) ?_
  simp only [go_sem, he, g0, g1, g2, g3, g4, g5, g6, w1, w2, w3, w4, w5, w6, setD_some]
  refine callX_of (floor_A (mo - 1) 12 (by omega) (by omega) _) (List.prefix_refl _) ?_
  simp only [go_sem, he, g0, g1, g2, g3, g4, g5, g6, w1, w2, w3, w4, w5, w6, setD_some]
  unfold dateSec
  generalize hY : y + (mo - 1) / 12 = Y at *
  have hM0 : 0 ≤ (mo - 1) % 12 := by omega
  have hM1 : (mo - 1) % 12 < 12 := by omega
  generalize hM : (mo - 1) % 12 = M at *
  refine callX_of (daysTo_A Y (by omega) (by omega) _) (List.prefix_refl _) ?_
  have hb := before_bound Y
  have w7 : IntKind.i64.wrap d = d := wI64 (by omega)
  have w8 : IntKind.i64.wrap (before Y + d) = before Y + d := wI64 (by omega)
  have w9 : IntKind.i64.wrap (before Y + d - 1) = before Y + d - 1 := wI64 (by omega)
  have w10 : IntKind.i64.wrap M = M := wI64 (by omega)
  simp only [go_sem, he, g0, g1, g2, g3, g4, g5, g6, setD_some, w7, w8, w9, conv_int (P := Tryz.prog) (s := 3) (d := 2) Tryz.underlying3 Tryz.underlying2]
  refine A_while M.toNat (fun k e h' => h' = H ++ [.own 109 [], .own 99 [vI 0, vI 0]] ∧ len e = 71 ∧ AL.get e 3 = vI h ∧ AL.get e 4 = vI mi ∧ AL.get e 5 = vI s ∧ AL.get e 6 = vI n ∧ AL.get e 16 = .ptr (H.length + 1) 0 ∧ AL.get e 17 = vI M ∧ AL.get e 18 = vI Y ∧ ∃ i : Nat, i + k = M.toNat ∧ AL.get e 20 = vI ((i : Int) + 1) ∧ AL.get e 19 = vI (before Y + d - 1 + msum Y i)) (by kernel_rfl) ?_ ?_
  · simp only [go_sem, he, g0, g1, g2, g3, g4, g5, g6]
    exact ⟨0, by omega, rfl, by simp [msum]⟩
  · rintro k e h' ⟨rfl, he, g3, g4, g5, g6, g16, g17, g18, i, hik, g20, g19⟩
    have hmb := msum_bound Y i
    simp only [go_sem, he, g3, g4, g5, g6, g16, g17, g18, g20, g19, w10, conv_int (P := Tryz.prog) (s := 2) (d := 3) Tryz.underlying2 Tryz.underlying3]
    refine condK_of (fun hc => ?_) fun hc => ?_
    · have hc := of_decide_eq_true hc
      simp only [go_sem, he, g3, g4, g5, g6, g16, g17, g18, g20, g19]
      refine callX_of (zmonthDays_A Y (i + 1) y0 _) (List.prefix_refl _) ?_
      have hmp := monthDays_pos Y (i + 1)
      have u1 : IntKind.i64.wrap ((i : Int) + 1 + 1) = ((i + 1 : Nat) : Int) + 1 := by rw [wI64 (by omega)]; omega
      have u2 : IntKind.i64.wrap (before Y + d - 1 + msum Y i + monthDays Y (i + 1)) = before Y + d - 1 + msum Y (i + 1) := by rw [wI64 (by omega)]; simp only [msum]; omega
      simp only [go_sem, he, g3, g4, g5, g6, g16, g17, g18, g20, g19, setD_some, u1, u2]
      exact ⟨k - 1, by omega, i + 1, by omega, rfl, rfl⟩
    · have hc := of_decide_eq_false hc
      have hi : i = M.toNat := by omega
      rw [hi] at g19 hmb
      have u1 : IntKind.i64.wrap ((before Y + d - 1 + msum Y M.toNat) * 86400) = (before Y + d - 1 + msum Y M.toNat) * 86400 := wI64 (by omega)
      have u2 : IntKind.i64.wrap h = h := wI64 (by omega)
      have u3 : IntKind.i64.wrap (h * 3600) = h * 3600 := wI64 (by omega)
      have u4 : IntKind.i64.wrap ((before Y + d - 1 + msum Y M.toNat) * 86400 + h * 3600) = (before Y + d - 1 + msum Y M.toNat) * 86400 + h * 3600 := wI64 (by omega)
      have u5 : IntKind.i64.wrap mi = mi := wI64 (by omega)
      have u6 : IntKind.i64.wrap (mi * 60) = mi * 60 := wI64 (by omega)
      have u7 : IntKind.i64.wrap ((before Y + d - 1 + msum Y M.toNat) * 86400 + h * 3600 + mi * 60) = (before Y + d - 1 + msum Y M.toNat) * 86400 + h * 3600 + mi * 60 := wI64 (by omega)
      have u8 : IntKind.i64.wrap s = s := wI64 (by omega)
      have u9 : IntKind.i64.wrap ((before Y + d - 1 + msum Y M.toNat) * 86400 + h * 3600 + mi * 60 + s) = (before Y + d - 1 + msum Y M.toNat) * 86400 + h * 3600 + mi * 60 + s := wI64 (by omega)
      have u10 : IntKind.i64.wrap n = n := wI64 (by omega)
      have u11 : n / 1000000000 = 0 := by omega
      have u12 : IntKind.i64.wrap 0 = 0 := rfl
      simp only [go_sem, he, g3, g4, g5, g6, g16, g17, g18, g20, g19, u1, u2, u3, u4, u5, u6, u7, u8, u9, u10, conv_int (P := Tryz.prog) (s := 3) (d := 2) Tryz.underlying3 Tryz.underlying2]
      refine callX_of (floor_A n 1000000000 (by omega) (by omega) _) (List.prefix_refl _) ?_
      simp only [go_sem, he, g3, g4, g5, g6, g16, g17, g18, g20, g19, setD_some, u9, u10, u11, u12, Int.add_zero, Int.zero_mul, Int.sub_zero]
      exact ⟨_, rfl⟩

theorem zDigits_spec {s r : List UInt8} {n : Nat} {v : Int} (h : zDigits s n = some (v, r)) : 0 ≤ v ∧ v ≤ 10 ^ n - 1 ∧ r = s.drop n ∧ n ≤ s.length := by
  unfold zDigits at h
  split at h
  · cases h
  · split at h
    · rename_i h1 h2
      simp only [Option.some.injEq, Prod.mk.injEq] at h
      obtain ⟨rfl, rfl⟩ := h
      have := digFold_le n (s.take n) (by rw [List.length_take]; omega) h2
      exact ⟨this.1, this.2, rfl, by omega⟩
    · cases h
def zEnd (lay : List UInt8) (y mo d h mi sc : Int) (s : List UInt8) : Option Int :=
  if s ≠ lay then none else if d < 1 then none else if monthDays y mo < d then none else some (dateSec y mo d h mi sc)
def zTime (lay : List UInt8) (y mo d : Int) (s : List UInt8) : Option Int :=
  if s.length = 0 then none else if (s.getD 0 0).toNat ≠ 84 then none else
  (zDigits (s.drop 1) 2).bind fun (h, s) => if 23 < h then none else
  (zDigits s 2).bind fun (mi, s) => if 59 < mi then none else
  (zDigits s 2).bind fun (sc, s) => if 59 < sc then none else zEnd (lay.drop 7) y mo d h mi sc s
/-- A moment out of a text by what stands in the layout behind the day. -/
def zParse (lay s : List UInt8) : Option Int :=
  (zDigits s 4).bind fun (y, s) => (zDigits s 2).bind fun (mo, s) => if mo < 1 then none else if 12 < mo then none else
  (zDigits s 2).bind fun (d, s) => if lay = [] then zEnd [] y mo d 0 0 0 s else zTime lay y mo d s
def optE {α : Type} : Option α → Except Nat α
  | some a => .ok a
  | none => .error 157
abbrev vT (t : Int) : AV := .agg [vI t, vI 0]
def zParseR (lay s : List UInt8) : AV := exR vT (vT 0) (optE (zParse lay s))
def NoFrac (s : List UInt8) : Prop := ∀ c ∈ s, c.toNat ≠ 46 ∧ c.toNat ≠ 44
theorem NoFrac.drop {s : List UInt8} (h : NoFrac s) (n : Nat) : NoFrac (s.drop n) := fun c hc => h c (List.mem_of_mem_drop hc)
theorem decide_cases {p : Prop} [Decidable p] {Q : Bool → Prop} (h1 : p → Q true) (h2 : ¬ p → Q false) : Q (decide p) := by
  by_cases h : p
  · rw [decide_eq_true h]; exact h1 h
  · rw [decide_eq_false h]; exact h2 h
theorem zParse_A {w0 : World} (lay s : List UInt8) (hl : 8 ≤ lay.length ∧ (lay.length = 8 ∨ 15 ≤ lay.length)) (hs : s.length ≤ 1000000) (hf : NoFrac s) (H : Heap) : ACalls Tryz.prog (CB w0) 116 [vS lay, vS s] H fun r H' => r = zParseR (lay.drop 8) s ∧ H' = H := by
  refine ACalls.flat (exR_flat _ rfl fun _ => rfl) ?_
  refine A_fun (N := 195) (rs := [.cell 4 99, .tmp 5]) Tryz.func116 rfl rfl rfl (by kernel_rfl) (by kernel_rfl) (Nat.le_of_ble_eq_true rfl) ?_
  rintro e he ⟨g0, g1, -⟩
  simp only [go_sem, he, g0, g1]
  refine callX_of (errorsNew_A _ _) (List.prefix_refl _) ?_
  simp only [go_sem, he, g0, g1, setD_some]
  refine callX_of (zdigits_A s 4 hs (by omega) _) (List.prefix_refl _) ?_
  unfold zDigitsR zParseR zParse
  cases hd1 : zDigits s 4 with
  | none =>
    simp only [go_sem, he, g0, g1, setD_some]
    exact ⟨rfl, _, rfl⟩
  | some p1 =>
  obtain ⟨y, s1⟩ := p1
  obtain ⟨y0, y1, es1, hs1⟩ := zDigits_spec hd1
  have hf1 : NoFrac s1 := es1 ▸ hf.drop _
  have hl1 : s1.length ≤ 1000000 := by rw [es1, List.length_drop]; omega
  simp only [go_sem, he, g0, g1, setD_some]
  refine callX_of (zdigits_A s1 2 hl1 (by omega) _) (List.prefix_refl _) ?_
  unfold zDigitsR
  cases hd2 : zDigits s1 2 with
  | none =>
    simp only [go_sem, he, g0, g1, setD_some]
    exact ⟨rfl, _, rfl⟩
  | some p2 =>
  obtain ⟨mo, s2⟩ := p2
  obtain ⟨mo0, mo1, es2, hs2⟩ := zDigits_spec hd2
  have hf2 : NoFrac s2 := es2 ▸ hf1.drop _
  have hl2 : s2.length ≤ 1000000 := by rw [es2, List.length_drop]; omega
  by_cases c1 : mo < 1
  · have d1 := decide_eq_true c1
    simp only [go_sem, he, g0, g1, setD_some, d1, c1]
    exact ⟨rfl, _, rfl⟩
  have d1 := decide_eq_false c1
  by_cases c2 : 12 < mo
  · have d2 := decide_eq_true c2
    simp only [go_sem, he, g0, g1, setD_some, d1, c1, d2, c2]
    exact ⟨rfl, _, rfl⟩
  have d2 := decide_eq_false c2
  simp only [go_sem, he, g0, g1, setD_some, d1, d2, c1, c2]
  refine callX_of (zdigits_A s2 2 hl2 (by omega) _) (List.prefix_refl _) ?_
  unfold zDigitsR
  cases hd3 : zDigits s2 2 with
  | none =>
    simp only [go_sem, he, g0, g1, setD_some]
    exact ⟨rfl, _, rfl⟩
  | some p3 =>
  obtain ⟨d, s3⟩ := p3
  obtain ⟨dd0, dd1, es3, hs3⟩ := zDigits_spec hd3
  have hf3 : NoFrac s3 := es3 ▸ hf2.drop _
  have hl3 : s3.length ≤ 1000000 := by rw [es3, List.length_drop]; omega
  have hL : lay.drop 8 = [] ∨ 7 ≤ (lay.drop 8).length := by
    rcases hl.2 with h | h
    · left; exact List.drop_eq_nil_of_le (by omega)
    · right; rw [List.length_drop]; omega
  have hy9 : y ≤ 9999 := by omega
  have hd9 : d ≤ 99 := by omega
  clear hs hf hs1 hs2 hs3 es1 es2 es3 y1 dd1 hd1 hd2 hd3 hf1 hf2 hl1 hl2
  by_cases c3 : lay.drop 8 = []
  · have d3 := decide_eq_true c3
    simp only [go_sem, he, g0, g1, setD_some, List.take_length, d3, c3, hl.1]
    unfold zEnd
    by_cases k1 : s3 ≠ []
    · have e1 := decide_eq_false k1
      rw [if_pos k1]
      simp only [go_sem, he, g0, g1, e1]
      exact ⟨Nat.le_refl _, rfl, _, rfl⟩
    have k1 : s3 = [] := Classical.not_not.1 k1
    have e1 := decide_eq_true k1
    rw [if_neg (fun h => h k1)]
    by_cases k2 : d < 1
    · have e2 := decide_eq_true k2
      rw [if_pos k2]
      simp only [go_sem, he, g0, g1, e1, e2]
      exact ⟨Nat.le_refl _, rfl, _, rfl⟩
    have e2 := decide_eq_false k2
    rw [if_neg k2]
    simp only [go_sem, he, g0, g1, e1, e2]
    refine ⟨Nat.le_refl _, callX_of (zmonthDays_A y mo y0 _) (List.prefix_refl _) ?_⟩
    by_cases k3 : monthDays y mo < d
    · have e3 := decide_eq_true k3
      rw [if_pos k3]
      simp only [go_sem, he, g0, g1, e3, setD_some]
      exact ⟨rfl, _, rfl⟩
    have e3 := decide_eq_false k3
    rw [if_neg k3]
    simp only [go_sem, he, g0, g1, e3, setD_some]
    refine callX_of (zDate_A _ _ _ _ _ _ _ ⟨by omega, by omega, by omega, by omega, by omega, by omega, by omega⟩ _ rfl _) (List.prefix_refl _) ?_
    simp only [go_sem, he, g0, g1, setD_some]
    exact ⟨rfl, _, rfl⟩
  have d3 := decide_eq_false c3
  have hL7 : 7 ≤ (lay.drop 8).length := hL.resolve_left c3
  simp only [go_sem, he, g0, g1, setD_some, List.take_length, d3, c3, hl.1]
  generalize lay.drop 8 = L at *
  unfold zTime
  by_cases c4 : s3.length = 0
  · have d4 : decide ((s3.length : Int) = 0) = true := decide_eq_true (by omega)
    rw [if_pos c4]
    simp only [go_sem, he, g0, g1, d4]
    exact ⟨by omega, rfl, _, rfl⟩
  have d4 : decide ((s3.length : Int) = 0) = false := decide_eq_false (by omega)
  rw [if_neg c4]
  simp only [go_sem, he, g0, g1, d4]
  refine ⟨by omega, by omega, ?_⟩
  generalize hT : s3.getD 0 0 = T at *
  by_cases c5 : ¬ T.toNat = 84
  · have d5 : decide ((T.toNat : Int) = 84) = false := decide_eq_false (by omega)
    rw [if_pos c5]
    simp only [go_sem, he, g0, g1, d5]
    exact ⟨rfl, _, rfl⟩
  have c5 : T.toNat = 84 := Classical.not_not.1 c5
  have d5 : decide ((T.toNat : Int) = 84) = true := decide_eq_true (by omega)
  rw [if_neg (by omega)]
  simp only [go_sem, he, g0, g1, d5, List.take_length]
  refine ⟨by omega, ?_⟩
  have hf3' : NoFrac (s3.drop 1) := hf3.drop _
  have hl3' : (s3.drop 1).length ≤ 1000000 := by rw [List.length_drop]; omega
  generalize s3.drop 1 = s4 at *
  clear hT c4 c5 d4 d5 hf3 hl3
  refine callX_of (zdigits_A s4 2 hl3' (by omega) _) (List.prefix_refl _) ?_
  unfold zDigitsR
  cases hd4 : zDigits s4 2 with
  | none =>
    simp only [go_sem, he, g0, g1, setD_some]
    exact ⟨rfl, _, rfl⟩
  | some p4 =>
  obtain ⟨h, s5⟩ := p4
  obtain ⟨h0, h1, es5, hs5⟩ := zDigits_spec hd4
  have hf5 : NoFrac s5 := es5 ▸ hf3'.drop _
  have hl5 : s5.length ≤ 1000000 := by rw [es5, List.length_drop]; omega
  by_cases c6 : 23 < h
  · have d6 := decide_eq_true c6
    simp only [go_sem, he, g0, g1, setD_some, d6, c6]
    exact ⟨rfl, _, rfl⟩
  have d6 := decide_eq_false c6
  simp only [go_sem, he, g0, g1, setD_some, d6, c6]
  refine callX_of (zdigits_A s5 2 hl5 (by omega) _) (List.prefix_refl _) ?_
  unfold zDigitsR
  cases hd5 : zDigits s5 2 with
  | none =>
    simp only [go_sem, he, g0, g1, setD_some]
    exact ⟨rfl, _, rfl⟩
  | some p5 =>
  obtain ⟨mi, s6⟩ := p5
  obtain ⟨mi0, mi1, es6, hs6⟩ := zDigits_spec hd5
  have hf6 : NoFrac s6 := es6 ▸ hf5.drop _
  have hl6 : s6.length ≤ 1000000 := by rw [es6, List.length_drop]; omega
  by_cases c7 : 59 < mi
  · have d7 := decide_eq_true c7
    simp only [go_sem, he, g0, g1, setD_some, d7, c7]
    exact ⟨rfl, _, rfl⟩
  have d7 := decide_eq_false c7
  simp only [go_sem, he, g0, g1, setD_some, d7, c7]
  refine callX_of (zdigits_A s6 2 hl6 (by omega) _) (List.prefix_refl _) ?_
  unfold zDigitsR
  cases hd6 : zDigits s6 2 with
  | none =>
    simp only [go_sem, he, g0, g1, setD_some]
    exact ⟨rfl, _, rfl⟩
  | some p6 =>
  obtain ⟨sc, s7⟩ := p6
  obtain ⟨sc0, sc1, es7, hs7⟩ := zDigits_spec hd6
  have hf7 : NoFrac s7 := es7 ▸ hf6.drop _
  have hl7 : s7.length ≤ 1000000 := by rw [es7, List.length_drop]; omega
  by_cases c8 : 59 < sc
  · have d8 := decide_eq_true c8
    simp only [go_sem, he, g0, g1, setD_some, d8, c8]
    exact ⟨rfl, _, rfl⟩
  have d8 := decide_eq_false c8
  clear hd4 hd5 hd6 es5 es6 es7 hs5 hs6 hs7 hf5 hf6 hf3' hl3' hl5 hl6
  simp only [go_sem, he, g0, g1, setD_some, d8, c8]
  have e0 : True := trivial
  have hL7' : 7 ≤ L.length := hL7
  by_cases k0 : 2 ≤ (s7.length : Int)
  · have e0 := decide_eq_true k0
    have hT7 := hf7 (s7.getD 0 0) (by rw [List.getD_eq_getElem?_getD, List.getElem?_eq_getElem (by omega)]; exact List.getElem_mem _)
    generalize hT' : s7.getD 0 0 = T' at *
    have e00 : decide ((T'.toNat : Int) = 46) = false := decide_eq_false (by omega)
    have e01 : decide ((T'.toNat : Int) = 44) = false := decide_eq_false (by omega)
    simp only [go_sem, he, g0, g1, e0, e00, e01, hT']
    refine ⟨by omega, by omega, ⟨hL7, Nat.le_refl _⟩, ?_⟩
    rw [List.take_length]
    unfold zEnd
    by_cases k1 : s7 ≠ L.drop 7
    · have e1 := decide_eq_false k1
      rw [if_pos k1]
      simp only [go_sem, he, g0, g1, e1]
      exact ⟨rfl, _, rfl⟩
    have k1 : s7 = L.drop 7 := Classical.not_not.1 k1
    have e1 := decide_eq_true k1
    rw [if_neg (fun h => h k1)]
    by_cases k2 : d < 1
    · have e2 := decide_eq_true k2
      rw [if_pos k2]
      simp only [go_sem, he, g0, g1, e1, e2]
      exact ⟨rfl, _, rfl⟩
    have e2 := decide_eq_false k2
    rw [if_neg k2]
    simp only [go_sem, he, g0, g1, e1, e2]
    refine callX_of (zmonthDays_A y mo y0 _) (List.prefix_refl _) ?_
    by_cases k3 : monthDays y mo < d
    · have e3 := decide_eq_true k3
      rw [if_pos k3]
      simp only [go_sem, he, g0, g1, e3, setD_some]
      exact ⟨rfl, _, rfl⟩
    have e3 := decide_eq_false k3
    rw [if_neg k3]
    simp only [go_sem, he, g0, g1, e3, setD_some]
    refine callX_of (zDate_A _ _ _ _ _ _ _ ⟨by omega, by omega, by omega, by omega, by omega, by omega, by omega⟩ _ rfl _) (List.prefix_refl _) ?_
    simp only [go_sem, he, g0, g1, setD_some]
    exact ⟨rfl, _, rfl⟩
  · have e0 := decide_eq_false k0
    simp only [go_sem, he, g0, g1, e0]
    refine ⟨⟨hL7, Nat.le_refl _⟩, ?_⟩
    rw [List.take_length]
    unfold zEnd
    by_cases k1 : s7 ≠ L.drop 7
    · have e1 := decide_eq_false k1
      rw [if_pos k1]
      simp only [go_sem, he, g0, g1, e1]
      exact ⟨rfl, _, rfl⟩
    have k1 : s7 = L.drop 7 := Classical.not_not.1 k1
    have e1 := decide_eq_true k1
    rw [if_neg (fun h => h k1)]
    by_cases k2 : d < 1
    · have e2 := decide_eq_true k2
      rw [if_pos k2]
      simp only [go_sem, he, g0, g1, e1, e2]
      exact ⟨rfl, _, rfl⟩
    have e2 := decide_eq_false k2
    rw [if_neg k2]
    simp only [go_sem, he, g0, g1, e1, e2]
    refine callX_of (zmonthDays_A y mo y0 _) (List.prefix_refl _) ?_
    by_cases k3 : monthDays y mo < d
    · have e3 := decide_eq_true k3
      rw [if_pos k3]
      simp only [go_sem, he, g0, g1, e3, setD_some]
      exact ⟨rfl, _, rfl⟩
    have e3 := decide_eq_false k3
    rw [if_neg k3]
    simp only [go_sem, he, g0, g1, e3, setD_some]
    refine callX_of (zDate_A _ _ _ _ _ _ _ ⟨by omega, by omega, by omega, by omega, by omega, by omega, by omega⟩ _ rfl _) (List.prefix_refl _) ?_
    simp only [go_sem, he, g0, g1, setD_some]
    exact ⟨rfl, _, rfl⟩

def zLoc (s : List UInt8) : Option Int :=
  if s.length = 8 then zParse [] s else if s.length = 15 then zParse [84, 49, 53, 48, 52, 48, 53] s else zParse [84, 49, 53, 48, 52, 48, 53, 90] s
def zLocR (s : List UInt8) : AV := exR vT (vT 0) (optE (zLoc s))
theorem zParseInLoc_A {w0 : World} (lay s : List UInt8) (hl : 8 ≤ lay.length ∧ (lay.length = 8 ∨ 15 ≤ lay.length)) (hs : s.length ≤ 1000000) (hf : NoFrac s) (z : AV) (hz : avCells z = some []) (H : Heap) : ACalls Tryz.prog (CB w0) 115 [vS lay, vS s, z] H fun r H' => r = zParseR (lay.drop 8) s ∧ H' = H := by
  refine ACalls.flat (exR_flat _ rfl fun _ => rfl) ?_
  refine A_fun (N := 13) (rs := [.cell 6 99, .tmp 7]) Tryz.func115 rfl rfl rfl (by kernel_rfl) (by kernel_rfl) (Nat.le_of_ble_eq_true rfl) ?_
  rintro e he ⟨g0, g1, g2, -⟩
  simp only [go_sem, he, g0, g1, g2, hz]
  refine callX_of (zParse_A lay s hl hs hf _) (List.prefix_refl _) ?_
  unfold zParseR
  cases zParse (lay.drop 8) s with
  | none =>
    simp only [exR, optE, go_sem, he, g0, g1, setD_some]
    exact ⟨_, rfl⟩
  | some v =>
    simp only [exR, optE, go_sem, he, g0, g1, setD_some]
    exact ⟨_, rfl⟩
theorem strToTimeInLoc_A {w0 : World} (s : List UInt8) (hs : s.length ≤ 1000000) (hf : NoFrac s) (z : AV) (hz : avCells z = some []) (H : Heap) : ACalls Tryz.prog (CB w0) 88 [vS s, z] H fun r H' => r = zLocR s ∧ H' = H := by
  refine ACalls.flat (exR_flat _ rfl fun _ => rfl) ?_
  refine A_fun (N := 26) (rs := [.cell 4 99, .tmp 5]) Tryz.func88 rfl rfl rfl (by kernel_rfl) (by kernel_rfl) (Nat.le_of_ble_eq_true rfl) ?_
  rintro e he ⟨g0, g1, -⟩
  simp only [go_sem, he, g0, g1, hz]
  unfold zLocR zLoc
  by_cases c1 : s.length = 8
  · have d1 : decide ((s.length : Int) = 8) = true := decide_eq_true (by omega)
    rw [if_pos c1]
    simp only [go_sem, he, g0, g1, d1]
    refine callX_of (zParseInLoc_A _ s (by decide) hs hf _ rfl _) (List.prefix_refl _) ?_
    unfold zParseR
    simp only [List.drop_succ_cons, List.drop_zero]
    cases zParse [] s with
    | none =>
      simp only [exR, optE, go_sem, he, g0, g1, setD_some]
      exact ⟨_, rfl⟩
    | some v =>
      simp only [exR, optE, go_sem, he, g0, g1, setD_some]
      exact ⟨_, rfl⟩
  have d1 : decide ((s.length : Int) = 8) = false := decide_eq_false (by omega)
  rw [if_neg c1]
  by_cases c2 : s.length = 15
  · have d2 : decide ((s.length : Int) = 15) = true := decide_eq_true (by omega)
    rw [if_pos c2]
    simp only [go_sem, he, g0, g1, d1, d2]
    refine callX_of (zParseInLoc_A _ s (by decide) hs hf _ rfl _) (List.prefix_refl _) ?_
    unfold zParseR
    simp only [List.drop_succ_cons, List.drop_zero]
    cases zParse [84, 49, 53, 48, 52, 48, 53] s with
    | none =>
      simp only [exR, optE, go_sem, he, g0, g1, setD_some]
      exact ⟨_, rfl⟩
    | some v =>
      simp only [exR, optE, go_sem, he, g0, g1, setD_some]
      exact ⟨_, rfl⟩
  have d2 : decide ((s.length : Int) = 15) = false := decide_eq_false (by omega)
  rw [if_neg c2]
  simp only [go_sem, he, g0, g1, d1, d2]
  refine callX_of (zParse_A _ s (by decide) hs hf _) (List.prefix_refl _) ?_
  unfold zParseR
  simp only [List.drop_succ_cons, List.drop_zero]
  cases zParse [84, 49, 53, 48, 52, 48, 53, 90] s with
  | none =>
    simp only [exR, optE, go_sem, he, g0, g1, setD_some]
    exact ⟨_, rfl⟩
  | some v =>
    simp only [exR, optE, go_sem, he, g0, g1, setD_some]
    exact ⟨_, rfl⟩

theorem trimSpace_A {w0 : World} (hG : Glob w0) (s : List UInt8) (hs : s.length ≤ 1000000) (ha : ∀ c ∈ s, c.toNat < 128) (H : Heap) : ACalls Tryz.prog (CB w0) 83 [vS s] H fun r H' => r = vS (Lib.trimSpace s) ∧ H' = H := by
  refine A_lib (args := [.string (S s)]) (callable_of Tryz.func83 (by kernel_rfl) (by kernel_rfl)) fun w hb _ => ?_
  refine (Tryz.strings_TrimSpace (S s) w (by rw [S_size]; omega) (fun j b hj => ha b (List.mem_of_getElem? hj)) (hG.below hb).ascii).mono ?_
  rintro e w' ⟨rfl, rfl⟩
  exact ⟨rfl, Lib.bytesWorld_below _ _ _⟩
theorem trimPrefix_A {w0 : World} (s p : List UInt8) (H : Heap) : ACalls Tryz.prog (CB w0) 87 [vS s, vS p] H fun r H' => r = vS (Lib.trimPrefix s p) ∧ H' = H := by
  refine A_lib (args := [.string (S s), .string (S p)]) (callable_of Tryz.func87 (by kernel_rfl) (by kernel_rfl)) fun w hb _ => ?_
  refine (Tryz.strings_TrimPrefix (S s) (S p) w).mono ?_
  rintro e w' ⟨rfl, rfl⟩
  exact ⟨rfl, Below.refl _ _⟩
/-- A rule's options. -/
structure Op where
  freq : Int
  dt : Int
  interval : Int
  wkst : Int × Int
  count : Int
  til : Int
  pos : List Int
  month : List Int
  mday : List Int
  yday : List Int
  weekno : List Int
  hour : List Int
  minute : List Int
  second : List Int
  easter : List Int
  day : List (Int × Int)
  set : Bool
/-- Their slices, ats values. -/
structure Os where
  pos : AV
  month : AV
  mday : AV
  yday : AV
  weekno : AV
  hour : AV
  minute : AV
  second : AV
  easter : AV
  day : AV
def op0 : Op := ⟨0, 0, 0, (0, 0), 0, 0, [], [], [], [], [], [], [], [], [], [], false⟩
abbrev vNil : AV := .val (.slice none 0 0)
def opCells (o : Op) (x : Os) : List AV := [vI o.freq, vI o.dt, vI 0, vI o.interval, vI o.wkst.1, vI o.wkst.2, vI o.count, vI o.til, vI 0, x.pos, x.month, x.mday, x.yday, x.weekno, x.day, x.hour, x.minute, x.second, x.easter]
/-- A slice of numbers of the call's own, or none. -/
def IntsOwn (h : Heap) (x : AV) (l : List Int) : Prop := (x = vNil ∧ l = []) ∨ ∃ q, x = .sl true q 0 l.length 1 ∧ h[q]? = some (.own 3 (l.map vI))
def dayCell (l : List (Int × Int)) (i : Nat) : AV := if i % 2 = 0 then vI (l.getD (i / 2) (0, 0)).1 else vI (l.getD (i / 2) (0, 0)).2
def DaysOwn (h : Heap) (x : AV) (l : List (Int × Int)) : Prop := (x = vNil ∧ l = []) ∨ ∃ q cs, x = .sl true q 0 l.length 2 ∧ h[q]? = some (.own 84 cs) ∧ ∀ i, i < l.length * 2 → cs[i]? = some (dayCell l i)
theorem IntsOwn.one {h : Heap} {x : AV} {l : List Int} (hx : IntsOwn h x l) : x.one = true := by rcases hx with ⟨rfl, _⟩ | ⟨q, rfl, _⟩ <;> rfl
theorem DaysOwn.one {h : Heap} {x : AV} {l : List (Int × Int)} (hx : DaysOwn h x l) : x.one = true := by rcases hx with ⟨rfl, _⟩ | ⟨q, cs, rfl, _⟩ <;> rfl
theorem IntsOwn.more {h : Heap} {x : AV} {l : List Int} (hx : IntsOwn h x l) (G : Heap) : IntsOwn (h ++ G) x l := by
  rcases hx with hx | ⟨q, h1, h2⟩
  · exact .inl hx
  · exact .inr ⟨q, h1, get_more h2⟩
theorem DaysOwn.more {h : Heap} {x : AV} {l : List (Int × Int)} (hx : DaysOwn h x l) (G : Heap) : DaysOwn (h ++ G) x l := by
  rcases hx with hx | ⟨q, cs, h1, h2, h3⟩
  · exact .inl hx
  · exact .inr ⟨q, cs, h1, get_more h2, h3⟩
theorem IntsOwn.put {h : Heap} {x : AV} {l : List Int} (hx : IntsOwn h x l) {p : Nat} {cs : List AV} (hp : h[p]? = some (.own 102 cs)) (y : AObj) : IntsOwn (h.set p y) x l := by
  rcases hx with hx | ⟨q, h1, h2⟩
  · exact .inl hx
  · refine .inr ⟨q, h1, ?_⟩
    have : p ≠ q := by rintro rfl; rw [hp] at h2; simp at h2
    rw [List.getElem?_set_ne this]; exact h2
theorem DaysOwn.put {h : Heap} {x : AV} {l : List (Int × Int)} (hx : DaysOwn h x l) {p : Nat} {cs : List AV} (hp : h[p]? = some (.own 102 cs)) (y : AObj) : DaysOwn (h.set p y) x l := by
  rcases hx with hx | ⟨q, cs', h1, h2, h3⟩
  · exact .inl hx
  · refine .inr ⟨q, cs', h1, ?_, h3⟩
    have : p ≠ q := by rintro rfl; rw [hp] at h2; simp at h2
    rw [List.getElem?_set_ne this]; exact h2
structure OpAt (h : Heap) (o : Op) (x : Os) : Prop where
  pos : IntsOwn h x.pos o.pos
  month : IntsOwn h x.month o.month
  mday : IntsOwn h x.mday o.mday
  yday : IntsOwn h x.yday o.yday
  weekno : IntsOwn h x.weekno o.weekno
  hour : IntsOwn h x.hour o.hour
  minute : IntsOwn h x.minute o.minute
  second : IntsOwn h x.second o.second
  easter : IntsOwn h x.easter o.easter
  day : DaysOwn h x.day o.day
theorem OpAt.more {h : Heap} {o : Op} {x : Os} (hx : OpAt h o x) (G : Heap) : OpAt (h ++ G) o x :=
  ⟨hx.pos.more G, hx.month.more G, hx.mday.more G, hx.yday.more G, hx.weekno.more G, hx.hour.more G, hx.minute.more G, hx.second.more G, hx.easter.more G, hx.day.more G⟩
theorem OpAt.put {h : Heap} {o : Op} {x : Os} (hx : OpAt h o x) {p : Nat} {cs : List AV} (hp : h[p]? = some (.own 102 cs)) (y : AObj) : OpAt (h.set p y) o x :=
  ⟨hx.pos.put hp y, hx.month.put hp y, hx.mday.put hp y, hx.yday.put hp y, hx.weekno.put hp y, hx.hour.put hp y, hx.minute.put hp y, hx.second.put hp y, hx.easter.put hp y, hx.day.put hp y⟩
theorem strToFreq_P {w0 : World} (s : List UInt8) (hs : s.length ≤ 1000000) (H : Heap) : ACalls Tryz.prog (CB w0) 41 [vS s] H fun r H' => r = freqR s ∧ H' = H :=
  ACalls.flat (by unfold freqR; cases freqOf s <;> rfl) (strToFreq_A s hs H)
def optFreq (s : List UInt8) : Except Nat Int := optE (freqOf s)
/-- One part of a text, put into the options. -/
def opPut (o : Op) (k v : List UInt8) : Except Nat Op :=
  if k = [70, 82, 69, 81] then (optFreq v).map fun a => { o with freq := a, set := true } else
  if k = [68, 84, 83, 84, 65, 82, 84] then (optE (zLoc v)).map fun a => { o with dt := a } else
  if k = [73, 78, 84, 69, 82, 86, 65, 76] then (atoiE v).map fun a => { o with interval := a } else
  if k = [87, 75, 83, 84] then (wdOf v).map fun a => { o with wkst := a } else
  if k = [67, 79, 85, 78, 84] then (atoiE v).map fun a => { o with count := a } else
  if k = [85, 78, 84, 73, 76] then (optE (zLoc v)).map fun a => { o with til := a } else
  if k = [66, 89, 83, 69, 84, 80, 79, 83] then (intsOf v).map fun a => { o with pos := a } else
  if k = [66, 89, 77, 79, 78, 84, 72] then (intsOf v).map fun a => { o with month := a } else
  if k = [66, 89, 77, 79, 78, 84, 72, 68, 65, 89] then (intsOf v).map fun a => { o with mday := a } else
  if k = [66, 89, 89, 69, 65, 82, 68, 65, 89] then (intsOf v).map fun a => { o with yday := a } else
  if k = [66, 89, 87, 69, 69, 75, 78, 79] then (intsOf v).map fun a => { o with weekno := a } else
  if k = [66, 89, 68, 65, 89] then (daysOf v).map fun a => { o with day := a } else
  if k = [66, 89, 72, 79, 85, 82] then (intsOf v).map fun a => { o with hour := a } else
  if k = [66, 89, 77, 73, 78, 85, 84, 69] then (intsOf v).map fun a => { o with minute := a } else
  if k = [66, 89, 83, 69, 67, 79, 78, 68] then (intsOf v).map fun a => { o with second := a } else
  if k = [66, 89, 69, 65, 83, 84, 69, 82] then (intsOf v).map fun a => { o with easter := a } else
  .error 157
def opStep (o : Op) (attr : List UInt8) : Except Nat Op :=
  match split 61 attr with
  | [k, v] => if v.length = 0 then .error 157 else opPut o k v
  | _ => .error 157
def foldE {σ α : Type} (f : σ → α → Except Nat σ) (o : σ) : List α → Except Nat σ
  | [] => .ok o
  | a :: r => match f o a with
    | .ok o => foldE f o r
    | .error t => .error t
def opEnd : Except Nat Op → Except Nat Op
  | .ok o => if o.set then .ok o else .error 157
  | .error t => .error t
/-- The options that a text tells. -/
def opParse (s : List UInt8) : Except Nat Op := opEnd (foldE opStep op0 (split 59 s))
/-- The parser's answer. -/
def OpR (H h : Heap) (r : AV) : Except Nat Op → Prop
  | .ok o => ∃ p x, r = .tup [.ptr p 0, .val .nilIface] ∧ h[p]? = some (.own 102 (opCells o x)) ∧ H.length ≤ p ∧ OpAt h o x
  | .error t => r = .tup [.val (.pointer none), .ifc t .any]
theorem split_none {c : UInt8} {s : List UInt8} (h : idx c s = none) : split c s = [s] := by unfold split; rw [splitN, h]
theorem NoFrac.split {c : UInt8} : ∀ (k : Nat) {s x : List UInt8}, NoFrac s → x ∈ splitN c k s → NoFrac x
  | 0, s, x, h, hx => by simp [splitN] at hx; exact hx ▸ h
  | k + 1, s, x, h, hx => by
    unfold splitN at hx
    split at hx
    · simp at hx; exact hx ▸ h
    · rcases List.mem_cons.1 hx with rfl | hx
      · exact fun c hc => h c (List.mem_of_mem_take hc)
      · exact NoFrac.split k (h.drop _) hx
structure InText (s : List UInt8) : Prop where
  len : s.length ≤ 50000
  frac : ∀ a ∈ split 59 s, ∀ k v, split 61 a = [k, v] → (k = [85, 78, 84, 73, 76] ∨ k = [68, 84, 83, 84, 65, 82, 84]) → NoFrac v
  ascii : ∀ c ∈ s, c.toNat < 128
  trim : Lib.trimSpace s = s
  line : idx 10 s = none
  pre : Lib.trimPrefix s [82, 82, 85, 76, 69, 58] = s
theorem set_box {H G : Heap} {b y : AObj} {p : Nat} (h : H.length + 1 ≤ p) : (H ++ b :: G).set p y = H ++ b :: G.set (p - (H.length + 1)) y := by
  obtain ⟨j, rfl⟩ : ∃ j, p = H.length + 1 + j := ⟨p - (H.length + 1), by omega⟩
  rw [List.set_append_right _ _ (by omega), show H.length + 1 + j - H.length = j + 1 by omega, List.set_cons_succ, show H.length + 1 + j - (H.length + 1) = j by omega]
set_option maxHeartbeats 8000000 in
theorem strToROptionIn_A {w0 : World} (hG : Glob w0) (s : List UInt8) (hs : InText s) (z : AV) (hz : avCells z = some []) (H : Heap) (hH : GH H) : ACalls Tryz.prog (CB w0) 57 [vS s, z] H fun r H' => OpR H H' r (opParse s) ∧ ∃ G, H' = H ++ G := by
  refine A_fun (N := 235) (rs := [.tmp 4, .tmp 5]) Tryz.func57 rfl rfl rfl (by kernel_rfl) (by kernel_rfl) (Nat.le_of_ble_eq_true rfl) ?_
  rintro e he ⟨g0, g1, -⟩
  have hsl := hs.len
  simp only [go_sem, he, g0, g1, hz]
  refine callX_of (trimSpace_A hG s (by omega) hs.ascii _) (List.prefix_refl _) ?_
  simp only [go_sem, he, g0, g1, setD_some, hs.trim]
  refine callX_any (zzSplit_A s 10 (by omega) _) ?_
  rw [split_none hs.line]
  rintro r h ⟨⟨G, rfl⟩, o1, rfl, ho1, -⟩
  simp only [go_sem, he, g0, g1, setD_some] at ho1 ⊢
  simp only [go_sem, he, g0, g1, setD_some, ho1, cast1, Int.reduceLT]
  refine callX_of (trimPrefix_A s [82, 82, 85, 76, 69, 58] _) (List.prefix_refl _) ?_
  simp only [go_sem, he, g0, g1, setD_some, hs.pre]
  generalize hp1 : H.length + (G.length + 1) = p at *
  have hb0 : ∀ G', (H ++ AObj.own 109 [] :: G')[H.length]? = some (.own 109 []) := fun G' => heap_get0
  have hpp : (H ++ AObj.own 109 [] :: (G ++ [AObj.own 102 [vI 0, vI 0, vI 0, vI 0, vI 0, vI 0, vI 0, vI 0, vI 0, vNil, vNil, vNil, vNil, vNil, vNil, vNil, vNil, vNil, vNil]]))[p]? = some (AObj.own 102 [vI 0, vI 0, vI 0, vI 0, vI 0, vI 0, vI 0, vI 0, vI 0, vNil, vNil, vNil, vNil, vNil, vNil, vNil, vNil, vNil, vNil]) := by
    rw [← hp1, heap_get, List.getElem?_cons_succ, heap_get0]
    rfl
  have hG2 : ∃ G', H ++ AObj.own 109 [] :: (G ++ [AObj.own 102 [vI 0, vI 0, vI 0, vI 0, vI 0, vI 0, vI 0, vI 0, vI 0, vNil, vNil, vNil, vNil, vNil, vNil, vNil, vNil, vNil, vNil]]) = H ++ AObj.own 109 [] :: G' := ⟨_, rfl⟩
  generalize H ++ AObj.own 109 [] :: (G ++ [AObj.own 102 [vI 0, vI 0, vI 0, vI 0, vI 0, vI 0, vI 0, vI 0, vI 0, vNil, vNil, vNil, vNil, vNil, vNil, vNil, vNil, vNil, vNil]]) = H2 at *
  refine callX_any (zzSplit_A s 59 (by omega) _) ?_
  rintro r h ⟨⟨G2, rfl⟩, o2, rfl, ho2, ho2l⟩
  have hal := split_length 59 s
  have ham : ∀ a ∈ split 59 s, a.length ≤ s.length := fun a => split_mem
  have haf := hs.frac
  unfold opParse
  generalize split 59 s = ats at *
  simp only [go_sem, he, g0, g1, setD_some]
  refine A_while ats.length (fun k e h => ∃ (i : Nat) (o : Op) (x : Os), i + k = ats.length ∧ len e = 235 ∧ AL.get e 3 = .ptr H.length 0 ∧ AL.get e 9 = .ptr p 0 ∧ AL.get e 10 = vB o.set ∧ AL.get e 70 = .sl true o2 0 ats.length 1 ∧ AL.get e 71 = vI ats.length ∧ AL.get e 72 = vI i ∧ (∃ G, h = H ++ AObj.own 109 [] :: G) ∧ o2 ≠ p ∧ h[o2]? = some (.own 9 (ats.map vS)) ∧ h[p]? = some (.own 102 (opCells o x)) ∧ OpAt h o x ∧ foldE opStep o (ats.drop i) = foldE opStep op0 ats) (by kernel_rfl) ?_ ?_
  · simp only [go_sem, he, g0, g1]
    obtain ⟨G', rfl⟩ := hG2
    have hlt := (List.getElem?_eq_some_iff.1 hpp).1
    refine ⟨0, op0, ⟨vNil, vNil, vNil, vNil, vNil, vNil, vNil, vNil, vNil, vNil⟩, by omega, rfl, rfl, ⟨G' ++ G2, by simp only [List.append_assoc, List.cons_append]⟩, by omega, ho2, get_more hpp, ?_, rfl⟩
    exact ⟨.inl ⟨rfl, rfl⟩, .inl ⟨rfl, rfl⟩, .inl ⟨rfl, rfl⟩, .inl ⟨rfl, rfl⟩, .inl ⟨rfl, rfl⟩, .inl ⟨rfl, rfl⟩, .inl ⟨rfl, rfl⟩, .inl ⟨rfl, rfl⟩, .inl ⟨rfl, rfl⟩, .inl ⟨rfl, rfl⟩⟩
  · rintro k e h ⟨i, o, x, hik, he, g3, g9, g10, g70, g71, g72, ⟨G3, rfl⟩, hne, ho2, hp, hx, hfold⟩
    simp only [go_sem, he, g3, g9, g10, g70, g71, g72]
    refine condK_of (fun hc => ?_) fun hc => ?_
    · have hc := of_decide_eq_true hc
      obtain ⟨a, ha, hd⟩ := drop_get (l := ats) (i := i) (by omega)
      have hai : (ats.map vS)[i]? = some (vS a) := by rw [List.getElem?_map, ha]; rfl
      have hmem := List.mem_of_getElem? ha
      have hal2 := ham a hmem
      have hfr := haf a hmem
      simp only [go_sem, he, g3, g9, g10, g70, g71, g72, ho2, hai, Int.toNat_natCast]
      refine ⟨by omega, callX_any (zzSplit_A a 61 (by omega) _) ?_⟩
      rintro r h ⟨⟨G4, rfl⟩, o3, rfl, ho3, -⟩
      rw [hd, foldE] at hfold
      have hk2 := split_length 61 a
      have hkm : ∀ b ∈ split 61 a, b.length ≤ a.length := fun b => split_mem
      have hst : opStep o a = match split 61 a with | [k, v] => if v.length = 0 then .error 157 else opPut o k v | _ => .error 157 := rfl
      generalize split 61 a = kv at *
      have ho2' := get_more (G := G4) ho2
      have hp' := get_more (G := G4) hp
      have hx' := hx.more G4
      rw [List.append_assoc, List.cons_append] at ho2' hp' hx' ho3
      rw [List.append_assoc, List.cons_append]
      generalize G3 ++ G4 = G5 at *
      clear ho2 hp hx
      have wi : IntKind.i64.wrap ((i : Int) + 1) = ((i + 1 : Nat) : Int) := by rw [wI64 (by omega)]; rfl
      have hpl : H.length + 1 ≤ p := by omega
      have hHb : GH (H ++ AObj.own 109 [] :: G5) := hH.more _
      by_cases h2 : kv.length = 2
      · obtain ⟨ky, v, rfl⟩ : ∃ ky v, kv = [ky, v] := by
          match kv, h2 with
          | [ky, v], _ => exact ⟨ky, v, rfl⟩
        have hvl := hkm v (by simp)
        have hvf := hfr ky v rfl
        have hkl := hkm ky (by simp)
        rw [hst] at hfold
        simp only [go_sem, he, g3, g9, g10, g70, g71, g72, setD_some, cast1] at ho3 ⊢
        simp (decide := true) only [go_sem, he, g3, g9, g10, g70, g71, g72, setD_some, cast1, ho3]
        refine acode_draw mixed (by kernel_rfl) ?_
        simp (decide := true) only [go_sem, he, g3, g9, g10, g70, g71, g72, setD_some, cast1, ho3]
        refine condK_of (fun hv0 => ?_) fun hv0 => ?_
        · have hv0 := of_decide_eq_true hv0
          rw [show (match [ky, v] with | [k, v] => if v.length = 0 then .error 157 else opPut o k v | _ => .error 157 : Except Nat Op) = .error 157 from if_pos (by omega)] at hfold
          simp (decide := true) only [go_sem, he, g3, g9, g10, g70, g71, g72]
          refine ⟨by omega, callX_of (errorsNew_A _ _) (List.prefix_refl _) ?_⟩
          simp only [go_sem, he, setD_some]
          refine ⟨?_, _, rfl⟩
          rw [← hfold]
          exact rfl
        have hv0 := of_decide_eq_false hv0
        rw [show (match [ky, v] with | [k, v] => if v.length = 0 then .error 157 else opPut o k v | _ => .error 157 : Except Nat Op) = opPut o ky v from if_neg (by omega)] at hfold
        simp only [go_sem, he, g3, g9, g10, g70, g71, g72]
        by_cases kkFREQ : ky = [70, 82, 69, 81]
        · subst kkFREQ
          rw [show opPut o [70, 82, 69, 81] v = (optFreq v).map fun a => { o with freq := a, set := true } from rfl] at hfold
          simp (decide := true) only [go_sem, he, g3, g9, g10, g70, g71, g72, hb0]
          refine callX_of (strToFreq_P v (by omega) _) (List.prefix_refl _) ?_
          have ho2'' := ho2'
          have hp'' := hp'
          have hx'' := hx'
          unfold opCells at hp''
          unfold freqR
          cases hq : freqOf v with
          | none =>
            rw [show optFreq v = .error 157 by unfold optFreq; rw [hq]; rfl] at hfold
            simp (decide := true) only [go_sem, he, g3, g9, g10, g70, g71, g72, setD_some, hp'', wi, hx''.day.one]
            refine ⟨?_, _, set_box hpl⟩
            rw [← hfold]
            exact rfl
          | some n =>
            rw [show optFreq v = .ok n by unfold optFreq; rw [hq]; rfl] at hfold
            simp (decide := true) only [go_sem, he, g3, g9, g10, g70, g71, g72, setD_some, hp'', wi, hx''.day.one]
            refine ⟨k - 1, by omega, i + 1, { o with freq := n, set := true }, x, by omega, rfl, rfl, ⟨_, set_box hpl⟩, hne, ?_, ?_, ?_, hfold⟩
            · rw [List.getElem?_set_ne (by omega)]; exact ho2''
            · rw [List.getElem?_set_self (List.getElem?_eq_some_iff.1 hp'').1]; rfl
            · exact ⟨(hx''.put hp'' _).pos, (hx''.put hp'' _).month, (hx''.put hp'' _).mday, (hx''.put hp'' _).yday, (hx''.put hp'' _).weekno, (hx''.put hp'' _).hour, (hx''.put hp'' _).minute, (hx''.put hp'' _).second, (hx''.put hp'' _).easter, (hx''.put hp'' _).day⟩
        by_cases kkDTSTART : ky = [68, 84, 83, 84, 65, 82, 84]
        · subst kkDTSTART
          rw [show opPut o [68, 84, 83, 84, 65, 82, 84] v = (optE (zLoc v)).map fun a => { o with dt := a } from rfl] at hfold
          simp (decide := true) only [go_sem, he, g3, g9, g10, g70, g71, g72, hb0]
          refine callX_of (strToTimeInLoc_A v (by omega) (hvf (by decide)) _ rfl _) (List.prefix_refl _) ?_
          have ho2'' := ho2'
          have hp'' := hp'
          have hx'' := hx'
          unfold opCells at hp''
          unfold zLocR
          cases hq : zLoc v with
          | none =>
            rw [hq] at hfold
            simp (decide := true) only [go_sem, he, g3, g9, g10, g70, g71, g72, setD_some, hp'', wi, hx''.day.one, exR, optE]
            refine ⟨?_, _, set_box hpl⟩
            rw [← hfold]
            exact rfl
          | some n =>
            rw [hq] at hfold
            simp (decide := true) only [go_sem, he, g3, g9, g10, g70, g71, g72, setD_some, hp'', wi, hx''.day.one, exR, optE]
            refine ⟨k - 1, by omega, i + 1, { o with dt := n }, x, by omega, rfl, rfl, ⟨_, set_box hpl⟩, hne, ?_, ?_, ?_, hfold⟩
            · rw [List.getElem?_set_ne (by omega)]; exact ho2''
            · rw [List.getElem?_set_self (List.getElem?_eq_some_iff.1 hp'').1]; rfl
            · exact ⟨(hx''.put hp'' _).pos, (hx''.put hp'' _).month, (hx''.put hp'' _).mday, (hx''.put hp'' _).yday, (hx''.put hp'' _).weekno, (hx''.put hp'' _).hour, (hx''.put hp'' _).minute, (hx''.put hp'' _).second, (hx''.put hp'' _).easter, (hx''.put hp'' _).day⟩
        by_cases kkINTERVAL : ky = [73, 78, 84, 69, 82, 86, 65, 76]
        · subst kkINTERVAL
          rw [show opPut o [73, 78, 84, 69, 82, 86, 65, 76] v = (atoiE v).map fun a => { o with interval := a } from rfl] at hfold
          simp (decide := true) only [go_sem, he, g3, g9, g10, g70, g71, g72, hb0]
          refine callX_of (atoi_A hG v (by omega) _) (List.prefix_refl _) ?_
          have ho2'' := ho2'
          have hp'' := hp'
          have hx'' := hx'
          unfold opCells at hp''
          unfold atoiR
          cases hq : Lib.atoiAll v with
          | range =>
            rw [show atoiE v = .error 207 by unfold atoiE; rw [hq]] at hfold
            simp (decide := true) only [go_sem, he, g3, g9, g10, g70, g71, g72, setD_some, hp'', wi, hx''.day.one]
            refine ⟨?_, _, set_box hpl⟩
            rw [← hfold]
            exact rfl
          | ok n =>
            rw [show atoiE v = .ok n by unfold atoiE; rw [hq]] at hfold
            simp (decide := true) only [go_sem, he, g3, g9, g10, g70, g71, g72, setD_some, hp'', wi, hx''.day.one]
            refine ⟨k - 1, by omega, i + 1, { o with interval := n }, x, by omega, rfl, rfl, ⟨_, set_box hpl⟩, hne, ?_, ?_, ?_, hfold⟩
            · rw [List.getElem?_set_ne (by omega)]; exact ho2''
            · rw [List.getElem?_set_self (List.getElem?_eq_some_iff.1 hp'').1]; rfl
            · exact ⟨(hx''.put hp'' _).pos, (hx''.put hp'' _).month, (hx''.put hp'' _).mday, (hx''.put hp'' _).yday, (hx''.put hp'' _).weekno, (hx''.put hp'' _).hour, (hx''.put hp'' _).minute, (hx''.put hp'' _).second, (hx''.put hp'' _).easter, (hx''.put hp'' _).day⟩
          | _ =>
            rw [show atoiE v = .error 207 by unfold atoiE; rw [hq]] at hfold
            simp (decide := true) only [go_sem, he, g3, g9, g10, g70, g71, g72, setD_some, hp'', wi, hx''.day.one]
            refine ⟨?_, _, set_box hpl⟩
            rw [← hfold]
            exact rfl
        by_cases kkWKST : ky = [87, 75, 83, 84]
        · subst kkWKST
          rw [show opPut o [87, 75, 83, 84] v = (wdOf v).map fun a => { o with wkst := a } from rfl] at hfold
          simp (decide := true) only [go_sem, he, g3, g9, g10, g70, g71, g72, hb0]
          refine callX_of (strToWeekday_A hG v (by omega) _ hHb) (List.prefix_refl _) ?_
          have ho2'' := ho2'
          have hp'' := hp'
          have hx'' := hx'
          unfold opCells at hp''
          unfold wdR
          cases hq : wdOf v with
          | error t =>
            rw [hq] at hfold
            simp (decide := true) only [go_sem, he, g3, g9, g10, g70, g71, g72, setD_some, hp'', wi, hx''.day.one, exR]
            refine ⟨?_, _, set_box hpl⟩
            rw [← hfold]
            exact rfl
          | ok n =>
            rw [hq] at hfold
            simp (decide := true) only [go_sem, he, g3, g9, g10, g70, g71, g72, setD_some, hp'', wi, hx''.day.one, exR]
            refine ⟨k - 1, by omega, i + 1, { o with wkst := n }, x, by omega, rfl, rfl, ⟨_, set_box hpl⟩, hne, ?_, ?_, ?_, hfold⟩
            · rw [List.getElem?_set_ne (by omega)]; exact ho2''
            · rw [List.getElem?_set_self (List.getElem?_eq_some_iff.1 hp'').1]; rfl
            · exact ⟨(hx''.put hp'' _).pos, (hx''.put hp'' _).month, (hx''.put hp'' _).mday, (hx''.put hp'' _).yday, (hx''.put hp'' _).weekno, (hx''.put hp'' _).hour, (hx''.put hp'' _).minute, (hx''.put hp'' _).second, (hx''.put hp'' _).easter, (hx''.put hp'' _).day⟩
        by_cases kkCOUNT : ky = [67, 79, 85, 78, 84]
        · subst kkCOUNT
          rw [show opPut o [67, 79, 85, 78, 84] v = (atoiE v).map fun a => { o with count := a } from rfl] at hfold
          simp (decide := true) only [go_sem, he, g3, g9, g10, g70, g71, g72, hb0]
          refine callX_of (atoi_A hG v (by omega) _) (List.prefix_refl _) ?_
          have ho2'' := ho2'
          have hp'' := hp'
          have hx'' := hx'
          unfold opCells at hp''
          unfold atoiR
          cases hq : Lib.atoiAll v with
          | range =>
            rw [show atoiE v = .error 207 by unfold atoiE; rw [hq]] at hfold
            simp (decide := true) only [go_sem, he, g3, g9, g10, g70, g71, g72, setD_some, hp'', wi, hx''.day.one]
            refine ⟨?_, _, set_box hpl⟩
            rw [← hfold]
            exact rfl
          | ok n =>
            rw [show atoiE v = .ok n by unfold atoiE; rw [hq]] at hfold
            simp (decide := true) only [go_sem, he, g3, g9, g10, g70, g71, g72, setD_some, hp'', wi, hx''.day.one]
            refine ⟨k - 1, by omega, i + 1, { o with count := n }, x, by omega, rfl, rfl, ⟨_, set_box hpl⟩, hne, ?_, ?_, ?_, hfold⟩
            · rw [List.getElem?_set_ne (by omega)]; exact ho2''
            · rw [List.getElem?_set_self (List.getElem?_eq_some_iff.1 hp'').1]; rfl
            · exact ⟨(hx''.put hp'' _).pos, (hx''.put hp'' _).month, (hx''.put hp'' _).mday, (hx''.put hp'' _).yday, (hx''.put hp'' _).weekno, (hx''.put hp'' _).hour, (hx''.put hp'' _).minute, (hx''.put hp'' _).second, (hx''.put hp'' _).easter, (hx''.put hp'' _).day⟩
          | _ =>
            rw [show atoiE v = .error 207 by unfold atoiE; rw [hq]] at hfold
            simp (decide := true) only [go_sem, he, g3, g9, g10, g70, g71, g72, setD_some, hp'', wi, hx''.day.one]
            refine ⟨?_, _, set_box hpl⟩
            rw [← hfold]
            exact rfl
        by_cases kkUNTIL : ky = [85, 78, 84, 73, 76]
        · subst kkUNTIL
          rw [show opPut o [85, 78, 84, 73, 76] v = (optE (zLoc v)).map fun a => { o with til := a } from rfl] at hfold
          simp (decide := true) only [go_sem, he, g3, g9, g10, g70, g71, g72, hb0]
          refine callX_of (strToTimeInLoc_A v (by omega) (hvf (by decide)) _ rfl _) (List.prefix_refl _) ?_
          have ho2'' := ho2'
          have hp'' := hp'
          have hx'' := hx'
          unfold opCells at hp''
          unfold zLocR
          cases hq : zLoc v with
          | none =>
            rw [hq] at hfold
            simp (decide := true) only [go_sem, he, g3, g9, g10, g70, g71, g72, setD_some, hp'', wi, hx''.day.one, exR, optE]
            refine ⟨?_, _, set_box hpl⟩
            rw [← hfold]
            exact rfl
          | some n =>
            rw [hq] at hfold
            simp (decide := true) only [go_sem, he, g3, g9, g10, g70, g71, g72, setD_some, hp'', wi, hx''.day.one, exR, optE]
            refine ⟨k - 1, by omega, i + 1, { o with til := n }, x, by omega, rfl, rfl, ⟨_, set_box hpl⟩, hne, ?_, ?_, ?_, hfold⟩
            · rw [List.getElem?_set_ne (by omega)]; exact ho2''
            · rw [List.getElem?_set_self (List.getElem?_eq_some_iff.1 hp'').1]; rfl
            · exact ⟨(hx''.put hp'' _).pos, (hx''.put hp'' _).month, (hx''.put hp'' _).mday, (hx''.put hp'' _).yday, (hx''.put hp'' _).weekno, (hx''.put hp'' _).hour, (hx''.put hp'' _).minute, (hx''.put hp'' _).second, (hx''.put hp'' _).easter, (hx''.put hp'' _).day⟩
        by_cases kkBYSETPOS : ky = [66, 89, 83, 69, 84, 80, 79, 83]
        · subst kkBYSETPOS
          rw [show opPut o [66, 89, 83, 69, 84, 80, 79, 83] v = (intsOf v).map fun a => { o with pos := a } from rfl] at hfold
          simp (decide := true) only [go_sem, he, g3, g9, g10, g70, g71, g72, hb0]
          refine callX_any (strToInts_A hG v (by omega) _) ?_
          rintro r h ⟨hr, G6, rfl⟩
          have ho2'' := get_more (G := G6) ho2'
          have hp'' := get_more (G := G6) hp'
          have hx'' := hx'.more G6
          rw [List.append_assoc, List.cons_append] at ho2'' hp'' hx'' hr
          rw [List.append_assoc, List.cons_append]
          unfold opCells at hp''
          cases hq : intsOf v with
          | error t =>
            rw [hq] at hr hfold
            obtain rfl : r = _ := hr
            simp (decide := true) only [go_sem, he, g3, g9, g10, g70, g71, g72, setD_some, hp'', wi, hx''.day.one]
            refine ⟨?_, _, set_box hpl⟩
            rw [← hfold]
            exact rfl
          | ok l =>
            rw [hq] at hr hfold
            obtain ⟨q, rfl, hq1, hq2⟩ := hr
            have hqp : p ≠ q := by rintro rfl; rw [hp''] at hq1; simp at hq1
            simp (decide := true) only [go_sem, he, g3, g9, g10, g70, g71, g72, setD_some, hp'', wi, hx''.day.one]
            refine ⟨k - 1, by omega, i + 1, { o with pos := l }, { x with pos := .sl true q 0 l.length 1 }, by omega, rfl, rfl, ⟨_, set_box hpl⟩, hne, ?_, ?_, ?_, hfold⟩
            · rw [List.getElem?_set_ne (by omega)]; exact ho2''
            · rw [List.getElem?_set_self (List.getElem?_eq_some_iff.1 hp'').1]; rfl
            · exact { (hx''.put hp'' _) with pos := .inr ⟨q, rfl, by rw [List.getElem?_set_ne hqp]; exact hq1⟩ }
        by_cases kkBYMONTH : ky = [66, 89, 77, 79, 78, 84, 72]
        · subst kkBYMONTH
          rw [show opPut o [66, 89, 77, 79, 78, 84, 72] v = (intsOf v).map fun a => { o with month := a } from rfl] at hfold
          simp (decide := true) only [go_sem, he, g3, g9, g10, g70, g71, g72, hb0]
          refine callX_any (strToInts_A hG v (by omega) _) ?_
          rintro r h ⟨hr, G6, rfl⟩
          have ho2'' := get_more (G := G6) ho2'
          have hp'' := get_more (G := G6) hp'
          have hx'' := hx'.more G6
          rw [List.append_assoc, List.cons_append] at ho2'' hp'' hx'' hr
          rw [List.append_assoc, List.cons_append]
          unfold opCells at hp''
          cases hq : intsOf v with
          | error t =>
            rw [hq] at hr hfold
            obtain rfl : r = _ := hr
            simp (decide := true) only [go_sem, he, g3, g9, g10, g70, g71, g72, setD_some, hp'', wi, hx''.day.one]
            refine ⟨?_, _, set_box hpl⟩
            rw [← hfold]
            exact rfl
          | ok l =>
            rw [hq] at hr hfold
            obtain ⟨q, rfl, hq1, hq2⟩ := hr
            have hqp : p ≠ q := by rintro rfl; rw [hp''] at hq1; simp at hq1
            simp (decide := true) only [go_sem, he, g3, g9, g10, g70, g71, g72, setD_some, hp'', wi, hx''.day.one]
            refine ⟨k - 1, by omega, i + 1, { o with month := l }, { x with month := .sl true q 0 l.length 1 }, by omega, rfl, rfl, ⟨_, set_box hpl⟩, hne, ?_, ?_, ?_, hfold⟩
            · rw [List.getElem?_set_ne (by omega)]; exact ho2''
            · rw [List.getElem?_set_self (List.getElem?_eq_some_iff.1 hp'').1]; rfl
            · exact { (hx''.put hp'' _) with month := .inr ⟨q, rfl, by rw [List.getElem?_set_ne hqp]; exact hq1⟩ }
        by_cases kkBYMONTHDAY : ky = [66, 89, 77, 79, 78, 84, 72, 68, 65, 89]
        · subst kkBYMONTHDAY
          rw [show opPut o [66, 89, 77, 79, 78, 84, 72, 68, 65, 89] v = (intsOf v).map fun a => { o with mday := a } from rfl] at hfold
          simp (decide := true) only [go_sem, he, g3, g9, g10, g70, g71, g72, hb0]
          refine callX_any (strToInts_A hG v (by omega) _) ?_
          rintro r h ⟨hr, G6, rfl⟩
          have ho2'' := get_more (G := G6) ho2'
          have hp'' := get_more (G := G6) hp'
          have hx'' := hx'.more G6
          rw [List.append_assoc, List.cons_append] at ho2'' hp'' hx'' hr
          rw [List.append_assoc, List.cons_append]
          unfold opCells at hp''
          cases hq : intsOf v with
          | error t =>
            rw [hq] at hr hfold
            obtain rfl : r = _ := hr
            simp (decide := true) only [go_sem, he, g3, g9, g10, g70, g71, g72, setD_some, hp'', wi, hx''.day.one]
            refine ⟨?_, _, set_box hpl⟩
            rw [← hfold]
            exact rfl
          | ok l =>
            rw [hq] at hr hfold
            obtain ⟨q, rfl, hq1, hq2⟩ := hr
            have hqp : p ≠ q := by rintro rfl; rw [hp''] at hq1; simp at hq1
            simp (decide := true) only [go_sem, he, g3, g9, g10, g70, g71, g72, setD_some, hp'', wi, hx''.day.one]
            refine ⟨k - 1, by omega, i + 1, { o with mday := l }, { x with mday := .sl true q 0 l.length 1 }, by omega, rfl, rfl, ⟨_, set_box hpl⟩, hne, ?_, ?_, ?_, hfold⟩
            · rw [List.getElem?_set_ne (by omega)]; exact ho2''
            · rw [List.getElem?_set_self (List.getElem?_eq_some_iff.1 hp'').1]; rfl
            · exact { (hx''.put hp'' _) with mday := .inr ⟨q, rfl, by rw [List.getElem?_set_ne hqp]; exact hq1⟩ }
        by_cases kkBYYEARDAY : ky = [66, 89, 89, 69, 65, 82, 68, 65, 89]
        · subst kkBYYEARDAY
          rw [show opPut o [66, 89, 89, 69, 65, 82, 68, 65, 89] v = (intsOf v).map fun a => { o with yday := a } from rfl] at hfold
          simp (decide := true) only [go_sem, he, g3, g9, g10, g70, g71, g72, hb0]
          refine callX_any (strToInts_A hG v (by omega) _) ?_
          rintro r h ⟨hr, G6, rfl⟩
          have ho2'' := get_more (G := G6) ho2'
          have hp'' := get_more (G := G6) hp'
          have hx'' := hx'.more G6
          rw [List.append_assoc, List.cons_append] at ho2'' hp'' hx'' hr
          rw [List.append_assoc, List.cons_append]
          unfold opCells at hp''
          cases hq : intsOf v with
          | error t =>
            rw [hq] at hr hfold
            obtain rfl : r = _ := hr
            simp (decide := true) only [go_sem, he, g3, g9, g10, g70, g71, g72, setD_some, hp'', wi, hx''.day.one]
            refine ⟨?_, _, set_box hpl⟩
            rw [← hfold]
            exact rfl
          | ok l =>
            rw [hq] at hr hfold
            obtain ⟨q, rfl, hq1, hq2⟩ := hr
            have hqp : p ≠ q := by rintro rfl; rw [hp''] at hq1; simp at hq1
            simp (decide := true) only [go_sem, he, g3, g9, g10, g70, g71, g72, setD_some, hp'', wi, hx''.day.one]
            refine ⟨k - 1, by omega, i + 1, { o with yday := l }, { x with yday := .sl true q 0 l.length 1 }, by omega, rfl, rfl, ⟨_, set_box hpl⟩, hne, ?_, ?_, ?_, hfold⟩
            · rw [List.getElem?_set_ne (by omega)]; exact ho2''
            · rw [List.getElem?_set_self (List.getElem?_eq_some_iff.1 hp'').1]; rfl
            · exact { (hx''.put hp'' _) with yday := .inr ⟨q, rfl, by rw [List.getElem?_set_ne hqp]; exact hq1⟩ }
        by_cases kkBYWEEKNO : ky = [66, 89, 87, 69, 69, 75, 78, 79]
        · subst kkBYWEEKNO
          rw [show opPut o [66, 89, 87, 69, 69, 75, 78, 79] v = (intsOf v).map fun a => { o with weekno := a } from rfl] at hfold
          simp (decide := true) only [go_sem, he, g3, g9, g10, g70, g71, g72, hb0]
          refine callX_any (strToInts_A hG v (by omega) _) ?_
          rintro r h ⟨hr, G6, rfl⟩
          have ho2'' := get_more (G := G6) ho2'
          have hp'' := get_more (G := G6) hp'
          have hx'' := hx'.more G6
          rw [List.append_assoc, List.cons_append] at ho2'' hp'' hx'' hr
          rw [List.append_assoc, List.cons_append]
          unfold opCells at hp''
          cases hq : intsOf v with
          | error t =>
            rw [hq] at hr hfold
            obtain rfl : r = _ := hr
            simp (decide := true) only [go_sem, he, g3, g9, g10, g70, g71, g72, setD_some, hp'', wi, hx''.day.one]
            refine ⟨?_, _, set_box hpl⟩
            rw [← hfold]
            exact rfl
          | ok l =>
            rw [hq] at hr hfold
            obtain ⟨q, rfl, hq1, hq2⟩ := hr
            have hqp : p ≠ q := by rintro rfl; rw [hp''] at hq1; simp at hq1
            simp (decide := true) only [go_sem, he, g3, g9, g10, g70, g71, g72, setD_some, hp'', wi, hx''.day.one]
            refine ⟨k - 1, by omega, i + 1, { o with weekno := l }, { x with weekno := .sl true q 0 l.length 1 }, by omega, rfl, rfl, ⟨_, set_box hpl⟩, hne, ?_, ?_, ?_, hfold⟩
            · rw [List.getElem?_set_ne (by omega)]; exact ho2''
            · rw [List.getElem?_set_self (List.getElem?_eq_some_iff.1 hp'').1]; rfl
            · exact { (hx''.put hp'' _) with weekno := .inr ⟨q, rfl, by rw [List.getElem?_set_ne hqp]; exact hq1⟩ }
        by_cases kkBYDAY : ky = [66, 89, 68, 65, 89]
        · subst kkBYDAY
          rw [show opPut o [66, 89, 68, 65, 89] v = (daysOf v).map fun a => { o with day := a } from rfl] at hfold
          simp (decide := true) only [go_sem, he, g3, g9, g10, g70, g71, g72, hb0]
          refine callX_any (strToWeekdays_A hG v (by omega) _ hHb) ?_
          rintro r h ⟨hr, G6, rfl⟩
          have ho2'' := get_more (G := G6) ho2'
          have hp'' := get_more (G := G6) hp'
          have hx'' := hx'.more G6
          rw [List.append_assoc, List.cons_append] at ho2'' hp'' hx'' hr
          rw [List.append_assoc, List.cons_append]
          unfold opCells at hp''
          cases hq : daysOf v with
          | error t =>
            rw [hq] at hr hfold
            obtain rfl : r = _ := hr
            simp (decide := true) only [go_sem, he, g3, g9, g10, g70, g71, g72, setD_some, hp'', wi, hx''.day.one]
            refine ⟨?_, _, set_box hpl⟩
            rw [← hfold]
            exact rfl
          | ok l =>
            rw [hq] at hr hfold
            obtain ⟨q, cs, rfl, hq1, hq2, hq3⟩ := hr
            have hqp : p ≠ q := by rintro rfl; rw [hp''] at hq1; simp at hq1
            simp (decide := true) only [go_sem, he, g3, g9, g10, g70, g71, g72, setD_some, hp'', wi, hx''.day.one]
            refine ⟨k - 1, by omega, i + 1, { o with day := l }, { x with day := .sl true q 0 l.length 2 }, by omega, rfl, rfl, ⟨_, set_box hpl⟩, hne, ?_, ?_, ?_, hfold⟩
            · rw [List.getElem?_set_ne (by omega)]; exact ho2''
            · rw [List.getElem?_set_self (List.getElem?_eq_some_iff.1 hp'').1]; rfl
            · exact { (hx''.put hp'' _) with day := .inr ⟨q, cs, rfl, by rw [List.getElem?_set_ne hqp]; exact hq1, hq3⟩ }
        by_cases kkBYHOUR : ky = [66, 89, 72, 79, 85, 82]
        · subst kkBYHOUR
          rw [show opPut o [66, 89, 72, 79, 85, 82] v = (intsOf v).map fun a => { o with hour := a } from rfl] at hfold
          simp (decide := true) only [go_sem, he, g3, g9, g10, g70, g71, g72, hb0]
          refine callX_any (strToInts_A hG v (by omega) _) ?_
          rintro r h ⟨hr, G6, rfl⟩
          have ho2'' := get_more (G := G6) ho2'
          have hp'' := get_more (G := G6) hp'
          have hx'' := hx'.more G6
          rw [List.append_assoc, List.cons_append] at ho2'' hp'' hx'' hr
          rw [List.append_assoc, List.cons_append]
          unfold opCells at hp''
          cases hq : intsOf v with
          | error t =>
            rw [hq] at hr hfold
            obtain rfl : r = _ := hr
            simp (decide := true) only [go_sem, he, g3, g9, g10, g70, g71, g72, setD_some, hp'', wi, hx''.day.one]
            refine ⟨?_, _, set_box hpl⟩
            rw [← hfold]
            exact rfl
          | ok l =>
            rw [hq] at hr hfold
            obtain ⟨q, rfl, hq1, hq2⟩ := hr
            have hqp : p ≠ q := by rintro rfl; rw [hp''] at hq1; simp at hq1
            simp (decide := true) only [go_sem, he, g3, g9, g10, g70, g71, g72, setD_some, hp'', wi, hx''.day.one]
            refine ⟨k - 1, by omega, i + 1, { o with hour := l }, { x with hour := .sl true q 0 l.length 1 }, by omega, rfl, rfl, ⟨_, set_box hpl⟩, hne, ?_, ?_, ?_, hfold⟩
            · rw [List.getElem?_set_ne (by omega)]; exact ho2''
            · rw [List.getElem?_set_self (List.getElem?_eq_some_iff.1 hp'').1]; rfl
            · exact { (hx''.put hp'' _) with hour := .inr ⟨q, rfl, by rw [List.getElem?_set_ne hqp]; exact hq1⟩ }
        by_cases kkBYMINUTE : ky = [66, 89, 77, 73, 78, 85, 84, 69]
        · subst kkBYMINUTE
          rw [show opPut o [66, 89, 77, 73, 78, 85, 84, 69] v = (intsOf v).map fun a => { o with minute := a } from rfl] at hfold
          simp (decide := true) only [go_sem, he, g3, g9, g10, g70, g71, g72, hb0]
          refine callX_any (strToInts_A hG v (by omega) _) ?_
          rintro r h ⟨hr, G6, rfl⟩
          have ho2'' := get_more (G := G6) ho2'
          have hp'' := get_more (G := G6) hp'
          have hx'' := hx'.more G6
          rw [List.append_assoc, List.cons_append] at ho2'' hp'' hx'' hr
          rw [List.append_assoc, List.cons_append]
          unfold opCells at hp''
          cases hq : intsOf v with
          | error t =>
            rw [hq] at hr hfold
            obtain rfl : r = _ := hr
            simp (decide := true) only [go_sem, he, g3, g9, g10, g70, g71, g72, setD_some, hp'', wi, hx''.day.one]
            refine ⟨?_, _, set_box hpl⟩
            rw [← hfold]
            exact rfl
          | ok l =>
            rw [hq] at hr hfold
            obtain ⟨q, rfl, hq1, hq2⟩ := hr
            have hqp : p ≠ q := by rintro rfl; rw [hp''] at hq1; simp at hq1
            simp (decide := true) only [go_sem, he, g3, g9, g10, g70, g71, g72, setD_some, hp'', wi, hx''.day.one]
            refine ⟨k - 1, by omega, i + 1, { o with minute := l }, { x with minute := .sl true q 0 l.length 1 }, by omega, rfl, rfl, ⟨_, set_box hpl⟩, hne, ?_, ?_, ?_, hfold⟩
            · rw [List.getElem?_set_ne (by omega)]; exact ho2''
            · rw [List.getElem?_set_self (List.getElem?_eq_some_iff.1 hp'').1]; rfl
            · exact { (hx''.put hp'' _) with minute := .inr ⟨q, rfl, by rw [List.getElem?_set_ne hqp]; exact hq1⟩ }
        by_cases kkBYSECOND : ky = [66, 89, 83, 69, 67, 79, 78, 68]
        · subst kkBYSECOND
          rw [show opPut o [66, 89, 83, 69, 67, 79, 78, 68] v = (intsOf v).map fun a => { o with second := a } from rfl] at hfold
          simp (decide := true) only [go_sem, he, g3, g9, g10, g70, g71, g72, hb0]
          refine callX_any (strToInts_A hG v (by omega) _) ?_
          rintro r h ⟨hr, G6, rfl⟩
          have ho2'' := get_more (G := G6) ho2'
          have hp'' := get_more (G := G6) hp'
          have hx'' := hx'.more G6
          rw [List.append_assoc, List.cons_append] at ho2'' hp'' hx'' hr
          rw [List.append_assoc, List.cons_append]
          unfold opCells at hp''
          cases hq : intsOf v with
          | error t =>
            rw [hq] at hr hfold
            obtain rfl : r = _ := hr
            simp (decide := true) only [go_sem, he, g3, g9, g10, g70, g71, g72, setD_some, hp'', wi, hx''.day.one]
            refine ⟨?_, _, set_box hpl⟩
            rw [← hfold]
            exact rfl
          | ok l =>
            rw [hq] at hr hfold
            obtain ⟨q, rfl, hq1, hq2⟩ := hr
            have hqp : p ≠ q := by rintro rfl; rw [hp''] at hq1; simp at hq1
            simp (decide := true) only [go_sem, he, g3, g9, g10, g70, g71, g72, setD_some, hp'', wi, hx''.day.one]
            refine ⟨k - 1, by omega, i + 1, { o with second := l }, { x with second := .sl true q 0 l.length 1 }, by omega, rfl, rfl, ⟨_, set_box hpl⟩, hne, ?_, ?_, ?_, hfold⟩
            · rw [List.getElem?_set_ne (by omega)]; exact ho2''
            · rw [List.getElem?_set_self (List.getElem?_eq_some_iff.1 hp'').1]; rfl
            · exact { (hx''.put hp'' _) with second := .inr ⟨q, rfl, by rw [List.getElem?_set_ne hqp]; exact hq1⟩ }
        by_cases kkBYEASTER : ky = [66, 89, 69, 65, 83, 84, 69, 82]
        · subst kkBYEASTER
          rw [show opPut o [66, 89, 69, 65, 83, 84, 69, 82] v = (intsOf v).map fun a => { o with easter := a } from rfl] at hfold
          simp (decide := true) only [go_sem, he, g3, g9, g10, g70, g71, g72, hb0]
          refine callX_any (strToInts_A hG v (by omega) _) ?_
          rintro r h ⟨hr, G6, rfl⟩
          have ho2'' := get_more (G := G6) ho2'
          have hp'' := get_more (G := G6) hp'
          have hx'' := hx'.more G6
          rw [List.append_assoc, List.cons_append] at ho2'' hp'' hx'' hr
          rw [List.append_assoc, List.cons_append]
          unfold opCells at hp''
          cases hq : intsOf v with
          | error t =>
            rw [hq] at hr hfold
            obtain rfl : r = _ := hr
            simp (decide := true) only [go_sem, he, g3, g9, g10, g70, g71, g72, setD_some, hp'', wi, hx''.day.one]
            refine ⟨?_, _, set_box hpl⟩
            rw [← hfold]
            exact rfl
          | ok l =>
            rw [hq] at hr hfold
            obtain ⟨q, rfl, hq1, hq2⟩ := hr
            have hqp : p ≠ q := by rintro rfl; rw [hp''] at hq1; simp at hq1
            simp (decide := true) only [go_sem, he, g3, g9, g10, g70, g71, g72, setD_some, hp'', wi, hx''.day.one]
            refine ⟨k - 1, by omega, i + 1, { o with easter := l }, { x with easter := .sl true q 0 l.length 1 }, by omega, rfl, rfl, ⟨_, set_box hpl⟩, hne, ?_, ?_, ?_, hfold⟩
            · rw [List.getElem?_set_ne (by omega)]; exact ho2''
            · rw [List.getElem?_set_self (List.getElem?_eq_some_iff.1 hp'').1]; rfl
            · exact { (hx''.put hp'' _) with easter := .inr ⟨q, rfl, by rw [List.getElem?_set_ne hqp]; exact hq1⟩ }
        have eeFREQ := decide_eq_false kkFREQ
        have eeDTSTART := decide_eq_false kkDTSTART
        have eeINTERVAL := decide_eq_false kkINTERVAL
        have eeWKST := decide_eq_false kkWKST
        have eeCOUNT := decide_eq_false kkCOUNT
        have eeUNTIL := decide_eq_false kkUNTIL
        have eeBYSETPOS := decide_eq_false kkBYSETPOS
        have eeBYMONTH := decide_eq_false kkBYMONTH
        have eeBYMONTHDAY := decide_eq_false kkBYMONTHDAY
        have eeBYYEARDAY := decide_eq_false kkBYYEARDAY
        have eeBYWEEKNO := decide_eq_false kkBYWEEKNO
        have eeBYDAY := decide_eq_false kkBYDAY
        have eeBYHOUR := decide_eq_false kkBYHOUR
        have eeBYMINUTE := decide_eq_false kkBYMINUTE
        have eeBYSECOND := decide_eq_false kkBYSECOND
        have eeBYEASTER := decide_eq_false kkBYEASTER
        rw [show opPut o ky v = .error 157 by simp only [opPut, kkFREQ, kkDTSTART, kkINTERVAL, kkWKST, kkCOUNT, kkUNTIL, kkBYSETPOS, kkBYMONTH, kkBYMONTHDAY, kkBYYEARDAY, kkBYWEEKNO, kkBYDAY, kkBYHOUR, kkBYMINUTE, kkBYSECOND, kkBYEASTER, if_false]] at hfold
        simp (decide := true) only [go_sem, he, g3, g9, g10, g70, g71, g72, eeFREQ, eeDTSTART, eeINTERVAL, eeWKST, eeCOUNT, eeUNTIL, eeBYSETPOS, eeBYMONTH, eeBYMONTHDAY, eeBYYEARDAY, eeBYWEEKNO, eeBYDAY, eeBYHOUR, eeBYMINUTE, eeBYSECOND, eeBYEASTER]
        refine ⟨by omega, callX_of (errorsNew_A _ _) (List.prefix_refl _) ?_⟩
        simp only [go_sem, he, setD_some]
        refine ⟨?_, _, rfl⟩
        rw [← hfold]
        exact rfl
      · have e2 : decide ((kv.length : Int) = 2) = false := decide_eq_false (by omega)
        have hst2 : opStep o a = .error 157 := by
          rw [hst]
          split
          · simp at h2
          · rfl
        rw [hst2] at hfold
        simp only [go_sem, he, g3, g9, g10, g70, g71, g72, setD_some, e2]
        refine callX_of (errorsNew_A _ _) (List.prefix_refl _) ?_
        simp only [go_sem, he, setD_some]
        refine ⟨?_, _, rfl⟩
        rw [← hfold]
        exact rfl
    · have hc := of_decide_eq_false hc
      have hi : i = ats.length := by omega
      rw [hi, List.drop_length, foldE] at hfold
      simp only [go_sem, he, g3, g9, g10, g70, g71, g72]
      refine condK_of (fun hq => ?_) fun hq => ?_
      · have hq : o.set = false := by simpa using hq
        simp only [go_sem, he, g3, g9, g10, g70, g71, g72]
        refine callX_of (errorsNew_A _ _) (List.prefix_refl _) ?_
        simp only [go_sem, he, setD_some]
        refine ⟨?_, _, rfl⟩
        rw [← hfold]
        rw [show opEnd (.ok o) = .error 157 by simp [opEnd, hq]]
        exact rfl
      · have hq : o.set = true := by simpa using hq
        simp only [go_sem, he, g3, g9, g10, g70, g71, g72]
        refine ⟨?_, _, rfl⟩
        rw [← hfold]
        rw [show opEnd (.ok o) = .ok o by simp [opEnd, hq]]
        exact ⟨p, x, rfl, hp, by omega, hx⟩

theorem zUTC_A {w0 : World} (H : Heap) : ACalls Tryz.prog (CB w0) 58 [] H fun r H' => r = .agg [] ∧ H' = H := by
  refine ACalls.flat rfl ?_
  refine A_fun (N := 2) (rs := [.cell 0 109]) Tryz.func58 rfl rfl rfl (by kernel_rfl) (by kernel_rfl) (Nat.le_of_ble_eq_true rfl) ?_
  rintro e he -
  simp only [go_sem, he]
  exact ⟨_, rfl⟩
theorem zIsZero_A {w0 : World} (t n : Int) (H : Heap) : ACalls Tryz.prog (CB w0) 59 [.agg [vI t, vI n]] H fun r H' => r = vB (decide (t = 0) && decide (n = 0)) ∧ H' = H := by
  refine ACalls.flat rfl ?_
  refine A_fun (N := 11) (rs := [.tmp 2]) Tryz.func59 rfl rfl rfl (by kernel_rfl) (by kernel_rfl) (Nat.le_of_ble_eq_true rfl) ?_
  rintro e he ⟨g0, -⟩
  by_cases h : t = 0
  · have d := decide_eq_true h
    simp only [go_sem, he, g0, d, Bool.true_and]
    exact ⟨_, rfl⟩
  · have d := decide_eq_false h
    simp only [go_sem, he, g0, d, Bool.false_and]
    exact ⟨_, rfl⟩
theorem zSeconds_A {w0 : World} (t n : Int) (H : Heap) : ACalls Tryz.prog (CB w0) 60 [.agg [vI t, vI n]] H fun r H' => r = vI t ∧ H' = H := by
  refine ACalls.flat rfl ?_
  refine A_fun (N := 5) (rs := [.tmp 2]) Tryz.func60 rfl rfl rfl (by kernel_rfl) (by kernel_rfl) (Nat.le_of_ble_eq_true rfl) ?_
  rintro e he ⟨g0, -⟩
  simp only [go_sem, he, g0]
  exact ⟨_, rfl⟩
theorem wdDay_A {w0 : World} (p off : Nat) (cs : List AV) (a : Int) (H : Heap) (hp : cellsK H[p]? = some cs) (ha : cs[off]? = some (vI a)) : ACalls Tryz.prog (CB w0) 61 [.ptr p off] H fun r H' => r = vI a ∧ H' = H := by
  refine A_fun (N := 7) (rs := [.tmp 2]) Tryz.func61 rfl rfl rfl (by kernel_rfl) (by kernel_rfl) (Nat.le_of_ble_eq_true rfl) ?_
  rintro e he ⟨g0, -⟩
  simp only [go_sem, he, g0, nilA, hp, ha]
theorem wdN_A {w0 : World} (p off : Nat) (cs : List AV) (a : Int) (H : Heap) (hp : cellsK H[p]? = some cs) (ha : cs[off + 1]? = some (vI a)) : ACalls Tryz.prog (CB w0) 62 [.ptr p off] H fun r H' => r = vI a ∧ H' = H := by
  refine A_fun (N := 7) (rs := [.tmp 2]) Tryz.func62 rfl rfl rfl (by kernel_rfl) (by kernel_rfl) (Nat.le_of_ble_eq_true rfl) ?_
  rintro e he ⟨g0, -⟩
  simp only [go_sem, he, g0, nilA, hp, ha]
/-- The cells of weekdays with their numbers. -/
def dcells (l : List (Int × Int)) : List AV := l.flatMap fun d => [vI d.1, vI d.2]
theorem dcells_len : ∀ l : List (Int × Int), (dcells l).length = l.length * 2
  | [] => rfl
  | d :: l => by simp only [dcells, List.flatMap_cons, List.length_append, List.length_cons, List.length_nil]; have := dcells_len l; unfold dcells at this; omega
theorem dcells_snoc (l : List (Int × Int)) (d : Int × Int) : dcells (l ++ [d]) = dcells l ++ [vI d.1, vI d.2] := by simp [dcells]
theorem dcells_one (l : List (Int × Int)) : (dcells l).all AV.one = true := by
  rw [List.all_eq_true]
  intro x hx
  simp only [dcells, List.mem_flatMap, List.mem_cons, List.not_mem_nil, or_false] at hx
  obtain ⟨d, _, rfl | rfl⟩ := hx <;> rfl
/-- A slice of weekdays of the call's own, or none. -/
def DaysO (t : TypeId) (h : Heap) (x : AV) (l : List (Int × Int)) : Prop := (x = vNil ∧ l = []) ∨ ∃ q, x = .sl true q 0 l.length 2 ∧ h[q]? = some (.own t (dcells l))
theorem DaysO.one {t : TypeId} {h : Heap} {x : AV} {l : List (Int × Int)} (hx : DaysO t h x l) : x.one = true := by rcases hx with ⟨rfl, _⟩ | ⟨q, rfl, _⟩ <;> rfl
theorem DaysO.more {t : TypeId} {h : Heap} {x : AV} {l : List (Int × Int)} (hx : DaysO t h x l) (G : Heap) : DaysO t (h ++ G) x l := by
  rcases hx with hx | ⟨q, h1, h2⟩
  · exact .inl hx
  · exact .inr ⟨q, h1, get_more h2⟩
structure RuOwn (h : Heap) (r : Ru) (x : Rs) : Prop where
  setPos : IntsOwn h x.setPos r.setPos
  month : IntsOwn h x.month r.month
  monthDay : IntsOwn h x.monthDay r.monthDay
  yearDay : IntsOwn h x.yearDay r.yearDay
  weekNo : IntsOwn h x.weekNo r.weekNo
  hour : IntsOwn h x.hour r.hour
  minute : IntsOwn h x.minute r.minute
  second : IntsOwn h x.second r.second
  easter : IntsOwn h x.easter r.easter
  day : DaysO 52 h x.day r.day
def ruOf (o : Op) : Ru := ⟨(o.freq % 256).toNat, !decide (o.dt = 0), o.dt, o.interval, o.wkst.1, o.count, !decide (o.til = 0), o.til, o.pos, o.month, o.mday, o.yday, o.weekno, o.day, o.hour, o.minute, o.second, o.easter⟩
theorem wrapU8 (n : Int) : IntKind.wrap .u8 n = ((n % 256).toNat : Int) := by
  have hb : (IntKind.u8).bits = 8 := rfl
  have hs : (IntKind.u8).signed = false := rfl
  unfold IntKind.wrap
  rw [hb, hs]
  simp only [Bool.false_and, Bool.false_eq_true, if_false]
  have : (0 : Int) ≤ n % 256 := Int.emod_nonneg _ (by omega)
  show n % 256 = _
  omega
theorem DaysOwn.get {h : Heap} {x : AV} {l : List (Int × Int)} (hx : DaysOwn h x l) {i : Nat} (hi : i < l.length) : ∃ q cs, x = .sl true q 0 l.length 2 ∧ cellsK h[q]? = some cs ∧ i * 2 + 2 ≤ cs.length ∧ (cs.drop (i * 2)).take 2 = [vI (l.getD i (0, 0)).1, vI (l.getD i (0, 0)).2] := by
  rcases hx with ⟨_, rfl⟩ | ⟨q, cs, h1, h2, h3⟩
  · simp at hi
  · have e1 := h3 (i * 2) (by omega)
    have e2 := h3 (i * 2 + 1) (by omega)
    unfold dayCell at e1 e2
    rw [if_pos (by omega), show i * 2 / 2 = i by omega] at e1
    rw [if_neg (by omega), show (i * 2 + 1) / 2 = i by omega] at e2
    have := take_two e1 e2
    exact ⟨q, cs, h1, by rw [h2]; rfl, this.1, this.2⟩
theorem DaysOwn.len {h : Heap} {x : AV} {l : List (Int × Int)} (hx : DaysOwn h x l) (e : TypeId) : lenK (some (.slice e)) x = some (vI l.length) := by
  rcases hx with ⟨rfl, rfl⟩ | ⟨q, cs, rfl, _⟩ <;> rfl
theorem IntsOwn.putT {h : Heap} {x : AV} {l : List Int} (hx : IntsOwn h x l) {p t : Nat} {cs : List AV} (hp : h[p]? = some (.own t cs)) (ht : t ≠ 3) (y : AObj) : IntsOwn (h.set p y) x l := by
  rcases hx with hx | ⟨q, h1, h2⟩
  · exact .inl hx
  · refine .inr ⟨q, h1, ?_⟩
    have : p ≠ q := by rintro rfl; rw [hp] at h2; simp at h2; exact ht h2.1
    rw [List.getElem?_set_ne this]; exact h2
theorem DaysOwn.putT {h : Heap} {x : AV} {l : List (Int × Int)} (hx : DaysOwn h x l) {p t : Nat} {cs : List AV} (hp : h[p]? = some (.own t cs)) (ht : t ≠ 84) (y : AObj) : DaysOwn (h.set p y) x l := by
  rcases hx with hx | ⟨q, cs', h1, h2, h3⟩
  · exact .inl hx
  · refine .inr ⟨q, cs', h1, ?_, h3⟩
    have : p ≠ q := by rintro rfl; rw [hp] at h2; simp at h2; exact ht h2.1
    rw [List.getElem?_set_ne this]; exact h2
theorem OpAt.putT {h : Heap} {o : Op} {x : Os} (hx : OpAt h o x) {p t : Nat} {cs : List AV} (hp : h[p]? = some (.own t cs)) (ht : t ≠ 3) (ht' : t ≠ 84) (y : AObj) : OpAt (h.set p y) o x :=
  ⟨hx.pos.putT hp ht y, hx.month.putT hp ht y, hx.mday.putT hp ht y, hx.yday.putT hp ht y, hx.weekno.putT hp ht y, hx.hour.putT hp ht y, hx.minute.putT hp ht y, hx.second.putT hp ht y, hx.easter.putT hp ht y, hx.day.putT hp ht' y⟩
/-- A slice of weekdays that grows, behind objects that stay. -/
def DaysB (t : TypeId) (B : Nat) (h : Heap) (x : AV) (l : List (Int × Int)) : Prop := (x = vNil ∧ l = []) ∨ ∃ q, B ≤ q ∧ x = .sl true q 0 l.length 2 ∧ h[q]? = some (.own t (dcells l))
theorem DaysB.own {t : TypeId} {B : Nat} {h : Heap} {x : AV} {l : List (Int × Int)} (hx : DaysB t B h x l) : DaysO t h x l := by
  rcases hx with hx | ⟨q, _, h1, h2⟩
  · exact .inl hx
  · exact .inr ⟨q, h1, h2⟩
theorem DaysB.one {t : TypeId} {B : Nat} {h : Heap} {x : AV} {l : List (Int × Int)} (hx : DaysB t B h x l) : x.one = true := hx.own.one
theorem DaysB.more {t : TypeId} {B : Nat} {h : Heap} {x : AV} {l : List (Int × Int)} (hx : DaysB t B h x l) (G : Heap) : DaysB t B (h ++ G) x l := by
  rcases hx with hx | ⟨q, h0, h1, h2⟩
  · exact .inl hx
  · exact .inr ⟨q, h0, h1, get_more h2⟩
theorem DaysB.push {ts t : TypeId} {zs : List Value} (hel : el Tryz.prog ts = some (t, 2, 16, zs)) {H h : Heap} {x : AV} {l : List (Int × Int)} (hx : DaysB t H.length h x l) (hG : ∃ G, h = H ++ G) (d : Int × Int) (hl : l.length ≤ 10000000) : ∃ x' h', appendA Tryz.prog ts x (.sl true h.length 0 1 2) (h ++ [AObj.own t [vI d.1, vI d.2]]) = some (x', h') ∧ DaysB t H.length h' x' (l ++ [d]) ∧ (∃ G, h' = H ++ G) ∧ (∀ (p : Nat) (y : AObj), h[p]? = some y → (∀ cs, y ≠ AObj.own t cs) → h'[p]? = some y) := by
  obtain ⟨G, rfl⟩ := hG
  have h1 : cellsOf ((H ++ G) ++ [AObj.own t [vI d.1, vI d.2]]) (H ++ G).length = some [vI d.1, vI d.2] := by unfold cellsOf; rw [heap_get0]; rfl
  rcases hx with ⟨rfl, rfl⟩ | ⟨q, hq, rfl, h2⟩
  · refine ⟨.sl true ((H ++ G) ++ [AObj.own t [vI d.1, vI d.2]]).length 0 1 2, ((H ++ G) ++ [AObj.own t [vI d.1, vI d.2]]) ++ [.own t [vI d.1, vI d.2]], ?_, .inr ⟨_, ?_, rfl, ?_⟩, ⟨G ++ [AObj.own t [vI d.1, vI d.2]] ++ [.own t [vI d.1, vI d.2]], by simp only [List.append_assoc]⟩, fun p y hp _ => get_more (get_more hp)⟩
    · unfold appendA
      rw [hel]
      simp only [h1]
      rw [if_pos ⟨by simp, trivial, by rfl⟩]
      rfl
    · simp only [List.length_append]; omega
    · rw [heap_get0]; rfl
  · have hlt : q < (H ++ G).length := (List.getElem?_eq_some_iff.1 h2).1
    refine ⟨.sl true ((H ++ G) ++ [AObj.own t [vI d.1, vI d.2]]).length 0 (l.length + 1) 2, (((H ++ G) ++ [AObj.own t [vI d.1, vI d.2]]).set q .gone) ++ [AObj.own t (dcells l ++ [vI d.1, vI d.2])], ?_, .inr ⟨_, ?_, by rw [show (l ++ [d]).length = l.length + 1 by simp], ?_⟩, ?_, ?_⟩
    · have h3 : ((H ++ G) ++ [AObj.own t [vI d.1, vI d.2]])[q]? = some (.own t (dcells l)) := get_more h2
      have hdl := dcells_len l
      unfold appendA
      rw [hel]
      simp only [h1, h3]
      rw [if_pos ⟨by simp, trivial, by rfl⟩, if_pos ⟨trivial, trivial, by omega, by omega, by omega⟩]
      simp only [List.drop_zero]
      rw [List.take_of_length_le (l := dcells l) (by omega), List.take_of_length_le (by simp)]
    · simp only [List.length_append]; omega
    · have : (((H ++ G) ++ [AObj.own t [vI d.1, vI d.2]]).set q .gone).length = ((H ++ G) ++ [AObj.own t [vI d.1, vI d.2]]).length := List.length_set
      rw [← this, heap_get0, dcells_snoc]
      rfl
    · exact ⟨_, by rw [List.append_assoc, set_behind hq, List.append_assoc]⟩
    · intro p y hp hy
      have hpo : q ≠ p := by
        rintro rfl
        rw [h2] at hp
        exact hy _ (Option.some.inj hp).symm
      have hpl : p < (H ++ G).length := (List.getElem?_eq_some_iff.1 hp).1
      rw [get_less (by simp only [List.length_set, List.length_append, List.length_cons, List.length_nil] at hpl ⊢; omega), List.getElem?_set_ne hpo, get_less hpl]
      exact hp
theorem DaysO.putT {t : TypeId} {h : Heap} {x : AV} {l : List (Int × Int)} (hx : DaysO t h x l) {p t' : Nat} {cs : List AV} (hp : h[p]? = some (.own t' cs)) (ht : t' ≠ t) (y : AObj) : DaysO t (h.set p y) x l := by
  rcases hx with hx | ⟨q, h1, h2⟩
  · exact .inl hx
  · refine .inr ⟨q, h1, ?_⟩
    have : p ≠ q := by rintro rfl; rw [hp] at h2; simp at h2; exact ht h2.1
    rw [List.getElem?_set_ne this]; exact h2
theorem DaysB.putT {t B : Nat} {h : Heap} {x : AV} {l : List (Int × Int)} (hx : DaysB t B h x l) {p t' : Nat} {cs : List AV} (hp : h[p]? = some (.own t' cs)) (ht : t' ≠ t) (y : AObj) : DaysB t B (h.set p y) x l := by
  rcases hx with hx | ⟨q, h0, h1, h2⟩
  · exact .inl hx
  · refine .inr ⟨q, h0, h1, ?_⟩
    have : p ≠ q := by rintro rfl; rw [hp] at h2; simp at h2; exact ht h2.1
    rw [List.getElem?_set_ne this]; exact h2
/-- Objects of all types but one are kept. -/
def Keeps (t : TypeId) (h h' : Heap) : Prop := ∀ (p : Nat) (y : AObj), h[p]? = some y → (∀ cs, y ≠ AObj.own t cs) → h'[p]? = some y
theorem IntsOwn.keep {h h' : Heap} {x : AV} {l : List Int} (hx : IntsOwn h x l) {t : TypeId} (hk : Keeps t h h') (ht : t ≠ 3) : IntsOwn h' x l := by
  rcases hx with hx | ⟨q, h1, h2⟩
  · exact .inl hx
  · exact .inr ⟨q, h1, hk q _ h2 fun cs e => by cases e; exact ht rfl⟩
theorem DaysOwn.keep {h h' : Heap} {x : AV} {l : List (Int × Int)} (hx : DaysOwn h x l) {t : TypeId} (hk : Keeps t h h') (ht : t ≠ 84) : DaysOwn h' x l := by
  rcases hx with hx | ⟨q, cs, h1, h2, h3⟩
  · exact .inl hx
  · exact .inr ⟨q, cs, h1, hk q _ h2 (fun cs e => by cases e; exact ht rfl), h3⟩
theorem OpAt.keep {h h' : Heap} {o : Op} {x : Os} (hx : OpAt h o x) {t : TypeId} (hk : Keeps t h h') (h1 : t ≠ 3) (h2 : t ≠ 84) : OpAt h' o x :=
  ⟨hx.pos.keep hk h1, hx.month.keep hk h1, hx.mday.keep hk h1, hx.yday.keep hk h1, hx.weekno.keep hk h1, hx.hour.keep hk h1, hx.minute.keep hk h1, hx.second.keep hk h1, hx.easter.keep hk h1, hx.day.keep hk h2⟩
theorem two_front {H G : Heap} {a b : AObj} (h1 : (H ++ G)[H.length]? = some a) (h2 : (H ++ G)[H.length + 1]? = some b) : ∃ G', G = a :: b :: G' := by
  rw [heap_get0] at h1
  rw [heap_get] at h2
  match G, h1, h2 with
  | x :: y :: G', h1, h2 =>
    simp at h1 h2
    exact ⟨G', by rw [h1, h2]⟩
set_option maxHeartbeats 2000000 in
theorem implRule_A {w0 : World} (p : Nat) (o : Op) (x : Os) (hl : o.day.length ≤ 1000000) (H : Heap) (hp : H[p]? = some (.own 102 (opCells o x))) (hx : OpAt H o x) : ACalls Tryz.prog (CB w0) 33 [.ptr p 0] H fun r H' => (∃ y, r = .agg (ruCells (ruOf o) y) ∧ RuOwn H' (ruOf o) y) ∧ ∃ G, H' = H ++ G := by
  refine A_fun (N := 101) (rs := [.cell 2 34]) Tryz.func33 rfl rfl rfl (by kernel_rfl) (by kernel_rfl) (Nat.le_of_ble_eq_true rfl) ?_
  rintro e he ⟨g0, -⟩
  have hB : ∀ G, (H ++ G)[p]? = some (.own 102 (opCells o x)) := fun G => get_more hp
  unfold opCells at hB
  have c1 : ∀ a : Int, convV Tryz.prog 80 5 (vI a) = some (.val (.int .u8 ((a % 256).toNat : Int))) := fun a => by rw [conv_int (P := Tryz.prog) (s := 80) (d := 5) Tryz.underlying80 Tryz.underlying5, wrapU8]
  simp only [go_sem, he, g0, nilA, hB, c1]
  refine acode_drawQ [59, 60, 61] mixed (by kernel_rfl) ?_
  simp only [go_sem, he, g0, nilA, hB, c1]
  refine callX_quiet (fun _ => zIsZero_A _ _ _) ?_
  simp only [go_sem, he, g0, nilA, hB, c1, setD_some]
  refine callX_quiet (fun _ => zSeconds_A _ _ _) ?_
  simp only [go_sem, he, g0, nilA, hB, c1, setD_some]
  refine callX_quiet (fun _ => wdDay_A p 4 _ o.wkst.1 _ (by rw [List.append_assoc, hB]; exact cellsK_own) rfl) ?_
  simp only [go_sem, he, g0, nilA, hB, c1, setD_some]
  refine callX_quiet (fun _ => zIsZero_A _ _ _) ?_
  simp only [go_sem, he, g0, nilA, hB, c1, setD_some]
  refine callX_quiet (fun _ => zSeconds_A _ _ _) ?_
  have hdl := hx.day.len 84
  simp only [go_sem, he, g0, nilA, hB, c1, setD_some, avCells_one hx.pos.one, avCells_one hx.month.one, avCells_one hx.mday.one, avCells_one hx.yday.one, avCells_one hx.weekno.one, avCells_one hx.hour.one, avCells_one hx.minute.one, avCells_one hx.second.one, avCells_one hx.easter.one, hx.pos.one, hx.month.one, hx.mday.one, hx.yday.one, hx.weekno.one, hx.hour.one, hx.minute.one, hx.second.one, hx.easter.one, hdl]
  refine A_while o.day.length (fun k e h => ∃ (i : Nat) (y : AV) (z : List AV), i + k = o.day.length ∧ len e = 101 ∧ AL.get e 2 = .ptr H.length 0 ∧ AL.get e 3 = .ptr (H.length + 1) 0 ∧ AL.get e 85 = x.day ∧ AL.get e 86 = vI o.day.length ∧ AL.get e 87 = vI i ∧ (∃ G, h = H ++ G) ∧ OpAt h o x ∧ DaysB 52 H.length h y (o.day.take i) ∧ h[H.length]? = some (.own 34 z) ∧ z.length = 18 ∧ h[H.length + 1]? = some (.own 34 (ruCells (ruOf o) ⟨x.pos, x.month, x.mday, x.yday, x.weekno, y, x.hour, x.minute, x.second, x.easter⟩))) (by kernel_rfl) ?_ ?_
  · simp only [go_sem, he, g0]
    exact ⟨0, vNil, _, by omega, rfl, ⟨_, rfl⟩, hx.more _, .inl ⟨rfl, rfl⟩, rfl, rfl, rfl⟩
  · rintro k e h ⟨i, y, z, hik, he, g2, g3, g85, g86, g87, hG, hx, hy, hz, hzl, hr⟩
    simp only [go_sem, he, g2, g3, g85, g86, g87]
    refine condK_of (fun hc => ?_) fun hc => ?_
    · have hc := of_decide_eq_true hc
      have hi : i < o.day.length := by omega
      obtain ⟨q, cs, e1, e2, e3, e4⟩ := hx.day.get hi
      rw [e1] at g85
      simp only [go_sem, he, g2, g3, g85, g86, g87, e2, e3, e4, Int.toNat_natCast]
      refine ⟨by omega, ?_⟩
      refine acode_drawQ [61, 62] mixed (by kernel_rfl) ?_
      have hr' := get_more (G := [AObj.own 84 [vI (o.day.getD i (0, 0)).1, vI (o.day.getD i (0, 0)).2]]) hr
      unfold ruCells at hr'
      simp only [go_sem, he, g2, g3, g85, g86, g87, hr']
      have hnew : ∀ G, ((h ++ [AObj.own 84 [vI (o.day.getD i (0, 0)).1, vI (o.day.getD i (0, 0)).2]]) ++ G)[h.length]? = some (AObj.own 84 [vI (o.day.getD i (0, 0)).1, vI (o.day.getD i (0, 0)).2]) := fun G => by rw [List.append_assoc]; exact heap_get0
      refine callX_quiet (fun G => wdDay_A h.length 0 _ (o.day.getD i (0, 0)).1 _ (by rw [hnew]; exact cellsK_own) rfl) ?_
      simp only [go_sem, he, g2, g3, g85, g86, g87, hr', setD_some]
      refine callX_quiet (fun G => wdN_A h.length 0 _ (o.day.getD i (0, 0)).2 _ (by rw [hnew]; exact cellsK_own) rfl) ?_
      have hpush := (hy.more [AObj.own 84 [vI (o.day.getD i (0, 0)).1, vI (o.day.getD i (0, 0)).2]]).push el32 (by obtain ⟨G, rfl⟩ := hG; exact ⟨_, List.append_assoc _ _ _⟩) (o.day.getD i (0, 0)) (by rw [List.length_take]; omega)
      obtain ⟨x', h', ha, hy', hG', hkeep⟩ := hpush
      have htk : o.day.take (i + 1) = o.day.take i ++ [o.day.getD i (0, 0)] := by rw [List.take_add_one, List.getD_eq_getElem?_getD, List.getElem?_eq_getElem hi]; rfl
      rw [← htk] at hy'
      simp only [go_sem, he, g2, g3, g85, g86, g87, hr', setD_some] at ha ⊢
      rw [ha]
      have hr2 := hkeep _ _ hr' (by intro cs; simp)
      have wi : IntKind.i64.wrap ((i : Int) + 1) = ((i + 1 : Nat) : Int) := by rw [wI64 (by omega)]; rfl
      simp only [go_sem, he, g2, g3, g85, g86, g87, hr2, setD_some, avCells_one hy'.one, wi]
      have hx' := (hx.more [AObj.own 84 [vI (o.day.getD i (0, 0)).1, vI (o.day.getD i (0, 0)).2]]).keep hkeep (by decide) (by decide)
      have hz' := hkeep _ _ (get_more (G := [AObj.own 84 [vI (o.day.getD i (0, 0)).1, vI (o.day.getD i (0, 0)).2]]) hz) (by intro cs; simp)
      obtain ⟨G', rfl⟩ := hG'
      refine ⟨k - 1, by omega, i + 1, x', z, by omega, e1.symm, rfl, ⟨_, set_behind (by omega)⟩, hx'.putT hr2 (by decide) (by decide) _, hy'.putT hr2 (by decide) _, ?_, hzl, ?_⟩
      · rw [List.getElem?_set_ne (by omega)]; exact hz'
      · rw [List.getElem?_set_self (List.getElem?_eq_some_iff.1 hr2).1]; rfl
    · have hc := of_decide_eq_false hc
      have hi : i = o.day.length := by omega
      rw [hi, List.take_length] at hy
      obtain ⟨G, rfl⟩ := hG
      obtain ⟨G', rfl⟩ := two_front hz hr
      have hz18 : z.drop 18 = [] := List.drop_eq_nil_of_le (by omega)
      simp only [ruCells, go_sem, he, g2, g3, g85, g86, g87, Bool.true_and, hx.pos.one, hx.month.one, hx.mday.one, hx.yday.one, hx.weekno.one, hx.hour.one, hx.minute.one, hx.second.one, hx.easter.one, hy.one, hzl, hz18]
      have hx2 := hx.putT (y := .own 34 (ruCells (ruOf o) ⟨x.pos, x.month, x.mday, x.yday, x.weekno, y, x.hour, x.minute, x.second, x.easter⟩)) hz (by decide) (by decide)
      rw [heap_set0, List.set_cons_zero] at hx2
      refine ⟨⟨⟨x.pos, x.month, x.mday, x.yday, x.weekno, y, x.hour, x.minute, x.second, x.easter⟩, rfl, ⟨hx2.pos, hx2.month, hx2.mday, hx2.yday, hx2.weekno, hx2.hour, hx2.minute, hx2.second, hx2.easter, ?_⟩⟩, _, rfl⟩
      have hy2 := hy.own.putT (y := .own 34 (ruCells (ruOf o) ⟨x.pos, x.month, x.mday, x.yday, x.weekno, y, x.hour, x.minute, x.second, x.easter⟩)) hz (by decide)
      rw [heap_set0, List.set_cons_zero] at hy2
      exact hy2
end Go.Proofs.YtlfpjdcogkcjlaaGreatDoor.F
