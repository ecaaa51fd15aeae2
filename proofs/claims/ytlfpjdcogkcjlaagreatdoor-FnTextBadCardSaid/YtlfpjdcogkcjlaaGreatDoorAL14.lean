/-
  What the program's types say, as equations.
-/
import Derived.Test.YtlfpjdcogkcjlaaGreatDoorProg
import Derived.Test.YtlfpjdcogkcjlaaGreatDoorALS
namespace Go.Proofs.YtlfpjdcogkcjlaaGreatDoor.F
open Go.RowKit Go.Proofs.YtlfpjdcogkcjlaaGreatDoor.AL
set_option linter.unusedVariables false
theorem kd2 : kd Tryz.prog 2 = (some Kind.one) := by kernel_rfl
theorem sz2 : szA Tryz.prog 2 = some 1 := by kernel_rfl
theorem kd3 : kd Tryz.prog 3 = (some Kind.one) := by kernel_rfl
theorem sz3 : szA Tryz.prog 3 = some 1 := by kernel_rfl
theorem kd4 : kd Tryz.prog 4 = (some Kind.one) := by kernel_rfl
theorem sz4 : szA Tryz.prog 4 = some 1 := by kernel_rfl
theorem kd5 : kd Tryz.prog 5 = (some Kind.one) := by kernel_rfl
theorem sz5 : szA Tryz.prog 5 = some 1 := by kernel_rfl
theorem kd9 : kd Tryz.prog 9 = (some Kind.one) := by kernel_rfl
theorem sz9 : szA Tryz.prog 9 = some 1 := by kernel_rfl
theorem kd22 : kd Tryz.prog 22 = (some Kind.one) := by kernel_rfl
theorem sz22 : szA Tryz.prog 22 = some 1 := by kernel_rfl
theorem el22 : el Tryz.prog 22 = (some (3, (1, (8, ((Value.int IntKind.i64 0) :: []))))) := by kernel_rfl
theorem kd23 : kd Tryz.prog 23 = (some Kind.one) := by kernel_rfl
theorem sz23 : szA Tryz.prog 23 = some 1 := by kernel_rfl
theorem el23 : el Tryz.prog 23 = (some (47, (2, (16, ((Value.int IntKind.i64 0) :: ((Value.int IntKind.i64 0) :: [])))))) := by kernel_rfl
theorem kd25 : kd Tryz.prog 25 = (some (Kind.many 18)) := by kernel_rfl
theorem sz25 : szA Tryz.prog 25 = some 18 := by kernel_rfl
theorem zc25 : zc Tryz.prog 25 = (some ((Value.int IntKind.u8 0) :: ((Value.bool false) :: ((Value.int IntKind.i64 0) :: ((Value.int IntKind.i64 0) :: ((Value.int IntKind.i64 0) :: ((Value.int IntKind.i64 0) :: ((Value.bool false) :: ((Value.int IntKind.i64 0) :: ((Value.slice none 0 0) :: ((Value.slice none 0 0) :: ((Value.slice none 0 0) :: ((Value.slice none 0 0) :: ((Value.slice none 0 0) :: ((Value.slice none 0 0) :: ((Value.slice none 0 0) :: ((Value.slice none 0 0) :: ((Value.slice none 0 0) :: ((Value.slice none 0 0) :: []))))))))))))))))))) := by kernel_rfl
theorem fp25 : fp Tryz.prog 25 = (some ((0, 1) :: ((1, 1) :: ((2, 1) :: ((3, 1) :: ((4, 1) :: ((5, 1) :: ((6, 1) :: ((7, 1) :: ((8, 1) :: ((9, 1) :: ((10, 1) :: ((11, 1) :: ((12, 1) :: ((13, 1) :: ((14, 1) :: ((15, 1) :: ((16, 1) :: ((17, 1) :: []))))))))))))))))))) := by kernel_rfl
theorem fo25_0 : fo Tryz.prog 25 0 = (some 0) := by kernel_rfl
theorem fo25_1 : fo Tryz.prog 25 1 = (some 1) := by kernel_rfl
theorem fo25_2 : fo Tryz.prog 25 2 = (some 2) := by kernel_rfl
theorem fo25_3 : fo Tryz.prog 25 3 = (some 3) := by kernel_rfl
theorem fo25_4 : fo Tryz.prog 25 4 = (some 4) := by kernel_rfl
theorem fo25_5 : fo Tryz.prog 25 5 = (some 5) := by kernel_rfl
theorem fo25_6 : fo Tryz.prog 25 6 = (some 6) := by kernel_rfl
theorem fo25_7 : fo Tryz.prog 25 7 = (some 7) := by kernel_rfl
theorem fo25_8 : fo Tryz.prog 25 8 = (some 8) := by kernel_rfl
theorem fo25_9 : fo Tryz.prog 25 9 = (some 9) := by kernel_rfl
theorem fo25_10 : fo Tryz.prog 25 10 = (some 10) := by kernel_rfl
theorem fo25_11 : fo Tryz.prog 25 11 = (some 11) := by kernel_rfl
theorem fo25_12 : fo Tryz.prog 25 12 = (some 12) := by kernel_rfl
theorem fo25_13 : fo Tryz.prog 25 13 = (some 13) := by kernel_rfl
theorem fo25_14 : fo Tryz.prog 25 14 = (some 14) := by kernel_rfl
theorem fo25_15 : fo Tryz.prog 25 15 = (some 15) := by kernel_rfl
theorem fo25_16 : fo Tryz.prog 25 16 = (some 16) := by kernel_rfl
theorem fo25_17 : fo Tryz.prog 25 17 = (some 17) := by kernel_rfl
theorem kd31 : kd Tryz.prog 31 = (some (Kind.many 16)) := by kernel_rfl
theorem sz31 : szA Tryz.prog 31 = some 16 := by kernel_rfl
theorem zc31 : zc Tryz.prog 31 = (some ((Value.string (ByteArray.mk (List.toArray []))) :: ((Value.string (ByteArray.mk (List.toArray []))) :: ((Value.string (ByteArray.mk (List.toArray []))) :: ((Value.string (ByteArray.mk (List.toArray []))) :: ((Value.string (ByteArray.mk (List.toArray []))) :: ((Value.string (ByteArray.mk (List.toArray []))) :: ((Value.string (ByteArray.mk (List.toArray []))) :: ((Value.string (ByteArray.mk (List.toArray []))) :: ((Value.string (ByteArray.mk (List.toArray []))) :: ((Value.string (ByteArray.mk (List.toArray []))) :: ((Value.string (ByteArray.mk (List.toArray []))) :: ((Value.string (ByteArray.mk (List.toArray []))) :: ((Value.string (ByteArray.mk (List.toArray []))) :: ((Value.string (ByteArray.mk (List.toArray []))) :: ((Value.string (ByteArray.mk (List.toArray []))) :: ((Value.string (ByteArray.mk (List.toArray []))) :: []))))))))))))))))) := by kernel_rfl
theorem ar31 : ar Tryz.prog 31 = (some (16, 1)) := by kernel_rfl
theorem kd32 : kd Tryz.prog 32 = (some Kind.one) := by kernel_rfl
theorem sz32 : szA Tryz.prog 32 = some 1 := by kernel_rfl
theorem el32 : el Tryz.prog 32 = (some (52, (2, (16, ((Value.int IntKind.i64 0) :: ((Value.int IntKind.i64 0) :: [])))))) := by kernel_rfl
theorem kd34 : kd Tryz.prog 34 = (some (Kind.many 18)) := by kernel_rfl
theorem sz34 : szA Tryz.prog 34 = some 18 := by kernel_rfl
theorem zc34 : zc Tryz.prog 34 = (some ((Value.int IntKind.u8 0) :: ((Value.bool false) :: ((Value.int IntKind.i64 0) :: ((Value.int IntKind.i64 0) :: ((Value.int IntKind.i64 0) :: ((Value.int IntKind.i64 0) :: ((Value.bool false) :: ((Value.int IntKind.i64 0) :: ((Value.slice none 0 0) :: ((Value.slice none 0 0) :: ((Value.slice none 0 0) :: ((Value.slice none 0 0) :: ((Value.slice none 0 0) :: ((Value.slice none 0 0) :: ((Value.slice none 0 0) :: ((Value.slice none 0 0) :: ((Value.slice none 0 0) :: ((Value.slice none 0 0) :: []))))))))))))))))))) := by kernel_rfl
theorem fp34 : fp Tryz.prog 34 = (some ((0, 1) :: ((1, 1) :: ((2, 1) :: ((3, 1) :: ((4, 1) :: ((5, 1) :: ((6, 1) :: ((7, 1) :: ((8, 1) :: ((9, 1) :: ((10, 1) :: ((11, 1) :: ((12, 1) :: ((13, 1) :: ((14, 1) :: ((15, 1) :: ((16, 1) :: ((17, 1) :: []))))))))))))))))))) := by kernel_rfl
theorem fo34_0 : fo Tryz.prog 34 0 = (some 0) := by kernel_rfl
theorem fo34_1 : fo Tryz.prog 34 1 = (some 1) := by kernel_rfl
theorem fo34_2 : fo Tryz.prog 34 2 = (some 2) := by kernel_rfl
theorem fo34_3 : fo Tryz.prog 34 3 = (some 3) := by kernel_rfl
theorem fo34_4 : fo Tryz.prog 34 4 = (some 4) := by kernel_rfl
theorem fo34_5 : fo Tryz.prog 34 5 = (some 5) := by kernel_rfl
theorem fo34_6 : fo Tryz.prog 34 6 = (some 6) := by kernel_rfl
theorem fo34_7 : fo Tryz.prog 34 7 = (some 7) := by kernel_rfl
theorem fo34_8 : fo Tryz.prog 34 8 = (some 8) := by kernel_rfl
theorem fo34_9 : fo Tryz.prog 34 9 = (some 9) := by kernel_rfl
theorem fo34_10 : fo Tryz.prog 34 10 = (some 10) := by kernel_rfl
theorem fo34_11 : fo Tryz.prog 34 11 = (some 11) := by kernel_rfl
theorem fo34_12 : fo Tryz.prog 34 12 = (some 12) := by kernel_rfl
theorem fo34_13 : fo Tryz.prog 34 13 = (some 13) := by kernel_rfl
theorem fo34_14 : fo Tryz.prog 34 14 = (some 14) := by kernel_rfl
theorem fo34_15 : fo Tryz.prog 34 15 = (some 15) := by kernel_rfl
theorem fo34_16 : fo Tryz.prog 34 16 = (some 16) := by kernel_rfl
theorem fo34_17 : fo Tryz.prog 34 17 = (some 17) := by kernel_rfl
theorem el38 : el Tryz.prog 38 = (some (5, (1, (1, ((Value.int IntKind.u8 0) :: []))))) := by kernel_rfl
theorem el42 : el Tryz.prog 42 = (some (9, (1, (16, ((Value.string (ByteArray.mk (List.toArray []))) :: []))))) := by kernel_rfl
theorem kd47 : kd Tryz.prog 47 = (some (Kind.many 2)) := by kernel_rfl
theorem sz47 : szA Tryz.prog 47 = some 2 := by kernel_rfl
theorem zc47 : zc Tryz.prog 47 = (some ((Value.int IntKind.i64 0) :: ((Value.int IntKind.i64 0) :: []))) := by kernel_rfl
theorem fp47 : fp Tryz.prog 47 = (some ((0, 1) :: ((1, 1) :: []))) := by kernel_rfl
theorem fo47_0 : fo Tryz.prog 47 0 = (some 0) := by kernel_rfl
theorem fo47_1 : fo Tryz.prog 47 1 = (some 1) := by kernel_rfl
theorem kd52 : kd Tryz.prog 52 = (some (Kind.many 2)) := by kernel_rfl
theorem sz52 : szA Tryz.prog 52 = some 2 := by kernel_rfl
theorem zc52 : zc Tryz.prog 52 = (some ((Value.int IntKind.i64 0) :: ((Value.int IntKind.i64 0) :: []))) := by kernel_rfl
theorem fo52_0 : fo Tryz.prog 52 0 = (some 0) := by kernel_rfl
theorem el55 : el Tryz.prog 55 = (some (2, (1, (8, ((Value.int IntKind.i64 0) :: []))))) := by kernel_rfl
theorem zc60 : zc Tryz.prog 60 = (some ((Value.string (ByteArray.mk (List.toArray []))) :: ((Value.string (ByteArray.mk (List.toArray []))) :: ((Value.string (ByteArray.mk (List.toArray []))) :: ((Value.string (ByteArray.mk (List.toArray []))) :: ((Value.string (ByteArray.mk (List.toArray []))) :: ((Value.string (ByteArray.mk (List.toArray []))) :: []))))))) := by kernel_rfl
theorem kd72 : kd Tryz.prog 72 = (some (Kind.many 2)) := by kernel_rfl
theorem sz72 : szA Tryz.prog 72 = some 2 := by kernel_rfl
theorem zc72 : zc Tryz.prog 72 = (some ((Value.string (ByteArray.mk (List.toArray []))) :: ((Value.slice none 0 0) :: []))) := by kernel_rfl
theorem fp72 : fp Tryz.prog 72 = (some ((0, 1) :: ((1, 1) :: []))) := by kernel_rfl
theorem fo72_0 : fo Tryz.prog 72 0 = (some 0) := by kernel_rfl
theorem fo72_1 : fo Tryz.prog 72 1 = (some 1) := by kernel_rfl
theorem el73 : el Tryz.prog 73 = (some (72, (2, (40, ((Value.string (ByteArray.mk (List.toArray []))) :: ((Value.slice none 0 0) :: [])))))) := by kernel_rfl
theorem isStrMap76 : isStrMap Tryz.prog 76 = (some 4) := by kernel_rfl
theorem zv4 : zv Tryz.prog 4 = (some (Value.bool false)) := by kernel_rfl
theorem kd80 : kd Tryz.prog 80 = (some Kind.one) := by kernel_rfl
theorem sz80 : szA Tryz.prog 80 = some 1 := by kernel_rfl
theorem kd84 : kd Tryz.prog 84 = (some (Kind.many 2)) := by kernel_rfl
theorem sz84 : szA Tryz.prog 84 = some 2 := by kernel_rfl
theorem zc84 : zc Tryz.prog 84 = (some ((Value.int IntKind.i64 0) :: ((Value.int IntKind.i64 0) :: []))) := by kernel_rfl
theorem fp84 : fp Tryz.prog 84 = (some ((0, 1) :: ((1, 1) :: []))) := by kernel_rfl
theorem fo84_0 : fo Tryz.prog 84 0 = (some 0) := by kernel_rfl
theorem fo84_1 : fo Tryz.prog 84 1 = (some 1) := by kernel_rfl
theorem kd88 : kd Tryz.prog 88 = (some (Kind.many 4)) := by kernel_rfl
theorem sz88 : szA Tryz.prog 88 = some 4 := by kernel_rfl
theorem zc88 : zc Tryz.prog 88 = (some ((Value.int IntKind.i64 0) :: ((Value.int IntKind.i64 0) :: ((Value.int IntKind.i64 0) :: ((Value.int IntKind.i64 0) :: []))))) := by kernel_rfl
theorem fp88 : fp Tryz.prog 88 = (some ((0, 1) :: ((1, 1) :: ((2, 1) :: ((3, 1) :: []))))) := by kernel_rfl
theorem fo88_0 : fo Tryz.prog 88 0 = (some 0) := by kernel_rfl
theorem fo88_1 : fo Tryz.prog 88 1 = (some 1) := by kernel_rfl
theorem fo88_2 : fo Tryz.prog 88 2 = (some 2) := by kernel_rfl
theorem fo88_3 : fo Tryz.prog 88 3 = (some 3) := by kernel_rfl
theorem kd91 : kd Tryz.prog 91 = (some (Kind.many 3)) := by kernel_rfl
theorem sz91 : szA Tryz.prog 91 = some 3 := by kernel_rfl
theorem zc91 : zc Tryz.prog 91 = (some ((Value.int IntKind.i64 0) :: ((Value.int IntKind.i64 0) :: ((Value.int IntKind.i64 0) :: [])))) := by kernel_rfl
theorem fp91 : fp Tryz.prog 91 = (some ((0, 1) :: ((1, 1) :: ((2, 1) :: [])))) := by kernel_rfl
theorem fo91_0 : fo Tryz.prog 91 0 = (some 0) := by kernel_rfl
theorem fo91_1 : fo Tryz.prog 91 1 = (some 1) := by kernel_rfl
theorem fo91_2 : fo Tryz.prog 91 2 = (some 2) := by kernel_rfl
theorem el94 : el Tryz.prog 94 = (some (99, (2, (16, ((Value.int IntKind.i64 0) :: ((Value.int IntKind.i64 0) :: [])))))) := by kernel_rfl
theorem kd99 : kd Tryz.prog 99 = (some (Kind.many 2)) := by kernel_rfl
theorem sz99 : szA Tryz.prog 99 = some 2 := by kernel_rfl
theorem zc99 : zc Tryz.prog 99 = (some ((Value.int IntKind.i64 0) :: ((Value.int IntKind.i64 0) :: []))) := by kernel_rfl
theorem fp99 : fp Tryz.prog 99 = (some ((0, 1) :: ((1, 1) :: []))) := by kernel_rfl
theorem fo99_0 : fo Tryz.prog 99 0 = (some 0) := by kernel_rfl
theorem fo99_1 : fo Tryz.prog 99 1 = (some 1) := by kernel_rfl
theorem kd100 : kd Tryz.prog 100 = (some Kind.one) := by kernel_rfl
theorem sz100 : szA Tryz.prog 100 = some 1 := by kernel_rfl
theorem el100 : el Tryz.prog 100 = (some (84, (2, (16, ((Value.int IntKind.i64 0) :: ((Value.int IntKind.i64 0) :: [])))))) := by kernel_rfl
theorem kd102 : kd Tryz.prog 102 = (some (Kind.many 19)) := by kernel_rfl
theorem sz102 : szA Tryz.prog 102 = some 19 := by kernel_rfl
theorem zc102 : zc Tryz.prog 102 = (some ((Value.int IntKind.i64 0) :: ((Value.int IntKind.i64 0) :: ((Value.int IntKind.i64 0) :: ((Value.int IntKind.i64 0) :: ((Value.int IntKind.i64 0) :: ((Value.int IntKind.i64 0) :: ((Value.int IntKind.i64 0) :: ((Value.int IntKind.i64 0) :: ((Value.int IntKind.i64 0) :: ((Value.slice none 0 0) :: ((Value.slice none 0 0) :: ((Value.slice none 0 0) :: ((Value.slice none 0 0) :: ((Value.slice none 0 0) :: ((Value.slice none 0 0) :: ((Value.slice none 0 0) :: ((Value.slice none 0 0) :: ((Value.slice none 0 0) :: ((Value.slice none 0 0) :: [])))))))))))))))))))) := by kernel_rfl
theorem fp102 : fp Tryz.prog 102 = (some ((0, 1) :: ((1, 2) :: ((3, 1) :: ((4, 2) :: ((6, 1) :: ((7, 2) :: ((9, 1) :: ((10, 1) :: ((11, 1) :: ((12, 1) :: ((13, 1) :: ((14, 1) :: ((15, 1) :: ((16, 1) :: ((17, 1) :: ((18, 1) :: []))))))))))))))))) := by kernel_rfl
theorem fo102_0 : fo Tryz.prog 102 0 = (some 0) := by kernel_rfl
theorem fo102_1 : fo Tryz.prog 102 1 = (some 1) := by kernel_rfl
theorem fo102_2 : fo Tryz.prog 102 2 = (some 3) := by kernel_rfl
theorem fo102_3 : fo Tryz.prog 102 3 = (some 4) := by kernel_rfl
theorem fo102_4 : fo Tryz.prog 102 4 = (some 6) := by kernel_rfl
theorem fo102_5 : fo Tryz.prog 102 5 = (some 7) := by kernel_rfl
theorem fo102_6 : fo Tryz.prog 102 6 = (some 9) := by kernel_rfl
theorem fo102_7 : fo Tryz.prog 102 7 = (some 10) := by kernel_rfl
theorem fo102_8 : fo Tryz.prog 102 8 = (some 11) := by kernel_rfl
theorem fo102_9 : fo Tryz.prog 102 9 = (some 12) := by kernel_rfl
theorem fo102_10 : fo Tryz.prog 102 10 = (some 13) := by kernel_rfl
theorem fo102_11 : fo Tryz.prog 102 11 = (some 14) := by kernel_rfl
theorem fo102_12 : fo Tryz.prog 102 12 = (some 15) := by kernel_rfl
theorem fo102_13 : fo Tryz.prog 102 13 = (some 16) := by kernel_rfl
theorem fo102_14 : fo Tryz.prog 102 14 = (some 17) := by kernel_rfl
theorem fo102_15 : fo Tryz.prog 102 15 = (some 18) := by kernel_rfl
theorem kd109 : kd Tryz.prog 109 = (some (Kind.many 0)) := by kernel_rfl
theorem sz109 : szA Tryz.prog 109 = some 0 := by kernel_rfl
theorem zc109 : zc Tryz.prog 109 = (some []) := by kernel_rfl
theorem fp109 : fp Tryz.prog 109 = (some []) := by kernel_rfl
theorem isStrMap124 : isStrMap Tryz.prog 124 = (some 80) := by kernel_rfl
theorem zv80 : zv Tryz.prog 80 = (some (Value.int IntKind.i64 0)) := by kernel_rfl
theorem zc127 : zc Tryz.prog 127 = (some ((Value.string (ByteArray.mk (List.toArray []))) :: ((Value.string (ByteArray.mk (List.toArray []))) :: ((Value.string (ByteArray.mk (List.toArray []))) :: ((Value.string (ByteArray.mk (List.toArray []))) :: ((Value.string (ByteArray.mk (List.toArray []))) :: ((Value.string (ByteArray.mk (List.toArray []))) :: ((Value.string (ByteArray.mk (List.toArray []))) :: [])))))))) := by kernel_rfl
theorem kd153 : kd Tryz.prog 153 = (some (Kind.many 6)) := by kernel_rfl
theorem sz153 : szA Tryz.prog 153 = some 6 := by kernel_rfl
theorem zc153 : zc Tryz.prog 153 = (some ((Value.int IntKind.i64 0) :: ((Value.int IntKind.i64 0) :: ((Value.int IntKind.i64 0) :: ((Value.int IntKind.i64 0) :: ((Value.int IntKind.i64 0) :: ((Value.int IntKind.i64 0) :: []))))))) := by kernel_rfl
theorem ar153 : ar Tryz.prog 153 = (some (6, 1)) := by kernel_rfl
theorem isIface157 : isIface Tryz.prog 157 = (some false) := by kernel_rfl
theorem kd159 : kd Tryz.prog 159 = (some (Kind.many 1)) := by kernel_rfl
theorem sz159 : szA Tryz.prog 159 = some 1 := by kernel_rfl
theorem zc159 : zc Tryz.prog 159 = (some ((Value.string (ByteArray.mk (List.toArray []))) :: [])) := by kernel_rfl
theorem fp159 : fp Tryz.prog 159 = (some ((0, 1) :: [])) := by kernel_rfl
theorem isStrMap177 : isStrMap Tryz.prog 177 = (some 84) := by kernel_rfl
theorem zv84 : zv Tryz.prog 84 = (some (Value.agg (List.toArray ((Value.int IntKind.i64 0) :: ((Value.int IntKind.i64 0) :: []))))) := by kernel_rfl
theorem fp52 : fp Tryz.prog 52 = some [(0, 1), (1, 1)] := by kernel_rfl
theorem eq2_47 : eq2 Tryz.prog 47 = true := by kernel_rfl
theorem eq2_84 : eq2 Tryz.prog 84 = true := by kernel_rfl
theorem eq2_99 : eq2 Tryz.prog 99 = true := by kernel_rfl
theorem fp31 : fp Tryz.prog 31 = none := by kernel_rfl
theorem ars31 : ars Tryz.prog 31 = some 1 := by kernel_rfl
theorem fp60 : fp Tryz.prog 60 = none := by kernel_rfl
theorem ars60 : ars Tryz.prog 60 = some 1 := by kernel_rfl
theorem fp127 : fp Tryz.prog 127 = none := by kernel_rfl
theorem ars127 : ars Tryz.prog 127 = some 1 := by kernel_rfl
theorem mixed : Tryz.prog.follows .mixedOrders = true := by kernel_rfl
end Go.Proofs.YtlfpjdcogkcjlaaGreatDoor.F
