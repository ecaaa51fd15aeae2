/-
  No cell of these rows narrows 'for every input' (looked for: loops, veiled, ifaces, maps, wideKeys, modest, calm, conditions, laid).
  DERIVED. THE GIVEN ROWS OF THIS SEAT. 17 by the template 'for every input the law returns true; each argument reads behind the call as it read before'; 0 by the template 'total and deterministic' (their statements: YtnoppodfngkoeaaGreatTotals.lean).
  GIVEN WITH THE SEED: the statements are not yours to turn. If you find one false, say at which input.
  Laid BY PROGRAM, IN A SANDBOX (cutbox-rows.mjs): the forced cells as the released guide's own fill.sh prints them over the translation d3f1f9f137286a13… (all of the seat's roots in one cut). By AI agents, Wed Nov 11 2026. No macro, syntax, notation, axiom, sorry.
-/
import Derived.Test.YtnoppodfngkoeaaGreatChecked
import GoSem.Claim
import GoSem.ClaimJoined
import GoSem.ClaimMapViews
import Derived.JoinedTies
import Derived.KernelRfl
namespace Go.Proofs.YtnoppodfngkoeaaGreat
/- THE CELL 'sum', in the pinned program and in every row, IS THE sha256 OF THE DUMP (.gsa) THAT YtnoppodfngkoeaaGreatProg.lean LOADS. Nothing in Lean hashes anything: it is a label: what it is worth is what the hold of that sum in a sandbox is worth. -/
noncomputable def Tryz.pinned : Pinned := { name := "ytnoppodfngkoeaagreat", sum := "d3f1f9f137286a133d7c346ec3a7fa4d15758e257ace6f9659541d213d862143", checked := Tryz.checked }
namespace Rows
def none {H : Type} : Left H := { results := [], args := [] }

/-- 'laws.FnDates': WHATEVER THE INPUT: true; the input reads as it did. -/
def fnDatesSpec : ChangeSpec := { name := "fnDates", fn := fun _ => fun
  | [d1, d2] => { results := [.lit (.bool true)], args := [d1, d2] }
  | _ => none }
def fnDatesRow : OpenClaim := { program := "ytnoppodfngkoeaagreat", sum := "d3f1f9f137286a133d7c346ec3a7fa4d15758e257ace6f9659541d213d862143", func := "pub-hebdomad/laws.FnDates", spec := "fnDates", inPlace := ["math.archFloor", "math.Float64bits", "math.Float64frombits", "math.archTrunc"], unfollowed := true, recurses := true, plainKeys := false, apart := false }
def FnDatesSaid : Prop := fnDatesRow.holds Tryz.pinned (OpenSpec.ofChange fnDatesSpec)

/-- ITS FALSE NEIGHBOUR: 'it returns false'. Refute it at one input. -/
def fnDatesWrong : ChangeSpec := { name := "fnDates", fn := fun _ => fun
  | [d1, d2] => { results := [.lit (.bool false)], args := [d1, d2] }
  | _ => none }
def FnDatesWrongFalsely : Prop := fnDatesRow.holds Tryz.pinned (OpenSpec.ofChange fnDatesWrong)

/-- 'laws.FnRoadCount': WHATEVER THE INPUT: true; the input reads as it did. -/
def fnRoadCountSpec : ChangeSpec := { name := "fnRoadCount", fn := fun _ => fun
  | [d1, d2] => { results := [.lit (.bool true)], args := [d1, d2] }
  | _ => none }
def fnRoadCountRow : OpenClaim := { program := "ytnoppodfngkoeaagreat", sum := "d3f1f9f137286a133d7c346ec3a7fa4d15758e257ace6f9659541d213d862143", func := "pub-hebdomad/laws.FnRoadCount", spec := "fnRoadCount", inPlace := ["math.archFloor", "math.Float64bits", "math.Float64frombits", "math.archTrunc"], unfollowed := true, recurses := true, plainKeys := false, apart := false }
def FnRoadCountSaid : Prop := fnRoadCountRow.holds Tryz.pinned (OpenSpec.ofChange fnRoadCountSpec)

/-- ITS FALSE NEIGHBOUR: 'it returns false'. Refute it at one input. -/
def fnRoadCountWrong : ChangeSpec := { name := "fnRoadCount", fn := fun _ => fun
  | [d1, d2] => { results := [.lit (.bool false)], args := [d1, d2] }
  | _ => none }
def FnRoadCountWrongFalsely : Prop := fnRoadCountRow.holds Tryz.pinned (OpenSpec.ofChange fnRoadCountWrong)

/-- 'laws.FnRoadDays': WHATEVER THE INPUT: true; the input reads as it did. -/
def fnRoadDaysSpec : ChangeSpec := { name := "fnRoadDays", fn := fun _ => fun
  | [d1, d2] => { results := [.lit (.bool true)], args := [d1, d2] }
  | _ => none }
def fnRoadDaysRow : OpenClaim := { program := "ytnoppodfngkoeaagreat", sum := "d3f1f9f137286a133d7c346ec3a7fa4d15758e257ace6f9659541d213d862143", func := "pub-hebdomad/laws.FnRoadDays", spec := "fnRoadDays", inPlace := ["math.archFloor", "math.Float64bits", "math.Float64frombits", "math.archTrunc"], unfollowed := true, recurses := true, plainKeys := false, apart := false }
def FnRoadDaysSaid : Prop := fnRoadDaysRow.holds Tryz.pinned (OpenSpec.ofChange fnRoadDaysSpec)

/-- ITS FALSE NEIGHBOUR: 'it returns false'. Refute it at one input. -/
def fnRoadDaysWrong : ChangeSpec := { name := "fnRoadDays", fn := fun _ => fun
  | [d1, d2] => { results := [.lit (.bool false)], args := [d1, d2] }
  | _ => none }
def FnRoadDaysWrongFalsely : Prop := fnRoadDaysRow.holds Tryz.pinned (OpenSpec.ofChange fnRoadDaysWrong)

/-- 'laws.FnRoadEvery': WHATEVER THE INPUT: true; the input reads as it did. -/
def fnRoadEverySpec : ChangeSpec := { name := "fnRoadEvery", fn := fun _ => fun
  | [d1, d2] => { results := [.lit (.bool true)], args := [d1, d2] }
  | _ => none }
def fnRoadEveryRow : OpenClaim := { program := "ytnoppodfngkoeaagreat", sum := "d3f1f9f137286a133d7c346ec3a7fa4d15758e257ace6f9659541d213d862143", func := "pub-hebdomad/laws.FnRoadEvery", spec := "fnRoadEvery", inPlace := ["math.archFloor", "math.Float64bits", "math.Float64frombits", "math.archTrunc"], unfollowed := true, recurses := true, plainKeys := false, apart := false }
def FnRoadEverySaid : Prop := fnRoadEveryRow.holds Tryz.pinned (OpenSpec.ofChange fnRoadEverySpec)

/-- ITS FALSE NEIGHBOUR: 'it returns false'. Refute it at one input. -/
def fnRoadEveryWrong : ChangeSpec := { name := "fnRoadEvery", fn := fun _ => fun
  | [d1, d2] => { results := [.lit (.bool false)], args := [d1, d2] }
  | _ => none }
def FnRoadEveryWrongFalsely : Prop := fnRoadEveryRow.holds Tryz.pinned (OpenSpec.ofChange fnRoadEveryWrong)

/-- 'laws.FnRoadHours': WHATEVER THE INPUT: true; the input reads as it did. -/
def fnRoadHoursSpec : ChangeSpec := { name := "fnRoadHours", fn := fun _ => fun
  | [d] => { results := [.lit (.bool true)], args := [d] }
  | _ => none }
def fnRoadHoursRow : OpenClaim := { program := "ytnoppodfngkoeaagreat", sum := "d3f1f9f137286a133d7c346ec3a7fa4d15758e257ace6f9659541d213d862143", func := "pub-hebdomad/laws.FnRoadHours", spec := "fnRoadHours", inPlace := ["math.archFloor", "math.Float64bits", "math.Float64frombits", "math.archTrunc"], unfollowed := true, recurses := true, plainKeys := false, apart := false }
def FnRoadHoursSaid : Prop := fnRoadHoursRow.holds Tryz.pinned (OpenSpec.ofChange fnRoadHoursSpec)

/-- ITS FALSE NEIGHBOUR: 'it returns false'. Refute it at one input. -/
def fnRoadHoursWrong : ChangeSpec := { name := "fnRoadHours", fn := fun _ => fun
  | [d] => { results := [.lit (.bool false)], args := [d] }
  | _ => none }
def FnRoadHoursWrongFalsely : Prop := fnRoadHoursRow.holds Tryz.pinned (OpenSpec.ofChange fnRoadHoursWrong)

/-- 'laws.FnRoadLess': WHATEVER THE INPUT: true; the input reads as it did. -/
def fnRoadLessSpec : ChangeSpec := { name := "fnRoadLess", fn := fun _ => fun
  | [d1, d2, d3] => { results := [.lit (.bool true)], args := [d1, d2, d3] }
  | _ => none }
def fnRoadLessRow : OpenClaim := { program := "ytnoppodfngkoeaagreat", sum := "d3f1f9f137286a133d7c346ec3a7fa4d15758e257ace6f9659541d213d862143", func := "pub-hebdomad/laws.FnRoadLess", spec := "fnRoadLess", inPlace := ["math.archFloor", "math.Float64bits", "math.Float64frombits", "math.archTrunc"], unfollowed := true, recurses := true, plainKeys := false, apart := false }
def FnRoadLessSaid : Prop := fnRoadLessRow.holds Tryz.pinned (OpenSpec.ofChange fnRoadLessSpec)

/-- ITS FALSE NEIGHBOUR: 'it returns false'. Refute it at one input. -/
def fnRoadLessWrong : ChangeSpec := { name := "fnRoadLess", fn := fun _ => fun
  | [d1, d2, d3] => { results := [.lit (.bool false)], args := [d1, d2, d3] }
  | _ => none }
def FnRoadLessWrongFalsely : Prop := fnRoadLessRow.holds Tryz.pinned (OpenSpec.ofChange fnRoadLessWrong)

/-- 'laws.FnRoadMonths': WHATEVER THE INPUT: true; the input reads as it did. -/
def fnRoadMonthsSpec : ChangeSpec := { name := "fnRoadMonths", fn := fun _ => fun
  | [d] => { results := [.lit (.bool true)], args := [d] }
  | _ => none }
def fnRoadMonthsRow : OpenClaim := { program := "ytnoppodfngkoeaagreat", sum := "d3f1f9f137286a133d7c346ec3a7fa4d15758e257ace6f9659541d213d862143", func := "pub-hebdomad/laws.FnRoadMonths", spec := "fnRoadMonths", inPlace := ["math.archFloor", "math.Float64bits", "math.Float64frombits", "math.archTrunc"], unfollowed := true, recurses := true, plainKeys := false, apart := false }
def FnRoadMonthsSaid : Prop := fnRoadMonthsRow.holds Tryz.pinned (OpenSpec.ofChange fnRoadMonthsSpec)

/-- ITS FALSE NEIGHBOUR: 'it returns false'. Refute it at one input. -/
def fnRoadMonthsWrong : ChangeSpec := { name := "fnRoadMonths", fn := fun _ => fun
  | [d] => { results := [.lit (.bool false)], args := [d] }
  | _ => none }
def FnRoadMonthsWrongFalsely : Prop := fnRoadMonthsRow.holds Tryz.pinned (OpenSpec.ofChange fnRoadMonthsWrong)

/-- 'laws.FnRoadPositions': WHATEVER THE INPUT: true; the input reads as it did. -/
def fnRoadPositionsSpec : ChangeSpec := { name := "fnRoadPositions", fn := fun _ => fun
  | [d] => { results := [.lit (.bool true)], args := [d] }
  | _ => none }
def fnRoadPositionsRow : OpenClaim := { program := "ytnoppodfngkoeaagreat", sum := "d3f1f9f137286a133d7c346ec3a7fa4d15758e257ace6f9659541d213d862143", func := "pub-hebdomad/laws.FnRoadPositions", spec := "fnRoadPositions", inPlace := ["math.archFloor", "math.Float64bits", "math.Float64frombits", "math.archTrunc"], unfollowed := true, recurses := true, plainKeys := false, apart := false }
def FnRoadPositionsSaid : Prop := fnRoadPositionsRow.holds Tryz.pinned (OpenSpec.ofChange fnRoadPositionsSpec)

/-- ITS FALSE NEIGHBOUR: 'it returns false'. Refute it at one input. -/
def fnRoadPositionsWrong : ChangeSpec := { name := "fnRoadPositions", fn := fun _ => fun
  | [d] => { results := [.lit (.bool false)], args := [d] }
  | _ => none }
def FnRoadPositionsWrongFalsely : Prop := fnRoadPositionsRow.holds Tryz.pinned (OpenSpec.ofChange fnRoadPositionsWrong)

/-- 'laws.FnRoadRising': WHATEVER THE INPUT: true; the input reads as it did. -/
def fnRoadRisingSpec : ChangeSpec := { name := "fnRoadRising", fn := fun _ => fun
  | [d1, d2] => { results := [.lit (.bool true)], args := [d1, d2] }
  | _ => none }
def fnRoadRisingRow : OpenClaim := { program := "ytnoppodfngkoeaagreat", sum := "d3f1f9f137286a133d7c346ec3a7fa4d15758e257ace6f9659541d213d862143", func := "pub-hebdomad/laws.FnRoadRising", spec := "fnRoadRising", inPlace := ["math.archFloor", "math.Float64bits", "math.Float64frombits", "math.archTrunc"], unfollowed := true, recurses := true, plainKeys := false, apart := false }
def FnRoadRisingSaid : Prop := fnRoadRisingRow.holds Tryz.pinned (OpenSpec.ofChange fnRoadRisingSpec)

/-- ITS FALSE NEIGHBOUR: 'it returns false'. Refute it at one input. -/
def fnRoadRisingWrong : ChangeSpec := { name := "fnRoadRising", fn := fun _ => fun
  | [d1, d2] => { results := [.lit (.bool false)], args := [d1, d2] }
  | _ => none }
def FnRoadRisingWrongFalsely : Prop := fnRoadRisingRow.holds Tryz.pinned (OpenSpec.ofChange fnRoadRisingWrong)

/-- 'laws.FnRoadShift': WHATEVER THE INPUT: true; the input reads as it did. -/
def fnRoadShiftSpec : ChangeSpec := { name := "fnRoadShift", fn := fun _ => fun
  | [d1, d2] => { results := [.lit (.bool true)], args := [d1, d2] }
  | _ => none }
def fnRoadShiftRow : OpenClaim := { program := "ytnoppodfngkoeaagreat", sum := "d3f1f9f137286a133d7c346ec3a7fa4d15758e257ace6f9659541d213d862143", func := "pub-hebdomad/laws.FnRoadShift", spec := "fnRoadShift", inPlace := ["math.archFloor", "math.Float64bits", "math.Float64frombits", "math.archTrunc"], unfollowed := true, recurses := true, plainKeys := false, apart := false }
def FnRoadShiftSaid : Prop := fnRoadShiftRow.holds Tryz.pinned (OpenSpec.ofChange fnRoadShiftSpec)

/-- ITS FALSE NEIGHBOUR: 'it returns false'. Refute it at one input. -/
def fnRoadShiftWrong : ChangeSpec := { name := "fnRoadShift", fn := fun _ => fun
  | [d1, d2] => { results := [.lit (.bool false)], args := [d1, d2] }
  | _ => none }
def FnRoadShiftWrongFalsely : Prop := fnRoadShiftRow.holds Tryz.pinned (OpenSpec.ofChange fnRoadShiftWrong)

/-- 'laws.FnRoadSplit': WHATEVER THE INPUT: true; the input reads as it did. -/
def fnRoadSplitSpec : ChangeSpec := { name := "fnRoadSplit", fn := fun _ => fun
  | [d1, d2, d3] => { results := [.lit (.bool true)], args := [d1, d2, d3] }
  | _ => none }
def fnRoadSplitRow : OpenClaim := { program := "ytnoppodfngkoeaagreat", sum := "d3f1f9f137286a133d7c346ec3a7fa4d15758e257ace6f9659541d213d862143", func := "pub-hebdomad/laws.FnRoadSplit", spec := "fnRoadSplit", inPlace := ["math.archFloor", "math.Float64bits", "math.Float64frombits", "math.archTrunc"], unfollowed := true, recurses := true, plainKeys := false, apart := false }
def FnRoadSplitSaid : Prop := fnRoadSplitRow.holds Tryz.pinned (OpenSpec.ofChange fnRoadSplitSpec)

/-- ITS FALSE NEIGHBOUR: 'it returns false'. Refute it at one input. -/
def fnRoadSplitWrong : ChangeSpec := { name := "fnRoadSplit", fn := fun _ => fun
  | [d1, d2, d3] => { results := [.lit (.bool false)], args := [d1, d2, d3] }
  | _ => none }
def FnRoadSplitWrongFalsely : Prop := fnRoadSplitRow.holds Tryz.pinned (OpenSpec.ofChange fnRoadSplitWrong)

/-- 'laws.FnRoadUntil': WHATEVER THE INPUT: true; the input reads as it did. -/
def fnRoadUntilSpec : ChangeSpec := { name := "fnRoadUntil", fn := fun _ => fun
  | [d1, d2, d3] => { results := [.lit (.bool true)], args := [d1, d2, d3] }
  | _ => none }
def fnRoadUntilRow : OpenClaim := { program := "ytnoppodfngkoeaagreat", sum := "d3f1f9f137286a133d7c346ec3a7fa4d15758e257ace6f9659541d213d862143", func := "pub-hebdomad/laws.FnRoadUntil", spec := "fnRoadUntil", inPlace := ["math.archFloor", "math.Float64bits", "math.Float64frombits", "math.archTrunc"], unfollowed := true, recurses := true, plainKeys := false, apart := false }
def FnRoadUntilSaid : Prop := fnRoadUntilRow.holds Tryz.pinned (OpenSpec.ofChange fnRoadUntilSpec)

/-- ITS FALSE NEIGHBOUR: 'it returns false'. Refute it at one input. -/
def fnRoadUntilWrong : ChangeSpec := { name := "fnRoadUntil", fn := fun _ => fun
  | [d1, d2, d3] => { results := [.lit (.bool false)], args := [d1, d2, d3] }
  | _ => none }
def FnRoadUntilWrongFalsely : Prop := fnRoadUntilRow.holds Tryz.pinned (OpenSpec.ofChange fnRoadUntilWrong)

/-- 'laws.FnRoadOrder': WHATEVER THE INPUT: true; the input reads as it did. -/
def fnRoadOrderSpec : ChangeSpec := { name := "fnRoadOrder", fn := fun _ => fun
  | [d] => { results := [.lit (.bool true)], args := [d] }
  | _ => none }
def fnRoadOrderRow : OpenClaim := { program := "ytnoppodfngkoeaagreat", sum := "d3f1f9f137286a133d7c346ec3a7fa4d15758e257ace6f9659541d213d862143", func := "pub-hebdomad/laws.FnRoadOrder", spec := "fnRoadOrder", inPlace := ["math.archFloor", "math.Float64bits", "math.Float64frombits", "math.archTrunc"], unfollowed := true, recurses := true, plainKeys := false, apart := false }
def FnRoadOrderSaid : Prop := fnRoadOrderRow.holds Tryz.pinned (OpenSpec.ofChange fnRoadOrderSpec)

/-- ITS FALSE NEIGHBOUR: 'it returns false'. Refute it at one input. -/
def fnRoadOrderWrong : ChangeSpec := { name := "fnRoadOrder", fn := fun _ => fun
  | [d] => { results := [.lit (.bool false)], args := [d] }
  | _ => none }
def FnRoadOrderWrongFalsely : Prop := fnRoadOrderRow.holds Tryz.pinned (OpenSpec.ofChange fnRoadOrderWrong)

/-- 'laws.FnDatesBefore': WHATEVER THE INPUT: true; the input reads as it did. -/
def fnDatesBeforeSpec : ChangeSpec := { name := "fnDatesBefore", fn := fun _ => fun
  | [d1, d2, d3] => { results := [.lit (.bool true)], args := [d1, d2, d3] }
  | _ => none }
def fnDatesBeforeRow : OpenClaim := { program := "ytnoppodfngkoeaagreat", sum := "d3f1f9f137286a133d7c346ec3a7fa4d15758e257ace6f9659541d213d862143", func := "pub-hebdomad/laws.FnDatesBefore", spec := "fnDatesBefore", inPlace := ["math.archFloor", "math.Float64bits", "math.Float64frombits", "math.archTrunc"], unfollowed := true, recurses := true, plainKeys := false, apart := false }
def FnDatesBeforeSaid : Prop := fnDatesBeforeRow.holds Tryz.pinned (OpenSpec.ofChange fnDatesBeforeSpec)

/-- ITS FALSE NEIGHBOUR: 'it returns false'. Refute it at one input. -/
def fnDatesBeforeWrong : ChangeSpec := { name := "fnDatesBefore", fn := fun _ => fun
  | [d1, d2, d3] => { results := [.lit (.bool false)], args := [d1, d2, d3] }
  | _ => none }
def FnDatesBeforeWrongFalsely : Prop := fnDatesBeforeRow.holds Tryz.pinned (OpenSpec.ofChange fnDatesBeforeWrong)

/-- 'laws.FnDatesAfter': WHATEVER THE INPUT: true; the input reads as it did. -/
def fnDatesAfterSpec : ChangeSpec := { name := "fnDatesAfter", fn := fun _ => fun
  | [d1, d2, d3] => { results := [.lit (.bool true)], args := [d1, d2, d3] }
  | _ => none }
def fnDatesAfterRow : OpenClaim := { program := "ytnoppodfngkoeaagreat", sum := "d3f1f9f137286a133d7c346ec3a7fa4d15758e257ace6f9659541d213d862143", func := "pub-hebdomad/laws.FnDatesAfter", spec := "fnDatesAfter", inPlace := ["math.archFloor", "math.Float64bits", "math.Float64frombits", "math.archTrunc"], unfollowed := true, recurses := true, plainKeys := false, apart := false }
def FnDatesAfterSaid : Prop := fnDatesAfterRow.holds Tryz.pinned (OpenSpec.ofChange fnDatesAfterSpec)

/-- ITS FALSE NEIGHBOUR: 'it returns false'. Refute it at one input. -/
def fnDatesAfterWrong : ChangeSpec := { name := "fnDatesAfter", fn := fun _ => fun
  | [d1, d2, d3] => { results := [.lit (.bool false)], args := [d1, d2, d3] }
  | _ => none }
def FnDatesAfterWrongFalsely : Prop := fnDatesAfterRow.holds Tryz.pinned (OpenSpec.ofChange fnDatesAfterWrong)

/-- 'laws.FnDatesAll': WHATEVER THE INPUT: true; the input reads as it did. -/
def fnDatesAllSpec : ChangeSpec := { name := "fnDatesAll", fn := fun _ => fun
  | [d] => { results := [.lit (.bool true)], args := [d] }
  | _ => none }
def fnDatesAllRow : OpenClaim := { program := "ytnoppodfngkoeaagreat", sum := "d3f1f9f137286a133d7c346ec3a7fa4d15758e257ace6f9659541d213d862143", func := "pub-hebdomad/laws.FnDatesAll", spec := "fnDatesAll", inPlace := ["math.archFloor", "math.Float64bits", "math.Float64frombits", "math.archTrunc"], unfollowed := true, recurses := true, plainKeys := false, apart := false }
def FnDatesAllSaid : Prop := fnDatesAllRow.holds Tryz.pinned (OpenSpec.ofChange fnDatesAllSpec)

/-- ITS FALSE NEIGHBOUR: 'it returns false'. Refute it at one input. -/
def fnDatesAllWrong : ChangeSpec := { name := "fnDatesAll", fn := fun _ => fun
  | [d] => { results := [.lit (.bool false)], args := [d] }
  | _ => none }
def FnDatesAllWrongFalsely : Prop := fnDatesAllRow.holds Tryz.pinned (OpenSpec.ofChange fnDatesAllWrong)

/-- 'laws.FnDatesBetween': WHATEVER THE INPUT: true; the input reads as it did. -/
def fnDatesBetweenSpec : ChangeSpec := { name := "fnDatesBetween", fn := fun _ => fun
  | [d1, d2, d3, d4] => { results := [.lit (.bool true)], args := [d1, d2, d3, d4] }
  | _ => none }
def fnDatesBetweenRow : OpenClaim := { program := "ytnoppodfngkoeaagreat", sum := "d3f1f9f137286a133d7c346ec3a7fa4d15758e257ace6f9659541d213d862143", func := "pub-hebdomad/laws.FnDatesBetween", spec := "fnDatesBetween", inPlace := ["math.archFloor", "math.Float64bits", "math.Float64frombits", "math.archTrunc"], unfollowed := true, recurses := true, plainKeys := false, apart := false }
def FnDatesBetweenSaid : Prop := fnDatesBetweenRow.holds Tryz.pinned (OpenSpec.ofChange fnDatesBetweenSpec)

/-- ITS FALSE NEIGHBOUR: 'it returns false'. Refute it at one input. -/
def fnDatesBetweenWrong : ChangeSpec := { name := "fnDatesBetween", fn := fun _ => fun
  | [d1, d2, d3, d4] => { results := [.lit (.bool false)], args := [d1, d2, d3, d4] }
  | _ => none }
def FnDatesBetweenWrongFalsely : Prop := fnDatesBetweenRow.holds Tryz.pinned (OpenSpec.ofChange fnDatesBetweenWrong)

/- THE SECOND FORM. 'bulk': how many values and letters a reading holds, each counted each time it is reached (what is shared counts as often as it is met; a slice's spare places count too). A statement '..UptoSaid' is the law's where the arguments, and the package variables that the reading takes, are together of bulk at most 1048576: NARROWER than '..Said'. Prove '..Said' where nothing that the law and all that it calls make is longer than what came in: it says more and counts as full. Else prove '..UptoSaid'. A law counts once. -/
mutual
def uptoBulk {H : Type} : DataW H → Nat
  | .lit (.string bytes) => bytes.length + 1
  | .lit _ => 1
  | .nil => 1
  | .ptr d => uptoBulk d + 1
  | .slice elems spare => uptoBulkAll elems + uptoBulkAll spare + 1
  | .agg parts => uptoBulkAll parts + 1
  | .iface _ d => uptoBulk d + 1
  | .map entries => uptoBulkEntries entries + 1
  | .held _ => 1
def uptoBulkAll {H : Type} : List (DataW H) → Nat
  | [] => 0
  | d :: r => uptoBulk d + uptoBulkAll r
def uptoBulkEntries {H : Type} : List (Lit × DataW H) → Nat
  | [] => 0
  | x :: r => uptoBulkEntry x + uptoBulkEntries r
def uptoBulkEntry {H : Type} : Lit × DataW H → Nat
  | (.string bytes, d) => bytes.length + uptoBulk d + 1
  | (_, d) => uptoBulk d + 1
 end
def uptoSmall : (H : Type) → List (DataW H) → Bool := fun _ ds => decide (uptoBulkAll ds ≤ 1048576)
def OpenSpec.upto (s : _root_.Go.ChangeSpec) : _root_.Go.OpenSpec := { _root_.Go.OpenSpec.ofChange s with cond := some uptoSmall }

/-- 'laws.FnDates', WHERE WHAT IT READS IS OF BULK AT MOST 1048576: true; the input reads as it did. -/
def fnDatesUptoRow : OpenClaim := { program := "ytnoppodfngkoeaagreat", sum := "d3f1f9f137286a133d7c346ec3a7fa4d15758e257ace6f9659541d213d862143", func := "pub-hebdomad/laws.FnDates", spec := "fnDates", inPlace := ["math.archFloor", "math.Float64bits", "math.Float64frombits", "math.archTrunc"], unfollowed := true, recurses := true, plainKeys := false, apart := false, narrowed := true }
def FnDatesUptoSaid : Prop := fnDatesUptoRow.holds Tryz.pinned (OpenSpec.upto fnDatesSpec)

/-- 'laws.FnRoadCount', WHERE WHAT IT READS IS OF BULK AT MOST 1048576: true; the input reads as it did. -/
def fnRoadCountUptoRow : OpenClaim := { program := "ytnoppodfngkoeaagreat", sum := "d3f1f9f137286a133d7c346ec3a7fa4d15758e257ace6f9659541d213d862143", func := "pub-hebdomad/laws.FnRoadCount", spec := "fnRoadCount", inPlace := ["math.archFloor", "math.Float64bits", "math.Float64frombits", "math.archTrunc"], unfollowed := true, recurses := true, plainKeys := false, apart := false, narrowed := true }
def FnRoadCountUptoSaid : Prop := fnRoadCountUptoRow.holds Tryz.pinned (OpenSpec.upto fnRoadCountSpec)

/-- 'laws.FnRoadDays', WHERE WHAT IT READS IS OF BULK AT MOST 1048576: true; the input reads as it did. -/
def fnRoadDaysUptoRow : OpenClaim := { program := "ytnoppodfngkoeaagreat", sum := "d3f1f9f137286a133d7c346ec3a7fa4d15758e257ace6f9659541d213d862143", func := "pub-hebdomad/laws.FnRoadDays", spec := "fnRoadDays", inPlace := ["math.archFloor", "math.Float64bits", "math.Float64frombits", "math.archTrunc"], unfollowed := true, recurses := true, plainKeys := false, apart := false, narrowed := true }
def FnRoadDaysUptoSaid : Prop := fnRoadDaysUptoRow.holds Tryz.pinned (OpenSpec.upto fnRoadDaysSpec)

/-- 'laws.FnRoadEvery', WHERE WHAT IT READS IS OF BULK AT MOST 1048576: true; the input reads as it did. -/
def fnRoadEveryUptoRow : OpenClaim := { program := "ytnoppodfngkoeaagreat", sum := "d3f1f9f137286a133d7c346ec3a7fa4d15758e257ace6f9659541d213d862143", func := "pub-hebdomad/laws.FnRoadEvery", spec := "fnRoadEvery", inPlace := ["math.archFloor", "math.Float64bits", "math.Float64frombits", "math.archTrunc"], unfollowed := true, recurses := true, plainKeys := false, apart := false, narrowed := true }
def FnRoadEveryUptoSaid : Prop := fnRoadEveryUptoRow.holds Tryz.pinned (OpenSpec.upto fnRoadEverySpec)

/-- 'laws.FnRoadHours', WHERE WHAT IT READS IS OF BULK AT MOST 1048576: true; the input reads as it did. -/
def fnRoadHoursUptoRow : OpenClaim := { program := "ytnoppodfngkoeaagreat", sum := "d3f1f9f137286a133d7c346ec3a7fa4d15758e257ace6f9659541d213d862143", func := "pub-hebdomad/laws.FnRoadHours", spec := "fnRoadHours", inPlace := ["math.archFloor", "math.Float64bits", "math.Float64frombits", "math.archTrunc"], unfollowed := true, recurses := true, plainKeys := false, apart := false, narrowed := true }
def FnRoadHoursUptoSaid : Prop := fnRoadHoursUptoRow.holds Tryz.pinned (OpenSpec.upto fnRoadHoursSpec)

/-- 'laws.FnRoadLess', WHERE WHAT IT READS IS OF BULK AT MOST 1048576: true; the input reads as it did. -/
def fnRoadLessUptoRow : OpenClaim := { program := "ytnoppodfngkoeaagreat", sum := "d3f1f9f137286a133d7c346ec3a7fa4d15758e257ace6f9659541d213d862143", func := "pub-hebdomad/laws.FnRoadLess", spec := "fnRoadLess", inPlace := ["math.archFloor", "math.Float64bits", "math.Float64frombits", "math.archTrunc"], unfollowed := true, recurses := true, plainKeys := false, apart := false, narrowed := true }
def FnRoadLessUptoSaid : Prop := fnRoadLessUptoRow.holds Tryz.pinned (OpenSpec.upto fnRoadLessSpec)

/-- 'laws.FnRoadMonths', WHERE WHAT IT READS IS OF BULK AT MOST 1048576: true; the input reads as it did. -/
def fnRoadMonthsUptoRow : OpenClaim := { program := "ytnoppodfngkoeaagreat", sum := "d3f1f9f137286a133d7c346ec3a7fa4d15758e257ace6f9659541d213d862143", func := "pub-hebdomad/laws.FnRoadMonths", spec := "fnRoadMonths", inPlace := ["math.archFloor", "math.Float64bits", "math.Float64frombits", "math.archTrunc"], unfollowed := true, recurses := true, plainKeys := false, apart := false, narrowed := true }
def FnRoadMonthsUptoSaid : Prop := fnRoadMonthsUptoRow.holds Tryz.pinned (OpenSpec.upto fnRoadMonthsSpec)

/-- 'laws.FnRoadPositions', WHERE WHAT IT READS IS OF BULK AT MOST 1048576: true; the input reads as it did. -/
def fnRoadPositionsUptoRow : OpenClaim := { program := "ytnoppodfngkoeaagreat", sum := "d3f1f9f137286a133d7c346ec3a7fa4d15758e257ace6f9659541d213d862143", func := "pub-hebdomad/laws.FnRoadPositions", spec := "fnRoadPositions", inPlace := ["math.archFloor", "math.Float64bits", "math.Float64frombits", "math.archTrunc"], unfollowed := true, recurses := true, plainKeys := false, apart := false, narrowed := true }
def FnRoadPositionsUptoSaid : Prop := fnRoadPositionsUptoRow.holds Tryz.pinned (OpenSpec.upto fnRoadPositionsSpec)

/-- 'laws.FnRoadRising', WHERE WHAT IT READS IS OF BULK AT MOST 1048576: true; the input reads as it did. -/
def fnRoadRisingUptoRow : OpenClaim := { program := "ytnoppodfngkoeaagreat", sum := "d3f1f9f137286a133d7c346ec3a7fa4d15758e257ace6f9659541d213d862143", func := "pub-hebdomad/laws.FnRoadRising", spec := "fnRoadRising", inPlace := ["math.archFloor", "math.Float64bits", "math.Float64frombits", "math.archTrunc"], unfollowed := true, recurses := true, plainKeys := false, apart := false, narrowed := true }
def FnRoadRisingUptoSaid : Prop := fnRoadRisingUptoRow.holds Tryz.pinned (OpenSpec.upto fnRoadRisingSpec)

/-- 'laws.FnRoadShift', WHERE WHAT IT READS IS OF BULK AT MOST 1048576: true; the input reads as it did. -/
def fnRoadShiftUptoRow : OpenClaim := { program := "ytnoppodfngkoeaagreat", sum := "d3f1f9f137286a133d7c346ec3a7fa4d15758e257ace6f9659541d213d862143", func := "pub-hebdomad/laws.FnRoadShift", spec := "fnRoadShift", inPlace := ["math.archFloor", "math.Float64bits", "math.Float64frombits", "math.archTrunc"], unfollowed := true, recurses := true, plainKeys := false, apart := false, narrowed := true }
def FnRoadShiftUptoSaid : Prop := fnRoadShiftUptoRow.holds Tryz.pinned (OpenSpec.upto fnRoadShiftSpec)

/-- 'laws.FnRoadSplit', WHERE WHAT IT READS IS OF BULK AT MOST 1048576: true; the input reads as it did. -/
def fnRoadSplitUptoRow : OpenClaim := { program := "ytnoppodfngkoeaagreat", sum := "d3f1f9f137286a133d7c346ec3a7fa4d15758e257ace6f9659541d213d862143", func := "pub-hebdomad/laws.FnRoadSplit", spec := "fnRoadSplit", inPlace := ["math.archFloor", "math.Float64bits", "math.Float64frombits", "math.archTrunc"], unfollowed := true, recurses := true, plainKeys := false, apart := false, narrowed := true }
def FnRoadSplitUptoSaid : Prop := fnRoadSplitUptoRow.holds Tryz.pinned (OpenSpec.upto fnRoadSplitSpec)

/-- 'laws.FnRoadUntil', WHERE WHAT IT READS IS OF BULK AT MOST 1048576: true; the input reads as it did. -/
def fnRoadUntilUptoRow : OpenClaim := { program := "ytnoppodfngkoeaagreat", sum := "d3f1f9f137286a133d7c346ec3a7fa4d15758e257ace6f9659541d213d862143", func := "pub-hebdomad/laws.FnRoadUntil", spec := "fnRoadUntil", inPlace := ["math.archFloor", "math.Float64bits", "math.Float64frombits", "math.archTrunc"], unfollowed := true, recurses := true, plainKeys := false, apart := false, narrowed := true }
def FnRoadUntilUptoSaid : Prop := fnRoadUntilUptoRow.holds Tryz.pinned (OpenSpec.upto fnRoadUntilSpec)

/-- 'laws.FnRoadOrder', WHERE WHAT IT READS IS OF BULK AT MOST 1048576: true; the input reads as it did. -/
def fnRoadOrderUptoRow : OpenClaim := { program := "ytnoppodfngkoeaagreat", sum := "d3f1f9f137286a133d7c346ec3a7fa4d15758e257ace6f9659541d213d862143", func := "pub-hebdomad/laws.FnRoadOrder", spec := "fnRoadOrder", inPlace := ["math.archFloor", "math.Float64bits", "math.Float64frombits", "math.archTrunc"], unfollowed := true, recurses := true, plainKeys := false, apart := false, narrowed := true }
def FnRoadOrderUptoSaid : Prop := fnRoadOrderUptoRow.holds Tryz.pinned (OpenSpec.upto fnRoadOrderSpec)

/-- 'laws.FnDatesBefore', WHERE WHAT IT READS IS OF BULK AT MOST 1048576: true; the input reads as it did. -/
def fnDatesBeforeUptoRow : OpenClaim := { program := "ytnoppodfngkoeaagreat", sum := "d3f1f9f137286a133d7c346ec3a7fa4d15758e257ace6f9659541d213d862143", func := "pub-hebdomad/laws.FnDatesBefore", spec := "fnDatesBefore", inPlace := ["math.archFloor", "math.Float64bits", "math.Float64frombits", "math.archTrunc"], unfollowed := true, recurses := true, plainKeys := false, apart := false, narrowed := true }
def FnDatesBeforeUptoSaid : Prop := fnDatesBeforeUptoRow.holds Tryz.pinned (OpenSpec.upto fnDatesBeforeSpec)

/-- 'laws.FnDatesAfter', WHERE WHAT IT READS IS OF BULK AT MOST 1048576: true; the input reads as it did. -/
def fnDatesAfterUptoRow : OpenClaim := { program := "ytnoppodfngkoeaagreat", sum := "d3f1f9f137286a133d7c346ec3a7fa4d15758e257ace6f9659541d213d862143", func := "pub-hebdomad/laws.FnDatesAfter", spec := "fnDatesAfter", inPlace := ["math.archFloor", "math.Float64bits", "math.Float64frombits", "math.archTrunc"], unfollowed := true, recurses := true, plainKeys := false, apart := false, narrowed := true }
def FnDatesAfterUptoSaid : Prop := fnDatesAfterUptoRow.holds Tryz.pinned (OpenSpec.upto fnDatesAfterSpec)

/-- 'laws.FnDatesAll', WHERE WHAT IT READS IS OF BULK AT MOST 1048576: true; the input reads as it did. -/
def fnDatesAllUptoRow : OpenClaim := { program := "ytnoppodfngkoeaagreat", sum := "d3f1f9f137286a133d7c346ec3a7fa4d15758e257ace6f9659541d213d862143", func := "pub-hebdomad/laws.FnDatesAll", spec := "fnDatesAll", inPlace := ["math.archFloor", "math.Float64bits", "math.Float64frombits", "math.archTrunc"], unfollowed := true, recurses := true, plainKeys := false, apart := false, narrowed := true }
def FnDatesAllUptoSaid : Prop := fnDatesAllUptoRow.holds Tryz.pinned (OpenSpec.upto fnDatesAllSpec)

/-- 'laws.FnDatesBetween', WHERE WHAT IT READS IS OF BULK AT MOST 1048576: true; the input reads as it did. -/
def fnDatesBetweenUptoRow : OpenClaim := { program := "ytnoppodfngkoeaagreat", sum := "d3f1f9f137286a133d7c346ec3a7fa4d15758e257ace6f9659541d213d862143", func := "pub-hebdomad/laws.FnDatesBetween", spec := "fnDatesBetween", inPlace := ["math.archFloor", "math.Float64bits", "math.Float64frombits", "math.archTrunc"], unfollowed := true, recurses := true, plainKeys := false, apart := false, narrowed := true }
def FnDatesBetweenUptoSaid : Prop := fnDatesBetweenUptoRow.holds Tryz.pinned (OpenSpec.upto fnDatesBetweenSpec)

end Rows
end Go.Proofs.YtnoppodfngkoeaaGreat
