/- What a clean rule is. -/
import Derived.Test.YtlfpjdcogkcjlaaGreatDoorT20
namespace Go.Proofs.YtlfpjdcogkcjlaaGreatDoor.F
open Go.RowKit Go.Proofs.YtlfpjdcogkcjlaaGreatDoor.AL Go.Proofs.YtlfpjdcogkcjlaaGreatDoor.B
set_option linter.unusedVariables false
set_option linter.unusedSimpArgs false
set_option maxRecDepth 20000
attribute [local irreducible] aops acode bindK bindV bindH callX callK condK guardK Kseq Kblk Knorm Kfun Kloop Kjoin outK AWp appendA
attribute [local go_sem] acode_skip acode_seq acode_region acode_cond acode_block acode_exit acode_ret acode_loop Kseq_normal Kseq_exit Kseq_ret Kblk_normal Kblk_ret Kblk_eq Kblk_ne Knorm_eq Kloop_normal Kloop_exit Kloop_ret Kjoin_normal Kjoin_exit Kjoin_ret condK_true condK_false bindK_put bindV_put bindK_no bindV_no bindH_no aops_nil gops wantK_some wantV_bool wantV_undef guardK_true guardK_false guardK_none aops_move aops_assign aops_pick aops_nilCheck aops_binOp aops_unOp aops_convert aops_fieldAddr aops_indexAddr aops_slice aops_index aops_extract aops_makeInterface aops_makeFunc aops_build aops_load aops_lookup aops_alloc aops_box aops_buildSlice aops_makeSlice aops_makeMap aops_store aops_insert aops_mapUpdate aops_len aops_append aops_call opA_tmp opA_const opA_global opA_func get_mk look_nil look_eq look_ne len_mk List.map_cons List.map_nil Option.map_some Option.map_none bin_add bin_sub bin_mul bin_quo bin_rem bin_eql bin_neq bin_lss bin_leq bin_gtr bin_geq bin_cat bin_seql bin_sneq bin_neq_ifc bin_eql_ifc bin_neq_nn bin_eql_nn bin_neq_ptr bin_eql_ptr bin_neq_pn isIfc_true isPtr_true bin_eql2 bin_neq2 aops_max max_int un_not un_neg lenA_K lenK_str lenK_nil lenK_sl lenK_array pick_bool pick_val bindV_ite bindK_ite bindH_ite slotV_sl slotK_some slotV_ptr slotR_some sliceV_sl cutK_some sliceV_str cutS_some bound_none bound_some indexA_str atS_some mkS fieldV_ptr loadV_ptr cellsK_ro cellsK_own loadK_one loadK_many storeA_ptr storeK_own allocA_some heap_len heap_get0 heap_get heap_set0 heap_set Kfun_ret Kfun_normal resA_nil resA_tmp resA_cell outK_some packA_one packA_nil packA_two List.length_cons List.length_nil List.getElem?_cons_zero List.getElem?_cons_succ List.set_cons_zero List.set_cons_succ List.cons_append List.nil_append List.append_assoc Nat.zero_add Nat.add_zero List.all_cons List.all_nil Value.oneCell' Bool.and_true Bool.and_self if_true if_false Bool.false_eq_true partsA buildV buildA fillA Option.bind_some putCells List.drop_succ_cons List.drop_zero List.take_succ_cons List.take_zero List.take_nil List.drop_nil and_self and_true true_and Option.some.injEq ne_eq not_false_eq_true Option.map_map List.getElem?_toArray beq_self_eq_true Bool.true_beq Bool.false_beq Bool.not_true Bool.not_false decide_true decide_false beq_true Nat.mul_one Nat.one_mul Nat.zero_mul bsA buildSliceA zerosN List.append_nil Int.toNat_natCast Int.toNat_zero boxA one_val one_ptr one_sl one_mp one_ifc one_fn avCells_agg avCells_val valCells_true valCells_agg avCells_ptr avCells_sl avCells_mp avCells_ifc avCells_fn app_cons app_nil lookupA insertA ifaceV extractA kd2 ars127 fp127 ars60 fp60 ars31 fp31 eq2_99 eq2_84 eq2_47 fp52 sz2 kd3 sz3 kd4 sz4 kd5 sz5 kd9 sz9 kd22 sz22 el22 kd23 sz23 el23 kd25 sz25 zc25 fp25 fo25_0 fo25_1 fo25_2 fo25_3 fo25_4 fo25_5 fo25_6 fo25_7 fo25_8 fo25_9 fo25_10 fo25_11 fo25_12 fo25_13 fo25_14 fo25_15 fo25_16 fo25_17 kd31 sz31 zc31 ar31 kd32 sz32 el32 kd34 sz34 zc34 fp34 fo34_0 fo34_1 fo34_2 fo34_3 fo34_4 fo34_5 fo34_6 fo34_7 fo34_8 fo34_9 fo34_10 fo34_11 fo34_12 fo34_13 fo34_14 fo34_15 fo34_16 fo34_17 el38 el42 kd47 sz47 zc47 fp47 fo47_0 fo47_1 kd52 sz52 zc52 fo52_0 el55 zc60 kd72 sz72 zc72 fp72 fo72_0 fo72_1 el73 isStrMap76 zv4 kd80 sz80 kd84 sz84 zc84 fp84 fo84_0 fo84_1 kd88 sz88 zc88 fp88 fo88_0 fo88_1 fo88_2 fo88_3 kd91 sz91 zc91 fp91 fo91_0 fo91_1 fo91_2 el94 kd99 sz99 zc99 fp99 fo99_0 fo99_1 kd100 sz100 el100 kd102 sz102 zc102 fp102 fo102_0 fo102_1 fo102_2 fo102_3 fo102_4 fo102_5 fo102_6 fo102_7 fo102_8 fo102_9 fo102_10 fo102_11 fo102_12 fo102_13 fo102_14 fo102_15 kd109 sz109 zc109 fp109 isStrMap124 zv80 zc127 kd153 sz153 zc153 ar153 isIface157 kd159 sz159 zc159 fp159 isStrMap177 zv84 Tryz.underlying3 Tryz.underlying4 Tryz.underlying5 Tryz.underlying9 Tryz.underlying21 Tryz.underlying22 Tryz.underlying23 Tryz.underlying32 Tryz.underlying38 Tryz.underlying42 Tryz.underlying47 Tryz.underlying55 Tryz.underlying67 Tryz.underlying73 Tryz.underlying80 Tryz.underlying84 Tryz.underlying94 Tryz.underlying100 Tryz.underlying2 Tryz.underlying127 Tryz.underlying60 Tryz.underlying31
def g1 (r : Ru) : Bool := decide (6 < (r.freq : Int)) || !r.hasStart || decide (r.start < 31536000) || decide (284012524800 ≤ r.start) || decide (r.interval < 0) || decide (1000 < r.interval) || decide (r.wkst < 0) || decide (6 < r.wkst) || decide (r.count < 0) || decide (1000 < r.count)
def g2 (r : Ru) : Bool := r.hasUntil && (decide (r.til < r.start) || decide (315537897600 ≤ r.til))
def g3 (r : Ru) : Bool := !within r.setPos 12 (-366) 366 false || !within r.month 12 1 12 false || !within r.monthDay 12 (-31) 31 false || !within r.yearDay 12 (-366) 366 false || !within r.weekNo 12 (-53) 53 false
def g4 (r : Ru) : Bool := !within r.hour 12 0 23 true || !within r.minute 12 0 59 true || !within r.second 12 0 59 true || !within r.easter 12 (-80) 80 true || decide (12 < (r.day.length : Int))
def g5 (r : Ru) : Bool := decide (60 < max 1 (r.hour.length : Int) * max 1 (r.minute.length : Int) * max 1 (r.second.length : Int))
def mostOf (r : Ru) : Int := if r.freq = 1 ∨ (r.freq = 0 ∧ 0 < r.month.length) then 5 else if r.freq = 0 ∧ r.weekNo.length = 0 then 53 else 0
def dayAt (l : List (Int × Int)) (most : Int) (i : Nat) : Bool := !((l.take i).contains (l.getD i (0, 0))) && !(decide ((l.getD i (0, 0)).1 < 0) || decide (6 < (l.getD i (0, 0)).1) || decide ((l.getD i (0, 0)).2 < -most) || decide (most < (l.getD i (0, 0)).2))
def g6 (r : Ru) : Bool := !(List.range r.day.length).all (dayAt r.day (mostOf r))
def g7 (r : Ru) : Bool := (decide (0 < r.weekNo.length) && !decide (r.freq = 0)) || (decide (0 < r.easter.length) && !decide (r.freq = 0)) || (decide (0 < r.monthDay.length) && decide (r.freq = 2))
def g8 (r : Ru) : Bool := decide (0 < r.yearDay.length) && (decide (r.freq = 1) || decide (r.freq = 2) || decide (r.freq = 3))
/-- spec.Clean -/
def clean (r : Ru) : Bool := !g1 r && !g2 r && !g3 r && !g4 r && !g5 r && !g6 r && !g7 r && !g8 r && (decide (r.setPos.length = 0) || parted r)
theorem clean_g1 {r : Ru} (h : g1 r = true) : clean r = false := by simp [clean, h]
theorem clean_g2 {r : Ru} (h : g2 r = true) : clean r = false := by simp [clean, h]
theorem clean_g3 {r : Ru} (h : g3 r = true) : clean r = false := by simp [clean, h]
theorem clean_g4 {r : Ru} (h : g4 r = true) : clean r = false := by simp [clean, h]
theorem clean_g5 {r : Ru} (h : g5 r = true) : clean r = false := by simp [clean, h]
theorem clean_g6 {r : Ru} (h : g6 r = true) : clean r = false := by simp [clean, h]
theorem clean_g7 {r : Ru} (h : g7 r = true) : clean r = false := by simp [clean, h]
theorem clean_g8 {r : Ru} (h : g8 r = true) : clean r = false := by simp [clean, h]

theorem within_len {l : List Int} {most low high : Int} {zero : Bool} (h : within l most low high zero = true) : (l.length : Int) ≤ most := by
  unfold within at h
  rw [Bool.and_eq_true] at h
  exact of_decide_eq_true h.1
theorem mul3 {a b c : Int} (ha : 1 ≤ a ∧ a ≤ 12) (hb : 1 ≤ b ∧ b ≤ 12) (hc : 1 ≤ c ∧ c ≤ 12) : (0 ≤ a * b ∧ a * b ≤ 144) ∧ 0 ≤ a * b * c ∧ a * b * c ≤ 1728 := by
  have h1 : 0 ≤ a * b := Int.mul_nonneg (by omega) (by omega)
  have h2 : a * b ≤ 12 * 12 := Int.mul_le_mul ha.2 hb.2 (by omega) (by omega)
  have h3 : 0 ≤ a * b * c := Int.mul_nonneg h1 (by omega)
  have h4 : a * b * c ≤ 144 * 12 := Int.mul_le_mul (by omega) hc.2 (by omega) (by omega)
  omega
theorem g4_len {r : Ru} (h : g4 r = false) : r.hour.length ≤ 12 ∧ r.minute.length ≤ 12 ∧ r.second.length ≤ 12 ∧ r.easter.length ≤ 12 ∧ r.day.length ≤ 12 := by
  unfold g4 at h
  simp only [Bool.or_eq_false_iff, Bool.not_eq_false', decide_eq_false_iff_not] at h
  obtain ⟨⟨⟨⟨h1, h2⟩, h3⟩, h4⟩, h5⟩ := h
  have := within_len h1
  have := within_len h2
  have := within_len h3
  have := within_len h4
  omega
theorem mostOf_bound (r : Ru) : 0 ≤ mostOf r ∧ mostOf r ≤ 53 := by unfold mostOf; split <;> (try split) <;> omega
theorem g6_fail {r : Ru} {i : Nat} (hi : i < r.day.length) (h : dayAt r.day (mostOf r) i = false) : g6 r = true := by
  unfold g6
  rw [Bool.not_eq_true', Bool.eq_false_iff]
  intro ha
  have := List.all_eq_true.1 ha i (List.mem_range.2 hi)
  rw [h] at this; cases this
structure RuNum (r : Ru) : Prop where
  freq : r.freq ≤ 255
  start : -9223372036854775808 ≤ r.start ∧ r.start ≤ 9223372036854775807
  til : -9223372036854775808 ≤ r.til ∧ r.til ≤ 9223372036854775807
  interval : -9223372036854775808 ≤ r.interval ∧ r.interval ≤ 9223372036854775807
  wkst : -9223372036854775808 ≤ r.wkst ∧ r.wkst ≤ 9223372036854775807
  count : -9223372036854775808 ≤ r.count ∧ r.count ≤ 9223372036854775807
  setPos : ∀ n ∈ r.setPos, -9223372036854775808 ≤ n ∧ n ≤ 9223372036854775807
  month : ∀ n ∈ r.month, -9223372036854775808 ≤ n ∧ n ≤ 9223372036854775807
  monthDay : ∀ n ∈ r.monthDay, -9223372036854775808 ≤ n ∧ n ≤ 9223372036854775807
  yearDay : ∀ n ∈ r.yearDay, -9223372036854775808 ≤ n ∧ n ≤ 9223372036854775807
  weekNo : ∀ n ∈ r.weekNo, -9223372036854775808 ≤ n ∧ n ≤ 9223372036854775807
  hour : ∀ n ∈ r.hour, -9223372036854775808 ≤ n ∧ n ≤ 9223372036854775807
  minute : ∀ n ∈ r.minute, -9223372036854775808 ≤ n ∧ n ≤ 9223372036854775807
  second : ∀ n ∈ r.second, -9223372036854775808 ≤ n ∧ n ≤ 9223372036854775807
  easter : ∀ n ∈ r.easter, -9223372036854775808 ≤ n ∧ n ≤ 9223372036854775807
  day : ∀ d ∈ r.day, (-9223372036854775808 ≤ d.1 ∧ d.1 ≤ 9223372036854775807) ∧ (-9223372036854775808 ≤ d.2 ∧ d.2 ≤ 9223372036854775807)
theorem b2 : IntKind.i64.wrap (before 2 * 86400) = 31536000 := by kernel_rfl
theorem b9001 : IntKind.i64.wrap (before 9001 * 86400) = 284012524800 := by kernel_rfl
theorem b10000 : IntKind.i64.wrap (before 10000 * 86400) = 315537897600 := by kernel_rfl
set_option maxHeartbeats 8000000 in
theorem clean_A {w0 : World} (r : Ru) (x : Rs) (hl : RuLen r) (hn : RuNum r) (H : Heap) (hx : RuAt H r x) : ACalls Tryz.prog (CB w0) 31 [.agg (ruCells r x)] H fun v H' => v = vB (clean r) ∧ H' = H := by
  refine ACalls.flat rfl ?_
  refine A_fun (N := 264) (rs := [.tmp 2]) Tryz.func31 rfl rfl rfl (by kernel_rfl) (by kernel_rfl) (Nat.le_of_ble_eq_true rfl) ?_
  rintro e he ⟨g0, -⟩
  have hBo : ∀ G, (H ++ AObj.own 25 (ruCells r x) :: G)[H.length]? = some (AObj.own 25 (ruCells r x)) := fun G => heap_get0
  have k1 := hx.setPos.len 3
  have k2 := hx.month.len 3
  have k3 := hx.monthDay.len 3
  have k4 := hx.yearDay.len 3
  have k5 := hx.weekNo.len 3
  have k6 := hx.day.len 47
  have k7 := hx.hour.len 3
  have k8 := hx.minute.len 3
  have k9 := hx.second.len 3
  have k10 := hx.easter.len 3
  unfold ruCells at g0 hBo
  simp only [go_sem, Nat.reduceLT, Nat.reduceBEq, Nat.reduceAdd, Int.reduceBEq, Nat.reduceLeDiff, reduceIte, Nat.reduceEqDiff, Int.reduceEq, Int.reduceLE, Int.reduceLT, Int.reduceNe, Nat.reduceMul, Nat.reduceSub, Int.reduceToNat, he, g0, hx.setPos.one, hx.month.one, hx.monthDay.one, hx.yearDay.one, hx.weekNo.one, hx.day.one, hx.hour.one, hx.minute.one, hx.second.one, hx.easter.one]
  have gp : True := trivial
  refine acode_join (fun e h => h = H ++ [AObj.own 25 [vU r.freq, vB r.hasStart, vI r.start, vI r.interval, vI r.wkst, vI r.count, vB r.hasUntil, vI r.til, x.setPos, x.month, x.monthDay, x.yearDay, x.weekNo, x.day, x.hour, x.minute, x.second, x.easter]] ∧ len e = 264 ∧ AL.get e 1 = .ptr H.length 0 ∧ AL.get e 57 = vB (g1 r)) ?_ ?_
  · refine acode_draw mixed (by kernel_rfl) ?_
    cases e1_0 : decide (6 < (r.freq : Int)) with
    | true =>
      simp only [go_sem, Nat.reduceLT, Nat.reduceBEq, Nat.reduceAdd, Int.reduceBEq, Nat.reduceLeDiff, reduceIte, Nat.reduceEqDiff, Int.reduceEq, Int.reduceLE, Int.reduceLT, Int.reduceNe, Nat.reduceMul, Nat.reduceSub, Int.reduceToNat, he, gp, b2, b9001, b10000, k1, k2, k3, k4, k5, k6, k7, k8, k9, k10, e1_0]
      rw [show g1 r = true by unfold g1; simp only [e1_0, Bool.true_or, Bool.or_true, Bool.false_or, Bool.true_and, Bool.false_and, Bool.not_false, Bool.not_true, Bool.or_false]]
    | false =>
    cases e1_1 : r.hasStart with
    | false =>
      simp only [go_sem, Nat.reduceLT, Nat.reduceBEq, Nat.reduceAdd, Int.reduceBEq, Nat.reduceLeDiff, reduceIte, Nat.reduceEqDiff, Int.reduceEq, Int.reduceLE, Int.reduceLT, Int.reduceNe, Nat.reduceMul, Nat.reduceSub, Int.reduceToNat, he, gp, b2, b9001, b10000, k1, k2, k3, k4, k5, k6, k7, k8, k9, k10, e1_0, e1_1]
      rw [show g1 r = true by unfold g1; simp only [e1_0, e1_1, Bool.true_or, Bool.or_true, Bool.false_or, Bool.true_and, Bool.false_and, Bool.not_false, Bool.not_true, Bool.or_false]]
    | true =>
    cases e1_2 : decide (r.start < 31536000) with
    | true =>
      simp only [go_sem, Nat.reduceLT, Nat.reduceBEq, Nat.reduceAdd, Int.reduceBEq, Nat.reduceLeDiff, reduceIte, Nat.reduceEqDiff, Int.reduceEq, Int.reduceLE, Int.reduceLT, Int.reduceNe, Nat.reduceMul, Nat.reduceSub, Int.reduceToNat, he, gp, b2, b9001, b10000, k1, k2, k3, k4, k5, k6, k7, k8, k9, k10, e1_0, e1_1, e1_2]
      refine callX_of (before_A 2 (by omega) (by omega) _) (List.prefix_refl _) ?_
      simp only [go_sem, Nat.reduceLT, Nat.reduceBEq, Nat.reduceAdd, Int.reduceBEq, Nat.reduceLeDiff, reduceIte, Nat.reduceEqDiff, Int.reduceEq, Int.reduceLE, Int.reduceLT, Int.reduceNe, Nat.reduceMul, Nat.reduceSub, Int.reduceToNat, he, gp, b2, b9001, b10000, k1, k2, k3, k4, k5, k6, k7, k8, k9, k10, e1_0, e1_1, e1_2, setD_some]
      rw [show g1 r = true by unfold g1; simp only [e1_0, e1_1, e1_2, Bool.true_or, Bool.or_true, Bool.false_or, Bool.true_and, Bool.false_and, Bool.not_false, Bool.not_true, Bool.or_false]]
    | false =>
    cases e1_3 : decide (284012524800 ≤ r.start) with
    | true =>
      simp only [go_sem, Nat.reduceLT, Nat.reduceBEq, Nat.reduceAdd, Int.reduceBEq, Nat.reduceLeDiff, reduceIte, Nat.reduceEqDiff, Int.reduceEq, Int.reduceLE, Int.reduceLT, Int.reduceNe, Nat.reduceMul, Nat.reduceSub, Int.reduceToNat, he, gp, b2, b9001, b10000, k1, k2, k3, k4, k5, k6, k7, k8, k9, k10, e1_0, e1_1, e1_2, e1_3]
      refine callX_of (before_A 2 (by omega) (by omega) _) (List.prefix_refl _) ?_
      simp only [go_sem, Nat.reduceLT, Nat.reduceBEq, Nat.reduceAdd, Int.reduceBEq, Nat.reduceLeDiff, reduceIte, Nat.reduceEqDiff, Int.reduceEq, Int.reduceLE, Int.reduceLT, Int.reduceNe, Nat.reduceMul, Nat.reduceSub, Int.reduceToNat, he, gp, b2, b9001, b10000, k1, k2, k3, k4, k5, k6, k7, k8, k9, k10, e1_0, e1_1, e1_2, e1_3, setD_some]
      refine callX_of (before_A 9001 (by omega) (by omega) _) (List.prefix_refl _) ?_
      simp only [go_sem, Nat.reduceLT, Nat.reduceBEq, Nat.reduceAdd, Int.reduceBEq, Nat.reduceLeDiff, reduceIte, Nat.reduceEqDiff, Int.reduceEq, Int.reduceLE, Int.reduceLT, Int.reduceNe, Nat.reduceMul, Nat.reduceSub, Int.reduceToNat, he, gp, b2, b9001, b10000, k1, k2, k3, k4, k5, k6, k7, k8, k9, k10, e1_0, e1_1, e1_2, e1_3, setD_some]
      rw [show g1 r = true by unfold g1; simp only [e1_0, e1_1, e1_2, e1_3, Bool.true_or, Bool.or_true, Bool.false_or, Bool.true_and, Bool.false_and, Bool.not_false, Bool.not_true, Bool.or_false]]
    | false =>
    cases e1_4 : decide (r.interval < 0) with
    | true =>
      simp only [go_sem, Nat.reduceLT, Nat.reduceBEq, Nat.reduceAdd, Int.reduceBEq, Nat.reduceLeDiff, reduceIte, Nat.reduceEqDiff, Int.reduceEq, Int.reduceLE, Int.reduceLT, Int.reduceNe, Nat.reduceMul, Nat.reduceSub, Int.reduceToNat, he, gp, b2, b9001, b10000, k1, k2, k3, k4, k5, k6, k7, k8, k9, k10, e1_0, e1_1, e1_2, e1_3, e1_4]
      refine callX_of (before_A 2 (by omega) (by omega) _) (List.prefix_refl _) ?_
      simp only [go_sem, Nat.reduceLT, Nat.reduceBEq, Nat.reduceAdd, Int.reduceBEq, Nat.reduceLeDiff, reduceIte, Nat.reduceEqDiff, Int.reduceEq, Int.reduceLE, Int.reduceLT, Int.reduceNe, Nat.reduceMul, Nat.reduceSub, Int.reduceToNat, he, gp, b2, b9001, b10000, k1, k2, k3, k4, k5, k6, k7, k8, k9, k10, e1_0, e1_1, e1_2, e1_3, e1_4, setD_some]
      refine callX_of (before_A 9001 (by omega) (by omega) _) (List.prefix_refl _) ?_
      simp only [go_sem, Nat.reduceLT, Nat.reduceBEq, Nat.reduceAdd, Int.reduceBEq, Nat.reduceLeDiff, reduceIte, Nat.reduceEqDiff, Int.reduceEq, Int.reduceLE, Int.reduceLT, Int.reduceNe, Nat.reduceMul, Nat.reduceSub, Int.reduceToNat, he, gp, b2, b9001, b10000, k1, k2, k3, k4, k5, k6, k7, k8, k9, k10, e1_0, e1_1, e1_2, e1_3, e1_4, setD_some]
      rw [show g1 r = true by unfold g1; simp only [e1_0, e1_1, e1_2, e1_3, e1_4, Bool.true_or, Bool.or_true, Bool.false_or, Bool.true_and, Bool.false_and, Bool.not_false, Bool.not_true, Bool.or_false]]
    | false =>
    cases e1_5 : decide (1000 < r.interval) with
    | true =>
      simp only [go_sem, Nat.reduceLT, Nat.reduceBEq, Nat.reduceAdd, Int.reduceBEq, Nat.reduceLeDiff, reduceIte, Nat.reduceEqDiff, Int.reduceEq, Int.reduceLE, Int.reduceLT, Int.reduceNe, Nat.reduceMul, Nat.reduceSub, Int.reduceToNat, he, gp, b2, b9001, b10000, k1, k2, k3, k4, k5, k6, k7, k8, k9, k10, e1_0, e1_1, e1_2, e1_3, e1_4, e1_5]
      refine callX_of (before_A 2 (by omega) (by omega) _) (List.prefix_refl _) ?_
      simp only [go_sem, Nat.reduceLT, Nat.reduceBEq, Nat.reduceAdd, Int.reduceBEq, Nat.reduceLeDiff, reduceIte, Nat.reduceEqDiff, Int.reduceEq, Int.reduceLE, Int.reduceLT, Int.reduceNe, Nat.reduceMul, Nat.reduceSub, Int.reduceToNat, he, gp, b2, b9001, b10000, k1, k2, k3, k4, k5, k6, k7, k8, k9, k10, e1_0, e1_1, e1_2, e1_3, e1_4, e1_5, setD_some]
      refine callX_of (before_A 9001 (by omega) (by omega) _) (List.prefix_refl _) ?_
      simp only [go_sem, Nat.reduceLT, Nat.reduceBEq, Nat.reduceAdd, Int.reduceBEq, Nat.reduceLeDiff, reduceIte, Nat.reduceEqDiff, Int.reduceEq, Int.reduceLE, Int.reduceLT, Int.reduceNe, Nat.reduceMul, Nat.reduceSub, Int.reduceToNat, he, gp, b2, b9001, b10000, k1, k2, k3, k4, k5, k6, k7, k8, k9, k10, e1_0, e1_1, e1_2, e1_3, e1_4, e1_5, setD_some]
      rw [show g1 r = true by unfold g1; simp only [e1_0, e1_1, e1_2, e1_3, e1_4, e1_5, Bool.true_or, Bool.or_true, Bool.false_or, Bool.true_and, Bool.false_and, Bool.not_false, Bool.not_true, Bool.or_false]]
    | false =>
    cases e1_6 : decide (r.wkst < 0) with
    | true =>
      simp only [go_sem, Nat.reduceLT, Nat.reduceBEq, Nat.reduceAdd, Int.reduceBEq, Nat.reduceLeDiff, reduceIte, Nat.reduceEqDiff, Int.reduceEq, Int.reduceLE, Int.reduceLT, Int.reduceNe, Nat.reduceMul, Nat.reduceSub, Int.reduceToNat, he, gp, b2, b9001, b10000, k1, k2, k3, k4, k5, k6, k7, k8, k9, k10, e1_0, e1_1, e1_2, e1_3, e1_4, e1_5, e1_6]
      refine callX_of (before_A 2 (by omega) (by omega) _) (List.prefix_refl _) ?_
      simp only [go_sem, Nat.reduceLT, Nat.reduceBEq, Nat.reduceAdd, Int.reduceBEq, Nat.reduceLeDiff, reduceIte, Nat.reduceEqDiff, Int.reduceEq, Int.reduceLE, Int.reduceLT, Int.reduceNe, Nat.reduceMul, Nat.reduceSub, Int.reduceToNat, he, gp, b2, b9001, b10000, k1, k2, k3, k4, k5, k6, k7, k8, k9, k10, e1_0, e1_1, e1_2, e1_3, e1_4, e1_5, e1_6, setD_some]
      refine callX_of (before_A 9001 (by omega) (by omega) _) (List.prefix_refl _) ?_
      simp only [go_sem, Nat.reduceLT, Nat.reduceBEq, Nat.reduceAdd, Int.reduceBEq, Nat.reduceLeDiff, reduceIte, Nat.reduceEqDiff, Int.reduceEq, Int.reduceLE, Int.reduceLT, Int.reduceNe, Nat.reduceMul, Nat.reduceSub, Int.reduceToNat, he, gp, b2, b9001, b10000, k1, k2, k3, k4, k5, k6, k7, k8, k9, k10, e1_0, e1_1, e1_2, e1_3, e1_4, e1_5, e1_6, setD_some]
      rw [show g1 r = true by unfold g1; simp only [e1_0, e1_1, e1_2, e1_3, e1_4, e1_5, e1_6, Bool.true_or, Bool.or_true, Bool.false_or, Bool.true_and, Bool.false_and, Bool.not_false, Bool.not_true, Bool.or_false]]
    | false =>
    cases e1_7 : decide (6 < r.wkst) with
    | true =>
      simp only [go_sem, Nat.reduceLT, Nat.reduceBEq, Nat.reduceAdd, Int.reduceBEq, Nat.reduceLeDiff, reduceIte, Nat.reduceEqDiff, Int.reduceEq, Int.reduceLE, Int.reduceLT, Int.reduceNe, Nat.reduceMul, Nat.reduceSub, Int.reduceToNat, he, gp, b2, b9001, b10000, k1, k2, k3, k4, k5, k6, k7, k8, k9, k10, e1_0, e1_1, e1_2, e1_3, e1_4, e1_5, e1_6, e1_7]
      refine callX_of (before_A 2 (by omega) (by omega) _) (List.prefix_refl _) ?_
      simp only [go_sem, Nat.reduceLT, Nat.reduceBEq, Nat.reduceAdd, Int.reduceBEq, Nat.reduceLeDiff, reduceIte, Nat.reduceEqDiff, Int.reduceEq, Int.reduceLE, Int.reduceLT, Int.reduceNe, Nat.reduceMul, Nat.reduceSub, Int.reduceToNat, he, gp, b2, b9001, b10000, k1, k2, k3, k4, k5, k6, k7, k8, k9, k10, e1_0, e1_1, e1_2, e1_3, e1_4, e1_5, e1_6, e1_7, setD_some]
      refine callX_of (before_A 9001 (by omega) (by omega) _) (List.prefix_refl _) ?_
      simp only [go_sem, Nat.reduceLT, Nat.reduceBEq, Nat.reduceAdd, Int.reduceBEq, Nat.reduceLeDiff, reduceIte, Nat.reduceEqDiff, Int.reduceEq, Int.reduceLE, Int.reduceLT, Int.reduceNe, Nat.reduceMul, Nat.reduceSub, Int.reduceToNat, he, gp, b2, b9001, b10000, k1, k2, k3, k4, k5, k6, k7, k8, k9, k10, e1_0, e1_1, e1_2, e1_3, e1_4, e1_5, e1_6, e1_7, setD_some]
      rw [show g1 r = true by unfold g1; simp only [e1_0, e1_1, e1_2, e1_3, e1_4, e1_5, e1_6, e1_7, Bool.true_or, Bool.or_true, Bool.false_or, Bool.true_and, Bool.false_and, Bool.not_false, Bool.not_true, Bool.or_false]]
    | false =>
    cases e1_8 : decide (r.count < 0) with
    | true =>
      simp only [go_sem, Nat.reduceLT, Nat.reduceBEq, Nat.reduceAdd, Int.reduceBEq, Nat.reduceLeDiff, reduceIte, Nat.reduceEqDiff, Int.reduceEq, Int.reduceLE, Int.reduceLT, Int.reduceNe, Nat.reduceMul, Nat.reduceSub, Int.reduceToNat, he, gp, b2, b9001, b10000, k1, k2, k3, k4, k5, k6, k7, k8, k9, k10, e1_0, e1_1, e1_2, e1_3, e1_4, e1_5, e1_6, e1_7, e1_8]
      refine callX_of (before_A 2 (by omega) (by omega) _) (List.prefix_refl _) ?_
      simp only [go_sem, Nat.reduceLT, Nat.reduceBEq, Nat.reduceAdd, Int.reduceBEq, Nat.reduceLeDiff, reduceIte, Nat.reduceEqDiff, Int.reduceEq, Int.reduceLE, Int.reduceLT, Int.reduceNe, Nat.reduceMul, Nat.reduceSub, Int.reduceToNat, he, gp, b2, b9001, b10000, k1, k2, k3, k4, k5, k6, k7, k8, k9, k10, e1_0, e1_1, e1_2, e1_3, e1_4, e1_5, e1_6, e1_7, e1_8, setD_some]
      refine callX_of (before_A 9001 (by omega) (by omega) _) (List.prefix_refl _) ?_
      simp only [go_sem, Nat.reduceLT, Nat.reduceBEq, Nat.reduceAdd, Int.reduceBEq, Nat.reduceLeDiff, reduceIte, Nat.reduceEqDiff, Int.reduceEq, Int.reduceLE, Int.reduceLT, Int.reduceNe, Nat.reduceMul, Nat.reduceSub, Int.reduceToNat, he, gp, b2, b9001, b10000, k1, k2, k3, k4, k5, k6, k7, k8, k9, k10, e1_0, e1_1, e1_2, e1_3, e1_4, e1_5, e1_6, e1_7, e1_8, setD_some]
      rw [show g1 r = true by unfold g1; simp only [e1_0, e1_1, e1_2, e1_3, e1_4, e1_5, e1_6, e1_7, e1_8, Bool.true_or, Bool.or_true, Bool.false_or, Bool.true_and, Bool.false_and, Bool.not_false, Bool.not_true, Bool.or_false]]
    | false =>
    cases e1_9 : decide (1000 < r.count) with
    | true =>
      simp only [go_sem, Nat.reduceLT, Nat.reduceBEq, Nat.reduceAdd, Int.reduceBEq, Nat.reduceLeDiff, reduceIte, Nat.reduceEqDiff, Int.reduceEq, Int.reduceLE, Int.reduceLT, Int.reduceNe, Nat.reduceMul, Nat.reduceSub, Int.reduceToNat, he, gp, b2, b9001, b10000, k1, k2, k3, k4, k5, k6, k7, k8, k9, k10, e1_0, e1_1, e1_2, e1_3, e1_4, e1_5, e1_6, e1_7, e1_8, e1_9]
      refine callX_of (before_A 2 (by omega) (by omega) _) (List.prefix_refl _) ?_
      simp only [go_sem, Nat.reduceLT, Nat.reduceBEq, Nat.reduceAdd, Int.reduceBEq, Nat.reduceLeDiff, reduceIte, Nat.reduceEqDiff, Int.reduceEq, Int.reduceLE, Int.reduceLT, Int.reduceNe, Nat.reduceMul, Nat.reduceSub, Int.reduceToNat, he, gp, b2, b9001, b10000, k1, k2, k3, k4, k5, k6, k7, k8, k9, k10, e1_0, e1_1, e1_2, e1_3, e1_4, e1_5, e1_6, e1_7, e1_8, e1_9, setD_some]
      refine callX_of (before_A 9001 (by omega) (by omega) _) (List.prefix_refl _) ?_
      simp only [go_sem, Nat.reduceLT, Nat.reduceBEq, Nat.reduceAdd, Int.reduceBEq, Nat.reduceLeDiff, reduceIte, Nat.reduceEqDiff, Int.reduceEq, Int.reduceLE, Int.reduceLT, Int.reduceNe, Nat.reduceMul, Nat.reduceSub, Int.reduceToNat, he, gp, b2, b9001, b10000, k1, k2, k3, k4, k5, k6, k7, k8, k9, k10, e1_0, e1_1, e1_2, e1_3, e1_4, e1_5, e1_6, e1_7, e1_8, e1_9, setD_some]
      rw [show g1 r = true by unfold g1; simp only [e1_0, e1_1, e1_2, e1_3, e1_4, e1_5, e1_6, e1_7, e1_8, e1_9, Bool.true_or, Bool.or_true, Bool.false_or, Bool.true_and, Bool.false_and, Bool.not_false, Bool.not_true, Bool.or_false]]
    | false =>
    simp only [go_sem, Nat.reduceLT, Nat.reduceBEq, Nat.reduceAdd, Int.reduceBEq, Nat.reduceLeDiff, reduceIte, Nat.reduceEqDiff, Int.reduceEq, Int.reduceLE, Int.reduceLT, Int.reduceNe, Nat.reduceMul, Nat.reduceSub, Int.reduceToNat, he, gp, b2, b9001, b10000, k1, k2, k3, k4, k5, k6, k7, k8, k9, k10, e1_0, e1_1, e1_2, e1_3, e1_4, e1_5, e1_6, e1_7, e1_8, e1_9]
    refine callX_of (before_A 2 (by omega) (by omega) _) (List.prefix_refl _) ?_
    simp only [go_sem, Nat.reduceLT, Nat.reduceBEq, Nat.reduceAdd, Int.reduceBEq, Nat.reduceLeDiff, reduceIte, Nat.reduceEqDiff, Int.reduceEq, Int.reduceLE, Int.reduceLT, Int.reduceNe, Nat.reduceMul, Nat.reduceSub, Int.reduceToNat, he, gp, b2, b9001, b10000, k1, k2, k3, k4, k5, k6, k7, k8, k9, k10, e1_0, e1_1, e1_2, e1_3, e1_4, e1_5, e1_6, e1_7, e1_8, e1_9, setD_some]
    refine callX_of (before_A 9001 (by omega) (by omega) _) (List.prefix_refl _) ?_
    simp only [go_sem, Nat.reduceLT, Nat.reduceBEq, Nat.reduceAdd, Int.reduceBEq, Nat.reduceLeDiff, reduceIte, Nat.reduceEqDiff, Int.reduceEq, Int.reduceLE, Int.reduceLT, Int.reduceNe, Nat.reduceMul, Nat.reduceSub, Int.reduceToNat, he, gp, b2, b9001, b10000, k1, k2, k3, k4, k5, k6, k7, k8, k9, k10, e1_0, e1_1, e1_2, e1_3, e1_4, e1_5, e1_6, e1_7, e1_8, e1_9, setD_some]
    rw [show g1 r = false by unfold g1; simp only [e1_0, e1_1, e1_2, e1_3, e1_4, e1_5, e1_6, e1_7, e1_8, e1_9, Bool.true_or, Bool.or_true, Bool.false_or, Bool.true_and, Bool.false_and, Bool.not_false, Bool.not_true, Bool.or_false]]
  rintro e h ⟨rfl, he, gp, gt⟩
  simp only [go_sem, Nat.reduceLT, Nat.reduceBEq, Nat.reduceAdd, Int.reduceBEq, Nat.reduceLeDiff, reduceIte, Nat.reduceEqDiff, Int.reduceEq, Int.reduceLE, Int.reduceLT, Int.reduceNe, Nat.reduceMul, Nat.reduceSub, Int.reduceToNat, he, gp, gt]
  refine condK_of (fun hq => ?_) fun hq => ?_
  · simp only [go_sem, Nat.reduceLT, Nat.reduceBEq, Nat.reduceAdd, Int.reduceBEq, Nat.reduceLeDiff, reduceIte, Nat.reduceEqDiff, Int.reduceEq, Int.reduceLE, Int.reduceLT, Int.reduceNe, Nat.reduceMul, Nat.reduceSub, Int.reduceToNat, he, gp, gt]
    rw [clean_g1 hq]
    exact ⟨rfl, _, rfl⟩
  rename g1 r = false => q1
  simp only [go_sem, Nat.reduceLT, Nat.reduceBEq, Nat.reduceAdd, Int.reduceBEq, Nat.reduceLeDiff, reduceIte, Nat.reduceEqDiff, Int.reduceEq, Int.reduceLE, Int.reduceLT, Int.reduceNe, Nat.reduceMul, Nat.reduceSub, Int.reduceToNat, he, gp, gt, k1, k2, k3, k4, k5, k6, k7, k8, k9, k10]
  refine acode_join (fun e h => h = H ++ [AObj.own 25 [vU r.freq, vB r.hasStart, vI r.start, vI r.interval, vI r.wkst, vI r.count, vB r.hasUntil, vI r.til, x.setPos, x.month, x.monthDay, x.yearDay, x.weekNo, x.day, x.hour, x.minute, x.second, x.easter]] ∧ len e = 264 ∧ AL.get e 1 = .ptr H.length 0 ∧ AL.get e 73 = vB (g2 r)) ?_ ?_
  · refine acode_draw mixed (by kernel_rfl) ?_
    cases e0 : r.hasUntil with
    | false =>
      simp only [go_sem, Nat.reduceLT, Nat.reduceBEq, Nat.reduceAdd, Int.reduceBEq, Nat.reduceLeDiff, reduceIte, Nat.reduceEqDiff, Int.reduceEq, Int.reduceLE, Int.reduceLT, Int.reduceNe, Nat.reduceMul, Nat.reduceSub, Int.reduceToNat, he, gp, b2, b9001, b10000, k1, k2, k3, k4, k5, k6, k7, k8, k9, k10, e0]
      rw [show g2 r = false by unfold g2; simp only [e0, Bool.true_or, Bool.or_true, Bool.false_or, Bool.true_and, Bool.false_and, Bool.not_false, Bool.not_true, Bool.or_false]]
    | true =>
    cases e1 : decide (r.til < r.start) with
    | true =>
      simp only [go_sem, Nat.reduceLT, Nat.reduceBEq, Nat.reduceAdd, Int.reduceBEq, Nat.reduceLeDiff, reduceIte, Nat.reduceEqDiff, Int.reduceEq, Int.reduceLE, Int.reduceLT, Int.reduceNe, Nat.reduceMul, Nat.reduceSub, Int.reduceToNat, he, gp, b2, b9001, b10000, k1, k2, k3, k4, k5, k6, k7, k8, k9, k10, e0, e1]
      rw [show g2 r = true by unfold g2; simp only [e0, e1, Bool.true_or, Bool.or_true, Bool.false_or, Bool.true_and, Bool.false_and, Bool.not_false, Bool.not_true, Bool.or_false]]
    | false =>
    cases e2 : decide (315537897600 ≤ r.til) with
    | true =>
      simp only [go_sem, Nat.reduceLT, Nat.reduceBEq, Nat.reduceAdd, Int.reduceBEq, Nat.reduceLeDiff, reduceIte, Nat.reduceEqDiff, Int.reduceEq, Int.reduceLE, Int.reduceLT, Int.reduceNe, Nat.reduceMul, Nat.reduceSub, Int.reduceToNat, he, gp, b2, b9001, b10000, k1, k2, k3, k4, k5, k6, k7, k8, k9, k10, e0, e1, e2]
      refine callX_of (before_A 10000 (by omega) (by omega) _) (List.prefix_refl _) ?_
      simp only [go_sem, Nat.reduceLT, Nat.reduceBEq, Nat.reduceAdd, Int.reduceBEq, Nat.reduceLeDiff, reduceIte, Nat.reduceEqDiff, Int.reduceEq, Int.reduceLE, Int.reduceLT, Int.reduceNe, Nat.reduceMul, Nat.reduceSub, Int.reduceToNat, he, gp, b2, b9001, b10000, k1, k2, k3, k4, k5, k6, k7, k8, k9, k10, e0, e1, e2, setD_some]
      rw [show g2 r = true by unfold g2; simp only [e0, e1, e2, Bool.true_or, Bool.or_true, Bool.false_or, Bool.true_and, Bool.false_and, Bool.not_false, Bool.not_true, Bool.or_false]]
    | false =>
    simp only [go_sem, Nat.reduceLT, Nat.reduceBEq, Nat.reduceAdd, Int.reduceBEq, Nat.reduceLeDiff, reduceIte, Nat.reduceEqDiff, Int.reduceEq, Int.reduceLE, Int.reduceLT, Int.reduceNe, Nat.reduceMul, Nat.reduceSub, Int.reduceToNat, he, gp, b2, b9001, b10000, k1, k2, k3, k4, k5, k6, k7, k8, k9, k10, e0, e1, e2]
    refine callX_of (before_A 10000 (by omega) (by omega) _) (List.prefix_refl _) ?_
    simp only [go_sem, Nat.reduceLT, Nat.reduceBEq, Nat.reduceAdd, Int.reduceBEq, Nat.reduceLeDiff, reduceIte, Nat.reduceEqDiff, Int.reduceEq, Int.reduceLE, Int.reduceLT, Int.reduceNe, Nat.reduceMul, Nat.reduceSub, Int.reduceToNat, he, gp, b2, b9001, b10000, k1, k2, k3, k4, k5, k6, k7, k8, k9, k10, e0, e1, e2, setD_some]
    rw [show g2 r = false by unfold g2; simp only [e0, e1, e2, Bool.true_or, Bool.or_true, Bool.false_or, Bool.true_and, Bool.false_and, Bool.not_false, Bool.not_true, Bool.or_false]]
  rintro e h ⟨rfl, he, gp, gt⟩
  simp only [go_sem, Nat.reduceLT, Nat.reduceBEq, Nat.reduceAdd, Int.reduceBEq, Nat.reduceLeDiff, reduceIte, Nat.reduceEqDiff, Int.reduceEq, Int.reduceLE, Int.reduceLT, Int.reduceNe, Nat.reduceMul, Nat.reduceSub, Int.reduceToNat, he, gp, gt]
  refine condK_of (fun hq => ?_) fun hq => ?_
  · simp only [go_sem, Nat.reduceLT, Nat.reduceBEq, Nat.reduceAdd, Int.reduceBEq, Nat.reduceLeDiff, reduceIte, Nat.reduceEqDiff, Int.reduceEq, Int.reduceLE, Int.reduceLT, Int.reduceNe, Nat.reduceMul, Nat.reduceSub, Int.reduceToNat, he, gp, gt]
    rw [clean_g2 hq]
    exact ⟨rfl, _, rfl⟩
  rename g2 r = false => q2
  simp only [go_sem, Nat.reduceLT, Nat.reduceBEq, Nat.reduceAdd, Int.reduceBEq, Nat.reduceLeDiff, reduceIte, Nat.reduceEqDiff, Int.reduceEq, Int.reduceLE, Int.reduceLT, Int.reduceNe, Nat.reduceMul, Nat.reduceSub, Int.reduceToNat, he, gp, gt, k1, k2, k3, k4, k5, k6, k7, k8, k9, k10]
  refine callX_join (fun e h => h = H ++ [AObj.own 25 [vU r.freq, vB r.hasStart, vI r.start, vI r.interval, vI r.wkst, vI r.count, vB r.hasUntil, vI r.til, x.setPos, x.month, x.monthDay, x.yearDay, x.weekNo, x.day, x.hour, x.minute, x.second, x.easter]] ∧ len e = 264 ∧ AL.get e 1 = .ptr H.length 0 ∧ AL.get e 101 = vB (g3 r)) ?_ ?_
  · cases e3_0 : within r.setPos 12 (-366) 366 false with
    | false =>
      refine callX_of (within_A r.setPos (by have := hl.setPos; omega) hn.setPos 12 (-366) 366 (by omega) false _ _ (hx.setPos.more _)) (List.prefix_refl _) ?_
      simp only [go_sem, Nat.reduceLT, Nat.reduceBEq, Nat.reduceAdd, Int.reduceBEq, Nat.reduceLeDiff, reduceIte, Nat.reduceEqDiff, Int.reduceEq, Int.reduceLE, Int.reduceLT, Int.reduceNe, Nat.reduceMul, Nat.reduceSub, Int.reduceToNat, he, gp, b2, b9001, b10000, k1, k2, k3, k4, k5, k6, k7, k8, k9, k10, e3_0, setD_some]
      rw [show g3 r = true by unfold g3; simp only [e3_0, Bool.true_or, Bool.or_true, Bool.false_or, Bool.true_and, Bool.false_and, Bool.not_false, Bool.not_true, Bool.or_false]]
    | true =>
    cases e3_1 : within r.month 12 1 12 false with
    | false =>
      refine callX_of (within_A r.setPos (by have := hl.setPos; omega) hn.setPos 12 (-366) 366 (by omega) false _ _ (hx.setPos.more _)) (List.prefix_refl _) ?_
      simp only [go_sem, Nat.reduceLT, Nat.reduceBEq, Nat.reduceAdd, Int.reduceBEq, Nat.reduceLeDiff, reduceIte, Nat.reduceEqDiff, Int.reduceEq, Int.reduceLE, Int.reduceLT, Int.reduceNe, Nat.reduceMul, Nat.reduceSub, Int.reduceToNat, he, gp, b2, b9001, b10000, k1, k2, k3, k4, k5, k6, k7, k8, k9, k10, e3_0, e3_1, setD_some]
      refine callX_of (within_A r.month (by have := hl.month; omega) hn.month 12 1 12 (by omega) false _ _ (hx.month.more _)) (List.prefix_refl _) ?_
      simp only [go_sem, Nat.reduceLT, Nat.reduceBEq, Nat.reduceAdd, Int.reduceBEq, Nat.reduceLeDiff, reduceIte, Nat.reduceEqDiff, Int.reduceEq, Int.reduceLE, Int.reduceLT, Int.reduceNe, Nat.reduceMul, Nat.reduceSub, Int.reduceToNat, he, gp, b2, b9001, b10000, k1, k2, k3, k4, k5, k6, k7, k8, k9, k10, e3_0, e3_1, setD_some]
      rw [show g3 r = true by unfold g3; simp only [e3_0, e3_1, Bool.true_or, Bool.or_true, Bool.false_or, Bool.true_and, Bool.false_and, Bool.not_false, Bool.not_true, Bool.or_false]]
    | true =>
    cases e3_2 : within r.monthDay 12 (-31) 31 false with
    | false =>
      refine callX_of (within_A r.setPos (by have := hl.setPos; omega) hn.setPos 12 (-366) 366 (by omega) false _ _ (hx.setPos.more _)) (List.prefix_refl _) ?_
      simp only [go_sem, Nat.reduceLT, Nat.reduceBEq, Nat.reduceAdd, Int.reduceBEq, Nat.reduceLeDiff, reduceIte, Nat.reduceEqDiff, Int.reduceEq, Int.reduceLE, Int.reduceLT, Int.reduceNe, Nat.reduceMul, Nat.reduceSub, Int.reduceToNat, he, gp, b2, b9001, b10000, k1, k2, k3, k4, k5, k6, k7, k8, k9, k10, e3_0, e3_1, e3_2, setD_some]
      refine callX_of (within_A r.month (by have := hl.month; omega) hn.month 12 1 12 (by omega) false _ _ (hx.month.more _)) (List.prefix_refl _) ?_
      simp only [go_sem, Nat.reduceLT, Nat.reduceBEq, Nat.reduceAdd, Int.reduceBEq, Nat.reduceLeDiff, reduceIte, Nat.reduceEqDiff, Int.reduceEq, Int.reduceLE, Int.reduceLT, Int.reduceNe, Nat.reduceMul, Nat.reduceSub, Int.reduceToNat, he, gp, b2, b9001, b10000, k1, k2, k3, k4, k5, k6, k7, k8, k9, k10, e3_0, e3_1, e3_2, setD_some]
      refine callX_of (within_A r.monthDay (by have := hl.monthDay; omega) hn.monthDay 12 (-31) 31 (by omega) false _ _ (hx.monthDay.more _)) (List.prefix_refl _) ?_
      simp only [go_sem, Nat.reduceLT, Nat.reduceBEq, Nat.reduceAdd, Int.reduceBEq, Nat.reduceLeDiff, reduceIte, Nat.reduceEqDiff, Int.reduceEq, Int.reduceLE, Int.reduceLT, Int.reduceNe, Nat.reduceMul, Nat.reduceSub, Int.reduceToNat, he, gp, b2, b9001, b10000, k1, k2, k3, k4, k5, k6, k7, k8, k9, k10, e3_0, e3_1, e3_2, setD_some]
      rw [show g3 r = true by unfold g3; simp only [e3_0, e3_1, e3_2, Bool.true_or, Bool.or_true, Bool.false_or, Bool.true_and, Bool.false_and, Bool.not_false, Bool.not_true, Bool.or_false]]
    | true =>
    cases e3_3 : within r.yearDay 12 (-366) 366 false with
    | false =>
      refine callX_of (within_A r.setPos (by have := hl.setPos; omega) hn.setPos 12 (-366) 366 (by omega) false _ _ (hx.setPos.more _)) (List.prefix_refl _) ?_
      simp only [go_sem, Nat.reduceLT, Nat.reduceBEq, Nat.reduceAdd, Int.reduceBEq, Nat.reduceLeDiff, reduceIte, Nat.reduceEqDiff, Int.reduceEq, Int.reduceLE, Int.reduceLT, Int.reduceNe, Nat.reduceMul, Nat.reduceSub, Int.reduceToNat, he, gp, b2, b9001, b10000, k1, k2, k3, k4, k5, k6, k7, k8, k9, k10, e3_0, e3_1, e3_2, e3_3, setD_some]
      refine callX_of (within_A r.month (by have := hl.month; omega) hn.month 12 1 12 (by omega) false _ _ (hx.month.more _)) (List.prefix_refl _) ?_
      simp only [go_sem, Nat.reduceLT, Nat.reduceBEq, Nat.reduceAdd, Int.reduceBEq, Nat.reduceLeDiff, reduceIte, Nat.reduceEqDiff, Int.reduceEq, Int.reduceLE, Int.reduceLT, Int.reduceNe, Nat.reduceMul, Nat.reduceSub, Int.reduceToNat, he, gp, b2, b9001, b10000, k1, k2, k3, k4, k5, k6, k7, k8, k9, k10, e3_0, e3_1, e3_2, e3_3, setD_some]
      refine callX_of (within_A r.monthDay (by have := hl.monthDay; omega) hn.monthDay 12 (-31) 31 (by omega) false _ _ (hx.monthDay.more _)) (List.prefix_refl _) ?_
      simp only [go_sem, Nat.reduceLT, Nat.reduceBEq, Nat.reduceAdd, Int.reduceBEq, Nat.reduceLeDiff, reduceIte, Nat.reduceEqDiff, Int.reduceEq, Int.reduceLE, Int.reduceLT, Int.reduceNe, Nat.reduceMul, Nat.reduceSub, Int.reduceToNat, he, gp, b2, b9001, b10000, k1, k2, k3, k4, k5, k6, k7, k8, k9, k10, e3_0, e3_1, e3_2, e3_3, setD_some]
      refine callX_of (within_A r.yearDay (by have := hl.yearDay; omega) hn.yearDay 12 (-366) 366 (by omega) false _ _ (hx.yearDay.more _)) (List.prefix_refl _) ?_
      simp only [go_sem, Nat.reduceLT, Nat.reduceBEq, Nat.reduceAdd, Int.reduceBEq, Nat.reduceLeDiff, reduceIte, Nat.reduceEqDiff, Int.reduceEq, Int.reduceLE, Int.reduceLT, Int.reduceNe, Nat.reduceMul, Nat.reduceSub, Int.reduceToNat, he, gp, b2, b9001, b10000, k1, k2, k3, k4, k5, k6, k7, k8, k9, k10, e3_0, e3_1, e3_2, e3_3, setD_some]
      rw [show g3 r = true by unfold g3; simp only [e3_0, e3_1, e3_2, e3_3, Bool.true_or, Bool.or_true, Bool.false_or, Bool.true_and, Bool.false_and, Bool.not_false, Bool.not_true, Bool.or_false]]
    | true =>
    cases e3_4 : within r.weekNo 12 (-53) 53 false with
    | false =>
      refine callX_of (within_A r.setPos (by have := hl.setPos; omega) hn.setPos 12 (-366) 366 (by omega) false _ _ (hx.setPos.more _)) (List.prefix_refl _) ?_
      simp only [go_sem, Nat.reduceLT, Nat.reduceBEq, Nat.reduceAdd, Int.reduceBEq, Nat.reduceLeDiff, reduceIte, Nat.reduceEqDiff, Int.reduceEq, Int.reduceLE, Int.reduceLT, Int.reduceNe, Nat.reduceMul, Nat.reduceSub, Int.reduceToNat, he, gp, b2, b9001, b10000, k1, k2, k3, k4, k5, k6, k7, k8, k9, k10, e3_0, e3_1, e3_2, e3_3, e3_4, setD_some]
      refine callX_of (within_A r.month (by have := hl.month; omega) hn.month 12 1 12 (by omega) false _ _ (hx.month.more _)) (List.prefix_refl _) ?_
      simp only [go_sem, Nat.reduceLT, Nat.reduceBEq, Nat.reduceAdd, Int.reduceBEq, Nat.reduceLeDiff, reduceIte, Nat.reduceEqDiff, Int.reduceEq, Int.reduceLE, Int.reduceLT, Int.reduceNe, Nat.reduceMul, Nat.reduceSub, Int.reduceToNat, he, gp, b2, b9001, b10000, k1, k2, k3, k4, k5, k6, k7, k8, k9, k10, e3_0, e3_1, e3_2, e3_3, e3_4, setD_some]
      refine callX_of (within_A r.monthDay (by have := hl.monthDay; omega) hn.monthDay 12 (-31) 31 (by omega) false _ _ (hx.monthDay.more _)) (List.prefix_refl _) ?_
      simp only [go_sem, Nat.reduceLT, Nat.reduceBEq, Nat.reduceAdd, Int.reduceBEq, Nat.reduceLeDiff, reduceIte, Nat.reduceEqDiff, Int.reduceEq, Int.reduceLE, Int.reduceLT, Int.reduceNe, Nat.reduceMul, Nat.reduceSub, Int.reduceToNat, he, gp, b2, b9001, b10000, k1, k2, k3, k4, k5, k6, k7, k8, k9, k10, e3_0, e3_1, e3_2, e3_3, e3_4, setD_some]
      refine callX_of (within_A r.yearDay (by have := hl.yearDay; omega) hn.yearDay 12 (-366) 366 (by omega) false _ _ (hx.yearDay.more _)) (List.prefix_refl _) ?_
      simp only [go_sem, Nat.reduceLT, Nat.reduceBEq, Nat.reduceAdd, Int.reduceBEq, Nat.reduceLeDiff, reduceIte, Nat.reduceEqDiff, Int.reduceEq, Int.reduceLE, Int.reduceLT, Int.reduceNe, Nat.reduceMul, Nat.reduceSub, Int.reduceToNat, he, gp, b2, b9001, b10000, k1, k2, k3, k4, k5, k6, k7, k8, k9, k10, e3_0, e3_1, e3_2, e3_3, e3_4, setD_some]
      refine callX_of (within_A r.weekNo (by have := hl.weekNo; omega) hn.weekNo 12 (-53) 53 (by omega) false _ _ (hx.weekNo.more _)) (List.prefix_refl _) ?_
      simp only [go_sem, Nat.reduceLT, Nat.reduceBEq, Nat.reduceAdd, Int.reduceBEq, Nat.reduceLeDiff, reduceIte, Nat.reduceEqDiff, Int.reduceEq, Int.reduceLE, Int.reduceLT, Int.reduceNe, Nat.reduceMul, Nat.reduceSub, Int.reduceToNat, he, gp, b2, b9001, b10000, k1, k2, k3, k4, k5, k6, k7, k8, k9, k10, e3_0, e3_1, e3_2, e3_3, e3_4, setD_some]
      rw [show g3 r = true by unfold g3; simp only [e3_0, e3_1, e3_2, e3_3, e3_4, Bool.true_or, Bool.or_true, Bool.false_or, Bool.true_and, Bool.false_and, Bool.not_false, Bool.not_true, Bool.or_false]]
    | true =>
    refine callX_of (within_A r.setPos (by have := hl.setPos; omega) hn.setPos 12 (-366) 366 (by omega) false _ _ (hx.setPos.more _)) (List.prefix_refl _) ?_
    simp only [go_sem, Nat.reduceLT, Nat.reduceBEq, Nat.reduceAdd, Int.reduceBEq, Nat.reduceLeDiff, reduceIte, Nat.reduceEqDiff, Int.reduceEq, Int.reduceLE, Int.reduceLT, Int.reduceNe, Nat.reduceMul, Nat.reduceSub, Int.reduceToNat, he, gp, b2, b9001, b10000, k1, k2, k3, k4, k5, k6, k7, k8, k9, k10, e3_0, e3_1, e3_2, e3_3, e3_4, setD_some]
    refine callX_of (within_A r.month (by have := hl.month; omega) hn.month 12 1 12 (by omega) false _ _ (hx.month.more _)) (List.prefix_refl _) ?_
    simp only [go_sem, Nat.reduceLT, Nat.reduceBEq, Nat.reduceAdd, Int.reduceBEq, Nat.reduceLeDiff, reduceIte, Nat.reduceEqDiff, Int.reduceEq, Int.reduceLE, Int.reduceLT, Int.reduceNe, Nat.reduceMul, Nat.reduceSub, Int.reduceToNat, he, gp, b2, b9001, b10000, k1, k2, k3, k4, k5, k6, k7, k8, k9, k10, e3_0, e3_1, e3_2, e3_3, e3_4, setD_some]
    refine callX_of (within_A r.monthDay (by have := hl.monthDay; omega) hn.monthDay 12 (-31) 31 (by omega) false _ _ (hx.monthDay.more _)) (List.prefix_refl _) ?_
    simp only [go_sem, Nat.reduceLT, Nat.reduceBEq, Nat.reduceAdd, Int.reduceBEq, Nat.reduceLeDiff, reduceIte, Nat.reduceEqDiff, Int.reduceEq, Int.reduceLE, Int.reduceLT, Int.reduceNe, Nat.reduceMul, Nat.reduceSub, Int.reduceToNat, he, gp, b2, b9001, b10000, k1, k2, k3, k4, k5, k6, k7, k8, k9, k10, e3_0, e3_1, e3_2, e3_3, e3_4, setD_some]
    refine callX_of (within_A r.yearDay (by have := hl.yearDay; omega) hn.yearDay 12 (-366) 366 (by omega) false _ _ (hx.yearDay.more _)) (List.prefix_refl _) ?_
    simp only [go_sem, Nat.reduceLT, Nat.reduceBEq, Nat.reduceAdd, Int.reduceBEq, Nat.reduceLeDiff, reduceIte, Nat.reduceEqDiff, Int.reduceEq, Int.reduceLE, Int.reduceLT, Int.reduceNe, Nat.reduceMul, Nat.reduceSub, Int.reduceToNat, he, gp, b2, b9001, b10000, k1, k2, k3, k4, k5, k6, k7, k8, k9, k10, e3_0, e3_1, e3_2, e3_3, e3_4, setD_some]
    refine callX_of (within_A r.weekNo (by have := hl.weekNo; omega) hn.weekNo 12 (-53) 53 (by omega) false _ _ (hx.weekNo.more _)) (List.prefix_refl _) ?_
    simp only [go_sem, Nat.reduceLT, Nat.reduceBEq, Nat.reduceAdd, Int.reduceBEq, Nat.reduceLeDiff, reduceIte, Nat.reduceEqDiff, Int.reduceEq, Int.reduceLE, Int.reduceLT, Int.reduceNe, Nat.reduceMul, Nat.reduceSub, Int.reduceToNat, he, gp, b2, b9001, b10000, k1, k2, k3, k4, k5, k6, k7, k8, k9, k10, e3_0, e3_1, e3_2, e3_3, e3_4, setD_some]
    rw [show g3 r = false by unfold g3; simp only [e3_0, e3_1, e3_2, e3_3, e3_4, Bool.true_or, Bool.or_true, Bool.false_or, Bool.true_and, Bool.false_and, Bool.not_false, Bool.not_true, Bool.or_false]]
  rintro e h ⟨rfl, he, gp, gt⟩
  simp only [go_sem, Nat.reduceLT, Nat.reduceBEq, Nat.reduceAdd, Int.reduceBEq, Nat.reduceLeDiff, reduceIte, Nat.reduceEqDiff, Int.reduceEq, Int.reduceLE, Int.reduceLT, Int.reduceNe, Nat.reduceMul, Nat.reduceSub, Int.reduceToNat, he, gp, gt]
  refine condK_of (fun hq => ?_) fun hq => ?_
  · simp only [go_sem, Nat.reduceLT, Nat.reduceBEq, Nat.reduceAdd, Int.reduceBEq, Nat.reduceLeDiff, reduceIte, Nat.reduceEqDiff, Int.reduceEq, Int.reduceLE, Int.reduceLT, Int.reduceNe, Nat.reduceMul, Nat.reduceSub, Int.reduceToNat, he, gp, gt]
    rw [clean_g3 hq]
    exact ⟨rfl, _, rfl⟩
  rename g3 r = false => q3
  simp only [go_sem, Nat.reduceLT, Nat.reduceBEq, Nat.reduceAdd, Int.reduceBEq, Nat.reduceLeDiff, reduceIte, Nat.reduceEqDiff, Int.reduceEq, Int.reduceLE, Int.reduceLT, Int.reduceNe, Nat.reduceMul, Nat.reduceSub, Int.reduceToNat, he, gp, gt, k1, k2, k3, k4, k5, k6, k7, k8, k9, k10]
  refine callX_join (fun e h => h = H ++ [AObj.own 25 [vU r.freq, vB r.hasStart, vI r.start, vI r.interval, vI r.wkst, vI r.count, vB r.hasUntil, vI r.til, x.setPos, x.month, x.monthDay, x.yearDay, x.weekNo, x.day, x.hour, x.minute, x.second, x.easter]] ∧ len e = 264 ∧ AL.get e 1 = .ptr H.length 0 ∧ AL.get e 129 = vB (g4 r)) ?_ ?_
  · cases e4_0 : within r.hour 12 0 23 true with
    | false =>
      refine callX_of (within_A r.hour (by have := hl.hour; omega) hn.hour 12 0 23 (by omega) true _ _ (hx.hour.more _)) (List.prefix_refl _) ?_
      simp only [go_sem, Nat.reduceLT, Nat.reduceBEq, Nat.reduceAdd, Int.reduceBEq, Nat.reduceLeDiff, reduceIte, Nat.reduceEqDiff, Int.reduceEq, Int.reduceLE, Int.reduceLT, Int.reduceNe, Nat.reduceMul, Nat.reduceSub, Int.reduceToNat, he, gp, b2, b9001, b10000, k1, k2, k3, k4, k5, k6, k7, k8, k9, k10, e4_0, setD_some]
      rw [show g4 r = true by unfold g4; simp only [e4_0, Bool.true_or, Bool.or_true, Bool.false_or, Bool.true_and, Bool.false_and, Bool.not_false, Bool.not_true, Bool.or_false]]
    | true =>
    cases e4_1 : within r.minute 12 0 59 true with
    | false =>
      refine callX_of (within_A r.hour (by have := hl.hour; omega) hn.hour 12 0 23 (by omega) true _ _ (hx.hour.more _)) (List.prefix_refl _) ?_
      simp only [go_sem, Nat.reduceLT, Nat.reduceBEq, Nat.reduceAdd, Int.reduceBEq, Nat.reduceLeDiff, reduceIte, Nat.reduceEqDiff, Int.reduceEq, Int.reduceLE, Int.reduceLT, Int.reduceNe, Nat.reduceMul, Nat.reduceSub, Int.reduceToNat, he, gp, b2, b9001, b10000, k1, k2, k3, k4, k5, k6, k7, k8, k9, k10, e4_0, e4_1, setD_some]
      refine callX_of (within_A r.minute (by have := hl.minute; omega) hn.minute 12 0 59 (by omega) true _ _ (hx.minute.more _)) (List.prefix_refl _) ?_
      simp only [go_sem, Nat.reduceLT, Nat.reduceBEq, Nat.reduceAdd, Int.reduceBEq, Nat.reduceLeDiff, reduceIte, Nat.reduceEqDiff, Int.reduceEq, Int.reduceLE, Int.reduceLT, Int.reduceNe, Nat.reduceMul, Nat.reduceSub, Int.reduceToNat, he, gp, b2, b9001, b10000, k1, k2, k3, k4, k5, k6, k7, k8, k9, k10, e4_0, e4_1, setD_some]
      rw [show g4 r = true by unfold g4; simp only [e4_0, e4_1, Bool.true_or, Bool.or_true, Bool.false_or, Bool.true_and, Bool.false_and, Bool.not_false, Bool.not_true, Bool.or_false]]
    | true =>
    cases e4_2 : within r.second 12 0 59 true with
    | false =>
      refine callX_of (within_A r.hour (by have := hl.hour; omega) hn.hour 12 0 23 (by omega) true _ _ (hx.hour.more _)) (List.prefix_refl _) ?_
      simp only [go_sem, Nat.reduceLT, Nat.reduceBEq, Nat.reduceAdd, Int.reduceBEq, Nat.reduceLeDiff, reduceIte, Nat.reduceEqDiff, Int.reduceEq, Int.reduceLE, Int.reduceLT, Int.reduceNe, Nat.reduceMul, Nat.reduceSub, Int.reduceToNat, he, gp, b2, b9001, b10000, k1, k2, k3, k4, k5, k6, k7, k8, k9, k10, e4_0, e4_1, e4_2, setD_some]
      refine callX_of (within_A r.minute (by have := hl.minute; omega) hn.minute 12 0 59 (by omega) true _ _ (hx.minute.more _)) (List.prefix_refl _) ?_
      simp only [go_sem, Nat.reduceLT, Nat.reduceBEq, Nat.reduceAdd, Int.reduceBEq, Nat.reduceLeDiff, reduceIte, Nat.reduceEqDiff, Int.reduceEq, Int.reduceLE, Int.reduceLT, Int.reduceNe, Nat.reduceMul, Nat.reduceSub, Int.reduceToNat, he, gp, b2, b9001, b10000, k1, k2, k3, k4, k5, k6, k7, k8, k9, k10, e4_0, e4_1, e4_2, setD_some]
      refine callX_of (within_A r.second (by have := hl.second; omega) hn.second 12 0 59 (by omega) true _ _ (hx.second.more _)) (List.prefix_refl _) ?_
      simp only [go_sem, Nat.reduceLT, Nat.reduceBEq, Nat.reduceAdd, Int.reduceBEq, Nat.reduceLeDiff, reduceIte, Nat.reduceEqDiff, Int.reduceEq, Int.reduceLE, Int.reduceLT, Int.reduceNe, Nat.reduceMul, Nat.reduceSub, Int.reduceToNat, he, gp, b2, b9001, b10000, k1, k2, k3, k4, k5, k6, k7, k8, k9, k10, e4_0, e4_1, e4_2, setD_some]
      rw [show g4 r = true by unfold g4; simp only [e4_0, e4_1, e4_2, Bool.true_or, Bool.or_true, Bool.false_or, Bool.true_and, Bool.false_and, Bool.not_false, Bool.not_true, Bool.or_false]]
    | true =>
    cases e4_3 : within r.easter 12 (-80) 80 true with
    | false =>
      refine callX_of (within_A r.hour (by have := hl.hour; omega) hn.hour 12 0 23 (by omega) true _ _ (hx.hour.more _)) (List.prefix_refl _) ?_
      simp only [go_sem, Nat.reduceLT, Nat.reduceBEq, Nat.reduceAdd, Int.reduceBEq, Nat.reduceLeDiff, reduceIte, Nat.reduceEqDiff, Int.reduceEq, Int.reduceLE, Int.reduceLT, Int.reduceNe, Nat.reduceMul, Nat.reduceSub, Int.reduceToNat, he, gp, b2, b9001, b10000, k1, k2, k3, k4, k5, k6, k7, k8, k9, k10, e4_0, e4_1, e4_2, e4_3, setD_some]
      refine callX_of (within_A r.minute (by have := hl.minute; omega) hn.minute 12 0 59 (by omega) true _ _ (hx.minute.more _)) (List.prefix_refl _) ?_
      simp only [go_sem, Nat.reduceLT, Nat.reduceBEq, Nat.reduceAdd, Int.reduceBEq, Nat.reduceLeDiff, reduceIte, Nat.reduceEqDiff, Int.reduceEq, Int.reduceLE, Int.reduceLT, Int.reduceNe, Nat.reduceMul, Nat.reduceSub, Int.reduceToNat, he, gp, b2, b9001, b10000, k1, k2, k3, k4, k5, k6, k7, k8, k9, k10, e4_0, e4_1, e4_2, e4_3, setD_some]
      refine callX_of (within_A r.second (by have := hl.second; omega) hn.second 12 0 59 (by omega) true _ _ (hx.second.more _)) (List.prefix_refl _) ?_
      simp only [go_sem, Nat.reduceLT, Nat.reduceBEq, Nat.reduceAdd, Int.reduceBEq, Nat.reduceLeDiff, reduceIte, Nat.reduceEqDiff, Int.reduceEq, Int.reduceLE, Int.reduceLT, Int.reduceNe, Nat.reduceMul, Nat.reduceSub, Int.reduceToNat, he, gp, b2, b9001, b10000, k1, k2, k3, k4, k5, k6, k7, k8, k9, k10, e4_0, e4_1, e4_2, e4_3, setD_some]
      refine callX_of (within_A r.easter (by have := hl.easter; omega) hn.easter 12 (-80) 80 (by omega) true _ _ (hx.easter.more _)) (List.prefix_refl _) ?_
      simp only [go_sem, Nat.reduceLT, Nat.reduceBEq, Nat.reduceAdd, Int.reduceBEq, Nat.reduceLeDiff, reduceIte, Nat.reduceEqDiff, Int.reduceEq, Int.reduceLE, Int.reduceLT, Int.reduceNe, Nat.reduceMul, Nat.reduceSub, Int.reduceToNat, he, gp, b2, b9001, b10000, k1, k2, k3, k4, k5, k6, k7, k8, k9, k10, e4_0, e4_1, e4_2, e4_3, setD_some]
      rw [show g4 r = true by unfold g4; simp only [e4_0, e4_1, e4_2, e4_3, Bool.true_or, Bool.or_true, Bool.false_or, Bool.true_and, Bool.false_and, Bool.not_false, Bool.not_true, Bool.or_false]]
    | true =>
    cases e4_4 : decide (12 < (r.day.length : Int)) with
    | true =>
      refine callX_of (within_A r.hour (by have := hl.hour; omega) hn.hour 12 0 23 (by omega) true _ _ (hx.hour.more _)) (List.prefix_refl _) ?_
      simp only [go_sem, Nat.reduceLT, Nat.reduceBEq, Nat.reduceAdd, Int.reduceBEq, Nat.reduceLeDiff, reduceIte, Nat.reduceEqDiff, Int.reduceEq, Int.reduceLE, Int.reduceLT, Int.reduceNe, Nat.reduceMul, Nat.reduceSub, Int.reduceToNat, he, gp, b2, b9001, b10000, k1, k2, k3, k4, k5, k6, k7, k8, k9, k10, e4_0, e4_1, e4_2, e4_3, e4_4, setD_some]
      refine callX_of (within_A r.minute (by have := hl.minute; omega) hn.minute 12 0 59 (by omega) true _ _ (hx.minute.more _)) (List.prefix_refl _) ?_
      simp only [go_sem, Nat.reduceLT, Nat.reduceBEq, Nat.reduceAdd, Int.reduceBEq, Nat.reduceLeDiff, reduceIte, Nat.reduceEqDiff, Int.reduceEq, Int.reduceLE, Int.reduceLT, Int.reduceNe, Nat.reduceMul, Nat.reduceSub, Int.reduceToNat, he, gp, b2, b9001, b10000, k1, k2, k3, k4, k5, k6, k7, k8, k9, k10, e4_0, e4_1, e4_2, e4_3, e4_4, setD_some]
      refine callX_of (within_A r.second (by have := hl.second; omega) hn.second 12 0 59 (by omega) true _ _ (hx.second.more _)) (List.prefix_refl _) ?_
      simp only [go_sem, Nat.reduceLT, Nat.reduceBEq, Nat.reduceAdd, Int.reduceBEq, Nat.reduceLeDiff, reduceIte, Nat.reduceEqDiff, Int.reduceEq, Int.reduceLE, Int.reduceLT, Int.reduceNe, Nat.reduceMul, Nat.reduceSub, Int.reduceToNat, he, gp, b2, b9001, b10000, k1, k2, k3, k4, k5, k6, k7, k8, k9, k10, e4_0, e4_1, e4_2, e4_3, e4_4, setD_some]
      refine callX_of (within_A r.easter (by have := hl.easter; omega) hn.easter 12 (-80) 80 (by omega) true _ _ (hx.easter.more _)) (List.prefix_refl _) ?_
      simp only [go_sem, Nat.reduceLT, Nat.reduceBEq, Nat.reduceAdd, Int.reduceBEq, Nat.reduceLeDiff, reduceIte, Nat.reduceEqDiff, Int.reduceEq, Int.reduceLE, Int.reduceLT, Int.reduceNe, Nat.reduceMul, Nat.reduceSub, Int.reduceToNat, he, gp, b2, b9001, b10000, k1, k2, k3, k4, k5, k6, k7, k8, k9, k10, e4_0, e4_1, e4_2, e4_3, e4_4, setD_some]
      rw [show g4 r = true by unfold g4; simp only [e4_0, e4_1, e4_2, e4_3, e4_4, Bool.true_or, Bool.or_true, Bool.false_or, Bool.true_and, Bool.false_and, Bool.not_false, Bool.not_true, Bool.or_false]]
    | false =>
    refine callX_of (within_A r.hour (by have := hl.hour; omega) hn.hour 12 0 23 (by omega) true _ _ (hx.hour.more _)) (List.prefix_refl _) ?_
    simp only [go_sem, Nat.reduceLT, Nat.reduceBEq, Nat.reduceAdd, Int.reduceBEq, Nat.reduceLeDiff, reduceIte, Nat.reduceEqDiff, Int.reduceEq, Int.reduceLE, Int.reduceLT, Int.reduceNe, Nat.reduceMul, Nat.reduceSub, Int.reduceToNat, he, gp, b2, b9001, b10000, k1, k2, k3, k4, k5, k6, k7, k8, k9, k10, e4_0, e4_1, e4_2, e4_3, e4_4, setD_some]
    refine callX_of (within_A r.minute (by have := hl.minute; omega) hn.minute 12 0 59 (by omega) true _ _ (hx.minute.more _)) (List.prefix_refl _) ?_
    simp only [go_sem, Nat.reduceLT, Nat.reduceBEq, Nat.reduceAdd, Int.reduceBEq, Nat.reduceLeDiff, reduceIte, Nat.reduceEqDiff, Int.reduceEq, Int.reduceLE, Int.reduceLT, Int.reduceNe, Nat.reduceMul, Nat.reduceSub, Int.reduceToNat, he, gp, b2, b9001, b10000, k1, k2, k3, k4, k5, k6, k7, k8, k9, k10, e4_0, e4_1, e4_2, e4_3, e4_4, setD_some]
    refine callX_of (within_A r.second (by have := hl.second; omega) hn.second 12 0 59 (by omega) true _ _ (hx.second.more _)) (List.prefix_refl _) ?_
    simp only [go_sem, Nat.reduceLT, Nat.reduceBEq, Nat.reduceAdd, Int.reduceBEq, Nat.reduceLeDiff, reduceIte, Nat.reduceEqDiff, Int.reduceEq, Int.reduceLE, Int.reduceLT, Int.reduceNe, Nat.reduceMul, Nat.reduceSub, Int.reduceToNat, he, gp, b2, b9001, b10000, k1, k2, k3, k4, k5, k6, k7, k8, k9, k10, e4_0, e4_1, e4_2, e4_3, e4_4, setD_some]
    refine callX_of (within_A r.easter (by have := hl.easter; omega) hn.easter 12 (-80) 80 (by omega) true _ _ (hx.easter.more _)) (List.prefix_refl _) ?_
    simp only [go_sem, Nat.reduceLT, Nat.reduceBEq, Nat.reduceAdd, Int.reduceBEq, Nat.reduceLeDiff, reduceIte, Nat.reduceEqDiff, Int.reduceEq, Int.reduceLE, Int.reduceLT, Int.reduceNe, Nat.reduceMul, Nat.reduceSub, Int.reduceToNat, he, gp, b2, b9001, b10000, k1, k2, k3, k4, k5, k6, k7, k8, k9, k10, e4_0, e4_1, e4_2, e4_3, e4_4, setD_some]
    rw [show g4 r = false by unfold g4; simp only [e4_0, e4_1, e4_2, e4_3, e4_4, Bool.true_or, Bool.or_true, Bool.false_or, Bool.true_and, Bool.false_and, Bool.not_false, Bool.not_true, Bool.or_false]]
  rintro e h ⟨rfl, he, gp, gt⟩
  simp only [go_sem, Nat.reduceLT, Nat.reduceBEq, Nat.reduceAdd, Int.reduceBEq, Nat.reduceLeDiff, reduceIte, Nat.reduceEqDiff, Int.reduceEq, Int.reduceLE, Int.reduceLT, Int.reduceNe, Nat.reduceMul, Nat.reduceSub, Int.reduceToNat, he, gp, gt]
  refine condK_of (fun hq => ?_) fun hq => ?_
  · simp only [go_sem, Nat.reduceLT, Nat.reduceBEq, Nat.reduceAdd, Int.reduceBEq, Nat.reduceLeDiff, reduceIte, Nat.reduceEqDiff, Int.reduceEq, Int.reduceLE, Int.reduceLT, Int.reduceNe, Nat.reduceMul, Nat.reduceSub, Int.reduceToNat, he, gp, gt]
    rw [clean_g4 hq]
    exact ⟨rfl, _, rfl⟩
  rename g4 r = false => q4
  simp only [go_sem, Nat.reduceLT, Nat.reduceBEq, Nat.reduceAdd, Int.reduceBEq, Nat.reduceLeDiff, reduceIte, Nat.reduceEqDiff, Int.reduceEq, Int.reduceLE, Int.reduceLT, Int.reduceNe, Nat.reduceMul, Nat.reduceSub, Int.reduceToNat, he, gp, gt, k1, k2, k3, k4, k5, k6, k7, k8, k9, k10]
  obtain ⟨n1, n2, n3, n4, n5⟩ := g4_len q4
  have hmul := mul3 (a := max 1 (r.hour.length : Int)) (b := max 1 (r.minute.length : Int)) (c := max 1 (r.second.length : Int)) (by omega) (by omega) (by omega)
  rw [wI64 (n := max 1 (r.hour.length : Int) * max 1 (r.minute.length : Int)) (by omega), wI64 (n := max 1 (r.hour.length : Int) * max 1 (r.minute.length : Int) * max 1 (r.second.length : Int)) (by omega)]
  refine condK_of (fun hq => ?_) fun hq => ?_
  · simp only [go_sem, Nat.reduceLT, Nat.reduceBEq, Nat.reduceAdd, Int.reduceBEq, Nat.reduceLeDiff, reduceIte, Nat.reduceEqDiff, Int.reduceEq, Int.reduceLE, Int.reduceLT, Int.reduceNe, Nat.reduceMul, Nat.reduceSub, Int.reduceToNat, he, gp, gt]
    rw [clean_g5 hq]
    exact ⟨rfl, _, rfl⟩
  have q5' : g5 r = false := hq
  clear hmul gt
  rw [acode_skip, Kseq_normal, acode_seq]
  refine acode_join (fun e h => h = H ++ [AObj.own 25 [vU r.freq, vB r.hasStart, vI r.start, vI r.interval, vI r.wkst, vI r.count, vB r.hasUntil, vI r.til, x.setPos, x.month, x.monthDay, x.yearDay, x.weekNo, x.day, x.hour, x.minute, x.second, x.easter]] ∧ len e = 264 ∧ AL.get e 1 = .ptr H.length 0 ∧ AL.get e 3 = vI 0) (by simp only [go_sem, Nat.reduceLT, Nat.reduceBEq, Nat.reduceAdd, Int.reduceBEq, Nat.reduceLeDiff, reduceIte, Nat.reduceEqDiff, Int.reduceEq, Int.reduceLE, Int.reduceLT, Int.reduceNe, Nat.reduceMul, Nat.reduceSub, Int.reduceToNat, he, gp]) ?_
  rintro e h ⟨rfl, he, gp, g3⟩
  rw [Kseq_normal, acode_seq]
  refine acode_join (fun e h => h = H ++ [AObj.own 25 [vU r.freq, vB r.hasStart, vI r.start, vI r.interval, vI r.wkst, vI r.count, vB r.hasUntil, vI r.til, x.setPos, x.month, x.monthDay, x.yearDay, x.weekNo, x.day, x.hour, x.minute, x.second, x.easter]] ∧ len e = 264 ∧ AL.get e 1 = .ptr H.length 0 ∧ AL.get e 3 = vI (mostOf r)) ?_ ?_
  · by_cases f1 : r.freq = 1
    · have d1 : decide ((r.freq : Int) = 1) = true := decide_eq_true (by omega)
      simp only [go_sem, Nat.reduceLT, Nat.reduceBEq, Nat.reduceAdd, Int.reduceBEq, Nat.reduceLeDiff, reduceIte, Nat.reduceEqDiff, Int.reduceEq, Int.reduceLE, Int.reduceLT, Int.reduceNe, Nat.reduceMul, Nat.reduceSub, Int.reduceToNat, he, gp, g3, k2, k5, d1]
      unfold mostOf
      rw [if_pos (.inl f1)]
    have d1 : decide ((r.freq : Int) = 1) = false := decide_eq_false (by omega)
    by_cases f0 : r.freq = 0
    · have d0 : decide ((r.freq : Int) = 0) = true := decide_eq_true (by omega)
      by_cases fm : 0 < r.month.length
      · have dm : decide (0 < (r.month.length : Int)) = true := decide_eq_true (by omega)
        simp only [go_sem, Nat.reduceLT, Nat.reduceBEq, Nat.reduceAdd, Int.reduceBEq, Nat.reduceLeDiff, reduceIte, Nat.reduceEqDiff, Int.reduceEq, Int.reduceLE, Int.reduceLT, Int.reduceNe, Nat.reduceMul, Nat.reduceSub, Int.reduceToNat, he, gp, g3, k2, k5, d1, d0, dm]
        unfold mostOf
        rw [if_pos (.inr ⟨f0, fm⟩)]
      have dm : decide (0 < (r.month.length : Int)) = false := decide_eq_false (by omega)
      by_cases fw : r.weekNo.length = 0
      · have dw : decide ((r.weekNo.length : Int) = 0) = true := decide_eq_true (by omega)
        simp only [go_sem, Nat.reduceLT, Nat.reduceBEq, Nat.reduceAdd, Int.reduceBEq, Nat.reduceLeDiff, reduceIte, Nat.reduceEqDiff, Int.reduceEq, Int.reduceLE, Int.reduceLT, Int.reduceNe, Nat.reduceMul, Nat.reduceSub, Int.reduceToNat, he, gp, g3, k2, k5, d1, d0, dm, dw]
        unfold mostOf
        rw [if_neg (by omega), if_pos ⟨f0, fw⟩]
      have dw : decide ((r.weekNo.length : Int) = 0) = false := decide_eq_false (by omega)
      simp only [go_sem, Nat.reduceLT, Nat.reduceBEq, Nat.reduceAdd, Int.reduceBEq, Nat.reduceLeDiff, reduceIte, Nat.reduceEqDiff, Int.reduceEq, Int.reduceLE, Int.reduceLT, Int.reduceNe, Nat.reduceMul, Nat.reduceSub, Int.reduceToNat, he, gp, g3, k2, k5, d1, d0, dm, dw]
      unfold mostOf
      rw [if_neg (by omega), if_neg (by omega)]
    have d0 : decide ((r.freq : Int) = 0) = false := decide_eq_false (by omega)
    simp only [go_sem, Nat.reduceLT, Nat.reduceBEq, Nat.reduceAdd, Int.reduceBEq, Nat.reduceLeDiff, reduceIte, Nat.reduceEqDiff, Int.reduceEq, Int.reduceLE, Int.reduceLT, Int.reduceNe, Nat.reduceMul, Nat.reduceSub, Int.reduceToNat, he, gp, g3, k2, k5, d1, d0]
    unfold mostOf
    rw [if_neg (by omega), if_neg (by omega)]
  rintro e h ⟨rfl, he, gp, g3⟩
  simp only [go_sem, Nat.reduceLT, Nat.reduceBEq, Nat.reduceAdd, Int.reduceBEq, Nat.reduceLeDiff, reduceIte, Nat.reduceEqDiff, Int.reduceEq, Int.reduceLE, Int.reduceLT, Int.reduceNe, Nat.reduceMul, Nat.reduceSub, Int.reduceToNat, he, gp, g3, k6]
  refine A_while r.day.length (fun k e h => (∃ G, h = H ++ [AObj.own 25 [vU r.freq, vB r.hasStart, vI r.start, vI r.interval, vI r.wkst, vI r.count, vB r.hasUntil, vI r.til, x.setPos, x.month, x.monthDay, x.yearDay, x.weekNo, x.day, x.hour, x.minute, x.second, x.easter]] ++ G) ∧ len e = 264 ∧ AL.get e 1 = .ptr H.length 0 ∧ AL.get e 3 = vI (mostOf r) ∧ AL.get e 171 = x.day ∧ AL.get e 172 = vI r.day.length ∧ ∃ i : Nat, AL.get e 173 = vI i ∧ i + k = r.day.length ∧ (List.range i).all (dayAt r.day (mostOf r)) = true) (by kernel_rfl) ?_ ?_
  · simp only [go_sem, Nat.reduceLT, Nat.reduceBEq, Nat.reduceAdd, Int.reduceBEq, Nat.reduceLeDiff, reduceIte, Nat.reduceEqDiff, Int.reduceEq, Int.reduceLE, Int.reduceLT, Int.reduceNe, Nat.reduceMul, Nat.reduceSub, Int.reduceToNat, he, gp, g3]
    exact ⟨⟨[], rfl⟩, 0, rfl, by omega, rfl⟩
  rintro k e h ⟨⟨G, rfl⟩, he, gp, g3, g171, g172, i, g173, hik, hall⟩
  rw [List.append_assoc, List.cons_append, List.nil_append]
  simp only [go_sem, Nat.reduceLT, Nat.reduceBEq, Nat.reduceAdd, Int.reduceBEq, Nat.reduceLeDiff, reduceIte, Nat.reduceEqDiff, Int.reduceEq, Int.reduceLE, Int.reduceLT, Int.reduceNe, Nat.reduceMul, Nat.reduceSub, Int.reduceToNat, he, gp, g3, g171, g172, g173]
  refine condK_of (fun hc => ?_) fun hc => ?_
  · have hc := of_decide_eq_true hc
    have hi : i < r.day.length := by omega
    have hx2 := hx.day.more (AObj.own 25 [vU r.freq, vB r.hasStart, vI r.start, vI r.interval, vI r.wkst, vI r.count, vB r.hasUntil, vI r.til, x.setPos, x.month, x.monthDay, x.yearDay, x.weekNo, x.day, x.hour, x.minute, x.second, x.easter] :: G)
    rcases id hx2 with ⟨_, h0⟩ | ⟨own, o, off, cs, hxd, hcs, hcell⟩
    · omega
    obtain ⟨hd1, hd2⟩ := days_load (H := H) hcell hi
    rw [hxd] at hx2
    have hdef : dayAt r.day (mostOf r) i = (!((r.day.take i).contains (r.day.getD i (0, 0))) && !(decide ((r.day.getD i (0, 0)).1 < 0) || decide (6 < (r.day.getD i (0, 0)).1) || decide ((r.day.getD i (0, 0)).2 < -mostOf r) || decide (mostOf r < (r.day.getD i (0, 0)).2))) := rfl
    have wi : IntKind.i64.wrap ((i : Int) + 1) = ((i + 1 : Nat) : Int) := by rw [wI64 (by omega)]; rfl
    have wm : IntKind.i64.wrap (0 - mostOf r) = -mostOf r := by have := mostOf_bound r; rw [wI64 (by omega)]; omega
    generalize r.day.getD i (0, 0) = dd at *
    rw [hxd] at g171
    simp only [go_sem, Nat.reduceLT, Nat.reduceBEq, Nat.reduceAdd, Int.reduceBEq, Nat.reduceLeDiff, reduceIte, Nat.reduceEqDiff, Int.reduceEq, Int.reduceLE, Int.reduceLT, Int.reduceNe, Nat.reduceMul, Nat.reduceSub, Int.reduceToNat, he, gp, g3, g171, g172, g173, hcs, hd1, hd2, Int.toNat_natCast]
    refine ⟨by omega, ?_⟩
    refine acode_draw mixed (by kernel_rfl) ?_
    simp only [go_sem, Nat.reduceLT, Nat.reduceBEq, Nat.reduceAdd, Int.reduceBEq, Nat.reduceLeDiff, reduceIte, Nat.reduceEqDiff, Int.reduceEq, Int.reduceLE, Int.reduceLT, Int.reduceNe, Nat.reduceMul, Nat.reduceSub, Int.reduceToNat, he, gp, g3, g171, g172, g173, hxd, nn]
    refine ⟨by omega, ?_⟩
    have hx3 := (DaysAt.take (i := i) hx2 (by omega)).more [AObj.own 47 [vI dd.1, vI dd.2]]
    rw [List.append_assoc, List.cons_append] at hx3
    refine callX_of (containsD_A (r.day.take i) (by rw [List.length_take]; omega) dd _ _ hx3) (List.prefix_refl _) ?_
    cases hq : (r.day.take i).contains dd with
    | true =>
      simp only [go_sem, Nat.reduceLT, Nat.reduceBEq, Nat.reduceAdd, Int.reduceBEq, Nat.reduceLeDiff, reduceIte, Nat.reduceEqDiff, Int.reduceEq, Int.reduceLE, Int.reduceLT, Int.reduceNe, Nat.reduceMul, Nat.reduceSub, Int.reduceToNat, he, gp, g3, g171, g172, g173, setD_some]
      rw [clean_g6 (g6_fail hi (show dayAt r.day (mostOf r) i = false by rw [hdef, hq]; rfl))]
      exact ⟨rfl, _, rfl⟩
    | false =>
    cases z0 : decide (dd.1 < 0) with
    | true =>
      simp only [go_sem, Nat.reduceLT, Nat.reduceBEq, Nat.reduceAdd, Int.reduceBEq, Nat.reduceLeDiff, reduceIte, Nat.reduceEqDiff, Int.reduceEq, Int.reduceLE, Int.reduceLT, Int.reduceNe, Nat.reduceMul, Nat.reduceSub, Int.reduceToNat, he, gp, g3, g171, g172, g173, setD_some, wm, z0]
      rw [clean_g6 (g6_fail hi (show dayAt r.day (mostOf r) i = false by rw [hdef, hq]; simp only [z0, Bool.true_or, Bool.or_true, Bool.false_or, Bool.not_true, Bool.and_false]))]
      exact ⟨rfl, _, rfl⟩
    | false =>
    cases z1 : decide (6 < dd.1) with
    | true =>
      simp only [go_sem, Nat.reduceLT, Nat.reduceBEq, Nat.reduceAdd, Int.reduceBEq, Nat.reduceLeDiff, reduceIte, Nat.reduceEqDiff, Int.reduceEq, Int.reduceLE, Int.reduceLT, Int.reduceNe, Nat.reduceMul, Nat.reduceSub, Int.reduceToNat, he, gp, g3, g171, g172, g173, setD_some, wm, z0, z1]
      rw [clean_g6 (g6_fail hi (show dayAt r.day (mostOf r) i = false by rw [hdef, hq]; simp only [z0, z1, Bool.true_or, Bool.or_true, Bool.false_or, Bool.not_true, Bool.and_false]))]
      exact ⟨rfl, _, rfl⟩
    | false =>
    cases z2 : decide (dd.2 < -mostOf r) with
    | true =>
      simp only [go_sem, Nat.reduceLT, Nat.reduceBEq, Nat.reduceAdd, Int.reduceBEq, Nat.reduceLeDiff, reduceIte, Nat.reduceEqDiff, Int.reduceEq, Int.reduceLE, Int.reduceLT, Int.reduceNe, Nat.reduceMul, Nat.reduceSub, Int.reduceToNat, he, gp, g3, g171, g172, g173, setD_some, wm, z0, z1, z2]
      rw [clean_g6 (g6_fail hi (show dayAt r.day (mostOf r) i = false by rw [hdef, hq]; simp only [z0, z1, z2, Bool.true_or, Bool.or_true, Bool.false_or, Bool.not_true, Bool.and_false]))]
      exact ⟨rfl, _, rfl⟩
    | false =>
    cases z3 : decide (mostOf r < dd.2) with
    | true =>
      simp only [go_sem, Nat.reduceLT, Nat.reduceBEq, Nat.reduceAdd, Int.reduceBEq, Nat.reduceLeDiff, reduceIte, Nat.reduceEqDiff, Int.reduceEq, Int.reduceLE, Int.reduceLT, Int.reduceNe, Nat.reduceMul, Nat.reduceSub, Int.reduceToNat, he, gp, g3, g171, g172, g173, setD_some, wm, z0, z1, z2, z3]
      rw [clean_g6 (g6_fail hi (show dayAt r.day (mostOf r) i = false by rw [hdef, hq]; simp only [z0, z1, z2, z3, Bool.true_or, Bool.or_true, Bool.false_or, Bool.not_true, Bool.and_false]))]
      exact ⟨rfl, _, rfl⟩
    | false =>
    simp only [go_sem, Nat.reduceLT, Nat.reduceBEq, Nat.reduceAdd, Int.reduceBEq, Nat.reduceLeDiff, reduceIte, Nat.reduceEqDiff, Int.reduceEq, Int.reduceLE, Int.reduceLT, Int.reduceNe, Nat.reduceMul, Nat.reduceSub, Int.reduceToNat, he, gp, g3, g171, g172, g173, setD_some, wm, wi, z0, z1, z2, z3]
    refine ⟨k - 1, by omega, ⟨_, rfl⟩, i + 1, rfl, by omega, ?_⟩
    rw [List.range_succ, List.all_append, hall, List.all_cons, List.all_nil, show dayAt r.day (mostOf r) i = true by rw [hdef, hq]; simp only [z0, z1, z2, z3, Bool.or_false, Bool.not_false, Bool.and_true]]
    rfl
  have hc := of_decide_eq_false hc
  have hi : i = r.day.length := by omega
  rw [hi] at hall
  have q6 : g6 r = false := by unfold g6; rw [hall]; rfl
  simp only [go_sem, Nat.reduceLT, Nat.reduceBEq, Nat.reduceAdd, Int.reduceBEq, Nat.reduceLeDiff, reduceIte, Nat.reduceEqDiff, Int.reduceEq, Int.reduceLE, Int.reduceLT, Int.reduceNe, Nat.reduceMul, Nat.reduceSub, Int.reduceToNat, he, gp, k5]
  refine guardK_join (fun e h => (∃ G, h = H ++ AObj.own 25 [vU r.freq, vB r.hasStart, vI r.start, vI r.interval, vI r.wkst, vI r.count, vB r.hasUntil, vI r.til, x.setPos, x.month, x.monthDay, x.yearDay, x.weekNo, x.day, x.hour, x.minute, x.second, x.easter] :: G) ∧ len e = 264 ∧ AL.get e 1 = .ptr H.length 0 ∧ AL.get e 236 = vB (g7 r)) ?_ ?_
  · by_cases cf0 : r.freq = 0
    · have df0 : decide ((r.freq : Int) = 0) = true := decide_eq_true (by omega)
      have nf0 : decide (r.freq = 0) = true := decide_eq_true (by omega)
      by_cases ca : 0 < r.weekNo.length
      · have da : decide (0 < (r.weekNo.length : Int)) = true := decide_eq_true (by omega)
        have na : decide (0 < r.weekNo.length) = true := decide_eq_true (by omega)
        by_cases cb : 0 < r.easter.length
        · have db : decide (0 < (r.easter.length : Int)) = true := decide_eq_true (by omega)
          have nb : decide (0 < r.easter.length) = true := decide_eq_true (by omega)
          by_cases cc : 0 < r.monthDay.length
          · have dc : decide (0 < (r.monthDay.length : Int)) = true := decide_eq_true (by omega)
            have nc : decide (0 < r.monthDay.length) = true := decide_eq_true (by omega)
            by_cases cf2 : r.freq = 2
            · have df2 : decide ((r.freq : Int) = 2) = true := decide_eq_true (by omega)
              have nf2 : decide (r.freq = 2) = true := decide_eq_true (by omega)
              simp only [go_sem, Nat.reduceLT, Nat.reduceBEq, Nat.reduceAdd, Int.reduceBEq, Nat.reduceLeDiff, reduceIte, Nat.reduceEqDiff, Int.reduceEq, Int.reduceLE, Int.reduceLT, Int.reduceNe, Nat.reduceMul, Nat.reduceSub, Int.reduceToNat, he, gp, k1, k2, k3, k4, k5, k6, k10, df0, da, db, dc, df2]
              exact ⟨⟨_, rfl⟩, by rw [show g7 r = true by unfold g7; simp only [nf0, na, nb, nc, nf2, Bool.true_or, Bool.or_true, Bool.false_or, Bool.true_and, Bool.false_and, Bool.not_false, Bool.not_true, Bool.or_false, Bool.and_false, Bool.and_true]]⟩
            have df2 : decide ((r.freq : Int) = 2) = false := decide_eq_false (by omega)
            have nf2 : decide (r.freq = 2) = false := decide_eq_false (by omega)
            simp only [go_sem, Nat.reduceLT, Nat.reduceBEq, Nat.reduceAdd, Int.reduceBEq, Nat.reduceLeDiff, reduceIte, Nat.reduceEqDiff, Int.reduceEq, Int.reduceLE, Int.reduceLT, Int.reduceNe, Nat.reduceMul, Nat.reduceSub, Int.reduceToNat, he, gp, k1, k2, k3, k4, k5, k6, k10, df0, da, db, dc, df2]
            exact ⟨⟨_, rfl⟩, by rw [show g7 r = false by unfold g7; simp only [nf0, na, nb, nc, nf2, Bool.true_or, Bool.or_true, Bool.false_or, Bool.true_and, Bool.false_and, Bool.not_false, Bool.not_true, Bool.or_false, Bool.and_false, Bool.and_true]]⟩
          have dc : decide (0 < (r.monthDay.length : Int)) = false := decide_eq_false (by omega)
          have nc : decide (0 < r.monthDay.length) = false := decide_eq_false (by omega)
          simp only [go_sem, Nat.reduceLT, Nat.reduceBEq, Nat.reduceAdd, Int.reduceBEq, Nat.reduceLeDiff, reduceIte, Nat.reduceEqDiff, Int.reduceEq, Int.reduceLE, Int.reduceLT, Int.reduceNe, Nat.reduceMul, Nat.reduceSub, Int.reduceToNat, he, gp, k1, k2, k3, k4, k5, k6, k10, df0, da, db, dc]
          exact ⟨⟨_, rfl⟩, by rw [show g7 r = false by unfold g7; simp only [nf0, na, nb, nc, Bool.true_or, Bool.or_true, Bool.false_or, Bool.true_and, Bool.false_and, Bool.not_false, Bool.not_true, Bool.or_false, Bool.and_false, Bool.and_true]]⟩
        have db : decide (0 < (r.easter.length : Int)) = false := decide_eq_false (by omega)
        have nb : decide (0 < r.easter.length) = false := decide_eq_false (by omega)
        by_cases cc : 0 < r.monthDay.length
        · have dc : decide (0 < (r.monthDay.length : Int)) = true := decide_eq_true (by omega)
          have nc : decide (0 < r.monthDay.length) = true := decide_eq_true (by omega)
          by_cases cf2 : r.freq = 2
          · have df2 : decide ((r.freq : Int) = 2) = true := decide_eq_true (by omega)
            have nf2 : decide (r.freq = 2) = true := decide_eq_true (by omega)
            simp only [go_sem, Nat.reduceLT, Nat.reduceBEq, Nat.reduceAdd, Int.reduceBEq, Nat.reduceLeDiff, reduceIte, Nat.reduceEqDiff, Int.reduceEq, Int.reduceLE, Int.reduceLT, Int.reduceNe, Nat.reduceMul, Nat.reduceSub, Int.reduceToNat, he, gp, k1, k2, k3, k4, k5, k6, k10, df0, da, db, dc, df2]
            exact ⟨⟨_, rfl⟩, by rw [show g7 r = true by unfold g7; simp only [nf0, na, nb, nc, nf2, Bool.true_or, Bool.or_true, Bool.false_or, Bool.true_and, Bool.false_and, Bool.not_false, Bool.not_true, Bool.or_false, Bool.and_false, Bool.and_true]]⟩
          have df2 : decide ((r.freq : Int) = 2) = false := decide_eq_false (by omega)
          have nf2 : decide (r.freq = 2) = false := decide_eq_false (by omega)
          simp only [go_sem, Nat.reduceLT, Nat.reduceBEq, Nat.reduceAdd, Int.reduceBEq, Nat.reduceLeDiff, reduceIte, Nat.reduceEqDiff, Int.reduceEq, Int.reduceLE, Int.reduceLT, Int.reduceNe, Nat.reduceMul, Nat.reduceSub, Int.reduceToNat, he, gp, k1, k2, k3, k4, k5, k6, k10, df0, da, db, dc, df2]
          exact ⟨⟨_, rfl⟩, by rw [show g7 r = false by unfold g7; simp only [nf0, na, nb, nc, nf2, Bool.true_or, Bool.or_true, Bool.false_or, Bool.true_and, Bool.false_and, Bool.not_false, Bool.not_true, Bool.or_false, Bool.and_false, Bool.and_true]]⟩
        have dc : decide (0 < (r.monthDay.length : Int)) = false := decide_eq_false (by omega)
        have nc : decide (0 < r.monthDay.length) = false := decide_eq_false (by omega)
        simp only [go_sem, Nat.reduceLT, Nat.reduceBEq, Nat.reduceAdd, Int.reduceBEq, Nat.reduceLeDiff, reduceIte, Nat.reduceEqDiff, Int.reduceEq, Int.reduceLE, Int.reduceLT, Int.reduceNe, Nat.reduceMul, Nat.reduceSub, Int.reduceToNat, he, gp, k1, k2, k3, k4, k5, k6, k10, df0, da, db, dc]
        exact ⟨⟨_, rfl⟩, by rw [show g7 r = false by unfold g7; simp only [nf0, na, nb, nc, Bool.true_or, Bool.or_true, Bool.false_or, Bool.true_and, Bool.false_and, Bool.not_false, Bool.not_true, Bool.or_false, Bool.and_false, Bool.and_true]]⟩
      have da : decide (0 < (r.weekNo.length : Int)) = false := decide_eq_false (by omega)
      have na : decide (0 < r.weekNo.length) = false := decide_eq_false (by omega)
      by_cases cb : 0 < r.easter.length
      · have db : decide (0 < (r.easter.length : Int)) = true := decide_eq_true (by omega)
        have nb : decide (0 < r.easter.length) = true := decide_eq_true (by omega)
        by_cases cc : 0 < r.monthDay.length
        · have dc : decide (0 < (r.monthDay.length : Int)) = true := decide_eq_true (by omega)
          have nc : decide (0 < r.monthDay.length) = true := decide_eq_true (by omega)
          by_cases cf2 : r.freq = 2
          · have df2 : decide ((r.freq : Int) = 2) = true := decide_eq_true (by omega)
            have nf2 : decide (r.freq = 2) = true := decide_eq_true (by omega)
            simp only [go_sem, Nat.reduceLT, Nat.reduceBEq, Nat.reduceAdd, Int.reduceBEq, Nat.reduceLeDiff, reduceIte, Nat.reduceEqDiff, Int.reduceEq, Int.reduceLE, Int.reduceLT, Int.reduceNe, Nat.reduceMul, Nat.reduceSub, Int.reduceToNat, he, gp, k1, k2, k3, k4, k5, k6, k10, df0, da, db, dc, df2]
            exact ⟨⟨_, rfl⟩, by rw [show g7 r = true by unfold g7; simp only [nf0, na, nb, nc, nf2, Bool.true_or, Bool.or_true, Bool.false_or, Bool.true_and, Bool.false_and, Bool.not_false, Bool.not_true, Bool.or_false, Bool.and_false, Bool.and_true]]⟩
          have df2 : decide ((r.freq : Int) = 2) = false := decide_eq_false (by omega)
          have nf2 : decide (r.freq = 2) = false := decide_eq_false (by omega)
          simp only [go_sem, Nat.reduceLT, Nat.reduceBEq, Nat.reduceAdd, Int.reduceBEq, Nat.reduceLeDiff, reduceIte, Nat.reduceEqDiff, Int.reduceEq, Int.reduceLE, Int.reduceLT, Int.reduceNe, Nat.reduceMul, Nat.reduceSub, Int.reduceToNat, he, gp, k1, k2, k3, k4, k5, k6, k10, df0, da, db, dc, df2]
          exact ⟨⟨_, rfl⟩, by rw [show g7 r = false by unfold g7; simp only [nf0, na, nb, nc, nf2, Bool.true_or, Bool.or_true, Bool.false_or, Bool.true_and, Bool.false_and, Bool.not_false, Bool.not_true, Bool.or_false, Bool.and_false, Bool.and_true]]⟩
        have dc : decide (0 < (r.monthDay.length : Int)) = false := decide_eq_false (by omega)
        have nc : decide (0 < r.monthDay.length) = false := decide_eq_false (by omega)
        simp only [go_sem, Nat.reduceLT, Nat.reduceBEq, Nat.reduceAdd, Int.reduceBEq, Nat.reduceLeDiff, reduceIte, Nat.reduceEqDiff, Int.reduceEq, Int.reduceLE, Int.reduceLT, Int.reduceNe, Nat.reduceMul, Nat.reduceSub, Int.reduceToNat, he, gp, k1, k2, k3, k4, k5, k6, k10, df0, da, db, dc]
        exact ⟨⟨_, rfl⟩, by rw [show g7 r = false by unfold g7; simp only [nf0, na, nb, nc, Bool.true_or, Bool.or_true, Bool.false_or, Bool.true_and, Bool.false_and, Bool.not_false, Bool.not_true, Bool.or_false, Bool.and_false, Bool.and_true]]⟩
      have db : decide (0 < (r.easter.length : Int)) = false := decide_eq_false (by omega)
      have nb : decide (0 < r.easter.length) = false := decide_eq_false (by omega)
      by_cases cc : 0 < r.monthDay.length
      · have dc : decide (0 < (r.monthDay.length : Int)) = true := decide_eq_true (by omega)
        have nc : decide (0 < r.monthDay.length) = true := decide_eq_true (by omega)
        by_cases cf2 : r.freq = 2
        · have df2 : decide ((r.freq : Int) = 2) = true := decide_eq_true (by omega)
          have nf2 : decide (r.freq = 2) = true := decide_eq_true (by omega)
          simp only [go_sem, Nat.reduceLT, Nat.reduceBEq, Nat.reduceAdd, Int.reduceBEq, Nat.reduceLeDiff, reduceIte, Nat.reduceEqDiff, Int.reduceEq, Int.reduceLE, Int.reduceLT, Int.reduceNe, Nat.reduceMul, Nat.reduceSub, Int.reduceToNat, he, gp, k1, k2, k3, k4, k5, k6, k10, df0, da, db, dc, df2]
          exact ⟨⟨_, rfl⟩, by rw [show g7 r = true by unfold g7; simp only [nf0, na, nb, nc, nf2, Bool.true_or, Bool.or_true, Bool.false_or, Bool.true_and, Bool.false_and, Bool.not_false, Bool.not_true, Bool.or_false, Bool.and_false, Bool.and_true]]⟩
        have df2 : decide ((r.freq : Int) = 2) = false := decide_eq_false (by omega)
        have nf2 : decide (r.freq = 2) = false := decide_eq_false (by omega)
        simp only [go_sem, Nat.reduceLT, Nat.reduceBEq, Nat.reduceAdd, Int.reduceBEq, Nat.reduceLeDiff, reduceIte, Nat.reduceEqDiff, Int.reduceEq, Int.reduceLE, Int.reduceLT, Int.reduceNe, Nat.reduceMul, Nat.reduceSub, Int.reduceToNat, he, gp, k1, k2, k3, k4, k5, k6, k10, df0, da, db, dc, df2]
        exact ⟨⟨_, rfl⟩, by rw [show g7 r = false by unfold g7; simp only [nf0, na, nb, nc, nf2, Bool.true_or, Bool.or_true, Bool.false_or, Bool.true_and, Bool.false_and, Bool.not_false, Bool.not_true, Bool.or_false, Bool.and_false, Bool.and_true]]⟩
      have dc : decide (0 < (r.monthDay.length : Int)) = false := decide_eq_false (by omega)
      have nc : decide (0 < r.monthDay.length) = false := decide_eq_false (by omega)
      simp only [go_sem, Nat.reduceLT, Nat.reduceBEq, Nat.reduceAdd, Int.reduceBEq, Nat.reduceLeDiff, reduceIte, Nat.reduceEqDiff, Int.reduceEq, Int.reduceLE, Int.reduceLT, Int.reduceNe, Nat.reduceMul, Nat.reduceSub, Int.reduceToNat, he, gp, k1, k2, k3, k4, k5, k6, k10, df0, da, db, dc]
      exact ⟨⟨_, rfl⟩, by rw [show g7 r = false by unfold g7; simp only [nf0, na, nb, nc, Bool.true_or, Bool.or_true, Bool.false_or, Bool.true_and, Bool.false_and, Bool.not_false, Bool.not_true, Bool.or_false, Bool.and_false, Bool.and_true]]⟩
    have df0 : decide ((r.freq : Int) = 0) = false := decide_eq_false (by omega)
    have nf0 : decide (r.freq = 0) = false := decide_eq_false (by omega)
    by_cases ca : 0 < r.weekNo.length
    · have da : decide (0 < (r.weekNo.length : Int)) = true := decide_eq_true (by omega)
      have na : decide (0 < r.weekNo.length) = true := decide_eq_true (by omega)
      by_cases cb : 0 < r.easter.length
      · have db : decide (0 < (r.easter.length : Int)) = true := decide_eq_true (by omega)
        have nb : decide (0 < r.easter.length) = true := decide_eq_true (by omega)
        by_cases cc : 0 < r.monthDay.length
        · have dc : decide (0 < (r.monthDay.length : Int)) = true := decide_eq_true (by omega)
          have nc : decide (0 < r.monthDay.length) = true := decide_eq_true (by omega)
          simp only [go_sem, Nat.reduceLT, Nat.reduceBEq, Nat.reduceAdd, Int.reduceBEq, Nat.reduceLeDiff, reduceIte, Nat.reduceEqDiff, Int.reduceEq, Int.reduceLE, Int.reduceLT, Int.reduceNe, Nat.reduceMul, Nat.reduceSub, Int.reduceToNat, he, gp, k1, k2, k3, k4, k5, k6, k10, df0, da, db, dc]
          exact ⟨⟨_, rfl⟩, by rw [show g7 r = true by unfold g7; simp only [nf0, na, nb, nc, Bool.true_or, Bool.or_true, Bool.false_or, Bool.true_and, Bool.false_and, Bool.not_false, Bool.not_true, Bool.or_false, Bool.and_false, Bool.and_true]]⟩
        have dc : decide (0 < (r.monthDay.length : Int)) = false := decide_eq_false (by omega)
        have nc : decide (0 < r.monthDay.length) = false := decide_eq_false (by omega)
        simp only [go_sem, Nat.reduceLT, Nat.reduceBEq, Nat.reduceAdd, Int.reduceBEq, Nat.reduceLeDiff, reduceIte, Nat.reduceEqDiff, Int.reduceEq, Int.reduceLE, Int.reduceLT, Int.reduceNe, Nat.reduceMul, Nat.reduceSub, Int.reduceToNat, he, gp, k1, k2, k3, k4, k5, k6, k10, df0, da, db, dc]
        exact ⟨⟨_, rfl⟩, by rw [show g7 r = true by unfold g7; simp only [nf0, na, nb, nc, Bool.true_or, Bool.or_true, Bool.false_or, Bool.true_and, Bool.false_and, Bool.not_false, Bool.not_true, Bool.or_false, Bool.and_false, Bool.and_true]]⟩
      have db : decide (0 < (r.easter.length : Int)) = false := decide_eq_false (by omega)
      have nb : decide (0 < r.easter.length) = false := decide_eq_false (by omega)
      by_cases cc : 0 < r.monthDay.length
      · have dc : decide (0 < (r.monthDay.length : Int)) = true := decide_eq_true (by omega)
        have nc : decide (0 < r.monthDay.length) = true := decide_eq_true (by omega)
        simp only [go_sem, Nat.reduceLT, Nat.reduceBEq, Nat.reduceAdd, Int.reduceBEq, Nat.reduceLeDiff, reduceIte, Nat.reduceEqDiff, Int.reduceEq, Int.reduceLE, Int.reduceLT, Int.reduceNe, Nat.reduceMul, Nat.reduceSub, Int.reduceToNat, he, gp, k1, k2, k3, k4, k5, k6, k10, df0, da, db, dc]
        exact ⟨⟨_, rfl⟩, by rw [show g7 r = true by unfold g7; simp only [nf0, na, nb, nc, Bool.true_or, Bool.or_true, Bool.false_or, Bool.true_and, Bool.false_and, Bool.not_false, Bool.not_true, Bool.or_false, Bool.and_false, Bool.and_true]]⟩
      have dc : decide (0 < (r.monthDay.length : Int)) = false := decide_eq_false (by omega)
      have nc : decide (0 < r.monthDay.length) = false := decide_eq_false (by omega)
      simp only [go_sem, Nat.reduceLT, Nat.reduceBEq, Nat.reduceAdd, Int.reduceBEq, Nat.reduceLeDiff, reduceIte, Nat.reduceEqDiff, Int.reduceEq, Int.reduceLE, Int.reduceLT, Int.reduceNe, Nat.reduceMul, Nat.reduceSub, Int.reduceToNat, he, gp, k1, k2, k3, k4, k5, k6, k10, df0, da, db, dc]
      exact ⟨⟨_, rfl⟩, by rw [show g7 r = true by unfold g7; simp only [nf0, na, nb, nc, Bool.true_or, Bool.or_true, Bool.false_or, Bool.true_and, Bool.false_and, Bool.not_false, Bool.not_true, Bool.or_false, Bool.and_false, Bool.and_true]]⟩
    have da : decide (0 < (r.weekNo.length : Int)) = false := decide_eq_false (by omega)
    have na : decide (0 < r.weekNo.length) = false := decide_eq_false (by omega)
    by_cases cb : 0 < r.easter.length
    · have db : decide (0 < (r.easter.length : Int)) = true := decide_eq_true (by omega)
      have nb : decide (0 < r.easter.length) = true := decide_eq_true (by omega)
      by_cases cc : 0 < r.monthDay.length
      · have dc : decide (0 < (r.monthDay.length : Int)) = true := decide_eq_true (by omega)
        have nc : decide (0 < r.monthDay.length) = true := decide_eq_true (by omega)
        simp only [go_sem, Nat.reduceLT, Nat.reduceBEq, Nat.reduceAdd, Int.reduceBEq, Nat.reduceLeDiff, reduceIte, Nat.reduceEqDiff, Int.reduceEq, Int.reduceLE, Int.reduceLT, Int.reduceNe, Nat.reduceMul, Nat.reduceSub, Int.reduceToNat, he, gp, k1, k2, k3, k4, k5, k6, k10, df0, da, db, dc]
        exact ⟨⟨_, rfl⟩, by rw [show g7 r = true by unfold g7; simp only [nf0, na, nb, nc, Bool.true_or, Bool.or_true, Bool.false_or, Bool.true_and, Bool.false_and, Bool.not_false, Bool.not_true, Bool.or_false, Bool.and_false, Bool.and_true]]⟩
      have dc : decide (0 < (r.monthDay.length : Int)) = false := decide_eq_false (by omega)
      have nc : decide (0 < r.monthDay.length) = false := decide_eq_false (by omega)
      simp only [go_sem, Nat.reduceLT, Nat.reduceBEq, Nat.reduceAdd, Int.reduceBEq, Nat.reduceLeDiff, reduceIte, Nat.reduceEqDiff, Int.reduceEq, Int.reduceLE, Int.reduceLT, Int.reduceNe, Nat.reduceMul, Nat.reduceSub, Int.reduceToNat, he, gp, k1, k2, k3, k4, k5, k6, k10, df0, da, db, dc]
      exact ⟨⟨_, rfl⟩, by rw [show g7 r = true by unfold g7; simp only [nf0, na, nb, nc, Bool.true_or, Bool.or_true, Bool.false_or, Bool.true_and, Bool.false_and, Bool.not_false, Bool.not_true, Bool.or_false, Bool.and_false, Bool.and_true]]⟩
    have db : decide (0 < (r.easter.length : Int)) = false := decide_eq_false (by omega)
    have nb : decide (0 < r.easter.length) = false := decide_eq_false (by omega)
    by_cases cc : 0 < r.monthDay.length
    · have dc : decide (0 < (r.monthDay.length : Int)) = true := decide_eq_true (by omega)
      have nc : decide (0 < r.monthDay.length) = true := decide_eq_true (by omega)
      by_cases cf2 : r.freq = 2
      · have df2 : decide ((r.freq : Int) = 2) = true := decide_eq_true (by omega)
        have nf2 : decide (r.freq = 2) = true := decide_eq_true (by omega)
        simp only [go_sem, Nat.reduceLT, Nat.reduceBEq, Nat.reduceAdd, Int.reduceBEq, Nat.reduceLeDiff, reduceIte, Nat.reduceEqDiff, Int.reduceEq, Int.reduceLE, Int.reduceLT, Int.reduceNe, Nat.reduceMul, Nat.reduceSub, Int.reduceToNat, he, gp, k1, k2, k3, k4, k5, k6, k10, df0, da, db, dc, df2]
        exact ⟨⟨_, rfl⟩, by rw [show g7 r = true by unfold g7; simp only [nf0, na, nb, nc, nf2, Bool.true_or, Bool.or_true, Bool.false_or, Bool.true_and, Bool.false_and, Bool.not_false, Bool.not_true, Bool.or_false, Bool.and_false, Bool.and_true]]⟩
      have df2 : decide ((r.freq : Int) = 2) = false := decide_eq_false (by omega)
      have nf2 : decide (r.freq = 2) = false := decide_eq_false (by omega)
      simp only [go_sem, Nat.reduceLT, Nat.reduceBEq, Nat.reduceAdd, Int.reduceBEq, Nat.reduceLeDiff, reduceIte, Nat.reduceEqDiff, Int.reduceEq, Int.reduceLE, Int.reduceLT, Int.reduceNe, Nat.reduceMul, Nat.reduceSub, Int.reduceToNat, he, gp, k1, k2, k3, k4, k5, k6, k10, df0, da, db, dc, df2]
      exact ⟨⟨_, rfl⟩, by rw [show g7 r = false by unfold g7; simp only [nf0, na, nb, nc, nf2, Bool.true_or, Bool.or_true, Bool.false_or, Bool.true_and, Bool.false_and, Bool.not_false, Bool.not_true, Bool.or_false, Bool.and_false, Bool.and_true]]⟩
    have dc : decide (0 < (r.monthDay.length : Int)) = false := decide_eq_false (by omega)
    have nc : decide (0 < r.monthDay.length) = false := decide_eq_false (by omega)
    simp only [go_sem, Nat.reduceLT, Nat.reduceBEq, Nat.reduceAdd, Int.reduceBEq, Nat.reduceLeDiff, reduceIte, Nat.reduceEqDiff, Int.reduceEq, Int.reduceLE, Int.reduceLT, Int.reduceNe, Nat.reduceMul, Nat.reduceSub, Int.reduceToNat, he, gp, k1, k2, k3, k4, k5, k6, k10, df0, da, db, dc]
    exact ⟨⟨_, rfl⟩, by rw [show g7 r = false by unfold g7; simp only [nf0, na, nb, nc, Bool.true_or, Bool.or_true, Bool.false_or, Bool.true_and, Bool.false_and, Bool.not_false, Bool.not_true, Bool.or_false, Bool.and_false, Bool.and_true]]⟩
  rintro e h ⟨⟨G, rfl⟩, he, gp, gt⟩
  simp only [go_sem, Nat.reduceLT, Nat.reduceBEq, Nat.reduceAdd, Int.reduceBEq, Nat.reduceLeDiff, reduceIte, Nat.reduceEqDiff, Int.reduceEq, Int.reduceLE, Int.reduceLT, Int.reduceNe, Nat.reduceMul, Nat.reduceSub, Int.reduceToNat, he, gp, gt, k4]
  refine condK_of (fun hq => ?_) fun hq => ?_
  · simp only [go_sem, Nat.reduceLT, Nat.reduceBEq, Nat.reduceAdd, Int.reduceBEq, Nat.reduceLeDiff, reduceIte, Nat.reduceEqDiff, Int.reduceEq, Int.reduceLE, Int.reduceLT, Int.reduceNe, Nat.reduceMul, Nat.reduceSub, Int.reduceToNat, he, gp, gt]
    rw [clean_g7 hq]
    exact ⟨rfl, _, rfl⟩
  rename g7 r = false => q7
  simp only [go_sem, Nat.reduceLT, Nat.reduceBEq, Nat.reduceAdd, Int.reduceBEq, Nat.reduceLeDiff, reduceIte, Nat.reduceEqDiff, Int.reduceEq, Int.reduceLE, Int.reduceLT, Int.reduceNe, Nat.reduceMul, Nat.reduceSub, Int.reduceToNat, he, gp, gt, k4]
  refine guardK_join (fun e h => (∃ G, h = H ++ AObj.own 25 [vU r.freq, vB r.hasStart, vI r.start, vI r.interval, vI r.wkst, vI r.count, vB r.hasUntil, vI r.til, x.setPos, x.month, x.monthDay, x.yearDay, x.weekNo, x.day, x.hour, x.minute, x.second, x.easter] :: G) ∧ len e = 264 ∧ AL.get e 1 = .ptr H.length 0 ∧ AL.get e 255 = vB (g8 r)) ?_ ?_
  · by_cases cy : 0 < r.yearDay.length
    · have dy : decide (0 < (r.yearDay.length : Int)) = true := decide_eq_true (by omega)
      have ny : decide (0 < r.yearDay.length) = true := decide_eq_true (by omega)
      by_cases cf1 : r.freq = 1
      · have df1 : decide ((r.freq : Int) = 1) = true := decide_eq_true (by omega)
        have nf1 : decide (r.freq = 1) = true := decide_eq_true (by omega)
        simp only [go_sem, Nat.reduceLT, Nat.reduceBEq, Nat.reduceAdd, Int.reduceBEq, Nat.reduceLeDiff, reduceIte, Nat.reduceEqDiff, Int.reduceEq, Int.reduceLE, Int.reduceLT, Int.reduceNe, Nat.reduceMul, Nat.reduceSub, Int.reduceToNat, he, gp, k1, k2, k3, k4, k5, k6, k10, dy, df1]
        exact ⟨⟨_, rfl⟩, by rw [show g8 r = true by unfold g8; simp only [ny, nf1, Bool.true_or, Bool.or_true, Bool.false_or, Bool.true_and, Bool.false_and, Bool.not_false, Bool.not_true, Bool.or_false, Bool.and_false, Bool.and_true]]⟩
      have df1 : decide ((r.freq : Int) = 1) = false := decide_eq_false (by omega)
      have nf1 : decide (r.freq = 1) = false := decide_eq_false (by omega)
      by_cases cf2 : r.freq = 2
      · have df2 : decide ((r.freq : Int) = 2) = true := decide_eq_true (by omega)
        have nf2 : decide (r.freq = 2) = true := decide_eq_true (by omega)
        simp only [go_sem, Nat.reduceLT, Nat.reduceBEq, Nat.reduceAdd, Int.reduceBEq, Nat.reduceLeDiff, reduceIte, Nat.reduceEqDiff, Int.reduceEq, Int.reduceLE, Int.reduceLT, Int.reduceNe, Nat.reduceMul, Nat.reduceSub, Int.reduceToNat, he, gp, k1, k2, k3, k4, k5, k6, k10, dy, df1, df2]
        exact ⟨⟨_, rfl⟩, by rw [show g8 r = true by unfold g8; simp only [ny, nf1, nf2, Bool.true_or, Bool.or_true, Bool.false_or, Bool.true_and, Bool.false_and, Bool.not_false, Bool.not_true, Bool.or_false, Bool.and_false, Bool.and_true]]⟩
      have df2 : decide ((r.freq : Int) = 2) = false := decide_eq_false (by omega)
      have nf2 : decide (r.freq = 2) = false := decide_eq_false (by omega)
      by_cases cf3 : r.freq = 3
      · have df3 : decide ((r.freq : Int) = 3) = true := decide_eq_true (by omega)
        have nf3 : decide (r.freq = 3) = true := decide_eq_true (by omega)
        simp only [go_sem, Nat.reduceLT, Nat.reduceBEq, Nat.reduceAdd, Int.reduceBEq, Nat.reduceLeDiff, reduceIte, Nat.reduceEqDiff, Int.reduceEq, Int.reduceLE, Int.reduceLT, Int.reduceNe, Nat.reduceMul, Nat.reduceSub, Int.reduceToNat, he, gp, k1, k2, k3, k4, k5, k6, k10, dy, df1, df2, df3]
        exact ⟨⟨_, rfl⟩, by rw [show g8 r = true by unfold g8; simp only [ny, nf1, nf2, nf3, Bool.true_or, Bool.or_true, Bool.false_or, Bool.true_and, Bool.false_and, Bool.not_false, Bool.not_true, Bool.or_false, Bool.and_false, Bool.and_true]]⟩
      have df3 : decide ((r.freq : Int) = 3) = false := decide_eq_false (by omega)
      have nf3 : decide (r.freq = 3) = false := decide_eq_false (by omega)
      simp only [go_sem, Nat.reduceLT, Nat.reduceBEq, Nat.reduceAdd, Int.reduceBEq, Nat.reduceLeDiff, reduceIte, Nat.reduceEqDiff, Int.reduceEq, Int.reduceLE, Int.reduceLT, Int.reduceNe, Nat.reduceMul, Nat.reduceSub, Int.reduceToNat, he, gp, k1, k2, k3, k4, k5, k6, k10, dy, df1, df2, df3]
      exact ⟨⟨_, rfl⟩, by rw [show g8 r = false by unfold g8; simp only [ny, nf1, nf2, nf3, Bool.true_or, Bool.or_true, Bool.false_or, Bool.true_and, Bool.false_and, Bool.not_false, Bool.not_true, Bool.or_false, Bool.and_false, Bool.and_true]]⟩
    have dy : decide (0 < (r.yearDay.length : Int)) = false := decide_eq_false (by omega)
    have ny : decide (0 < r.yearDay.length) = false := decide_eq_false (by omega)
    simp only [go_sem, Nat.reduceLT, Nat.reduceBEq, Nat.reduceAdd, Int.reduceBEq, Nat.reduceLeDiff, reduceIte, Nat.reduceEqDiff, Int.reduceEq, Int.reduceLE, Int.reduceLT, Int.reduceNe, Nat.reduceMul, Nat.reduceSub, Int.reduceToNat, he, gp, k1, k2, k3, k4, k5, k6, k10, dy]
    exact ⟨⟨_, rfl⟩, by rw [show g8 r = false by unfold g8; simp only [ny, Bool.true_or, Bool.or_true, Bool.false_or, Bool.true_and, Bool.false_and, Bool.not_false, Bool.not_true, Bool.or_false, Bool.and_false, Bool.and_true]]⟩
  rintro e h ⟨⟨G, rfl⟩, he, gp, gt⟩
  simp only [go_sem, Nat.reduceLT, Nat.reduceBEq, Nat.reduceAdd, Int.reduceBEq, Nat.reduceLeDiff, reduceIte, Nat.reduceEqDiff, Int.reduceEq, Int.reduceLE, Int.reduceLT, Int.reduceNe, Nat.reduceMul, Nat.reduceSub, Int.reduceToNat, he, gp, gt]
  refine condK_of (fun hq => ?_) fun hq => ?_
  · simp only [go_sem, Nat.reduceLT, Nat.reduceBEq, Nat.reduceAdd, Int.reduceBEq, Nat.reduceLeDiff, reduceIte, Nat.reduceEqDiff, Int.reduceEq, Int.reduceLE, Int.reduceLT, Int.reduceNe, Nat.reduceMul, Nat.reduceSub, Int.reduceToNat, he, gp, gt]
    rw [clean_g8 hq]
    exact ⟨rfl, _, rfl⟩
  rename g8 r = false => q8
  have hfin : clean r = (decide (r.setPos.length = 0) || parted r) := by unfold clean; simp only [q1, q2, q3, q4, q5', q6, q7, q8, Bool.not_false, Bool.true_and]
  by_cases hs : r.setPos.length = 0
  · have ds : decide ((r.setPos.length : Int) = 0) = true := decide_eq_true (by omega)
    simp only [go_sem, Nat.reduceLT, Nat.reduceBEq, Nat.reduceAdd, Int.reduceBEq, Nat.reduceLeDiff, reduceIte, Nat.reduceEqDiff, Int.reduceEq, Int.reduceLE, Int.reduceLT, Int.reduceNe, Nat.reduceMul, Nat.reduceSub, Int.reduceToNat, he, gp, gt, k1, ds]
    rw [hfin, decide_eq_true hs]
    exact ⟨rfl, _, rfl⟩
  have ds : decide ((r.setPos.length : Int) = 0) = false := decide_eq_false (by omega)
  simp only [go_sem, Nat.reduceLT, Nat.reduceBEq, Nat.reduceAdd, Int.reduceBEq, Nat.reduceLeDiff, reduceIte, Nat.reduceEqDiff, Int.reduceEq, Int.reduceLE, Int.reduceLT, Int.reduceNe, Nat.reduceMul, Nat.reduceSub, Int.reduceToNat, he, gp, gt, k1, ds]
  refine callX_of (parted_A r x hl _ (hx.more _)) (List.prefix_refl _) ?_
  simp only [go_sem, Nat.reduceLT, Nat.reduceBEq, Nat.reduceAdd, Int.reduceBEq, Nat.reduceLeDiff, reduceIte, Nat.reduceEqDiff, Int.reduceEq, Int.reduceLE, Int.reduceLT, Int.reduceNe, Nat.reduceMul, Nat.reduceSub, Int.reduceToNat, he, gp, gt, setD_some]
  rw [hfin, decide_eq_false hs, Bool.false_or]
  exact ⟨rfl, _, rfl⟩
end Go.Proofs.YtlfpjdcogkcjlaaGreatDoor.F
