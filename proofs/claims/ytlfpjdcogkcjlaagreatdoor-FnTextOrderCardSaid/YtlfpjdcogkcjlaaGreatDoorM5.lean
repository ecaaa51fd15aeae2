/- Merged: T22 T23 T24 T25 T26 T27 T31 T33 ALX AL15 T34 T35 T36 T37 T39 T42 T43 T44 -/
import Derived.Test.YtlfpjdcogkcjlaaGreatDoorM4
/- Rules that fit, bare rules, a rule's text in its own order. -/
namespace Go.Proofs.YtlfpjdcogkcjlaaGreatDoor.F
open Go.RowKit Go.Proofs.YtlfpjdcogkcjlaaGreatDoor.AL Go.Proofs.YtlfpjdcogkcjlaaGreatDoor.B
set_option linter.unusedVariables false
set_option linter.unusedSimpArgs false
set_option maxRecDepth 20000
attribute [local irreducible] aops acode bindK bindV bindH callX callK condK guardK Kseq Kblk Knorm Kfun Kloop Kjoin outK AWp appendA
attribute [local go_sem] acode_skip acode_seq acode_region acode_cond acode_block acode_exit acode_ret acode_loop Kseq_normal Kseq_exit Kseq_ret Kblk_normal Kblk_ret Kblk_eq Kblk_ne Knorm_eq Kloop_normal Kloop_exit Kloop_ret Kjoin_normal Kjoin_exit Kjoin_ret condK_true condK_false bindK_put bindV_put bindK_no bindV_no bindH_no aops_nil gops wantK_some wantV_bool wantV_undef guardK_true guardK_false guardK_none aops_move aops_assign aops_pick aops_nilCheck aops_binOp aops_unOp aops_convert aops_fieldAddr aops_indexAddr aops_slice aops_index aops_extract aops_makeInterface aops_makeFunc aops_build aops_load aops_lookup aops_alloc aops_box aops_buildSlice aops_makeSlice aops_makeMap aops_store aops_insert aops_mapUpdate aops_len aops_append aops_call opA_tmp opA_const opA_global opA_func get_mk look_nil look_eq look_ne len_mk List.map_cons List.map_nil Option.map_some Option.map_none bin_add bin_sub bin_mul bin_quo bin_rem bin_eql bin_neq bin_lss bin_leq bin_gtr bin_geq bin_cat bin_seql bin_sneq bin_neq_ifc bin_eql_ifc bin_neq_nn bin_eql_nn bin_neq_ptr bin_eql_ptr bin_neq_pn isIfc_true isPtr_true bin_eql2 bin_neq2 aops_max max_int un_not un_neg lenA_K lenK_str lenK_nil lenK_sl lenK_array pick_bool pick_val bindV_ite bindK_ite bindH_ite slotV_sl slotK_some slotV_ptr slotR_some sliceV_sl cutK_some sliceV_str cutS_some bound_none bound_some indexA_str atS_some mkS fieldV_ptr loadV_ptr cellsK_ro cellsK_own loadK_one loadK_many storeA_ptr storeK_own allocA_some heap_len heap_get0 heap_get heap_set0 heap_set Kfun_ret Kfun_normal resA_nil resA_tmp resA_cell outK_some packA_one packA_nil packA_two List.length_cons List.length_nil List.getElem?_cons_zero List.getElem?_cons_succ List.set_cons_zero List.set_cons_succ List.cons_append List.nil_append List.append_assoc Nat.zero_add Nat.add_zero List.all_cons List.all_nil Value.oneCell' Bool.and_true Bool.and_self if_true if_false Bool.false_eq_true partsA buildV buildA fillA Option.bind_some putCells List.drop_succ_cons List.drop_zero List.take_succ_cons List.take_zero List.take_nil List.drop_nil and_self and_true true_and Option.some.injEq ne_eq not_false_eq_true Option.map_map List.getElem?_toArray beq_self_eq_true Bool.true_beq Bool.false_beq Bool.not_true Bool.not_false decide_true decide_false beq_true Nat.mul_one Nat.one_mul Nat.zero_mul bsA buildSliceA zerosN List.append_nil Int.toNat_natCast Int.toNat_zero boxA one_val one_ptr one_sl one_mp one_ifc one_fn avCells_agg avCells_val valCells_true valCells_agg avCells_ptr avCells_sl avCells_mp avCells_ifc avCells_fn app_cons app_nil lookupA insertA ifaceV extractA kd2 ars127 fp127 ars60 fp60 ars31 fp31 eq2_99 eq2_84 eq2_47 fp52 sz2 kd3 sz3 kd4 sz4 kd5 sz5 kd9 sz9 kd22 sz22 el22 kd23 sz23 el23 kd25 sz25 zc25 fp25 fo25_0 fo25_1 fo25_2 fo25_3 fo25_4 fo25_5 fo25_6 fo25_7 fo25_8 fo25_9 fo25_10 fo25_11 fo25_12 fo25_13 fo25_14 fo25_15 fo25_16 fo25_17 kd31 sz31 zc31 ar31 kd32 sz32 el32 kd34 sz34 zc34 fp34 fo34_0 fo34_1 fo34_2 fo34_3 fo34_4 fo34_5 fo34_6 fo34_7 fo34_8 fo34_9 fo34_10 fo34_11 fo34_12 fo34_13 fo34_14 fo34_15 fo34_16 fo34_17 el38 el42 kd47 sz47 zc47 fp47 fo47_0 fo47_1 kd52 sz52 zc52 fo52_0 el55 zc60 kd72 sz72 zc72 fp72 fo72_0 fo72_1 el73 isStrMap76 zv4 kd80 sz80 kd84 sz84 zc84 fp84 fo84_0 fo84_1 kd88 sz88 zc88 fp88 fo88_0 fo88_1 fo88_2 fo88_3 kd91 sz91 zc91 fp91 fo91_0 fo91_1 fo91_2 el94 kd99 sz99 zc99 fp99 fo99_0 fo99_1 kd100 sz100 el100 kd102 sz102 zc102 fp102 fo102_0 fo102_1 fo102_2 fo102_3 fo102_4 fo102_5 fo102_6 fo102_7 fo102_8 fo102_9 fo102_10 fo102_11 fo102_12 fo102_13 fo102_14 fo102_15 kd109 sz109 zc109 fp109 isStrMap124 zv80 zc127 kd153 sz153 zc153 ar153 isIface157 kd159 sz159 zc159 fp159 isStrMap177 zv84 Tryz.underlying3 Tryz.underlying4 Tryz.underlying5 Tryz.underlying9 Tryz.underlying21 Tryz.underlying22 Tryz.underlying23 Tryz.underlying32 Tryz.underlying38 Tryz.underlying42 Tryz.underlying47 Tryz.underlying55 Tryz.underlying67 Tryz.underlying73 Tryz.underlying80 Tryz.underlying84 Tryz.underlying94 Tryz.underlying100 Tryz.underlying2 Tryz.underlying127 Tryz.underlying60 Tryz.underlying31
def mostLen : Nat := 2147483647
def fits (r : Ru) : Bool := !(decide (mostLen < r.setPos.length) || decide (mostLen < r.month.length) || decide (mostLen < r.monthDay.length) || decide (mostLen < r.yearDay.length) || decide (mostLen < r.weekNo.length) || decide (mostLen < r.day.length) || decide (mostLen < r.hour.length) || decide (mostLen < r.minute.length) || decide (mostLen < r.second.length) || decide (mostLen < r.easter.length))
theorem fits_len {r : Ru} (h : fits r = true) : RuLen r := by
  unfold fits at h
  simp only [Bool.not_eq_true', Bool.or_eq_false_iff, decide_eq_false_iff_not] at h
  obtain ⟨⟨⟨⟨⟨⟨⟨⟨⟨h1, h2⟩, h3⟩, h4⟩, h5⟩, h6⟩, h7⟩, h8⟩, h9⟩, h10⟩ := h
  unfold mostLen at *
  constructor <;> omega
theorem zzFits1_A {w0 : World} (r : Ru) (x : Rs) (H : Heap) (hx : RuAt H r x) : ACalls Tryz.prog (CB w0) 11 [.agg (ruCells r x)] H fun v H' => v = vB (fits r) ∧ H' = H := by
  refine ACalls.flat rfl ?_
  refine A_fun (N := 43) (rs := [.tmp 2]) Tryz.func11 rfl rfl rfl (by kernel_rfl) (by kernel_rfl) (Nat.le_of_ble_eq_true rfl) ?_
  rintro e he ⟨g0, -⟩
  have k1 := hx.setPos.len 3
  have k2 := hx.month.len 3
  have k3 := hx.monthDay.len 3
  have k4 := hx.yearDay.len 3
  have k5 := hx.weekNo.len 3
  have k6 := hx.day.len 47
  have k7 := hx.hour.len 3
  have k8 := hx.minute.len 3
  have k9 := hx.second.len 3
  have k10 := hx.easter.len 3
  unfold ruCells at g0
  have hd : ∀ (n : Nat), decide ((2147483647 : Int) < (n : Int)) = decide (mostLen < n) := fun n => decide_eq_decide.2 (by unfold mostLen; omega)
  unfold fits
  simp only [go_sem, Nat.reduceLT, Nat.reduceBEq, Nat.reduceAdd, Int.reduceBEq, Nat.reduceLeDiff, reduceIte, Nat.reduceEqDiff, Int.reduceEq, Int.reduceLE, Int.reduceLT, Int.reduceNe, Nat.reduceMul, Nat.reduceSub, Int.reduceToNat, he, g0, hx.setPos.one, hx.month.one, hx.monthDay.one, hx.yearDay.one, hx.weekNo.one, hx.day.one, hx.hour.one, hx.minute.one, hx.second.one, hx.easter.one, k1, k2, k3, k4, k5, k6, k7, k8, k9, k10, hd]
  cases c0 : decide (mostLen < r.setPos.length) with
  | true =>
    simp only [go_sem, Nat.reduceLT, Nat.reduceBEq, Nat.reduceAdd, Int.reduceBEq, Nat.reduceLeDiff, reduceIte, Nat.reduceEqDiff, Int.reduceEq, Int.reduceLE, Int.reduceLT, Int.reduceNe, Nat.reduceMul, Nat.reduceSub, Int.reduceToNat, he, k1, k2, k3, k4, k5, k6, k7, k8, k9, k10, hd, c0, Bool.true_or, Bool.or_true]
    first | exact ⟨_, rfl⟩ | exact ⟨rfl, _, rfl⟩
  | false =>
  simp only [go_sem, Nat.reduceLT, Nat.reduceBEq, Nat.reduceAdd, Int.reduceBEq, Nat.reduceLeDiff, reduceIte, Nat.reduceEqDiff, Int.reduceEq, Int.reduceLE, Int.reduceLT, Int.reduceNe, Nat.reduceMul, Nat.reduceSub, Int.reduceToNat, he, k1, k2, k3, k4, k5, k6, k7, k8, k9, k10, hd, c0]
  cases c1 : decide (mostLen < r.month.length) with
  | true =>
    simp only [go_sem, Nat.reduceLT, Nat.reduceBEq, Nat.reduceAdd, Int.reduceBEq, Nat.reduceLeDiff, reduceIte, Nat.reduceEqDiff, Int.reduceEq, Int.reduceLE, Int.reduceLT, Int.reduceNe, Nat.reduceMul, Nat.reduceSub, Int.reduceToNat, he, k1, k2, k3, k4, k5, k6, k7, k8, k9, k10, hd, c1, Bool.true_or, Bool.or_true]
    first | exact ⟨_, rfl⟩ | exact ⟨rfl, _, rfl⟩
  | false =>
  simp only [go_sem, Nat.reduceLT, Nat.reduceBEq, Nat.reduceAdd, Int.reduceBEq, Nat.reduceLeDiff, reduceIte, Nat.reduceEqDiff, Int.reduceEq, Int.reduceLE, Int.reduceLT, Int.reduceNe, Nat.reduceMul, Nat.reduceSub, Int.reduceToNat, he, k1, k2, k3, k4, k5, k6, k7, k8, k9, k10, hd, c1]
  cases c2 : decide (mostLen < r.monthDay.length) with
  | true =>
    simp only [go_sem, Nat.reduceLT, Nat.reduceBEq, Nat.reduceAdd, Int.reduceBEq, Nat.reduceLeDiff, reduceIte, Nat.reduceEqDiff, Int.reduceEq, Int.reduceLE, Int.reduceLT, Int.reduceNe, Nat.reduceMul, Nat.reduceSub, Int.reduceToNat, he, k1, k2, k3, k4, k5, k6, k7, k8, k9, k10, hd, c2, Bool.true_or, Bool.or_true]
    first | exact ⟨_, rfl⟩ | exact ⟨rfl, _, rfl⟩
  | false =>
  simp only [go_sem, Nat.reduceLT, Nat.reduceBEq, Nat.reduceAdd, Int.reduceBEq, Nat.reduceLeDiff, reduceIte, Nat.reduceEqDiff, Int.reduceEq, Int.reduceLE, Int.reduceLT, Int.reduceNe, Nat.reduceMul, Nat.reduceSub, Int.reduceToNat, he, k1, k2, k3, k4, k5, k6, k7, k8, k9, k10, hd, c2]
  cases c3 : decide (mostLen < r.yearDay.length) with
  | true =>
    simp only [go_sem, Nat.reduceLT, Nat.reduceBEq, Nat.reduceAdd, Int.reduceBEq, Nat.reduceLeDiff, reduceIte, Nat.reduceEqDiff, Int.reduceEq, Int.reduceLE, Int.reduceLT, Int.reduceNe, Nat.reduceMul, Nat.reduceSub, Int.reduceToNat, he, k1, k2, k3, k4, k5, k6, k7, k8, k9, k10, hd, c3, Bool.true_or, Bool.or_true]
    first | exact ⟨_, rfl⟩ | exact ⟨rfl, _, rfl⟩
  | false =>
  simp only [go_sem, Nat.reduceLT, Nat.reduceBEq, Nat.reduceAdd, Int.reduceBEq, Nat.reduceLeDiff, reduceIte, Nat.reduceEqDiff, Int.reduceEq, Int.reduceLE, Int.reduceLT, Int.reduceNe, Nat.reduceMul, Nat.reduceSub, Int.reduceToNat, he, k1, k2, k3, k4, k5, k6, k7, k8, k9, k10, hd, c3]
  cases c4 : decide (mostLen < r.weekNo.length) with
  | true =>
    simp only [go_sem, Nat.reduceLT, Nat.reduceBEq, Nat.reduceAdd, Int.reduceBEq, Nat.reduceLeDiff, reduceIte, Nat.reduceEqDiff, Int.reduceEq, Int.reduceLE, Int.reduceLT, Int.reduceNe, Nat.reduceMul, Nat.reduceSub, Int.reduceToNat, he, k1, k2, k3, k4, k5, k6, k7, k8, k9, k10, hd, c4, Bool.true_or, Bool.or_true]
    first | exact ⟨_, rfl⟩ | exact ⟨rfl, _, rfl⟩
  | false =>
  simp only [go_sem, Nat.reduceLT, Nat.reduceBEq, Nat.reduceAdd, Int.reduceBEq, Nat.reduceLeDiff, reduceIte, Nat.reduceEqDiff, Int.reduceEq, Int.reduceLE, Int.reduceLT, Int.reduceNe, Nat.reduceMul, Nat.reduceSub, Int.reduceToNat, he, k1, k2, k3, k4, k5, k6, k7, k8, k9, k10, hd, c4]
  cases c5 : decide (mostLen < r.day.length) with
  | true =>
    simp only [go_sem, Nat.reduceLT, Nat.reduceBEq, Nat.reduceAdd, Int.reduceBEq, Nat.reduceLeDiff, reduceIte, Nat.reduceEqDiff, Int.reduceEq, Int.reduceLE, Int.reduceLT, Int.reduceNe, Nat.reduceMul, Nat.reduceSub, Int.reduceToNat, he, k1, k2, k3, k4, k5, k6, k7, k8, k9, k10, hd, c5, Bool.true_or, Bool.or_true]
    first | exact ⟨_, rfl⟩ | exact ⟨rfl, _, rfl⟩
  | false =>
  simp only [go_sem, Nat.reduceLT, Nat.reduceBEq, Nat.reduceAdd, Int.reduceBEq, Nat.reduceLeDiff, reduceIte, Nat.reduceEqDiff, Int.reduceEq, Int.reduceLE, Int.reduceLT, Int.reduceNe, Nat.reduceMul, Nat.reduceSub, Int.reduceToNat, he, k1, k2, k3, k4, k5, k6, k7, k8, k9, k10, hd, c5]
  cases c6 : decide (mostLen < r.hour.length) with
  | true =>
    simp only [go_sem, Nat.reduceLT, Nat.reduceBEq, Nat.reduceAdd, Int.reduceBEq, Nat.reduceLeDiff, reduceIte, Nat.reduceEqDiff, Int.reduceEq, Int.reduceLE, Int.reduceLT, Int.reduceNe, Nat.reduceMul, Nat.reduceSub, Int.reduceToNat, he, k1, k2, k3, k4, k5, k6, k7, k8, k9, k10, hd, c6, Bool.true_or, Bool.or_true]
    first | exact ⟨_, rfl⟩ | exact ⟨rfl, _, rfl⟩
  | false =>
  simp only [go_sem, Nat.reduceLT, Nat.reduceBEq, Nat.reduceAdd, Int.reduceBEq, Nat.reduceLeDiff, reduceIte, Nat.reduceEqDiff, Int.reduceEq, Int.reduceLE, Int.reduceLT, Int.reduceNe, Nat.reduceMul, Nat.reduceSub, Int.reduceToNat, he, k1, k2, k3, k4, k5, k6, k7, k8, k9, k10, hd, c6]
  cases c7 : decide (mostLen < r.minute.length) with
  | true =>
    simp only [go_sem, Nat.reduceLT, Nat.reduceBEq, Nat.reduceAdd, Int.reduceBEq, Nat.reduceLeDiff, reduceIte, Nat.reduceEqDiff, Int.reduceEq, Int.reduceLE, Int.reduceLT, Int.reduceNe, Nat.reduceMul, Nat.reduceSub, Int.reduceToNat, he, k1, k2, k3, k4, k5, k6, k7, k8, k9, k10, hd, c7, Bool.true_or, Bool.or_true]
    first | exact ⟨_, rfl⟩ | exact ⟨rfl, _, rfl⟩
  | false =>
  simp only [go_sem, Nat.reduceLT, Nat.reduceBEq, Nat.reduceAdd, Int.reduceBEq, Nat.reduceLeDiff, reduceIte, Nat.reduceEqDiff, Int.reduceEq, Int.reduceLE, Int.reduceLT, Int.reduceNe, Nat.reduceMul, Nat.reduceSub, Int.reduceToNat, he, k1, k2, k3, k4, k5, k6, k7, k8, k9, k10, hd, c7]
  cases c8 : decide (mostLen < r.second.length) with
  | true =>
    simp only [go_sem, Nat.reduceLT, Nat.reduceBEq, Nat.reduceAdd, Int.reduceBEq, Nat.reduceLeDiff, reduceIte, Nat.reduceEqDiff, Int.reduceEq, Int.reduceLE, Int.reduceLT, Int.reduceNe, Nat.reduceMul, Nat.reduceSub, Int.reduceToNat, he, k1, k2, k3, k4, k5, k6, k7, k8, k9, k10, hd, c8, Bool.true_or, Bool.or_true]
    first | exact ⟨_, rfl⟩ | exact ⟨rfl, _, rfl⟩
  | false =>
  simp only [go_sem, Nat.reduceLT, Nat.reduceBEq, Nat.reduceAdd, Int.reduceBEq, Nat.reduceLeDiff, reduceIte, Nat.reduceEqDiff, Int.reduceEq, Int.reduceLE, Int.reduceLT, Int.reduceNe, Nat.reduceMul, Nat.reduceSub, Int.reduceToNat, he, k1, k2, k3, k4, k5, k6, k7, k8, k9, k10, hd, c8]
  cases c9 : decide (mostLen < r.easter.length) with
  | true =>
    simp only [go_sem, Nat.reduceLT, Nat.reduceBEq, Nat.reduceAdd, Int.reduceBEq, Nat.reduceLeDiff, reduceIte, Nat.reduceEqDiff, Int.reduceEq, Int.reduceLE, Int.reduceLT, Int.reduceNe, Nat.reduceMul, Nat.reduceSub, Int.reduceToNat, he, k1, k2, k3, k4, k5, k6, k7, k8, k9, k10, hd, c9, Bool.true_or, Bool.or_true]
    first | exact ⟨_, rfl⟩ | exact ⟨rfl, _, rfl⟩
  | false =>
  simp only [go_sem, Nat.reduceLT, Nat.reduceBEq, Nat.reduceAdd, Int.reduceBEq, Nat.reduceLeDiff, reduceIte, Nat.reduceEqDiff, Int.reduceEq, Int.reduceLE, Int.reduceLT, Int.reduceNe, Nat.reduceMul, Nat.reduceSub, Int.reduceToNat, he, k1, k2, k3, k4, k5, k6, k7, k8, k9, k10, hd, c9]
  first | exact ⟨_, rfl⟩ | exact ⟨rfl, _, rfl⟩
/-- A rule without its start. -/
def bare (r : Ru) : Ru := { r with hasStart := false, start := 0, til := if r.hasUntil then r.til else 0 }
def bareOk (r : Ru) : Bool := clean r && !(r.hasUntil && decide (r.til = 0))
def bareR (r : Ru) (x : Rs) : AV := if bareOk r then .tup [.agg (ruCells (bare r) x), vB true] else .tup [.agg (ruCells r x), vB false]
theorem textBare_A {w0 : World} (r : Ru) (x : Rs) (hl : RuLen r) (hn : RuNum r) (H : Heap) (hx : RuAt H r x) : ACalls Tryz.prog (CB w0) 12 [.agg (ruCells r x)] H fun v H' => v = bareR r x ∧ ∃ G, H' = H ++ G := by
  refine A_fun (N := 24) (rs := [.cell 2 25, .tmp 3]) Tryz.func12 rfl rfl rfl (by kernel_rfl) (by kernel_rfl) (Nat.le_of_ble_eq_true rfl) ?_
  rintro e he ⟨g0, -⟩
  have g0' := g0
  unfold ruCells at g0
  simp only [go_sem, Nat.reduceLT, Nat.reduceBEq, Nat.reduceAdd, Int.reduceBEq, Nat.reduceLeDiff, reduceIte, Nat.reduceEqDiff, Int.reduceEq, Int.reduceLE, Int.reduceLT, Int.reduceNe, Nat.reduceMul, Nat.reduceSub, Int.reduceToNat, he, g0, hx.setPos.one, hx.month.one, hx.monthDay.one, hx.yearDay.one, hx.weekNo.one, hx.day.one, hx.hour.one, hx.minute.one, hx.second.one, hx.easter.one]
  refine callX_of (clean_A r x hl hn _ (hx.more _)) (List.prefix_refl _) ?_
  unfold bareR bareOk
  cases hc : clean r with
  | false =>
    simp only [go_sem, Nat.reduceLT, Nat.reduceBEq, Nat.reduceAdd, Int.reduceBEq, Nat.reduceLeDiff, reduceIte, Nat.reduceEqDiff, Int.reduceEq, Int.reduceLE, Int.reduceLT, Int.reduceNe, Nat.reduceMul, Nat.reduceSub, Int.reduceToNat, he, setD_some, Bool.true_and, hx.setPos.one, hx.month.one, hx.monthDay.one, hx.yearDay.one, hx.weekNo.one, hx.day.one, hx.hour.one, hx.minute.one, hx.second.one, hx.easter.one, Bool.false_and]
    exact ⟨rfl, _, rfl⟩
  | true =>
    cases hu : r.hasUntil with
    | false =>
      simp only [go_sem, Nat.reduceLT, Nat.reduceBEq, Nat.reduceAdd, Int.reduceBEq, Nat.reduceLeDiff, reduceIte, Nat.reduceEqDiff, Int.reduceEq, Int.reduceLE, Int.reduceLT, Int.reduceNe, Nat.reduceMul, Nat.reduceSub, Int.reduceToNat, he, setD_some, Bool.true_and, hx.setPos.one, hx.month.one, hx.monthDay.one, hx.yearDay.one, hx.weekNo.one, hx.day.one, hx.hour.one, hx.minute.one, hx.second.one, hx.easter.one, Bool.false_and, hu]
      refine ⟨?_, _, rfl⟩
      simp only [ruCells, bare, hu, Bool.false_eq_true, if_false]
    | true =>
      cases ht : decide (r.til = 0) with
      | true =>
        simp only [go_sem, Nat.reduceLT, Nat.reduceBEq, Nat.reduceAdd, Int.reduceBEq, Nat.reduceLeDiff, reduceIte, Nat.reduceEqDiff, Int.reduceEq, Int.reduceLE, Int.reduceLT, Int.reduceNe, Nat.reduceMul, Nat.reduceSub, Int.reduceToNat, he, setD_some, Bool.true_and, hx.setPos.one, hx.month.one, hx.monthDay.one, hx.yearDay.one, hx.weekNo.one, hx.day.one, hx.hour.one, hx.minute.one, hx.second.one, hx.easter.one, Bool.false_and, hu, ht]
        exact ⟨by simp only [ruCells, hu], _, rfl⟩
      | false =>
        simp only [go_sem, Nat.reduceLT, Nat.reduceBEq, Nat.reduceAdd, Int.reduceBEq, Nat.reduceLeDiff, reduceIte, Nat.reduceEqDiff, Int.reduceEq, Int.reduceLE, Int.reduceLT, Int.reduceNe, Nat.reduceMul, Nat.reduceSub, Int.reduceToNat, he, setD_some, Bool.true_and, hx.setPos.one, hx.month.one, hx.monthDay.one, hx.yearDay.one, hx.weekNo.one, hx.day.one, hx.hour.one, hx.minute.one, hx.second.one, hx.easter.one, Bool.false_and, hu, ht]
        refine ⟨?_, _, rfl⟩
        simp only [ruCells, bare, hu, if_true]

theorem within_spec {l : List Int} {most low high : Int} {zero : Bool} (h : within l most low high zero = true) : (l.length : Int) ≤ most ∧ (∀ n ∈ l, low ≤ n ∧ n ≤ high ∧ (zero = false → n ≠ 0)) ∧ ∀ (i : Nat) n, l[i]? = some n → n ∉ l.take i := by
  unfold within at h
  rw [Bool.and_eq_true] at h
  obtain ⟨h1, h2⟩ := h
  have key : ∀ (i : Nat) n, l[i]? = some n → ¬ n < low ∧ ¬ high < n ∧ ¬ (n = 0 ∧ zero = false) ∧ n ∉ l.take i := by
    intro i n hi
    have hlt := (List.getElem?_eq_some_iff.1 hi).1
    have h3 := List.all_eq_true.1 h2 i (List.mem_range.2 hlt)
    have hg : l.getD i 0 = n := by rw [List.getD_eq_getElem?_getD, hi]; rfl
    unfold withinAt at h3
    rw [hg] at h3
    simp only [Bool.not_eq_true', Bool.or_eq_false_iff, decide_eq_false_iff_not, Bool.and_eq_false_iff, Bool.not_eq_false'] at h3
    obtain ⟨⟨⟨a, b⟩, c⟩, d⟩ := h3
    refine ⟨a, b, ?_, ?_⟩
    · rintro ⟨rfl, hz⟩
      rcases c with c | c
      · exact c rfl
      · rw [hz] at c; cases c
    · intro hm
      rw [List.contains_iff_mem.2 hm] at d
      cases d
  refine ⟨of_decide_eq_true h1, fun n hn => ?_, fun i n hi => (key i n hi).2.2.2⟩
  obtain ⟨i, hi⟩ := List.getElem?_of_mem hn
  obtain ⟨a, b, c, _⟩ := key i n hi
  exact ⟨by omega, by omega, fun hz h0 => c ⟨h0, hz⟩⟩
theorem within_ok {l : List Int} {most low high : Int} {zero : Bool} (h : within l most low high zero = true) (hm : most ≤ 12) (h0 : -1000 ≤ low) (h1 : high ≤ 1000) : IntsOk l := by
  obtain ⟨a, b, _⟩ := within_spec h
  exact ⟨by omega, fun n hn => by have := b n hn; omega⟩
/-- What a clean rule says. -/
structure CleanP (r : Ru) : Prop where
  freq : r.freq ≤ 6
  hasStart : r.hasStart = true
  start : 31536000 ≤ r.start ∧ r.start < 284012524800
  interval : 0 ≤ r.interval ∧ r.interval ≤ 1000
  wkst : 0 ≤ r.wkst ∧ r.wkst ≤ 6
  count : 0 ≤ r.count ∧ r.count ≤ 1000
  til : r.hasUntil = true → r.start ≤ r.til ∧ r.til < 315537897600
  setPos : within r.setPos 12 (-366) 366 false = true
  month : within r.month 12 1 12 false = true
  monthDay : within r.monthDay 12 (-31) 31 false = true
  yearDay : within r.yearDay 12 (-366) 366 false = true
  weekNo : within r.weekNo 12 (-53) 53 false = true
  hour : within r.hour 12 0 23 true = true
  minute : within r.minute 12 0 59 true = true
  second : within r.second 12 0 59 true = true
  easter : within r.easter 12 (-80) 80 true = true
  dayLen : r.day.length ≤ 12
  day : ∀ (i : Nat) d, r.day[i]? = some d → d ∉ r.day.take i ∧ 0 ≤ d.1 ∧ d.1 ≤ 6 ∧ -mostOf r ≤ d.2 ∧ d.2 ≤ mostOf r
  many : max 1 (r.hour.length : Int) * max 1 (r.minute.length : Int) * max 1 (r.second.length : Int) ≤ 60
  weekYear : 0 < r.weekNo.length → r.freq = 0
  easterYear : 0 < r.easter.length → r.freq = 0
  monthDayWeek : 0 < r.monthDay.length → r.freq ≠ 2
  yearDayFreq : 0 < r.yearDay.length → r.freq ≠ 1 ∧ r.freq ≠ 2 ∧ r.freq ≠ 3
  pos : 0 < r.setPos.length → parted r = true
theorem clean_spec {r : Ru} (h : clean r = true) : CleanP r := by
  unfold clean at h
  simp only [Bool.and_eq_true, Bool.not_eq_true'] at h
  obtain ⟨⟨⟨⟨⟨⟨⟨⟨q1, q2⟩, q3⟩, q4⟩, q5⟩, q6⟩, q7⟩, q8⟩, q9⟩ := h
  unfold g1 at q1
  simp only [Bool.or_eq_false_iff, decide_eq_false_iff_not, Bool.not_eq_false'] at q1
  obtain ⟨⟨⟨⟨⟨⟨⟨⟨⟨a1, a2⟩, a3⟩, a4⟩, a5⟩, a6⟩, a7⟩, a8⟩, a9⟩, a10⟩ := q1
  unfold g3 at q3
  simp only [Bool.or_eq_false_iff, Bool.not_eq_false'] at q3
  obtain ⟨⟨⟨⟨b1, b2⟩, b3⟩, b4⟩, b5⟩ := q3
  unfold g4 at q4
  simp only [Bool.or_eq_false_iff, Bool.not_eq_false', decide_eq_false_iff_not] at q4
  obtain ⟨⟨⟨⟨c1, c2⟩, c3⟩, c4⟩, c5⟩ := q4
  unfold g6 at q6
  rw [Bool.not_eq_false'] at q6
  unfold g7 at q7
  simp only [Bool.or_eq_false_iff, Bool.and_eq_false_iff, decide_eq_false_iff_not, Bool.not_eq_false', decide_eq_true_eq] at q7
  unfold g8 at q8
  simp only [Bool.or_eq_false_iff, Bool.and_eq_false_iff, decide_eq_false_iff_not] at q8
  unfold g5 at q5
  simp only [decide_eq_false_iff_not] at q5
  refine ⟨by omega, a2, by omega, by omega, by omega, by omega, fun hu => ?_, b1, b2, b3, b4, b5, c1, c2, c3, c4, by omega, fun i d hi => ?_, by omega, fun hh => ?_, fun hh => ?_, fun hh => ?_, fun hh => ?_, fun hh => ?_⟩
  · unfold g2 at q2
    simp only [hu, Bool.true_and, Bool.or_eq_false_iff, decide_eq_false_iff_not] at q2
    omega
  · have hlt := (List.getElem?_eq_some_iff.1 hi).1
    have h3 := List.all_eq_true.1 q6 i (List.mem_range.2 hlt)
    have hg : r.day.getD i (0, 0) = d := by rw [List.getD_eq_getElem?_getD, hi]; rfl
    unfold dayAt at h3
    rw [hg] at h3
    simp only [Bool.and_eq_true, Bool.not_eq_true', Bool.or_eq_false_iff, decide_eq_false_iff_not] at h3
    obtain ⟨d1, ⟨⟨d2, d3⟩, d4⟩, d5⟩ := h3
    refine ⟨fun hm => ?_, by omega, by omega, by omega, by omega⟩
    rw [List.contains_iff_mem.2 hm] at d1
    cases d1
  · rcases q7.1.1 with e | e
    · exact absurd hh e
    · exact e
  · rcases q7.1.2 with e | e
    · exact absurd hh e
    · exact e
  · rcases q7.2 with e | e
    · exact absurd hh e
    · exact e
  · rcases q8 with e | e
    · exact absurd hh e
    · exact ⟨e.1.1, e.1.2, e.2⟩
  · rcases Bool.or_eq_true_iff.1 q9 with e | e
    · have := of_decide_eq_true e; omega
    · exact e
theorem clean_ok {r : Ru} (h : CleanP r) : RuOk (bare r) := by
  have hm := mostOf_bound r
  refine ⟨h.freq, h.wkst, ⟨h.interval.1, ?_⟩, ⟨h.count.1, ?_⟩, ?_, within_ok h.setPos (by omega) (by omega) (by omega), within_ok h.month (by omega) (by omega) (by omega), within_ok h.monthDay (by omega) (by omega) (by omega), within_ok h.yearDay (by omega) (by omega) (by omega), within_ok h.weekNo (by omega) (by omega) (by omega), ⟨?_, ?_⟩, within_ok h.hour (by omega) (by omega) (by omega), within_ok h.minute (by omega) (by omega) (by omega), within_ok h.second (by omega) (by omega) (by omega), within_ok h.easter (by omega) (by omega) (by omega)⟩
  · have := h.interval; show r.interval ≤ _; omega
  · have := h.count; show r.count ≤ _; omega
  · show 0 ≤ (if r.hasUntil then r.til else 0) ∧ (if r.hasUntil then r.til else 0) ≤ _
    have hs := h.start
    split
    · rename_i hu
      have := h.til hu
      omega
    · omega
  · have := h.dayLen; show r.day.length ≤ _; omega
  · intro d hd
    obtain ⟨i, hi⟩ := List.getElem?_of_mem (show d ∈ r.day from hd)
    obtain ⟨_, e1, e2, e3, e4⟩ := h.day i d hi
    exact ⟨e1, e2, by omega, by omega⟩
/-- The parts of a rule's text. -/
def parts (r : Ru) : List (List UInt8) := pFreq r ++ pUntil r ++ pCount r ++ pInterval r ++ pNine r ⟨vNil, vNil, vNil, vNil, vNil, vNil, vNil, vNil, vNil, vNil⟩ ++ pDay r ++ pWkst r
theorem pNine_same (r : Ru) (x y : Rs) : pNine r x = pNine r y := rfl
theorem parts_length {r : Ru} : (parts r).length ≤ 15 ∧ 0 < (parts r).length := by
  have h1 := pUntil_len r
  have h2 := pCount_len r
  have h3 := pInterval_len r
  have h4 := pDay_len r
  have h5 : (pWkst r).length ≤ 1 := by unfold pWkst; split <;> simp
  have h6 : (pNine r ⟨vNil, vNil, vNil, vNil, vNil, vNil, vNil, vNil, vNil, vNil⟩).length ≤ 9 := by
    unfold pNine nine
    simp only [List.flatMap_cons, List.flatMap_nil, List.length_append, List.length_nil]
    have := fun p => pOne_length p
    have e : ∀ p, (pOne p).length ≤ 1 := pOne_length
    have a1 := e ([66, 89, 83, 69, 67, 79, 78, 68], vNil, r.second)
    have a2 := e ([66, 89, 77, 73, 78, 85, 84, 69], vNil, r.minute)
    have a3 := e ([66, 89, 72, 79, 85, 82], vNil, r.hour)
    have a4 := e ([66, 89, 77, 79, 78, 84, 72, 68, 65, 89], vNil, r.monthDay)
    have a5 := e ([66, 89, 89, 69, 65, 82, 68, 65, 89], vNil, r.yearDay)
    have a6 := e ([66, 89, 87, 69, 69, 75, 78, 79], vNil, r.weekNo)
    have a7 := e ([66, 89, 77, 79, 78, 84, 72], vNil, r.month)
    have a8 := e ([66, 89, 83, 69, 84, 80, 79, 83], vNil, r.setPos)
    have a9 := e ([66, 89, 69, 65, 83, 84, 69, 82], vNil, r.easter)
    omega
  unfold parts
  simp only [List.length_append]
  have : (pFreq r).length = 1 := rfl
  omega
theorem parts_memN {r : Ru} (h : RuOk r) (N : Nat) (hN : r.setPos.length ≤ N ∧ r.month.length ≤ N ∧ r.monthDay.length ≤ N ∧ r.yearDay.length ≤ N ∧ r.weekNo.length ≤ N ∧ r.day.length ≤ N ∧ r.hour.length ≤ N ∧ r.minute.length ≤ N ∧ r.second.length ≤ N ∧ r.easter.length ≤ N) : ∀ s ∈ parts r, s.length ≤ 24 * N + 1100 := by
  intro s hs
  unfold parts at hs
  simp only [List.mem_append] at hs
  rcases hs with (((((hs | hs) | hs) | hs) | hs) | hs) | hs
  · unfold pFreq at hs
    rw [List.mem_singleton] at hs; subst hs
    have := (freq_get h.freq).2
    simp only [List.length_append, List.length_cons, List.length_nil]
    omega
  · unfold pUntil at hs
    split at hs
    · simp at hs; subst hs
      have := dateText_length h.til.1 h.til.2
      simp only [List.length_cons]; omega
    · simp at hs
  · unfold pCount at hs
    split at hs
    · simp at hs; subst hs
      have := Lib.itoa_length_le r.count (by have := h.count; omega) h.count.2
      simp only [List.length_cons]; omega
    · simp at hs
  · unfold pInterval at hs
    split at hs
    · simp at hs; subst hs
      have := Lib.itoa_length_le r.interval (by have := h.interval; omega) h.interval.2
      simp only [List.length_cons]; omega
    · simp at hs
  · unfold pNine at hs
    obtain ⟨p, hp, hs⟩ := List.mem_flatMap.1 hs
    have key : p.1.length ≤ 10 ∧ IntsOk p.2.2 ∧ p.2.2.length ≤ N := by
      unfold nine at hp
      simp only [List.mem_cons, List.not_mem_nil, or_false] at hp
      rcases hp with rfl | rfl | rfl | rfl | rfl | rfl | rfl | rfl | rfl
      · exact ⟨by show 8 ≤ 10; omega, h.second, by show r.second.length ≤ N; omega⟩
      · exact ⟨by show 8 ≤ 10; omega, h.minute, by show r.minute.length ≤ N; omega⟩
      · exact ⟨by show 6 ≤ 10; omega, h.hour, by show r.hour.length ≤ N; omega⟩
      · exact ⟨by show 10 ≤ 10; omega, h.monthDay, by show r.monthDay.length ≤ N; omega⟩
      · exact ⟨by show 9 ≤ 10; omega, h.yearDay, by show r.yearDay.length ≤ N; omega⟩
      · exact ⟨by show 8 ≤ 10; omega, h.weekNo, by show r.weekNo.length ≤ N; omega⟩
      · exact ⟨by show 7 ≤ 10; omega, h.month, by show r.month.length ≤ N; omega⟩
      · exact ⟨by show 8 ≤ 10; omega, h.setPos, by show r.setPos.length ≤ N; omega⟩
      · exact ⟨by show 8 ≤ 10; omega, h.easter, by show r.easter.length ≤ N; omega⟩
    unfold pOne at hs
    split at hs
    · simp at hs
    · simp at hs; subst hs
      have := joined_length key.2.1
      have := key.2.2
      have := key.1
      simp only [List.length_append, List.length_cons]; omega
  · unfold pDay at hs
    split at hs
    · simp at hs
    · simp at hs; subst hs
      have := days_length h.day.1 h.day.2
      have := h.day.1
      simp only [List.length_cons]; omega
  · unfold pWkst at hs
    split at hs
    · simp at hs
    · rw [List.mem_singleton] at hs; subst hs
      have := (wday_get h.wkst.1 h.wkst.2).2
      simp only [List.length_append, List.length_cons, List.length_nil]; omega
theorem parts_mem {r : Ru} (h : RuOk r) : ∀ s ∈ parts r, s.length ≤ 30000 := fun s hs => by
  have := parts_memN h 1000 ⟨h.setPos.1, h.month.1, h.monthDay.1, h.yearDay.1, h.weekNo.1, h.day.1, h.hour.1, h.minute.1, h.second.1, h.easter.1⟩ s hs
  omega
theorem parts_clean {r : Ru} (h : CleanP r) : ∀ s ∈ parts (bare r), s.length ≤ 1388 := fun s hs => by
  have a1 := (within_spec h.setPos).1
  have a2 := (within_spec h.month).1
  have a3 := (within_spec h.monthDay).1
  have a4 := (within_spec h.yearDay).1
  have a5 := (within_spec h.weekNo).1
  have a6 := (within_spec h.hour).1
  have a7 := (within_spec h.minute).1
  have a8 := (within_spec h.second).1
  have a9 := (within_spec h.easter).1
  have a10 := h.dayLen
  have := parts_memN (clean_ok h) 12 (by show r.setPos.length ≤ 12 ∧ r.month.length ≤ 12 ∧ r.monthDay.length ≤ 12 ∧ r.yearDay.length ≤ 12 ∧ r.weekNo.length ≤ 12 ∧ r.day.length ≤ 12 ∧ r.hour.length ≤ 12 ∧ r.minute.length ≤ 12 ∧ r.second.length ≤ 12 ∧ r.easter.length ≤ 12; omega) s hs
  omega
/-- A text with semicolons. -/
def textOf (l : List (List UInt8)) : List UInt8 := joinB 59 l
theorem textNil_A {w0 : World} (hG : Glob w0) (r : Ru) (x : Rs) (hr : RuOk r) (H : Heap) (hx : RuAt H r x) : ACalls Tryz.prog (CB w0) 14 [.agg (ruCells r x), vNil] H fun v H' => v = vS (textOf (parts r)) ∧ H' = H := by
  refine ACalls.flat rfl ?_
  refine A_fun (N := 74) (rs := [.tmp 4]) Tryz.func14 rfl rfl rfl (by kernel_rfl) (by kernel_rfl) (Nat.le_of_ble_eq_true rfl) ?_
  rintro e he ⟨g0, g1, -⟩
  have g0' := g0
  unfold ruCells at g0
  simp only [go_sem, Nat.reduceLT, Nat.reduceBEq, Nat.reduceAdd, Int.reduceBEq, Nat.reduceLeDiff, reduceIte, Nat.reduceEqDiff, Int.reduceEq, Int.reduceLE, Int.reduceLT, Int.reduceNe, Nat.reduceMul, Nat.reduceSub, Int.reduceToNat, he, g0, g1, hx.setPos.one, hx.month.one, hx.monthDay.one, hx.yearDay.one, hx.weekNo.one, hx.day.one, hx.hour.one, hx.minute.one, hx.second.one, hx.easter.one]
  refine callX_any (parts_A hG r x hr _ (hx.more _)) ?_
  rintro v h ⟨⟨G, rfl⟩, o, rfl, ho, hol⟩
  rw [pNine_same r x ⟨vNil, vNil, vNil, vNil, vNil, vNil, vNil, vNil, vNil, vNil⟩] at ho ⊢
  have hpl := parts_length (r := r)
  have hpm := parts_mem hr
  unfold parts at hpl hpm ⊢
  generalize pFreq r ++ pUntil r ++ pCount r ++ pInterval r ++ pNine r ⟨vNil, vNil, vNil, vNil, vNil, vNil, vNil, vNil, vNil, vNil⟩ ++ pDay r ++ pWkst r = l at *
  simp only [go_sem, Nat.reduceLT, Nat.reduceBEq, Nat.reduceAdd, Int.reduceBEq, Nat.reduceLeDiff, reduceIte, Nat.reduceEqDiff, Int.reduceEq, Int.reduceLE, Int.reduceLT, Int.reduceNe, Nat.reduceMul, Nat.reduceSub, Int.reduceToNat, he, g0, g1, setD_some]
  rw [List.append_assoc, List.cons_append, List.nil_append] at ho
  refine A_while 0 (fun k e h => (∃ G, h = H ++ G) ∧ h[o]? = some (.own 9 (l.map vS)) ∧ len e = 74 ∧ AL.get e 5 = .sl true o 0 l.length 1 ∧ AL.get e 15 = vI 0 ∧ AL.get e 16 = vI 0) (by kernel_rfl) ?_ ?_
  · simp only [go_sem, Nat.reduceLT, Nat.reduceBEq, Nat.reduceAdd, Int.reduceBEq, Nat.reduceLeDiff, reduceIte, Nat.reduceEqDiff, Int.reduceEq, Int.reduceLE, Int.reduceLT, Int.reduceNe, Nat.reduceMul, Nat.reduceSub, Int.reduceToNat, he, g0, g1]
    exact ⟨⟨_, rfl⟩, ho⟩
  · rintro k e h ⟨⟨G2, rfl⟩, ho, he, g5, g15, g16⟩
    have d0 : decide ((0 : Int) < 0) = false := rfl
    simp only [go_sem, Nat.reduceLT, Nat.reduceBEq, Nat.reduceAdd, Int.reduceBEq, Nat.reduceLeDiff, reduceIte, Nat.reduceEqDiff, Int.reduceEq, Int.reduceLE, Int.reduceLT, Int.reduceNe, Nat.reduceMul, Nat.reduceSub, Int.reduceToNat, he, g5, g15, g16, d0]
    refine A_while l.length (fun k e h => h = H ++ G2 ∧ len e = 74 ∧ AL.get e 58 = .sl true o 0 l.length 1 ∧ AL.get e 59 = vI l.length ∧ ∃ (i : Nat) (out : List UInt8), AL.get e 60 = vI i ∧ AL.get e 9 = vS out ∧ i + k = l.length ∧ out = joinB 59 (l.take i) ∧ out.length ≤ 30001 * i) (by kernel_rfl) ?_ ?_
    · simp only [go_sem, Nat.reduceLT, Nat.reduceBEq, Nat.reduceAdd, Int.reduceBEq, Nat.reduceLeDiff, reduceIte, Nat.reduceEqDiff, Int.reduceEq, Int.reduceLE, Int.reduceLT, Int.reduceNe, Nat.reduceMul, Nat.reduceSub, Int.reduceToNat, he, g5, g15, g16]
      exact ⟨0, [], rfl, rfl, by omega, rfl, by simp⟩
    · rintro k e h ⟨rfl, he, g58, g59, i, out, g60, g9, hik, hout, hol⟩
      simp only [go_sem, Nat.reduceLT, Nat.reduceBEq, Nat.reduceAdd, Int.reduceBEq, Nat.reduceLeDiff, reduceIte, Nat.reduceEqDiff, Int.reduceEq, Int.reduceLE, Int.reduceLT, Int.reduceNe, Nat.reduceMul, Nat.reduceSub, Int.reduceToNat, he, g58, g59, g60, g9]
      refine condK_of (fun hc => ?_) fun hc => ?_
      · have hc := of_decide_eq_true hc
        have hi : i < l.length := by omega
        have hli : l[i]? = some (l.getD i []) := by rw [List.getD_eq_getElem?_getD, List.getElem?_eq_getElem hi]; rfl
        have hlm := hpm _ (List.mem_of_getElem? hli)
        have hcell : (l.map vS)[i]? = some (vS (l.getD i [])) := by rw [List.getElem?_map, hli]; rfl
        have hst := joinB_take 59 l i _ hli
        generalize l.getD i [] = a at *
        have wi : IntKind.i64.wrap ((i : Int) + 1) = ((i + 1 : Nat) : Int) := by rw [wI64 (by omega)]; rfl
        simp only [go_sem, Nat.reduceLT, Nat.reduceBEq, Nat.reduceAdd, Int.reduceBEq, Nat.reduceLeDiff, reduceIte, Nat.reduceEqDiff, Int.reduceEq, Int.reduceLE, Int.reduceLT, Int.reduceNe, Nat.reduceMul, Nat.reduceSub, Int.reduceToNat, he, g58, g59, g60, g9, ho, hcell, Int.toNat_natCast]
        refine ⟨by omega, condK_of (fun hp => ?_) fun hp => ?_⟩
        · have hp := of_decide_eq_true hp
          simp only [go_sem, Nat.reduceLT, Nat.reduceBEq, Nat.reduceAdd, Int.reduceBEq, Nat.reduceLeDiff, reduceIte, Nat.reduceEqDiff, Int.reduceEq, Int.reduceLE, Int.reduceLT, Int.reduceNe, Nat.reduceMul, Nat.reduceSub, Int.reduceToNat, he, g58, g59, g60, g9, wi, List.length_append]
          rw [if_neg (by omega), ← hout] at hst
          refine ⟨by omega, by omega, k - 1, by omega, i + 1, _, rfl, rfl, by omega, by rw [hst], by simp only [List.length_append, List.length_cons]; omega⟩
        · have hp := of_decide_eq_false hp
          have h0 : i = 0 := by omega
          subst h0
          simp only [go_sem, Nat.reduceLT, Nat.reduceBEq, Nat.reduceAdd, Int.reduceBEq, Nat.reduceLeDiff, reduceIte, Nat.reduceEqDiff, Int.reduceEq, Int.reduceLE, Int.reduceLT, Int.reduceNe, Nat.reduceMul, Nat.reduceSub, Int.reduceToNat, he, g58, g59, g60, g9, wi, List.length_append]
          have ho2 : out = [] := List.eq_nil_of_length_eq_zero (by omega)
          subst ho2
          rw [if_pos rfl] at hst
          exact ⟨by simp only [List.length_nil]; omega, k - 1, by omega, 1, _, rfl, rfl, by omega, hst.symm, by simp only [List.nil_append]; omega⟩
      · have hc := of_decide_eq_false hc
        have hil : i = l.length := by omega
        simp only [go_sem, Nat.reduceLT, Nat.reduceBEq, Nat.reduceAdd, Int.reduceBEq, Nat.reduceLeDiff, reduceIte, Nat.reduceEqDiff, Int.reduceEq, Int.reduceLE, Int.reduceLT, Int.reduceNe, Nat.reduceMul, Nat.reduceSub, Int.reduceToNat, he, g58, g59, g60, g9]
        refine ⟨?_, _, rfl⟩
        rw [hout, hil, List.take_length]
        rfl

/-- A sign of a value: none that parts texts, none that is blank. -/
def okB (c : UInt8) : Bool := decide (33 ≤ c.toNat) && decide (c.toNat < 128) && c != 59 && c != 61
def okS (s : List UInt8) : Prop := ∀ c ∈ s, okB c = true
theorem okS_nil : okS [] := fun _ h => by simp at h
theorem okS_app {a b : List UInt8} (h : okS a) (h' : okS b) : okS (a ++ b) := fun c hc => by
  rcases List.mem_append.1 hc with hc | hc
  · exact h c hc
  · exact h' c hc
theorem okS_cons {c : UInt8} {b : List UInt8} (h : okB c = true) (h' : okS b) : okS (c :: b) := fun d hd => by
  rcases List.mem_cons.1 hd with rfl | hd
  · exact h
  · exact h' d hd
theorem okS_of {s : List UInt8} (h : s.all okB = true) : okS s := fun c hc => List.all_eq_true.1 h c hc
theorem digit_ok {n : Nat} (h : n < 10) : okB (UInt8.ofNat (48 + n)) = true := by
  have : n = 0 ∨ n = 1 ∨ n = 2 ∨ n = 3 ∨ n = 4 ∨ n = 5 ∨ n = 6 ∨ n = 7 ∨ n = 8 ∨ n = 9 := by omega
  rcases this with rfl | rfl | rfl | rfl | rfl | rfl | rfl | rfl | rfl | rfl <;> rfl
theorem dec_ok (u : Nat) : okS (Lib.decDigits u) := by
  induction u using Nat.strongRecOn with
  | _ u ih =>
    rw [Lib.decDigits]
    split
    · rename_i h
      exact okS_cons (digit_ok h) okS_nil
    · exact okS_app (ih (u / 10) (by omega)) (okS_cons (digit_ok (by omega)) okS_nil)
theorem itoa_ok (n : Int) : okS (Lib.itoa n) := by
  unfold Lib.itoa
  split
  · exact okS_cons rfl (dec_ok _)
  · exact dec_ok _
theorem padTo_ok (d : Nat) : ∀ (k : Nat) (l : List UInt8), okS l → okS (padTo d l k)
  | 0, l, h => h
  | k + 1, l, h => by
    unfold padTo
    split
    · exact padTo_ok d k _ (okS_cons rfl h)
    · exact h
theorem padded_ok (n d : Int) : okS (padded n d) := padTo_ok _ _ _ (itoa_ok n)
theorem dateText_ok (t : Int) : okS (dateText t) := by
  unfold dateText
  exact okS_app (okS_app (okS_app (okS_app (okS_app (okS_app (okS_app (padded_ok _ _) (padded_ok _ _)) (padded_ok _ _)) (okS_of rfl)) (padded_ok _ _)) (padded_ok _ _)) (padded_ok _ _)) (okS_of rfl)
theorem joinB_ok {c : UInt8} (hc : okB c = true) : ∀ {l : List (List UInt8)}, (∀ s ∈ l, okS s) → okS (joinB c l)
  | [], _ => okS_nil
  | [a], h => h a (by simp)
  | a :: b :: r, h => okS_app (h a (by simp)) (okS_cons hc (joinB_ok hc fun s hs => h s (List.mem_cons_of_mem _ hs)))
theorem joined_ok (l : List Int) : okS (joined l) := joinB_ok rfl fun s hs => by
  obtain ⟨n, _, rfl⟩ := List.mem_map.1 hs
  exact itoa_ok n
theorem getD_ok {l : List (List UInt8)} (h : l.all (fun s => s.all okB) = true) (i : Nat) : okS (l.getD i []) := by
  rw [List.getD_eq_getElem?_getD]
  cases hi : l[i]? with
  | none => exact okS_nil
  | some s => exact okS_of (List.all_eq_true.1 h s (List.mem_of_getElem? hi))
theorem dayText_ok (d : Int × Int) : okS (dayText d) := by
  unfold dayText
  refine okS_app ?_ (getD_ok rfl _)
  split
  · exact okS_nil
  · exact itoa_ok _
theorem days_ok (l : List (Int × Int)) : okS (days l) := joinB_ok rfl fun s hs => by
  obtain ⟨n, _, rfl⟩ := List.mem_map.1 hs
  exact dayText_ok n
/-- Names and values. -/
abbrev KV := List UInt8 × List UInt8
def kvT (p : KV) : List UInt8 := p.1 ++ 61 :: p.2
def kOne (n : List UInt8) (l : List Int) : List KV := if l.length = 0 then [] else [(n, joined l)]
def kvs (r : Ru) : List KV :=
  [([70, 82, 69, 81], freqs.getD r.freq [])] ++ (if r.hasUntil then [([85, 78, 84, 73, 76], dateText r.til)] else []) ++ (if 0 < r.count then [([67, 79, 85, 78, 84], Lib.itoa r.count)] else []) ++ (if 1 < r.interval then [([73, 78, 84, 69, 82, 86, 65, 76], Lib.itoa r.interval)] else []) ++
  (kOne [66, 89, 83, 69, 67, 79, 78, 68] r.second ++ kOne [66, 89, 77, 73, 78, 85, 84, 69] r.minute ++ kOne [66, 89, 72, 79, 85, 82] r.hour ++ kOne [66, 89, 77, 79, 78, 84, 72, 68, 65, 89] r.monthDay ++ kOne [66, 89, 89, 69, 65, 82, 68, 65, 89] r.yearDay ++ kOne [66, 89, 87, 69, 69, 75, 78, 79] r.weekNo ++ kOne [66, 89, 77, 79, 78, 84, 72] r.month ++ kOne [66, 89, 83, 69, 84, 80, 79, 83] r.setPos ++ kOne [66, 89, 69, 65, 83, 84, 69, 82] r.easter) ++
  (if r.day.length = 0 then [] else [([66, 89, 68, 65, 89], days r.day)]) ++ (if r.wkst = 0 then [] else [([87, 75, 83, 84], wdays.getD r.wkst.toNat [])])
theorem kOne_parts (n : List UInt8) (a : AV) (l : List Int) : (kOne n l).map kvT = pOne (n, a, l) := by
  unfold kOne pOne
  split <;> rfl
theorem kvs_parts (r : Ru) : (kvs r).map kvT = parts r := by
  unfold kvs parts
  simp only [List.map_append]
  congr 1
  · congr 1
    · congr 1
      · congr 1
        · congr 1
          · congr 1
            unfold pUntil
            split <;> rfl
          · unfold pCount
            split <;> rfl
        · unfold pInterval
          split <;> rfl
      · unfold pNine nine
        simp only [List.flatMap_cons, List.flatMap_nil, List.append_nil, ← kOne_parts, List.append_assoc]
    · unfold pDay
      split <;> rfl
  · unfold pWkst
    split <;> rfl
def kvOk (p : KV) : Prop := okS p.1 ∧ okS p.2 ∧ p.1.length ≤ 10 ∧ p.1 ≠ [68, 84, 83, 84, 65, 82, 84] ∧ (p.1 = [85, 78, 84, 73, 76] → NoFrac p.2)
theorem padTo_digits (d : Nat) : ∀ (k : Nat) (l : List UInt8), NoFrac l → NoFrac (padTo d l k)
  | 0, l, h => h
  | k + 1, l, h => by
    unfold padTo
    split
    · refine padTo_digits d k _ ?_
      intro c hc
      rcases List.mem_cons.1 hc with rfl | hc
      · decide
      · exact h c hc
    · exact h
theorem noFrac_app {a b : List UInt8} (h : NoFrac a) (h' : NoFrac b) : NoFrac (a ++ b) := fun c hc => by
  rcases List.mem_append.1 hc with hc | hc
  · exact h c hc
  · exact h' c hc
theorem dec_noFrac (u : Nat) : NoFrac (Lib.decDigits u) := by
  have hd : ∀ n, n < 10 → NoFrac [UInt8.ofNat (48 + n)] := by
    intro n h c hc
    rw [List.mem_singleton] at hc
    subst hc
    have : n = 0 ∨ n = 1 ∨ n = 2 ∨ n = 3 ∨ n = 4 ∨ n = 5 ∨ n = 6 ∨ n = 7 ∨ n = 8 ∨ n = 9 := by omega
    rcases this with rfl | rfl | rfl | rfl | rfl | rfl | rfl | rfl | rfl | rfl <;> decide
  induction u using Nat.strongRecOn with
  | _ u ih =>
    rw [Lib.decDigits]
    split
    · rename_i h; exact hd u h
    · exact noFrac_app (ih (u / 10) (by omega)) (hd _ (by omega))
theorem itoa_noFrac (n : Int) : NoFrac (Lib.itoa n) := by
  unfold Lib.itoa
  split
  · exact noFrac_app (a := [45]) (by unfold NoFrac; decide) (dec_noFrac _)
  · exact dec_noFrac _
theorem padded_noFrac (n d : Int) : NoFrac (padded n d) := padTo_digits _ _ _ (itoa_noFrac n)
theorem dateText_noFrac (t : Int) : NoFrac (dateText t) := by
  unfold dateText
  exact noFrac_app (noFrac_app (noFrac_app (noFrac_app (noFrac_app (noFrac_app (noFrac_app (padded_noFrac _ _) (padded_noFrac _ _)) (padded_noFrac _ _)) (by unfold NoFrac; decide)) (padded_noFrac _ _)) (padded_noFrac _ _)) (padded_noFrac _ _)) (by unfold NoFrac; decide)
theorem kv_of {n v : List UInt8} (hn : n.all okB = true ∧ n.length ≤ 10 ∧ n ≠ [68, 84, 83, 84, 65, 82, 84] ∧ n ≠ [85, 78, 84, 73, 76]) (hv : okS v) : kvOk (n, v) := ⟨okS_of hn.1, hv, hn.2.1, hn.2.2.1, fun e => absurd e hn.2.2.2⟩
theorem kOne_ok {n : List UInt8} {l : List Int} (hn : n.all okB = true ∧ n.length ≤ 10 ∧ n ≠ [68, 84, 83, 84, 65, 82, 84] ∧ n ≠ [85, 78, 84, 73, 76]) : ∀ p ∈ kOne n l, kvOk p := by
  intro p hp
  unfold kOne at hp
  split at hp
  · simp at hp
  · rw [List.mem_singleton] at hp
    subst hp
    exact ⟨okS_of hn.1, joined_ok _, hn.2.1, hn.2.2.1, fun e => absurd e hn.2.2.2⟩
theorem kvs_ok (r : Ru) : ∀ p ∈ kvs r, kvOk p := by
  intro p hp
  unfold kvs at hp
  simp only [List.mem_append] at hp
  rcases hp with (((((hp | hp) | hp) | hp) | hp) | hp) | hp
  · rw [List.mem_singleton] at hp
    subst hp
    exact kv_of (by decide) (getD_ok rfl _)
  · split at hp
    · rw [List.mem_singleton] at hp
      subst hp
      exact ⟨okS_of rfl, dateText_ok _, by show 5 ≤ 10; omega, by show [85, 78, 84, 73, 76] ≠ _; decide, fun _ => dateText_noFrac _⟩
    · simp at hp
  · split at hp
    · rw [List.mem_singleton] at hp
      subst hp
      exact kv_of (by decide) (itoa_ok _)
    · simp at hp
  · split at hp
    · rw [List.mem_singleton] at hp
      subst hp
      exact kv_of (by decide) (itoa_ok _)
    · simp at hp
  · rcases hp with (((((((hp | hp) | hp) | hp) | hp) | hp) | hp) | hp) | hp
    all_goals exact kOne_ok (by decide) p hp
  · split at hp
    · simp at hp
    · rw [List.mem_singleton] at hp
      subst hp
      exact kv_of (by decide) (days_ok _)
  · split at hp
    · simp at hp
    · rw [List.mem_singleton] at hp
      subst hp
      exact kv_of (by decide) (getD_ok rfl _)

theorem idx_no {c : UInt8} : ∀ {s : List UInt8}, c ∉ s → idx c s = none
  | [], _ => rfl
  | b :: r, h => by
    rw [idx, if_neg (fun e => h (by simp [e])), idx_no fun hr => h (List.mem_cons_of_mem _ hr)]; rfl
theorem idx_at {c : UInt8} {b : List UInt8} : ∀ {a : List UInt8}, c ∉ a → idx c (a ++ c :: b) = some a.length
  | [], _ => by simp [idx]
  | d :: a, h => by
    rw [List.cons_append, idx, if_neg (fun e => h (by simp [e])), idx_at fun hr => h (List.mem_cons_of_mem _ hr)]
    rfl
theorem splitN_join {c : UInt8} : ∀ {l : List (List UInt8)} {k : Nat}, l ≠ [] → (∀ s ∈ l, c ∉ s) → l.length ≤ k + 1 → splitN c k (joinB c l) = l
  | [], _, h, _, _ => absurd rfl h
  | [a], k, _, h, _ => by
    show splitN c k a = [a]
    cases k with
    | zero => rfl
    | succ k => rw [splitN, idx_no (h a (by simp))]
  | a :: b :: r, k, _, h, hk => by
    show splitN c k (a ++ c :: joinB c (b :: r)) = _
    cases k with
    | zero => simp at hk
    | succ k =>
      rw [splitN, idx_at (h a (by simp))]
      simp only
      rw [List.take_left, show (a ++ c :: joinB c (b :: r)).drop (a.length + 1) = joinB c (b :: r) by
        rw [← List.drop_drop, List.drop_left]; rfl]
      rw [splitN_join (by simp) (fun s hs => h s (List.mem_cons_of_mem _ hs)) (by simp at hk ⊢; omega)]
theorem joinB_len {c : UInt8} : ∀ (l : List (List UInt8)), l.length ≤ (joinB c l).length + 1
  | [] => by simp
  | [a] => by simp [joinB]
  | a :: b :: r => by
    have := joinB_len (c := c) (b :: r)
    show (b :: r).length + 1 ≤ (a ++ c :: joinB c (b :: r)).length + 1
    simp only [List.length_append, List.length_cons] at this ⊢
    omega
theorem split_join {c : UInt8} {l : List (List UInt8)} (h0 : l ≠ []) (h : ∀ s ∈ l, c ∉ s) : split c (joinB c l) = l := by
  unfold split
  exact splitN_join h0 h (by have := joinB_len (c := c) l; omega)
theorem split_kv {p : KV} (h : kvOk p) : split 61 (kvT p) = [p.1, p.2] := by
  have h1 : (61 : UInt8) ∉ p.1 := fun hm => by have := h.1 _ hm; simp [okB] at this
  have h2 : (61 : UInt8) ∉ p.2 := fun hm => by have := h.2.1 _ hm; simp [okB] at this
  have := split_join (c := 61) (l := [p.1, p.2]) (by simp) (by intro s hs; simp at hs; rcases hs with rfl | rfl <;> assumption)
  exact this
/-- A sign that can be seen. -/
def vis (c : UInt8) : Bool := decide (33 ≤ c.toNat) && decide (c.toNat < 128)
def visS (s : List UInt8) : Prop := ∀ c ∈ s, vis c = true
theorem visS_app {a b : List UInt8} (h : visS a) (h' : visS b) : visS (a ++ b) := fun c hc => by
  rcases List.mem_append.1 hc with hc | hc
  · exact h c hc
  · exact h' c hc
theorem okS_vis {s : List UInt8} (h : okS s) : visS s := fun c hc => by
  have := h c hc
  unfold okB at this
  unfold vis
  simp only [Bool.and_eq_true] at this ⊢
  exact this.1.1
theorem joinB_vis {c : UInt8} (hc : vis c = true) : ∀ {l : List (List UInt8)}, (∀ s ∈ l, visS s) → visS (joinB c l)
  | [], _ => fun _ h => by simp [joinB] at h
  | [a], h => h a (by simp)
  | a :: b :: r, h => visS_app (h a (by simp)) fun d hd => by
    rcases List.mem_cons.1 hd with rfl | hd
    · exact hc
    · exact joinB_vis hc (fun s hs => h s (List.mem_cons_of_mem _ hs)) d hd
theorem visS_rev {s : List UInt8} (h : visS s) : visS s.reverse := fun c hc => h c (by simpa using hc)
theorem vis_all : ((List.range 256).all fun n => !vis (UInt8.ofNat n) || !Lib.isSp (UInt8.ofNat n)) = true := by kernel_rfl
theorem vis_sp {c : UInt8} (h : vis c = true) : Lib.isSp c = false := by
  have h1 := List.all_eq_true.1 vis_all c.toNat (List.mem_range.2 c.toNat_lt)
  rw [UInt8.ofNat_toNat, h] at h1
  simpa using h1
theorem drop_vis {s : List UInt8} (h : visS s) : s.dropWhile Lib.isSp = s := by
  cases s with
  | nil => rfl
  | cons c r =>
    rw [List.dropWhile_cons, vis_sp (h c (by simp))]
    rfl
theorem inText_of {s : List UInt8} (hv : visS s) (hl : s.length ≤ 50000) (hh : s.head? ≠ some 82) (hf : ∀ a ∈ split 59 s, ∀ k v, split 61 a = [k, v] → (k = [85, 78, 84, 73, 76] ∨ k = [68, 84, 83, 84, 65, 82, 84]) → NoFrac v) : InText s where
  len := hl
  frac := hf
  ascii := fun c hc => by
    have := hv c hc
    unfold vis at this
    simp only [Bool.and_eq_true, decide_eq_true_eq] at this
    exact this.2
  trim := by
    unfold Lib.trimSpace
    rw [drop_vis hv, drop_vis (visS_rev hv), List.reverse_reverse]
  line := idx_no fun hm => by have := hv _ hm; revert this; decide
  pre := by
    unfold Lib.trimPrefix Lib.hasPrefix
    cases s with
    | nil => rfl
    | cons c r =>
      have : c ≠ 82 := fun e => hh (by rw [e]; rfl)
      have h2 : ((82 : UInt8) == c) = false := by simpa using fun e => this e.symm
      simp only [List.isPrefixOf, h2, Bool.false_and, Bool.false_eq_true, if_false]
/-- Parts behind a text, put into the options. -/
theorem foldE_app {σ α : Type} (f : σ → α → Except Nat σ) : ∀ (l : List α) (o : σ) (m : List α), foldE f o (l ++ m) = match foldE f o l with
    | .ok o' => foldE f o' m
    | .error t => .error t
  | [], o, m => rfl
  | a :: l, o, m => by
    rw [List.cons_append, foldE, foldE]
    cases f o a with
    | ok o1 => exact foldE_app f l o1 m
    | error t => rfl
theorem parse_bad {l : List (List UInt8)} {b : List UInt8} (h0 : ∀ s ∈ l, (59 : UInt8) ∉ s) (hb : (59 : UInt8) ∉ b) (hbad : ∀ o, ∃ t, opStep o b = .error t) : ∃ t, opParse (joinB 59 (l ++ [b])) = .error t := by
  unfold opParse
  rw [split_join (by simp) (by
    intro s hs
    rcases List.mem_append.1 hs with hs | hs
    · exact h0 s hs
    · rw [List.mem_singleton] at hs; rw [hs]; exact hb), foldE_app]
  cases foldE opStep op0 l with
  | error t => exact ⟨t, rfl⟩
  | ok o =>
    obtain ⟨t, ht⟩ := hbad o
    exact ⟨t, by simp only [foldE, ht, opEnd]⟩
theorem parts_no {r : Ru} : ∀ s ∈ parts r, (59 : UInt8) ∉ s := by
  intro s hs hm
  rw [← kvs_parts] at hs
  obtain ⟨p, hp, rfl⟩ := List.mem_map.1 hs
  have ho := kvs_ok r p hp
  unfold kvT at hm
  rcases List.mem_append.1 hm with hm | hm
  · have := ho.1 _ hm; revert this; decide
  · rcases List.mem_cons.1 hm with e | hm
    · revert e; decide
    · have := ho.2.1 _ hm; revert this; decide
theorem parts_vis {r : Ru} : ∀ s ∈ parts r, visS s := by
  intro s hs
  rw [← kvs_parts] at hs
  obtain ⟨p, hp, rfl⟩ := List.mem_map.1 hs
  have ho := kvs_ok r p hp
  refine visS_app (okS_vis ho.1) fun c hc => ?_
  rcases List.mem_cons.1 hc with rfl | hc
  · rfl
  · exact okS_vis ho.2.1 c hc

theorem bad_suffix {r : Ru} (h : CleanP r) {b : List UInt8} (hv : b.all vis = true) (hb : b.length ≤ 100) (hn : b.all (fun c => c != 59) = true) (hf : fracB b = true) (hbad : ∀ o, ∃ t, opStep o b = .error t) : InText (textOf (parts (bare r)) ++ 59 :: b) ∧ ∃ t, opParse (textOf (parts (bare r)) ++ 59 :: b) = .error t := by
  have hpl := parts_length (r := bare r)
  have hne : parts (bare r) ≠ [] := fun e => by rw [e] at hpl; simp at hpl
  have hb59 : (59 : UInt8) ∉ b := fun hm => by have := List.all_eq_true.1 hn _ hm; revert this; decide
  have he : textOf (parts (bare r)) ++ 59 :: b = joinB 59 (parts (bare r) ++ [b]) := (joinB_snoc 59 b _ hne).symm
  have hsp : split 59 (textOf (parts (bare r)) ++ 59 :: b) = parts (bare r) ++ [b] := by
    rw [he]
    exact split_join (by simp) fun s hs => by
      rcases List.mem_append.1 hs with hs | hs
      · exact parts_no s hs
      · rw [List.mem_singleton] at hs; rw [hs]; exact hb59
  refine ⟨inText_of ?_ ?_ ?_ ?_, ?_⟩
  · exact visS_app (joinB_vis rfl parts_vis) fun c hc => by
      rcases List.mem_cons.1 hc with rfl | hc
      · rfl
      · exact List.all_eq_true.1 hv c hc
  · have := joinB_length 59 1388 (parts (bare r)) (parts_clean h)
    rw [List.length_append, List.length_cons]
    unfold textOf
    have : 1389 * (parts (bare r)).length ≤ 1389 * 15 := Nat.mul_le_mul_left _ hpl.1
    omega
  · have hh : ∀ l : List (List UInt8), (joinB 59 ((70 :: [82, 69, 81, 61] ++ freqs.getD (bare r).freq []) :: l)).head? = some 70 := by
      intro l
      cases l <;> rfl
    have : parts (bare r) = (70 :: [82, 69, 81, 61] ++ freqs.getD (bare r).freq []) :: (parts (bare r)).tail := rfl
    unfold textOf
    rw [this, List.head?_append, hh]
    exact (by decide : (some (70 : UInt8)) ≠ some 82)
  · rw [hsp]
    intro a ha k v hkv hk
    rcases List.mem_append.1 ha with ha | ha
    · rw [← kvs_parts] at ha
      obtain ⟨p, hp, rfl⟩ := List.mem_map.1 ha
      have ho := kvs_ok _ p hp
      rw [split_kv ho] at hkv
      simp only [List.cons.injEq, and_true] at hkv
      obtain ⟨rfl, rfl⟩ := hkv
      rcases hk with hk | hk
      · exact ho.2.2.2.2 hk
      · exact absurd hk ho.2.2.2.1
    · rw [List.mem_singleton] at ha
      subst ha
      exact fracB_spec hf a (by rw [split_none (idx_no hb59)]; simp) k v hkv hk
  · rw [he]
    exact parse_bad parts_no hb59 hbad
theorem badS0 {r : Ru} (h : CleanP r) : InText (textOf (parts (bare r)) ++ [59, 66, 89, 78, 79, 84, 72, 73, 78, 71, 61, 49]) ∧ ∃ t, opParse (textOf (parts (bare r)) ++ [59, 66, 89, 78, 79, 84, 72, 73, 78, 71, 61, 49]) = .error t :=
  bad_suffix h (by kernel_rfl) (by decide) (by kernel_rfl) (by kernel_rfl) fun o => ⟨157, by kernel_rfl⟩
theorem badS1 {r : Ru} (h : CleanP r) : InText (textOf (parts (bare r)) ++ [59, 66, 89, 72, 79, 85, 82, 61]) ∧ ∃ t, opParse (textOf (parts (bare r)) ++ [59, 66, 89, 72, 79, 85, 82, 61]) = .error t :=
  bad_suffix h (by kernel_rfl) (by decide) (by kernel_rfl) (by kernel_rfl) fun o => ⟨157, by kernel_rfl⟩
theorem badS2 {r : Ru} (h : CleanP r) : InText (textOf (parts (bare r)) ++ [59, 66, 89, 72, 79, 85, 82, 61, 120]) ∧ ∃ t, opParse (textOf (parts (bare r)) ++ [59, 66, 89, 72, 79, 85, 82, 61, 120]) = .error t :=
  bad_suffix h (by kernel_rfl) (by decide) (by kernel_rfl) (by kernel_rfl) fun o => ⟨207, by kernel_rfl⟩
theorem badS3 {r : Ru} (h : CleanP r) : InText (textOf (parts (bare r)) ++ [59, 66, 89, 72, 79, 85, 82, 61, 49, 44, 44, 50]) ∧ ∃ t, opParse (textOf (parts (bare r)) ++ [59, 66, 89, 72, 79, 85, 82, 61, 49, 44, 44, 50]) = .error t :=
  bad_suffix h (by kernel_rfl) (by decide) (by kernel_rfl) (by kernel_rfl) fun o => ⟨207, by kernel_rfl⟩
theorem badS4 {r : Ru} (h : CleanP r) : InText (textOf (parts (bare r)) ++ [59, 66, 89, 68, 65, 89, 61, 88, 88]) ∧ ∃ t, opParse (textOf (parts (bare r)) ++ [59, 66, 89, 68, 65, 89, 61, 88, 88]) = .error t :=
  bad_suffix h (by kernel_rfl) (by decide) (by kernel_rfl) (by kernel_rfl) fun o => ⟨157, by kernel_rfl⟩
theorem badS5 {r : Ru} (h : CleanP r) : InText (textOf (parts (bare r)) ++ [59, 66, 89, 68, 65, 89, 61, 77]) ∧ ∃ t, opParse (textOf (parts (bare r)) ++ [59, 66, 89, 68, 65, 89, 61, 77]) = .error t :=
  bad_suffix h (by kernel_rfl) (by decide) (by kernel_rfl) (by kernel_rfl) fun o => ⟨157, by kernel_rfl⟩
theorem badS6 {r : Ru} (h : CleanP r) : InText (textOf (parts (bare r)) ++ [59, 85, 78, 84, 73, 76, 61, 50, 48, 50, 48]) ∧ ∃ t, opParse (textOf (parts (bare r)) ++ [59, 85, 78, 84, 73, 76, 61, 50, 48, 50, 48]) = .error t :=
  bad_suffix h (by kernel_rfl) (by decide) (by kernel_rfl) (by kernel_rfl) fun o => ⟨157, by kernel_rfl⟩
theorem badS7 {r : Ru} (h : CleanP r) : InText (textOf (parts (bare r)) ++ [59, 85, 78, 84, 73, 76, 61, 50, 48, 50, 48, 49, 51, 48, 49, 84, 48, 48, 48, 48, 48, 48, 90]) ∧ ∃ t, opParse (textOf (parts (bare r)) ++ [59, 85, 78, 84, 73, 76, 61, 50, 48, 50, 48, 49, 51, 48, 49, 84, 48, 48, 48, 48, 48, 48, 90]) = .error t :=
  bad_suffix h (by kernel_rfl) (by decide) (by kernel_rfl) (by kernel_rfl) fun o => ⟨157, by kernel_rfl⟩
theorem badS8 {r : Ru} (h : CleanP r) : InText (textOf (parts (bare r)) ++ [59, 67, 79, 85, 78, 84, 61, 120]) ∧ ∃ t, opParse (textOf (parts (bare r)) ++ [59, 67, 79, 85, 78, 84, 61, 120]) = .error t :=
  bad_suffix h (by kernel_rfl) (by decide) (by kernel_rfl) (by kernel_rfl) fun o => ⟨207, by kernel_rfl⟩
theorem badS9 {r : Ru} (h : CleanP r) : InText (textOf (parts (bare r)) ++ [59, 73, 78, 84, 69, 82, 86, 65, 76, 61, 120]) ∧ ∃ t, opParse (textOf (parts (bare r)) ++ [59, 73, 78, 84, 69, 82, 86, 65, 76, 61, 120]) = .error t :=
  bad_suffix h (by kernel_rfl) (by decide) (by kernel_rfl) (by kernel_rfl) fun o => ⟨207, by kernel_rfl⟩
theorem badS10 {r : Ru} (h : CleanP r) : InText (textOf (parts (bare r)) ++ [59, 87, 75, 83, 84, 61, 65, 65]) ∧ ∃ t, opParse (textOf (parts (bare r)) ++ [59, 87, 75, 83, 84, 61, 65, 65]) = .error t :=
  bad_suffix h (by kernel_rfl) (by decide) (by kernel_rfl) (by kernel_rfl) fun o => ⟨157, by kernel_rfl⟩
theorem badF0 : InText [] ∧ ∃ t, opParse [] = .error t :=
  ⟨⟨by decide, fracB_spec (by kernel_rfl), by decide, by kernel_rfl, by decide, by kernel_rfl⟩, 157, by kernel_rfl⟩
theorem badF1 : InText [67, 79, 85, 78, 84, 61, 50] ∧ ∃ t, opParse [67, 79, 85, 78, 84, 61, 50] = .error t :=
  ⟨⟨by decide, fracB_spec (by kernel_rfl), by decide, by kernel_rfl, by decide, by kernel_rfl⟩, 157, by kernel_rfl⟩
theorem badF2 : InText [70, 82, 69, 81, 61] ∧ ∃ t, opParse [70, 82, 69, 81, 61] = .error t :=
  ⟨⟨by decide, fracB_spec (by kernel_rfl), by decide, by kernel_rfl, by decide, by kernel_rfl⟩, 157, by kernel_rfl⟩
theorem badF3 : InText [70, 82, 69, 81, 61, 78, 69, 86, 69, 82] ∧ ∃ t, opParse [70, 82, 69, 81, 61, 78, 69, 86, 69, 82] = .error t :=
  ⟨⟨by decide, fracB_spec (by kernel_rfl), by decide, by kernel_rfl, by decide, by kernel_rfl⟩, 157, by kernel_rfl⟩
theorem badF4 : InText [70, 82, 69, 81, 61, 100, 97, 105, 108, 121, 32, 120] ∧ ∃ t, opParse [70, 82, 69, 81, 61, 100, 97, 105, 108, 121, 32, 120] = .error t :=
  ⟨⟨by decide, fracB_spec (by kernel_rfl), by decide, by kernel_rfl, by decide, by kernel_rfl⟩, 157, by kernel_rfl⟩
/-- The texts that are none. -/
def bads (t : List UInt8) : List (List UInt8) := [[], [67, 79, 85, 78, 84, 61, 50], [70, 82, 69, 81, 61], [70, 82, 69, 81, 61, 78, 69, 86, 69, 82], [70, 82, 69, 81, 61, 100, 97, 105, 108, 121, 32, 120], t ++ [59, 66, 89, 78, 79, 84, 72, 73, 78, 71, 61, 49], t ++ [59, 66, 89, 72, 79, 85, 82, 61], t ++ [59, 66, 89, 72, 79, 85, 82, 61, 120], t ++ [59, 66, 89, 72, 79, 85, 82, 61, 49, 44, 44, 50], t ++ [59, 66, 89, 68, 65, 89, 61, 88, 88], t ++ [59, 66, 89, 68, 65, 89, 61, 77], t ++ [59, 85, 78, 84, 73, 76, 61, 50, 48, 50, 48], t ++ [59, 85, 78, 84, 73, 76, 61, 50, 48, 50, 48, 49, 51, 48, 49, 84, 48, 48, 48, 48, 48, 48, 90], t ++ [59, 67, 79, 85, 78, 84, 61, 120], t ++ [59, 73, 78, 84, 69, 82, 86, 65, 76, 61, 120], t ++ [59, 87, 75, 83, 84, 61, 65, 65]]
theorem bads_ok {r : Ru} (h : CleanP r) {k : Nat} (hk : k < 16) : ∃ b, (bads (textOf (parts (bare r))))[k]? = some b ∧ InText b ∧ ∃ t, opParse b = .error t := by
  match k, hk with
  | 0, _ => exact ⟨_, rfl, badF0⟩
  | 1, _ => exact ⟨_, rfl, badF1⟩
  | 2, _ => exact ⟨_, rfl, badF2⟩
  | 3, _ => exact ⟨_, rfl, badF3⟩
  | 4, _ => exact ⟨_, rfl, badF4⟩
  | 5, _ => exact ⟨_, rfl, badS0 h⟩
  | 6, _ => exact ⟨_, rfl, badS1 h⟩
  | 7, _ => exact ⟨_, rfl, badS2 h⟩
  | 8, _ => exact ⟨_, rfl, badS3 h⟩
  | 9, _ => exact ⟨_, rfl, badS4 h⟩
  | 10, _ => exact ⟨_, rfl, badS5 h⟩
  | 11, _ => exact ⟨_, rfl, badS6 h⟩
  | 12, _ => exact ⟨_, rfl, badS7 h⟩
  | 13, _ => exact ⟨_, rfl, badS8 h⟩
  | 14, _ => exact ⟨_, rfl, badS9 h⟩
  | 15, _ => exact ⟨_, rfl, badS10 h⟩
  | k + 16, hk => exact absurd hk (by omega)

theorem textOf_len {r : Ru} (h : CleanP r) : (textOf (parts (bare r))).length ≤ 25000 := by
  have hpl := parts_length (r := bare r)
  have := joinB_length 59 1388 (parts (bare r)) (parts_clean h)
  have : 1389 * (parts (bare r)).length ≤ 1389 * 15 := Nat.mul_le_mul_left _ hpl.1
  unfold textOf
  omega
theorem bare_at {H : Heap} {r : Ru} {x : Rs} (hx : RuAt H r x) : RuAt H (bare r) x := ⟨hx.setPos, hx.month, hx.monthDay, hx.yearDay, hx.weekNo, hx.day, hx.hour, hx.minute, hx.second, hx.easter⟩
theorem fnTextBad_A {w0 : World} (hG : Glob w0) (r : Ru) (x : Rs) (hn : RuNum r) (which : Nat) (hw : which ≤ 255) (H : Heap) (hH : GH H) (hx : RuAt H r x) : ACalls Tryz.prog (CB w0) 3 [.agg (ruCells r x), vU which] H fun v H' => v = vB true ∧ ∃ G, H' = H ++ G := by
  refine A_fun (N := 60) (rs := [.tmp 4]) Tryz.func3 rfl rfl rfl (by kernel_rfl) (by kernel_rfl) (Nat.le_of_ble_eq_true rfl) ?_
  rintro e he ⟨g0, g1, -⟩
  have hB : ∀ G, (H ++ AObj.own 25 (ruCells r x) :: G)[H.length]? = some (AObj.own 25 (ruCells r x)) := fun G => heap_get0
  unfold ruCells at g0 hB
  simp only [go_sem, Nat.reduceLT, Nat.reduceBEq, Nat.reduceAdd, Int.reduceBEq, Nat.reduceLeDiff, reduceIte, Nat.reduceEqDiff, Int.reduceEq, Int.reduceLE, Int.reduceLT, Int.reduceNe, Nat.reduceMul, Nat.reduceSub, Int.reduceToNat, he, g0, g1, hx.setPos.one, hx.month.one, hx.monthDay.one, hx.yearDay.one, hx.weekNo.one, hx.day.one, hx.hour.one, hx.minute.one, hx.second.one, hx.easter.one]
  refine callX_of (zzFits1_A r x _ (hx.more _)) (List.prefix_refl _) ?_
  cases hf : fits r with
  | false =>
    simp only [go_sem, Nat.reduceLT, Nat.reduceBEq, Nat.reduceAdd, Int.reduceBEq, Nat.reduceLeDiff, reduceIte, Nat.reduceEqDiff, Int.reduceEq, Int.reduceLE, Int.reduceLT, Int.reduceNe, Nat.reduceMul, Nat.reduceSub, Int.reduceToNat, he, g1, setD_some]
    exact ⟨_, rfl⟩
  | true =>
  have hl := fits_len hf
  simp only [go_sem, Nat.reduceLT, Nat.reduceBEq, Nat.reduceAdd, Int.reduceBEq, Nat.reduceLeDiff, reduceIte, Nat.reduceEqDiff, Int.reduceEq, Int.reduceLE, Int.reduceLT, Int.reduceNe, Nat.reduceMul, Nat.reduceSub, Int.reduceToNat, he, g1, setD_some]
  refine callX_any (textBare_A r x hl hn _ (hx.more _)) ?_
  rintro v h ⟨rfl, G, rfl⟩
  unfold bareR
  cases hb : bareOk r with
  | false =>
    simp only [ruCells, go_sem, Nat.reduceLT, Nat.reduceBEq, Nat.reduceAdd, Int.reduceBEq, Nat.reduceLeDiff, reduceIte, Nat.reduceEqDiff, Int.reduceEq, Int.reduceLE, Int.reduceLT, Int.reduceNe, Nat.reduceMul, Nat.reduceSub, Int.reduceToNat, he, g1, setD_some, Bool.true_and, hx.setPos.one, hx.month.one, hx.monthDay.one, hx.yearDay.one, hx.weekNo.one, hx.day.one, hx.hour.one, hx.minute.one, hx.second.one, hx.easter.one]
    refine callX_of (textAwake_A hG _ (hH.more _)) (List.prefix_refl _) ?_
    simp only [go_sem, Nat.reduceLT, Nat.reduceBEq, Nat.reduceAdd, Int.reduceBEq, Nat.reduceLeDiff, reduceIte, Nat.reduceEqDiff, Int.reduceEq, Int.reduceLE, Int.reduceLT, Int.reduceNe, Nat.reduceMul, Nat.reduceSub, Int.reduceToNat, he, g1, setD_some]
    exact ⟨_, rfl⟩
  | true =>
    have hc : CleanP r := clean_spec (by unfold bareOk at hb; rw [Bool.and_eq_true] at hb; exact hb.1)
    have htl := textOf_len hc
    simp only [ruCells, go_sem, Nat.reduceLT, Nat.reduceBEq, Nat.reduceAdd, Int.reduceBEq, Nat.reduceLeDiff, reduceIte, Nat.reduceEqDiff, Int.reduceEq, Int.reduceLE, Int.reduceLT, Int.reduceNe, Nat.reduceMul, Nat.reduceSub, Int.reduceToNat, he, g1, setD_some, Bool.true_and, hx.setPos.one, hx.month.one, hx.monthDay.one, hx.yearDay.one, hx.weekNo.one, hx.day.one, hx.hour.one, hx.minute.one, hx.second.one, hx.easter.one]
    refine callX_of (textNil_A hG (bare r) x (clean_ok hc) _ ((bare_at hx).more _)) (List.prefix_refl _) ?_
    obtain ⟨b, hb1, hb2, t, hb3⟩ := bads_ok hc (k := which % 16) (by omega)
    unfold bads at hb1
    generalize textOf (parts (bare r)) = tx at *
    simp only [go_sem, Nat.reduceLT, Nat.reduceBEq, Nat.reduceAdd, Int.reduceBEq, Nat.reduceLeDiff, reduceIte, Nat.reduceEqDiff, Int.reduceEq, Int.reduceLE, Int.reduceLT, Int.reduceNe, Nat.reduceMul, Nat.reduceSub, Int.reduceToNat, he, g1, setD_some]
    refine ⟨by omega, by omega, by omega, by omega, by omega, by omega, by omega, by omega, by omega, by omega, by omega, ?_⟩
    have w1 : IntKind.i64.wrap ((which : Nat) : Int) = (which : Int) := wI64 (by omega)
    have w2 : ((which : Nat) : Int).tmod 16 = ((which % 16 : Nat) : Int) := by rw [Int.tmod_eq_emod_of_nonneg (by omega)]; rfl
    have w3 : (0 : Int) ≤ ((which % 16 : Nat) : Int) ∧ ((which % 16 : Nat) : Int) < ((16 : Nat) : Int) := ⟨by omega, by omega⟩
    have w4 := congrArg (Option.map vS) hb1
    rw [← List.getElem?_map] at w4
    simp only [List.map_cons, List.map_nil, Option.map_some] at w4
    simp only [go_sem, Nat.reduceLT, Nat.reduceBEq, Nat.reduceAdd, Int.reduceBEq, Nat.reduceLeDiff, reduceIte, Nat.reduceEqDiff, Int.reduceEq, Int.reduceLE, Int.reduceLT, Int.reduceNe, Nat.reduceMul, Nat.reduceSub, Int.reduceToNat, he, g1, setD_some, conv_int (P := Tryz.prog) (s := 5) (d := 3) Tryz.underlying5 Tryz.underlying3, w1, w2, w3, w4]
    refine callX_any (parseOption_A hG b hb2 _ (hH.more _)) ?_
    rw [hb3]
    rintro v' h' ⟨⟨l, rfl, hll, hl1⟩, G', rfl⟩
    match l, hll with
    | [a0, a1, a2, a3, a4, a5, a6, a7, a8, a9, a10, a11, a12, a13, a14, a15, a16, a17], _ =>
    simp only [List.all_cons, List.all_nil, Bool.and_true, Bool.and_eq_true] at hl1
    obtain ⟨o0, o1, o2, o3, o4, o5, o6, o7, o8, o9, o10, o11, o12, o13, o14, o15, o16, o17⟩ := hl1
    simp only [go_sem, Nat.reduceLT, Nat.reduceBEq, Nat.reduceAdd, Int.reduceBEq, Nat.reduceLeDiff, reduceIte, Nat.reduceEqDiff, Int.reduceEq, Int.reduceLE, Int.reduceLT, Int.reduceNe, Nat.reduceMul, Nat.reduceSub, Int.reduceToNat, he, g1, setD_some, o0, o1, o2, o3, o4, o5, o6, o7, o8, o9, o10, o11, o12, o13, o14, o15, o16, o17]
    refine callX_of (textAwake_A hG _ (hH.more _)) (List.prefix_refl _) ?_
    simp only [go_sem, Nat.reduceLT, Nat.reduceBEq, Nat.reduceAdd, Int.reduceBEq, Nat.reduceLeDiff, reduceIte, Nat.reduceEqDiff, Int.reduceEq, Int.reduceLE, Int.reduceLT, Int.reduceNe, Nat.reduceMul, Nat.reduceSub, Int.reduceToNat, he, g1, setD_some]
    exact ⟨_, rfl⟩
end Go.Proofs.YtlfpjdcogkcjlaaGreatDoor.F
/- A rule that comes in. -/
namespace Go.Proofs.YtlfpjdcogkcjlaaGreatDoor.F
open Go.ChangeShapes Go.WideShapes Go.RowKit Go.Deep Go.Proofs.YtlfpjdcogkcjlaaGreatDoor.AL Go.Proofs.YtlfpjdcogkcjlaaGreatDoor.B
set_option linter.unusedVariables false
set_option maxRecDepth 100000
theorem one25 : ∀ fs, Tryz.prog.underlying 25 = some (.struct fs) → oneCellFields Tryz.prog fs = true := by
  intro fs h
  rw [Tryz.underlying25] at h
  simp only [Option.some.injEq, TypeDesc.struct.injEq] at h
  subst h
  kernel_rfl
theorem c25 : Tryz.prog.cellsOf 25 = 18 := by kernel_rfl
section
variable {H : Type} {enc : TypeId × Value → H} {W : World}
/-- A rule that comes in: its cells as values of the abstract heap, if the ten slices' objects stand from place k on. -/
theorem rule_obj {r : Reach} {b0 : Nat} {v : Value} {d : DataW H} {p : List MemPlace} (hW : 0 < W.heap.size) (hv : Value.okWide Tryz.prog W r b0 25 v) (h : DataW.Trod enc Tryz.prog W 0 (fun _ => true) true 25 v d p) :
    ∃ (ru : Ru) (xs : Nat → Rs) (L : List (AObj × (Nat × Nat))), RuNum ru ∧ L.length = 10 ∧ (∀ q ∈ L, (∀ m : Places, relO (CB W) m W q.2 q.1) ∧ q.1.mine = false) ∧
      (∀ (k : Nat) (H : Heap), (∀ i p, L[i]? = some p → H[k + i]? = some p.1) → RuAt H ru (xs k)) ∧
      (∀ (k : Nat) (m : Places), (∀ i p, L[i]? = some p → m[k + i]? = some p.2) → AL.rel m W (.agg (ruCells ru (xs k))) v) := by
  obtain ⟨l, rfl, hl, n, hf⟩ := open_fields Tryz.underlying25 (one25 _ Tryz.underlying25) c25 hv h
  match l, hl with
  | [a0, a1, a2, a3, a4, a5, a6, a7, a8, a9, a10, a11, a12, a13, a14, a15, a16, a17], _ =>
  obtain ⟨_, h0⟩ := hf 0 _ _ rfl rfl
  obtain ⟨_, h1⟩ := hf 1 _ _ rfl rfl
  obtain ⟨_, h2⟩ := hf 2 _ _ rfl rfl
  obtain ⟨_, h3⟩ := hf 3 _ _ rfl rfl
  obtain ⟨_, h4⟩ := hf 4 _ _ rfl rfl
  obtain ⟨_, h5⟩ := hf 5 _ _ rfl rfl
  obtain ⟨_, h6⟩ := hf 6 _ _ rfl rfl
  obtain ⟨_, h7⟩ := hf 7 _ _ rfl rfl
  obtain ⟨_, h8⟩ := hf 8 _ _ rfl rfl
  obtain ⟨_, h9⟩ := hf 9 _ _ rfl rfl
  obtain ⟨_, h10⟩ := hf 10 _ _ rfl rfl
  obtain ⟨_, h11⟩ := hf 11 _ _ rfl rfl
  obtain ⟨_, h12⟩ := hf 12 _ _ rfl rfl
  obtain ⟨_, h13⟩ := hf 13 _ _ rfl rfl
  obtain ⟨_, h14⟩ := hf 14 _ _ rfl rfl
  obtain ⟨_, h15⟩ := hf 15 _ _ rfl rfl
  obtain ⟨_, h16⟩ := hf 16 _ _ rfl rfl
  obtain ⟨_, h17⟩ := hf 17 _ _ rfl rfl
  clear hf
  obtain ⟨n0, e0, _, w0⟩ := DataW.trod_int Tryz.underlying5 h0
  obtain ⟨n1, e1, _⟩ := DataW.trod_bool Tryz.underlying4 h1
  obtain ⟨n2, e2, _, w2⟩ := DataW.trod_int Tryz.underlying2 h2
  obtain ⟨n3, e3, _, w3⟩ := DataW.trod_int Tryz.underlying3 h3
  obtain ⟨n4, e4, _, w4⟩ := DataW.trod_int Tryz.underlying3 h4
  obtain ⟨n5, e5, _, w5⟩ := DataW.trod_int Tryz.underlying3 h5
  obtain ⟨n6, e6, _⟩ := DataW.trod_bool Tryz.underlying4 h6
  obtain ⟨n7, e7, _, w7⟩ := DataW.trod_int Tryz.underlying2 h7
  obtain ⟨x8, q8, o8, l8, k8, s8, r8⟩ := ints_obj Tryz.underlying22 Tryz.underlying3 c3 hW h8
  obtain ⟨x9, q9, o9, l9, k9, s9, r9⟩ := ints_obj Tryz.underlying22 Tryz.underlying3 c3 hW h9
  obtain ⟨x10, q10, o10, l10, k10, s10, r10⟩ := ints_obj Tryz.underlying22 Tryz.underlying3 c3 hW h10
  obtain ⟨x11, q11, o11, l11, k11, s11, r11⟩ := ints_obj Tryz.underlying22 Tryz.underlying3 c3 hW h11
  obtain ⟨x12, q12, o12, l12, k12, s12, r12⟩ := ints_obj Tryz.underlying22 Tryz.underlying3 c3 hW h12
  obtain ⟨x13, q13, o13, l13, k13, s13, r13⟩ := days_obj Tryz.underlying23 Tryz.underlying47 (by kernel_rfl) rfl rfl c3 c3 Tryz.underlying3 Tryz.underlying3 hW h13
  obtain ⟨x14, q14, o14, l14, k14, s14, r14⟩ := ints_obj Tryz.underlying22 Tryz.underlying3 c3 hW h14
  obtain ⟨x15, q15, o15, l15, k15, s15, r15⟩ := ints_obj Tryz.underlying22 Tryz.underlying3 c3 hW h15
  obtain ⟨x16, q16, o16, l16, k16, s16, r16⟩ := ints_obj Tryz.underlying22 Tryz.underlying3 c3 hW h16
  obtain ⟨x17, q17, o17, l17, k17, s17, r17⟩ := ints_obj Tryz.underlying22 Tryz.underlying3 c3 hW h17
  clear h0 h1 h2 h3 h4 h5 h6 h7 h8 h9 h10 h11 h12 h13 h14 h15 h16 h17
  simp only [List.cons.injEq, and_true] at e0 e1 e2 e3 e4 e5 e6 e7
  subst e0; subst e1; subst e2; subst e3; subst e4; subst e5; subst e6; subst e7
  have b0 := wf_range8 w0
  obtain ⟨f, rfl⟩ : ∃ f : Nat, n0 = (f : Int) := ⟨n0.toNat, by omega⟩
  refine ⟨⟨f, n1, n2, n3, n4, n5, n6, n7, l8, l9, l10, l11, l12, l13, l14, l15, l16, l17⟩, fun k => ⟨x8 (k + 0), x9 (k + 1), x10 (k + 2), x11 (k + 3), x12 (k + 4), x13 (k + 5), x14 (k + 6), x15 (k + 7), x16 (k + 8), x17 (k + 9)⟩,
    [(o8, q8), (o9, q9), (o10, q10), (o11, q11), (o12, q12), (o13, q13), (o14, q14), (o15, q15), (o16, q16), (o17, q17)],
    ⟨by show f ≤ 255; omega, wf_range w2, wf_range w7, wf_range w3, wf_range w4, wf_range w5, r8, r9, r10, r11, r12, r14, r15, r16, r17, r13⟩, rfl, ?_, ?_, ?_⟩
  · intro q hq
    simp only [List.mem_cons, List.mem_nil_iff, or_false] at hq
    rcases hq with rfl | rfl | rfl | rfl | rfl | rfl | rfl | rfl | rfl | rfl
    · exact ⟨k8.relO, k8.mine⟩
    · exact ⟨k9.relO, k9.mine⟩
    · exact ⟨k10.relO, k10.mine⟩
    · exact ⟨k11.relO, k11.mine⟩
    · exact ⟨k12.relO, k12.mine⟩
    · exact ⟨k13.relO, k13.mine⟩
    · exact ⟨k14.relO, k14.mine⟩
    · exact ⟨k15.relO, k15.mine⟩
    · exact ⟨k16.relO, k16.mine⟩
    · exact ⟨k17.relO, k17.mine⟩
  · intro k H hH
    exact ⟨s8 _ _ (hH 0 _ rfl), s9 _ _ (hH 1 _ rfl), s10 _ _ (hH 2 _ rfl), s11 _ _ (hH 3 _ rfl), s12 _ _ (hH 4 _ rfl), s13 _ _ (hH 5 _ rfl), s14 _ _ (hH 6 _ rfl), s15 _ _ (hH 7 _ rfl), s16 _ _ (hH 8 _ rfl), s17 _ _ (hH 9 _ rfl)⟩
  · intro k m hm
    exact ⟨_, rfl, rfl, rfl, rfl, rfl, rfl, rfl, rfl, rfl, k8.rel _ _ (hm 0 _ rfl), k9.rel _ _ (hm 1 _ rfl), k10.rel _ _ (hm 2 _ rfl), k11.rel _ _ (hm 3 _ rfl), k12.rel _ _ (hm 4 _ rfl), k13.rel _ _ (hm 5 _ rfl), k14.rel _ _ (hm 6 _ rfl), k15.rel _ _ (hm 7 _ rfl), k16.rel _ _ (hm 8 _ rfl), k17.rel _ _ (hm 9 _ rfl), trivial⟩
end
end Go.Proofs.YtlfpjdcogkcjlaaGreatDoor.F
/- A date's text read again tells the same moment. -/
namespace Go.Proofs.YtlfpjdcogkcjlaaGreatDoor.F
open Go.RowKit Go.Proofs.YtlfpjdcogkcjlaaGreatDoor.AL Go.Proofs.YtlfpjdcogkcjlaaGreatDoor.B
set_option linter.unusedVariables false
set_option linter.unusedSimpArgs false
set_option maxRecDepth 20000
attribute [local irreducible] aops acode bindK bindV bindH callX callK condK guardK Kseq Kblk Knorm Kfun Kloop Kjoin outK AWp appendA
attribute [local go_sem] acode_skip acode_seq acode_region acode_cond acode_block acode_exit acode_ret acode_loop Kseq_normal Kseq_exit Kseq_ret Kblk_normal Kblk_ret Kblk_eq Kblk_ne Knorm_eq Kloop_normal Kloop_exit Kloop_ret Kjoin_normal Kjoin_exit Kjoin_ret condK_true condK_false bindK_put bindV_put bindK_no bindV_no bindH_no aops_nil gops wantK_some wantV_bool wantV_undef guardK_true guardK_false guardK_none aops_move aops_assign aops_pick aops_nilCheck aops_binOp aops_unOp aops_convert aops_fieldAddr aops_indexAddr aops_slice aops_index aops_extract aops_makeInterface aops_makeFunc aops_build aops_load aops_lookup aops_alloc aops_box aops_buildSlice aops_makeSlice aops_makeMap aops_store aops_insert aops_mapUpdate aops_len aops_append aops_call opA_tmp opA_const opA_global opA_func get_mk look_nil look_eq look_ne len_mk List.map_cons List.map_nil Option.map_some Option.map_none bin_add bin_sub bin_mul bin_quo bin_rem bin_eql bin_neq bin_lss bin_leq bin_gtr bin_geq bin_cat bin_seql bin_sneq bin_neq_ifc bin_eql_ifc bin_neq_nn bin_eql_nn bin_neq_ptr bin_eql_ptr bin_neq_pn isIfc_true isPtr_true bin_eql2 bin_neq2 aops_max max_int un_not un_neg lenA_K lenK_str lenK_nil lenK_sl lenK_array pick_bool pick_val bindV_ite bindK_ite bindH_ite slotV_sl slotK_some slotV_ptr slotR_some sliceV_sl cutK_some sliceV_str cutS_some bound_none bound_some indexA_str atS_some mkS fieldV_ptr loadV_ptr cellsK_ro cellsK_own loadK_one loadK_many storeA_ptr storeK_own allocA_some heap_len heap_get0 heap_get heap_set0 heap_set Kfun_ret Kfun_normal resA_nil resA_tmp resA_cell outK_some packA_one packA_nil packA_two List.length_cons List.length_nil List.getElem?_cons_zero List.getElem?_cons_succ List.set_cons_zero List.set_cons_succ List.cons_append List.nil_append List.append_assoc Nat.zero_add Nat.add_zero List.all_cons List.all_nil Value.oneCell' Bool.and_true Bool.and_self if_true if_false Bool.false_eq_true partsA buildV buildA fillA Option.bind_some putCells List.drop_succ_cons List.drop_zero List.take_succ_cons List.take_zero List.take_nil List.drop_nil and_self and_true true_and Option.some.injEq ne_eq not_false_eq_true Option.map_map List.getElem?_toArray beq_self_eq_true Bool.true_beq Bool.false_beq Bool.not_true Bool.not_false decide_true decide_false beq_true Nat.mul_one Nat.one_mul Nat.zero_mul bsA buildSliceA zerosN List.append_nil Int.toNat_natCast Int.toNat_zero boxA one_val one_ptr one_sl one_mp one_ifc one_fn avCells_agg avCells_val valCells_true valCells_agg avCells_ptr avCells_sl avCells_mp avCells_ifc avCells_fn app_cons app_nil lookupA insertA ifaceV extractA kd2 ars127 fp127 ars60 fp60 ars31 fp31 eq2_99 eq2_84 eq2_47 fp52 sz2 kd3 sz3 kd4 sz4 kd5 sz5 kd9 sz9 kd22 sz22 el22 kd23 sz23 el23 kd25 sz25 zc25 fp25 fo25_0 fo25_1 fo25_2 fo25_3 fo25_4 fo25_5 fo25_6 fo25_7 fo25_8 fo25_9 fo25_10 fo25_11 fo25_12 fo25_13 fo25_14 fo25_15 fo25_16 fo25_17 kd31 sz31 zc31 ar31 kd32 sz32 el32 kd34 sz34 zc34 fp34 fo34_0 fo34_1 fo34_2 fo34_3 fo34_4 fo34_5 fo34_6 fo34_7 fo34_8 fo34_9 fo34_10 fo34_11 fo34_12 fo34_13 fo34_14 fo34_15 fo34_16 fo34_17 el38 el42 kd47 sz47 zc47 fp47 fo47_0 fo47_1 kd52 sz52 zc52 fo52_0 el55 zc60 kd72 sz72 zc72 fp72 fo72_0 fo72_1 el73 isStrMap76 zv4 kd80 sz80 kd84 sz84 zc84 fp84 fo84_0 fo84_1 kd88 sz88 zc88 fp88 fo88_0 fo88_1 fo88_2 fo88_3 kd91 sz91 zc91 fp91 fo91_0 fo91_1 fo91_2 el94 kd99 sz99 zc99 fp99 fo99_0 fo99_1 kd100 sz100 el100 kd102 sz102 zc102 fp102 fo102_0 fo102_1 fo102_2 fo102_3 fo102_4 fo102_5 fo102_6 fo102_7 fo102_8 fo102_9 fo102_10 fo102_11 fo102_12 fo102_13 fo102_14 fo102_15 kd109 sz109 zc109 fp109 isStrMap124 zv80 zc127 kd153 sz153 zc153 ar153 isIface157 kd159 sz159 zc159 fp159 isStrMap177 zv84 Tryz.underlying3 Tryz.underlying4 Tryz.underlying5 Tryz.underlying9 Tryz.underlying21 Tryz.underlying22 Tryz.underlying23 Tryz.underlying32 Tryz.underlying38 Tryz.underlying42 Tryz.underlying47 Tryz.underlying55 Tryz.underlying67 Tryz.underlying73 Tryz.underlying80 Tryz.underlying84 Tryz.underlying94 Tryz.underlying100 Tryz.underlying2 Tryz.underlying127 Tryz.underlying60 Tryz.underlying31
def padOk (n d : Nat) : Bool := (padded n d).length == d && ((padded n d).all isDig && digFold (padded n d) == (n : Int))
set_option maxRecDepth 200000 in
theorem pad2_all : ((List.range 100).all fun n => padOk n 2) = true := by kernel_rfl
set_option maxRecDepth 200000 in
theorem pad4_all : ((List.range 10000).all fun n => padOk n 4) = true := by kernel_rfl
theorem padOk_spec {n d : Nat} (h : padOk n d = true) : (padded n d).length = d ∧ (padded n d).all isDig = true ∧ digFold (padded n d) = n := by
  unfold padOk at h
  simp only [Bool.and_eq_true, beq_iff_eq] at h
  exact ⟨h.1, h.2.1, h.2.2⟩
theorem pad2 {n : Int} (h0 : 0 ≤ n) (h1 : n < 100) : (padded n 2).length = 2 ∧ (padded n 2).all isDig = true ∧ digFold (padded n 2) = n := by
  obtain ⟨m, rfl⟩ : ∃ m : Nat, n = (m : Int) := ⟨n.toNat, by omega⟩
  exact padOk_spec (d := 2) (List.all_eq_true.1 pad2_all m (List.mem_range.2 (by omega)))
theorem pad4 {n : Int} (h0 : 0 ≤ n) (h1 : n < 10000) : (padded n 4).length = 4 ∧ (padded n 4).all isDig = true ∧ digFold (padded n 4) = n := by
  obtain ⟨m, rfl⟩ : ∃ m : Nat, n = (m : Int) := ⟨n.toNat, by omega⟩
  exact padOk_spec (d := 4) (List.all_eq_true.1 pad4_all m (List.mem_range.2 (by omega)))
theorem zDigits_app {a s : List UInt8} {k : Nat} {n : Int} (h : a.length = k ∧ a.all isDig = true ∧ digFold a = n) : zDigits (a ++ s) k = some (n, s) := by
  obtain ⟨h1, h2, h3⟩ := h
  unfold zDigits
  rw [if_neg (by rw [List.length_append]; omega), List.take_left' h1, if_pos h2, List.drop_left' h1, h3]
theorem before_next (y : Int) : before (y + 1) = before y + (if leap y then 366 else 365) := by
  unfold before leap
  have e : y + 1 - 1 = y := by omega
  rw [e]
  by_cases h4 : y % 4 = 0 <;> by_cases h1 : y % 100 = 0 <;> by_cases h5 : y % 400 = 0 <;> simp only [h4, h1, h5, decide_true, decide_false, ne_eq, not_true, not_false_eq_true, Bool.or_true, Bool.or_false, Bool.and_true, Bool.and_false, Bool.true_and, Bool.false_and, if_true, if_false, Bool.false_eq_true] <;> omega
theorem msum12 (y : Int) : msum y 12 = if leap y then 366 else 365 := by
  simp only [msum, monthDays]
  cases leap y <;> rfl
theorem yearUp_lt {n : Int} : ∀ (k : Nat) (y : Int), 1 ≤ y → n < before y + 365 * k → n < before (yearUp n k y + 1) ∨ k = 0
  | 0, y, _, h => .inr rfl
  | k + 1, y, h1, h => by
    left
    unfold yearUp
    split
    · rename_i hb
      have hs := before_next y
      have : before (y + 1) ≥ before y + 365 := by rw [hs]; split <;> omega
      rcases yearUp_lt (n := n) k (y + 1) (by omega) (by push_cast at h; omega) with hh | hh
      · exact hh
      · subst hh
        simp only [yearUp]
        omega
    · omega
theorem yearOf_lt {n : Int} (h : 0 ≤ n) : n < before (yearOf n + 1) := by
  unfold yearOf
  have hb : 0 ≤ before (n / 366 + 1) := by unfold before; omega
  rcases yearUp_lt (n := n) (n.toNat + 1) (n / 366 + 1) (by omega) (by omega) with hh | hh
  · exact hh
  · omega
theorem monthUp_sum (y : Int) : ∀ (k : Nat) (m : Nat) (d : Int), 1 ≤ m → 1 ≤ d → msum y (m - 1) + d ≤ msum y 12 → m ≤ 12 → 12 < m + k →
    ∃ m' : Nat, (monthUp y k m d).1 = m' ∧ 1 ≤ m' ∧ m' ≤ 12 ∧ 1 ≤ (monthUp y k m d).2 ∧ (monthUp y k m d).2 ≤ monthDays y m' ∧ msum y (m' - 1) + (monthUp y k m d).2 = msum y (m - 1) + d
  | 0, m, d, _, _, _, h, h' => absurd h' (by omega)
  | k + 1, m, d, h1, hd, hs, h12, hk => by
    unfold monthUp
    have hm : msum y m = msum y (m - 1) + monthDays y m := by
      obtain ⟨j, rfl⟩ : ∃ j, m = j + 1 := ⟨m - 1, by omega⟩
      simp only [msum, Nat.add_sub_cancel]
      rfl
    split
    · rename_i hlt
      by_cases he : m = 12
      · subst he
        omega
      · have := monthUp_sum y k (m + 1) (d - monthDays y m) (by omega) (by omega) (by rw [Nat.add_sub_cancel]; omega) (by omega) (by omega)
        rw [Nat.add_sub_cancel] at this
        obtain ⟨m', e1, e2, e3, e4, e5, e6⟩ := this
        exact ⟨m', e1, e2, e3, e4, e5, by have : msum y (m' - 1) + (monthUp y k (↑(m + 1)) (d - monthDays y ↑m)).2 = _ := e6; push_cast at this ⊢; omega⟩
    · exact ⟨m, rfl, h1, h12, hd, by omega, rfl⟩
/-- The day of a number of days, as a date of the calendar. -/
theorem dayOf_date {n : Int} (h : 0 ≤ n) : ∃ m : Nat, (dayOf n).1 = m ∧ 1 ≤ m ∧ m ≤ 12 ∧ 1 ≤ (dayOf n).2 ∧ (dayOf n).2 ≤ monthDays (yearOf n) m ∧ before (yearOf n) + (dayOf n).2 - 1 + msum (yearOf n) (m - 1) = n := by
  have h1 := yearOf_ok h
  have h2 := yearOf_lt h
  have h3 := before_next (yearOf n)
  have h4 := msum12 (yearOf n)
  have h5 : (if leap (yearOf n) then (366 : Int) else 365) = msum (yearOf n) 12 := h4.symm
  rw [h5] at h3
  obtain ⟨m', e1, e2, e3, e4, e5, e6⟩ := monthUp_sum (yearOf n) 400 1 (n - before (yearOf n) + 1) (by omega) (by omega) (by have e7 : msum (yearOf n) (1 - 1) = 0 := rfl; rw [e7]; omega) (by omega) (by omega)
  refine ⟨m', e1, e2, e3, e4, e5, ?_⟩
  have e7 : msum (yearOf n) (1 - 1) = 0 := rfl
  unfold dayOf
  have e8 : msum (yearOf n) (m' - 1) + (monthUp (yearOf n) 400 1 (n - before (yearOf n) + 1)).2 = msum (yearOf n) (1 - 1) + (n - before (yearOf n) + 1) := e6
  omega
theorem dateSec_day {n h mi s : Int} (hn : 0 ≤ n) : dateSec (yearOf n) (dayOf n).1 (dayOf n).2 h mi s = n * 86400 + h * 3600 + mi * 60 + s := by
  obtain ⟨m, e1, e2, e3, e4, e5, e6⟩ := dayOf_date hn
  unfold dateSec
  rw [e1, show ((m : Int) - 1) / 12 = 0 by omega, show (((m : Int) - 1) % 12).toNat = m - 1 by omega, Int.add_zero, e6]
theorem yearOf_small {n : Int} (h : 0 ≤ n) (h1 : n < before 10000) : yearOf n ≤ 9999 := by
  have h2 := (yearOf_ok h).1
  by_cases hc : yearOf n ≤ 9999
  · exact hc
  · have : before 10000 ≤ before (yearOf n) := by unfold before; omega
    omega
/-- The three forms of a date. -/
theorem parse_full {t : Int} (h0 : 0 ≤ t) (h1 : t < before 10000 * 86400) : zParse [84, 49, 53, 48, 52, 48, 53, 90] (dateText t) = some t := by
  have hn : 0 ≤ t / 86400 := by omega
  have hy := yearOf_ok hn
  have hy9 := yearOf_small hn (by omega)
  obtain ⟨m, e1, e2, e3, e4, e5, e6⟩ := dayOf_date hn
  have hmd := monthDays_pos (yearOf (t / 86400)) m
  unfold zParse dateText
  simp only [List.append_assoc]
  rw [zDigits_app (pad4 (by omega) (by omega)), Option.bind_some]
  simp only
  rw [zDigits_app (pad2 (by omega) (by omega)), Option.bind_some]
  simp only
  rw [if_neg (by omega), if_neg (by omega), zDigits_app (pad2 (by omega) (by omega)), Option.bind_some]
  simp only
  rw [if_neg (by simp)]
  unfold zTime
  rw [if_neg (by simp), if_neg (by simp)]
  simp only [List.singleton_append, List.drop_succ_cons, List.drop_zero]
  rw [zDigits_app (pad2 (by omega) (by omega)), Option.bind_some]
  simp only
  rw [if_neg (by omega), zDigits_app (pad2 (by omega) (by omega)), Option.bind_some]
  simp only
  rw [if_neg (by omega), zDigits_app (pad2 (by omega) (by omega)), Option.bind_some]
  simp only
  rw [if_neg (by omega)]
  unfold zEnd
  rw [if_neg (by simp), if_neg (by omega), if_neg (by rw [e1]; omega), dateSec_day hn]
  congr 1
  omega
def dateA (t : Int) : List UInt8 := padded (yearOf (t / 86400)) 4 ++ (padded (dayOf (t / 86400)).1 2 ++ padded (dayOf (t / 86400)).2 2)
def dateB (t : Int) : List UInt8 := dateA t ++ (84 :: (padded (t % 86400 / 3600) 2 ++ (padded (t % 86400 / 60 % 60) 2 ++ padded (t % 86400 % 60) 2)))
theorem dateText_eq (t : Int) : dateText t = dateB t ++ [90] := by
  unfold dateText dateB dateA
  simp only [List.append_assoc, List.cons_append, List.nil_append]
theorem dateA_len {t : Int} (h0 : 0 ≤ t) (h1 : t < before 10000 * 86400) : (dateA t).length = 8 := by
  have hn : 0 ≤ t / 86400 := by omega
  have hy := yearOf_ok hn
  have hy9 := yearOf_small hn (by omega)
  obtain ⟨m, e1, e2, e3, e4, e5, e6⟩ := dayOf_date hn
  have hmd := monthDays_pos (yearOf (t / 86400)) m
  unfold dateA
  rw [List.length_append, List.length_append, (pad4 (by omega) (by omega)).1, (pad2 (by omega) (by omega)).1, (pad2 (by omega) (by omega)).1]
theorem dateB_len {t : Int} (h0 : 0 ≤ t) (h1 : t < before 10000 * 86400) : (dateB t).length = 15 := by
  unfold dateB
  rw [List.length_append, List.length_cons, List.length_append, List.length_append, dateA_len h0 h1, (pad2 (by omega) (by omega)).1, (pad2 (by omega) (by omega)).1, (pad2 (by omega) (by omega)).1]
theorem dateText_15 {t : Int} (h0 : 0 ≤ t) (h1 : t < before 10000 * 86400) : (dateText t).take 15 = dateB t := by
  rw [dateText_eq, List.take_left' (dateB_len h0 h1)]
theorem dateText_8 {t : Int} (h0 : 0 ≤ t) (h1 : t < before 10000 * 86400) : (dateText t).take 8 = dateA t := by
  rw [dateText_eq]
  unfold dateB
  rw [List.append_assoc, List.take_left' (dateA_len h0 h1)]
theorem loc_full {t : Int} (h0 : 0 ≤ t) (h1 : t < before 10000 * 86400) : zLoc (dateText t) = some t := by
  have hl : (dateText t).length = 16 := by rw [dateText_eq, List.length_append, dateB_len h0 h1]; rfl
  unfold zLoc
  rw [if_neg (by omega), if_neg (by omega), parse_full h0 h1]
theorem loc_day {t : Int} (h0 : 0 ≤ t) (h1 : t < before 10000 * 86400) : zLoc (dateA t) = some (t - t % 86400) := by
  have hn : 0 ≤ t / 86400 := by omega
  have hy := yearOf_ok hn
  have hy9 := yearOf_small hn (by omega)
  obtain ⟨m, e1, e2, e3, e4, e5, e6⟩ := dayOf_date hn
  have hmd := monthDays_pos (yearOf (t / 86400)) m
  unfold zLoc
  rw [if_pos (dateA_len h0 h1)]
  have en : ∀ a : List UInt8, a = a ++ [] := fun a => (List.append_nil a).symm
  unfold zParse dateA
  rw [zDigits_app (pad4 (by omega) (by omega)), Option.bind_some]
  simp only
  rw [zDigits_app (pad2 (by omega) (by omega)), Option.bind_some]
  simp only
  rw [if_neg (by omega), if_neg (by omega), en (padded (dayOf (t / 86400)).2 2), zDigits_app (pad2 (by omega) (by omega)), Option.bind_some]
  simp only [if_true]
  unfold zEnd
  rw [if_neg (by simp), if_neg (by omega), if_neg (by rw [e1]; omega), dateSec_day hn]
  congr 1
  omega
theorem loc_noZ {t : Int} (h0 : 0 ≤ t) (h1 : t < before 10000 * 86400) : zLoc (dateB t) = some t := by
  have hn : 0 ≤ t / 86400 := by omega
  have hy := yearOf_ok hn
  have hy9 := yearOf_small hn (by omega)
  obtain ⟨m, e1, e2, e3, e4, e5, e6⟩ := dayOf_date hn
  have hmd := monthDays_pos (yearOf (t / 86400)) m
  have hl := dateB_len h0 h1
  unfold zLoc
  rw [if_neg (by omega), if_pos hl]
  unfold zParse dateB dateA
  simp only [List.append_assoc]
  rw [zDigits_app (pad4 (by omega) (by omega)), Option.bind_some]
  simp only
  rw [zDigits_app (pad2 (by omega) (by omega)), Option.bind_some]
  simp only
  rw [if_neg (by omega), if_neg (by omega), zDigits_app (pad2 (by omega) (by omega)), Option.bind_some]
  simp only
  rw [if_neg (by simp)]
  unfold zTime
  have en : ∀ a : List UInt8, a = a ++ [] := fun a => (List.append_nil a).symm
  rw [if_neg (by simp), if_neg (by simp)]
  simp only [List.drop_succ_cons, List.drop_zero]
  rw [zDigits_app (pad2 (by omega) (by omega)), Option.bind_some]
  simp only
  rw [if_neg (by omega), zDigits_app (pad2 (by omega) (by omega)), Option.bind_some]
  simp only
  rw [if_neg (by omega), en (padded (t % 86400 % 60) 2), zDigits_app (pad2 (by omega) (by omega)), Option.bind_some]
  simp only
  rw [if_neg (by omega)]
  unfold zEnd
  rw [if_neg (by simp), if_neg (by omega), if_neg (by rw [e1]; omega), dateSec_day hn]
  congr 1
  omega
end Go.Proofs.YtlfpjdcogkcjlaaGreatDoor.F
/-
  Further values: an array's element.
-/
namespace Go.Proofs.YtlfpjdcogkcjlaaGreatDoor.AL
open Go.RowKit
set_option linter.unusedVariables false
variable {P : Program}
/-- How many elements of one cell an array has. -/
def ai (P : Program) (t : TypeId) : Option Nat := match P.underlying t with
  | some (.array len e) => match kd P e with
    | some .one => some len
    | _ => none
  | _ => none
def atK (a : Option Nat) (l : List AV) (n : Int) : Option AV := match a with
  | some len => if 0 ≤ n ∧ n < len then l[n.toNat]? else none
  | none => none
theorem indexA_agg {t : TypeId} {l : List AV} {k : IntKind} {n : Int} : indexA P t (.agg l) (.val (.int k n)) = atK (ai P t) l n := by
  unfold indexA atK ai
  simp only
  cases P.underlying t with
  | none => rfl
  | some d =>
    cases d with
    | array len e =>
      simp only
      cases kd P e with
      | none => rfl
      | some kk => cases kk <;> rfl
    | _ => rfl
theorem atK_some {len : Nat} {l : List AV} {n : Int} : atK (some len) l n = if 0 ≤ n ∧ n < len then l[n.toNat]? else none := rfl
end Go.Proofs.YtlfpjdcogkcjlaaGreatDoor.AL
/- More facts of the program's types. -/
namespace Go.Proofs.YtlfpjdcogkcjlaaGreatDoor.F
open Go.RowKit Go.Proofs.YtlfpjdcogkcjlaaGreatDoor.AL
theorem kd55 : kd Tryz.prog 55 = (some Kind.one) := by kernel_rfl
theorem ai60 : ai Tryz.prog 60 = some 6 := by kernel_rfl
theorem ai127 : ai Tryz.prog 127 = some 7 := by kernel_rfl
end Go.Proofs.YtlfpjdcogkcjlaaGreatDoor.F
/- Slices that grow, of any elements; the seconds of times. -/
namespace Go.Proofs.YtlfpjdcogkcjlaaGreatDoor.F
open Go.RowKit Go.Proofs.YtlfpjdcogkcjlaaGreatDoor.AL Go.Proofs.YtlfpjdcogkcjlaaGreatDoor.B
set_option linter.unusedVariables false
set_option linter.unusedSimpArgs false
set_option maxRecDepth 20000
attribute [local irreducible] aops acode bindK bindV bindH callX callK condK guardK Kseq Kblk Knorm Kfun Kloop Kjoin outK AWp appendA
attribute [local go_sem] acode_skip acode_seq acode_region acode_cond acode_block acode_exit acode_ret acode_loop Kseq_normal Kseq_exit Kseq_ret Kblk_normal Kblk_ret Kblk_eq Kblk_ne Knorm_eq Kloop_normal Kloop_exit Kloop_ret Kjoin_normal Kjoin_exit Kjoin_ret condK_true condK_false bindK_put bindV_put bindK_no bindV_no bindH_no aops_nil gops wantK_some wantV_bool wantV_undef guardK_true guardK_false guardK_none aops_move aops_assign aops_pick aops_nilCheck aops_binOp aops_unOp aops_convert aops_fieldAddr aops_indexAddr aops_slice aops_index aops_extract aops_makeInterface aops_makeFunc aops_build aops_load aops_lookup aops_alloc aops_box aops_buildSlice aops_makeSlice aops_makeMap aops_store aops_insert aops_mapUpdate aops_len aops_append aops_call opA_tmp opA_const opA_global opA_func get_mk look_nil look_eq look_ne len_mk List.map_cons List.map_nil Option.map_some Option.map_none bin_add bin_sub bin_mul bin_quo bin_rem bin_eql bin_neq bin_lss bin_leq bin_gtr bin_geq bin_cat bin_seql bin_sneq bin_neq_ifc bin_eql_ifc bin_neq_nn bin_eql_nn bin_neq_ptr bin_eql_ptr bin_neq_pn isIfc_true isPtr_true bin_eql2 bin_neq2 aops_max max_int un_not un_neg lenA_K lenK_str lenK_nil lenK_sl lenK_array pick_bool pick_val bindV_ite bindK_ite bindH_ite slotV_sl slotK_some slotV_ptr slotR_some sliceV_sl cutK_some sliceV_str cutS_some bound_none bound_some indexA_str atS_some mkS fieldV_ptr loadV_ptr cellsK_ro cellsK_own loadK_one loadK_many storeA_ptr storeK_own allocA_some heap_len heap_get0 heap_get heap_set0 heap_set Kfun_ret Kfun_normal resA_nil resA_tmp resA_cell outK_some packA_one packA_nil packA_two List.length_cons List.length_nil List.getElem?_cons_zero List.getElem?_cons_succ List.set_cons_zero List.set_cons_succ List.cons_append List.nil_append List.append_assoc Nat.zero_add Nat.add_zero List.all_cons List.all_nil Value.oneCell' Bool.and_true Bool.and_self if_true if_false Bool.false_eq_true partsA buildV buildA fillA Option.bind_some putCells List.drop_succ_cons List.drop_zero List.take_succ_cons List.take_zero List.take_nil List.drop_nil and_self and_true true_and Option.some.injEq ne_eq not_false_eq_true Option.map_map List.getElem?_toArray beq_self_eq_true Bool.true_beq Bool.false_beq Bool.not_true Bool.not_false decide_true decide_false beq_true Nat.mul_one Nat.one_mul Nat.zero_mul bsA buildSliceA zerosN List.append_nil Int.toNat_natCast Int.toNat_zero boxA one_val one_ptr one_sl one_mp one_ifc one_fn avCells_agg avCells_val valCells_true valCells_agg avCells_ptr avCells_sl avCells_mp avCells_ifc avCells_fn app_cons app_nil lookupA insertA ifaceV extractA kd2 ars127 fp127 ars60 fp60 ars31 fp31 eq2_99 eq2_84 eq2_47 fp52 sz2 kd3 sz3 kd4 sz4 kd5 sz5 kd9 sz9 kd22 sz22 el22 kd23 sz23 el23 kd25 sz25 zc25 fp25 fo25_0 fo25_1 fo25_2 fo25_3 fo25_4 fo25_5 fo25_6 fo25_7 fo25_8 fo25_9 fo25_10 fo25_11 fo25_12 fo25_13 fo25_14 fo25_15 fo25_16 fo25_17 kd31 sz31 zc31 ar31 kd32 sz32 el32 kd34 sz34 zc34 fp34 fo34_0 fo34_1 fo34_2 fo34_3 fo34_4 fo34_5 fo34_6 fo34_7 fo34_8 fo34_9 fo34_10 fo34_11 fo34_12 fo34_13 fo34_14 fo34_15 fo34_16 fo34_17 el38 el42 kd47 sz47 zc47 fp47 fo47_0 fo47_1 kd52 sz52 zc52 fo52_0 el55 zc60 kd72 sz72 zc72 fp72 fo72_0 fo72_1 el73 kd80 sz80 kd84 sz84 zc84 fp84 fo84_0 fo84_1 kd88 sz88 zc88 fp88 fo88_0 fo88_1 fo88_2 fo88_3 kd91 sz91 zc91 fp91 fo91_0 fo91_1 fo91_2 el94 kd99 sz99 zc99 fp99 fo99_0 fo99_1 kd100 sz100 el100 kd102 sz102 zc102 fp102 fo102_0 fo102_1 fo102_2 fo102_3 fo102_4 fo102_5 fo102_6 fo102_7 fo102_8 fo102_9 fo102_10 fo102_11 fo102_12 fo102_13 fo102_14 fo102_15 kd109 sz109 zc109 fp109 isStrMap124 zv80 zc127 kd153 sz153 zc153 ar153 isIface157 kd159 sz159 zc159 fp159 isStrMap177 zv84 Tryz.underlying3 Tryz.underlying4 Tryz.underlying5 Tryz.underlying9 Tryz.underlying21 Tryz.underlying22 Tryz.underlying23 Tryz.underlying32 Tryz.underlying38 Tryz.underlying42 Tryz.underlying47 Tryz.underlying55 Tryz.underlying67 Tryz.underlying73 Tryz.underlying80 Tryz.underlying84 Tryz.underlying94 Tryz.underlying100 Tryz.underlying2 Tryz.underlying127 Tryz.underlying60 Tryz.underlying31 kd55 ai60 ai127 indexA_agg atK_some isStrMap76 zv4
/-- A slice of n elements of type t, each of st cells, that grows: none yet, or one of the call's own. -/
def GrN (t st : Nat) (H h : Heap) (x : AV) (n : Nat) (cs : List AV) : Prop := (∃ G, h = H ++ G) ∧ cs.length = n * st ∧ ((x = .val (.slice none 0 0) ∧ n = 0) ∨ ∃ o, x = .sl true o 0 n st ∧ h[o]? = some (.own t cs) ∧ H.length ≤ o)
theorem GrN.nil {t st : Nat} {H h : Heap} (hG : ∃ G, h = H ++ G) : GrN t st H h (.val (.slice none 0 0)) 0 [] := ⟨hG, by simp, .inl ⟨rfl, rfl⟩⟩
theorem GrN.more {t st : Nat} {H h : Heap} {x : AV} {n : Nat} {cs : List AV} (hO : GrN t st H h x n cs) (G : Heap) : GrN t st H (h ++ G) x n cs := by
  obtain ⟨⟨G0, rfl⟩, hl, hx⟩ := hO
  refine ⟨⟨G0 ++ G, List.append_assoc _ _ _⟩, hl, ?_⟩
  rcases hx with hx | ⟨o, h1, h2, h3⟩
  · exact .inl hx
  · exact .inr ⟨o, h1, get_more h2, h3⟩
theorem GrN.push {s t st bytes : Nat} {z : List Value} (hel : el Tryz.prog s = some (t, st, bytes, z)) (hb : bytes ≤ 1000) {H h : Heap} {x : AV} {n : Nat} {cs : List AV} (hO : GrN t st H h x n cs) {c : List AV} (hc : c.length = st) (h1 : c.all AV.one = true) (hn : n ≤ 100000000) :
    ∃ x' h', appendA Tryz.prog s x (.sl true h.length 0 1 st) (h ++ [AObj.own t c]) = some (x', h') ∧ GrN t st H h' x' (n + 1) (cs ++ c) ∧ ∀ (p : Nat) (y : AObj), h[p]? = some y → (∀ q, x = .sl true q 0 n st → p ≠ q) → h'[p]? = some y := by
  obtain ⟨⟨G, rfl⟩, hl, hx⟩ := hO
  have e1 : cellsOf (H ++ G ++ [AObj.own t c]) (H ++ G).length = some c := by unfold cellsOf; rw [heap_get0]; rfl
  have e3 : (c.drop 0).take (1 * st) = c := by rw [List.drop_zero, Nat.one_mul, List.take_of_length_le (by omega)]
  rcases hx with ⟨rfl, rfl⟩ | ⟨o, rfl, ho, hol⟩
  · have hcs : cs = [] := List.length_eq_zero_iff.1 (by omega)
    subst hcs
    refine ⟨.sl true (H ++ G ++ [AObj.own t c]).length 0 1 st, (H ++ G ++ [AObj.own t c]) ++ [.own t c], ?_, ⟨⟨G ++ [AObj.own t c] ++ [.own t c], by simp only [List.append_assoc]⟩, by simp; omega, .inr ⟨_, rfl, by rw [heap_get0]; rfl, by simp only [List.length_append]; omega⟩⟩, fun p y hp _ => get_more (get_more hp)⟩
    unfold appendA
    rw [hel]
    simp only [e1, e3]
    rw [if_pos ⟨by omega, trivial, h1⟩, if_neg (by omega), if_pos ⟨by omega, by omega⟩]
  · have hlt : o < (H ++ G).length := (List.getElem?_eq_some_iff.1 ho).1
    have e2 : (H ++ G ++ [AObj.own t c])[o]? = some (.own t cs) := by rw [get_less hlt]; exact ho
    have e4 : cs.take (n * st) = cs := List.take_of_length_le (by omega)
    have hb2 : (n + 1) * bytes ≤ 100000001 * 1000 := Nat.mul_le_mul (by omega) hb
    refine ⟨.sl true (H ++ G ++ [AObj.own t c]).length 0 (n + 1) st, ((H ++ G) ++ [AObj.own t c]).set o .gone ++ [AObj.own t (cs ++ c)], ?_, ⟨⟨(G ++ [AObj.own t c]).set (o - H.length) .gone ++ [AObj.own t (cs ++ c)], ?_⟩, ?_, .inr ⟨(H ++ G ++ [AObj.own t c]).length, rfl, ?_, by simp only [List.length_append]; omega⟩⟩, ?_⟩
    · unfold appendA
      rw [hel]
      simp only [e1, e2, e3, e4]
      rw [if_pos ⟨by omega, trivial, h1⟩, if_pos ⟨trivial, trivial, by omega, by omega, by omega⟩]
    · rw [List.append_assoc, set_behind hol, List.append_assoc]
    · rw [List.length_append, Nat.succ_mul]; omega
    · have : ((H ++ G ++ [AObj.own t c]).set o .gone).length = (H ++ G ++ [AObj.own t c]).length := List.length_set
      rw [← this, heap_get0]
      rfl
    · intro p y hp hy
      have hpo : o ≠ p := fun e => hy o rfl e.symm
      have hpl : p < (H ++ G).length := (List.getElem?_eq_some_iff.1 hp).1
      rw [get_less (by simp only [List.length_set, List.length_append, List.length_cons, List.length_nil] at hpl ⊢; omega), List.getElem?_set_ne hpo, get_less hpl]
      exact hp
theorem seconds_A {w0 : World} (l : List Int) (x : AV) (hl : l.length ≤ 1000000) (H : Heap) (hx : DaysAt H x (l.map fun t => (t, 0))) : ACalls Tryz.prog (CB w0) 49 [x] H fun r H' => GrN 2 1 H H' r l.length (l.map vI) := by
  refine A_fun (N := 19) (rs := [.tmp 2]) Tryz.func49 rfl rfl rfl (by kernel_rfl) (by kernel_rfl) (Nat.le_of_ble_eq_true rfl) ?_
  rintro e he ⟨g0, -⟩
  have hlen : (l.map fun t => (t, (0 : Int))).length = l.length := by simp
  have x1 := hx.one
  have xl := hx.len 99
  rw [hlen] at xl
  simp only [go_sem, Nat.reduceLT, Nat.reduceBEq, Nat.reduceAdd, Int.reduceBEq, Nat.reduceLeDiff, reduceIte, Nat.reduceEqDiff, Int.reduceEq, Int.reduceLE, Int.reduceLT, Int.reduceNe, Nat.reduceMul, Nat.reduceSub, Int.reduceToNat, he, g0, x1, xl]
  refine A_while l.length (fun k e h => (∃ G, h = H ++ G) ∧ len e = 19 ∧ AL.get e 6 = x ∧ AL.get e 7 = vI l.length ∧ ∃ (i : Nat) (y : AV), AL.get e 8 = vI i ∧ AL.get e 3 = y ∧ i + k = l.length ∧ GrN 2 1 H h y i ((l.take i).map vI)) (by kernel_rfl) ?_ ?_
  · simp only [go_sem, Nat.reduceLT, Nat.reduceBEq, Nat.reduceAdd, Int.reduceBEq, Nat.reduceLeDiff, reduceIte, Nat.reduceEqDiff, Int.reduceEq, Int.reduceLE, Int.reduceLT, Int.reduceNe, Nat.reduceMul, Nat.reduceSub, Int.reduceToNat, he, g0]
    exact ⟨⟨[], (List.append_nil _).symm⟩, 0, _, rfl, rfl, by omega, GrN.nil ⟨[], (List.append_nil _).symm⟩⟩
  · rintro k e h ⟨hG1, he, g6, g7, i, y, g8, g3, hik, hO⟩
    simp only [go_sem, Nat.reduceLT, Nat.reduceBEq, Nat.reduceAdd, Int.reduceBEq, Nat.reduceLeDiff, reduceIte, Nat.reduceEqDiff, Int.reduceEq, Int.reduceLE, Int.reduceLT, Int.reduceNe, Nat.reduceMul, Nat.reduceSub, Int.reduceToNat, he, g6, g7, g8, g3]
    refine condK_of (fun hc => ?_) fun hc => ?_
    · have hc := of_decide_eq_true hc
      have hi : i < l.length := by omega
      have hxh : DaysAt h x (l.map fun t => (t, 0)) := by obtain ⟨G, rfl⟩ := hG1; exact hx.more G
      rcases hxh with ⟨rfl, h0⟩ | ⟨own, o, off, cs, rfl, hcs, hcell⟩
      · omega
      obtain ⟨hd1, hd2⟩ := days_load (H := h) hcell (by rw [hlen]; exact hi)
      have hti : (l.map fun t => (t, (0 : Int))).getD i (0, 0) = (l.getD i 0, 0) := by
        rw [List.getD_eq_getElem?_getD, List.getElem?_map, List.getElem?_eq_getElem hi, List.getD_eq_getElem?_getD, List.getElem?_eq_getElem hi]
        rfl
      rw [hti] at hd2
      rw [hlen] at *
      have wi : IntKind.i64.wrap ((i : Int) + 1) = ((i + 1 : Nat) : Int) := by rw [wI64 (by omega)]; rfl
      have hpush := (hO.more [AObj.own 99 [vI (l.getD i 0), vI 0]]).push el55 (by omega) (c := [vI (l.getD i 0)]) rfl rfl (by omega)
      obtain ⟨x2, h2, ha, hO2, -⟩ := hpush
      simp only [go_sem, Nat.reduceLT, Nat.reduceBEq, Nat.reduceAdd, Int.reduceBEq, Nat.reduceLeDiff, reduceIte, Nat.reduceEqDiff, Int.reduceEq, Int.reduceLE, Int.reduceLT, Int.reduceNe, Nat.reduceMul, Nat.reduceSub, Int.reduceToNat, he, g6, g7, g8, g3, hcs, hd1, hd2, Int.toNat_natCast] at ha ⊢
      refine ⟨by omega, callX_of (zSeconds_A _ _ _) (List.prefix_refl _) ?_⟩
      simp only [go_sem, Nat.reduceLT, Nat.reduceBEq, Nat.reduceAdd, Int.reduceBEq, Nat.reduceLeDiff, reduceIte, Nat.reduceEqDiff, Int.reduceEq, Int.reduceLE, Int.reduceLT, Int.reduceNe, Nat.reduceMul, Nat.reduceSub, Int.reduceToNat, he, g6, g7, g8, g3, setD_some, Int.toNat_natCast, wi] at ha ⊢
      rw [ha]
      simp only [go_sem, Nat.reduceLT, Nat.reduceBEq, Nat.reduceAdd, Int.reduceBEq, Nat.reduceLeDiff, reduceIte, Nat.reduceEqDiff, Int.reduceEq, Int.reduceLE, Int.reduceLT, Int.reduceNe, Nat.reduceMul, Nat.reduceSub, Int.reduceToNat, he, g6, g7, g8, g3, setD_some, wi]
      have htk : (l.take (i + 1)).map vI = (l.take i).map vI ++ [vI (l.getD i 0)] := by
        rw [List.take_add_one, List.getElem?_eq_getElem hi, List.getD_eq_getElem?_getD, List.getElem?_eq_getElem hi, List.map_append]
        rfl
      exact ⟨k - 1, by omega, hO2.1, i + 1, x2, rfl, rfl, by omega, by rw [htk]; exact hO2⟩
    · have hc := of_decide_eq_false hc
      have : i = l.length := by omega
      subst this
      simp only [go_sem, Nat.reduceLT, Nat.reduceBEq, Nat.reduceAdd, Int.reduceBEq, Nat.reduceLeDiff, reduceIte, Nat.reduceEqDiff, Int.reduceEq, Int.reduceLE, Int.reduceLT, Int.reduceNe, Nat.reduceMul, Nat.reduceSub, Int.reduceToNat, he, g6, g7, g8, g3]
      rw [List.take_length] at hO
      exact hO

def dateE (s : List UInt8) : Except Nat Int := optE (zLoc s)
def datesE (s : List UInt8) : Except Nat (List Int) := mapAcc dateE [] (split 44 s)
def tcells (l : List Int) : List AV := l.flatMap fun t => [vI t, vI 0]
def DatesR (H h : Heap) (r : AV) : Except Nat (List Int) → Prop
  | .ok l => ∃ x, r = .tup [x, .val .nilIface] ∧ GrN 99 2 H h x l.length (tcells l)
  | .error _ => ∃ t, r = .tup [.val (.slice none 0 0), .ifc t .any]
theorem strToDatesIn_A {w0 : World} (s : List UInt8) (hs : s.length ≤ 100000) (hc : (58 : UInt8) ∉ s) (hf : ∀ x ∈ split 44 s, NoFrac x) (H : Heap) : ACalls Tryz.prog (CB w0) 74 [vS s, .agg []] H fun r H' => DatesR H H' r (datesE s) ∧ ∃ G, H' = H ++ G := by
  refine A_fun (N := 78) (rs := [.tmp 4, .tmp 5]) Tryz.func74 rfl rfl rfl (by kernel_rfl) (by kernel_rfl) (Nat.le_of_ble_eq_true rfl) ?_
  rintro e he ⟨g0, g1, -⟩
  simp only [go_sem, Nat.reduceLT, Nat.reduceBEq, Nat.reduceAdd, Int.reduceBEq, Nat.reduceLeDiff, reduceIte, Nat.reduceEqDiff, Int.reduceEq, Int.reduceLE, Int.reduceLT, Int.reduceNe, Nat.reduceMul, Nat.reduceSub, Int.reduceToNat, he, g0, g1]
  refine callX_any (zzSplit_A s 58 (by omega) _) ?_
  rintro r h ⟨⟨G, rfl⟩, o, rfl, ho, hol⟩
  rw [split_none (idx_no hc)] at ho
  simp only [go_sem, Nat.reduceLT, Nat.reduceBEq, Nat.reduceAdd, Int.reduceBEq, Nat.reduceLeDiff, reduceIte, Nat.reduceEqDiff, Int.reduceEq, Int.reduceLE, Int.reduceLT, Int.reduceNe, Nat.reduceMul, Nat.reduceSub, Int.reduceToNat, he, g0, g1, setD_some, ho, split_none (idx_no hc)]
  have q1 : decide ((2 : Int) < ((1 : Nat) : Int)) = false := rfl
  have q2 : decide (((1 : Nat) : Int) = 2) = false := rfl
  have ho' : (H ++ AObj.own 109 [] :: (G ++ [AObj.own 109 []]))[o]? = some (.own 9 [vS s]) := by
    have := get_more (G := [AObj.own 109 []]) ho
    simpa using this
  simp only [go_sem, Nat.reduceLT, Nat.reduceBEq, Nat.reduceAdd, Int.reduceBEq, Nat.reduceLeDiff, reduceIte, Nat.reduceEqDiff, Int.reduceEq, Int.reduceLE, Int.reduceLT, Int.reduceNe, Nat.reduceMul, Nat.reduceSub, Int.reduceToNat, he, g0, g1, setD_some, ho, ho', q1, q2, Int.cast_ofNat_Int]
  refine callX_any (zzSplit_A s 44 (by omega) _) ?_
  rintro r h ⟨⟨G1, rfl⟩, o1, rfl, ho1, hol1⟩
  simp only [go_sem, Nat.reduceLT, Nat.reduceBEq, Nat.reduceAdd, Int.reduceBEq, Nat.reduceLeDiff, reduceIte, Nat.reduceEqDiff, Int.reduceEq, Int.reduceLE, Int.reduceLT, Int.reduceNe, Nat.reduceMul, Nat.reduceSub, Int.reduceToNat, he, g0, g1, setD_some, ho1]
  have hsl := split_length 44 s
  have hsm : ∀ x ∈ split 44 s, x.length ≤ s.length := fun x => split_mem
  have hfs := hf
  unfold datesE
  generalize split 44 s = ss at *
  refine A_while ss.length (fun k e h => ∃ (i : Nat) (y : AV) (vs : List Int), i + k = ss.length ∧ len e = 78 ∧ AL.get e 58 = .sl true o1 0 ss.length 1 ∧ AL.get e 59 = vI ss.length ∧ AL.get e 60 = vI i ∧ AL.get e 4 = y ∧ AL.get e 5 = .val .nilIface ∧ AL.get e 7 = .ptr (H.length + (G.length + 1)) 0 ∧ h[H.length + (G.length + 1)]? = some (.own 109 []) ∧ h[o1]? = some (.own 9 (ss.map vS)) ∧ vs.length = i ∧ GrN 99 2 H h y i (tcells vs) ∧ mapAcc dateE vs (ss.drop i) = mapAcc dateE [] ss) (by kernel_rfl) ?_ ?_
  · simp only [go_sem, Nat.reduceLT, Nat.reduceBEq, Nat.reduceAdd, Int.reduceBEq, Nat.reduceLeDiff, reduceIte, Nat.reduceEqDiff, Int.reduceEq, Int.reduceLE, Int.reduceLT, Int.reduceNe, Nat.reduceMul, Nat.reduceSub, Int.reduceToNat, he, g0]
    exact ⟨0, _, [], by omega, rfl, rfl, by simpa using ho1, rfl, GrN.nil ⟨_, rfl⟩, rfl⟩
  · rintro k e h ⟨i, y, vs, hik, he, g58, g59, g60, g4, g5, g7, h7, ho1, hvl, hO, hm⟩
    simp only [go_sem, Nat.reduceLT, Nat.reduceBEq, Nat.reduceAdd, Int.reduceBEq, Nat.reduceLeDiff, reduceIte, Nat.reduceEqDiff, Int.reduceEq, Int.reduceLE, Int.reduceLT, Int.reduceNe, Nat.reduceMul, Nat.reduceSub, Int.reduceToNat, he, g58, g59, g60, g4, g5, g7]
    refine condK_of (fun hc => ?_) fun hc => ?_
    · have hc := of_decide_eq_true hc
      obtain ⟨a, ha, hd⟩ := drop_get (l := ss) (i := i) (by omega)
      have hai : (ss.map vS)[i]? = some (vS a) := by rw [List.getElem?_map, ha]; rfl
      have hal := hsm a (List.mem_of_getElem? ha)
      have haf := hfs a (List.mem_of_getElem? ha)
      rw [hd, mapAcc] at hm
      have wi : IntKind.i64.wrap ((i : Int) + 1) = ((i + 1 : Nat) : Int) := by rw [wI64 (by omega)]; rfl
      simp only [go_sem, Nat.reduceLT, Nat.reduceBEq, Nat.reduceAdd, Int.reduceBEq, Nat.reduceLeDiff, reduceIte, Nat.reduceEqDiff, Int.reduceEq, Int.reduceLE, Int.reduceLT, Int.reduceNe, Nat.reduceMul, Nat.reduceSub, Int.reduceToNat, he, g58, g59, g60, g4, g5, g7, h7, ho1, hai, Int.toNat_natCast]
      refine ⟨by omega, callX_of (strToTimeInLoc_A a (by omega) haf _ rfl _) (List.prefix_refl _) ?_⟩
      unfold zLocR
      cases hq : zLoc a with
      | none =>
        have ea : dateE a = .error 157 := by unfold dateE; rw [hq]; rfl
        rw [ea] at hm
        simp only [go_sem, Nat.reduceLT, Nat.reduceBEq, Nat.reduceAdd, Int.reduceBEq, Nat.reduceLeDiff, reduceIte, Nat.reduceEqDiff, Int.reduceEq, Int.reduceLE, Int.reduceLT, Int.reduceNe, Nat.reduceMul, Nat.reduceSub, Int.reduceToNat, he, g58, g59, g60, g4, g5, g7, h7, setD_some, exR, optE]
        refine callX_of (errorsNew_A _ _) (List.prefix_refl _) ?_
        simp only [go_sem, Nat.reduceLT, Nat.reduceBEq, Nat.reduceAdd, Int.reduceBEq, Nat.reduceLeDiff, reduceIte, Nat.reduceEqDiff, Int.reduceEq, Int.reduceLE, Int.reduceLT, Int.reduceNe, Nat.reduceMul, Nat.reduceSub, Int.reduceToNat, he, g58, g59, g60, g4, g5, g7, setD_some]
        rw [← hm]
        obtain ⟨G2, rfl⟩ := hO.1
        exact ⟨⟨_, rfl⟩, _, List.append_assoc _ _ _⟩
      | some t =>
        have ea : dateE a = .ok t := by unfold dateE; rw [hq]; rfl
        rw [ea] at hm
        simp only [go_sem, Nat.reduceLT, Nat.reduceBEq, Nat.reduceAdd, Int.reduceBEq, Nat.reduceLeDiff, reduceIte, Nat.reduceEqDiff, Int.reduceEq, Int.reduceLE, Int.reduceLT, Int.reduceNe, Nat.reduceMul, Nat.reduceSub, Int.reduceToNat, he, g58, g59, g60, g4, g5, g7, h7, setD_some, exR, optE, wi]
        obtain ⟨x2, h2, ha2, hO2, hkp⟩ := (hO.more [AObj.own 99 [vI t, vI 0]]).push el94 (by omega) (c := [vI t, vI 0]) rfl rfl (by omega)
        have hne : ∀ (p : Nat) (u : Nat) (cs : List AV), h[p]? = some (.own u cs) → u ≠ 99 → ∀ q, y = .sl true q 0 i 2 → p ≠ q := by
          rintro p u cs hp hu q rfl rfl
          rcases hO.2.2 with ⟨hy, _⟩ | ⟨o2, hy, hy2, _⟩
          · cases hy
          · simp only [AV.sl.injEq] at hy
            rw [hy.2.1] at hp
            rw [hp] at hy2
            simp only [Option.some.injEq, AObj.own.injEq] at hy2
            exact hu hy2.1
        have k7 := hkp _ _ (get_more h7) (hne _ _ _ h7 (by omega))
        have k1 := hkp _ _ (get_more ho1) (hne _ _ _ ho1 (by omega))
        simp only [go_sem, Nat.reduceLT, Nat.reduceBEq, Nat.reduceAdd, Int.reduceBEq, Nat.reduceLeDiff, reduceIte, Nat.reduceEqDiff, Int.reduceEq, Int.reduceLE, Int.reduceLT, Int.reduceNe, Nat.reduceMul, Nat.reduceSub, Int.reduceToNat, he, g58, g59, g60, g4, g5, g7, h7, setD_some, wi] at ha2 ⊢
        rw [ha2]
        simp only [go_sem, Nat.reduceLT, Nat.reduceBEq, Nat.reduceAdd, Int.reduceBEq, Nat.reduceLeDiff, reduceIte, Nat.reduceEqDiff, Int.reduceEq, Int.reduceLE, Int.reduceLT, Int.reduceNe, Nat.reduceMul, Nat.reduceSub, Int.reduceToNat, he, g58, g59, g60, g4, g5, g7, setD_some, wi]
        have htc : tcells (vs ++ [t]) = tcells vs ++ [vI t, vI 0] := by simp [tcells]
        exact ⟨k - 1, by omega, i + 1, x2, vs ++ [t], by omega, rfl, rfl, k7, k1, by simp [hvl], by rw [htc]; exact hO2, hm⟩
    · have hc := of_decide_eq_false hc
      have : i = ss.length := by omega
      subst this
      simp only [go_sem, Nat.reduceLT, Nat.reduceBEq, Nat.reduceAdd, Int.reduceBEq, Nat.reduceLeDiff, reduceIte, Nat.reduceEqDiff, Int.reduceEq, Int.reduceLE, Int.reduceLT, Int.reduceNe, Nat.reduceMul, Nat.reduceSub, Int.reduceToNat, he, g58, g59, g60, g4, g5, g7]
      rw [List.drop_length] at hm
      rw [← hm]
      refine ⟨⟨_, rfl, ?_⟩, hO.1⟩
      rw [hvl]
      exact hO

theorem strToDates_A {w0 : World} (s : List UInt8) (hs : s.length ≤ 100000) (hc : (58 : UInt8) ∉ s) (hf : ∀ x ∈ split 44 s, NoFrac x) (H : Heap) : ACalls Tryz.prog (CB w0) 48 [vS s] H fun r H' => DatesR H H' r (datesE s) ∧ ∃ G, H' = H ++ G := by
  refine A_fun (N := 9) (rs := [.tmp 2, .tmp 3]) Tryz.func48 rfl rfl rfl (by kernel_rfl) (by kernel_rfl) (Nat.le_of_ble_eq_true rfl) ?_
  rintro e he ⟨g0, -⟩
  simp only [go_sem, Nat.reduceLT, Nat.reduceBEq, Nat.reduceAdd, Int.reduceBEq, Nat.reduceLeDiff, reduceIte, Nat.reduceEqDiff, Int.reduceEq, Int.reduceLE, Int.reduceLT, Int.reduceNe, Nat.reduceMul, Nat.reduceSub, Int.reduceToNat, he, g0]
  refine callX_of (zUTC_A _) (List.prefix_refl _) ?_
  simp only [go_sem, Nat.reduceLT, Nat.reduceBEq, Nat.reduceAdd, Int.reduceBEq, Nat.reduceLeDiff, reduceIte, Nat.reduceEqDiff, Int.reduceEq, Int.reduceLE, Int.reduceLT, Int.reduceNe, Nat.reduceMul, Nat.reduceSub, Int.reduceToNat, he, g0, setD_some]
  refine callX_any (strToDatesIn_A s hs hc hf _) ?_
  rintro r h ⟨hr, G, rfl⟩
  cases hq : datesE s with
  | error t =>
    rw [hq] at hr
    obtain ⟨t', rfl⟩ := hr
    simp only [go_sem, Nat.reduceLT, Nat.reduceBEq, Nat.reduceAdd, Int.reduceBEq, Nat.reduceLeDiff, reduceIte, Nat.reduceEqDiff, Int.reduceEq, Int.reduceLE, Int.reduceLT, Int.reduceNe, Nat.reduceMul, Nat.reduceSub, Int.reduceToNat, he, g0, setD_some]
    exact ⟨⟨t', rfl⟩, _, rfl⟩
  | ok l =>
    rw [hq] at hr
    obtain ⟨x, rfl, hO⟩ := hr
    simp only [go_sem, Nat.reduceLT, Nat.reduceBEq, Nat.reduceAdd, Int.reduceBEq, Nat.reduceLeDiff, reduceIte, Nat.reduceEqDiff, Int.reduceEq, Int.reduceLE, Int.reduceLT, Int.reduceNe, Nat.reduceMul, Nat.reduceSub, Int.reduceToNat, he, g0, setD_some]
    exact ⟨⟨x, rfl, hO⟩, _, rfl⟩
/-- The moments of a text of dates, and whether there are any. -/
def DatesB (H h : Heap) (r : AV) : Except Nat (List Int) → Prop
  | .ok l => ∃ x, r = .tup [x, vB true] ∧ GrN 2 1 H h x l.length (l.map vI)
  | .error _ => r = .tup [.val (.slice none 0 0), vB false]
theorem tcells_len : ∀ l : List Int, (tcells l).length = l.length * 2
  | [] => rfl
  | t :: l => by
    have := tcells_len l
    unfold tcells at this ⊢
    simp only [List.flatMap_cons, List.length_append, this, List.length_cons, List.length_nil]
    omega
theorem tcells_get (l : List Int) (i : Nat) (h : i < l.length * 2) : (tcells l)[i]? = some (if i % 2 = 0 then vI ((l.map fun t => (t, (0 : Int))).getD (i / 2) (0, 0)).1 else vI ((l.map fun t => (t, (0 : Int))).getD (i / 2) (0, 0)).2) := by
  induction l generalizing i with
  | nil => simp at h
  | cons t l ih =>
    unfold tcells at ih ⊢
    match i with
    | 0 => rfl
    | 1 => rfl
    | i + 2 =>
      have := ih i (by simp only [List.length_cons] at h; omega)
      simp only [List.flatMap_cons, List.cons_append, List.nil_append, List.getElem?_cons_succ, List.map_cons]
      rw [this, show (i + 2) % 2 = i % 2 by omega, show (i + 2) / 2 = i / 2 + 1 by omega]
      rfl
theorem GrN.days {H h : Heap} {x : AV} {l : List Int} (hO : GrN 99 2 H h x l.length (tcells l)) : DaysAt h x (l.map fun t => (t, 0)) := by
  unfold DaysAt
  rw [List.length_map]
  rcases hO.2.2 with ⟨rfl, h0⟩ | ⟨o, rfl, ho, _⟩
  · exact .inl ⟨rfl, h0⟩
  · refine .inr ⟨true, o, 0, tcells l, rfl, by rw [ho]; rfl, fun i hi => ?_⟩
    rw [Nat.zero_add]
    exact tcells_get l i hi
theorem datesE_len {s : List UInt8} {l : List Int} (h : datesE s = .ok l) : l.length ≤ s.length + 2 := by
  have key : ∀ (ss : List (List UInt8)) (acc : List Int), mapAcc dateE acc ss = .ok l → l.length = acc.length + ss.length := by
    intro ss
    induction ss with
    | nil =>
      intro acc h
      simp only [mapAcc, Except.ok.injEq] at h
      subst h
      simp
    | cons a r ih =>
      intro acc h
      simp only [mapAcc] at h
      split at h
      · have := ih _ h
        simp only [List.length_append, List.length_cons, List.length_nil] at this ⊢
        omega
      · cases h
  have h1 := key _ _ h
  have h2 := (split_length 44 s).1
  simp only [List.length_nil] at h1
  omega
theorem datesOf_A {w0 : World} (s : List UInt8) (hs : s.length ≤ 100000) (hc : (58 : UInt8) ∉ s) (hf : ∀ x ∈ split 44 s, NoFrac x) (H : Heap) : ACalls Tryz.prog (CB w0) 26 [vS s] H fun r H' => DatesB H H' r (datesE s) ∧ ∃ G, H' = H ++ G := by
  refine A_fun (N := 15) (rs := [.tmp 2, .tmp 3]) Tryz.func26 rfl rfl rfl (by kernel_rfl) (by kernel_rfl) (Nat.le_of_ble_eq_true rfl) ?_
  rintro e he ⟨g0, -⟩
  simp only [go_sem, Nat.reduceLT, Nat.reduceBEq, Nat.reduceAdd, Int.reduceBEq, Nat.reduceLeDiff, reduceIte, Nat.reduceEqDiff, Int.reduceEq, Int.reduceLE, Int.reduceLT, Int.reduceNe, Nat.reduceMul, Nat.reduceSub, Int.reduceToNat, he, g0]
  refine callX_any (strToDates_A s hs hc hf _) ?_
  rintro r h ⟨hr, G, rfl⟩
  cases hq : datesE s with
  | error t =>
    rw [hq] at hr
    obtain ⟨t', rfl⟩ := hr
    simp only [go_sem, Nat.reduceLT, Nat.reduceBEq, Nat.reduceAdd, Int.reduceBEq, Nat.reduceLeDiff, reduceIte, Nat.reduceEqDiff, Int.reduceEq, Int.reduceLE, Int.reduceLT, Int.reduceNe, Nat.reduceMul, Nat.reduceSub, Int.reduceToNat, he, g0, setD_some]
    exact ⟨rfl, _, rfl⟩
  | ok l =>
    rw [hq] at hr
    obtain ⟨x, rfl, hO⟩ := hr
    have x1 := hO.days.one
    have hl := datesE_len hq
    simp only [go_sem, Nat.reduceLT, Nat.reduceBEq, Nat.reduceAdd, Int.reduceBEq, Nat.reduceLeDiff, reduceIte, Nat.reduceEqDiff, Int.reduceEq, Int.reduceLE, Int.reduceLT, Int.reduceNe, Nat.reduceMul, Nat.reduceSub, Int.reduceToNat, he, g0, setD_some, x1]
    refine callX_any (seconds_A l x (by omega) _ hO.days) ?_
    rintro r h hO2
    have y1 : r.one = true := by rcases hO2.2.2 with ⟨rfl, _⟩ | ⟨q, rfl, _⟩ <;> rfl
    simp only [go_sem, Nat.reduceLT, Nat.reduceBEq, Nat.reduceAdd, Int.reduceBEq, Nat.reduceLeDiff, reduceIte, Nat.reduceEqDiff, Int.reduceEq, Int.reduceLE, Int.reduceLT, Int.reduceNe, Nat.reduceMul, Nat.reduceSub, Int.reduceToNat, he, g0, setD_some, y1]
    obtain ⟨⟨G2, e2⟩, k1, k2⟩ := hO2
    refine ⟨⟨r, rfl, ⟨G ++ G2, by rw [e2, List.append_assoc]⟩, k1, ?_⟩, G ++ G2, by rw [e2, List.append_assoc]⟩
    rcases k2 with k2 | ⟨o, h1, h2, h3⟩
    · exact .inl k2
    · exact .inr ⟨o, h1, h2, by rw [List.length_append] at h3; omega⟩

def dtB (c : UInt8) : Bool := isDig c || c == 84 || c == 90
theorem dtB_all : ((List.range 256).all fun n => !dtB (UInt8.ofNat n) || (n != 44 && n != 46 && n != 58)) = true := by kernel_rfl
theorem dtB_not {c : UInt8} (h : dtB c = true) : c.toNat ≠ 44 ∧ c.toNat ≠ 46 ∧ c.toNat ≠ 58 := by
  have h1 := List.all_eq_true.1 dtB_all c.toNat (List.mem_range.2 c.toNat_lt)
  rw [UInt8.ofNat_toNat, h] at h1
  simp only [Bool.not_true, Bool.false_or, Bool.and_eq_true, bne_iff_ne] at h1
  exact ⟨h1.1.1, h1.1.2, h1.2⟩
theorem dig_dtB {s : List UInt8} (h : s.all isDig = true) : s.all dtB = true := by
  rw [List.all_eq_true] at h ⊢
  intro c hc
  unfold dtB
  rw [h c hc]
  rfl
/-- A date's text: whole, without its Z, or the day alone. -/
def formP (p : Nat × Int) : List UInt8 := if p.1 = 0 then dateText p.2 else if p.1 = 1 then dateB p.2 else dateA p.2
def valP (p : Nat × Int) : Int := if p.1 = 0 then p.2 else if p.1 = 1 then p.2 else p.2 - p.2 % 86400
def InY (t : Int) : Prop := 0 ≤ t ∧ t < before 10000 * 86400
theorem dateA_dt {t : Int} (h : InY t) : (dateA t).all dtB = true := by
  have hn : 0 ≤ t / 86400 := by have := h.1; omega
  have hy := yearOf_ok hn
  have hy9 := yearOf_small hn (by have := h.2; omega)
  obtain ⟨m, e1, e2, e3, e4, e5, e6⟩ := dayOf_date hn
  have hmd := monthDays_pos (yearOf (t / 86400)) m
  unfold dateA
  rw [List.all_append, List.all_append, dig_dtB (pad4 (by omega) (by omega)).2.1, dig_dtB (pad2 (by omega) (by omega)).2.1, dig_dtB (pad2 (by omega) (by omega)).2.1]
  rfl
theorem dateB_dt {t : Int} (h : InY t) : (dateB t).all dtB = true := by
  unfold dateB
  rw [List.all_append, List.all_cons, List.all_append, List.all_append, dateA_dt h, dig_dtB (pad2 (by omega) (by omega)).2.1, dig_dtB (pad2 (by omega) (by omega)).2.1, dig_dtB (pad2 (by omega) (by omega)).2.1]
  rfl
theorem formP_dt {p : Nat × Int} (h : InY p.2) : (formP p).all dtB = true := by
  unfold formP
  split
  · rw [dateText_eq, List.all_append, dateB_dt h]; rfl
  · split
    · exact dateB_dt h
    · exact dateA_dt h
theorem formP_len {p : Nat × Int} (h : InY p.2) : (formP p).length ≤ 16 := by
  unfold formP
  split
  · rw [dateText_eq, List.length_append, dateB_len h.1 h.2]; simp
  · split
    · rw [dateB_len h.1 h.2]; omega
    · rw [dateA_len h.1 h.2]; omega
theorem formP_loc {p : Nat × Int} (h : InY p.2) : zLoc (formP p) = some (valP p) := by
  unfold formP valP
  split
  · exact loc_full h.1 h.2
  · split
    · exact loc_noZ h.1 h.2
    · exact loc_day h.1 h.2
theorem mapAcc_map {α β γ : Type} {f : α → Except Nat β} {g : γ → α} {v : γ → β} : ∀ (l : List γ) (acc : List β), (∀ a ∈ l, f (g a) = .ok (v a)) → mapAcc f acc (l.map g) = .ok (acc ++ l.map v)
  | [], acc, _ => by simp [mapAcc]
  | a :: l, acc, h => by
    rw [List.map_cons, mapAcc, h a (by simp)]
    simp only
    rw [mapAcc_map l (acc ++ [v a]) fun b hb => h b (List.mem_cons_of_mem _ hb)]
    simp
theorem mapAcc_stop {α β γ : Type} {f : α → Except Nat β} {g : γ → α} {v : γ → β} {b : α} {e : Nat} (hb : f b = .error e) : ∀ (l : List γ) (acc : List β), (∀ a ∈ l, f (g a) = .ok (v a)) → mapAcc f acc (l.map g ++ [b]) = .error e
  | [], acc, _ => by simp [mapAcc, hb]
  | a :: l, acc, h => by
    rw [List.map_cons, List.cons_append, mapAcc, h a (by simp)]
    simp only
    exact mapAcc_stop hb l (acc ++ [v a]) fun b hb => h b (List.mem_cons_of_mem _ hb)
theorem dateE_form {p : Nat × Int} (h : InY p.2) : dateE (formP p) = .ok (valP p) := by
  unfold dateE
  rw [formP_loc h]
  rfl
theorem forms_split {l : List (Nat × Int)} (h0 : l ≠ []) (h : ∀ p ∈ l, InY p.2) : split 44 (joinB 44 (l.map formP)) = l.map formP :=
  split_join (by simpa using h0) fun s hs hm => by
    obtain ⟨p, hp, rfl⟩ := List.mem_map.1 hs
    exact (dtB_not (List.all_eq_true.1 (formP_dt (h p hp)) _ hm)).1 rfl
theorem datesE_forms {l : List (Nat × Int)} (h0 : l ≠ []) (h : ∀ p ∈ l, InY p.2) : datesE (joinB 44 (l.map formP)) = .ok (l.map valP) := by
  unfold datesE
  rw [forms_split h0 h, mapAcc_map l [] fun p hp => dateE_form (h p hp)]
  rfl
def badD : List (List UInt8) := [[], [50, 48, 50, 48], [50, 48, 50, 48, 48, 50, 51, 48, 84, 48, 48, 48, 48, 48, 48, 90], [50, 48, 50, 48, 48, 49, 48, 49, 84, 50, 53, 48, 48, 48, 48, 90], [120], [50, 48, 50, 48, 48, 49, 48, 49, 84, 48, 48, 48, 48, 48, 48, 88]]
theorem badD_get {k : Nat} (hk : k < 6) : ∃ b, badD[k]? = some b ∧ zLoc b = none ∧ (b.all fun c => c != 44 && c != 46 && c != 58) = true ∧ b.length ≤ 16 := by
  match k, hk with
  | 0, _ => exact ⟨_, rfl, by kernel_rfl, rfl, by decide⟩
  | 1, _ => exact ⟨_, rfl, by kernel_rfl, rfl, by decide⟩
  | 2, _ => exact ⟨_, rfl, by kernel_rfl, rfl, by decide⟩
  | 3, _ => exact ⟨_, rfl, by kernel_rfl, rfl, by decide⟩
  | 4, _ => exact ⟨_, rfl, by kernel_rfl, rfl, by decide⟩
  | 5, _ => exact ⟨_, rfl, by kernel_rfl, rfl, by decide⟩
theorem no44 {b : List UInt8} (h : (b.all fun c => c != 44 && c != 46 && c != 58) = true) : (44 : UInt8) ∉ b ∧ (58 : UInt8) ∉ b ∧ NoFrac b := by
  rw [List.all_eq_true] at h
  refine ⟨fun hm => ?_, fun hm => ?_, fun c hc => ?_⟩
  · have := h _ hm; revert this; decide
  · have := h _ hm; revert this; decide
  · have := h _ hc
    simp only [Bool.and_eq_true, bne_iff_ne] at this
    refine ⟨fun e => this.1.2 (UInt8.toNat_inj.1 e), fun e => this.1.1 (UInt8.toNat_inj.1 e)⟩
theorem bad_split {l : List (Nat × Int)} {b : List UInt8} (h0 : l ≠ []) (h : ∀ p ∈ l, InY p.2) (hb : (44 : UInt8) ∉ b) : split 44 (joinB 44 (l.map formP) ++ 44 :: b) = l.map formP ++ [b] := by
  rw [← joinB_snoc 44 b _ (by simpa using h0)]
  exact split_join (by simp) fun s hs hm => by
    rcases List.mem_append.1 hs with hs | hs
    · obtain ⟨p, hp, rfl⟩ := List.mem_map.1 hs
      exact (dtB_not (List.all_eq_true.1 (formP_dt (h p hp)) _ hm)).1 rfl
    · rw [List.mem_singleton] at hs
      rw [hs] at hm
      exact hb hm
theorem datesE_bad {l : List (Nat × Int)} {b : List UInt8} (h0 : l ≠ []) (h : ∀ p ∈ l, InY p.2) (hb : (44 : UInt8) ∉ b) (hz : zLoc b = none) : ∃ e, datesE (joinB 44 (l.map formP) ++ 44 :: b) = .error e := by
  refine ⟨157, ?_⟩
  unfold datesE
  rw [bad_split h0 h hb]
  exact mapAcc_stop (by unfold dateE; rw [hz]; rfl) l [] fun p hp => dateE_form (h p hp)
theorem forms_no58 : ∀ {l : List (Nat × Int)}, (∀ p ∈ l, InY p.2) → (58 : UInt8) ∉ joinB 44 (l.map formP)
  | [], _, hm => by simp [joinB] at hm
  | [p], h, hm => (dtB_not (List.all_eq_true.1 (formP_dt (h p (by simp))) _ hm)).2.2 rfl
  | p :: q :: r, h, hm => by
    have e : joinB 44 ((p :: q :: r).map formP) = formP p ++ 44 :: joinB 44 ((q :: r).map formP) := rfl
    rw [e] at hm
    rcases List.mem_append.1 hm with hm | hm
    · exact (dtB_not (List.all_eq_true.1 (formP_dt (h p (by simp))) _ hm)).2.2 rfl
    · rcases List.mem_cons.1 hm with hm | hm
      · exact absurd hm (by decide)
      · exact forms_no58 (fun p hp => h p (List.mem_cons_of_mem _ hp)) hm
theorem forms_frac {l : List (Nat × Int)} (h : ∀ p ∈ l, InY p.2) : ∀ x ∈ l.map formP, NoFrac x := by
  intro x hx
  obtain ⟨p, hp, rfl⟩ := List.mem_map.1 hx
  intro c hc
  have := dtB_not (List.all_eq_true.1 (formP_dt (h p hp)) _ hc)
  exact ⟨this.2.1, this.1⟩

theorem IntsAt.get {H : Heap} {x : AV} {l : List Int} (hx : IntsAt H x l) {i : Nat} (hi : i < l.length) : ∃ own o off cs, x = .sl own o off l.length 1 ∧ cellsK H[o]? = some cs ∧ cs[off + i]? = some (vI (l.getD i 0)) := by
  rcases hx with ⟨rfl, h0⟩ | ⟨own, o, off, cs, rfl, hcs, hcell⟩
  · omega
  · exact ⟨own, o, off, cs, rfl, hcs, hcell i (by omega)⟩
theorem list_ext_getD {l l' : List Int} (hl : l.length = l'.length) (h : ∀ i, i < l.length → l.getD i 0 = l'.getD i 0) : l = l' := by
  apply List.ext_getElem hl
  intro i h1 h2
  have := h i h1
  rw [List.getD_eq_getElem?_getD, List.getD_eq_getElem?_getD, List.getElem?_eq_getElem h1, List.getElem?_eq_getElem h2] at this
  exact this
theorem equal64_A {w0 : World} (l l' : List Int) (hl : l.length ≤ 1000000000) (hl' : l'.length ≤ 1000000000) (x y : AV) (H : Heap) (hx : IntsAt H x l) (hy : IntsAt H y l') : ACalls Tryz.prog (CB w0) 27 [x, y] H fun r H' => r = vB (decide (l = l')) ∧ H' = H := by
  refine A_fun (N := 26) (rs := [.tmp 4]) Tryz.func27 rfl rfl rfl (by kernel_rfl) (by kernel_rfl) (Nat.le_of_ble_eq_true rfl) ?_
  rintro e he ⟨g0, g1, -⟩
  have h1 := hx.len 2
  have h2 := hy.len 2
  simp only [go_sem, Nat.reduceLT, Nat.reduceBEq, Nat.reduceAdd, Int.reduceBEq, Nat.reduceLeDiff, reduceIte, Nat.reduceEqDiff, Int.reduceEq, Int.reduceLE, Int.reduceLT, Int.reduceNe, Nat.reduceMul, Nat.reduceSub, Int.reduceToNat, he, g0, g1, h1, h2]
  refine condK_of (fun hc => ?_) fun hc => ?_
  · have hc : ¬ ((l.length : Int) = l'.length) := by simpa using hc
    simp only [go_sem, Nat.reduceLT, Nat.reduceBEq, Nat.reduceAdd, Int.reduceBEq, Nat.reduceLeDiff, reduceIte, Nat.reduceEqDiff, Int.reduceEq, Int.reduceLE, Int.reduceLT, Int.reduceNe, Nat.reduceMul, Nat.reduceSub, Int.reduceToNat, he, g0, g1]
    rw [decide_eq_false (by intro e; exact hc (by rw [e]))]
  · have hc : (l.length : Int) = l'.length := by simpa using hc
    simp only [go_sem, Nat.reduceLT, Nat.reduceBEq, Nat.reduceAdd, Int.reduceBEq, Nat.reduceLeDiff, reduceIte, Nat.reduceEqDiff, Int.reduceEq, Int.reduceLE, Int.reduceLT, Int.reduceNe, Nat.reduceMul, Nat.reduceSub, Int.reduceToNat, he, g0, g1, h1]
    refine A_while l.length (fun k e h => h = H ∧ len e = 26 ∧ AL.get e 0 = x ∧ AL.get e 1 = y ∧ AL.get e 12 = vI l.length ∧ ∃ i : Nat, AL.get e 13 = vI i ∧ i + k = l.length ∧ ∀ j, j < i → l.getD j 0 = l'.getD j 0) (by kernel_rfl) ?_ ?_
    · simp only [go_sem, Nat.reduceLT, Nat.reduceBEq, Nat.reduceAdd, Int.reduceBEq, Nat.reduceLeDiff, reduceIte, Nat.reduceEqDiff, Int.reduceEq, Int.reduceLE, Int.reduceLT, Int.reduceNe, Nat.reduceMul, Nat.reduceSub, Int.reduceToNat, he, g0, g1]
      exact ⟨0, rfl, by omega, fun j hj => by omega⟩
    · rintro k e h ⟨rfl, he, g0, g1, g12, i, g13, hik, hs⟩
      have wi : IntKind.i64.wrap ((i : Int) + 1) = ((i + 1 : Nat) : Int) := by rw [wI64 (by omega)]; rfl
      simp only [go_sem, Nat.reduceLT, Nat.reduceBEq, Nat.reduceAdd, Int.reduceBEq, Nat.reduceLeDiff, reduceIte, Nat.reduceEqDiff, Int.reduceEq, Int.reduceLE, Int.reduceLT, Int.reduceNe, Nat.reduceMul, Nat.reduceSub, Int.reduceToNat, he, g0, g1, g12, g13]
      refine condK_of (fun hc => ?_) fun hc => ?_
      · have hc := of_decide_eq_true hc
        obtain ⟨own, o, off, cs, rfl, hcs, hci⟩ := hx.get (i := i) (by omega)
        obtain ⟨own', o', off', cs', rfl, hcs', hci'⟩ := hy.get (i := i) (by omega)
        simp only [go_sem, Nat.reduceLT, Nat.reduceBEq, Nat.reduceAdd, Int.reduceBEq, Nat.reduceLeDiff, reduceIte, Nat.reduceEqDiff, Int.reduceEq, Int.reduceLE, Int.reduceLT, Int.reduceNe, Nat.reduceMul, Nat.reduceSub, Int.reduceToNat, he, g0, g1, g12, g13]
        refine acode_draw mixed (by kernel_rfl) ?_
        generalize ha : l.getD i 0 = a at *
        generalize hb : l'.getD i 0 = b at *
        simp only [go_sem, Nat.reduceLT, Nat.reduceBEq, Nat.reduceAdd, Int.reduceBEq, Nat.reduceLeDiff, reduceIte, Nat.reduceEqDiff, Int.reduceEq, Int.reduceLE, Int.reduceLT, Int.reduceNe, Nat.reduceMul, Nat.reduceSub, Int.reduceToNat, he, g0, g1, g12, g13, hcs, hcs', hci, hci', Int.toNat_natCast]
        refine ⟨by omega, by omega, condK_of (fun hq => ?_) fun hq => ?_⟩
        · have hq : ¬ a = b := by simpa using hq
          simp only [go_sem, Nat.reduceLT, Nat.reduceBEq, Nat.reduceAdd, Int.reduceBEq, Nat.reduceLeDiff, reduceIte, Nat.reduceEqDiff, Int.reduceEq, Int.reduceLE, Int.reduceLT, Int.reduceNe, Nat.reduceMul, Nat.reduceSub, Int.reduceToNat, he, g0, g1, g12, g13]
          rw [decide_eq_false (by rintro rfl; exact hq (ha.symm.trans hb))]
        · have hq : a = b := by simpa using hq
          simp only [go_sem, Nat.reduceLT, Nat.reduceBEq, Nat.reduceAdd, Int.reduceBEq, Nat.reduceLeDiff, reduceIte, Nat.reduceEqDiff, Int.reduceEq, Int.reduceLE, Int.reduceLT, Int.reduceNe, Nat.reduceMul, Nat.reduceSub, Int.reduceToNat, he, g0, g1, g12, g13, wi]
          refine ⟨k - 1, by omega, i + 1, rfl, by omega, fun j hj => ?_⟩
          rcases Nat.lt_or_ge j i with h1 | h1
          · exact hs j h1
          · obtain rfl : j = i := by omega
            rw [ha, hb, hq]
      · have hc := of_decide_eq_false hc
        simp only [go_sem, Nat.reduceLT, Nat.reduceBEq, Nat.reduceAdd, Int.reduceBEq, Nat.reduceLeDiff, reduceIte, Nat.reduceEqDiff, Int.reduceEq, Int.reduceLE, Int.reduceLT, Int.reduceNe, Nat.reduceMul, Nat.reduceSub, Int.reduceToNat, he, g0, g1, g12, g13]
        rw [decide_eq_true (list_ext_getD (by omega) fun j hj => hs j (by omega))]
theorem GrN.ints {t : Nat} {H h : Heap} {x : AV} {l : List Int} (hO : GrN t 1 H h x l.length (l.map vI)) : IntsAt h x l := by
  rcases hO.2.2 with ⟨rfl, h0⟩ | ⟨o, rfl, ho, _⟩
  · exact .inl ⟨rfl, h0⟩
  · refine .inr ⟨true, o, 0, _, rfl, by rw [ho]; rfl, fun i hi => ?_⟩
    have hi : i < l.length := by omega
    rw [Nat.zero_add, List.getElem?_map]
    show Option.map vI l[i]? = some (vI (l.getD i 0))
    rw [List.getD_eq_getElem?_getD, List.getElem?_eq_getElem hi]
    rfl
def BytesAt (H : Heap) (x : AV) (l : List Nat) : Prop := SlOf H x l.length 1 fun i => vU (l.getD i 0)
theorem BytesAt.get {H : Heap} {x : AV} {l : List Nat} (hx : BytesAt H x l) {i : Nat} (hi : i < l.length) : ∃ own o off cs, x = .sl own o off l.length 1 ∧ cellsK H[o]? = some cs ∧ cs[off + i]? = some (vU (l.getD i 0)) := by
  rcases hx with ⟨rfl, h0⟩ | ⟨own, o, off, cs, rfl, hcs, hcell⟩
  · omega
  · exact ⟨own, o, off, cs, rfl, hcs, hcell i (by omega)⟩
def itemAt (l : List Int) (fs : List Nat) (i : Nat) : Nat × Int := (fs.getD i 0 % 3, l.getD i 0)
def items (l : List Int) (fs : List Nat) (n : Nat) : List (Nat × Int) := (List.range n).map (itemAt l fs)
theorem items_succ (l : List Int) (fs : List Nat) (n : Nat) : items l fs (n + 1) = items l fs n ++ [itemAt l fs n] := by
  unfold items
  rw [List.range_succ, List.map_append]
  rfl
theorem items_len (l : List Int) (fs : List Nat) (n : Nat) : (items l fs n).length = n := by simp [items]
theorem items_text (l : List Int) (fs : List Nat) (n : Nat) : joinB 44 ((items l fs (n + 1)).map formP) = if n = 0 then formP (itemAt l fs n) else joinB 44 ((items l fs n).map formP) ++ 44 :: formP (itemAt l fs n) := by
  rw [items_succ, List.map_append]
  split
  · rename_i h
    subst h
    rfl
  · rename_i h
    refine joinB_snoc 44 _ _ fun e => h ?_
    have := congrArg List.length e
    simpa [items] using this
theorem items_step {l : List Int} {fs : List Nat} {i : Nat} {tx : List UInt8} (h : tx = joinB 44 ((items l fs i).map formP)) : (if i = 0 then tx else tx ++ [44]) ++ formP (itemAt l fs i) = joinB 44 ((items l fs (i + 1)).map formP) := by
  rw [items_text]
  by_cases h0 : i = 0
  · subst h0
    rw [if_pos rfl, if_pos rfl, h]
    rfl
  · rw [if_neg h0, if_neg h0, h, List.append_assoc]
    rfl
theorem items_vals (l : List Int) (fs : List Nat) (i : Nat) : (items l fs (i + 1)).map (fun p => vI (valP p)) = (items l fs i).map (fun p => vI (valP p)) ++ [vI (valP (itemAt l fs i))] := by
  rw [items_succ, List.map_append]
  rfl
theorem items_in {l : List Int} {fs : List Nat} {i : Nat} (h : ∀ p ∈ items l fs i, InY p.2) (h1 : InY (itemAt l fs i).2) : ∀ p ∈ items l fs (i + 1), InY p.2 := by
  intro p hp
  rw [items_succ] at hp
  rcases List.mem_append.1 hp with hp | hp
  · exact h p hp
  · rw [List.mem_singleton] at hp
    rw [hp]
    exact h1

theorem sdigits_A {w0 : World} (s : List UInt8) (a n : Nat) (hs : s.length ≤ 1000000) (hn : n ≤ 8) (hl : a + n ≤ s.length) (hd : ((s.drop a).take n).all isDig = true) (H : Heap) : ACalls Tryz.prog (CB w0) 94 [vS s, vI a, vI ((a + n : Nat) : Int)] H fun r H' => r = .tup [vI (digFold ((s.drop a).take n)), vB true] ∧ H' = H := by
  refine A_fun (N := 39) (rs := [.tmp 6, .tmp 7]) Tryz.func94 rfl rfl rfl (by kernel_rfl) (by kernel_rfl) (Nat.le_of_ble_eq_true rfl) ?_
  rintro e he ⟨g0, g1, g2, -⟩
  simp only [go_sem, Nat.reduceLT, Nat.reduceBEq, Nat.reduceAdd, Int.reduceBEq, Nat.reduceLeDiff, reduceIte, Nat.reduceEqDiff, Int.reduceEq, Int.reduceLE, Int.reduceLT, Int.reduceNe, Nat.reduceMul, Nat.reduceSub, Int.reduceToNat, he, g0, g1, g2]
  refine condK_of (fun hc => ?_) fun hc => ?_
  · have hc := of_decide_eq_true hc
    omega
  simp only [go_sem, Nat.reduceLT, Nat.reduceBEq, Nat.reduceAdd, Int.reduceBEq, Nat.reduceLeDiff, reduceIte, Nat.reduceEqDiff, Int.reduceEq, Int.reduceLE, Int.reduceLT, Int.reduceNe, Nat.reduceMul, Nat.reduceSub, Int.reduceToNat, he, g0, g1, g2]
  refine A_while n (fun k e h => h = H ∧ len e = 39 ∧ AL.get e 0 = vS s ∧ AL.get e 2 = vI ((a + n : Nat) : Int) ∧ ∃ (i : Nat), AL.get e 9 = vI ((a + i : Nat) : Int) ∧ AL.get e 8 = vI (digFold ((s.drop a).take i)) ∧ i + k = n) (by kernel_rfl) ?_ ?_
  · simp only [go_sem, Nat.reduceLT, Nat.reduceBEq, Nat.reduceAdd, Int.reduceBEq, Nat.reduceLeDiff, reduceIte, Nat.reduceEqDiff, Int.reduceEq, Int.reduceLE, Int.reduceLT, Int.reduceNe, Nat.reduceMul, Nat.reduceSub, Int.reduceToNat, he, g0, g1, g2]
    exact ⟨0, rfl, rfl, by omega⟩
  · rintro k e h ⟨rfl, he, g0, g2, i, g9, g8, hik⟩
    simp only [go_sem, Nat.reduceLT, Nat.reduceBEq, Nat.reduceAdd, Int.reduceBEq, Nat.reduceLeDiff, reduceIte, Nat.reduceEqDiff, Int.reduceEq, Int.reduceLE, Int.reduceLT, Int.reduceNe, Nat.reduceMul, Nat.reduceSub, Int.reduceToNat, he, g0, g2, g8, g9]
    refine condK_of (fun hc => ?_) fun hc => ?_
    · have hc := of_decide_eq_true hc
      have hi : a + i < s.length := by omega
      have hi2 : i < (s.drop a).length := by rw [List.length_drop]; omega
      have hge : (s.drop a).getD i 0 = s.getD (a + i) 0 := by
        rw [List.getD_eq_getElem?_getD, List.getD_eq_getElem?_getD, List.getElem?_drop]
      have htk : (s.drop a).take (i + 1) = (s.drop a).take i ++ [s.getD (a + i) 0] := by
        rw [List.take_add_one, ← hge, List.getD_eq_getElem?_getD, List.getElem?_eq_getElem hi2]; rfl
      have hall : ((s.drop a).take i).all isDig = true := by
        rw [List.all_eq_true] at hd ⊢
        intro c hc
        have e1 : (s.drop a).take i = ((s.drop a).take n).take i := by rw [List.take_take, Nat.min_eq_left (by omega)]
        rw [e1] at hc
        exact hd c (List.mem_of_mem_take hc)
      have hcd := all_dig (s := s.drop a) hd (show i < n by omega) hi2 hge
      have hdf := digFold_le i ((s.drop a).take i) (by rw [List.length_take]; omega) hall
      have hp : (10 : Int) ^ i ≤ 100000000 := by
        have : (10 : Int) ^ i ≤ 10 ^ 8 := by exact_mod_cast Nat.pow_le_pow_right (by omega) (by omega)
        omega
      generalize hcc : s.getD (a + i) 0 = c at *
      have e48 : decide ((c.toNat : Int) < 48) = false := decide_eq_false (by omega)
      have e57 : decide ((57 : Int) < (c.toNat : Int)) = false := decide_eq_false (by omega)
      have u1 : IntKind.u8.wrap ((c.toNat : Int) - 48) = (c.toNat : Int) - 48 := wU8 (by omega)
      have u2 : IntKind.i64.wrap ((c.toNat : Int) - 48) = (c.toNat : Int) - 48 := wI64 (by omega)
      have u3 : IntKind.i64.wrap (10 * digFold ((s.drop a).take i)) = 10 * digFold ((s.drop a).take i) := wI64 (by omega)
      have u4 : IntKind.i64.wrap (10 * digFold ((s.drop a).take i) + ((c.toNat : Int) - 48)) = digFold ((s.drop a).take (i + 1)) := by rw [htk, digFold_snoc, wI64 (by omega)]
      have wi : IntKind.i64.wrap (((a + i : Nat) : Int) + 1) = ((a + (i + 1) : Nat) : Int) := by rw [wI64 (by omega)]; rfl
      simp only [go_sem, Nat.reduceLT, Nat.reduceBEq, Nat.reduceAdd, Int.reduceBEq, Nat.reduceLeDiff, reduceIte, Nat.reduceEqDiff, Int.reduceEq, Int.reduceLE, Int.reduceLT, Int.reduceNe, Nat.reduceMul, Nat.reduceSub, Int.reduceToNat, he, g0, g2, g8, g9, Int.toNat_natCast, nn, hcc, e48, e57, u1, conv_int (P := Tryz.prog) (s := 5) (d := 3) Tryz.underlying5 Tryz.underlying3, u2, u3, u4, wi]
      refine ⟨by omega, by omega, by omega, k - 1, by omega, i + 1, rfl, rfl, by omega⟩
    · have hc := of_decide_eq_false hc
      have : i = n := by omega
      subst this
      simp only [go_sem, Nat.reduceLT, Nat.reduceBEq, Nat.reduceAdd, Int.reduceBEq, Nat.reduceLeDiff, reduceIte, Nat.reduceEqDiff, Int.reduceEq, Int.reduceLE, Int.reduceLT, Int.reduceNe, Nat.reduceMul, Nat.reduceSub, Int.reduceToNat, he, g0, g2, g8, g9]
/-- A number with a sign or without one. -/
def numOf (s : List UInt8) : Option Int :=
  let a := if s.head? = some 43 ∨ s.head? = some 45 then 1 else 0
  if s.length = a ∨ a + 6 < s.length then none else if (s.drop a).all isDig then some ((if s.head? = some 45 then -1 else 1) * digFold (s.drop a)) else none
theorem number_A {w0 : World} (s : List UInt8) (n : Int) (h : numOf s = some n) (H : Heap) : ACalls Tryz.prog (CB w0) 68 [vS s] H fun r H' => r = .tup [vI n, vB true] ∧ H' = H := by
  refine A_fun (N := 47) (rs := [.tmp 2, .tmp 3]) Tryz.func68 rfl rfl rfl (by kernel_rfl) (by kernel_rfl) (Nat.le_of_ble_eq_true rfl) ?_
  rintro e he ⟨g0, -⟩
  unfold numOf at h
  simp only at h
  have hpos : 0 < s.length := by
    cases s with
    | nil => simp at h
    | cons c t => simp
  have hh : s.head? = some (s.getD 0 0) := by
    cases s with
    | nil => simp at hpos
    | cons c t => rfl
  have c0 : decide ((0 : Int) < (s.length : Int)) = true := decide_eq_true (by omega)
  rw [hh] at h
  generalize hg : s.getD 0 0 = c at *
  have fin : ∀ (a : Nat) (sg : Int), a ≤ 1 → (sg = 1 ∨ sg = -1) → (if s.length = a ∨ a + 6 < s.length then none else if (s.drop a).all isDig then some (sg * digFold (s.drop a)) else none) = some n →
      a < s.length ∧ s.length ≤ a + 6 ∧ ((s.drop a).take (s.length - a)).all isDig = true ∧ n = sg * digFold ((s.drop a).take (s.length - a)) ∧ IntKind.i64.wrap (sg * digFold ((s.drop a).take (s.length - a))) = n := by
    intro a sg ha hsg h
    split at h
    · cases h
    rename_i hb
    split at h
    · rename_i hall
      have ht : (s.drop a).take (s.length - a) = s.drop a := List.take_of_length_le (by rw [List.length_drop]; omega)
      have hl : (s.drop a).length = s.length - a := by rw [List.length_drop]
      have hf := digFold_le (s.length - a) (s.drop a) hl hall
      have hp : (10 : Int) ^ (s.length - a) ≤ 1000000 := by
        have : (10 : Int) ^ (s.length - a) ≤ 10 ^ 6 := by exact_mod_cast Nat.pow_le_pow_right (by omega) (by omega)
        omega
      rw [ht]
      have hn : n = sg * digFold (s.drop a) := (Option.some.inj h).symm
      refine ⟨by omega, by omega, hall, hn, ?_⟩
      rw [hn]
      rcases hsg with rfl | rfl
      · exact wI64 (by omega)
      · exact wI64 (by omega)
    · cases h
  have hln : s.length ≤ 7 := by
    by_cases hc : some c = some 43 ∨ some c = some 45
    · rw [if_pos hc] at h
      exact (fin 1 _ (by omega) (by split <;> simp) h).2.1
    · rw [if_neg hc] at h
      have := (fin 0 _ (by omega) (by split <;> simp) h).2.1
      omega
  by_cases h43 : c = 43
  · subst h43
    have ea : (if some (43 : UInt8) = some 43 ∨ some (43 : UInt8) = some 45 then 1 else 0) = 1 := by decide
    have eb : (if some (43 : UInt8) = some 45 then (-1 : Int) else 1) = 1 := by decide
    rw [ea, eb] at h
    obtain ⟨k1, k2, k3, k4, k5⟩ := fin 1 1 (by omega) (.inl rfl) h
    have e43 : decide (((43 : UInt8).toNat : Int) = 43) = true := rfl
    have e45 : decide (((43 : UInt8).toNat : Int) = 45) = false := rfl
    have e1 : decide ((s.length : Int) = 1) = false := decide_eq_false (by omega)
    have e2 : decide ((7 : Int) < (s.length : Int)) = false := decide_eq_false (by omega)
    have w7 : IntKind.i64.wrap (1 + 6) = 7 := by decide
    have el : (s.length : Int) = ((1 + (s.length - 1) : Nat) : Int) := by omega
    have el2 : ((1 + (s.length - 1) : Nat) : Int) = (s.length : Int) := by omega
    have cl := sdigits_A (w0 := w0) s 1 (s.length - 1) (by omega) (by omega) (by omega) k3 H
    rw [el2] at cl
    generalize digFold ((s.drop 1).take (s.length - 1)) = z at *
    simp only [go_sem, Nat.reduceLT, Nat.reduceBEq, Nat.reduceAdd, Int.reduceBEq, Nat.reduceLeDiff, reduceIte, Nat.reduceEqDiff, Int.reduceEq, Int.reduceLE, Int.reduceLT, Int.reduceNe, Nat.reduceMul, Nat.reduceSub, Int.reduceToNat, he, g0, c0, hg, Int.toNat_zero, e43, e45, e1, e2, w7]
    refine ⟨by omega, by omega, callX_of cl (List.prefix_refl _) ?_⟩
    simp only [go_sem, Nat.reduceLT, Nat.reduceBEq, Nat.reduceAdd, Int.reduceBEq, Nat.reduceLeDiff, reduceIte, Nat.reduceEqDiff, Int.reduceEq, Int.reduceLE, Int.reduceLT, Int.reduceNe, Nat.reduceMul, Nat.reduceSub, Int.reduceToNat, he, g0, setD_some, k5]
  by_cases h45 : c = 45
  · subst h45
    have ea : (if some (45 : UInt8) = some 43 ∨ some (45 : UInt8) = some 45 then 1 else 0) = 1 := by decide
    have eb : (if some (45 : UInt8) = some 45 then (-1 : Int) else 1) = -1 := by decide
    rw [ea, eb] at h
    obtain ⟨k1, k2, k3, k4, k5⟩ := fin 1 (-1) (by omega) (.inr rfl) h
    have e43 : decide (((45 : UInt8).toNat : Int) = 43) = false := rfl
    have e45 : decide (((45 : UInt8).toNat : Int) = 45) = true := rfl
    have e1 : decide ((s.length : Int) = 1) = false := decide_eq_false (by omega)
    have e2 : decide ((7 : Int) < (s.length : Int)) = false := decide_eq_false (by omega)
    have w7 : IntKind.i64.wrap (1 + 6) = 7 := by decide
    have el2 : ((1 + (s.length - 1) : Nat) : Int) = (s.length : Int) := by omega
    have cl := sdigits_A (w0 := w0) s 1 (s.length - 1) (by omega) (by omega) (by omega) k3 H
    rw [el2] at cl
    generalize digFold ((s.drop 1).take (s.length - 1)) = z at *
    simp only [go_sem, Nat.reduceLT, Nat.reduceBEq, Nat.reduceAdd, Int.reduceBEq, Nat.reduceLeDiff, reduceIte, Nat.reduceEqDiff, Int.reduceEq, Int.reduceLE, Int.reduceLT, Int.reduceNe, Nat.reduceMul, Nat.reduceSub, Int.reduceToNat, he, g0, c0, hg, Int.toNat_zero, e43, e45, e1, e2, w7]
    refine ⟨by omega, by omega, by omega, callX_of cl (List.prefix_refl _) ?_⟩
    simp only [go_sem, Nat.reduceLT, Nat.reduceBEq, Nat.reduceAdd, Int.reduceBEq, Nat.reduceLeDiff, reduceIte, Nat.reduceEqDiff, Int.reduceEq, Int.reduceLE, Int.reduceLT, Int.reduceNe, Nat.reduceMul, Nat.reduceSub, Int.reduceToNat, he, g0, setD_some, k5]
  · have ea : (if some c = some 43 ∨ some c = some 45 then 1 else 0) = 0 := if_neg (by simp [h43, h45])
    have eb : (if some c = some 45 then (-1 : Int) else 1) = 1 := if_neg (by simp [h45])
    rw [ea, eb] at h
    obtain ⟨k1, k2, k3, k4, k5⟩ := fin 0 1 (by omega) (.inl rfl) h
    have n43 : c.toNat ≠ 43 := fun e => h43 (UInt8.toNat_inj.1 e)
    have n45 : c.toNat ≠ 45 := fun e => h45 (UInt8.toNat_inj.1 e)
    have e43 : decide ((c.toNat : Int) = 43) = false := decide_eq_false (by omega)
    have e45 : decide ((c.toNat : Int) = 45) = false := decide_eq_false (by omega)
    have e1 : decide ((s.length : Int) = 0) = false := decide_eq_false (by omega)
    have e2 : decide ((6 : Int) < (s.length : Int)) = false := decide_eq_false (by omega)
    have w7 : IntKind.i64.wrap (0 + 6) = 6 := by decide
    have el2 : ((0 + (s.length - 0) : Nat) : Int) = (s.length : Int) := by omega
    have cl := sdigits_A (w0 := w0) s 0 (s.length - 0) (by omega) (by omega) (by omega) k3 H
    rw [el2] at cl
    generalize digFold ((s.drop 0).take (s.length - 0)) = z at *
    simp only [go_sem, Nat.reduceLT, Nat.reduceBEq, Nat.reduceAdd, Int.reduceBEq, Nat.reduceLeDiff, reduceIte, Nat.reduceEqDiff, Int.reduceEq, Int.reduceLE, Int.reduceLT, Int.reduceNe, Nat.reduceMul, Nat.reduceSub, Int.reduceToNat, he, g0, c0, hg, Int.toNat_zero, e43, e45, e1, e2, w7]
    refine ⟨by omega, by omega, callX_of cl (List.prefix_refl _) ?_⟩
    simp only [go_sem, Nat.reduceLT, Nat.reduceBEq, Nat.reduceAdd, Int.reduceBEq, Nat.reduceLeDiff, reduceIte, Nat.reduceEqDiff, Int.reduceEq, Int.reduceLE, Int.reduceLT, Int.reduceNe, Nat.reduceMul, Nat.reduceSub, Int.reduceToNat, he, g0, setD_some, k5]
theorem joinB_last (c b : UInt8) (last : List UInt8) : ∀ init : List (List UInt8), joinB c (init ++ [last ++ [b]]) = joinB c (init ++ [last]) ++ [b]
  | [] => rfl
  | a :: r => by
    rw [joinB_snoc c _ (a :: r) (by simp), joinB_snoc c _ (a :: r) (by simp), List.append_assoc]
    rfl
theorem putCells_last (l : List (List UInt8)) (a b : List UInt8) : putCells ((l ++ [a]).map vS) l.length [vS b] = (l ++ [b]).map vS := by
  unfold putCells
  simp only [List.map_append, List.map_cons, List.map_nil]
  rw [List.take_left' (by simp), List.drop_eq_nil_of_le (by simp), List.append_nil]
theorem cut_A {w0 : World} (s : List UInt8) (c : UInt8) (hs : s.length ≤ 1000000) (H : Heap) : ACalls Tryz.prog (CB w0) 39 [vS s, .val (.int .u8 (c.toNat : Int))] H fun r H' => OutAt H H' r (split c s) := by
  refine A_fun (N := 36) (rs := [.tmp 4]) Tryz.func39 rfl rfl rfl (by kernel_rfl) (by kernel_rfl) (Nat.le_of_ble_eq_true rfl) ?_
  rintro e he ⟨g0, g1, -⟩
  simp only [go_sem, Nat.reduceLT, Nat.reduceBEq, Nat.reduceAdd, Int.reduceBEq, Nat.reduceLeDiff, reduceIte, Nat.reduceEqDiff, Int.reduceEq, Int.reduceLE, Int.reduceLT, Int.reduceNe, Nat.reduceMul, Nat.reduceSub, Int.reduceToNat, he, g0, g1]
  refine A_while s.length (fun k e h => len e = 36 ∧ AL.get e 0 = vS s ∧ AL.get e 1 = .val (.int .u8 (c.toNat : Int)) ∧ ∃ (i : Nat) (y : AV) (init : List (List UInt8)) (last : List UInt8), AL.get e 6 = vI i ∧ AL.get e 5 = y ∧ i + k = s.length ∧ OutAt H h y (init ++ [last]) ∧ joinB c (init ++ [last]) = s.take i ∧ (∀ x ∈ init ++ [last], c ∉ x) ∧ init.length ≤ i ∧ last.length ≤ i) (by kernel_rfl) ?_ ?_
  · simp only [go_sem, Nat.reduceLT, Nat.reduceBEq, Nat.reduceAdd, Int.reduceBEq, Nat.reduceLeDiff, reduceIte, Nat.reduceEqDiff, Int.reduceEq, Int.reduceLE, Int.reduceLT, Int.reduceNe, Nat.reduceMul, Nat.reduceSub, Int.reduceToNat, he, g0, g1]
    exact ⟨0, _, [], [], rfl, rfl, by omega, ⟨⟨_, rfl⟩, H.length, rfl, heap_get0, Nat.le_refl _⟩, rfl, by simp, by simp, by simp⟩
  · rintro k e h ⟨he, g0, g1, i, y, init, last, g6, g5, hik, hO, hj, hno, hil, hll⟩
    simp only [go_sem, Nat.reduceLT, Nat.reduceBEq, Nat.reduceAdd, Int.reduceBEq, Nat.reduceLeDiff, reduceIte, Nat.reduceEqDiff, Int.reduceEq, Int.reduceLE, Int.reduceLT, Int.reduceNe, Nat.reduceMul, Nat.reduceSub, Int.reduceToNat, he, g0, g1, g5, g6]
    refine condK_of (fun hc => ?_) fun hc => ?_
    · have hc := of_decide_eq_true hc
      have hi : i < s.length := by omega
      have htk : s.take (i + 1) = s.take i ++ [s.getD i 0] := by rw [List.take_add_one, List.getD_eq_getElem?_getD, List.getElem?_eq_getElem hi]; rfl
      have htk1 := take_one hi
      have wi : IntKind.i64.wrap ((i : Int) + 1) = ((i + 1 : Nat) : Int) := by rw [wI64 (by omega)]; rfl
      generalize hb : s.getD i 0 = b at *
      by_cases hbc : b = c
      · subst hbc
        have hpush := hO.push [] (by simp; omega)
        obtain ⟨x2, h2, ha, hO2, -⟩ := hpush
        have hd : decide ((b.toNat : Int) = (b.toNat : Int)) = true := decide_eq_true rfl
        simp only [go_sem, Nat.reduceLT, Nat.reduceBEq, Nat.reduceAdd, Int.reduceBEq, Nat.reduceLeDiff, reduceIte, Nat.reduceEqDiff, Int.reduceEq, Int.reduceLE, Int.reduceLT, Int.reduceNe, Nat.reduceMul, Nat.reduceSub, Int.reduceToNat, he, g0, g1, g5, g6, Int.toNat_natCast, nn, hb, hd] at ha ⊢
        refine ⟨by omega, ?_⟩
        rw [ha]
        simp only [go_sem, Nat.reduceLT, Nat.reduceBEq, Nat.reduceAdd, Int.reduceBEq, Nat.reduceLeDiff, reduceIte, Nat.reduceEqDiff, Int.reduceEq, Int.reduceLE, Int.reduceLT, Int.reduceNe, Nat.reduceMul, Nat.reduceSub, Int.reduceToNat, he, g0, g1, g5, g6, wi]
        refine ⟨k - 1, by omega, i + 1, x2, init ++ [last], [], rfl, rfl, by omega, hO2, ?_, ?_, by simp; omega, by simp⟩
        · rw [joinB_snoc b [] (init ++ [last]) (by simp), hj, htk]
        · intro x hx
          rcases List.mem_append.1 hx with hx | hx
          · exact hno x hx
          · rw [List.mem_singleton] at hx
            rw [hx]
            simp
      · have hd : decide ((b.toNat : Int) = (c.toNat : Int)) = false := decide_eq_false fun e => hbc (UInt8.toNat_inj.1 (by omega))
        obtain ⟨⟨G, rfl⟩, o, rfl, ho, hol⟩ := hO
        simp only [go_sem, Nat.reduceLT, Nat.reduceBEq, Nat.reduceAdd, Int.reduceBEq, Nat.reduceLeDiff, reduceIte, Nat.reduceEqDiff, Int.reduceEq, Int.reduceLE, Int.reduceLT, Int.reduceNe, Nat.reduceMul, Nat.reduceSub, Int.reduceToNat, he, g0, g1, g5, g6, Int.toNat_natCast, nn, hb, hd]
        refine ⟨by omega, ?_⟩
        refine acode_draw mixed (by kernel_rfl) ?_
        have wl : IntKind.i64.wrap (((init ++ [last]).length : Int) - 1) = (init.length : Int) := by
          rw [List.length_append, List.length_singleton, wI64 (by omega)]; omega
        have hci : ((init ++ [last]).map vS)[init.length]? = some (vS last) := by
          rw [List.map_append, List.getElem?_append_right (by simp)]
          simp
        have hcm : cellsK (H ++ G)[o]? = some ((init ++ [last]).map vS) := by rw [ho]; rfl
        generalize hL : (init ++ [last]).map vS = cs at *
        simp only [go_sem, Nat.reduceLT, Nat.reduceBEq, Nat.reduceAdd, Int.reduceBEq, Nat.reduceLeDiff, reduceIte, Nat.reduceEqDiff, Int.reduceEq, Int.reduceLE, Int.reduceLT, Int.reduceNe, Nat.reduceMul, Nat.reduceSub, Int.reduceToNat, he, g0, g1, g5, g6, Int.toNat_natCast, nn, wl, hcm, hci, wi, htk1]
        have hil2 : ((init ++ [last]).length : Int) = init.length + 1 := by rw [List.length_append, List.length_singleton]; omega
        have hcl : cs.length = init.length + 1 := by rw [← hL]; simp
        have hpc : cs.take init.length ++ vS (last ++ [b]) :: cs.drop (init.length + 1) = (init ++ [last ++ [b]]).map vS := by
          rw [← putCells_last init last (last ++ [b]), ← hL]
          unfold putCells
          rw [List.append_assoc]
          rfl
        have hll2 : (init ++ [last ++ [b]]).length = (init ++ [last]).length := by simp
        refine ⟨by omega, ⟨by omega, by omega⟩, by omega, by omega, ?_⟩
        simp only [go_sem, Nat.reduceLT, Nat.reduceBEq, Nat.reduceAdd, Int.reduceBEq, Nat.reduceLeDiff, reduceIte, Nat.reduceEqDiff, Int.reduceEq, Int.reduceLE, Int.reduceLT, Int.reduceNe, Nat.reduceMul, Nat.reduceSub, Int.reduceToNat, he, g0, g1, g5, g6, ho, hcl, wi]
        refine ⟨by omega, ?_⟩
        rw [hpc]
        refine ⟨k - 1, by omega, i + 1, _, init, last ++ [b], rfl, rfl, by omega, ⟨⟨_, set_behind hol⟩, o, by rw [hll2], ?_, hol⟩, ?_, ?_, by omega, by simp; omega⟩
        · rw [List.getElem?_set_self (List.getElem?_eq_some_iff.1 ho).1]
        · rw [joinB_last, hj, htk]
        · intro x hx
          rcases List.mem_append.1 hx with hx | hx
          · exact hno x (List.mem_append_left _ hx)
          · rw [List.mem_singleton] at hx
            rw [hx]
            intro hm
            rcases List.mem_append.1 hm with hm | hm
            · exact hno last (by simp) hm
            · rw [List.mem_singleton] at hm
              exact hbc hm.symm
    · have hc := of_decide_eq_false hc
      have : i = s.length := by omega
      subst this
      simp only [go_sem, Nat.reduceLT, Nat.reduceBEq, Nat.reduceAdd, Int.reduceBEq, Nat.reduceLeDiff, reduceIte, Nat.reduceEqDiff, Int.reduceEq, Int.reduceLE, Int.reduceLT, Int.reduceNe, Nat.reduceMul, Nat.reduceSub, Int.reduceToNat, he, g0, g1, g5, g6]
      rw [List.take_length] at hj
      rw [← hj, split_join (by simp) hno]
      exact hO

theorem GrN.ne {t st t' : Nat} {H h : Heap} {x : AV} {n : Nat} {cs cs' : List AV} (hO : GrN t st H h x n cs) {p : Nat} (hp : h[p]? = some (.own t' cs')) (ht : t' ≠ t) : ∀ q, x = .sl true q 0 n st → p ≠ q := by
  rintro q rfl rfl
  rcases hO.2.2 with ⟨hy, _⟩ | ⟨o2, hy, hy2, _⟩
  · cases hy
  · simp only [AV.sl.injEq] at hy
    rw [hy.2.1] at hp
    rw [hp] at hy2
    simp only [Option.some.injEq, AObj.own.injEq] at hy2
    exact ht hy2.1
theorem map_get {α β : Type} {f : α → Option β} {l : List α} {vs : List β} (h : l.map f = vs.map some) {i : Nat} {a : α} (ha : l[i]? = some a) : ∃ v, vs[i]? = some v ∧ f a = some v := by
  have h1 := congrArg (·[i]?) h
  simp only [List.getElem?_map, ha, Option.map_some] at h1
  cases hv : vs[i]? with
  | none => rw [hv] at h1; cases h1
  | some v => rw [hv] at h1; exact ⟨v, rfl, Option.some.inj h1⟩
theorem map_len {α β : Type} {f : α → Option β} {l : List α} {vs : List β} (h : l.map f = vs.map some) : l.length = vs.length := by
  have := congrArg List.length h
  simpa using this
theorem take_snoc {α : Type} {l : List α} {i : Nat} {v : α} (h : l[i]? = some v) : l.take (i + 1) = l.take i ++ [v] := by rw [List.take_add_one, h]; rfl
theorem numbers_A {w0 : World} (s : List UInt8) (hs : s.length ≤ 100000) (vs : List Int) (hv : (split 44 s).map numOf = vs.map some) (H : Heap) : ACalls Tryz.prog (CB w0) 70 [vS s] H fun r H' => ∃ x, r = .tup [x, vB true] ∧ GrN 3 1 H H' x vs.length (vs.map vI) := by
  refine A_fun (N := 29) (rs := [.tmp 2, .tmp 3]) Tryz.func70 rfl rfl rfl (by kernel_rfl) (by kernel_rfl) (Nat.le_of_ble_eq_true rfl) ?_
  rintro e he ⟨g0, -⟩
  simp only [go_sem, Nat.reduceLT, Nat.reduceBEq, Nat.reduceAdd, Int.reduceBEq, Nat.reduceLeDiff, reduceIte, Nat.reduceEqDiff, Int.reduceEq, Int.reduceLE, Int.reduceLT, Int.reduceNe, Nat.reduceMul, Nat.reduceSub, Int.reduceToNat, he, g0]
  have hcut := cut_A (w0 := w0) s 44 (by omega) H
  refine callX_any hcut ?_
  rintro r h ⟨⟨G, rfl⟩, o, rfl, ho, hol⟩
  have hsl := split_length 44 s
  have hlen := map_len hv
  generalize split 44 s = ss at *
  simp only [go_sem, Nat.reduceLT, Nat.reduceBEq, Nat.reduceAdd, Int.reduceBEq, Nat.reduceLeDiff, reduceIte, Nat.reduceEqDiff, Int.reduceEq, Int.reduceLE, Int.reduceLT, Int.reduceNe, Nat.reduceMul, Nat.reduceSub, Int.reduceToNat, he, g0, setD_some, ho]
  refine A_while ss.length (fun k e h => ∃ (i : Nat) (y : AV), i + k = ss.length ∧ len e = 29 ∧ AL.get e 10 = .sl true o 0 ss.length 1 ∧ AL.get e 11 = vI ss.length ∧ AL.get e 12 = vI i ∧ AL.get e 4 = y ∧ h[o]? = some (.own 9 (ss.map vS)) ∧ GrN 3 1 H h y i ((vs.take i).map vI)) (by kernel_rfl) ?_ ?_
  · simp only [go_sem, Nat.reduceLT, Nat.reduceBEq, Nat.reduceAdd, Int.reduceBEq, Nat.reduceLeDiff, reduceIte, Nat.reduceEqDiff, Int.reduceEq, Int.reduceLE, Int.reduceLT, Int.reduceNe, Nat.reduceMul, Nat.reduceSub, Int.reduceToNat, he, g0]
    exact ⟨0, _, by omega, rfl, rfl, ho, GrN.nil ⟨_, rfl⟩⟩
  · rintro k e h ⟨i, y, hik, he, g10, g11, g12, g4, ho, hO⟩
    simp only [go_sem, Nat.reduceLT, Nat.reduceBEq, Nat.reduceAdd, Int.reduceBEq, Nat.reduceLeDiff, reduceIte, Nat.reduceEqDiff, Int.reduceEq, Int.reduceLE, Int.reduceLT, Int.reduceNe, Nat.reduceMul, Nat.reduceSub, Int.reduceToNat, he, g10, g11, g12, g4]
    refine condK_of (fun hc => ?_) fun hc => ?_
    · have hc := of_decide_eq_true hc
      have ha : ss[i]? = some ss[i] := List.getElem?_eq_getElem (by omega)
      generalize ss[i] = a at ha
      obtain ⟨v, hv1, hv2⟩ := map_get hv ha
      have hai : (ss.map vS)[i]? = some (vS a) := by rw [List.getElem?_map, ha]; rfl
      have hcm : cellsK h[o]? = some (ss.map vS) := by rw [ho]; rfl
      have wi : IntKind.i64.wrap ((i : Int) + 1) = ((i + 1 : Nat) : Int) := by rw [wI64 (by omega)]; rfl
      have hpush := (hO.push (s := 22) el22 (by omega) (c := [vI v]) rfl rfl (by omega))
      obtain ⟨x2, h2, hap, hO2, hkp⟩ := hpush
      have k1 := hkp _ _ ho (hO.ne ho (by omega))
      simp only [go_sem, Nat.reduceLT, Nat.reduceBEq, Nat.reduceAdd, Int.reduceBEq, Nat.reduceLeDiff, reduceIte, Nat.reduceEqDiff, Int.reduceEq, Int.reduceLE, Int.reduceLT, Int.reduceNe, Nat.reduceMul, Nat.reduceSub, Int.reduceToNat, he, g10, g11, g12, g4, hcm, hai, Int.toNat_natCast] at hap ⊢
      refine ⟨by omega, callX_of (number_A a v hv2 _) (List.prefix_refl _) ?_⟩
      simp only [go_sem, Nat.reduceLT, Nat.reduceBEq, Nat.reduceAdd, Int.reduceBEq, Nat.reduceLeDiff, reduceIte, Nat.reduceEqDiff, Int.reduceEq, Int.reduceLE, Int.reduceLT, Int.reduceNe, Nat.reduceMul, Nat.reduceSub, Int.reduceToNat, he, g10, g11, g12, g4, setD_some] at hap ⊢
      rw [hap]
      simp only [go_sem, Nat.reduceLT, Nat.reduceBEq, Nat.reduceAdd, Int.reduceBEq, Nat.reduceLeDiff, reduceIte, Nat.reduceEqDiff, Int.reduceEq, Int.reduceLE, Int.reduceLT, Int.reduceNe, Nat.reduceMul, Nat.reduceSub, Int.reduceToNat, he, g10, g11, g12, g4, setD_some, wi]
      exact ⟨k - 1, by omega, i + 1, x2, by omega, rfl, rfl, k1, by rw [take_snoc hv1, List.map_append]; exact hO2⟩
    · have hc := of_decide_eq_false hc
      have : i = ss.length := by omega
      subst this
      simp only [go_sem, Nat.reduceLT, Nat.reduceBEq, Nat.reduceAdd, Int.reduceBEq, Nat.reduceLeDiff, reduceIte, Nat.reduceEqDiff, Int.reduceEq, Int.reduceLE, Int.reduceLT, Int.reduceNe, Nat.reduceMul, Nat.reduceSub, Int.reduceToNat, he, g10, g11, g12, g4]
      have y1 : y.one = true := by rcases hO.2.2 with ⟨rfl, _⟩ | ⟨q, rfl, _⟩ <;> rfl
      refine ⟨y, rfl, ?_⟩
      rw [hlen, List.take_length] at hO
      exact hO
/-- Where a text is first met. -/
def ixS (l : List (List UInt8)) (a : List UInt8) : Int := match l.findIdx? (fun b => decide (a = b)) with
  | some i => i
  | none => -1
theorem indexS_A {w0 : World} (l : List (List UInt8)) (hl : l.length ≤ 1000000000) (a : List UInt8) (o : Nat) (H : Heap) (ho : H[o]? = some (.own 9 (l.map vS))) : ACalls Tryz.prog (CB w0) 66 [.sl true o 0 l.length 1, vS a] H fun r H' => r = vI (ixS l a) ∧ H' = H := by
  refine A_fun (N := 19) (rs := [.tmp 4]) Tryz.func66 rfl rfl rfl (by kernel_rfl) (by kernel_rfl) (Nat.le_of_ble_eq_true rfl) ?_
  rintro e he ⟨g0, g1, -⟩
  have hcm : cellsK H[o]? = some (l.map vS) := by rw [ho]; rfl
  simp only [go_sem, Nat.reduceLT, Nat.reduceBEq, Nat.reduceAdd, Int.reduceBEq, Nat.reduceLeDiff, reduceIte, Nat.reduceEqDiff, Int.reduceEq, Int.reduceLE, Int.reduceLT, Int.reduceNe, Nat.reduceMul, Nat.reduceSub, Int.reduceToNat, he, g0, g1]
  refine A_while l.length (fun k e h => h = H ∧ len e = 19 ∧ AL.get e 0 = .sl true o 0 l.length 1 ∧ AL.get e 1 = vS a ∧ AL.get e 7 = vI l.length ∧ ∃ i : Nat, AL.get e 8 = vI i ∧ i + k = l.length ∧ ∀ (j : Nat) b, j < i → l[j]? = some b → decide (a = b) = false) (by kernel_rfl) ?_ ?_
  · simp only [go_sem, Nat.reduceLT, Nat.reduceBEq, Nat.reduceAdd, Int.reduceBEq, Nat.reduceLeDiff, reduceIte, Nat.reduceEqDiff, Int.reduceEq, Int.reduceLE, Int.reduceLT, Int.reduceNe, Nat.reduceMul, Nat.reduceSub, Int.reduceToNat, he, g0, g1]
    exact ⟨0, rfl, by omega, fun j b hj => by omega⟩
  · rintro k e h ⟨rfl, he, g0, g1, g7, i, g8, hik, hno⟩
    have wi : IntKind.i64.wrap ((i : Int) + 1) = ((i + 1 : Nat) : Int) := by rw [wI64 (by omega)]; rfl
    simp only [go_sem, Nat.reduceLT, Nat.reduceBEq, Nat.reduceAdd, Int.reduceBEq, Nat.reduceLeDiff, reduceIte, Nat.reduceEqDiff, Int.reduceEq, Int.reduceLE, Int.reduceLT, Int.reduceNe, Nat.reduceMul, Nat.reduceSub, Int.reduceToNat, he, g0, g1, g7, g8]
    refine condK_of (fun hc => ?_) fun hc => ?_
    · have hc := of_decide_eq_true hc
      have hi : i < l.length := by omega
      have hli : l[i]? = some l[i] := List.getElem?_eq_getElem hi
      generalize l[i] = b at hli
      have hci : (l.map vS)[i]? = some (vS b) := by rw [List.getElem?_map, hli]; rfl
      simp only [go_sem, Nat.reduceLT, Nat.reduceBEq, Nat.reduceAdd, Int.reduceBEq, Nat.reduceLeDiff, reduceIte, Nat.reduceEqDiff, Int.reduceEq, Int.reduceLE, Int.reduceLT, Int.reduceNe, Nat.reduceMul, Nat.reduceSub, Int.reduceToNat, he, g0, g1, g7, g8, hcm, hci, Int.toNat_natCast]
      refine ⟨by omega, condK_of (fun hq => ?_) fun hq => ?_⟩
      · simp only [go_sem, Nat.reduceLT, Nat.reduceBEq, Nat.reduceAdd, Int.reduceBEq, Nat.reduceLeDiff, reduceIte, Nat.reduceEqDiff, Int.reduceEq, Int.reduceLE, Int.reduceLT, Int.reduceNe, Nat.reduceMul, Nat.reduceSub, Int.reduceToNat, he, g0, g1, g7, g8]
        unfold ixS
        rw [findIdx_hit hli hq hno]
      · simp only [go_sem, Nat.reduceLT, Nat.reduceBEq, Nat.reduceAdd, Int.reduceBEq, Nat.reduceLeDiff, reduceIte, Nat.reduceEqDiff, Int.reduceEq, Int.reduceLE, Int.reduceLT, Int.reduceNe, Nat.reduceMul, Nat.reduceSub, Int.reduceToNat, he, g0, g1, g7, g8, wi]
        refine ⟨k - 1, by omega, i + 1, rfl, by omega, fun j c hj hjc => ?_⟩
        rcases Nat.lt_or_ge j i with h1 | h1
        · exact hno j c h1 hjc
        · have : j = i := by omega
          subst this
          rw [hli] at hjc
          cases hjc
          exact hq
    · have hc := of_decide_eq_false hc
      simp only [go_sem, Nat.reduceLT, Nat.reduceBEq, Nat.reduceAdd, Int.reduceBEq, Nat.reduceLeDiff, reduceIte, Nat.reduceEqDiff, Int.reduceEq, Int.reduceLE, Int.reduceLT, Int.reduceNe, Nat.reduceMul, Nat.reduceSub, Int.reduceToNat, he, g0, g1, g7, g8]
      unfold ixS
      rw [findIdx_miss fun j b hj => hno j b (by have := (List.getElem?_eq_some_iff.1 hj).1; omega) hj]
theorem ixS_lt (l : List (List UInt8)) (a : List UInt8) : -1 ≤ ixS l a ∧ ixS l a < l.length := by
  unfold ixS
  cases h : l.findIdx? (fun b => decide (a = b)) with
  | none => simp; omega
  | some i =>
    obtain ⟨hi, _⟩ := List.findIdx?_eq_some_iff_getElem.1 h
    simp only
    omega
def swd (p : List UInt8) : Option (Int × Int) :=
  if p.length < 2 then none else if ixS wdays (p.drop (p.length - 2)) < 0 then none else
  if 2 < p.length then (match numOf (p.take (p.length - 2)) with
    | some n => if n = 0 then none else some (ixS wdays (p.drop (p.length - 2)), n)
    | none => none) else some (ixS wdays (p.drop (p.length - 2)), 0)
theorem dcells_take {l : List (Int × Int)} {i : Nat} {d : Int × Int} (h : l[i]? = some d) : dcells (l.take (i + 1)) = dcells (l.take i) ++ [vI d.1, vI d.2] := by rw [take_snoc h, dcells_snoc]
theorem sweekdays_A {w0 : World} (s : List UInt8) (hs : s.length ≤ 100000) (vs : List (Int × Int)) (hv : (split 44 s).map swd = vs.map some) (H : Heap) : ACalls Tryz.prog (CB w0) 69 [vS s] H fun r H' => ∃ x, r = .tup [x, vB true] ∧ GrN 47 2 H H' x vs.length (dcells vs) := by
  refine A_fun (N := 58) (rs := [.tmp 2, .tmp 3]) Tryz.func69 rfl rfl rfl (by kernel_rfl) (by kernel_rfl) (Nat.le_of_ble_eq_true rfl) ?_
  rintro e he ⟨g0, -⟩
  simp only [go_sem, Nat.reduceLT, Nat.reduceBEq, Nat.reduceAdd, Int.reduceBEq, Nat.reduceLeDiff, reduceIte, Nat.reduceEqDiff, Int.reduceEq, Int.reduceLE, Int.reduceLT, Int.reduceNe, Nat.reduceMul, Nat.reduceSub, Int.reduceToNat, he, g0]
  have hcut := cut_A (w0 := w0) s 44 (by omega) H
  refine callX_any hcut ?_
  rintro r h ⟨⟨G, rfl⟩, o, rfl, ho, hol⟩
  have hsl := split_length 44 s
  have hsm : ∀ x ∈ split 44 s, x.length ≤ s.length := fun x => split_mem
  have hlen := map_len hv
  generalize split 44 s = ss at *
  simp only [go_sem, Nat.reduceLT, Nat.reduceBEq, Nat.reduceAdd, Int.reduceBEq, Nat.reduceLeDiff, reduceIte, Nat.reduceEqDiff, Int.reduceEq, Int.reduceLE, Int.reduceLT, Int.reduceNe, Nat.reduceMul, Nat.reduceSub, Int.reduceToNat, he, g0, setD_some, ho]
  refine A_while ss.length (fun k e h => ∃ (i : Nat) (y : AV), i + k = ss.length ∧ len e = 58 ∧ AL.get e 12 = .sl true o 0 ss.length 1 ∧ AL.get e 13 = vI ss.length ∧ AL.get e 14 = vI i ∧ AL.get e 4 = y ∧ h[o]? = some (.own 9 (ss.map vS)) ∧ GrN 47 2 H h y i (dcells (vs.take i))) (by kernel_rfl) ?_ ?_
  · simp only [go_sem, Nat.reduceLT, Nat.reduceBEq, Nat.reduceAdd, Int.reduceBEq, Nat.reduceLeDiff, reduceIte, Nat.reduceEqDiff, Int.reduceEq, Int.reduceLE, Int.reduceLT, Int.reduceNe, Nat.reduceMul, Nat.reduceSub, Int.reduceToNat, he, g0]
    exact ⟨0, _, by omega, rfl, rfl, ho, GrN.nil ⟨_, rfl⟩⟩
  · rintro k e h ⟨i, y, hik, he, g12, g13, g14, g4, ho, hO⟩
    simp only [go_sem, Nat.reduceLT, Nat.reduceBEq, Nat.reduceAdd, Int.reduceBEq, Nat.reduceLeDiff, reduceIte, Nat.reduceEqDiff, Int.reduceEq, Int.reduceLE, Int.reduceLT, Int.reduceNe, Nat.reduceMul, Nat.reduceSub, Int.reduceToNat, he, g12, g13, g14, g4]
    refine condK_of (fun hc => ?_) fun hc => ?_
    · have hc := of_decide_eq_true hc
      have ha : ss[i]? = some ss[i] := List.getElem?_eq_getElem (by omega)
      generalize ss[i] = a at ha
      obtain ⟨v, hv1, hv2⟩ := map_get hv ha
      have hal := hsm a (List.mem_of_getElem? ha)
      have hai : (ss.map vS)[i]? = some (vS a) := by rw [List.getElem?_map, ha]; rfl
      have hcm : cellsK h[o]? = some (ss.map vS) := by rw [ho]; rfl
      have wi : IntKind.i64.wrap ((i : Int) + 1) = ((i + 1 : Nat) : Int) := by rw [wI64 (by omega)]; rfl
      unfold swd at hv2
      split at hv2
      · cases hv2
      rename_i ha2
      split at hv2
      · cases hv2
      rename_i hk0
      have c2 : decide ((a.length : Int) < 2) = false := decide_eq_false (by omega)
      have w2 : IntKind.i64.wrap ((a.length : Int) - 2) = ((a.length - 2 : Nat) : Int) := by rw [wI64 (by omega)]; omega
      have ht : (a.take a.length).drop (a.length - 2) = a.drop (a.length - 2) := by rw [List.take_length]
      simp only [go_sem, Nat.reduceLT, Nat.reduceBEq, Nat.reduceAdd, Int.reduceBEq, Nat.reduceLeDiff, reduceIte, Nat.reduceEqDiff, Int.reduceEq, Int.reduceLE, Int.reduceLT, Int.reduceNe, Nat.reduceMul, Nat.reduceSub, Int.reduceToNat, he, g12, g13, g14, g4, hcm, hai, Int.toNat_natCast, c2]
      refine ⟨by omega, ?_⟩
      refine acode_draw mixed (by kernel_rfl) ?_
      simp only [go_sem, Nat.reduceLT, Nat.reduceBEq, Nat.reduceAdd, Int.reduceBEq, Nat.reduceLeDiff, reduceIte, Nat.reduceEqDiff, Int.reduceEq, Int.reduceLE, Int.reduceLT, Int.reduceNe, Nat.reduceMul, Nat.reduceSub, Int.reduceToNat, he, g12, g13, g14, g4, w2, ht, nn, Int.toNat_natCast]
      refine callX_of (weekdays_A _) (List.prefix_append _ _) ?_
      simp only [go_sem, Nat.reduceLT, Nat.reduceBEq, Nat.reduceAdd, Int.reduceBEq, Nat.reduceLeDiff, reduceIte, Nat.reduceEqDiff, Int.reduceEq, Int.reduceLE, Int.reduceLT, Int.reduceNe, Nat.reduceMul, Nat.reduceSub, Int.reduceToNat, he, g12, g13, g14, g4, w2, ht, nn, Int.toNat_natCast, setD_some]
      have ix := indexS_A (w0 := w0) wdays (by decide) (a.drop (a.length - 2)) h.length (h ++ [AObj.own 9 (wdays.map vS)]) heap_get0
      rw [show wdays.length = 7 from rfl] at ix
      refine ⟨⟨by omega, by omega⟩, callX_of ix (List.prefix_refl _) ?_⟩
      have hkx := ixS_lt wdays (a.drop (a.length - 2))
      generalize ixS wdays (a.drop (a.length - 2)) = kx at *
      have c3 : decide (kx < 0) = false := decide_eq_false hk0
      simp only [go_sem, Nat.reduceLT, Nat.reduceBEq, Nat.reduceAdd, Int.reduceBEq, Nat.reduceLeDiff, reduceIte, Nat.reduceEqDiff, Int.reduceEq, Int.reduceLE, Int.reduceLT, Int.reduceNe, Nat.reduceMul, Nat.reduceSub, Int.reduceToNat, he, g12, g13, g14, g4, w2, nn, Int.toNat_natCast, setD_some, c3]
      by_cases hl2 : 2 < a.length
      · rw [if_pos hl2] at hv2
        have c4 : decide ((2 : Int) < (a.length : Int)) = true := decide_eq_true (by omega)
        cases hn : numOf (a.take (a.length - 2)) with
        | none => rw [hn] at hv2; cases hv2
        | some n =>
        rw [hn] at hv2
        simp only at hv2
        split at hv2
        · cases hv2
        rename_i hn0
        obtain rfl := Option.some.inj hv2
        have c5 : decide (n = 0) = false := decide_eq_false hn0
        have hpush := (hO.more ([AObj.own 9 (wdays.map vS)] ++ [AObj.own 47 [vI kx, vI n]])).push (s := 23) el23 (by omega) (c := [vI kx, vI n]) rfl rfl (by omega)
        obtain ⟨x2, h2, hap, hO2, hkp⟩ := hpush
        have k1 := hkp _ _ (get_more ho) (hO.ne ho (by omega))
        simp only [go_sem, Nat.reduceLT, Nat.reduceBEq, Nat.reduceAdd, Int.reduceBEq, Nat.reduceLeDiff, reduceIte, Nat.reduceEqDiff, Int.reduceEq, Int.reduceLE, Int.reduceLT, Int.reduceNe, Nat.reduceMul, Nat.reduceSub, Int.reduceToNat, he, g12, g13, g14, g4, w2, nn, Int.toNat_natCast, setD_some, c4] at hap ⊢
        refine ⟨by omega, callX_of (number_A _ n hn _) (List.prefix_refl _) ?_⟩
        simp only [go_sem, Nat.reduceLT, Nat.reduceBEq, Nat.reduceAdd, Int.reduceBEq, Nat.reduceLeDiff, reduceIte, Nat.reduceEqDiff, Int.reduceEq, Int.reduceLE, Int.reduceLT, Int.reduceNe, Nat.reduceMul, Nat.reduceSub, Int.reduceToNat, he, g12, g13, g14, g4, w2, nn, Int.toNat_natCast, setD_some, c5] at hap ⊢
        rw [hap]
        simp only [go_sem, Nat.reduceLT, Nat.reduceBEq, Nat.reduceAdd, Int.reduceBEq, Nat.reduceLeDiff, reduceIte, Nat.reduceEqDiff, Int.reduceEq, Int.reduceLE, Int.reduceLT, Int.reduceNe, Nat.reduceMul, Nat.reduceSub, Int.reduceToNat, he, g12, g13, g14, g4, setD_some, wi]
        exact ⟨k - 1, by omega, i + 1, x2, by omega, rfl, rfl, k1, by rw [dcells_take hv1]; exact hO2⟩
      · rw [if_neg hl2] at hv2
        have c4 : decide ((2 : Int) < (a.length : Int)) = false := decide_eq_false (by omega)
        obtain rfl := Option.some.inj hv2
        have hpush := (hO.more ([AObj.own 9 (wdays.map vS)] ++ [AObj.own 47 [vI kx, vI 0]])).push (s := 23) el23 (by omega) (c := [vI kx, vI 0]) rfl rfl (by omega)
        obtain ⟨x2, h2, hap, hO2, hkp⟩ := hpush
        have k1 := hkp _ _ (get_more ho) (hO.ne ho (by omega))
        simp only [go_sem, Nat.reduceLT, Nat.reduceBEq, Nat.reduceAdd, Int.reduceBEq, Nat.reduceLeDiff, reduceIte, Nat.reduceEqDiff, Int.reduceEq, Int.reduceLE, Int.reduceLT, Int.reduceNe, Nat.reduceMul, Nat.reduceSub, Int.reduceToNat, he, g12, g13, g14, g4, w2, nn, Int.toNat_natCast, setD_some, c4] at hap ⊢
        rw [hap]
        simp only [go_sem, Nat.reduceLT, Nat.reduceBEq, Nat.reduceAdd, Int.reduceBEq, Nat.reduceLeDiff, reduceIte, Nat.reduceEqDiff, Int.reduceEq, Int.reduceLE, Int.reduceLT, Int.reduceNe, Nat.reduceMul, Nat.reduceSub, Int.reduceToNat, he, g12, g13, g14, g4, setD_some, wi]
        exact ⟨k - 1, by omega, i + 1, x2, by omega, rfl, rfl, k1, by rw [dcells_take hv1]; exact hO2⟩
    · have hc := of_decide_eq_false hc
      have : i = ss.length := by omega
      subst this
      simp only [go_sem, Nat.reduceLT, Nat.reduceBEq, Nat.reduceAdd, Int.reduceBEq, Nat.reduceLeDiff, reduceIte, Nat.reduceEqDiff, Int.reduceEq, Int.reduceLE, Int.reduceLT, Int.reduceNe, Nat.reduceMul, Nat.reduceSub, Int.reduceToNat, he, g12, g13, g14, g4]
      have y1 : y.one = true := by rcases hO.2.2 with ⟨rfl, _⟩ | ⟨q, rfl, _⟩ <;> rfl
      refine ⟨y, rfl, ?_⟩
      rw [hlen, List.take_length] at hO
      exact hO
theorem seconds_S {w0 : World} (d h mi s : Int) (hd : 0 ≤ d ∧ d ≤ 100000000) (hh : 0 ≤ h ∧ h ≤ 100) (hm : 0 ≤ mi ∧ mi ≤ 100) (hs : 0 ≤ s ∧ s ≤ 100) (H : Heap) : ACalls Tryz.prog (CB w0) 95 [.agg [vI d, vI h, vI mi, vI s]] H fun r H' => r = vI (d * 86400 + h * 3600 + mi * 60 + s) ∧ H' = H := by
  refine ACalls.flat rfl ?_
  refine A_fun (N := 17) (rs := [.tmp 2]) Tryz.func95 rfl rfl rfl (by kernel_rfl) (by kernel_rfl) (Nat.le_of_ble_eq_true rfl) ?_
  rintro e he ⟨g0, -⟩
  have u1 : IntKind.i64.wrap (d * 86400) = d * 86400 := wI64 (by omega)
  have u2 : IntKind.i64.wrap (h * 3600) = h * 3600 := wI64 (by omega)
  have u3 : IntKind.i64.wrap (mi * 60) = mi * 60 := wI64 (by omega)
  have u4 : IntKind.i64.wrap (d * 86400 + h * 3600) = d * 86400 + h * 3600 := wI64 (by omega)
  have u5 : IntKind.i64.wrap (d * 86400 + h * 3600 + mi * 60) = d * 86400 + h * 3600 + mi * 60 := wI64 (by omega)
  have u6 : IntKind.i64.wrap (d * 86400 + h * 3600 + mi * 60 + s) = d * 86400 + h * 3600 + mi * 60 + s := wI64 (by omega)
  simp only [go_sem, Nat.reduceLT, Nat.reduceBEq, Nat.reduceAdd, Int.reduceBEq, Nat.reduceLeDiff, reduceIte, Nat.reduceEqDiff, Int.reduceEq, Int.reduceLE, Int.reduceLT, Int.reduceNe, Nat.reduceMul, Nat.reduceSub, Int.reduceToNat, he, g0, u1, u2, u3, u4, u5, u6]
  exact ⟨_, rfl⟩
theorem number_S {w0 : World} (y d : Int) (m : Nat) (hy : 1 ≤ y ∧ y ≤ 9999) (hm : 1 ≤ m ∧ m ≤ 12) (hd : 0 ≤ d ∧ d ≤ 100) (H : Heap) : ACalls Tryz.prog (CB w0) 96 [.agg [vI y, vI m, vI d]] H fun r H' => r = vI (before y + msum y (m - 1) + d - 1) ∧ H' = H := by
  refine ACalls.flat rfl ?_
  refine A_fun (N := 25) (rs := [.tmp 2]) Tryz.func96 rfl rfl rfl (by kernel_rfl) (by kernel_rfl) (Nat.le_of_ble_eq_true rfl) ?_
  rintro e he ⟨g0, -⟩
  simp only [go_sem, Nat.reduceLT, Nat.reduceBEq, Nat.reduceAdd, Int.reduceBEq, Nat.reduceLeDiff, reduceIte, Nat.reduceEqDiff, Int.reduceEq, Int.reduceLE, Int.reduceLT, Int.reduceNe, Nat.reduceMul, Nat.reduceSub, Int.reduceToNat, he, g0]
  have hmp := fun k : Nat => msum_bound y k
  have hb : 0 ≤ before y ∧ before y ≤ 4000000 := by unfold before; omega
  refine callX_of (before_A y (by omega) (by omega) _) (List.prefix_refl _) ?_
  simp only [go_sem, Nat.reduceLT, Nat.reduceBEq, Nat.reduceAdd, Int.reduceBEq, Nat.reduceLeDiff, reduceIte, Nat.reduceEqDiff, Int.reduceEq, Int.reduceLE, Int.reduceLT, Int.reduceNe, Nat.reduceMul, Nat.reduceSub, Int.reduceToNat, he, g0, setD_some]
  refine A_while m (fun k e h => h = H ++ [.own 91 [vI y, vI m, vI d]] ∧ len e = 25 ∧ AL.get e 1 = .ptr H.length 0 ∧ ∃ i : Nat, AL.get e 4 = vI ((i + 1 : Nat) : Int) ∧ AL.get e 3 = vI (before y + msum y i) ∧ i + k = m ∧ i + 1 ≤ m) (by kernel_rfl) ?_ ?_
  · simp only [go_sem, Nat.reduceLT, Nat.reduceBEq, Nat.reduceAdd, Int.reduceBEq, Nat.reduceLeDiff, reduceIte, Nat.reduceEqDiff, Int.reduceEq, Int.reduceLE, Int.reduceLT, Int.reduceNe, Nat.reduceMul, Nat.reduceSub, Int.reduceToNat, he, g0]
    exact ⟨0, rfl, by simp [msum], by omega, by omega⟩
  · rintro k e h ⟨rfl, he, g1, i, g4, g3, hik, him⟩
    simp only [go_sem, Nat.reduceLT, Nat.reduceBEq, Nat.reduceAdd, Int.reduceBEq, Nat.reduceLeDiff, reduceIte, Nat.reduceEqDiff, Int.reduceEq, Int.reduceLE, Int.reduceLT, Int.reduceNe, Nat.reduceMul, Nat.reduceSub, Int.reduceToNat, he, g1, g4, g3]
    refine condK_of (fun hc => ?_) fun hc => ?_
    · have hc := of_decide_eq_true hc
      have hmi := hmp i
      have hmd := monthDays_pos y ((i + 1 : Nat) : Int)
      have w1 : IntKind.i64.wrap (before y + msum y i + monthDays y ((i + 1 : Nat) : Int)) = before y + msum y (i + 1) := by
        rw [show msum y (i + 1) = msum y i + monthDays y ((i + 1 : Nat) : Int) from rfl, wI64 (by omega)]; omega
      have w2 : IntKind.i64.wrap (((i + 1 : Nat) : Int) + 1) = ((i + 1 + 1 : Nat) : Int) := by rw [wI64 (by omega)]; rfl
      simp only [go_sem, Nat.reduceLT, Nat.reduceBEq, Nat.reduceAdd, Int.reduceBEq, Nat.reduceLeDiff, reduceIte, Nat.reduceEqDiff, Int.reduceEq, Int.reduceLE, Int.reduceLT, Int.reduceNe, Nat.reduceMul, Nat.reduceSub, Int.reduceToNat, he, g1, g4, g3]
      refine callX_of (monthDays_A y _ (by omega) _) (List.prefix_refl _) ?_
      simp only [go_sem, Nat.reduceLT, Nat.reduceBEq, Nat.reduceAdd, Int.reduceBEq, Nat.reduceLeDiff, reduceIte, Nat.reduceEqDiff, Int.reduceEq, Int.reduceLE, Int.reduceLT, Int.reduceNe, Nat.reduceMul, Nat.reduceSub, Int.reduceToNat, he, g1, g4, g3, setD_some, w1, w2]
      exact ⟨k - 1, by omega, i + 1, rfl, rfl, by omega, by omega⟩
    · have hc := of_decide_eq_false hc
      have hi : i = m - 1 := by omega
      subst hi
      have hmi := hmp (m - 1)
      have w1 : IntKind.i64.wrap (before y + msum y (m - 1) + d) = before y + msum y (m - 1) + d := wI64 (by omega)
      have w2 : IntKind.i64.wrap (before y + msum y (m - 1) + d - 1) = before y + msum y (m - 1) + d - 1 := wI64 (by omega)
      simp only [go_sem, Nat.reduceLT, Nat.reduceBEq, Nat.reduceAdd, Int.reduceBEq, Nat.reduceLeDiff, reduceIte, Nat.reduceEqDiff, Int.reduceEq, Int.reduceLE, Int.reduceLT, Int.reduceNe, Nat.reduceMul, Nat.reduceSub, Int.reduceToNat, he, g1, g4, g3, w1, w2]
      exact ⟨_, rfl⟩

theorem seg_of {s a b c : List UInt8} {i n : Nat} (h : s = a ++ b ++ c) (ha : a.length = i) (hb : b.length = n) : (s.drop i).take n = b := by
  rw [h, List.append_assoc, List.drop_left' ha, List.take_left' hb]
/-- The numbers of a date's text. -/
def dateVals (t : Int) : List Int := [yearOf (t / 86400), (dayOf (t / 86400)).1, (dayOf (t / 86400)).2, t % 86400 / 3600, t % 86400 / 60 % 60, t % 86400 % 60]
def dateTos : List Int := [4, 6, 8, 11, 13, 15]
theorem date_segs {t : Int} (h : InY t) : (dateText t).length = 16 ∧ (dateText t).getD 8 0 = 84 ∧ (dateText t).getD 15 0 = 90 ∧
    ∀ i, i < 6 → ∃ a n : Nat, n ≤ 8 ∧ a + n ≤ 16 ∧ dateTos[i]? = some ((a + n : Nat) : Int) ∧ (a : Int) = (if i = 0 then 0 else ((a + n : Nat) : Int) - 2) ∧ (((dateText t).drop a).take n).all isDig = true ∧ (dateVals t)[i]? = some (digFold (((dateText t).drop a).take n)) := by
  have hn : 0 ≤ t / 86400 := by have := h.1; omega
  have hy := yearOf_ok hn
  have hy9 := yearOf_small hn (by have := h.2; omega)
  obtain ⟨m, e1, e2, e3, e4, e5, e6⟩ := dayOf_date hn
  have hmd := monthDays_pos (yearOf (t / 86400)) m
  have p0 := pad4 (n := yearOf (t / 86400)) (by omega) (by omega)
  have p1 := pad2 (n := (dayOf (t / 86400)).1) (by omega) (by omega)
  have p2 := pad2 (n := (dayOf (t / 86400)).2) (by omega) (by omega)
  have p3 := pad2 (n := t % 86400 / 3600) (by omega) (by omega)
  have p4 := pad2 (n := t % 86400 / 60 % 60) (by omega) (by omega)
  have p5 := pad2 (n := t % 86400 % 60) (by omega) (by omega)
  have e : dateText t = padded (yearOf (t / 86400)) 4 ++ (padded (dayOf (t / 86400)).1 2 ++ (padded (dayOf (t / 86400)).2 2 ++ ([84] ++ (padded (t % 86400 / 3600) 2 ++ (padded (t % 86400 / 60 % 60) 2 ++ (padded (t % 86400 % 60) 2 ++ [90])))))) := by
    unfold dateText
    simp only [List.append_assoc]
  unfold dateVals
  generalize dateText t = s at *
  generalize yearOf (t / 86400) = v0 at *
  generalize (dayOf (t / 86400)).1 = v1 at *
  generalize (dayOf (t / 86400)).2 = v2 at *
  generalize t % 86400 / 3600 = v3 at *
  generalize t % 86400 / 60 % 60 = v4 at *
  generalize t % 86400 % 60 = v5 at *
  generalize padded v0 4 = b0 at *
  generalize padded v1 2 = b1 at *
  generalize padded v2 2 = b2 at *
  generalize padded v3 2 = b3 at *
  generalize padded v4 2 = b4 at *
  generalize padded v5 2 = b5 at *
  obtain ⟨l0, d0, f0⟩ := p0
  obtain ⟨l1, d1, f1⟩ := p1
  obtain ⟨l2, d2, f2⟩ := p2
  obtain ⟨l3, d3, f3⟩ := p3
  obtain ⟨l4, d4, f4⟩ := p4
  obtain ⟨l5, d5, f5⟩ := p5
  have s0 : (s.drop 0).take 4 = b0 := seg_of (a := []) (c := b1 ++ (b2 ++ ([84] ++ (b3 ++ (b4 ++ (b5 ++ [90])))))) (by rw [e]; simp only [List.append_assoc, List.nil_append]) rfl l0
  have s1 : (s.drop 4).take 2 = b1 := seg_of (a := b0) (c := b2 ++ ([84] ++ (b3 ++ (b4 ++ (b5 ++ [90]))))) (by rw [e]; simp only [List.append_assoc]) l0 l1
  have s2 : (s.drop 6).take 2 = b2 := seg_of (a := b0 ++ b1) (c := [84] ++ (b3 ++ (b4 ++ (b5 ++ [90])))) (by rw [e]; simp only [List.append_assoc]) (by rw [List.length_append, l0, l1]) l2
  have sT : (s.drop 8).take 1 = [84] := seg_of (a := b0 ++ b1 ++ b2) (c := b3 ++ (b4 ++ (b5 ++ [90]))) (by rw [e]; simp only [List.append_assoc]) (by rw [List.length_append, List.length_append, l0, l1, l2]) rfl
  have s3 : (s.drop 9).take 2 = b3 := seg_of (a := b0 ++ b1 ++ b2 ++ [84]) (c := b4 ++ (b5 ++ [90])) (by rw [e]; simp only [List.append_assoc]) (by rw [List.length_append, List.length_append, List.length_append, l0, l1, l2]; rfl) l3
  have s4 : (s.drop 11).take 2 = b4 := seg_of (a := b0 ++ b1 ++ b2 ++ [84] ++ b3) (c := b5 ++ [90]) (by rw [e]; simp only [List.append_assoc]) (by rw [List.length_append, List.length_append, List.length_append, List.length_append, l0, l1, l2, l3]; rfl) l4
  have s5 : (s.drop 13).take 2 = b5 := seg_of (a := b0 ++ b1 ++ b2 ++ [84] ++ b3 ++ b4) (c := [90]) (by rw [e]; simp only [List.append_assoc]) (by rw [List.length_append, List.length_append, List.length_append, List.length_append, List.length_append, l0, l1, l2, l3, l4]; rfl) l5
  have sZ : (s.drop 15).take 1 = [90] := seg_of (a := b0 ++ b1 ++ b2 ++ [84] ++ b3 ++ b4 ++ b5) (c := []) (by rw [e]; simp only [List.append_assoc, List.append_nil]) (by rw [List.length_append, List.length_append, List.length_append, List.length_append, List.length_append, List.length_append, l0, l1, l2, l3, l4, l5]; rfl) rfl
  have hl : s.length = 16 := by rw [e]; simp only [List.length_append, l0, l1, l2, l3, l4, l5, List.length_singleton]
  have one : ∀ (i : Nat) (c : UInt8), (s.drop i).take 1 = [c] → s.getD i 0 = c := fun i c hc => by
    have := congrArg (·[0]?) hc
    simp only [List.getElem?_take_of_lt (show 0 < 1 by omega), List.getElem?_drop, Nat.add_zero] at this
    rw [List.getD_eq_getElem?_getD, this]
    rfl
  refine ⟨hl, one 8 84 sT, one 15 90 sZ, fun i hi => ?_⟩
  match i, hi with
  | 0, _ => exact ⟨0, 4, by omega, by omega, rfl, rfl, by rw [s0]; exact d0, by rw [s0, f0]; rfl⟩
  | 1, _ => exact ⟨4, 2, by omega, by omega, rfl, rfl, by rw [s1]; exact d1, by rw [s1, f1]; rfl⟩
  | 2, _ => exact ⟨6, 2, by omega, by omega, rfl, rfl, by rw [s2]; exact d2, by rw [s2, f2]; rfl⟩
  | 3, _ => exact ⟨9, 2, by omega, by omega, rfl, rfl, by rw [s3]; exact d3, by rw [s3, f3]; rfl⟩
  | 4, _ => exact ⟨11, 2, by omega, by omega, rfl, rfl, by rw [s4]; exact d4, by rw [s4, f4]; rfl⟩
  | 5, _ => exact ⟨13, 2, by omega, by omega, rfl, rfl, by rw [s5]; exact d5, by rw [s5, f5]; rfl⟩
theorem readDate_A {w0 : World} (t : Int) (ht : InY t) (H : Heap) : ACalls Tryz.prog (CB w0) 67 [vS (dateText t)] H fun r H' => r = .tup [vI t, vB true] ∧ H' = H := by
  refine ACalls.flat rfl ?_
  refine A_fun (N := 106) (rs := [.tmp 2, .tmp 3]) Tryz.func67 rfl rfl rfl (by kernel_rfl) (by kernel_rfl) (Nat.le_of_ble_eq_true rfl) ?_
  rintro e he ⟨g0, -⟩
  obtain ⟨hl, h8, h15, hseg⟩ := date_segs ht
  have c16 : decide (((dateText t).length : Int) = 16) = true := decide_eq_true (by omega)
  have z84 : decide (((84 : UInt8).toNat : Int) = 84) = true := rfl
  have z90 : decide (((90 : UInt8).toNat : Int) = 90) = true := rfl
  have hn : 0 ≤ t / 86400 := by have := ht.1; omega
  have hy := yearOf_ok hn
  have hy9 := yearOf_small hn (by have := ht.2; omega)
  obtain ⟨m, e1, e2, e3, e4, e5, e6⟩ := dayOf_date hn
  have hdv : dateVals t = [yearOf (t / 86400), (dayOf (t / 86400)).1, (dayOf (t / 86400)).2, t % 86400 / 3600, t % 86400 / 60 % 60, t % 86400 % 60] := rfl
  generalize dateText t = s at *
  simp only [go_sem, Nat.reduceLT, Nat.reduceBEq, Nat.reduceAdd, Int.reduceBEq, Nat.reduceLeDiff, reduceIte, Nat.reduceEqDiff, Int.reduceEq, Int.reduceLE, Int.reduceLT, Int.reduceNe, Nat.reduceMul, Nat.reduceSub, Int.reduceToNat, he, g0, c16, h8, h15, z84, z90]
  refine ⟨by omega, by omega, ?_⟩
  refine A_while 6 (fun k e h => len e = 106 ∧ AL.get e 0 = vS s ∧ AL.get e 4 = .ptr H.length 0 ∧ AL.get e 23 = .sl true (H.length + 1) 0 6 1 ∧ AL.get e 24 = vI 6 ∧ ∃ (i : Nat) (cs : List AV), AL.get e 25 = vI i ∧ i + k = 6 ∧ h = H ++ [.own 153 cs, .own 3 (dateTos.map vI)] ∧ cs.length = 6 ∧ ∀ j, j < i → cs[j]? = ((dateVals t)[j]?).map vI) (by kernel_rfl) ?_ ?_
  · simp only [go_sem, Nat.reduceLT, Nat.reduceBEq, Nat.reduceAdd, Int.reduceBEq, Nat.reduceLeDiff, reduceIte, Nat.reduceEqDiff, Int.reduceEq, Int.reduceLE, Int.reduceLT, Int.reduceNe, Nat.reduceMul, Nat.reduceSub, Int.reduceToNat, he, g0]
    exact ⟨rfl, 0, _, rfl, rfl, rfl, rfl, fun j hj => by omega⟩
  · rintro k e h ⟨he, g0, g4, g23, g24, i, cs, g25, hik, rfl, hcl, hcs⟩
    have wi : IntKind.i64.wrap ((i : Int) + 1) = ((i + 1 : Nat) : Int) := by rw [wI64 (by omega)]; rfl
    simp only [go_sem, Nat.reduceLT, Nat.reduceBEq, Nat.reduceAdd, Int.reduceBEq, Nat.reduceLeDiff, reduceIte, Nat.reduceEqDiff, Int.reduceEq, Int.reduceLE, Int.reduceLT, Int.reduceNe, Nat.reduceMul, Nat.reduceSub, Int.reduceToNat, he, g0, g4, g23, g24, g25]
    refine condK_of (fun hc => ?_) fun hc => ?_
    · have hc := of_decide_eq_true hc
      obtain ⟨a, n, hn8, han, hto, hfrom, hdig, hval⟩ := hseg i (by omega)
      have hti : (dateTos.map vI)[i]? = some (vI ((a + n : Nat) : Int)) := by rw [List.getElem?_map, hto]; rfl
      have w2 : IntKind.i64.wrap (((a + n : Nat) : Int) - 2) = ((a + n : Nat) : Int) - 2 := wI64 (by omega)
      have cl := fun G => sdigits_A (w0 := w0) s a n (by omega) hn8 (by omega) hdig (H ++ G)
      generalize digFold ((s.drop a).take n) = z at *
      generalize hdt : dateTos.map vI = tos at *
      simp only [go_sem, Nat.reduceLT, Nat.reduceBEq, Nat.reduceAdd, Int.reduceBEq, Nat.reduceLeDiff, reduceIte, Nat.reduceEqDiff, Int.reduceEq, Int.reduceLE, Int.reduceLT, Int.reduceNe, Nat.reduceMul, Nat.reduceSub, Int.reduceToNat, he, g0, g4, g23, g24, g25, hti, w2, Int.toNat_natCast]
      refine ⟨by omega, ?_⟩
      refine cond_join (fun e1 h1 => h1 = H ++ [.own 153 cs, .own 3 tos] ∧ len e1 = 106 ∧ AL.get e1 0 = vS s ∧ AL.get e1 4 = .ptr H.length 0 ∧ AL.get e1 23 = .sl true (H.length + 1) 0 6 1 ∧ AL.get e1 24 = vI 6 ∧ AL.get e1 25 = vI i ∧ AL.get e1 5 = vI i ∧ AL.get e1 6 = vI ((a + n : Nat) : Int) ∧ AL.get e1 7 = vI a) (fun hp => ?_) (fun hp => ?_) ?_
      · have hp := of_decide_eq_true hp
        have ha0 : (a : Int) = 0 := by rw [hfrom, if_pos (by omega)]
        simp only [go_sem, Nat.reduceLT, Nat.reduceBEq, Nat.reduceAdd, Int.reduceBEq, Nat.reduceLeDiff, reduceIte, Nat.reduceEqDiff, Int.reduceEq, Int.reduceLE, Int.reduceLT, Int.reduceNe, Nat.reduceMul, Nat.reduceSub, Int.reduceToNat, he, g0, g4, g23, g24, g25]
        rw [ha0]
      · have hp := of_decide_eq_false hp
        have ha0 : (a : Int) = ((a + n : Nat) : Int) - 2 := by rw [if_neg (by omega)] at hfrom; exact hfrom
        simp only [go_sem, Nat.reduceLT, Nat.reduceBEq, Nat.reduceAdd, Int.reduceBEq, Nat.reduceLeDiff, reduceIte, Nat.reduceEqDiff, Int.reduceEq, Int.reduceLE, Int.reduceLT, Int.reduceNe, Nat.reduceMul, Nat.reduceSub, Int.reduceToNat, he, g0, g4, g23, g24, g25]
        rw [← ha0]
      rintro e h1 ⟨rfl, he, g0, g4, g23, g24, g25, g5, g6, g7⟩
      simp only [go_sem, Nat.reduceLT, Nat.reduceBEq, Nat.reduceAdd, Int.reduceBEq, Nat.reduceLeDiff, reduceIte, Nat.reduceEqDiff, Int.reduceEq, Int.reduceLE, Int.reduceLT, Int.reduceNe, Nat.reduceMul, Nat.reduceSub, Int.reduceToNat, he, g0, g4, g23, g24, g25, g5, g6, g7]
      refine callX_of (cl _) (List.prefix_refl _) ?_
      simp only [go_sem, Nat.reduceLT, Nat.reduceBEq, Nat.reduceAdd, Int.reduceBEq, Nat.reduceLeDiff, reduceIte, Nat.reduceEqDiff, Int.reduceEq, Int.reduceLE, Int.reduceLT, Int.reduceNe, Nat.reduceMul, Nat.reduceSub, Int.reduceToNat, he, g0, g4, g23, g24, g25, g5, g6, g7, setD_some, wi, Int.toNat_natCast]
      have hpc : cs.take i ++ vI z :: cs.drop (i + 1) = putCells cs i [vI z] := by unfold putCells; rw [List.append_assoc]; rfl
      obtain ⟨q1, q2⟩ := putCells_one (cs := cs) (c := vI z) (show i < cs.length by omega)
      refine ⟨⟨by omega, by omega⟩, by omega, k - 1, by omega, i + 1, putCells cs i [vI z], rfl, by omega, by rw [hpc], by omega, fun j hj => ?_⟩
      rw [q2]
      split
      · rename_i hji
        rw [hji, hval]
        rfl
      · exact hcs j (by omega)
    · have hc := of_decide_eq_false hc
      have hi : i = 6 := by omega
      subst hi
      have htb : t / 86400 ≤ 100000000 := by
        have h1 := ht.2
        have h2 : before 10000 * 86400 = 315537897600 := by decide
        omega
      have hd1 := (monthDays_pos (yearOf (t / 86400)) m).2
      have hsum : before (yearOf (t / 86400)) + msum (yearOf (t / 86400)) (m - 1) + (dayOf (t / 86400)).2 - 1 = t / 86400 := by omega
      rw [hdv, e1] at hcs
      generalize yearOf (t / 86400) = v0 at *
      generalize (dayOf (t / 86400)).2 = v2 at *
      generalize hv3 : t % 86400 / 3600 = v3 at *
      generalize hv4 : t % 86400 / 60 % 60 = v4 at *
      generalize hv5 : t % 86400 % 60 = v5 at *
      match cs, hcl with
      | [a0, a1, a2, a3, a4, a5], _ =>
      have q0 := hcs 0 (by omega)
      have q1 := hcs 1 (by omega)
      have q2 := hcs 2 (by omega)
      have q3 := hcs 3 (by omega)
      have q4 := hcs 4 (by omega)
      have q5 := hcs 5 (by omega)
      simp only [List.getElem?_cons_zero, List.getElem?_cons_succ, Option.map_some, Option.some.injEq] at q0 q1 q2 q3 q4 q5
      subst q0 q1 q2 q3 q4 q5
      have b0 : decide (v0 < 1) = false := decide_eq_false (by omega)
      have b1 : decide ((m : Int) < 1) = false := decide_eq_false (by omega)
      have b2 : decide ((12 : Int) < (m : Int)) = false := decide_eq_false (by omega)
      have b3 : decide (v2 < 1) = false := decide_eq_false (by omega)
      have b4 : decide (monthDays v0 (m : Int) < v2) = false := decide_eq_false (by omega)
      have b5 : decide (23 < v3) = false := decide_eq_false (by omega)
      have b6 : decide (59 < v4) = false := decide_eq_false (by omega)
      have b7 : decide (59 < v5) = false := decide_eq_false (by omega)
      simp only [go_sem, Nat.reduceLT, Nat.reduceBEq, Nat.reduceAdd, Int.reduceBEq, Nat.reduceLeDiff, reduceIte, Nat.reduceEqDiff, Int.reduceEq, Int.reduceLE, Int.reduceLT, Int.reduceNe, Nat.reduceMul, Nat.reduceSub, Int.reduceToNat, he, g0, g4, g23, g24, g25]
      refine acode_draw mixed (by kernel_rfl) ?_
      simp only [go_sem, Nat.reduceLT, Nat.reduceBEq, Nat.reduceAdd, Int.reduceBEq, Nat.reduceLeDiff, reduceIte, Nat.reduceEqDiff, Int.reduceEq, Int.reduceLE, Int.reduceLT, Int.reduceNe, Nat.reduceMul, Nat.reduceSub, Int.reduceToNat, he, g0, g4, g23, g24, g25, b0, b1, b2, b3, b4, b5, b6, b7]
      refine ⟨by omega, by omega, by omega, by omega, by omega, by omega, by omega, callX_of (monthDays_A v0 m (by omega) _) (List.prefix_refl _) ?_⟩
      simp only [go_sem, Nat.reduceLT, Nat.reduceBEq, Nat.reduceAdd, Int.reduceBEq, Nat.reduceLeDiff, reduceIte, Nat.reduceEqDiff, Int.reduceEq, Int.reduceLE, Int.reduceLT, Int.reduceNe, Nat.reduceMul, Nat.reduceSub, Int.reduceToNat, he, g0, g4, g23, g24, g25, setD_some, b0, b1, b2, b3, b4, b5, b6, b7]
      refine ⟨by omega, by omega, by omega, ?_⟩
      refine acode_draw mixed (by kernel_rfl) ?_
      simp only [go_sem, Nat.reduceLT, Nat.reduceBEq, Nat.reduceAdd, Int.reduceBEq, Nat.reduceLeDiff, reduceIte, Nat.reduceEqDiff, Int.reduceEq, Int.reduceLE, Int.reduceLT, Int.reduceNe, Nat.reduceMul, Nat.reduceSub, Int.reduceToNat, he, g0, g4, g23, g24, g25]
      refine ⟨by omega, by omega, by omega, callX_of (number_S v0 v2 m (by omega) (by omega) (by omega) _) (List.prefix_refl _) ?_⟩
      simp only [go_sem, Nat.reduceLT, Nat.reduceBEq, Nat.reduceAdd, Int.reduceBEq, Nat.reduceLeDiff, reduceIte, Nat.reduceEqDiff, Int.reduceEq, Int.reduceLE, Int.reduceLT, Int.reduceNe, Nat.reduceMul, Nat.reduceSub, Int.reduceToNat, he, g0, g4, g23, g24, g25, setD_some]
      rw [hsum]
      refine ⟨by omega, by omega, by omega, callX_of (seconds_S (t / 86400) v3 v4 v5 (by omega) (by omega) (by omega) (by omega) _) (List.prefix_refl _) ?_⟩
      simp only [go_sem, Nat.reduceLT, Nat.reduceBEq, Nat.reduceAdd, Int.reduceBEq, Nat.reduceLeDiff, reduceIte, Nat.reduceEqDiff, Int.reduceEq, Int.reduceLE, Int.reduceLT, Int.reduceNe, Nat.reduceMul, Nat.reduceSub, Int.reduceToNat, he, g0, g4, g23, g24, g25, setD_some]
      rw [show t / 86400 * 86400 + v3 * 3600 + v4 * 60 + v5 = t by omega]
      exact ⟨rfl, _, rfl⟩
end Go.Proofs.YtlfpjdcogkcjlaaGreatDoor.F
