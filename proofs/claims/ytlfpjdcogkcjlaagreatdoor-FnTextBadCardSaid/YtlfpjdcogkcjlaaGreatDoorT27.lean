/- laws.FnTextBad. -/
import Derived.Test.YtlfpjdcogkcjlaaGreatDoorT26
namespace Go.Proofs.YtlfpjdcogkcjlaaGreatDoor.F
open Go.RowKit Go.Proofs.YtlfpjdcogkcjlaaGreatDoor.AL Go.Proofs.YtlfpjdcogkcjlaaGreatDoor.B
set_option linter.unusedVariables false
set_option linter.unusedSimpArgs false
set_option maxRecDepth 20000
attribute [local irreducible] aops acode bindK bindV bindH callX callK condK guardK Kseq Kblk Knorm Kfun Kloop Kjoin outK AWp appendA
attribute [local go_sem] acode_skip acode_seq acode_region acode_cond acode_block acode_exit acode_ret acode_loop Kseq_normal Kseq_exit Kseq_ret Kblk_normal Kblk_ret Kblk_eq Kblk_ne Knorm_eq Kloop_normal Kloop_exit Kloop_ret Kjoin_normal Kjoin_exit Kjoin_ret condK_true condK_false bindK_put bindV_put bindK_no bindV_no bindH_no aops_nil gops wantK_some wantV_bool wantV_undef guardK_true guardK_false guardK_none aops_move aops_assign aops_pick aops_nilCheck aops_binOp aops_unOp aops_convert aops_fieldAddr aops_indexAddr aops_slice aops_index aops_extract aops_makeInterface aops_makeFunc aops_build aops_load aops_lookup aops_alloc aops_box aops_buildSlice aops_makeSlice aops_makeMap aops_store aops_insert aops_mapUpdate aops_len aops_append aops_call opA_tmp opA_const opA_global opA_func get_mk look_nil look_eq look_ne len_mk List.map_cons List.map_nil Option.map_some Option.map_none bin_add bin_sub bin_mul bin_quo bin_rem bin_eql bin_neq bin_lss bin_leq bin_gtr bin_geq bin_cat bin_seql bin_sneq bin_neq_ifc bin_eql_ifc bin_neq_nn bin_eql_nn bin_neq_ptr bin_eql_ptr bin_neq_pn isIfc_true isPtr_true bin_eql2 bin_neq2 aops_max max_int un_not un_neg lenA_K lenK_str lenK_nil lenK_sl lenK_array pick_bool pick_val bindV_ite bindK_ite bindH_ite slotV_sl slotK_some slotV_ptr slotR_some sliceV_sl cutK_some sliceV_str cutS_some bound_none bound_some indexA_str atS_some mkS fieldV_ptr loadV_ptr cellsK_ro cellsK_own loadK_one loadK_many storeA_ptr storeK_own allocA_some heap_len heap_get0 heap_get heap_set0 heap_set Kfun_ret Kfun_normal resA_nil resA_tmp resA_cell outK_some packA_one packA_nil packA_two List.length_cons List.length_nil List.getElem?_cons_zero List.getElem?_cons_succ List.set_cons_zero List.set_cons_succ List.cons_append List.nil_append List.append_assoc Nat.zero_add Nat.add_zero List.all_cons List.all_nil Value.oneCell' Bool.and_true Bool.and_self if_true if_false Bool.false_eq_true partsA buildV buildA fillA Option.bind_some putCells List.drop_succ_cons List.drop_zero List.take_succ_cons List.take_zero List.take_nil List.drop_nil and_self and_true true_and Option.some.injEq ne_eq not_false_eq_true Option.map_map List.getElem?_toArray beq_self_eq_true Bool.true_beq Bool.false_beq Bool.not_true Bool.not_false decide_true decide_false beq_true Nat.mul_one Nat.one_mul Nat.zero_mul bsA buildSliceA zerosN List.append_nil Int.toNat_natCast Int.toNat_zero boxA one_val one_ptr one_sl one_mp one_ifc one_fn avCells_agg avCells_val valCells_true valCells_agg avCells_ptr avCells_sl avCells_mp avCells_ifc avCells_fn app_cons app_nil lookupA insertA ifaceV extractA kd2 ars127 fp127 ars60 fp60 ars31 fp31 eq2_99 eq2_84 eq2_47 fp52 sz2 kd3 sz3 kd4 sz4 kd5 sz5 kd9 sz9 kd22 sz22 el22 kd23 sz23 el23 kd25 sz25 zc25 fp25 fo25_0 fo25_1 fo25_2 fo25_3 fo25_4 fo25_5 fo25_6 fo25_7 fo25_8 fo25_9 fo25_10 fo25_11 fo25_12 fo25_13 fo25_14 fo25_15 fo25_16 fo25_17 kd31 sz31 zc31 ar31 kd32 sz32 el32 kd34 sz34 zc34 fp34 fo34_0 fo34_1 fo34_2 fo34_3 fo34_4 fo34_5 fo34_6 fo34_7 fo34_8 fo34_9 fo34_10 fo34_11 fo34_12 fo34_13 fo34_14 fo34_15 fo34_16 fo34_17 el38 el42 kd47 sz47 zc47 fp47 fo47_0 fo47_1 kd52 sz52 zc52 fo52_0 el55 zc60 kd72 sz72 zc72 fp72 fo72_0 fo72_1 el73 isStrMap76 zv4 kd80 sz80 kd84 sz84 zc84 fp84 fo84_0 fo84_1 kd88 sz88 zc88 fp88 fo88_0 fo88_1 fo88_2 fo88_3 kd91 sz91 zc91 fp91 fo91_0 fo91_1 fo91_2 el94 kd99 sz99 zc99 fp99 fo99_0 fo99_1 kd100 sz100 el100 kd102 sz102 zc102 fp102 fo102_0 fo102_1 fo102_2 fo102_3 fo102_4 fo102_5 fo102_6 fo102_7 fo102_8 fo102_9 fo102_10 fo102_11 fo102_12 fo102_13 fo102_14 fo102_15 kd109 sz109 zc109 fp109 isStrMap124 zv80 zc127 kd153 sz153 zc153 ar153 isIface157 kd159 sz159 zc159 fp159 isStrMap177 zv84 Tryz.underlying3 Tryz.underlying4 Tryz.underlying5 Tryz.underlying9 Tryz.underlying21 Tryz.underlying22 Tryz.underlying23 Tryz.underlying32 Tryz.underlying38 Tryz.underlying42 Tryz.underlying47 Tryz.underlying55 Tryz.underlying67 Tryz.underlying73 Tryz.underlying80 Tryz.underlying84 Tryz.underlying94 Tryz.underlying100 Tryz.underlying2 Tryz.underlying127 Tryz.underlying60 Tryz.underlying31
theorem textOf_len {r : Ru} (h : CleanP r) : (textOf (parts (bare r))).length ≤ 25000 := by
  have hpl := parts_length (r := bare r)
  have := joinB_length 59 1388 (parts (bare r)) (parts_clean h)
  have : 1389 * (parts (bare r)).length ≤ 1389 * 15 := Nat.mul_le_mul_left _ hpl.1
  unfold textOf
  omega
theorem bare_at {H : Heap} {r : Ru} {x : Rs} (hx : RuAt H r x) : RuAt H (bare r) x := ⟨hx.setPos, hx.month, hx.monthDay, hx.yearDay, hx.weekNo, hx.day, hx.hour, hx.minute, hx.second, hx.easter⟩
theorem fnTextBad_A {w0 : World} (hG : Glob w0) (r : Ru) (x : Rs) (hn : RuNum r) (which : Nat) (hw : which ≤ 255) (H : Heap) (hH : GH H) (hx : RuAt H r x) : ACalls Tryz.prog (CB w0) 3 [.agg (ruCells r x), vU which] H fun v H' => v = vB true ∧ ∃ G, H' = H ++ G := by
  refine A_fun (N := 60) (rs := [.tmp 4]) Tryz.func3 rfl rfl rfl (by kernel_rfl) (by kernel_rfl) (Nat.le_of_ble_eq_true rfl) ?_
  rintro e he ⟨g0, g1, -⟩
  have hB : ∀ G, (H ++ AObj.own 25 (ruCells r x) :: G)[H.length]? = some (AObj.own 25 (ruCells r x)) := fun G => heap_get0
  unfold ruCells at g0 hB
  simp only [go_sem, Nat.reduceLT, Nat.reduceBEq, Nat.reduceAdd, Int.reduceBEq, Nat.reduceLeDiff, reduceIte, Nat.reduceEqDiff, Int.reduceEq, Int.reduceLE, Int.reduceLT, Int.reduceNe, Nat.reduceMul, Nat.reduceSub, Int.reduceToNat, he, g0, g1, hx.setPos.one, hx.month.one, hx.monthDay.one, hx.yearDay.one, hx.weekNo.one, hx.day.one, hx.hour.one, hx.minute.one, hx.second.one, hx.easter.one]
  refine callX_of (zzFits1_A r x _ (hx.more _)) (List.prefix_refl _) ?_
  cases hf : fits r with
  | false =>
    simp only [go_sem, Nat.reduceLT, Nat.reduceBEq, Nat.reduceAdd, Int.reduceBEq, Nat.reduceLeDiff, reduceIte, Nat.reduceEqDiff, Int.reduceEq, Int.reduceLE, Int.reduceLT, Int.reduceNe, Nat.reduceMul, Nat.reduceSub, Int.reduceToNat, he, g1, setD_some]
    exact ⟨_, rfl⟩
  | true =>
  have hl := fits_len hf
  simp only [go_sem, Nat.reduceLT, Nat.reduceBEq, Nat.reduceAdd, Int.reduceBEq, Nat.reduceLeDiff, reduceIte, Nat.reduceEqDiff, Int.reduceEq, Int.reduceLE, Int.reduceLT, Int.reduceNe, Nat.reduceMul, Nat.reduceSub, Int.reduceToNat, he, g1, setD_some]
  refine callX_any (textBare_A r x hl hn _ (hx.more _)) ?_
  rintro v h ⟨rfl, G, rfl⟩
  unfold bareR
  cases hb : bareOk r with
  | false =>
    simp only [ruCells, go_sem, Nat.reduceLT, Nat.reduceBEq, Nat.reduceAdd, Int.reduceBEq, Nat.reduceLeDiff, reduceIte, Nat.reduceEqDiff, Int.reduceEq, Int.reduceLE, Int.reduceLT, Int.reduceNe, Nat.reduceMul, Nat.reduceSub, Int.reduceToNat, he, g1, setD_some, Bool.true_and, hx.setPos.one, hx.month.one, hx.monthDay.one, hx.yearDay.one, hx.weekNo.one, hx.day.one, hx.hour.one, hx.minute.one, hx.second.one, hx.easter.one]
    refine callX_of (textAwake_A hG _ (hH.more _)) (List.prefix_refl _) ?_
    simp only [go_sem, Nat.reduceLT, Nat.reduceBEq, Nat.reduceAdd, Int.reduceBEq, Nat.reduceLeDiff, reduceIte, Nat.reduceEqDiff, Int.reduceEq, Int.reduceLE, Int.reduceLT, Int.reduceNe, Nat.reduceMul, Nat.reduceSub, Int.reduceToNat, he, g1, setD_some]
    exact ⟨_, rfl⟩
  | true =>
    have hc : CleanP r := clean_spec (by unfold bareOk at hb; rw [Bool.and_eq_true] at hb; exact hb.1)
    have htl := textOf_len hc
    simp only [ruCells, go_sem, Nat.reduceLT, Nat.reduceBEq, Nat.reduceAdd, Int.reduceBEq, Nat.reduceLeDiff, reduceIte, Nat.reduceEqDiff, Int.reduceEq, Int.reduceLE, Int.reduceLT, Int.reduceNe, Nat.reduceMul, Nat.reduceSub, Int.reduceToNat, he, g1, setD_some, Bool.true_and, hx.setPos.one, hx.month.one, hx.monthDay.one, hx.yearDay.one, hx.weekNo.one, hx.day.one, hx.hour.one, hx.minute.one, hx.second.one, hx.easter.one]
    refine callX_of (textNil_A hG (bare r) x (clean_ok hc) _ ((bare_at hx).more _)) (List.prefix_refl _) ?_
    obtain ⟨b, hb1, hb2, t, hb3⟩ := bads_ok hc (k := which % 16) (by omega)
    unfold bads at hb1
    generalize textOf (parts (bare r)) = tx at *
    simp only [go_sem, Nat.reduceLT, Nat.reduceBEq, Nat.reduceAdd, Int.reduceBEq, Nat.reduceLeDiff, reduceIte, Nat.reduceEqDiff, Int.reduceEq, Int.reduceLE, Int.reduceLT, Int.reduceNe, Nat.reduceMul, Nat.reduceSub, Int.reduceToNat, he, g1, setD_some]
    refine ⟨by omega, by omega, by omega, by omega, by omega, by omega, by omega, by omega, by omega, by omega, by omega, ?_⟩
    have w1 : IntKind.i64.wrap ((which : Nat) : Int) = (which : Int) := wI64 (by omega)
    have w2 : ((which : Nat) : Int).tmod 16 = ((which % 16 : Nat) : Int) := by rw [Int.tmod_eq_emod_of_nonneg (by omega)]; rfl
    have w3 : (0 : Int) ≤ ((which % 16 : Nat) : Int) ∧ ((which % 16 : Nat) : Int) < ((16 : Nat) : Int) := ⟨by omega, by omega⟩
    have w4 := congrArg (Option.map vS) hb1
    rw [← List.getElem?_map] at w4
    simp only [List.map_cons, List.map_nil, Option.map_some] at w4
    simp only [go_sem, Nat.reduceLT, Nat.reduceBEq, Nat.reduceAdd, Int.reduceBEq, Nat.reduceLeDiff, reduceIte, Nat.reduceEqDiff, Int.reduceEq, Int.reduceLE, Int.reduceLT, Int.reduceNe, Nat.reduceMul, Nat.reduceSub, Int.reduceToNat, he, g1, setD_some, conv_int (P := Tryz.prog) (s := 5) (d := 3) Tryz.underlying5 Tryz.underlying3, w1, w2, w3, w4]
    refine callX_any (parseOption_A hG b hb2 _ (hH.more _)) ?_
    rw [hb3]
    rintro v' h' ⟨⟨l, rfl, hll, hl1⟩, G', rfl⟩
    match l, hll with
    | [a0, a1, a2, a3, a4, a5, a6, a7, a8, a9, a10, a11, a12, a13, a14, a15, a16, a17], _ =>
    simp only [List.all_cons, List.all_nil, Bool.and_true, Bool.and_eq_true] at hl1
    obtain ⟨o0, o1, o2, o3, o4, o5, o6, o7, o8, o9, o10, o11, o12, o13, o14, o15, o16, o17⟩ := hl1
    simp only [go_sem, Nat.reduceLT, Nat.reduceBEq, Nat.reduceAdd, Int.reduceBEq, Nat.reduceLeDiff, reduceIte, Nat.reduceEqDiff, Int.reduceEq, Int.reduceLE, Int.reduceLT, Int.reduceNe, Nat.reduceMul, Nat.reduceSub, Int.reduceToNat, he, g1, setD_some, o0, o1, o2, o3, o4, o5, o6, o7, o8, o9, o10, o11, o12, o13, o14, o15, o16, o17]
    refine callX_of (textAwake_A hG _ (hH.more _)) (List.prefix_refl _) ?_
    simp only [go_sem, Nat.reduceLT, Nat.reduceBEq, Nat.reduceAdd, Int.reduceBEq, Nat.reduceLeDiff, reduceIte, Nat.reduceEqDiff, Int.reduceEq, Int.reduceLE, Int.reduceLT, Int.reduceNe, Nat.reduceMul, Nat.reduceSub, Int.reduceToNat, he, g1, setD_some]
    exact ⟨_, rfl⟩
end Go.Proofs.YtlfpjdcogkcjlaaGreatDoor.F
