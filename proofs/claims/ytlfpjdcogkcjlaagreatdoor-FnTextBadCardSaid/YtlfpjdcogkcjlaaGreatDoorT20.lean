/- Lists with weekdays in them; what a rule says of days. -/
import Derived.Test.YtlfpjdcogkcjlaaGreatDoorT19
namespace Go.Proofs.YtlfpjdcogkcjlaaGreatDoor.F
open Go.RowKit Go.Proofs.YtlfpjdcogkcjlaaGreatDoor.AL Go.Proofs.YtlfpjdcogkcjlaaGreatDoor.B
set_option linter.unusedVariables false
set_option linter.unusedSimpArgs false
set_option maxRecDepth 20000
attribute [local irreducible] aops acode bindK bindV bindH callX callK condK guardK Kseq Kblk Knorm Kfun Kloop Kjoin outK AWp appendA
attribute [local go_sem] acode_skip acode_seq acode_region acode_cond acode_block acode_exit acode_ret acode_loop Kseq_normal Kseq_exit Kseq_ret Kblk_normal Kblk_ret Kblk_eq Kblk_ne Knorm_eq Kloop_normal Kloop_exit Kloop_ret Kjoin_normal Kjoin_exit Kjoin_ret condK_true condK_false bindK_put bindV_put bindK_no bindV_no bindH_no aops_nil gops wantK_some wantV_bool wantV_undef guardK_true guardK_false guardK_none aops_move aops_assign aops_pick aops_nilCheck aops_binOp aops_unOp aops_convert aops_fieldAddr aops_indexAddr aops_slice aops_index aops_extract aops_makeInterface aops_makeFunc aops_build aops_load aops_lookup aops_alloc aops_box aops_buildSlice aops_makeSlice aops_makeMap aops_store aops_insert aops_mapUpdate aops_len aops_append aops_call opA_tmp opA_const opA_global opA_func get_mk look_nil look_eq look_ne len_mk List.map_cons List.map_nil Option.map_some Option.map_none bin_add bin_sub bin_mul bin_quo bin_rem bin_eql bin_neq bin_lss bin_leq bin_gtr bin_geq bin_cat bin_seql bin_sneq bin_neq_ifc bin_eql_ifc bin_neq_nn bin_eql_nn bin_neq_ptr bin_eql_ptr bin_neq_pn isIfc_true isPtr_true bin_eql2 bin_neq2 aops_max max_int un_not un_neg lenA_K lenK_str lenK_nil lenK_sl lenK_array pick_bool pick_val bindV_ite bindK_ite bindH_ite slotV_sl slotK_some slotV_ptr slotR_some sliceV_sl cutK_some sliceV_str cutS_some bound_none bound_some indexA_str atS_some mkS fieldV_ptr loadV_ptr cellsK_ro cellsK_own loadK_one loadK_many storeA_ptr storeK_own allocA_some heap_len heap_get0 heap_get heap_set0 heap_set Kfun_ret Kfun_normal resA_nil resA_tmp resA_cell outK_some packA_one packA_nil packA_two List.length_cons List.length_nil List.getElem?_cons_zero List.getElem?_cons_succ List.set_cons_zero List.set_cons_succ List.cons_append List.nil_append List.append_assoc Nat.zero_add Nat.add_zero List.all_cons List.all_nil Value.oneCell' Bool.and_true Bool.and_self if_true if_false Bool.false_eq_true partsA buildV buildA fillA Option.bind_some putCells List.drop_succ_cons List.drop_zero List.take_succ_cons List.take_zero List.take_nil List.drop_nil and_self and_true true_and Option.some.injEq ne_eq not_false_eq_true Option.map_map List.getElem?_toArray beq_self_eq_true Bool.true_beq Bool.false_beq Bool.not_true Bool.not_false decide_true decide_false beq_true Nat.mul_one Nat.one_mul Nat.zero_mul bsA buildSliceA zerosN List.append_nil Int.toNat_natCast Int.toNat_zero boxA one_val one_ptr one_sl one_mp one_ifc one_fn avCells_agg avCells_val valCells_true valCells_agg avCells_ptr avCells_sl avCells_mp avCells_ifc avCells_fn app_cons app_nil lookupA insertA ifaceV extractA kd2 ars127 fp127 ars60 fp60 ars31 fp31 eq2_99 eq2_84 eq2_47 fp52 sz2 kd3 sz3 kd4 sz4 kd5 sz5 kd9 sz9 kd22 sz22 el22 kd23 sz23 el23 kd25 sz25 zc25 fp25 fo25_0 fo25_1 fo25_2 fo25_3 fo25_4 fo25_5 fo25_6 fo25_7 fo25_8 fo25_9 fo25_10 fo25_11 fo25_12 fo25_13 fo25_14 fo25_15 fo25_16 fo25_17 kd31 sz31 zc31 ar31 kd32 sz32 el32 kd34 sz34 zc34 fp34 fo34_0 fo34_1 fo34_2 fo34_3 fo34_4 fo34_5 fo34_6 fo34_7 fo34_8 fo34_9 fo34_10 fo34_11 fo34_12 fo34_13 fo34_14 fo34_15 fo34_16 fo34_17 el38 el42 kd47 sz47 zc47 fp47 fo47_0 fo47_1 kd52 sz52 zc52 fo52_0 el55 zc60 kd72 sz72 zc72 fp72 fo72_0 fo72_1 el73 isStrMap76 zv4 kd80 sz80 kd84 sz84 zc84 fp84 fo84_0 fo84_1 kd88 sz88 zc88 fp88 fo88_0 fo88_1 fo88_2 fo88_3 kd91 sz91 zc91 fp91 fo91_0 fo91_1 fo91_2 el94 kd99 sz99 zc99 fp99 fo99_0 fo99_1 kd100 sz100 el100 kd102 sz102 zc102 fp102 fo102_0 fo102_1 fo102_2 fo102_3 fo102_4 fo102_5 fo102_6 fo102_7 fo102_8 fo102_9 fo102_10 fo102_11 fo102_12 fo102_13 fo102_14 fo102_15 kd109 sz109 zc109 fp109 isStrMap124 zv80 zc127 kd153 sz153 zc153 ar153 isIface157 kd159 sz159 zc159 fp159 isStrMap177 zv84 Tryz.underlying3 Tryz.underlying4 Tryz.underlying5 Tryz.underlying9 Tryz.underlying21 Tryz.underlying22 Tryz.underlying23 Tryz.underlying32 Tryz.underlying38 Tryz.underlying42 Tryz.underlying47 Tryz.underlying55 Tryz.underlying67 Tryz.underlying73 Tryz.underlying80 Tryz.underlying84 Tryz.underlying94 Tryz.underlying100 Tryz.underlying2 Tryz.underlying127 Tryz.underlying60 Tryz.underlying31
def eqD (a b : Int × Int) : Bool := decide (a.1 = b.1) && decide (a.2 = b.2)
theorem eqD_iff {a b : Int × Int} : eqD a b = true ↔ a = b := by
  unfold eqD
  rw [Bool.and_eq_true, decide_eq_true_iff, decide_eq_true_iff]
  exact ⟨fun h => Prod.ext h.1 h.2, fun h => by rw [h]; exact ⟨rfl, rfl⟩⟩
def ixD (l : List (Int × Int)) (a : Int × Int) : Int := match l.findIdx? (eqD a) with
  | some i => i
  | none => -1
theorem indexD_A {w0 : World} (l : List (Int × Int)) (hl : l.length ≤ 1000000000) (a : Int × Int) (x : AV) (H : Heap) (hx : DaysAt H x l) : ACalls Tryz.prog (CB w0) 81 [x, vD a] H fun r H' => r = vI (ixD l a) ∧ H' = H := by
  refine ACalls.flat rfl ?_
  refine A_fun (N := 19) (rs := [.tmp 4]) Tryz.func81 rfl rfl rfl (by kernel_rfl) (by kernel_rfl) (Nat.le_of_ble_eq_true rfl) ?_
  rintro e he ⟨g0, g1, -⟩
  have hlen := hx.len 47
  simp only [go_sem, Nat.reduceLT, Nat.reduceBEq, Nat.reduceAdd, Int.reduceBEq, Nat.reduceLeDiff, reduceIte, Nat.reduceEqDiff, Int.reduceEq, Int.reduceLE, Int.reduceLT, Int.reduceNe, Nat.reduceMul, Nat.reduceSub, Int.reduceToNat, he, g0, g1, hlen]
  refine A_while l.length (fun k e h => h = H ++ [.own 47 [vI a.1, vI a.2]] ∧ len e = 19 ∧ AL.get e 0 = x ∧ AL.get e 3 = .ptr H.length 0 ∧ AL.get e 7 = vI l.length ∧ ∃ i : Nat, AL.get e 8 = vI i ∧ i + k = l.length ∧ ∀ (j : Nat) b, j < i → l[j]? = some b → eqD a b = false) (by kernel_rfl) ?_ ?_
  · simp only [go_sem, Nat.reduceLT, Nat.reduceBEq, Nat.reduceAdd, Int.reduceBEq, Nat.reduceLeDiff, reduceIte, Nat.reduceEqDiff, Int.reduceEq, Int.reduceLE, Int.reduceLT, Int.reduceNe, Nat.reduceMul, Nat.reduceSub, Int.reduceToNat, he, g0, g1]
    exact ⟨0, rfl, by omega, fun j b hj => by omega⟩
  · rintro k e h ⟨rfl, he, g0, g3, g7, i, g8, hik, hno⟩
    have wi : IntKind.i64.wrap ((i : Int) + 1) = ((i + 1 : Nat) : Int) := by rw [wI64 (by omega)]; rfl
    simp only [go_sem, Nat.reduceLT, Nat.reduceBEq, Nat.reduceAdd, Int.reduceBEq, Nat.reduceLeDiff, reduceIte, Nat.reduceEqDiff, Int.reduceEq, Int.reduceLE, Int.reduceLT, Int.reduceNe, Nat.reduceMul, Nat.reduceSub, Int.reduceToNat, he, g0, g3, g7, g8]
    refine condK_of (fun hc => ?_) fun hc => ?_
    · have hc := of_decide_eq_true hc
      have hi : i < l.length := by omega
      have hx2 := hx.more [AObj.own 47 [vI a.1, vI a.2]]
      rcases hx2 with ⟨rfl, h0⟩ | ⟨own, o, off, cs, rfl, hcs, hcell⟩
      · omega
      obtain ⟨hd1, hd2⟩ := days_load (H := H) hcell hi
      have hli : l[i]? = some (l.getD i (0, 0)) := by rw [List.getD_eq_getElem?_getD, List.getElem?_eq_getElem hi]; rfl
      generalize l.getD i (0, 0) = b at *
      simp only [go_sem, Nat.reduceLT, Nat.reduceBEq, Nat.reduceAdd, Int.reduceBEq, Nat.reduceLeDiff, reduceIte, Nat.reduceEqDiff, Int.reduceEq, Int.reduceLE, Int.reduceLT, Int.reduceNe, Nat.reduceMul, Nat.reduceSub, Int.reduceToNat, he, g0, g3, g7, g8]
      refine acode_draw mixed (by kernel_rfl) ?_
      simp only [go_sem, Nat.reduceLT, Nat.reduceBEq, Nat.reduceAdd, Int.reduceBEq, Nat.reduceLeDiff, reduceIte, Nat.reduceEqDiff, Int.reduceEq, Int.reduceLE, Int.reduceLT, Int.reduceNe, Nat.reduceMul, Nat.reduceSub, Int.reduceToNat, he, g0, g3, g7, g8, hcs, hd1, hd2, Int.toNat_natCast]
      refine ⟨by omega, condK_of (fun hq => ?_) fun hq => ?_⟩
      · simp only [go_sem, Nat.reduceLT, Nat.reduceBEq, Nat.reduceAdd, Int.reduceBEq, Nat.reduceLeDiff, reduceIte, Nat.reduceEqDiff, Int.reduceEq, Int.reduceLE, Int.reduceLT, Int.reduceNe, Nat.reduceMul, Nat.reduceSub, Int.reduceToNat, he, g0, g3, g7, g8]
        unfold ixD
        rw [findIdx_hit hli hq hno]
        exact ⟨rfl, _, rfl⟩
      · simp only [go_sem, Nat.reduceLT, Nat.reduceBEq, Nat.reduceAdd, Int.reduceBEq, Nat.reduceLeDiff, reduceIte, Nat.reduceEqDiff, Int.reduceEq, Int.reduceLE, Int.reduceLT, Int.reduceNe, Nat.reduceMul, Nat.reduceSub, Int.reduceToNat, he, g0, g3, g7, g8, wi]
        refine ⟨k - 1, by omega, i + 1, rfl, by omega, fun j c hj hjc => ?_⟩
        rcases Nat.lt_or_ge j i with h1 | h1
        · exact hno j c h1 hjc
        · have : j = i := by omega
          subst this
          rw [hli] at hjc
          cases hjc
          exact hq
    · have hc := of_decide_eq_false hc
      simp only [go_sem, Nat.reduceLT, Nat.reduceBEq, Nat.reduceAdd, Int.reduceBEq, Nat.reduceLeDiff, reduceIte, Nat.reduceEqDiff, Int.reduceEq, Int.reduceLE, Int.reduceLT, Int.reduceNe, Nat.reduceMul, Nat.reduceSub, Int.reduceToNat, he, g0, g3, g7, g8]
      unfold ixD
      rw [findIdx_miss fun j b hj => hno j b (by have := (List.getElem?_eq_some_iff.1 hj).1; omega) hj]
      exact ⟨rfl, _, rfl⟩
theorem ixD_mem (l : List (Int × Int)) (a : Int × Int) : decide (0 ≤ ixD l a) = l.contains a := by
  unfold ixD
  cases h : l.findIdx? (eqD a) with
  | some i =>
    obtain ⟨hi, h1, _⟩ := List.findIdx?_eq_some_iff_getElem.1 h
    have h1 := eqD_iff.1 h1
    have : l.contains a = true := by rw [List.contains_iff_mem]; rw [h1]; exact List.getElem_mem hi
    rw [this]
    show decide (0 ≤ (i : Int)) = true
    exact decide_eq_true (by omega)
  | none =>
    have : l.contains a = false := by
      rw [Bool.eq_false_iff]
      intro hc
      have := List.findIdx?_eq_none_iff.1 h a (List.contains_iff_mem.1 hc)
      rw [eqD_iff.2 rfl] at this
      cases this
    rw [this]
    rfl
theorem containsD_A {w0 : World} (l : List (Int × Int)) (hl : l.length ≤ 1000000000) (a : Int × Int) (x : AV) (H : Heap) (hx : DaysAt H x l) : ACalls Tryz.prog (CB w0) 55 [x, vD a] H fun r H' => r = vB (l.contains a) ∧ H' = H := by
  refine ACalls.flat rfl ?_
  refine A_fun (N := 9) (rs := [.tmp 4]) Tryz.func55 rfl rfl rfl (by kernel_rfl) (by kernel_rfl) (Nat.le_of_ble_eq_true rfl) ?_
  rintro e he ⟨g0, g1, -⟩
  simp only [go_sem, Nat.reduceLT, Nat.reduceBEq, Nat.reduceAdd, Int.reduceBEq, Nat.reduceLeDiff, reduceIte, Nat.reduceEqDiff, Int.reduceEq, Int.reduceLE, Int.reduceLT, Int.reduceNe, Nat.reduceMul, Nat.reduceSub, Int.reduceToNat, he, g0, g1]
  refine callX_of (indexD_A l hl a x _ (hx.more _)) (List.prefix_refl _) ?_
  simp only [go_sem, Nat.reduceLT, Nat.reduceBEq, Nat.reduceAdd, Int.reduceBEq, Nat.reduceLeDiff, reduceIte, Nat.reduceEqDiff, Int.reduceEq, Int.reduceLE, Int.reduceLT, Int.reduceNe, Nat.reduceMul, Nat.reduceSub, Int.reduceToNat, he, g0, g1, setD_some]
  rw [ixD_mem]
  exact ⟨rfl, _, rfl⟩
theorem DaysAt.take {H : Heap} {own : Bool} {o off : Nat} {l : List (Int × Int)} (hx : DaysAt H (.sl own o off l.length 2) l) {i : Nat} (hi : i ≤ l.length) : DaysAt H (.sl own o off i 2) (l.take i) := by
  rcases hx with ⟨h, _⟩ | ⟨own', o', off', cs, h, hcs, hcell⟩
  · cases h
  · cases h
    refine .inr ⟨own, o, off, cs, by rw [List.length_take]; congr 1; omega, hcs, fun j hj => ?_⟩
    rw [List.length_take] at hj
    rw [hcell j (by omega)]
    show some (if j % 2 = 0 then vI (l.getD (j / 2) (0, 0)).1 else vI (l.getD (j / 2) (0, 0)).2) = some (if j % 2 = 0 then vI ((l.take i).getD (j / 2) (0, 0)).1 else vI ((l.take i).getD (j / 2) (0, 0)).2)
    have : (l.take i).getD (j / 2) (0, 0) = l.getD (j / 2) (0, 0) := by
      rw [List.getD_eq_getElem?_getD, List.getD_eq_getElem?_getD, List.getElem?_take_of_lt (by omega)]
    rw [this]
/-- How long a rule's lists are. -/
structure RuLen (r : Ru) : Prop where
  setPos : r.setPos.length ≤ 3000000000
  month : r.month.length ≤ 3000000000
  monthDay : r.monthDay.length ≤ 3000000000
  yearDay : r.yearDay.length ≤ 3000000000
  weekNo : r.weekNo.length ≤ 3000000000
  day : r.day.length ≤ 3000000000
  hour : r.hour.length ≤ 3000000000
  minute : r.minute.length ≤ 3000000000
  second : r.second.length ≤ 3000000000
  easter : r.easter.length ≤ 3000000000
def dayed (r : Ru) : Bool := decide (0 < r.monthDay.length + r.yearDay.length + r.weekNo.length + r.day.length + r.easter.length)
def parted (r : Ru) : Bool := dayed r || decide (0 < r.month.length + r.hour.length + r.minute.length + r.second.length)
theorem dayed_A {w0 : World} (r : Ru) (x : Rs) (hl : RuLen r) (H : Heap) (hx : RuAt H r x) : ACalls Tryz.prog (CB w0) 82 [.agg (ruCells r x)] H fun v H' => v = vB (dayed r) ∧ H' = H := by
  refine ACalls.flat rfl ?_
  refine A_fun (N := 23) (rs := [.tmp 2]) Tryz.func82 rfl rfl rfl (by kernel_rfl) (by kernel_rfl) (Nat.le_of_ble_eq_true rfl) ?_
  rintro e he ⟨g0, -⟩
  unfold ruCells at g0
  have h1 := hx.monthDay.len 3
  have h2 := hx.yearDay.len 3
  have h3 := hx.weekNo.len 3
  have h4 := hx.day.len 47
  have h5 := hx.easter.len 3
  obtain ⟨l1, l2, l3, l4, l5, l6, l7, l8, l9, l10⟩ := hl
  simp only [go_sem, Nat.reduceLT, Nat.reduceBEq, Nat.reduceAdd, Int.reduceBEq, Nat.reduceLeDiff, reduceIte, Nat.reduceEqDiff, Int.reduceEq, Int.reduceLE, Int.reduceLT, Int.reduceNe, Nat.reduceMul, Nat.reduceSub, Int.reduceToNat, he, g0, hx.setPos.one, hx.month.one, hx.monthDay.one, hx.yearDay.one, hx.weekNo.one, hx.day.one, hx.hour.one, hx.minute.one, hx.second.one, hx.easter.one, h1, h2, h3, h4, h5]
  rw [wI64 (n := (r.monthDay.length : Int) + r.yearDay.length) (by omega), wI64 (n := (r.monthDay.length : Int) + r.yearDay.length + r.weekNo.length) (by omega), wI64 (n := (r.monthDay.length : Int) + r.yearDay.length + r.weekNo.length + r.day.length) (by omega), wI64 (n := (r.monthDay.length : Int) + r.yearDay.length + r.weekNo.length + r.day.length + r.easter.length) (by omega)]
  refine ⟨?_, _, rfl⟩
  show vB _ = vB (decide _)
  exact congrArg vB (decide_eq_decide.2 (by omega))
theorem parted_A {w0 : World} (r : Ru) (x : Rs) (hl : RuLen r) (H : Heap) (hx : RuAt H r x) : ACalls Tryz.prog (CB w0) 56 [.agg (ruCells r x)] H fun v H' => v = vB (parted r) ∧ H' = H := by
  refine ACalls.flat rfl ?_
  refine A_fun (N := 23) (rs := [.tmp 2]) Tryz.func56 rfl rfl rfl (by kernel_rfl) (by kernel_rfl) (Nat.le_of_ble_eq_true rfl) ?_
  rintro e he ⟨g0, -⟩
  have h1 := hx.month.len 3
  have h2 := hx.hour.len 3
  have h3 := hx.minute.len 3
  have h4 := hx.second.len 3
  have g0' := g0
  unfold ruCells at g0
  simp only [go_sem, Nat.reduceLT, Nat.reduceBEq, Nat.reduceAdd, Int.reduceBEq, Nat.reduceLeDiff, reduceIte, Nat.reduceEqDiff, Int.reduceEq, Int.reduceLE, Int.reduceLT, Int.reduceNe, Nat.reduceMul, Nat.reduceSub, Int.reduceToNat, he, g0, hx.setPos.one, hx.month.one, hx.monthDay.one, hx.yearDay.one, hx.weekNo.one, hx.day.one, hx.hour.one, hx.minute.one, hx.second.one, hx.easter.one, h1, h2, h3, h4]
  refine callX_of (dayed_A r x hl _ (hx.more _)) (List.prefix_refl _) ?_
  obtain ⟨l1, l2, l3, l4, l5, l6, l7, l8, l9, l10⟩ := hl
  unfold parted
  cases hd : dayed r with
  | true =>
    simp only [go_sem, Nat.reduceLT, Nat.reduceBEq, Nat.reduceAdd, Int.reduceBEq, Nat.reduceLeDiff, reduceIte, Nat.reduceEqDiff, Int.reduceEq, Int.reduceLE, Int.reduceLT, Int.reduceNe, Nat.reduceMul, Nat.reduceSub, Int.reduceToNat, he, setD_some, Bool.true_or]
    exact ⟨_, rfl⟩
  | false =>
    simp only [go_sem, Nat.reduceLT, Nat.reduceBEq, Nat.reduceAdd, Int.reduceBEq, Nat.reduceLeDiff, reduceIte, Nat.reduceEqDiff, Int.reduceEq, Int.reduceLE, Int.reduceLT, Int.reduceNe, Nat.reduceMul, Nat.reduceSub, Int.reduceToNat, he, setD_some, Bool.false_or, h1, h2, h3, h4]
    rw [wI64 (n := (r.month.length : Int) + r.hour.length) (by omega), wI64 (n := (r.month.length : Int) + r.hour.length + r.minute.length) (by omega), wI64 (n := (r.month.length : Int) + r.hour.length + r.minute.length + r.second.length) (by omega)]
    refine ⟨?_, _, rfl⟩
    exact congrArg vB (decide_eq_decide.2 (by omega))
end Go.Proofs.YtlfpjdcogkcjlaaGreatDoor.F
