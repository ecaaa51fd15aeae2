/- The calendar's functions. -/
import Derived.Test.YtlfpjdcogkcjlaaGreatDoorT2
namespace Go.Proofs.YtlfpjdcogkcjlaaGreatDoor.F
open Go.RowKit Go.Proofs.YtlfpjdcogkcjlaaGreatDoor.AL Go.Proofs.YtlfpjdcogkcjlaaGreatDoor.B
set_option linter.unusedVariables false
set_option linter.unusedSimpArgs false
set_option maxRecDepth 20000
attribute [local irreducible] aops acode bindK bindV bindH callX callK condK guardK Kseq Kblk Knorm Kfun Kloop Kjoin outK AWp appendA
attribute [local go_sem] acode_skip acode_seq acode_region acode_cond acode_block acode_exit acode_ret acode_loop Kseq_normal Kseq_exit Kseq_ret Kblk_normal Kblk_ret Kblk_eq Kblk_ne Knorm_eq Kloop_normal Kloop_exit Kloop_ret Kjoin_normal Kjoin_exit Kjoin_ret condK_true condK_false bindK_put bindV_put bindK_no bindV_no bindH_no aops_nil gops wantK_some wantV_bool wantV_undef guardK_true guardK_false guardK_none aops_move aops_assign aops_pick aops_nilCheck aops_binOp aops_unOp aops_convert aops_fieldAddr aops_indexAddr aops_slice aops_index aops_extract aops_makeInterface aops_makeFunc aops_build aops_load aops_lookup aops_alloc aops_box aops_buildSlice aops_makeSlice aops_makeMap aops_store aops_insert aops_mapUpdate aops_len aops_append aops_call opA_tmp opA_const opA_global opA_func get_mk look_nil look_eq look_ne len_mk List.map_cons List.map_nil Option.map_some Option.map_none bin_add bin_sub bin_mul bin_quo bin_rem bin_eql bin_neq bin_lss bin_leq bin_gtr bin_geq bin_cat bin_seql bin_sneq bin_neq_ifc bin_eql_ifc bin_neq_nn bin_eql_nn bin_neq_ptr bin_eql_ptr bin_neq_pn isIfc_true isPtr_true bin_eql2 bin_neq2 aops_max max_int un_not un_neg lenA_K lenK_str lenK_nil lenK_sl lenK_array pick_bool pick_val bindV_ite bindK_ite bindH_ite slotV_sl slotK_some slotV_ptr slotR_some sliceV_sl cutK_some sliceV_str cutS_some bound_none bound_some indexA_str atS_some mkS fieldV_ptr loadV_ptr cellsK_ro cellsK_own loadK_one loadK_many storeA_ptr storeK_own allocA_some heap_len heap_get0 heap_get heap_set0 heap_set Kfun_ret Kfun_normal resA_nil resA_tmp resA_cell outK_some packA_one packA_nil packA_two List.length_cons List.length_nil List.getElem?_cons_zero List.getElem?_cons_succ List.set_cons_zero List.set_cons_succ List.cons_append List.nil_append List.append_assoc Nat.zero_add Nat.add_zero List.all_cons List.all_nil Value.oneCell' Bool.and_true Bool.and_self if_true if_false Bool.false_eq_true partsA buildV buildA fillA Option.bind_some putCells List.drop_succ_cons List.drop_zero List.take_succ_cons List.take_zero List.take_nil List.drop_nil and_self and_true true_and Option.some.injEq ne_eq not_false_eq_true Option.map_map List.getElem?_toArray beq_self_eq_true Bool.true_beq Bool.false_beq Bool.not_true Bool.not_false decide_true decide_false beq_true Nat.mul_one Nat.one_mul Nat.zero_mul bsA buildSliceA zerosN List.append_nil Int.toNat_natCast Int.toNat_zero boxA one_val one_ptr one_sl one_mp one_ifc one_fn avCells_agg avCells_val valCells_true valCells_agg avCells_ptr avCells_sl avCells_mp avCells_ifc avCells_fn app_cons app_nil lookupA insertA ifaceV extractA kd2 ars127 fp127 ars60 fp60 ars31 fp31 eq2_99 eq2_84 eq2_47 fp52 sz2 kd3 sz3 kd4 sz4 kd5 sz5 kd9 sz9 kd22 sz22 el22 kd23 sz23 el23 kd25 sz25 zc25 fp25 fo25_0 fo25_1 fo25_2 fo25_3 fo25_4 fo25_5 fo25_6 fo25_7 fo25_8 fo25_9 fo25_10 fo25_11 fo25_12 fo25_13 fo25_14 fo25_15 fo25_16 fo25_17 kd31 sz31 zc31 ar31 kd32 sz32 el32 kd34 sz34 zc34 fp34 fo34_0 fo34_1 fo34_2 fo34_3 fo34_4 fo34_5 fo34_6 fo34_7 fo34_8 fo34_9 fo34_10 fo34_11 fo34_12 fo34_13 fo34_14 fo34_15 fo34_16 fo34_17 el38 el42 kd47 sz47 zc47 fp47 fo47_0 fo47_1 kd52 sz52 zc52 fo52_0 el55 zc60 kd72 sz72 zc72 fp72 fo72_0 fo72_1 el73 isStrMap76 zv4 kd80 sz80 kd84 sz84 zc84 fp84 fo84_0 fo84_1 kd88 sz88 zc88 fp88 fo88_0 fo88_1 fo88_2 fo88_3 kd91 sz91 zc91 fp91 fo91_0 fo91_1 fo91_2 el94 kd99 sz99 zc99 fp99 fo99_0 fo99_1 kd100 sz100 el100 kd102 sz102 zc102 fp102 fo102_0 fo102_1 fo102_2 fo102_3 fo102_4 fo102_5 fo102_6 fo102_7 fo102_8 fo102_9 fo102_10 fo102_11 fo102_12 fo102_13 fo102_14 fo102_15 kd109 sz109 zc109 fp109 isStrMap124 zv80 zc127 kd153 sz153 zc153 ar153 isIface157 kd159 sz159 zc159 fp159 isStrMap177 zv84 Tryz.underlying3 Tryz.underlying4 Tryz.underlying5 Tryz.underlying9 Tryz.underlying21 Tryz.underlying22 Tryz.underlying23 Tryz.underlying32 Tryz.underlying38 Tryz.underlying42 Tryz.underlying47 Tryz.underlying55 Tryz.underlying67 Tryz.underlying73 Tryz.underlying80 Tryz.underlying84 Tryz.underlying94 Tryz.underlying100 Tryz.underlying2 Tryz.underlying127 Tryz.underlying60 Tryz.underlying31
/-- Is a year a leap year? -/
def leap (y : Int) : Bool := decide (y % 4 = 0) && (decide (y % 100 ≠ 0) || decide (y % 400 = 0))
theorem leap_A {w0 : World} (y : Int) (h0 : 0 ≤ y) (H : Heap) : ACalls Tryz.prog (CB w0) 97 [vI y] H fun r H' => r = vB (leap y) ∧ H' = H := by
  refine A_fun (N := 16) (rs := [.tmp 2]) Tryz.func97 rfl rfl rfl (by kernel_rfl) (by kernel_rfl) (Nat.le_of_ble_eq_true rfl) ?_
  rintro e he ⟨g0, -⟩
  have e4 : y.tmod 4 = y % 4 := Int.tmod_eq_emod_of_nonneg h0
  have e1 : y.tmod 100 = y % 100 := Int.tmod_eq_emod_of_nonneg h0
  have e2 : y.tmod 400 = y % 400 := Int.tmod_eq_emod_of_nonneg h0
  by_cases c4 : y % 4 = 0
  · by_cases c1 : y % 100 = 0
    · simp only [go_sem, Nat.reduceLT, Nat.reduceBEq, Nat.reduceAdd, Int.reduceBEq, Nat.reduceLeDiff, reduceIte, Nat.reduceEqDiff, Int.reduceEq, Int.reduceLE, Int.reduceLT, Int.reduceNe, Nat.reduceMul, Nat.reduceSub, Int.reduceToNat, he, g0, e4, e1, e2, c4, c1]
      simp [leap, c4, c1]
    · simp only [go_sem, Nat.reduceLT, Nat.reduceBEq, Nat.reduceAdd, Int.reduceBEq, Nat.reduceLeDiff, reduceIte, Nat.reduceEqDiff, Int.reduceEq, Int.reduceLE, Int.reduceLT, Int.reduceNe, Nat.reduceMul, Nat.reduceSub, Int.reduceToNat, he, g0, e4, e1, e2, c4, c1]
      simp [leap, c4, c1]
  · simp only [go_sem, Nat.reduceLT, Nat.reduceBEq, Nat.reduceAdd, Int.reduceBEq, Nat.reduceLeDiff, reduceIte, Nat.reduceEqDiff, Int.reduceEq, Int.reduceLE, Int.reduceLT, Int.reduceNe, Nat.reduceMul, Nat.reduceSub, Int.reduceToNat, he, g0, e4, c4]
    simp [leap, c4]
def monthDays (y m : Int) : Int := if m = 4 ∨ m = 6 ∨ m = 9 ∨ m = 11 then 30 else if m = 2 then (if leap y then 29 else 28) else 31
theorem monthDays_A {w0 : World} (y m : Int) (h0 : 0 ≤ y) (H : Heap) : ACalls Tryz.prog (CB w0) 73 [vI y, vI m] H fun r H' => r = vI (monthDays y m) ∧ H' = H := by
  refine A_fun (N := 15) (rs := [.tmp 4]) Tryz.func73 rfl rfl rfl (by kernel_rfl) (by kernel_rfl) (Nat.le_of_ble_eq_true rfl) ?_
  rintro e he ⟨g0, g1, -⟩
  unfold monthDays
  by_cases a4 : m = 4
  · simp only [go_sem, Nat.reduceLT, Nat.reduceBEq, Nat.reduceAdd, Int.reduceBEq, Nat.reduceLeDiff, reduceIte, Nat.reduceEqDiff, Int.reduceEq, Int.reduceLE, Int.reduceLT, Int.reduceNe, Nat.reduceMul, Nat.reduceSub, Int.reduceToNat, he, g0, g1, a4, true_or]
  by_cases a6 : m = 6
  · simp only [go_sem, Nat.reduceLT, Nat.reduceBEq, Nat.reduceAdd, Int.reduceBEq, Nat.reduceLeDiff, reduceIte, Nat.reduceEqDiff, Int.reduceEq, Int.reduceLE, Int.reduceLT, Int.reduceNe, Nat.reduceMul, Nat.reduceSub, Int.reduceToNat, he, g0, g1, a6, true_or, or_true]
  by_cases a9 : m = 9
  · simp only [go_sem, Nat.reduceLT, Nat.reduceBEq, Nat.reduceAdd, Int.reduceBEq, Nat.reduceLeDiff, reduceIte, Nat.reduceEqDiff, Int.reduceEq, Int.reduceLE, Int.reduceLT, Int.reduceNe, Nat.reduceMul, Nat.reduceSub, Int.reduceToNat, he, g0, g1, a9, true_or, or_true]
  by_cases a11 : m = 11
  · simp only [go_sem, Nat.reduceLT, Nat.reduceBEq, Nat.reduceAdd, Int.reduceBEq, Nat.reduceLeDiff, reduceIte, Nat.reduceEqDiff, Int.reduceEq, Int.reduceLE, Int.reduceLT, Int.reduceNe, Nat.reduceMul, Nat.reduceSub, Int.reduceToNat, he, g0, g1, a11, true_or, or_true]
  by_cases a2 : m = 2
  · simp only [go_sem, Nat.reduceLT, Nat.reduceBEq, Nat.reduceAdd, Int.reduceBEq, Nat.reduceLeDiff, reduceIte, Nat.reduceEqDiff, Int.reduceEq, Int.reduceLE, Int.reduceLT, Int.reduceNe, Nat.reduceMul, Nat.reduceSub, Int.reduceToNat, he, g0, g1, a2, or_false, if_false]
    refine callX_of (leap_A y h0 H) (List.prefix_refl _) ?_
    simp only [go_sem, Nat.reduceLT, Nat.reduceBEq, Nat.reduceAdd, Int.reduceBEq, Nat.reduceLeDiff, reduceIte, Nat.reduceEqDiff, Int.reduceEq, Int.reduceLE, Int.reduceLT, Int.reduceNe, Nat.reduceMul, Nat.reduceSub, Int.reduceToNat, he, setD_some]
    cases leap y <;> simp only [go_sem, Nat.reduceLT, Nat.reduceBEq, Nat.reduceAdd, Int.reduceBEq, Nat.reduceLeDiff, reduceIte, Nat.reduceEqDiff, Int.reduceEq, Int.reduceLE, Int.reduceLT, Int.reduceNe, Nat.reduceMul, Nat.reduceSub, Int.reduceToNat, he, if_false, Bool.false_eq_true]
  simp only [go_sem, Nat.reduceLT, Nat.reduceBEq, Nat.reduceAdd, Int.reduceBEq, Nat.reduceLeDiff, reduceIte, Nat.reduceEqDiff, Int.reduceEq, Int.reduceLE, Int.reduceLT, Int.reduceNe, Nat.reduceMul, Nat.reduceSub, Int.reduceToNat, he, g0, g1, a4, a6, a9, a11, a2, or_false, if_false]
/-- The days before a year. -/
def before (y : Int) : Int := 365 * (y - 1) + (y - 1) / 4 - (y - 1) / 100 + (y - 1) / 400
theorem before_A {w0 : World} (y : Int) (h0 : 1 ≤ y) (h1 : y ≤ 1000000000000) (H : Heap) : ACalls Tryz.prog (CB w0) 24 [vI y] H fun r H' => r = vI (before y) ∧ H' = H := by
  refine A_fun (N := 17) (rs := [.tmp 2]) Tryz.func24 rfl rfl rfl (by kernel_rfl) (by kernel_rfl) (Nat.le_of_ble_eq_true rfl) ?_
  rintro e he ⟨g0, -⟩
  have w1 : IntKind.i64.wrap (y - 1) = y - 1 := wI64 (by omega)
  have t4 : (y - 1).tdiv 4 = (y - 1) / 4 := Int.tdiv_eq_ediv_of_nonneg (by omega)
  have t1 : (y - 1).tdiv 100 = (y - 1) / 100 := Int.tdiv_eq_ediv_of_nonneg (by omega)
  have t2 : (y - 1).tdiv 400 = (y - 1) / 400 := Int.tdiv_eq_ediv_of_nonneg (by omega)
  simp only [go_sem, Nat.reduceLT, Nat.reduceBEq, Nat.reduceAdd, Int.reduceBEq, Nat.reduceLeDiff, reduceIte, Nat.reduceEqDiff, Int.reduceEq, Int.reduceLE, Int.reduceLT, Int.reduceNe, Nat.reduceMul, Nat.reduceSub, Int.reduceToNat, he, g0, w1, t4, t1, t2]
  rw [wI64 (n := 365 * (y - 1)) (by omega), wI64 (n := (y - 1) / 4) (by omega), wI64 (n := (y - 1) / 100) (by omega), wI64 (n := (y - 1) / 400) (by omega), wI64 (n := 365 * (y - 1) + (y - 1) / 4) (by omega), wI64 (n := 365 * (y - 1) + (y - 1) / 4 - (y - 1) / 100) (by omega), wI64 (by omega)]
  rfl
/-- The year of a day, from a year on. -/
def yearUp (n : Int) : Nat → Int → Int
  | 0, y => y
  | k + 1, y => if before (y + 1) ≤ n then yearUp n k (y + 1) else y
def monthUp (y : Int) : Nat → Int → Int → Int × Int
  | 0, m, d => (m, d)
  | k + 1, m, d => if monthDays y m < d then monthUp y k (m + 1) (d - monthDays y m) else (m, d)
def yearOf (n : Int) : Int := yearUp n (n.toNat + 1) (n / 366 + 1)
def dayOf (n : Int) : Int × Int := monthUp (yearOf n) 400 1 (n - before (yearOf n) + 1)
theorem yearUp_done {n y : Int} (h : ¬ before (y + 1) ≤ n) : ∀ k, yearUp n k y = y
  | 0 => rfl
  | k + 1 => by rw [yearUp, if_neg h]
theorem monthUp_done {y m d : Int} (h : ¬ monthDays y m < d) : ∀ k, monthUp y k m d = (m, d)
  | 0 => rfl
  | k + 1 => by rw [monthUp, if_neg h]
theorem before_big {y : Int} (h : 1 ≤ y) : y - 1 ≤ before y := by unfold before; omega
theorem before_step (y : Int) : before (y + 1) ≤ before y + 367 := by unfold before; omega
theorem monthDays_pos (y m : Int) : 28 ≤ monthDays y m ∧ monthDays y m ≤ 31 := by unfold monthDays; split <;> (try split) <;> (try split) <;> omega
theorem dayOf_A {w0 : World} (n : Int) (h0 : 0 ≤ n) (h1 : n ≤ 100000000) (H : Heap) : ACalls Tryz.prog (CB w0) 46 [vI n] H fun r H' => r = .agg [vI (yearOf n), vI (dayOf n).1, vI (dayOf n).2] ∧ ∃ G, H' = H ++ G := by
  refine A_fun (N := 42) (rs := [.cell 2 91]) Tryz.func46 rfl rfl rfl (by kernel_rfl) (by kernel_rfl) (Nat.le_of_ble_eq_true rfl) ?_
  rintro e he ⟨g0, -⟩
  have t1 : n.tdiv 366 = n / 366 := Int.tdiv_eq_ediv_of_nonneg h0
  have w1 : IntKind.i64.wrap (n / 366) = n / 366 := wI64 (by omega)
  have w2 : IntKind.i64.wrap (n / 366 + 1) = n / 366 + 1 := wI64 (by omega)
  simp only [go_sem, Nat.reduceLT, Nat.reduceBEq, Nat.reduceAdd, Int.reduceBEq, Nat.reduceLeDiff, reduceIte, Nat.reduceEqDiff, Int.reduceEq, Int.reduceLE, Int.reduceLT, Int.reduceNe, Nat.reduceMul, Nat.reduceSub, Int.reduceToNat, he, g0, t1, w1, w2]
  refine A_while (n.toNat + 1) (fun k e h => h = H ++ [.own 91 [vI 0, vI 0, vI 0]] ∧ len e = 42 ∧ AL.get e 0 = vI n ∧ AL.get e 2 = .ptr H.length 0 ∧ ∃ y : Int, AL.get e 3 = vI y ∧ yearUp n k y = yearOf n ∧ n + 1 ≤ y + k ∧ 1 ≤ y ∧ y ≤ n + 1 ∧ before y ≤ n) (by kernel_rfl) ?_ ?_
  · simp only [go_sem, Nat.reduceLT, Nat.reduceBEq, Nat.reduceAdd, Int.reduceBEq, Nat.reduceLeDiff, reduceIte, Nat.reduceEqDiff, Int.reduceEq, Int.reduceLE, Int.reduceLT, Int.reduceNe, Nat.reduceMul, Nat.reduceSub, Int.reduceToNat, he, g0]
    exact ⟨_, rfl, rfl, by omega, by omega, by omega, by unfold before; omega⟩
  · rintro k e h ⟨rfl, he, g0, g2, y, g3, hk, hm, hy, hy2, hbn⟩
    have w1 : IntKind.i64.wrap (y + 1) = y + 1 := wI64 (by omega)
    simp only [go_sem, Nat.reduceLT, Nat.reduceBEq, Nat.reduceAdd, Int.reduceBEq, Nat.reduceLeDiff, reduceIte, Nat.reduceEqDiff, Int.reduceEq, Int.reduceLE, Int.reduceLT, Int.reduceNe, Nat.reduceMul, Nat.reduceSub, Int.reduceToNat, he, g0, g2, g3, w1]
    refine callX_of (before_A (y + 1) (by omega) (by omega) _) (List.prefix_refl _) ?_
    simp only [go_sem, Nat.reduceLT, Nat.reduceBEq, Nat.reduceAdd, Int.reduceBEq, Nat.reduceLeDiff, reduceIte, Nat.reduceEqDiff, Int.reduceEq, Int.reduceLE, Int.reduceLT, Int.reduceNe, Nat.reduceMul, Nat.reduceSub, Int.reduceToNat, he, g0, g2, g3, w1, setD_some]
    refine condK_of (fun hc => ?_) fun hc => ?_
    · have hc := of_decide_eq_true hc
      have hb := before_big (y := y + 1) (by omega)
      simp only [go_sem, Nat.reduceLT, Nat.reduceBEq, Nat.reduceAdd, Int.reduceBEq, Nat.reduceLeDiff, reduceIte, Nat.reduceEqDiff, Int.reduceEq, Int.reduceLE, Int.reduceLT, Int.reduceNe, Nat.reduceMul, Nat.reduceSub, Int.reduceToNat, he, g0, g2, g3, w1]
      obtain ⟨j, rfl⟩ : ∃ j, k = j + 1 := ⟨k - 1, by omega⟩
      rw [yearUp, if_pos hc] at hk
      exact ⟨j, by omega, _, rfl, hk, by omega, by omega, by omega, hc⟩
    · have hc := of_decide_eq_false hc
      rw [yearUp_done hc] at hk
      subst hk
      simp only [go_sem, Nat.reduceLT, Nat.reduceBEq, Nat.reduceAdd, Int.reduceBEq, Nat.reduceLeDiff, reduceIte, Nat.reduceEqDiff, Int.reduceEq, Int.reduceLE, Int.reduceLT, Int.reduceNe, Nat.reduceMul, Nat.reduceSub, Int.reduceToNat, he, g0, g2, g3, w1]
      refine callX_of (before_A (yearOf n) (by omega) (by omega) _) (List.prefix_refl _) ?_
      have hb0 := before_big hy
      have hd : n - before (yearOf n) + 1 ≤ 367 := by have := before_step (yearOf n); omega
      have w3 : IntKind.i64.wrap (n - before (yearOf n)) = n - before (yearOf n) := wI64 (by omega)
      have w4 : IntKind.i64.wrap (n - before (yearOf n) + 1) = n - before (yearOf n) + 1 := wI64 (by omega)
      simp only [go_sem, Nat.reduceLT, Nat.reduceBEq, Nat.reduceAdd, Int.reduceBEq, Nat.reduceLeDiff, reduceIte, Nat.reduceEqDiff, Int.reduceEq, Int.reduceLE, Int.reduceLT, Int.reduceNe, Nat.reduceMul, Nat.reduceSub, Int.reduceToNat, he, g0, g2, g3, w1, w3, w4, setD_some, List.replicate]
      generalize hY : yearOf n = y at *
      refine A_while 400 (fun k e h => ∃ m d : Int, h = H ++ [.own 91 [vI 0, vI 0, vI 0], .own 91 [vI y, vI m, vI d]] ∧ len e = 42 ∧ AL.get e 2 = .ptr H.length 0 ∧ AL.get e 3 = vI y ∧ AL.get e 4 = .ptr (H.length + 1) 0 ∧ monthUp y k m d = dayOf n ∧ d ≤ 28 * k ∧ 1 ≤ m ∧ m + k ≤ 401) (by kernel_rfl) ?_ ?_
      · simp only [go_sem, Nat.reduceLT, Nat.reduceBEq, Nat.reduceAdd, Int.reduceBEq, Nat.reduceLeDiff, reduceIte, Nat.reduceEqDiff, Int.reduceEq, Int.reduceLE, Int.reduceLT, Int.reduceNe, Nat.reduceMul, Nat.reduceSub, Int.reduceToNat, he, g2, g3]
        exact ⟨1, n - before y + 1, rfl, by unfold dayOf; rw [hY], by omega, by omega, by omega⟩
      · rintro k e h ⟨m, d, rfl, he, g2, g3, g4, hk, hd, hm, hmk⟩
        have hp := monthDays_pos y m
        simp only [go_sem, Nat.reduceLT, Nat.reduceBEq, Nat.reduceAdd, Int.reduceBEq, Nat.reduceLeDiff, reduceIte, Nat.reduceEqDiff, Int.reduceEq, Int.reduceLE, Int.reduceLT, Int.reduceNe, Nat.reduceMul, Nat.reduceSub, Int.reduceToNat, he, g2, g3, g4]
        refine acode_draw mixed (by kernel_rfl) ?_
        simp only [go_sem, Nat.reduceLT, Nat.reduceBEq, Nat.reduceAdd, Int.reduceBEq, Nat.reduceLeDiff, reduceIte, Nat.reduceEqDiff, Int.reduceEq, Int.reduceLE, Int.reduceLT, Int.reduceNe, Nat.reduceMul, Nat.reduceSub, Int.reduceToNat, he, g2, g3, g4]
        refine callX_of (monthDays_A y m (by omega) _) (List.prefix_refl _) ?_
        simp only [go_sem, Nat.reduceLT, Nat.reduceBEq, Nat.reduceAdd, Int.reduceBEq, Nat.reduceLeDiff, reduceIte, Nat.reduceEqDiff, Int.reduceEq, Int.reduceLE, Int.reduceLT, Int.reduceNe, Nat.reduceMul, Nat.reduceSub, Int.reduceToNat, he, g2, g3, g4, setD_some]
        refine condK_of (fun hc => ?_) fun hc => ?_
        · have hc := of_decide_eq_true hc
          simp only [go_sem, Nat.reduceLT, Nat.reduceBEq, Nat.reduceAdd, Int.reduceBEq, Nat.reduceLeDiff, reduceIte, Nat.reduceEqDiff, Int.reduceEq, Int.reduceLE, Int.reduceLT, Int.reduceNe, Nat.reduceMul, Nat.reduceSub, Int.reduceToNat, he, g2, g3, g4]
          refine acode_draw mixed (by kernel_rfl) ?_
          simp only [go_sem, Nat.reduceLT, Nat.reduceBEq, Nat.reduceAdd, Int.reduceBEq, Nat.reduceLeDiff, reduceIte, Nat.reduceEqDiff, Int.reduceEq, Int.reduceLE, Int.reduceLT, Int.reduceNe, Nat.reduceMul, Nat.reduceSub, Int.reduceToNat, he, g2, g3, g4]
          refine callX_of (monthDays_A y m (by omega) _) (List.prefix_refl _) ?_
          simp only [go_sem, Nat.reduceLT, Nat.reduceBEq, Nat.reduceAdd, Int.reduceBEq, Nat.reduceLeDiff, reduceIte, Nat.reduceEqDiff, Int.reduceEq, Int.reduceLE, Int.reduceLT, Int.reduceNe, Nat.reduceMul, Nat.reduceSub, Int.reduceToNat, he, g2, g3, g4, setD_some]
          rw [wI64 (n := m + 1) (by omega), wI64 (n := d - monthDays y m) (by omega)]
          obtain ⟨j, rfl⟩ : ∃ j, k = j + 1 := ⟨k - 1, by omega⟩
          rw [monthUp, if_pos hc] at hk
          exact ⟨j, by omega, _, _, rfl, hk, by omega, by omega, by omega⟩
        · have hc := of_decide_eq_false hc
          rw [monthUp_done hc] at hk
          rw [← hk]
          simp only [go_sem, Nat.reduceLT, Nat.reduceBEq, Nat.reduceAdd, Int.reduceBEq, Nat.reduceLeDiff, reduceIte, Nat.reduceEqDiff, Int.reduceEq, Int.reduceLE, Int.reduceLT, Int.reduceNe, Nat.reduceMul, Nat.reduceSub, Int.reduceToNat, he, g2, g3, g4]
          exact ⟨_, rfl⟩
theorem momentOf_P {w0 : World} (t : Int) (h0 : 0 ≤ t) (h1 : t ≤ 9223372036854775807) (H : Heap) : ACalls Tryz.prog (CB w0) 45 [vI t] H fun r H' => r = .agg [vI (t / 86400), vI (t % 86400 / 3600), vI (t % 86400 / 60 % 60), vI (t % 86400 % 60)] ∧ H' = H :=
  (momentOf_A w0 t h0 h1 H).plain1 rfl
theorem dayOf_P {w0 : World} (n : Int) (h0 : 0 ≤ n) (h1 : n ≤ 100000000) (H : Heap) : ACalls Tryz.prog (CB w0) 46 [vI n] H fun r H' => r = .agg [vI (yearOf n), vI (dayOf n).1, vI (dayOf n).2] ∧ H' = H :=
  (dayOf_A n h0 h1 H).plain1 rfl
/-- spec.DateText -/
def dateText (t : Int) : List UInt8 :=
  padded (yearOf (t / 86400)) 4 ++ padded (dayOf (t / 86400)).1 2 ++ padded (dayOf (t / 86400)).2 2 ++ [84] ++ padded (t % 86400 / 3600) 2 ++ padded (t % 86400 / 60 % 60) 2 ++ padded (t % 86400 % 60) 2 ++ [90]
theorem padTo_length (d : Nat) : ∀ (k : Nat) (l : List UInt8), (padTo d l k).length ≤ max d l.length
  | 0, l => by simp [padTo]; omega
  | k + 1, l => by
    unfold padTo
    split
    · have := padTo_length d k (48 :: l)
      simp only [List.length_cons] at this
      omega
    · omega
theorem yearUp_le {n : Int} : ∀ (k : Nat) (y : Int), before y ≤ n → 1 ≤ y → before (yearUp n k y) ≤ n ∧ y ≤ yearUp n k y ∧ yearUp n k y ≤ y + k
  | 0, y, h, h1 => ⟨h, by simp [yearUp], by simp [yearUp]⟩
  | k + 1, y, h, h1 => by
    unfold yearUp
    split
    · rename_i hc
      have := yearUp_le k (y + 1) hc (by omega)
      omega
    · omega
theorem yearOf_ok {n : Int} (h : 0 ≤ n) : before (yearOf n) ≤ n ∧ 1 ≤ yearOf n ∧ yearOf n ≤ 2 * n + 2 := by
  have := yearUp_le (n := n) (n.toNat + 1) (n / 366 + 1) (by unfold before; omega) (by omega)
  unfold yearOf
  omega
theorem monthUp_ok (y : Int) : ∀ (k : Nat) (m d : Int), 1 ≤ d → m ≤ (monthUp y k m d).1 ∧ (monthUp y k m d).1 ≤ m + k ∧ 1 ≤ (monthUp y k m d).2 ∧ (monthUp y k m d).2 ≤ d
  | 0, m, d, h => by simp [monthUp]; omega
  | k + 1, m, d, h => by
    have hp := monthDays_pos y m
    unfold monthUp
    split
    · rename_i hc
      have := monthUp_ok y k (m + 1) (d - monthDays y m) (by omega)
      omega
    · simp only; omega
theorem dayOf_ok {n : Int} (h : 0 ≤ n) : 1 ≤ (dayOf n).1 ∧ (dayOf n).1 ≤ 401 ∧ 1 ≤ (dayOf n).2 ∧ (dayOf n).2 ≤ n + 1 := by
  have h1 := yearOf_ok h
  have h2 := before_big h1.2.1
  have := monthUp_ok (yearOf n) 400 1 (n - before (yearOf n) + 1) (by omega)
  unfold dayOf
  omega
theorem padded_length (n : Int) (d : Int) (h0 : -9223372036854775808 ≤ n) (h1 : n ≤ 9223372036854775807) (hd : d ≤ 100) : (padded n d).length ≤ 100 := by
  have := padTo_length d.toNat d.toNat (Lib.itoa n)
  have := Lib.itoa_length_le n h0 h1
  unfold padded
  omega
theorem dateText_A {w0 : World} (hG : Glob w0) (t : Int) (h0 : 0 ≤ t) (h1 : t ≤ 1000000000000) (H : Heap) : ACalls Tryz.prog (CB w0) 25 [vI t] H fun r H' => r = vS (dateText t) ∧ H' = H := by
  refine ACalls.plain1 rfl ?_
  refine A_fun (N := 35) (rs := [.tmp 2]) Tryz.func25 rfl rfl rfl (by kernel_rfl) (by kernel_rfl) (Nat.le_of_ble_eq_true rfl) ?_
  rintro e he ⟨g0, -⟩
  simp only [go_sem, Nat.reduceLT, Nat.reduceBEq, Nat.reduceAdd, Int.reduceBEq, Nat.reduceLeDiff, reduceIte, Nat.reduceEqDiff, Int.reduceEq, Int.reduceLE, Int.reduceLT, Int.reduceNe, Nat.reduceMul, Nat.reduceSub, Int.reduceToNat, he, g0]
  refine callX_of (momentOf_P t h0 (by omega) _) (List.prefix_refl _) ?_
  simp only [go_sem, Nat.reduceLT, Nat.reduceBEq, Nat.reduceAdd, Int.reduceBEq, Nat.reduceLeDiff, reduceIte, Nat.reduceEqDiff, Int.reduceEq, Int.reduceLE, Int.reduceLT, Int.reduceNe, Nat.reduceMul, Nat.reduceSub, Int.reduceToNat, he, g0, setD_some]
  refine callX_of (dayOf_P (t / 86400) (by omega) (by omega) _) (List.prefix_refl _) ?_
  simp only [go_sem, Nat.reduceLT, Nat.reduceBEq, Nat.reduceAdd, Int.reduceBEq, Nat.reduceLeDiff, reduceIte, Nat.reduceEqDiff, Int.reduceEq, Int.reduceLE, Int.reduceLT, Int.reduceNe, Nat.reduceMul, Nat.reduceSub, Int.reduceToNat, he, g0, setD_some]
  refine acode_draw mixed (by kernel_rfl) ?_
  simp only [go_sem, Nat.reduceLT, Nat.reduceBEq, Nat.reduceAdd, Int.reduceBEq, Nat.reduceLeDiff, reduceIte, Nat.reduceEqDiff, Int.reduceEq, Int.reduceLE, Int.reduceLT, Int.reduceNe, Nat.reduceMul, Nat.reduceSub, Int.reduceToNat, he]
  have hy := yearOf_ok (n := t / 86400) (by omega)
  have hd := dayOf_ok (n := t / 86400) (by omega)
  refine callX_of (padded_A hG _ 4 (by omega) (by omega) (by omega) (by omega) _) (List.prefix_refl _) ?_
  simp only [go_sem, Nat.reduceLT, Nat.reduceBEq, Nat.reduceAdd, Int.reduceBEq, Nat.reduceLeDiff, reduceIte, Nat.reduceEqDiff, Int.reduceEq, Int.reduceLE, Int.reduceLT, Int.reduceNe, Nat.reduceMul, Nat.reduceSub, Int.reduceToNat, he, setD_some]
  refine callX_of (padded_A hG _ 2 (by omega) (by omega) (by omega) (by omega) _) (List.prefix_refl _) ?_
  simp only [go_sem, Nat.reduceLT, Nat.reduceBEq, Nat.reduceAdd, Int.reduceBEq, Nat.reduceLeDiff, reduceIte, Nat.reduceEqDiff, Int.reduceEq, Int.reduceLE, Int.reduceLT, Int.reduceNe, Nat.reduceMul, Nat.reduceSub, Int.reduceToNat, he, setD_some]
  have l1 := padded_length (yearOf (t / 86400)) 4 (by omega) (by omega) (by omega)
  have l2 := padded_length (dayOf (t / 86400)).1 2 (by omega) (by omega) (by omega)
  have l3 := padded_length (dayOf (t / 86400)).2 2 (by omega) (by omega) (by omega)
  have l4 := padded_length (t % 86400 / 3600) 2 (by omega) (by omega) (by omega)
  have l5 := padded_length (t % 86400 / 60 % 60) 2 (by omega) (by omega) (by omega)
  have l6 := padded_length (t % 86400 % 60) 2 (by omega) (by omega) (by omega)
  refine ⟨by omega, ?_⟩
  refine callX_of (padded_A hG _ 2 (by omega) (by omega) (by omega) (by omega) _) (List.prefix_refl _) ?_
  simp only [go_sem, Nat.reduceLT, Nat.reduceBEq, Nat.reduceAdd, Int.reduceBEq, Nat.reduceLeDiff, reduceIte, Nat.reduceEqDiff, Int.reduceEq, Int.reduceLE, Int.reduceLT, Int.reduceNe, Nat.reduceMul, Nat.reduceSub, Int.reduceToNat, he, setD_some, List.length_append]
  refine ⟨by omega, by omega, ?_⟩
  refine callX_of (padded_A hG _ 2 (by omega) (by omega) (by omega) (by omega) _) (List.prefix_refl _) ?_
  simp only [go_sem, Nat.reduceLT, Nat.reduceBEq, Nat.reduceAdd, Int.reduceBEq, Nat.reduceLeDiff, reduceIte, Nat.reduceEqDiff, Int.reduceEq, Int.reduceLE, Int.reduceLT, Int.reduceNe, Nat.reduceMul, Nat.reduceSub, Int.reduceToNat, he, setD_some, List.length_append]
  refine ⟨by omega, ?_⟩
  refine callX_of (padded_A hG _ 2 (by omega) (by omega) (by omega) (by omega) _) (List.prefix_refl _) ?_
  simp only [go_sem, Nat.reduceLT, Nat.reduceBEq, Nat.reduceAdd, Int.reduceBEq, Nat.reduceLeDiff, reduceIte, Nat.reduceEqDiff, Int.reduceEq, Int.reduceLE, Int.reduceLT, Int.reduceNe, Nat.reduceMul, Nat.reduceSub, Int.reduceToNat, he, setD_some, List.length_append]
  refine ⟨by omega, ?_⟩
  refine callX_of (padded_A hG _ 2 (by omega) (by omega) (by omega) (by omega) _) (List.prefix_refl _) ?_
  simp only [go_sem, Nat.reduceLT, Nat.reduceBEq, Nat.reduceAdd, Int.reduceBEq, Nat.reduceLeDiff, reduceIte, Nat.reduceEqDiff, Int.reduceEq, Int.reduceLE, Int.reduceLT, Int.reduceNe, Nat.reduceMul, Nat.reduceSub, Int.reduceToNat, he, setD_some, List.length_append]
  refine ⟨by omega, by omega, ?_, _, rfl⟩
  simp only [dateText, List.append_assoc, List.cons_append, List.nil_append]
end Go.Proofs.YtlfpjdcogkcjlaaGreatDoor.F
