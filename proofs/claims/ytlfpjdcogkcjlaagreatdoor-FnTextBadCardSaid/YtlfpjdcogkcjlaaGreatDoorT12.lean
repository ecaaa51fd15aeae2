/- The calendar of the package: dates to moments. -/
import Derived.Test.YtlfpjdcogkcjlaaGreatDoorT11
namespace Go.Proofs.YtlfpjdcogkcjlaaGreatDoor.F
open Go.RowKit Go.Proofs.YtlfpjdcogkcjlaaGreatDoor.AL Go.Proofs.YtlfpjdcogkcjlaaGreatDoor.B
set_option linter.unusedVariables false
set_option linter.unusedSimpArgs false
set_option maxRecDepth 20000
attribute [local irreducible] aops acode bindK bindV bindH callX callK condK guardK Kseq Kblk Knorm Kfun Kloop Kjoin outK AWp appendA
attribute [local go_sem] acode_skip acode_seq acode_region acode_cond acode_block acode_exit acode_ret acode_loop Kseq_normal Kseq_exit Kseq_ret Kblk_normal Kblk_ret Kblk_eq Kblk_ne Knorm_eq Kloop_normal Kloop_exit Kloop_ret Kjoin_normal Kjoin_exit Kjoin_ret condK_true condK_false bindK_put bindV_put bindK_no bindV_no bindH_no aops_nil gops wantK_some wantV_bool wantV_undef guardK_true guardK_false guardK_none aops_move aops_assign aops_pick aops_nilCheck aops_binOp aops_unOp aops_convert aops_fieldAddr aops_indexAddr aops_slice aops_index aops_extract aops_makeInterface aops_makeFunc aops_build aops_load aops_lookup aops_alloc aops_box aops_buildSlice aops_makeSlice aops_makeMap aops_store aops_insert aops_mapUpdate aops_len aops_append aops_call opA_tmp opA_const opA_global opA_func get_mk look_nil look_eq look_ne len_mk List.map_cons List.map_nil Option.map_some Option.map_none bin_add bin_sub bin_mul bin_quo bin_rem bin_eql bin_neq bin_lss bin_leq bin_gtr bin_geq bin_cat bin_seql bin_sneq bin_neq_ifc bin_eql_ifc bin_neq_nn bin_eql_nn bin_neq_ptr bin_eql_ptr bin_neq_pn isIfc_true isPtr_true bin_eql2 bin_neq2 aops_max max_int un_not un_neg lenA_K lenK_str lenK_nil lenK_sl lenK_array pick_bool pick_val bindV_ite bindK_ite bindH_ite slotV_sl slotK_some slotV_ptr slotR_some sliceV_sl cutK_some sliceV_str cutS_some bound_none bound_some indexA_str atS_some mkS fieldV_ptr loadV_ptr cellsK_ro cellsK_own loadK_one loadK_many storeA_ptr storeK_own allocA_some heap_len heap_get0 heap_get heap_set0 heap_set Kfun_ret Kfun_normal resA_nil resA_tmp resA_cell outK_some packA_one packA_nil packA_two List.length_cons List.length_nil List.getElem?_cons_zero List.getElem?_cons_succ List.set_cons_zero List.set_cons_succ List.cons_append List.nil_append List.append_assoc Nat.zero_add Nat.add_zero List.all_cons List.all_nil Value.oneCell' Bool.and_true Bool.and_self if_true if_false Bool.false_eq_true partsA buildV buildA fillA Option.bind_some putCells List.drop_succ_cons List.drop_zero List.take_succ_cons List.take_zero List.take_nil List.drop_nil and_self and_true true_and Option.some.injEq ne_eq not_false_eq_true Option.map_map List.getElem?_toArray beq_self_eq_true Bool.true_beq Bool.false_beq Bool.not_true Bool.not_false decide_true decide_false beq_true Nat.mul_one Nat.one_mul Nat.zero_mul bsA buildSliceA zerosN List.append_nil Int.toNat_natCast Int.toNat_zero boxA one_val one_ptr one_sl one_mp one_ifc one_fn avCells_agg avCells_val valCells_true valCells_agg avCells_ptr avCells_sl avCells_mp avCells_ifc avCells_fn app_cons app_nil lookupA insertA ifaceV extractA kd2 ars127 fp127 ars60 fp60 ars31 fp31 eq2_99 eq2_84 eq2_47 fp52 sz2 kd3 sz3 kd4 sz4 kd5 sz5 kd9 sz9 kd22 sz22 el22 kd23 sz23 el23 kd25 sz25 zc25 fp25 fo25_0 fo25_1 fo25_2 fo25_3 fo25_4 fo25_5 fo25_6 fo25_7 fo25_8 fo25_9 fo25_10 fo25_11 fo25_12 fo25_13 fo25_14 fo25_15 fo25_16 fo25_17 kd31 sz31 zc31 ar31 kd32 sz32 el32 kd34 sz34 zc34 fp34 fo34_0 fo34_1 fo34_2 fo34_3 fo34_4 fo34_5 fo34_6 fo34_7 fo34_8 fo34_9 fo34_10 fo34_11 fo34_12 fo34_13 fo34_14 fo34_15 fo34_16 fo34_17 el38 el42 kd47 sz47 zc47 fp47 fo47_0 fo47_1 kd52 sz52 zc52 fo52_0 el55 zc60 kd72 sz72 zc72 fp72 fo72_0 fo72_1 el73 isStrMap76 zv4 kd80 sz80 kd84 sz84 zc84 fp84 fo84_0 fo84_1 kd88 sz88 zc88 fp88 fo88_0 fo88_1 fo88_2 fo88_3 kd91 sz91 zc91 fp91 fo91_0 fo91_1 fo91_2 el94 kd99 sz99 zc99 fp99 fo99_0 fo99_1 kd100 sz100 el100 kd102 sz102 zc102 fp102 fo102_0 fo102_1 fo102_2 fo102_3 fo102_4 fo102_5 fo102_6 fo102_7 fo102_8 fo102_9 fo102_10 fo102_11 fo102_12 fo102_13 fo102_14 fo102_15 kd109 sz109 zc109 fp109 isStrMap124 zv80 zc127 kd153 sz153 zc153 ar153 isIface157 kd159 sz159 zc159 fp159 isStrMap177 zv84 Tryz.underlying3 Tryz.underlying4 Tryz.underlying5 Tryz.underlying9 Tryz.underlying21 Tryz.underlying22 Tryz.underlying23 Tryz.underlying32 Tryz.underlying38 Tryz.underlying42 Tryz.underlying47 Tryz.underlying55 Tryz.underlying67 Tryz.underlying73 Tryz.underlying80 Tryz.underlying84 Tryz.underlying94 Tryz.underlying100 Tryz.underlying2 Tryz.underlying127 Tryz.underlying60 Tryz.underlying31
theorem zleap_A {w0 : World} (y : Int) (h0 : 0 ≤ y) (H : Heap) : ACalls Tryz.prog (CB w0) 162 [vI y] H fun r H' => r = vB (leap y) ∧ H' = H := by
  refine A_fun (N := 16) (rs := [.tmp 2]) Tryz.func162 rfl rfl rfl (by kernel_rfl) (by kernel_rfl) (Nat.le_of_ble_eq_true rfl) ?_
  rintro e he ⟨g0, -⟩
  have e4 : y.tmod 4 = y % 4 := Int.tmod_eq_emod_of_nonneg h0
  have e1 : y.tmod 100 = y % 100 := Int.tmod_eq_emod_of_nonneg h0
  have e2 : y.tmod 400 = y % 400 := Int.tmod_eq_emod_of_nonneg h0
  by_cases c4 : y % 4 = 0
  · by_cases c1 : y % 100 = 0
    · simp only [go_sem, Nat.reduceLT, Nat.reduceBEq, Nat.reduceAdd, Int.reduceBEq, Nat.reduceLeDiff, reduceIte, Nat.reduceEqDiff, Int.reduceEq, Int.reduceLE, Int.reduceLT, Int.reduceNe, Nat.reduceMul, Nat.reduceSub, Int.reduceToNat, he, g0, e4, e1, e2, c4, c1]
      simp [leap, c4, c1]
    · simp only [go_sem, Nat.reduceLT, Nat.reduceBEq, Nat.reduceAdd, Int.reduceBEq, Nat.reduceLeDiff, reduceIte, Nat.reduceEqDiff, Int.reduceEq, Int.reduceLE, Int.reduceLT, Int.reduceNe, Nat.reduceMul, Nat.reduceSub, Int.reduceToNat, he, g0, e4, e1, e2, c4, c1]
      simp [leap, c4, c1]
  · simp only [go_sem, Nat.reduceLT, Nat.reduceBEq, Nat.reduceAdd, Int.reduceBEq, Nat.reduceLeDiff, reduceIte, Nat.reduceEqDiff, Int.reduceEq, Int.reduceLE, Int.reduceLT, Int.reduceNe, Nat.reduceMul, Nat.reduceSub, Int.reduceToNat, he, g0, e4, c4]
    simp [leap, c4]
theorem zmonthDays_A {w0 : World} (y m : Int) (h0 : 0 ≤ y) (H : Heap) : ACalls Tryz.prog (CB w0) 138 [vI m, vI y] H fun r H' => r = vI (monthDays y m) ∧ H' = H := by
  refine A_fun (N := 15) (rs := [.tmp 4]) Tryz.func138 rfl rfl rfl (by kernel_rfl) (by kernel_rfl) (Nat.le_of_ble_eq_true rfl) ?_
  rintro e he ⟨g0, g1, -⟩
  unfold monthDays
  by_cases a2 : m = 2
  · simp only [go_sem, Nat.reduceLT, Nat.reduceBEq, Nat.reduceAdd, Int.reduceBEq, Nat.reduceLeDiff, reduceIte, Nat.reduceEqDiff, Int.reduceEq, Int.reduceLE, Int.reduceLT, Int.reduceNe, Nat.reduceMul, Nat.reduceSub, Int.reduceToNat, he, g0, g1, a2, or_false, if_false]
    refine callX_of (zleap_A y h0 H) (List.prefix_refl _) ?_
    simp only [go_sem, Nat.reduceLT, Nat.reduceBEq, Nat.reduceAdd, Int.reduceBEq, Nat.reduceLeDiff, reduceIte, Nat.reduceEqDiff, Int.reduceEq, Int.reduceLE, Int.reduceLT, Int.reduceNe, Nat.reduceMul, Nat.reduceSub, Int.reduceToNat, he, setD_some]
    cases leap y <;> simp only [go_sem, Nat.reduceLT, Nat.reduceBEq, Nat.reduceAdd, Int.reduceBEq, Nat.reduceLeDiff, reduceIte, Nat.reduceEqDiff, Int.reduceEq, Int.reduceLE, Int.reduceLT, Int.reduceNe, Nat.reduceMul, Nat.reduceSub, Int.reduceToNat, he, if_false, Bool.false_eq_true]
  by_cases a4 : m = 4
  · simp only [go_sem, Nat.reduceLT, Nat.reduceBEq, Nat.reduceAdd, Int.reduceBEq, Nat.reduceLeDiff, reduceIte, Nat.reduceEqDiff, Int.reduceEq, Int.reduceLE, Int.reduceLT, Int.reduceNe, Nat.reduceMul, Nat.reduceSub, Int.reduceToNat, he, g0, g1, a4, true_or]
  by_cases a6 : m = 6
  · simp only [go_sem, Nat.reduceLT, Nat.reduceBEq, Nat.reduceAdd, Int.reduceBEq, Nat.reduceLeDiff, reduceIte, Nat.reduceEqDiff, Int.reduceEq, Int.reduceLE, Int.reduceLT, Int.reduceNe, Nat.reduceMul, Nat.reduceSub, Int.reduceToNat, he, g0, g1, a6, true_or, or_true]
  by_cases a9 : m = 9
  · simp only [go_sem, Nat.reduceLT, Nat.reduceBEq, Nat.reduceAdd, Int.reduceBEq, Nat.reduceLeDiff, reduceIte, Nat.reduceEqDiff, Int.reduceEq, Int.reduceLE, Int.reduceLT, Int.reduceNe, Nat.reduceMul, Nat.reduceSub, Int.reduceToNat, he, g0, g1, a9, true_or, or_true]
  by_cases a11 : m = 11
  · simp only [go_sem, Nat.reduceLT, Nat.reduceBEq, Nat.reduceAdd, Int.reduceBEq, Nat.reduceLeDiff, reduceIte, Nat.reduceEqDiff, Int.reduceEq, Int.reduceLE, Int.reduceLT, Int.reduceNe, Nat.reduceMul, Nat.reduceSub, Int.reduceToNat, he, g0, g1, a11, true_or, or_true]
  simp only [go_sem, Nat.reduceLT, Nat.reduceBEq, Nat.reduceAdd, Int.reduceBEq, Nat.reduceLeDiff, reduceIte, Nat.reduceEqDiff, Int.reduceEq, Int.reduceLE, Int.reduceLT, Int.reduceNe, Nat.reduceMul, Nat.reduceSub, Int.reduceToNat, he, g0, g1, a4, a6, a9, a11, a2, or_false, if_false]
theorem div_self_bound (a b : Int) (hb : 1 ≤ b) : (0 ≤ a → 0 ≤ a / b ∧ a / b ≤ a) ∧ (a ≤ 0 → a ≤ a / b ∧ a / b ≤ 0) := by
  refine ⟨fun h => ⟨Int.ediv_nonneg h (by omega), Int.ediv_le_self b h⟩, fun h => ⟨?_, ?_⟩⟩
  · refine (Int.le_ediv_iff_mul_le (by omega)).2 ?_
    have := Int.mul_le_mul_of_nonpos_left h hb
    omega
  · have h2 : a / b ≤ 0 / b := Int.ediv_le_ediv (by omega) h
    simpa using h2
theorem tdiv_neg_floor (a b : Int) (h : a ≤ 0) (hb : 0 < b) : (a.tmod b = 0 ∧ a.tdiv b = a / b) ∨ (a.tmod b < 0 ∧ a.tdiv b = a / b + 1) := by
  obtain ⟨c, rfl⟩ : ∃ c, a = -c := ⟨-a, by omega⟩
  have hc : 0 ≤ c := by omega
  rw [Int.neg_tdiv, Int.neg_tmod, Int.tdiv_eq_ediv_of_nonneg hc, Int.tmod_eq_emod_of_nonneg hc]
  have e1 := Int.emod_add_mul_ediv c b
  have e2 := Int.emod_nonneg c (show b ≠ 0 by omega)
  have e3 := Int.emod_lt_of_pos c hb
  by_cases hz : c % b = 0
  · left
    refine ⟨by omega, ?_⟩
    have : -c = b * (-(c / b)) := by rw [Int.mul_neg]; omega
    rw [this, Int.mul_ediv_cancel_left _ (by omega)]
  · right
    refine ⟨by omega, ?_⟩
    have h0 : b * (-(c / b) - 1) = -(b * (c / b)) - b := by rw [Int.mul_sub, Int.mul_neg, Int.mul_one]
    have h1 : -c = (b - c % b) + b * (-(c / b) - 1) := by omega
    rw [h1, Int.add_mul_ediv_left _ _ (by omega), Int.ediv_eq_zero_of_lt (a := b - c % b) (b := b) (by omega) (by omega)]
    omega
theorem floor_A {w0 : World} (a b : Int) (ha : -9000000000000000000 ≤ a ∧ a ≤ 9000000000000000000) (hb : 1 ≤ b ∧ b ≤ 9000000000000000000) (H : Heap) : ACalls Tryz.prog (CB w0) 163 [vI a, vI b] H fun r H' => r = vI (a / b) ∧ H' = H := by
  refine A_fun (N := 16) (rs := [.tmp 4]) Tryz.func163 rfl rfl rfl (by kernel_rfl) (by kernel_rfl) (Nat.le_of_ble_eq_true rfl) ?_
  rintro e he ⟨g0, g1, -⟩
  have hb0 : b ≠ 0 := by omega
  have hle := div_self_bound a b hb.1
  rcases Int.le_total 0 a with h | h
  · have t1 : a.tdiv b = a / b := Int.tdiv_eq_ediv_of_nonneg h
    have t2 : a.tmod b = a % b := Int.tmod_eq_emod_of_nonneg h
    have hr := Int.emod_nonneg a hb0
    have w1 : IntKind.i64.wrap (a / b) = a / b := wI64 (by omega)
    have hd : decide (a % b < 0) = false := decide_eq_false (by omega)
    simp only [go_sem, Nat.reduceLT, Nat.reduceBEq, Nat.reduceAdd, Int.reduceBEq, Nat.reduceLeDiff, reduceIte, Nat.reduceEqDiff, Int.reduceEq, Int.reduceLE, Int.reduceLT, Int.reduceNe, Nat.reduceMul, Nat.reduceSub, Int.reduceToNat, he, g0, g1, t1, t2, w1, hd, hb0]
  · have hd1 := tdiv_neg_floor a b h (by omega)
    have hb1 : -9000000000000000000 ≤ a.tdiv b ∧ a.tdiv b ≤ 9000000000000000001 := by
      rcases hd1 with ⟨-, e⟩ | ⟨-, e⟩ <;> omega
    have w1 : IntKind.i64.wrap (a.tdiv b) = a.tdiv b := wI64 (by omega)
    rcases hd1 with ⟨h1, h2⟩ | ⟨h1, h2⟩
    · have hd : decide (a.tmod b < 0) = false := decide_eq_false (by omega)
      rw [h2] at w1
      simp only [go_sem, Nat.reduceLT, Nat.reduceBEq, Nat.reduceAdd, Int.reduceBEq, Nat.reduceLeDiff, reduceIte, Nat.reduceEqDiff, Int.reduceEq, Int.reduceLE, Int.reduceLT, Int.reduceNe, Nat.reduceMul, Nat.reduceSub, Int.reduceToNat, he, g0, g1, w1, hd, hb0, h2]
    · have hd : decide (a.tmod b < 0) = true := decide_eq_true (by omega)
      have w2 : IntKind.i64.wrap (a.tdiv b - 1) = a / b := by rw [wI64 (by omega)]; omega
      simp only [go_sem, Nat.reduceLT, Nat.reduceBEq, Nat.reduceAdd, Int.reduceBEq, Nat.reduceLeDiff, reduceIte, Nat.reduceEqDiff, Int.reduceEq, Int.reduceLE, Int.reduceLT, Int.reduceNe, Nat.reduceMul, Nat.reduceSub, Int.reduceToNat, he, g0, g1, w1, w2, hd, hb0]
theorem daysTo_A {w0 : World} (y : Int) (h0 : -1000000000 ≤ y) (h1 : y ≤ 1000000000) (H : Heap) : ACalls Tryz.prog (CB w0) 164 [vI y] H fun r H' => r = vI (before y) ∧ H' = H := by
  refine A_fun (N := 17) (rs := [.tmp 2]) Tryz.func164 rfl rfl rfl (by kernel_rfl) (by kernel_rfl) (Nat.le_of_ble_eq_true rfl) ?_
  rintro e he ⟨g0, -⟩
  have w1 : IntKind.i64.wrap (y - 1) = y - 1 := wI64 (by omega)
  have w2 : IntKind.i64.wrap (365 * (y - 1)) = 365 * (y - 1) := wI64 (by omega)
  have w3 : IntKind.i64.wrap (365 * (y - 1) + (y - 1) / 4) = 365 * (y - 1) + (y - 1) / 4 := wI64 (by omega)
  have w4 : IntKind.i64.wrap (365 * (y - 1) + (y - 1) / 4 - (y - 1) / 100) = 365 * (y - 1) + (y - 1) / 4 - (y - 1) / 100 := wI64 (by omega)
  have w5 : IntKind.i64.wrap (365 * (y - 1) + (y - 1) / 4 - (y - 1) / 100 + (y - 1) / 400) = before y := by rw [wI64 (by omega)]; rfl
  simp only [go_sem, Nat.reduceLT, Nat.reduceBEq, Nat.reduceAdd, Int.reduceBEq, Nat.reduceLeDiff, reduceIte, Nat.reduceEqDiff, Int.reduceEq, Int.reduceLE, Int.reduceLT, Int.reduceNe, Nat.reduceMul, Nat.reduceSub, Int.reduceToNat, he, g0, w1]
  refine callX_of (floor_A (y - 1) 4 (by omega) (by omega) H) (List.prefix_refl _) ?_
  simp only [go_sem, Nat.reduceLT, Nat.reduceBEq, Nat.reduceAdd, Int.reduceBEq, Nat.reduceLeDiff, reduceIte, Nat.reduceEqDiff, Int.reduceEq, Int.reduceLE, Int.reduceLT, Int.reduceNe, Nat.reduceMul, Nat.reduceSub, Int.reduceToNat, he, setD_some, w2, w3]
  refine callX_of (floor_A (y - 1) 100 (by omega) (by omega) H) (List.prefix_refl _) ?_
  simp only [go_sem, Nat.reduceLT, Nat.reduceBEq, Nat.reduceAdd, Int.reduceBEq, Nat.reduceLeDiff, reduceIte, Nat.reduceEqDiff, Int.reduceEq, Int.reduceLE, Int.reduceLT, Int.reduceNe, Nat.reduceMul, Nat.reduceSub, Int.reduceToNat, he, setD_some, w4]
  refine callX_of (floor_A (y - 1) 400 (by omega) (by omega) H) (List.prefix_refl _) ?_
  simp only [go_sem, Nat.reduceLT, Nat.reduceBEq, Nat.reduceAdd, Int.reduceBEq, Nat.reduceLeDiff, reduceIte, Nat.reduceEqDiff, Int.reduceEq, Int.reduceLE, Int.reduceLT, Int.reduceNe, Nat.reduceMul, Nat.reduceSub, Int.reduceToNat, he, setD_some, w5]
/-- The days of the first months of a year. -/
def msum (y : Int) : Nat → Int
  | 0 => 0
  | k + 1 => msum y k + monthDays y (k + 1)
theorem msum_bound (y : Int) : ∀ k : Nat, 28 * (k : Int) ≤ msum y k ∧ msum y k ≤ 31 * k
  | 0 => by simp [msum]
  | k + 1 => by
    have := msum_bound y k
    have := monthDays_pos y (k + 1)
    simp only [msum]; omega
theorem before_bound (y : Int) : 365 * (y - 1) - (y - 1).natAbs ≤ before y ∧ before y ≤ 365 * (y - 1) + (y - 1).natAbs := by unfold before; omega
/-- The seconds of a date. -/
def dateSec (y mo d h mi s : Int) : Int := (before (y + (mo - 1) / 12) + d - 1 + msum (y + (mo - 1) / 12) ((mo - 1) % 12).toNat) * 86400 + h * 3600 + mi * 60 + s
structure DateOk (y mo d h mi s n : Int) : Prop where
  y : 0 ≤ y + (mo - 1) / 12 ∧ y ≤ 1000000 ∧ -1000000 ≤ y
  mo : -1000000 ≤ mo ∧ mo ≤ 1000000
  d : -1000000000 ≤ d ∧ d ≤ 1000000000
  h : -1000000000 ≤ h ∧ h ≤ 1000000000
  mi : -1000000000 ≤ mi ∧ mi ≤ 1000000000
  s : -1000000000 ≤ s ∧ s ≤ 1000000000
  n : 0 ≤ n ∧ n < 1000000000
theorem zDate_A {w0 : World} (y mo d h mi s n : Int) (ok : DateOk y mo d h mi s n) (z : AV) (hz : avCells z = some []) (H : Heap) : ACalls Tryz.prog (CB w0) 139 [vI y, vI mo, vI d, vI h, vI mi, vI s, vI n, z] H fun r H' => r = .agg [vI (dateSec y mo d h mi s), vI n] ∧ H' = H := by
  refine ACalls.plain1 rfl ?_
  refine A_fun (N := 71) (rs := [.cell 16 99]) Tryz.func139 rfl rfl rfl (by kernel_rfl) (by kernel_rfl) (Nat.le_of_ble_eq_true rfl) ?_
  rintro e he ⟨g0, g1, g2, g3, g4, g5, g6, g7, -⟩
  obtain ⟨⟨y0, y1, y2⟩, ⟨mo0, mo1⟩, ⟨d0, d1⟩, ⟨h0, h1⟩, ⟨mi0, mi1⟩, ⟨s0, s1⟩, ⟨n0, n1⟩⟩ := ok
  have w1 : IntKind.i64.wrap mo = mo := wI64 (by omega)
  have w2 : IntKind.i64.wrap (mo - 1) = mo - 1 := wI64 (by omega)
  have w3 : IntKind.i64.wrap y = y := wI64 (by omega)
  have w4 : IntKind.i64.wrap (y + (mo - 1) / 12) = y + (mo - 1) / 12 := wI64 (by omega)
  have w5 : IntKind.i64.wrap (12 * ((mo - 1) / 12)) = 12 * ((mo - 1) / 12) := wI64 (by omega)
  have w6 : IntKind.i64.wrap (mo - 1 - 12 * ((mo - 1) / 12)) = (mo - 1) % 12 := by rw [wI64 (by omega)]; omega
  simp only [go_sem, Nat.reduceLT, Nat.reduceBEq, Nat.reduceAdd, Int.reduceBEq, Nat.reduceLeDiff, reduceIte, Nat.reduceEqDiff, Int.reduceEq, Int.reduceLE, Int.reduceLT, Int.reduceNe, Nat.reduceMul, Nat.reduceSub, Int.reduceToNat, he, g0, g1, g2, g3, g4, g5, g6, g7, hz, w1, w2, w3, conv_int (P := Tryz.prog) (s := 185) (d := 2) Tryz.underlying185 Tryz.underlying2, conv_int (P := Tryz.prog) (s := 3) (d := 2) Tryz.underlying3 Tryz.underlying2]
  refine callX_of (floor_A (mo - 1) 12 (by omega) (by omega) _) (List.prefix_refl _) ?_
  simp only [go_sem, Nat.reduceLT, Nat.reduceBEq, Nat.reduceAdd, Int.reduceBEq, Nat.reduceLeDiff, reduceIte, Nat.reduceEqDiff, Int.reduceEq, Int.reduceLE, Int.reduceLT, Int.reduceNe, Nat.reduceMul, Nat.reduceSub, Int.reduceToNat, he, g0, g1, g2, g3, g4, g5, g6, w1, w2, w3, w4, w5, w6, setD_some]
  refine callX_of (floor_A (mo - 1) 12 (by omega) (by omega) _) (List.prefix_refl _) ?_
  simp only [go_sem, Nat.reduceLT, Nat.reduceBEq, Nat.reduceAdd, Int.reduceBEq, Nat.reduceLeDiff, reduceIte, Nat.reduceEqDiff, Int.reduceEq, Int.reduceLE, Int.reduceLT, Int.reduceNe, Nat.reduceMul, Nat.reduceSub, Int.reduceToNat, he, g0, g1, g2, g3, g4, g5, g6, w1, w2, w3, w4, w5, w6, setD_some]
  unfold dateSec
  generalize hY : y + (mo - 1) / 12 = Y at *
  have hM0 : 0 ≤ (mo - 1) % 12 := by omega
  have hM1 : (mo - 1) % 12 < 12 := by omega
  generalize hM : (mo - 1) % 12 = M at *
  refine callX_of (daysTo_A Y (by omega) (by omega) _) (List.prefix_refl _) ?_
  have hb := before_bound Y
  have w7 : IntKind.i64.wrap d = d := wI64 (by omega)
  have w8 : IntKind.i64.wrap (before Y + d) = before Y + d := wI64 (by omega)
  have w9 : IntKind.i64.wrap (before Y + d - 1) = before Y + d - 1 := wI64 (by omega)
  have w10 : IntKind.i64.wrap M = M := wI64 (by omega)
  simp only [go_sem, Nat.reduceLT, Nat.reduceBEq, Nat.reduceAdd, Int.reduceBEq, Nat.reduceLeDiff, reduceIte, Nat.reduceEqDiff, Int.reduceEq, Int.reduceLE, Int.reduceLT, Int.reduceNe, Nat.reduceMul, Nat.reduceSub, Int.reduceToNat, he, g0, g1, g2, g3, g4, g5, g6, setD_some, w7, w8, w9, conv_int (P := Tryz.prog) (s := 3) (d := 2) Tryz.underlying3 Tryz.underlying2]
  refine A_while M.toNat (fun k e h' => h' = H ++ [.own 109 [], .own 99 [vI 0, vI 0]] ∧ len e = 71 ∧ AL.get e 3 = vI h ∧ AL.get e 4 = vI mi ∧ AL.get e 5 = vI s ∧ AL.get e 6 = vI n ∧ AL.get e 16 = .ptr (H.length + 1) 0 ∧ AL.get e 17 = vI M ∧ AL.get e 18 = vI Y ∧ ∃ i : Nat, i + k = M.toNat ∧ AL.get e 20 = vI ((i : Int) + 1) ∧ AL.get e 19 = vI (before Y + d - 1 + msum Y i)) (by kernel_rfl) ?_ ?_
  · simp only [go_sem, Nat.reduceLT, Nat.reduceBEq, Nat.reduceAdd, Int.reduceBEq, Nat.reduceLeDiff, reduceIte, Nat.reduceEqDiff, Int.reduceEq, Int.reduceLE, Int.reduceLT, Int.reduceNe, Nat.reduceMul, Nat.reduceSub, Int.reduceToNat, he, g0, g1, g2, g3, g4, g5, g6]
    exact ⟨0, by omega, rfl, by simp [msum]⟩
  · rintro k e h' ⟨rfl, he, g3, g4, g5, g6, g16, g17, g18, i, hik, g20, g19⟩
    have hmb := msum_bound Y i
    simp only [go_sem, Nat.reduceLT, Nat.reduceBEq, Nat.reduceAdd, Int.reduceBEq, Nat.reduceLeDiff, reduceIte, Nat.reduceEqDiff, Int.reduceEq, Int.reduceLE, Int.reduceLT, Int.reduceNe, Nat.reduceMul, Nat.reduceSub, Int.reduceToNat, he, g3, g4, g5, g6, g16, g17, g18, g20, g19, w10, conv_int (P := Tryz.prog) (s := 2) (d := 3) Tryz.underlying2 Tryz.underlying3]
    refine condK_of (fun hc => ?_) fun hc => ?_
    · have hc := of_decide_eq_true hc
      simp only [go_sem, Nat.reduceLT, Nat.reduceBEq, Nat.reduceAdd, Int.reduceBEq, Nat.reduceLeDiff, reduceIte, Nat.reduceEqDiff, Int.reduceEq, Int.reduceLE, Int.reduceLT, Int.reduceNe, Nat.reduceMul, Nat.reduceSub, Int.reduceToNat, he, g3, g4, g5, g6, g16, g17, g18, g20, g19]
      refine callX_of (zmonthDays_A Y (i + 1) y0 _) (List.prefix_refl _) ?_
      have hmp := monthDays_pos Y (i + 1)
      have u1 : IntKind.i64.wrap ((i : Int) + 1 + 1) = ((i + 1 : Nat) : Int) + 1 := by rw [wI64 (by omega)]; omega
      have u2 : IntKind.i64.wrap (before Y + d - 1 + msum Y i + monthDays Y (i + 1)) = before Y + d - 1 + msum Y (i + 1) := by rw [wI64 (by omega)]; simp only [msum]; omega
      simp only [go_sem, Nat.reduceLT, Nat.reduceBEq, Nat.reduceAdd, Int.reduceBEq, Nat.reduceLeDiff, reduceIte, Nat.reduceEqDiff, Int.reduceEq, Int.reduceLE, Int.reduceLT, Int.reduceNe, Nat.reduceMul, Nat.reduceSub, Int.reduceToNat, he, g3, g4, g5, g6, g16, g17, g18, g20, g19, setD_some, u1, u2]
      exact ⟨k - 1, by omega, i + 1, by omega, rfl, rfl⟩
    · have hc := of_decide_eq_false hc
      have hi : i = M.toNat := by omega
      rw [hi] at g19 hmb
      have u1 : IntKind.i64.wrap ((before Y + d - 1 + msum Y M.toNat) * 86400) = (before Y + d - 1 + msum Y M.toNat) * 86400 := wI64 (by omega)
      have u2 : IntKind.i64.wrap h = h := wI64 (by omega)
      have u3 : IntKind.i64.wrap (h * 3600) = h * 3600 := wI64 (by omega)
      have u4 : IntKind.i64.wrap ((before Y + d - 1 + msum Y M.toNat) * 86400 + h * 3600) = (before Y + d - 1 + msum Y M.toNat) * 86400 + h * 3600 := wI64 (by omega)
      have u5 : IntKind.i64.wrap mi = mi := wI64 (by omega)
      have u6 : IntKind.i64.wrap (mi * 60) = mi * 60 := wI64 (by omega)
      have u7 : IntKind.i64.wrap ((before Y + d - 1 + msum Y M.toNat) * 86400 + h * 3600 + mi * 60) = (before Y + d - 1 + msum Y M.toNat) * 86400 + h * 3600 + mi * 60 := wI64 (by omega)
      have u8 : IntKind.i64.wrap s = s := wI64 (by omega)
      have u9 : IntKind.i64.wrap ((before Y + d - 1 + msum Y M.toNat) * 86400 + h * 3600 + mi * 60 + s) = (before Y + d - 1 + msum Y M.toNat) * 86400 + h * 3600 + mi * 60 + s := wI64 (by omega)
      have u10 : IntKind.i64.wrap n = n := wI64 (by omega)
      have u11 : n / 1000000000 = 0 := by omega
      have u12 : IntKind.i64.wrap 0 = 0 := rfl
      simp only [go_sem, Nat.reduceLT, Nat.reduceBEq, Nat.reduceAdd, Int.reduceBEq, Nat.reduceLeDiff, reduceIte, Nat.reduceEqDiff, Int.reduceEq, Int.reduceLE, Int.reduceLT, Int.reduceNe, Nat.reduceMul, Nat.reduceSub, Int.reduceToNat, he, g3, g4, g5, g6, g16, g17, g18, g20, g19, u1, u2, u3, u4, u5, u6, u7, u8, u9, u10, conv_int (P := Tryz.prog) (s := 3) (d := 2) Tryz.underlying3 Tryz.underlying2]
      refine callX_of (floor_A n 1000000000 (by omega) (by omega) _) (List.prefix_refl _) ?_
      simp only [go_sem, Nat.reduceLT, Nat.reduceBEq, Nat.reduceAdd, Int.reduceBEq, Nat.reduceLeDiff, reduceIte, Nat.reduceEqDiff, Int.reduceEq, Int.reduceLE, Int.reduceLT, Int.reduceNe, Nat.reduceMul, Nat.reduceSub, Int.reduceToNat, he, g3, g4, g5, g6, g16, g17, g18, g20, g19, setD_some, u9, u10, u11, u12, Int.add_zero, Int.zero_mul, Int.sub_zero]
      exact ⟨_, rfl⟩
end Go.Proofs.YtlfpjdcogkcjlaaGreatDoor.F
