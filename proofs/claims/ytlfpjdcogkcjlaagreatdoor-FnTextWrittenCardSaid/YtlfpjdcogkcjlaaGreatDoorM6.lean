/- Merged: T48 T64 T65 T66 T52 T53 T56 T57 T67 T58 T68 T69 T70 -/
import Derived.Test.YtlfpjdcogkcjlaaGreatDoorM5
/- The names of frequencies and weekdays. -/
namespace Go.Proofs.YtlfpjdcogkcjlaaGreatDoor.F
open Go.RowKit Go.Proofs.YtlfpjdcogkcjlaaGreatDoor.AL Go.Proofs.YtlfpjdcogkcjlaaGreatDoor.B
set_option linter.unusedVariables false
set_option linter.unusedSimpArgs false
set_option maxRecDepth 20000
attribute [local irreducible] aops acode bindK bindV bindH callX callK condK guardK Kseq Kblk Knorm Kfun Kloop Kjoin outK AWp appendA Ktail
attribute [local go_sem] acode_skip acode_seq acode_region acode_cond acode_block acode_exit acode_ret acode_loop Kseq_normal Kseq_exit Kseq_ret Kblk_normal Kblk_ret Kblk_eq Kblk_ne Knorm_eq Kloop_normal Kloop_exit Kloop_ret Kjoin_normal Kjoin_exit Kjoin_ret condK_true condK_false bindK_put bindV_put bindK_no bindV_no bindH_no aops_nil gops wantK_some wantV_bool wantV_undef guardK_true guardK_false guardK_none aops_move aops_assign aops_pick aops_nilCheck aops_binOp aops_unOp aops_convert aops_fieldAddr aops_indexAddr aops_slice aops_index aops_extract aops_makeInterface aops_makeFunc aops_build aops_load aops_lookup aops_alloc aops_box aops_buildSlice aops_makeSlice aops_makeMap aops_store aops_insert aops_mapUpdate aops_len aops_append aops_call opA_tmp opA_const opA_global opA_func get_mk look_nil look_eq look_ne len_mk List.map_cons List.map_nil Option.map_some Option.map_none bin_add bin_sub bin_mul bin_quo bin_rem bin_eql bin_neq bin_lss bin_leq bin_gtr bin_geq bin_cat bin_seql bin_sneq bin_neq_ifc bin_eql_ifc bin_neq_nn bin_eql_nn bin_neq_ptr bin_eql_ptr bin_neq_pn isIfc_true isPtr_true bin_eql2 bin_neq2 aops_max max_int un_not un_neg lenA_K lenK_str lenK_nil lenK_sl lenK_array pick_bool pick_val bindV_ite bindK_ite bindH_ite slotV_sl slotK_some slotV_ptr slotR_some sliceV_sl cutK_some sliceV_str cutS_some bound_none bound_some indexA_str atS_some mkS fieldV_ptr loadV_ptr cellsK_ro cellsK_own loadK_one loadK_many storeA_ptr storeK_own allocA_some heap_len heap_get0 heap_get heap_set0 heap_set Kfun_ret Kfun_normal resA_nil resA_tmp resA_cell outK_some packA_one packA_nil packA_two List.length_cons List.length_nil List.getElem?_cons_zero List.getElem?_cons_succ List.set_cons_zero List.set_cons_succ List.cons_append List.nil_append List.append_assoc Nat.zero_add Nat.add_zero List.all_cons List.all_nil Value.oneCell' Bool.and_true Bool.and_self if_true if_false Bool.false_eq_true partsA buildV buildA fillA Option.bind_some putCells List.drop_succ_cons List.drop_zero List.take_succ_cons List.take_zero List.take_nil List.drop_nil and_self and_true true_and Option.some.injEq ne_eq not_false_eq_true Option.map_map List.getElem?_toArray beq_self_eq_true Bool.true_beq Bool.false_beq Bool.not_true Bool.not_false decide_true decide_false beq_true Nat.mul_one Nat.one_mul Nat.zero_mul bsA buildSliceA zerosN List.append_nil Int.toNat_natCast Int.toNat_zero boxA one_val one_ptr one_sl one_mp one_ifc one_fn avCells_agg avCells_val valCells_true valCells_agg avCells_ptr avCells_sl avCells_mp avCells_ifc avCells_fn app_cons app_nil lookupA insertA ifaceV extractA kd2 ars127 fp127 ars60 fp60 ars31 fp31 eq2_99 eq2_84 eq2_47 fp52 sz2 kd3 sz3 kd4 sz4 kd5 sz5 kd9 sz9 kd22 sz22 el22 kd23 sz23 el23 kd25 sz25 zc25 fp25 fo25_0 fo25_1 fo25_2 fo25_3 fo25_4 fo25_5 fo25_6 fo25_7 fo25_8 fo25_9 fo25_10 fo25_11 fo25_12 fo25_13 fo25_14 fo25_15 fo25_16 fo25_17 kd31 sz31 zc31 ar31 kd32 sz32 el32 kd34 sz34 zc34 fp34 fo34_0 fo34_1 fo34_2 fo34_3 fo34_4 fo34_5 fo34_6 fo34_7 fo34_8 fo34_9 fo34_10 fo34_11 fo34_12 fo34_13 fo34_14 fo34_15 fo34_16 fo34_17 el38 el42 kd47 sz47 zc47 fp47 fo47_0 fo47_1 kd52 sz52 zc52 fo52_0 el55 zc60 kd72 sz72 zc72 fp72 fo72_0 fo72_1 el73 kd80 sz80 kd84 sz84 zc84 fp84 fo84_0 fo84_1 kd88 sz88 zc88 fp88 fo88_0 fo88_1 fo88_2 fo88_3 kd91 sz91 zc91 fp91 fo91_0 fo91_1 fo91_2 el94 kd99 sz99 zc99 fp99 fo99_0 fo99_1 kd100 sz100 el100 kd102 sz102 zc102 fp102 fo102_0 fo102_1 fo102_2 fo102_3 fo102_4 fo102_5 fo102_6 fo102_7 fo102_8 fo102_9 fo102_10 fo102_11 fo102_12 fo102_13 fo102_14 fo102_15 kd109 sz109 zc109 fp109 isStrMap124 zv80 zc127 kd153 sz153 zc153 ar153 isIface157 kd159 sz159 zc159 fp159 isStrMap177 zv84 Tryz.underlying3 Tryz.underlying4 Tryz.underlying5 Tryz.underlying9 Tryz.underlying21 Tryz.underlying22 Tryz.underlying23 Tryz.underlying32 Tryz.underlying38 Tryz.underlying42 Tryz.underlying47 Tryz.underlying55 Tryz.underlying67 Tryz.underlying73 Tryz.underlying80 Tryz.underlying84 Tryz.underlying94 Tryz.underlying100 Tryz.underlying2 Tryz.underlying127 Tryz.underlying60 Tryz.underlying31 kd55 ai60 ai127 indexA_agg atK_some isStrMap76 zv4 Ktail_eq opsOf_nil opsOf_cons consO_some
attribute [local go_sem_proc] Nat.reduceLT Nat.reduceBEq Nat.reduceAdd Int.reduceBEq Nat.reduceLeDiff reduceIte Nat.reduceEqDiff Int.reduceEq Int.reduceLE Int.reduceLT Int.reduceNe Nat.reduceMul Nat.reduceSub Int.reduceToNat
theorem freqString_A {w0 : World} (f : Nat) (hf : f ≤ 6) (H : Heap) : ACalls Tryz.prog (CB w0) 44 [vI f] H fun r H' => r = vS (freqs.getD f []) ∧ H' = H := by
  refine A_fun (N := 6) (rs := [.tmp 2]) Tryz.func44 rfl rfl rfl (by kernel_rfl) (by kernel_rfl) (Nat.le_of_ble_eq_true rfl) ?_
  rintro e he ⟨g0, -⟩
  have h1 := (freq_get hf).1
  have h2 : (0 : Int) ≤ (f : Int) ∧ (f : Int) < ((7 : Nat) : Int) := ⟨by omega, by omega⟩
  unfold freqs at h1
  simp only [List.map_cons, List.map_nil] at h1
  simp only [go_sem, he, g0, h2, Int.toNat_natCast, h1]
  rfl
theorem freqName_A {w0 : World} (f : Nat) (hf : f ≤ 6) (H : Heap) : ACalls Tryz.prog (CB w0) 23 [vU f] H fun r H' => r = vS (freqs.getD f []) ∧ H' = H := by
  refine A_fun (N := 6) (rs := [.tmp 2]) Tryz.func23 rfl rfl rfl (by kernel_rfl) (by kernel_rfl) (Nat.le_of_ble_eq_true rfl) ?_
  rintro e he ⟨g0, -⟩
  have w1 : IntKind.i64.wrap ((f : Nat) : Int) = (f : Int) := wI64 (by omega)
  simp only [go_sem, he, g0, conv_int (P := Tryz.prog) (s := 5) (d := 80) Tryz.underlying5 Tryz.underlying80, w1]
  refine callX_of (freqString_A f hf _) (List.prefix_refl _) ?_
  simp only [go_sem, he, g0, setD_some]
theorem freqOf_A {w0 : World} (f : Nat) (hf : f ≤ 6) (H : Heap) : ACalls Tryz.prog (CB w0) 21 [vS (freqs.getD f [])] H fun r H' => r = .tup [vU f, vB true] ∧ H' = H := by
  refine A_fun (N := 15) (rs := [.tmp 2, .tmp 3]) Tryz.func21 rfl rfl rfl (by kernel_rfl) (by kernel_rfl) (Nat.le_of_ble_eq_true rfl) ?_
  rintro e he ⟨g0, -⟩
  obtain ⟨h1, h2, h3⟩ := freq_text hf
  simp only [go_sem, he, g0]
  refine callX_of (strToFreq_P _ (by omega) _) (List.prefix_refl _) ?_
  unfold freqR
  rw [h1]
  have w1 : IntKind.u8.wrap ((f : Nat) : Int) = (f : Int) := wU8 (by omega)
  simp only [go_sem, he, g0, setD_some, conv_int (P := Tryz.prog) (s := 80) (d := 5) Tryz.underlying80 Tryz.underlying5, w1]
/-- A number with its sign. -/
def signed (n : Int) : List UInt8 := if n < 0 then Lib.itoa n else 43 :: Lib.itoa n
theorem zzSigned_A {w0 : World} (hG : Glob w0) (n : Int) (h0 : -1000 ≤ n) (h1 : n ≤ 1000) (H : Heap) : ACalls Tryz.prog (CB w0) 72 [vI n] H fun r H' => r = vS (signed n) ∧ H' = H := by
  refine A_fun (N := 10) (rs := [.tmp 2]) Tryz.func72 rfl rfl rfl (by kernel_rfl) (by kernel_rfl) (Nat.le_of_ble_eq_true rfl) ?_
  rintro e he ⟨g0, -⟩
  have hl := (atoi_itoa h0 h1).2.1
  simp only [go_sem, he, g0]
  unfold signed
  refine condK_of (fun hc => ?_) fun hc => ?_
  · have hc := of_decide_eq_true hc
    rw [if_pos hc]
    simp only [go_sem, he, g0]
    refine callX_of (itoa_A hG n (by omega) (by omega) _) (List.prefix_refl _) ?_
    simp only [go_sem, he, g0, setD_some]
  · have hc := of_decide_eq_false hc
    rw [if_neg hc]
    simp only [go_sem, he, g0]
    refine callX_of (itoa_A hG n (by omega) (by omega) _) (List.prefix_refl _) ?_
    simp only [go_sem, he, g0, setD_some]
    omega
theorem zzWeekday_A {w0 : World} (d n : Int) (H : Heap) : ACalls Tryz.prog (CB w0) 42 [vI d, vI n] H fun r H' => r = vD (d, n) ∧ H' = H := by
  refine ACalls.flat rfl ?_
  refine A_fun (N := 8) (rs := [.cell 4 84]) Tryz.func42 rfl rfl rfl (by kernel_rfl) (by kernel_rfl) (Nat.le_of_ble_eq_true rfl) ?_
  rintro e he ⟨g0, g1, -⟩
  simp only [go_sem, he, g0, g1]
  exact ⟨_, rfl⟩
/-- A weekday's text with its number's sign. -/
def nameText (d : Int × Int) : List UInt8 := if d.2 = 0 then wdays.getD d.1.toNat [] else signed d.2 ++ wdays.getD d.1.toNat []
theorem wdString_A {w0 : World} (hG : Glob w0) (d : Int × Int) (h0 : 0 ≤ d.1) (h1 : d.1 ≤ 6) (h2 : -53 ≤ d.2) (h3 : d.2 ≤ 53) (H : Heap) : ACalls Tryz.prog (CB w0) 43 [vD d] H fun r H' => r = vS (nameText d) ∧ H' = H := by
  refine ACalls.flat rfl ?_
  refine A_fun (N := 17) (rs := [.tmp 2]) Tryz.func43 rfl rfl rfl (by kernel_rfl) (by kernel_rfl) (Nat.le_of_ble_eq_true rfl) ?_
  rintro e he ⟨g0, -⟩
  obtain ⟨w, n⟩ := d
  simp only at h0 h1 h2 h3
  obtain ⟨k1, k2⟩ := wday_get h0 h1
  have k3 : (0 : Int) ≤ w ∧ w < ((7 : Nat) : Int) := ⟨by omega, by omega⟩
  have hl := (atoi_itoa (n := n) (by omega) (by omega)).2.1
  have hsl : (signed n).length ≤ 6 := by unfold signed; split <;> (try rw [List.length_cons]) <;> omega
  unfold nameText
  unfold wdays at k1
  simp only [List.map_cons, List.map_nil] at k1
  have ek : wdays.getD w.toNat [] = ([[77, 79], [84, 85], [87, 69], [84, 72], [70, 82], [83, 65], [83, 85]] : List (List UInt8)).getD w.toNat [] := rfl
  rw [← ek] at k1
  simp only
  generalize wdays.getD w.toNat [] = nm at *
  simp only [go_sem, he, g0, k1, k3]
  refine condK_of (fun hc => ?_) fun hc => ?_
  · have hc := of_decide_eq_true hc
    rw [if_pos hc]
    simp only [go_sem, he, g0]
    exact ⟨_, rfl⟩
  · have hc := of_decide_eq_false hc
    rw [if_neg hc]
    simp only [go_sem, he, g0]
    refine callX_of (zzSigned_A hG n (by omega) (by omega) _) (List.prefix_refl _) ?_
    simp only [go_sem, he, g0, setD_some]
    exact ⟨by omega, _, rfl⟩
theorem dayName_A {w0 : World} (hG : Glob w0) (d : Int × Int) (h0 : 0 ≤ d.1) (h1 : d.1 ≤ 6) (h2 : -53 ≤ d.2) (h3 : d.2 ≤ 53) (H : Heap) : ACalls Tryz.prog (CB w0) 22 [vD d] H fun r H' => r = vS (nameText d) ∧ H' = H := by
  refine ACalls.flat rfl ?_
  obtain ⟨w, n⟩ := d
  refine A_fun (N := 9) (rs := [.tmp 2]) Tryz.func22 rfl rfl rfl (by kernel_rfl) (by kernel_rfl) (Nat.le_of_ble_eq_true rfl) ?_
  rintro e he ⟨g0, -⟩
  have f52 : fo Tryz.prog 52 1 = some 1 := by kernel_rfl
  simp only [go_sem, he, g0, f52]
  refine callX_of (zzWeekday_A w n _) (List.prefix_refl _) ?_
  simp only [go_sem, he, g0, setD_some]
  refine callX_of (wdString_A hG (w, n) h0 h1 h2 h3 _) (List.prefix_refl _) ?_
  simp only [go_sem, he, g0, setD_some]
  exact ⟨_, rfl⟩
/-- The text of a day alone, read by the specification. -/
def nameOk (f : Nat) (a b : Int) : Bool := (match swd (nameText (a, b)) with | some d => decide (d.1 = a) && decide (d.2 = b) | none => false) && decide ((nameText (a, b)).length ≤ 6) && (nameText (a, b)).all (fun c => c != 44 && c != 59 && c != 61)
theorem name_all : ((List.range 7).all fun a => (List.range 107).all fun b => nameOk 0 (a : Int) ((b : Int) - 53)) = true := by kernel_rfl
theorem name_text {d : Int × Int} (h0 : 0 ≤ d.1) (h1 : d.1 ≤ 6) (h2 : -53 ≤ d.2) (h3 : d.2 ≤ 53) : swd (nameText d) = some d ∧ (nameText d).length ≤ 6 ∧ (44 : UInt8) ∉ nameText d ∧ (59 : UInt8) ∉ nameText d ∧ (61 : UInt8) ∉ nameText d := by
  obtain ⟨a, b⟩ := d
  simp only at h0 h1 h2 h3
  have h := List.all_eq_true.1 (List.all_eq_true.1 name_all a.toNat (List.mem_range.2 (by omega))) (b + 53).toNat (List.mem_range.2 (by omega))
  rw [show ((a.toNat : Nat) : Int) = a by omega, show (((b + 53).toNat : Nat) : Int) - 53 = b by omega] at h
  unfold nameOk at h
  simp only [Bool.and_eq_true, decide_eq_true_eq] at h
  obtain ⟨⟨h4, h5⟩, h6⟩ := h
  refine ⟨?_, h5, fun hm => ?_, fun hm => ?_, fun hm => ?_⟩
  · split at h4
    · rename_i d hd
      simp only [Bool.and_eq_true, decide_eq_true_eq] at h4
      rw [hd]
      exact congrArg some (Prod.ext h4.1 h4.2)
    · cases h4
  · have := List.all_eq_true.1 h6 _ hm; revert this; decide
  · have := List.all_eq_true.1 h6 _ hm; revert this; decide
  · have := List.all_eq_true.1 h6 _ hm; revert this; decide

def optCells (r : Ru) (y : Rs) : List AV := [vI r.freq, vI 0, vI 0, vI r.interval, vI r.wkst, vI 0, vI r.count, vI r.til, vI 0, y.setPos, y.month, y.monthDay, y.yearDay, y.weekNo, y.day, y.hour, y.minute, y.second, y.easter]
theorem fo52_1 : fo Tryz.prog 52 1 = some 1 := by kernel_rfl
theorem zOf2_A {w0 : World} (t : Int) (H : Heap) : ACalls Tryz.prog (CB w0) 75 [vI t] H fun r H' => r = .agg [vI t, vI 0] ∧ H' = H := by
  refine ACalls.flat rfl ?_
  refine A_fun (N := 5) (rs := [.cell 2 99]) Tryz.func75 rfl rfl rfl (by kernel_rfl) (by kernel_rfl) (Nat.le_of_ble_eq_true rfl) ?_
  rintro e he ⟨g0, -⟩
  simp only [go_sem, he, g0, List.replicate]
  exact ⟨_, rfl⟩
set_option maxHeartbeats 4000000 in
theorem option_A {w0 : World} (r : Ru) (hw : Wr r) (x : Rs) (H : Heap) (hx : RuAt H r x) : ACalls Tryz.prog (CB w0) 50 [.agg (ruCells r x)] H fun v H' => (∃ y, v = .agg (optCells r y) ∧ RuAt H' r y) ∧ ∃ G, H' = H ++ G := by
  refine A_fun (N := 66) (rs := [.cell 2 102]) Tryz.func50 rfl rfl rfl (by kernel_rfl) (by kernel_rfl) (Nat.le_of_ble_eq_true rfl) ?_
  rintro e he ⟨g0, -⟩
  unfold ruCells at g0
  have hdl' := hx.day.len 52
  have hfr := hw.freq
  have hst : vB r.hasStart = vB false := by rw [hw.start.1]
  have c1 : convV Tryz.prog 5 80 (vU r.freq) = some (vI r.freq) := by rw [conv_int (P := Tryz.prog) (s := 5) (d := 80) Tryz.underlying5 Tryz.underlying80, wI64 (by omega)]
  simp only [go_sem, he, g0, hdl', c1, hst, avCells_one hx.setPos.one, avCells_one hx.month.one, avCells_one hx.monthDay.one, avCells_one hx.yearDay.one, avCells_one hx.weekNo.one, avCells_one hx.hour.one, avCells_one hx.minute.one, avCells_one hx.second.one, avCells_one hx.easter.one, hx.setPos.one, hx.month.one, hx.monthDay.one, hx.yearDay.one, hx.weekNo.one, hx.day.one, hx.hour.one, hx.minute.one, hx.second.one, hx.easter.one, List.replicate]
  refine acode_drawQ [42] mixed (by kernel_rfl) ?_
  simp only [go_sem, he, g0, hdl', c1]
  refine callX_quiet (fun _ => zzWeekday_A _ _ _) ?_
  simp only [go_sem, he, g0, hdl', c1, setD_some, avCells_one hx.setPos.one, avCells_one hx.month.one, avCells_one hx.monthDay.one, avCells_one hx.yearDay.one, avCells_one hx.weekNo.one, avCells_one hx.hour.one, avCells_one hx.minute.one, avCells_one hx.second.one, avCells_one hx.easter.one, hx.setPos.one, hx.month.one, hx.monthDay.one, hx.yearDay.one, hx.weekNo.one, hx.day.one, hx.hour.one, hx.minute.one, hx.second.one, hx.easter.one]
  refine cond_join (fun e h => ∃ (b z : List AV), len e = 66 ∧ AL.get e 1 = .ptr H.length 0 ∧ AL.get e 2 = .ptr (H.length + 1) 0 ∧ AL.get e 3 = .ptr (H.length + 2) 0 ∧ h = H ++ [.own 34 b, .own 102 z, .own 102 (optCells r { x with day := vNil })] ∧ z.length = 19 ∧ b.length = 18 ∧ b[13]? = some x.day) (fun hp => ?_) (fun hp => ?_) ?_
  · simp only [go_sem, he]
    refine callX_of (zOf2_A r.til _) (List.prefix_refl _) ?_
    simp only [go_sem, he, setD_some]
    refine ⟨_, _, rfl, ?_, ?_, ?_⟩ <;> rfl
  · have ht := hw.tilNo hp
    simp only [go_sem, he]
    unfold optCells
    rw [ht]
    refine ⟨_, _, rfl, ?_, ?_, ?_⟩ <;> rfl
  · rintro e h ⟨b, z, he, g1, g2, g3, rfl, hzl, hbl, hb13⟩
    have hb1 : (b.drop 13).take 1 = [x.day] := by
      rw [List.drop_eq_getElem_cons (by omega)]
      rw [List.getElem?_eq_getElem (by omega)] at hb13
      rw [Option.some.inj hb13]
      rfl
    simp only [go_sem, he, g1, g2, g3, hb13, hb1, hbl, hdl']
    unfold optCells
    refine A_while r.day.length (fun k e h => ∃ (i : Nat) (yd : AV) (z : List AV), i + k = r.day.length ∧ len e = 66 ∧ AL.get e 2 = .ptr (H.length + 1) 0 ∧ AL.get e 3 = .ptr (H.length + 2) 0 ∧ AL.get e 48 = x.day ∧ AL.get e 49 = vI r.day.length ∧ AL.get e 50 = vI i ∧ (∃ G, h = H ++ G) ∧ DaysB 84 H.length h yd (r.day.take i) ∧ h[H.length + 1]? = some (.own 102 z) ∧ z.length = 19 ∧ h[H.length + 2]? = some (.own 102 (optCells r { x with day := yd }))) (by kernel_rfl) ?_ ?_
    · simp only [go_sem, he, g1, g2, g3]
      exact ⟨0, vNil, z, by omega, rfl, ⟨_, rfl⟩, .inl ⟨rfl, rfl⟩, rfl, hzl, rfl⟩
    · clear hzl hb13 hbl hb1 g1 g2 g3 he
      rintro k e h ⟨i, yd, z, hik, he, g2, g3, g51, g52, g53, hG, hy, hz, hzl, hr⟩
      simp only [go_sem, he, g2, g3, g51, g52, g53]
      refine condK_of (fun hc => ?_) fun hc => ?_
      · have hc := of_decide_eq_true hc
        have hi : i < r.day.length := by omega
        have hxh : DaysAt h x.day r.day := by obtain ⟨G, rfl⟩ := hG; exact hx.day.more G
        obtain ⟨own, q, off, cs, e1, e2, e3, e4⟩ := hxh.get hi
        have hdl := hw.day.1
        have wi : IntKind.i64.wrap ((i : Int) + 1) = ((i + 1 : Nat) : Int) := by rw [wI64 (by omega)]; rfl
        rw [e1] at g51
        generalize hd : r.day.getD i (0, 0) = d at *
        simp only [go_sem, he, g2, g3, g51, g52, g53, e2, e3, e4, Int.toNat_natCast]
        refine ⟨by omega, ?_⟩
        refine acode_drawQ [42] mixed (by kernel_rfl) ?_
        have hr' := get_more (G := [AObj.own 52 [vI d.1, vI d.2]]) hr
        unfold optCells at hr'
        have hnew : (h ++ [AObj.own 52 [vI d.1, vI d.2]])[h.length]? = some (AObj.own 52 [vI d.1, vI d.2]) := heap_get0
        simp only [go_sem, he, g2, g3, g51, g52, g53, hr', hnew, fo52_1]
        refine callX_quiet (fun _ => zzWeekday_A _ _ _) ?_
        have hpush := (hy.more [AObj.own 52 [vI d.1, vI d.2]]).push el100 (by obtain ⟨G, rfl⟩ := hG; exact ⟨_, List.append_assoc _ _ _⟩) d (by rw [List.length_take]; omega)
        obtain ⟨x', h', ha, hy', hG', hkeep⟩ := hpush
        have htk : r.day.take (i + 1) = r.day.take i ++ [d] := by rw [List.take_add_one, ← hd, List.getD_eq_getElem?_getD, List.getElem?_eq_getElem hi]; rfl
        rw [← htk] at hy'
        simp only [go_sem, he, g2, g3, g51, g52, g53, hr', hnew, fo52_1, setD_some] at ha ⊢
        rw [ha]
        have hr2 := hkeep _ _ hr' (by intro cs; simp)
        have hz' := hkeep _ _ (get_more (G := [AObj.own 52 [vI d.1, vI d.2]]) hz) (by intro cs; simp)
        simp only [go_sem, he, g2, g3, g51, g52, g53, hr2, avCells_one hy'.one, wi]
        obtain ⟨G', rfl⟩ := hG'
        refine ⟨k - 1, by omega, i + 1, x', z, by omega, e1.symm, rfl, ⟨_, set_behind (by omega)⟩, hy'.putT hr2 (by decide) _, ?_, hzl, ?_⟩
        · rw [List.getElem?_set_ne (by omega)]; exact hz'
        · rw [List.getElem?_set_self (List.getElem?_eq_some_iff.1 hr2).1]; rfl
      · have hc := of_decide_eq_false hc
        have hi : i = r.day.length := by omega
        rw [hi, List.take_length] at hy
        have hlt1 := (List.getElem?_eq_some_iff.1 hz).1
        have hS : ∀ y : AObj, (h.set (H.length + 1) y)[H.length + 1]? = some y := fun y => List.getElem?_set_self hlt1
        have hr' := hr
        unfold optCells at hr'
        have hz19 : z.drop 19 = [] := List.drop_eq_nil_of_le (by omega)
        simp only [go_sem, he, g2, g3, g51, g52, g53, hr', hz, hzl, hz19, hS, hy.one, Bool.true_and, hx.setPos.one, hx.month.one, hx.monthDay.one, hx.yearDay.one, hx.weekNo.one, hx.hour.one, hx.minute.one, hx.second.one, hx.easter.one]
        have hy2 := (hy.own.putT (y := .own 102 (optCells r { x with day := yd })) hz (by decide)).days
        obtain ⟨G, rfl⟩ := hG
        have eset := set_behind (H := H) (G := G) (o := H.length + 1) (y := .own 102 (optCells r { x with day := yd })) (by omega)
        unfold optCells at eset hy2
        have hx2 : ∀ G, RuAt (H ++ G) r x := fun G => hx.more G
        rw [eset] at hy2 ⊢
        exact ⟨⟨{ x with day := yd }, rfl, ⟨(hx2 _).setPos, (hx2 _).month, (hx2 _).monthDay, (hx2 _).yearDay, (hx2 _).weekNo, hy2, (hx2 _).hour, (hx2 _).minute, (hx2 _).second, (hx2 _).easter⟩⟩, _, rfl⟩

def putN (l : List (List UInt8)) (name : List UInt8) (ns : List Int) : List (List UInt8) := if ns.length = 0 then l else l ++ [name ++ 61 :: joined ns]
theorem appendInts_A {w0 : World} (hG : Glob w0) (name : List UInt8) (hname : name.length ≤ 20) (ns : List Int) (hs : Small ns) (l : List (List UInt8)) (hl : l.length ≤ 1000) (H h : Heap) (x y : AV) (hO : OutAt H h x l) (hy : IntsAt H y ns) :
    ACalls Tryz.prog (CB w0) 77 [x, vS name, y] h fun v h' => OutAt H h' v (putN l name ns) := by
  refine A_fun (N := 38) (rs := [.tmp 6]) Tryz.func77 rfl rfl rfl (by kernel_rfl) (by kernel_rfl) (Nat.le_of_ble_eq_true rfl) ?_
  rintro e he ⟨g0, g1, g2, -⟩
  have hyl := hy.len 3
  have hyh : IntsAt h y ns := by obtain ⟨G, e⟩ := hO.1; rw [e]; exact hy.more G
  have hjs := joined_small hs
  have hsl := hs.1
  simp only [go_sem, he, g0, g1, g2, hyl]
  refine condK_of (fun hc => ?_) fun hc => ?_
  · have hc := of_decide_eq_true hc
    simp only [go_sem, he, g0, g1, g2, hyl]
    unfold putN
    rw [if_pos (by omega)]
    exact hO
  · have hc := of_decide_eq_false hc
    have hpos : 0 < ns.length := by omega
    simp only [go_sem, he, g0, g1, g2, hyl, makeSliceA]
    refine ⟨⟨by omega, by omega, by omega, by omega⟩, ?_⟩
    refine A_while ns.length (fun k e h' => ∃ (i : Nat) (cs : List AV), i + k = ns.length ∧ h' = h ++ [.own 9 cs] ∧ cs.length = ns.length ∧ (∀ j, j < i → cs[j]? = some (vS (Lib.itoa (ns.getD j 0)))) ∧ len e = 38 ∧ AL.get e 0 = x ∧ AL.get e 1 = vS name ∧ AL.get e 7 = .sl true h.length 0 ns.length 1 ∧ AL.get e 17 = y ∧ AL.get e 18 = vI ns.length ∧ AL.get e 19 = vI i) (by kernel_rfl) ?_ ?_
    · simp only [go_sem, he, g0, g1, g2]
      exact ⟨0, _, by omega, rfl, by simp [zerosN_length], fun j hj => by omega, rfl⟩
    · rintro k e h' ⟨i, cs, hik, rfl, hcl, hcv, he, g0, g1, g7, g17, g18, g19⟩
      simp only [go_sem, he, g0, g1, g7, g17, g18, g19]
      refine condK_of (fun hc => ?_) fun hc => ?_
      · have hc := of_decide_eq_true hc
        have hi : i < ns.length := by omega
        have wi : IntKind.i64.wrap ((i : Int) + 1) = ((i + 1 : Nat) : Int) := by rw [wI64 (by omega)]; rfl
        obtain ⟨own, q, off, ys, rfl, hys, hyc⟩ := IntsAt.get (hyh.more [.own 9 cs]) hi
        have hnb : -1000 ≤ ns.getD i 0 ∧ ns.getD i 0 ≤ 1000 := by
          rw [List.getD_eq_getElem?_getD, List.getElem?_eq_getElem hi]
          exact hs.2 _ (List.getElem_mem _)
        simp only [go_sem, he, g0, g1, g7, g17, g18, g19, hys, hyc, Int.toNat_natCast]
        refine ⟨by omega, callX_of (itoa_A hG _ (by omega) (by omega) _) (List.prefix_refl _) ?_⟩
        simp only [go_sem, he, g0, g1, g7, g17, g18, g19, hys, hyc, Int.toNat_natCast, setD_some, wi]
        refine ⟨by omega, by omega, k - 1, by omega, i + 1, cs.set i (vS (Lib.itoa (ns.getD i 0))), by omega, ?_, by rw [List.length_set]; exact hcl, fun j hj => ?_, rfl⟩
        · rw [List.set_eq_take_append_cons_drop, if_pos (by omega)]
        · rw [List.getElem?_set]
          by_cases hij : i = j
          · subst hij
            rw [if_pos rfl, if_pos (by omega)]
          · rw [if_neg hij]
            exact hcv j (by omega)
      · have hc := of_decide_eq_false hc
        have hi : i = ns.length := by omega
        have hT : TextsAt (h ++ [.own 9 cs]) (.sl true h.length 0 ns.length 1) (ns.map Lib.itoa) := by
          refine .inr ⟨true, h.length, 0, cs, by rw [List.length_map], by rw [heap_get0]; rfl, fun j hj => ?_⟩
          rw [List.length_map] at hj
          have hj' : j < ns.length := by omega
          rw [Nat.zero_add, hcv j (by omega)]
          show some (vS (Lib.itoa (ns.getD j 0))) = some (vS ((ns.map Lib.itoa).getD j []))
          rw [List.getD_eq_getElem?_getD, List.getD_eq_getElem?_getD, List.getElem?_map, List.getElem?_eq_getElem hj']
          rfl
        have hjo : joinB 44 (ns.map Lib.itoa) = joined ns := rfl
        simp only [go_sem, he, g0, g1, g7, g17, g18, g19]
        refine ⟨by omega, callX_of (join_A 44 (ns.map Lib.itoa) (by rw [List.length_map]; omega) (by rw [hjo]; omega) _ _ hT) (List.prefix_refl _) ?_⟩
        rw [hjo]
        have hpush := (hO.more [.own 9 cs]).push (name ++ 61 :: joined ns) (by omega)
        obtain ⟨x', h', ha, hO', hkeep⟩ := hpush
        simp only [go_sem, he, g0, g1, g7, g17, g18, g19, setD_some] at ha ⊢
        rw [ha]
        simp only [go_sem, he, g0, g1, g7, g17, g18, g19]
        refine ⟨by simp; omega, ?_⟩
        unfold putN
        rw [if_neg (by omega)]
        exact hO'

def wFreq (r : Ru) : KV := ([70, 82, 69, 81], freqs.getD r.freq [])
def wInt (r : Ru) : List KV := if r.interval = 0 then [] else [([73, 78, 84, 69, 82, 86, 65, 76], Lib.itoa r.interval)]
def wWkst (r : Ru) : List KV := if r.wkst = 0 then [] else [([87, 75, 83, 84], nameText (r.wkst, 0))]
def wCount (r : Ru) : List KV := if r.count = 0 then [] else [([67, 79, 85, 78, 84], Lib.itoa r.count)]
def wUntil (r : Ru) : List KV := if r.til = 0 then [] else [([85, 78, 84, 73, 76], dateText r.til)]
def wDay (r : Ru) : List KV := if r.day.length = 0 then [] else [([66, 89, 68, 65, 89], joinB 44 (r.day.map nameText))]
theorem putN_kv (L : List KV) (name : List UInt8) (ns : List Int) : putN (L.map kvT) name ns = (L ++ kOne name ns).map kvT := by
  unfold putN kOne
  split
  · rw [List.append_nil]
  · rw [List.map_append]; rfl
def wA1 (r : Ru) : List KV := [wFreq r]
def wA2 (r : Ru) : List KV := wA1 r ++ wInt r
def wA3 (r : Ru) : List KV := wA2 r ++ wWkst r
def wA4 (r : Ru) : List KV := wA3 r ++ wCount r
def wA5 (r : Ru) : List KV := wA4 r ++ wUntil r
def wB1 (r : Ru) : List KV := wA5 r ++ kOne [66, 89, 83, 69, 84, 80, 79, 83] r.setPos
def wB2 (r : Ru) : List KV := wB1 r ++ kOne [66, 89, 77, 79, 78, 84, 72] r.month
def wB3 (r : Ru) : List KV := wB2 r ++ kOne [66, 89, 77, 79, 78, 84, 72, 68, 65, 89] r.monthDay
def wB4 (r : Ru) : List KV := wB3 r ++ kOne [66, 89, 89, 69, 65, 82, 68, 65, 89] r.yearDay
def wB5 (r : Ru) : List KV := wB4 r ++ kOne [66, 89, 87, 69, 69, 75, 78, 79] r.weekNo
def wC (r : Ru) : List KV := wB5 r ++ wDay r
def wD1 (r : Ru) : List KV := wC r ++ kOne [66, 89, 72, 79, 85, 82] r.hour
def wD2 (r : Ru) : List KV := wD1 r ++ kOne [66, 89, 77, 73, 78, 85, 84, 69] r.minute
def wD3 (r : Ru) : List KV := wD2 r ++ kOne [66, 89, 83, 69, 67, 79, 78, 68] r.second
def kvsW (r : Ru) : List KV := wD3 r ++ kOne [66, 89, 69, 65, 83, 84, 69, 82] r.easter
theorem len_ite1 {α : Type} {c : Prop} [Decidable c] {a : α} : (if c then [] else [a] : List α).length ≤ 1 := by split <;> simp
theorem len_ite1' {α : Type} (c : Prop) [Decidable c] (a : α) : (if c then [] else [a] : List α).length ≤ 1 := len_ite1
theorem kOne_len (k : List UInt8) (l : List Int) : (kOne k l).length ≤ 1 := by unfold kOne; exact len_ite1
theorem w_len (r : Ru) : (wA1 r).length ≤ 15 ∧ (wA2 r).length ≤ 15 ∧ (wA3 r).length ≤ 15 ∧ (wA4 r).length ≤ 15 ∧ (wA5 r).length ≤ 15 ∧ (wB1 r).length ≤ 15 ∧ (wB2 r).length ≤ 15 ∧ (wB3 r).length ≤ 15 ∧ (wB4 r).length ≤ 15 ∧ (wB5 r).length ≤ 15 ∧ (wC r).length ≤ 15 ∧ (wD1 r).length ≤ 15 ∧ (wD2 r).length ≤ 15 ∧ (wD3 r).length ≤ 15 ∧ (kvsW r).length ≤ 15 := by
  unfold kvsW wD3 wD2 wD1 wC wB5 wB4 wB3 wB2 wB1 wA5 wA4 wA3 wA2 wA1 wInt wWkst wCount wUntil wDay
  simp only [List.length_append, List.length_cons, List.length_nil]
  have a := len_ite1' (r.interval = 0) (([73, 78, 84, 69, 82, 86, 65, 76], Lib.itoa r.interval) : KV)
  have b := len_ite1' (r.wkst = 0) (([87, 75, 83, 84], nameText (r.wkst, 0)) : KV)
  have c := len_ite1' (r.count = 0) (([67, 79, 85, 78, 84], Lib.itoa r.count) : KV)
  have d := len_ite1' (r.til = 0) (([85, 78, 84, 73, 76], dateText r.til) : KV)
  have e := len_ite1' (r.day.length = 0) (([66, 89, 68, 65, 89], joinB 44 (r.day.map nameText)) : KV)
  have l0 := kOne_len [66, 89, 83, 69, 84, 80, 79, 83] r.setPos
  have l1 := kOne_len [66, 89, 77, 79, 78, 84, 72] r.month
  have l2 := kOne_len [66, 89, 77, 79, 78, 84, 72, 68, 65, 89] r.monthDay
  have l3 := kOne_len [66, 89, 89, 69, 65, 82, 68, 65, 89] r.yearDay
  have l4 := kOne_len [66, 89, 87, 69, 69, 75, 78, 79] r.weekNo
  have l5 := kOne_len [66, 89, 72, 79, 85, 82] r.hour
  have l6 := kOne_len [66, 89, 77, 73, 78, 85, 84, 69] r.minute
  have l7 := kOne_len [66, 89, 83, 69, 67, 79, 78, 68] r.second
  have l8 := kOne_len [66, 89, 69, 65, 83, 84, 69, 82] r.easter
  omega
theorem kvsW_mem {r : Ru} {q : KV} (h : q ∈ kvsW r) : q = wFreq r ∨ q ∈ wInt r ∨ q ∈ wWkst r ∨ q ∈ wCount r ∨ q ∈ wUntil r ∨ q ∈ wDay r ∨ (q ∈ kOne [66, 89, 83, 69, 84, 80, 79, 83] r.setPos ∨ q ∈ kOne [66, 89, 77, 79, 78, 84, 72] r.month ∨ q ∈ kOne [66, 89, 77, 79, 78, 84, 72, 68, 65, 89] r.monthDay ∨ q ∈ kOne [66, 89, 89, 69, 65, 82, 68, 65, 89] r.yearDay ∨ q ∈ kOne [66, 89, 87, 69, 69, 75, 78, 79] r.weekNo ∨ q ∈ kOne [66, 89, 72, 79, 85, 82] r.hour ∨ q ∈ kOne [66, 89, 77, 73, 78, 85, 84, 69] r.minute ∨ q ∈ kOne [66, 89, 83, 69, 67, 79, 78, 68] r.second ∨ q ∈ kOne [66, 89, 69, 65, 83, 84, 69, 82] r.easter) := by
  unfold kvsW wD3 wD2 wD1 wC wB5 wB4 wB3 wB2 wB1 wA5 wA4 wA3 wA2 wA1 at h
  simp only [List.mem_append, List.mem_singleton] at h
  rcases h with ((((((((((((((h | h) | h) | h) | h) | h) | h) | h) | h) | h) | h) | h) | h) | h) | h) <;> simp only [h, true_or, or_true]
theorem dayNames_len {l : List (Int × Int)} (hd : SmallD l) : (joinB 44 (l.map nameText)).length ≤ 84 := by
  have := joinB_length 44 6 (l.map nameText) (fun s hs => by
    obtain ⟨d, hd', rfl⟩ := List.mem_map.1 hs
    obtain ⟨d1, d2, d3, d4⟩ := hd.2 d hd'
    exact (name_text d1 d2 d3 d4).2.1)
  rw [List.length_map] at this
  have := hd.1
  omega
theorem kvsW_small {r : Ru} (hw : Wr r) {q : KV} (h : q ∈ kvsW r) : (kvT q).length ≤ 100 := by
  have hfq := (freq_text hw.freq).2
  have hiv := hw.interval
  have hct := hw.count
  have hli := Lib.itoa_length_le r.interval (by omega) (by omega)
  have hlc := Lib.itoa_length_le r.count (by omega) (by omega)
  have h53 : (-53 : Int) ≤ 0 ∧ (0 : Int) ≤ 53 := by decide
  have hlw : (nameText (r.wkst, 0)).length ≤ 6 := (name_text hw.wkst.1 hw.wkst.2 h53.1 h53.2).2.1
  have key : ∀ {n : List UInt8} {l : List Int}, n.length ≤ 20 → Small l → q ∈ kOne n l → (kvT q).length ≤ 100 := by
    intro n l hn hl hq
    unfold kOne at hq
    split at hq
    · cases hq
    · rw [List.mem_singleton] at hq
      subst hq
      have := joined_small hl
      unfold kvT
      simp only [List.length_append, List.length_cons]
      omega
  have one : ∀ {c : Prop} [Decidable c] {n v : List UInt8}, q ∈ (if c then [] else [(n, v)] : List KV) → ¬ c ∧ q = (n, v) := by
    intro c _ n v hq
    split at hq
    · cases hq
    · exact ⟨‹_›, List.mem_singleton.1 hq⟩
  have two : ∀ {n v : List UInt8}, q = (n, v) → n.length + v.length ≤ 99 → (kvT q).length ≤ 100 := by
    rintro n v rfl hl
    unfold kvT
    simp only [List.length_append, List.length_cons]
    omega
  rcases kvsW_mem h with h | h | h | h | h | h | h
  · exact two h (by simp only [List.length_cons, List.length_nil]; omega)
  · exact two (one h).2 (by simp only [List.length_cons, List.length_nil]; omega)
  · exact two (one h).2 (by simp only [List.length_cons, List.length_nil]; omega)
  · exact two (one h).2 (by simp only [List.length_cons, List.length_nil]; omega)
  · have hin : InY r.til := by
      cases hu : r.hasUntil with
      | true => exact (hw.til hu).1
      | false => exact absurd (hw.tilNo hu) (one h).1
    have hl16 := (date_segs hin).1
    exact two (one h).2 (by simp only [List.length_cons, List.length_nil]; omega)
  · have := dayNames_len hw.day
    exact two (one h).2 (by simp only [List.length_cons, List.length_nil]; omega)
  · rcases h with h | h | h | h | h | h | h | h | h
    · exact key (by decide) hw.setPos h
    · exact key (by decide) hw.month h
    · exact key (by decide) hw.monthDay h
    · exact key (by decide) hw.yearDay h
    · exact key (by decide) hw.weekNo h
    · exact key (by decide) hw.hour h
    · exact key (by decide) hw.minute h
    · exact key (by decide) hw.second h
    · exact key (by decide) hw.easter h
theorem OutAt.texts {H h : Heap} {x : AV} {l : List (List UInt8)} (hO : OutAt H h x l) : TextsAt h x l := by
  obtain ⟨-, o, rfl, ho, -⟩ := hO
  refine .inr ⟨true, o, 0, l.map vS, rfl, by rw [ho]; rfl, fun j hj => ?_⟩
  have hj' : j < l.length := by omega
  rw [Nat.zero_add, List.getElem?_map, List.getElem?_eq_getElem hj']
  show some (vS l[j]) = some (vS (l.getD j []))
  rw [List.getD_eq_getElem?_getD, List.getElem?_eq_getElem hj']
  rfl
set_option maxHeartbeats 8000000 in
theorem rruleString_A {w0 : World} (hG : Glob w0) (r : Ru) (hw : Wr r) (y : Rs) (p : Nat) (H : Heap) (hH : GH H) (hp : H[p]? = some (.own 102 (optCells r y))) (hx : RuAt H r y) : ACalls Tryz.prog (CB w0) 51 [.ptr p 0] H fun v H' => v = vS (joinB 59 ((kvsW r).map kvT)) ∧ ∃ G, H' = H ++ G := by
  refine A_fun (N := 162) (rs := [.tmp 2]) Tryz.func51 rfl rfl rfl (by kernel_rfl) (by kernel_rfl) (Nat.le_of_ble_eq_true rfl) ?_
  rintro e he ⟨g0, -⟩
  have hP : ∀ {h : Heap}, (∃ G, h = H ++ G) → h[p]? = some (.own 102 (optCells r y)) := fun ⟨G, e⟩ => by rw [e]; exact get_more hp
  unfold optCells at hP hp
  have hMO : ∀ {h : Heap}, (∃ G, h = H ++ G) → h[0]? = some (.ro [vI 0, vI 0]) := fun ⟨G, e⟩ => by rw [e]; exact (hH.more G).mo
  have hfq := (freq_text hw.freq).2
  have hiv := hw.interval
  have hct := hw.count
  have hli := Lib.itoa_length_le r.interval (by omega) (by omega)
  have hlc := Lib.itoa_length_le r.count (by omega) (by omega)
  have h53 : (-53 : Int) ≤ 0 ∧ (0 : Int) ≤ 53 := by decide
  have hlw : (nameText (r.wkst, 0)).length ≤ 6 := (name_text hw.wkst.1 hw.wkst.2 h53.1 h53.2).2.1
  simp only [go_sem, he, g0, nilA, hp]
  refine callX_of (freqString_A r.freq hw.freq _) (List.prefix_refl _) ?_
  simp only [go_sem, he, g0, nilA, setD_some, hP ⟨_, rfl⟩]
  have hO : OutAt H (H ++ [AObj.own 9 [AV.val (Value.string (S (70 :: 82 :: 69 :: 81 :: 61 :: freqs.getD r.freq [])))]]) (.sl true H.length 0 1 1) ((wA1 r).map kvT) := ⟨⟨_, rfl⟩, H.length, rfl, by rw [heap_get0]; rfl, Nat.le_refl _⟩
  refine ⟨by omega, ?_⟩
  generalize H ++ [AObj.own 9 [AV.val (Value.string (S (70 :: 82 :: 69 :: 81 :: 61 :: freqs.getD r.freq [])))]] = h at hO ⊢
  generalize AV.sl true H.length 0 1 1 = x at hO ⊢
  refine cond_join (fun e h => len e = 162 ∧ AL.get e 0 = .ptr p 0 ∧ ∃ x, AL.get e 3 = x ∧ OutAt H h x ((wA2 r).map kvT)) (fun hc => ?_) (fun hc => ?_) ?_
  · have hc : ¬ r.interval = 0 := by simpa using hc
    simp only [go_sem, he, g0, nilA, hP hO.1]
    refine callX_of (itoa_A hG r.interval (by omega) (by omega) _) (List.prefix_refl _) ?_
    have hpush := hO.push (73 :: 78 :: 84 :: 69 :: 82 :: 86 :: 65 :: 76 :: 61 :: Lib.itoa r.interval) (by rw [List.length_map]; have := w_len r; omega)
    obtain ⟨x', h', ha, hO', -⟩ := hpush
    try simp only [go_sem] at ha
    simp only [go_sem, he, g0, nilA, hP hO.1, setD_some]
    rw [ha]
    simp only [go_sem, he, g0, nilA, hP hO.1, setD_some]
    refine ⟨by omega, _, rfl, ?_⟩
    show OutAt H h' x' ((wA1 r ++ wInt r).map kvT)
    rw [show wInt r = [([73, 78, 84, 69, 82, 86, 65, 76], Lib.itoa r.interval)] from if_neg hc, List.map_append]
    exact hO'
  · have hc : ¬ ¬ r.interval = 0 := by simpa using hc
    simp only [go_sem, he, g0, nilA, hP hO.1]
    refine ⟨_, rfl, ?_⟩
    show OutAt H h x ((wA1 r ++ wInt r).map kvT)
    rw [show wInt r = [] from if_pos (Decidable.not_not.1 hc), List.append_nil]
    exact hO
  clear hO he g0
  rintro e h ⟨he, g0, x, g3, hO⟩
  simp only [go_sem, he, g0, g3, nilA, hP hO.1]
  refine acode_draw mixed (by kernel_rfl) ?_
  simp only [go_sem, he, g0, g3, nilA, hP hO.1, hMO hO.1]
  refine cond_join (fun e h => len e = 162 ∧ AL.get e 0 = .ptr p 0 ∧ ∃ x, AL.get e 3 = x ∧ OutAt H h x ((wA3 r).map kvT)) (fun hc => ?_) (fun hc => ?_) ?_
  · have hc : ¬ r.wkst = 0 := by simpa using hc
    simp only [go_sem, he, g0, g3, nilA, hP hO.1]
    refine callX_of (wdString_A hG (r.wkst, 0) hw.wkst.1 hw.wkst.2 h53.1 h53.2 _) (List.prefix_refl _) ?_
    have hpush := hO.push (87 :: 75 :: 83 :: 84 :: 61 :: nameText (r.wkst, 0)) (by rw [List.length_map]; have := w_len r; omega)
    obtain ⟨x', h', ha, hO', -⟩ := hpush
    try simp only [go_sem] at ha
    simp only [go_sem, he, g0, g3, nilA, hP hO.1, setD_some]
    rw [ha]
    simp only [go_sem, he, g0, g3, nilA, hP hO.1, setD_some]
    refine ⟨by omega, _, rfl, ?_⟩
    show OutAt H h' x' ((wA2 r ++ wWkst r).map kvT)
    rw [show wWkst r = [([87, 75, 83, 84], nameText (r.wkst, 0))] from if_neg hc, List.map_append]
    exact hO'
  · have hc : ¬ ¬ r.wkst = 0 := by simpa using hc
    simp only [go_sem, he, g0, g3, nilA, hP hO.1]
    refine ⟨_, rfl, ?_⟩
    show OutAt H h x ((wA2 r ++ wWkst r).map kvT)
    rw [show wWkst r = [] from if_pos (Decidable.not_not.1 hc), List.append_nil]
    exact hO
  clear hO he g0
  rintro e h ⟨he, g0, x, g3, hO⟩
  simp only [go_sem, he, g0, g3, nilA, hP hO.1]
  refine cond_join (fun e h => len e = 162 ∧ AL.get e 0 = .ptr p 0 ∧ ∃ x, AL.get e 3 = x ∧ OutAt H h x ((wA4 r).map kvT)) (fun hc => ?_) (fun hc => ?_) ?_
  · have hc : ¬ r.count = 0 := by simpa using hc
    simp only [go_sem, he, g0, g3, nilA, hP hO.1]
    refine callX_of (itoa_A hG r.count (by omega) (by omega) _) (List.prefix_refl _) ?_
    have hpush := hO.push (67 :: 79 :: 85 :: 78 :: 84 :: 61 :: Lib.itoa r.count) (by rw [List.length_map]; have := w_len r; omega)
    obtain ⟨x', h', ha, hO', -⟩ := hpush
    try simp only [go_sem] at ha
    simp only [go_sem, he, g0, g3, nilA, hP hO.1, setD_some]
    rw [ha]
    simp only [go_sem, he, g0, g3, nilA, hP hO.1, setD_some]
    refine ⟨by omega, _, rfl, ?_⟩
    show OutAt H h' x' ((wA3 r ++ wCount r).map kvT)
    rw [show wCount r = [([67, 79, 85, 78, 84], Lib.itoa r.count)] from if_neg hc, List.map_append]
    exact hO'
  · have hc : ¬ ¬ r.count = 0 := by simpa using hc
    simp only [go_sem, he, g0, g3, nilA, hP hO.1]
    refine ⟨_, rfl, ?_⟩
    show OutAt H h x ((wA3 r ++ wCount r).map kvT)
    rw [show wCount r = [] from if_pos (Decidable.not_not.1 hc), List.append_nil]
    exact hO
  clear hO he g0
  rintro e h ⟨he, g0, x, g3, hO⟩
  simp only [go_sem, he, g0, g3, nilA, hP hO.1]
  refine callX_of (zIsZero_A r.til 0 _) (List.prefix_refl _) ?_
  simp only [go_sem, he, g0, g3, nilA, hP hO.1, setD_some]
  refine cond_join (fun e h => len e = 162 ∧ AL.get e 0 = .ptr p 0 ∧ ∃ x, AL.get e 3 = x ∧ OutAt H h x ((wA5 r).map kvT)) (fun hc => ?_) (fun hc => ?_) ?_
  · have hc : ¬ r.til = 0 := by simpa using hc
    have hin : InY r.til := by
      cases hu : r.hasUntil with
      | true => exact (hw.til hu).1
      | false => exact absurd (hw.tilNo hu) hc
    have hl16 := (date_segs hin).1
    simp only [go_sem, he, g0, g3, nilA, hP hO.1]
    refine callX_of (timeToStr_A hG r.til hin _) (List.prefix_refl _) ?_
    have hpush := hO.push (85 :: 78 :: 84 :: 73 :: 76 :: 61 :: dateText r.til) (by rw [List.length_map]; have := w_len r; omega)
    obtain ⟨x', h', ha, hO', -⟩ := hpush
    try simp only [go_sem] at ha
    simp only [go_sem, he, g0, g3, nilA, hP hO.1, setD_some]
    rw [ha]
    simp only [go_sem, he, g0, g3, nilA, hP hO.1, setD_some]
    refine ⟨by omega, _, rfl, ?_⟩
    show OutAt H h' x' ((wA4 r ++ wUntil r).map kvT)
    rw [show wUntil r = [([85, 78, 84, 73, 76], dateText r.til)] from if_neg hc, List.map_append]
    exact hO'
  · have hc : ¬ ¬ r.til = 0 := by simpa using hc
    simp only [go_sem, he, g0, g3, nilA, hP hO.1]
    refine ⟨_, rfl, ?_⟩
    show OutAt H h x ((wA4 r ++ wUntil r).map kvT)
    rw [show wUntil r = [] from if_pos (Decidable.not_not.1 hc), List.append_nil]
    exact hO
  clear hO he g0
  rintro e h ⟨he, g0, x, g3, hO⟩
  simp only [go_sem, he, g0, g3, nilA, hP hO.1]
  refine callX_any (appendInts_A hG [66, 89, 83, 69, 84, 80, 79, 83] (by decide) r.setPos hw.setPos ((wA5 r).map kvT) (by rw [List.length_map]; have := w_len r; omega) H h x y.setPos hO hx.setPos) ?_
  clear hO
  rintro x h hO
  rw [putN_kv] at hO
  have hO : OutAt H h x ((wB1 r).map kvT) := hO
  simp only [go_sem, he, g0, g3, nilA, hP hO.1, setD_some]
  refine callX_any (appendInts_A hG [66, 89, 77, 79, 78, 84, 72] (by decide) r.month hw.month ((wB1 r).map kvT) (by rw [List.length_map]; have := w_len r; omega) H h x y.month hO hx.month) ?_
  clear hO
  rintro x h hO
  rw [putN_kv] at hO
  have hO : OutAt H h x ((wB2 r).map kvT) := hO
  simp only [go_sem, he, g0, g3, nilA, hP hO.1, setD_some]
  refine callX_any (appendInts_A hG [66, 89, 77, 79, 78, 84, 72, 68, 65, 89] (by decide) r.monthDay hw.monthDay ((wB2 r).map kvT) (by rw [List.length_map]; have := w_len r; omega) H h x y.monthDay hO hx.monthDay) ?_
  clear hO
  rintro x h hO
  rw [putN_kv] at hO
  have hO : OutAt H h x ((wB3 r).map kvT) := hO
  simp only [go_sem, he, g0, g3, nilA, hP hO.1, setD_some]
  refine callX_any (appendInts_A hG [66, 89, 89, 69, 65, 82, 68, 65, 89] (by decide) r.yearDay hw.yearDay ((wB3 r).map kvT) (by rw [List.length_map]; have := w_len r; omega) H h x y.yearDay hO hx.yearDay) ?_
  clear hO
  rintro x h hO
  rw [putN_kv] at hO
  have hO : OutAt H h x ((wB4 r).map kvT) := hO
  simp only [go_sem, he, g0, g3, nilA, hP hO.1, setD_some]
  refine callX_any (appendInts_A hG [66, 89, 87, 69, 69, 75, 78, 79] (by decide) r.weekNo hw.weekNo ((wB4 r).map kvT) (by rw [List.length_map]; have := w_len r; omega) H h x y.weekNo hO hx.weekNo) ?_
  clear hO
  rintro x h hO
  rw [putN_kv] at hO
  have hO : OutAt H h x ((wB5 r).map kvT) := hO
  simp only [go_sem, he, g0, g3, nilA, hP hO.1, setD_some]
  have hdn := hw.day
  have hdy := hx.day.len 84
  have hdj := dayNames_len hdn
  simp only [go_sem, he, g0, g3, nilA, hP hO.1, setD_some, hdy]
  refine cond_join (fun e h => len e = 162 ∧ AL.get e 0 = .ptr p 0 ∧ ∃ x, AL.get e 3 = x ∧ OutAt H h x ((wC r).map kvT)) (fun hc => ?_) (fun hc => ?_) ?_
  · have hc : ¬ r.day.length = 0 := by
      intro e
      rw [e] at hc
      revert hc
      decide
    have hc0 := hc
    have hpos : 0 < r.day.length := by omega
    have hdm := hdn.1
    have hPm : ∀ X, (h ++ X)[p]? = some (AObj.own 102 [vI r.freq, vI 0, vI 0, vI r.interval, vI r.wkst, vI 0, vI r.count, vI r.til, vI 0, y.setPos, y.month, y.monthDay, y.yearDay, y.weekNo, y.day, y.hour, y.minute, y.second, y.easter]) := fun X => get_more (hP hO.1)
    simp only [go_sem, he, g0, nilA, hP hO.1, hdy, makeSliceA]
    refine ⟨⟨by omega, by omega, by omega, by omega⟩, ?_⟩
    simp only [go_sem, he, g0, nilA, hPm, hdy]
    refine A_while r.day.length (fun k e h' => ∃ (i : Nat) (cs : List AV) (G' : Heap), i + k = r.day.length ∧ h' = h ++ .own 9 cs :: G' ∧ cs.length = r.day.length ∧ (∀ j, j < i → cs[j]? = some (vS (nameText (r.day.getD j (0, 0))))) ∧ len e = 162 ∧ AL.get e 0 = .ptr p 0 ∧ AL.get e 3 = x ∧ AL.get e 4 = .sl true h.length 0 r.day.length 1 ∧ AL.get e 117 = y.day ∧ AL.get e 118 = vI r.day.length ∧ AL.get e 119 = vI i) (by kernel_rfl) ?_ ?_
    · simp only [go_sem, he, g0, g3]
      exact ⟨0, _, _, by omega, rfl, by simp [zerosN_length], fun j hj => by omega, rfl⟩
    · clear he g0 g3
      rintro k e h' ⟨i, cs, G', hik, rfl, hcl, hcv, he, g0, g3, g4, g117, g118, g119⟩
      simp only [go_sem, he, g0, g3, g4, g117, g118, g119]
      refine condK_of (fun hc => ?_) fun hc => ?_
      · have hc := of_decide_eq_true hc
        have hi : i < r.day.length := by omega
        have wi : IntKind.i64.wrap ((i : Int) + 1) = ((i + 1 : Nat) : Int) := by rw [wI64 (by omega)]; rfl
        have hxh : DaysAt (h ++ .own 9 cs :: G') y.day r.day := by obtain ⟨G, e⟩ := hO.1; rw [e, List.append_assoc]; exact hx.day.more _
        obtain ⟨own, q, off, ys, e1, e2, e3, e4⟩ := hxh.get hi
        obtain ⟨d1, d2, d3, d4⟩ : 0 ≤ (r.day.getD i (0, 0)).1 ∧ (r.day.getD i (0, 0)).1 ≤ 6 ∧ -53 ≤ (r.day.getD i (0, 0)).2 ∧ (r.day.getD i (0, 0)).2 ≤ 53 := by
          rw [List.getD_eq_getElem?_getD, List.getElem?_eq_getElem hi]
          exact hdn.2 _ (List.getElem_mem _)
        rw [e1] at g117
        generalize hd : r.day.getD i (0, 0) = d at *
        simp only [go_sem, he, g0, g3, g4, g117, g118, g119, e2, e3, e4, Int.toNat_natCast]
        refine ⟨by omega, callX_of (wdString_A hG d d1 d2 d3 d4 _) (List.prefix_refl _) ?_⟩
        simp only [go_sem, he, g0, g3, g4, g117, g118, g119, setD_some, Int.toNat_natCast, wi]
        refine ⟨by omega, by omega, k - 1, by omega, i + 1, cs.set i (vS (nameText d)), G' ++ [.own 84 [vI d.1, vI d.2]], by omega, ?_, by rw [List.length_set]; exact hcl, fun j hj => ?_, e1.symm, rfl⟩
        · rw [List.set_eq_take_append_cons_drop, if_pos (by omega)]
        · rw [List.getElem?_set]
          by_cases hij : i = j
          · subst hij
            rw [if_pos rfl, if_pos (by omega), hd]
          · rw [if_neg hij]
            exact hcv j (by omega)
      · have hc := of_decide_eq_false hc
        have hi : i = r.day.length := by omega
        have hT : TextsAt (h ++ .own 9 cs :: G') (.sl true h.length 0 r.day.length 1) (r.day.map nameText) := by
          refine .inr ⟨true, h.length, 0, cs, by rw [List.length_map], by rw [heap_get0]; rfl, fun j hj => ?_⟩
          rw [List.length_map] at hj
          have hj' : j < r.day.length := by omega
          rw [Nat.zero_add, hcv j (by omega)]
          show some (vS (nameText (r.day.getD j (0, 0)))) = some (vS ((r.day.map nameText).getD j []))
          rw [List.getD_eq_getElem?_getD, List.getD_eq_getElem?_getD, List.getElem?_map, List.getElem?_eq_getElem hj']
          rfl
        simp only [go_sem, he, g0, g3, g4, g117, g118, g119]
        refine callX_of (join_A 44 (r.day.map nameText) (by rw [List.length_map]; omega) (by omega) _ _ hT) (List.prefix_refl _) ?_
        have hpush := (hO.more (.own 9 cs :: G')).push (66 :: 89 :: 68 :: 65 :: 89 :: 61 :: joinB 44 (r.day.map nameText)) (by rw [List.length_map]; have := w_len r; omega)
        obtain ⟨x', h', ha, hO', -⟩ := hpush
        simp only [go_sem, he, g0, g3, g4, g117, g118, g119, setD_some] at ha ⊢
        rw [ha]
        simp only [go_sem, he, g0, g3, g4, g117, g118, g119]
        refine ⟨by omega, _, rfl, ?_⟩
        show OutAt H h' x' ((wB5 r ++ wDay r).map kvT)
        rw [show wDay r = [([66, 89, 68, 65, 89], joinB 44 (r.day.map nameText))] from if_neg hc0, List.map_append]
        exact hO'
  · have hc : r.day.length = 0 := by
      rcases Nat.eq_zero_or_pos r.day.length with h | h
      · exact h
      · exfalso
        have : ¬ ((r.day.length : Int) = 0) := by omega
        simp [this] at hc
        exact absurd hc (by intro e; simp [e] at h)
    simp only [go_sem, he, g0, g3]
    refine ⟨_, rfl, ?_⟩
    show OutAt H h x ((wB5 r ++ wDay r).map kvT)
    rw [show wDay r = [] from if_pos hc, List.append_nil]
    exact hO
  clear hO he g0
  rintro e h ⟨he, g0, x, g3, hO⟩
  simp only [go_sem, he, g0, g3, nilA, hP hO.1]
  refine callX_any (appendInts_A hG [66, 89, 72, 79, 85, 82] (by decide) r.hour hw.hour ((wC r).map kvT) (by rw [List.length_map]; have := w_len r; omega) H h x y.hour hO hx.hour) ?_
  clear hO
  rintro x h hO
  rw [putN_kv] at hO
  have hO : OutAt H h x ((wD1 r).map kvT) := hO
  simp only [go_sem, he, g0, g3, nilA, hP hO.1, setD_some]
  refine callX_any (appendInts_A hG [66, 89, 77, 73, 78, 85, 84, 69] (by decide) r.minute hw.minute ((wD1 r).map kvT) (by rw [List.length_map]; have := w_len r; omega) H h x y.minute hO hx.minute) ?_
  clear hO
  rintro x h hO
  rw [putN_kv] at hO
  have hO : OutAt H h x ((wD2 r).map kvT) := hO
  simp only [go_sem, he, g0, g3, nilA, hP hO.1, setD_some]
  refine callX_any (appendInts_A hG [66, 89, 83, 69, 67, 79, 78, 68] (by decide) r.second hw.second ((wD2 r).map kvT) (by rw [List.length_map]; have := w_len r; omega) H h x y.second hO hx.second) ?_
  clear hO
  rintro x h hO
  rw [putN_kv] at hO
  have hO : OutAt H h x ((wD3 r).map kvT) := hO
  simp only [go_sem, he, g0, g3, nilA, hP hO.1, setD_some]
  refine callX_any (appendInts_A hG [66, 89, 69, 65, 83, 84, 69, 82] (by decide) r.easter hw.easter ((wD3 r).map kvT) (by rw [List.length_map]; have := w_len r; omega) H h x y.easter hO hx.easter) ?_
  clear hO
  rintro x h hO
  rw [putN_kv] at hO
  have hO : OutAt H h x ((kvsW r).map kvT) := hO
  simp only [go_sem, he, g0, g3, nilA, hP hO.1, setD_some]
  have hjl : (joinB 59 ((kvsW r).map kvT)).length ≤ 10000 := by
    have := joinB_length 59 100 ((kvsW r).map kvT) (fun s hs => by
      obtain ⟨q, hq, rfl⟩ := List.mem_map.1 hs
      exact kvsW_small hw hq)
    rw [List.length_map] at this
    have := w_len r
    omega
  refine callX_of (join_A 59 ((kvsW r).map kvT) (by rw [List.length_map]; have := w_len r; omega) (by omega) x _ hO.texts) (List.prefix_refl _) ?_
  simp only [go_sem, he, g0, g3, setD_some]
  exact hO.1

def allKeys : List (List UInt8) := [[70, 82, 69, 81], [85, 78, 84, 73, 76], [67, 79, 85, 78, 84], [73, 78, 84, 69, 82, 86, 65, 76], [66, 89, 83, 69, 67, 79, 78, 68], [66, 89, 77, 73, 78, 85, 84, 69], [66, 89, 72, 79, 85, 82], [66, 89, 77, 79, 78, 84, 72, 68, 65, 89], [66, 89, 89, 69, 65, 82, 68, 65, 89], [66, 89, 87, 69, 69, 75, 78, 79], [66, 89, 77, 79, 78, 84, 72], [66, 89, 83, 69, 84, 80, 79, 83], [66, 89, 69, 65, 83, 84, 69, 82], [66, 89, 68, 65, 89], [87, 75, 83, 84]]
theorem sub_ite {c : Prop} [Decidable c] {k v : List UInt8} : ((if c then [(k, v)] else [] : List KV).map (·.1)).Sublist [k] := by
  split
  · exact List.Sublist.refl _
  · exact List.nil_sublist _
theorem sub_ite' {c : Prop} [Decidable c] {k v : List UInt8} : ((if c then [] else [(k, v)] : List KV).map (·.1)).Sublist [k] := by
  split
  · exact List.nil_sublist _
  · exact List.Sublist.refl _
theorem kOne_sub {k : List UInt8} {l : List Int} : ((kOne k l).map (·.1)).Sublist [k] := sub_ite'
theorem kvs_keys (r : Ru) : ((kvs r).map (·.1)).Sublist allKeys := by
  unfold kvs
  simp only [List.map_append]
  have e : allKeys = [[70, 82, 69, 81]] ++ [[85, 78, 84, 73, 76]] ++ [[67, 79, 85, 78, 84]] ++ [[73, 78, 84, 69, 82, 86, 65, 76]] ++ ([[66, 89, 83, 69, 67, 79, 78, 68]] ++ [[66, 89, 77, 73, 78, 85, 84, 69]] ++ [[66, 89, 72, 79, 85, 82]] ++ [[66, 89, 77, 79, 78, 84, 72, 68, 65, 89]] ++ [[66, 89, 89, 69, 65, 82, 68, 65, 89]] ++ [[66, 89, 87, 69, 69, 75, 78, 79]] ++ [[66, 89, 77, 79, 78, 84, 72]] ++ [[66, 89, 83, 69, 84, 80, 79, 83]] ++ [[66, 89, 69, 65, 83, 84, 69, 82]]) ++ [[66, 89, 68, 65, 89]] ++ [[87, 75, 83, 84]] := rfl
  rw [e]
  exact (((((((List.Sublist.refl _).append sub_ite).append sub_ite).append sub_ite).append ((((((((kOne_sub.append kOne_sub).append kOne_sub).append kOne_sub).append kOne_sub).append kOne_sub).append kOne_sub).append kOne_sub).append kOne_sub)).append sub_ite').append sub_ite')
theorem kvs_nodup (r : Ru) : ((kvs r).map (·.1)).Nodup := (kvs_keys r).nodup (by decide)
theorem kvs_len (r : Ru) : (kvs r).length ≤ 15 := by
  have := (kvs_keys r).length_le
  simpa [allKeys] using this
theorem kvs_head (r : Ru) : ∃ T, kvs r = ([70, 82, 69, 81], freqs.getD r.freq []) :: T := ⟨(kvs r).tail, rfl⟩
/-- A text of some of a rule's parts is one that the parser takes. -/
theorem sub_inText {r : Ru} (h : Wr r) {L : List KV} (hL : Sub r L) (hl : L.length ≤ 15) : InText (joinB 59 (L.map kvT)) := by
  have hne : L ≠ [] := fun e => by have := hL.freq; rw [e] at this; cases this
  refine inText_of (joinB_vis rfl fun s hs => ?_) ?_ ?_ ?_
  · obtain ⟨p, hp, rfl⟩ := List.mem_map.1 hs
    exact parts_vis (r := r) _ (by rw [← kvs_parts]; exact List.mem_map.2 ⟨p, hL.mem p hp, rfl⟩)
  · have := joinB_length 59 83 (L.map kvT) (fun s hs => by
      obtain ⟨p, hp, rfl⟩ := List.mem_map.1 hs
      exact kv_small h (hL.mem p hp))
    rw [List.length_map] at this
    have : 84 * L.length ≤ 84 * 15 := Nat.mul_le_mul_left _ hl
    omega
  · match L, hne with
    | p :: L', _ =>
      have hk : p.1 ∈ allKeys := (kvs_keys r).subset (List.mem_map.2 ⟨p, hL.mem p (by simp), rfl⟩)
      have hall : (allKeys.all fun k => match k with | c :: _ => c != 82 | [] => false) = true := by decide
      have h1 := List.all_eq_true.1 hall _ hk
      have hh : (joinB 59 ((p :: L').map kvT)).head? = p.1.head? := by
        cases hp : p.1 with
        | nil => rw [hp] at h1; cases h1
        | cons c t =>
          have e : kvT p = c :: (t ++ 61 :: p.2) := by unfold kvT; rw [hp]; rfl
          cases L' with
          | nil => show (kvT p).head? = _; rw [e]; rfl
          | cons b r => show (kvT p ++ 59 :: _).head? = _; rw [e]; rfl
      rw [hh]
      cases hp : p.1 with
      | nil => rw [hp] at h1; cases h1
      | cons c t =>
        rw [hp] at h1
        simp only [bne_iff_ne] at h1
        intro e
        exact h1 (Option.some.inj e)
  · rw [sub_split hL]
    intro a ha k v hkv hk
    obtain ⟨p, hp, rfl⟩ := List.mem_map.1 ha
    have ho := kvs_ok _ p (hL.mem p hp)
    rw [split_kv ho] at hkv
    simp only [List.cons.injEq, and_true] at hkv
    obtain ⟨rfl, rfl⟩ := hkv
    rcases hk with hk | hk
    · exact ho.2.2.2.2 hk
    · exact absurd hk ho.2.2.2.1
theorem sub_len {r : Ru} (h : Wr r) {L : List KV} (hL : Sub r L) (hl : L.length ≤ 15) : (joinB 59 (L.map kvT)).length ≤ 1260 := by
  have := joinB_length 59 83 (L.map kvT) (fun s hs => by
    obtain ⟨p, hp, rfl⟩ := List.mem_map.1 hs
    exact kv_small h (hL.mem p hp))
  rw [List.length_map] at this
  have : 84 * L.length ≤ 84 * 15 := Nat.mul_le_mul_left _ hl
  omega
/-- What the package reads and what the specification reads say the same. -/
theorem mix_same {r : Ru} (h : Wr r) {S : List (List UInt8)} (hS : [85, 78, 84, 73, 76] ∈ S → r.hasUntil = true) : ruOf (opMix r S op0) = { ruMix r S ruQ0 with interval := if [73, 78, 84, 69, 82, 86, 65, 76] ∈ S then r.interval else 0 } := by
  have hf := h.freq
  unfold ruOf opMix ruMix op0 ruQ0
  simp only [Ru.mk.injEq, and_true, true_and, decide_true, Bool.not_true]
  refine ⟨?_, ?_, ?_⟩
  · split <;> omega
  · split <;> rfl
  · split
    · rename_i hu
      have := h.til (hS hu)
      simp [this.2]
    · rfl
theorem mix_few {r : Ru} (h : Wr r) (S : List (List UInt8)) : Few (ruMix r S ruQ0) := by
  have key : ∀ {K : List UInt8} {l : List Int}, Small l → (if K ∈ S then l else []).length ≤ 1000000 := by
    intro K l hl
    split
    · have := hl.1; omega
    · simp
  refine ⟨key h.setPos, key h.month, key h.monthDay, key h.yearDay, key h.weekNo, ?_, key h.hour, key h.minute, key h.second, key h.easter⟩
  show (if _ ∈ S then r.day else []).length ≤ _
  split
  · have := h.day.1; omega
  · simp
theorem until_in {r : Ru} (L : List KV) (hL : ∀ p ∈ L, p ∈ kvs r) (hu : [85, 78, 84, 73, 76] ∈ L.map (·.1)) : r.hasUntil = true := by
  obtain ⟨p, hp, e⟩ := List.mem_map.1 hu
  have hm := hL p hp
  unfold kvs at hm
  simp only [List.mem_append] at hm
  have ne1 : ∀ {K : List UInt8} {l : List Int}, p ∈ kOne K l → p.1 = K := fun hm => by rw [(kOne_mem hm).1]
  rcases hm with (((((hm | hm) | hm) | hm) | hm) | hm) | hm
  · rw [List.mem_singleton] at hm
    subst hm
    exact absurd e (by show ¬ ([70, 82, 69, 81] : List UInt8) = _; decide)
  · split at hm
    · assumption
    · cases hm
  · split at hm
    · rw [List.mem_singleton] at hm
      subst hm
      exact absurd e (by show ¬ ([67, 79, 85, 78, 84] : List UInt8) = _; decide)
    · cases hm
  · split at hm
    · rw [List.mem_singleton] at hm
      subst hm
      exact absurd e (by show ¬ ([73, 78, 84, 69, 82, 86, 65, 76] : List UInt8) = _; decide)
    · cases hm
  · rcases hm with (((((((hm | hm) | hm) | hm) | hm) | hm) | hm) | hm) | hm
    all_goals exact absurd ((ne1 hm).symm.trans e) (by decide)
  · split at hm
    · cases hm
    · rw [List.mem_singleton] at hm
      subst hm
      exact absurd e (by show ¬ ([66, 89, 68, 65, 89] : List UInt8) = _; decide)
  · split at hm
    · cases hm
    · rw [List.mem_singleton] at hm
      subst hm
      exact absurd e (by show ¬ ([87, 75, 83, 84] : List UInt8) = _; decide)
/-- The specification reads a text of some of a rule's parts. -/
theorem read_sub {w0 : World} {r : Ru} (h : Wr r) {L : List KV} (hL : Sub r L) (hl : L.length ≤ 15) (hnd : (L.map (·.1)).Nodup) (H : Heap) :
    ACalls Tryz.prog (CB w0) 19 [vS (joinB 59 (L.map kvT))] H fun v H' => (∃ x, v = .tup [.agg (ruCells (ruMix r (L.map (·.1)) ruQ0) x), vB true] ∧ RuW H' (ruMix r (L.map (·.1)) ruQ0) x) ∧ ∃ G, H' = H ++ G :=
  read_A _ (by have := sub_len h hL hl; omega) L (sub_split hL) (fun p hp => split_kv (kvs_ok r p (hL.mem p hp))) hnd hL.freq _ (sfold_kvs h ruQ0 hL.mem) H

theorem erase_snoc {α : Type} {l : List α} {i j : Nat} {a : α} (h : l[i]? = some a) : (l.take (i + 1)).eraseIdx j = if i = j then (l.take i).eraseIdx j else (l.take i).eraseIdx j ++ [a] := by
  rw [take_snoc h]
  have hl : (l.take i).length = i := by rw [List.length_take]; have := (List.getElem?_eq_some_iff.1 h).1; omega
  rcases Nat.lt_trichotomy j i with h1 | h1 | h1
  · rw [if_neg (by omega), List.eraseIdx_append_of_lt_length (by omega)]
  · subst h1
    have e1 : (l.take j ++ [a]).eraseIdx j = l.take j := by
      rw [List.eraseIdx_append_of_length_le (by omega), hl, Nat.sub_self]
      simp
    have e2 : (l.take j).eraseIdx j = l.take j := List.eraseIdx_of_length_le (by omega)
    rw [if_pos rfl, e1, e2]
  · rw [if_neg (by omega), List.eraseIdx_of_length_le (by rw [List.length_append, hl, List.length_singleton]; omega), List.eraseIdx_of_length_le (by omega)]
theorem fnTextParts_A {w0 : World} (hG : Glob w0) (r : Ru) (x : Rs) (hn : RuNum r) (which : Nat) (hw : which ≤ 255) (H : Heap) (hH : GH H) (hx : RuAt H r x) : ACalls Tryz.prog (CB w0) 5 [.agg (ruCells r x), vU which] H fun v H' => v = vB true ∧ ∃ G, H' = H ++ G := by
  refine A_fun (N := 81) (rs := [.tmp 4]) Tryz.func5 rfl rfl rfl (by kernel_rfl) (by kernel_rfl) (Nat.le_of_ble_eq_true rfl) ?_
  rintro e he ⟨g0, g1, -⟩
  unfold ruCells at g0
  simp only [go_sem, he, g0, g1, hx.setPos.one, hx.month.one, hx.monthDay.one, hx.yearDay.one, hx.weekNo.one, hx.day.one, hx.hour.one, hx.minute.one, hx.second.one, hx.easter.one]
  refine callX_of (zzFits1_A r x _ (hx.more _)) (List.prefix_refl _) ?_
  cases hf : fits r with
  | false =>
    simp only [go_sem, he, g1, setD_some]
    exact ⟨_, rfl⟩
  | true =>
  have hl := fits_len hf
  simp only [go_sem, he, g1, setD_some]
  refine callX_any (textBare_A r x hl hn _ (hx.more _)) ?_
  rintro v h ⟨rfl, G, rfl⟩
  unfold bareR
  cases hb : bareOk r with
  | false =>
    simp only [ruCells, go_sem, he, g1, setD_some, Bool.true_and, hx.setPos.one, hx.month.one, hx.monthDay.one, hx.yearDay.one, hx.weekNo.one, hx.day.one, hx.hour.one, hx.minute.one, hx.second.one, hx.easter.one]
    have d0 : decide (((0 : Nat) : Int) < 2) = true := rfl
    simp only [go_sem, he, g1, d0]
    refine callX_of (textAwake_A hG _ (hH.more _)) (List.prefix_refl _) ?_
    simp only [go_sem, he, g1, setD_some]
    exact ⟨_, rfl⟩
  | true =>
    obtain ⟨hc, hwr⟩ := wr_bare hb
    simp only [ruCells, go_sem, he, g1, setD_some, Bool.true_and, hx.setPos.one, hx.month.one, hx.monthDay.one, hx.yearDay.one, hx.weekNo.one, hx.day.one, hx.hour.one, hx.minute.one, hx.second.one, hx.easter.one]
    refine callX_any (parts_A hG (bare r) x (clean_ok hc) _ ((bare_at hx).more _)) ?_
    rintro v h hO
    have hO : OutAt _ h v (parts (bare r)) := hO
    obtain ⟨⟨G2, e2⟩, o, rfl, ho, hol⟩ := hO
    obtain ⟨T, hT⟩ := kvs_head (bare r)
    have hlen := kvs_len (bare r)
    have hnd := kvs_nodup (bare r)
    rw [hT] at hlen hnd
    have hpk : parts (bare r) = ((([70, 82, 69, 81], freqs.getD (bare r).freq []) :: T).map kvT) := by rw [← hT, kvs_parts]
    have hmemT : ∀ p ∈ (([70, 82, 69, 81], freqs.getD (bare r).freq []) :: T), p ∈ kvs (bare r) := fun p hp => by rw [hT]; exact hp
    have hTl : T.length ≤ 14 := by simpa using hlen
    have hpl : ((parts (bare r)).length : Int) = T.length + 1 := by rw [hpk]; simp
    have hh : ∃ G, h = H ++ G := by rw [e2]; exact ⟨_, List.append_assoc _ _ _⟩
    have hcm : cellsK h[o]? = some ((parts (bare r)).map vS) := by rw [ho]; rfl
    clear ho e2
    generalize hp0 : (([70, 82, 69, 81], freqs.getD (bare r).freq []) : KV) = p0 at *
    have hsm : ∀ p ∈ p0 :: T, (kvT p).length ≤ 83 := fun p hp => kv_small hwr (hmemT p hp)
    have hGh : GH h := by obtain ⟨G, rfl⟩ := hh; exact hH.more _
    generalize hq : parts (bare r) = pr at *
    have hprn : (pr.length : Int) = ((T.length + 1 : Nat) : Int) := by omega
    simp only [go_sem, he, g1, setD_some]
    refine condK_of (fun hc => ?_) fun hc => ?_
    · simp only [go_sem, he, g1]
      refine callX_of (textAwake_A hG _ hGh) (List.prefix_refl _) ?_
      simp only [go_sem, he, g1, setD_some]
      exact hh
    · have hc := of_decide_eq_false hc
      have w1 : IntKind.i64.wrap ((which : Nat) : Int) = (which : Int) := wI64 (by omega)
      have w2 : IntKind.i64.wrap ((pr.length : Int) - 1) = (T.length : Int) := by rw [wI64 (by omega)]; omega
      have w3 : ((which : Nat) : Int).tmod (T.length : Int) = ((which % T.length : Nat) : Int) := by rw [Int.tmod_eq_emod_of_nonneg (by omega)]; rfl
      have hkl : which % T.length < T.length := Nat.mod_lt _ (by omega)
      have w4 : IntKind.i64.wrap (1 + ((which % T.length : Nat) : Int)) = ((which % T.length + 1 : Nat) : Int) := by rw [wI64 (by omega)]; omega
      have h0 : (pr.map vS)[0]? = some (vS (kvT p0)) := by rw [hpk]; rfl
      generalize which % T.length = kk at *
      simp only [go_sem, he, g1, hcm, h0, conv_int (P := Tryz.prog) (s := 5) (d := 3) Tryz.underlying5 Tryz.underlying3, w1, w2, w3, w4, Int.toNat_zero]
      have e1 : pr.length - 1 = T.length := by omega
      refine ⟨by omega, by omega, ⟨by omega, by omega⟩, ?_⟩
      refine A_while T.length (fun k e h' => h' = h ∧ len e = 81 ∧ AL.get e 42 = .sl true o 1 (pr.length - 1) 1 ∧ AL.get e 43 = vI ((pr.length - 1 : Nat) : Int) ∧ AL.get e 7 = vI ((kk + 1 : Nat) : Int) ∧ ∃ (i : Nat) (tx : List UInt8), AL.get e 44 = vI i ∧ AL.get e 8 = vS tx ∧ i + k = T.length ∧ tx = joinB 59 ((p0 :: (T.take i).eraseIdx kk).map kvT) ∧ tx.length ≤ 84 * (i + 1)) (by kernel_rfl) ?_ ?_
      · simp only [go_sem, he, g1]
        exact ⟨0, _, rfl, rfl, by omega, rfl, by have := hsm p0 (by simp); omega⟩
      · rintro k e h' ⟨rfl, he, g42, g43, g7, i, tx, g44, g8, hik, htx, htl⟩
        simp only [go_sem, he, g42, g43, g7, g44, g8]
        refine condK_of (fun hc => ?_) fun hc => ?_
        · have hc := of_decide_eq_true hc
          have hi : i < T.length := by omega
          have hTi : T[i]? = some T[i] := List.getElem?_eq_getElem hi
          generalize T[i] = p at hTi
          have hci : (pr.map vS)[1 + i]? = some (vS (kvT p)) := by
            rw [hpk, List.getElem?_map, List.getElem?_map, Nat.add_comm, List.getElem?_cons_succ, hTi]
            rfl
          have hpl2 := hsm p (List.mem_cons_of_mem _ (List.mem_of_getElem? hTi))
          have wi : IntKind.i64.wrap ((i : Int) + 1) = ((i + 1 : Nat) : Int) := by rw [wI64 (by omega)]; rfl
          have hes := erase_snoc (j := kk) hTi
          simp only [go_sem, he, g42, g43, g7, g44, g8, hcm, hci, Int.toNat_natCast, wi]
          refine ⟨by omega, condK_of (fun hq => ?_) fun hq => ?_⟩
          · have hq : ¬ ((i + 1 : Nat) : Int) = ((kk + 1 : Nat) : Int) := by simpa using hq
            rw [if_neg (by omega)] at hes
            simp only [go_sem, he, g42, g43, g7, g44, g8, wi]
            refine ⟨by omega, by omega, k - 1, by omega, i + 1, _, rfl, rfl, by omega, ?_, by rw [List.length_append, List.length_cons]; omega⟩
            have e3 : kvT p0 :: ((T.take i).eraseIdx kk ++ [p]).map kvT = (p0 :: (T.take i).eraseIdx kk).map kvT ++ [kvT p] := by simp
            rw [hes, htx, e3, joinB_snoc 59 (kvT p) ((p0 :: (T.take i).eraseIdx kk).map kvT) (by simp)]
          · have hq : ((i + 1 : Nat) : Int) = ((kk + 1 : Nat) : Int) := by simpa using hq
            rw [if_pos (by omega)] at hes
            simp only [go_sem, he, g42, g43, g7, g44, g8, wi]
            exact ⟨k - 1, by omega, i + 1, _, rfl, rfl, by omega, by rw [hes]; exact htx, by omega⟩
        · have hc := of_decide_eq_false hc
          have hi : i = T.length := by omega
          subst hi
          rw [List.take_length] at htx
          simp only [go_sem, he, g42, g43, g7, g44, g8]
          have hsubT : (T.eraseIdx kk).Sublist T := List.eraseIdx_sublist T kk
          have hsub : (p0 :: T.eraseIdx kk).Sublist (p0 :: T) := hsubT.cons_cons p0
          have hL : Sub (bare r) (p0 :: T.eraseIdx kk) := ⟨fun p hp => hmemT p (hsub.subset hp), by rw [← hp0]; simp⟩
          have hLl : (p0 :: T.eraseIdx kk).length ≤ 15 := Nat.le_trans hsub.length_le hlen
          have hLn : ((p0 :: T.eraseIdx kk).map (·.1)).Nodup := (hsub.map _).nodup hnd
          have hrd := fun H => read_sub (w0 := w0) hwr hL hLl hLn H
          have hin := sub_inText hwr hL hLl
          have hop := opParse_sub hwr hL
          have hms := mix_same hwr (S := (p0 :: T.eraseIdx kk).map (·.1)) (until_in _ hL.mem)
          have hfew := mix_few hwr ((p0 :: T.eraseIdx kk).map (·.1))
          rw [← htx] at hrd hin hop
          generalize (p0 :: T.eraseIdx kk).map (·.1) = S at *
          refine callX_any (hrd _) ?_
          rintro v h1 ⟨⟨y, rfl, hW⟩, G1, rfl⟩
          simp only [ruCells, go_sem, he, g42, g43, g7, g44, g8, setD_some, Bool.true_and, hW.setPos.one, hW.month.one, hW.monthDay.one, hW.yearDay.one, hW.weekNo.one, hW.day.one, hW.hour.one, hW.minute.one, hW.second.one, hW.easter.one]
          refine callX_any (parseOption_A hG tx hin _ (hGh.more _)) ?_
          rintro v2 h2 ⟨hr2, G2', rfl⟩
          rw [hop] at hr2
          obtain ⟨y2, rfl, hO2⟩ := hr2
          rw [hms] at hO2 ⊢
          have hiv : max (if [73, 78, 84, 69, 82, 86, 65, 76] ∈ S then (bare r).interval else 0) 1 = max (ruMix (bare r) S ruQ0).interval 1 := by
            show _ = max (if [73, 78, 84, 69, 82, 86, 65, 76] ∈ S then (bare r).interval else 1) 1
            split <;> rfl
          generalize ruMix (bare r) S ruQ0 = A at *
          generalize (if [73, 78, 84, 69, 82, 86, 65, 76] ∈ S then (bare r).interval else 0) = z at *
          have hWa := hW.at
          have hOa := hO2.at
          have hGh2 := hGh.more G1
          simp only [ruCells, go_sem, he, g42, g43, g7, g44, g8, setD_some, Bool.true_and, hO2.setPos.ints.one, hO2.month.ints.one, hO2.monthDay.ints.one, hO2.yearDay.ints.one, hO2.weekNo.ints.one, hO2.day.days.one, hO2.hour.ints.one, hO2.minute.ints.one, hO2.second.ints.one, hO2.easter.ints.one]
          refine acode_draw mixed (by kernel_rfl) ?_
          simp only [ruCells, go_sem, he, g42, g43, g7, g44, g8, setD_some, Bool.true_and, hO2.setPos.ints.one, hO2.month.ints.one, hO2.monthDay.ints.one, hO2.yearDay.ints.one, hO2.weekNo.ints.one, hO2.day.days.one, hO2.hour.ints.one, hO2.minute.ints.one, hO2.second.ints.one, hO2.easter.ints.one]
          have hWx := fun Z : Heap => hWa.more Z
          have hOx := fun Z : Heap => hOa.more Z
          simp only [go_sem] at hWx hOx
          have hdl : ({ A with interval := z } : Ru).day.length ≤ 1000000 := by have := hfew.day; show A.day.length ≤ 1000000; omega
          have hO3 := hOx [.own 34 (ruCells { A with interval := z } y2)]
          refine callX_many (ofRule_A { A with interval := z } hdl y2 _ hO3) (by rintro _ _ ⟨-, G, rfl⟩; exact List.prefix_append _ _) ⟨_, _, ⟨_, rfl, hO3⟩, [], (List.append_nil _).symm⟩ ?_
          rintro v h3 ⟨⟨y3, rfl, hy3⟩, G3, rfl⟩
          simp only [ruCells, go_sem, he, setD_some]
          simp only [ruCells, go_sem] at hy3
          have hy3 : RuAt _ A y3 := ⟨hy3.setPos, hy3.month, hy3.monthDay, hy3.yearDay, hy3.weekNo, hy3.day, hy3.hour, hy3.minute, hy3.second, hy3.easter⟩
          refine callX_of (textSame_A A hfew z A.interval hiv y3 y _ hy3 (hWx _)) (List.prefix_refl _) ?_
          simp only [go_sem, he, setD_some]
          refine callX_of (textAwake_A hG _ (hGh.more _)) (List.prefix_refl _) ?_
          simp only [go_sem, he, setD_some]
          obtain ⟨G, rfl⟩ := hh
          exact ⟨_, List.append_assoc _ _ _⟩
end Go.Proofs.YtlfpjdcogkcjlaaGreatDoor.F
/- spec.Text, with an order. -/
namespace Go.Proofs.YtlfpjdcogkcjlaaGreatDoor.F
open Go.RowKit Go.Proofs.YtlfpjdcogkcjlaaGreatDoor.AL Go.Proofs.YtlfpjdcogkcjlaaGreatDoor.B
theorem acode_order3 {P : Program} {C : Base} {id : Nat} {l : List Oper} {env : Env} {H : Heap} {Q : Exit → Env → Heap → Prop} (q : List Nat) (i j k : Nat) (L1 L2 L3 : List Nat) (hm : P.follows .mixedOrders = true) (hok : backB (List.toArray l) = true) (hops : l.all (okOp C.nG) = true) (hij : (decide (i ≠ k) && decide (j ≠ k) && decide (i < l.length) && decide (j < l.length) && decide (k < l.length)) = true)
    (hr : reach (List.toArray l) (List.toArray l).size j i = true) (h1 : okOrd q (List.toArray l) L1 [(k, i), (k, j)] = true) (h2 : okOrd q (List.toArray l) L2 [(i, k), (k, j)] = true) (h3 : okOrd q (List.toArray l) L3 [(j, k), (i, k)] = true)
    (k1 : aops P C (some q) (List.toArray l) (opsOf (List.toArray l) L1) env H (Knorm Q)) (k2 : aops P C (some q) (List.toArray l) (opsOf (List.toArray l) L2) env H (Knorm Q)) (k3 : aops P C (some q) (List.toArray l) (opsOf (List.toArray l) L3) env H (Knorm Q)) : acode P C (.region id (List.toArray l) true) env H Q := by
  rw [acode, if_pos rfl]
  refine .inr (A_order (q := q) hm hok (by simpa using hops) fun σ hT => ?_)
  simp only [Bool.and_eq_true, decide_eq_true_eq] at hij
  have mi := (hT.mem i).2 (by simpa using hij.1.1.2)
  have mj := (hT.mem j).2 (by simpa using hij.1.2)
  have mk := (hT.mem k).2 (by simpa using hij.2)
  have hr := reach_topo hT _ _ _ hr
  rcases idx_tri mi mk hij.1.1.1.1 with h | h
  · rcases idx_tri mj mk hij.1.1.1.2 with h' | h'
    · exact ⟨L3, compat_of h3 hT (by
        intro p hp
        rcases List.mem_cons.1 hp with rfl | hp
        · exact h'
        · rw [List.mem_singleton] at hp; rw [hp]; exact h), k3⟩
    · exact ⟨L2, compat_of h2 hT (by
        intro p hp
        rcases List.mem_cons.1 hp with rfl | hp
        · exact h
        · rw [List.mem_singleton] at hp; rw [hp]; exact h'), k2⟩
  · exact ⟨L1, compat_of h1 hT (by
      intro p hp
      rcases List.mem_cons.1 hp with rfl | hp
      · exact h
      · rw [List.mem_singleton] at hp; rw [hp]; exact Nat.lt_trans h hr), k1⟩
set_option linter.unusedVariables false
set_option linter.unusedSimpArgs false
set_option maxRecDepth 20000
attribute [local irreducible] aops acode bindK bindV bindH callX callK condK guardK Kseq Kblk Knorm Kfun Kloop Kjoin outK AWp appendA Ktail
attribute [local go_sem] acode_skip acode_seq acode_region acode_cond acode_block acode_exit acode_ret acode_loop Kseq_normal Kseq_exit Kseq_ret Kblk_normal Kblk_ret Kblk_eq Kblk_ne Knorm_eq Kloop_normal Kloop_exit Kloop_ret Kjoin_normal Kjoin_exit Kjoin_ret condK_true condK_false bindK_put bindV_put bindK_no bindV_no bindH_no aops_nil gops wantK_some wantV_bool wantV_undef guardK_true guardK_false guardK_none aops_move aops_assign aops_pick aops_nilCheck aops_binOp aops_unOp aops_convert aops_fieldAddr aops_indexAddr aops_slice aops_index aops_extract aops_makeInterface aops_makeFunc aops_build aops_load aops_lookup aops_alloc aops_box aops_buildSlice aops_makeSlice aops_makeMap aops_store aops_insert aops_mapUpdate aops_len aops_append aops_call opA_tmp opA_const opA_global opA_func get_mk look_nil look_eq look_ne len_mk List.map_cons List.map_nil Option.map_some Option.map_none bin_add bin_sub bin_mul bin_quo bin_rem bin_eql bin_neq bin_lss bin_leq bin_gtr bin_geq bin_cat bin_seql bin_sneq bin_neq_ifc bin_eql_ifc bin_neq_nn bin_eql_nn bin_neq_ptr bin_eql_ptr bin_neq_pn isIfc_true isPtr_true bin_eql2 bin_neq2 aops_max max_int un_not un_neg lenA_K lenK_str lenK_nil lenK_sl lenK_array pick_bool pick_val bindV_ite bindK_ite bindH_ite slotV_sl slotK_some slotV_ptr slotR_some sliceV_sl cutK_some sliceV_str cutS_some bound_none bound_some indexA_str atS_some mkS fieldV_ptr loadV_ptr cellsK_ro cellsK_own loadK_one loadK_many storeA_ptr storeK_own allocA_some heap_len heap_get0 heap_get heap_set0 heap_set Kfun_ret Kfun_normal resA_nil resA_tmp resA_cell outK_some packA_one packA_nil packA_two List.length_cons List.length_nil List.getElem?_cons_zero List.getElem?_cons_succ List.set_cons_zero List.set_cons_succ List.cons_append List.nil_append List.append_assoc Nat.zero_add Nat.add_zero List.all_cons List.all_nil Value.oneCell' Bool.and_true Bool.and_self if_true if_false Bool.false_eq_true partsA buildV buildA fillA Option.bind_some putCells List.drop_succ_cons List.drop_zero List.take_succ_cons List.take_zero List.take_nil List.drop_nil and_self and_true true_and Option.some.injEq ne_eq not_false_eq_true Option.map_map List.getElem?_toArray beq_self_eq_true Bool.true_beq Bool.false_beq Bool.not_true Bool.not_false decide_true decide_false beq_true Nat.mul_one Nat.one_mul Nat.zero_mul bsA buildSliceA zerosN List.append_nil Int.toNat_natCast Int.toNat_zero boxA one_val one_ptr one_sl one_mp one_ifc one_fn avCells_agg avCells_val valCells_true valCells_agg avCells_ptr avCells_sl avCells_mp avCells_ifc avCells_fn app_cons app_nil lookupA insertA ifaceV extractA kd2 ars127 fp127 ars60 fp60 ars31 fp31 eq2_99 eq2_84 eq2_47 fp52 sz2 kd3 sz3 kd4 sz4 kd5 sz5 kd9 sz9 kd22 sz22 el22 kd23 sz23 el23 kd25 sz25 zc25 fp25 fo25_0 fo25_1 fo25_2 fo25_3 fo25_4 fo25_5 fo25_6 fo25_7 fo25_8 fo25_9 fo25_10 fo25_11 fo25_12 fo25_13 fo25_14 fo25_15 fo25_16 fo25_17 kd31 sz31 zc31 ar31 kd32 sz32 el32 kd34 sz34 zc34 fp34 fo34_0 fo34_1 fo34_2 fo34_3 fo34_4 fo34_5 fo34_6 fo34_7 fo34_8 fo34_9 fo34_10 fo34_11 fo34_12 fo34_13 fo34_14 fo34_15 fo34_16 fo34_17 el38 el42 kd47 sz47 zc47 fp47 fo47_0 fo47_1 kd52 sz52 zc52 fo52_0 el55 zc60 kd72 sz72 zc72 fp72 fo72_0 fo72_1 el73 kd80 sz80 kd84 sz84 zc84 fp84 fo84_0 fo84_1 kd88 sz88 zc88 fp88 fo88_0 fo88_1 fo88_2 fo88_3 kd91 sz91 zc91 fp91 fo91_0 fo91_1 fo91_2 el94 kd99 sz99 zc99 fp99 fo99_0 fo99_1 kd100 sz100 el100 kd102 sz102 zc102 fp102 fo102_0 fo102_1 fo102_2 fo102_3 fo102_4 fo102_5 fo102_6 fo102_7 fo102_8 fo102_9 fo102_10 fo102_11 fo102_12 fo102_13 fo102_14 fo102_15 kd109 sz109 zc109 fp109 isStrMap124 zv80 zc127 kd153 sz153 zc153 ar153 isIface157 kd159 sz159 zc159 fp159 isStrMap177 zv84 Tryz.underlying3 Tryz.underlying4 Tryz.underlying5 Tryz.underlying9 Tryz.underlying21 Tryz.underlying22 Tryz.underlying23 Tryz.underlying32 Tryz.underlying38 Tryz.underlying42 Tryz.underlying47 Tryz.underlying55 Tryz.underlying67 Tryz.underlying73 Tryz.underlying80 Tryz.underlying84 Tryz.underlying94 Tryz.underlying100 Tryz.underlying2 Tryz.underlying127 Tryz.underlying60 Tryz.underlying31 kd55 ai60 ai127 indexA_agg atK_some isStrMap76 zv4 Ktail_eq opsOf_nil opsOf_cons consO_some
attribute [local go_sem_proc] Nat.reduceLT Nat.reduceBEq Nat.reduceAdd Int.reduceBEq Nat.reduceLeDiff reduceIte Nat.reduceEqDiff Int.reduceEq Int.reduceLE Int.reduceLT Int.reduceNe Nat.reduceMul Nat.reduceSub Int.reduceToNat
theorem append_own {o1 o2 off n n' : Nat} {own : Bool} {cs cs' c : List AV} {h : Heap} (h1 : h[o1]? = some (.own 9 cs)) (h2 : cellsK h[o2]? = some cs') (hn : n ≤ cs.length) (hn' : off + n' ≤ cs'.length) (ho : ((cs'.drop off).take n').all AV.one = true) (hb : n + n' ≤ 1000000000) (hc : cs.take n ++ (cs'.drop off).take n' = c) :
    appendA Tryz.prog 42 (.sl true o1 0 n 1) (.sl own o2 off n' 1) h = some (.sl true h.length 0 (n + n') 1, h.set o1 .gone ++ [.own 9 c]) := by
  have h2 : cellsOf h o2 = some cs' := by unfold cellsOf; unfold cellsK at h2; revert h2; cases h[o2]? <;> exact _root_.id
  unfold appendA
  rw [el42]
  simp only [h1, h2, Nat.mul_one]
  rw [if_pos ⟨hn', trivial, ho⟩, if_pos ⟨trivial, trivial, hn, by omega, by omega⟩, hc]
theorem swap_perm {α : Type} {l : List α} {i j : Nat} {a b : α} (hi : l[i]? = some a) (hj : l[j]? = some b) : ((l.set i b).set j a).Perm l := by
  obtain ⟨h1, h2⟩ := List.getElem?_eq_some_iff.1 hi
  obtain ⟨h3, h4⟩ := List.getElem?_eq_some_iff.1 hj
  have := Array.swap_perm (xs := l.toArray) (i := i) (j := j) (by simpa using h1) (by simpa using h3)
  have h5 := Array.perm_iff_toList_perm.1 this
  rw [Array.toList_swap] at h5
  simpa [h2, h4] using h5
theorem put_kv (L : List KV) (i : Nat) (p : KV) (h : i < L.length) : ((L.map kvT).map vS).take i ++ AV.val (.string (S (kvT p))) :: ((L.map kvT).map vS).drop (i + 1) = ((L.set i p).map kvT).map vS := by
  rw [← List.map_take, ← List.map_take, ← List.map_drop, ← List.map_drop, List.set_eq_take_append_cons_drop, if_pos h]
  simp only [List.map_append, List.map_cons]
theorem specText_A {w0 : World} (hG : Glob w0) (r : Ru) (x : Rs) (hr : RuOk r) (hs : ∀ p ∈ kvs r, (kvT p).length ≤ 83) (bs : List Nat) (hb : ∀ b ∈ bs, b ≤ 255) (hbl : bs.length ≤ 1000000) (y : AV) (H : Heap) (hy : BytesAt H y bs) (hx : RuAt H r x) :
    ACalls Tryz.prog (CB w0) 14 [.agg (ruCells r x), y] H fun v H' => (∃ L : List KV, L.Perm (kvs r) ∧ v = vS (joinB 59 (L.map kvT))) ∧ ∃ G, H' = H ++ G := by
  refine A_fun (N := 74) (rs := [.tmp 4]) Tryz.func14 rfl rfl rfl (by kernel_rfl) (by kernel_rfl) (Nat.le_of_ble_eq_true rfl) ?_
  rintro e he ⟨g0, g1, -⟩
  unfold ruCells at g0
  simp only [go_sem, he, g0, g1, hx.setPos.one, hx.month.one, hx.monthDay.one, hx.yearDay.one, hx.weekNo.one, hx.day.one, hx.hour.one, hx.minute.one, hx.second.one, hx.easter.one]
  refine callX_any (parts_A hG r x hr _ (hx.more _)) ?_
  rintro v h hO
  have hO : OutAt _ h v (parts r) := hO
  obtain ⟨⟨G2, e2⟩, o, rfl, ho, hol⟩ := hO
  have hh : ∃ G, h = H ++ G := by rw [e2]; exact ⟨_, List.append_assoc _ _ _⟩
  have hol : H.length ≤ o := by simp only [List.length_append] at hol; omega
  rw [← kvs_parts] at ho
  have hkl := kvs_len r
  have hpl : (parts r).length = (kvs r).length := by rw [← kvs_parts]; simp
  rw [hpl]
  clear e2
  have hyl : lenK (some (.slice 5)) y = some (vI bs.length) := by
    rcases hy with ⟨rfl, h0⟩ | ⟨own, q, off, cs, rfl, -, -⟩
    · rw [h0]; rfl
    · rfl
  simp only [go_sem, he, g1, setD_some, hyl]
  refine A_while bs.length (fun k e h => len e = 74 ∧ AL.get e 1 = y ∧ AL.get e 15 = vI bs.length ∧ (∃ G, h = H ++ G) ∧ ∃ (i o : Nat) (L : List KV), AL.get e 16 = vI i ∧ i + k = bs.length ∧ AL.get e 5 = .sl true o 0 L.length 1 ∧ h[o]? = some (.own 9 ((L.map kvT).map vS)) ∧ H.length ≤ o ∧ L.Perm (kvs r)) (by kernel_rfl) ?_ ?_
  · simp only [go_sem, he, g1]
    exact ⟨hh, 0, o, _, rfl, by omega, rfl, ho, hol, List.Perm.refl _⟩
  · clear ho hh hol g0
    rintro k e h ⟨he, g1, g15, ⟨G, rfl⟩, i, o, L, g16, hik, g5, ho, hol, hL⟩
    have hLl := hL.length_eq
    simp only [go_sem, he, g1, g15, g16, g5]
    refine condK_of (fun hc => ?_) fun hc => ?_
    · have hc := of_decide_eq_true hc
      have wi : IntKind.i64.wrap ((i : Int) + 1) = ((i + 1 : Nat) : Int) := by rw [wI64 (by omega)]; rfl
      simp only [go_sem, he, g1, g15, g16, g5]
      refine condK_of (fun hc2 => ?_) fun hc2 => ?_
      · have hc2 := of_decide_eq_true hc2
        obtain ⟨own, q, off, cs, rfl, hcs, hcell⟩ := BytesAt.get (SlOf.more hy G) (i := i) (by omega)
        have hbi : bs.getD i 0 ≤ 255 := by
          rw [List.getD_eq_getElem?_getD, List.getElem?_eq_getElem (by omega)]
          exact hb _ (List.getElem_mem _)
        generalize bs.getD i 0 = b at hcell hbi
        have w1 : IntKind.i64.wrap ((b : Nat) : Int) = (b : Int) := wI64 (by omega)
        have w2 : IntKind.i64.wrap ((L.length : Int) - 1) = ((L.length - 1 : Nat) : Int) := by rw [wI64 (by omega)]; omega
        have w3 : ((b : Nat) : Int).tmod ((L.length - 1 : Nat) : Int) = ((b % (L.length - 1) : Nat) : Int) := by rw [Int.tmod_eq_emod_of_nonneg (by omega)]; rfl
        have hkl : b % (L.length - 1) < L.length - 1 := Nat.mod_lt _ (by omega)
        have w4 : IntKind.i64.wrap (1 + ((b % (L.length - 1) : Nat) : Int)) = ((b % (L.length - 1) + 1 : Nat) : Int) := by rw [wI64 (by omega)]; omega
        simp only [go_sem, he, g1, g15, g16, g5, hcs, hcell, conv_int (P := Tryz.prog) (s := 5) (d := 3) Tryz.underlying5 Tryz.underlying3, w1, w2, w3, w4]
        have hat : b % (L.length - 1) + 1 < L.length ∧ 1 < L.length := by omega
        generalize b % (L.length - 1) + 1 = at' at *
        obtain ⟨p1, hp1⟩ : ∃ p, L[1]? = some p := ⟨_, List.getElem?_eq_getElem hat.2⟩
        obtain ⟨pa, hpa⟩ : ∃ p, L[at']? = some p := ⟨_, List.getElem?_eq_getElem hat.1⟩
        have hm1 : ((L.map kvT).map vS)[1]? = some (vS (kvT p1)) := by rw [List.getElem?_map, List.getElem?_map, hp1]; rfl
        have hma : ((L.map kvT).map vS)[at']? = some (vS (kvT pa)) := by rw [List.getElem?_map, List.getElem?_map, hpa]; rfl
        have hco : cellsK (H ++ G)[o]? = some ((L.map kvT).map vS) := by rw [ho]; rfl
        refine ⟨by omega, by omega, acode_draw mixed (by kernel_rfl) ?_⟩
        have hL1 := put_kv L 1 pa hat.2
        have hL2 := put_kv (L.set 1 pa) at' p1 (by rw [List.length_set]; exact hat.1)
        have hpm := swap_perm hp1 hpa
        have hlt : o < (H ++ G).length := (List.getElem?_eq_some_iff.1 ho).1
        simp only [go_sem, he, g1, g15, g16, g5, hco, hm1, hma, ho]
        refine ⟨by omega, by omega, by omega, by simp; omega, by omega, ?_⟩
        rw [hL1, List.getElem?_set_self hlt]
        simp only [go_sem, he, g1, g15, g16, g5]
        rw [hL2, List.set_set]
        refine ⟨by simp; omega, ?_⟩
        have hl2 : ((L.set 1 pa).set at' p1).length = L.length := by simp
        generalize (L.set 1 pa).set at' p1 = M at *
        clear ho hco hm1 hma hp1 hpa hL1 hL2
        have hGs : (H ++ G).set o (.own 9 ((M.map kvT).map vS)) = H ++ G.set (o - H.length) (.own 9 ((M.map kvT).map vS)) := set_behind hol
        have hoG : (H ++ G.set (o - H.length) (.own 9 ((M.map kvT).map vS)))[o]? = some (.own 9 ((M.map kvT).map vS)) := by rw [← hGs, List.getElem?_set_self hlt]
        rw [hGs, ← hl2]
        generalize G.set (o - H.length) (.own 9 ((M.map kvT).map vS)) = G' at *
        obtain ⟨m0, m1, M', rfl⟩ : ∃ m0 m1 M', M = m0 :: m1 :: M' := by
          match M, hl2 with
          | [], h => exact absurd h (by simp; omega)
          | [_], h => exact absurd h (by simp; omega)
          | m0 :: m1 :: M', _ => exact ⟨m0, m1, M', rfl⟩
        have hco : cellsK (H ++ G')[o]? = some (((m0 :: m1 :: M').map kvT).map vS) := by rw [hoG]; rfl
        have hi0 : (((m0 :: m1 :: M').map kvT).map vS)[0]? = some (vS (kvT m0)) := rfl
        have hi1 : (((m0 :: m1 :: M').map kvT).map vS)[1]? = some (vS (kvT m1)) := rfl
        have hlm : (m0 :: m1 :: M').length = M'.length + 2 := rfl
        have hLm : L.length = M'.length + 2 := by rw [← hl2, hlm]
        rw [hLm] at g5
        rw [hlm]
        simp only [go_sem, he, g1, g15, g16, g5, hco, hi1]
        have hcoX : ∀ X, cellsK (H ++ (G' ++ X))[o]? = some (((m0 :: m1 :: M').map kvT).map vS) := fun X => by rw [← List.append_assoc, get_less (List.getElem?_eq_some_iff.1 hoG).1]; exact hco
        have allX : ∀ (l : List (List UInt8)) (a b : Nat), (((l.map vS).drop a).take b).all AV.one = true := fun l a b => by rw [← List.map_drop, ← List.map_take]; exact all_one _
        have e9 : 1 + (M'.length + 2 - 2) = M'.length + 1 := by omega
        refine ⟨by omega, acode_join (fun e h => len e = 74 ∧ AL.get e 1 = .sl own q off bs.length 1 ∧ AL.get e 15 = vI bs.length ∧ AL.get e 16 = vI i ∧ ∃ (o' : Nat) (G'' : Heap), h = H ++ G'' ∧ AL.get e 5 = .sl true o' 0 (m0 :: (M' ++ [m1])).length 1 ∧ h[o']? = some (.own 9 (((m0 :: (M' ++ [m1])).map kvT).map vS)) ∧ H.length ≤ o') ?_ ?_⟩
        · refine acode_order3 [] 3 6 8 [0, 1, 2, 7, 8, 3, 4, 5, 6, 9, 10] [0, 1, 2, 3, 4, 5, 7, 8, 6, 9, 10] [0, 1, 2, 3, 4, 5, 6, 7, 8, 9, 10] mixed (by kernel_rfl) (by kernel_rfl) rfl (by kernel_rfl) (by kernel_rfl) (by kernel_rfl) (by kernel_rfl) ?_ ?_ ?_
          all_goals
            simp only [go_sem, he, g1, g15, g16, g5, hco, hi0, hi1]
            refine ⟨by omega, by omega, ?_⟩
            rw [append_own (cs := [vS (kvT m0)]) (c := ((m0 :: M').map kvT).map vS) (by simp only [go_sem]) (hcoX _) (by simp) (by simp; omega) (allX _ _ _) (by omega) (by simp [List.take_of_length_le])]
            simp only [go_sem, he, g1, g15, g16, g5, hco, hi0, hi1]
            rw [e9, append_own (cs := vS (kvT m0) :: (M'.map kvT).map vS) (cs' := [vS (kvT m1)]) (c := ((m0 :: (M' ++ [m1])).map kvT).map vS) (by simp only [go_sem]) (by simp only [go_sem]) (by simp) (by simp) rfl (by omega) (by simp [List.take_of_length_le])]
            simp only [go_sem, he, g1, g15, g16, g5, hco, hi0, hi1]
            refine ⟨H.length + (G'.length + 3), _, rfl, by simp, by simp only [go_sem], by omega⟩
        · rintro e h ⟨he, g1, g15, g16, o', G'', rfl, g5, ho', hol'⟩
          simp only [go_sem, he, g1, g15, g16, g5, wi]
          have hpm2 : (m0 :: (M' ++ [m1])).Perm (m0 :: m1 :: M') := (List.perm_append_singleton m1 M').cons m0
          exact ⟨k - 1, by omega, ⟨_, rfl⟩, i + 1, o', m0 :: (M' ++ [m1]), rfl, by omega, rfl, ho', hol', (hpm2.trans hpm).trans hL⟩
      · simp only [go_sem, he, g1, g15, g16, g5, wi]
        exact ⟨k - 1, by omega, ⟨_, rfl⟩, i + 1, o, L, rfl, by omega, rfl, ho, hol, hL⟩
    · clear hc hik g16 g15 g1
      have hco : cellsK (H ++ G)[o]? = some ((L.map kvT).map vS) := by rw [ho]; rfl
      have hsL : ∀ p ∈ L, (kvT p).length ≤ 83 := fun p hp => hs p (hL.mem_iff.1 hp)
      simp only [go_sem, he, g5]
      refine A_while L.length (fun k e h => h = H ++ G ∧ len e = 74 ∧ AL.get e 58 = .sl true o 0 L.length 1 ∧ AL.get e 59 = vI L.length ∧ ∃ (i : Nat) (tx : List UInt8), AL.get e 60 = vI i ∧ AL.get e 9 = vS tx ∧ i + k = L.length ∧ tx = joinB 59 ((L.take i).map kvT) ∧ tx.length ≤ 84 * i) (by kernel_rfl) ?_ ?_
      · simp only [go_sem, he, g5]
        exact ⟨0, _, rfl, rfl, by omega, rfl, by simp⟩
      · rintro k e h ⟨rfl, he, g58, g59, i, tx, g60, g9, hik, htx, htl⟩
        simp only [go_sem, he, g58, g59, g60, g9]
        refine condK_of (fun hc => ?_) fun hc => ?_
        · have hc := of_decide_eq_true hc
          have hi : i < L.length := by omega
          have hLi : L[i]? = some L[i] := List.getElem?_eq_getElem hi
          generalize L[i] = p at hLi
          have hci : ((L.map kvT).map vS)[i]? = some (vS (kvT p)) := by rw [List.getElem?_map, List.getElem?_map, hLi]; rfl
          have hpl2 := hsL p (List.mem_of_getElem? hLi)
          have wi : IntKind.i64.wrap ((i : Int) + 1) = ((i + 1 : Nat) : Int) := by rw [wI64 (by omega)]; rfl
          simp only [go_sem, he, g58, g59, g60, g9, hco, hci, Int.toNat_natCast, wi]
          refine ⟨by omega, condK_of (fun hq => ?_) fun hq => ?_⟩
          · have hq := of_decide_eq_true hq
            simp only [go_sem, he, g58, g59, g60, g9, wi]
            have hne : (L.take i).map kvT ≠ [] := by
              intro e
              have h := congrArg List.length e
              rw [List.length_map, List.length_take, List.length_nil] at h
              omega
            refine ⟨by omega, by simp; omega, k - 1, by omega, i + 1, _, rfl, rfl, by omega, ?_, by simp; omega⟩
            rw [take_snoc hLi, List.map_append, List.map_cons, List.map_nil, joinB_snoc 59 (kvT p) _ hne, htx]
          · have hq := of_decide_eq_false hq
            have hi0 : i = 0 := by omega
            subst hi0
            simp only [go_sem, he, g58, g59, g60, g9, wi]
            have htx0 : tx = [] := by rw [htx]; rfl
            refine ⟨by omega, k - 1, by omega, 1, _, rfl, rfl, by omega, ?_, by simp; omega⟩
            rw [take_snoc hLi, htx0]
            rfl
        · have hc := of_decide_eq_false hc
          have hi : i = L.length := by omega
          subst hi
          rw [List.take_length] at htx
          simp only [go_sem, he, g58, g59, g60, g9]
          exact ⟨⟨L, hL, by rw [htx]⟩, _, rfl⟩
end Go.Proofs.YtlfpjdcogkcjlaaGreatDoor.F
/- laws.FnTextOrder: the walk. -/
namespace Go.Proofs.YtlfpjdcogkcjlaaGreatDoor.F
open Go.RowKit Go.Proofs.YtlfpjdcogkcjlaaGreatDoor.AL Go.Proofs.YtlfpjdcogkcjlaaGreatDoor.B
set_option linter.unusedVariables false
set_option linter.unusedSimpArgs false
set_option maxRecDepth 20000
attribute [local irreducible] aops acode bindK bindV bindH callX callK condK guardK Kseq Kblk Knorm Kfun Kloop Kjoin outK AWp appendA Ktail
attribute [local go_sem] acode_skip acode_seq acode_region acode_cond acode_block acode_exit acode_ret acode_loop Kseq_normal Kseq_exit Kseq_ret Kblk_normal Kblk_ret Kblk_eq Kblk_ne Knorm_eq Kloop_normal Kloop_exit Kloop_ret Kjoin_normal Kjoin_exit Kjoin_ret condK_true condK_false bindK_put bindV_put bindK_no bindV_no bindH_no aops_nil gops wantK_some wantV_bool wantV_undef guardK_true guardK_false guardK_none aops_move aops_assign aops_pick aops_nilCheck aops_binOp aops_unOp aops_convert aops_fieldAddr aops_indexAddr aops_slice aops_index aops_extract aops_makeInterface aops_makeFunc aops_build aops_load aops_lookup aops_alloc aops_box aops_buildSlice aops_makeSlice aops_makeMap aops_store aops_insert aops_mapUpdate aops_len aops_append aops_call opA_tmp opA_const opA_global opA_func get_mk look_nil look_eq look_ne len_mk List.map_cons List.map_nil Option.map_some Option.map_none bin_add bin_sub bin_mul bin_quo bin_rem bin_eql bin_neq bin_lss bin_leq bin_gtr bin_geq bin_cat bin_seql bin_sneq bin_neq_ifc bin_eql_ifc bin_neq_nn bin_eql_nn bin_neq_ptr bin_eql_ptr bin_neq_pn isIfc_true isPtr_true bin_eql2 bin_neq2 aops_max max_int un_not un_neg lenA_K lenK_str lenK_nil lenK_sl lenK_array pick_bool pick_val bindV_ite bindK_ite bindH_ite slotV_sl slotK_some slotV_ptr slotR_some sliceV_sl cutK_some sliceV_str cutS_some bound_none bound_some indexA_str atS_some mkS fieldV_ptr loadV_ptr cellsK_ro cellsK_own loadK_one loadK_many storeA_ptr storeK_own allocA_some heap_len heap_get0 heap_get heap_set0 heap_set Kfun_ret Kfun_normal resA_nil resA_tmp resA_cell outK_some packA_one packA_nil packA_two List.length_cons List.length_nil List.getElem?_cons_zero List.getElem?_cons_succ List.set_cons_zero List.set_cons_succ List.cons_append List.nil_append List.append_assoc Nat.zero_add Nat.add_zero List.all_cons List.all_nil Value.oneCell' Bool.and_true Bool.and_self if_true if_false Bool.false_eq_true partsA buildV buildA fillA Option.bind_some putCells List.drop_succ_cons List.drop_zero List.take_succ_cons List.take_zero List.take_nil List.drop_nil and_self and_true true_and Option.some.injEq ne_eq not_false_eq_true Option.map_map List.getElem?_toArray beq_self_eq_true Bool.true_beq Bool.false_beq Bool.not_true Bool.not_false decide_true decide_false beq_true Nat.mul_one Nat.one_mul Nat.zero_mul bsA buildSliceA zerosN List.append_nil Int.toNat_natCast Int.toNat_zero boxA one_val one_ptr one_sl one_mp one_ifc one_fn avCells_agg avCells_val valCells_true valCells_agg avCells_ptr avCells_sl avCells_mp avCells_ifc avCells_fn app_cons app_nil lookupA insertA ifaceV extractA kd2 ars127 fp127 ars60 fp60 ars31 fp31 eq2_99 eq2_84 eq2_47 fp52 sz2 kd3 sz3 kd4 sz4 kd5 sz5 kd9 sz9 kd22 sz22 el22 kd23 sz23 el23 kd25 sz25 zc25 fp25 fo25_0 fo25_1 fo25_2 fo25_3 fo25_4 fo25_5 fo25_6 fo25_7 fo25_8 fo25_9 fo25_10 fo25_11 fo25_12 fo25_13 fo25_14 fo25_15 fo25_16 fo25_17 kd31 sz31 zc31 ar31 kd32 sz32 el32 kd34 sz34 zc34 fp34 fo34_0 fo34_1 fo34_2 fo34_3 fo34_4 fo34_5 fo34_6 fo34_7 fo34_8 fo34_9 fo34_10 fo34_11 fo34_12 fo34_13 fo34_14 fo34_15 fo34_16 fo34_17 el38 el42 kd47 sz47 zc47 fp47 fo47_0 fo47_1 kd52 sz52 zc52 fo52_0 el55 zc60 kd72 sz72 zc72 fp72 fo72_0 fo72_1 el73 kd80 sz80 kd84 sz84 zc84 fp84 fo84_0 fo84_1 kd88 sz88 zc88 fp88 fo88_0 fo88_1 fo88_2 fo88_3 kd91 sz91 zc91 fp91 fo91_0 fo91_1 fo91_2 el94 kd99 sz99 zc99 fp99 fo99_0 fo99_1 kd100 sz100 el100 kd102 sz102 zc102 fp102 fo102_0 fo102_1 fo102_2 fo102_3 fo102_4 fo102_5 fo102_6 fo102_7 fo102_8 fo102_9 fo102_10 fo102_11 fo102_12 fo102_13 fo102_14 fo102_15 kd109 sz109 zc109 fp109 isStrMap124 zv80 zc127 kd153 sz153 zc153 ar153 isIface157 kd159 sz159 zc159 fp159 isStrMap177 zv84 Tryz.underlying3 Tryz.underlying4 Tryz.underlying5 Tryz.underlying9 Tryz.underlying21 Tryz.underlying22 Tryz.underlying23 Tryz.underlying32 Tryz.underlying38 Tryz.underlying42 Tryz.underlying47 Tryz.underlying55 Tryz.underlying67 Tryz.underlying73 Tryz.underlying80 Tryz.underlying84 Tryz.underlying94 Tryz.underlying100 Tryz.underlying2 Tryz.underlying127 Tryz.underlying60 Tryz.underlying31 kd55 ai60 ai127 indexA_agg atK_some isStrMap76 zv4 Ktail_eq opsOf_nil opsOf_cons consO_some
attribute [local go_sem_proc] Nat.reduceLT Nat.reduceBEq Nat.reduceAdd Int.reduceBEq Nat.reduceLeDiff reduceIte Nat.reduceEqDiff Int.reduceEq Int.reduceLE Int.reduceLT Int.reduceNe Nat.reduceMul Nat.reduceSub Int.reduceToNat
theorem mix_congr {r q : Ru} {S S' : List (List UInt8)} (h : ∀ k, k ∈ S ↔ k ∈ S') : ruMix r S q = ruMix r S' q := by
  unfold ruMix
  simp only [h]
theorem perm_sub {r : Ru} {L : List KV} (h : L.Perm (kvs r)) : Sub r L ∧ L.length ≤ 15 ∧ (L.map (·.1)).Nodup ∧ ∀ k, k ∈ L.map (·.1) ↔ k ∈ (kvs r).map (·.1) := by
  have hm := fun k => (h.map (·.1)).mem_iff (a := k)
  obtain ⟨T, hT⟩ := kvs_head r
  exact ⟨⟨fun p hp => h.mem_iff.1 hp, (hm _).2 (by rw [hT]; exact List.mem_cons_self ..)⟩, by rw [h.length_eq]; exact kvs_len r, (h.map (·.1)).nodup_iff.2 (kvs_nodup r), hm⟩
theorem mem_ite_one {α : Type} {c : Prop} [Decidable c] {a b : α} : a ∈ (if c then [b] else [] : List α) ↔ c ∧ a = b := by split <;> simp_all
theorem mem_ite_one' {α : Type} {c : Prop} [Decidable c] {a b : α} : a ∈ (if c then [] else [b] : List α) ↔ ¬ c ∧ a = b := by split <;> simp_all
theorem keys_of (r : Ru) : (kvs r).map (·.1) = [[70, 82, 69, 81]] ++ (if r.hasUntil = true then [[85, 78, 84, 73, 76]] else []) ++ (if 0 < r.count then [[67, 79, 85, 78, 84]] else []) ++ (if 1 < r.interval then [[73, 78, 84, 69, 82, 86, 65, 76]] else []) ++
    ((if r.second.length = 0 then [] else [[66, 89, 83, 69, 67, 79, 78, 68]]) ++ (if r.minute.length = 0 then [] else [[66, 89, 77, 73, 78, 85, 84, 69]]) ++ (if r.hour.length = 0 then [] else [[66, 89, 72, 79, 85, 82]]) ++ (if r.monthDay.length = 0 then [] else [[66, 89, 77, 79, 78, 84, 72, 68, 65, 89]]) ++ (if r.yearDay.length = 0 then [] else [[66, 89, 89, 69, 65, 82, 68, 65, 89]]) ++ (if r.weekNo.length = 0 then [] else [[66, 89, 87, 69, 69, 75, 78, 79]]) ++ (if r.month.length = 0 then [] else [[66, 89, 77, 79, 78, 84, 72]]) ++ (if r.setPos.length = 0 then [] else [[66, 89, 83, 69, 84, 80, 79, 83]]) ++ (if r.easter.length = 0 then [] else [[66, 89, 69, 65, 83, 84, 69, 82]])) ++
    (if r.day.length = 0 then [] else [[66, 89, 68, 65, 89]]) ++ (if r.wkst = 0 then [] else [[87, 75, 83, 84]]) := by
  unfold kvs kOne
  simp only [List.map_append, List.map_cons, List.map_nil, apply_ite (List.map (fun p : KV => p.1))]
theorem in_keys (r : Ru) (k : List UInt8) : k ∈ (kvs r).map (·.1) ↔ k = [70, 82, 69, 81] ∨ (r.hasUntil = true ∧ k = [85, 78, 84, 73, 76]) ∨ (0 < r.count ∧ k = [67, 79, 85, 78, 84]) ∨ (1 < r.interval ∧ k = [73, 78, 84, 69, 82, 86, 65, 76]) ∨ (¬ r.second.length = 0 ∧ k = [66, 89, 83, 69, 67, 79, 78, 68]) ∨ (¬ r.minute.length = 0 ∧ k = [66, 89, 77, 73, 78, 85, 84, 69]) ∨ (¬ r.hour.length = 0 ∧ k = [66, 89, 72, 79, 85, 82]) ∨ (¬ r.monthDay.length = 0 ∧ k = [66, 89, 77, 79, 78, 84, 72, 68, 65, 89]) ∨ (¬ r.yearDay.length = 0 ∧ k = [66, 89, 89, 69, 65, 82, 68, 65, 89]) ∨ (¬ r.weekNo.length = 0 ∧ k = [66, 89, 87, 69, 69, 75, 78, 79]) ∨ (¬ r.month.length = 0 ∧ k = [66, 89, 77, 79, 78, 84, 72]) ∨ (¬ r.setPos.length = 0 ∧ k = [66, 89, 83, 69, 84, 80, 79, 83]) ∨ (¬ r.easter.length = 0 ∧ k = [66, 89, 69, 65, 83, 84, 69, 82]) ∨ (¬ r.day.length = 0 ∧ k = [66, 89, 68, 65, 89]) ∨ (¬ r.wkst = 0 ∧ k = [87, 75, 83, 84]) := by
  rw [keys_of]
  simp only [List.mem_append, mem_ite_one, mem_ite_one', List.mem_singleton, or_assoc]
theorem if_list {α : Type} {l : List α} : (if ¬ l.length = 0 then l else []) = l := by
  split
  · rfl
  · rename_i h
    have : l.length = 0 := Decidable.not_not.1 h
    exact (List.eq_nil_of_length_eq_zero this).symm
/-- All parts of a rule: the rule. -/
theorem mix_all {r : Ru} (h : Wr r) : ruMix r ((kvs r).map (·.1)) ruQ0 = { r with interval := if 1 < r.interval then r.interval else 1 } := by
  unfold ruMix
  simp (config := { decide := true }) only [in_keys, and_false, and_true, or_false, false_or, true_or, if_true]
  unfold ruQ0
  simp only [if_list, h.start.1, h.start.2]
  have hw : (if ¬ r.wkst = 0 then r.wkst else 0) = r.wkst := by split <;> omega
  have hc : (if 0 < r.count then r.count else 0) = r.count := by have := h.count.1; split <;> omega
  have hu : (if r.hasUntil = true then true else false) = r.hasUntil := by cases r.hasUntil <;> rfl
  have ht : (if r.hasUntil = true then r.til else 0) = r.til := by
    cases hh : r.hasUntil with
    | true => rfl
    | false => exact (h.tilNo hh).symm
  rw [hw, hc, hu, ht]
/-- What a text with a rule's parts in any order is read as. -/
theorem parsePerm_A {w0 : World} (hG : Glob w0) {r : Ru} (hwr : Wr r) {L : List KV} (hL : L.Perm (kvs r)) (H : Heap) (hH : GH H) :
    ACalls Tryz.prog (CB w0) 15 [vS (joinB 59 (L.map kvT))] H fun v H' => (∃ y, v = .tup [.agg (ruCells { r with interval := if 1 < r.interval then r.interval else 0 } y), vB true] ∧ RuOwn H' { r with interval := if 1 < r.interval then r.interval else 0 } y) ∧ ∃ G, H' = H ++ G := by
  obtain ⟨hs, hl, hn, hm⟩ := perm_sub hL
  have hin := sub_inText hwr hs hl
  have hop := opParse_sub hwr hs
  have hms := mix_same hwr (S := L.map (·.1)) (until_in _ hs.mem)
  have hiv : [73, 78, 84, 69, 82, 86, 65, 76] ∈ L.map (·.1) ↔ 1 < r.interval := by
    rw [hm, in_keys]
    simp (config := { decide := true }) only [and_false, and_true, or_false, false_or]
  rw [mix_congr hm, mix_all hwr] at hms
  simp only [hiv] at hms
  refine (parseOption_A hG _ hin H hH).mono ?_
  rintro v h ⟨hr2, hx⟩
  rw [hop] at hr2
  obtain ⟨y2, rfl, hO2⟩ := hr2
  rw [hms] at hO2 ⊢
  exact ⟨⟨y2, rfl, hO2⟩, hx⟩
theorem callX_ofRule {w0 : World} (r : Ru) (hdl : r.day.length ≤ 1000000) (x : Rs) {H : Heap} (hx : RuAt H r x) {ops : Array Oper} {rest : List Oper} {env : Env} {dst : Option Nat} {K : Env → Heap → Prop}
    (hk : ∀ y G, RuAt (H ++ G) r y → aops Tryz.prog (CB w0) (some []) ops rest (setD env dst (.agg (ruCells r y))) (H ++ G) K) : callX Tryz.prog (CB w0) (some []) 17 [.agg (ruCells r x)] H ops rest env dst K := by
  refine callX_many (ofRule_A r hdl x H hx) (by rintro _ _ ⟨-, G, rfl⟩; exact List.prefix_append _ _) ⟨_, _, ⟨x, rfl, hx⟩, [], (List.append_nil _).symm⟩ ?_
  rintro v h ⟨⟨y, rfl, hy⟩, G, rfl⟩
  exact hk y G hy
theorem fnTextOrder_A {w0 : World} (hG : Glob w0) (r : Ru) (x : Rs) (hn : RuNum r) (b1 b2 : List Nat) (hb1 : ∀ b ∈ b1, b ≤ 255) (hb2 : ∀ b ∈ b2, b ≤ 255) (y1 y2 : AV) (H : Heap) (hH : GH H) (hx : RuAt H r x) (hy1 : BytesAt H y1 b1) (hy2 : BytesAt H y2 b2) : ACalls Tryz.prog (CB w0) 4 [.agg (ruCells r x), y1, y2] H fun v H' => v = vB true ∧ ∃ G, H' = H ++ G := by
  refine A_fun (N := 71) (rs := [.tmp 6]) Tryz.func4 rfl rfl rfl (by kernel_rfl) (by kernel_rfl) (Nat.le_of_ble_eq_true rfl) ?_
  rintro e he ⟨g0, g1, g2, -⟩
  unfold ruCells at g0
  have l1 := hy1.len 5
  have l2 := hy2.len 5
  simp only [go_sem, he, g0, g1, g2, l1, l2, hx.setPos.one, hx.month.one, hx.monthDay.one, hx.yearDay.one, hx.weekNo.one, hx.day.one, hx.hour.one, hx.minute.one, hx.second.one, hx.easter.one]
  refine callX_of (zzFits1_A r x _ (hx.more _)) (List.prefix_refl _) ?_
  cases hf : fits r with
  | false =>
    simp only [go_sem, he, g1, g2, l1, l2, setD_some]
    exact ⟨_, rfl⟩
  | true =>
  have hl := fits_len hf
  simp only [go_sem, he, g1, g2, l1, l2, setD_some]
  cases c1 : decide ((2147483647 : Int) < b1.length) with
  | true =>
    simp only [go_sem, he, g1, g2, l1, l2, c1]
    exact ⟨_, rfl⟩
  | false =>
  simp only [go_sem, he, g1, g2, l1, l2, c1]
  cases c2 : decide ((2147483647 : Int) < b2.length) with
  | true =>
    simp only [go_sem, he, g1, g2, l1, l2, c2]
    exact ⟨_, rfl⟩
  | false =>
  simp only [go_sem, he, g1, g2, l1, l2, c2]
  refine callX_any (textBare_A r x hl hn _ (hx.more _)) ?_
  rintro v h ⟨rfl, G, rfl⟩
  unfold bareR
  cases hb : bareOk r with
  | false =>
    simp only [ruCells, go_sem, he, g1, g2, l1, l2, setD_some, hx.setPos.one, hx.month.one, hx.monthDay.one, hx.yearDay.one, hx.weekNo.one, hx.day.one, hx.hour.one, hx.minute.one, hx.second.one, hx.easter.one]
    refine callX_of (textAwake_A hG _ (hH.more _)) (List.prefix_refl _) ?_
    simp only [go_sem, he, g1, setD_some]
    exact ⟨_, rfl⟩
  | true =>
  obtain ⟨hc, hwr⟩ := wr_bare hb
  simp only [ruCells, go_sem, he, g1, g2, l1, l2, setD_some, hx.setPos.one, hx.month.one, hx.monthDay.one, hx.yearDay.one, hx.weekNo.one, hx.day.one, hx.hour.one, hx.minute.one, hx.second.one, hx.easter.one]
  cases c3 : decide ((30 : Int) < b1.length) with
  | true =>
    simp only [go_sem, he, g1, g2, l1, l2, c3]
    refine callX_of (textAwake_A hG _ (hH.more _)) (List.prefix_refl _) ?_
    simp only [go_sem, he, setD_some]
    exact ⟨_, rfl⟩
  | false =>
  simp only [go_sem, he, g1, g2, l1, l2, c3]
  cases c4 : decide ((30 : Int) < b2.length) with
  | true =>
    simp only [go_sem, he, g1, g2, l1, l2, c4]
    refine callX_of (textAwake_A hG _ (hH.more _)) (List.prefix_refl _) ?_
    simp only [go_sem, he, setD_some]
    exact ⟨_, rfl⟩
  | false =>
  simp only [go_sem, he, g1, g2, l1, l2, c4]
  have n3 := of_decide_eq_false c3
  have n4 := of_decide_eq_false c4
  have hsm : ∀ p ∈ kvs (bare r), (kvT p).length ≤ 83 := fun p hp => kv_small hwr hp
  have hbx := bare_at hx
  refine callX_any (specText_A hG (bare r) x (clean_ok hc) hsm b1 hb1 (by omega) y1 _ (SlOf.more hy1 _) (hbx.more _)) ?_
  rintro v h ⟨⟨L1, hL1, rfl⟩, G1, rfl⟩
  simp only [go_sem, he, g1, g2, setD_some]
  have hwr1 : ∀ c : Int, Few { bare r with interval := c } := fun c => ⟨by have := hwr.setPos.1; show (bare r).setPos.length ≤ _; omega, by have := hwr.month.1; show (bare r).month.length ≤ _; omega, by have := hwr.monthDay.1; show (bare r).monthDay.length ≤ _; omega, by have := hwr.yearDay.1; show (bare r).yearDay.length ≤ _; omega, by have := hwr.weekNo.1; show (bare r).weekNo.length ≤ _; omega, by have := hwr.day.1; show (bare r).day.length ≤ _; omega, by have := hwr.hour.1; show (bare r).hour.length ≤ _; omega, by have := hwr.minute.1; show (bare r).minute.length ≤ _; omega, by have := hwr.second.1; show (bare r).second.length ≤ _; omega, by have := hwr.easter.1; show (bare r).easter.length ≤ _; omega⟩
  have hpp := fun {L : List KV} (hL : L.Perm (kvs (bare r))) H hH => parsePerm_A hG hwr hL H hH
  generalize (if 1 < (bare r).interval then (bare r).interval else 0) = z at hpp
  have hfew := hwr1 z
  refine callX_any (hpp hL1 _ (hH.more _)) ?_
  rintro v h ⟨⟨z1, rfl, hO1⟩, G2, rfl⟩
  simp only [ruCells, go_sem, he, g1, g2, setD_some, hO1.setPos.ints.one, hO1.month.ints.one, hO1.monthDay.ints.one, hO1.yearDay.ints.one, hO1.weekNo.ints.one, hO1.day.days.one, hO1.hour.ints.one, hO1.minute.ints.one, hO1.second.ints.one, hO1.easter.ints.one]
  refine callX_any (specText_A hG (bare r) x (clean_ok hc) hsm b2 hb2 (by omega) y2 _ (SlOf.more hy2 _) (hbx.more _)) ?_
  rintro v h ⟨⟨L2, hL2, rfl⟩, G3, rfl⟩
  simp only [go_sem, he, g1, g2, setD_some]
  refine callX_any (hpp hL2 _ (hH.more _)) ?_
  rintro v h ⟨⟨z2, rfl, hO2⟩, G4, rfl⟩
  simp only [ruCells, go_sem, he, g1, g2, setD_some, hO2.setPos.ints.one, hO2.month.ints.one, hO2.monthDay.ints.one, hO2.yearDay.ints.one, hO2.weekNo.ints.one, hO2.day.days.one, hO2.hour.ints.one, hO2.minute.ints.one, hO2.second.ints.one, hO2.easter.ints.one]
  have hx1 := fun Z : Heap => hO1.at.more Z
  have hx2 := fun Z : Heap => hO2.at.more Z
  simp only [go_sem] at hx1 hx2
  refine acode_draw mixed (by kernel_rfl) ?_
  simp only [ruCells, go_sem, he, g1, g2, setD_some, hO1.setPos.ints.one, hO1.month.ints.one, hO1.monthDay.ints.one, hO1.yearDay.ints.one, hO1.weekNo.ints.one, hO1.day.days.one, hO1.hour.ints.one, hO1.minute.ints.one, hO1.second.ints.one, hO1.easter.ints.one, hO2.setPos.ints.one, hO2.month.ints.one, hO2.monthDay.ints.one, hO2.yearDay.ints.one, hO2.weekNo.ints.one, hO2.day.days.one, hO2.hour.ints.one, hO2.minute.ints.one, hO2.second.ints.one, hO2.easter.ints.one]
  refine callX_ofRule { bare r with interval := z } hfew.day z1 (hx1 _) fun y3 G5 h3 => ?_
  have h3 := fun Z : Heap => h3.more Z
  simp only [ruCells, go_sem, he, setD_some] at h3 ⊢
  refine callX_ofRule { bare r with interval := z } hfew.day z2 (hx2 _) fun y4 G6 h4 => ?_
  simp only [ruCells, go_sem, he, setD_some] at h4 ⊢
  refine callX_of (textSame_A { bare r with interval := z } hfew z z rfl y3 y4 _ (h3 _) h4) (List.prefix_refl _) ?_
  simp only [go_sem, he, setD_some]
  refine callX_of (textAwake_A hG _ (hH.more _)) (List.prefix_refl _) ?_
  simp only [go_sem, he, setD_some]
  exact ⟨_, rfl⟩

def name2Ok (a b : Int) : Bool := (match wdOf (nameText (a, b)) with | .ok d => decide (d.1 = a) && decide (d.2 = b) | .error _ => false) && (nameText (a, b)).all okB && decide (0 < (nameText (a, b)).length)
theorem name2_all : ((List.range 7).all fun a => (List.range 107).all fun b => name2Ok (a : Int) ((b : Int) - 53)) = true := by kernel_rfl
theorem name_text2 {d : Int × Int} (h0 : 0 ≤ d.1) (h1 : d.1 ≤ 6) (h2 : -53 ≤ d.2) (h3 : d.2 ≤ 53) : wdOf (nameText d) = .ok d ∧ okS (nameText d) ∧ 0 < (nameText d).length := by
  obtain ⟨a, b⟩ := d
  simp only at h0 h1 h2 h3
  have h := List.all_eq_true.1 (List.all_eq_true.1 name2_all a.toNat (List.mem_range.2 (by omega))) (b + 53).toNat (List.mem_range.2 (by omega))
  rw [show ((a.toNat : Nat) : Int) = a by omega, show (((b + 53).toNat : Nat) : Int) - 53 = b by omega] at h
  unfold name2Ok at h
  simp only [Bool.and_eq_true, decide_eq_true_eq] at h
  obtain ⟨⟨h4, h5⟩, h6⟩ := h
  refine ⟨?_, okS_of h5, h6⟩
  split at h4
  · rename_i d hd
    simp only [Bool.and_eq_true, decide_eq_true_eq] at h4
    rw [hd]
    exact congrArg Except.ok (Prod.ext h4.1 h4.2)
  · cases h4
def dnames (l : List (Int × Int)) : List UInt8 := joinB 44 (l.map nameText)
theorem dnames_split {l : List (Int × Int)} (h0 : l ≠ []) (h : SmallD l) : split 44 (dnames l) = l.map nameText :=
  split_join (by simpa using h0) fun s hs hm => by
    obtain ⟨n, hn, rfl⟩ := List.mem_map.1 hs
    obtain ⟨a, b, c, d⟩ := h.2 n hn
    exact (name_text a b c d).2.2.1 hm
theorem daysOf_dnames {l : List (Int × Int)} (h0 : l ≠ []) (h : SmallD l) : daysOf (dnames l) = .ok l := by
  unfold daysOf
  rw [dnames_split h0 h]
  rw [mapAcc_map (v := fun n : Int × Int => n) l [] fun n hn => by
    obtain ⟨a, b, c, d⟩ := h.2 n hn
    exact (name_text2 a b c d).1]
  simp
theorem wds_dnames {l : List (Int × Int)} (h0 : l ≠ []) (h : SmallD l) : (split 44 (dnames l)).map swd = l.map some := by
  rw [dnames_split h0 h, List.map_map]
  exact List.map_congr_left fun n hn => by
    obtain ⟨a, b, c, d⟩ := h.2 n hn
    exact (name_text a b c d).1
theorem dnames_ok {l : List (Int × Int)} (h : SmallD l) : okS (dnames l) := joinB_ok rfl fun s hs => by
  obtain ⟨n, hn, rfl⟩ := List.mem_map.1 hs
  obtain ⟨a, b, c, d⟩ := h.2 n hn
  exact (name_text2 a b c d).2.1
theorem dnames_pos {l : List (Int × Int)} (h0 : l ≠ []) (h : SmallD l) : 0 < (dnames l).length := joinB_pos (by simpa using h0) fun s hs => by
  obtain ⟨n, hn, rfl⟩ := List.mem_map.1 hs
  obtain ⟨a, b, c, d⟩ := h.2 n hn
  exact (name_text2 a b c d).2.2
/-- A part of a rule's text that both readers take as it is. -/
structure Good (r : Ru) (p : KV) : Prop where
  ok : kvOk p
  key : p.1 ∈ allKeys
  op : ∀ o, opStep o (kvT p) = .ok (opSet r o p.1)
  sp : ∀ q, SPut q p (ruSet r q p.1)
theorem good_kvs {r : Ru} (h : Wr r) {p : KV} (hp : p ∈ kvs r) : Good r p := ⟨kvs_ok r p hp, (kvs_keys r).subset (List.mem_map.2 ⟨p, hp, rfl⟩), opStep_kv h hp, sput_kv h hp⟩
theorem kvOk_of {k v : List UInt8} (hk : okS k) (hv : okS v) (h1 : k.length ≤ 10) (h2 : k ≠ [68, 84, 83, 84, 65, 82, 84]) (h3 : k ≠ [85, 78, 84, 73, 76]) : kvOk (k, v) := ⟨hk, hv, h1, h2, fun e => absurd e h3⟩
theorem good_int {r : Ru} (h : Wr r) (h0 : ¬ r.interval = 0) : Good r ([73, 78, 84, 69, 82, 86, 65, 76], Lib.itoa r.interval) := by
  have hi := h.interval
  have hc := atoi_itoa (n := r.interval) (by omega) h.interval.2
  have hk : kvOk ([73, 78, 84, 69, 82, 86, 65, 76], Lib.itoa r.interval) := kvOk_of (okS_of rfl) (itoa_ok _) (by decide) (by decide) (by decide)
  have hin : ([73, 78, 84, 69, 82, 86, 65, 76] : List UInt8) ∈ allKeys := by decide
  refine ⟨hk, hin, fun o => ?_, fun q => ?_⟩
  · rw [opStep_of hk hc.2.2]
    simp [opPut, hc.1, opSet, Except.map]
  · exact .inr (.inr (.inr (.inl ⟨rfl, r.interval, num_itoa (by omega) h.interval.2, by omega, by simp [ruSet]⟩)))
theorem good_day {r : Ru} (h : Wr r) (h0 : r.day ≠ []) : Good r ([66, 89, 68, 65, 89], dnames r.day) := by
  have hk : kvOk ([66, 89, 68, 65, 89], dnames r.day) := kvOk_of (okS_of rfl) (dnames_ok h.day) (by decide) (by decide) (by decide)
  have hin : ([66, 89, 68, 65, 89] : List UInt8) ∈ allKeys := by decide
  refine ⟨hk, hin, fun o => ?_, fun q => ?_⟩
  · rw [opStep_of hk (dnames_pos h0 h.day)]
    simp [opPut, daysOf_dnames h0 h.day, opSet, Except.map]
  · exact .inr (.inr (.inr (.inr (.inr (.inl ⟨rfl, r.day, wds_dnames h0 h.day, by simp [ruSet]⟩)))))
theorem good_W {r : Ru} (h : Wr r) {p : KV} (hp : p ∈ kvsW r) : Good r p := by
  have one : ∀ {c : Prop} [Decidable c] {n v : List UInt8}, p ∈ (if c then [] else [(n, v)] : List KV) → ¬ c ∧ p = (n, v) := by
    intro c _ n v hq
    split at hq
    · cases hq
    · exact ⟨‹_›, List.mem_singleton.1 hq⟩
  rcases kvsW_mem hp with hq | hq | hq | hq | hq | hq | hq
  · refine good_kvs h ?_
    obtain ⟨T, hT⟩ := kvs_head r
    rw [hT, hq]
    exact List.mem_cons_self ..
  · obtain ⟨c, rfl⟩ := one hq
    exact good_int h c
  · obtain ⟨c, rfl⟩ := one hq
    refine good_kvs h ?_
    unfold kvs
    simp only [List.mem_append]
    exact .inr (by rw [if_neg c]; exact List.mem_singleton.2 rfl)
  · obtain ⟨c, rfl⟩ := one hq
    have := h.count
    refine good_kvs h ?_
    unfold kvs
    simp only [List.mem_append]
    exact .inl (.inl (.inl (.inl (.inr (by rw [if_pos (by omega)]; exact List.mem_singleton.2 rfl)))))
  · obtain ⟨c, rfl⟩ := one hq
    have hu : r.hasUntil = true := by
      cases hu : r.hasUntil with
      | true => rfl
      | false => exact absurd (h.tilNo hu) c
    refine good_kvs h ?_
    unfold kvs
    simp only [List.mem_append]
    exact .inl (.inl (.inl (.inl (.inl (.inr (by rw [if_pos hu]; exact List.mem_singleton.2 rfl))))))
  · obtain ⟨c, rfl⟩ := one hq
    exact good_day h fun e => c (by rw [e]; rfl)
  · refine good_kvs h ?_
    unfold kvs
    simp only [List.mem_append]
    refine .inl (.inl (.inr ?_))
    rcases hq with hq | hq | hq | hq | hq | hq | hq | hq | hq <;> simp only [hq, true_or, or_true]
theorem foldE_good {r : Ru} : ∀ {L : List KV} (o : Op), (∀ p ∈ L, Good r p) → foldE opStep o (L.map kvT) = .ok (opMix r (L.map (·.1)) o)
  | [], o, _ => by
    unfold opMix
    simp [foldE]
  | p :: L, o, hL => by
    rw [List.map_cons, foldE, (hL p (by simp)).op, List.map_cons, ← opMix_set]
    exact foldE_good _ fun q hq => hL q (List.mem_cons_of_mem _ hq)
theorem sfold_good {r : Ru} : ∀ {L : List KV} (q : Ru), (∀ p ∈ L, Good r p) → SFold q L (ruMix r (L.map (·.1)) q)
  | [], q, _ => by
    show ruMix r [] q = q
    unfold ruMix
    simp
  | p :: L, q, hL => by
    refine ⟨ruSet r q p.1, (hL p (by simp)).sp q, ?_⟩
    rw [List.map_cons, ← ruMix_set]
    exact sfold_good _ fun p' hp' => hL p' (List.mem_cons_of_mem _ hp')
theorem split_good {r : Ru} {L : List KV} (hL : ∀ p ∈ L, Good r p) (hf : [70, 82, 69, 81] ∈ L.map (·.1)) : split 59 (joinB 59 (L.map kvT)) = L.map kvT :=
  split_join (by intro e; rw [List.map_eq_nil_iff.1 e] at hf; cases hf) fun s hs => by
    obtain ⟨p, hp, rfl⟩ := List.mem_map.1 hs
    exact kv_no59 (hL p hp).ok
theorem opParse_good {r : Ru} {L : List KV} (hL : ∀ p ∈ L, Good r p) (hf : [70, 82, 69, 81] ∈ L.map (·.1)) : opParse (joinB 59 (L.map kvT)) = .ok (opMix r (L.map (·.1)) op0) := by
  unfold opParse
  rw [split_good hL hf, foldE_good _ hL]
  unfold opEnd
  have : (opMix r (L.map (·.1)) op0).set = true := by
    unfold opMix
    simp only
    rw [if_pos hf]
  simp only
  rw [if_pos this]
theorem inText_good {r : Ru} {L : List KV} (hL : ∀ p ∈ L, Good r p) (hf : [70, 82, 69, 81] ∈ L.map (·.1)) (hlen : (joinB 59 (L.map kvT)).length ≤ 2000) : InText (joinB 59 (L.map kvT)) := by
  have hne : L ≠ [] := fun e => by rw [e] at hf; cases hf
  refine inText_of (joinB_vis rfl fun s hs => ?_) (by omega) ?_ ?_
  · obtain ⟨p, hp, rfl⟩ := List.mem_map.1 hs
    have ho := (hL p hp).ok
    refine visS_app (okS_vis ho.1) fun c hc => ?_
    rcases List.mem_cons.1 hc with rfl | hc
    · rfl
    · exact okS_vis ho.2.1 c hc
  · match L, hne with
    | p :: L', _ =>
      have hk : p.1 ∈ allKeys := (hL p (by simp)).key
      have hall : (allKeys.all fun k => match k with | c :: _ => c != 82 | [] => false) = true := by decide
      have h1 := List.all_eq_true.1 hall _ hk
      have hh : (joinB 59 ((p :: L').map kvT)).head? = p.1.head? := by
        cases hp : p.1 with
        | nil => rw [hp] at h1; cases h1
        | cons c t =>
          have e : kvT p = c :: (t ++ 61 :: p.2) := by unfold kvT; rw [hp]; rfl
          cases L' with
          | nil => show (kvT p).head? = _; rw [e]; rfl
          | cons b r => show (kvT p ++ 59 :: _).head? = _; rw [e]; rfl
      rw [hh]
      cases hp : p.1 with
      | nil => rw [hp] at h1; cases h1
      | cons c t =>
        rw [hp] at h1
        simp only [bne_iff_ne] at h1
        intro e
        exact h1 (Option.some.inj e)
  · rw [split_good hL hf]
    intro a ha k v hkv hk
    obtain ⟨p, hp, rfl⟩ := List.mem_map.1 ha
    have ho := (hL p hp).ok
    rw [split_kv ho] at hkv
    simp only [List.cons.injEq, and_true] at hkv
    obtain ⟨rfl, rfl⟩ := hkv
    rcases hk with hk | hk
    · exact ho.2.2.2.2 hk
    · exact absurd hk ho.2.2.2.1
theorem keysW_of (r : Ru) : (kvsW r).map (·.1) = [[70, 82, 69, 81]] ++ (if r.interval = 0 then [] else [[73, 78, 84, 69, 82, 86, 65, 76]]) ++ (if r.wkst = 0 then [] else [[87, 75, 83, 84]]) ++ (if r.count = 0 then [] else [[67, 79, 85, 78, 84]]) ++ (if r.til = 0 then [] else [[85, 78, 84, 73, 76]]) ++ (if r.setPos.length = 0 then [] else [[66, 89, 83, 69, 84, 80, 79, 83]]) ++ (if r.month.length = 0 then [] else [[66, 89, 77, 79, 78, 84, 72]]) ++ (if r.monthDay.length = 0 then [] else [[66, 89, 77, 79, 78, 84, 72, 68, 65, 89]]) ++ (if r.yearDay.length = 0 then [] else [[66, 89, 89, 69, 65, 82, 68, 65, 89]]) ++ (if r.weekNo.length = 0 then [] else [[66, 89, 87, 69, 69, 75, 78, 79]]) ++
    (if r.day.length = 0 then [] else [[66, 89, 68, 65, 89]]) ++ (if r.hour.length = 0 then [] else [[66, 89, 72, 79, 85, 82]]) ++ (if r.minute.length = 0 then [] else [[66, 89, 77, 73, 78, 85, 84, 69]]) ++ (if r.second.length = 0 then [] else [[66, 89, 83, 69, 67, 79, 78, 68]]) ++ (if r.easter.length = 0 then [] else [[66, 89, 69, 65, 83, 84, 69, 82]]) := by
  unfold kvsW wD3 wD2 wD1 wC wB5 wB4 wB3 wB2 wB1 wA5 wA4 wA3 wA2 wA1 wInt wWkst wCount wUntil wDay wFreq kOne
  simp only [List.map_append, List.map_cons, List.map_nil, apply_ite (List.map (fun p : KV => p.1))]
theorem in_keysW (r : Ru) (k : List UInt8) : k ∈ (kvsW r).map (·.1) ↔ k = [70, 82, 69, 81] ∨ (¬ r.interval = 0 ∧ k = [73, 78, 84, 69, 82, 86, 65, 76]) ∨ (¬ r.wkst = 0 ∧ k = [87, 75, 83, 84]) ∨ (¬ r.count = 0 ∧ k = [67, 79, 85, 78, 84]) ∨ (¬ r.til = 0 ∧ k = [85, 78, 84, 73, 76]) ∨ (¬ r.setPos.length = 0 ∧ k = [66, 89, 83, 69, 84, 80, 79, 83]) ∨ (¬ r.month.length = 0 ∧ k = [66, 89, 77, 79, 78, 84, 72]) ∨ (¬ r.monthDay.length = 0 ∧ k = [66, 89, 77, 79, 78, 84, 72, 68, 65, 89]) ∨ (¬ r.yearDay.length = 0 ∧ k = [66, 89, 89, 69, 65, 82, 68, 65, 89]) ∨ (¬ r.weekNo.length = 0 ∧ k = [66, 89, 87, 69, 69, 75, 78, 79]) ∨
    (¬ r.day.length = 0 ∧ k = [66, 89, 68, 65, 89]) ∨ (¬ r.hour.length = 0 ∧ k = [66, 89, 72, 79, 85, 82]) ∨ (¬ r.minute.length = 0 ∧ k = [66, 89, 77, 73, 78, 85, 84, 69]) ∨ (¬ r.second.length = 0 ∧ k = [66, 89, 83, 69, 67, 79, 78, 68]) ∨ (¬ r.easter.length = 0 ∧ k = [66, 89, 69, 65, 83, 84, 69, 82]) := by
  rw [keysW_of]
  simp only [List.mem_append, mem_ite_one', List.mem_singleton, or_assoc]
theorem nodupW (r : Ru) : ((kvsW r).map (·.1)).Nodup := by
  have s1 : ∀ {c : Prop} [Decidable c] {k : List UInt8}, (if c then [] else [k] : List (List UInt8)).Sublist [k] := by
    intro c _ k
    split
    · exact List.nil_sublist _
    · exact List.Sublist.refl _
  rw [keysW_of]
  have := ((((((((((((((List.Sublist.refl [([70, 82, 69, 81] : List UInt8)]).append (s1 (c := r.interval = 0) (k := [73, 78, 84, 69, 82, 86, 65, 76]))).append (s1 (c := r.wkst = 0) (k := [87, 75, 83, 84]))).append (s1 (c := r.count = 0) (k := [67, 79, 85, 78, 84]))).append (s1 (c := r.til = 0) (k := [85, 78, 84, 73, 76]))).append (s1 (c := r.setPos.length = 0) (k := [66, 89, 83, 69, 84, 80, 79, 83]))).append (s1 (c := r.month.length = 0) (k := [66, 89, 77, 79, 78, 84, 72]))).append (s1 (c := r.monthDay.length = 0) (k := [66, 89, 77, 79, 78, 84, 72, 68, 65, 89]))).append (s1 (c := r.yearDay.length = 0) (k := [66, 89, 89, 69, 65, 82, 68, 65, 89]))).append (s1 (c := r.weekNo.length = 0) (k := [66, 89, 87, 69, 69, 75, 78, 79]))).append (s1 (c := r.day.length = 0) (k := [66, 89, 68, 65, 89]))).append (s1 (c := r.hour.length = 0) (k := [66, 89, 72, 79, 85, 82]))).append (s1 (c := r.minute.length = 0) (k := [66, 89, 77, 73, 78, 85, 84, 69]))).append (s1 (c := r.second.length = 0) (k := [66, 89, 83, 69, 67, 79, 78, 68]))).append (s1 (c := r.easter.length = 0) (k := [66, 89, 69, 65, 83, 84, 69, 82]))
  exact this.nodup (by decide)
theorem mixW_all {r : Ru} (h : Wr r) : ruMix r ((kvsW r).map (·.1)) ruQ0 = { r with interval := if ¬ r.interval = 0 then r.interval else 1 } := by
  unfold ruMix
  simp (config := { decide := true }) only [in_keysW, and_false, and_true, or_false, false_or, true_or, if_true]
  unfold ruQ0
  simp only [if_list, h.start.1, h.start.2]
  have hw : (if ¬ r.wkst = 0 then r.wkst else 0) = r.wkst := by split <;> omega
  have hc : (if ¬ r.count = 0 then r.count else 0) = r.count := by split <;> omega
  have ht : (if ¬ r.til = 0 then r.til else 0) = r.til := by split <;> omega
  have hu : (if ¬ r.til = 0 then true else false) = r.hasUntil := by
    cases hh : r.hasUntil with
    | true => exact if_pos (h.til hh).2
    | false => exact if_neg (by rw [h.tilNo hh]; simp)
  rw [hw, hc, hu, ht]

theorem fnTextRead_A {w0 : World} (hG : Glob w0) (r : Ru) (x : Rs) (hn : RuNum r) (b1 : List Nat) (hb1 : ∀ b ∈ b1, b ≤ 255) (y1 : AV) (H : Heap) (hH : GH H) (hx : RuAt H r x) (hy1 : BytesAt H y1 b1) : ACalls Tryz.prog (CB w0) 6 [.agg (ruCells r x), y1] H fun v H' => v = vB true ∧ ∃ G, H' = H ++ G := by
  refine A_fun (N := 46) (rs := [.tmp 4]) Tryz.func6 rfl rfl rfl (by kernel_rfl) (by kernel_rfl) (Nat.le_of_ble_eq_true rfl) ?_
  rintro e he ⟨g0, g1, -⟩
  unfold ruCells at g0
  have l1 := hy1.len 5
  simp only [go_sem, he, g0, g1, l1, hx.setPos.one, hx.month.one, hx.monthDay.one, hx.yearDay.one, hx.weekNo.one, hx.day.one, hx.hour.one, hx.minute.one, hx.second.one, hx.easter.one]
  refine callX_of (zzFits1_A r x _ (hx.more _)) (List.prefix_refl _) ?_
  cases hf : fits r with
  | false =>
    simp only [go_sem, he, g1, l1, setD_some]
    exact ⟨_, rfl⟩
  | true =>
  have hl := fits_len hf
  simp only [go_sem, he, g1, l1, setD_some]
  cases c1 : decide ((2147483647 : Int) < b1.length) with
  | true =>
    simp only [go_sem, he, g1, l1, c1]
    exact ⟨_, rfl⟩
  | false =>
  simp only [go_sem, he, g1, l1, c1]
  refine callX_any (textBare_A r x hl hn _ (hx.more _)) ?_
  rintro v h ⟨rfl, G, rfl⟩
  unfold bareR
  cases hb : bareOk r with
  | false =>
    simp only [ruCells, go_sem, he, g1, l1, setD_some, hx.setPos.one, hx.month.one, hx.monthDay.one, hx.yearDay.one, hx.weekNo.one, hx.day.one, hx.hour.one, hx.minute.one, hx.second.one, hx.easter.one]
    refine callX_of (textAwake_A hG _ (hH.more _)) (List.prefix_refl _) ?_
    simp only [go_sem, he, g1, setD_some]
    exact ⟨_, rfl⟩
  | true =>
  obtain ⟨hc, hwr⟩ := wr_bare hb
  simp only [ruCells, go_sem, he, g1, l1, setD_some, hx.setPos.one, hx.month.one, hx.monthDay.one, hx.yearDay.one, hx.weekNo.one, hx.day.one, hx.hour.one, hx.minute.one, hx.second.one, hx.easter.one]
  cases c3 : decide ((30 : Int) < b1.length) with
  | true =>
    simp only [go_sem, he, g1, l1, c3]
    refine callX_of (textAwake_A hG _ (hH.more _)) (List.prefix_refl _) ?_
    simp only [go_sem, he, setD_some]
    exact ⟨_, rfl⟩
  | false =>
  simp only [go_sem, he, g1, l1, c3]
  have n3 := of_decide_eq_false c3
  have hsm : ∀ p ∈ kvs (bare r), (kvT p).length ≤ 83 := fun p hp => kv_small hwr hp
  have hbx := bare_at hx
  refine callX_any (specText_A hG (bare r) x (clean_ok hc) hsm b1 hb1 (by omega) y1 _ (SlOf.more hy1 _) (hbx.more _)) ?_
  rintro v h ⟨⟨L1, hL1, rfl⟩, G1, rfl⟩
  simp only [go_sem, he, g1, setD_some]
  have hwr1 : ∀ c : Int, Few { bare r with interval := c } := fun c => ⟨by have := hwr.setPos.1; show (bare r).setPos.length ≤ _; omega, by have := hwr.month.1; show (bare r).month.length ≤ _; omega, by have := hwr.monthDay.1; show (bare r).monthDay.length ≤ _; omega, by have := hwr.yearDay.1; show (bare r).yearDay.length ≤ _; omega, by have := hwr.weekNo.1; show (bare r).weekNo.length ≤ _; omega, by have := hwr.day.1; show (bare r).day.length ≤ _; omega, by have := hwr.hour.1; show (bare r).hour.length ≤ _; omega, by have := hwr.minute.1; show (bare r).minute.length ≤ _; omega, by have := hwr.second.1; show (bare r).second.length ≤ _; omega, by have := hwr.easter.1; show (bare r).easter.length ≤ _; omega⟩
  have hpp := fun {L : List KV} (hL : L.Perm (kvs (bare r))) H hH => parsePerm_A hG hwr hL H hH
  have hz : max (if 1 < (bare r).interval then (bare r).interval else 0) 1 = max (bare r).interval 1 := by have := hwr.interval.1; split <;> omega
  have hfew0 : Few (bare r) := hwr1 (bare r).interval
  generalize (if 1 < (bare r).interval then (bare r).interval else 0) = z at hpp hz
  have hfew := hwr1 z
  refine callX_any (hpp hL1 _ (hH.more _)) ?_
  rintro v h ⟨⟨z1, rfl, hO1⟩, G2, rfl⟩
  simp only [ruCells, go_sem, he, g1, setD_some, hO1.setPos.ints.one, hO1.month.ints.one, hO1.monthDay.ints.one, hO1.yearDay.ints.one, hO1.weekNo.ints.one, hO1.day.days.one, hO1.hour.ints.one, hO1.minute.ints.one, hO1.second.ints.one, hO1.easter.ints.one]
  have hx1 := fun Z : Heap => hO1.at.more Z
  simp only [go_sem] at hx1
  refine acode_draw mixed (by kernel_rfl) ?_
  simp only [ruCells, go_sem, he, g1, setD_some, hO1.setPos.ints.one, hO1.month.ints.one, hO1.monthDay.ints.one, hO1.yearDay.ints.one, hO1.weekNo.ints.one, hO1.day.days.one, hO1.hour.ints.one, hO1.minute.ints.one, hO1.second.ints.one, hO1.easter.ints.one]
  refine callX_ofRule { bare r with interval := z } hfew.day z1 (hx1 _) fun y3 G5 h3 => ?_
  simp only [ruCells, go_sem, he, setD_some] at h3 ⊢
  have h3 : RuAt _ (bare r) y3 := ⟨h3.setPos, h3.month, h3.monthDay, h3.yearDay, h3.weekNo, h3.day, h3.hour, h3.minute, h3.second, h3.easter⟩
  refine callX_of (textSame_A (bare r) hfew0 z (bare r).interval hz y3 x _ h3 (hbx.more _)) (List.prefix_refl _) ?_
  simp only [go_sem, he, setD_some]
  refine callX_of (textAwake_A hG _ (hH.more _)) (List.prefix_refl _) ?_
  simp only [go_sem, he, setD_some]
  exact ⟨_, rfl⟩

def wText (r : Ru) : List UInt8 := joinB 59 ((kvsW r).map kvT)
theorem freqW (r : Ru) : [70, 82, 69, 81] ∈ (kvsW r).map (·.1) := (in_keysW r _).2 (.inl rfl)
theorem wText_len {r : Ru} (h : Wr r) : (wText r).length ≤ 1600 := by
  have := joinB_length 59 100 ((kvsW r).map kvT) (fun s hs => by
    obtain ⟨q, hq, rfl⟩ := List.mem_map.1 hs
    exact kvsW_small h hq)
  rw [List.length_map] at this
  have hl := w_len r
  have : (100 + 1) * (kvsW r).length ≤ (100 + 1) * 15 := Nat.mul_le_mul_left _ (by omega)
  unfold wText
  omega
set_option linter.constructorNameAsVariable false in
theorem parseWr_A {w0 : World} (hG : Glob w0) {r : Ru} (h : Wr r) (H : Heap) (hH : GH H) :
    ACalls Tryz.prog (CB w0) 15 [vS (wText r)] H fun v H' => (∃ y, v = .tup [.agg (ruCells r y), vB true] ∧ RuOwn H' r y) ∧ ∃ G, H' = H ++ G := by
  have hg := fun p hp => good_W h (p := p) hp
  have hlen := wText_len h
  have hin : InText (wText r) := inText_good hg (freqW r) (by unfold wText at hlen; omega)
  have hop : opParse (wText r) = .ok (opMix r ((kvsW r).map (·.1)) op0) := opParse_good hg (freqW r)
  have hms := mix_same h (S := (kvsW r).map (·.1)) (fun hu => by
    cases hh : r.hasUntil with
    | true => rfl
    | false =>
      have := (in_keysW r _).1 hu
      simp (config := { decide := true }) only [and_false, and_true, or_false, false_or] at this
      exact absurd (h.tilNo hh) this)
  have hiv : [73, 78, 84, 69, 82, 86, 65, 76] ∈ (kvsW r).map (·.1) ↔ ¬ r.interval = 0 := by
    rw [in_keysW]
    simp (config := { decide := true }) only [and_false, and_true, or_false, false_or]
  rw [mixW_all h] at hms
  simp only [hiv] at hms
  have hz : (if ¬ r.interval = 0 then r.interval else 0) = r.interval := by split <;> omega
  rw [hz] at hms
  refine (parseOption_A hG _ hin H hH).mono ?_
  rintro v h' ⟨hr2, hx⟩
  rw [hop] at hr2
  obtain ⟨y2, rfl, hO2⟩ := hr2
  rw [hms] at hO2 ⊢
  exact ⟨⟨y2, rfl, hO2⟩, hx⟩
theorem readWr_A {w0 : World} {r : Ru} (h : Wr r) (H : Heap) :
    ACalls Tryz.prog (CB w0) 19 [vS (wText r)] H fun v H' => (∃ x, v = .tup [.agg (ruCells { r with interval := if ¬ r.interval = 0 then r.interval else 1 } x), vB true] ∧ RuW H' { r with interval := if ¬ r.interval = 0 then r.interval else 1 } x) ∧ ∃ G, H' = H ++ G := by
  have hg := fun p hp => good_W h (p := p) hp
  have := read_A (w0 := w0) (wText r) (by have := wText_len h; omega) (kvsW r) (split_good hg (freqW r)) (fun p hp => split_kv (hg p hp).ok) (nodupW r) (freqW r) _ (sfold_good ruQ0 hg) H
  rw [mixW_all h] at this
  exact this
theorem ruleString_A {w0 : World} (hG : Glob w0) {r : Ru} (h : Wr r) (x : Rs) (H : Heap) (hH : GH H) (hx : RuAt H r x) : ACalls Tryz.prog (CB w0) 28 [.agg (ruCells r x)] H fun v H' => v = vS (wText r) ∧ ∃ G, H' = H ++ G := by
  refine A_fun (N := 7) (rs := [.tmp 2]) Tryz.func28 rfl rfl rfl (by kernel_rfl) (by kernel_rfl) (Nat.le_of_ble_eq_true rfl) ?_
  rintro e he ⟨g0, -⟩
  unfold ruCells at g0
  simp only [go_sem, he, g0, hx.setPos.one, hx.month.one, hx.monthDay.one, hx.yearDay.one, hx.weekNo.one, hx.day.one, hx.hour.one, hx.minute.one, hx.second.one, hx.easter.one]
  refine callX_any (option_A r h x _ (hx.more _)) ?_
  rintro v h' ⟨⟨y, rfl, hy⟩, G, rfl⟩
  simp only [optCells, go_sem, he, setD_some, hy.setPos.one, hy.month.one, hy.monthDay.one, hy.yearDay.one, hy.weekNo.one, hy.day.one, hy.hour.one, hy.minute.one, hy.second.one, hy.easter.one]
  have hy2 := hy.more [AObj.own 102 (optCells r y)]
  unfold optCells at hy2
  simp only [go_sem] at hy2
  obtain ⟨G', hG'⟩ : ∃ G', G' = (H ++ [AObj.own 34 (ruCells r x)]) ++ (G ++ [AObj.own 102 (optCells r y)]) := ⟨_, rfl⟩
  unfold ruCells optCells at hG'
  simp only [go_sem] at hG'
  rw [← hG'] at hy2 ⊢
  have hpp : G'[H.length + (G.length + 1)]? = some (.own 102 (optCells r y)) := by
    rw [hG']
    simp only [go_sem]
    rfl
  have hE : ∃ E, G' = H ++ E := ⟨_, hG'⟩
  have hGH : GH G' := by obtain ⟨E, e⟩ := hE; rw [e]; exact hH.more E
  refine callX_any (rruleString_A hG r h y _ G' hGH hpp hy2) ?_
  rintro v h' ⟨rfl, E2, rfl⟩
  simp only [go_sem, he, setD_some]
  refine ⟨rfl, ?_⟩
  obtain ⟨E, rfl⟩ := hE
  exact ⟨_, List.append_assoc _ _ _⟩
theorem optString_A {w0 : World} (hG : Glob w0) (r : Ru) (hw : Wr r) (y : Rs) (p : Nat) (H : Heap) (hH : GH H) (hp : H[p]? = some (.own 102 (optCells r y))) (hx : RuAt H r y) : ACalls Tryz.prog (CB w0) 53 [.ptr p 0] H fun v H' => v = vS (wText r) ∧ ∃ G, H' = H ++ G := by
  refine A_fun (N := 21) (rs := [.tmp 2]) Tryz.func53 rfl rfl rfl (by kernel_rfl) (by kernel_rfl) (Nat.le_of_ble_eq_true rfl) ?_
  rintro e he ⟨g0, -⟩
  have hP : ∀ G : Heap, (H ++ G)[p]? = some (.own 102 (optCells r y)) := fun G => get_more hp
  unfold optCells at hP
  simp only [go_sem, he, g0]
  refine callX_any (rruleString_A hG r hw y p H hH hp hx) ?_
  rintro v h' ⟨rfl, G, rfl⟩
  simp only [go_sem, he, g0, setD_some, nilA, hP]
  refine callX_of (zIsZero_A 0 0 _) (List.prefix_refl _) ?_
  simp only [go_sem, he, g0, setD_some, nilA, hP]
  exact ⟨rfl, _, rfl⟩
theorem optionText_A {w0 : World} (hG : Glob w0) {r : Ru} (h : Wr r) (x : Rs) (H : Heap) (hH : GH H) (hx : RuAt H r x) : ACalls Tryz.prog (CB w0) 30 [.agg (ruCells r x)] H fun v H' => v = vS (wText r) ∧ ∃ G, H' = H ++ G := by
  refine A_fun (N := 7) (rs := [.tmp 2]) Tryz.func30 rfl rfl rfl (by kernel_rfl) (by kernel_rfl) (Nat.le_of_ble_eq_true rfl) ?_
  rintro e he ⟨g0, -⟩
  unfold ruCells at g0
  simp only [go_sem, he, g0, hx.setPos.one, hx.month.one, hx.monthDay.one, hx.yearDay.one, hx.weekNo.one, hx.day.one, hx.hour.one, hx.minute.one, hx.second.one, hx.easter.one]
  refine callX_any (option_A r h x _ (hx.more _)) ?_
  rintro v h' ⟨⟨y, rfl, hy⟩, G, rfl⟩
  simp only [optCells, go_sem, he, setD_some, hy.setPos.one, hy.month.one, hy.monthDay.one, hy.yearDay.one, hy.weekNo.one, hy.day.one, hy.hour.one, hy.minute.one, hy.second.one, hy.easter.one]
  have hy2 := hy.more [AObj.own 102 (optCells r y)]
  unfold optCells at hy2
  simp only [go_sem] at hy2
  obtain ⟨G', hG'⟩ : ∃ G', G' = (H ++ [AObj.own 34 (ruCells r x)]) ++ (G ++ [AObj.own 102 (optCells r y)]) := ⟨_, rfl⟩
  unfold ruCells optCells at hG'
  simp only [go_sem] at hG'
  rw [← hG'] at hy2 ⊢
  have hpp : G'[H.length + (G.length + 1)]? = some (.own 102 (optCells r y)) := by
    rw [hG']
    simp only [go_sem]
    rfl
  have hE : ∃ E, G' = H ++ E := ⟨_, hG'⟩
  have hGH : GH G' := by obtain ⟨E, e⟩ := hE; rw [e]; exact hH.more E
  refine callX_any (optString_A hG r h y _ G' hGH hpp hy2) ?_
  rintro v h' ⟨rfl, E2, rfl⟩
  simp only [go_sem, he, setD_some]
  obtain ⟨E, rfl⟩ := hE
  exact ⟨_, List.append_assoc _ _ _⟩

theorem few_wr {r : Ru} (hwr : Wr r) (c : Int) : Few { r with interval := c } := ⟨by have := hwr.setPos.1; show r.setPos.length ≤ _; omega, by have := hwr.month.1; show r.month.length ≤ _; omega, by have := hwr.monthDay.1; show r.monthDay.length ≤ _; omega, by have := hwr.yearDay.1; show r.yearDay.length ≤ _; omega, by have := hwr.weekNo.1; show r.weekNo.length ≤ _; omega, by have := hwr.day.1; show r.day.length ≤ _; omega, by have := hwr.hour.1; show r.hour.length ≤ _; omega, by have := hwr.minute.1; show r.minute.length ≤ _; omega, by have := hwr.second.1; show r.second.length ≤ _; omega, by have := hwr.easter.1; show r.easter.length ≤ _; omega⟩
theorem fnTextWritten_A {w0 : World} (hG : Glob w0) (r : Ru) (x : Rs) (hn : RuNum r) (H : Heap) (hH : GH H) (hx : RuAt H r x) : ACalls Tryz.prog (CB w0) 10 [.agg (ruCells r x)] H fun v H' => v = vB true ∧ ∃ G, H' = H ++ G := by
  refine A_fun (N := 50) (rs := [.tmp 2]) Tryz.func10 rfl rfl rfl (by kernel_rfl) (by kernel_rfl) (Nat.le_of_ble_eq_true rfl) ?_
  rintro e he ⟨g0, -⟩
  unfold ruCells at g0
  simp only [go_sem, he, g0, hx.setPos.one, hx.month.one, hx.monthDay.one, hx.yearDay.one, hx.weekNo.one, hx.day.one, hx.hour.one, hx.minute.one, hx.second.one, hx.easter.one]
  refine callX_of (zzFits1_A r x _ (hx.more _)) (List.prefix_refl _) ?_
  cases hf : fits r with
  | false =>
    simp only [go_sem, he, setD_some]
    exact ⟨_, rfl⟩
  | true =>
  have hl := fits_len hf
  simp only [go_sem, he, setD_some]
  refine callX_any (textBare_A r x hl hn _ (hx.more _)) ?_
  rintro v h ⟨rfl, G, rfl⟩
  unfold bareR
  cases hb : bareOk r with
  | false =>
    simp only [ruCells, go_sem, he, setD_some, hx.setPos.one, hx.month.one, hx.monthDay.one, hx.yearDay.one, hx.weekNo.one, hx.day.one, hx.hour.one, hx.minute.one, hx.second.one, hx.easter.one]
    refine callX_of (textAwake_A hG _ (hH.more _)) (List.prefix_refl _) ?_
    simp only [go_sem, he, setD_some]
    exact ⟨_, rfl⟩
  | true =>
  obtain ⟨hc, hwr⟩ := wr_bare hb
  have hbx := bare_at hx
  have hfew := few_wr hwr (bare r).interval
  have hz : max (if ¬ (bare r).interval = 0 then (bare r).interval else 1) 1 = max (bare r).interval 1 := by have := hwr.interval.1; split <;> omega
  have hrd := fun H => readWr_A (w0 := w0) hwr H
  generalize (if ¬ (bare r).interval = 0 then (bare r).interval else 1) = z at hrd hz
  simp only [ruCells, go_sem, he, setD_some, hx.setPos.one, hx.month.one, hx.monthDay.one, hx.yearDay.one, hx.weekNo.one, hx.day.one, hx.hour.one, hx.minute.one, hx.second.one, hx.easter.one]
  refine callX_any (textRule_A (bare r) hfew x _ (hbx.more _)) ?_
  rintro v h ⟨⟨y1, rfl, hy1⟩, G1, rfl⟩
  simp only [ruCells, go_sem, he, setD_some] at hy1 ⊢
  refine callX_any (ruleString_A hG hwr y1 _ (hH.more _) hy1) ?_
  rintro v h ⟨rfl, G2, rfl⟩
  simp only [go_sem, he, setD_some]
  refine callX_any (hrd _) ?_
  rintro v h ⟨⟨x1, rfl, hW1⟩, G3, rfl⟩
  simp only [ruCells, go_sem, he, setD_some, hW1.setPos.one, hW1.month.one, hW1.monthDay.one, hW1.yearDay.one, hW1.weekNo.one, hW1.day.one, hW1.hour.one, hW1.minute.one, hW1.second.one, hW1.easter.one]
  refine callX_any (textRule_A (bare r) hfew x _ (hbx.more _)) ?_
  rintro v h ⟨⟨y2, rfl, hy2⟩, G4, rfl⟩
  simp only [ruCells, go_sem, he, setD_some] at hy2 ⊢
  refine callX_any (optionText_A hG hwr y2 _ (hH.more _) hy2) ?_
  rintro v h ⟨rfl, G5, rfl⟩
  simp only [go_sem, he, setD_some]
  refine callX_any (hrd _) ?_
  rintro v h ⟨⟨x2, rfl, hW2⟩, G6, rfl⟩
  simp only [ruCells, go_sem, he, setD_some, hW1.setPos.one, hW1.month.one, hW1.monthDay.one, hW1.yearDay.one, hW1.weekNo.one, hW1.day.one, hW1.hour.one, hW1.minute.one, hW1.second.one, hW1.easter.one, hW2.setPos.one, hW2.month.one, hW2.monthDay.one, hW2.yearDay.one, hW2.weekNo.one, hW2.day.one, hW2.hour.one, hW2.minute.one, hW2.second.one, hW2.easter.one, hx.setPos.one, hx.month.one, hx.monthDay.one, hx.yearDay.one, hx.weekNo.one, hx.day.one, hx.hour.one, hx.minute.one, hx.second.one, hx.easter.one]
  have hw1 := fun Z : Heap => hW1.at.more Z
  have hw2 := fun Z : Heap => hW2.at.more Z
  simp only [go_sem] at hw1 hw2
  have hR : ∀ {h : Heap} {x1 : Rs}, RuAt h { bare r with interval := z } x1 → RuAt h (bare r) x1 := fun k => ⟨k.setPos, k.month, k.monthDay, k.yearDay, k.weekNo, k.day, k.hour, k.minute, k.second, k.easter⟩
  refine callX_of (textSame_A (bare r) hfew z (bare r).interval hz x1 x _ (hR (hw1 _)) (hbx.more _)) (List.prefix_refl _) ?_
  simp only [go_sem, he, setD_some, hW2.setPos.one, hW2.month.one, hW2.monthDay.one, hW2.yearDay.one, hW2.weekNo.one, hW2.day.one, hW2.hour.one, hW2.minute.one, hW2.second.one, hW2.easter.one, hx.setPos.one, hx.month.one, hx.monthDay.one, hx.yearDay.one, hx.weekNo.one, hx.day.one, hx.hour.one, hx.minute.one, hx.second.one, hx.easter.one]
  refine callX_of (textSame_A (bare r) hfew z (bare r).interval hz x2 x _ (hR (hw2 _)) (hbx.more _)) (List.prefix_refl _) ?_
  simp only [go_sem, he, setD_some]
  refine callX_of (textAwake_A hG _ (hH.more _)) (List.prefix_refl _) ?_
  simp only [go_sem, he, setD_some]
  exact ⟨_, rfl⟩

theorem callX_rstr {w0 : World} (hG : Glob w0) {r : Ru} (h : Wr r) (x : Rs) {H : Heap} (hH : GH H) (hx : RuAt H r x) {ops : Array Oper} {rest : List Oper} {env : Env} {dst : Option Nat} {K : Env → Heap → Prop}
    (hk : ∀ G, aops Tryz.prog (CB w0) (some []) ops rest (setD env dst (vS (wText r))) (H ++ G) K) : callX Tryz.prog (CB w0) (some []) 28 [.agg (ruCells r x)] H ops rest env dst K := by
  refine callX_many (ruleString_A hG h x H hH hx) (by rintro _ _ ⟨-, G, rfl⟩; exact List.prefix_append _ _) ⟨_, _, rfl, [], (List.append_nil _).symm⟩ ?_
  rintro v h ⟨rfl, G, rfl⟩
  exact hk G
theorem fnTextBack_A {w0 : World} (hG : Glob w0) (r : Ru) (x : Rs) (hn : RuNum r) (H : Heap) (hH : GH H) (hx : RuAt H r x) : ACalls Tryz.prog (CB w0) 9 [.agg (ruCells r x)] H fun v H' => v = vB true ∧ ∃ G, H' = H ++ G := by
  refine A_fun (N := 42) (rs := [.tmp 2]) Tryz.func9 rfl rfl rfl (by kernel_rfl) (by kernel_rfl) (Nat.le_of_ble_eq_true rfl) ?_
  rintro e he ⟨g0, -⟩
  unfold ruCells at g0
  simp only [go_sem, he, g0, hx.setPos.one, hx.month.one, hx.monthDay.one, hx.yearDay.one, hx.weekNo.one, hx.day.one, hx.hour.one, hx.minute.one, hx.second.one, hx.easter.one]
  refine callX_of (zzFits1_A r x _ (hx.more _)) (List.prefix_refl _) ?_
  cases hf : fits r with
  | false =>
    simp only [go_sem, he, setD_some]
    exact ⟨_, rfl⟩
  | true =>
  have hl := fits_len hf
  simp only [go_sem, he, setD_some]
  refine callX_any (textBare_A r x hl hn _ (hx.more _)) ?_
  rintro v h ⟨rfl, G, rfl⟩
  unfold bareR
  cases hb : bareOk r with
  | false =>
    simp only [ruCells, go_sem, he, setD_some, hx.setPos.one, hx.month.one, hx.monthDay.one, hx.yearDay.one, hx.weekNo.one, hx.day.one, hx.hour.one, hx.minute.one, hx.second.one, hx.easter.one]
    refine callX_of (textAwake_A hG _ (hH.more _)) (List.prefix_refl _) ?_
    simp only [go_sem, he, setD_some]
    exact ⟨_, rfl⟩
  | true =>
  obtain ⟨hc, hwr⟩ := wr_bare hb
  have hbx := bare_at hx
  have hfew := few_wr hwr (bare r).interval
  simp only [ruCells, go_sem, he, setD_some, hx.setPos.one, hx.month.one, hx.monthDay.one, hx.yearDay.one, hx.weekNo.one, hx.day.one, hx.hour.one, hx.minute.one, hx.second.one, hx.easter.one]
  refine callX_any (textRule_A (bare r) hfew x _ (hbx.more _)) ?_
  rintro v h ⟨⟨y1, rfl, hy1⟩, G1, rfl⟩
  simp only [ruCells, go_sem, he, setD_some] at hy1 ⊢
  refine callX_any (ruleString_A hG hwr y1 _ (hH.more _) hy1) ?_
  rintro v h ⟨rfl, G2, rfl⟩
  simp only [go_sem, he, setD_some]
  refine callX_any (parseWr_A hG hwr _ (hH.more _)) ?_
  rintro v h ⟨⟨x1, rfl, hO⟩, G3, rfl⟩
  simp only [ruCells, go_sem, he, setD_some, hO.setPos.ints.one, hO.month.ints.one, hO.monthDay.ints.one, hO.yearDay.ints.one, hO.weekNo.ints.one, hO.day.days.one, hO.hour.ints.one, hO.minute.ints.one, hO.second.ints.one, hO.easter.ints.one]
  have hx1 := fun Z : Heap => hO.at.more Z
  simp only [go_sem] at hx1
  refine acode_draw mixed (by kernel_rfl) ?_
  simp only [ruCells, go_sem, he, setD_some, hO.setPos.ints.one, hO.month.ints.one, hO.monthDay.ints.one, hO.yearDay.ints.one, hO.weekNo.ints.one, hO.day.days.one, hO.hour.ints.one, hO.minute.ints.one, hO.second.ints.one, hO.easter.ints.one]
  refine callX_ofRule (bare r) hfew.day x1 (hx1 _) fun y3 G5 h3 => ?_
  simp only [ruCells, go_sem, he, setD_some, hx.setPos.one, hx.month.one, hx.monthDay.one, hx.yearDay.one, hx.weekNo.one, hx.day.one, hx.hour.one, hx.minute.one, hx.second.one, hx.easter.one] at h3 ⊢
  refine callX_of (textSame_A (bare r) hfew (bare r).interval (bare r).interval rfl y3 x _ h3 (hbx.more _)) (List.prefix_refl _) ?_
  simp only [go_sem, he, setD_some, hO.setPos.ints.one, hO.month.ints.one, hO.monthDay.ints.one, hO.yearDay.ints.one, hO.weekNo.ints.one, hO.day.days.one, hO.hour.ints.one, hO.minute.ints.one, hO.second.ints.one, hO.easter.ints.one]
  refine callX_rstr hG hwr x1 (hH.more _) (hx1 _) fun G6 => ?_
  simp only [go_sem, he, setD_some]
  refine callX_of (textAwake_A hG _ (hH.more _)) (List.prefix_refl _) ?_
  simp only [go_sem, he, setD_some]
  exact ⟨_, rfl⟩
end Go.Proofs.YtlfpjdcogkcjlaaGreatDoor.F
