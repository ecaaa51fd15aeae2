/- Merged: T45 T46 T38 T47 T51 T52 T53 T56 T57 T58 -/
import Derived.Test.YtlfpjdcogkcjlaaGreatDoorM5
/- The specification's reading: a part of a text, put into a rule. -/
namespace Go.Proofs.YtlfpjdcogkcjlaaGreatDoor.F
open Go.RowKit Go.Proofs.YtlfpjdcogkcjlaaGreatDoor.AL Go.Proofs.YtlfpjdcogkcjlaaGreatDoor.B
set_option linter.unusedVariables false
set_option linter.unusedSimpArgs false
set_option maxRecDepth 20000
attribute [local irreducible] aops acode bindK bindV bindH callX callK condK guardK Kseq Kblk Knorm Kfun Kloop Kjoin outK AWp appendA
attribute [local go_sem] acode_skip acode_seq acode_region acode_cond acode_block acode_exit acode_ret acode_loop Kseq_normal Kseq_exit Kseq_ret Kblk_normal Kblk_ret Kblk_eq Kblk_ne Knorm_eq Kloop_normal Kloop_exit Kloop_ret Kjoin_normal Kjoin_exit Kjoin_ret condK_true condK_false bindK_put bindV_put bindK_no bindV_no bindH_no aops_nil gops wantK_some wantV_bool wantV_undef guardK_true guardK_false guardK_none aops_move aops_assign aops_pick aops_nilCheck aops_binOp aops_unOp aops_convert aops_fieldAddr aops_indexAddr aops_slice aops_index aops_extract aops_makeInterface aops_makeFunc aops_build aops_load aops_lookup aops_alloc aops_box aops_buildSlice aops_makeSlice aops_makeMap aops_store aops_insert aops_mapUpdate aops_len aops_append aops_call opA_tmp opA_const opA_global opA_func get_mk look_nil look_eq look_ne len_mk List.map_cons List.map_nil Option.map_some Option.map_none bin_add bin_sub bin_mul bin_quo bin_rem bin_eql bin_neq bin_lss bin_leq bin_gtr bin_geq bin_cat bin_seql bin_sneq bin_neq_ifc bin_eql_ifc bin_neq_nn bin_eql_nn bin_neq_ptr bin_eql_ptr bin_neq_pn isIfc_true isPtr_true bin_eql2 bin_neq2 aops_max max_int un_not un_neg lenA_K lenK_str lenK_nil lenK_sl lenK_array pick_bool pick_val bindV_ite bindK_ite bindH_ite slotV_sl slotK_some slotV_ptr slotR_some sliceV_sl cutK_some sliceV_str cutS_some bound_none bound_some indexA_str atS_some mkS fieldV_ptr loadV_ptr cellsK_ro cellsK_own loadK_one loadK_many storeA_ptr storeK_own allocA_some heap_len heap_get0 heap_get heap_set0 heap_set Kfun_ret Kfun_normal resA_nil resA_tmp resA_cell outK_some packA_one packA_nil packA_two List.length_cons List.length_nil List.getElem?_cons_zero List.getElem?_cons_succ List.set_cons_zero List.set_cons_succ List.cons_append List.nil_append List.append_assoc Nat.zero_add Nat.add_zero List.all_cons List.all_nil Value.oneCell' Bool.and_true Bool.and_self if_true if_false Bool.false_eq_true partsA buildV buildA fillA Option.bind_some putCells List.drop_succ_cons List.drop_zero List.take_succ_cons List.take_zero List.take_nil List.drop_nil and_self and_true true_and Option.some.injEq ne_eq not_false_eq_true Option.map_map List.getElem?_toArray beq_self_eq_true Bool.true_beq Bool.false_beq Bool.not_true Bool.not_false decide_true decide_false beq_true Nat.mul_one Nat.one_mul Nat.zero_mul bsA buildSliceA zerosN List.append_nil Int.toNat_natCast Int.toNat_zero boxA one_val one_ptr one_sl one_mp one_ifc one_fn avCells_agg avCells_val valCells_true valCells_agg avCells_ptr avCells_sl avCells_mp avCells_ifc avCells_fn app_cons app_nil lookupA insertA ifaceV extractA kd2 ars127 fp127 ars60 fp60 ars31 fp31 eq2_99 eq2_84 eq2_47 fp52 sz2 kd3 sz3 kd4 sz4 kd5 sz5 kd9 sz9 kd22 sz22 el22 kd23 sz23 el23 kd25 sz25 zc25 fp25 fo25_0 fo25_1 fo25_2 fo25_3 fo25_4 fo25_5 fo25_6 fo25_7 fo25_8 fo25_9 fo25_10 fo25_11 fo25_12 fo25_13 fo25_14 fo25_15 fo25_16 fo25_17 kd31 sz31 zc31 ar31 kd32 sz32 el32 kd34 sz34 zc34 fp34 fo34_0 fo34_1 fo34_2 fo34_3 fo34_4 fo34_5 fo34_6 fo34_7 fo34_8 fo34_9 fo34_10 fo34_11 fo34_12 fo34_13 fo34_14 fo34_15 fo34_16 fo34_17 el38 el42 kd47 sz47 zc47 fp47 fo47_0 fo47_1 kd52 sz52 zc52 fo52_0 el55 zc60 kd72 sz72 zc72 fp72 fo72_0 fo72_1 el73 kd80 sz80 kd84 sz84 zc84 fp84 fo84_0 fo84_1 kd88 sz88 zc88 fp88 fo88_0 fo88_1 fo88_2 fo88_3 kd91 sz91 zc91 fp91 fo91_0 fo91_1 fo91_2 el94 kd99 sz99 zc99 fp99 fo99_0 fo99_1 kd100 sz100 el100 kd102 sz102 zc102 fp102 fo102_0 fo102_1 fo102_2 fo102_3 fo102_4 fo102_5 fo102_6 fo102_7 fo102_8 fo102_9 fo102_10 fo102_11 fo102_12 fo102_13 fo102_14 fo102_15 kd109 sz109 zc109 fp109 isStrMap124 zv80 zc127 kd153 sz153 zc153 ar153 isIface157 kd159 sz159 zc159 fp159 isStrMap177 zv84 Tryz.underlying3 Tryz.underlying4 Tryz.underlying5 Tryz.underlying9 Tryz.underlying21 Tryz.underlying22 Tryz.underlying23 Tryz.underlying32 Tryz.underlying38 Tryz.underlying42 Tryz.underlying47 Tryz.underlying55 Tryz.underlying67 Tryz.underlying73 Tryz.underlying80 Tryz.underlying84 Tryz.underlying94 Tryz.underlying100 Tryz.underlying2 Tryz.underlying127 Tryz.underlying60 Tryz.underlying31 kd55 ai60 ai127 indexA_agg atK_some isStrMap76 zv4
/-- A rule of the specification's whose slices are the call's own. -/
structure RuW (h : Heap) (r : Ru) (x : Rs) : Prop where
  setPos : IntsOwn h x.setPos r.setPos
  month : IntsOwn h x.month r.month
  monthDay : IntsOwn h x.monthDay r.monthDay
  yearDay : IntsOwn h x.yearDay r.yearDay
  weekNo : IntsOwn h x.weekNo r.weekNo
  day : DaysO 47 h x.day r.day
  hour : IntsOwn h x.hour r.hour
  minute : IntsOwn h x.minute r.minute
  second : IntsOwn h x.second r.second
  easter : IntsOwn h x.easter r.easter
theorem RuW.more {h : Heap} {r : Ru} {x : Rs} (hx : RuW h r x) (G : Heap) : RuW (h ++ G) r x :=
  ⟨hx.setPos.more G, hx.month.more G, hx.monthDay.more G, hx.yearDay.more G, hx.weekNo.more G, hx.day.more G, hx.hour.more G, hx.minute.more G, hx.second.more G, hx.easter.more G⟩
theorem RuW.putT {h : Heap} {r : Ru} {x : Rs} (hx : RuW h r x) {p t : Nat} {cs : List AV} (hp : h[p]? = some (.own t cs)) (h1 : t ≠ 3) (h2 : t ≠ 47) (y : AObj) : RuW (h.set p y) r x :=
  ⟨hx.setPos.putT hp h1 y, hx.month.putT hp h1 y, hx.monthDay.putT hp h1 y, hx.yearDay.putT hp h1 y, hx.weekNo.putT hp h1 y, hx.day.putT hp h2 y, hx.hour.putT hp h1 y, hx.minute.putT hp h1 y, hx.second.putT hp h1 y, hx.easter.putT hp h1 y⟩
theorem GrN.own {H h : Heap} {x : AV} {l : List Int} (hO : GrN 3 1 H h x l.length (l.map vI)) : IntsOwn h x l := by
  rcases hO.2.2 with ⟨rfl, h0⟩ | ⟨o, rfl, ho, _⟩
  · exact .inl ⟨rfl, List.eq_nil_of_length_eq_zero h0⟩
  · exact .inr ⟨o, rfl, ho⟩
theorem GrN.ownD {H h : Heap} {x : AV} {l : List (Int × Int)} (hO : GrN 47 2 H h x l.length (dcells l)) : DaysO 47 h x l := by
  rcases hO.2.2 with ⟨rfl, h0⟩ | ⟨o, rfl, ho, _⟩
  · exact .inl ⟨rfl, List.eq_nil_of_length_eq_zero h0⟩
  · exact .inr ⟨o, rfl, ho⟩
theorem GrN.one {t st : Nat} {H h : Heap} {x : AV} {n : Nat} {cs : List AV} (hO : GrN t st H h x n cs) : x.one = true := by rcases hO.2.2 with ⟨rfl, _⟩ | ⟨q, rfl, _⟩ <;> rfl
/-- A part read: true, and the rule behind the pointer says it. -/
def PartR (H : Heap) (p : Nat) (q : Ru) (r : AV) (H' : Heap) : Prop := r = vB true ∧ ∃ x G, H' = H.set p (.own 25 (ruCells q x)) ++ G ∧ RuW H' q x
theorem part_FREQ {w0 : World} (v : List UInt8) (hl : v.length ≤ 100000) (f : Nat) (hf : ixS freqs v = f) (hf6 : f ≤ 6) (H : Heap) (p : Nat) (q : Ru) (x : Rs) (hp : H[p]? = some (.own 25 (ruCells q x))) (hx : RuW H q x) :
    ACalls Tryz.prog (CB w0) 40 [.ptr p 0, vS [70, 82, 69, 81], vS v] H (PartR H p { q with freq := f }) := by
  refine A_fun (N := 187) (rs := [.tmp 6]) Tryz.func40 rfl rfl rfl (by kernel_rfl) (by kernel_rfl) (Nat.le_of_ble_eq_true rfl) ?_
  rintro e he ⟨g0, g1, g2, -⟩
  have hlt := (List.getElem?_eq_some_iff.1 hp).1
  have hB : ∀ G, (H ++ G)[p]? = some (.own 25 (ruCells q x)) := fun G => get_more hp
  have hS : ∀ (G : Heap) (y : AObj), ((H ++ G).set p y)[p]? = some y := fun G y => List.getElem?_set_self (by rw [List.length_append]; omega)
  have hA : ∀ (G : Heap) (y : AObj), (H ++ G).set p y = H.set p y ++ G := fun G y => List.set_append_left _ _ hlt
  have hp' := hp
  have hB' := hB
  have hS' : ∀ (y : AObj), (H.set p y)[p]? = some y := fun y => List.getElem?_set_self hlt
  unfold ruCells at hB hp'
  have z1 : decide (([70, 82, 69, 81] : List UInt8) = [70, 82, 69, 81]) = true := rfl
  have d0 : decide ((0 : Int) ≤ (f : Int)) = true := decide_eq_true (by omega)
  have u0 : IntKind.u8.wrap (f : Int) = (f : Int) := wU8 (by omega)
  have ix := indexS_A (w0 := w0) freqs (by decide) v H.length (H ++ [AObj.own 9 (freqs.map vS)]) heap_get0
  rw [show freqs.length = 7 from rfl, hf] at ix
  simp only [go_sem, Nat.reduceLT, Nat.reduceBEq, Nat.reduceAdd, Int.reduceBEq, Nat.reduceLeDiff, reduceIte, Nat.reduceEqDiff, Int.reduceEq, Int.reduceLE, Int.reduceLT, Int.reduceNe, Nat.reduceMul, Nat.reduceSub, Int.reduceToNat, he, g0, g1, g2, nilA, hp', setD_some, List.set_set, z1]
  refine callX_of (frequencies_A _) (List.prefix_append _ _) ?_
  simp only [go_sem, Nat.reduceLT, Nat.reduceBEq, Nat.reduceAdd, Int.reduceBEq, Nat.reduceLeDiff, reduceIte, Nat.reduceEqDiff, Int.reduceEq, Int.reduceLE, Int.reduceLT, Int.reduceNe, Nat.reduceMul, Nat.reduceSub, Int.reduceToNat, he, g0, g1, g2, nilA, hp', setD_some, List.set_set, z1, hB, hS, hS', hx.setPos.one, hx.month.one, hx.monthDay.one, hx.yearDay.one, hx.weekNo.one, hx.day.one, hx.hour.one, hx.minute.one, hx.second.one, hx.easter.one]
  refine callX_of ix (List.prefix_refl _) ?_
  simp only [go_sem, Nat.reduceLT, Nat.reduceBEq, Nat.reduceAdd, Int.reduceBEq, Nat.reduceLeDiff, reduceIte, Nat.reduceEqDiff, Int.reduceEq, Int.reduceLE, Int.reduceLT, Int.reduceNe, Nat.reduceMul, Nat.reduceSub, Int.reduceToNat, he, g0, g1, g2, nilA, hp', setD_some, List.set_set, z1, hB, hS, hS', hx.setPos.one, hx.month.one, hx.monthDay.one, hx.yearDay.one, hx.weekNo.one, hx.day.one, hx.hour.one, hx.minute.one, hx.second.one, hx.easter.one, d0, conv_int (P := Tryz.prog) (s := 3) (d := 5) Tryz.underlying3 Tryz.underlying5, u0]
  have hx2 := (hx.more [AObj.own 9 (freqs.map vS)]).putT (hB' _) (by decide) (by decide) (.own 25 (ruCells { q with freq := f } x))
  refine ⟨rfl, x, _, hA _ _, ?_⟩
  try rw [← hA]
  exact ⟨hx2.setPos, hx2.month, hx2.monthDay, hx2.yearDay, hx2.weekNo, hx2.day, hx2.hour, hx2.minute, hx2.second, hx2.easter⟩
theorem part_UNTIL {w0 : World} (v : List UInt8) (hl : v.length ≤ 100000) (t : Int) (ht : InY t) (hvt : v = dateText t) (H : Heap) (p : Nat) (q : Ru) (x : Rs) (hp : H[p]? = some (.own 25 (ruCells q x))) (hx : RuW H q x) :
    ACalls Tryz.prog (CB w0) 40 [.ptr p 0, vS [85, 78, 84, 73, 76], vS v] H (PartR H p { q with til := t, hasUntil := true }) := by
  refine A_fun (N := 187) (rs := [.tmp 6]) Tryz.func40 rfl rfl rfl (by kernel_rfl) (by kernel_rfl) (Nat.le_of_ble_eq_true rfl) ?_
  rintro e he ⟨g0, g1, g2, -⟩
  have hlt := (List.getElem?_eq_some_iff.1 hp).1
  have hB : ∀ G, (H ++ G)[p]? = some (.own 25 (ruCells q x)) := fun G => get_more hp
  have hS : ∀ (G : Heap) (y : AObj), ((H ++ G).set p y)[p]? = some y := fun G y => List.getElem?_set_self (by rw [List.length_append]; omega)
  have hA : ∀ (G : Heap) (y : AObj), (H ++ G).set p y = H.set p y ++ G := fun G y => List.set_append_left _ _ hlt
  have hp' := hp
  have hB' := hB
  have hS' : ∀ (y : AObj), (H.set p y)[p]? = some y := fun y => List.getElem?_set_self hlt
  unfold ruCells at hB hp'
  have z1 : decide (([85, 78, 84, 73, 76] : List UInt8) = [70, 82, 69, 81]) = false := rfl
  have z2 : decide (([85, 78, 84, 73, 76] : List UInt8) = [85, 78, 84, 73, 76]) = true := rfl
  subst hvt
  have rd := fun G => readDate_A (w0 := w0) t ht G
  generalize dateText t = v at *
  simp only [go_sem, Nat.reduceLT, Nat.reduceBEq, Nat.reduceAdd, Int.reduceBEq, Nat.reduceLeDiff, reduceIte, Nat.reduceEqDiff, Int.reduceEq, Int.reduceLE, Int.reduceLT, Int.reduceNe, Nat.reduceMul, Nat.reduceSub, Int.reduceToNat, he, g0, g1, g2, nilA, hp', setD_some, List.set_set, z1, z2]
  refine callX_of (rd _) (List.prefix_refl _) ?_
  simp only [go_sem, Nat.reduceLT, Nat.reduceBEq, Nat.reduceAdd, Int.reduceBEq, Nat.reduceLeDiff, reduceIte, Nat.reduceEqDiff, Int.reduceEq, Int.reduceLE, Int.reduceLT, Int.reduceNe, Nat.reduceMul, Nat.reduceSub, Int.reduceToNat, he, g0, g1, g2, nilA, hp', setD_some, List.set_set, z1, z2, hB, hS, hS', hx.setPos.one, hx.month.one, hx.monthDay.one, hx.yearDay.one, hx.weekNo.one, hx.day.one, hx.hour.one, hx.minute.one, hx.second.one, hx.easter.one]
  have hx2 := hx.putT hp (by decide) (by decide) (.own 25 (ruCells { q with til := t, hasUntil := true } x))
  refine ⟨rfl, x, [], (List.append_nil _).symm, ?_⟩
  try rw [List.append_nil]
  exact ⟨hx2.setPos, hx2.month, hx2.monthDay, hx2.yearDay, hx2.weekNo, hx2.day, hx2.hour, hx2.minute, hx2.second, hx2.easter⟩
theorem part_COUNT {w0 : World} (v : List UInt8) (hl : v.length ≤ 100000) (n : Int) (hn : numOf v = some n) (hn0 : 0 < n) (H : Heap) (p : Nat) (q : Ru) (x : Rs) (hp : H[p]? = some (.own 25 (ruCells q x))) (hx : RuW H q x) :
    ACalls Tryz.prog (CB w0) 40 [.ptr p 0, vS [67, 79, 85, 78, 84], vS v] H (PartR H p { q with count := n }) := by
  refine A_fun (N := 187) (rs := [.tmp 6]) Tryz.func40 rfl rfl rfl (by kernel_rfl) (by kernel_rfl) (Nat.le_of_ble_eq_true rfl) ?_
  rintro e he ⟨g0, g1, g2, -⟩
  have hlt := (List.getElem?_eq_some_iff.1 hp).1
  have hB : ∀ G, (H ++ G)[p]? = some (.own 25 (ruCells q x)) := fun G => get_more hp
  have hS : ∀ (G : Heap) (y : AObj), ((H ++ G).set p y)[p]? = some y := fun G y => List.getElem?_set_self (by rw [List.length_append]; omega)
  have hA : ∀ (G : Heap) (y : AObj), (H ++ G).set p y = H.set p y ++ G := fun G y => List.set_append_left _ _ hlt
  have hp' := hp
  have hB' := hB
  have hS' : ∀ (y : AObj), (H.set p y)[p]? = some y := fun y => List.getElem?_set_self hlt
  unfold ruCells at hB hp'
  have z1 : decide (([67, 79, 85, 78, 84] : List UInt8) = [70, 82, 69, 81]) = false := rfl
  have z2 : decide (([67, 79, 85, 78, 84] : List UInt8) = [85, 78, 84, 73, 76]) = false := rfl
  have z3 : decide (([67, 79, 85, 78, 84] : List UInt8) = [67, 79, 85, 78, 84]) = true := rfl
  have d0 : decide (0 < n) = true := decide_eq_true hn0
  simp only [go_sem, Nat.reduceLT, Nat.reduceBEq, Nat.reduceAdd, Int.reduceBEq, Nat.reduceLeDiff, reduceIte, Nat.reduceEqDiff, Int.reduceEq, Int.reduceLE, Int.reduceLT, Int.reduceNe, Nat.reduceMul, Nat.reduceSub, Int.reduceToNat, he, g0, g1, g2, nilA, hp', setD_some, List.set_set, z1, z2, z3]
  refine callX_of (number_A v n hn _) (List.prefix_refl _) ?_
  simp only [go_sem, Nat.reduceLT, Nat.reduceBEq, Nat.reduceAdd, Int.reduceBEq, Nat.reduceLeDiff, reduceIte, Nat.reduceEqDiff, Int.reduceEq, Int.reduceLE, Int.reduceLT, Int.reduceNe, Nat.reduceMul, Nat.reduceSub, Int.reduceToNat, he, g0, g1, g2, nilA, hp', setD_some, List.set_set, z1, z2, z3, hB, hS, hS', hx.setPos.one, hx.month.one, hx.monthDay.one, hx.yearDay.one, hx.weekNo.one, hx.day.one, hx.hour.one, hx.minute.one, hx.second.one, hx.easter.one, d0]
  have hx2 := hx.putT hp (by decide) (by decide) (.own 25 (ruCells { q with count := n } x))
  refine ⟨rfl, x, [], (List.append_nil _).symm, ?_⟩
  try rw [List.append_nil]
  exact ⟨hx2.setPos, hx2.month, hx2.monthDay, hx2.yearDay, hx2.weekNo, hx2.day, hx2.hour, hx2.minute, hx2.second, hx2.easter⟩
theorem part_INTERVAL {w0 : World} (v : List UInt8) (hl : v.length ≤ 100000) (n : Int) (hn : numOf v = some n) (hn0 : 0 < n) (H : Heap) (p : Nat) (q : Ru) (x : Rs) (hp : H[p]? = some (.own 25 (ruCells q x))) (hx : RuW H q x) :
    ACalls Tryz.prog (CB w0) 40 [.ptr p 0, vS [73, 78, 84, 69, 82, 86, 65, 76], vS v] H (PartR H p { q with interval := n }) := by
  refine A_fun (N := 187) (rs := [.tmp 6]) Tryz.func40 rfl rfl rfl (by kernel_rfl) (by kernel_rfl) (Nat.le_of_ble_eq_true rfl) ?_
  rintro e he ⟨g0, g1, g2, -⟩
  have hlt := (List.getElem?_eq_some_iff.1 hp).1
  have hB : ∀ G, (H ++ G)[p]? = some (.own 25 (ruCells q x)) := fun G => get_more hp
  have hS : ∀ (G : Heap) (y : AObj), ((H ++ G).set p y)[p]? = some y := fun G y => List.getElem?_set_self (by rw [List.length_append]; omega)
  have hA : ∀ (G : Heap) (y : AObj), (H ++ G).set p y = H.set p y ++ G := fun G y => List.set_append_left _ _ hlt
  have hp' := hp
  have hB' := hB
  have hS' : ∀ (y : AObj), (H.set p y)[p]? = some y := fun y => List.getElem?_set_self hlt
  unfold ruCells at hB hp'
  have z1 : decide (([73, 78, 84, 69, 82, 86, 65, 76] : List UInt8) = [70, 82, 69, 81]) = false := rfl
  have z2 : decide (([73, 78, 84, 69, 82, 86, 65, 76] : List UInt8) = [85, 78, 84, 73, 76]) = false := rfl
  have z3 : decide (([73, 78, 84, 69, 82, 86, 65, 76] : List UInt8) = [67, 79, 85, 78, 84]) = false := rfl
  have z4 : decide (([73, 78, 84, 69, 82, 86, 65, 76] : List UInt8) = [73, 78, 84, 69, 82, 86, 65, 76]) = true := rfl
  have d0 : decide (0 < n) = true := decide_eq_true hn0
  simp only [go_sem, Nat.reduceLT, Nat.reduceBEq, Nat.reduceAdd, Int.reduceBEq, Nat.reduceLeDiff, reduceIte, Nat.reduceEqDiff, Int.reduceEq, Int.reduceLE, Int.reduceLT, Int.reduceNe, Nat.reduceMul, Nat.reduceSub, Int.reduceToNat, he, g0, g1, g2, nilA, hp', setD_some, List.set_set, z1, z2, z3, z4]
  refine callX_of (number_A v n hn _) (List.prefix_refl _) ?_
  simp only [go_sem, Nat.reduceLT, Nat.reduceBEq, Nat.reduceAdd, Int.reduceBEq, Nat.reduceLeDiff, reduceIte, Nat.reduceEqDiff, Int.reduceEq, Int.reduceLE, Int.reduceLT, Int.reduceNe, Nat.reduceMul, Nat.reduceSub, Int.reduceToNat, he, g0, g1, g2, nilA, hp', setD_some, List.set_set, z1, z2, z3, z4, hB, hS, hS', hx.setPos.one, hx.month.one, hx.monthDay.one, hx.yearDay.one, hx.weekNo.one, hx.day.one, hx.hour.one, hx.minute.one, hx.second.one, hx.easter.one, d0]
  have hx2 := hx.putT hp (by decide) (by decide) (.own 25 (ruCells { q with interval := n } x))
  refine ⟨rfl, x, [], (List.append_nil _).symm, ?_⟩
  try rw [List.append_nil]
  exact ⟨hx2.setPos, hx2.month, hx2.monthDay, hx2.yearDay, hx2.weekNo, hx2.day, hx2.hour, hx2.minute, hx2.second, hx2.easter⟩
theorem part_WKST {w0 : World} (v : List UInt8) (hl : v.length ≤ 100000) (w : Int) (hw : ixS wdays v = w) (hw0 : 0 ≤ w) (H : Heap) (p : Nat) (q : Ru) (x : Rs) (hp : H[p]? = some (.own 25 (ruCells q x))) (hx : RuW H q x) :
    ACalls Tryz.prog (CB w0) 40 [.ptr p 0, vS [87, 75, 83, 84], vS v] H (PartR H p { q with wkst := w }) := by
  refine A_fun (N := 187) (rs := [.tmp 6]) Tryz.func40 rfl rfl rfl (by kernel_rfl) (by kernel_rfl) (Nat.le_of_ble_eq_true rfl) ?_
  rintro e he ⟨g0, g1, g2, -⟩
  have hlt := (List.getElem?_eq_some_iff.1 hp).1
  have hB : ∀ G, (H ++ G)[p]? = some (.own 25 (ruCells q x)) := fun G => get_more hp
  have hS : ∀ (G : Heap) (y : AObj), ((H ++ G).set p y)[p]? = some y := fun G y => List.getElem?_set_self (by rw [List.length_append]; omega)
  have hA : ∀ (G : Heap) (y : AObj), (H ++ G).set p y = H.set p y ++ G := fun G y => List.set_append_left _ _ hlt
  have hp' := hp
  have hB' := hB
  have hS' : ∀ (y : AObj), (H.set p y)[p]? = some y := fun y => List.getElem?_set_self hlt
  unfold ruCells at hB hp'
  have z1 : decide (([87, 75, 83, 84] : List UInt8) = [70, 82, 69, 81]) = false := rfl
  have z2 : decide (([87, 75, 83, 84] : List UInt8) = [85, 78, 84, 73, 76]) = false := rfl
  have z3 : decide (([87, 75, 83, 84] : List UInt8) = [67, 79, 85, 78, 84]) = false := rfl
  have z4 : decide (([87, 75, 83, 84] : List UInt8) = [73, 78, 84, 69, 82, 86, 65, 76]) = false := rfl
  have z5 : decide (([87, 75, 83, 84] : List UInt8) = [87, 75, 83, 84]) = true := rfl
  have d0 : decide (0 ≤ w) = true := decide_eq_true hw0
  have ix := indexS_A (w0 := w0) wdays (by decide) v H.length (H ++ [AObj.own 9 (wdays.map vS)]) heap_get0
  rw [show wdays.length = 7 from rfl, hw] at ix
  simp only [go_sem, Nat.reduceLT, Nat.reduceBEq, Nat.reduceAdd, Int.reduceBEq, Nat.reduceLeDiff, reduceIte, Nat.reduceEqDiff, Int.reduceEq, Int.reduceLE, Int.reduceLT, Int.reduceNe, Nat.reduceMul, Nat.reduceSub, Int.reduceToNat, he, g0, g1, g2, nilA, hp', setD_some, List.set_set, z1, z2, z3, z4, z5]
  refine callX_of (weekdays_A _) (List.prefix_append _ _) ?_
  simp only [go_sem, Nat.reduceLT, Nat.reduceBEq, Nat.reduceAdd, Int.reduceBEq, Nat.reduceLeDiff, reduceIte, Nat.reduceEqDiff, Int.reduceEq, Int.reduceLE, Int.reduceLT, Int.reduceNe, Nat.reduceMul, Nat.reduceSub, Int.reduceToNat, he, g0, g1, g2, nilA, hp', setD_some, List.set_set, z1, z2, z3, z4, z5, hB, hS, hS', hx.setPos.one, hx.month.one, hx.monthDay.one, hx.yearDay.one, hx.weekNo.one, hx.day.one, hx.hour.one, hx.minute.one, hx.second.one, hx.easter.one]
  refine callX_of ix (List.prefix_refl _) ?_
  simp only [go_sem, Nat.reduceLT, Nat.reduceBEq, Nat.reduceAdd, Int.reduceBEq, Nat.reduceLeDiff, reduceIte, Nat.reduceEqDiff, Int.reduceEq, Int.reduceLE, Int.reduceLT, Int.reduceNe, Nat.reduceMul, Nat.reduceSub, Int.reduceToNat, he, g0, g1, g2, nilA, hp', setD_some, List.set_set, z1, z2, z3, z4, z5, hB, hS, hS', hx.setPos.one, hx.month.one, hx.monthDay.one, hx.yearDay.one, hx.weekNo.one, hx.day.one, hx.hour.one, hx.minute.one, hx.second.one, hx.easter.one, d0]
  have hx2 := (hx.more [AObj.own 9 (wdays.map vS)]).putT (hB' _) (by decide) (by decide) (.own 25 (ruCells { q with wkst := w } x))
  refine ⟨rfl, x, _, hA _ _, ?_⟩
  try rw [← hA]
  exact ⟨hx2.setPos, hx2.month, hx2.monthDay, hx2.yearDay, hx2.weekNo, hx2.day, hx2.hour, hx2.minute, hx2.second, hx2.easter⟩
theorem part_BYDAY {w0 : World} (v : List UInt8) (hl : v.length ≤ 100000) (vs : List (Int × Int)) (hv : (split 44 v).map swd = vs.map some) (H : Heap) (p : Nat) (q : Ru) (x : Rs) (hp : H[p]? = some (.own 25 (ruCells q x))) (hx : RuW H q x) :
    ACalls Tryz.prog (CB w0) 40 [.ptr p 0, vS [66, 89, 68, 65, 89], vS v] H (PartR H p { q with day := vs }) := by
  refine A_fun (N := 187) (rs := [.tmp 6]) Tryz.func40 rfl rfl rfl (by kernel_rfl) (by kernel_rfl) (Nat.le_of_ble_eq_true rfl) ?_
  rintro e he ⟨g0, g1, g2, -⟩
  have hlt := (List.getElem?_eq_some_iff.1 hp).1
  have hB : ∀ G, (H ++ G)[p]? = some (.own 25 (ruCells q x)) := fun G => get_more hp
  have hS : ∀ (G : Heap) (y : AObj), ((H ++ G).set p y)[p]? = some y := fun G y => List.getElem?_set_self (by rw [List.length_append]; omega)
  have hA : ∀ (G : Heap) (y : AObj), (H ++ G).set p y = H.set p y ++ G := fun G y => List.set_append_left _ _ hlt
  have hp' := hp
  have hB' := hB
  have hS' : ∀ (y : AObj), (H.set p y)[p]? = some y := fun y => List.getElem?_set_self hlt
  unfold ruCells at hB hp'
  have z1 : decide (([66, 89, 68, 65, 89] : List UInt8) = [70, 82, 69, 81]) = false := rfl
  have z2 : decide (([66, 89, 68, 65, 89] : List UInt8) = [85, 78, 84, 73, 76]) = false := rfl
  have z3 : decide (([66, 89, 68, 65, 89] : List UInt8) = [67, 79, 85, 78, 84]) = false := rfl
  have z4 : decide (([66, 89, 68, 65, 89] : List UInt8) = [73, 78, 84, 69, 82, 86, 65, 76]) = false := rfl
  have z5 : decide (([66, 89, 68, 65, 89] : List UInt8) = [87, 75, 83, 84]) = false := rfl
  have z6 : decide (([66, 89, 68, 65, 89] : List UInt8) = [66, 89, 68, 65, 89]) = true := rfl
  simp only [go_sem, Nat.reduceLT, Nat.reduceBEq, Nat.reduceAdd, Int.reduceBEq, Nat.reduceLeDiff, reduceIte, Nat.reduceEqDiff, Int.reduceEq, Int.reduceLE, Int.reduceLT, Int.reduceNe, Nat.reduceMul, Nat.reduceSub, Int.reduceToNat, he, g0, g1, g2, nilA, hp', setD_some, List.set_set, z1, z2, z3, z4, z5, z6]
  refine callX_any (sweekdays_A v hl vs hv _) ?_
  rintro r h ⟨a, rfl, hO⟩
  have a1 := hO.one
  have a2 := hO.ownD
  obtain ⟨G, rfl⟩ := hO.1
  simp only [go_sem, Nat.reduceLT, Nat.reduceBEq, Nat.reduceAdd, Int.reduceBEq, Nat.reduceLeDiff, reduceIte, Nat.reduceEqDiff, Int.reduceEq, Int.reduceLE, Int.reduceLT, Int.reduceNe, Nat.reduceMul, Nat.reduceSub, Int.reduceToNat, he, g0, g1, g2, nilA, hp', setD_some, List.set_set, z1, z2, z3, z4, z5, z6, hB, hS, hS', hx.setPos.one, hx.month.one, hx.monthDay.one, hx.yearDay.one, hx.weekNo.one, hx.day.one, hx.hour.one, hx.minute.one, hx.second.one, hx.easter.one, a1, avCells_one a1]
  have hx2 := (hx.more G).putT (hB' G) (by decide) (by decide) (.own 25 (ruCells { q with day := vs } { x with day := a }))
  refine ⟨rfl, { x with day := a }, G, hA _ _, ?_⟩
  try rw [← hA]
  exact ⟨hx2.setPos, hx2.month, hx2.monthDay, hx2.yearDay, hx2.weekNo, a2.putT (hB' G) (by decide) _, hx2.hour, hx2.minute, hx2.second, hx2.easter⟩
theorem part_BYSECOND {w0 : World} (v : List UInt8) (hl : v.length ≤ 100000) (vs : List Int) (hv : (split 44 v).map numOf = vs.map some) (H : Heap) (p : Nat) (q : Ru) (x : Rs) (hp : H[p]? = some (.own 25 (ruCells q x))) (hx : RuW H q x) :
    ACalls Tryz.prog (CB w0) 40 [.ptr p 0, vS [66, 89, 83, 69, 67, 79, 78, 68], vS v] H (PartR H p { q with second := vs }) := by
  refine A_fun (N := 187) (rs := [.tmp 6]) Tryz.func40 rfl rfl rfl (by kernel_rfl) (by kernel_rfl) (Nat.le_of_ble_eq_true rfl) ?_
  rintro e he ⟨g0, g1, g2, -⟩
  have hlt := (List.getElem?_eq_some_iff.1 hp).1
  have hB : ∀ G, (H ++ G)[p]? = some (.own 25 (ruCells q x)) := fun G => get_more hp
  have hS : ∀ (G : Heap) (y : AObj), ((H ++ G).set p y)[p]? = some y := fun G y => List.getElem?_set_self (by rw [List.length_append]; omega)
  have hA : ∀ (G : Heap) (y : AObj), (H ++ G).set p y = H.set p y ++ G := fun G y => List.set_append_left _ _ hlt
  have hp' := hp
  have hB' := hB
  have hS' : ∀ (y : AObj), (H.set p y)[p]? = some y := fun y => List.getElem?_set_self hlt
  unfold ruCells at hB hp'
  have z1 : decide (([66, 89, 83, 69, 67, 79, 78, 68] : List UInt8) = [70, 82, 69, 81]) = false := rfl
  have z2 : decide (([66, 89, 83, 69, 67, 79, 78, 68] : List UInt8) = [85, 78, 84, 73, 76]) = false := rfl
  have z3 : decide (([66, 89, 83, 69, 67, 79, 78, 68] : List UInt8) = [67, 79, 85, 78, 84]) = false := rfl
  have z4 : decide (([66, 89, 83, 69, 67, 79, 78, 68] : List UInt8) = [73, 78, 84, 69, 82, 86, 65, 76]) = false := rfl
  have z5 : decide (([66, 89, 83, 69, 67, 79, 78, 68] : List UInt8) = [87, 75, 83, 84]) = false := rfl
  have z6 : decide (([66, 89, 83, 69, 67, 79, 78, 68] : List UInt8) = [66, 89, 68, 65, 89]) = false := rfl
  have z7 : decide (([66, 89, 83, 69, 67, 79, 78, 68] : List UInt8) = [66, 89, 83, 69, 67, 79, 78, 68]) = true := rfl
  simp only [go_sem, Nat.reduceLT, Nat.reduceBEq, Nat.reduceAdd, Int.reduceBEq, Nat.reduceLeDiff, reduceIte, Nat.reduceEqDiff, Int.reduceEq, Int.reduceLE, Int.reduceLT, Int.reduceNe, Nat.reduceMul, Nat.reduceSub, Int.reduceToNat, he, g0, g1, g2, nilA, hp', setD_some, List.set_set, z1, z2, z3, z4, z5, z6, z7]
  refine callX_any (numbers_A v hl vs hv _) ?_
  rintro r h ⟨a, rfl, hO⟩
  have a1 := hO.one
  have a2 := hO.own
  obtain ⟨G, rfl⟩ := hO.1
  simp only [go_sem, Nat.reduceLT, Nat.reduceBEq, Nat.reduceAdd, Int.reduceBEq, Nat.reduceLeDiff, reduceIte, Nat.reduceEqDiff, Int.reduceEq, Int.reduceLE, Int.reduceLT, Int.reduceNe, Nat.reduceMul, Nat.reduceSub, Int.reduceToNat, he, g0, g1, g2, nilA, hp', setD_some, List.set_set, z1, z2, z3, z4, z5, z6, z7, hB, hS, hS', hx.setPos.one, hx.month.one, hx.monthDay.one, hx.yearDay.one, hx.weekNo.one, hx.day.one, hx.hour.one, hx.minute.one, hx.second.one, hx.easter.one, a1, avCells_one a1]
  have hx2 := (hx.more G).putT (hB' G) (by decide) (by decide) (.own 25 (ruCells { q with second := vs } { x with second := a }))
  refine ⟨rfl, { x with second := a }, G, hA _ _, ?_⟩
  try rw [← hA]
  exact ⟨hx2.setPos, hx2.month, hx2.monthDay, hx2.yearDay, hx2.weekNo, hx2.day, hx2.hour, hx2.minute, a2.putT (hB' G) (by decide) _, hx2.easter⟩
theorem part_BYMINUTE {w0 : World} (v : List UInt8) (hl : v.length ≤ 100000) (vs : List Int) (hv : (split 44 v).map numOf = vs.map some) (H : Heap) (p : Nat) (q : Ru) (x : Rs) (hp : H[p]? = some (.own 25 (ruCells q x))) (hx : RuW H q x) :
    ACalls Tryz.prog (CB w0) 40 [.ptr p 0, vS [66, 89, 77, 73, 78, 85, 84, 69], vS v] H (PartR H p { q with minute := vs }) := by
  refine A_fun (N := 187) (rs := [.tmp 6]) Tryz.func40 rfl rfl rfl (by kernel_rfl) (by kernel_rfl) (Nat.le_of_ble_eq_true rfl) ?_
  rintro e he ⟨g0, g1, g2, -⟩
  have hlt := (List.getElem?_eq_some_iff.1 hp).1
  have hB : ∀ G, (H ++ G)[p]? = some (.own 25 (ruCells q x)) := fun G => get_more hp
  have hS : ∀ (G : Heap) (y : AObj), ((H ++ G).set p y)[p]? = some y := fun G y => List.getElem?_set_self (by rw [List.length_append]; omega)
  have hA : ∀ (G : Heap) (y : AObj), (H ++ G).set p y = H.set p y ++ G := fun G y => List.set_append_left _ _ hlt
  have hp' := hp
  have hB' := hB
  have hS' : ∀ (y : AObj), (H.set p y)[p]? = some y := fun y => List.getElem?_set_self hlt
  unfold ruCells at hB hp'
  have z1 : decide (([66, 89, 77, 73, 78, 85, 84, 69] : List UInt8) = [70, 82, 69, 81]) = false := rfl
  have z2 : decide (([66, 89, 77, 73, 78, 85, 84, 69] : List UInt8) = [85, 78, 84, 73, 76]) = false := rfl
  have z3 : decide (([66, 89, 77, 73, 78, 85, 84, 69] : List UInt8) = [67, 79, 85, 78, 84]) = false := rfl
  have z4 : decide (([66, 89, 77, 73, 78, 85, 84, 69] : List UInt8) = [73, 78, 84, 69, 82, 86, 65, 76]) = false := rfl
  have z5 : decide (([66, 89, 77, 73, 78, 85, 84, 69] : List UInt8) = [87, 75, 83, 84]) = false := rfl
  have z6 : decide (([66, 89, 77, 73, 78, 85, 84, 69] : List UInt8) = [66, 89, 68, 65, 89]) = false := rfl
  have z7 : decide (([66, 89, 77, 73, 78, 85, 84, 69] : List UInt8) = [66, 89, 83, 69, 67, 79, 78, 68]) = false := rfl
  have z8 : decide (([66, 89, 77, 73, 78, 85, 84, 69] : List UInt8) = [66, 89, 77, 73, 78, 85, 84, 69]) = true := rfl
  simp only [go_sem, Nat.reduceLT, Nat.reduceBEq, Nat.reduceAdd, Int.reduceBEq, Nat.reduceLeDiff, reduceIte, Nat.reduceEqDiff, Int.reduceEq, Int.reduceLE, Int.reduceLT, Int.reduceNe, Nat.reduceMul, Nat.reduceSub, Int.reduceToNat, he, g0, g1, g2, nilA, hp', setD_some, List.set_set, z1, z2, z3, z4, z5, z6, z7, z8]
  refine callX_any (numbers_A v hl vs hv _) ?_
  rintro r h ⟨a, rfl, hO⟩
  have a1 := hO.one
  have a2 := hO.own
  obtain ⟨G, rfl⟩ := hO.1
  simp only [go_sem, Nat.reduceLT, Nat.reduceBEq, Nat.reduceAdd, Int.reduceBEq, Nat.reduceLeDiff, reduceIte, Nat.reduceEqDiff, Int.reduceEq, Int.reduceLE, Int.reduceLT, Int.reduceNe, Nat.reduceMul, Nat.reduceSub, Int.reduceToNat, he, g0, g1, g2, nilA, hp', setD_some, List.set_set, z1, z2, z3, z4, z5, z6, z7, z8, hB, hS, hS', hx.setPos.one, hx.month.one, hx.monthDay.one, hx.yearDay.one, hx.weekNo.one, hx.day.one, hx.hour.one, hx.minute.one, hx.second.one, hx.easter.one, a1, avCells_one a1]
  have hx2 := (hx.more G).putT (hB' G) (by decide) (by decide) (.own 25 (ruCells { q with minute := vs } { x with minute := a }))
  refine ⟨rfl, { x with minute := a }, G, hA _ _, ?_⟩
  try rw [← hA]
  exact ⟨hx2.setPos, hx2.month, hx2.monthDay, hx2.yearDay, hx2.weekNo, hx2.day, hx2.hour, a2.putT (hB' G) (by decide) _, hx2.second, hx2.easter⟩
theorem part_BYHOUR {w0 : World} (v : List UInt8) (hl : v.length ≤ 100000) (vs : List Int) (hv : (split 44 v).map numOf = vs.map some) (H : Heap) (p : Nat) (q : Ru) (x : Rs) (hp : H[p]? = some (.own 25 (ruCells q x))) (hx : RuW H q x) :
    ACalls Tryz.prog (CB w0) 40 [.ptr p 0, vS [66, 89, 72, 79, 85, 82], vS v] H (PartR H p { q with hour := vs }) := by
  refine A_fun (N := 187) (rs := [.tmp 6]) Tryz.func40 rfl rfl rfl (by kernel_rfl) (by kernel_rfl) (Nat.le_of_ble_eq_true rfl) ?_
  rintro e he ⟨g0, g1, g2, -⟩
  have hlt := (List.getElem?_eq_some_iff.1 hp).1
  have hB : ∀ G, (H ++ G)[p]? = some (.own 25 (ruCells q x)) := fun G => get_more hp
  have hS : ∀ (G : Heap) (y : AObj), ((H ++ G).set p y)[p]? = some y := fun G y => List.getElem?_set_self (by rw [List.length_append]; omega)
  have hA : ∀ (G : Heap) (y : AObj), (H ++ G).set p y = H.set p y ++ G := fun G y => List.set_append_left _ _ hlt
  have hp' := hp
  have hB' := hB
  have hS' : ∀ (y : AObj), (H.set p y)[p]? = some y := fun y => List.getElem?_set_self hlt
  unfold ruCells at hB hp'
  have z1 : decide (([66, 89, 72, 79, 85, 82] : List UInt8) = [70, 82, 69, 81]) = false := rfl
  have z2 : decide (([66, 89, 72, 79, 85, 82] : List UInt8) = [85, 78, 84, 73, 76]) = false := rfl
  have z3 : decide (([66, 89, 72, 79, 85, 82] : List UInt8) = [67, 79, 85, 78, 84]) = false := rfl
  have z4 : decide (([66, 89, 72, 79, 85, 82] : List UInt8) = [73, 78, 84, 69, 82, 86, 65, 76]) = false := rfl
  have z5 : decide (([66, 89, 72, 79, 85, 82] : List UInt8) = [87, 75, 83, 84]) = false := rfl
  have z6 : decide (([66, 89, 72, 79, 85, 82] : List UInt8) = [66, 89, 68, 65, 89]) = false := rfl
  have z7 : decide (([66, 89, 72, 79, 85, 82] : List UInt8) = [66, 89, 83, 69, 67, 79, 78, 68]) = false := rfl
  have z8 : decide (([66, 89, 72, 79, 85, 82] : List UInt8) = [66, 89, 77, 73, 78, 85, 84, 69]) = false := rfl
  have z9 : decide (([66, 89, 72, 79, 85, 82] : List UInt8) = [66, 89, 72, 79, 85, 82]) = true := rfl
  simp only [go_sem, Nat.reduceLT, Nat.reduceBEq, Nat.reduceAdd, Int.reduceBEq, Nat.reduceLeDiff, reduceIte, Nat.reduceEqDiff, Int.reduceEq, Int.reduceLE, Int.reduceLT, Int.reduceNe, Nat.reduceMul, Nat.reduceSub, Int.reduceToNat, he, g0, g1, g2, nilA, hp', setD_some, List.set_set, z1, z2, z3, z4, z5, z6, z7, z8, z9]
  refine callX_any (numbers_A v hl vs hv _) ?_
  rintro r h ⟨a, rfl, hO⟩
  have a1 := hO.one
  have a2 := hO.own
  obtain ⟨G, rfl⟩ := hO.1
  simp only [go_sem, Nat.reduceLT, Nat.reduceBEq, Nat.reduceAdd, Int.reduceBEq, Nat.reduceLeDiff, reduceIte, Nat.reduceEqDiff, Int.reduceEq, Int.reduceLE, Int.reduceLT, Int.reduceNe, Nat.reduceMul, Nat.reduceSub, Int.reduceToNat, he, g0, g1, g2, nilA, hp', setD_some, List.set_set, z1, z2, z3, z4, z5, z6, z7, z8, z9, hB, hS, hS', hx.setPos.one, hx.month.one, hx.monthDay.one, hx.yearDay.one, hx.weekNo.one, hx.day.one, hx.hour.one, hx.minute.one, hx.second.one, hx.easter.one, a1, avCells_one a1]
  have hx2 := (hx.more G).putT (hB' G) (by decide) (by decide) (.own 25 (ruCells { q with hour := vs } { x with hour := a }))
  refine ⟨rfl, { x with hour := a }, G, hA _ _, ?_⟩
  try rw [← hA]
  exact ⟨hx2.setPos, hx2.month, hx2.monthDay, hx2.yearDay, hx2.weekNo, hx2.day, a2.putT (hB' G) (by decide) _, hx2.minute, hx2.second, hx2.easter⟩
theorem part_BYMONTHDAY {w0 : World} (v : List UInt8) (hl : v.length ≤ 100000) (vs : List Int) (hv : (split 44 v).map numOf = vs.map some) (H : Heap) (p : Nat) (q : Ru) (x : Rs) (hp : H[p]? = some (.own 25 (ruCells q x))) (hx : RuW H q x) :
    ACalls Tryz.prog (CB w0) 40 [.ptr p 0, vS [66, 89, 77, 79, 78, 84, 72, 68, 65, 89], vS v] H (PartR H p { q with monthDay := vs }) := by
  refine A_fun (N := 187) (rs := [.tmp 6]) Tryz.func40 rfl rfl rfl (by kernel_rfl) (by kernel_rfl) (Nat.le_of_ble_eq_true rfl) ?_
  rintro e he ⟨g0, g1, g2, -⟩
  have hlt := (List.getElem?_eq_some_iff.1 hp).1
  have hB : ∀ G, (H ++ G)[p]? = some (.own 25 (ruCells q x)) := fun G => get_more hp
  have hS : ∀ (G : Heap) (y : AObj), ((H ++ G).set p y)[p]? = some y := fun G y => List.getElem?_set_self (by rw [List.length_append]; omega)
  have hA : ∀ (G : Heap) (y : AObj), (H ++ G).set p y = H.set p y ++ G := fun G y => List.set_append_left _ _ hlt
  have hp' := hp
  have hB' := hB
  have hS' : ∀ (y : AObj), (H.set p y)[p]? = some y := fun y => List.getElem?_set_self hlt
  unfold ruCells at hB hp'
  have z1 : decide (([66, 89, 77, 79, 78, 84, 72, 68, 65, 89] : List UInt8) = [70, 82, 69, 81]) = false := rfl
  have z2 : decide (([66, 89, 77, 79, 78, 84, 72, 68, 65, 89] : List UInt8) = [85, 78, 84, 73, 76]) = false := rfl
  have z3 : decide (([66, 89, 77, 79, 78, 84, 72, 68, 65, 89] : List UInt8) = [67, 79, 85, 78, 84]) = false := rfl
  have z4 : decide (([66, 89, 77, 79, 78, 84, 72, 68, 65, 89] : List UInt8) = [73, 78, 84, 69, 82, 86, 65, 76]) = false := rfl
  have z5 : decide (([66, 89, 77, 79, 78, 84, 72, 68, 65, 89] : List UInt8) = [87, 75, 83, 84]) = false := rfl
  have z6 : decide (([66, 89, 77, 79, 78, 84, 72, 68, 65, 89] : List UInt8) = [66, 89, 68, 65, 89]) = false := rfl
  have z7 : decide (([66, 89, 77, 79, 78, 84, 72, 68, 65, 89] : List UInt8) = [66, 89, 83, 69, 67, 79, 78, 68]) = false := rfl
  have z8 : decide (([66, 89, 77, 79, 78, 84, 72, 68, 65, 89] : List UInt8) = [66, 89, 77, 73, 78, 85, 84, 69]) = false := rfl
  have z9 : decide (([66, 89, 77, 79, 78, 84, 72, 68, 65, 89] : List UInt8) = [66, 89, 72, 79, 85, 82]) = false := rfl
  have z10 : decide (([66, 89, 77, 79, 78, 84, 72, 68, 65, 89] : List UInt8) = [66, 89, 77, 79, 78, 84, 72, 68, 65, 89]) = true := rfl
  simp only [go_sem, Nat.reduceLT, Nat.reduceBEq, Nat.reduceAdd, Int.reduceBEq, Nat.reduceLeDiff, reduceIte, Nat.reduceEqDiff, Int.reduceEq, Int.reduceLE, Int.reduceLT, Int.reduceNe, Nat.reduceMul, Nat.reduceSub, Int.reduceToNat, he, g0, g1, g2, nilA, hp', setD_some, List.set_set, z1, z2, z3, z4, z5, z6, z7, z8, z9, z10]
  refine callX_any (numbers_A v hl vs hv _) ?_
  rintro r h ⟨a, rfl, hO⟩
  have a1 := hO.one
  have a2 := hO.own
  obtain ⟨G, rfl⟩ := hO.1
  simp only [go_sem, Nat.reduceLT, Nat.reduceBEq, Nat.reduceAdd, Int.reduceBEq, Nat.reduceLeDiff, reduceIte, Nat.reduceEqDiff, Int.reduceEq, Int.reduceLE, Int.reduceLT, Int.reduceNe, Nat.reduceMul, Nat.reduceSub, Int.reduceToNat, he, g0, g1, g2, nilA, hp', setD_some, List.set_set, z1, z2, z3, z4, z5, z6, z7, z8, z9, z10, hB, hS, hS', hx.setPos.one, hx.month.one, hx.monthDay.one, hx.yearDay.one, hx.weekNo.one, hx.day.one, hx.hour.one, hx.minute.one, hx.second.one, hx.easter.one, a1, avCells_one a1]
  have hx2 := (hx.more G).putT (hB' G) (by decide) (by decide) (.own 25 (ruCells { q with monthDay := vs } { x with monthDay := a }))
  refine ⟨rfl, { x with monthDay := a }, G, hA _ _, ?_⟩
  try rw [← hA]
  exact ⟨hx2.setPos, hx2.month, a2.putT (hB' G) (by decide) _, hx2.yearDay, hx2.weekNo, hx2.day, hx2.hour, hx2.minute, hx2.second, hx2.easter⟩
theorem part_BYYEARDAY {w0 : World} (v : List UInt8) (hl : v.length ≤ 100000) (vs : List Int) (hv : (split 44 v).map numOf = vs.map some) (H : Heap) (p : Nat) (q : Ru) (x : Rs) (hp : H[p]? = some (.own 25 (ruCells q x))) (hx : RuW H q x) :
    ACalls Tryz.prog (CB w0) 40 [.ptr p 0, vS [66, 89, 89, 69, 65, 82, 68, 65, 89], vS v] H (PartR H p { q with yearDay := vs }) := by
  refine A_fun (N := 187) (rs := [.tmp 6]) Tryz.func40 rfl rfl rfl (by kernel_rfl) (by kernel_rfl) (Nat.le_of_ble_eq_true rfl) ?_
  rintro e he ⟨g0, g1, g2, -⟩
  have hlt := (List.getElem?_eq_some_iff.1 hp).1
  have hB : ∀ G, (H ++ G)[p]? = some (.own 25 (ruCells q x)) := fun G => get_more hp
  have hS : ∀ (G : Heap) (y : AObj), ((H ++ G).set p y)[p]? = some y := fun G y => List.getElem?_set_self (by rw [List.length_append]; omega)
  have hA : ∀ (G : Heap) (y : AObj), (H ++ G).set p y = H.set p y ++ G := fun G y => List.set_append_left _ _ hlt
  have hp' := hp
  have hB' := hB
  have hS' : ∀ (y : AObj), (H.set p y)[p]? = some y := fun y => List.getElem?_set_self hlt
  unfold ruCells at hB hp'
  have z1 : decide (([66, 89, 89, 69, 65, 82, 68, 65, 89] : List UInt8) = [70, 82, 69, 81]) = false := rfl
  have z2 : decide (([66, 89, 89, 69, 65, 82, 68, 65, 89] : List UInt8) = [85, 78, 84, 73, 76]) = false := rfl
  have z3 : decide (([66, 89, 89, 69, 65, 82, 68, 65, 89] : List UInt8) = [67, 79, 85, 78, 84]) = false := rfl
  have z4 : decide (([66, 89, 89, 69, 65, 82, 68, 65, 89] : List UInt8) = [73, 78, 84, 69, 82, 86, 65, 76]) = false := rfl
  have z5 : decide (([66, 89, 89, 69, 65, 82, 68, 65, 89] : List UInt8) = [87, 75, 83, 84]) = false := rfl
  have z6 : decide (([66, 89, 89, 69, 65, 82, 68, 65, 89] : List UInt8) = [66, 89, 68, 65, 89]) = false := rfl
  have z7 : decide (([66, 89, 89, 69, 65, 82, 68, 65, 89] : List UInt8) = [66, 89, 83, 69, 67, 79, 78, 68]) = false := rfl
  have z8 : decide (([66, 89, 89, 69, 65, 82, 68, 65, 89] : List UInt8) = [66, 89, 77, 73, 78, 85, 84, 69]) = false := rfl
  have z9 : decide (([66, 89, 89, 69, 65, 82, 68, 65, 89] : List UInt8) = [66, 89, 72, 79, 85, 82]) = false := rfl
  have z10 : decide (([66, 89, 89, 69, 65, 82, 68, 65, 89] : List UInt8) = [66, 89, 77, 79, 78, 84, 72, 68, 65, 89]) = false := rfl
  have z11 : decide (([66, 89, 89, 69, 65, 82, 68, 65, 89] : List UInt8) = [66, 89, 89, 69, 65, 82, 68, 65, 89]) = true := rfl
  simp only [go_sem, Nat.reduceLT, Nat.reduceBEq, Nat.reduceAdd, Int.reduceBEq, Nat.reduceLeDiff, reduceIte, Nat.reduceEqDiff, Int.reduceEq, Int.reduceLE, Int.reduceLT, Int.reduceNe, Nat.reduceMul, Nat.reduceSub, Int.reduceToNat, he, g0, g1, g2, nilA, hp', setD_some, List.set_set, z1, z2, z3, z4, z5, z6, z7, z8, z9, z10, z11]
  refine callX_any (numbers_A v hl vs hv _) ?_
  rintro r h ⟨a, rfl, hO⟩
  have a1 := hO.one
  have a2 := hO.own
  obtain ⟨G, rfl⟩ := hO.1
  simp only [go_sem, Nat.reduceLT, Nat.reduceBEq, Nat.reduceAdd, Int.reduceBEq, Nat.reduceLeDiff, reduceIte, Nat.reduceEqDiff, Int.reduceEq, Int.reduceLE, Int.reduceLT, Int.reduceNe, Nat.reduceMul, Nat.reduceSub, Int.reduceToNat, he, g0, g1, g2, nilA, hp', setD_some, List.set_set, z1, z2, z3, z4, z5, z6, z7, z8, z9, z10, z11, hB, hS, hS', hx.setPos.one, hx.month.one, hx.monthDay.one, hx.yearDay.one, hx.weekNo.one, hx.day.one, hx.hour.one, hx.minute.one, hx.second.one, hx.easter.one, a1, avCells_one a1]
  have hx2 := (hx.more G).putT (hB' G) (by decide) (by decide) (.own 25 (ruCells { q with yearDay := vs } { x with yearDay := a }))
  refine ⟨rfl, { x with yearDay := a }, G, hA _ _, ?_⟩
  try rw [← hA]
  exact ⟨hx2.setPos, hx2.month, hx2.monthDay, a2.putT (hB' G) (by decide) _, hx2.weekNo, hx2.day, hx2.hour, hx2.minute, hx2.second, hx2.easter⟩
theorem part_BYWEEKNO {w0 : World} (v : List UInt8) (hl : v.length ≤ 100000) (vs : List Int) (hv : (split 44 v).map numOf = vs.map some) (H : Heap) (p : Nat) (q : Ru) (x : Rs) (hp : H[p]? = some (.own 25 (ruCells q x))) (hx : RuW H q x) :
    ACalls Tryz.prog (CB w0) 40 [.ptr p 0, vS [66, 89, 87, 69, 69, 75, 78, 79], vS v] H (PartR H p { q with weekNo := vs }) := by
  refine A_fun (N := 187) (rs := [.tmp 6]) Tryz.func40 rfl rfl rfl (by kernel_rfl) (by kernel_rfl) (Nat.le_of_ble_eq_true rfl) ?_
  rintro e he ⟨g0, g1, g2, -⟩
  have hlt := (List.getElem?_eq_some_iff.1 hp).1
  have hB : ∀ G, (H ++ G)[p]? = some (.own 25 (ruCells q x)) := fun G => get_more hp
  have hS : ∀ (G : Heap) (y : AObj), ((H ++ G).set p y)[p]? = some y := fun G y => List.getElem?_set_self (by rw [List.length_append]; omega)
  have hA : ∀ (G : Heap) (y : AObj), (H ++ G).set p y = H.set p y ++ G := fun G y => List.set_append_left _ _ hlt
  have hp' := hp
  have hB' := hB
  have hS' : ∀ (y : AObj), (H.set p y)[p]? = some y := fun y => List.getElem?_set_self hlt
  unfold ruCells at hB hp'
  have z1 : decide (([66, 89, 87, 69, 69, 75, 78, 79] : List UInt8) = [70, 82, 69, 81]) = false := rfl
  have z2 : decide (([66, 89, 87, 69, 69, 75, 78, 79] : List UInt8) = [85, 78, 84, 73, 76]) = false := rfl
  have z3 : decide (([66, 89, 87, 69, 69, 75, 78, 79] : List UInt8) = [67, 79, 85, 78, 84]) = false := rfl
  have z4 : decide (([66, 89, 87, 69, 69, 75, 78, 79] : List UInt8) = [73, 78, 84, 69, 82, 86, 65, 76]) = false := rfl
  have z5 : decide (([66, 89, 87, 69, 69, 75, 78, 79] : List UInt8) = [87, 75, 83, 84]) = false := rfl
  have z6 : decide (([66, 89, 87, 69, 69, 75, 78, 79] : List UInt8) = [66, 89, 68, 65, 89]) = false := rfl
  have z7 : decide (([66, 89, 87, 69, 69, 75, 78, 79] : List UInt8) = [66, 89, 83, 69, 67, 79, 78, 68]) = false := rfl
  have z8 : decide (([66, 89, 87, 69, 69, 75, 78, 79] : List UInt8) = [66, 89, 77, 73, 78, 85, 84, 69]) = false := rfl
  have z9 : decide (([66, 89, 87, 69, 69, 75, 78, 79] : List UInt8) = [66, 89, 72, 79, 85, 82]) = false := rfl
  have z10 : decide (([66, 89, 87, 69, 69, 75, 78, 79] : List UInt8) = [66, 89, 77, 79, 78, 84, 72, 68, 65, 89]) = false := rfl
  have z11 : decide (([66, 89, 87, 69, 69, 75, 78, 79] : List UInt8) = [66, 89, 89, 69, 65, 82, 68, 65, 89]) = false := rfl
  have z12 : decide (([66, 89, 87, 69, 69, 75, 78, 79] : List UInt8) = [66, 89, 87, 69, 69, 75, 78, 79]) = true := rfl
  simp only [go_sem, Nat.reduceLT, Nat.reduceBEq, Nat.reduceAdd, Int.reduceBEq, Nat.reduceLeDiff, reduceIte, Nat.reduceEqDiff, Int.reduceEq, Int.reduceLE, Int.reduceLT, Int.reduceNe, Nat.reduceMul, Nat.reduceSub, Int.reduceToNat, he, g0, g1, g2, nilA, hp', setD_some, List.set_set, z1, z2, z3, z4, z5, z6, z7, z8, z9, z10, z11, z12]
  refine callX_any (numbers_A v hl vs hv _) ?_
  rintro r h ⟨a, rfl, hO⟩
  have a1 := hO.one
  have a2 := hO.own
  obtain ⟨G, rfl⟩ := hO.1
  simp only [go_sem, Nat.reduceLT, Nat.reduceBEq, Nat.reduceAdd, Int.reduceBEq, Nat.reduceLeDiff, reduceIte, Nat.reduceEqDiff, Int.reduceEq, Int.reduceLE, Int.reduceLT, Int.reduceNe, Nat.reduceMul, Nat.reduceSub, Int.reduceToNat, he, g0, g1, g2, nilA, hp', setD_some, List.set_set, z1, z2, z3, z4, z5, z6, z7, z8, z9, z10, z11, z12, hB, hS, hS', hx.setPos.one, hx.month.one, hx.monthDay.one, hx.yearDay.one, hx.weekNo.one, hx.day.one, hx.hour.one, hx.minute.one, hx.second.one, hx.easter.one, a1, avCells_one a1]
  have hx2 := (hx.more G).putT (hB' G) (by decide) (by decide) (.own 25 (ruCells { q with weekNo := vs } { x with weekNo := a }))
  refine ⟨rfl, { x with weekNo := a }, G, hA _ _, ?_⟩
  try rw [← hA]
  exact ⟨hx2.setPos, hx2.month, hx2.monthDay, hx2.yearDay, a2.putT (hB' G) (by decide) _, hx2.day, hx2.hour, hx2.minute, hx2.second, hx2.easter⟩
theorem part_BYMONTH {w0 : World} (v : List UInt8) (hl : v.length ≤ 100000) (vs : List Int) (hv : (split 44 v).map numOf = vs.map some) (H : Heap) (p : Nat) (q : Ru) (x : Rs) (hp : H[p]? = some (.own 25 (ruCells q x))) (hx : RuW H q x) :
    ACalls Tryz.prog (CB w0) 40 [.ptr p 0, vS [66, 89, 77, 79, 78, 84, 72], vS v] H (PartR H p { q with month := vs }) := by
  refine A_fun (N := 187) (rs := [.tmp 6]) Tryz.func40 rfl rfl rfl (by kernel_rfl) (by kernel_rfl) (Nat.le_of_ble_eq_true rfl) ?_
  rintro e he ⟨g0, g1, g2, -⟩
  have hlt := (List.getElem?_eq_some_iff.1 hp).1
  have hB : ∀ G, (H ++ G)[p]? = some (.own 25 (ruCells q x)) := fun G => get_more hp
  have hS : ∀ (G : Heap) (y : AObj), ((H ++ G).set p y)[p]? = some y := fun G y => List.getElem?_set_self (by rw [List.length_append]; omega)
  have hA : ∀ (G : Heap) (y : AObj), (H ++ G).set p y = H.set p y ++ G := fun G y => List.set_append_left _ _ hlt
  have hp' := hp
  have hB' := hB
  have hS' : ∀ (y : AObj), (H.set p y)[p]? = some y := fun y => List.getElem?_set_self hlt
  unfold ruCells at hB hp'
  have z1 : decide (([66, 89, 77, 79, 78, 84, 72] : List UInt8) = [70, 82, 69, 81]) = false := rfl
  have z2 : decide (([66, 89, 77, 79, 78, 84, 72] : List UInt8) = [85, 78, 84, 73, 76]) = false := rfl
  have z3 : decide (([66, 89, 77, 79, 78, 84, 72] : List UInt8) = [67, 79, 85, 78, 84]) = false := rfl
  have z4 : decide (([66, 89, 77, 79, 78, 84, 72] : List UInt8) = [73, 78, 84, 69, 82, 86, 65, 76]) = false := rfl
  have z5 : decide (([66, 89, 77, 79, 78, 84, 72] : List UInt8) = [87, 75, 83, 84]) = false := rfl
  have z6 : decide (([66, 89, 77, 79, 78, 84, 72] : List UInt8) = [66, 89, 68, 65, 89]) = false := rfl
  have z7 : decide (([66, 89, 77, 79, 78, 84, 72] : List UInt8) = [66, 89, 83, 69, 67, 79, 78, 68]) = false := rfl
  have z8 : decide (([66, 89, 77, 79, 78, 84, 72] : List UInt8) = [66, 89, 77, 73, 78, 85, 84, 69]) = false := rfl
  have z9 : decide (([66, 89, 77, 79, 78, 84, 72] : List UInt8) = [66, 89, 72, 79, 85, 82]) = false := rfl
  have z10 : decide (([66, 89, 77, 79, 78, 84, 72] : List UInt8) = [66, 89, 77, 79, 78, 84, 72, 68, 65, 89]) = false := rfl
  have z11 : decide (([66, 89, 77, 79, 78, 84, 72] : List UInt8) = [66, 89, 89, 69, 65, 82, 68, 65, 89]) = false := rfl
  have z12 : decide (([66, 89, 77, 79, 78, 84, 72] : List UInt8) = [66, 89, 87, 69, 69, 75, 78, 79]) = false := rfl
  have z13 : decide (([66, 89, 77, 79, 78, 84, 72] : List UInt8) = [66, 89, 77, 79, 78, 84, 72]) = true := rfl
  simp only [go_sem, Nat.reduceLT, Nat.reduceBEq, Nat.reduceAdd, Int.reduceBEq, Nat.reduceLeDiff, reduceIte, Nat.reduceEqDiff, Int.reduceEq, Int.reduceLE, Int.reduceLT, Int.reduceNe, Nat.reduceMul, Nat.reduceSub, Int.reduceToNat, he, g0, g1, g2, nilA, hp', setD_some, List.set_set, z1, z2, z3, z4, z5, z6, z7, z8, z9, z10, z11, z12, z13]
  refine callX_any (numbers_A v hl vs hv _) ?_
  rintro r h ⟨a, rfl, hO⟩
  have a1 := hO.one
  have a2 := hO.own
  obtain ⟨G, rfl⟩ := hO.1
  simp only [go_sem, Nat.reduceLT, Nat.reduceBEq, Nat.reduceAdd, Int.reduceBEq, Nat.reduceLeDiff, reduceIte, Nat.reduceEqDiff, Int.reduceEq, Int.reduceLE, Int.reduceLT, Int.reduceNe, Nat.reduceMul, Nat.reduceSub, Int.reduceToNat, he, g0, g1, g2, nilA, hp', setD_some, List.set_set, z1, z2, z3, z4, z5, z6, z7, z8, z9, z10, z11, z12, z13, hB, hS, hS', hx.setPos.one, hx.month.one, hx.monthDay.one, hx.yearDay.one, hx.weekNo.one, hx.day.one, hx.hour.one, hx.minute.one, hx.second.one, hx.easter.one, a1, avCells_one a1]
  have hx2 := (hx.more G).putT (hB' G) (by decide) (by decide) (.own 25 (ruCells { q with month := vs } { x with month := a }))
  refine ⟨rfl, { x with month := a }, G, hA _ _, ?_⟩
  try rw [← hA]
  exact ⟨hx2.setPos, a2.putT (hB' G) (by decide) _, hx2.monthDay, hx2.yearDay, hx2.weekNo, hx2.day, hx2.hour, hx2.minute, hx2.second, hx2.easter⟩
theorem part_BYSETPOS {w0 : World} (v : List UInt8) (hl : v.length ≤ 100000) (vs : List Int) (hv : (split 44 v).map numOf = vs.map some) (H : Heap) (p : Nat) (q : Ru) (x : Rs) (hp : H[p]? = some (.own 25 (ruCells q x))) (hx : RuW H q x) :
    ACalls Tryz.prog (CB w0) 40 [.ptr p 0, vS [66, 89, 83, 69, 84, 80, 79, 83], vS v] H (PartR H p { q with setPos := vs }) := by
  refine A_fun (N := 187) (rs := [.tmp 6]) Tryz.func40 rfl rfl rfl (by kernel_rfl) (by kernel_rfl) (Nat.le_of_ble_eq_true rfl) ?_
  rintro e he ⟨g0, g1, g2, -⟩
  have hlt := (List.getElem?_eq_some_iff.1 hp).1
  have hB : ∀ G, (H ++ G)[p]? = some (.own 25 (ruCells q x)) := fun G => get_more hp
  have hS : ∀ (G : Heap) (y : AObj), ((H ++ G).set p y)[p]? = some y := fun G y => List.getElem?_set_self (by rw [List.length_append]; omega)
  have hA : ∀ (G : Heap) (y : AObj), (H ++ G).set p y = H.set p y ++ G := fun G y => List.set_append_left _ _ hlt
  have hp' := hp
  have hB' := hB
  have hS' : ∀ (y : AObj), (H.set p y)[p]? = some y := fun y => List.getElem?_set_self hlt
  unfold ruCells at hB hp'
  have z1 : decide (([66, 89, 83, 69, 84, 80, 79, 83] : List UInt8) = [70, 82, 69, 81]) = false := rfl
  have z2 : decide (([66, 89, 83, 69, 84, 80, 79, 83] : List UInt8) = [85, 78, 84, 73, 76]) = false := rfl
  have z3 : decide (([66, 89, 83, 69, 84, 80, 79, 83] : List UInt8) = [67, 79, 85, 78, 84]) = false := rfl
  have z4 : decide (([66, 89, 83, 69, 84, 80, 79, 83] : List UInt8) = [73, 78, 84, 69, 82, 86, 65, 76]) = false := rfl
  have z5 : decide (([66, 89, 83, 69, 84, 80, 79, 83] : List UInt8) = [87, 75, 83, 84]) = false := rfl
  have z6 : decide (([66, 89, 83, 69, 84, 80, 79, 83] : List UInt8) = [66, 89, 68, 65, 89]) = false := rfl
  have z7 : decide (([66, 89, 83, 69, 84, 80, 79, 83] : List UInt8) = [66, 89, 83, 69, 67, 79, 78, 68]) = false := rfl
  have z8 : decide (([66, 89, 83, 69, 84, 80, 79, 83] : List UInt8) = [66, 89, 77, 73, 78, 85, 84, 69]) = false := rfl
  have z9 : decide (([66, 89, 83, 69, 84, 80, 79, 83] : List UInt8) = [66, 89, 72, 79, 85, 82]) = false := rfl
  have z10 : decide (([66, 89, 83, 69, 84, 80, 79, 83] : List UInt8) = [66, 89, 77, 79, 78, 84, 72, 68, 65, 89]) = false := rfl
  have z11 : decide (([66, 89, 83, 69, 84, 80, 79, 83] : List UInt8) = [66, 89, 89, 69, 65, 82, 68, 65, 89]) = false := rfl
  have z12 : decide (([66, 89, 83, 69, 84, 80, 79, 83] : List UInt8) = [66, 89, 87, 69, 69, 75, 78, 79]) = false := rfl
  have z13 : decide (([66, 89, 83, 69, 84, 80, 79, 83] : List UInt8) = [66, 89, 77, 79, 78, 84, 72]) = false := rfl
  have z14 : decide (([66, 89, 83, 69, 84, 80, 79, 83] : List UInt8) = [66, 89, 83, 69, 84, 80, 79, 83]) = true := rfl
  simp only [go_sem, Nat.reduceLT, Nat.reduceBEq, Nat.reduceAdd, Int.reduceBEq, Nat.reduceLeDiff, reduceIte, Nat.reduceEqDiff, Int.reduceEq, Int.reduceLE, Int.reduceLT, Int.reduceNe, Nat.reduceMul, Nat.reduceSub, Int.reduceToNat, he, g0, g1, g2, nilA, hp', setD_some, List.set_set, z1, z2, z3, z4, z5, z6, z7, z8, z9, z10, z11, z12, z13, z14]
  refine callX_any (numbers_A v hl vs hv _) ?_
  rintro r h ⟨a, rfl, hO⟩
  have a1 := hO.one
  have a2 := hO.own
  obtain ⟨G, rfl⟩ := hO.1
  simp only [go_sem, Nat.reduceLT, Nat.reduceBEq, Nat.reduceAdd, Int.reduceBEq, Nat.reduceLeDiff, reduceIte, Nat.reduceEqDiff, Int.reduceEq, Int.reduceLE, Int.reduceLT, Int.reduceNe, Nat.reduceMul, Nat.reduceSub, Int.reduceToNat, he, g0, g1, g2, nilA, hp', setD_some, List.set_set, z1, z2, z3, z4, z5, z6, z7, z8, z9, z10, z11, z12, z13, z14, hB, hS, hS', hx.setPos.one, hx.month.one, hx.monthDay.one, hx.yearDay.one, hx.weekNo.one, hx.day.one, hx.hour.one, hx.minute.one, hx.second.one, hx.easter.one, a1, avCells_one a1]
  have hx2 := (hx.more G).putT (hB' G) (by decide) (by decide) (.own 25 (ruCells { q with setPos := vs } { x with setPos := a }))
  refine ⟨rfl, { x with setPos := a }, G, hA _ _, ?_⟩
  try rw [← hA]
  exact ⟨a2.putT (hB' G) (by decide) _, hx2.month, hx2.monthDay, hx2.yearDay, hx2.weekNo, hx2.day, hx2.hour, hx2.minute, hx2.second, hx2.easter⟩
theorem part_BYEASTER {w0 : World} (v : List UInt8) (hl : v.length ≤ 100000) (vs : List Int) (hv : (split 44 v).map numOf = vs.map some) (H : Heap) (p : Nat) (q : Ru) (x : Rs) (hp : H[p]? = some (.own 25 (ruCells q x))) (hx : RuW H q x) :
    ACalls Tryz.prog (CB w0) 40 [.ptr p 0, vS [66, 89, 69, 65, 83, 84, 69, 82], vS v] H (PartR H p { q with easter := vs }) := by
  refine A_fun (N := 187) (rs := [.tmp 6]) Tryz.func40 rfl rfl rfl (by kernel_rfl) (by kernel_rfl) (Nat.le_of_ble_eq_true rfl) ?_
  rintro e he ⟨g0, g1, g2, -⟩
  have hlt := (List.getElem?_eq_some_iff.1 hp).1
  have hB : ∀ G, (H ++ G)[p]? = some (.own 25 (ruCells q x)) := fun G => get_more hp
  have hS : ∀ (G : Heap) (y : AObj), ((H ++ G).set p y)[p]? = some y := fun G y => List.getElem?_set_self (by rw [List.length_append]; omega)
  have hA : ∀ (G : Heap) (y : AObj), (H ++ G).set p y = H.set p y ++ G := fun G y => List.set_append_left _ _ hlt
  have hp' := hp
  have hB' := hB
  have hS' : ∀ (y : AObj), (H.set p y)[p]? = some y := fun y => List.getElem?_set_self hlt
  unfold ruCells at hB hp'
  have z1 : decide (([66, 89, 69, 65, 83, 84, 69, 82] : List UInt8) = [70, 82, 69, 81]) = false := rfl
  have z2 : decide (([66, 89, 69, 65, 83, 84, 69, 82] : List UInt8) = [85, 78, 84, 73, 76]) = false := rfl
  have z3 : decide (([66, 89, 69, 65, 83, 84, 69, 82] : List UInt8) = [67, 79, 85, 78, 84]) = false := rfl
  have z4 : decide (([66, 89, 69, 65, 83, 84, 69, 82] : List UInt8) = [73, 78, 84, 69, 82, 86, 65, 76]) = false := rfl
  have z5 : decide (([66, 89, 69, 65, 83, 84, 69, 82] : List UInt8) = [87, 75, 83, 84]) = false := rfl
  have z6 : decide (([66, 89, 69, 65, 83, 84, 69, 82] : List UInt8) = [66, 89, 68, 65, 89]) = false := rfl
  have z7 : decide (([66, 89, 69, 65, 83, 84, 69, 82] : List UInt8) = [66, 89, 83, 69, 67, 79, 78, 68]) = false := rfl
  have z8 : decide (([66, 89, 69, 65, 83, 84, 69, 82] : List UInt8) = [66, 89, 77, 73, 78, 85, 84, 69]) = false := rfl
  have z9 : decide (([66, 89, 69, 65, 83, 84, 69, 82] : List UInt8) = [66, 89, 72, 79, 85, 82]) = false := rfl
  have z10 : decide (([66, 89, 69, 65, 83, 84, 69, 82] : List UInt8) = [66, 89, 77, 79, 78, 84, 72, 68, 65, 89]) = false := rfl
  have z11 : decide (([66, 89, 69, 65, 83, 84, 69, 82] : List UInt8) = [66, 89, 89, 69, 65, 82, 68, 65, 89]) = false := rfl
  have z12 : decide (([66, 89, 69, 65, 83, 84, 69, 82] : List UInt8) = [66, 89, 87, 69, 69, 75, 78, 79]) = false := rfl
  have z13 : decide (([66, 89, 69, 65, 83, 84, 69, 82] : List UInt8) = [66, 89, 77, 79, 78, 84, 72]) = false := rfl
  have z14 : decide (([66, 89, 69, 65, 83, 84, 69, 82] : List UInt8) = [66, 89, 83, 69, 84, 80, 79, 83]) = false := rfl
  have z15 : decide (([66, 89, 69, 65, 83, 84, 69, 82] : List UInt8) = [66, 89, 69, 65, 83, 84, 69, 82]) = true := rfl
  simp only [go_sem, Nat.reduceLT, Nat.reduceBEq, Nat.reduceAdd, Int.reduceBEq, Nat.reduceLeDiff, reduceIte, Nat.reduceEqDiff, Int.reduceEq, Int.reduceLE, Int.reduceLT, Int.reduceNe, Nat.reduceMul, Nat.reduceSub, Int.reduceToNat, he, g0, g1, g2, nilA, hp', setD_some, List.set_set, z1, z2, z3, z4, z5, z6, z7, z8, z9, z10, z11, z12, z13, z14, z15]
  refine callX_any (numbers_A v hl vs hv _) ?_
  rintro r h ⟨a, rfl, hO⟩
  have a1 := hO.one
  have a2 := hO.own
  obtain ⟨G, rfl⟩ := hO.1
  simp only [go_sem, Nat.reduceLT, Nat.reduceBEq, Nat.reduceAdd, Int.reduceBEq, Nat.reduceLeDiff, reduceIte, Nat.reduceEqDiff, Int.reduceEq, Int.reduceLE, Int.reduceLT, Int.reduceNe, Nat.reduceMul, Nat.reduceSub, Int.reduceToNat, he, g0, g1, g2, nilA, hp', setD_some, List.set_set, z1, z2, z3, z4, z5, z6, z7, z8, z9, z10, z11, z12, z13, z14, z15, hB, hS, hS', hx.setPos.one, hx.month.one, hx.monthDay.one, hx.yearDay.one, hx.weekNo.one, hx.day.one, hx.hour.one, hx.minute.one, hx.second.one, hx.easter.one, a1, avCells_one a1]
  have hx2 := (hx.more G).putT (hB' G) (by decide) (by decide) (.own 25 (ruCells { q with easter := vs } { x with easter := a }))
  refine ⟨rfl, { x with easter := a }, G, hA _ _, ?_⟩
  try rw [← hA]
  exact ⟨hx2.setPos, hx2.month, hx2.monthDay, hx2.yearDay, hx2.weekNo, hx2.day, hx2.hour, hx2.minute, hx2.second, a2.putT (hB' G) (by decide) _⟩
end Go.Proofs.YtlfpjdcogkcjlaaGreatDoor.F
/- The specification's reading of a rule's text. -/
namespace Go.Proofs.YtlfpjdcogkcjlaaGreatDoor.F
open Go.RowKit Go.Proofs.YtlfpjdcogkcjlaaGreatDoor.AL Go.Proofs.YtlfpjdcogkcjlaaGreatDoor.B
set_option linter.unusedVariables false
set_option linter.unusedSimpArgs false
set_option maxRecDepth 20000
attribute [local irreducible] aops acode bindK bindV bindH callX callK condK guardK Kseq Kblk Knorm Kfun Kloop Kjoin outK AWp appendA Ktail
attribute [local go_sem] acode_skip acode_seq acode_region acode_cond acode_block acode_exit acode_ret acode_loop Kseq_normal Kseq_exit Kseq_ret Kblk_normal Kblk_ret Kblk_eq Kblk_ne Knorm_eq Kloop_normal Kloop_exit Kloop_ret Kjoin_normal Kjoin_exit Kjoin_ret condK_true condK_false bindK_put bindV_put bindK_no bindV_no bindH_no aops_nil gops wantK_some wantV_bool wantV_undef guardK_true guardK_false guardK_none aops_move aops_assign aops_pick aops_nilCheck aops_binOp aops_unOp aops_convert aops_fieldAddr aops_indexAddr aops_slice aops_index aops_extract aops_makeInterface aops_makeFunc aops_build aops_load aops_lookup aops_alloc aops_box aops_buildSlice aops_makeSlice aops_makeMap aops_store aops_insert aops_mapUpdate aops_len aops_append aops_call opA_tmp opA_const opA_global opA_func get_mk look_nil look_eq look_ne len_mk List.map_cons List.map_nil Option.map_some Option.map_none bin_add bin_sub bin_mul bin_quo bin_rem bin_eql bin_neq bin_lss bin_leq bin_gtr bin_geq bin_cat bin_seql bin_sneq bin_neq_ifc bin_eql_ifc bin_neq_nn bin_eql_nn bin_neq_ptr bin_eql_ptr bin_neq_pn isIfc_true isPtr_true bin_eql2 bin_neq2 aops_max max_int un_not un_neg lenA_K lenK_str lenK_nil lenK_sl lenK_array pick_bool pick_val bindV_ite bindK_ite bindH_ite slotV_sl slotK_some slotV_ptr slotR_some sliceV_sl cutK_some sliceV_str cutS_some bound_none bound_some indexA_str atS_some mkS fieldV_ptr loadV_ptr cellsK_ro cellsK_own loadK_one loadK_many storeA_ptr storeK_own allocA_some heap_len heap_get0 heap_get heap_set0 heap_set Kfun_ret Kfun_normal resA_nil resA_tmp resA_cell outK_some packA_one packA_nil packA_two List.length_cons List.length_nil List.getElem?_cons_zero List.getElem?_cons_succ List.set_cons_zero List.set_cons_succ List.cons_append List.nil_append List.append_assoc Nat.zero_add Nat.add_zero List.all_cons List.all_nil Value.oneCell' Bool.and_true Bool.and_self if_true if_false Bool.false_eq_true partsA buildV buildA fillA Option.bind_some putCells List.drop_succ_cons List.drop_zero List.take_succ_cons List.take_zero List.take_nil List.drop_nil and_self and_true true_and Option.some.injEq ne_eq not_false_eq_true Option.map_map List.getElem?_toArray beq_self_eq_true Bool.true_beq Bool.false_beq Bool.not_true Bool.not_false decide_true decide_false beq_true Nat.mul_one Nat.one_mul Nat.zero_mul bsA buildSliceA zerosN List.append_nil Int.toNat_natCast Int.toNat_zero boxA one_val one_ptr one_sl one_mp one_ifc one_fn avCells_agg avCells_val valCells_true valCells_agg avCells_ptr avCells_sl avCells_mp avCells_ifc avCells_fn app_cons app_nil lookupA insertA ifaceV extractA kd2 ars127 fp127 ars60 fp60 ars31 fp31 eq2_99 eq2_84 eq2_47 fp52 sz2 kd3 sz3 kd4 sz4 kd5 sz5 kd9 sz9 kd22 sz22 el22 kd23 sz23 el23 kd25 sz25 zc25 fp25 fo25_0 fo25_1 fo25_2 fo25_3 fo25_4 fo25_5 fo25_6 fo25_7 fo25_8 fo25_9 fo25_10 fo25_11 fo25_12 fo25_13 fo25_14 fo25_15 fo25_16 fo25_17 kd31 sz31 zc31 ar31 kd32 sz32 el32 kd34 sz34 zc34 fp34 fo34_0 fo34_1 fo34_2 fo34_3 fo34_4 fo34_5 fo34_6 fo34_7 fo34_8 fo34_9 fo34_10 fo34_11 fo34_12 fo34_13 fo34_14 fo34_15 fo34_16 fo34_17 el38 el42 kd47 sz47 zc47 fp47 fo47_0 fo47_1 kd52 sz52 zc52 fo52_0 el55 zc60 kd72 sz72 zc72 fp72 fo72_0 fo72_1 el73 kd80 sz80 kd84 sz84 zc84 fp84 fo84_0 fo84_1 kd88 sz88 zc88 fp88 fo88_0 fo88_1 fo88_2 fo88_3 kd91 sz91 zc91 fp91 fo91_0 fo91_1 fo91_2 el94 kd99 sz99 zc99 fp99 fo99_0 fo99_1 kd100 sz100 el100 kd102 sz102 zc102 fp102 fo102_0 fo102_1 fo102_2 fo102_3 fo102_4 fo102_5 fo102_6 fo102_7 fo102_8 fo102_9 fo102_10 fo102_11 fo102_12 fo102_13 fo102_14 fo102_15 kd109 sz109 zc109 fp109 isStrMap124 zv80 zc127 kd153 sz153 zc153 ar153 isIface157 kd159 sz159 zc159 fp159 isStrMap177 zv84 Tryz.underlying3 Tryz.underlying4 Tryz.underlying5 Tryz.underlying9 Tryz.underlying21 Tryz.underlying22 Tryz.underlying23 Tryz.underlying32 Tryz.underlying38 Tryz.underlying42 Tryz.underlying47 Tryz.underlying55 Tryz.underlying67 Tryz.underlying73 Tryz.underlying80 Tryz.underlying84 Tryz.underlying94 Tryz.underlying100 Tryz.underlying2 Tryz.underlying127 Tryz.underlying60 Tryz.underlying31 kd55 ai60 ai127 indexA_agg atK_some isStrMap76 zv4 Ktail_eq opsOf_nil opsOf_cons consO_some
/-- A part that can be read, and what it makes of a rule. -/
def SPut (q : Ru) (p : KV) (q' : Ru) : Prop :=
  (p.1 = [70, 82, 69, 81] ∧ ∃ f : Nat, ixS freqs p.2 = f ∧ f ≤ 6 ∧ q' = { q with freq := f }) ∨
  (p.1 = [85, 78, 84, 73, 76] ∧ ∃ t, InY t ∧ p.2 = dateText t ∧ q' = { q with til := t, hasUntil := true }) ∨
  (p.1 = [67, 79, 85, 78, 84] ∧ ∃ n, numOf p.2 = some n ∧ 0 < n ∧ q' = { q with count := n }) ∨
  (p.1 = [73, 78, 84, 69, 82, 86, 65, 76] ∧ ∃ n, numOf p.2 = some n ∧ 0 < n ∧ q' = { q with interval := n }) ∨
  (p.1 = [87, 75, 83, 84] ∧ ∃ w, ixS wdays p.2 = w ∧ 0 ≤ w ∧ q' = { q with wkst := w }) ∨
  (p.1 = [66, 89, 68, 65, 89] ∧ ∃ vs, (split 44 p.2).map swd = vs.map some ∧ q' = { q with day := vs }) ∨
  (p.1 = [66, 89, 83, 69, 67, 79, 78, 68] ∧ ∃ vs, (split 44 p.2).map numOf = vs.map some ∧ q' = { q with second := vs }) ∨
  (p.1 = [66, 89, 77, 73, 78, 85, 84, 69] ∧ ∃ vs, (split 44 p.2).map numOf = vs.map some ∧ q' = { q with minute := vs }) ∨
  (p.1 = [66, 89, 72, 79, 85, 82] ∧ ∃ vs, (split 44 p.2).map numOf = vs.map some ∧ q' = { q with hour := vs }) ∨
  (p.1 = [66, 89, 77, 79, 78, 84, 72, 68, 65, 89] ∧ ∃ vs, (split 44 p.2).map numOf = vs.map some ∧ q' = { q with monthDay := vs }) ∨
  (p.1 = [66, 89, 89, 69, 65, 82, 68, 65, 89] ∧ ∃ vs, (split 44 p.2).map numOf = vs.map some ∧ q' = { q with yearDay := vs }) ∨
  (p.1 = [66, 89, 87, 69, 69, 75, 78, 79] ∧ ∃ vs, (split 44 p.2).map numOf = vs.map some ∧ q' = { q with weekNo := vs }) ∨
  (p.1 = [66, 89, 77, 79, 78, 84, 72] ∧ ∃ vs, (split 44 p.2).map numOf = vs.map some ∧ q' = { q with month := vs }) ∨
  (p.1 = [66, 89, 83, 69, 84, 80, 79, 83] ∧ ∃ vs, (split 44 p.2).map numOf = vs.map some ∧ q' = { q with setPos := vs }) ∨
  (p.1 = [66, 89, 69, 65, 83, 84, 69, 82] ∧ ∃ vs, (split 44 p.2).map numOf = vs.map some ∧ q' = { q with easter := vs })
theorem part_A {w0 : World} (kv : KV) (hl : kv.2.length ≤ 100000) (q q' : Ru) (h : SPut q kv q') (H : Heap) (p : Nat) (x : Rs) (hp : H[p]? = some (.own 25 (ruCells q x))) (hx : RuW H q x) :
    ACalls Tryz.prog (CB w0) 40 [.ptr p 0, vS kv.1, vS kv.2] H (PartR H p q') := by
  obtain ⟨k, v⟩ := kv
  simp only [SPut] at h hl ⊢
  rcases h with ⟨rfl, f, h1, h2, rfl⟩ | ⟨rfl, t, h1, h2, rfl⟩ | ⟨rfl, n, h1, h2, rfl⟩ | ⟨rfl, n, h1, h2, rfl⟩ | ⟨rfl, w, h1, h2, rfl⟩ | ⟨rfl, vs, h1, rfl⟩ | ⟨rfl, vs, h1, rfl⟩ | ⟨rfl, vs, h1, rfl⟩ | ⟨rfl, vs, h1, rfl⟩ | ⟨rfl, vs, h1, rfl⟩ | ⟨rfl, vs, h1, rfl⟩ | ⟨rfl, vs, h1, rfl⟩ | ⟨rfl, vs, h1, rfl⟩ | ⟨rfl, vs, h1, rfl⟩ | ⟨rfl, vs, h1, rfl⟩
  · exact part_FREQ v hl f h1 h2 H p q x hp hx
  · exact part_UNTIL v hl t h1 h2 H p q x hp hx
  · exact part_COUNT v hl n h1 h2 H p q x hp hx
  · exact part_INTERVAL v hl n h1 h2 H p q x hp hx
  · exact part_WKST v hl w h1 h2 H p q x hp hx
  · exact part_BYDAY v hl vs h1 H p q x hp hx
  · exact part_BYSECOND v hl vs h1 H p q x hp hx
  · exact part_BYMINUTE v hl vs h1 H p q x hp hx
  · exact part_BYHOUR v hl vs h1 H p q x hp hx
  · exact part_BYMONTHDAY v hl vs h1 H p q x hp hx
  · exact part_BYYEARDAY v hl vs h1 H p q x hp hx
  · exact part_BYWEEKNO v hl vs h1 H p q x hp hx
  · exact part_BYMONTH v hl vs h1 H p q x hp hx
  · exact part_BYSETPOS v hl vs h1 H p q x hp hx
  · exact part_BYEASTER v hl vs h1 H p q x hp hx
/-- Parts one behind the other. -/
def SFold (q : Ru) : List KV → Ru → Prop
  | [], q' => q' = q
  | p :: L, q' => ∃ q1, SPut q p q1 ∧ SFold q1 L q'
/-- The names met. -/
def metL (ks : List (List UInt8)) : List (ByteArray × AV) := ks.map fun k => (S k, vB true)
theorem find_no {k : List UInt8} : ∀ {ks : List (List UInt8)}, k ∉ ks → findA (S k) (metL ks) = none
  | [], _ => rfl
  | a :: r, h => by
    show findA (S k) ((S a, vB true) :: metL r) = none
    rw [findA_cons, if_neg (fun e => h (by rw [e]; simp)), find_no fun hm => h (List.mem_cons_of_mem _ hm)]
theorem find_yes {k : List UInt8} : ∀ {ks : List (List UInt8)}, k ∈ ks → findA (S k) (metL ks) = some (vB true)
  | [], h => by cases h
  | a :: r, h => by
    show findA (S k) ((S a, vB true) :: metL r) = some (vB true)
    rw [findA_cons]
    split
    · rfl
    · rename_i hne
      rcases List.mem_cons.1 h with e | h
      · exact absurd e hne
      · exact find_yes h
def ruQ0 : Ru := ⟨0, false, 0, 1, 0, 0, false, 0, [], [], [], [], [], [], [], [], [], []⟩
def rsNil : Rs := ⟨vNil, vNil, vNil, vNil, vNil, vNil, vNil, vNil, vNil, vNil⟩
theorem RuW.nil (H : Heap) : RuW H ruQ0 rsNil := ⟨.inl ⟨rfl, rfl⟩, .inl ⟨rfl, rfl⟩, .inl ⟨rfl, rfl⟩, .inl ⟨rfl, rfl⟩, .inl ⟨rfl, rfl⟩, .inl ⟨rfl, rfl⟩, .inl ⟨rfl, rfl⟩, .inl ⟨rfl, rfl⟩, .inl ⟨rfl, rfl⟩, .inl ⟨rfl, rfl⟩⟩
theorem IntsOwn.same {h h' : Heap} {x : AV} {l : List Int} (hx : IntsOwn h x l) (hk : ∀ (p t : Nat) (cs : List AV), h[p]? = some (.own t cs) → (t = 3 ∨ t = 47) → h'[p]? = some (.own t cs)) : IntsOwn h' x l := by
  rcases hx with hx | ⟨q, h1, h2⟩
  · exact .inl hx
  · exact .inr ⟨q, h1, hk _ _ _ h2 (.inl rfl)⟩
theorem DaysO.same {h h' : Heap} {x : AV} {l : List (Int × Int)} (hx : DaysO 47 h x l) (hk : ∀ (p t : Nat) (cs : List AV), h[p]? = some (.own t cs) → (t = 3 ∨ t = 47) → h'[p]? = some (.own t cs)) : DaysO 47 h' x l := by
  rcases hx with hx | ⟨q, h1, h2⟩
  · exact .inl hx
  · exact .inr ⟨q, h1, hk _ _ _ h2 (.inr rfl)⟩
theorem RuW.same {h h' : Heap} {r : Ru} {x : Rs} (hx : RuW h r x) (hk : ∀ (p t : Nat) (cs : List AV), h[p]? = some (.own t cs) → (t = 3 ∨ t = 47) → h'[p]? = some (.own t cs)) : RuW h' r x :=
  ⟨hx.setPos.same hk, hx.month.same hk, hx.monthDay.same hk, hx.yearDay.same hk, hx.weekNo.same hk, hx.day.same hk, hx.hour.same hk, hx.minute.same hk, hx.second.same hk, hx.easter.same hk⟩
theorem read_A {w0 : World} (s : List UInt8) (hs : s.length ≤ 2000) (L : List KV) (hL : split 59 s = L.map kvT) (hkv : ∀ p ∈ L, split 61 (kvT p) = [p.1, p.2]) (hnd : (L.map (·.1)).Nodup) (hf : [70, 82, 69, 81] ∈ L.map (·.1)) (q' : Ru) (hq : SFold ruQ0 L q') (H : Heap) :
    ACalls Tryz.prog (CB w0) 19 [vS s] H fun r H' => (∃ x, r = .tup [.agg (ruCells q' x), vB true] ∧ RuW H' q' x) ∧ ∃ G, H' = H ++ G := by
  refine A_fun (N := 52) (rs := [.cell 2 25, .tmp 3]) Tryz.func19 rfl rfl rfl (by kernel_rfl) (by kernel_rfl) (Nat.le_of_ble_eq_true rfl) ?_
  rintro e he ⟨g0, -⟩
  have c2000 : decide ((2000 : Int) < (s.length : Int)) = false := decide_eq_false (by omega)
  simp only [go_sem, Nat.reduceLT, Nat.reduceBEq, Nat.reduceAdd, Int.reduceBEq, Nat.reduceLeDiff, reduceIte, Nat.reduceEqDiff, Int.reduceEq, Int.reduceLE, Int.reduceLT, Int.reduceNe, Nat.reduceMul, Nat.reduceSub, Int.reduceToNat, he, g0, c2000]
  refine callX_any (cut_A (w0 := w0) s 59 (by omega) _) ?_
  rintro r h ⟨⟨G, rfl⟩, o, rfl, ho, hol⟩
  rw [hL] at ho ⊢
  have hll : L.length = (L.map kvT).length := by simp
  have hsl := split_length 59 s
  have hsm : ∀ x ∈ L.map kvT, x.length ≤ s.length := fun x hx => split_mem (c := 59) (by rw [hL]; exact hx)
  rw [hL] at hsl
  have ho2 : H.length + 3 ≤ o := by simpa using hol
  simp only [go_sem, Nat.reduceLT, Nat.reduceBEq, Nat.reduceAdd, Int.reduceBEq, Nat.reduceLeDiff, reduceIte, Nat.reduceEqDiff, Int.reduceEq, Int.reduceLE, Int.reduceLT, Int.reduceNe, Nat.reduceMul, Nat.reduceSub, Int.reduceToNat, he, g0, setD_some]
  refine A_while L.length (fun k e h => ∃ (i : Nat) (q : Ru) (x : Rs) (z : List AV), i + k = L.length ∧ len e = 52 ∧ AL.get e 2 = .ptr H.length 0 ∧ AL.get e 4 = .ptr (H.length + 1) 0 ∧ AL.get e 5 = .mp (H.length + 2) ∧ AL.get e 16 = .sl true o 0 (L.map kvT).length 1 ∧ AL.get e 17 = vI (L.map kvT).length ∧ AL.get e 18 = vI i ∧
    (∃ G, h = H ++ G) ∧ h[H.length]? = some (.own 25 z) ∧ z.length = 18 ∧ h[H.length + 1]? = some (.own 25 (ruCells q x)) ∧ RuW h q x ∧ h[H.length + 2]? = some (.map (metL ((L.take i).map (·.1)))) ∧ h[o]? = some (.own 9 ((L.map kvT).map vS)) ∧ SFold q (L.drop i) q') (by kernel_rfl) ?_ ?_
  · simp only [go_sem, Nat.reduceLT, Nat.reduceBEq, Nat.reduceAdd, Int.reduceBEq, Nat.reduceLeDiff, reduceIte, Nat.reduceEqDiff, Int.reduceEq, Int.reduceLE, Int.reduceLT, Int.reduceNe, Nat.reduceMul, Nat.reduceSub, Int.reduceToNat, he, g0]
    refine ⟨0, ruQ0, rsNil, _, by omega, rfl, ⟨_, rfl⟩, rfl, rfl, rfl, RuW.nil _, ?_, ?_, hq⟩
    · rfl
    · simp only [List.append_assoc, List.cons_append, List.nil_append] at ho
      exact ho
  · rintro k e h ⟨i, q, x, z, hik, he, g2, g4, g5, g16, g17, g18, hGh, hz, hzl, hr, hW, hmp, ho, hq⟩
    have wi : IntKind.i64.wrap ((i : Int) + 1) = ((i + 1 : Nat) : Int) := by rw [wI64 (by omega)]; rfl
    simp only [go_sem, Nat.reduceLT, Nat.reduceBEq, Nat.reduceAdd, Int.reduceBEq, Nat.reduceLeDiff, reduceIte, Nat.reduceEqDiff, Int.reduceEq, Int.reduceLE, Int.reduceLT, Int.reduceNe, Nat.reduceMul, Nat.reduceSub, Int.reduceToNat, he, g2, g4, g5, g16, g17, g18]
    refine condK_of (fun hc => ?_) fun hc => ?_
    · have hc := of_decide_eq_true hc
      have hi : i < L.length := by omega
      have hLi : L[i]? = some L[i] := List.getElem?_eq_getElem hi
      have hdr : L.drop i = L[i] :: L.drop (i + 1) := List.drop_eq_getElem_cons hi
      generalize hpe : L[i] = pp at *
      rw [hdr] at hq
      obtain ⟨q1, hput, hq⟩ := hq
      have hpi : ((L.map kvT).map vS)[i]? = some (vS (kvT pp)) := by rw [List.getElem?_map, List.getElem?_map, hLi]; rfl
      have hcm : cellsK h[o]? = some ((L.map kvT).map vS) := by rw [ho]; rfl
      have hpm : pp ∈ L := List.mem_of_getElem? hLi
      have hpl := hsm (kvT pp) (List.mem_map.2 ⟨pp, hpm, rfl⟩)
      have hnk : pp.1 ∉ (L.take i).map (·.1) := fun hm => by
        obtain ⟨p2, hp2, e2⟩ := List.mem_map.1 hm
        obtain ⟨j, hj⟩ := List.getElem?_of_mem hp2
        have hji : j < i := by have := (List.getElem?_eq_some_iff.1 hj).1; rw [List.length_take] at this; omega
        rw [List.getElem?_take_of_lt hji] at hj
        have h1 : (L.map (·.1))[j]? = some pp.1 := by rw [List.getElem?_map, hj]; exact congrArg some e2
        have h2 : (L.map (·.1))[i]? = some pp.1 := by rw [List.getElem?_map, hLi]; rfl
        have := (List.getElem?_inj (by rw [List.length_map]; omega) hnd).1 (h1.trans h2.symm)
        omega
      simp only [go_sem, Nat.reduceLT, Nat.reduceBEq, Nat.reduceAdd, Int.reduceBEq, Nat.reduceLeDiff, reduceIte, Nat.reduceEqDiff, Int.reduceEq, Int.reduceLE, Int.reduceLT, Int.reduceNe, Nat.reduceMul, Nat.reduceSub, Int.reduceToNat, he, g2, g4, g5, g16, g17, g18, hcm, hpi, Int.toNat_natCast]
      refine ⟨by omega, callX_any (cut_A (w0 := w0) (kvT pp) 61 (by omega) _) ?_⟩
      rintro r h' ⟨⟨G1, rfl⟩, o1, rfl, ho1, hol1⟩
      rw [hkv pp hpm] at ho1 ⊢
      have hz1 := get_more (G := G1) hz
      have hr1 := get_more (G := G1) hr
      have hmp1 := get_more (G := G1) hmp
      have ho1' := get_more (G := G1) ho
      have hfn := find_no hnk
      have d2 : decide (((2 : Nat) : Int) = 2) = true := rfl
      have hc1 : cellsK (h ++ G1)[o1]? = some [vS pp.1, vS pp.2] := by rw [ho1]; rfl
      simp only [go_sem, Nat.reduceLT, Nat.reduceBEq, Nat.reduceAdd, Int.reduceBEq, Nat.reduceLeDiff, reduceIte, Nat.reduceEqDiff, Int.reduceEq, Int.reduceLE, Int.reduceLT, Int.reduceNe, Nat.reduceMul, Nat.reduceSub, Int.reduceToNat, he, g2, g4, g5, g16, g17, g18, setD_some, hc1, Int.toNat_zero, d2, hmp1, hfn]
      refine ⟨by omega, by omega, ?_⟩
      refine acode_tail [] 6 mixed (by kernel_rfl) (by kernel_rfl) (by kernel_rfl) ?_
      have hlt5 : H.length + 2 < (h ++ G1).length := (List.getElem?_eq_some_iff.1 hmp1).1
      have hmet : metL ((L.take i).map (·.1)) ++ [(S pp.1, AV.val (Value.bool true))] = metL ((L.take (i + 1)).map (·.1)) := by
        rw [take_snoc hLi, List.map_append]
        unfold metL
        rw [List.map_append]
        rfl
      rw [hmet]
      obtain ⟨hm, ehm⟩ : ∃ hm, hm = List.set (h ++ G1) (H.length + 2) (AObj.map (metL ((L.take (i + 1)).map (·.1)))) := ⟨_, rfl⟩
      have m1 : hm[H.length]? = some (.own 25 z) := by rw [ehm, List.getElem?_set_ne (by omega)]; exact hz1
      have m2 : hm[H.length + 1]? = some (.own 25 (ruCells q x)) := by rw [ehm, List.getElem?_set_ne (by omega)]; exact hr1
      have m3 : hm[H.length + 2]? = some (.map (metL ((L.take (i + 1)).map (·.1)))) := by rw [ehm, List.getElem?_set_self hlt5]
      have m4 : hm[o]? = some (.own 9 ((L.map kvT).map vS)) := by rw [ehm, List.getElem?_set_ne (by omega)]; exact ho1'
      have hho1 : H.length + 2 < h.length := (List.getElem?_eq_some_iff.1 hmp).1
      have m5 : cellsK hm[o1]? = some [vS pp.1, vS pp.2] := by rw [ehm, List.getElem?_set_ne (by omega)]; exact hc1
      have m6 : RuW hm q x := (hW.more G1).same fun p t cs hp ht => by
        rw [ehm, List.getElem?_set_ne]
        · exact hp
        · rintro rfl
          rw [hmp1] at hp
          cases hp
      have m7 : ∃ G, hm = H ++ G := by
        obtain ⟨G, rfl⟩ := hGh
        rw [ehm, List.append_assoc]
        exact ⟨_, set_behind (by omega)⟩
      rw [← ehm]
      clear ehm
      simp only [go_sem, Nat.reduceLT, Nat.reduceBEq, Nat.reduceAdd, Int.reduceBEq, Nat.reduceLeDiff, reduceIte, Nat.reduceEqDiff, Int.reduceEq, Int.reduceLE, Int.reduceLT, Int.reduceNe, Nat.reduceMul, Nat.reduceSub, Int.reduceToNat, he, g2, g4, g5, g16, g17, g18, m5, Int.toNat_zero, Int.toNat_one]
      refine ⟨by omega, by omega, ?_⟩
      have hvl : pp.2.length ≤ 100000 := by
        have e1 : (kvT pp).length = pp.1.length + (pp.2.length + 1) := by unfold kvT; rw [List.length_append, List.length_cons]
        omega
      refine callX_any (part_A pp hvl q q1 hput hm (H.length + 1) x m2 m6) ?_
      rintro r h3 ⟨rfl, x1, G3, rfl, hW3⟩
      simp only [go_sem, Nat.reduceLT, Nat.reduceBEq, Nat.reduceAdd, Int.reduceBEq, Nat.reduceLeDiff, reduceIte, Nat.reduceEqDiff, Int.reduceEq, Int.reduceLE, Int.reduceLT, Int.reduceNe, Nat.reduceMul, Nat.reduceSub, Int.reduceToNat, he, g2, g4, g5, g16, g17, g18, setD_some, wi]
      have hlt4 : H.length + 1 < hm.length := (List.getElem?_eq_some_iff.1 m2).1
      have ne3 : ∀ (p : Nat) (y : AObj), p ≠ H.length + 1 → hm[p]? = some y → (hm.set (H.length + 1) (AObj.own 25 (ruCells q1 x1)) ++ G3)[p]? = some y := fun p y hne hp => get_more (by rw [List.getElem?_set_ne (fun e => hne e.symm)]; exact hp)
      refine ⟨k - 1, by omega, i + 1, q1, x1, z, by omega, rfl, ?_, ne3 _ _ (by omega) m1, hzl, get_more (List.getElem?_set_self hlt4), hW3, ne3 _ _ (by omega) m3, ne3 _ _ (by omega) m4, hq⟩
      obtain ⟨G, rfl⟩ := m7
      exact ⟨G.set (H.length + 1 - H.length) _ ++ G3, by rw [set_behind (by omega), List.append_assoc]⟩
    · have hc := of_decide_eq_false hc
      have hi : i = L.length := by omega
      subst hi
      rw [List.drop_length] at hq
      have hq : q' = q := hq
      subst hq
      rw [List.take_length] at hmp
      have hfy := find_yes hf
      simp only [go_sem, Nat.reduceLT, Nat.reduceBEq, Nat.reduceAdd, Int.reduceBEq, Nat.reduceLeDiff, reduceIte, Nat.reduceEqDiff, Int.reduceEq, Int.reduceLE, Int.reduceLT, Int.reduceNe, Nat.reduceMul, Nat.reduceSub, Int.reduceToNat, he, g2, g4, g5, g16, g17, g18]
      refine acode_draw mixed (by kernel_rfl) ?_
      have hlt2 : H.length < h.length := (List.getElem?_eq_some_iff.1 hz).1
      have hS : ∀ y : AObj, (h.set H.length y)[H.length]? = some y := fun y => List.getElem?_set_self hlt2
      have hr' := hr
      unfold ruCells at hr'
      have hzd : z.drop 18 = [] := List.drop_eq_nil_of_le (by omega)
      simp only [go_sem, Nat.reduceLT, Nat.reduceBEq, Nat.reduceAdd, Int.reduceBEq, Nat.reduceLeDiff, reduceIte, Nat.reduceEqDiff, Int.reduceEq, Int.reduceLE, Int.reduceLT, Int.reduceNe, Nat.reduceMul, Nat.reduceSub, Int.reduceToNat, he, g2, g4, g5, g16, g17, g18, hz, hr', hmp, hfy, hzl, hzd, hS, hW.setPos.one, hW.month.one, hW.monthDay.one, hW.yearDay.one, hW.weekNo.one, hW.day.one, hW.hour.one, hW.minute.one, hW.second.one, hW.easter.one, Bool.true_and]
      refine ⟨⟨x, rfl, hW.putT hz (by decide) (by decide) _⟩, ?_⟩
      obtain ⟨G, rfl⟩ := hGh
      exact ⟨_, set_behind (Nat.le_refl _)⟩
end Go.Proofs.YtlfpjdcogkcjlaaGreatDoor.F
/- What the parts of a rule's text tell: each puts its number, moment, day or list into the options. -/
namespace Go.Proofs.YtlfpjdcogkcjlaaGreatDoor.F
open Go.RowKit Go.Proofs.YtlfpjdcogkcjlaaGreatDoor.AL Go.Proofs.YtlfpjdcogkcjlaaGreatDoor.B
set_option linter.unusedVariables false
set_option linter.unusedSimpArgs false
set_option maxRecDepth 20000
attribute [local irreducible] aops acode bindK bindV bindH callX callK condK guardK Kseq Kblk Knorm Kfun Kloop Kjoin outK AWp appendA
attribute [local go_sem] acode_skip acode_seq acode_region acode_cond acode_block acode_exit acode_ret acode_loop Kseq_normal Kseq_exit Kseq_ret Kblk_normal Kblk_ret Kblk_eq Kblk_ne Knorm_eq Kloop_normal Kloop_exit Kloop_ret Kjoin_normal Kjoin_exit Kjoin_ret condK_true condK_false bindK_put bindV_put bindK_no bindV_no bindH_no aops_nil gops wantK_some wantV_bool wantV_undef guardK_true guardK_false guardK_none aops_move aops_assign aops_pick aops_nilCheck aops_binOp aops_unOp aops_convert aops_fieldAddr aops_indexAddr aops_slice aops_index aops_extract aops_makeInterface aops_makeFunc aops_build aops_load aops_lookup aops_alloc aops_box aops_buildSlice aops_makeSlice aops_makeMap aops_store aops_insert aops_mapUpdate aops_len aops_append aops_call opA_tmp opA_const opA_global opA_func get_mk look_nil look_eq look_ne len_mk List.map_cons List.map_nil Option.map_some Option.map_none bin_add bin_sub bin_mul bin_quo bin_rem bin_eql bin_neq bin_lss bin_leq bin_gtr bin_geq bin_cat bin_seql bin_sneq bin_neq_ifc bin_eql_ifc bin_neq_nn bin_eql_nn bin_neq_ptr bin_eql_ptr bin_neq_pn isIfc_true isPtr_true bin_eql2 bin_neq2 aops_max max_int un_not un_neg lenA_K lenK_str lenK_nil lenK_sl lenK_array pick_bool pick_val bindV_ite bindK_ite bindH_ite slotV_sl slotK_some slotV_ptr slotR_some sliceV_sl cutK_some sliceV_str cutS_some bound_none bound_some indexA_str atS_some mkS fieldV_ptr loadV_ptr cellsK_ro cellsK_own loadK_one loadK_many storeA_ptr storeK_own allocA_some heap_len heap_get0 heap_get heap_set0 heap_set Kfun_ret Kfun_normal resA_nil resA_tmp resA_cell outK_some packA_one packA_nil packA_two List.length_cons List.length_nil List.getElem?_cons_zero List.getElem?_cons_succ List.set_cons_zero List.set_cons_succ List.cons_append List.nil_append List.append_assoc Nat.zero_add Nat.add_zero List.all_cons List.all_nil Value.oneCell' Bool.and_true Bool.and_self if_true if_false Bool.false_eq_true partsA buildV buildA fillA Option.bind_some putCells List.drop_succ_cons List.drop_zero List.take_succ_cons List.take_zero List.take_nil List.drop_nil and_self and_true true_and Option.some.injEq ne_eq not_false_eq_true Option.map_map List.getElem?_toArray beq_self_eq_true Bool.true_beq Bool.false_beq Bool.not_true Bool.not_false decide_true decide_false beq_true Nat.mul_one Nat.one_mul Nat.zero_mul bsA buildSliceA zerosN List.append_nil Int.toNat_natCast Int.toNat_zero boxA one_val one_ptr one_sl one_mp one_ifc one_fn avCells_agg avCells_val valCells_true valCells_agg avCells_ptr avCells_sl avCells_mp avCells_ifc avCells_fn app_cons app_nil lookupA insertA ifaceV extractA kd2 ars127 fp127 ars60 fp60 ars31 fp31 eq2_99 eq2_84 eq2_47 fp52 sz2 kd3 sz3 kd4 sz4 kd5 sz5 kd9 sz9 kd22 sz22 el22 kd23 sz23 el23 kd25 sz25 zc25 fp25 fo25_0 fo25_1 fo25_2 fo25_3 fo25_4 fo25_5 fo25_6 fo25_7 fo25_8 fo25_9 fo25_10 fo25_11 fo25_12 fo25_13 fo25_14 fo25_15 fo25_16 fo25_17 kd31 sz31 zc31 ar31 kd32 sz32 el32 kd34 sz34 zc34 fp34 fo34_0 fo34_1 fo34_2 fo34_3 fo34_4 fo34_5 fo34_6 fo34_7 fo34_8 fo34_9 fo34_10 fo34_11 fo34_12 fo34_13 fo34_14 fo34_15 fo34_16 fo34_17 el38 el42 kd47 sz47 zc47 fp47 fo47_0 fo47_1 kd52 sz52 zc52 fo52_0 el55 zc60 kd72 sz72 zc72 fp72 fo72_0 fo72_1 el73 kd80 sz80 kd84 sz84 zc84 fp84 fo84_0 fo84_1 kd88 sz88 zc88 fp88 fo88_0 fo88_1 fo88_2 fo88_3 kd91 sz91 zc91 fp91 fo91_0 fo91_1 fo91_2 el94 kd99 sz99 zc99 fp99 fo99_0 fo99_1 kd100 sz100 el100 kd102 sz102 zc102 fp102 fo102_0 fo102_1 fo102_2 fo102_3 fo102_4 fo102_5 fo102_6 fo102_7 fo102_8 fo102_9 fo102_10 fo102_11 fo102_12 fo102_13 fo102_14 fo102_15 kd109 sz109 zc109 fp109 isStrMap124 zv80 zc127 kd153 sz153 zc153 ar153 isIface157 kd159 sz159 zc159 fp159 isStrMap177 zv84 Tryz.underlying3 Tryz.underlying4 Tryz.underlying5 Tryz.underlying9 Tryz.underlying21 Tryz.underlying22 Tryz.underlying23 Tryz.underlying32 Tryz.underlying38 Tryz.underlying42 Tryz.underlying47 Tryz.underlying55 Tryz.underlying67 Tryz.underlying73 Tryz.underlying80 Tryz.underlying84 Tryz.underlying94 Tryz.underlying100 Tryz.underlying2 Tryz.underlying127 Tryz.underlying60 Tryz.underlying31 kd55 ai60 ai127 indexA_agg atK_some isStrMap76 zv4
set_option maxRecDepth 200000
def atoiOk (n : Int) : Bool := (match atoiE (Lib.itoa n) with | .ok m => decide (m = n) | .error _ => false) && decide ((Lib.itoa n).length ≤ 5) && decide (0 < (Lib.itoa n).length)
theorem atoi_all : ((List.range 2001).all fun k => atoiOk ((k : Int) - 1000)) = true := by kernel_rfl
theorem atoi_itoa {n : Int} (h0 : -1000 ≤ n) (h1 : n ≤ 1000) : atoiE (Lib.itoa n) = .ok n ∧ (Lib.itoa n).length ≤ 5 ∧ 0 < (Lib.itoa n).length := by
  have h := List.all_eq_true.1 atoi_all (n + 1000).toNat (List.mem_range.2 (by omega))
  rw [show (((n + 1000).toNat : Nat) : Int) - 1000 = n by omega] at h
  unfold atoiOk at h
  simp only [Bool.and_eq_true, decide_eq_true_eq] at h
  obtain ⟨⟨h2, h3⟩, h4⟩ := h
  refine ⟨?_, h3, h4⟩
  split at h2
  · rename_i m hm
    rw [hm, of_decide_eq_true h2]
  · cases h2
def wdOk (a b : Int) : Bool := (match wdOf (dayText (a, b)) with | .ok d => decide (d.1 = a) && decide (d.2 = b) | .error _ => false) && decide ((dayText (a, b)).length ≤ 5) && (dayText (a, b)).all (fun c => c != 44) && decide (0 < (dayText (a, b)).length)
theorem wd_all : ((List.range 7).all fun a => (List.range 107).all fun b => wdOk (a : Int) ((b : Int) - 53)) = true := by kernel_rfl
theorem wd_text {d : Int × Int} (h0 : 0 ≤ d.1) (h1 : d.1 ≤ 6) (h2 : -53 ≤ d.2) (h3 : d.2 ≤ 53) : wdOf (dayText d) = .ok d ∧ (dayText d).length ≤ 5 ∧ (44 : UInt8) ∉ dayText d ∧ 0 < (dayText d).length := by
  obtain ⟨a, b⟩ := d
  simp only at h0 h1 h2 h3
  have h := List.all_eq_true.1 (List.all_eq_true.1 wd_all a.toNat (List.mem_range.2 (by omega))) (b + 53).toNat (List.mem_range.2 (by omega))
  rw [show ((a.toNat : Nat) : Int) = a by omega, show (((b + 53).toNat : Nat) : Int) - 53 = b by omega] at h
  unfold wdOk at h
  simp only [Bool.and_eq_true, decide_eq_true_eq] at h
  obtain ⟨⟨⟨h4, h5⟩, h6⟩, h7⟩ := h
  refine ⟨?_, h5, fun hm => ?_, h7⟩
  · split at h4
    · rename_i d hd
      simp only [Bool.and_eq_true, decide_eq_true_eq] at h4
      rw [hd]
      exact congrArg Except.ok (Prod.ext h4.1 h4.2)
    · cases h4
  · have := List.all_eq_true.1 h6 _ hm
    revert this; decide
/-- Numbers that a rule may name. -/
def Small (l : List Int) : Prop := l.length ≤ 12 ∧ ∀ n ∈ l, -1000 ≤ n ∧ n ≤ 1000
theorem intsOf_joined {l : List Int} (h0 : l ≠ []) (h : Small l) : intsOf (joined l) = .ok l := by
  unfold intsOf joined
  rw [split_join (by simpa using h0) fun s hs hm => by
    obtain ⟨n, hn, rfl⟩ := List.mem_map.1 hs
    exact (itoa_noFrac n _ hm).2 rfl]
  rw [mapAcc_map (v := fun n : Int => n) l [] fun n hn => (atoi_itoa (h.2 n hn).1 (h.2 n hn).2).1]
  simp
def SmallD (l : List (Int × Int)) : Prop := l.length ≤ 12 ∧ ∀ d ∈ l, 0 ≤ d.1 ∧ d.1 ≤ 6 ∧ -53 ≤ d.2 ∧ d.2 ≤ 53
theorem daysOf_days {l : List (Int × Int)} (h0 : l ≠ []) (h : SmallD l) : daysOf (days l) = .ok l := by
  unfold daysOf days
  rw [split_join (by simpa using h0) fun s hs hm => by
    obtain ⟨n, hn, rfl⟩ := List.mem_map.1 hs
    obtain ⟨a, b, c, d⟩ := h.2 n hn
    exact (wd_text a b c d).2.2.1 hm]
  rw [mapAcc_map (v := fun n : Int × Int => n) l [] fun n hn => by
    obtain ⟨a, b, c, d⟩ := h.2 n hn
    exact (wd_text a b c d).1]
  simp
theorem joined_small {l : List Int} (h : Small l) : (joined l).length ≤ 72 := by
  have := joinB_length 44 5 (l.map Lib.itoa) (fun s hs => by
    obtain ⟨n, hn, rfl⟩ := List.mem_map.1 hs
    exact (atoi_itoa (h.2 n hn).1 (h.2 n hn).2).2.1)
  rw [List.length_map] at this
  have := h.1
  unfold joined
  omega
theorem days_small {l : List (Int × Int)} (h : SmallD l) : (days l).length ≤ 72 := by
  have := joinB_length 44 5 (l.map dayText) (fun s hs => by
    obtain ⟨n, hn, rfl⟩ := List.mem_map.1 hs
    obtain ⟨a, b, c, d⟩ := h.2 n hn
    exact (wd_text a b c d).2.1)
  rw [List.length_map] at this
  have := h.1
  unfold days
  omega
theorem joinB_pos {c : UInt8} : ∀ {l : List (List UInt8)}, l ≠ [] → (∀ s ∈ l, 0 < s.length) → 0 < (joinB c l).length
  | [], h, _ => absurd rfl h
  | [a], _, h => h a (by simp)
  | a :: b :: r, _, h => by
    show 0 < (a ++ c :: joinB c (b :: r)).length
    rw [List.length_append]
    have := h a (by simp)
    omega
theorem joined_pos {l : List Int} (h0 : l ≠ []) (h : Small l) : 0 < (joined l).length := joinB_pos (by simpa using h0) fun s hs => by
  obtain ⟨n, hn, rfl⟩ := List.mem_map.1 hs
  exact (atoi_itoa (h.2 n hn).1 (h.2 n hn).2).2.2
theorem days_pos {l : List (Int × Int)} (h0 : l ≠ []) (h : SmallD l) : 0 < (days l).length := joinB_pos (by simpa using h0) fun s hs => by
  obtain ⟨n, hn, rfl⟩ := List.mem_map.1 hs
  obtain ⟨a, b, c, d⟩ := h.2 n hn
  exact (wd_text a b c d).2.2.2
/-- A rule that may be written: its numbers are small. -/
structure Wr (r : Ru) : Prop where
  freq : r.freq ≤ 6
  wkst : 0 ≤ r.wkst ∧ r.wkst ≤ 6
  interval : 0 ≤ r.interval ∧ r.interval ≤ 1000
  count : 0 ≤ r.count ∧ r.count ≤ 1000
  til : r.hasUntil = true → InY r.til ∧ r.til ≠ 0
  tilNo : r.hasUntil = false → r.til = 0
  start : r.hasStart = false ∧ r.start = 0
  setPos : Small r.setPos
  month : Small r.month
  monthDay : Small r.monthDay
  yearDay : Small r.yearDay
  weekNo : Small r.weekNo
  day : SmallD r.day
  hour : Small r.hour
  minute : Small r.minute
  second : Small r.second
  easter : Small r.easter
theorem small_of {l : List Int} {low high : Int} {zero : Bool} (h : within l 12 low high zero = true) (h0 : -1000 ≤ low) (h1 : high ≤ 1000) : Small l := by
  obtain ⟨a, b, _⟩ := within_spec h
  exact ⟨by omega, fun n hn => by have := b n hn; omega⟩
theorem wr_bare {r : Ru} (hb : bareOk r = true) : CleanP r ∧ Wr (bare r) := by
  unfold bareOk at hb
  rw [Bool.and_eq_true] at hb
  have h := clean_spec hb.1
  have hm := mostOf_bound r
  refine ⟨h, h.freq, h.wkst, h.interval, h.count, fun hu => ?_, fun hu => ?_, ⟨rfl, rfl⟩, small_of h.setPos (by omega) (by omega), small_of h.month (by omega) (by omega), small_of h.monthDay (by omega) (by omega), small_of h.yearDay (by omega) (by omega), small_of h.weekNo (by omega) (by omega), ⟨h.dayLen, fun d hd => ?_⟩, small_of h.hour (by omega) (by omega), small_of h.minute (by omega) (by omega), small_of h.second (by omega) (by omega), small_of h.easter (by omega) (by omega)⟩
  · have hu' : r.hasUntil = true := hu
    have h2 := hb.2
    rw [hu'] at h2
    have h3 := h.til hu'
    have h4 := h.start
    have e : (bare r).til = r.til := by unfold bare; simp only [hu', if_true]
    rw [e]
    have h5 : before 10000 * 86400 = 315537897600 := by decide
    refine ⟨⟨by omega, by omega⟩, ?_⟩
    simpa using h2
  · have hu' : r.hasUntil = false := hu
    unfold bare
    simp only [hu', Bool.false_eq_true, if_false]
  · obtain ⟨i, hi⟩ := List.getElem?_of_mem (show d ∈ r.day from hd)
    obtain ⟨_, e1, e2, e3, e4⟩ := h.day i d hi
    exact ⟨e1, e2, by omega, by omega⟩
/-- A part by its name, put into the options. -/
def opSet (r : Ru) (o : Op) (k : List UInt8) : Op where
  freq := if k = [70, 82, 69, 81] then r.freq else o.freq
  dt := o.dt
  interval := if k = [73, 78, 84, 69, 82, 86, 65, 76] then r.interval else o.interval
  wkst := if k = [87, 75, 83, 84] then (r.wkst, 0) else o.wkst
  count := if k = [67, 79, 85, 78, 84] then r.count else o.count
  til := if k = [85, 78, 84, 73, 76] then r.til else o.til
  pos := if k = [66, 89, 83, 69, 84, 80, 79, 83] then r.setPos else o.pos
  month := if k = [66, 89, 77, 79, 78, 84, 72] then r.month else o.month
  mday := if k = [66, 89, 77, 79, 78, 84, 72, 68, 65, 89] then r.monthDay else o.mday
  yday := if k = [66, 89, 89, 69, 65, 82, 68, 65, 89] then r.yearDay else o.yday
  weekno := if k = [66, 89, 87, 69, 69, 75, 78, 79] then r.weekNo else o.weekno
  hour := if k = [66, 89, 72, 79, 85, 82] then r.hour else o.hour
  minute := if k = [66, 89, 77, 73, 78, 85, 84, 69] then r.minute else o.minute
  second := if k = [66, 89, 83, 69, 67, 79, 78, 68] then r.second else o.second
  easter := if k = [66, 89, 69, 65, 83, 84, 69, 82] then r.easter else o.easter
  day := if k = [66, 89, 68, 65, 89] then r.day else o.day
  set := if k = [70, 82, 69, 81] then true else o.set
theorem freq_text {f : Nat} (h : f ≤ 6) : freqOf (freqs.getD f []) = some (f : Int) ∧ 0 < (freqs.getD f []).length ∧ (freqs.getD f []).length ≤ 8 := by
  have : f = 0 ∨ f = 1 ∨ f = 2 ∨ f = 3 ∨ f = 4 ∨ f = 5 ∨ f = 6 := by omega
  rcases this with rfl | rfl | rfl | rfl | rfl | rfl | rfl <;> exact ⟨by kernel_rfl, by decide, by decide⟩
theorem wkst_text {w : Int} (h0 : 0 ≤ w) (h1 : w ≤ 6) : wdOf (wdays.getD w.toNat []) = .ok (w, 0) ∧ (wdays.getD w.toNat []).length = 2 := by
  have : w = 0 ∨ w = 1 ∨ w = 2 ∨ w = 3 ∨ w = 4 ∨ w = 5 ∨ w = 6 := by omega
  rcases this with rfl | rfl | rfl | rfl | rfl | rfl | rfl <;> exact ⟨by kernel_rfl, by decide⟩
theorem opStep_of {o : Op} {p : KV} (h : kvOk p) (hv : 0 < p.2.length) : opStep o (kvT p) = opPut o p.1 p.2 := by
  unfold opStep
  rw [split_kv h]
  simp only
  rw [if_neg (by omega)]
theorem kOne_mem {n : List UInt8} {l : List Int} {p : KV} (h : p ∈ kOne n l) : p = (n, joined l) ∧ l ≠ [] := by
  unfold kOne at h
  split at h
  · cases h
  · rename_i h0
    rw [List.mem_singleton] at h
    exact ⟨h, fun e => h0 (by rw [e]; rfl)⟩
theorem opStep_kv {r : Ru} (h : Wr r) {p : KV} (hp : p ∈ kvs r) (o : Op) : opStep o (kvT p) = .ok (opSet r o p.1) := by
  have hk := kvs_ok r p hp
  unfold kvs at hp
  simp only [List.mem_append] at hp
  rcases hp with (((((hp | hp) | hp) | hp) | hp) | hp) | hp
  · rw [List.mem_singleton] at hp
    subst hp
    obtain ⟨h1, h2, h3⟩ := freq_text h.freq
    rw [opStep_of hk h2]
    simp only
    generalize freqs.getD r.freq [] = v at h1 ⊢
    simp [opPut, optFreq, h1, optE, opSet, Except.map]
  · split at hp
    · rename_i hu
      rw [List.mem_singleton] at hp
      subst hp
      have ht := h.til hu
      rw [opStep_of hk (by show 0 < (dateText r.til).length; rw [dateText_eq, List.length_append, dateB_len ht.1.1 ht.1.2]; simp)]
      simp [opPut, loc_full ht.1.1 ht.1.2, optE, opSet, Except.map]
    · cases hp
  · split at hp
    · rw [List.mem_singleton] at hp
      subst hp
      have hc := atoi_itoa (n := r.count) (by have := h.count; omega) h.count.2
      rw [opStep_of hk hc.2.2]
      simp [opPut, hc.1, opSet, Except.map]
    · cases hp
  · split at hp
    · rw [List.mem_singleton] at hp
      subst hp
      have hc := atoi_itoa (n := r.interval) (by have := h.interval; omega) h.interval.2
      rw [opStep_of hk hc.2.2]
      simp [opPut, hc.1, opSet, Except.map]
    · cases hp
  · rcases hp with (((((((hp | hp) | hp) | hp) | hp) | hp) | hp) | hp) | hp
    · obtain ⟨rfl, h0⟩ := kOne_mem hp
      rw [opStep_of hk (joined_pos h0 h.second)]
      simp [opPut, intsOf_joined h0 h.second, opSet, Except.map]
    · obtain ⟨rfl, h0⟩ := kOne_mem hp
      rw [opStep_of hk (joined_pos h0 h.minute)]
      simp [opPut, intsOf_joined h0 h.minute, opSet, Except.map]
    · obtain ⟨rfl, h0⟩ := kOne_mem hp
      rw [opStep_of hk (joined_pos h0 h.hour)]
      simp [opPut, intsOf_joined h0 h.hour, opSet, Except.map]
    · obtain ⟨rfl, h0⟩ := kOne_mem hp
      rw [opStep_of hk (joined_pos h0 h.monthDay)]
      simp [opPut, intsOf_joined h0 h.monthDay, opSet, Except.map]
    · obtain ⟨rfl, h0⟩ := kOne_mem hp
      rw [opStep_of hk (joined_pos h0 h.yearDay)]
      simp [opPut, intsOf_joined h0 h.yearDay, opSet, Except.map]
    · obtain ⟨rfl, h0⟩ := kOne_mem hp
      rw [opStep_of hk (joined_pos h0 h.weekNo)]
      simp [opPut, intsOf_joined h0 h.weekNo, opSet, Except.map]
    · obtain ⟨rfl, h0⟩ := kOne_mem hp
      rw [opStep_of hk (joined_pos h0 h.month)]
      simp [opPut, intsOf_joined h0 h.month, opSet, Except.map]
    · obtain ⟨rfl, h0⟩ := kOne_mem hp
      rw [opStep_of hk (joined_pos h0 h.setPos)]
      simp [opPut, intsOf_joined h0 h.setPos, opSet, Except.map]
    · obtain ⟨rfl, h0⟩ := kOne_mem hp
      rw [opStep_of hk (joined_pos h0 h.easter)]
      simp [opPut, intsOf_joined h0 h.easter, opSet, Except.map]
  · split at hp
    · cases hp
    · rename_i h0
      rw [List.mem_singleton] at hp
      subst hp
      have h0' : r.day ≠ [] := fun e => h0 (by rw [e]; rfl)
      rw [opStep_of hk (days_pos h0' h.day)]
      simp [opPut, daysOf_days h0' h.day, opSet, Except.map]
  · split at hp
    · cases hp
    · rw [List.mem_singleton] at hp
      subst hp
      obtain ⟨h1, h2⟩ := wkst_text h.wkst.1 h.wkst.2
      rw [opStep_of hk (by show 0 < (wdays.getD r.wkst.toNat []).length; omega)]
      simp only [opPut, h1, opSet, Except.map]
      simp
/-- Parts by their names, put into the options. -/
def opMix (r : Ru) (S : List (List UInt8)) (o : Op) : Op where
  freq := if [70, 82, 69, 81] ∈ S then r.freq else o.freq
  dt := o.dt
  interval := if [73, 78, 84, 69, 82, 86, 65, 76] ∈ S then r.interval else o.interval
  wkst := if [87, 75, 83, 84] ∈ S then (r.wkst, 0) else o.wkst
  count := if [67, 79, 85, 78, 84] ∈ S then r.count else o.count
  til := if [85, 78, 84, 73, 76] ∈ S then r.til else o.til
  pos := if [66, 89, 83, 69, 84, 80, 79, 83] ∈ S then r.setPos else o.pos
  month := if [66, 89, 77, 79, 78, 84, 72] ∈ S then r.month else o.month
  mday := if [66, 89, 77, 79, 78, 84, 72, 68, 65, 89] ∈ S then r.monthDay else o.mday
  yday := if [66, 89, 89, 69, 65, 82, 68, 65, 89] ∈ S then r.yearDay else o.yday
  weekno := if [66, 89, 87, 69, 69, 75, 78, 79] ∈ S then r.weekNo else o.weekno
  hour := if [66, 89, 72, 79, 85, 82] ∈ S then r.hour else o.hour
  minute := if [66, 89, 77, 73, 78, 85, 84, 69] ∈ S then r.minute else o.minute
  second := if [66, 89, 83, 69, 67, 79, 78, 68] ∈ S then r.second else o.second
  easter := if [66, 89, 69, 65, 83, 84, 69, 82] ∈ S then r.easter else o.easter
  day := if [66, 89, 68, 65, 89] ∈ S then r.day else o.day
  set := if [70, 82, 69, 81] ∈ S then true else o.set
theorem mix_if {α : Type} {K k : List UInt8} {S : List (List UInt8)} (a b : α) : (if K ∈ S then a else if k = K then a else b) = if K ∈ k :: S then a else b := by
  by_cases h : K ∈ S
  · rw [if_pos h, if_pos (List.mem_cons_of_mem _ h)]
  · rw [if_neg h]
    by_cases hk : k = K
    · rw [if_pos hk, if_pos (by rw [hk]; simp)]
    · rw [if_neg hk, if_neg (by intro hm; rcases List.mem_cons.1 hm with e | e; exact hk e.symm; exact h e)]
theorem opMix_set (r : Ru) (k : List UInt8) (S : List (List UInt8)) (o : Op) : opMix r S (opSet r o k) = opMix r (k :: S) o := by
  unfold opMix opSet
  simp only [mix_if]
theorem foldE_kvs {r : Ru} (h : Wr r) : ∀ {L : List KV} (o : Op), (∀ p ∈ L, p ∈ kvs r) → foldE opStep o (L.map kvT) = .ok (opMix r (L.map (·.1)) o)
  | [], o, _ => by
    unfold opMix
    simp [foldE]
  | p :: L, o, hL => by
    rw [List.map_cons, foldE, opStep_kv h (hL p (by simp)), List.map_cons, ← opMix_set]
    exact foldE_kvs h _ fun q hq => hL q (List.mem_cons_of_mem _ hq)
/-- Parts of a rule, in any order. -/
structure Sub (r : Ru) (L : List KV) : Prop where
  mem : ∀ p ∈ L, p ∈ kvs r
  freq : [70, 82, 69, 81] ∈ L.map (·.1)
theorem kv_no59 {p : KV} (ho : kvOk p) : (59 : UInt8) ∉ kvT p := fun hm => by
  unfold kvT at hm
  rcases List.mem_append.1 hm with hm | hm
  · have := ho.1 _ hm; revert this; decide
  · rcases List.mem_cons.1 hm with e | hm
    · revert e; decide
    · have := ho.2.1 _ hm; revert this; decide
theorem sub_split {r : Ru} {L : List KV} (hL : Sub r L) : split 59 (joinB 59 (L.map kvT)) = L.map kvT :=
  split_join (by intro e; have := hL.freq; rw [List.map_eq_nil_iff.1 e] at this; cases this) fun s hs => by
    obtain ⟨p, hp, rfl⟩ := List.mem_map.1 hs
    exact kv_no59 (kvs_ok r p (hL.mem p hp))
theorem opParse_sub {r : Ru} (h : Wr r) {L : List KV} (hL : Sub r L) : opParse (joinB 59 (L.map kvT)) = .ok (opMix r (L.map (·.1)) op0) := by
  unfold opParse
  rw [sub_split hL, foldE_kvs h _ hL.mem]
  unfold opEnd
  have : (opMix r (L.map (·.1)) op0).set = true := by
    unfold opMix
    simp only
    rw [if_pos hL.freq]
  simp only
  rw [if_pos this]
end Go.Proofs.YtlfpjdcogkcjlaaGreatDoor.F
/- What the specification reads out of a rule's parts. -/
namespace Go.Proofs.YtlfpjdcogkcjlaaGreatDoor.F
open Go.RowKit Go.Proofs.YtlfpjdcogkcjlaaGreatDoor.AL Go.Proofs.YtlfpjdcogkcjlaaGreatDoor.B
set_option linter.unusedVariables false
set_option linter.unusedSimpArgs false
set_option maxRecDepth 20000
attribute [local irreducible] aops acode bindK bindV bindH callX callK condK guardK Kseq Kblk Knorm Kfun Kloop Kjoin outK AWp appendA Ktail
attribute [local go_sem] acode_skip acode_seq acode_region acode_cond acode_block acode_exit acode_ret acode_loop Kseq_normal Kseq_exit Kseq_ret Kblk_normal Kblk_ret Kblk_eq Kblk_ne Knorm_eq Kloop_normal Kloop_exit Kloop_ret Kjoin_normal Kjoin_exit Kjoin_ret condK_true condK_false bindK_put bindV_put bindK_no bindV_no bindH_no aops_nil gops wantK_some wantV_bool wantV_undef guardK_true guardK_false guardK_none aops_move aops_assign aops_pick aops_nilCheck aops_binOp aops_unOp aops_convert aops_fieldAddr aops_indexAddr aops_slice aops_index aops_extract aops_makeInterface aops_makeFunc aops_build aops_load aops_lookup aops_alloc aops_box aops_buildSlice aops_makeSlice aops_makeMap aops_store aops_insert aops_mapUpdate aops_len aops_append aops_call opA_tmp opA_const opA_global opA_func get_mk look_nil look_eq look_ne len_mk List.map_cons List.map_nil Option.map_some Option.map_none bin_add bin_sub bin_mul bin_quo bin_rem bin_eql bin_neq bin_lss bin_leq bin_gtr bin_geq bin_cat bin_seql bin_sneq bin_neq_ifc bin_eql_ifc bin_neq_nn bin_eql_nn bin_neq_ptr bin_eql_ptr bin_neq_pn isIfc_true isPtr_true bin_eql2 bin_neq2 aops_max max_int un_not un_neg lenA_K lenK_str lenK_nil lenK_sl lenK_array pick_bool pick_val bindV_ite bindK_ite bindH_ite slotV_sl slotK_some slotV_ptr slotR_some sliceV_sl cutK_some sliceV_str cutS_some bound_none bound_some indexA_str atS_some mkS fieldV_ptr loadV_ptr cellsK_ro cellsK_own loadK_one loadK_many storeA_ptr storeK_own allocA_some heap_len heap_get0 heap_get heap_set0 heap_set Kfun_ret Kfun_normal resA_nil resA_tmp resA_cell outK_some packA_one packA_nil packA_two List.length_cons List.length_nil List.getElem?_cons_zero List.getElem?_cons_succ List.set_cons_zero List.set_cons_succ List.cons_append List.nil_append List.append_assoc Nat.zero_add Nat.add_zero List.all_cons List.all_nil Value.oneCell' Bool.and_true Bool.and_self if_true if_false Bool.false_eq_true partsA buildV buildA fillA Option.bind_some putCells List.drop_succ_cons List.drop_zero List.take_succ_cons List.take_zero List.take_nil List.drop_nil and_self and_true true_and Option.some.injEq ne_eq not_false_eq_true Option.map_map List.getElem?_toArray beq_self_eq_true Bool.true_beq Bool.false_beq Bool.not_true Bool.not_false decide_true decide_false beq_true Nat.mul_one Nat.one_mul Nat.zero_mul bsA buildSliceA zerosN List.append_nil Int.toNat_natCast Int.toNat_zero boxA one_val one_ptr one_sl one_mp one_ifc one_fn avCells_agg avCells_val valCells_true valCells_agg avCells_ptr avCells_sl avCells_mp avCells_ifc avCells_fn app_cons app_nil lookupA insertA ifaceV extractA kd2 ars127 fp127 ars60 fp60 ars31 fp31 eq2_99 eq2_84 eq2_47 fp52 sz2 kd3 sz3 kd4 sz4 kd5 sz5 kd9 sz9 kd22 sz22 el22 kd23 sz23 el23 kd25 sz25 zc25 fp25 fo25_0 fo25_1 fo25_2 fo25_3 fo25_4 fo25_5 fo25_6 fo25_7 fo25_8 fo25_9 fo25_10 fo25_11 fo25_12 fo25_13 fo25_14 fo25_15 fo25_16 fo25_17 kd31 sz31 zc31 ar31 kd32 sz32 el32 kd34 sz34 zc34 fp34 fo34_0 fo34_1 fo34_2 fo34_3 fo34_4 fo34_5 fo34_6 fo34_7 fo34_8 fo34_9 fo34_10 fo34_11 fo34_12 fo34_13 fo34_14 fo34_15 fo34_16 fo34_17 el38 el42 kd47 sz47 zc47 fp47 fo47_0 fo47_1 kd52 sz52 zc52 fo52_0 el55 zc60 kd72 sz72 zc72 fp72 fo72_0 fo72_1 el73 kd80 sz80 kd84 sz84 zc84 fp84 fo84_0 fo84_1 kd88 sz88 zc88 fp88 fo88_0 fo88_1 fo88_2 fo88_3 kd91 sz91 zc91 fp91 fo91_0 fo91_1 fo91_2 el94 kd99 sz99 zc99 fp99 fo99_0 fo99_1 kd100 sz100 el100 kd102 sz102 zc102 fp102 fo102_0 fo102_1 fo102_2 fo102_3 fo102_4 fo102_5 fo102_6 fo102_7 fo102_8 fo102_9 fo102_10 fo102_11 fo102_12 fo102_13 fo102_14 fo102_15 kd109 sz109 zc109 fp109 isStrMap124 zv80 zc127 kd153 sz153 zc153 ar153 isIface157 kd159 sz159 zc159 fp159 isStrMap177 zv84 Tryz.underlying3 Tryz.underlying4 Tryz.underlying5 Tryz.underlying9 Tryz.underlying21 Tryz.underlying22 Tryz.underlying23 Tryz.underlying32 Tryz.underlying38 Tryz.underlying42 Tryz.underlying47 Tryz.underlying55 Tryz.underlying67 Tryz.underlying73 Tryz.underlying80 Tryz.underlying84 Tryz.underlying94 Tryz.underlying100 Tryz.underlying2 Tryz.underlying127 Tryz.underlying60 Tryz.underlying31 kd55 ai60 ai127 indexA_agg atK_some isStrMap76 zv4 Ktail_eq opsOf_nil opsOf_cons consO_some
set_option maxRecDepth 200000
def snumOk (n : Int) : Bool := match numOf (Lib.itoa n) with | some m => decide (m = n) | none => false
theorem snum_all : ((List.range 2001).all fun k => snumOk ((k : Int) - 1000)) = true := by kernel_rfl
theorem num_itoa {n : Int} (h0 : -1000 ≤ n) (h1 : n ≤ 1000) : numOf (Lib.itoa n) = some n := by
  have h := List.all_eq_true.1 snum_all (n + 1000).toNat (List.mem_range.2 (by omega))
  rw [show (((n + 1000).toNat : Nat) : Int) - 1000 = n by omega] at h
  unfold snumOk at h
  split at h
  · rename_i m hm
    rw [hm, of_decide_eq_true h]
  · cases h
def swdOk (a b : Int) : Bool := match swd (dayText (a, b)) with | some d => decide (d.1 = a) && decide (d.2 = b) | none => false
theorem swd_all : ((List.range 7).all fun a => (List.range 107).all fun b => swdOk (a : Int) ((b : Int) - 53)) = true := by kernel_rfl
theorem swd_text {d : Int × Int} (h0 : 0 ≤ d.1) (h1 : d.1 ≤ 6) (h2 : -53 ≤ d.2) (h3 : d.2 ≤ 53) : swd (dayText d) = some d := by
  obtain ⟨a, b⟩ := d
  simp only at h0 h1 h2 h3
  have h := List.all_eq_true.1 (List.all_eq_true.1 swd_all a.toNat (List.mem_range.2 (by omega))) (b + 53).toNat (List.mem_range.2 (by omega))
  rw [show ((a.toNat : Nat) : Int) = a by omega, show (((b + 53).toNat : Nat) : Int) - 53 = b by omega] at h
  unfold swdOk at h
  split at h
  · rename_i d hd
    simp only [Bool.and_eq_true, decide_eq_true_eq] at h
    rw [hd]
    exact congrArg some (Prod.ext h.1 h.2)
  · cases h
theorem nums_joined {l : List Int} (h0 : l ≠ []) (h : Small l) : (split 44 (joined l)).map numOf = l.map some := by
  unfold joined
  rw [split_join (by simpa using h0) fun s hs hm => by
    obtain ⟨n, hn, rfl⟩ := List.mem_map.1 hs
    exact (itoa_noFrac n _ hm).2 rfl]
  rw [List.map_map]
  exact List.map_congr_left fun n hn => num_itoa (h.2 n hn).1 (h.2 n hn).2
theorem wds_days {l : List (Int × Int)} (h0 : l ≠ []) (h : SmallD l) : (split 44 (days l)).map swd = l.map some := by
  unfold days
  rw [split_join (by simpa using h0) fun s hs hm => by
    obtain ⟨n, hn, rfl⟩ := List.mem_map.1 hs
    obtain ⟨a, b, c, d⟩ := h.2 n hn
    exact (wd_text a b c d).2.2.1 hm]
  rw [List.map_map]
  exact List.map_congr_left fun n hn => by
    obtain ⟨a, b, c, d⟩ := h.2 n hn
    exact swd_text a b c d
theorem ixS_freq {f : Nat} (h : f ≤ 6) : ixS freqs (freqs.getD f []) = f := by
  have : f = 0 ∨ f = 1 ∨ f = 2 ∨ f = 3 ∨ f = 4 ∨ f = 5 ∨ f = 6 := by omega
  rcases this with rfl | rfl | rfl | rfl | rfl | rfl | rfl <;> rfl
theorem ixS_wday {w : Int} (h0 : 0 ≤ w) (h1 : w ≤ 6) : ixS wdays (wdays.getD w.toNat []) = w := by
  have : w = 0 ∨ w = 1 ∨ w = 2 ∨ w = 3 ∨ w = 4 ∨ w = 5 ∨ w = 6 := by omega
  rcases this with rfl | rfl | rfl | rfl | rfl | rfl | rfl <;> rfl
/-- A part by its name, put into a rule. -/
def ruSet (r q : Ru) (k : List UInt8) : Ru where
  freq := if k = [70, 82, 69, 81] then r.freq else q.freq
  hasStart := q.hasStart
  start := q.start
  interval := if k = [73, 78, 84, 69, 82, 86, 65, 76] then r.interval else q.interval
  wkst := if k = [87, 75, 83, 84] then r.wkst else q.wkst
  count := if k = [67, 79, 85, 78, 84] then r.count else q.count
  hasUntil := if k = [85, 78, 84, 73, 76] then true else q.hasUntil
  til := if k = [85, 78, 84, 73, 76] then r.til else q.til
  setPos := if k = [66, 89, 83, 69, 84, 80, 79, 83] then r.setPos else q.setPos
  month := if k = [66, 89, 77, 79, 78, 84, 72] then r.month else q.month
  monthDay := if k = [66, 89, 77, 79, 78, 84, 72, 68, 65, 89] then r.monthDay else q.monthDay
  yearDay := if k = [66, 89, 89, 69, 65, 82, 68, 65, 89] then r.yearDay else q.yearDay
  weekNo := if k = [66, 89, 87, 69, 69, 75, 78, 79] then r.weekNo else q.weekNo
  day := if k = [66, 89, 68, 65, 89] then r.day else q.day
  hour := if k = [66, 89, 72, 79, 85, 82] then r.hour else q.hour
  minute := if k = [66, 89, 77, 73, 78, 85, 84, 69] then r.minute else q.minute
  second := if k = [66, 89, 83, 69, 67, 79, 78, 68] then r.second else q.second
  easter := if k = [66, 89, 69, 65, 83, 84, 69, 82] then r.easter else q.easter
/-- Parts by their names, put into a rule. -/
def ruMix (r : Ru) (S : List (List UInt8)) (q : Ru) : Ru where
  freq := if [70, 82, 69, 81] ∈ S then r.freq else q.freq
  hasStart := q.hasStart
  start := q.start
  interval := if [73, 78, 84, 69, 82, 86, 65, 76] ∈ S then r.interval else q.interval
  wkst := if [87, 75, 83, 84] ∈ S then r.wkst else q.wkst
  count := if [67, 79, 85, 78, 84] ∈ S then r.count else q.count
  hasUntil := if [85, 78, 84, 73, 76] ∈ S then true else q.hasUntil
  til := if [85, 78, 84, 73, 76] ∈ S then r.til else q.til
  setPos := if [66, 89, 83, 69, 84, 80, 79, 83] ∈ S then r.setPos else q.setPos
  month := if [66, 89, 77, 79, 78, 84, 72] ∈ S then r.month else q.month
  monthDay := if [66, 89, 77, 79, 78, 84, 72, 68, 65, 89] ∈ S then r.monthDay else q.monthDay
  yearDay := if [66, 89, 89, 69, 65, 82, 68, 65, 89] ∈ S then r.yearDay else q.yearDay
  weekNo := if [66, 89, 87, 69, 69, 75, 78, 79] ∈ S then r.weekNo else q.weekNo
  day := if [66, 89, 68, 65, 89] ∈ S then r.day else q.day
  hour := if [66, 89, 72, 79, 85, 82] ∈ S then r.hour else q.hour
  minute := if [66, 89, 77, 73, 78, 85, 84, 69] ∈ S then r.minute else q.minute
  second := if [66, 89, 83, 69, 67, 79, 78, 68] ∈ S then r.second else q.second
  easter := if [66, 89, 69, 65, 83, 84, 69, 82] ∈ S then r.easter else q.easter
theorem ruMix_set (r : Ru) (k : List UInt8) (S : List (List UInt8)) (q : Ru) : ruMix r S (ruSet r q k) = ruMix r (k :: S) q := by
  unfold ruMix ruSet
  simp only [mix_if]
theorem sput_kv {r : Ru} (h : Wr r) {p : KV} (hp : p ∈ kvs r) (q : Ru) : SPut q p (ruSet r q p.1) := by
  unfold kvs at hp
  simp only [List.mem_append] at hp
  unfold SPut
  rcases hp with (((((hp | hp) | hp) | hp) | hp) | hp) | hp
  · rw [List.mem_singleton] at hp
    subst hp
    exact .inl ⟨rfl, r.freq, ixS_freq h.freq, h.freq, by simp [ruSet]⟩
  · split at hp
    · rename_i hu
      rw [List.mem_singleton] at hp
      subst hp
      exact .inr (.inl ⟨rfl, r.til, (h.til hu).1, rfl, by simp [ruSet]⟩)
    · cases hp
  · split at hp
    · rename_i h0
      rw [List.mem_singleton] at hp
      subst hp
      exact .inr (.inr (.inl ⟨rfl, r.count, num_itoa (by have := h.count; omega) h.count.2, h0, by simp [ruSet]⟩))
    · cases hp
  · split at hp
    · rename_i h0
      rw [List.mem_singleton] at hp
      subst hp
      exact .inr (.inr (.inr (.inl ⟨rfl, r.interval, num_itoa (by have := h.interval; omega) h.interval.2, by omega, by simp [ruSet]⟩)))
    · cases hp
  · rcases hp with (((((((hp | hp) | hp) | hp) | hp) | hp) | hp) | hp) | hp
    · obtain ⟨rfl, h0⟩ := kOne_mem hp
      exact .inr (.inr (.inr (.inr (.inr (.inr (.inl ⟨rfl, r.second, nums_joined h0 h.second, by simp [ruSet]⟩))))))
    · obtain ⟨rfl, h0⟩ := kOne_mem hp
      exact .inr (.inr (.inr (.inr (.inr (.inr (.inr (.inl ⟨rfl, r.minute, nums_joined h0 h.minute, by simp [ruSet]⟩)))))))
    · obtain ⟨rfl, h0⟩ := kOne_mem hp
      exact .inr (.inr (.inr (.inr (.inr (.inr (.inr (.inr (.inl ⟨rfl, r.hour, nums_joined h0 h.hour, by simp [ruSet]⟩))))))))
    · obtain ⟨rfl, h0⟩ := kOne_mem hp
      exact .inr (.inr (.inr (.inr (.inr (.inr (.inr (.inr (.inr (.inl ⟨rfl, r.monthDay, nums_joined h0 h.monthDay, by simp [ruSet]⟩)))))))))
    · obtain ⟨rfl, h0⟩ := kOne_mem hp
      exact .inr (.inr (.inr (.inr (.inr (.inr (.inr (.inr (.inr (.inr (.inl ⟨rfl, r.yearDay, nums_joined h0 h.yearDay, by simp [ruSet]⟩))))))))))
    · obtain ⟨rfl, h0⟩ := kOne_mem hp
      exact .inr (.inr (.inr (.inr (.inr (.inr (.inr (.inr (.inr (.inr (.inr (.inl ⟨rfl, r.weekNo, nums_joined h0 h.weekNo, by simp [ruSet]⟩)))))))))))
    · obtain ⟨rfl, h0⟩ := kOne_mem hp
      exact .inr (.inr (.inr (.inr (.inr (.inr (.inr (.inr (.inr (.inr (.inr (.inr (.inl ⟨rfl, r.month, nums_joined h0 h.month, by simp [ruSet]⟩))))))))))))
    · obtain ⟨rfl, h0⟩ := kOne_mem hp
      exact .inr (.inr (.inr (.inr (.inr (.inr (.inr (.inr (.inr (.inr (.inr (.inr (.inr (.inl ⟨rfl, r.setPos, nums_joined h0 h.setPos, by simp [ruSet]⟩)))))))))))))
    · obtain ⟨rfl, h0⟩ := kOne_mem hp
      exact .inr (.inr (.inr (.inr (.inr (.inr (.inr (.inr (.inr (.inr (.inr (.inr (.inr (.inr ⟨rfl, r.easter, nums_joined h0 h.easter, by simp [ruSet]⟩)))))))))))))
  · split at hp
    · cases hp
    · rename_i h0
      rw [List.mem_singleton] at hp
      subst hp
      exact .inr (.inr (.inr (.inr (.inr (.inl ⟨rfl, r.day, wds_days (fun e => h0 (by rw [e]; rfl)) h.day, by simp [ruSet]⟩)))))
  · split at hp
    · cases hp
    · rw [List.mem_singleton] at hp
      subst hp
      exact .inr (.inr (.inr (.inr (.inl ⟨rfl, r.wkst, ixS_wday h.wkst.1 h.wkst.2, h.wkst.1, by simp [ruSet]⟩))))
theorem sfold_kvs {r : Ru} (h : Wr r) : ∀ {L : List KV} (q : Ru), (∀ p ∈ L, p ∈ kvs r) → SFold q L (ruMix r (L.map (·.1)) q)
  | [], q, _ => by
    show ruMix r [] q = q
    unfold ruMix
    simp
  | p :: L, q, hL => by
    refine ⟨ruSet r q p.1, sput_kv h (hL p (by simp)) q, ?_⟩
    rw [List.map_cons, ← ruMix_set]
    exact sfold_kvs h _ fun p' hp' => hL p' (List.mem_cons_of_mem _ hp')
/-- How long a rule's text may be. -/
theorem kv_small {r : Ru} (h : Wr r) {p : KV} (hp : p ∈ kvs r) : (kvT p).length ≤ 83 := by
  have hk := kvs_ok r p hp
  have e1 : (kvT p).length = p.1.length + (p.2.length + 1) := by unfold kvT; rw [List.length_append, List.length_cons]
  have hv : p.2.length ≤ 72 := by
    unfold kvs at hp
    simp only [List.mem_append] at hp
    rcases hp with (((((hp | hp) | hp) | hp) | hp) | hp) | hp
    · rw [List.mem_singleton] at hp
      subst hp
      have := (freq_text h.freq).2.2
      exact Nat.le_trans this (by omega)
    · split at hp
      · rename_i hu
        rw [List.mem_singleton] at hp
        subst hp
        have ht := h.til hu
        show (dateText r.til).length ≤ 72
        rw [dateText_eq, List.length_append, dateB_len ht.1.1 ht.1.2]
        simp
      · cases hp
    · split at hp
      · rw [List.mem_singleton] at hp
        subst hp
        have := (atoi_itoa (n := r.count) (by have := h.count; omega) h.count.2).2.1
        exact Nat.le_trans this (by omega)
      · cases hp
    · split at hp
      · rw [List.mem_singleton] at hp
        subst hp
        have := (atoi_itoa (n := r.interval) (by have := h.interval; omega) h.interval.2).2.1
        exact Nat.le_trans this (by omega)
      · cases hp
    · rcases hp with (((((((hp | hp) | hp) | hp) | hp) | hp) | hp) | hp) | hp
      · obtain ⟨rfl, h0⟩ := kOne_mem hp; exact joined_small h.second
      · obtain ⟨rfl, h0⟩ := kOne_mem hp; exact joined_small h.minute
      · obtain ⟨rfl, h0⟩ := kOne_mem hp; exact joined_small h.hour
      · obtain ⟨rfl, h0⟩ := kOne_mem hp; exact joined_small h.monthDay
      · obtain ⟨rfl, h0⟩ := kOne_mem hp; exact joined_small h.yearDay
      · obtain ⟨rfl, h0⟩ := kOne_mem hp; exact joined_small h.weekNo
      · obtain ⟨rfl, h0⟩ := kOne_mem hp; exact joined_small h.month
      · obtain ⟨rfl, h0⟩ := kOne_mem hp; exact joined_small h.setPos
      · obtain ⟨rfl, h0⟩ := kOne_mem hp; exact joined_small h.easter
    · split at hp
      · cases hp
      · rw [List.mem_singleton] at hp
        subst hp
        exact days_small h.day
    · split at hp
      · cases hp
      · rw [List.mem_singleton] at hp
        subst hp
        have := (wkst_text h.wkst.1 h.wkst.2).2
        show (wdays.getD r.wkst.toNat []).length ≤ 72
        omega
  have := hk.2.2.1
  omega
end Go.Proofs.YtlfpjdcogkcjlaaGreatDoor.F
/- Rules that say the same. -/
namespace Go.Proofs.YtlfpjdcogkcjlaaGreatDoor.AL
open Go.RowKit
set_option linter.unusedVariables false
variable {P : Program}
theorem bin_neq_bool {t : TypeId} {xo yo : Operand} {a b : Bool} (h : P.underlying t = some .bool) : binA P .neq t xo yo (vB a) (vB b) = some (vB (!(a == b))) := by
  have h1 : pureRun P (eqGuard .neq t xo yo (.bool a) (.bool b)) = some () := by unfold eqGuard; cases xo <;> rfl
  have h2 : pureRun P (binOp .neq t (.bool a) (.bool b)) = some (.bool (!(a == b))) := by
    show pureRun P (Op.equal t (.bool a) (.bool b) >>= fun r => pure (Value.bool (!r))) = _
    rw [pureRun_bind]
    unfold Op.equal Op.maxDepth
    rw [Op.equalIn, pureRun_bind, pureRun_underlying h]
    rfl
  simp only [binA, plain, pureRun_bind, h1, h2, Option.bind_some, Option.map_some]
end Go.Proofs.YtlfpjdcogkcjlaaGreatDoor.AL
namespace Go.Proofs.YtlfpjdcogkcjlaaGreatDoor.F
open Go.RowKit Go.Proofs.YtlfpjdcogkcjlaaGreatDoor.AL Go.Proofs.YtlfpjdcogkcjlaaGreatDoor.B
set_option linter.unusedVariables false
set_option linter.unusedSimpArgs false
set_option maxRecDepth 20000
attribute [local irreducible] aops acode bindK bindV bindH callX callK condK guardK Kseq Kblk Knorm Kfun Kloop Kjoin outK AWp appendA Ktail
attribute [local go_sem] acode_skip acode_seq acode_region acode_cond acode_block acode_exit acode_ret acode_loop Kseq_normal Kseq_exit Kseq_ret Kblk_normal Kblk_ret Kblk_eq Kblk_ne Knorm_eq Kloop_normal Kloop_exit Kloop_ret Kjoin_normal Kjoin_exit Kjoin_ret condK_true condK_false bindK_put bindV_put bindK_no bindV_no bindH_no aops_nil gops wantK_some wantV_bool wantV_undef guardK_true guardK_false guardK_none aops_move aops_assign aops_pick aops_nilCheck aops_binOp aops_unOp aops_convert aops_fieldAddr aops_indexAddr aops_slice aops_index aops_extract aops_makeInterface aops_makeFunc aops_build aops_load aops_lookup aops_alloc aops_box aops_buildSlice aops_makeSlice aops_makeMap aops_store aops_insert aops_mapUpdate aops_len aops_append aops_call opA_tmp opA_const opA_global opA_func get_mk look_nil look_eq look_ne len_mk List.map_cons List.map_nil Option.map_some Option.map_none bin_add bin_sub bin_mul bin_quo bin_rem bin_eql bin_neq bin_lss bin_leq bin_gtr bin_geq bin_cat bin_seql bin_sneq bin_neq_ifc bin_eql_ifc bin_neq_nn bin_eql_nn bin_neq_ptr bin_eql_ptr bin_neq_pn isIfc_true isPtr_true bin_eql2 bin_neq2 aops_max max_int un_not un_neg lenA_K lenK_str lenK_nil lenK_sl lenK_array pick_bool pick_val bindV_ite bindK_ite bindH_ite slotV_sl slotK_some slotV_ptr slotR_some sliceV_sl cutK_some sliceV_str cutS_some bound_none bound_some indexA_str atS_some mkS fieldV_ptr loadV_ptr cellsK_ro cellsK_own loadK_one loadK_many storeA_ptr storeK_own allocA_some heap_len heap_get0 heap_get heap_set0 heap_set Kfun_ret Kfun_normal resA_nil resA_tmp resA_cell outK_some packA_one packA_nil packA_two List.length_cons List.length_nil List.getElem?_cons_zero List.getElem?_cons_succ List.set_cons_zero List.set_cons_succ List.cons_append List.nil_append List.append_assoc Nat.zero_add Nat.add_zero List.all_cons List.all_nil Value.oneCell' Bool.and_true Bool.and_self if_true if_false Bool.false_eq_true partsA buildV buildA fillA Option.bind_some putCells List.drop_succ_cons List.drop_zero List.take_succ_cons List.take_zero List.take_nil List.drop_nil and_self and_true true_and Option.some.injEq ne_eq not_false_eq_true Option.map_map List.getElem?_toArray beq_self_eq_true Bool.true_beq Bool.false_beq Bool.not_true Bool.not_false decide_true decide_false beq_true Nat.mul_one Nat.one_mul Nat.zero_mul bsA buildSliceA zerosN List.append_nil Int.toNat_natCast Int.toNat_zero boxA one_val one_ptr one_sl one_mp one_ifc one_fn avCells_agg avCells_val valCells_true valCells_agg avCells_ptr avCells_sl avCells_mp avCells_ifc avCells_fn app_cons app_nil lookupA insertA ifaceV extractA kd2 ars127 fp127 ars60 fp60 ars31 fp31 eq2_99 eq2_84 eq2_47 fp52 sz2 kd3 sz3 kd4 sz4 kd5 sz5 kd9 sz9 kd22 sz22 el22 kd23 sz23 el23 kd25 sz25 zc25 fp25 fo25_0 fo25_1 fo25_2 fo25_3 fo25_4 fo25_5 fo25_6 fo25_7 fo25_8 fo25_9 fo25_10 fo25_11 fo25_12 fo25_13 fo25_14 fo25_15 fo25_16 fo25_17 kd31 sz31 zc31 ar31 kd32 sz32 el32 kd34 sz34 zc34 fp34 fo34_0 fo34_1 fo34_2 fo34_3 fo34_4 fo34_5 fo34_6 fo34_7 fo34_8 fo34_9 fo34_10 fo34_11 fo34_12 fo34_13 fo34_14 fo34_15 fo34_16 fo34_17 el38 el42 kd47 sz47 zc47 fp47 fo47_0 fo47_1 kd52 sz52 zc52 fo52_0 el55 zc60 kd72 sz72 zc72 fp72 fo72_0 fo72_1 el73 kd80 sz80 kd84 sz84 zc84 fp84 fo84_0 fo84_1 kd88 sz88 zc88 fp88 fo88_0 fo88_1 fo88_2 fo88_3 kd91 sz91 zc91 fp91 fo91_0 fo91_1 fo91_2 el94 kd99 sz99 zc99 fp99 fo99_0 fo99_1 kd100 sz100 el100 kd102 sz102 zc102 fp102 fo102_0 fo102_1 fo102_2 fo102_3 fo102_4 fo102_5 fo102_6 fo102_7 fo102_8 fo102_9 fo102_10 fo102_11 fo102_12 fo102_13 fo102_14 fo102_15 kd109 sz109 zc109 fp109 isStrMap124 zv80 zc127 kd153 sz153 zc153 ar153 isIface157 kd159 sz159 zc159 fp159 isStrMap177 zv84 Tryz.underlying3 Tryz.underlying4 Tryz.underlying5 Tryz.underlying9 Tryz.underlying21 Tryz.underlying22 Tryz.underlying23 Tryz.underlying32 Tryz.underlying38 Tryz.underlying42 Tryz.underlying47 Tryz.underlying55 Tryz.underlying67 Tryz.underlying73 Tryz.underlying80 Tryz.underlying84 Tryz.underlying94 Tryz.underlying100 Tryz.underlying2 Tryz.underlying127 Tryz.underlying60 Tryz.underlying31 kd55 ai60 ai127 indexA_agg atK_some isStrMap76 zv4 Ktail_eq opsOf_nil opsOf_cons consO_some
theorem equalI_A {w0 : World} (l l' : List Int) (hl : l.length ≤ 1000000000) (hl' : l'.length ≤ 1000000000) (x y : AV) (H : Heap) (hx : IntsAt H x l) (hy : IntsAt H y l') : ACalls Tryz.prog (CB w0) 63 [x, y] H fun r H' => r = vB (decide (l = l')) ∧ H' = H := by
  refine A_fun (N := 26) (rs := [.tmp 4]) Tryz.func63 rfl rfl rfl (by kernel_rfl) (by kernel_rfl) (Nat.le_of_ble_eq_true rfl) ?_
  rintro e he ⟨g0, g1, -⟩
  have h1 := hx.len 3
  have h2 := hy.len 3
  simp only [go_sem, Nat.reduceLT, Nat.reduceBEq, Nat.reduceAdd, Int.reduceBEq, Nat.reduceLeDiff, reduceIte, Nat.reduceEqDiff, Int.reduceEq, Int.reduceLE, Int.reduceLT, Int.reduceNe, Nat.reduceMul, Nat.reduceSub, Int.reduceToNat, he, g0, g1, h1, h2]
  refine condK_of (fun hc => ?_) fun hc => ?_
  · have hc : ¬ ((l.length : Int) = l'.length) := by simpa using hc
    simp only [go_sem, Nat.reduceLT, Nat.reduceBEq, Nat.reduceAdd, Int.reduceBEq, Nat.reduceLeDiff, reduceIte, Nat.reduceEqDiff, Int.reduceEq, Int.reduceLE, Int.reduceLT, Int.reduceNe, Nat.reduceMul, Nat.reduceSub, Int.reduceToNat, he, g0, g1]
    rw [decide_eq_false (by intro e; exact hc (by rw [e]))]
  · have hc : (l.length : Int) = l'.length := by simpa using hc
    simp only [go_sem, Nat.reduceLT, Nat.reduceBEq, Nat.reduceAdd, Int.reduceBEq, Nat.reduceLeDiff, reduceIte, Nat.reduceEqDiff, Int.reduceEq, Int.reduceLE, Int.reduceLT, Int.reduceNe, Nat.reduceMul, Nat.reduceSub, Int.reduceToNat, he, g0, g1, h1]
    refine A_while l.length (fun k e h => h = H ∧ len e = 26 ∧ AL.get e 0 = x ∧ AL.get e 1 = y ∧ AL.get e 12 = vI l.length ∧ ∃ i : Nat, AL.get e 13 = vI i ∧ i + k = l.length ∧ ∀ j, j < i → l.getD j 0 = l'.getD j 0) (by kernel_rfl) ?_ ?_
    · simp only [go_sem, Nat.reduceLT, Nat.reduceBEq, Nat.reduceAdd, Int.reduceBEq, Nat.reduceLeDiff, reduceIte, Nat.reduceEqDiff, Int.reduceEq, Int.reduceLE, Int.reduceLT, Int.reduceNe, Nat.reduceMul, Nat.reduceSub, Int.reduceToNat, he, g0, g1]
      exact ⟨0, rfl, by omega, fun j hj => by omega⟩
    · rintro k e h ⟨rfl, he, g0, g1, g12, i, g13, hik, hs⟩
      have wi : IntKind.i64.wrap ((i : Int) + 1) = ((i + 1 : Nat) : Int) := by rw [wI64 (by omega)]; rfl
      simp only [go_sem, Nat.reduceLT, Nat.reduceBEq, Nat.reduceAdd, Int.reduceBEq, Nat.reduceLeDiff, reduceIte, Nat.reduceEqDiff, Int.reduceEq, Int.reduceLE, Int.reduceLT, Int.reduceNe, Nat.reduceMul, Nat.reduceSub, Int.reduceToNat, he, g0, g1, g12, g13]
      refine condK_of (fun hc => ?_) fun hc => ?_
      · have hc := of_decide_eq_true hc
        obtain ⟨own, o, off, cs, rfl, hcs, hci⟩ := hx.get (i := i) (by omega)
        obtain ⟨own', o', off', cs', rfl, hcs', hci'⟩ := hy.get (i := i) (by omega)
        simp only [go_sem, Nat.reduceLT, Nat.reduceBEq, Nat.reduceAdd, Int.reduceBEq, Nat.reduceLeDiff, reduceIte, Nat.reduceEqDiff, Int.reduceEq, Int.reduceLE, Int.reduceLT, Int.reduceNe, Nat.reduceMul, Nat.reduceSub, Int.reduceToNat, he, g0, g1, g12, g13]
        refine acode_draw mixed (by kernel_rfl) ?_
        generalize ha : l.getD i 0 = a at *
        generalize hb : l'.getD i 0 = b at *
        simp only [go_sem, Nat.reduceLT, Nat.reduceBEq, Nat.reduceAdd, Int.reduceBEq, Nat.reduceLeDiff, reduceIte, Nat.reduceEqDiff, Int.reduceEq, Int.reduceLE, Int.reduceLT, Int.reduceNe, Nat.reduceMul, Nat.reduceSub, Int.reduceToNat, he, g0, g1, g12, g13, hcs, hcs', hci, hci', Int.toNat_natCast]
        refine ⟨by omega, by omega, condK_of (fun hq => ?_) fun hq => ?_⟩
        · have hq : ¬ a = b := by simpa using hq
          simp only [go_sem, Nat.reduceLT, Nat.reduceBEq, Nat.reduceAdd, Int.reduceBEq, Nat.reduceLeDiff, reduceIte, Nat.reduceEqDiff, Int.reduceEq, Int.reduceLE, Int.reduceLT, Int.reduceNe, Nat.reduceMul, Nat.reduceSub, Int.reduceToNat, he, g0, g1, g12, g13]
          rw [decide_eq_false (by rintro rfl; exact hq (ha.symm.trans hb))]
        · have hq : a = b := by simpa using hq
          simp only [go_sem, Nat.reduceLT, Nat.reduceBEq, Nat.reduceAdd, Int.reduceBEq, Nat.reduceLeDiff, reduceIte, Nat.reduceEqDiff, Int.reduceEq, Int.reduceLE, Int.reduceLT, Int.reduceNe, Nat.reduceMul, Nat.reduceSub, Int.reduceToNat, he, g0, g1, g12, g13, wi]
          refine ⟨k - 1, by omega, i + 1, rfl, by omega, fun j hj => ?_⟩
          rcases Nat.lt_or_ge j i with h1 | h1
          · exact hs j h1
          · obtain rfl : j = i := by omega
            rw [ha, hb, hq]
      · have hc := of_decide_eq_false hc
        simp only [go_sem, Nat.reduceLT, Nat.reduceBEq, Nat.reduceAdd, Int.reduceBEq, Nat.reduceLeDiff, reduceIte, Nat.reduceEqDiff, Int.reduceEq, Int.reduceLE, Int.reduceLT, Int.reduceNe, Nat.reduceMul, Nat.reduceSub, Int.reduceToNat, he, g0, g1, g12, g13]
        rw [decide_eq_true (list_ext_getD (by omega) fun j hj => hs j (by omega))]
theorem DaysAt.get {H : Heap} {x : AV} {l : List (Int × Int)} (hx : DaysAt H x l) {i : Nat} (hi : i < l.length) : ∃ own o off cs, x = .sl own o off l.length 2 ∧ cellsK H[o]? = some cs ∧ off + i * 2 + 2 ≤ cs.length ∧ (cs.drop (off + i * 2)).take 2 = [vI (l.getD i (0, 0)).1, vI (l.getD i (0, 0)).2] := by
  rcases hx with ⟨rfl, h0⟩ | ⟨own, o, off, cs, rfl, hcs, hcell⟩
  · omega
  · obtain ⟨h1, h2⟩ := days_load (H := H) hcell hi
    exact ⟨own, o, off, cs, rfl, hcs, h1, h2⟩
theorem equalD_A {w0 : World} (l : List (Int × Int)) (hl : l.length ≤ 1000000000) (x y : AV) (H : Heap) (hx : DaysAt H x l) (hy : DaysAt H y l) : ACalls Tryz.prog (CB w0) 64 [x, y] H fun r H' => r = vB true ∧ H' = H := by
  refine A_fun (N := 26) (rs := [.tmp 4]) Tryz.func64 rfl rfl rfl (by kernel_rfl) (by kernel_rfl) (Nat.le_of_ble_eq_true rfl) ?_
  rintro e he ⟨g0, g1, -⟩
  have h1 := hx.len 47
  have h2 := hy.len 47
  have d0 : decide ((l.length : Int) = (l.length : Int)) = true := decide_eq_true rfl
  simp only [go_sem, Nat.reduceLT, Nat.reduceBEq, Nat.reduceAdd, Int.reduceBEq, Nat.reduceLeDiff, reduceIte, Nat.reduceEqDiff, Int.reduceEq, Int.reduceLE, Int.reduceLT, Int.reduceNe, Nat.reduceMul, Nat.reduceSub, Int.reduceToNat, he, g0, g1, h1, h2, d0]
  refine A_while l.length (fun k e h => h = H ∧ len e = 26 ∧ AL.get e 0 = x ∧ AL.get e 1 = y ∧ AL.get e 12 = vI l.length ∧ ∃ i : Nat, AL.get e 13 = vI i ∧ i + k = l.length) (by kernel_rfl) ?_ ?_
  · simp only [go_sem, Nat.reduceLT, Nat.reduceBEq, Nat.reduceAdd, Int.reduceBEq, Nat.reduceLeDiff, reduceIte, Nat.reduceEqDiff, Int.reduceEq, Int.reduceLE, Int.reduceLT, Int.reduceNe, Nat.reduceMul, Nat.reduceSub, Int.reduceToNat, he, g0, g1]
    exact ⟨0, rfl, by omega⟩
  · rintro k e h ⟨rfl, he, g0, g1, g12, i, g13, hik⟩
    have wi : IntKind.i64.wrap ((i : Int) + 1) = ((i + 1 : Nat) : Int) := by rw [wI64 (by omega)]; rfl
    simp only [go_sem, Nat.reduceLT, Nat.reduceBEq, Nat.reduceAdd, Int.reduceBEq, Nat.reduceLeDiff, reduceIte, Nat.reduceEqDiff, Int.reduceEq, Int.reduceLE, Int.reduceLT, Int.reduceNe, Nat.reduceMul, Nat.reduceSub, Int.reduceToNat, he, g0, g1, g12, g13]
    refine condK_of (fun hc => ?_) fun hc => ?_
    · have hc := of_decide_eq_true hc
      obtain ⟨own, o, off, cs, rfl, hcs, hc1, hc2⟩ := hx.get (i := i) (by omega)
      obtain ⟨own', o', off', cs', rfl, hcs', hc1', hc2'⟩ := hy.get (i := i) (by omega)
      simp only [go_sem, Nat.reduceLT, Nat.reduceBEq, Nat.reduceAdd, Int.reduceBEq, Nat.reduceLeDiff, reduceIte, Nat.reduceEqDiff, Int.reduceEq, Int.reduceLE, Int.reduceLT, Int.reduceNe, Nat.reduceMul, Nat.reduceSub, Int.reduceToNat, he, g0, g1, g12, g13]
      refine acode_draw mixed (by kernel_rfl) ?_
      generalize l.getD i (0, 0) = d at *
      have d1 : decide (d.1 = d.1) = true := decide_eq_true rfl
      have d2 : decide (d.2 = d.2) = true := decide_eq_true rfl
      simp only [go_sem, Nat.reduceLT, Nat.reduceBEq, Nat.reduceAdd, Int.reduceBEq, Nat.reduceLeDiff, reduceIte, Nat.reduceEqDiff, Int.reduceEq, Int.reduceLE, Int.reduceLT, Int.reduceNe, Nat.reduceMul, Nat.reduceSub, Int.reduceToNat, he, g0, g1, g12, g13, hcs, hcs', hc1, hc1', hc2, hc2', Int.toNat_natCast, d1, d2, Bool.true_and, wi]
      exact ⟨by omega, by omega, k - 1, by omega, i + 1, rfl, by omega⟩
    · have hc := of_decide_eq_false hc
      simp only [go_sem, Nat.reduceLT, Nat.reduceBEq, Nat.reduceAdd, Int.reduceBEq, Nat.reduceLeDiff, reduceIte, Nat.reduceEqDiff, Int.reduceEq, Int.reduceLE, Int.reduceLT, Int.reduceNe, Nat.reduceMul, Nat.reduceSub, Int.reduceToNat, he, g0, g1, g12, g13]
theorem equalT_A {w0 : World} (l : List Int) (hl : l.length ≤ 1000000) (x y : AV) (H : Heap) (hx : IntsAt H x l) (hy : IntsAt H y l) : ACalls Tryz.prog (CB w0) 63 [x, y] H fun r H' => r = vB true ∧ H' = H :=
  (equalI_A l l (by omega) (by omega) x y H hx hy).mono fun r H' h => ⟨by rw [h.1, decide_eq_true rfl], h.2⟩
structure Few (r : Ru) : Prop where
  setPos : r.setPos.length ≤ 1000000
  month : r.month.length ≤ 1000000
  monthDay : r.monthDay.length ≤ 1000000
  yearDay : r.yearDay.length ≤ 1000000
  weekNo : r.weekNo.length ≤ 1000000
  day : r.day.length ≤ 1000000
  hour : r.hour.length ≤ 1000000
  minute : r.minute.length ≤ 1000000
  second : r.second.length ≤ 1000000
  easter : r.easter.length ≤ 1000000
/-- Two writings of one rule. -/
theorem same_A {w0 : World} (r : Ru) (hl : Few r) (x y : Rs) (H : Heap) (hx : RuAt H r x) (hy : RuAt H r y) : ACalls Tryz.prog (CB w0) 34 [.agg (ruCells r x), .agg (ruCells r y)] H fun v H' => v = vB true ∧ H' = H := by
  refine ACalls.flat rfl ?_
  refine A_fun (N := 135) (rs := [.tmp 4]) Tryz.func34 rfl rfl rfl (by kernel_rfl) (by kernel_rfl) (Nat.le_of_ble_eq_true rfl) ?_
  rintro e he ⟨g0, g1, -⟩
  unfold ruCells at g0 g1
  have e0 : decide ((r.freq : Int) = (r.freq : Int)) = true := decide_eq_true rfl
  have e1 : decide (r.start = r.start) = true := decide_eq_true rfl
  have e2 : decide (r.interval = r.interval) = true := decide_eq_true rfl
  have e3 : decide (r.wkst = r.wkst) = true := decide_eq_true rfl
  have e4 : decide (r.count = r.count) = true := decide_eq_true rfl
  have e5 : decide (r.til = r.til) = true := decide_eq_true rfl
  have e6 : (r.hasStart == r.hasStart) = true := beq_self_eq_true _
  have e7 : (r.hasUntil == r.hasUntil) = true := beq_self_eq_true _
  have nb : ∀ a b : Bool, ∀ (xo yo : Operand), binA Tryz.prog .neq 4 xo yo (vB a) (vB b) = some (vB (!(a == b))) := fun a b xo yo => bin_neq_bool Tryz.underlying4
  simp only [go_sem, Nat.reduceLT, Nat.reduceBEq, Nat.reduceAdd, Int.reduceBEq, Nat.reduceLeDiff, reduceIte, Nat.reduceEqDiff, Int.reduceEq, Int.reduceLE, Int.reduceLT, Int.reduceNe, Nat.reduceMul, Nat.reduceSub, Int.reduceToNat, he, g0, g1, e0, e1, e2, e3, e4, e5, e6, e7, nb, hx.setPos.one, hy.setPos.one, hx.month.one, hy.month.one, hx.monthDay.one, hy.monthDay.one, hx.yearDay.one, hy.yearDay.one, hx.weekNo.one, hy.weekNo.one, hx.day.one, hy.day.one, hx.hour.one, hy.hour.one, hx.minute.one, hy.minute.one, hx.second.one, hy.second.one, hx.easter.one, hy.easter.one]
  cases hs : r.hasStart <;> cases hu : r.hasUntil
  all_goals
    simp only [go_sem, Nat.reduceLT, Nat.reduceBEq, Nat.reduceAdd, Int.reduceBEq, Nat.reduceLeDiff, reduceIte, Nat.reduceEqDiff, Int.reduceEq, Int.reduceLE, Int.reduceLT, Int.reduceNe, Nat.reduceMul, Nat.reduceSub, Int.reduceToNat, he, e0, e1, e2, e3, e4, e5, e6, e7, nb, hx.setPos.one, hy.setPos.one, hx.month.one, hy.month.one, hx.monthDay.one, hy.monthDay.one, hx.yearDay.one, hy.yearDay.one, hx.weekNo.one, hy.weekNo.one, hx.day.one, hy.day.one, hx.hour.one, hy.hour.one, hx.minute.one, hy.minute.one, hx.second.one, hy.second.one, hx.easter.one, hy.easter.one, hs, hu]
    refine callX_of (equalT_A r.setPos hl.setPos _ _ _ (hx.setPos.more _) (hy.setPos.more _)) (List.prefix_refl _) ?_
    simp only [go_sem, Nat.reduceLT, Nat.reduceBEq, Nat.reduceAdd, Int.reduceBEq, Nat.reduceLeDiff, reduceIte, Nat.reduceEqDiff, Int.reduceEq, Int.reduceLE, Int.reduceLT, Int.reduceNe, Nat.reduceMul, Nat.reduceSub, Int.reduceToNat, he, setD_some, hx.setPos.one, hy.setPos.one, hx.month.one, hy.month.one, hx.monthDay.one, hy.monthDay.one, hx.yearDay.one, hy.yearDay.one, hx.weekNo.one, hy.weekNo.one, hx.day.one, hy.day.one, hx.hour.one, hy.hour.one, hx.minute.one, hy.minute.one, hx.second.one, hy.second.one, hx.easter.one, hy.easter.one]
    refine callX_of (equalT_A r.month hl.month _ _ _ (hx.month.more _) (hy.month.more _)) (List.prefix_refl _) ?_
    simp only [go_sem, Nat.reduceLT, Nat.reduceBEq, Nat.reduceAdd, Int.reduceBEq, Nat.reduceLeDiff, reduceIte, Nat.reduceEqDiff, Int.reduceEq, Int.reduceLE, Int.reduceLT, Int.reduceNe, Nat.reduceMul, Nat.reduceSub, Int.reduceToNat, he, setD_some, hx.setPos.one, hy.setPos.one, hx.month.one, hy.month.one, hx.monthDay.one, hy.monthDay.one, hx.yearDay.one, hy.yearDay.one, hx.weekNo.one, hy.weekNo.one, hx.day.one, hy.day.one, hx.hour.one, hy.hour.one, hx.minute.one, hy.minute.one, hx.second.one, hy.second.one, hx.easter.one, hy.easter.one]
    refine callX_of (equalT_A r.monthDay hl.monthDay _ _ _ (hx.monthDay.more _) (hy.monthDay.more _)) (List.prefix_refl _) ?_
    simp only [go_sem, Nat.reduceLT, Nat.reduceBEq, Nat.reduceAdd, Int.reduceBEq, Nat.reduceLeDiff, reduceIte, Nat.reduceEqDiff, Int.reduceEq, Int.reduceLE, Int.reduceLT, Int.reduceNe, Nat.reduceMul, Nat.reduceSub, Int.reduceToNat, he, setD_some, hx.setPos.one, hy.setPos.one, hx.month.one, hy.month.one, hx.monthDay.one, hy.monthDay.one, hx.yearDay.one, hy.yearDay.one, hx.weekNo.one, hy.weekNo.one, hx.day.one, hy.day.one, hx.hour.one, hy.hour.one, hx.minute.one, hy.minute.one, hx.second.one, hy.second.one, hx.easter.one, hy.easter.one]
    refine callX_of (equalT_A r.yearDay hl.yearDay _ _ _ (hx.yearDay.more _) (hy.yearDay.more _)) (List.prefix_refl _) ?_
    simp only [go_sem, Nat.reduceLT, Nat.reduceBEq, Nat.reduceAdd, Int.reduceBEq, Nat.reduceLeDiff, reduceIte, Nat.reduceEqDiff, Int.reduceEq, Int.reduceLE, Int.reduceLT, Int.reduceNe, Nat.reduceMul, Nat.reduceSub, Int.reduceToNat, he, setD_some, hx.setPos.one, hy.setPos.one, hx.month.one, hy.month.one, hx.monthDay.one, hy.monthDay.one, hx.yearDay.one, hy.yearDay.one, hx.weekNo.one, hy.weekNo.one, hx.day.one, hy.day.one, hx.hour.one, hy.hour.one, hx.minute.one, hy.minute.one, hx.second.one, hy.second.one, hx.easter.one, hy.easter.one]
    refine callX_of (equalT_A r.weekNo hl.weekNo _ _ _ (hx.weekNo.more _) (hy.weekNo.more _)) (List.prefix_refl _) ?_
    simp only [go_sem, Nat.reduceLT, Nat.reduceBEq, Nat.reduceAdd, Int.reduceBEq, Nat.reduceLeDiff, reduceIte, Nat.reduceEqDiff, Int.reduceEq, Int.reduceLE, Int.reduceLT, Int.reduceNe, Nat.reduceMul, Nat.reduceSub, Int.reduceToNat, he, setD_some, hx.setPos.one, hy.setPos.one, hx.month.one, hy.month.one, hx.monthDay.one, hy.monthDay.one, hx.yearDay.one, hy.yearDay.one, hx.weekNo.one, hy.weekNo.one, hx.day.one, hy.day.one, hx.hour.one, hy.hour.one, hx.minute.one, hy.minute.one, hx.second.one, hy.second.one, hx.easter.one, hy.easter.one]
    refine callX_of (equalD_A r.day (by have := hl.day; omega) _ _ _ (hx.day.more _) (hy.day.more _)) (List.prefix_refl _) ?_
    simp only [go_sem, Nat.reduceLT, Nat.reduceBEq, Nat.reduceAdd, Int.reduceBEq, Nat.reduceLeDiff, reduceIte, Nat.reduceEqDiff, Int.reduceEq, Int.reduceLE, Int.reduceLT, Int.reduceNe, Nat.reduceMul, Nat.reduceSub, Int.reduceToNat, he, setD_some, hx.setPos.one, hy.setPos.one, hx.month.one, hy.month.one, hx.monthDay.one, hy.monthDay.one, hx.yearDay.one, hy.yearDay.one, hx.weekNo.one, hy.weekNo.one, hx.day.one, hy.day.one, hx.hour.one, hy.hour.one, hx.minute.one, hy.minute.one, hx.second.one, hy.second.one, hx.easter.one, hy.easter.one]
    refine callX_of (equalT_A r.hour hl.hour _ _ _ (hx.hour.more _) (hy.hour.more _)) (List.prefix_refl _) ?_
    simp only [go_sem, Nat.reduceLT, Nat.reduceBEq, Nat.reduceAdd, Int.reduceBEq, Nat.reduceLeDiff, reduceIte, Nat.reduceEqDiff, Int.reduceEq, Int.reduceLE, Int.reduceLT, Int.reduceNe, Nat.reduceMul, Nat.reduceSub, Int.reduceToNat, he, setD_some, hx.setPos.one, hy.setPos.one, hx.month.one, hy.month.one, hx.monthDay.one, hy.monthDay.one, hx.yearDay.one, hy.yearDay.one, hx.weekNo.one, hy.weekNo.one, hx.day.one, hy.day.one, hx.hour.one, hy.hour.one, hx.minute.one, hy.minute.one, hx.second.one, hy.second.one, hx.easter.one, hy.easter.one]
    refine callX_of (equalT_A r.minute hl.minute _ _ _ (hx.minute.more _) (hy.minute.more _)) (List.prefix_refl _) ?_
    simp only [go_sem, Nat.reduceLT, Nat.reduceBEq, Nat.reduceAdd, Int.reduceBEq, Nat.reduceLeDiff, reduceIte, Nat.reduceEqDiff, Int.reduceEq, Int.reduceLE, Int.reduceLT, Int.reduceNe, Nat.reduceMul, Nat.reduceSub, Int.reduceToNat, he, setD_some, hx.setPos.one, hy.setPos.one, hx.month.one, hy.month.one, hx.monthDay.one, hy.monthDay.one, hx.yearDay.one, hy.yearDay.one, hx.weekNo.one, hy.weekNo.one, hx.day.one, hy.day.one, hx.hour.one, hy.hour.one, hx.minute.one, hy.minute.one, hx.second.one, hy.second.one, hx.easter.one, hy.easter.one]
    refine callX_of (equalT_A r.second hl.second _ _ _ (hx.second.more _) (hy.second.more _)) (List.prefix_refl _) ?_
    simp only [go_sem, Nat.reduceLT, Nat.reduceBEq, Nat.reduceAdd, Int.reduceBEq, Nat.reduceLeDiff, reduceIte, Nat.reduceEqDiff, Int.reduceEq, Int.reduceLE, Int.reduceLT, Int.reduceNe, Nat.reduceMul, Nat.reduceSub, Int.reduceToNat, he, setD_some, hx.setPos.one, hy.setPos.one, hx.month.one, hy.month.one, hx.monthDay.one, hy.monthDay.one, hx.yearDay.one, hy.yearDay.one, hx.weekNo.one, hy.weekNo.one, hx.day.one, hy.day.one, hx.hour.one, hy.hour.one, hx.minute.one, hy.minute.one, hx.second.one, hy.second.one, hx.easter.one, hy.easter.one]
    refine callX_of (equalT_A r.easter hl.easter _ _ _ (hx.easter.more _) (hy.easter.more _)) (List.prefix_refl _) ?_
    simp only [go_sem, Nat.reduceLT, Nat.reduceBEq, Nat.reduceAdd, Int.reduceBEq, Nat.reduceLeDiff, reduceIte, Nat.reduceEqDiff, Int.reduceEq, Int.reduceLE, Int.reduceLT, Int.reduceNe, Nat.reduceMul, Nat.reduceSub, Int.reduceToNat, he, setD_some, hx.setPos.one, hy.setPos.one, hx.month.one, hy.month.one, hx.monthDay.one, hy.monthDay.one, hx.yearDay.one, hy.yearDay.one, hx.weekNo.one, hy.weekNo.one, hx.day.one, hy.day.one, hx.hour.one, hy.hour.one, hx.minute.one, hy.minute.one, hx.second.one, hy.second.one, hx.easter.one, hy.easter.one]
    exact ⟨_, rfl⟩
theorem textSame_A {w0 : World} (r : Ru) (hl : Few r) (a b : Int) (hab : max a 1 = max b 1) (x y : Rs) (H : Heap) (hx : RuAt H r x) (hy : RuAt H r y) : ACalls Tryz.prog (CB w0) 16 [.agg (ruCells { r with interval := a } x), .agg (ruCells { r with interval := b } y)] H fun v H' => v = vB true ∧ H' = H := by
  refine ACalls.flat rfl ?_
  refine A_fun (N := 16) (rs := [.tmp 4]) Tryz.func16 rfl rfl rfl (by kernel_rfl) (by kernel_rfl) (Nat.le_of_ble_eq_true rfl) ?_
  rintro e he ⟨g0, g1, -⟩
  unfold ruCells at g0 g1
  simp only at g0 g1
  simp only [go_sem, Nat.reduceLT, Nat.reduceBEq, Nat.reduceAdd, Int.reduceBEq, Nat.reduceLeDiff, reduceIte, Nat.reduceEqDiff, Int.reduceEq, Int.reduceLE, Int.reduceLT, Int.reduceNe, Nat.reduceMul, Nat.reduceSub, Int.reduceToNat, he, g0, g1, hx.setPos.one, hy.setPos.one, hx.month.one, hy.month.one, hx.monthDay.one, hy.monthDay.one, hx.yearDay.one, hy.yearDay.one, hx.weekNo.one, hy.weekNo.one, hx.day.one, hy.day.one, hx.hour.one, hy.hour.one, hx.minute.one, hy.minute.one, hx.second.one, hy.second.one, hx.easter.one, hy.easter.one]
  have sm := same_A (w0 := w0) { r with interval := max a 1 } ⟨hl.setPos, hl.month, hl.monthDay, hl.yearDay, hl.weekNo, hl.day, hl.hour, hl.minute, hl.second, hl.easter⟩ x y
  unfold ruCells at sm
  simp only at sm
  rw [hab] at sm
  refine acode_order2 [] 4 7 [0, 1, 2, 3, 4, 5, 6, 7, 8, 9] [0, 1, 2, 6, 7, 3, 4, 5, 8, 9] mixed (by kernel_rfl) (by kernel_rfl) rfl (by kernel_rfl) (by kernel_rfl) ?_ ?_
  all_goals
    simp only [go_sem, Nat.reduceLT, Nat.reduceBEq, Nat.reduceAdd, Int.reduceBEq, Nat.reduceLeDiff, reduceIte, Nat.reduceEqDiff, Int.reduceEq, Int.reduceLE, Int.reduceLT, Int.reduceNe, Nat.reduceMul, Nat.reduceSub, Int.reduceToNat, he, g0, g1, hab, hx.setPos.one, hy.setPos.one, hx.month.one, hy.month.one, hx.monthDay.one, hy.monthDay.one, hx.yearDay.one, hy.yearDay.one, hx.weekNo.one, hy.weekNo.one, hx.day.one, hy.day.one, hx.hour.one, hy.hour.one, hx.minute.one, hy.minute.one, hx.second.one, hy.second.one, hx.easter.one, hy.easter.one]
    refine callX_of (sm _ ⟨hx.setPos.more _, hx.month.more _, hx.monthDay.more _, hx.yearDay.more _, hx.weekNo.more _, hx.day.more _, hx.hour.more _, hx.minute.more _, hx.second.more _, hx.easter.more _⟩ ⟨hy.setPos.more _, hy.month.more _, hy.monthDay.more _, hy.yearDay.more _, hy.weekNo.more _, hy.day.more _, hy.hour.more _, hy.minute.more _, hy.second.more _, hy.easter.more _⟩) (List.prefix_refl _) ?_
    simp only [go_sem, Nat.reduceLT, Nat.reduceBEq, Nat.reduceAdd, Int.reduceBEq, Nat.reduceLeDiff, reduceIte, Nat.reduceEqDiff, Int.reduceEq, Int.reduceLE, Int.reduceLT, Int.reduceNe, Nat.reduceMul, Nat.reduceSub, Int.reduceToNat, he, setD_some]
    exact ⟨_, rfl⟩
theorem IntsOwn.ints {h : Heap} {x : AV} {l : List Int} (hx : IntsOwn h x l) : IntsAt h x l := by
  rcases hx with ⟨rfl, rfl⟩ | ⟨q, rfl, h1⟩
  · exact .inl ⟨rfl, rfl⟩
  · refine .inr ⟨true, q, 0, _, rfl, by rw [h1]; rfl, fun i hi => ?_⟩
    have hi : i < l.length := by omega
    rw [Nat.zero_add, List.getElem?_map]
    show Option.map vI l[i]? = some (vI (l.getD i 0))
    rw [List.getD_eq_getElem?_getD, List.getElem?_eq_getElem hi]
    rfl
theorem dcells_get : ∀ (l : List (Int × Int)) (i : Nat), i < l.length * 2 → (dcells l)[i]? = some (if i % 2 = 0 then vI (l.getD (i / 2) (0, 0)).1 else vI (l.getD (i / 2) (0, 0)).2)
  | [], i, h => by simp at h
  | d :: l, 0, h => rfl
  | d :: l, 1, h => rfl
  | d :: l, i + 2, h => by
    have := dcells_get l i (by simp only [List.length_cons] at h; omega)
    have e : dcells (d :: l) = vI d.1 :: vI d.2 :: dcells l := rfl
    rw [e, List.getElem?_cons_succ, List.getElem?_cons_succ, this, show (i + 2) % 2 = i % 2 by omega, show (i + 2) / 2 = i / 2 + 1 by omega]
    rfl
theorem DaysO.days {t : TypeId} {h : Heap} {x : AV} {l : List (Int × Int)} (hx : DaysO t h x l) : DaysAt h x l := by
  rcases hx with ⟨rfl, rfl⟩ | ⟨q, rfl, h1⟩
  · exact .inl ⟨rfl, rfl⟩
  · exact .inr ⟨true, q, 0, _, rfl, by rw [h1]; rfl, fun i hi => by rw [Nat.zero_add]; exact dcells_get l i hi⟩
theorem RuOwn.at {h : Heap} {r : Ru} {x : Rs} (hx : RuOwn h r x) : RuAt h r x := ⟨hx.setPos.ints, hx.month.ints, hx.monthDay.ints, hx.yearDay.ints, hx.weekNo.ints, hx.day.days, hx.hour.ints, hx.minute.ints, hx.second.ints, hx.easter.ints⟩
theorem RuW.at {h : Heap} {r : Ru} {x : Rs} (hx : RuW h r x) : RuAt h r x := ⟨hx.setPos.ints, hx.month.ints, hx.monthDay.ints, hx.yearDay.ints, hx.weekNo.ints, hx.day.days, hx.hour.ints, hx.minute.ints, hx.second.ints, hx.easter.ints⟩
theorem ofRule_A {w0 : World} (r : Ru) (hdl : r.day.length ≤ 1000000) (x : Rs) (H : Heap) (hx : RuAt H r x) : ACalls Tryz.prog (CB w0) 17 [.agg (ruCells r x)] H fun v H' => (∃ y, v = .agg (ruCells r y) ∧ RuAt H' r y) ∧ ∃ G, H' = H ++ G := by
  refine A_fun (N := 56) (rs := [.cell 2 25]) Tryz.func17 rfl rfl rfl (by kernel_rfl) (by kernel_rfl) (Nat.le_of_ble_eq_true rfl) ?_
  rintro e he ⟨g0, -⟩
  unfold ruCells at g0
  have hdl' := hx.day.len 52
  simp only [go_sem, Nat.reduceLT, Nat.reduceBEq, Nat.reduceAdd, Int.reduceBEq, Nat.reduceLeDiff, reduceIte, Nat.reduceEqDiff, Int.reduceEq, Int.reduceLE, Int.reduceLT, Int.reduceNe, Nat.reduceMul, Nat.reduceSub, Int.reduceToNat, he, g0, hdl', avCells_one hx.setPos.one, avCells_one hx.month.one, avCells_one hx.monthDay.one, avCells_one hx.yearDay.one, avCells_one hx.weekNo.one, avCells_one hx.hour.one, avCells_one hx.minute.one, avCells_one hx.second.one, avCells_one hx.easter.one, hx.setPos.one, hx.month.one, hx.monthDay.one, hx.yearDay.one, hx.weekNo.one, hx.day.one, hx.hour.one, hx.minute.one, hx.second.one, hx.easter.one]
  refine A_while r.day.length (fun k e h => ∃ (i : Nat) (y : AV) (z : List AV), i + k = r.day.length ∧ len e = 56 ∧ AL.get e 2 = .ptr (H.length + 1) 0 ∧ AL.get e 3 = .ptr (H.length + 2) 0 ∧ AL.get e 42 = x.day ∧ AL.get e 43 = vI r.day.length ∧ AL.get e 44 = vI i ∧ (∃ G, h = H ++ G) ∧ DaysB 47 H.length h y (r.day.take i) ∧ h[H.length + 1]? = some (.own 25 z) ∧ z.length = 18 ∧ h[H.length + 2]? = some (.own 25 (ruCells r { x with day := y }))) (by kernel_rfl) ?_ ?_
  · simp only [go_sem, Nat.reduceLT, Nat.reduceBEq, Nat.reduceAdd, Int.reduceBEq, Nat.reduceLeDiff, reduceIte, Nat.reduceEqDiff, Int.reduceEq, Int.reduceLE, Int.reduceLT, Int.reduceNe, Nat.reduceMul, Nat.reduceSub, Int.reduceToNat, he, g0]
    exact ⟨0, vNil, _, by omega, rfl, ⟨_, rfl⟩, .inl ⟨rfl, rfl⟩, rfl, rfl, rfl⟩
  · rintro k e h ⟨i, y, z, hik, he, g2, g3, g42, g43, g44, hG, hy, hz, hzl, hr⟩
    simp only [go_sem, Nat.reduceLT, Nat.reduceBEq, Nat.reduceAdd, Int.reduceBEq, Nat.reduceLeDiff, reduceIte, Nat.reduceEqDiff, Int.reduceEq, Int.reduceLE, Int.reduceLT, Int.reduceNe, Nat.reduceMul, Nat.reduceSub, Int.reduceToNat, he, g2, g3, g42, g43, g44]
    refine condK_of (fun hc => ?_) fun hc => ?_
    · have hc := of_decide_eq_true hc
      have hi : i < r.day.length := by omega
      have hxh : DaysAt h x.day r.day := by obtain ⟨G, rfl⟩ := hG; exact hx.day.more G
      obtain ⟨own, q, off, cs, e1, e2, e3, e4⟩ := hxh.get hi
      have wi : IntKind.i64.wrap ((i : Int) + 1) = ((i + 1 : Nat) : Int) := by rw [wI64 (by omega)]; rfl
      rw [e1] at g42
      generalize hd : r.day.getD i (0, 0) = d at *
      simp only [go_sem, Nat.reduceLT, Nat.reduceBEq, Nat.reduceAdd, Int.reduceBEq, Nat.reduceLeDiff, reduceIte, Nat.reduceEqDiff, Int.reduceEq, Int.reduceLE, Int.reduceLT, Int.reduceNe, Nat.reduceMul, Nat.reduceSub, Int.reduceToNat, he, g2, g3, g42, g43, g44, e2, e3, e4, Int.toNat_natCast]
      refine ⟨by omega, ?_⟩
      have hr' := get_more (G := [AObj.own 52 [vI d.1, vI d.2]]) hr
      unfold ruCells at hr'
      have hpush := (hy.more [AObj.own 52 [vI d.1, vI d.2]]).push el23 (by obtain ⟨G, rfl⟩ := hG; exact ⟨_, List.append_assoc _ _ _⟩) d (by rw [List.length_take]; omega)
      obtain ⟨x', h', ha, hy', hG', hkeep⟩ := hpush
      have htk : r.day.take (i + 1) = r.day.take i ++ [d] := by rw [List.take_add_one, ← hd, List.getD_eq_getElem?_getD, List.getElem?_eq_getElem hi]; rfl
      rw [← htk] at hy'
      simp only [go_sem, Nat.reduceLT, Nat.reduceBEq, Nat.reduceAdd, Int.reduceBEq, Nat.reduceLeDiff, reduceIte, Nat.reduceEqDiff, Int.reduceEq, Int.reduceLE, Int.reduceLT, Int.reduceNe, Nat.reduceMul, Nat.reduceSub, Int.reduceToNat, he, g2, g3, g42, g43, g44, hr'] at ha ⊢
      rw [ha]
      have hr2 := hkeep _ _ hr' (by intro cs; simp)
      have hz' := hkeep _ _ (get_more (G := [AObj.own 52 [vI d.1, vI d.2]]) hz) (by intro cs; simp)
      simp only [go_sem, Nat.reduceLT, Nat.reduceBEq, Nat.reduceAdd, Int.reduceBEq, Nat.reduceLeDiff, reduceIte, Nat.reduceEqDiff, Int.reduceEq, Int.reduceLE, Int.reduceLT, Int.reduceNe, Nat.reduceMul, Nat.reduceSub, Int.reduceToNat, he, g2, g3, g42, g43, g44, hr2, avCells_one hy'.one, wi]
      obtain ⟨G', rfl⟩ := hG'
      refine ⟨k - 1, by omega, i + 1, x', z, by omega, e1.symm, rfl, ⟨_, set_behind (by omega)⟩, hy'.putT hr2 (by decide) _, ?_, hzl, ?_⟩
      · rw [List.getElem?_set_ne (by omega)]; exact hz'
      · rw [List.getElem?_set_self (List.getElem?_eq_some_iff.1 hr2).1]; rfl
    · have hc := of_decide_eq_false hc
      have hi : i = r.day.length := by omega
      rw [hi, List.take_length] at hy
      have hlt1 := (List.getElem?_eq_some_iff.1 hz).1
      have hS : ∀ y : AObj, (h.set (H.length + 1) y)[H.length + 1]? = some y := fun y => List.getElem?_set_self hlt1
      have hr' := hr
      unfold ruCells at hr'
      have hz18 : z.drop 18 = [] := List.drop_eq_nil_of_le (by omega)
      simp only [go_sem, Nat.reduceLT, Nat.reduceBEq, Nat.reduceAdd, Int.reduceBEq, Nat.reduceLeDiff, reduceIte, Nat.reduceEqDiff, Int.reduceEq, Int.reduceLE, Int.reduceLT, Int.reduceNe, Nat.reduceMul, Nat.reduceSub, Int.reduceToNat, he, g2, g3, g42, g43, g44, hr', hz, hzl, hz18, hS, hy.one, Bool.true_and, hx.setPos.one, hx.month.one, hx.monthDay.one, hx.yearDay.one, hx.weekNo.one, hx.hour.one, hx.minute.one, hx.second.one, hx.easter.one]
      have hy2 := hy.own.putT (y := .own 25 (ruCells r { x with day := y })) hz (by decide)
      obtain ⟨G, rfl⟩ := hG
      have eset := set_behind (H := H) (G := G) (o := H.length + 1) (y := .own 25 (ruCells r { x with day := y })) (by omega)
      refine ⟨⟨{ x with day := y }, rfl, ?_⟩, _, eset⟩
      have hx2 : ∀ G, RuAt (H ++ G) r x := fun G => hx.more G
      have hd2 := hy2.days
      have eset' : List.set (H ++ G) (H.length + 1) (.own 25 [vU r.freq, vB r.hasStart, vI r.start, vI r.interval, vI r.wkst, vI r.count, vB r.hasUntil, vI r.til, x.setPos, x.month, x.monthDay, x.yearDay, x.weekNo, y, x.hour, x.minute, x.second, x.easter]) = H ++ List.set G (H.length + 1 - H.length) (.own 25 (ruCells r { x with day := y })) := eset
      rw [eset']
      rw [eset] at hd2
      exact ⟨(hx2 _).setPos, (hx2 _).month, (hx2 _).monthDay, (hx2 _).yearDay, (hx2 _).weekNo, hd2, (hx2 _).hour, (hx2 _).minute, (hx2 _).second, (hx2 _).easter⟩
end Go.Proofs.YtlfpjdcogkcjlaaGreatDoor.F
/- Texts of some of a rule's parts, in any order: what both readers make of them. -/
namespace Go.Proofs.YtlfpjdcogkcjlaaGreatDoor.F
open Go.RowKit Go.Proofs.YtlfpjdcogkcjlaaGreatDoor.AL Go.Proofs.YtlfpjdcogkcjlaaGreatDoor.B
set_option linter.unusedVariables false
set_option linter.unusedSimpArgs false
set_option maxRecDepth 20000
attribute [local irreducible] aops acode bindK bindV bindH callX callK condK guardK Kseq Kblk Knorm Kfun Kloop Kjoin outK AWp appendA Ktail
attribute [local go_sem] acode_skip acode_seq acode_region acode_cond acode_block acode_exit acode_ret acode_loop Kseq_normal Kseq_exit Kseq_ret Kblk_normal Kblk_ret Kblk_eq Kblk_ne Knorm_eq Kloop_normal Kloop_exit Kloop_ret Kjoin_normal Kjoin_exit Kjoin_ret condK_true condK_false bindK_put bindV_put bindK_no bindV_no bindH_no aops_nil gops wantK_some wantV_bool wantV_undef guardK_true guardK_false guardK_none aops_move aops_assign aops_pick aops_nilCheck aops_binOp aops_unOp aops_convert aops_fieldAddr aops_indexAddr aops_slice aops_index aops_extract aops_makeInterface aops_makeFunc aops_build aops_load aops_lookup aops_alloc aops_box aops_buildSlice aops_makeSlice aops_makeMap aops_store aops_insert aops_mapUpdate aops_len aops_append aops_call opA_tmp opA_const opA_global opA_func get_mk look_nil look_eq look_ne len_mk List.map_cons List.map_nil Option.map_some Option.map_none bin_add bin_sub bin_mul bin_quo bin_rem bin_eql bin_neq bin_lss bin_leq bin_gtr bin_geq bin_cat bin_seql bin_sneq bin_neq_ifc bin_eql_ifc bin_neq_nn bin_eql_nn bin_neq_ptr bin_eql_ptr bin_neq_pn isIfc_true isPtr_true bin_eql2 bin_neq2 aops_max max_int un_not un_neg lenA_K lenK_str lenK_nil lenK_sl lenK_array pick_bool pick_val bindV_ite bindK_ite bindH_ite slotV_sl slotK_some slotV_ptr slotR_some sliceV_sl cutK_some sliceV_str cutS_some bound_none bound_some indexA_str atS_some mkS fieldV_ptr loadV_ptr cellsK_ro cellsK_own loadK_one loadK_many storeA_ptr storeK_own allocA_some heap_len heap_get0 heap_get heap_set0 heap_set Kfun_ret Kfun_normal resA_nil resA_tmp resA_cell outK_some packA_one packA_nil packA_two List.length_cons List.length_nil List.getElem?_cons_zero List.getElem?_cons_succ List.set_cons_zero List.set_cons_succ List.cons_append List.nil_append List.append_assoc Nat.zero_add Nat.add_zero List.all_cons List.all_nil Value.oneCell' Bool.and_true Bool.and_self if_true if_false Bool.false_eq_true partsA buildV buildA fillA Option.bind_some putCells List.drop_succ_cons List.drop_zero List.take_succ_cons List.take_zero List.take_nil List.drop_nil and_self and_true true_and Option.some.injEq ne_eq not_false_eq_true Option.map_map List.getElem?_toArray beq_self_eq_true Bool.true_beq Bool.false_beq Bool.not_true Bool.not_false decide_true decide_false beq_true Nat.mul_one Nat.one_mul Nat.zero_mul bsA buildSliceA zerosN List.append_nil Int.toNat_natCast Int.toNat_zero boxA one_val one_ptr one_sl one_mp one_ifc one_fn avCells_agg avCells_val valCells_true valCells_agg avCells_ptr avCells_sl avCells_mp avCells_ifc avCells_fn app_cons app_nil lookupA insertA ifaceV extractA kd2 ars127 fp127 ars60 fp60 ars31 fp31 eq2_99 eq2_84 eq2_47 fp52 sz2 kd3 sz3 kd4 sz4 kd5 sz5 kd9 sz9 kd22 sz22 el22 kd23 sz23 el23 kd25 sz25 zc25 fp25 fo25_0 fo25_1 fo25_2 fo25_3 fo25_4 fo25_5 fo25_6 fo25_7 fo25_8 fo25_9 fo25_10 fo25_11 fo25_12 fo25_13 fo25_14 fo25_15 fo25_16 fo25_17 kd31 sz31 zc31 ar31 kd32 sz32 el32 kd34 sz34 zc34 fp34 fo34_0 fo34_1 fo34_2 fo34_3 fo34_4 fo34_5 fo34_6 fo34_7 fo34_8 fo34_9 fo34_10 fo34_11 fo34_12 fo34_13 fo34_14 fo34_15 fo34_16 fo34_17 el38 el42 kd47 sz47 zc47 fp47 fo47_0 fo47_1 kd52 sz52 zc52 fo52_0 el55 zc60 kd72 sz72 zc72 fp72 fo72_0 fo72_1 el73 kd80 sz80 kd84 sz84 zc84 fp84 fo84_0 fo84_1 kd88 sz88 zc88 fp88 fo88_0 fo88_1 fo88_2 fo88_3 kd91 sz91 zc91 fp91 fo91_0 fo91_1 fo91_2 el94 kd99 sz99 zc99 fp99 fo99_0 fo99_1 kd100 sz100 el100 kd102 sz102 zc102 fp102 fo102_0 fo102_1 fo102_2 fo102_3 fo102_4 fo102_5 fo102_6 fo102_7 fo102_8 fo102_9 fo102_10 fo102_11 fo102_12 fo102_13 fo102_14 fo102_15 kd109 sz109 zc109 fp109 isStrMap124 zv80 zc127 kd153 sz153 zc153 ar153 isIface157 kd159 sz159 zc159 fp159 isStrMap177 zv84 Tryz.underlying3 Tryz.underlying4 Tryz.underlying5 Tryz.underlying9 Tryz.underlying21 Tryz.underlying22 Tryz.underlying23 Tryz.underlying32 Tryz.underlying38 Tryz.underlying42 Tryz.underlying47 Tryz.underlying55 Tryz.underlying67 Tryz.underlying73 Tryz.underlying80 Tryz.underlying84 Tryz.underlying94 Tryz.underlying100 Tryz.underlying2 Tryz.underlying127 Tryz.underlying60 Tryz.underlying31 kd55 ai60 ai127 indexA_agg atK_some isStrMap76 zv4 Ktail_eq opsOf_nil opsOf_cons consO_some
def allKeys : List (List UInt8) := [[70, 82, 69, 81], [85, 78, 84, 73, 76], [67, 79, 85, 78, 84], [73, 78, 84, 69, 82, 86, 65, 76], [66, 89, 83, 69, 67, 79, 78, 68], [66, 89, 77, 73, 78, 85, 84, 69], [66, 89, 72, 79, 85, 82], [66, 89, 77, 79, 78, 84, 72, 68, 65, 89], [66, 89, 89, 69, 65, 82, 68, 65, 89], [66, 89, 87, 69, 69, 75, 78, 79], [66, 89, 77, 79, 78, 84, 72], [66, 89, 83, 69, 84, 80, 79, 83], [66, 89, 69, 65, 83, 84, 69, 82], [66, 89, 68, 65, 89], [87, 75, 83, 84]]
theorem sub_ite {c : Prop} [Decidable c] {k v : List UInt8} : ((if c then [(k, v)] else [] : List KV).map (·.1)).Sublist [k] := by
  split
  · exact List.Sublist.refl _
  · exact List.nil_sublist _
theorem sub_ite' {c : Prop} [Decidable c] {k v : List UInt8} : ((if c then [] else [(k, v)] : List KV).map (·.1)).Sublist [k] := by
  split
  · exact List.nil_sublist _
  · exact List.Sublist.refl _
theorem kOne_sub {k : List UInt8} {l : List Int} : ((kOne k l).map (·.1)).Sublist [k] := sub_ite'
theorem kvs_keys (r : Ru) : ((kvs r).map (·.1)).Sublist allKeys := by
  unfold kvs
  simp only [List.map_append]
  have e : allKeys = [[70, 82, 69, 81]] ++ [[85, 78, 84, 73, 76]] ++ [[67, 79, 85, 78, 84]] ++ [[73, 78, 84, 69, 82, 86, 65, 76]] ++ ([[66, 89, 83, 69, 67, 79, 78, 68]] ++ [[66, 89, 77, 73, 78, 85, 84, 69]] ++ [[66, 89, 72, 79, 85, 82]] ++ [[66, 89, 77, 79, 78, 84, 72, 68, 65, 89]] ++ [[66, 89, 89, 69, 65, 82, 68, 65, 89]] ++ [[66, 89, 87, 69, 69, 75, 78, 79]] ++ [[66, 89, 77, 79, 78, 84, 72]] ++ [[66, 89, 83, 69, 84, 80, 79, 83]] ++ [[66, 89, 69, 65, 83, 84, 69, 82]]) ++ [[66, 89, 68, 65, 89]] ++ [[87, 75, 83, 84]] := rfl
  rw [e]
  exact (((((((List.Sublist.refl _).append sub_ite).append sub_ite).append sub_ite).append ((((((((kOne_sub.append kOne_sub).append kOne_sub).append kOne_sub).append kOne_sub).append kOne_sub).append kOne_sub).append kOne_sub).append kOne_sub)).append sub_ite').append sub_ite')
theorem kvs_nodup (r : Ru) : ((kvs r).map (·.1)).Nodup := (kvs_keys r).nodup (by decide)
theorem kvs_len (r : Ru) : (kvs r).length ≤ 15 := by
  have := (kvs_keys r).length_le
  simpa [allKeys] using this
theorem kvs_head (r : Ru) : ∃ T, kvs r = ([70, 82, 69, 81], freqs.getD r.freq []) :: T := ⟨(kvs r).tail, rfl⟩
/-- A text of some of a rule's parts is one that the parser takes. -/
theorem sub_inText {r : Ru} (h : Wr r) {L : List KV} (hL : Sub r L) (hl : L.length ≤ 15) : InText (joinB 59 (L.map kvT)) := by
  have hne : L ≠ [] := fun e => by have := hL.freq; rw [e] at this; cases this
  refine inText_of (joinB_vis rfl fun s hs => ?_) ?_ ?_ ?_
  · obtain ⟨p, hp, rfl⟩ := List.mem_map.1 hs
    exact parts_vis (r := r) _ (by rw [← kvs_parts]; exact List.mem_map.2 ⟨p, hL.mem p hp, rfl⟩)
  · have := joinB_length 59 83 (L.map kvT) (fun s hs => by
      obtain ⟨p, hp, rfl⟩ := List.mem_map.1 hs
      exact kv_small h (hL.mem p hp))
    rw [List.length_map] at this
    have : 84 * L.length ≤ 84 * 15 := Nat.mul_le_mul_left _ hl
    omega
  · match L, hne with
    | p :: L', _ =>
      have hk : p.1 ∈ allKeys := (kvs_keys r).subset (List.mem_map.2 ⟨p, hL.mem p (by simp), rfl⟩)
      have hall : (allKeys.all fun k => match k with | c :: _ => c != 82 | [] => false) = true := by decide
      have h1 := List.all_eq_true.1 hall _ hk
      have hh : (joinB 59 ((p :: L').map kvT)).head? = p.1.head? := by
        cases hp : p.1 with
        | nil => rw [hp] at h1; cases h1
        | cons c t =>
          have e : kvT p = c :: (t ++ 61 :: p.2) := by unfold kvT; rw [hp]; rfl
          cases L' with
          | nil => show (kvT p).head? = _; rw [e]; rfl
          | cons b r => show (kvT p ++ 59 :: _).head? = _; rw [e]; rfl
      rw [hh]
      cases hp : p.1 with
      | nil => rw [hp] at h1; cases h1
      | cons c t =>
        rw [hp] at h1
        simp only [bne_iff_ne] at h1
        intro e
        exact h1 (Option.some.inj e)
  · rw [sub_split hL]
    intro a ha k v hkv hk
    obtain ⟨p, hp, rfl⟩ := List.mem_map.1 ha
    have ho := kvs_ok _ p (hL.mem p hp)
    rw [split_kv ho] at hkv
    simp only [List.cons.injEq, and_true] at hkv
    obtain ⟨rfl, rfl⟩ := hkv
    rcases hk with hk | hk
    · exact ho.2.2.2.2 hk
    · exact absurd hk ho.2.2.2.1
theorem sub_len {r : Ru} (h : Wr r) {L : List KV} (hL : Sub r L) (hl : L.length ≤ 15) : (joinB 59 (L.map kvT)).length ≤ 1260 := by
  have := joinB_length 59 83 (L.map kvT) (fun s hs => by
    obtain ⟨p, hp, rfl⟩ := List.mem_map.1 hs
    exact kv_small h (hL.mem p hp))
  rw [List.length_map] at this
  have : 84 * L.length ≤ 84 * 15 := Nat.mul_le_mul_left _ hl
  omega
/-- What the package reads and what the specification reads say the same. -/
theorem mix_same {r : Ru} (h : Wr r) {S : List (List UInt8)} (hS : [85, 78, 84, 73, 76] ∈ S → r.hasUntil = true) : ruOf (opMix r S op0) = { ruMix r S ruQ0 with interval := if [73, 78, 84, 69, 82, 86, 65, 76] ∈ S then r.interval else 0 } := by
  have hf := h.freq
  unfold ruOf opMix ruMix op0 ruQ0
  simp only [Ru.mk.injEq, and_true, true_and, decide_true, Bool.not_true]
  refine ⟨?_, ?_, ?_⟩
  · split <;> omega
  · split <;> rfl
  · split
    · rename_i hu
      have := h.til (hS hu)
      simp [this.2]
    · rfl
theorem mix_few {r : Ru} (h : Wr r) (S : List (List UInt8)) : Few (ruMix r S ruQ0) := by
  have key : ∀ {K : List UInt8} {l : List Int}, Small l → (if K ∈ S then l else []).length ≤ 1000000 := by
    intro K l hl
    split
    · have := hl.1; omega
    · simp
  refine ⟨key h.setPos, key h.month, key h.monthDay, key h.yearDay, key h.weekNo, ?_, key h.hour, key h.minute, key h.second, key h.easter⟩
  show (if _ ∈ S then r.day else []).length ≤ _
  split
  · have := h.day.1; omega
  · simp
theorem until_in {r : Ru} (L : List KV) (hL : ∀ p ∈ L, p ∈ kvs r) (hu : [85, 78, 84, 73, 76] ∈ L.map (·.1)) : r.hasUntil = true := by
  obtain ⟨p, hp, e⟩ := List.mem_map.1 hu
  have hm := hL p hp
  unfold kvs at hm
  simp only [List.mem_append] at hm
  have ne1 : ∀ {K : List UInt8} {l : List Int}, p ∈ kOne K l → p.1 = K := fun hm => by rw [(kOne_mem hm).1]
  rcases hm with (((((hm | hm) | hm) | hm) | hm) | hm) | hm
  · rw [List.mem_singleton] at hm
    subst hm
    exact absurd e (by show ¬ ([70, 82, 69, 81] : List UInt8) = _; decide)
  · split at hm
    · assumption
    · cases hm
  · split at hm
    · rw [List.mem_singleton] at hm
      subst hm
      exact absurd e (by show ¬ ([67, 79, 85, 78, 84] : List UInt8) = _; decide)
    · cases hm
  · split at hm
    · rw [List.mem_singleton] at hm
      subst hm
      exact absurd e (by show ¬ ([73, 78, 84, 69, 82, 86, 65, 76] : List UInt8) = _; decide)
    · cases hm
  · rcases hm with (((((((hm | hm) | hm) | hm) | hm) | hm) | hm) | hm) | hm
    all_goals exact absurd ((ne1 hm).symm.trans e) (by decide)
  · split at hm
    · cases hm
    · rw [List.mem_singleton] at hm
      subst hm
      exact absurd e (by show ¬ ([66, 89, 68, 65, 89] : List UInt8) = _; decide)
  · split at hm
    · cases hm
    · rw [List.mem_singleton] at hm
      subst hm
      exact absurd e (by show ¬ ([87, 75, 83, 84] : List UInt8) = _; decide)
/-- The specification reads a text of some of a rule's parts. -/
theorem read_sub {w0 : World} {r : Ru} (h : Wr r) {L : List KV} (hL : Sub r L) (hl : L.length ≤ 15) (hnd : (L.map (·.1)).Nodup) (H : Heap) :
    ACalls Tryz.prog (CB w0) 19 [vS (joinB 59 (L.map kvT))] H fun v H' => (∃ x, v = .tup [.agg (ruCells (ruMix r (L.map (·.1)) ruQ0) x), vB true] ∧ RuW H' (ruMix r (L.map (·.1)) ruQ0) x) ∧ ∃ G, H' = H ++ G :=
  read_A _ (by have := sub_len h hL hl; omega) L (sub_split hL) (fun p hp => split_kv (kvs_ok r p (hL.mem p hp))) hnd hL.freq _ (sfold_kvs h ruQ0 hL.mem) H

theorem erase_snoc {α : Type} {l : List α} {i j : Nat} {a : α} (h : l[i]? = some a) : (l.take (i + 1)).eraseIdx j = if i = j then (l.take i).eraseIdx j else (l.take i).eraseIdx j ++ [a] := by
  rw [take_snoc h]
  have hl : (l.take i).length = i := by rw [List.length_take]; have := (List.getElem?_eq_some_iff.1 h).1; omega
  rcases Nat.lt_trichotomy j i with h1 | h1 | h1
  · rw [if_neg (by omega), List.eraseIdx_append_of_lt_length (by omega)]
  · subst h1
    have e1 : (l.take j ++ [a]).eraseIdx j = l.take j := by
      rw [List.eraseIdx_append_of_length_le (by omega), hl, Nat.sub_self]
      simp
    have e2 : (l.take j).eraseIdx j = l.take j := List.eraseIdx_of_length_le (by omega)
    rw [if_pos rfl, e1, e2]
  · rw [if_neg (by omega), List.eraseIdx_of_length_le (by rw [List.length_append, hl, List.length_singleton]; omega), List.eraseIdx_of_length_le (by omega)]
theorem fnTextParts_A {w0 : World} (hG : Glob w0) (r : Ru) (x : Rs) (hn : RuNum r) (which : Nat) (hw : which ≤ 255) (H : Heap) (hH : GH H) (hx : RuAt H r x) : ACalls Tryz.prog (CB w0) 5 [.agg (ruCells r x), vU which] H fun v H' => v = vB true ∧ ∃ G, H' = H ++ G := by
  refine A_fun (N := 81) (rs := [.tmp 4]) Tryz.func5 rfl rfl rfl (by kernel_rfl) (by kernel_rfl) (Nat.le_of_ble_eq_true rfl) ?_
  rintro e he ⟨g0, g1, -⟩
  unfold ruCells at g0
  simp only [go_sem, Nat.reduceLT, Nat.reduceBEq, Nat.reduceAdd, Int.reduceBEq, Nat.reduceLeDiff, reduceIte, Nat.reduceEqDiff, Int.reduceEq, Int.reduceLE, Int.reduceLT, Int.reduceNe, Nat.reduceMul, Nat.reduceSub, Int.reduceToNat, he, g0, g1, hx.setPos.one, hx.month.one, hx.monthDay.one, hx.yearDay.one, hx.weekNo.one, hx.day.one, hx.hour.one, hx.minute.one, hx.second.one, hx.easter.one]
  refine callX_of (zzFits1_A r x _ (hx.more _)) (List.prefix_refl _) ?_
  cases hf : fits r with
  | false =>
    simp only [go_sem, Nat.reduceLT, Nat.reduceBEq, Nat.reduceAdd, Int.reduceBEq, Nat.reduceLeDiff, reduceIte, Nat.reduceEqDiff, Int.reduceEq, Int.reduceLE, Int.reduceLT, Int.reduceNe, Nat.reduceMul, Nat.reduceSub, Int.reduceToNat, he, g1, setD_some]
    exact ⟨_, rfl⟩
  | true =>
  have hl := fits_len hf
  simp only [go_sem, Nat.reduceLT, Nat.reduceBEq, Nat.reduceAdd, Int.reduceBEq, Nat.reduceLeDiff, reduceIte, Nat.reduceEqDiff, Int.reduceEq, Int.reduceLE, Int.reduceLT, Int.reduceNe, Nat.reduceMul, Nat.reduceSub, Int.reduceToNat, he, g1, setD_some]
  refine callX_any (textBare_A r x hl hn _ (hx.more _)) ?_
  rintro v h ⟨rfl, G, rfl⟩
  unfold bareR
  cases hb : bareOk r with
  | false =>
    simp only [ruCells, go_sem, Nat.reduceLT, Nat.reduceBEq, Nat.reduceAdd, Int.reduceBEq, Nat.reduceLeDiff, reduceIte, Nat.reduceEqDiff, Int.reduceEq, Int.reduceLE, Int.reduceLT, Int.reduceNe, Nat.reduceMul, Nat.reduceSub, Int.reduceToNat, he, g1, setD_some, Bool.true_and, hx.setPos.one, hx.month.one, hx.monthDay.one, hx.yearDay.one, hx.weekNo.one, hx.day.one, hx.hour.one, hx.minute.one, hx.second.one, hx.easter.one]
    have d0 : decide (((0 : Nat) : Int) < 2) = true := rfl
    simp only [go_sem, Nat.reduceLT, Nat.reduceBEq, Nat.reduceAdd, Int.reduceBEq, Nat.reduceLeDiff, reduceIte, Nat.reduceEqDiff, Int.reduceEq, Int.reduceLE, Int.reduceLT, Int.reduceNe, Nat.reduceMul, Nat.reduceSub, Int.reduceToNat, he, g1, d0]
    refine callX_of (textAwake_A hG _ (hH.more _)) (List.prefix_refl _) ?_
    simp only [go_sem, Nat.reduceLT, Nat.reduceBEq, Nat.reduceAdd, Int.reduceBEq, Nat.reduceLeDiff, reduceIte, Nat.reduceEqDiff, Int.reduceEq, Int.reduceLE, Int.reduceLT, Int.reduceNe, Nat.reduceMul, Nat.reduceSub, Int.reduceToNat, he, g1, setD_some]
    exact ⟨_, rfl⟩
  | true =>
    obtain ⟨hc, hwr⟩ := wr_bare hb
    simp only [ruCells, go_sem, Nat.reduceLT, Nat.reduceBEq, Nat.reduceAdd, Int.reduceBEq, Nat.reduceLeDiff, reduceIte, Nat.reduceEqDiff, Int.reduceEq, Int.reduceLE, Int.reduceLT, Int.reduceNe, Nat.reduceMul, Nat.reduceSub, Int.reduceToNat, he, g1, setD_some, Bool.true_and, hx.setPos.one, hx.month.one, hx.monthDay.one, hx.yearDay.one, hx.weekNo.one, hx.day.one, hx.hour.one, hx.minute.one, hx.second.one, hx.easter.one]
    refine callX_any (parts_A hG (bare r) x (clean_ok hc) _ ((bare_at hx).more _)) ?_
    rintro v h hO
    have hO : OutAt _ h v (parts (bare r)) := hO
    obtain ⟨⟨G2, e2⟩, o, rfl, ho, hol⟩ := hO
    obtain ⟨T, hT⟩ := kvs_head (bare r)
    have hlen := kvs_len (bare r)
    have hnd := kvs_nodup (bare r)
    rw [hT] at hlen hnd
    have hpk : parts (bare r) = ((([70, 82, 69, 81], freqs.getD (bare r).freq []) :: T).map kvT) := by rw [← hT, kvs_parts]
    have hmemT : ∀ p ∈ (([70, 82, 69, 81], freqs.getD (bare r).freq []) :: T), p ∈ kvs (bare r) := fun p hp => by rw [hT]; exact hp
    have hTl : T.length ≤ 14 := by simpa using hlen
    have hpl : ((parts (bare r)).length : Int) = T.length + 1 := by rw [hpk]; simp
    have hh : ∃ G, h = H ++ G := by rw [e2]; exact ⟨_, List.append_assoc _ _ _⟩
    have hcm : cellsK h[o]? = some ((parts (bare r)).map vS) := by rw [ho]; rfl
    clear ho e2
    generalize hp0 : (([70, 82, 69, 81], freqs.getD (bare r).freq []) : KV) = p0 at *
    have hsm : ∀ p ∈ p0 :: T, (kvT p).length ≤ 83 := fun p hp => kv_small hwr (hmemT p hp)
    have hGh : GH h := by obtain ⟨G, rfl⟩ := hh; exact hH.more _
    generalize hq : parts (bare r) = pr at *
    have hprn : (pr.length : Int) = ((T.length + 1 : Nat) : Int) := by omega
    simp only [go_sem, Nat.reduceLT, Nat.reduceBEq, Nat.reduceAdd, Int.reduceBEq, Nat.reduceLeDiff, reduceIte, Nat.reduceEqDiff, Int.reduceEq, Int.reduceLE, Int.reduceLT, Int.reduceNe, Nat.reduceMul, Nat.reduceSub, Int.reduceToNat, he, g1, setD_some]
    refine condK_of (fun hc => ?_) fun hc => ?_
    · simp only [go_sem, Nat.reduceLT, Nat.reduceBEq, Nat.reduceAdd, Int.reduceBEq, Nat.reduceLeDiff, reduceIte, Nat.reduceEqDiff, Int.reduceEq, Int.reduceLE, Int.reduceLT, Int.reduceNe, Nat.reduceMul, Nat.reduceSub, Int.reduceToNat, he, g1]
      refine callX_of (textAwake_A hG _ hGh) (List.prefix_refl _) ?_
      simp only [go_sem, Nat.reduceLT, Nat.reduceBEq, Nat.reduceAdd, Int.reduceBEq, Nat.reduceLeDiff, reduceIte, Nat.reduceEqDiff, Int.reduceEq, Int.reduceLE, Int.reduceLT, Int.reduceNe, Nat.reduceMul, Nat.reduceSub, Int.reduceToNat, he, g1, setD_some]
      exact hh
    · have hc := of_decide_eq_false hc
      have w1 : IntKind.i64.wrap ((which : Nat) : Int) = (which : Int) := wI64 (by omega)
      have w2 : IntKind.i64.wrap ((pr.length : Int) - 1) = (T.length : Int) := by rw [wI64 (by omega)]; omega
      have w3 : ((which : Nat) : Int).tmod (T.length : Int) = ((which % T.length : Nat) : Int) := by rw [Int.tmod_eq_emod_of_nonneg (by omega)]; rfl
      have hkl : which % T.length < T.length := Nat.mod_lt _ (by omega)
      have w4 : IntKind.i64.wrap (1 + ((which % T.length : Nat) : Int)) = ((which % T.length + 1 : Nat) : Int) := by rw [wI64 (by omega)]; omega
      have h0 : (pr.map vS)[0]? = some (vS (kvT p0)) := by rw [hpk]; rfl
      generalize which % T.length = kk at *
      simp only [go_sem, Nat.reduceLT, Nat.reduceBEq, Nat.reduceAdd, Int.reduceBEq, Nat.reduceLeDiff, reduceIte, Nat.reduceEqDiff, Int.reduceEq, Int.reduceLE, Int.reduceLT, Int.reduceNe, Nat.reduceMul, Nat.reduceSub, Int.reduceToNat, he, g1, hcm, h0, conv_int (P := Tryz.prog) (s := 5) (d := 3) Tryz.underlying5 Tryz.underlying3, w1, w2, w3, w4, Int.toNat_zero]
      have e1 : pr.length - 1 = T.length := by omega
      refine ⟨by omega, by omega, ⟨by omega, by omega⟩, ?_⟩
      refine A_while T.length (fun k e h' => h' = h ∧ len e = 81 ∧ AL.get e 42 = .sl true o 1 (pr.length - 1) 1 ∧ AL.get e 43 = vI ((pr.length - 1 : Nat) : Int) ∧ AL.get e 7 = vI ((kk + 1 : Nat) : Int) ∧ ∃ (i : Nat) (tx : List UInt8), AL.get e 44 = vI i ∧ AL.get e 8 = vS tx ∧ i + k = T.length ∧ tx = joinB 59 ((p0 :: (T.take i).eraseIdx kk).map kvT) ∧ tx.length ≤ 84 * (i + 1)) (by kernel_rfl) ?_ ?_
      · simp only [go_sem, Nat.reduceLT, Nat.reduceBEq, Nat.reduceAdd, Int.reduceBEq, Nat.reduceLeDiff, reduceIte, Nat.reduceEqDiff, Int.reduceEq, Int.reduceLE, Int.reduceLT, Int.reduceNe, Nat.reduceMul, Nat.reduceSub, Int.reduceToNat, he, g1]
        exact ⟨0, _, rfl, rfl, by omega, rfl, by have := hsm p0 (by simp); omega⟩
      · rintro k e h' ⟨rfl, he, g42, g43, g7, i, tx, g44, g8, hik, htx, htl⟩
        simp only [go_sem, Nat.reduceLT, Nat.reduceBEq, Nat.reduceAdd, Int.reduceBEq, Nat.reduceLeDiff, reduceIte, Nat.reduceEqDiff, Int.reduceEq, Int.reduceLE, Int.reduceLT, Int.reduceNe, Nat.reduceMul, Nat.reduceSub, Int.reduceToNat, he, g42, g43, g7, g44, g8]
        refine condK_of (fun hc => ?_) fun hc => ?_
        · have hc := of_decide_eq_true hc
          have hi : i < T.length := by omega
          have hTi : T[i]? = some T[i] := List.getElem?_eq_getElem hi
          generalize T[i] = p at hTi
          have hci : (pr.map vS)[1 + i]? = some (vS (kvT p)) := by
            rw [hpk, List.getElem?_map, List.getElem?_map, Nat.add_comm, List.getElem?_cons_succ, hTi]
            rfl
          have hpl2 := hsm p (List.mem_cons_of_mem _ (List.mem_of_getElem? hTi))
          have wi : IntKind.i64.wrap ((i : Int) + 1) = ((i + 1 : Nat) : Int) := by rw [wI64 (by omega)]; rfl
          have hes := erase_snoc (j := kk) hTi
          simp only [go_sem, Nat.reduceLT, Nat.reduceBEq, Nat.reduceAdd, Int.reduceBEq, Nat.reduceLeDiff, reduceIte, Nat.reduceEqDiff, Int.reduceEq, Int.reduceLE, Int.reduceLT, Int.reduceNe, Nat.reduceMul, Nat.reduceSub, Int.reduceToNat, he, g42, g43, g7, g44, g8, hcm, hci, Int.toNat_natCast, wi]
          refine ⟨by omega, condK_of (fun hq => ?_) fun hq => ?_⟩
          · have hq : ¬ ((i + 1 : Nat) : Int) = ((kk + 1 : Nat) : Int) := by simpa using hq
            rw [if_neg (by omega)] at hes
            simp only [go_sem, Nat.reduceLT, Nat.reduceBEq, Nat.reduceAdd, Int.reduceBEq, Nat.reduceLeDiff, reduceIte, Nat.reduceEqDiff, Int.reduceEq, Int.reduceLE, Int.reduceLT, Int.reduceNe, Nat.reduceMul, Nat.reduceSub, Int.reduceToNat, he, g42, g43, g7, g44, g8, wi]
            refine ⟨by omega, by omega, k - 1, by omega, i + 1, _, rfl, rfl, by omega, ?_, by rw [List.length_append, List.length_cons]; omega⟩
            have e3 : kvT p0 :: ((T.take i).eraseIdx kk ++ [p]).map kvT = (p0 :: (T.take i).eraseIdx kk).map kvT ++ [kvT p] := by simp
            rw [hes, htx, e3, joinB_snoc 59 (kvT p) ((p0 :: (T.take i).eraseIdx kk).map kvT) (by simp)]
          · have hq : ((i + 1 : Nat) : Int) = ((kk + 1 : Nat) : Int) := by simpa using hq
            rw [if_pos (by omega)] at hes
            simp only [go_sem, Nat.reduceLT, Nat.reduceBEq, Nat.reduceAdd, Int.reduceBEq, Nat.reduceLeDiff, reduceIte, Nat.reduceEqDiff, Int.reduceEq, Int.reduceLE, Int.reduceLT, Int.reduceNe, Nat.reduceMul, Nat.reduceSub, Int.reduceToNat, he, g42, g43, g7, g44, g8, wi]
            exact ⟨k - 1, by omega, i + 1, _, rfl, rfl, by omega, by rw [hes]; exact htx, by omega⟩
        · have hc := of_decide_eq_false hc
          have hi : i = T.length := by omega
          subst hi
          rw [List.take_length] at htx
          simp only [go_sem, Nat.reduceLT, Nat.reduceBEq, Nat.reduceAdd, Int.reduceBEq, Nat.reduceLeDiff, reduceIte, Nat.reduceEqDiff, Int.reduceEq, Int.reduceLE, Int.reduceLT, Int.reduceNe, Nat.reduceMul, Nat.reduceSub, Int.reduceToNat, he, g42, g43, g7, g44, g8]
          have hsubT : (T.eraseIdx kk).Sublist T := List.eraseIdx_sublist T kk
          have hsub : (p0 :: T.eraseIdx kk).Sublist (p0 :: T) := hsubT.cons_cons p0
          have hL : Sub (bare r) (p0 :: T.eraseIdx kk) := ⟨fun p hp => hmemT p (hsub.subset hp), by rw [← hp0]; simp⟩
          have hLl : (p0 :: T.eraseIdx kk).length ≤ 15 := Nat.le_trans hsub.length_le hlen
          have hLn : ((p0 :: T.eraseIdx kk).map (·.1)).Nodup := (hsub.map _).nodup hnd
          have hrd := fun H => read_sub (w0 := w0) hwr hL hLl hLn H
          have hin := sub_inText hwr hL hLl
          have hop := opParse_sub hwr hL
          have hms := mix_same hwr (S := (p0 :: T.eraseIdx kk).map (·.1)) (until_in _ hL.mem)
          have hfew := mix_few hwr ((p0 :: T.eraseIdx kk).map (·.1))
          rw [← htx] at hrd hin hop
          generalize (p0 :: T.eraseIdx kk).map (·.1) = S at *
          refine callX_any (hrd _) ?_
          rintro v h1 ⟨⟨y, rfl, hW⟩, G1, rfl⟩
          simp only [ruCells, go_sem, Nat.reduceLT, Nat.reduceBEq, Nat.reduceAdd, Int.reduceBEq, Nat.reduceLeDiff, reduceIte, Nat.reduceEqDiff, Int.reduceEq, Int.reduceLE, Int.reduceLT, Int.reduceNe, Nat.reduceMul, Nat.reduceSub, Int.reduceToNat, he, g42, g43, g7, g44, g8, setD_some, Bool.true_and, hW.setPos.one, hW.month.one, hW.monthDay.one, hW.yearDay.one, hW.weekNo.one, hW.day.one, hW.hour.one, hW.minute.one, hW.second.one, hW.easter.one]
          refine callX_any (parseOption_A hG tx hin _ (hGh.more _)) ?_
          rintro v2 h2 ⟨hr2, G2', rfl⟩
          rw [hop] at hr2
          obtain ⟨y2, rfl, hO2⟩ := hr2
          rw [hms] at hO2 ⊢
          have hiv : max (if [73, 78, 84, 69, 82, 86, 65, 76] ∈ S then (bare r).interval else 0) 1 = max (ruMix (bare r) S ruQ0).interval 1 := by
            show _ = max (if [73, 78, 84, 69, 82, 86, 65, 76] ∈ S then (bare r).interval else 1) 1
            split <;> rfl
          generalize ruMix (bare r) S ruQ0 = A at *
          generalize (if [73, 78, 84, 69, 82, 86, 65, 76] ∈ S then (bare r).interval else 0) = z at *
          have hWa := hW.at
          have hOa := hO2.at
          have hGh2 := hGh.more G1
          simp only [ruCells, go_sem, Nat.reduceLT, Nat.reduceBEq, Nat.reduceAdd, Int.reduceBEq, Nat.reduceLeDiff, reduceIte, Nat.reduceEqDiff, Int.reduceEq, Int.reduceLE, Int.reduceLT, Int.reduceNe, Nat.reduceMul, Nat.reduceSub, Int.reduceToNat, he, g42, g43, g7, g44, g8, setD_some, Bool.true_and, hO2.setPos.ints.one, hO2.month.ints.one, hO2.monthDay.ints.one, hO2.yearDay.ints.one, hO2.weekNo.ints.one, hO2.day.days.one, hO2.hour.ints.one, hO2.minute.ints.one, hO2.second.ints.one, hO2.easter.ints.one]
          refine acode_draw mixed (by kernel_rfl) ?_
          simp only [ruCells, go_sem, Nat.reduceLT, Nat.reduceBEq, Nat.reduceAdd, Int.reduceBEq, Nat.reduceLeDiff, reduceIte, Nat.reduceEqDiff, Int.reduceEq, Int.reduceLE, Int.reduceLT, Int.reduceNe, Nat.reduceMul, Nat.reduceSub, Int.reduceToNat, he, g42, g43, g7, g44, g8, setD_some, Bool.true_and, hO2.setPos.ints.one, hO2.month.ints.one, hO2.monthDay.ints.one, hO2.yearDay.ints.one, hO2.weekNo.ints.one, hO2.day.days.one, hO2.hour.ints.one, hO2.minute.ints.one, hO2.second.ints.one, hO2.easter.ints.one]
          have hWx := fun Z : Heap => hWa.more Z
          have hOx := fun Z : Heap => hOa.more Z
          simp only [go_sem, Nat.reduceLT, Nat.reduceBEq, Nat.reduceAdd, Int.reduceBEq, Nat.reduceLeDiff, reduceIte, Nat.reduceEqDiff, Int.reduceEq, Int.reduceLE, Int.reduceLT, Int.reduceNe, Nat.reduceMul, Nat.reduceSub, Int.reduceToNat] at hWx hOx
          have hdl : ({ A with interval := z } : Ru).day.length ≤ 1000000 := by have := hfew.day; show A.day.length ≤ 1000000; omega
          have hO3 := hOx [.own 34 (ruCells { A with interval := z } y2)]
          refine callX_many (ofRule_A { A with interval := z } hdl y2 _ hO3) (by rintro _ _ ⟨-, G, rfl⟩; exact List.prefix_append _ _) ⟨_, _, ⟨_, rfl, hO3⟩, [], (List.append_nil _).symm⟩ ?_
          rintro v h3 ⟨⟨y3, rfl, hy3⟩, G3, rfl⟩
          simp only [ruCells, go_sem, Nat.reduceLT, Nat.reduceBEq, Nat.reduceAdd, Int.reduceBEq, Nat.reduceLeDiff, reduceIte, Nat.reduceEqDiff, Int.reduceEq, Int.reduceLE, Int.reduceLT, Int.reduceNe, Nat.reduceMul, Nat.reduceSub, Int.reduceToNat, he, setD_some]
          simp only [ruCells, go_sem, Nat.reduceLT, Nat.reduceBEq, Nat.reduceAdd, Int.reduceBEq, Nat.reduceLeDiff, reduceIte, Nat.reduceEqDiff, Int.reduceEq, Int.reduceLE, Int.reduceLT, Int.reduceNe, Nat.reduceMul, Nat.reduceSub, Int.reduceToNat] at hy3
          have hy3 : RuAt _ A y3 := ⟨hy3.setPos, hy3.month, hy3.monthDay, hy3.yearDay, hy3.weekNo, hy3.day, hy3.hour, hy3.minute, hy3.second, hy3.easter⟩
          refine callX_of (textSame_A A hfew z A.interval hiv y3 y _ hy3 (hWx _)) (List.prefix_refl _) ?_
          simp only [go_sem, Nat.reduceLT, Nat.reduceBEq, Nat.reduceAdd, Int.reduceBEq, Nat.reduceLeDiff, reduceIte, Nat.reduceEqDiff, Int.reduceEq, Int.reduceLE, Int.reduceLT, Int.reduceNe, Nat.reduceMul, Nat.reduceSub, Int.reduceToNat, he, setD_some]
          refine callX_of (textAwake_A hG _ (hGh.more _)) (List.prefix_refl _) ?_
          simp only [go_sem, Nat.reduceLT, Nat.reduceBEq, Nat.reduceAdd, Int.reduceBEq, Nat.reduceLeDiff, reduceIte, Nat.reduceEqDiff, Int.reduceEq, Int.reduceLE, Int.reduceLT, Int.reduceNe, Nat.reduceMul, Nat.reduceSub, Int.reduceToNat, he, setD_some]
          obtain ⟨G, rfl⟩ := hh
          exact ⟨_, List.append_assoc _ _ _⟩
end Go.Proofs.YtlfpjdcogkcjlaaGreatDoor.F
/- spec.Text, with an order. -/
namespace Go.Proofs.YtlfpjdcogkcjlaaGreatDoor.F
open Go.RowKit Go.Proofs.YtlfpjdcogkcjlaaGreatDoor.AL Go.Proofs.YtlfpjdcogkcjlaaGreatDoor.B
theorem acode_order3 {P : Program} {C : Base} {id : Nat} {l : List Oper} {env : Env} {H : Heap} {Q : Exit → Env → Heap → Prop} (q : List Nat) (i j k : Nat) (L1 L2 L3 : List Nat) (hm : P.follows .mixedOrders = true) (hok : backB (List.toArray l) = true) (hops : l.all (okOp C.nG) = true) (hij : (decide (i ≠ k) && decide (j ≠ k) && decide (i < l.length) && decide (j < l.length) && decide (k < l.length)) = true)
    (hr : reach (List.toArray l) (List.toArray l).size j i = true) (h1 : okOrd q (List.toArray l) L1 [(k, i), (k, j)] = true) (h2 : okOrd q (List.toArray l) L2 [(i, k), (k, j)] = true) (h3 : okOrd q (List.toArray l) L3 [(j, k), (i, k)] = true)
    (k1 : aops P C (some q) (List.toArray l) (opsOf (List.toArray l) L1) env H (Knorm Q)) (k2 : aops P C (some q) (List.toArray l) (opsOf (List.toArray l) L2) env H (Knorm Q)) (k3 : aops P C (some q) (List.toArray l) (opsOf (List.toArray l) L3) env H (Knorm Q)) : acode P C (.region id (List.toArray l) true) env H Q := by
  rw [acode, if_pos rfl]
  refine .inr (A_order (q := q) hm hok (by simpa using hops) fun σ hT => ?_)
  simp only [Bool.and_eq_true, decide_eq_true_eq] at hij
  have mi := (hT.mem i).2 (by simpa using hij.1.1.2)
  have mj := (hT.mem j).2 (by simpa using hij.1.2)
  have mk := (hT.mem k).2 (by simpa using hij.2)
  have hr := reach_topo hT _ _ _ hr
  rcases idx_tri mi mk hij.1.1.1.1 with h | h
  · rcases idx_tri mj mk hij.1.1.1.2 with h' | h'
    · exact ⟨L3, compat_of h3 hT (by
        intro p hp
        rcases List.mem_cons.1 hp with rfl | hp
        · exact h'
        · rw [List.mem_singleton] at hp; rw [hp]; exact h), k3⟩
    · exact ⟨L2, compat_of h2 hT (by
        intro p hp
        rcases List.mem_cons.1 hp with rfl | hp
        · exact h
        · rw [List.mem_singleton] at hp; rw [hp]; exact h'), k2⟩
  · exact ⟨L1, compat_of h1 hT (by
      intro p hp
      rcases List.mem_cons.1 hp with rfl | hp
      · exact h
      · rw [List.mem_singleton] at hp; rw [hp]; exact Nat.lt_trans h hr), k1⟩
set_option linter.unusedVariables false
set_option linter.unusedSimpArgs false
set_option maxRecDepth 20000
attribute [local irreducible] aops acode bindK bindV bindH callX callK condK guardK Kseq Kblk Knorm Kfun Kloop Kjoin outK AWp appendA Ktail
attribute [local go_sem] acode_skip acode_seq acode_region acode_cond acode_block acode_exit acode_ret acode_loop Kseq_normal Kseq_exit Kseq_ret Kblk_normal Kblk_ret Kblk_eq Kblk_ne Knorm_eq Kloop_normal Kloop_exit Kloop_ret Kjoin_normal Kjoin_exit Kjoin_ret condK_true condK_false bindK_put bindV_put bindK_no bindV_no bindH_no aops_nil gops wantK_some wantV_bool wantV_undef guardK_true guardK_false guardK_none aops_move aops_assign aops_pick aops_nilCheck aops_binOp aops_unOp aops_convert aops_fieldAddr aops_indexAddr aops_slice aops_index aops_extract aops_makeInterface aops_makeFunc aops_build aops_load aops_lookup aops_alloc aops_box aops_buildSlice aops_makeSlice aops_makeMap aops_store aops_insert aops_mapUpdate aops_len aops_append aops_call opA_tmp opA_const opA_global opA_func get_mk look_nil look_eq look_ne len_mk List.map_cons List.map_nil Option.map_some Option.map_none bin_add bin_sub bin_mul bin_quo bin_rem bin_eql bin_neq bin_lss bin_leq bin_gtr bin_geq bin_cat bin_seql bin_sneq bin_neq_ifc bin_eql_ifc bin_neq_nn bin_eql_nn bin_neq_ptr bin_eql_ptr bin_neq_pn isIfc_true isPtr_true bin_eql2 bin_neq2 aops_max max_int un_not un_neg lenA_K lenK_str lenK_nil lenK_sl lenK_array pick_bool pick_val bindV_ite bindK_ite bindH_ite slotV_sl slotK_some slotV_ptr slotR_some sliceV_sl cutK_some sliceV_str cutS_some bound_none bound_some indexA_str atS_some mkS fieldV_ptr loadV_ptr cellsK_ro cellsK_own loadK_one loadK_many storeA_ptr storeK_own allocA_some heap_len heap_get0 heap_get heap_set0 heap_set Kfun_ret Kfun_normal resA_nil resA_tmp resA_cell outK_some packA_one packA_nil packA_two List.length_cons List.length_nil List.getElem?_cons_zero List.getElem?_cons_succ List.set_cons_zero List.set_cons_succ List.cons_append List.nil_append List.append_assoc Nat.zero_add Nat.add_zero List.all_cons List.all_nil Value.oneCell' Bool.and_true Bool.and_self if_true if_false Bool.false_eq_true partsA buildV buildA fillA Option.bind_some putCells List.drop_succ_cons List.drop_zero List.take_succ_cons List.take_zero List.take_nil List.drop_nil and_self and_true true_and Option.some.injEq ne_eq not_false_eq_true Option.map_map List.getElem?_toArray beq_self_eq_true Bool.true_beq Bool.false_beq Bool.not_true Bool.not_false decide_true decide_false beq_true Nat.mul_one Nat.one_mul Nat.zero_mul bsA buildSliceA zerosN List.append_nil Int.toNat_natCast Int.toNat_zero boxA one_val one_ptr one_sl one_mp one_ifc one_fn avCells_agg avCells_val valCells_true valCells_agg avCells_ptr avCells_sl avCells_mp avCells_ifc avCells_fn app_cons app_nil lookupA insertA ifaceV extractA kd2 ars127 fp127 ars60 fp60 ars31 fp31 eq2_99 eq2_84 eq2_47 fp52 sz2 kd3 sz3 kd4 sz4 kd5 sz5 kd9 sz9 kd22 sz22 el22 kd23 sz23 el23 kd25 sz25 zc25 fp25 fo25_0 fo25_1 fo25_2 fo25_3 fo25_4 fo25_5 fo25_6 fo25_7 fo25_8 fo25_9 fo25_10 fo25_11 fo25_12 fo25_13 fo25_14 fo25_15 fo25_16 fo25_17 kd31 sz31 zc31 ar31 kd32 sz32 el32 kd34 sz34 zc34 fp34 fo34_0 fo34_1 fo34_2 fo34_3 fo34_4 fo34_5 fo34_6 fo34_7 fo34_8 fo34_9 fo34_10 fo34_11 fo34_12 fo34_13 fo34_14 fo34_15 fo34_16 fo34_17 el38 el42 kd47 sz47 zc47 fp47 fo47_0 fo47_1 kd52 sz52 zc52 fo52_0 el55 zc60 kd72 sz72 zc72 fp72 fo72_0 fo72_1 el73 kd80 sz80 kd84 sz84 zc84 fp84 fo84_0 fo84_1 kd88 sz88 zc88 fp88 fo88_0 fo88_1 fo88_2 fo88_3 kd91 sz91 zc91 fp91 fo91_0 fo91_1 fo91_2 el94 kd99 sz99 zc99 fp99 fo99_0 fo99_1 kd100 sz100 el100 kd102 sz102 zc102 fp102 fo102_0 fo102_1 fo102_2 fo102_3 fo102_4 fo102_5 fo102_6 fo102_7 fo102_8 fo102_9 fo102_10 fo102_11 fo102_12 fo102_13 fo102_14 fo102_15 kd109 sz109 zc109 fp109 isStrMap124 zv80 zc127 kd153 sz153 zc153 ar153 isIface157 kd159 sz159 zc159 fp159 isStrMap177 zv84 Tryz.underlying3 Tryz.underlying4 Tryz.underlying5 Tryz.underlying9 Tryz.underlying21 Tryz.underlying22 Tryz.underlying23 Tryz.underlying32 Tryz.underlying38 Tryz.underlying42 Tryz.underlying47 Tryz.underlying55 Tryz.underlying67 Tryz.underlying73 Tryz.underlying80 Tryz.underlying84 Tryz.underlying94 Tryz.underlying100 Tryz.underlying2 Tryz.underlying127 Tryz.underlying60 Tryz.underlying31 kd55 ai60 ai127 indexA_agg atK_some isStrMap76 zv4 Ktail_eq opsOf_nil opsOf_cons consO_some
theorem append_own {o1 o2 off n n' : Nat} {own : Bool} {cs cs' c : List AV} {h : Heap} (h1 : h[o1]? = some (.own 9 cs)) (h2 : cellsK h[o2]? = some cs') (hn : n ≤ cs.length) (hn' : off + n' ≤ cs'.length) (ho : ((cs'.drop off).take n').all AV.one = true) (hb : n + n' ≤ 1000000000) (hc : cs.take n ++ (cs'.drop off).take n' = c) :
    appendA Tryz.prog 42 (.sl true o1 0 n 1) (.sl own o2 off n' 1) h = some (.sl true h.length 0 (n + n') 1, h.set o1 .gone ++ [.own 9 c]) := by
  have h2 : cellsOf h o2 = some cs' := by unfold cellsOf; unfold cellsK at h2; revert h2; cases h[o2]? <;> exact _root_.id
  unfold appendA
  rw [el42]
  simp only [h1, h2, Nat.mul_one]
  rw [if_pos ⟨hn', trivial, ho⟩, if_pos ⟨trivial, trivial, hn, by omega, by omega⟩, hc]
theorem swap_perm {α : Type} {l : List α} {i j : Nat} {a b : α} (hi : l[i]? = some a) (hj : l[j]? = some b) : ((l.set i b).set j a).Perm l := by
  obtain ⟨h1, h2⟩ := List.getElem?_eq_some_iff.1 hi
  obtain ⟨h3, h4⟩ := List.getElem?_eq_some_iff.1 hj
  have := Array.swap_perm (xs := l.toArray) (i := i) (j := j) (by simpa using h1) (by simpa using h3)
  have h5 := Array.perm_iff_toList_perm.1 this
  rw [Array.toList_swap] at h5
  simpa [h2, h4] using h5
theorem put_kv (L : List KV) (i : Nat) (p : KV) (h : i < L.length) : ((L.map kvT).map vS).take i ++ AV.val (.string (S (kvT p))) :: ((L.map kvT).map vS).drop (i + 1) = ((L.set i p).map kvT).map vS := by
  rw [← List.map_take, ← List.map_take, ← List.map_drop, ← List.map_drop, List.set_eq_take_append_cons_drop, if_pos h]
  simp only [List.map_append, List.map_cons]
theorem specText_A {w0 : World} (hG : Glob w0) (r : Ru) (x : Rs) (hr : RuOk r) (hs : ∀ p ∈ kvs r, (kvT p).length ≤ 83) (bs : List Nat) (hb : ∀ b ∈ bs, b ≤ 255) (hbl : bs.length ≤ 1000000) (y : AV) (H : Heap) (hy : BytesAt H y bs) (hx : RuAt H r x) :
    ACalls Tryz.prog (CB w0) 14 [.agg (ruCells r x), y] H fun v H' => (∃ L : List KV, L.Perm (kvs r) ∧ v = vS (joinB 59 (L.map kvT))) ∧ ∃ G, H' = H ++ G := by
  refine A_fun (N := 74) (rs := [.tmp 4]) Tryz.func14 rfl rfl rfl (by kernel_rfl) (by kernel_rfl) (Nat.le_of_ble_eq_true rfl) ?_
  rintro e he ⟨g0, g1, -⟩
  unfold ruCells at g0
  simp only [go_sem, Nat.reduceLT, Nat.reduceBEq, Nat.reduceAdd, Int.reduceBEq, Nat.reduceLeDiff, reduceIte, Nat.reduceEqDiff, Int.reduceEq, Int.reduceLE, Int.reduceLT, Int.reduceNe, Nat.reduceMul, Nat.reduceSub, Int.reduceToNat, he, g0, g1, hx.setPos.one, hx.month.one, hx.monthDay.one, hx.yearDay.one, hx.weekNo.one, hx.day.one, hx.hour.one, hx.minute.one, hx.second.one, hx.easter.one]
  refine callX_any (parts_A hG r x hr _ (hx.more _)) ?_
  rintro v h hO
  have hO : OutAt _ h v (parts r) := hO
  obtain ⟨⟨G2, e2⟩, o, rfl, ho, hol⟩ := hO
  have hh : ∃ G, h = H ++ G := by rw [e2]; exact ⟨_, List.append_assoc _ _ _⟩
  have hol : H.length ≤ o := by simp only [List.length_append] at hol; omega
  rw [← kvs_parts] at ho
  have hkl := kvs_len r
  have hpl : (parts r).length = (kvs r).length := by rw [← kvs_parts]; simp
  rw [hpl]
  clear e2
  have hyl : lenK (some (.slice 5)) y = some (vI bs.length) := by
    rcases hy with ⟨rfl, h0⟩ | ⟨own, q, off, cs, rfl, -, -⟩
    · rw [h0]; rfl
    · rfl
  simp only [go_sem, Nat.reduceLT, Nat.reduceBEq, Nat.reduceAdd, Int.reduceBEq, Nat.reduceLeDiff, reduceIte, Nat.reduceEqDiff, Int.reduceEq, Int.reduceLE, Int.reduceLT, Int.reduceNe, Nat.reduceMul, Nat.reduceSub, Int.reduceToNat, he, g1, setD_some, hyl]
  refine A_while bs.length (fun k e h => len e = 74 ∧ AL.get e 1 = y ∧ AL.get e 15 = vI bs.length ∧ (∃ G, h = H ++ G) ∧ ∃ (i o : Nat) (L : List KV), AL.get e 16 = vI i ∧ i + k = bs.length ∧ AL.get e 5 = .sl true o 0 L.length 1 ∧ h[o]? = some (.own 9 ((L.map kvT).map vS)) ∧ H.length ≤ o ∧ L.Perm (kvs r)) (by kernel_rfl) ?_ ?_
  · simp only [go_sem, Nat.reduceLT, Nat.reduceBEq, Nat.reduceAdd, Int.reduceBEq, Nat.reduceLeDiff, reduceIte, Nat.reduceEqDiff, Int.reduceEq, Int.reduceLE, Int.reduceLT, Int.reduceNe, Nat.reduceMul, Nat.reduceSub, Int.reduceToNat, he, g1]
    exact ⟨hh, 0, o, _, rfl, by omega, rfl, ho, hol, List.Perm.refl _⟩
  · clear ho hh hol g0
    rintro k e h ⟨he, g1, g15, ⟨G, rfl⟩, i, o, L, g16, hik, g5, ho, hol, hL⟩
    have hLl := hL.length_eq
    simp only [go_sem, Nat.reduceLT, Nat.reduceBEq, Nat.reduceAdd, Int.reduceBEq, Nat.reduceLeDiff, reduceIte, Nat.reduceEqDiff, Int.reduceEq, Int.reduceLE, Int.reduceLT, Int.reduceNe, Nat.reduceMul, Nat.reduceSub, Int.reduceToNat, he, g1, g15, g16, g5]
    refine condK_of (fun hc => ?_) fun hc => ?_
    · have hc := of_decide_eq_true hc
      have wi : IntKind.i64.wrap ((i : Int) + 1) = ((i + 1 : Nat) : Int) := by rw [wI64 (by omega)]; rfl
      simp only [go_sem, Nat.reduceLT, Nat.reduceBEq, Nat.reduceAdd, Int.reduceBEq, Nat.reduceLeDiff, reduceIte, Nat.reduceEqDiff, Int.reduceEq, Int.reduceLE, Int.reduceLT, Int.reduceNe, Nat.reduceMul, Nat.reduceSub, Int.reduceToNat, he, g1, g15, g16, g5]
      refine condK_of (fun hc2 => ?_) fun hc2 => ?_
      · have hc2 := of_decide_eq_true hc2
        obtain ⟨own, q, off, cs, rfl, hcs, hcell⟩ := BytesAt.get (SlOf.more hy G) (i := i) (by omega)
        have hbi : bs.getD i 0 ≤ 255 := by
          rw [List.getD_eq_getElem?_getD, List.getElem?_eq_getElem (by omega)]
          exact hb _ (List.getElem_mem _)
        generalize bs.getD i 0 = b at hcell hbi
        have w1 : IntKind.i64.wrap ((b : Nat) : Int) = (b : Int) := wI64 (by omega)
        have w2 : IntKind.i64.wrap ((L.length : Int) - 1) = ((L.length - 1 : Nat) : Int) := by rw [wI64 (by omega)]; omega
        have w3 : ((b : Nat) : Int).tmod ((L.length - 1 : Nat) : Int) = ((b % (L.length - 1) : Nat) : Int) := by rw [Int.tmod_eq_emod_of_nonneg (by omega)]; rfl
        have hkl : b % (L.length - 1) < L.length - 1 := Nat.mod_lt _ (by omega)
        have w4 : IntKind.i64.wrap (1 + ((b % (L.length - 1) : Nat) : Int)) = ((b % (L.length - 1) + 1 : Nat) : Int) := by rw [wI64 (by omega)]; omega
        simp only [go_sem, Nat.reduceLT, Nat.reduceBEq, Nat.reduceAdd, Int.reduceBEq, Nat.reduceLeDiff, reduceIte, Nat.reduceEqDiff, Int.reduceEq, Int.reduceLE, Int.reduceLT, Int.reduceNe, Nat.reduceMul, Nat.reduceSub, Int.reduceToNat, he, g1, g15, g16, g5, hcs, hcell, conv_int (P := Tryz.prog) (s := 5) (d := 3) Tryz.underlying5 Tryz.underlying3, w1, w2, w3, w4]
        have hat : b % (L.length - 1) + 1 < L.length ∧ 1 < L.length := by omega
        generalize b % (L.length - 1) + 1 = at' at *
        obtain ⟨p1, hp1⟩ : ∃ p, L[1]? = some p := ⟨_, List.getElem?_eq_getElem hat.2⟩
        obtain ⟨pa, hpa⟩ : ∃ p, L[at']? = some p := ⟨_, List.getElem?_eq_getElem hat.1⟩
        have hm1 : ((L.map kvT).map vS)[1]? = some (vS (kvT p1)) := by rw [List.getElem?_map, List.getElem?_map, hp1]; rfl
        have hma : ((L.map kvT).map vS)[at']? = some (vS (kvT pa)) := by rw [List.getElem?_map, List.getElem?_map, hpa]; rfl
        have hco : cellsK (H ++ G)[o]? = some ((L.map kvT).map vS) := by rw [ho]; rfl
        refine ⟨by omega, by omega, acode_draw mixed (by kernel_rfl) ?_⟩
        have hL1 := put_kv L 1 pa hat.2
        have hL2 := put_kv (L.set 1 pa) at' p1 (by rw [List.length_set]; exact hat.1)
        have hpm := swap_perm hp1 hpa
        have hlt : o < (H ++ G).length := (List.getElem?_eq_some_iff.1 ho).1
        simp only [go_sem, Nat.reduceLT, Nat.reduceBEq, Nat.reduceAdd, Int.reduceBEq, Nat.reduceLeDiff, reduceIte, Nat.reduceEqDiff, Int.reduceEq, Int.reduceLE, Int.reduceLT, Int.reduceNe, Nat.reduceMul, Nat.reduceSub, Int.reduceToNat, he, g1, g15, g16, g5, hco, hm1, hma, ho]
        refine ⟨by omega, by omega, by omega, by simp; omega, by omega, ?_⟩
        rw [hL1, List.getElem?_set_self hlt]
        simp only [go_sem, Nat.reduceLT, Nat.reduceBEq, Nat.reduceAdd, Int.reduceBEq, Nat.reduceLeDiff, reduceIte, Nat.reduceEqDiff, Int.reduceEq, Int.reduceLE, Int.reduceLT, Int.reduceNe, Nat.reduceMul, Nat.reduceSub, Int.reduceToNat, he, g1, g15, g16, g5]
        rw [hL2, List.set_set]
        refine ⟨by simp; omega, ?_⟩
        have hl2 : ((L.set 1 pa).set at' p1).length = L.length := by simp
        generalize (L.set 1 pa).set at' p1 = M at *
        clear ho hco hm1 hma hp1 hpa hL1 hL2
        have hGs : (H ++ G).set o (.own 9 ((M.map kvT).map vS)) = H ++ G.set (o - H.length) (.own 9 ((M.map kvT).map vS)) := set_behind hol
        have hoG : (H ++ G.set (o - H.length) (.own 9 ((M.map kvT).map vS)))[o]? = some (.own 9 ((M.map kvT).map vS)) := by rw [← hGs, List.getElem?_set_self hlt]
        rw [hGs, ← hl2]
        generalize G.set (o - H.length) (.own 9 ((M.map kvT).map vS)) = G' at *
        obtain ⟨m0, m1, M', rfl⟩ : ∃ m0 m1 M', M = m0 :: m1 :: M' := by
          match M, hl2 with
          | [], h => exact absurd h (by simp; omega)
          | [_], h => exact absurd h (by simp; omega)
          | m0 :: m1 :: M', _ => exact ⟨m0, m1, M', rfl⟩
        have hco : cellsK (H ++ G')[o]? = some (((m0 :: m1 :: M').map kvT).map vS) := by rw [hoG]; rfl
        have hi0 : (((m0 :: m1 :: M').map kvT).map vS)[0]? = some (vS (kvT m0)) := rfl
        have hi1 : (((m0 :: m1 :: M').map kvT).map vS)[1]? = some (vS (kvT m1)) := rfl
        have hlm : (m0 :: m1 :: M').length = M'.length + 2 := rfl
        have hLm : L.length = M'.length + 2 := by rw [← hl2, hlm]
        rw [hLm] at g5
        rw [hlm]
        simp only [go_sem, Nat.reduceLT, Nat.reduceBEq, Nat.reduceAdd, Int.reduceBEq, Nat.reduceLeDiff, reduceIte, Nat.reduceEqDiff, Int.reduceEq, Int.reduceLE, Int.reduceLT, Int.reduceNe, Nat.reduceMul, Nat.reduceSub, Int.reduceToNat, he, g1, g15, g16, g5, hco, hi1]
        have hcoX : ∀ X, cellsK (H ++ (G' ++ X))[o]? = some (((m0 :: m1 :: M').map kvT).map vS) := fun X => by rw [← List.append_assoc, get_less (List.getElem?_eq_some_iff.1 hoG).1]; exact hco
        have allX : ∀ (l : List (List UInt8)) (a b : Nat), (((l.map vS).drop a).take b).all AV.one = true := fun l a b => by rw [← List.map_drop, ← List.map_take]; exact all_one _
        have e9 : 1 + (M'.length + 2 - 2) = M'.length + 1 := by omega
        refine ⟨by omega, acode_join (fun e h => len e = 74 ∧ AL.get e 1 = .sl own q off bs.length 1 ∧ AL.get e 15 = vI bs.length ∧ AL.get e 16 = vI i ∧ ∃ (o' : Nat) (G'' : Heap), h = H ++ G'' ∧ AL.get e 5 = .sl true o' 0 (m0 :: (M' ++ [m1])).length 1 ∧ h[o']? = some (.own 9 (((m0 :: (M' ++ [m1])).map kvT).map vS)) ∧ H.length ≤ o') ?_ ?_⟩
        · refine acode_order3 [] 3 6 8 [0, 1, 2, 7, 8, 3, 4, 5, 6, 9, 10] [0, 1, 2, 3, 4, 5, 7, 8, 6, 9, 10] [0, 1, 2, 3, 4, 5, 6, 7, 8, 9, 10] mixed (by kernel_rfl) (by kernel_rfl) rfl (by kernel_rfl) (by kernel_rfl) (by kernel_rfl) (by kernel_rfl) ?_ ?_ ?_
          all_goals
            simp only [go_sem, Nat.reduceLT, Nat.reduceBEq, Nat.reduceAdd, Int.reduceBEq, Nat.reduceLeDiff, reduceIte, Nat.reduceEqDiff, Int.reduceEq, Int.reduceLE, Int.reduceLT, Int.reduceNe, Nat.reduceMul, Nat.reduceSub, Int.reduceToNat, he, g1, g15, g16, g5, hco, hi0, hi1]
            refine ⟨by omega, by omega, ?_⟩
            rw [append_own (cs := [vS (kvT m0)]) (c := ((m0 :: M').map kvT).map vS) (by simp only [go_sem, Nat.reduceLT, Nat.reduceBEq, Nat.reduceAdd, Int.reduceBEq, Nat.reduceLeDiff, reduceIte, Nat.reduceEqDiff, Int.reduceEq, Int.reduceLE, Int.reduceLT, Int.reduceNe, Nat.reduceMul, Nat.reduceSub, Int.reduceToNat]) (hcoX _) (by simp) (by simp; omega) (allX _ _ _) (by omega) (by simp [List.take_of_length_le])]
            simp only [go_sem, Nat.reduceLT, Nat.reduceBEq, Nat.reduceAdd, Int.reduceBEq, Nat.reduceLeDiff, reduceIte, Nat.reduceEqDiff, Int.reduceEq, Int.reduceLE, Int.reduceLT, Int.reduceNe, Nat.reduceMul, Nat.reduceSub, Int.reduceToNat, he, g1, g15, g16, g5, hco, hi0, hi1]
            rw [e9, append_own (cs := vS (kvT m0) :: (M'.map kvT).map vS) (cs' := [vS (kvT m1)]) (c := ((m0 :: (M' ++ [m1])).map kvT).map vS) (by simp only [go_sem, Nat.reduceLT, Nat.reduceBEq, Nat.reduceAdd, Int.reduceBEq, Nat.reduceLeDiff, reduceIte, Nat.reduceEqDiff, Int.reduceEq, Int.reduceLE, Int.reduceLT, Int.reduceNe, Nat.reduceMul, Nat.reduceSub, Int.reduceToNat]) (by simp only [go_sem, Nat.reduceLT, Nat.reduceBEq, Nat.reduceAdd, Int.reduceBEq, Nat.reduceLeDiff, reduceIte, Nat.reduceEqDiff, Int.reduceEq, Int.reduceLE, Int.reduceLT, Int.reduceNe, Nat.reduceMul, Nat.reduceSub, Int.reduceToNat]) (by simp) (by simp) rfl (by omega) (by simp [List.take_of_length_le])]
            simp only [go_sem, Nat.reduceLT, Nat.reduceBEq, Nat.reduceAdd, Int.reduceBEq, Nat.reduceLeDiff, reduceIte, Nat.reduceEqDiff, Int.reduceEq, Int.reduceLE, Int.reduceLT, Int.reduceNe, Nat.reduceMul, Nat.reduceSub, Int.reduceToNat, he, g1, g15, g16, g5, hco, hi0, hi1]
            refine ⟨H.length + (G'.length + 3), _, rfl, by simp, by simp only [go_sem, Nat.reduceLT, Nat.reduceBEq, Nat.reduceAdd, Int.reduceBEq, Nat.reduceLeDiff, reduceIte, Nat.reduceEqDiff, Int.reduceEq, Int.reduceLE, Int.reduceLT, Int.reduceNe, Nat.reduceMul, Nat.reduceSub, Int.reduceToNat], by omega⟩
        · rintro e h ⟨he, g1, g15, g16, o', G'', rfl, g5, ho', hol'⟩
          simp only [go_sem, Nat.reduceLT, Nat.reduceBEq, Nat.reduceAdd, Int.reduceBEq, Nat.reduceLeDiff, reduceIte, Nat.reduceEqDiff, Int.reduceEq, Int.reduceLE, Int.reduceLT, Int.reduceNe, Nat.reduceMul, Nat.reduceSub, Int.reduceToNat, he, g1, g15, g16, g5, wi]
          have hpm2 : (m0 :: (M' ++ [m1])).Perm (m0 :: m1 :: M') := (List.perm_append_singleton m1 M').cons m0
          exact ⟨k - 1, by omega, ⟨_, rfl⟩, i + 1, o', m0 :: (M' ++ [m1]), rfl, by omega, rfl, ho', hol', (hpm2.trans hpm).trans hL⟩
      · simp only [go_sem, Nat.reduceLT, Nat.reduceBEq, Nat.reduceAdd, Int.reduceBEq, Nat.reduceLeDiff, reduceIte, Nat.reduceEqDiff, Int.reduceEq, Int.reduceLE, Int.reduceLT, Int.reduceNe, Nat.reduceMul, Nat.reduceSub, Int.reduceToNat, he, g1, g15, g16, g5, wi]
        exact ⟨k - 1, by omega, ⟨_, rfl⟩, i + 1, o, L, rfl, by omega, rfl, ho, hol, hL⟩
    · clear hc hik g16 g15 g1
      have hco : cellsK (H ++ G)[o]? = some ((L.map kvT).map vS) := by rw [ho]; rfl
      have hsL : ∀ p ∈ L, (kvT p).length ≤ 83 := fun p hp => hs p (hL.mem_iff.1 hp)
      simp only [go_sem, Nat.reduceLT, Nat.reduceBEq, Nat.reduceAdd, Int.reduceBEq, Nat.reduceLeDiff, reduceIte, Nat.reduceEqDiff, Int.reduceEq, Int.reduceLE, Int.reduceLT, Int.reduceNe, Nat.reduceMul, Nat.reduceSub, Int.reduceToNat, he, g5]
      refine A_while L.length (fun k e h => h = H ++ G ∧ len e = 74 ∧ AL.get e 58 = .sl true o 0 L.length 1 ∧ AL.get e 59 = vI L.length ∧ ∃ (i : Nat) (tx : List UInt8), AL.get e 60 = vI i ∧ AL.get e 9 = vS tx ∧ i + k = L.length ∧ tx = joinB 59 ((L.take i).map kvT) ∧ tx.length ≤ 84 * i) (by kernel_rfl) ?_ ?_
      · simp only [go_sem, Nat.reduceLT, Nat.reduceBEq, Nat.reduceAdd, Int.reduceBEq, Nat.reduceLeDiff, reduceIte, Nat.reduceEqDiff, Int.reduceEq, Int.reduceLE, Int.reduceLT, Int.reduceNe, Nat.reduceMul, Nat.reduceSub, Int.reduceToNat, he, g5]
        exact ⟨0, _, rfl, rfl, by omega, rfl, by simp⟩
      · rintro k e h ⟨rfl, he, g58, g59, i, tx, g60, g9, hik, htx, htl⟩
        simp only [go_sem, Nat.reduceLT, Nat.reduceBEq, Nat.reduceAdd, Int.reduceBEq, Nat.reduceLeDiff, reduceIte, Nat.reduceEqDiff, Int.reduceEq, Int.reduceLE, Int.reduceLT, Int.reduceNe, Nat.reduceMul, Nat.reduceSub, Int.reduceToNat, he, g58, g59, g60, g9]
        refine condK_of (fun hc => ?_) fun hc => ?_
        · have hc := of_decide_eq_true hc
          have hi : i < L.length := by omega
          have hLi : L[i]? = some L[i] := List.getElem?_eq_getElem hi
          generalize L[i] = p at hLi
          have hci : ((L.map kvT).map vS)[i]? = some (vS (kvT p)) := by rw [List.getElem?_map, List.getElem?_map, hLi]; rfl
          have hpl2 := hsL p (List.mem_of_getElem? hLi)
          have wi : IntKind.i64.wrap ((i : Int) + 1) = ((i + 1 : Nat) : Int) := by rw [wI64 (by omega)]; rfl
          simp only [go_sem, Nat.reduceLT, Nat.reduceBEq, Nat.reduceAdd, Int.reduceBEq, Nat.reduceLeDiff, reduceIte, Nat.reduceEqDiff, Int.reduceEq, Int.reduceLE, Int.reduceLT, Int.reduceNe, Nat.reduceMul, Nat.reduceSub, Int.reduceToNat, he, g58, g59, g60, g9, hco, hci, Int.toNat_natCast, wi]
          refine ⟨by omega, condK_of (fun hq => ?_) fun hq => ?_⟩
          · have hq := of_decide_eq_true hq
            simp only [go_sem, Nat.reduceLT, Nat.reduceBEq, Nat.reduceAdd, Int.reduceBEq, Nat.reduceLeDiff, reduceIte, Nat.reduceEqDiff, Int.reduceEq, Int.reduceLE, Int.reduceLT, Int.reduceNe, Nat.reduceMul, Nat.reduceSub, Int.reduceToNat, he, g58, g59, g60, g9, wi]
            have hne : (L.take i).map kvT ≠ [] := by
              intro e
              have h := congrArg List.length e
              rw [List.length_map, List.length_take, List.length_nil] at h
              omega
            refine ⟨by omega, by simp; omega, k - 1, by omega, i + 1, _, rfl, rfl, by omega, ?_, by simp; omega⟩
            rw [take_snoc hLi, List.map_append, List.map_cons, List.map_nil, joinB_snoc 59 (kvT p) _ hne, htx]
          · have hq := of_decide_eq_false hq
            have hi0 : i = 0 := by omega
            subst hi0
            simp only [go_sem, Nat.reduceLT, Nat.reduceBEq, Nat.reduceAdd, Int.reduceBEq, Nat.reduceLeDiff, reduceIte, Nat.reduceEqDiff, Int.reduceEq, Int.reduceLE, Int.reduceLT, Int.reduceNe, Nat.reduceMul, Nat.reduceSub, Int.reduceToNat, he, g58, g59, g60, g9, wi]
            have htx0 : tx = [] := by rw [htx]; rfl
            refine ⟨by omega, k - 1, by omega, 1, _, rfl, rfl, by omega, ?_, by simp; omega⟩
            rw [take_snoc hLi, htx0]
            rfl
        · have hc := of_decide_eq_false hc
          have hi : i = L.length := by omega
          subst hi
          rw [List.take_length] at htx
          simp only [go_sem, Nat.reduceLT, Nat.reduceBEq, Nat.reduceAdd, Int.reduceBEq, Nat.reduceLeDiff, reduceIte, Nat.reduceEqDiff, Int.reduceEq, Int.reduceLE, Int.reduceLT, Int.reduceNe, Nat.reduceMul, Nat.reduceSub, Int.reduceToNat, he, g58, g59, g60, g9]
          exact ⟨⟨L, hL, by rw [htx]⟩, _, rfl⟩
end Go.Proofs.YtlfpjdcogkcjlaaGreatDoor.F
/- laws.FnTextOrder: the walk. -/
namespace Go.Proofs.YtlfpjdcogkcjlaaGreatDoor.F
open Go.RowKit Go.Proofs.YtlfpjdcogkcjlaaGreatDoor.AL Go.Proofs.YtlfpjdcogkcjlaaGreatDoor.B
set_option linter.unusedVariables false
set_option linter.unusedSimpArgs false
set_option maxRecDepth 20000
attribute [local irreducible] aops acode bindK bindV bindH callX callK condK guardK Kseq Kblk Knorm Kfun Kloop Kjoin outK AWp appendA Ktail
attribute [local go_sem] acode_skip acode_seq acode_region acode_cond acode_block acode_exit acode_ret acode_loop Kseq_normal Kseq_exit Kseq_ret Kblk_normal Kblk_ret Kblk_eq Kblk_ne Knorm_eq Kloop_normal Kloop_exit Kloop_ret Kjoin_normal Kjoin_exit Kjoin_ret condK_true condK_false bindK_put bindV_put bindK_no bindV_no bindH_no aops_nil gops wantK_some wantV_bool wantV_undef guardK_true guardK_false guardK_none aops_move aops_assign aops_pick aops_nilCheck aops_binOp aops_unOp aops_convert aops_fieldAddr aops_indexAddr aops_slice aops_index aops_extract aops_makeInterface aops_makeFunc aops_build aops_load aops_lookup aops_alloc aops_box aops_buildSlice aops_makeSlice aops_makeMap aops_store aops_insert aops_mapUpdate aops_len aops_append aops_call opA_tmp opA_const opA_global opA_func get_mk look_nil look_eq look_ne len_mk List.map_cons List.map_nil Option.map_some Option.map_none bin_add bin_sub bin_mul bin_quo bin_rem bin_eql bin_neq bin_lss bin_leq bin_gtr bin_geq bin_cat bin_seql bin_sneq bin_neq_ifc bin_eql_ifc bin_neq_nn bin_eql_nn bin_neq_ptr bin_eql_ptr bin_neq_pn isIfc_true isPtr_true bin_eql2 bin_neq2 aops_max max_int un_not un_neg lenA_K lenK_str lenK_nil lenK_sl lenK_array pick_bool pick_val bindV_ite bindK_ite bindH_ite slotV_sl slotK_some slotV_ptr slotR_some sliceV_sl cutK_some sliceV_str cutS_some bound_none bound_some indexA_str atS_some mkS fieldV_ptr loadV_ptr cellsK_ro cellsK_own loadK_one loadK_many storeA_ptr storeK_own allocA_some heap_len heap_get0 heap_get heap_set0 heap_set Kfun_ret Kfun_normal resA_nil resA_tmp resA_cell outK_some packA_one packA_nil packA_two List.length_cons List.length_nil List.getElem?_cons_zero List.getElem?_cons_succ List.set_cons_zero List.set_cons_succ List.cons_append List.nil_append List.append_assoc Nat.zero_add Nat.add_zero List.all_cons List.all_nil Value.oneCell' Bool.and_true Bool.and_self if_true if_false Bool.false_eq_true partsA buildV buildA fillA Option.bind_some putCells List.drop_succ_cons List.drop_zero List.take_succ_cons List.take_zero List.take_nil List.drop_nil and_self and_true true_and Option.some.injEq ne_eq not_false_eq_true Option.map_map List.getElem?_toArray beq_self_eq_true Bool.true_beq Bool.false_beq Bool.not_true Bool.not_false decide_true decide_false beq_true Nat.mul_one Nat.one_mul Nat.zero_mul bsA buildSliceA zerosN List.append_nil Int.toNat_natCast Int.toNat_zero boxA one_val one_ptr one_sl one_mp one_ifc one_fn avCells_agg avCells_val valCells_true valCells_agg avCells_ptr avCells_sl avCells_mp avCells_ifc avCells_fn app_cons app_nil lookupA insertA ifaceV extractA kd2 ars127 fp127 ars60 fp60 ars31 fp31 eq2_99 eq2_84 eq2_47 fp52 sz2 kd3 sz3 kd4 sz4 kd5 sz5 kd9 sz9 kd22 sz22 el22 kd23 sz23 el23 kd25 sz25 zc25 fp25 fo25_0 fo25_1 fo25_2 fo25_3 fo25_4 fo25_5 fo25_6 fo25_7 fo25_8 fo25_9 fo25_10 fo25_11 fo25_12 fo25_13 fo25_14 fo25_15 fo25_16 fo25_17 kd31 sz31 zc31 ar31 kd32 sz32 el32 kd34 sz34 zc34 fp34 fo34_0 fo34_1 fo34_2 fo34_3 fo34_4 fo34_5 fo34_6 fo34_7 fo34_8 fo34_9 fo34_10 fo34_11 fo34_12 fo34_13 fo34_14 fo34_15 fo34_16 fo34_17 el38 el42 kd47 sz47 zc47 fp47 fo47_0 fo47_1 kd52 sz52 zc52 fo52_0 el55 zc60 kd72 sz72 zc72 fp72 fo72_0 fo72_1 el73 kd80 sz80 kd84 sz84 zc84 fp84 fo84_0 fo84_1 kd88 sz88 zc88 fp88 fo88_0 fo88_1 fo88_2 fo88_3 kd91 sz91 zc91 fp91 fo91_0 fo91_1 fo91_2 el94 kd99 sz99 zc99 fp99 fo99_0 fo99_1 kd100 sz100 el100 kd102 sz102 zc102 fp102 fo102_0 fo102_1 fo102_2 fo102_3 fo102_4 fo102_5 fo102_6 fo102_7 fo102_8 fo102_9 fo102_10 fo102_11 fo102_12 fo102_13 fo102_14 fo102_15 kd109 sz109 zc109 fp109 isStrMap124 zv80 zc127 kd153 sz153 zc153 ar153 isIface157 kd159 sz159 zc159 fp159 isStrMap177 zv84 Tryz.underlying3 Tryz.underlying4 Tryz.underlying5 Tryz.underlying9 Tryz.underlying21 Tryz.underlying22 Tryz.underlying23 Tryz.underlying32 Tryz.underlying38 Tryz.underlying42 Tryz.underlying47 Tryz.underlying55 Tryz.underlying67 Tryz.underlying73 Tryz.underlying80 Tryz.underlying84 Tryz.underlying94 Tryz.underlying100 Tryz.underlying2 Tryz.underlying127 Tryz.underlying60 Tryz.underlying31 kd55 ai60 ai127 indexA_agg atK_some isStrMap76 zv4 Ktail_eq opsOf_nil opsOf_cons consO_some
theorem mix_congr {r q : Ru} {S S' : List (List UInt8)} (h : ∀ k, k ∈ S ↔ k ∈ S') : ruMix r S q = ruMix r S' q := by
  unfold ruMix
  simp only [h]
theorem perm_sub {r : Ru} {L : List KV} (h : L.Perm (kvs r)) : Sub r L ∧ L.length ≤ 15 ∧ (L.map (·.1)).Nodup ∧ ∀ k, k ∈ L.map (·.1) ↔ k ∈ (kvs r).map (·.1) := by
  have hm := fun k => (h.map (·.1)).mem_iff (a := k)
  obtain ⟨T, hT⟩ := kvs_head r
  exact ⟨⟨fun p hp => h.mem_iff.1 hp, (hm _).2 (by rw [hT]; exact List.mem_cons_self ..)⟩, by rw [h.length_eq]; exact kvs_len r, (h.map (·.1)).nodup_iff.2 (kvs_nodup r), hm⟩
theorem mem_ite_one {α : Type} {c : Prop} [Decidable c] {a b : α} : a ∈ (if c then [b] else [] : List α) ↔ c ∧ a = b := by split <;> simp_all
theorem mem_ite_one' {α : Type} {c : Prop} [Decidable c] {a b : α} : a ∈ (if c then [] else [b] : List α) ↔ ¬ c ∧ a = b := by split <;> simp_all
theorem keys_of (r : Ru) : (kvs r).map (·.1) = [[70, 82, 69, 81]] ++ (if r.hasUntil = true then [[85, 78, 84, 73, 76]] else []) ++ (if 0 < r.count then [[67, 79, 85, 78, 84]] else []) ++ (if 1 < r.interval then [[73, 78, 84, 69, 82, 86, 65, 76]] else []) ++
    ((if r.second.length = 0 then [] else [[66, 89, 83, 69, 67, 79, 78, 68]]) ++ (if r.minute.length = 0 then [] else [[66, 89, 77, 73, 78, 85, 84, 69]]) ++ (if r.hour.length = 0 then [] else [[66, 89, 72, 79, 85, 82]]) ++ (if r.monthDay.length = 0 then [] else [[66, 89, 77, 79, 78, 84, 72, 68, 65, 89]]) ++ (if r.yearDay.length = 0 then [] else [[66, 89, 89, 69, 65, 82, 68, 65, 89]]) ++ (if r.weekNo.length = 0 then [] else [[66, 89, 87, 69, 69, 75, 78, 79]]) ++ (if r.month.length = 0 then [] else [[66, 89, 77, 79, 78, 84, 72]]) ++ (if r.setPos.length = 0 then [] else [[66, 89, 83, 69, 84, 80, 79, 83]]) ++ (if r.easter.length = 0 then [] else [[66, 89, 69, 65, 83, 84, 69, 82]])) ++
    (if r.day.length = 0 then [] else [[66, 89, 68, 65, 89]]) ++ (if r.wkst = 0 then [] else [[87, 75, 83, 84]]) := by
  unfold kvs kOne
  simp only [List.map_append, List.map_cons, List.map_nil, apply_ite (List.map (fun p : KV => p.1))]
theorem in_keys (r : Ru) (k : List UInt8) : k ∈ (kvs r).map (·.1) ↔ k = [70, 82, 69, 81] ∨ (r.hasUntil = true ∧ k = [85, 78, 84, 73, 76]) ∨ (0 < r.count ∧ k = [67, 79, 85, 78, 84]) ∨ (1 < r.interval ∧ k = [73, 78, 84, 69, 82, 86, 65, 76]) ∨ (¬ r.second.length = 0 ∧ k = [66, 89, 83, 69, 67, 79, 78, 68]) ∨ (¬ r.minute.length = 0 ∧ k = [66, 89, 77, 73, 78, 85, 84, 69]) ∨ (¬ r.hour.length = 0 ∧ k = [66, 89, 72, 79, 85, 82]) ∨ (¬ r.monthDay.length = 0 ∧ k = [66, 89, 77, 79, 78, 84, 72, 68, 65, 89]) ∨ (¬ r.yearDay.length = 0 ∧ k = [66, 89, 89, 69, 65, 82, 68, 65, 89]) ∨ (¬ r.weekNo.length = 0 ∧ k = [66, 89, 87, 69, 69, 75, 78, 79]) ∨ (¬ r.month.length = 0 ∧ k = [66, 89, 77, 79, 78, 84, 72]) ∨ (¬ r.setPos.length = 0 ∧ k = [66, 89, 83, 69, 84, 80, 79, 83]) ∨ (¬ r.easter.length = 0 ∧ k = [66, 89, 69, 65, 83, 84, 69, 82]) ∨ (¬ r.day.length = 0 ∧ k = [66, 89, 68, 65, 89]) ∨ (¬ r.wkst = 0 ∧ k = [87, 75, 83, 84]) := by
  rw [keys_of]
  simp only [List.mem_append, mem_ite_one, mem_ite_one', List.mem_singleton, or_assoc]
theorem if_list {α : Type} {l : List α} : (if ¬ l.length = 0 then l else []) = l := by
  split
  · rfl
  · rename_i h
    have : l.length = 0 := Decidable.not_not.1 h
    exact (List.eq_nil_of_length_eq_zero this).symm
/-- All parts of a rule: the rule. -/
theorem mix_all {r : Ru} (h : Wr r) : ruMix r ((kvs r).map (·.1)) ruQ0 = { r with interval := if 1 < r.interval then r.interval else 1 } := by
  unfold ruMix
  simp (config := { decide := true }) only [in_keys, and_false, and_true, or_false, false_or, true_or, if_true]
  unfold ruQ0
  simp only [if_list, h.start.1, h.start.2]
  have hw : (if ¬ r.wkst = 0 then r.wkst else 0) = r.wkst := by split <;> omega
  have hc : (if 0 < r.count then r.count else 0) = r.count := by have := h.count.1; split <;> omega
  have hu : (if r.hasUntil = true then true else false) = r.hasUntil := by cases r.hasUntil <;> rfl
  have ht : (if r.hasUntil = true then r.til else 0) = r.til := by
    cases hh : r.hasUntil with
    | true => rfl
    | false => exact (h.tilNo hh).symm
  rw [hw, hc, hu, ht]
/-- What a text with a rule's parts in any order is read as. -/
theorem parsePerm_A {w0 : World} (hG : Glob w0) {r : Ru} (hwr : Wr r) {L : List KV} (hL : L.Perm (kvs r)) (H : Heap) (hH : GH H) :
    ACalls Tryz.prog (CB w0) 15 [vS (joinB 59 (L.map kvT))] H fun v H' => (∃ y, v = .tup [.agg (ruCells { r with interval := if 1 < r.interval then r.interval else 0 } y), vB true] ∧ RuOwn H' { r with interval := if 1 < r.interval then r.interval else 0 } y) ∧ ∃ G, H' = H ++ G := by
  obtain ⟨hs, hl, hn, hm⟩ := perm_sub hL
  have hin := sub_inText hwr hs hl
  have hop := opParse_sub hwr hs
  have hms := mix_same hwr (S := L.map (·.1)) (until_in _ hs.mem)
  have hiv : [73, 78, 84, 69, 82, 86, 65, 76] ∈ L.map (·.1) ↔ 1 < r.interval := by
    rw [hm, in_keys]
    simp (config := { decide := true }) only [and_false, and_true, or_false, false_or]
  rw [mix_congr hm, mix_all hwr] at hms
  simp only [hiv] at hms
  refine (parseOption_A hG _ hin H hH).mono ?_
  rintro v h ⟨hr2, hx⟩
  rw [hop] at hr2
  obtain ⟨y2, rfl, hO2⟩ := hr2
  rw [hms] at hO2 ⊢
  exact ⟨⟨y2, rfl, hO2⟩, hx⟩
theorem callX_ofRule {w0 : World} (r : Ru) (hdl : r.day.length ≤ 1000000) (x : Rs) {H : Heap} (hx : RuAt H r x) {ops : Array Oper} {rest : List Oper} {env : Env} {dst : Option Nat} {K : Env → Heap → Prop}
    (hk : ∀ y G, RuAt (H ++ G) r y → aops Tryz.prog (CB w0) (some []) ops rest (setD env dst (.agg (ruCells r y))) (H ++ G) K) : callX Tryz.prog (CB w0) (some []) 17 [.agg (ruCells r x)] H ops rest env dst K := by
  refine callX_many (ofRule_A r hdl x H hx) (by rintro _ _ ⟨-, G, rfl⟩; exact List.prefix_append _ _) ⟨_, _, ⟨x, rfl, hx⟩, [], (List.append_nil _).symm⟩ ?_
  rintro v h ⟨⟨y, rfl, hy⟩, G, rfl⟩
  exact hk y G hy
theorem fnTextOrder_A {w0 : World} (hG : Glob w0) (r : Ru) (x : Rs) (hn : RuNum r) (b1 b2 : List Nat) (hb1 : ∀ b ∈ b1, b ≤ 255) (hb2 : ∀ b ∈ b2, b ≤ 255) (y1 y2 : AV) (H : Heap) (hH : GH H) (hx : RuAt H r x) (hy1 : BytesAt H y1 b1) (hy2 : BytesAt H y2 b2) : ACalls Tryz.prog (CB w0) 4 [.agg (ruCells r x), y1, y2] H fun v H' => v = vB true ∧ ∃ G, H' = H ++ G := by
  refine A_fun (N := 71) (rs := [.tmp 6]) Tryz.func4 rfl rfl rfl (by kernel_rfl) (by kernel_rfl) (Nat.le_of_ble_eq_true rfl) ?_
  rintro e he ⟨g0, g1, g2, -⟩
  unfold ruCells at g0
  have l1 := hy1.len 5
  have l2 := hy2.len 5
  simp only [go_sem, Nat.reduceLT, Nat.reduceBEq, Nat.reduceAdd, Int.reduceBEq, Nat.reduceLeDiff, reduceIte, Nat.reduceEqDiff, Int.reduceEq, Int.reduceLE, Int.reduceLT, Int.reduceNe, Nat.reduceMul, Nat.reduceSub, Int.reduceToNat, he, g0, g1, g2, l1, l2, hx.setPos.one, hx.month.one, hx.monthDay.one, hx.yearDay.one, hx.weekNo.one, hx.day.one, hx.hour.one, hx.minute.one, hx.second.one, hx.easter.one]
  refine callX_of (zzFits1_A r x _ (hx.more _)) (List.prefix_refl _) ?_
  cases hf : fits r with
  | false =>
    simp only [go_sem, Nat.reduceLT, Nat.reduceBEq, Nat.reduceAdd, Int.reduceBEq, Nat.reduceLeDiff, reduceIte, Nat.reduceEqDiff, Int.reduceEq, Int.reduceLE, Int.reduceLT, Int.reduceNe, Nat.reduceMul, Nat.reduceSub, Int.reduceToNat, he, g1, g2, l1, l2, setD_some]
    exact ⟨_, rfl⟩
  | true =>
  have hl := fits_len hf
  simp only [go_sem, Nat.reduceLT, Nat.reduceBEq, Nat.reduceAdd, Int.reduceBEq, Nat.reduceLeDiff, reduceIte, Nat.reduceEqDiff, Int.reduceEq, Int.reduceLE, Int.reduceLT, Int.reduceNe, Nat.reduceMul, Nat.reduceSub, Int.reduceToNat, he, g1, g2, l1, l2, setD_some]
  cases c1 : decide ((2147483647 : Int) < b1.length) with
  | true =>
    simp only [go_sem, Nat.reduceLT, Nat.reduceBEq, Nat.reduceAdd, Int.reduceBEq, Nat.reduceLeDiff, reduceIte, Nat.reduceEqDiff, Int.reduceEq, Int.reduceLE, Int.reduceLT, Int.reduceNe, Nat.reduceMul, Nat.reduceSub, Int.reduceToNat, he, g1, g2, l1, l2, c1]
    exact ⟨_, rfl⟩
  | false =>
  simp only [go_sem, Nat.reduceLT, Nat.reduceBEq, Nat.reduceAdd, Int.reduceBEq, Nat.reduceLeDiff, reduceIte, Nat.reduceEqDiff, Int.reduceEq, Int.reduceLE, Int.reduceLT, Int.reduceNe, Nat.reduceMul, Nat.reduceSub, Int.reduceToNat, he, g1, g2, l1, l2, c1]
  cases c2 : decide ((2147483647 : Int) < b2.length) with
  | true =>
    simp only [go_sem, Nat.reduceLT, Nat.reduceBEq, Nat.reduceAdd, Int.reduceBEq, Nat.reduceLeDiff, reduceIte, Nat.reduceEqDiff, Int.reduceEq, Int.reduceLE, Int.reduceLT, Int.reduceNe, Nat.reduceMul, Nat.reduceSub, Int.reduceToNat, he, g1, g2, l1, l2, c2]
    exact ⟨_, rfl⟩
  | false =>
  simp only [go_sem, Nat.reduceLT, Nat.reduceBEq, Nat.reduceAdd, Int.reduceBEq, Nat.reduceLeDiff, reduceIte, Nat.reduceEqDiff, Int.reduceEq, Int.reduceLE, Int.reduceLT, Int.reduceNe, Nat.reduceMul, Nat.reduceSub, Int.reduceToNat, he, g1, g2, l1, l2, c2]
  refine callX_any (textBare_A r x hl hn _ (hx.more _)) ?_
  rintro v h ⟨rfl, G, rfl⟩
  unfold bareR
  cases hb : bareOk r with
  | false =>
    simp only [ruCells, go_sem, Nat.reduceLT, Nat.reduceBEq, Nat.reduceAdd, Int.reduceBEq, Nat.reduceLeDiff, reduceIte, Nat.reduceEqDiff, Int.reduceEq, Int.reduceLE, Int.reduceLT, Int.reduceNe, Nat.reduceMul, Nat.reduceSub, Int.reduceToNat, he, g1, g2, l1, l2, setD_some, hx.setPos.one, hx.month.one, hx.monthDay.one, hx.yearDay.one, hx.weekNo.one, hx.day.one, hx.hour.one, hx.minute.one, hx.second.one, hx.easter.one]
    refine callX_of (textAwake_A hG _ (hH.more _)) (List.prefix_refl _) ?_
    simp only [go_sem, Nat.reduceLT, Nat.reduceBEq, Nat.reduceAdd, Int.reduceBEq, Nat.reduceLeDiff, reduceIte, Nat.reduceEqDiff, Int.reduceEq, Int.reduceLE, Int.reduceLT, Int.reduceNe, Nat.reduceMul, Nat.reduceSub, Int.reduceToNat, he, g1, setD_some]
    exact ⟨_, rfl⟩
  | true =>
  obtain ⟨hc, hwr⟩ := wr_bare hb
  simp only [ruCells, go_sem, Nat.reduceLT, Nat.reduceBEq, Nat.reduceAdd, Int.reduceBEq, Nat.reduceLeDiff, reduceIte, Nat.reduceEqDiff, Int.reduceEq, Int.reduceLE, Int.reduceLT, Int.reduceNe, Nat.reduceMul, Nat.reduceSub, Int.reduceToNat, he, g1, g2, l1, l2, setD_some, hx.setPos.one, hx.month.one, hx.monthDay.one, hx.yearDay.one, hx.weekNo.one, hx.day.one, hx.hour.one, hx.minute.one, hx.second.one, hx.easter.one]
  cases c3 : decide ((30 : Int) < b1.length) with
  | true =>
    simp only [go_sem, Nat.reduceLT, Nat.reduceBEq, Nat.reduceAdd, Int.reduceBEq, Nat.reduceLeDiff, reduceIte, Nat.reduceEqDiff, Int.reduceEq, Int.reduceLE, Int.reduceLT, Int.reduceNe, Nat.reduceMul, Nat.reduceSub, Int.reduceToNat, he, g1, g2, l1, l2, c3]
    refine callX_of (textAwake_A hG _ (hH.more _)) (List.prefix_refl _) ?_
    simp only [go_sem, Nat.reduceLT, Nat.reduceBEq, Nat.reduceAdd, Int.reduceBEq, Nat.reduceLeDiff, reduceIte, Nat.reduceEqDiff, Int.reduceEq, Int.reduceLE, Int.reduceLT, Int.reduceNe, Nat.reduceMul, Nat.reduceSub, Int.reduceToNat, he, setD_some]
    exact ⟨_, rfl⟩
  | false =>
  simp only [go_sem, Nat.reduceLT, Nat.reduceBEq, Nat.reduceAdd, Int.reduceBEq, Nat.reduceLeDiff, reduceIte, Nat.reduceEqDiff, Int.reduceEq, Int.reduceLE, Int.reduceLT, Int.reduceNe, Nat.reduceMul, Nat.reduceSub, Int.reduceToNat, he, g1, g2, l1, l2, c3]
  cases c4 : decide ((30 : Int) < b2.length) with
  | true =>
    simp only [go_sem, Nat.reduceLT, Nat.reduceBEq, Nat.reduceAdd, Int.reduceBEq, Nat.reduceLeDiff, reduceIte, Nat.reduceEqDiff, Int.reduceEq, Int.reduceLE, Int.reduceLT, Int.reduceNe, Nat.reduceMul, Nat.reduceSub, Int.reduceToNat, he, g1, g2, l1, l2, c4]
    refine callX_of (textAwake_A hG _ (hH.more _)) (List.prefix_refl _) ?_
    simp only [go_sem, Nat.reduceLT, Nat.reduceBEq, Nat.reduceAdd, Int.reduceBEq, Nat.reduceLeDiff, reduceIte, Nat.reduceEqDiff, Int.reduceEq, Int.reduceLE, Int.reduceLT, Int.reduceNe, Nat.reduceMul, Nat.reduceSub, Int.reduceToNat, he, setD_some]
    exact ⟨_, rfl⟩
  | false =>
  simp only [go_sem, Nat.reduceLT, Nat.reduceBEq, Nat.reduceAdd, Int.reduceBEq, Nat.reduceLeDiff, reduceIte, Nat.reduceEqDiff, Int.reduceEq, Int.reduceLE, Int.reduceLT, Int.reduceNe, Nat.reduceMul, Nat.reduceSub, Int.reduceToNat, he, g1, g2, l1, l2, c4]
  have n3 := of_decide_eq_false c3
  have n4 := of_decide_eq_false c4
  have hsm : ∀ p ∈ kvs (bare r), (kvT p).length ≤ 83 := fun p hp => kv_small hwr hp
  have hbx := bare_at hx
  refine callX_any (specText_A hG (bare r) x (clean_ok hc) hsm b1 hb1 (by omega) y1 _ (SlOf.more hy1 _) (hbx.more _)) ?_
  rintro v h ⟨⟨L1, hL1, rfl⟩, G1, rfl⟩
  simp only [go_sem, Nat.reduceLT, Nat.reduceBEq, Nat.reduceAdd, Int.reduceBEq, Nat.reduceLeDiff, reduceIte, Nat.reduceEqDiff, Int.reduceEq, Int.reduceLE, Int.reduceLT, Int.reduceNe, Nat.reduceMul, Nat.reduceSub, Int.reduceToNat, he, g1, g2, setD_some]
  have hwr1 : ∀ c : Int, Few { bare r with interval := c } := fun c => ⟨by have := hwr.setPos.1; show (bare r).setPos.length ≤ _; omega, by have := hwr.month.1; show (bare r).month.length ≤ _; omega, by have := hwr.monthDay.1; show (bare r).monthDay.length ≤ _; omega, by have := hwr.yearDay.1; show (bare r).yearDay.length ≤ _; omega, by have := hwr.weekNo.1; show (bare r).weekNo.length ≤ _; omega, by have := hwr.day.1; show (bare r).day.length ≤ _; omega, by have := hwr.hour.1; show (bare r).hour.length ≤ _; omega, by have := hwr.minute.1; show (bare r).minute.length ≤ _; omega, by have := hwr.second.1; show (bare r).second.length ≤ _; omega, by have := hwr.easter.1; show (bare r).easter.length ≤ _; omega⟩
  have hpp := fun {L : List KV} (hL : L.Perm (kvs (bare r))) H hH => parsePerm_A hG hwr hL H hH
  generalize (if 1 < (bare r).interval then (bare r).interval else 0) = z at hpp
  have hfew := hwr1 z
  refine callX_any (hpp hL1 _ (hH.more _)) ?_
  rintro v h ⟨⟨z1, rfl, hO1⟩, G2, rfl⟩
  simp only [ruCells, go_sem, Nat.reduceLT, Nat.reduceBEq, Nat.reduceAdd, Int.reduceBEq, Nat.reduceLeDiff, reduceIte, Nat.reduceEqDiff, Int.reduceEq, Int.reduceLE, Int.reduceLT, Int.reduceNe, Nat.reduceMul, Nat.reduceSub, Int.reduceToNat, he, g1, g2, setD_some, hO1.setPos.ints.one, hO1.month.ints.one, hO1.monthDay.ints.one, hO1.yearDay.ints.one, hO1.weekNo.ints.one, hO1.day.days.one, hO1.hour.ints.one, hO1.minute.ints.one, hO1.second.ints.one, hO1.easter.ints.one]
  refine callX_any (specText_A hG (bare r) x (clean_ok hc) hsm b2 hb2 (by omega) y2 _ (SlOf.more hy2 _) (hbx.more _)) ?_
  rintro v h ⟨⟨L2, hL2, rfl⟩, G3, rfl⟩
  simp only [go_sem, Nat.reduceLT, Nat.reduceBEq, Nat.reduceAdd, Int.reduceBEq, Nat.reduceLeDiff, reduceIte, Nat.reduceEqDiff, Int.reduceEq, Int.reduceLE, Int.reduceLT, Int.reduceNe, Nat.reduceMul, Nat.reduceSub, Int.reduceToNat, he, g1, g2, setD_some]
  refine callX_any (hpp hL2 _ (hH.more _)) ?_
  rintro v h ⟨⟨z2, rfl, hO2⟩, G4, rfl⟩
  simp only [ruCells, go_sem, Nat.reduceLT, Nat.reduceBEq, Nat.reduceAdd, Int.reduceBEq, Nat.reduceLeDiff, reduceIte, Nat.reduceEqDiff, Int.reduceEq, Int.reduceLE, Int.reduceLT, Int.reduceNe, Nat.reduceMul, Nat.reduceSub, Int.reduceToNat, he, g1, g2, setD_some, hO2.setPos.ints.one, hO2.month.ints.one, hO2.monthDay.ints.one, hO2.yearDay.ints.one, hO2.weekNo.ints.one, hO2.day.days.one, hO2.hour.ints.one, hO2.minute.ints.one, hO2.second.ints.one, hO2.easter.ints.one]
  have hx1 := fun Z : Heap => hO1.at.more Z
  have hx2 := fun Z : Heap => hO2.at.more Z
  simp only [go_sem, Nat.reduceLT, Nat.reduceBEq, Nat.reduceAdd, Int.reduceBEq, Nat.reduceLeDiff, reduceIte, Nat.reduceEqDiff, Int.reduceEq, Int.reduceLE, Int.reduceLT, Int.reduceNe, Nat.reduceMul, Nat.reduceSub, Int.reduceToNat] at hx1 hx2
  refine acode_draw mixed (by kernel_rfl) ?_
  simp only [ruCells, go_sem, Nat.reduceLT, Nat.reduceBEq, Nat.reduceAdd, Int.reduceBEq, Nat.reduceLeDiff, reduceIte, Nat.reduceEqDiff, Int.reduceEq, Int.reduceLE, Int.reduceLT, Int.reduceNe, Nat.reduceMul, Nat.reduceSub, Int.reduceToNat, he, g1, g2, setD_some, hO1.setPos.ints.one, hO1.month.ints.one, hO1.monthDay.ints.one, hO1.yearDay.ints.one, hO1.weekNo.ints.one, hO1.day.days.one, hO1.hour.ints.one, hO1.minute.ints.one, hO1.second.ints.one, hO1.easter.ints.one, hO2.setPos.ints.one, hO2.month.ints.one, hO2.monthDay.ints.one, hO2.yearDay.ints.one, hO2.weekNo.ints.one, hO2.day.days.one, hO2.hour.ints.one, hO2.minute.ints.one, hO2.second.ints.one, hO2.easter.ints.one]
  refine callX_ofRule { bare r with interval := z } hfew.day z1 (hx1 _) fun y3 G5 h3 => ?_
  have h3 := fun Z : Heap => h3.more Z
  simp only [ruCells, go_sem, Nat.reduceLT, Nat.reduceBEq, Nat.reduceAdd, Int.reduceBEq, Nat.reduceLeDiff, reduceIte, Nat.reduceEqDiff, Int.reduceEq, Int.reduceLE, Int.reduceLT, Int.reduceNe, Nat.reduceMul, Nat.reduceSub, Int.reduceToNat, he, setD_some] at h3 ⊢
  refine callX_ofRule { bare r with interval := z } hfew.day z2 (hx2 _) fun y4 G6 h4 => ?_
  simp only [ruCells, go_sem, Nat.reduceLT, Nat.reduceBEq, Nat.reduceAdd, Int.reduceBEq, Nat.reduceLeDiff, reduceIte, Nat.reduceEqDiff, Int.reduceEq, Int.reduceLE, Int.reduceLT, Int.reduceNe, Nat.reduceMul, Nat.reduceSub, Int.reduceToNat, he, setD_some] at h4 ⊢
  refine callX_of (textSame_A { bare r with interval := z } hfew z z rfl y3 y4 _ (h3 _) h4) (List.prefix_refl _) ?_
  simp only [go_sem, Nat.reduceLT, Nat.reduceBEq, Nat.reduceAdd, Int.reduceBEq, Nat.reduceLeDiff, reduceIte, Nat.reduceEqDiff, Int.reduceEq, Int.reduceLE, Int.reduceLT, Int.reduceNe, Nat.reduceMul, Nat.reduceSub, Int.reduceToNat, he, setD_some]
  refine callX_of (textAwake_A hG _ (hH.more _)) (List.prefix_refl _) ?_
  simp only [go_sem, Nat.reduceLT, Nat.reduceBEq, Nat.reduceAdd, Int.reduceBEq, Nat.reduceLeDiff, reduceIte, Nat.reduceEqDiff, Int.reduceEq, Int.reduceLE, Int.reduceLT, Int.reduceNe, Nat.reduceMul, Nat.reduceSub, Int.reduceToNat, he, setD_some]
  exact ⟨_, rfl⟩

theorem fnTextRead_A {w0 : World} (hG : Glob w0) (r : Ru) (x : Rs) (hn : RuNum r) (b1 : List Nat) (hb1 : ∀ b ∈ b1, b ≤ 255) (y1 : AV) (H : Heap) (hH : GH H) (hx : RuAt H r x) (hy1 : BytesAt H y1 b1) : ACalls Tryz.prog (CB w0) 6 [.agg (ruCells r x), y1] H fun v H' => v = vB true ∧ ∃ G, H' = H ++ G := by
  refine A_fun (N := 46) (rs := [.tmp 4]) Tryz.func6 rfl rfl rfl (by kernel_rfl) (by kernel_rfl) (Nat.le_of_ble_eq_true rfl) ?_
  rintro e he ⟨g0, g1, -⟩
  unfold ruCells at g0
  have l1 := hy1.len 5
  simp only [go_sem, Nat.reduceLT, Nat.reduceBEq, Nat.reduceAdd, Int.reduceBEq, Nat.reduceLeDiff, reduceIte, Nat.reduceEqDiff, Int.reduceEq, Int.reduceLE, Int.reduceLT, Int.reduceNe, Nat.reduceMul, Nat.reduceSub, Int.reduceToNat, he, g0, g1, l1, hx.setPos.one, hx.month.one, hx.monthDay.one, hx.yearDay.one, hx.weekNo.one, hx.day.one, hx.hour.one, hx.minute.one, hx.second.one, hx.easter.one]
  refine callX_of (zzFits1_A r x _ (hx.more _)) (List.prefix_refl _) ?_
  cases hf : fits r with
  | false =>
    simp only [go_sem, Nat.reduceLT, Nat.reduceBEq, Nat.reduceAdd, Int.reduceBEq, Nat.reduceLeDiff, reduceIte, Nat.reduceEqDiff, Int.reduceEq, Int.reduceLE, Int.reduceLT, Int.reduceNe, Nat.reduceMul, Nat.reduceSub, Int.reduceToNat, he, g1, l1, setD_some]
    exact ⟨_, rfl⟩
  | true =>
  have hl := fits_len hf
  simp only [go_sem, Nat.reduceLT, Nat.reduceBEq, Nat.reduceAdd, Int.reduceBEq, Nat.reduceLeDiff, reduceIte, Nat.reduceEqDiff, Int.reduceEq, Int.reduceLE, Int.reduceLT, Int.reduceNe, Nat.reduceMul, Nat.reduceSub, Int.reduceToNat, he, g1, l1, setD_some]
  cases c1 : decide ((2147483647 : Int) < b1.length) with
  | true =>
    simp only [go_sem, Nat.reduceLT, Nat.reduceBEq, Nat.reduceAdd, Int.reduceBEq, Nat.reduceLeDiff, reduceIte, Nat.reduceEqDiff, Int.reduceEq, Int.reduceLE, Int.reduceLT, Int.reduceNe, Nat.reduceMul, Nat.reduceSub, Int.reduceToNat, he, g1, l1, c1]
    exact ⟨_, rfl⟩
  | false =>
  simp only [go_sem, Nat.reduceLT, Nat.reduceBEq, Nat.reduceAdd, Int.reduceBEq, Nat.reduceLeDiff, reduceIte, Nat.reduceEqDiff, Int.reduceEq, Int.reduceLE, Int.reduceLT, Int.reduceNe, Nat.reduceMul, Nat.reduceSub, Int.reduceToNat, he, g1, l1, c1]
  refine callX_any (textBare_A r x hl hn _ (hx.more _)) ?_
  rintro v h ⟨rfl, G, rfl⟩
  unfold bareR
  cases hb : bareOk r with
  | false =>
    simp only [ruCells, go_sem, Nat.reduceLT, Nat.reduceBEq, Nat.reduceAdd, Int.reduceBEq, Nat.reduceLeDiff, reduceIte, Nat.reduceEqDiff, Int.reduceEq, Int.reduceLE, Int.reduceLT, Int.reduceNe, Nat.reduceMul, Nat.reduceSub, Int.reduceToNat, he, g1, l1, setD_some, hx.setPos.one, hx.month.one, hx.monthDay.one, hx.yearDay.one, hx.weekNo.one, hx.day.one, hx.hour.one, hx.minute.one, hx.second.one, hx.easter.one]
    refine callX_of (textAwake_A hG _ (hH.more _)) (List.prefix_refl _) ?_
    simp only [go_sem, Nat.reduceLT, Nat.reduceBEq, Nat.reduceAdd, Int.reduceBEq, Nat.reduceLeDiff, reduceIte, Nat.reduceEqDiff, Int.reduceEq, Int.reduceLE, Int.reduceLT, Int.reduceNe, Nat.reduceMul, Nat.reduceSub, Int.reduceToNat, he, g1, setD_some]
    exact ⟨_, rfl⟩
  | true =>
  obtain ⟨hc, hwr⟩ := wr_bare hb
  simp only [ruCells, go_sem, Nat.reduceLT, Nat.reduceBEq, Nat.reduceAdd, Int.reduceBEq, Nat.reduceLeDiff, reduceIte, Nat.reduceEqDiff, Int.reduceEq, Int.reduceLE, Int.reduceLT, Int.reduceNe, Nat.reduceMul, Nat.reduceSub, Int.reduceToNat, he, g1, l1, setD_some, hx.setPos.one, hx.month.one, hx.monthDay.one, hx.yearDay.one, hx.weekNo.one, hx.day.one, hx.hour.one, hx.minute.one, hx.second.one, hx.easter.one]
  cases c3 : decide ((30 : Int) < b1.length) with
  | true =>
    simp only [go_sem, Nat.reduceLT, Nat.reduceBEq, Nat.reduceAdd, Int.reduceBEq, Nat.reduceLeDiff, reduceIte, Nat.reduceEqDiff, Int.reduceEq, Int.reduceLE, Int.reduceLT, Int.reduceNe, Nat.reduceMul, Nat.reduceSub, Int.reduceToNat, he, g1, l1, c3]
    refine callX_of (textAwake_A hG _ (hH.more _)) (List.prefix_refl _) ?_
    simp only [go_sem, Nat.reduceLT, Nat.reduceBEq, Nat.reduceAdd, Int.reduceBEq, Nat.reduceLeDiff, reduceIte, Nat.reduceEqDiff, Int.reduceEq, Int.reduceLE, Int.reduceLT, Int.reduceNe, Nat.reduceMul, Nat.reduceSub, Int.reduceToNat, he, setD_some]
    exact ⟨_, rfl⟩
  | false =>
  simp only [go_sem, Nat.reduceLT, Nat.reduceBEq, Nat.reduceAdd, Int.reduceBEq, Nat.reduceLeDiff, reduceIte, Nat.reduceEqDiff, Int.reduceEq, Int.reduceLE, Int.reduceLT, Int.reduceNe, Nat.reduceMul, Nat.reduceSub, Int.reduceToNat, he, g1, l1, c3]
  have n3 := of_decide_eq_false c3
  have hsm : ∀ p ∈ kvs (bare r), (kvT p).length ≤ 83 := fun p hp => kv_small hwr hp
  have hbx := bare_at hx
  refine callX_any (specText_A hG (bare r) x (clean_ok hc) hsm b1 hb1 (by omega) y1 _ (SlOf.more hy1 _) (hbx.more _)) ?_
  rintro v h ⟨⟨L1, hL1, rfl⟩, G1, rfl⟩
  simp only [go_sem, Nat.reduceLT, Nat.reduceBEq, Nat.reduceAdd, Int.reduceBEq, Nat.reduceLeDiff, reduceIte, Nat.reduceEqDiff, Int.reduceEq, Int.reduceLE, Int.reduceLT, Int.reduceNe, Nat.reduceMul, Nat.reduceSub, Int.reduceToNat, he, g1, setD_some]
  have hwr1 : ∀ c : Int, Few { bare r with interval := c } := fun c => ⟨by have := hwr.setPos.1; show (bare r).setPos.length ≤ _; omega, by have := hwr.month.1; show (bare r).month.length ≤ _; omega, by have := hwr.monthDay.1; show (bare r).monthDay.length ≤ _; omega, by have := hwr.yearDay.1; show (bare r).yearDay.length ≤ _; omega, by have := hwr.weekNo.1; show (bare r).weekNo.length ≤ _; omega, by have := hwr.day.1; show (bare r).day.length ≤ _; omega, by have := hwr.hour.1; show (bare r).hour.length ≤ _; omega, by have := hwr.minute.1; show (bare r).minute.length ≤ _; omega, by have := hwr.second.1; show (bare r).second.length ≤ _; omega, by have := hwr.easter.1; show (bare r).easter.length ≤ _; omega⟩
  have hpp := fun {L : List KV} (hL : L.Perm (kvs (bare r))) H hH => parsePerm_A hG hwr hL H hH
  have hz : max (if 1 < (bare r).interval then (bare r).interval else 0) 1 = max (bare r).interval 1 := by have := hwr.interval.1; split <;> omega
  have hfew0 : Few (bare r) := hwr1 (bare r).interval
  generalize (if 1 < (bare r).interval then (bare r).interval else 0) = z at hpp hz
  have hfew := hwr1 z
  refine callX_any (hpp hL1 _ (hH.more _)) ?_
  rintro v h ⟨⟨z1, rfl, hO1⟩, G2, rfl⟩
  simp only [ruCells, go_sem, Nat.reduceLT, Nat.reduceBEq, Nat.reduceAdd, Int.reduceBEq, Nat.reduceLeDiff, reduceIte, Nat.reduceEqDiff, Int.reduceEq, Int.reduceLE, Int.reduceLT, Int.reduceNe, Nat.reduceMul, Nat.reduceSub, Int.reduceToNat, he, g1, setD_some, hO1.setPos.ints.one, hO1.month.ints.one, hO1.monthDay.ints.one, hO1.yearDay.ints.one, hO1.weekNo.ints.one, hO1.day.days.one, hO1.hour.ints.one, hO1.minute.ints.one, hO1.second.ints.one, hO1.easter.ints.one]
  have hx1 := fun Z : Heap => hO1.at.more Z
  simp only [go_sem, Nat.reduceLT, Nat.reduceBEq, Nat.reduceAdd, Int.reduceBEq, Nat.reduceLeDiff, reduceIte, Nat.reduceEqDiff, Int.reduceEq, Int.reduceLE, Int.reduceLT, Int.reduceNe, Nat.reduceMul, Nat.reduceSub, Int.reduceToNat] at hx1
  refine acode_draw mixed (by kernel_rfl) ?_
  simp only [ruCells, go_sem, Nat.reduceLT, Nat.reduceBEq, Nat.reduceAdd, Int.reduceBEq, Nat.reduceLeDiff, reduceIte, Nat.reduceEqDiff, Int.reduceEq, Int.reduceLE, Int.reduceLT, Int.reduceNe, Nat.reduceMul, Nat.reduceSub, Int.reduceToNat, he, g1, setD_some, hO1.setPos.ints.one, hO1.month.ints.one, hO1.monthDay.ints.one, hO1.yearDay.ints.one, hO1.weekNo.ints.one, hO1.day.days.one, hO1.hour.ints.one, hO1.minute.ints.one, hO1.second.ints.one, hO1.easter.ints.one]
  refine callX_ofRule { bare r with interval := z } hfew.day z1 (hx1 _) fun y3 G5 h3 => ?_
  simp only [ruCells, go_sem, Nat.reduceLT, Nat.reduceBEq, Nat.reduceAdd, Int.reduceBEq, Nat.reduceLeDiff, reduceIte, Nat.reduceEqDiff, Int.reduceEq, Int.reduceLE, Int.reduceLT, Int.reduceNe, Nat.reduceMul, Nat.reduceSub, Int.reduceToNat, he, setD_some] at h3 ⊢
  have h3 : RuAt _ (bare r) y3 := ⟨h3.setPos, h3.month, h3.monthDay, h3.yearDay, h3.weekNo, h3.day, h3.hour, h3.minute, h3.second, h3.easter⟩
  refine callX_of (textSame_A (bare r) hfew0 z (bare r).interval hz y3 x _ h3 (hbx.more _)) (List.prefix_refl _) ?_
  simp only [go_sem, Nat.reduceLT, Nat.reduceBEq, Nat.reduceAdd, Int.reduceBEq, Nat.reduceLeDiff, reduceIte, Nat.reduceEqDiff, Int.reduceEq, Int.reduceLE, Int.reduceLT, Int.reduceNe, Nat.reduceMul, Nat.reduceSub, Int.reduceToNat, he, setD_some]
  refine callX_of (textAwake_A hG _ (hH.more _)) (List.prefix_refl _) ?_
  simp only [go_sem, Nat.reduceLT, Nat.reduceBEq, Nat.reduceAdd, Int.reduceBEq, Nat.reduceLeDiff, reduceIte, Nat.reduceEqDiff, Int.reduceEq, Int.reduceLE, Int.reduceLT, Int.reduceNe, Nat.reduceMul, Nat.reduceSub, Int.reduceToNat, he, setD_some]
  exact ⟨_, rfl⟩
end Go.Proofs.YtlfpjdcogkcjlaaGreatDoor.F
