/- The weekdays' text. -/
import Derived.Test.YtlfpjdcogkcjlaaGreatDoorT4
namespace Go.Proofs.YtlfpjdcogkcjlaaGreatDoor.F
open Go.RowKit Go.Proofs.YtlfpjdcogkcjlaaGreatDoor.AL Go.Proofs.YtlfpjdcogkcjlaaGreatDoor.B
set_option linter.unusedVariables false
set_option linter.unusedSimpArgs false
set_option maxRecDepth 20000
attribute [local irreducible] aops acode bindK bindV bindH callX callK condK guardK Kseq Kblk Knorm Kfun Kloop Kjoin outK AWp appendA
attribute [local go_sem] acode_skip acode_seq acode_region acode_cond acode_block acode_exit acode_ret acode_loop Kseq_normal Kseq_exit Kseq_ret Kblk_normal Kblk_ret Kblk_eq Kblk_ne Knorm_eq Kloop_normal Kloop_exit Kloop_ret Kjoin_normal Kjoin_exit Kjoin_ret condK_true condK_false bindK_put bindV_put bindK_no bindV_no bindH_no aops_nil gops wantK_some wantV_bool wantV_undef guardK_true guardK_false guardK_none aops_move aops_assign aops_pick aops_nilCheck aops_binOp aops_unOp aops_convert aops_fieldAddr aops_indexAddr aops_slice aops_index aops_extract aops_makeInterface aops_makeFunc aops_build aops_load aops_lookup aops_alloc aops_box aops_buildSlice aops_makeSlice aops_makeMap aops_store aops_insert aops_mapUpdate aops_len aops_append aops_call opA_tmp opA_const opA_global opA_func get_mk look_nil look_eq look_ne len_mk List.map_cons List.map_nil Option.map_some Option.map_none bin_add bin_sub bin_mul bin_quo bin_rem bin_eql bin_neq bin_lss bin_leq bin_gtr bin_geq bin_cat bin_seql bin_sneq bin_neq_ifc bin_eql_ifc bin_neq_nn bin_eql_nn bin_neq_ptr bin_eql_ptr bin_neq_pn isIfc_true isPtr_true bin_eql2 bin_neq2 aops_max max_int un_not un_neg lenA_K lenK_str lenK_nil lenK_sl lenK_array pick_bool pick_val bindV_ite bindK_ite bindH_ite slotV_sl slotK_some slotV_ptr slotR_some sliceV_sl cutK_some sliceV_str cutS_some bound_none bound_some indexA_str atS_some mkS fieldV_ptr loadV_ptr cellsK_ro cellsK_own loadK_one loadK_many storeA_ptr storeK_own allocA_some heap_len heap_get0 heap_get heap_set0 heap_set Kfun_ret Kfun_normal resA_nil resA_tmp resA_cell outK_some packA_one packA_nil packA_two List.length_cons List.length_nil List.getElem?_cons_zero List.getElem?_cons_succ List.set_cons_zero List.set_cons_succ List.cons_append List.nil_append List.append_assoc Nat.zero_add Nat.add_zero List.all_cons List.all_nil Value.oneCell' Bool.and_true Bool.and_self if_true if_false Bool.false_eq_true partsA buildV buildA fillA Option.bind_some putCells List.drop_succ_cons List.drop_zero List.take_succ_cons List.take_zero List.take_nil List.drop_nil and_self and_true true_and Option.some.injEq ne_eq not_false_eq_true Option.map_map List.getElem?_toArray beq_self_eq_true Bool.true_beq Bool.false_beq Bool.not_true Bool.not_false decide_true decide_false beq_true Nat.mul_one Nat.one_mul Nat.zero_mul bsA buildSliceA zerosN List.append_nil Int.toNat_natCast Int.toNat_zero boxA one_val one_ptr one_sl one_mp one_ifc one_fn avCells_agg avCells_val valCells_true valCells_agg avCells_ptr avCells_sl avCells_mp avCells_ifc avCells_fn app_cons app_nil lookupA insertA ifaceV extractA kd2 ars127 fp127 ars60 fp60 ars31 fp31 eq2_99 eq2_84 eq2_47 fp52 sz2 kd3 sz3 kd4 sz4 kd5 sz5 kd9 sz9 kd22 sz22 el22 kd23 sz23 el23 kd25 sz25 zc25 fp25 fo25_0 fo25_1 fo25_2 fo25_3 fo25_4 fo25_5 fo25_6 fo25_7 fo25_8 fo25_9 fo25_10 fo25_11 fo25_12 fo25_13 fo25_14 fo25_15 fo25_16 fo25_17 kd31 sz31 zc31 ar31 kd32 sz32 el32 kd34 sz34 zc34 fp34 fo34_0 fo34_1 fo34_2 fo34_3 fo34_4 fo34_5 fo34_6 fo34_7 fo34_8 fo34_9 fo34_10 fo34_11 fo34_12 fo34_13 fo34_14 fo34_15 fo34_16 fo34_17 el38 el42 kd47 sz47 zc47 fp47 fo47_0 fo47_1 kd52 sz52 zc52 fo52_0 el55 zc60 kd72 sz72 zc72 fp72 fo72_0 fo72_1 el73 isStrMap76 zv4 kd80 sz80 kd84 sz84 zc84 fp84 fo84_0 fo84_1 kd88 sz88 zc88 fp88 fo88_0 fo88_1 fo88_2 fo88_3 kd91 sz91 zc91 fp91 fo91_0 fo91_1 fo91_2 el94 kd99 sz99 zc99 fp99 fo99_0 fo99_1 kd100 sz100 el100 kd102 sz102 zc102 fp102 fo102_0 fo102_1 fo102_2 fo102_3 fo102_4 fo102_5 fo102_6 fo102_7 fo102_8 fo102_9 fo102_10 fo102_11 fo102_12 fo102_13 fo102_14 fo102_15 kd109 sz109 zc109 fp109 isStrMap124 zv80 zc127 kd153 sz153 zc153 ar153 isIface157 kd159 sz159 zc159 fp159 isStrMap177 zv84 Tryz.underlying3 Tryz.underlying4 Tryz.underlying5 Tryz.underlying9 Tryz.underlying21 Tryz.underlying22 Tryz.underlying23 Tryz.underlying32 Tryz.underlying38 Tryz.underlying42 Tryz.underlying47 Tryz.underlying55 Tryz.underlying67 Tryz.underlying73 Tryz.underlying80 Tryz.underlying84 Tryz.underlying94 Tryz.underlying100 Tryz.underlying2 Tryz.underlying127 Tryz.underlying60 Tryz.underlying31
def DaysAt (H : Heap) (x : AV) (l : List (Int × Int)) : Prop := SlOf H x l.length 2 fun i => if i % 2 = 0 then vI (l.getD (i / 2) (0, 0)).1 else vI (l.getD (i / 2) (0, 0)).2
theorem take_two {cs : List AV} {k : Nat} {a b : AV} (h1 : cs[k]? = some a) (h2 : cs[k + 1]? = some b) : k + 2 ≤ cs.length ∧ (cs.drop k).take 2 = [a, b] := by
  have l1 := (List.getElem?_eq_some_iff.1 h1).1
  have l2 := (List.getElem?_eq_some_iff.1 h2).1
  refine ⟨by omega, ?_⟩
  rw [List.drop_eq_getElem_cons l1, List.drop_eq_getElem_cons l2]
  have e1 := (List.getElem?_eq_some_iff.1 h1).2
  have e2 := (List.getElem?_eq_some_iff.1 h2).2
  simp only [List.take_succ_cons, List.take_zero, e1, e2]
theorem days_load {H : Heap} {l : List (Int × Int)} {off : Nat} {cs : List AV} (hcell : ∀ i, i < l.length * 2 → cs[off + i]? = some (if i % 2 = 0 then vI (l.getD (i / 2) (0, 0)).1 else vI (l.getD (i / 2) (0, 0)).2)) {i : Nat} (hi : i < l.length) : off + i * 2 + 2 ≤ cs.length ∧ (cs.drop (off + i * 2)).take 2 = [vI (l.getD i (0, 0)).1, vI (l.getD i (0, 0)).2] := by
  have h1 := hcell (i * 2) (by omega)
  have h2 := hcell (i * 2 + 1) (by omega)
  rw [if_pos (by omega), show i * 2 / 2 = i by omega] at h1
  rw [if_neg (by omega), show (i * 2 + 1) / 2 = i by omega] at h2
  exact take_two h1 h2
/-- A weekday's text. -/
def dayText (d : Int × Int) : List UInt8 := (if d.2 = 0 then [] else Lib.itoa d.2) ++ wdays.getD d.1.toNat []
def days (l : List (Int × Int)) : List UInt8 := joinB 44 (l.map dayText)
def DayOk (d : Int × Int) : Prop := 0 ≤ d.1 ∧ d.1 ≤ 6 ∧ -9223372036854775808 ≤ d.2 ∧ d.2 ≤ 9223372036854775807
theorem wday_get {w : Int} (h0 : 0 ≤ w) (h1 : w ≤ 6) : (wdays.map vS)[w.toNat]? = some (vS (wdays.getD w.toNat [])) ∧ (wdays.getD w.toNat []).length = 2 := by
  obtain ⟨k, rfl⟩ : ∃ k : Nat, w = k := ⟨w.toNat, by omega⟩
  have : k < 7 := by omega
  simp only [Int.toNat_natCast]
  match k, this with
  | 0, _ => exact ⟨rfl, rfl⟩
  | 1, _ => exact ⟨rfl, rfl⟩
  | 2, _ => exact ⟨rfl, rfl⟩
  | 3, _ => exact ⟨rfl, rfl⟩
  | 4, _ => exact ⟨rfl, rfl⟩
  | 5, _ => exact ⟨rfl, rfl⟩
  | 6, _ => exact ⟨rfl, rfl⟩
theorem days_A {w0 : World} (hG : Glob w0) (l : List (Int × Int)) (hl : l.length ≤ 1000000) (hr : ∀ d ∈ l, DayOk d) (x : AV) (H : Heap) (hx : DaysAt H x l) : ACalls Tryz.prog (CB w0) 37 [x] H fun r H' => r = vS (days l) ∧ H' = H := by
  refine ACalls.plain1 rfl ?_
  refine A_fun (N := 34) (rs := [.tmp 2]) Tryz.func37 rfl rfl rfl (by kernel_rfl) (by kernel_rfl) (Nat.le_of_ble_eq_true rfl) ?_
  rintro e he ⟨g0, -⟩
  have hlen := hx.len 47
  simp only [go_sem, Nat.reduceLT, Nat.reduceBEq, Nat.reduceAdd, Int.reduceBEq, Nat.reduceLeDiff, reduceIte, Nat.reduceEqDiff, Int.reduceEq, Int.reduceLE, Int.reduceLT, Int.reduceNe, Nat.reduceMul, Nat.reduceSub, Int.reduceToNat, he, g0, hlen]
  refine A_while l.length (fun k e h => (∃ G, h = H ++ G) ∧ len e = 34 ∧ AL.get e 6 = x ∧ AL.get e 7 = vI l.length ∧ ∃ (i : Nat) (out : List UInt8), AL.get e 8 = vI i ∧ AL.get e 3 = vS out ∧ i + k = l.length ∧ out = joinB 44 ((l.map dayText).take i) ∧ out.length ≤ 24 * i) (by kernel_rfl) ?_ ?_
  · simp only [go_sem, Nat.reduceLT, Nat.reduceBEq, Nat.reduceAdd, Int.reduceBEq, Nat.reduceLeDiff, reduceIte, Nat.reduceEqDiff, Int.reduceEq, Int.reduceLE, Int.reduceLT, Int.reduceNe, Nat.reduceMul, Nat.reduceSub, Int.reduceToNat, he, g0]
    exact ⟨⟨[], (List.append_nil _).symm⟩, 0, _, rfl, rfl, by omega, rfl, by simp⟩
  · rintro k e h ⟨hG1, he, g6, g7, i, out, g8, g3, hik, hout, hol⟩
    simp only [go_sem, Nat.reduceLT, Nat.reduceBEq, Nat.reduceAdd, Int.reduceBEq, Nat.reduceLeDiff, reduceIte, Nat.reduceEqDiff, Int.reduceEq, Int.reduceLE, Int.reduceLT, Int.reduceNe, Nat.reduceMul, Nat.reduceSub, Int.reduceToNat, he, g6, g7, g8, g3]
    refine condK_of (fun hc => ?_) fun hc => ?_
    · have hc := of_decide_eq_true hc
      have hi : i < l.length := by omega
      have hxh : DaysAt h x l := by obtain ⟨G, rfl⟩ := hG1; exact hx.more G
      rcases hxh with ⟨rfl, h0⟩ | ⟨own, o, off, cs, rfl, hcs, hcell⟩
      · omega
      obtain ⟨hd1, hd2⟩ := days_load (H := h) hcell hi
      obtain ⟨hw0, hw1, hn0, hn1⟩ := hr (l.getD i (0, 0)) (by rw [List.getD_eq_getElem?_getD, List.getElem?_eq_getElem hi]; exact List.getElem_mem hi)
      have hli := Lib.itoa_length_le _ hn0 hn1
      obtain ⟨hwd, hwl⟩ := wday_get hw0 hw1
      have hst := joinB_take 44 (l.map dayText) i (dayText (l.getD i (0, 0))) (by rw [List.getElem?_map, List.getD_eq_getElem?_getD, List.getElem?_eq_getElem hi]; rfl)
      have wi : IntKind.i64.wrap ((i : Int) + 1) = ((i + 1 : Nat) : Int) := by rw [wI64 (by omega)]; rfl
      simp only [go_sem, Nat.reduceLT, Nat.reduceBEq, Nat.reduceAdd, Int.reduceBEq, Nat.reduceLeDiff, reduceIte, Nat.reduceEqDiff, Int.reduceEq, Int.reduceLE, Int.reduceLT, Int.reduceNe, Nat.reduceMul, Nat.reduceSub, Int.reduceToNat, he, g6, g7, g8, g3, hcs, hd1, hd2, Int.toNat_natCast]
      generalize hd : l.getD i (0, 0) = d at *
      obtain ⟨w, n⟩ := d
      refine ⟨by omega, ?_⟩
      refine cond_join (fun e1 h1 => h1 = h ++ [.own 47 [vI w, vI n]] ∧ len e1 = 34 ∧ AL.get e1 5 = .ptr h.length 0 ∧ AL.get e1 6 = .sl own o off l.length 2 ∧ AL.get e1 7 = vI l.length ∧ AL.get e1 8 = vI i ∧ AL.get e1 3 = vS (if i = 0 then out else out ++ [44])) (fun hp => ?_) (fun hp => ?_) ?_
      · have hp := of_decide_eq_true hp
        simp only [go_sem, Nat.reduceLT, Nat.reduceBEq, Nat.reduceAdd, Int.reduceBEq, Nat.reduceLeDiff, reduceIte, Nat.reduceEqDiff, Int.reduceEq, Int.reduceLE, Int.reduceLT, Int.reduceNe, Nat.reduceMul, Nat.reduceSub, Int.reduceToNat, he, g6, g7, g8, g3]
        rw [if_neg (by omega)]
        exact ⟨by omega, rfl⟩
      · have hp := of_decide_eq_false hp
        simp only [go_sem, Nat.reduceLT, Nat.reduceBEq, Nat.reduceAdd, Int.reduceBEq, Nat.reduceLeDiff, reduceIte, Nat.reduceEqDiff, Int.reduceEq, Int.reduceLE, Int.reduceLT, Int.reduceNe, Nat.reduceMul, Nat.reduceSub, Int.reduceToNat, he, g6, g7, g8, g3]
        rw [if_pos (by omega)]
      rintro e h1 ⟨rfl, he, g5, g6, g7, g8, g3⟩
      simp only [go_sem, Nat.reduceLT, Nat.reduceBEq, Nat.reduceAdd, Int.reduceBEq, Nat.reduceLeDiff, reduceIte, Nat.reduceEqDiff, Int.reduceEq, Int.reduceLE, Int.reduceLT, Int.reduceNe, Nat.reduceMul, Nat.reduceSub, Int.reduceToNat, he, g5, g6, g7, g8, g3]
      simp only at hw0 hw1 hn0 hn1 hli hwd hwl
      generalize ho1 : (if i = 0 then out else out ++ [44]) = o1 at *
      have hl1 : o1.length ≤ 24 * i + 1 := by rw [← ho1]; split <;> (try simp only [List.length_append, List.length_cons, List.length_nil]) <;> omega
      refine cond_join (fun e1 h1 => h1 = h ++ [.own 47 [vI w, vI n]] ∧ len e1 = 34 ∧ AL.get e1 5 = .ptr h.length 0 ∧ AL.get e1 6 = .sl own o off l.length 2 ∧ AL.get e1 7 = vI l.length ∧ AL.get e1 8 = vI i ∧ AL.get e1 3 = vS (o1 ++ if n = 0 then [] else Lib.itoa n)) (fun hp => ?_) (fun hp => ?_) ?_
      · have hp : n ≠ 0 := by simpa using hp
        simp only [go_sem, Nat.reduceLT, Nat.reduceBEq, Nat.reduceAdd, Int.reduceBEq, Nat.reduceLeDiff, reduceIte, Nat.reduceEqDiff, Int.reduceEq, Int.reduceLE, Int.reduceLT, Int.reduceNe, Nat.reduceMul, Nat.reduceSub, Int.reduceToNat, he, g5, g6, g7, g8, g3]
        refine callX_of (itoa_A hG _ hn0 hn1 _) (List.prefix_refl _) ?_
        simp only [go_sem, Nat.reduceLT, Nat.reduceBEq, Nat.reduceAdd, Int.reduceBEq, Nat.reduceLeDiff, reduceIte, Nat.reduceEqDiff, Int.reduceEq, Int.reduceLE, Int.reduceLT, Int.reduceNe, Nat.reduceMul, Nat.reduceSub, Int.reduceToNat, he, g5, g6, g7, g8, g3, setD_some]
        rw [if_neg hp]
        exact ⟨by omega, rfl⟩
      · have hp : n = 0 := by simpa using hp
        simp only [go_sem, Nat.reduceLT, Nat.reduceBEq, Nat.reduceAdd, Int.reduceBEq, Nat.reduceLeDiff, reduceIte, Nat.reduceEqDiff, Int.reduceEq, Int.reduceLE, Int.reduceLT, Int.reduceNe, Nat.reduceMul, Nat.reduceSub, Int.reduceToNat, he, g5, g6, g7, g8, g3]
        rw [if_pos hp, List.append_nil]
      rintro e h1 ⟨rfl, he, g5, g6, g7, g8, g3⟩
      generalize ho2 : (o1 ++ if n = 0 then [] else Lib.itoa n) = o2 at *
      have hl2 : o2.length ≤ 24 * i + 22 := by rw [← ho2]; split <;> (try simp only [List.length_append, List.length_nil]) <;> omega
      simp only [go_sem, Nat.reduceLT, Nat.reduceBEq, Nat.reduceAdd, Int.reduceBEq, Nat.reduceLeDiff, reduceIte, Nat.reduceEqDiff, Int.reduceEq, Int.reduceLE, Int.reduceLT, Int.reduceNe, Nat.reduceMul, Nat.reduceSub, Int.reduceToNat, he, g5, g6, g7, g8, g3]
      refine acode_draw mixed (by kernel_rfl) ?_
      simp only [go_sem, Nat.reduceLT, Nat.reduceBEq, Nat.reduceAdd, Int.reduceBEq, Nat.reduceLeDiff, reduceIte, Nat.reduceEqDiff, Int.reduceEq, Int.reduceLE, Int.reduceLT, Int.reduceNe, Nat.reduceMul, Nat.reduceSub, Int.reduceToNat, he, g5, g6, g7, g8, g3]
      refine callX_of (weekdays_A _) (List.prefix_append _ _) ?_
      simp only [go_sem, Nat.reduceLT, Nat.reduceBEq, Nat.reduceAdd, Int.reduceBEq, Nat.reduceLeDiff, reduceIte, Nat.reduceEqDiff, Int.reduceEq, Int.reduceLE, Int.reduceLT, Int.reduceNe, Nat.reduceMul, Nat.reduceSub, Int.reduceToNat, he, g5, g6, g7, g8, g3, setD_some, hwd, hwl]
      have hfin : o2 ++ wdays.getD w.toNat [] = joinB 44 (List.take (i + 1) (List.map dayText l)) := by
        rw [hst, ← ho2, ← ho1, ← hout]
        by_cases h0 : i = 0
        · have : out = [] := List.eq_nil_of_length_eq_zero (by omega)
          simp only [h0, if_true, this, dayText, List.nil_append]
        · simp only [h0, if_false, dayText, List.append_assoc, List.cons_append, List.nil_append]
      refine ⟨⟨hw0, by omega⟩, by omega, k - 1, by omega, ?_, i + 1, _, by rw [wi], rfl, by omega, hfin, by simp only [List.length_append, hwl]; omega⟩
      obtain ⟨G, rfl⟩ := hG1
      exact ⟨_, List.append_assoc _ _ _⟩
    · have hc := of_decide_eq_false hc
      have : i = l.length := by omega
      simp only [go_sem, Nat.reduceLT, Nat.reduceBEq, Nat.reduceAdd, Int.reduceBEq, Nat.reduceLeDiff, reduceIte, Nat.reduceEqDiff, Int.reduceEq, Int.reduceLE, Int.reduceLT, Int.reduceNe, Nat.reduceMul, Nat.reduceSub, Int.reduceToNat, he, g6, g7, g8, g3]
      rw [hout, this, List.take_of_length_le (by simp)]
      exact ⟨rfl, hG1⟩
end Go.Proofs.YtlfpjdcogkcjlaaGreatDoor.F
