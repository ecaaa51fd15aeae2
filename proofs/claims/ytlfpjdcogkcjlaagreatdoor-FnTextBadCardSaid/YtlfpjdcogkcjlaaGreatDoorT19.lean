/- Lists with numbers in them; what a rule may say. -/
import Derived.Test.YtlfpjdcogkcjlaaGreatDoorT18
namespace Go.Proofs.YtlfpjdcogkcjlaaGreatDoor.F
open Go.RowKit Go.Proofs.YtlfpjdcogkcjlaaGreatDoor.AL Go.Proofs.YtlfpjdcogkcjlaaGreatDoor.B
set_option linter.unusedVariables false
set_option linter.unusedSimpArgs false
set_option maxRecDepth 20000
attribute [local irreducible] aops acode bindK bindV bindH callX callK condK guardK Kseq Kblk Knorm Kfun Kloop Kjoin outK AWp appendA
attribute [local go_sem] acode_skip acode_seq acode_region acode_cond acode_block acode_exit acode_ret acode_loop Kseq_normal Kseq_exit Kseq_ret Kblk_normal Kblk_ret Kblk_eq Kblk_ne Knorm_eq Kloop_normal Kloop_exit Kloop_ret Kjoin_normal Kjoin_exit Kjoin_ret condK_true condK_false bindK_put bindV_put bindK_no bindV_no bindH_no aops_nil gops wantK_some wantV_bool wantV_undef guardK_true guardK_false guardK_none aops_move aops_assign aops_pick aops_nilCheck aops_binOp aops_unOp aops_convert aops_fieldAddr aops_indexAddr aops_slice aops_index aops_extract aops_makeInterface aops_makeFunc aops_build aops_load aops_lookup aops_alloc aops_box aops_buildSlice aops_makeSlice aops_makeMap aops_store aops_insert aops_mapUpdate aops_len aops_append aops_call opA_tmp opA_const opA_global opA_func get_mk look_nil look_eq look_ne len_mk List.map_cons List.map_nil Option.map_some Option.map_none bin_add bin_sub bin_mul bin_quo bin_rem bin_eql bin_neq bin_lss bin_leq bin_gtr bin_geq bin_cat bin_seql bin_sneq bin_neq_ifc bin_eql_ifc bin_neq_nn bin_eql_nn bin_neq_ptr bin_eql_ptr bin_neq_pn isIfc_true isPtr_true bin_eql2 bin_neq2 aops_max max_int un_not un_neg lenA_K lenK_str lenK_nil lenK_sl lenK_array pick_bool pick_val bindV_ite bindK_ite bindH_ite slotV_sl slotK_some slotV_ptr slotR_some sliceV_sl cutK_some sliceV_str cutS_some bound_none bound_some indexA_str atS_some mkS fieldV_ptr loadV_ptr cellsK_ro cellsK_own loadK_one loadK_many storeA_ptr storeK_own allocA_some heap_len heap_get0 heap_get heap_set0 heap_set Kfun_ret Kfun_normal resA_nil resA_tmp resA_cell outK_some packA_one packA_nil packA_two List.length_cons List.length_nil List.getElem?_cons_zero List.getElem?_cons_succ List.set_cons_zero List.set_cons_succ List.cons_append List.nil_append List.append_assoc Nat.zero_add Nat.add_zero List.all_cons List.all_nil Value.oneCell' Bool.and_true Bool.and_self if_true if_false Bool.false_eq_true partsA buildV buildA fillA Option.bind_some putCells List.drop_succ_cons List.drop_zero List.take_succ_cons List.take_zero List.take_nil List.drop_nil and_self and_true true_and Option.some.injEq ne_eq not_false_eq_true Option.map_map List.getElem?_toArray beq_self_eq_true Bool.true_beq Bool.false_beq Bool.not_true Bool.not_false decide_true decide_false beq_true Nat.mul_one Nat.one_mul Nat.zero_mul bsA buildSliceA zerosN List.append_nil Int.toNat_natCast Int.toNat_zero boxA one_val one_ptr one_sl one_mp one_ifc one_fn avCells_agg avCells_val valCells_true valCells_agg avCells_ptr avCells_sl avCells_mp avCells_ifc avCells_fn app_cons app_nil lookupA insertA ifaceV extractA kd2 ars127 fp127 ars60 fp60 ars31 fp31 eq2_99 eq2_84 eq2_47 fp52 sz2 kd3 sz3 kd4 sz4 kd5 sz5 kd9 sz9 kd22 sz22 el22 kd23 sz23 el23 kd25 sz25 zc25 fp25 fo25_0 fo25_1 fo25_2 fo25_3 fo25_4 fo25_5 fo25_6 fo25_7 fo25_8 fo25_9 fo25_10 fo25_11 fo25_12 fo25_13 fo25_14 fo25_15 fo25_16 fo25_17 kd31 sz31 zc31 ar31 kd32 sz32 el32 kd34 sz34 zc34 fp34 fo34_0 fo34_1 fo34_2 fo34_3 fo34_4 fo34_5 fo34_6 fo34_7 fo34_8 fo34_9 fo34_10 fo34_11 fo34_12 fo34_13 fo34_14 fo34_15 fo34_16 fo34_17 el38 el42 kd47 sz47 zc47 fp47 fo47_0 fo47_1 kd52 sz52 zc52 fo52_0 el55 zc60 kd72 sz72 zc72 fp72 fo72_0 fo72_1 el73 isStrMap76 zv4 kd80 sz80 kd84 sz84 zc84 fp84 fo84_0 fo84_1 kd88 sz88 zc88 fp88 fo88_0 fo88_1 fo88_2 fo88_3 kd91 sz91 zc91 fp91 fo91_0 fo91_1 fo91_2 el94 kd99 sz99 zc99 fp99 fo99_0 fo99_1 kd100 sz100 el100 kd102 sz102 zc102 fp102 fo102_0 fo102_1 fo102_2 fo102_3 fo102_4 fo102_5 fo102_6 fo102_7 fo102_8 fo102_9 fo102_10 fo102_11 fo102_12 fo102_13 fo102_14 fo102_15 kd109 sz109 zc109 fp109 isStrMap124 zv80 zc127 kd153 sz153 zc153 ar153 isIface157 kd159 sz159 zc159 fp159 isStrMap177 zv84 Tryz.underlying3 Tryz.underlying4 Tryz.underlying5 Tryz.underlying9 Tryz.underlying21 Tryz.underlying22 Tryz.underlying23 Tryz.underlying32 Tryz.underlying38 Tryz.underlying42 Tryz.underlying47 Tryz.underlying55 Tryz.underlying67 Tryz.underlying73 Tryz.underlying80 Tryz.underlying84 Tryz.underlying94 Tryz.underlying100 Tryz.underlying2 Tryz.underlying127 Tryz.underlying60 Tryz.underlying31
/-- Where a number is first met. -/
def ixI (l : List Int) (a : Int) : Int := match l.findIdx? (fun b => decide (a = b)) with
  | some i => i
  | none => -1
theorem findIdx_hit {α : Type} {p : α → Bool} : ∀ {l : List α} {i : Nat} {a : α}, l[i]? = some a → p a = true → (∀ j b, j < i → l[j]? = some b → p b = false) → l.findIdx? p = some i
  | [], _, _, h, _, _ => by simp at h
  | b :: l, 0, a, h, ha, _ => by
    simp at h; subst h
    simp [List.findIdx?_cons, ha]
  | b :: l, i + 1, a, h, ha, hn => by
    have hb := hn 0 b (by omega) rfl
    simp at h
    rw [List.findIdx?_cons, hb, findIdx_hit h ha fun j c hj hc => hn (j + 1) c (by omega) (by simpa using hc)]
    rfl
theorem findIdx_miss {α : Type} {p : α → Bool} : ∀ {l : List α}, (∀ (j : Nat) b, l[j]? = some b → p b = false) → l.findIdx? p = none
  | [], _ => rfl
  | b :: l, hn => by
    rw [List.findIdx?_cons, hn 0 b rfl, findIdx_miss fun j c hc => hn (j + 1) c (by simpa using hc)]
    rfl
/-- A slice that reads as a list of numbers: l's first ones, or all. -/
def IntsIn (H : Heap) (x : AV) (l : List Int) : Prop := SlOf H x l.length 1 fun i => vI (l.getD i 0)
theorem index_A {w0 : World} (l : List Int) (hl : l.length ≤ 1000000000) (a : Int) (x : AV) (H : Heap) (hx : IntsAt H x l) : ACalls Tryz.prog (CB w0) 107 [x, vI a] H fun r H' => r = vI (ixI l a) ∧ H' = H := by
  refine A_fun (N := 19) (rs := [.tmp 4]) Tryz.func107 rfl rfl rfl (by kernel_rfl) (by kernel_rfl) (Nat.le_of_ble_eq_true rfl) ?_
  rintro e he ⟨g0, g1, -⟩
  have hlen := hx.len 3
  simp only [go_sem, Nat.reduceLT, Nat.reduceBEq, Nat.reduceAdd, Int.reduceBEq, Nat.reduceLeDiff, reduceIte, Nat.reduceEqDiff, Int.reduceEq, Int.reduceLE, Int.reduceLT, Int.reduceNe, Nat.reduceMul, Nat.reduceSub, Int.reduceToNat, he, g0, g1, hlen]
  refine A_while l.length (fun k e h => h = H ∧ len e = 19 ∧ AL.get e 0 = x ∧ AL.get e 1 = vI a ∧ AL.get e 7 = vI l.length ∧ ∃ i : Nat, AL.get e 8 = vI i ∧ i + k = l.length ∧ ∀ (j : Nat) b, j < i → l[j]? = some b → decide (a = b) = false) (by kernel_rfl) ?_ ?_
  · simp only [go_sem, Nat.reduceLT, Nat.reduceBEq, Nat.reduceAdd, Int.reduceBEq, Nat.reduceLeDiff, reduceIte, Nat.reduceEqDiff, Int.reduceEq, Int.reduceLE, Int.reduceLT, Int.reduceNe, Nat.reduceMul, Nat.reduceSub, Int.reduceToNat, he, g0, g1]
    exact ⟨0, rfl, by omega, fun j b hj => by omega⟩
  · rintro k e h ⟨rfl, he, g0, g1, g7, i, g8, hik, hno⟩
    have wi : IntKind.i64.wrap ((i : Int) + 1) = ((i + 1 : Nat) : Int) := by rw [wI64 (by omega)]; rfl
    simp only [go_sem, Nat.reduceLT, Nat.reduceBEq, Nat.reduceAdd, Int.reduceBEq, Nat.reduceLeDiff, reduceIte, Nat.reduceEqDiff, Int.reduceEq, Int.reduceLE, Int.reduceLT, Int.reduceNe, Nat.reduceMul, Nat.reduceSub, Int.reduceToNat, he, g0, g1, g7, g8]
    refine condK_of (fun hc => ?_) fun hc => ?_
    · have hc := of_decide_eq_true hc
      have hi : i < l.length := by omega
      rcases hx with ⟨rfl, h0⟩ | ⟨own, o, off, cs, rfl, hcs, hcell⟩
      · omega
      have hci : cs[off + i]? = some (vI (l.getD i 0)) := hcell i (by omega)
      have hli : l[i]? = some (l.getD i 0) := by rw [List.getD_eq_getElem?_getD, List.getElem?_eq_getElem hi]; rfl
      generalize l.getD i 0 = b at *
      simp only [go_sem, Nat.reduceLT, Nat.reduceBEq, Nat.reduceAdd, Int.reduceBEq, Nat.reduceLeDiff, reduceIte, Nat.reduceEqDiff, Int.reduceEq, Int.reduceLE, Int.reduceLT, Int.reduceNe, Nat.reduceMul, Nat.reduceSub, Int.reduceToNat, he, g0, g1, g7, g8, hcs, hci, Int.toNat_natCast]
      refine ⟨by omega, condK_of (fun hq => ?_) fun hq => ?_⟩
      · simp only [go_sem, Nat.reduceLT, Nat.reduceBEq, Nat.reduceAdd, Int.reduceBEq, Nat.reduceLeDiff, reduceIte, Nat.reduceEqDiff, Int.reduceEq, Int.reduceLE, Int.reduceLT, Int.reduceNe, Nat.reduceMul, Nat.reduceSub, Int.reduceToNat, he, g0, g1, g7, g8]
        unfold ixI
        rw [findIdx_hit hli hq hno]
      · simp only [go_sem, Nat.reduceLT, Nat.reduceBEq, Nat.reduceAdd, Int.reduceBEq, Nat.reduceLeDiff, reduceIte, Nat.reduceEqDiff, Int.reduceEq, Int.reduceLE, Int.reduceLT, Int.reduceNe, Nat.reduceMul, Nat.reduceSub, Int.reduceToNat, he, g0, g1, g7, g8, wi]
        refine ⟨k - 1, by omega, i + 1, rfl, by omega, fun j c hj hjc => ?_⟩
        rcases Nat.lt_or_ge j i with h1 | h1
        · exact hno j c h1 hjc
        · have : j = i := by omega
          subst this
          rw [hli] at hjc
          cases hjc
          exact hq
    · have hc := of_decide_eq_false hc
      simp only [go_sem, Nat.reduceLT, Nat.reduceBEq, Nat.reduceAdd, Int.reduceBEq, Nat.reduceLeDiff, reduceIte, Nat.reduceEqDiff, Int.reduceEq, Int.reduceLE, Int.reduceLT, Int.reduceNe, Nat.reduceMul, Nat.reduceSub, Int.reduceToNat, he, g0, g1, g7, g8]
      unfold ixI
      rw [findIdx_miss fun j b hj => hno j b (by have := (List.getElem?_eq_some_iff.1 hj).1; omega) hj]
theorem ixI_mem (l : List Int) (a : Int) : decide (0 ≤ ixI l a) = l.contains a := by
  unfold ixI
  cases h : l.findIdx? (fun b => decide (a = b)) with
  | some i =>
    obtain ⟨hi, h1, _⟩ := List.findIdx?_eq_some_iff_getElem.1 h
    have h1 := of_decide_eq_true h1
    have : l.contains a = true := by rw [List.contains_iff_mem]; rw [h1]; exact List.getElem_mem hi
    rw [this]
    show decide (0 ≤ (i : Int)) = true
    exact decide_eq_true (by omega)
  | none =>
    have : l.contains a = false := by
      rw [Bool.eq_false_iff]
      intro hc
      have := List.findIdx?_eq_none_iff.1 h a (List.contains_iff_mem.1 hc)
      simp at this
    rw [this]
    rfl
theorem contains_A {w0 : World} (l : List Int) (hl : l.length ≤ 1000000000) (a : Int) (x : AV) (H : Heap) (hx : IntsAt H x l) : ACalls Tryz.prog (CB w0) 80 [x, vI a] H fun r H' => r = vB (l.contains a) ∧ H' = H := by
  refine A_fun (N := 9) (rs := [.tmp 4]) Tryz.func80 rfl rfl rfl (by kernel_rfl) (by kernel_rfl) (Nat.le_of_ble_eq_true rfl) ?_
  rintro e he ⟨g0, g1, -⟩
  simp only [go_sem, Nat.reduceLT, Nat.reduceBEq, Nat.reduceAdd, Int.reduceBEq, Nat.reduceLeDiff, reduceIte, Nat.reduceEqDiff, Int.reduceEq, Int.reduceLE, Int.reduceLT, Int.reduceNe, Nat.reduceMul, Nat.reduceSub, Int.reduceToNat, he, g0, g1]
  refine callX_of (index_A l hl a x _ hx) (List.prefix_refl _) ?_
  simp only [go_sem, Nat.reduceLT, Nat.reduceBEq, Nat.reduceAdd, Int.reduceBEq, Nat.reduceLeDiff, reduceIte, Nat.reduceEqDiff, Int.reduceEq, Int.reduceLE, Int.reduceLT, Int.reduceNe, Nat.reduceMul, Nat.reduceSub, Int.reduceToNat, he, g0, g1, setD_some]
  rw [ixI_mem]
theorem IntsAt.take {H : Heap} {own : Bool} {o off st : Nat} {l : List Int} (hx : IntsAt H (.sl own o off l.length 1) l) {i : Nat} (hi : i ≤ l.length) : IntsAt H (.sl own o off i 1) (l.take i) := by
  rcases hx with ⟨h, _⟩ | ⟨own', o', off', cs, h, hcs, hcell⟩
  · cases h
  · cases h
    refine .inr ⟨own, o, off, cs, by rw [List.length_take]; congr 1; omega, hcs, fun j hj => ?_⟩
    rw [List.length_take] at hj
    rw [hcell j (by omega)]
    show some (vI (l.getD j 0)) = some (vI ((l.take i).getD j 0))
    rw [List.getD_eq_getElem?_getD, List.getD_eq_getElem?_getD, List.getElem?_take_of_lt (by omega)]
def withinAt (l : List Int) (low high : Int) (zero : Bool) (i : Nat) : Bool :=
  !(decide (l.getD i 0 < low) || decide (high < l.getD i 0) || (decide (l.getD i 0 = 0) && !zero) || (l.take i).contains (l.getD i 0))
/-- spec.within -/
def within (l : List Int) (most low high : Int) (zero : Bool) : Bool := decide ((l.length : Int) ≤ most) && (List.range l.length).all (withinAt l low high zero)
theorem within_fail {l : List Int} {most low high : Int} {zero : Bool} {i : Nat} (hi : i < l.length) (h : withinAt l low high zero i = false) : within l most low high zero = false := by
  unfold within
  rw [Bool.and_eq_false_iff]
  right
  rw [Bool.eq_false_iff]
  intro ha
  have := List.all_eq_true.1 ha i (List.mem_range.2 hi)
  rw [h] at this; cases this
theorem within_A {w0 : World} (l : List Int) (hl : l.length ≤ 1000000000000) (hr : ∀ n ∈ l, -9223372036854775808 ≤ n ∧ n ≤ 9223372036854775807) (most low high : Int) (hm : most ≤ 1000) (zero : Bool) (x : AV) (H : Heap) (hx : IntsAt H x l) : ACalls Tryz.prog (CB w0) 54 [x, vI most, vI low, vI high, vB zero] H fun r H' => r = vB (within l most low high zero) ∧ H' = H := by
  refine A_fun (N := 48) (rs := [.tmp 10]) Tryz.func54 rfl rfl rfl (by kernel_rfl) (by kernel_rfl) (Nat.le_of_ble_eq_true rfl) ?_
  rintro e he ⟨g0, g1, g2, g3, g4, -⟩
  have hlen := hx.len 3
  simp only [go_sem, Nat.reduceLT, Nat.reduceBEq, Nat.reduceAdd, Int.reduceBEq, Nat.reduceLeDiff, reduceIte, Nat.reduceEqDiff, Int.reduceEq, Int.reduceLE, Int.reduceLT, Int.reduceNe, Nat.reduceMul, Nat.reduceSub, Int.reduceToNat, he, g0, g1, g2, g3, g4, hlen]
  refine condK_of (fun hc => ?_) fun hc => ?_
  · have hc := of_decide_eq_true hc
    simp only [go_sem, Nat.reduceLT, Nat.reduceBEq, Nat.reduceAdd, Int.reduceBEq, Nat.reduceLeDiff, reduceIte, Nat.reduceEqDiff, Int.reduceEq, Int.reduceLE, Int.reduceLT, Int.reduceNe, Nat.reduceMul, Nat.reduceSub, Int.reduceToNat, he, g0, g1, g2, g3, g4]
    unfold within
    rw [decide_eq_false (by omega), Bool.false_and]
  · have hc := of_decide_eq_false hc
    simp only [go_sem, Nat.reduceLT, Nat.reduceBEq, Nat.reduceAdd, Int.reduceBEq, Nat.reduceLeDiff, reduceIte, Nat.reduceEqDiff, Int.reduceEq, Int.reduceLE, Int.reduceLT, Int.reduceNe, Nat.reduceMul, Nat.reduceSub, Int.reduceToNat, he, g0, g1, g2, g3, g4, hlen]
    refine A_while l.length (fun k e h => h = H ∧ len e = 48 ∧ AL.get e 0 = x ∧ AL.get e 2 = vI low ∧ AL.get e 3 = vI high ∧ AL.get e 4 = vB zero ∧ AL.get e 17 = x ∧ AL.get e 18 = vI l.length ∧ ∃ i : Nat, AL.get e 19 = vI i ∧ i + k = l.length ∧ (List.range i).all (withinAt l low high zero) = true) (by kernel_rfl) ?_ ?_
    · simp only [go_sem, Nat.reduceLT, Nat.reduceBEq, Nat.reduceAdd, Int.reduceBEq, Nat.reduceLeDiff, reduceIte, Nat.reduceEqDiff, Int.reduceEq, Int.reduceLE, Int.reduceLT, Int.reduceNe, Nat.reduceMul, Nat.reduceSub, Int.reduceToNat, he, g0, g1, g2, g3, g4]
      exact ⟨0, rfl, by omega, rfl⟩
    · rintro k e h ⟨rfl, he, g0, g2, g3, g4, g17, g18, i, g19, hik, hall⟩
      simp only [go_sem, Nat.reduceLT, Nat.reduceBEq, Nat.reduceAdd, Int.reduceBEq, Nat.reduceLeDiff, reduceIte, Nat.reduceEqDiff, Int.reduceEq, Int.reduceLE, Int.reduceLT, Int.reduceNe, Nat.reduceMul, Nat.reduceSub, Int.reduceToNat, he, g0, g2, g3, g4, g17, g18, g19]
      refine condK_of (fun hc => ?_) fun hc => ?_
      · have hc := of_decide_eq_true hc
        have hi : i < l.length := by omega
        rcases hx with ⟨rfl, h0⟩ | ⟨own, o, off, cs, rfl, hcs, hcell⟩
        · omega
        have hci : cs[off + i]? = some (vI (l.getD i 0)) := hcell i (by omega)
        have hx' : IntsAt h (.sl own o off l.length 1) l := .inr ⟨own, o, off, cs, rfl, hcs, hcell⟩
        have hdef : withinAt l low high zero i = !(decide (l.getD i 0 < low) || decide (high < l.getD i 0) || (decide (l.getD i 0 = 0) && !zero) || (l.take i).contains (l.getD i 0)) := rfl
        have wi : IntKind.i64.wrap ((i : Int) + 1) = ((i + 1 : Nat) : Int) := by rw [wI64 (by omega)]; rfl
        generalize hn : l.getD i 0 = n at *
        by_cases c1 : n < low
        · have d1 := decide_eq_true c1
          simp only [go_sem, Nat.reduceLT, Nat.reduceBEq, Nat.reduceAdd, Int.reduceBEq, Nat.reduceLeDiff, reduceIte, Nat.reduceEqDiff, Int.reduceEq, Int.reduceLE, Int.reduceLT, Int.reduceNe, Nat.reduceMul, Nat.reduceSub, Int.reduceToNat, he, g0, g2, g3, g4, g17, g18, g19, hcs, hci, Int.toNat_natCast, d1]
          refine ⟨by omega, ?_⟩
          rw [within_fail (most := most) hi (show withinAt l low high zero i = false by rw [hdef, d1]; rfl)]
        have d1 := decide_eq_false c1
        by_cases c2 : high < n
        · have d2 := decide_eq_true c2
          simp only [go_sem, Nat.reduceLT, Nat.reduceBEq, Nat.reduceAdd, Int.reduceBEq, Nat.reduceLeDiff, reduceIte, Nat.reduceEqDiff, Int.reduceEq, Int.reduceLE, Int.reduceLT, Int.reduceNe, Nat.reduceMul, Nat.reduceSub, Int.reduceToNat, he, g0, g2, g3, g4, g17, g18, g19, hcs, hci, Int.toNat_natCast, d1, d2]
          refine ⟨by omega, ?_⟩
          rw [within_fail (most := most) hi (show withinAt l low high zero i = false by rw [hdef, d1, d2]; rfl)]
        have d2 := decide_eq_false c2
        by_cases c3 : n = 0
        · have d3 := decide_eq_true c3
          cases zero with
          | false =>
            simp only [go_sem, Nat.reduceLT, Nat.reduceBEq, Nat.reduceAdd, Int.reduceBEq, Nat.reduceLeDiff, reduceIte, Nat.reduceEqDiff, Int.reduceEq, Int.reduceLE, Int.reduceLT, Int.reduceNe, Nat.reduceMul, Nat.reduceSub, Int.reduceToNat, he, g0, g2, g3, g4, g17, g18, g19, hcs, hci, Int.toNat_natCast, d1, d2, d3]
            refine ⟨by omega, ?_⟩
            rw [within_fail (most := most) hi (show withinAt l low high false i = false by rw [hdef, d1, d2, d3]; rfl)]
          | true =>
            simp only [go_sem, Nat.reduceLT, Nat.reduceBEq, Nat.reduceAdd, Int.reduceBEq, Nat.reduceLeDiff, reduceIte, Nat.reduceEqDiff, Int.reduceEq, Int.reduceLE, Int.reduceLT, Int.reduceNe, Nat.reduceMul, Nat.reduceSub, Int.reduceToNat, he, g0, g2, g3, g4, g17, g18, g19, hcs, hci, Int.toNat_natCast, nn, d1, d2, d3]
            refine ⟨by omega, by omega, ?_⟩
            refine callX_of (contains_A (l.take i) (by rw [List.length_take]; omega) n _ _ (IntsAt.take (st := 1) hx' (by omega))) (List.prefix_refl _) ?_
            cases hq : (l.take i).contains n with
            | true =>
              simp only [go_sem, Nat.reduceLT, Nat.reduceBEq, Nat.reduceAdd, Int.reduceBEq, Nat.reduceLeDiff, reduceIte, Nat.reduceEqDiff, Int.reduceEq, Int.reduceLE, Int.reduceLT, Int.reduceNe, Nat.reduceMul, Nat.reduceSub, Int.reduceToNat, he, g0, g2, g3, g4, g17, g18, g19, hcs, hci, Int.toNat_natCast, nn, d1, d2, d3, setD_some]
              rw [within_fail (most := most) hi (show withinAt l low high true i = false by rw [hdef, d1, d2, d3, hq]; rfl)]
            | false =>
              simp only [go_sem, Nat.reduceLT, Nat.reduceBEq, Nat.reduceAdd, Int.reduceBEq, Nat.reduceLeDiff, reduceIte, Nat.reduceEqDiff, Int.reduceEq, Int.reduceLE, Int.reduceLT, Int.reduceNe, Nat.reduceMul, Nat.reduceSub, Int.reduceToNat, he, g0, g2, g3, g4, g17, g18, g19, hcs, hci, Int.toNat_natCast, nn, d1, d2, d3, setD_some, wi]
              refine ⟨k - 1, by omega, i + 1, rfl, by omega, ?_⟩
              rw [List.range_succ, List.all_append, hall, List.all_cons, List.all_nil, show withinAt l low high true i = true by rw [hdef, d1, d2, d3, hq]; rfl]
              rfl
        · have d3 := decide_eq_false c3
          simp only [go_sem, Nat.reduceLT, Nat.reduceBEq, Nat.reduceAdd, Int.reduceBEq, Nat.reduceLeDiff, reduceIte, Nat.reduceEqDiff, Int.reduceEq, Int.reduceLE, Int.reduceLT, Int.reduceNe, Nat.reduceMul, Nat.reduceSub, Int.reduceToNat, he, g0, g2, g3, g4, g17, g18, g19, hcs, hci, Int.toNat_natCast, nn, d1, d2, d3]
          refine ⟨by omega, by omega, ?_⟩
          refine callX_of (contains_A (l.take i) (by rw [List.length_take]; omega) n _ _ (IntsAt.take (st := 1) hx' (by omega))) (List.prefix_refl _) ?_
          cases hq : (l.take i).contains n with
          | true =>
            simp only [go_sem, Nat.reduceLT, Nat.reduceBEq, Nat.reduceAdd, Int.reduceBEq, Nat.reduceLeDiff, reduceIte, Nat.reduceEqDiff, Int.reduceEq, Int.reduceLE, Int.reduceLT, Int.reduceNe, Nat.reduceMul, Nat.reduceSub, Int.reduceToNat, he, g0, g2, g3, g4, g17, g18, g19, hcs, hci, Int.toNat_natCast, nn, d1, d2, d3, setD_some]
            rw [within_fail (most := most) hi (show withinAt l low high zero i = false by rw [hdef, d1, d2, d3, hq]; rfl)]
          | false =>
            simp only [go_sem, Nat.reduceLT, Nat.reduceBEq, Nat.reduceAdd, Int.reduceBEq, Nat.reduceLeDiff, reduceIte, Nat.reduceEqDiff, Int.reduceEq, Int.reduceLE, Int.reduceLT, Int.reduceNe, Nat.reduceMul, Nat.reduceSub, Int.reduceToNat, he, g0, g2, g3, g4, g17, g18, g19, hcs, hci, Int.toNat_natCast, nn, d1, d2, d3, setD_some, wi]
            refine ⟨k - 1, by omega, i + 1, rfl, by omega, ?_⟩
            rw [List.range_succ, List.all_append, hall, List.all_cons, List.all_nil, show withinAt l low high zero i = true by rw [hdef, d1, d2, d3, hq]; rfl]
            rfl
      · have hc := of_decide_eq_false hc
        simp only [go_sem, Nat.reduceLT, Nat.reduceBEq, Nat.reduceAdd, Int.reduceBEq, Nat.reduceLeDiff, reduceIte, Nat.reduceEqDiff, Int.reduceEq, Int.reduceLE, Int.reduceLT, Int.reduceNe, Nat.reduceMul, Nat.reduceSub, Int.reduceToNat, he, g0, g2, g3, g4, g17, g18, g19]
        have hi : i = l.length := by omega
        rw [hi] at hall
        unfold within
        rw [hall, decide_eq_true (by omega)]
        rfl
end Go.Proofs.YtlfpjdcogkcjlaaGreatDoor.F
