/- The calendar of the package: reading of dates. -/
import Derived.Test.YtlfpjdcogkcjlaaGreatDoorT10
namespace Go.Proofs.YtlfpjdcogkcjlaaGreatDoor.F
open Go.RowKit Go.Proofs.YtlfpjdcogkcjlaaGreatDoor.AL Go.Proofs.YtlfpjdcogkcjlaaGreatDoor.B
set_option linter.unusedVariables false
set_option linter.unusedSimpArgs false
set_option maxRecDepth 20000
attribute [local irreducible] aops acode bindK bindV bindH callX callK condK guardK Kseq Kblk Knorm Kfun Kloop Kjoin outK AWp appendA
attribute [local go_sem] acode_skip acode_seq acode_region acode_cond acode_block acode_exit acode_ret acode_loop Kseq_normal Kseq_exit Kseq_ret Kblk_normal Kblk_ret Kblk_eq Kblk_ne Knorm_eq Kloop_normal Kloop_exit Kloop_ret Kjoin_normal Kjoin_exit Kjoin_ret condK_true condK_false bindK_put bindV_put bindK_no bindV_no bindH_no aops_nil gops wantK_some wantV_bool wantV_undef guardK_true guardK_false guardK_none aops_move aops_assign aops_pick aops_nilCheck aops_binOp aops_unOp aops_convert aops_fieldAddr aops_indexAddr aops_slice aops_index aops_extract aops_makeInterface aops_makeFunc aops_build aops_load aops_lookup aops_alloc aops_box aops_buildSlice aops_makeSlice aops_makeMap aops_store aops_insert aops_mapUpdate aops_len aops_append aops_call opA_tmp opA_const opA_global opA_func get_mk look_nil look_eq look_ne len_mk List.map_cons List.map_nil Option.map_some Option.map_none bin_add bin_sub bin_mul bin_quo bin_rem bin_eql bin_neq bin_lss bin_leq bin_gtr bin_geq bin_cat bin_seql bin_sneq bin_neq_ifc bin_eql_ifc bin_neq_nn bin_eql_nn bin_neq_ptr bin_eql_ptr bin_neq_pn isIfc_true isPtr_true bin_eql2 bin_neq2 aops_max max_int un_not un_neg lenA_K lenK_str lenK_nil lenK_sl lenK_array pick_bool pick_val bindV_ite bindK_ite bindH_ite slotV_sl slotK_some slotV_ptr slotR_some sliceV_sl cutK_some sliceV_str cutS_some bound_none bound_some indexA_str atS_some mkS fieldV_ptr loadV_ptr cellsK_ro cellsK_own loadK_one loadK_many storeA_ptr storeK_own allocA_some heap_len heap_get0 heap_get heap_set0 heap_set Kfun_ret Kfun_normal resA_nil resA_tmp resA_cell outK_some packA_one packA_nil packA_two List.length_cons List.length_nil List.getElem?_cons_zero List.getElem?_cons_succ List.set_cons_zero List.set_cons_succ List.cons_append List.nil_append List.append_assoc Nat.zero_add Nat.add_zero List.all_cons List.all_nil Value.oneCell' Bool.and_true Bool.and_self if_true if_false Bool.false_eq_true partsA buildV buildA fillA Option.bind_some putCells List.drop_succ_cons List.drop_zero List.take_succ_cons List.take_zero List.take_nil List.drop_nil and_self and_true true_and Option.some.injEq ne_eq not_false_eq_true Option.map_map List.getElem?_toArray beq_self_eq_true Bool.true_beq Bool.false_beq Bool.not_true Bool.not_false decide_true decide_false beq_true Nat.mul_one Nat.one_mul Nat.zero_mul bsA buildSliceA zerosN List.append_nil Int.toNat_natCast Int.toNat_zero boxA one_val one_ptr one_sl one_mp one_ifc one_fn avCells_agg avCells_val valCells_true valCells_agg avCells_ptr avCells_sl avCells_mp avCells_ifc avCells_fn app_cons app_nil lookupA insertA ifaceV extractA kd2 ars127 fp127 ars60 fp60 ars31 fp31 eq2_99 eq2_84 eq2_47 fp52 sz2 kd3 sz3 kd4 sz4 kd5 sz5 kd9 sz9 kd22 sz22 el22 kd23 sz23 el23 kd25 sz25 zc25 fp25 fo25_0 fo25_1 fo25_2 fo25_3 fo25_4 fo25_5 fo25_6 fo25_7 fo25_8 fo25_9 fo25_10 fo25_11 fo25_12 fo25_13 fo25_14 fo25_15 fo25_16 fo25_17 kd31 sz31 zc31 ar31 kd32 sz32 el32 kd34 sz34 zc34 fp34 fo34_0 fo34_1 fo34_2 fo34_3 fo34_4 fo34_5 fo34_6 fo34_7 fo34_8 fo34_9 fo34_10 fo34_11 fo34_12 fo34_13 fo34_14 fo34_15 fo34_16 fo34_17 el38 el42 kd47 sz47 zc47 fp47 fo47_0 fo47_1 kd52 sz52 zc52 fo52_0 el55 zc60 kd72 sz72 zc72 fp72 fo72_0 fo72_1 el73 isStrMap76 zv4 kd80 sz80 kd84 sz84 zc84 fp84 fo84_0 fo84_1 kd88 sz88 zc88 fp88 fo88_0 fo88_1 fo88_2 fo88_3 kd91 sz91 zc91 fp91 fo91_0 fo91_1 fo91_2 el94 kd99 sz99 zc99 fp99 fo99_0 fo99_1 kd100 sz100 el100 kd102 sz102 zc102 fp102 fo102_0 fo102_1 fo102_2 fo102_3 fo102_4 fo102_5 fo102_6 fo102_7 fo102_8 fo102_9 fo102_10 fo102_11 fo102_12 fo102_13 fo102_14 fo102_15 kd109 sz109 zc109 fp109 isStrMap124 zv80 zc127 kd153 sz153 zc153 ar153 isIface157 kd159 sz159 zc159 fp159 isStrMap177 zv84 Tryz.underlying3 Tryz.underlying4 Tryz.underlying5 Tryz.underlying9 Tryz.underlying21 Tryz.underlying22 Tryz.underlying23 Tryz.underlying32 Tryz.underlying38 Tryz.underlying42 Tryz.underlying47 Tryz.underlying55 Tryz.underlying67 Tryz.underlying73 Tryz.underlying80 Tryz.underlying84 Tryz.underlying94 Tryz.underlying100 Tryz.underlying2 Tryz.underlying127 Tryz.underlying60 Tryz.underlying31
def isDig (c : UInt8) : Bool := decide (48 ≤ c.toNat) && decide (c.toNat ≤ 57)
def digFold (l : List UInt8) : Int := l.foldl (fun a c => 10 * a + ((c.toNat : Int) - 48)) 0
def zDigits (s : List UInt8) (n : Nat) : Option (Int × List UInt8) := if s.length < n then none else if (s.take n).all isDig then some (digFold (s.take n), s.drop n) else none
def zDigitsR (s : List UInt8) (n : Nat) : AV := match zDigits s n with
  | some (v, r) => .tup [vI v, vS r, vB true]
  | none => .tup [vI 0, vS s, vB false]
theorem digFold_snoc (l : List UInt8) (c : UInt8) : digFold (l ++ [c]) = 10 * digFold l + ((c.toNat : Int) - 48) := by simp [digFold]
theorem digFold_le : ∀ (n : Nat) (l : List UInt8), l.length = n → l.all isDig = true → 0 ≤ digFold l ∧ digFold l ≤ 10 ^ n - 1
  | 0, l, h, _ => by rw [List.eq_nil_of_length_eq_zero h]; simp [digFold]
  | n + 1, l, h, ha => by
    obtain ⟨l', c, rfl⟩ : ∃ l' c, l = l' ++ [c] := ⟨l.dropLast, l.getLast (by intro e; simp [e] at h), (List.dropLast_concat_getLast _).symm⟩
    simp only [List.all_append, List.all_cons, List.all_nil, Bool.and_true, Bool.and_eq_true, isDig, decide_eq_true_eq] at ha
    have ih := digFold_le n l' (by simpa using h) (by simpa [isDig] using ha.1)
    rw [digFold_snoc, Int.pow_succ]
    omega
theorem all_dig {s : List UInt8} {n i : Nat} {c : UInt8} (ha : (s.take n).all isDig = true) (h : i < n) (hi : i < s.length) (hc : s.getD i 0 = c) : 48 ≤ c.toNat ∧ c.toNat ≤ 57 := by
  have hm : c ∈ s.take n := by
    refine List.mem_of_getElem? (i := i) ?_
    rw [List.getElem?_take_of_lt h, List.getElem?_eq_getElem hi, ← hc, List.getD_eq_getElem?_getD, List.getElem?_eq_getElem hi]; rfl
  have := List.all_eq_true.1 ha c hm
  simpa [isDig] using this
theorem zdigits_A {w0 : World} (s : List UInt8) (n : Nat) (hs : s.length ≤ 1000000) (hn : n ≤ 8) (H : Heap) : ACalls Tryz.prog (CB w0) 137 [vS s, vI n] H fun r H' => r = zDigitsR s n ∧ H' = H := by
  refine A_fun (N := 42) (rs := [.tmp 4, .tmp 5, .tmp 6]) Tryz.func137 rfl rfl rfl (by kernel_rfl) (by kernel_rfl) (Nat.le_of_ble_eq_true rfl) ?_
  rintro e he ⟨g0, g1, -⟩
  simp only [go_sem, Nat.reduceLT, Nat.reduceBEq, Nat.reduceAdd, Int.reduceBEq, Nat.reduceLeDiff, reduceIte, Nat.reduceEqDiff, Int.reduceEq, Int.reduceLE, Int.reduceLT, Int.reduceNe, Nat.reduceMul, Nat.reduceSub, Int.reduceToNat, he, g0, g1]
  unfold zDigitsR zDigits
  refine condK_of (fun hc => ?_) fun hc => ?_
  · have hc := of_decide_eq_true hc
    rw [if_pos (by omega)]
    simp only [go_sem, Nat.reduceLT, Nat.reduceBEq, Nat.reduceAdd, Int.reduceBEq, Nat.reduceLeDiff, reduceIte, Nat.reduceEqDiff, Int.reduceEq, Int.reduceLE, Int.reduceLT, Int.reduceNe, Nat.reduceMul, Nat.reduceSub, Int.reduceToNat, he, g0, g1]
  · have hc := of_decide_eq_false hc
    rw [if_neg (by omega)]
    simp only [go_sem, Nat.reduceLT, Nat.reduceBEq, Nat.reduceAdd, Int.reduceBEq, Nat.reduceLeDiff, reduceIte, Nat.reduceEqDiff, Int.reduceEq, Int.reduceLE, Int.reduceLT, Int.reduceNe, Nat.reduceMul, Nat.reduceSub, Int.reduceToNat, he, g0, g1]
    refine A_while n (fun k e h => h = H ∧ len e = 42 ∧ AL.get e 0 = vS s ∧ AL.get e 1 = vI n ∧ ∃ (i : Nat), AL.get e 8 = vI i ∧ AL.get e 7 = vI (digFold (s.take i)) ∧ i + k = n ∧ (s.take i).all isDig = true) (by kernel_rfl) ?_ ?_
    · simp only [go_sem, Nat.reduceLT, Nat.reduceBEq, Nat.reduceAdd, Int.reduceBEq, Nat.reduceLeDiff, reduceIte, Nat.reduceEqDiff, Int.reduceEq, Int.reduceLE, Int.reduceLT, Int.reduceNe, Nat.reduceMul, Nat.reduceSub, Int.reduceToNat, he, g0, g1]
      exact ⟨0, rfl, rfl, by omega, rfl⟩
    · rintro k e h ⟨rfl, he, g0, g1, i, g8, g7, hik, hall⟩
      simp only [go_sem, Nat.reduceLT, Nat.reduceBEq, Nat.reduceAdd, Int.reduceBEq, Nat.reduceLeDiff, reduceIte, Nat.reduceEqDiff, Int.reduceEq, Int.reduceLE, Int.reduceLT, Int.reduceNe, Nat.reduceMul, Nat.reduceSub, Int.reduceToNat, he, g0, g1, g7, g8]
      refine condK_of (fun hc => ?_) fun hc => ?_
      · have hc := of_decide_eq_true hc
        have hi : i < s.length := by omega
        have htk : s.take (i + 1) = s.take i ++ [s.getD i 0] := by rw [List.take_add_one, List.getD_eq_getElem?_getD, List.getElem?_eq_getElem hi]; rfl
        have hdf := digFold_le i (s.take i) (by rw [List.length_take]; omega) hall
        have hp : (10 : Int) ^ i ≤ 100000000 := by
          have : (10 : Int) ^ i ≤ 10 ^ 8 := by exact_mod_cast Nat.pow_le_pow_right (by omega) (by omega)
          omega
        generalize hcc : s.getD i 0 = c at *
        by_cases h48 : (c.toNat : Int) < 48
        · have e48 := decide_eq_true h48
          simp only [go_sem, Nat.reduceLT, Nat.reduceBEq, Nat.reduceAdd, Int.reduceBEq, Nat.reduceLeDiff, reduceIte, Nat.reduceEqDiff, Int.reduceEq, Int.reduceLE, Int.reduceLT, Int.reduceNe, Nat.reduceMul, Nat.reduceSub, Int.reduceToNat, he, g0, g1, g7, g8, Int.toNat_natCast, hcc, e48]
          refine ⟨by omega, ?_⟩
          rw [if_neg (fun ha => by have := all_dig ha (show i < n by omega) hi hcc; omega)]
        · have e48 := decide_eq_false h48
          simp only [go_sem, Nat.reduceLT, Nat.reduceBEq, Nat.reduceAdd, Int.reduceBEq, Nat.reduceLeDiff, reduceIte, Nat.reduceEqDiff, Int.reduceEq, Int.reduceLE, Int.reduceLT, Int.reduceNe, Nat.reduceMul, Nat.reduceSub, Int.reduceToNat, he, g0, g1, g7, g8, Int.toNat_natCast, hcc, e48]
          refine ⟨by omega, by omega, condK_of (fun hq => ?_) fun hq => ?_⟩
          · have hq := of_decide_eq_true hq
            simp only [go_sem, Nat.reduceLT, Nat.reduceBEq, Nat.reduceAdd, Int.reduceBEq, Nat.reduceLeDiff, reduceIte, Nat.reduceEqDiff, Int.reduceEq, Int.reduceLE, Int.reduceLT, Int.reduceNe, Nat.reduceMul, Nat.reduceSub, Int.reduceToNat, he, g0, g1, g7, g8]
            rw [if_neg (fun ha => by have := all_dig ha (show i < n by omega) hi hcc; omega)]
          · have hq := of_decide_eq_false hq
            have u1 : IntKind.u8.wrap ((c.toNat : Int) - 48) = (c.toNat : Int) - 48 := wU8 (by omega)
            have u2 : IntKind.i64.wrap ((c.toNat : Int) - 48) = (c.toNat : Int) - 48 := wI64 (by omega)
            have u3 : IntKind.i64.wrap (10 * digFold (s.take i)) = 10 * digFold (s.take i) := wI64 (by omega)
            have u4 : IntKind.i64.wrap (10 * digFold (s.take i) + ((c.toNat : Int) - 48)) = digFold (s.take (i + 1)) := by rw [htk, digFold_snoc, wI64 (by omega)]
            have wi : IntKind.i64.wrap ((i : Int) + 1) = ((i + 1 : Nat) : Int) := by rw [wI64 (by omega)]; rfl
            simp only [go_sem, Nat.reduceLT, Nat.reduceBEq, Nat.reduceAdd, Int.reduceBEq, Nat.reduceLeDiff, reduceIte, Nat.reduceEqDiff, Int.reduceEq, Int.reduceLE, Int.reduceLT, Int.reduceNe, Nat.reduceMul, Nat.reduceSub, Int.reduceToNat, he, g0, g1, g7, g8, Int.toNat_natCast, hcc, u1, conv_int (P := Tryz.prog) (s := 5) (d := 3) Tryz.underlying5 Tryz.underlying3, u2, u3, u4, wi]
            refine ⟨by omega, k - 1, by omega, i + 1, rfl, rfl, by omega, ?_⟩
            rw [htk, List.all_append, hall]
            simp [isDig]; omega
      · have hc := of_decide_eq_false hc
        have : i = n := by omega
        subst this
        simp only [go_sem, Nat.reduceLT, Nat.reduceBEq, Nat.reduceAdd, Int.reduceBEq, Nat.reduceLeDiff, reduceIte, Nat.reduceEqDiff, Int.reduceEq, Int.reduceLE, Int.reduceLT, Int.reduceNe, Nat.reduceMul, Nat.reduceSub, Int.reduceToNat, he, g0, g1, g7, g8, Int.toNat_natCast]
        refine acode_draw mixed (by kernel_rfl) ?_
        simp only [go_sem, Nat.reduceLT, Nat.reduceBEq, Nat.reduceAdd, Int.reduceBEq, Nat.reduceLeDiff, reduceIte, Nat.reduceEqDiff, Int.reduceEq, Int.reduceLE, Int.reduceLT, Int.reduceNe, Nat.reduceMul, Nat.reduceSub, Int.reduceToNat, he, g0, g1, g7, g8, Int.toNat_natCast, nn, hall]
        rw [List.take_length]
        refine ⟨by omega, rfl⟩
end Go.Proofs.YtlfpjdcogkcjlaaGreatDoor.F
