/- Lists of numbers and weekdays out of texts. -/
import Derived.Test.YtlfpjdcogkcjlaaGreatDoorT9
namespace Go.Proofs.YtlfpjdcogkcjlaaGreatDoor.F
open Go.RowKit Go.Proofs.YtlfpjdcogkcjlaaGreatDoor.AL Go.Proofs.YtlfpjdcogkcjlaaGreatDoor.B
set_option linter.unusedVariables false
set_option linter.unusedSimpArgs false
set_option maxRecDepth 20000
attribute [local irreducible] aops acode bindK bindV bindH callX callK condK guardK Kseq Kblk Knorm Kfun Kloop Kjoin outK AWp appendA
attribute [local go_sem] acode_skip acode_seq acode_region acode_cond acode_block acode_exit acode_ret acode_loop Kseq_normal Kseq_exit Kseq_ret Kblk_normal Kblk_ret Kblk_eq Kblk_ne Knorm_eq Kloop_normal Kloop_exit Kloop_ret Kjoin_normal Kjoin_exit Kjoin_ret condK_true condK_false bindK_put bindV_put bindK_no bindV_no bindH_no aops_nil gops wantK_some wantV_bool wantV_undef guardK_true guardK_false guardK_none aops_move aops_assign aops_pick aops_nilCheck aops_binOp aops_unOp aops_convert aops_fieldAddr aops_indexAddr aops_slice aops_index aops_extract aops_makeInterface aops_makeFunc aops_build aops_load aops_lookup aops_alloc aops_box aops_buildSlice aops_makeSlice aops_makeMap aops_store aops_insert aops_mapUpdate aops_len aops_append aops_call opA_tmp opA_const opA_global opA_func get_mk look_nil look_eq look_ne len_mk List.map_cons List.map_nil Option.map_some Option.map_none bin_add bin_sub bin_mul bin_quo bin_rem bin_eql bin_neq bin_lss bin_leq bin_gtr bin_geq bin_cat bin_seql bin_sneq bin_neq_ifc bin_eql_ifc bin_neq_nn bin_eql_nn bin_neq_ptr bin_eql_ptr bin_neq_pn isIfc_true isPtr_true bin_eql2 bin_neq2 aops_max max_int un_not un_neg lenA_K lenK_str lenK_nil lenK_sl lenK_array pick_bool pick_val bindV_ite bindK_ite bindH_ite slotV_sl slotK_some slotV_ptr slotR_some sliceV_sl cutK_some sliceV_str cutS_some bound_none bound_some indexA_str atS_some mkS fieldV_ptr loadV_ptr cellsK_ro cellsK_own loadK_one loadK_many storeA_ptr storeK_own allocA_some heap_len heap_get0 heap_get heap_set0 heap_set Kfun_ret Kfun_normal resA_nil resA_tmp resA_cell outK_some packA_one packA_nil packA_two List.length_cons List.length_nil List.getElem?_cons_zero List.getElem?_cons_succ List.set_cons_zero List.set_cons_succ List.cons_append List.nil_append List.append_assoc Nat.zero_add Nat.add_zero List.all_cons List.all_nil Value.oneCell' Bool.and_true Bool.and_self if_true if_false Bool.false_eq_true partsA buildV buildA fillA Option.bind_some putCells List.drop_succ_cons List.drop_zero List.take_succ_cons List.take_zero List.take_nil List.drop_nil and_self and_true true_and Option.some.injEq ne_eq not_false_eq_true Option.map_map List.getElem?_toArray beq_self_eq_true Bool.true_beq Bool.false_beq Bool.not_true Bool.not_false decide_true decide_false beq_true Nat.mul_one Nat.one_mul Nat.zero_mul bsA buildSliceA zerosN List.append_nil Int.toNat_natCast Int.toNat_zero boxA one_val one_ptr one_sl one_mp one_ifc one_fn avCells_agg avCells_val valCells_true valCells_agg avCells_ptr avCells_sl avCells_mp avCells_ifc avCells_fn app_cons app_nil lookupA insertA ifaceV extractA kd2 ars127 fp127 ars60 fp60 ars31 fp31 eq2_99 eq2_84 eq2_47 fp52 sz2 kd3 sz3 kd4 sz4 kd5 sz5 kd9 sz9 kd22 sz22 el22 kd23 sz23 el23 kd25 sz25 zc25 fp25 fo25_0 fo25_1 fo25_2 fo25_3 fo25_4 fo25_5 fo25_6 fo25_7 fo25_8 fo25_9 fo25_10 fo25_11 fo25_12 fo25_13 fo25_14 fo25_15 fo25_16 fo25_17 kd31 sz31 zc31 ar31 kd32 sz32 el32 kd34 sz34 zc34 fp34 fo34_0 fo34_1 fo34_2 fo34_3 fo34_4 fo34_5 fo34_6 fo34_7 fo34_8 fo34_9 fo34_10 fo34_11 fo34_12 fo34_13 fo34_14 fo34_15 fo34_16 fo34_17 el38 el42 kd47 sz47 zc47 fp47 fo47_0 fo47_1 kd52 sz52 zc52 fo52_0 el55 zc60 kd72 sz72 zc72 fp72 fo72_0 fo72_1 el73 isStrMap76 zv4 kd80 sz80 kd84 sz84 zc84 fp84 fo84_0 fo84_1 kd88 sz88 zc88 fp88 fo88_0 fo88_1 fo88_2 fo88_3 kd91 sz91 zc91 fp91 fo91_0 fo91_1 fo91_2 el94 kd99 sz99 zc99 fp99 fo99_0 fo99_1 kd100 sz100 el100 kd102 sz102 zc102 fp102 fo102_0 fo102_1 fo102_2 fo102_3 fo102_4 fo102_5 fo102_6 fo102_7 fo102_8 fo102_9 fo102_10 fo102_11 fo102_12 fo102_13 fo102_14 fo102_15 kd109 sz109 zc109 fp109 isStrMap124 zv80 zc127 kd153 sz153 zc153 ar153 isIface157 kd159 sz159 zc159 fp159 isStrMap177 zv84 Tryz.underlying3 Tryz.underlying4 Tryz.underlying5 Tryz.underlying9 Tryz.underlying21 Tryz.underlying22 Tryz.underlying23 Tryz.underlying32 Tryz.underlying38 Tryz.underlying42 Tryz.underlying47 Tryz.underlying55 Tryz.underlying67 Tryz.underlying73 Tryz.underlying80 Tryz.underlying84 Tryz.underlying94 Tryz.underlying100 Tryz.underlying2 Tryz.underlying127 Tryz.underlying60 Tryz.underlying31
theorem splitN_length (c : UInt8) : ∀ (k : Nat) (s : List UInt8), (splitN c k s).length ≤ k + 1 ∧ 0 < (splitN c k s).length
  | 0, s => by simp [splitN]
  | k + 1, s => by
    unfold splitN
    split
    · simp
    · have := splitN_length c k (s.drop (‹Nat› + 1))
      simp only [List.length_cons]; omega
theorem split_length (c : UInt8) (s : List UInt8) : (split c s).length ≤ s.length + 2 ∧ 0 < (split c s).length := splitN_length c _ s
theorem splitN_mem (c : UInt8) : ∀ (k : Nat) (s x : List UInt8), x ∈ splitN c k s → x.length ≤ s.length
  | 0, s, x, h => by simp [splitN] at h; simp [h]
  | k + 1, s, x, h => by
    unfold splitN at h
    split at h
    · simp at h; simp [h]
    · rcases List.mem_cons.1 h with rfl | h
      · rw [List.length_take]; omega
      · have := splitN_mem c k _ x h
        rw [List.length_drop] at this; omega
theorem split_mem {c : UInt8} {s x : List UInt8} (h : x ∈ split c s) : x.length ≤ s.length := splitN_mem c _ s x h
def mapAcc {α β : Type} (f : α → Except Nat β) (acc : List β) : List α → Except Nat (List β)
  | [] => .ok acc
  | a :: r => match f a with
    | .ok b => mapAcc f (acc ++ [b]) r
    | .error t => .error t
def atoiE (s : List UInt8) : Except Nat Int := match Lib.atoiAll s with
  | .ok n => .ok n
  | _ => .error 207
def intsOf (s : List UInt8) : Except Nat (List Int) := mapAcc atoiE [] (split 44 s)
def daysOf (s : List UInt8) : Except Nat (List (Int × Int)) := mapAcc wdOf [] (split 44 s)
theorem drop_get {α : Type} {l : List α} {i : Nat} (h : i < l.length) : ∃ a, l[i]? = some a ∧ l.drop i = a :: l.drop (i + 1) :=
  ⟨l[i], List.getElem?_eq_getElem h, List.drop_eq_getElem_cons h⟩
theorem putCells_one {cs : List AV} {i : Nat} {c : AV} (h : i < cs.length) : (putCells cs i [c]).length = cs.length ∧ ∀ j, (putCells cs i [c])[j]? = if j = i then some c else cs[j]? := by
  refine ⟨by rw [putCells_length _ _ _ (by simp; omega)], fun j => ?_⟩
  rw [putCells_get _ _ _ (by simp; omega)]
  by_cases hj : j = i
  · subst hj; simp
  · rw [if_neg (by simp; omega), if_neg hj]
/-- A slice of numbers out of a text, with its error. -/
def IntsR (H h : Heap) (r : AV) : Except Nat (List Int) → Prop
  | .ok l => ∃ p, r = .tup [.sl true p 0 l.length 1, .val .nilIface] ∧ h[p]? = some (.own 3 (l.map vI)) ∧ H.length ≤ p
  | .error t => r = .tup [.val (.slice none 0 0), .ifc t .any]
theorem strToInts_A {w0 : World} (hG : Glob w0) (s : List UInt8) (hs : s.length ≤ 100000) (H : Heap) : ACalls Tryz.prog (CB w0) 91 [vS s] H fun r H' => IntsR H H' r (intsOf s) ∧ ∃ G, H' = H ++ G := by
  refine A_fun (N := 34) (rs := [.tmp 2, .tmp 3]) Tryz.func91 rfl rfl rfl (by kernel_rfl) (by kernel_rfl) (Nat.le_of_ble_eq_true rfl) ?_
  rintro e he ⟨g0, -⟩
  simp only [go_sem, Nat.reduceLT, Nat.reduceBEq, Nat.reduceAdd, Int.reduceBEq, Nat.reduceLeDiff, reduceIte, Nat.reduceEqDiff, Int.reduceEq, Int.reduceLE, Int.reduceLT, Int.reduceNe, Nat.reduceMul, Nat.reduceSub, Int.reduceToNat, he, g0]
  refine callX_any (zzSplit_A s 44 (by omega) _) ?_
  rintro r h ⟨⟨G, rfl⟩, o, rfl, ho, hol⟩
  have hsl := split_length 44 s
  have hsm : ∀ x ∈ split 44 s, x.length ≤ s.length := fun x => split_mem
  unfold intsOf
  generalize split 44 s = ss at *
  simp only [go_sem, Nat.reduceLT, Nat.reduceBEq, Nat.reduceAdd, Int.reduceBEq, Nat.reduceLeDiff, reduceIte, Nat.reduceEqDiff, Int.reduceEq, Int.reduceLE, Int.reduceLT, Int.reduceNe, Nat.reduceMul, Nat.reduceSub, Int.reduceToNat, he, g0, setD_some, ho, makeSliceA]
  refine ⟨by omega, ?_⟩
  refine A_while ss.length (fun k e h => ∃ (i p : Nat) (cs : List AV) (vs : List Int), i + k = ss.length ∧ len e = 34 ∧ AL.get e 14 = .sl true o 0 ss.length 1 ∧ AL.get e 15 = vI ss.length ∧ AL.get e 16 = vI i ∧ AL.get e 5 = .sl true p 0 ss.length 1 ∧ (∃ G, h = H ++ G) ∧ H.length ≤ p ∧ o ≠ p ∧ h[o]? = some (.own 9 (ss.map vS)) ∧ h[p]? = some (.own 3 cs) ∧ cs.length = ss.length ∧ vs.length = i ∧ (∀ j, j < i → cs[j]? = some (vI (vs.getD j 0))) ∧ mapAcc atoiE vs (ss.drop i) = mapAcc atoiE [] ss) (by kernel_rfl) ?_ ?_
  · simp only [go_sem, Nat.reduceLT, Nat.reduceBEq, Nat.reduceAdd, Int.reduceBEq, Nat.reduceLeDiff, reduceIte, Nat.reduceEqDiff, Int.reduceEq, Int.reduceLE, Int.reduceLT, Int.reduceNe, Nat.reduceMul, Nat.reduceSub, Int.reduceToNat, he, g0]
    have hlt : o < (H ++ G).length := (List.getElem?_eq_some_iff.1 ho).1
    refine ⟨0, _, zerosN [Value.int IntKind.i64 0] ss.length, [], by omega, rfl, rfl, ⟨_, rfl⟩, by omega, by rw [← List.length_append]; omega, ?_, ?_, by simp [zerosN_length], rfl, fun j hj => by omega, rfl⟩
    · rw [← List.append_assoc]; exact get_more ho
    · rw [← List.append_assoc, ← List.length_append]; exact heap_get0
  · rintro k e h ⟨i, p, cs, vs, hik, he, g14, g15, g16, g5, ⟨G1, rfl⟩, hp, hop, ho, hcs, hcl, hvl, hcv, hm⟩
    simp only [go_sem, Nat.reduceLT, Nat.reduceBEq, Nat.reduceAdd, Int.reduceBEq, Nat.reduceLeDiff, reduceIte, Nat.reduceEqDiff, Int.reduceEq, Int.reduceLE, Int.reduceLT, Int.reduceNe, Nat.reduceMul, Nat.reduceSub, Int.reduceToNat, he, g14, g15, g16, g5]
    refine condK_of (fun hc => ?_) fun hc => ?_
    · have hc := of_decide_eq_true hc
      obtain ⟨a, ha, hd⟩ := drop_get (l := ss) (i := i) (by omega)
      have hai : (ss.map vS)[i]? = some (vS a) := by rw [List.getElem?_map, ha]; rfl
      have hal := hsm a (List.mem_of_getElem? ha)
      simp only [go_sem, Nat.reduceLT, Nat.reduceBEq, Nat.reduceAdd, Int.reduceBEq, Nat.reduceLeDiff, reduceIte, Nat.reduceEqDiff, Int.reduceEq, Int.reduceLE, Int.reduceLT, Int.reduceNe, Nat.reduceMul, Nat.reduceSub, Int.reduceToNat, he, g14, g15, g16, g5, ho, hai, Int.toNat_natCast]
      refine ⟨by omega, callX_of (atoi_A hG a (by omega) _) (List.prefix_refl _) ?_⟩
      rw [hd, mapAcc] at hm
      unfold atoiR
      have wi : IntKind.i64.wrap ((i : Int) + 1) = ((i + 1 : Nat) : Int) := by rw [wI64 (by omega)]; rfl
      cases hq : Lib.atoiAll a with
      | ok n =>
        have ea : atoiE a = .ok n := by unfold atoiE; rw [hq]
        replace hm : mapAcc atoiE (vs ++ [n]) (ss.drop (i + 1)) = mapAcc atoiE [] ss := by rw [ea] at hm; exact hm
        simp only [go_sem, Nat.reduceLT, Nat.reduceBEq, Nat.reduceAdd, Int.reduceBEq, Nat.reduceLeDiff, reduceIte, Nat.reduceEqDiff, Int.reduceEq, Int.reduceLE, Int.reduceLT, Int.reduceNe, Nat.reduceMul, Nat.reduceSub, Int.reduceToNat, he, g14, g15, g16, g5, hcs, setD_some, Int.toNat_natCast, wi]
        obtain ⟨p1, p2⟩ := putCells_one (cs := cs) (i := i) (c := vI n) (by omega)
        refine ⟨by omega, by omega, k - 1, by omega, i + 1, p, putCells cs i [vI n], vs ++ [n], by omega, rfl, rfl, ⟨_, set_behind hp⟩, hp, hop, ?_, ?_, by omega, by simp; omega, ?_, hm⟩
        · rw [List.getElem?_set_ne (by omega)]; exact ho
        · rw [List.getElem?_set_self (List.getElem?_eq_some_iff.1 hcs).1]; simp [putCells]
        · intro j hj
          rw [p2]
          by_cases h1 : j = i
          · rw [if_pos h1, h1, ← hvl]; simp
          · rw [if_neg h1, hcv j (by omega), List.getD_eq_getElem?_getD, List.getD_eq_getElem?_getD, List.getElem?_append_left (by omega)]
      | range =>
        have ea : atoiE a = .error 207 := by unfold atoiE; rw [hq]
        replace hm : .error 207 = mapAcc atoiE [] ss := by rw [ea] at hm; exact hm
        simp only [go_sem, Nat.reduceLT, Nat.reduceBEq, Nat.reduceAdd, Int.reduceBEq, Nat.reduceLeDiff, reduceIte, Nat.reduceEqDiff, Int.reduceEq, Int.reduceLE, Int.reduceLT, Int.reduceNe, Nat.reduceMul, Nat.reduceSub, Int.reduceToNat, he, g14, g15, g16, g5, hcs, setD_some, Int.toNat_natCast, wi]
        refine ⟨by omega, by omega, ?_, _, set_behind hp⟩
        rw [← hm]
        exact rfl
      | _ =>
        have ea : atoiE a = .error 207 := by unfold atoiE; rw [hq]
        replace hm : .error 207 = mapAcc atoiE [] ss := by rw [ea] at hm; exact hm
        simp only [go_sem, Nat.reduceLT, Nat.reduceBEq, Nat.reduceAdd, Int.reduceBEq, Nat.reduceLeDiff, reduceIte, Nat.reduceEqDiff, Int.reduceEq, Int.reduceLE, Int.reduceLT, Int.reduceNe, Nat.reduceMul, Nat.reduceSub, Int.reduceToNat, he, g14, g15, g16, g5, hcs, setD_some, Int.toNat_natCast, wi]
        refine ⟨by omega, by omega, ?_, _, set_behind hp⟩
        rw [← hm]
        exact rfl
    · have hc := of_decide_eq_false hc
      simp only [go_sem, Nat.reduceLT, Nat.reduceBEq, Nat.reduceAdd, Int.reduceBEq, Nat.reduceLeDiff, reduceIte, Nat.reduceEqDiff, Int.reduceEq, Int.reduceLE, Int.reduceLT, Int.reduceNe, Nat.reduceMul, Nat.reduceSub, Int.reduceToNat, he, g14, g15, g16, g5]
      have hi : i = ss.length := by omega
      rw [hi, List.drop_length, mapAcc] at hm
      refine ⟨?_, _, rfl⟩
      rw [← hm]
      have hcs' : cs = vs.map vI := by
        refine List.ext_getElem? fun j => ?_
        by_cases hj : j < i
        · rw [hcv j hj, List.getElem?_map, List.getD_eq_getElem?_getD]
          rw [List.getElem?_eq_getElem (by omega)]; rfl
        · rw [List.getElem?_eq_none (by omega), List.getElem?_eq_none (by rw [List.length_map]; omega)]
      refine ⟨p, ?_, by rw [hcs, hcs'], hp⟩
      rw [← hi, hvl]
/-- A slice of weekdays out of a text, with its error. -/
def DaysR (H h : Heap) (r : AV) : Except Nat (List (Int × Int)) → Prop
  | .ok l => ∃ p cs, r = .tup [.sl true p 0 l.length 2, .val .nilIface] ∧ h[p]? = some (.own 84 cs) ∧ H.length ≤ p ∧ (∀ i, i < l.length * 2 → cs[i]? = some (if i % 2 = 0 then vI (l.getD (i / 2) (0, 0)).1 else vI (l.getD (i / 2) (0, 0)).2))
  | .error t => r = .tup [.val (.slice none 0 0), .ifc t .any]
theorem strToWeekdays_A {w0 : World} (hG : Glob w0) (s : List UInt8) (hs : s.length ≤ 100000) (H : Heap) (hH : GH H) : ACalls Tryz.prog (CB w0) 92 [vS s] H fun r H' => DaysR H H' r (daysOf s) ∧ ∃ G, H' = H ++ G := by
  refine A_fun (N := 34) (rs := [.tmp 2, .tmp 3]) Tryz.func92 rfl rfl rfl (by kernel_rfl) (by kernel_rfl) (Nat.le_of_ble_eq_true rfl) ?_
  rintro e he ⟨g0, -⟩
  simp only [go_sem, Nat.reduceLT, Nat.reduceBEq, Nat.reduceAdd, Int.reduceBEq, Nat.reduceLeDiff, reduceIte, Nat.reduceEqDiff, Int.reduceEq, Int.reduceLE, Int.reduceLT, Int.reduceNe, Nat.reduceMul, Nat.reduceSub, Int.reduceToNat, he, g0]
  refine callX_any (zzSplit_A s 44 (by omega) _) ?_
  rintro r h ⟨⟨G, rfl⟩, o, rfl, ho, hol⟩
  have hsl := split_length 44 s
  have hsm : ∀ x ∈ split 44 s, x.length ≤ s.length := fun x => split_mem
  unfold daysOf
  generalize split 44 s = ss at *
  simp only [go_sem, Nat.reduceLT, Nat.reduceBEq, Nat.reduceAdd, Int.reduceBEq, Nat.reduceLeDiff, reduceIte, Nat.reduceEqDiff, Int.reduceEq, Int.reduceLE, Int.reduceLT, Int.reduceNe, Nat.reduceMul, Nat.reduceSub, Int.reduceToNat, he, g0, setD_some, ho, makeSliceA]
  refine ⟨by omega, ?_⟩
  refine A_while ss.length (fun k e h => ∃ (i p : Nat) (cs : List AV) (vs : List (Int × Int)), i + k = ss.length ∧ len e = 34 ∧ AL.get e 14 = .sl true o 0 ss.length 1 ∧ AL.get e 15 = vI ss.length ∧ AL.get e 16 = vI i ∧ AL.get e 5 = .sl true p 0 ss.length 2 ∧ (∃ G, h = H ++ G) ∧ H.length ≤ p ∧ o ≠ p ∧ h[o]? = some (.own 9 (ss.map vS)) ∧ h[p]? = some (.own 84 cs) ∧ cs.length = ss.length * 2 ∧ vs.length = i ∧ (∀ j, j < i * 2 → cs[j]? = some (if j % 2 = 0 then vI (vs.getD (j / 2) (0, 0)).1 else vI (vs.getD (j / 2) (0, 0)).2)) ∧ mapAcc wdOf vs (ss.drop i) = mapAcc wdOf [] ss) (by kernel_rfl) ?_ ?_
  · simp only [go_sem, Nat.reduceLT, Nat.reduceBEq, Nat.reduceAdd, Int.reduceBEq, Nat.reduceLeDiff, reduceIte, Nat.reduceEqDiff, Int.reduceEq, Int.reduceLE, Int.reduceLT, Int.reduceNe, Nat.reduceMul, Nat.reduceSub, Int.reduceToNat, he, g0]
    have hlt : o < (H ++ G).length := (List.getElem?_eq_some_iff.1 ho).1
    refine ⟨0, _, zerosN [Value.int IntKind.i64 0, Value.int IntKind.i64 0] ss.length, [], by omega, rfl, rfl, ⟨_, rfl⟩, by omega, by rw [← List.length_append]; omega, ?_, ?_, by simp [zerosN_length], rfl, fun j hj => by omega, rfl⟩
    · rw [← List.append_assoc]; exact get_more ho
    · rw [← List.append_assoc, ← List.length_append]; exact heap_get0
  · rintro k e h ⟨i, p, cs, vs, hik, he, g14, g15, g16, g5, ⟨G1, rfl⟩, hp, hop, ho, hcs, hcl, hvl, hcv, hm⟩
    simp only [go_sem, Nat.reduceLT, Nat.reduceBEq, Nat.reduceAdd, Int.reduceBEq, Nat.reduceLeDiff, reduceIte, Nat.reduceEqDiff, Int.reduceEq, Int.reduceLE, Int.reduceLT, Int.reduceNe, Nat.reduceMul, Nat.reduceSub, Int.reduceToNat, he, g14, g15, g16, g5]
    refine condK_of (fun hc => ?_) fun hc => ?_
    · have hc := of_decide_eq_true hc
      obtain ⟨a, ha, hd⟩ := drop_get (l := ss) (i := i) (by omega)
      have hai : (ss.map vS)[i]? = some (vS a) := by rw [List.getElem?_map, ha]; rfl
      have hal := hsm a (List.mem_of_getElem? ha)
      simp only [go_sem, Nat.reduceLT, Nat.reduceBEq, Nat.reduceAdd, Int.reduceBEq, Nat.reduceLeDiff, reduceIte, Nat.reduceEqDiff, Int.reduceEq, Int.reduceLE, Int.reduceLT, Int.reduceNe, Nat.reduceMul, Nat.reduceSub, Int.reduceToNat, he, g14, g15, g16, g5, ho, hai, Int.toNat_natCast]
      refine ⟨by omega, callX_of (strToWeekday_A hG a (by omega) _ (hH.more _)) (List.prefix_refl _) ?_⟩
      rw [hd, mapAcc] at hm
      unfold wdR
      have wi : IntKind.i64.wrap ((i : Int) + 1) = ((i + 1 : Nat) : Int) := by rw [wI64 (by omega)]; rfl
      cases hq : wdOf a with
      | ok n =>
        replace hm : mapAcc wdOf (vs ++ [n]) (ss.drop (i + 1)) = mapAcc wdOf [] ss := by rw [hq] at hm; exact hm
        simp only [exR, go_sem, Nat.reduceLT, Nat.reduceBEq, Nat.reduceAdd, Int.reduceBEq, Nat.reduceLeDiff, reduceIte, Nat.reduceEqDiff, Int.reduceEq, Int.reduceLE, Int.reduceLT, Int.reduceNe, Nat.reduceMul, Nat.reduceSub, Int.reduceToNat, he, g14, g15, g16, g5, hcs, setD_some, Int.toNat_natCast, wi]
        refine ⟨by omega, by omega, k - 1, by omega, i + 1, p, putCells cs (i * 2) [vI n.1, vI n.2], vs ++ [n], by omega, rfl, rfl, ⟨_, set_behind hp⟩, hp, hop, ?_, ?_, ?_, by simp; omega, ?_, hm⟩
        · rw [List.getElem?_set_ne (by omega)]; exact ho
        · rw [List.getElem?_set_self (List.getElem?_eq_some_iff.1 hcs).1]; simp [putCells]
        · rw [putCells_length _ _ _ (by simp; omega)]; omega
        · intro j hj
          rw [putCells_get _ _ _ (by simp; omega)]
          by_cases h1 : i * 2 ≤ j
          · rw [if_pos (by simp; omega)]
            have hg : (vs ++ [n]).getD (j / 2) (0, 0) = n := by
              rw [show j / 2 = vs.length by omega, List.getD_eq_getElem?_getD]; simp
            rw [hg]
            by_cases h2 : j = i * 2
            · subst h2; rw [if_pos (by omega)]; simp
            · rw [show j = i * 2 + 1 by omega, if_neg (by omega)]; simp
          · rw [if_neg (by omega), hcv j (by omega)]
            have hg : (vs ++ [n]).getD (j / 2) (0, 0) = vs.getD (j / 2) (0, 0) := by
              rw [List.getD_eq_getElem?_getD, List.getD_eq_getElem?_getD, List.getElem?_append_left (by omega)]
            rw [hg]
      | error t =>
        replace hm : .error t = mapAcc wdOf [] ss := by rw [hq] at hm; exact hm
        simp only [exR, go_sem, Nat.reduceLT, Nat.reduceBEq, Nat.reduceAdd, Int.reduceBEq, Nat.reduceLeDiff, reduceIte, Nat.reduceEqDiff, Int.reduceEq, Int.reduceLE, Int.reduceLT, Int.reduceNe, Nat.reduceMul, Nat.reduceSub, Int.reduceToNat, he, g14, g15, g16, g5, hcs, setD_some, Int.toNat_natCast, wi]
        refine ⟨by omega, by omega, ?_, _, set_behind hp⟩
        rw [← hm]
        exact rfl
    · have hc := of_decide_eq_false hc
      simp only [go_sem, Nat.reduceLT, Nat.reduceBEq, Nat.reduceAdd, Int.reduceBEq, Nat.reduceLeDiff, reduceIte, Nat.reduceEqDiff, Int.reduceEq, Int.reduceLE, Int.reduceLT, Int.reduceNe, Nat.reduceMul, Nat.reduceSub, Int.reduceToNat, he, g14, g15, g16, g5]
      have hi : i = ss.length := by omega
      rw [hi, List.drop_length, mapAcc] at hm
      refine ⟨?_, _, rfl⟩
      rw [← hm]
      refine ⟨p, cs, by rw [← hi, hvl], hcs, hp, fun j hj => hcv j (by omega)⟩
end Go.Proofs.YtlfpjdcogkcjlaaGreatDoor.F
