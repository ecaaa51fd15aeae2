/- Texts are cut at a sign. -/
import Derived.Test.YtlfpjdcogkcjlaaGreatDoorT6
namespace Go.Proofs.YtlfpjdcogkcjlaaGreatDoor.F
open Go.RowKit Go.Proofs.YtlfpjdcogkcjlaaGreatDoor.AL Go.Proofs.YtlfpjdcogkcjlaaGreatDoor.B
set_option linter.unusedVariables false
set_option linter.unusedSimpArgs false
set_option maxRecDepth 20000
attribute [local irreducible] aops acode bindK bindV bindH callX callK condK guardK Kseq Kblk Knorm Kfun Kloop Kjoin outK AWp appendA
attribute [local go_sem] acode_skip acode_seq acode_region acode_cond acode_block acode_exit acode_ret acode_loop Kseq_normal Kseq_exit Kseq_ret Kblk_normal Kblk_ret Kblk_eq Kblk_ne Knorm_eq Kloop_normal Kloop_exit Kloop_ret Kjoin_normal Kjoin_exit Kjoin_ret condK_true condK_false bindK_put bindV_put bindK_no bindV_no bindH_no aops_nil gops wantK_some wantV_bool wantV_undef guardK_true guardK_false guardK_none aops_move aops_assign aops_pick aops_nilCheck aops_binOp aops_unOp aops_convert aops_fieldAddr aops_indexAddr aops_slice aops_index aops_extract aops_makeInterface aops_makeFunc aops_build aops_load aops_lookup aops_alloc aops_box aops_buildSlice aops_makeSlice aops_makeMap aops_store aops_insert aops_mapUpdate aops_len aops_append aops_call opA_tmp opA_const opA_global opA_func get_mk look_nil look_eq look_ne len_mk List.map_cons List.map_nil Option.map_some Option.map_none bin_add bin_sub bin_mul bin_quo bin_rem bin_eql bin_neq bin_lss bin_leq bin_gtr bin_geq bin_cat bin_seql bin_sneq bin_neq_ifc bin_eql_ifc bin_neq_nn bin_eql_nn bin_neq_ptr bin_eql_ptr bin_neq_pn isIfc_true isPtr_true bin_eql2 bin_neq2 aops_max max_int un_not un_neg lenA_K lenK_str lenK_nil lenK_sl lenK_array pick_bool pick_val bindV_ite bindK_ite bindH_ite slotV_sl slotK_some slotV_ptr slotR_some sliceV_sl cutK_some sliceV_str cutS_some bound_none bound_some indexA_str atS_some mkS fieldV_ptr loadV_ptr cellsK_ro cellsK_own loadK_one loadK_many storeA_ptr storeK_own allocA_some heap_len heap_get0 heap_get heap_set0 heap_set Kfun_ret Kfun_normal resA_nil resA_tmp resA_cell outK_some packA_one packA_nil packA_two List.length_cons List.length_nil List.getElem?_cons_zero List.getElem?_cons_succ List.set_cons_zero List.set_cons_succ List.cons_append List.nil_append List.append_assoc Nat.zero_add Nat.add_zero List.all_cons List.all_nil Value.oneCell' Bool.and_true Bool.and_self if_true if_false Bool.false_eq_true partsA buildV buildA fillA Option.bind_some putCells List.drop_succ_cons List.drop_zero List.take_succ_cons List.take_zero List.take_nil List.drop_nil and_self and_true true_and Option.some.injEq ne_eq not_false_eq_true Option.map_map List.getElem?_toArray beq_self_eq_true Bool.true_beq Bool.false_beq Bool.not_true Bool.not_false decide_true decide_false beq_true Nat.mul_one Nat.one_mul Nat.zero_mul bsA buildSliceA zerosN List.append_nil Int.toNat_natCast Int.toNat_zero boxA one_val one_ptr one_sl one_mp one_ifc one_fn avCells_agg avCells_val valCells_true valCells_agg avCells_ptr avCells_sl avCells_mp avCells_ifc avCells_fn app_cons app_nil lookupA insertA ifaceV extractA kd2 ars127 fp127 ars60 fp60 ars31 fp31 eq2_99 eq2_84 eq2_47 fp52 sz2 kd3 sz3 kd4 sz4 kd5 sz5 kd9 sz9 kd22 sz22 el22 kd23 sz23 el23 kd25 sz25 zc25 fp25 fo25_0 fo25_1 fo25_2 fo25_3 fo25_4 fo25_5 fo25_6 fo25_7 fo25_8 fo25_9 fo25_10 fo25_11 fo25_12 fo25_13 fo25_14 fo25_15 fo25_16 fo25_17 kd31 sz31 zc31 ar31 kd32 sz32 el32 kd34 sz34 zc34 fp34 fo34_0 fo34_1 fo34_2 fo34_3 fo34_4 fo34_5 fo34_6 fo34_7 fo34_8 fo34_9 fo34_10 fo34_11 fo34_12 fo34_13 fo34_14 fo34_15 fo34_16 fo34_17 el38 el42 kd47 sz47 zc47 fp47 fo47_0 fo47_1 kd52 sz52 zc52 fo52_0 el55 zc60 kd72 sz72 zc72 fp72 fo72_0 fo72_1 el73 isStrMap76 zv4 kd80 sz80 kd84 sz84 zc84 fp84 fo84_0 fo84_1 kd88 sz88 zc88 fp88 fo88_0 fo88_1 fo88_2 fo88_3 kd91 sz91 zc91 fp91 fo91_0 fo91_1 fo91_2 el94 kd99 sz99 zc99 fp99 fo99_0 fo99_1 kd100 sz100 el100 kd102 sz102 zc102 fp102 fo102_0 fo102_1 fo102_2 fo102_3 fo102_4 fo102_5 fo102_6 fo102_7 fo102_8 fo102_9 fo102_10 fo102_11 fo102_12 fo102_13 fo102_14 fo102_15 kd109 sz109 zc109 fp109 isStrMap124 zv80 zc127 kd153 sz153 zc153 ar153 isIface157 kd159 sz159 zc159 fp159 isStrMap177 zv84 Tryz.underlying3 Tryz.underlying4 Tryz.underlying5 Tryz.underlying9 Tryz.underlying21 Tryz.underlying22 Tryz.underlying23 Tryz.underlying32 Tryz.underlying38 Tryz.underlying42 Tryz.underlying47 Tryz.underlying55 Tryz.underlying67 Tryz.underlying73 Tryz.underlying80 Tryz.underlying84 Tryz.underlying94 Tryz.underlying100 Tryz.underlying2 Tryz.underlying127 Tryz.underlying60 Tryz.underlying31
theorem cast1 : ((1 : Nat) : Int) = 1 := rfl
theorem nn (n : Nat) : (0 ≤ (n : Int)) = True := by simp
/-- Where a sign is first met. -/
def idx (c : UInt8) : List UInt8 → Option Nat
  | [] => none
  | b :: r => if b = c then some 0 else (idx c r).map (· + 1)
def idxI (c : UInt8) (s : List UInt8) : Int := match idx c s with
  | some n => n
  | none => -1
theorem idx_drop_hit {c : UInt8} {s : List UInt8} {i : Nat} (hi : i < s.length) (h : s.getD i 0 = c) (hno : ∀ j, j < i → s.getD j 0 ≠ c) : idx c s = some i := by
  induction s generalizing i with
  | nil => simp at hi
  | cons b r ih =>
    cases i with
    | zero => simp at h; simp [idx, h]
    | succ i =>
      have h0 := hno 0 (by omega)
      simp at h0
      rw [idx, if_neg h0, ih (by simpa using hi) (by simpa using h) fun j hj => by simpa using hno (j + 1) (by omega)]
      rfl
theorem idx_none {c : UInt8} {s : List UInt8} (hno : ∀ j, j < s.length → s.getD j 0 ≠ c) : idx c s = none := by
  induction s with
  | nil => rfl
  | cons b r ih =>
    have h0 := hno 0 (by simp)
    simp at h0
    rw [idx, if_neg h0, ih fun j hj => by simpa using hno (j + 1) (by simpa using hj)]
    rfl
theorem take_one {s : List UInt8} {i : Nat} (hi : i < s.length) : (s.take (i + 1)).drop i = [s.getD i 0] := by
  rw [List.drop_take, show i + 1 - i = 1 by omega, List.drop_eq_getElem_cons hi, List.getD_eq_getElem?_getD, List.getElem?_eq_getElem hi]
  rfl
theorem zzIndex_A {w0 : World} (s : List UInt8) (c : UInt8) (hs : s.length ≤ 1000000000) (H : Heap) : ACalls Tryz.prog (CB w0) 111 [vS s, vS [c]] H fun r H' => r = vI (idxI c s) ∧ H' = H := by
  refine A_fun (N := 25) (rs := [.tmp 4]) Tryz.func111 rfl rfl rfl (by kernel_rfl) (by kernel_rfl) (Nat.le_of_ble_eq_true rfl) ?_
  rintro e he ⟨g0, g1, -⟩
  simp only [go_sem, Nat.reduceLT, Nat.reduceBEq, Nat.reduceAdd, Int.reduceBEq, Nat.reduceLeDiff, reduceIte, Nat.reduceEqDiff, Int.reduceEq, Int.reduceLE, Int.reduceLT, Int.reduceNe, Nat.reduceMul, Nat.reduceSub, Int.reduceToNat, he, g0, g1]
  refine A_while (s.length + 1) (fun k e h => h = H ∧ len e = 25 ∧ AL.get e 0 = vS s ∧ AL.get e 1 = vS [c] ∧ ∃ i : Nat, AL.get e 5 = vI i ∧ i + k = s.length + 1 ∧ i ≤ s.length ∧ ∀ j, j < i → s.getD j 0 ≠ c) (by kernel_rfl) ?_ ?_
  · simp only [go_sem, Nat.reduceLT, Nat.reduceBEq, Nat.reduceAdd, Int.reduceBEq, Nat.reduceLeDiff, reduceIte, Nat.reduceEqDiff, Int.reduceEq, Int.reduceLE, Int.reduceLT, Int.reduceNe, Nat.reduceMul, Nat.reduceSub, Int.reduceToNat, he, g0, g1]
    exact ⟨0, rfl, by omega, by omega, fun j hj => by omega⟩
  · rintro k e h ⟨rfl, he, g0, g1, i, g5, hik, hi, hno⟩
    have w1 : IntKind.i64.wrap ((i : Int) + 1) = ((i + 1 : Nat) : Int) := by rw [wI64 (by omega)]; rfl
    simp only [go_sem, Nat.reduceLT, Nat.reduceBEq, Nat.reduceAdd, Int.reduceBEq, Nat.reduceLeDiff, reduceIte, Nat.reduceEqDiff, Int.reduceEq, Int.reduceLE, Int.reduceLT, Int.reduceNe, Nat.reduceMul, Nat.reduceSub, Int.reduceToNat, he, g0, g1, g5, cast1, nn, w1]
    refine condK_of (fun hc => ?_) fun hc => ?_
    · have hc := of_decide_eq_true hc
      have hlt : i < s.length := by omega
      simp only [go_sem, Nat.reduceLT, Nat.reduceBEq, Nat.reduceAdd, Int.reduceBEq, Nat.reduceLeDiff, reduceIte, Nat.reduceEqDiff, Int.reduceEq, Int.reduceLE, Int.reduceLT, Int.reduceNe, Nat.reduceMul, Nat.reduceSub, Int.reduceToNat, he, g0, g1, g5, cast1, nn, w1, Int.toNat_natCast, take_one hlt]
      refine ⟨by omega, condK_of (fun hq => ?_) fun hq => ?_⟩
      · have hq : s.getD i 0 = c := by have := of_decide_eq_true hq; simpa using this
        simp only [go_sem, Nat.reduceLT, Nat.reduceBEq, Nat.reduceAdd, Int.reduceBEq, Nat.reduceLeDiff, reduceIte, Nat.reduceEqDiff, Int.reduceEq, Int.reduceLE, Int.reduceLT, Int.reduceNe, Nat.reduceMul, Nat.reduceSub, Int.reduceToNat, he, g0, g1, g5, cast1, nn, w1]
        unfold idxI
        rw [idx_drop_hit hlt hq hno]
      · have hq : s.getD i 0 ≠ c := by have := of_decide_eq_false hq; simpa using this
        simp only [go_sem, Nat.reduceLT, Nat.reduceBEq, Nat.reduceAdd, Int.reduceBEq, Nat.reduceLeDiff, reduceIte, Nat.reduceEqDiff, Int.reduceEq, Int.reduceLE, Int.reduceLT, Int.reduceNe, Nat.reduceMul, Nat.reduceSub, Int.reduceToNat, he, g0, g1, g5, cast1, nn, w1]
        refine ⟨k - 1, by omega, i + 1, rfl, by omega, by omega, fun j hj => ?_⟩
        rcases Nat.lt_or_ge j i with h1 | h1
        · exact hno j h1
        · have : j = i := by omega
          rw [this]; exact hq
    · have hc := of_decide_eq_false hc
      have : i = s.length := by omega
      subst this
      simp only [go_sem, Nat.reduceLT, Nat.reduceBEq, Nat.reduceAdd, Int.reduceBEq, Nat.reduceLeDiff, reduceIte, Nat.reduceEqDiff, Int.reduceEq, Int.reduceLE, Int.reduceLT, Int.reduceNe, Nat.reduceMul, Nat.reduceSub, Int.reduceToNat, he, g0, g1, g5, cast1, nn, w1]
      unfold idxI
      rw [idx_none hno]
/-- A slice of texts that grows: none yet, or one of the call's own. -/
def OutN (H h : Heap) (x : AV) (l : List (List UInt8)) : Prop := (x = .val (.slice none 0 0) ∧ l = [] ∧ ∃ G, h = H ++ G) ∨ OutAt H h x l
theorem OutN.push {H h : Heap} {x : AV} {l : List (List UInt8)} (hO : OutN H h x l) (s : List UInt8) (hl : l.length ≤ 100000000) : ∃ x' h', appendA Tryz.prog 42 x (.sl true h.length 0 1 1) (h ++ [AObj.own 9 [vS s]]) = some (x', h') ∧ OutAt H h' x' (l ++ [s]) ∧ ∀ (p : Nat) (y : AObj), h[p]? = some y → (∀ cs, y ≠ AObj.own 9 cs) → h'[p]? = some y := by
  rcases hO with ⟨rfl, rfl, G, rfl⟩ | hO
  · refine ⟨.sl true (H ++ G ++ [AObj.own 9 [vS s]]).length 0 1 1, (H ++ G ++ [AObj.own 9 [vS s]]) ++ [.own 9 [vS s]], ?_, ⟨⟨G ++ [AObj.own 9 [vS s]] ++ [.own 9 [vS s]], by simp only [List.append_assoc]⟩, _, rfl, by rw [heap_get0]; rfl, by simp only [List.length_append]; omega⟩, fun p y hp _ => get_more (get_more hp)⟩
    have h1 : cellsOf (H ++ G ++ [AObj.own 9 [vS s]]) (H ++ G).length = some [vS s] := by unfold cellsOf; rw [heap_get0]; rfl
    unfold appendA
    rw [el42]
    simp only [h1]
    rw [if_pos ⟨by simp, trivial, by rfl⟩]
    rfl
  · exact hO.push s hl
/-- A text cut at a sign. -/
def splitN (c : UInt8) : Nat → List UInt8 → List (List UInt8)
  | 0, s => [s]
  | k + 1, s => match idx c s with
    | none => [s]
    | some i => s.take i :: splitN c k (s.drop (i + 1))
def split (c : UInt8) (s : List UInt8) : List (List UInt8) := splitN c (s.length + 1) s
theorem idx_lt {c : UInt8} : ∀ {s : List UInt8} {i : Nat}, idx c s = some i → i < s.length
  | [], _, h => by simp [idx] at h
  | b :: r, i, h => by
    unfold idx at h
    split at h
    · simp at h; subst h; simp
    · obtain ⟨j, h1, rfl⟩ := Option.map_eq_some_iff.1 h
      have := idx_lt h1
      simp; omega
theorem zzSplit_A {w0 : World} (s : List UInt8) (c : UInt8) (hs : s.length ≤ 1000000) (H : Heap) : ACalls Tryz.prog (CB w0) 84 [vS s, vS [c]] H fun r H' => OutAt H H' r (split c s) := by
  refine A_fun (N := 58) (rs := [.tmp 4]) Tryz.func84 rfl rfl rfl (by kernel_rfl) (by kernel_rfl) (Nat.le_of_ble_eq_true rfl) ?_
  rintro e he ⟨g0, g1, -⟩
  simp only [go_sem, Nat.reduceLT, Nat.reduceBEq, Nat.reduceAdd, Int.reduceBEq, Nat.reduceLeDiff, reduceIte, Nat.reduceEqDiff, Int.reduceEq, Int.reduceLE, Int.reduceLT, Int.reduceNe, Nat.reduceMul, Nat.reduceSub, Int.reduceToNat, he, g0, g1, cast1, Int.reduceEq]
  refine A_while (s.length + 1) (fun k e h => len e = 58 ∧ AL.get e 1 = vS [c] ∧ ∃ cur x l, AL.get e 0 = vS cur ∧ AL.get e 5 = x ∧ OutN H h x l ∧ l ++ splitN c k cur = split c s ∧ cur.length + 1 ≤ k ∧ l.length + k ≤ s.length + 1) (by kernel_rfl) ?_ ?_
  · simp only [go_sem, Nat.reduceLT, Nat.reduceBEq, Nat.reduceAdd, Int.reduceBEq, Nat.reduceLeDiff, reduceIte, Nat.reduceEqDiff, Int.reduceEq, Int.reduceLE, Int.reduceLT, Int.reduceNe, Nat.reduceMul, Nat.reduceSub, Int.reduceToNat, he, g0, g1]
    exact ⟨s, _, [], rfl, rfl, .inl ⟨rfl, rfl, [], (List.append_nil _).symm⟩, rfl, by omega, by simp⟩
  · rintro k e h ⟨he, g1, cur, x, l, g0, g5, hO, hk, hck, hlk⟩
    simp only [go_sem, Nat.reduceLT, Nat.reduceBEq, Nat.reduceAdd, Int.reduceBEq, Nat.reduceLeDiff, reduceIte, Nat.reduceEqDiff, Int.reduceEq, Int.reduceLE, Int.reduceLT, Int.reduceNe, Nat.reduceMul, Nat.reduceSub, Int.reduceToNat, he, g0, g1, g5]
    refine callX_of (zzIndex_A cur c (by omega) _) (List.prefix_refl _) ?_
    simp only [go_sem, Nat.reduceLT, Nat.reduceBEq, Nat.reduceAdd, Int.reduceBEq, Nat.reduceLeDiff, reduceIte, Nat.reduceEqDiff, Int.reduceEq, Int.reduceLE, Int.reduceLT, Int.reduceNe, Nat.reduceMul, Nat.reduceSub, Int.reduceToNat, he, g0, g1, g5, setD_some]
    cases hi : idx c cur with
    | none =>
      have hd : decide ((-1 : Int) < 0) = true := rfl
      have hpush := hO.push cur (by omega)
      obtain ⟨x2, h2, ha, hO2, -⟩ := hpush
      obtain ⟨m, rfl⟩ : ∃ m, k = m + 1 := ⟨k - 1, by omega⟩
      rw [splitN, hi] at hk
      simp only [idxI, hi, hd, go_sem, Nat.reduceLT, Nat.reduceBEq, Nat.reduceAdd, Int.reduceBEq, Nat.reduceLeDiff, reduceIte, Nat.reduceEqDiff, Int.reduceEq, Int.reduceLE, Int.reduceLT, Int.reduceNe, Nat.reduceMul, Nat.reduceSub, Int.reduceToNat, he, g0, g1, g5] at ha ⊢
      rw [ha]
      simp only [go_sem, Nat.reduceLT, Nat.reduceBEq, Nat.reduceAdd, Int.reduceBEq, Nat.reduceLeDiff, reduceIte, Nat.reduceEqDiff, Int.reduceEq, Int.reduceLE, Int.reduceLT, Int.reduceNe, Nat.reduceMul, Nat.reduceSub, Int.reduceToNat, he]
      rw [← hk]
      exact hO2
    | some i =>
      have hd : decide ((i : Int) < 0) = false := decide_eq_false (by omega)
      have hlt := idx_lt hi
      have hpush := hO.push (cur.take i) (by omega)
      obtain ⟨x2, h2, ha, hO2, -⟩ := hpush
      obtain ⟨m, rfl⟩ : ∃ m, k = m + 1 := ⟨k - 1, by omega⟩
      rw [splitN, hi] at hk
      have w1 : IntKind.i64.wrap ((i : Int) + 1) = ((i + 1 : Nat) : Int) := by rw [wI64 (by omega)]; rfl
      simp only [idxI, hi, hd, cast1, nn, Int.toNat_natCast, w1, go_sem, Nat.reduceLT, Nat.reduceBEq, Nat.reduceAdd, Int.reduceBEq, Nat.reduceLeDiff, reduceIte, Nat.reduceEqDiff, Int.reduceEq, Int.reduceLE, Int.reduceLT, Int.reduceNe, Nat.reduceMul, Nat.reduceSub, Int.reduceToNat, he, g0, g1, g5] at ha ⊢
      refine ⟨by omega, ?_⟩
      rw [ha]
      simp only [cast1, nn, Int.toNat_natCast, w1, go_sem, Nat.reduceLT, Nat.reduceBEq, Nat.reduceAdd, Int.reduceBEq, Nat.reduceLeDiff, reduceIte, Nat.reduceEqDiff, Int.reduceEq, Int.reduceLE, Int.reduceLT, Int.reduceNe, Nat.reduceMul, Nat.reduceSub, Int.reduceToNat, he, g0, g1]
      rw [List.take_length]
      refine ⟨by omega, m, by omega, _, _, l ++ [cur.take i], rfl, rfl, .inr hO2, ?_, ?_, ?_⟩
      · rw [← hk, List.append_assoc]; rfl
      · rw [List.length_drop]; omega
      · rw [List.length_append, List.length_cons, List.length_nil]; omega
end Go.Proofs.YtlfpjdcogkcjlaaGreatDoor.F
