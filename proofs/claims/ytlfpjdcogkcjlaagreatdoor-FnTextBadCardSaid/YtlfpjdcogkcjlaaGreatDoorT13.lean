/- Dates out of texts. -/
import Derived.Test.YtlfpjdcogkcjlaaGreatDoorT12
namespace Go.Proofs.YtlfpjdcogkcjlaaGreatDoor.F
open Go.RowKit Go.Proofs.YtlfpjdcogkcjlaaGreatDoor.AL Go.Proofs.YtlfpjdcogkcjlaaGreatDoor.B
set_option linter.unusedVariables false
set_option linter.unusedSimpArgs false
set_option maxRecDepth 20000
attribute [local irreducible] aops acode bindK bindV bindH callX callK condK guardK Kseq Kblk Knorm Kfun Kloop Kjoin outK AWp appendA
attribute [local go_sem] acode_skip acode_seq acode_region acode_cond acode_block acode_exit acode_ret acode_loop Kseq_normal Kseq_exit Kseq_ret Kblk_normal Kblk_ret Kblk_eq Kblk_ne Knorm_eq Kloop_normal Kloop_exit Kloop_ret Kjoin_normal Kjoin_exit Kjoin_ret condK_true condK_false bindK_put bindV_put bindK_no bindV_no bindH_no aops_nil gops wantK_some wantV_bool wantV_undef guardK_true guardK_false guardK_none aops_move aops_assign aops_pick aops_nilCheck aops_binOp aops_unOp aops_convert aops_fieldAddr aops_indexAddr aops_slice aops_index aops_extract aops_makeInterface aops_makeFunc aops_build aops_load aops_lookup aops_alloc aops_box aops_buildSlice aops_makeSlice aops_makeMap aops_store aops_insert aops_mapUpdate aops_len aops_append aops_call opA_tmp opA_const opA_global opA_func get_mk look_nil look_eq look_ne len_mk List.map_cons List.map_nil Option.map_some Option.map_none bin_add bin_sub bin_mul bin_quo bin_rem bin_eql bin_neq bin_lss bin_leq bin_gtr bin_geq bin_cat bin_seql bin_sneq bin_neq_ifc bin_eql_ifc bin_neq_nn bin_eql_nn bin_neq_ptr bin_eql_ptr bin_neq_pn isIfc_true isPtr_true bin_eql2 bin_neq2 aops_max max_int un_not un_neg lenA_K lenK_str lenK_nil lenK_sl lenK_array pick_bool pick_val bindV_ite bindK_ite bindH_ite slotV_sl slotK_some slotV_ptr slotR_some sliceV_sl cutK_some sliceV_str cutS_some bound_none bound_some indexA_str atS_some mkS fieldV_ptr loadV_ptr cellsK_ro cellsK_own loadK_one loadK_many storeA_ptr storeK_own allocA_some heap_len heap_get0 heap_get heap_set0 heap_set Kfun_ret Kfun_normal resA_nil resA_tmp resA_cell outK_some packA_one packA_nil packA_two List.length_cons List.length_nil List.getElem?_cons_zero List.getElem?_cons_succ List.set_cons_zero List.set_cons_succ List.cons_append List.nil_append List.append_assoc Nat.zero_add Nat.add_zero List.all_cons List.all_nil Value.oneCell' Bool.and_true Bool.and_self if_true if_false Bool.false_eq_true partsA buildV buildA fillA Option.bind_some putCells List.drop_succ_cons List.drop_zero List.take_succ_cons List.take_zero List.take_nil List.drop_nil and_self and_true true_and Option.some.injEq ne_eq not_false_eq_true Option.map_map List.getElem?_toArray beq_self_eq_true Bool.true_beq Bool.false_beq Bool.not_true Bool.not_false decide_true decide_false beq_true Nat.mul_one Nat.one_mul Nat.zero_mul bsA buildSliceA zerosN List.append_nil Int.toNat_natCast Int.toNat_zero boxA one_val one_ptr one_sl one_mp one_ifc one_fn avCells_agg avCells_val valCells_true valCells_agg avCells_ptr avCells_sl avCells_mp avCells_ifc avCells_fn app_cons app_nil lookupA insertA ifaceV extractA kd2 ars127 fp127 ars60 fp60 ars31 fp31 eq2_99 eq2_84 eq2_47 fp52 sz2 kd3 sz3 kd4 sz4 kd5 sz5 kd9 sz9 kd22 sz22 el22 kd23 sz23 el23 kd25 sz25 zc25 fp25 fo25_0 fo25_1 fo25_2 fo25_3 fo25_4 fo25_5 fo25_6 fo25_7 fo25_8 fo25_9 fo25_10 fo25_11 fo25_12 fo25_13 fo25_14 fo25_15 fo25_16 fo25_17 kd31 sz31 zc31 ar31 kd32 sz32 el32 kd34 sz34 zc34 fp34 fo34_0 fo34_1 fo34_2 fo34_3 fo34_4 fo34_5 fo34_6 fo34_7 fo34_8 fo34_9 fo34_10 fo34_11 fo34_12 fo34_13 fo34_14 fo34_15 fo34_16 fo34_17 el38 el42 kd47 sz47 zc47 fp47 fo47_0 fo47_1 kd52 sz52 zc52 fo52_0 el55 zc60 kd72 sz72 zc72 fp72 fo72_0 fo72_1 el73 isStrMap76 zv4 kd80 sz80 kd84 sz84 zc84 fp84 fo84_0 fo84_1 kd88 sz88 zc88 fp88 fo88_0 fo88_1 fo88_2 fo88_3 kd91 sz91 zc91 fp91 fo91_0 fo91_1 fo91_2 el94 kd99 sz99 zc99 fp99 fo99_0 fo99_1 kd100 sz100 el100 kd102 sz102 zc102 fp102 fo102_0 fo102_1 fo102_2 fo102_3 fo102_4 fo102_5 fo102_6 fo102_7 fo102_8 fo102_9 fo102_10 fo102_11 fo102_12 fo102_13 fo102_14 fo102_15 kd109 sz109 zc109 fp109 isStrMap124 zv80 zc127 kd153 sz153 zc153 ar153 isIface157 kd159 sz159 zc159 fp159 isStrMap177 zv84 Tryz.underlying3 Tryz.underlying4 Tryz.underlying5 Tryz.underlying9 Tryz.underlying21 Tryz.underlying22 Tryz.underlying23 Tryz.underlying32 Tryz.underlying38 Tryz.underlying42 Tryz.underlying47 Tryz.underlying55 Tryz.underlying67 Tryz.underlying73 Tryz.underlying80 Tryz.underlying84 Tryz.underlying94 Tryz.underlying100 Tryz.underlying2 Tryz.underlying127 Tryz.underlying60 Tryz.underlying31
theorem zDigits_spec {s r : List UInt8} {n : Nat} {v : Int} (h : zDigits s n = some (v, r)) : 0 ≤ v ∧ v ≤ 10 ^ n - 1 ∧ r = s.drop n ∧ n ≤ s.length := by
  unfold zDigits at h
  split at h
  · cases h
  · split at h
    · rename_i h1 h2
      simp only [Option.some.injEq, Prod.mk.injEq] at h
      obtain ⟨rfl, rfl⟩ := h
      have := digFold_le n (s.take n) (by rw [List.length_take]; omega) h2
      exact ⟨this.1, this.2, rfl, by omega⟩
    · cases h
def zEnd (lay : List UInt8) (y mo d h mi sc : Int) (s : List UInt8) : Option Int :=
  if s ≠ lay then none else if d < 1 then none else if monthDays y mo < d then none else some (dateSec y mo d h mi sc)
def zTime (lay : List UInt8) (y mo d : Int) (s : List UInt8) : Option Int :=
  if s.length = 0 then none else if (s.getD 0 0).toNat ≠ 84 then none else
  (zDigits (s.drop 1) 2).bind fun (h, s) => if 23 < h then none else
  (zDigits s 2).bind fun (mi, s) => if 59 < mi then none else
  (zDigits s 2).bind fun (sc, s) => if 59 < sc then none else zEnd (lay.drop 7) y mo d h mi sc s
/-- A moment out of a text by what stands in the layout behind the day. -/
def zParse (lay s : List UInt8) : Option Int :=
  (zDigits s 4).bind fun (y, s) => (zDigits s 2).bind fun (mo, s) => if mo < 1 then none else if 12 < mo then none else
  (zDigits s 2).bind fun (d, s) => if lay = [] then zEnd [] y mo d 0 0 0 s else zTime lay y mo d s
def optE {α : Type} : Option α → Except Nat α
  | some a => .ok a
  | none => .error 157
abbrev vT (t : Int) : AV := .agg [vI t, vI 0]
def zParseR (lay s : List UInt8) : AV := exR vT (vT 0) (optE (zParse lay s))
def NoFrac (s : List UInt8) : Prop := ∀ c ∈ s, c.toNat ≠ 46 ∧ c.toNat ≠ 44
theorem NoFrac.drop {s : List UInt8} (h : NoFrac s) (n : Nat) : NoFrac (s.drop n) := fun c hc => h c (List.mem_of_mem_drop hc)
theorem decide_cases {p : Prop} [Decidable p] {Q : Bool → Prop} (h1 : p → Q true) (h2 : ¬ p → Q false) : Q (decide p) := by
  by_cases h : p
  · rw [decide_eq_true h]; exact h1 h
  · rw [decide_eq_false h]; exact h2 h
theorem zParse_A {w0 : World} (lay s : List UInt8) (hl : 8 ≤ lay.length ∧ (lay.length = 8 ∨ 15 ≤ lay.length)) (hs : s.length ≤ 1000000) (hf : NoFrac s) (H : Heap) : ACalls Tryz.prog (CB w0) 116 [vS lay, vS s] H fun r H' => r = zParseR (lay.drop 8) s ∧ H' = H := by
  refine ACalls.flat (exR_flat _ rfl fun _ => rfl) ?_
  refine A_fun (N := 195) (rs := [.cell 4 99, .tmp 5]) Tryz.func116 rfl rfl rfl (by kernel_rfl) (by kernel_rfl) (Nat.le_of_ble_eq_true rfl) ?_
  rintro e he ⟨g0, g1, -⟩
  simp only [go_sem, Nat.reduceLT, Nat.reduceBEq, Nat.reduceAdd, Int.reduceBEq, Nat.reduceLeDiff, reduceIte, Nat.reduceEqDiff, Int.reduceEq, Int.reduceLE, Int.reduceLT, Int.reduceNe, Nat.reduceMul, Nat.reduceSub, Int.reduceToNat, he, g0, g1]
  refine callX_of (errorsNew_A _ _) (List.prefix_refl _) ?_
  simp only [go_sem, Nat.reduceLT, Nat.reduceBEq, Nat.reduceAdd, Int.reduceBEq, Nat.reduceLeDiff, reduceIte, Nat.reduceEqDiff, Int.reduceEq, Int.reduceLE, Int.reduceLT, Int.reduceNe, Nat.reduceMul, Nat.reduceSub, Int.reduceToNat, he, g0, g1, setD_some]
  refine callX_of (zdigits_A s 4 hs (by omega) _) (List.prefix_refl _) ?_
  unfold zDigitsR zParseR zParse
  cases hd1 : zDigits s 4 with
  | none =>
    simp only [go_sem, Nat.reduceLT, Nat.reduceBEq, Nat.reduceAdd, Int.reduceBEq, Nat.reduceLeDiff, reduceIte, Nat.reduceEqDiff, Int.reduceEq, Int.reduceLE, Int.reduceLT, Int.reduceNe, Nat.reduceMul, Nat.reduceSub, Int.reduceToNat, he, g0, g1, setD_some]
    exact ⟨rfl, _, rfl⟩
  | some p1 =>
  obtain ⟨y, s1⟩ := p1
  obtain ⟨y0, y1, es1, hs1⟩ := zDigits_spec hd1
  have hf1 : NoFrac s1 := es1 ▸ hf.drop _
  have hl1 : s1.length ≤ 1000000 := by rw [es1, List.length_drop]; omega
  simp only [go_sem, Nat.reduceLT, Nat.reduceBEq, Nat.reduceAdd, Int.reduceBEq, Nat.reduceLeDiff, reduceIte, Nat.reduceEqDiff, Int.reduceEq, Int.reduceLE, Int.reduceLT, Int.reduceNe, Nat.reduceMul, Nat.reduceSub, Int.reduceToNat, he, g0, g1, setD_some]
  refine callX_of (zdigits_A s1 2 hl1 (by omega) _) (List.prefix_refl _) ?_
  unfold zDigitsR
  cases hd2 : zDigits s1 2 with
  | none =>
    simp only [go_sem, Nat.reduceLT, Nat.reduceBEq, Nat.reduceAdd, Int.reduceBEq, Nat.reduceLeDiff, reduceIte, Nat.reduceEqDiff, Int.reduceEq, Int.reduceLE, Int.reduceLT, Int.reduceNe, Nat.reduceMul, Nat.reduceSub, Int.reduceToNat, he, g0, g1, setD_some]
    exact ⟨rfl, _, rfl⟩
  | some p2 =>
  obtain ⟨mo, s2⟩ := p2
  obtain ⟨mo0, mo1, es2, hs2⟩ := zDigits_spec hd2
  have hf2 : NoFrac s2 := es2 ▸ hf1.drop _
  have hl2 : s2.length ≤ 1000000 := by rw [es2, List.length_drop]; omega
  by_cases c1 : mo < 1
  · have d1 := decide_eq_true c1
    simp only [go_sem, Nat.reduceLT, Nat.reduceBEq, Nat.reduceAdd, Int.reduceBEq, Nat.reduceLeDiff, reduceIte, Nat.reduceEqDiff, Int.reduceEq, Int.reduceLE, Int.reduceLT, Int.reduceNe, Nat.reduceMul, Nat.reduceSub, Int.reduceToNat, he, g0, g1, setD_some, d1, c1]
    exact ⟨rfl, _, rfl⟩
  have d1 := decide_eq_false c1
  by_cases c2 : 12 < mo
  · have d2 := decide_eq_true c2
    simp only [go_sem, Nat.reduceLT, Nat.reduceBEq, Nat.reduceAdd, Int.reduceBEq, Nat.reduceLeDiff, reduceIte, Nat.reduceEqDiff, Int.reduceEq, Int.reduceLE, Int.reduceLT, Int.reduceNe, Nat.reduceMul, Nat.reduceSub, Int.reduceToNat, he, g0, g1, setD_some, d1, c1, d2, c2]
    exact ⟨rfl, _, rfl⟩
  have d2 := decide_eq_false c2
  simp only [go_sem, Nat.reduceLT, Nat.reduceBEq, Nat.reduceAdd, Int.reduceBEq, Nat.reduceLeDiff, reduceIte, Nat.reduceEqDiff, Int.reduceEq, Int.reduceLE, Int.reduceLT, Int.reduceNe, Nat.reduceMul, Nat.reduceSub, Int.reduceToNat, he, g0, g1, setD_some, d1, d2, c1, c2]
  refine callX_of (zdigits_A s2 2 hl2 (by omega) _) (List.prefix_refl _) ?_
  unfold zDigitsR
  cases hd3 : zDigits s2 2 with
  | none =>
    simp only [go_sem, Nat.reduceLT, Nat.reduceBEq, Nat.reduceAdd, Int.reduceBEq, Nat.reduceLeDiff, reduceIte, Nat.reduceEqDiff, Int.reduceEq, Int.reduceLE, Int.reduceLT, Int.reduceNe, Nat.reduceMul, Nat.reduceSub, Int.reduceToNat, he, g0, g1, setD_some]
    exact ⟨rfl, _, rfl⟩
  | some p3 =>
  obtain ⟨d, s3⟩ := p3
  obtain ⟨dd0, dd1, es3, hs3⟩ := zDigits_spec hd3
  have hf3 : NoFrac s3 := es3 ▸ hf2.drop _
  have hl3 : s3.length ≤ 1000000 := by rw [es3, List.length_drop]; omega
  have hL : lay.drop 8 = [] ∨ 7 ≤ (lay.drop 8).length := by
    rcases hl.2 with h | h
    · left; exact List.drop_eq_nil_of_le (by omega)
    · right; rw [List.length_drop]; omega
  have hy9 : y ≤ 9999 := by omega
  have hd9 : d ≤ 99 := by omega
  clear hs hf hs1 hs2 hs3 es1 es2 es3 y1 dd1 hd1 hd2 hd3 hf1 hf2 hl1 hl2
  by_cases c3 : lay.drop 8 = []
  · have d3 := decide_eq_true c3
    simp only [go_sem, Nat.reduceLT, Nat.reduceBEq, Nat.reduceAdd, Int.reduceBEq, Nat.reduceLeDiff, reduceIte, Nat.reduceEqDiff, Int.reduceEq, Int.reduceLE, Int.reduceLT, Int.reduceNe, Nat.reduceMul, Nat.reduceSub, Int.reduceToNat, he, g0, g1, setD_some, List.take_length, d3, c3, hl.1]
    unfold zEnd
    by_cases k1 : s3 ≠ []
    · have e1 := decide_eq_false k1
      rw [if_pos k1]
      simp only [go_sem, Nat.reduceLT, Nat.reduceBEq, Nat.reduceAdd, Int.reduceBEq, Nat.reduceLeDiff, reduceIte, Nat.reduceEqDiff, Int.reduceEq, Int.reduceLE, Int.reduceLT, Int.reduceNe, Nat.reduceMul, Nat.reduceSub, Int.reduceToNat, he, g0, g1, e1]
      exact ⟨Nat.le_refl _, rfl, _, rfl⟩
    have k1 : s3 = [] := Classical.not_not.1 k1
    have e1 := decide_eq_true k1
    rw [if_neg (fun h => h k1)]
    by_cases k2 : d < 1
    · have e2 := decide_eq_true k2
      rw [if_pos k2]
      simp only [go_sem, Nat.reduceLT, Nat.reduceBEq, Nat.reduceAdd, Int.reduceBEq, Nat.reduceLeDiff, reduceIte, Nat.reduceEqDiff, Int.reduceEq, Int.reduceLE, Int.reduceLT, Int.reduceNe, Nat.reduceMul, Nat.reduceSub, Int.reduceToNat, he, g0, g1, e1, e2]
      exact ⟨Nat.le_refl _, rfl, _, rfl⟩
    have e2 := decide_eq_false k2
    rw [if_neg k2]
    simp only [go_sem, Nat.reduceLT, Nat.reduceBEq, Nat.reduceAdd, Int.reduceBEq, Nat.reduceLeDiff, reduceIte, Nat.reduceEqDiff, Int.reduceEq, Int.reduceLE, Int.reduceLT, Int.reduceNe, Nat.reduceMul, Nat.reduceSub, Int.reduceToNat, he, g0, g1, e1, e2]
    refine ⟨Nat.le_refl _, callX_of (zmonthDays_A y mo y0 _) (List.prefix_refl _) ?_⟩
    by_cases k3 : monthDays y mo < d
    · have e3 := decide_eq_true k3
      rw [if_pos k3]
      simp only [go_sem, Nat.reduceLT, Nat.reduceBEq, Nat.reduceAdd, Int.reduceBEq, Nat.reduceLeDiff, reduceIte, Nat.reduceEqDiff, Int.reduceEq, Int.reduceLE, Int.reduceLT, Int.reduceNe, Nat.reduceMul, Nat.reduceSub, Int.reduceToNat, he, g0, g1, e3, setD_some]
      exact ⟨rfl, _, rfl⟩
    have e3 := decide_eq_false k3
    rw [if_neg k3]
    simp only [go_sem, Nat.reduceLT, Nat.reduceBEq, Nat.reduceAdd, Int.reduceBEq, Nat.reduceLeDiff, reduceIte, Nat.reduceEqDiff, Int.reduceEq, Int.reduceLE, Int.reduceLT, Int.reduceNe, Nat.reduceMul, Nat.reduceSub, Int.reduceToNat, he, g0, g1, e3, setD_some]
    refine callX_of (zDate_A _ _ _ _ _ _ _ ⟨by omega, by omega, by omega, by omega, by omega, by omega, by omega⟩ _ rfl _) (List.prefix_refl _) ?_
    simp only [go_sem, Nat.reduceLT, Nat.reduceBEq, Nat.reduceAdd, Int.reduceBEq, Nat.reduceLeDiff, reduceIte, Nat.reduceEqDiff, Int.reduceEq, Int.reduceLE, Int.reduceLT, Int.reduceNe, Nat.reduceMul, Nat.reduceSub, Int.reduceToNat, he, g0, g1, setD_some]
    exact ⟨rfl, _, rfl⟩
  have d3 := decide_eq_false c3
  have hL7 : 7 ≤ (lay.drop 8).length := hL.resolve_left c3
  simp only [go_sem, Nat.reduceLT, Nat.reduceBEq, Nat.reduceAdd, Int.reduceBEq, Nat.reduceLeDiff, reduceIte, Nat.reduceEqDiff, Int.reduceEq, Int.reduceLE, Int.reduceLT, Int.reduceNe, Nat.reduceMul, Nat.reduceSub, Int.reduceToNat, he, g0, g1, setD_some, List.take_length, d3, c3, hl.1]
  generalize lay.drop 8 = L at *
  unfold zTime
  by_cases c4 : s3.length = 0
  · have d4 : decide ((s3.length : Int) = 0) = true := decide_eq_true (by omega)
    rw [if_pos c4]
    simp only [go_sem, Nat.reduceLT, Nat.reduceBEq, Nat.reduceAdd, Int.reduceBEq, Nat.reduceLeDiff, reduceIte, Nat.reduceEqDiff, Int.reduceEq, Int.reduceLE, Int.reduceLT, Int.reduceNe, Nat.reduceMul, Nat.reduceSub, Int.reduceToNat, he, g0, g1, d4]
    exact ⟨by omega, rfl, _, rfl⟩
  have d4 : decide ((s3.length : Int) = 0) = false := decide_eq_false (by omega)
  rw [if_neg c4]
  simp only [go_sem, Nat.reduceLT, Nat.reduceBEq, Nat.reduceAdd, Int.reduceBEq, Nat.reduceLeDiff, reduceIte, Nat.reduceEqDiff, Int.reduceEq, Int.reduceLE, Int.reduceLT, Int.reduceNe, Nat.reduceMul, Nat.reduceSub, Int.reduceToNat, he, g0, g1, d4]
  refine ⟨by omega, by omega, ?_⟩
  generalize hT : s3.getD 0 0 = T at *
  by_cases c5 : ¬ T.toNat = 84
  · have d5 : decide ((T.toNat : Int) = 84) = false := decide_eq_false (by omega)
    rw [if_pos c5]
    simp only [go_sem, Nat.reduceLT, Nat.reduceBEq, Nat.reduceAdd, Int.reduceBEq, Nat.reduceLeDiff, reduceIte, Nat.reduceEqDiff, Int.reduceEq, Int.reduceLE, Int.reduceLT, Int.reduceNe, Nat.reduceMul, Nat.reduceSub, Int.reduceToNat, he, g0, g1, d5]
    exact ⟨rfl, _, rfl⟩
  have c5 : T.toNat = 84 := Classical.not_not.1 c5
  have d5 : decide ((T.toNat : Int) = 84) = true := decide_eq_true (by omega)
  rw [if_neg (by omega)]
  simp only [go_sem, Nat.reduceLT, Nat.reduceBEq, Nat.reduceAdd, Int.reduceBEq, Nat.reduceLeDiff, reduceIte, Nat.reduceEqDiff, Int.reduceEq, Int.reduceLE, Int.reduceLT, Int.reduceNe, Nat.reduceMul, Nat.reduceSub, Int.reduceToNat, he, g0, g1, d5, List.take_length]
  refine ⟨by omega, ?_⟩
  have hf3' : NoFrac (s3.drop 1) := hf3.drop _
  have hl3' : (s3.drop 1).length ≤ 1000000 := by rw [List.length_drop]; omega
  generalize s3.drop 1 = s4 at *
  clear hT c4 c5 d4 d5 hf3 hl3
  refine callX_of (zdigits_A s4 2 hl3' (by omega) _) (List.prefix_refl _) ?_
  unfold zDigitsR
  cases hd4 : zDigits s4 2 with
  | none =>
    simp only [go_sem, Nat.reduceLT, Nat.reduceBEq, Nat.reduceAdd, Int.reduceBEq, Nat.reduceLeDiff, reduceIte, Nat.reduceEqDiff, Int.reduceEq, Int.reduceLE, Int.reduceLT, Int.reduceNe, Nat.reduceMul, Nat.reduceSub, Int.reduceToNat, he, g0, g1, setD_some]
    exact ⟨rfl, _, rfl⟩
  | some p4 =>
  obtain ⟨h, s5⟩ := p4
  obtain ⟨h0, h1, es5, hs5⟩ := zDigits_spec hd4
  have hf5 : NoFrac s5 := es5 ▸ hf3'.drop _
  have hl5 : s5.length ≤ 1000000 := by rw [es5, List.length_drop]; omega
  by_cases c6 : 23 < h
  · have d6 := decide_eq_true c6
    simp only [go_sem, Nat.reduceLT, Nat.reduceBEq, Nat.reduceAdd, Int.reduceBEq, Nat.reduceLeDiff, reduceIte, Nat.reduceEqDiff, Int.reduceEq, Int.reduceLE, Int.reduceLT, Int.reduceNe, Nat.reduceMul, Nat.reduceSub, Int.reduceToNat, he, g0, g1, setD_some, d6, c6]
    exact ⟨rfl, _, rfl⟩
  have d6 := decide_eq_false c6
  simp only [go_sem, Nat.reduceLT, Nat.reduceBEq, Nat.reduceAdd, Int.reduceBEq, Nat.reduceLeDiff, reduceIte, Nat.reduceEqDiff, Int.reduceEq, Int.reduceLE, Int.reduceLT, Int.reduceNe, Nat.reduceMul, Nat.reduceSub, Int.reduceToNat, he, g0, g1, setD_some, d6, c6]
  refine callX_of (zdigits_A s5 2 hl5 (by omega) _) (List.prefix_refl _) ?_
  unfold zDigitsR
  cases hd5 : zDigits s5 2 with
  | none =>
    simp only [go_sem, Nat.reduceLT, Nat.reduceBEq, Nat.reduceAdd, Int.reduceBEq, Nat.reduceLeDiff, reduceIte, Nat.reduceEqDiff, Int.reduceEq, Int.reduceLE, Int.reduceLT, Int.reduceNe, Nat.reduceMul, Nat.reduceSub, Int.reduceToNat, he, g0, g1, setD_some]
    exact ⟨rfl, _, rfl⟩
  | some p5 =>
  obtain ⟨mi, s6⟩ := p5
  obtain ⟨mi0, mi1, es6, hs6⟩ := zDigits_spec hd5
  have hf6 : NoFrac s6 := es6 ▸ hf5.drop _
  have hl6 : s6.length ≤ 1000000 := by rw [es6, List.length_drop]; omega
  by_cases c7 : 59 < mi
  · have d7 := decide_eq_true c7
    simp only [go_sem, Nat.reduceLT, Nat.reduceBEq, Nat.reduceAdd, Int.reduceBEq, Nat.reduceLeDiff, reduceIte, Nat.reduceEqDiff, Int.reduceEq, Int.reduceLE, Int.reduceLT, Int.reduceNe, Nat.reduceMul, Nat.reduceSub, Int.reduceToNat, he, g0, g1, setD_some, d7, c7]
    exact ⟨rfl, _, rfl⟩
  have d7 := decide_eq_false c7
  simp only [go_sem, Nat.reduceLT, Nat.reduceBEq, Nat.reduceAdd, Int.reduceBEq, Nat.reduceLeDiff, reduceIte, Nat.reduceEqDiff, Int.reduceEq, Int.reduceLE, Int.reduceLT, Int.reduceNe, Nat.reduceMul, Nat.reduceSub, Int.reduceToNat, he, g0, g1, setD_some, d7, c7]
  refine callX_of (zdigits_A s6 2 hl6 (by omega) _) (List.prefix_refl _) ?_
  unfold zDigitsR
  cases hd6 : zDigits s6 2 with
  | none =>
    simp only [go_sem, Nat.reduceLT, Nat.reduceBEq, Nat.reduceAdd, Int.reduceBEq, Nat.reduceLeDiff, reduceIte, Nat.reduceEqDiff, Int.reduceEq, Int.reduceLE, Int.reduceLT, Int.reduceNe, Nat.reduceMul, Nat.reduceSub, Int.reduceToNat, he, g0, g1, setD_some]
    exact ⟨rfl, _, rfl⟩
  | some p6 =>
  obtain ⟨sc, s7⟩ := p6
  obtain ⟨sc0, sc1, es7, hs7⟩ := zDigits_spec hd6
  have hf7 : NoFrac s7 := es7 ▸ hf6.drop _
  have hl7 : s7.length ≤ 1000000 := by rw [es7, List.length_drop]; omega
  by_cases c8 : 59 < sc
  · have d8 := decide_eq_true c8
    simp only [go_sem, Nat.reduceLT, Nat.reduceBEq, Nat.reduceAdd, Int.reduceBEq, Nat.reduceLeDiff, reduceIte, Nat.reduceEqDiff, Int.reduceEq, Int.reduceLE, Int.reduceLT, Int.reduceNe, Nat.reduceMul, Nat.reduceSub, Int.reduceToNat, he, g0, g1, setD_some, d8, c8]
    exact ⟨rfl, _, rfl⟩
  have d8 := decide_eq_false c8
  clear hd4 hd5 hd6 es5 es6 es7 hs5 hs6 hs7 hf5 hf6 hf3' hl3' hl5 hl6
  simp only [go_sem, Nat.reduceLT, Nat.reduceBEq, Nat.reduceAdd, Int.reduceBEq, Nat.reduceLeDiff, reduceIte, Nat.reduceEqDiff, Int.reduceEq, Int.reduceLE, Int.reduceLT, Int.reduceNe, Nat.reduceMul, Nat.reduceSub, Int.reduceToNat, he, g0, g1, setD_some, d8, c8]
  have e0 : True := trivial
  have hL7' : 7 ≤ L.length := hL7
  by_cases k0 : 2 ≤ (s7.length : Int)
  · have e0 := decide_eq_true k0
    have hT7 := hf7 (s7.getD 0 0) (by rw [List.getD_eq_getElem?_getD, List.getElem?_eq_getElem (by omega)]; exact List.getElem_mem _)
    generalize hT' : s7.getD 0 0 = T' at *
    have e00 : decide ((T'.toNat : Int) = 46) = false := decide_eq_false (by omega)
    have e01 : decide ((T'.toNat : Int) = 44) = false := decide_eq_false (by omega)
    simp only [go_sem, Nat.reduceLT, Nat.reduceBEq, Nat.reduceAdd, Int.reduceBEq, Nat.reduceLeDiff, reduceIte, Nat.reduceEqDiff, Int.reduceEq, Int.reduceLE, Int.reduceLT, Int.reduceNe, Nat.reduceMul, Nat.reduceSub, Int.reduceToNat, he, g0, g1, e0, e00, e01, hT']
    refine ⟨by omega, by omega, ⟨hL7, Nat.le_refl _⟩, ?_⟩
    rw [List.take_length]
    unfold zEnd
    by_cases k1 : s7 ≠ L.drop 7
    · have e1 := decide_eq_false k1
      rw [if_pos k1]
      simp only [go_sem, Nat.reduceLT, Nat.reduceBEq, Nat.reduceAdd, Int.reduceBEq, Nat.reduceLeDiff, reduceIte, Nat.reduceEqDiff, Int.reduceEq, Int.reduceLE, Int.reduceLT, Int.reduceNe, Nat.reduceMul, Nat.reduceSub, Int.reduceToNat, he, g0, g1, e1]
      exact ⟨rfl, _, rfl⟩
    have k1 : s7 = L.drop 7 := Classical.not_not.1 k1
    have e1 := decide_eq_true k1
    rw [if_neg (fun h => h k1)]
    by_cases k2 : d < 1
    · have e2 := decide_eq_true k2
      rw [if_pos k2]
      simp only [go_sem, Nat.reduceLT, Nat.reduceBEq, Nat.reduceAdd, Int.reduceBEq, Nat.reduceLeDiff, reduceIte, Nat.reduceEqDiff, Int.reduceEq, Int.reduceLE, Int.reduceLT, Int.reduceNe, Nat.reduceMul, Nat.reduceSub, Int.reduceToNat, he, g0, g1, e1, e2]
      exact ⟨rfl, _, rfl⟩
    have e2 := decide_eq_false k2
    rw [if_neg k2]
    simp only [go_sem, Nat.reduceLT, Nat.reduceBEq, Nat.reduceAdd, Int.reduceBEq, Nat.reduceLeDiff, reduceIte, Nat.reduceEqDiff, Int.reduceEq, Int.reduceLE, Int.reduceLT, Int.reduceNe, Nat.reduceMul, Nat.reduceSub, Int.reduceToNat, he, g0, g1, e1, e2]
    refine callX_of (zmonthDays_A y mo y0 _) (List.prefix_refl _) ?_
    by_cases k3 : monthDays y mo < d
    · have e3 := decide_eq_true k3
      rw [if_pos k3]
      simp only [go_sem, Nat.reduceLT, Nat.reduceBEq, Nat.reduceAdd, Int.reduceBEq, Nat.reduceLeDiff, reduceIte, Nat.reduceEqDiff, Int.reduceEq, Int.reduceLE, Int.reduceLT, Int.reduceNe, Nat.reduceMul, Nat.reduceSub, Int.reduceToNat, he, g0, g1, e3, setD_some]
      exact ⟨rfl, _, rfl⟩
    have e3 := decide_eq_false k3
    rw [if_neg k3]
    simp only [go_sem, Nat.reduceLT, Nat.reduceBEq, Nat.reduceAdd, Int.reduceBEq, Nat.reduceLeDiff, reduceIte, Nat.reduceEqDiff, Int.reduceEq, Int.reduceLE, Int.reduceLT, Int.reduceNe, Nat.reduceMul, Nat.reduceSub, Int.reduceToNat, he, g0, g1, e3, setD_some]
    refine callX_of (zDate_A _ _ _ _ _ _ _ ⟨by omega, by omega, by omega, by omega, by omega, by omega, by omega⟩ _ rfl _) (List.prefix_refl _) ?_
    simp only [go_sem, Nat.reduceLT, Nat.reduceBEq, Nat.reduceAdd, Int.reduceBEq, Nat.reduceLeDiff, reduceIte, Nat.reduceEqDiff, Int.reduceEq, Int.reduceLE, Int.reduceLT, Int.reduceNe, Nat.reduceMul, Nat.reduceSub, Int.reduceToNat, he, g0, g1, setD_some]
    exact ⟨rfl, _, rfl⟩
  · have e0 := decide_eq_false k0
    simp only [go_sem, Nat.reduceLT, Nat.reduceBEq, Nat.reduceAdd, Int.reduceBEq, Nat.reduceLeDiff, reduceIte, Nat.reduceEqDiff, Int.reduceEq, Int.reduceLE, Int.reduceLT, Int.reduceNe, Nat.reduceMul, Nat.reduceSub, Int.reduceToNat, he, g0, g1, e0]
    refine ⟨⟨hL7, Nat.le_refl _⟩, ?_⟩
    rw [List.take_length]
    unfold zEnd
    by_cases k1 : s7 ≠ L.drop 7
    · have e1 := decide_eq_false k1
      rw [if_pos k1]
      simp only [go_sem, Nat.reduceLT, Nat.reduceBEq, Nat.reduceAdd, Int.reduceBEq, Nat.reduceLeDiff, reduceIte, Nat.reduceEqDiff, Int.reduceEq, Int.reduceLE, Int.reduceLT, Int.reduceNe, Nat.reduceMul, Nat.reduceSub, Int.reduceToNat, he, g0, g1, e1]
      exact ⟨rfl, _, rfl⟩
    have k1 : s7 = L.drop 7 := Classical.not_not.1 k1
    have e1 := decide_eq_true k1
    rw [if_neg (fun h => h k1)]
    by_cases k2 : d < 1
    · have e2 := decide_eq_true k2
      rw [if_pos k2]
      simp only [go_sem, Nat.reduceLT, Nat.reduceBEq, Nat.reduceAdd, Int.reduceBEq, Nat.reduceLeDiff, reduceIte, Nat.reduceEqDiff, Int.reduceEq, Int.reduceLE, Int.reduceLT, Int.reduceNe, Nat.reduceMul, Nat.reduceSub, Int.reduceToNat, he, g0, g1, e1, e2]
      exact ⟨rfl, _, rfl⟩
    have e2 := decide_eq_false k2
    rw [if_neg k2]
    simp only [go_sem, Nat.reduceLT, Nat.reduceBEq, Nat.reduceAdd, Int.reduceBEq, Nat.reduceLeDiff, reduceIte, Nat.reduceEqDiff, Int.reduceEq, Int.reduceLE, Int.reduceLT, Int.reduceNe, Nat.reduceMul, Nat.reduceSub, Int.reduceToNat, he, g0, g1, e1, e2]
    refine callX_of (zmonthDays_A y mo y0 _) (List.prefix_refl _) ?_
    by_cases k3 : monthDays y mo < d
    · have e3 := decide_eq_true k3
      rw [if_pos k3]
      simp only [go_sem, Nat.reduceLT, Nat.reduceBEq, Nat.reduceAdd, Int.reduceBEq, Nat.reduceLeDiff, reduceIte, Nat.reduceEqDiff, Int.reduceEq, Int.reduceLE, Int.reduceLT, Int.reduceNe, Nat.reduceMul, Nat.reduceSub, Int.reduceToNat, he, g0, g1, e3, setD_some]
      exact ⟨rfl, _, rfl⟩
    have e3 := decide_eq_false k3
    rw [if_neg k3]
    simp only [go_sem, Nat.reduceLT, Nat.reduceBEq, Nat.reduceAdd, Int.reduceBEq, Nat.reduceLeDiff, reduceIte, Nat.reduceEqDiff, Int.reduceEq, Int.reduceLE, Int.reduceLT, Int.reduceNe, Nat.reduceMul, Nat.reduceSub, Int.reduceToNat, he, g0, g1, e3, setD_some]
    refine callX_of (zDate_A _ _ _ _ _ _ _ ⟨by omega, by omega, by omega, by omega, by omega, by omega, by omega⟩ _ rfl _) (List.prefix_refl _) ?_
    simp only [go_sem, Nat.reduceLT, Nat.reduceBEq, Nat.reduceAdd, Int.reduceBEq, Nat.reduceLeDiff, reduceIte, Nat.reduceEqDiff, Int.reduceEq, Int.reduceLE, Int.reduceLT, Int.reduceNe, Nat.reduceMul, Nat.reduceSub, Int.reduceToNat, he, g0, g1, setD_some]
    exact ⟨rfl, _, rfl⟩
end Go.Proofs.YtlfpjdcogkcjlaaGreatDoor.F
