/- Texts that are no rules. -/
import Derived.Test.YtlfpjdcogkcjlaaGreatDoorT25
namespace Go.Proofs.YtlfpjdcogkcjlaaGreatDoor.F
open Go.RowKit Go.Proofs.YtlfpjdcogkcjlaaGreatDoor.AL Go.Proofs.YtlfpjdcogkcjlaaGreatDoor.B
set_option linter.unusedVariables false
set_option linter.unusedSimpArgs false
set_option maxRecDepth 20000
attribute [local irreducible] aops acode bindK bindV bindH callX callK condK guardK Kseq Kblk Knorm Kfun Kloop Kjoin outK AWp appendA
attribute [local go_sem] acode_skip acode_seq acode_region acode_cond acode_block acode_exit acode_ret acode_loop Kseq_normal Kseq_exit Kseq_ret Kblk_normal Kblk_ret Kblk_eq Kblk_ne Knorm_eq Kloop_normal Kloop_exit Kloop_ret Kjoin_normal Kjoin_exit Kjoin_ret condK_true condK_false bindK_put bindV_put bindK_no bindV_no bindH_no aops_nil gops wantK_some wantV_bool wantV_undef guardK_true guardK_false guardK_none aops_move aops_assign aops_pick aops_nilCheck aops_binOp aops_unOp aops_convert aops_fieldAddr aops_indexAddr aops_slice aops_index aops_extract aops_makeInterface aops_makeFunc aops_build aops_load aops_lookup aops_alloc aops_box aops_buildSlice aops_makeSlice aops_makeMap aops_store aops_insert aops_mapUpdate aops_len aops_append aops_call opA_tmp opA_const opA_global opA_func get_mk look_nil look_eq look_ne len_mk List.map_cons List.map_nil Option.map_some Option.map_none bin_add bin_sub bin_mul bin_quo bin_rem bin_eql bin_neq bin_lss bin_leq bin_gtr bin_geq bin_cat bin_seql bin_sneq bin_neq_ifc bin_eql_ifc bin_neq_nn bin_eql_nn bin_neq_ptr bin_eql_ptr bin_neq_pn isIfc_true isPtr_true bin_eql2 bin_neq2 aops_max max_int un_not un_neg lenA_K lenK_str lenK_nil lenK_sl lenK_array pick_bool pick_val bindV_ite bindK_ite bindH_ite slotV_sl slotK_some slotV_ptr slotR_some sliceV_sl cutK_some sliceV_str cutS_some bound_none bound_some indexA_str atS_some mkS fieldV_ptr loadV_ptr cellsK_ro cellsK_own loadK_one loadK_many storeA_ptr storeK_own allocA_some heap_len heap_get0 heap_get heap_set0 heap_set Kfun_ret Kfun_normal resA_nil resA_tmp resA_cell outK_some packA_one packA_nil packA_two List.length_cons List.length_nil List.getElem?_cons_zero List.getElem?_cons_succ List.set_cons_zero List.set_cons_succ List.cons_append List.nil_append List.append_assoc Nat.zero_add Nat.add_zero List.all_cons List.all_nil Value.oneCell' Bool.and_true Bool.and_self if_true if_false Bool.false_eq_true partsA buildV buildA fillA Option.bind_some putCells List.drop_succ_cons List.drop_zero List.take_succ_cons List.take_zero List.take_nil List.drop_nil and_self and_true true_and Option.some.injEq ne_eq not_false_eq_true Option.map_map List.getElem?_toArray beq_self_eq_true Bool.true_beq Bool.false_beq Bool.not_true Bool.not_false decide_true decide_false beq_true Nat.mul_one Nat.one_mul Nat.zero_mul bsA buildSliceA zerosN List.append_nil Int.toNat_natCast Int.toNat_zero boxA one_val one_ptr one_sl one_mp one_ifc one_fn avCells_agg avCells_val valCells_true valCells_agg avCells_ptr avCells_sl avCells_mp avCells_ifc avCells_fn app_cons app_nil lookupA insertA ifaceV extractA kd2 ars127 fp127 ars60 fp60 ars31 fp31 eq2_99 eq2_84 eq2_47 fp52 sz2 kd3 sz3 kd4 sz4 kd5 sz5 kd9 sz9 kd22 sz22 el22 kd23 sz23 el23 kd25 sz25 zc25 fp25 fo25_0 fo25_1 fo25_2 fo25_3 fo25_4 fo25_5 fo25_6 fo25_7 fo25_8 fo25_9 fo25_10 fo25_11 fo25_12 fo25_13 fo25_14 fo25_15 fo25_16 fo25_17 kd31 sz31 zc31 ar31 kd32 sz32 el32 kd34 sz34 zc34 fp34 fo34_0 fo34_1 fo34_2 fo34_3 fo34_4 fo34_5 fo34_6 fo34_7 fo34_8 fo34_9 fo34_10 fo34_11 fo34_12 fo34_13 fo34_14 fo34_15 fo34_16 fo34_17 el38 el42 kd47 sz47 zc47 fp47 fo47_0 fo47_1 kd52 sz52 zc52 fo52_0 el55 zc60 kd72 sz72 zc72 fp72 fo72_0 fo72_1 el73 isStrMap76 zv4 kd80 sz80 kd84 sz84 zc84 fp84 fo84_0 fo84_1 kd88 sz88 zc88 fp88 fo88_0 fo88_1 fo88_2 fo88_3 kd91 sz91 zc91 fp91 fo91_0 fo91_1 fo91_2 el94 kd99 sz99 zc99 fp99 fo99_0 fo99_1 kd100 sz100 el100 kd102 sz102 zc102 fp102 fo102_0 fo102_1 fo102_2 fo102_3 fo102_4 fo102_5 fo102_6 fo102_7 fo102_8 fo102_9 fo102_10 fo102_11 fo102_12 fo102_13 fo102_14 fo102_15 kd109 sz109 zc109 fp109 isStrMap124 zv80 zc127 kd153 sz153 zc153 ar153 isIface157 kd159 sz159 zc159 fp159 isStrMap177 zv84 Tryz.underlying3 Tryz.underlying4 Tryz.underlying5 Tryz.underlying9 Tryz.underlying21 Tryz.underlying22 Tryz.underlying23 Tryz.underlying32 Tryz.underlying38 Tryz.underlying42 Tryz.underlying47 Tryz.underlying55 Tryz.underlying67 Tryz.underlying73 Tryz.underlying80 Tryz.underlying84 Tryz.underlying94 Tryz.underlying100 Tryz.underlying2 Tryz.underlying127 Tryz.underlying60 Tryz.underlying31
theorem bad_suffix {r : Ru} (h : CleanP r) {b : List UInt8} (hv : b.all vis = true) (hb : b.length ≤ 100) (hn : b.all (fun c => c != 59) = true) (hf : fracB b = true) (hbad : ∀ o, ∃ t, opStep o b = .error t) : InText (textOf (parts (bare r)) ++ 59 :: b) ∧ ∃ t, opParse (textOf (parts (bare r)) ++ 59 :: b) = .error t := by
  have hpl := parts_length (r := bare r)
  have hne : parts (bare r) ≠ [] := fun e => by rw [e] at hpl; simp at hpl
  have hb59 : (59 : UInt8) ∉ b := fun hm => by have := List.all_eq_true.1 hn _ hm; revert this; decide
  have he : textOf (parts (bare r)) ++ 59 :: b = joinB 59 (parts (bare r) ++ [b]) := (joinB_snoc 59 b _ hne).symm
  have hsp : split 59 (textOf (parts (bare r)) ++ 59 :: b) = parts (bare r) ++ [b] := by
    rw [he]
    exact split_join (by simp) fun s hs => by
      rcases List.mem_append.1 hs with hs | hs
      · exact parts_no s hs
      · rw [List.mem_singleton] at hs; rw [hs]; exact hb59
  refine ⟨inText_of ?_ ?_ ?_ ?_, ?_⟩
  · exact visS_app (joinB_vis rfl parts_vis) fun c hc => by
      rcases List.mem_cons.1 hc with rfl | hc
      · rfl
      · exact List.all_eq_true.1 hv c hc
  · have := joinB_length 59 1388 (parts (bare r)) (parts_clean h)
    rw [List.length_append, List.length_cons]
    unfold textOf
    have : 1389 * (parts (bare r)).length ≤ 1389 * 15 := Nat.mul_le_mul_left _ hpl.1
    omega
  · have hh : ∀ l : List (List UInt8), (joinB 59 ((70 :: [82, 69, 81, 61] ++ freqs.getD (bare r).freq []) :: l)).head? = some 70 := by
      intro l
      cases l <;> rfl
    have : parts (bare r) = (70 :: [82, 69, 81, 61] ++ freqs.getD (bare r).freq []) :: (parts (bare r)).tail := rfl
    unfold textOf
    rw [this, List.head?_append, hh]
    exact (by decide : (some (70 : UInt8)) ≠ some 82)
  · rw [hsp]
    intro a ha k v hkv hk
    rcases List.mem_append.1 ha with ha | ha
    · rw [← kvs_parts] at ha
      obtain ⟨p, hp, rfl⟩ := List.mem_map.1 ha
      have ho := kvs_ok _ p hp
      rw [split_kv ho] at hkv
      simp only [List.cons.injEq, and_true] at hkv
      obtain ⟨rfl, rfl⟩ := hkv
      rcases hk with hk | hk
      · exact ho.2.2.2.2 hk
      · exact absurd hk ho.2.2.2.1
    · rw [List.mem_singleton] at ha
      subst ha
      exact fracB_spec hf a (by rw [split_none (idx_no hb59)]; simp) k v hkv hk
  · rw [he]
    exact parse_bad parts_no hb59 hbad
theorem badS0 {r : Ru} (h : CleanP r) : InText (textOf (parts (bare r)) ++ [59, 66, 89, 78, 79, 84, 72, 73, 78, 71, 61, 49]) ∧ ∃ t, opParse (textOf (parts (bare r)) ++ [59, 66, 89, 78, 79, 84, 72, 73, 78, 71, 61, 49]) = .error t :=
  bad_suffix h (by kernel_rfl) (by decide) (by kernel_rfl) (by kernel_rfl) fun o => ⟨157, by kernel_rfl⟩
theorem badS1 {r : Ru} (h : CleanP r) : InText (textOf (parts (bare r)) ++ [59, 66, 89, 72, 79, 85, 82, 61]) ∧ ∃ t, opParse (textOf (parts (bare r)) ++ [59, 66, 89, 72, 79, 85, 82, 61]) = .error t :=
  bad_suffix h (by kernel_rfl) (by decide) (by kernel_rfl) (by kernel_rfl) fun o => ⟨157, by kernel_rfl⟩
theorem badS2 {r : Ru} (h : CleanP r) : InText (textOf (parts (bare r)) ++ [59, 66, 89, 72, 79, 85, 82, 61, 120]) ∧ ∃ t, opParse (textOf (parts (bare r)) ++ [59, 66, 89, 72, 79, 85, 82, 61, 120]) = .error t :=
  bad_suffix h (by kernel_rfl) (by decide) (by kernel_rfl) (by kernel_rfl) fun o => ⟨207, by kernel_rfl⟩
theorem badS3 {r : Ru} (h : CleanP r) : InText (textOf (parts (bare r)) ++ [59, 66, 89, 72, 79, 85, 82, 61, 49, 44, 44, 50]) ∧ ∃ t, opParse (textOf (parts (bare r)) ++ [59, 66, 89, 72, 79, 85, 82, 61, 49, 44, 44, 50]) = .error t :=
  bad_suffix h (by kernel_rfl) (by decide) (by kernel_rfl) (by kernel_rfl) fun o => ⟨207, by kernel_rfl⟩
theorem badS4 {r : Ru} (h : CleanP r) : InText (textOf (parts (bare r)) ++ [59, 66, 89, 68, 65, 89, 61, 88, 88]) ∧ ∃ t, opParse (textOf (parts (bare r)) ++ [59, 66, 89, 68, 65, 89, 61, 88, 88]) = .error t :=
  bad_suffix h (by kernel_rfl) (by decide) (by kernel_rfl) (by kernel_rfl) fun o => ⟨157, by kernel_rfl⟩
theorem badS5 {r : Ru} (h : CleanP r) : InText (textOf (parts (bare r)) ++ [59, 66, 89, 68, 65, 89, 61, 77]) ∧ ∃ t, opParse (textOf (parts (bare r)) ++ [59, 66, 89, 68, 65, 89, 61, 77]) = .error t :=
  bad_suffix h (by kernel_rfl) (by decide) (by kernel_rfl) (by kernel_rfl) fun o => ⟨157, by kernel_rfl⟩
theorem badS6 {r : Ru} (h : CleanP r) : InText (textOf (parts (bare r)) ++ [59, 85, 78, 84, 73, 76, 61, 50, 48, 50, 48]) ∧ ∃ t, opParse (textOf (parts (bare r)) ++ [59, 85, 78, 84, 73, 76, 61, 50, 48, 50, 48]) = .error t :=
  bad_suffix h (by kernel_rfl) (by decide) (by kernel_rfl) (by kernel_rfl) fun o => ⟨157, by kernel_rfl⟩
theorem badS7 {r : Ru} (h : CleanP r) : InText (textOf (parts (bare r)) ++ [59, 85, 78, 84, 73, 76, 61, 50, 48, 50, 48, 49, 51, 48, 49, 84, 48, 48, 48, 48, 48, 48, 90]) ∧ ∃ t, opParse (textOf (parts (bare r)) ++ [59, 85, 78, 84, 73, 76, 61, 50, 48, 50, 48, 49, 51, 48, 49, 84, 48, 48, 48, 48, 48, 48, 90]) = .error t :=
  bad_suffix h (by kernel_rfl) (by decide) (by kernel_rfl) (by kernel_rfl) fun o => ⟨157, by kernel_rfl⟩
theorem badS8 {r : Ru} (h : CleanP r) : InText (textOf (parts (bare r)) ++ [59, 67, 79, 85, 78, 84, 61, 120]) ∧ ∃ t, opParse (textOf (parts (bare r)) ++ [59, 67, 79, 85, 78, 84, 61, 120]) = .error t :=
  bad_suffix h (by kernel_rfl) (by decide) (by kernel_rfl) (by kernel_rfl) fun o => ⟨207, by kernel_rfl⟩
theorem badS9 {r : Ru} (h : CleanP r) : InText (textOf (parts (bare r)) ++ [59, 73, 78, 84, 69, 82, 86, 65, 76, 61, 120]) ∧ ∃ t, opParse (textOf (parts (bare r)) ++ [59, 73, 78, 84, 69, 82, 86, 65, 76, 61, 120]) = .error t :=
  bad_suffix h (by kernel_rfl) (by decide) (by kernel_rfl) (by kernel_rfl) fun o => ⟨207, by kernel_rfl⟩
theorem badS10 {r : Ru} (h : CleanP r) : InText (textOf (parts (bare r)) ++ [59, 87, 75, 83, 84, 61, 65, 65]) ∧ ∃ t, opParse (textOf (parts (bare r)) ++ [59, 87, 75, 83, 84, 61, 65, 65]) = .error t :=
  bad_suffix h (by kernel_rfl) (by decide) (by kernel_rfl) (by kernel_rfl) fun o => ⟨157, by kernel_rfl⟩
theorem badF0 : InText [] ∧ ∃ t, opParse [] = .error t :=
  ⟨⟨by decide, fracB_spec (by kernel_rfl), by decide, by kernel_rfl, by decide, by kernel_rfl⟩, 157, by kernel_rfl⟩
theorem badF1 : InText [67, 79, 85, 78, 84, 61, 50] ∧ ∃ t, opParse [67, 79, 85, 78, 84, 61, 50] = .error t :=
  ⟨⟨by decide, fracB_spec (by kernel_rfl), by decide, by kernel_rfl, by decide, by kernel_rfl⟩, 157, by kernel_rfl⟩
theorem badF2 : InText [70, 82, 69, 81, 61] ∧ ∃ t, opParse [70, 82, 69, 81, 61] = .error t :=
  ⟨⟨by decide, fracB_spec (by kernel_rfl), by decide, by kernel_rfl, by decide, by kernel_rfl⟩, 157, by kernel_rfl⟩
theorem badF3 : InText [70, 82, 69, 81, 61, 78, 69, 86, 69, 82] ∧ ∃ t, opParse [70, 82, 69, 81, 61, 78, 69, 86, 69, 82] = .error t :=
  ⟨⟨by decide, fracB_spec (by kernel_rfl), by decide, by kernel_rfl, by decide, by kernel_rfl⟩, 157, by kernel_rfl⟩
theorem badF4 : InText [70, 82, 69, 81, 61, 100, 97, 105, 108, 121, 32, 120] ∧ ∃ t, opParse [70, 82, 69, 81, 61, 100, 97, 105, 108, 121, 32, 120] = .error t :=
  ⟨⟨by decide, fracB_spec (by kernel_rfl), by decide, by kernel_rfl, by decide, by kernel_rfl⟩, 157, by kernel_rfl⟩
/-- The texts that are none. -/
def bads (t : List UInt8) : List (List UInt8) := [[], [67, 79, 85, 78, 84, 61, 50], [70, 82, 69, 81, 61], [70, 82, 69, 81, 61, 78, 69, 86, 69, 82], [70, 82, 69, 81, 61, 100, 97, 105, 108, 121, 32, 120], t ++ [59, 66, 89, 78, 79, 84, 72, 73, 78, 71, 61, 49], t ++ [59, 66, 89, 72, 79, 85, 82, 61], t ++ [59, 66, 89, 72, 79, 85, 82, 61, 120], t ++ [59, 66, 89, 72, 79, 85, 82, 61, 49, 44, 44, 50], t ++ [59, 66, 89, 68, 65, 89, 61, 88, 88], t ++ [59, 66, 89, 68, 65, 89, 61, 77], t ++ [59, 85, 78, 84, 73, 76, 61, 50, 48, 50, 48], t ++ [59, 85, 78, 84, 73, 76, 61, 50, 48, 50, 48, 49, 51, 48, 49, 84, 48, 48, 48, 48, 48, 48, 90], t ++ [59, 67, 79, 85, 78, 84, 61, 120], t ++ [59, 73, 78, 84, 69, 82, 86, 65, 76, 61, 120], t ++ [59, 87, 75, 83, 84, 61, 65, 65]]
theorem bads_ok {r : Ru} (h : CleanP r) {k : Nat} (hk : k < 16) : ∃ b, (bads (textOf (parts (bare r))))[k]? = some b ∧ InText b ∧ ∃ t, opParse b = .error t := by
  match k, hk with
  | 0, _ => exact ⟨_, rfl, badF0⟩
  | 1, _ => exact ⟨_, rfl, badF1⟩
  | 2, _ => exact ⟨_, rfl, badF2⟩
  | 3, _ => exact ⟨_, rfl, badF3⟩
  | 4, _ => exact ⟨_, rfl, badF4⟩
  | 5, _ => exact ⟨_, rfl, badS0 h⟩
  | 6, _ => exact ⟨_, rfl, badS1 h⟩
  | 7, _ => exact ⟨_, rfl, badS2 h⟩
  | 8, _ => exact ⟨_, rfl, badS3 h⟩
  | 9, _ => exact ⟨_, rfl, badS4 h⟩
  | 10, _ => exact ⟨_, rfl, badS5 h⟩
  | 11, _ => exact ⟨_, rfl, badS6 h⟩
  | 12, _ => exact ⟨_, rfl, badS7 h⟩
  | 13, _ => exact ⟨_, rfl, badS8 h⟩
  | 14, _ => exact ⟨_, rfl, badS9 h⟩
  | 15, _ => exact ⟨_, rfl, badS10 h⟩
  | k + 16, hk => exact absurd hk (by omega)
end Go.Proofs.YtlfpjdcogkcjlaaGreatDoor.F
