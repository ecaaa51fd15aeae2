/- Numbers, names and errors out of texts. -/
import Derived.Test.YtlfpjdcogkcjlaaGreatDoorT7
import Derived.Lib.AtoiErrMem
namespace Go.Proofs.YtlfpjdcogkcjlaaGreatDoor.F
open Go.RowKit Go.Proofs.YtlfpjdcogkcjlaaGreatDoor.AL Go.Proofs.YtlfpjdcogkcjlaaGreatDoor.B
set_option linter.unusedVariables false
set_option linter.unusedSimpArgs false
set_option maxRecDepth 20000
attribute [local irreducible] aops acode bindK bindV bindH callX callK condK guardK Kseq Kblk Knorm Kfun Kloop Kjoin outK AWp appendA
attribute [local go_sem] acode_skip acode_seq acode_region acode_cond acode_block acode_exit acode_ret acode_loop Kseq_normal Kseq_exit Kseq_ret Kblk_normal Kblk_ret Kblk_eq Kblk_ne Knorm_eq Kloop_normal Kloop_exit Kloop_ret Kjoin_normal Kjoin_exit Kjoin_ret condK_true condK_false bindK_put bindV_put bindK_no bindV_no bindH_no aops_nil gops wantK_some wantV_bool wantV_undef guardK_true guardK_false guardK_none aops_move aops_assign aops_pick aops_nilCheck aops_binOp aops_unOp aops_convert aops_fieldAddr aops_indexAddr aops_slice aops_index aops_extract aops_makeInterface aops_makeFunc aops_build aops_load aops_lookup aops_alloc aops_box aops_buildSlice aops_makeSlice aops_makeMap aops_store aops_insert aops_mapUpdate aops_len aops_append aops_call opA_tmp opA_const opA_global opA_func get_mk look_nil look_eq look_ne len_mk List.map_cons List.map_nil Option.map_some Option.map_none bin_add bin_sub bin_mul bin_quo bin_rem bin_eql bin_neq bin_lss bin_leq bin_gtr bin_geq bin_cat bin_seql bin_sneq bin_neq_ifc bin_eql_ifc bin_neq_nn bin_eql_nn bin_neq_ptr bin_eql_ptr bin_neq_pn isIfc_true isPtr_true bin_eql2 bin_neq2 aops_max max_int un_not un_neg lenA_K lenK_str lenK_nil lenK_sl lenK_array pick_bool pick_val bindV_ite bindK_ite bindH_ite slotV_sl slotK_some slotV_ptr slotR_some sliceV_sl cutK_some sliceV_str cutS_some bound_none bound_some indexA_str atS_some mkS fieldV_ptr loadV_ptr cellsK_ro cellsK_own loadK_one loadK_many storeA_ptr storeK_own allocA_some heap_len heap_get0 heap_get heap_set0 heap_set Kfun_ret Kfun_normal resA_nil resA_tmp resA_cell outK_some packA_one packA_nil packA_two List.length_cons List.length_nil List.getElem?_cons_zero List.getElem?_cons_succ List.set_cons_zero List.set_cons_succ List.cons_append List.nil_append List.append_assoc Nat.zero_add Nat.add_zero List.all_cons List.all_nil Value.oneCell' Bool.and_true Bool.and_self if_true if_false Bool.false_eq_true partsA buildV buildA fillA Option.bind_some putCells List.drop_succ_cons List.drop_zero List.take_succ_cons List.take_zero List.take_nil List.drop_nil and_self and_true true_and Option.some.injEq ne_eq not_false_eq_true Option.map_map List.getElem?_toArray beq_self_eq_true Bool.true_beq Bool.false_beq Bool.not_true Bool.not_false decide_true decide_false beq_true Nat.mul_one Nat.one_mul Nat.zero_mul bsA buildSliceA zerosN List.append_nil Int.toNat_natCast Int.toNat_zero boxA one_val one_ptr one_sl one_mp one_ifc one_fn avCells_agg avCells_val valCells_true valCells_agg avCells_ptr avCells_sl avCells_mp avCells_ifc avCells_fn app_cons app_nil lookupA insertA ifaceV extractA kd2 ars127 fp127 ars60 fp60 ars31 fp31 eq2_99 eq2_84 eq2_47 fp52 sz2 kd3 sz3 kd4 sz4 kd5 sz5 kd9 sz9 kd22 sz22 el22 kd23 sz23 el23 kd25 sz25 zc25 fp25 fo25_0 fo25_1 fo25_2 fo25_3 fo25_4 fo25_5 fo25_6 fo25_7 fo25_8 fo25_9 fo25_10 fo25_11 fo25_12 fo25_13 fo25_14 fo25_15 fo25_16 fo25_17 kd31 sz31 zc31 ar31 kd32 sz32 el32 kd34 sz34 zc34 fp34 fo34_0 fo34_1 fo34_2 fo34_3 fo34_4 fo34_5 fo34_6 fo34_7 fo34_8 fo34_9 fo34_10 fo34_11 fo34_12 fo34_13 fo34_14 fo34_15 fo34_16 fo34_17 el38 el42 kd47 sz47 zc47 fp47 fo47_0 fo47_1 kd52 sz52 zc52 fo52_0 el55 zc60 kd72 sz72 zc72 fp72 fo72_0 fo72_1 el73 isStrMap76 zv4 kd80 sz80 kd84 sz84 zc84 fp84 fo84_0 fo84_1 kd88 sz88 zc88 fp88 fo88_0 fo88_1 fo88_2 fo88_3 kd91 sz91 zc91 fp91 fo91_0 fo91_1 fo91_2 el94 kd99 sz99 zc99 fp99 fo99_0 fo99_1 kd100 sz100 el100 kd102 sz102 zc102 fp102 fo102_0 fo102_1 fo102_2 fo102_3 fo102_4 fo102_5 fo102_6 fo102_7 fo102_8 fo102_9 fo102_10 fo102_11 fo102_12 fo102_13 fo102_14 fo102_15 kd109 sz109 zc109 fp109 isStrMap124 zv80 zc127 kd153 sz153 zc153 ar153 isIface157 kd159 sz159 zc159 fp159 isStrMap177 zv84 Tryz.underlying3 Tryz.underlying4 Tryz.underlying5 Tryz.underlying9 Tryz.underlying21 Tryz.underlying22 Tryz.underlying23 Tryz.underlying32 Tryz.underlying38 Tryz.underlying42 Tryz.underlying47 Tryz.underlying55 Tryz.underlying67 Tryz.underlying73 Tryz.underlying80 Tryz.underlying84 Tryz.underlying94 Tryz.underlying100 Tryz.underlying2 Tryz.underlying127 Tryz.underlying60 Tryz.underlying31
/-- An error that is not nil. -/
abbrev vE : AV := .ifc 207 .any
/-- strconv.Atoi's answer. -/
def atoiR (s : List UInt8) : AV := match Lib.atoiAll s with
  | .ok v => .tup [vI v, .val .nilIface]
  | .range => .tup [vI (Lib.atoiSat s), vE]
  | _ => .tup [vI 0, vE]
theorem A_libR {P : Program} {C : Base} {f : FuncId} {args : List Value} {x : AV} {H : Heap} (hc : Callable P f) (h : ∀ w, Below C.B C.w0 w → C.B ≤ w.heap.size → Calls P f args.toArray w fun e w' => ∃ rv, e = .returned rv ∧ (∀ m, rel m w' x rv) ∧ Below w.heap.size w w') : ACalls P C f (args.map .val) H fun r H' => r = x ∧ H' = H :=
  ⟨hc, fun m w vals h1 h2 => by
    rw [vals_eq h2]
    refine (h w h1.below h1.size).mono ?_
    rintro e w' ⟨rv, rfl, hr, hb⟩
    exact ⟨rv, m, H, x, rfl, ⟨List.prefix_refl m, szs_below hb, h1.belowW hb⟩, hr m, rfl, rfl⟩⟩
theorem atoi_bad (s : ByteArray) (hlim : s.size ≤ 281474976710656) (h1 : ∀ v, Lib.atoiAll s.data.toList ≠ .ok v) (h2 : Lib.atoiAll s.data.toList ≠ .range) (ev : Value) (w : World) (hv : w.cell? ⟨10, 0, none⟩ = some ev) (hev : ev = .nilIface ∨ ∃ te pe, ev = .iface te pe) :
    Calls Tryz.prog 89 #[.string s] w fun e w' => ∃ N, e = .returned (.tuple #[.int .i64 (0), .iface 207 (.pointer (some ⟨N, 0, none⟩))]) ∧ w.heap.size ≤ N ∧ w'.heap[N]? = some (.cells #[.string ⟨#[65, 116, 111, 105]⟩, .string s, ev] 240 (0, 0)) ∧ Below w.heap.size w w' := by
  cases h : Lib.atoiAll s.data.toList with
  | ok v => exact absurd h (h1 v)
  | range => exact absurd h h2
  | _ => exact Any.strconv_Atoi_syntax Tryz.laysC172 s hlim h ev w hv hev
theorem atoi_A {w0 : World} (hG : Glob w0) (s : List UInt8) (hs : s.length ≤ 1000000) (H : Heap) : ACalls Tryz.prog (CB w0) 89 [vS s] H fun r H' => r = atoiR s ∧ H' = H := by
  refine A_libR (args := [.string (S s)]) (callable_of Tryz.func89 (by kernel_rfl) (by kernel_rfl)) fun w hb _ => ?_
  have hg := hG.below hb
  unfold atoiR
  cases ha : Lib.atoiAll s with
  | ok v =>
    refine (Tryz.strconv_Atoi_ok (S s) (by rw [S_size]; omega) v ha w).mono ?_
    rintro e w' ⟨rfl, hw⟩
    refine ⟨_, rfl, fun m => ⟨_, rfl, rfl, rfl, trivial⟩, ?_⟩
    rcases hw with rfl | ⟨t, rfl⟩
    · exact Below.refl _ _
    · exact Lib.bytesWorld_below _ _ _
  | range =>
    obtain ⟨ev, h1, h2⟩ := hg.errR
    refine (Tryz.strconv_Atoi_range (S s) (by rw [S_size]; omega) ha ev w h1 h2).mono ?_
    rintro e w' ⟨N, rfl, _, _, hw⟩
    exact ⟨_, rfl, fun m => ⟨_, rfl, rfl, ⟨_, rfl, trivial⟩, trivial⟩, hw⟩
  | _ =>
    obtain ⟨ev, h1, h2⟩ := hg.errS
    refine (atoi_bad (S s) (by rw [S_size]; omega) (fun v hv => by have := ha.symm.trans hv; cases this) (fun hv => by have := ha.symm.trans hv; cases this) ev w h1 h2).mono ?_
    rintro e w' ⟨N, rfl, _, _, hw⟩
    exact ⟨_, rfl, fun m => ⟨_, rfl, rfl, ⟨_, rfl, trivial⟩, trivial⟩, hw⟩
/-- What was made is left out, and the answer known less well. -/
theorem ACalls.drop {P : Program} {C : Base} {f : FuncId} {args : List AV} {H : Heap} {R : AV → Prop} {x : AV} (h : ACalls P C f args H fun r H' => R r ∧ ∃ G, H' = H ++ G) (hx : ∀ r, R r → ∀ m m0 w v, rel m w r v → rel m0 w x v) : ACalls P C f args H fun r H' => r = x ∧ H' = H :=
  ⟨h.1, fun m w vals h1 h2 => (h.2 m w vals h1 h2).mono fun e w' ⟨rv, m', H', r, a, b, c, hr, G, hG⟩ => by
    subst hG
    exact ⟨rv, m, H, x, a, ⟨List.prefix_refl m, b.szs, h1.back b.rep b.pre⟩, hx r hr _ _ _ _ c, rfl, rfl⟩⟩
abbrev vErr : AV := .ifc 157 .any
theorem errorsNew_A {w0 : World} (s : List UInt8) (H : Heap) : ACalls Tryz.prog (CB w0) 71 [vS s] H fun r H' => r = vErr ∧ H' = H := by
  refine ACalls.drop (R := fun r => ∃ y, r = .ifc 157 y) ?_ ?_
  · refine A_fun (N := 7) (rs := [.tmp 2]) Tryz.func71 rfl rfl rfl (by kernel_rfl) (by kernel_rfl) (Nat.le_of_ble_eq_true rfl) ?_
    rintro e he ⟨g0, -⟩
    simp only [go_sem, Nat.reduceLT, Nat.reduceBEq, Nat.reduceAdd, Int.reduceBEq, Nat.reduceLeDiff, reduceIte, Nat.reduceEqDiff, Int.reduceEq, Int.reduceLE, Int.reduceLT, Int.reduceNe, Nat.reduceMul, Nat.reduceSub, Int.reduceToNat, he, g0]
    exact ⟨⟨_, rfl⟩, _, rfl⟩
  · rintro r ⟨y, rfl⟩ m m0 w v ⟨u, h1, _⟩
    exact ⟨u, h1, trivial⟩
theorem findA_nil {a : List UInt8} : findA (S a) [] = none := rfl
theorem findA_cons {a b : List UInt8} {c : AV} {l : List (ByteArray × AV)} : findA (S a) ((S b, c) :: l) = if a = b then some c else findA (S a) l := by
  rw [findA]
  by_cases h : a = b
  · simp [h]
  · have : ¬ S a = S b := fun e => h (S_inj.1 e)
    rw [if_neg this, if_neg h]
/-- A frequency's number by its name. -/
def freqOf (s : List UInt8) : Option Int := if s = [89, 69, 65, 82, 76, 89] then some (0) else if s = [77, 79, 78, 84, 72, 76, 89] then some (1) else if s = [87, 69, 69, 75, 76, 89] then some (2) else if s = [68, 65, 73, 76, 89] then some (3) else if s = [72, 79, 85, 82, 76, 89] then some (4) else if s = [77, 73, 78, 85, 84, 69, 76, 89] then some (5) else if s = [83, 69, 67, 79, 78, 68, 76, 89] then some (6) else none
theorem freq_chain (s : List UInt8) : (if s = [89, 69, 65, 82, 76, 89] then some (vI 0) else if s = [77, 79, 78, 84, 72, 76, 89] then some (vI 1) else if s = [87, 69, 69, 75, 76, 89] then some (vI 2) else if s = [68, 65, 73, 76, 89] then some (vI 3) else if s = [72, 79, 85, 82, 76, 89] then some (vI 4) else if s = [77, 73, 78, 85, 84, 69, 76, 89] then some (vI 5) else if s = [83, 69, 67, 79, 78, 68, 76, 89] then some (vI 6) else none) = (freqOf s).map vI := by
  unfold freqOf
  repeat' split
  all_goals rfl
def freqR (s : List UInt8) : AV := match freqOf s with
  | some n => .tup [vI n, .val .nilIface]
  | none => .tup [vI 0, vErr]
theorem strToFreq_A {w0 : World} (s : List UInt8) (hs : s.length ≤ 1000000) (H : Heap) : ACalls Tryz.prog (CB w0) 41 [vS s] H fun r H' => r = freqR s ∧ ∃ G, H' = H ++ G := by
  refine A_fun (N := 21) (rs := [.tmp 2, .tmp 3]) Tryz.func41 rfl rfl rfl (by kernel_rfl) (by kernel_rfl) (Nat.le_of_ble_eq_true rfl) ?_
  rintro e he ⟨g0, -⟩
  simp (decide := true) only [go_sem, Nat.reduceLT, Nat.reduceBEq, Nat.reduceAdd, Int.reduceBEq, Nat.reduceLeDiff, reduceIte, Nat.reduceEqDiff, Int.reduceEq, Int.reduceLE, Int.reduceLT, Int.reduceNe, Nat.reduceMul, Nat.reduceSub, Int.reduceToNat, he, g0, findA_nil, findA_cons, if_false]
  rw [freq_chain]
  unfold freqR
  cases freqOf s with
  | some n =>
    simp only [go_sem, Nat.reduceLT, Nat.reduceBEq, Nat.reduceAdd, Int.reduceBEq, Nat.reduceLeDiff, reduceIte, Nat.reduceEqDiff, Int.reduceEq, Int.reduceLE, Int.reduceLT, Int.reduceNe, Nat.reduceMul, Nat.reduceSub, Int.reduceToNat, he, g0]
    exact ⟨_, rfl⟩
  | none =>
    simp only [go_sem, Nat.reduceLT, Nat.reduceBEq, Nat.reduceAdd, Int.reduceBEq, Nat.reduceLeDiff, reduceIte, Nat.reduceEqDiff, Int.reduceEq, Int.reduceLE, Int.reduceLT, Int.reduceNe, Nat.reduceMul, Nat.reduceSub, Int.reduceToNat, he, g0]
    refine ⟨by omega, callX_of (errorsNew_A _ _) (List.prefix_refl _) ?_⟩
    simp only [go_sem, Nat.reduceLT, Nat.reduceBEq, Nat.reduceAdd, Int.reduceBEq, Nat.reduceLeDiff, reduceIte, Nat.reduceEqDiff, Int.reduceEq, Int.reduceLE, Int.reduceLT, Int.reduceNe, Nat.reduceMul, Nat.reduceSub, Int.reduceToNat, he, setD_some]
    exact ⟨_, rfl⟩
end Go.Proofs.YtlfpjdcogkcjlaaGreatDoor.F
