/- Weekdays out of texts. -/
import Derived.Test.YtlfpjdcogkcjlaaGreatDoorT8
namespace Go.Proofs.YtlfpjdcogkcjlaaGreatDoor.F
open Go.RowKit Go.Proofs.YtlfpjdcogkcjlaaGreatDoor.AL Go.Proofs.YtlfpjdcogkcjlaaGreatDoor.B
set_option linter.unusedVariables false
set_option linter.unusedSimpArgs false
set_option maxRecDepth 20000
attribute [local irreducible] aops acode bindK bindV bindH callX callK condK guardK Kseq Kblk Knorm Kfun Kloop Kjoin outK AWp appendA
attribute [local go_sem] acode_skip acode_seq acode_region acode_cond acode_block acode_exit acode_ret acode_loop Kseq_normal Kseq_exit Kseq_ret Kblk_normal Kblk_ret Kblk_eq Kblk_ne Knorm_eq Kloop_normal Kloop_exit Kloop_ret Kjoin_normal Kjoin_exit Kjoin_ret condK_true condK_false bindK_put bindV_put bindK_no bindV_no bindH_no aops_nil gops wantK_some wantV_bool wantV_undef guardK_true guardK_false guardK_none aops_move aops_assign aops_pick aops_nilCheck aops_binOp aops_unOp aops_convert aops_fieldAddr aops_indexAddr aops_slice aops_index aops_extract aops_makeInterface aops_makeFunc aops_build aops_load aops_lookup aops_alloc aops_box aops_buildSlice aops_makeSlice aops_makeMap aops_store aops_insert aops_mapUpdate aops_len aops_append aops_call opA_tmp opA_const opA_global opA_func get_mk look_nil look_eq look_ne len_mk List.map_cons List.map_nil Option.map_some Option.map_none bin_add bin_sub bin_mul bin_quo bin_rem bin_eql bin_neq bin_lss bin_leq bin_gtr bin_geq bin_cat bin_seql bin_sneq bin_neq_ifc bin_eql_ifc bin_neq_nn bin_eql_nn bin_neq_ptr bin_eql_ptr bin_neq_pn isIfc_true isPtr_true bin_eql2 bin_neq2 aops_max max_int un_not un_neg lenA_K lenK_str lenK_nil lenK_sl lenK_array pick_bool pick_val bindV_ite bindK_ite bindH_ite slotV_sl slotK_some slotV_ptr slotR_some sliceV_sl cutK_some sliceV_str cutS_some bound_none bound_some indexA_str atS_some mkS fieldV_ptr loadV_ptr cellsK_ro cellsK_own loadK_one loadK_many storeA_ptr storeK_own allocA_some heap_len heap_get0 heap_get heap_set0 heap_set Kfun_ret Kfun_normal resA_nil resA_tmp resA_cell outK_some packA_one packA_nil packA_two List.length_cons List.length_nil List.getElem?_cons_zero List.getElem?_cons_succ List.set_cons_zero List.set_cons_succ List.cons_append List.nil_append List.append_assoc Nat.zero_add Nat.add_zero List.all_cons List.all_nil Value.oneCell' Bool.and_true Bool.and_self if_true if_false Bool.false_eq_true partsA buildV buildA fillA Option.bind_some putCells List.drop_succ_cons List.drop_zero List.take_succ_cons List.take_zero List.take_nil List.drop_nil and_self and_true true_and Option.some.injEq ne_eq not_false_eq_true Option.map_map List.getElem?_toArray beq_self_eq_true Bool.true_beq Bool.false_beq Bool.not_true Bool.not_false decide_true decide_false beq_true Nat.mul_one Nat.one_mul Nat.zero_mul bsA buildSliceA zerosN List.append_nil Int.toNat_natCast Int.toNat_zero boxA one_val one_ptr one_sl one_mp one_ifc one_fn avCells_agg avCells_val valCells_true valCells_agg avCells_ptr avCells_sl avCells_mp avCells_ifc avCells_fn app_cons app_nil lookupA insertA ifaceV extractA kd2 ars127 fp127 ars60 fp60 ars31 fp31 eq2_99 eq2_84 eq2_47 fp52 sz2 kd3 sz3 kd4 sz4 kd5 sz5 kd9 sz9 kd22 sz22 el22 kd23 sz23 el23 kd25 sz25 zc25 fp25 fo25_0 fo25_1 fo25_2 fo25_3 fo25_4 fo25_5 fo25_6 fo25_7 fo25_8 fo25_9 fo25_10 fo25_11 fo25_12 fo25_13 fo25_14 fo25_15 fo25_16 fo25_17 kd31 sz31 zc31 ar31 kd32 sz32 el32 kd34 sz34 zc34 fp34 fo34_0 fo34_1 fo34_2 fo34_3 fo34_4 fo34_5 fo34_6 fo34_7 fo34_8 fo34_9 fo34_10 fo34_11 fo34_12 fo34_13 fo34_14 fo34_15 fo34_16 fo34_17 el38 el42 kd47 sz47 zc47 fp47 fo47_0 fo47_1 kd52 sz52 zc52 fo52_0 el55 zc60 kd72 sz72 zc72 fp72 fo72_0 fo72_1 el73 isStrMap76 zv4 kd80 sz80 kd84 sz84 zc84 fp84 fo84_0 fo84_1 kd88 sz88 zc88 fp88 fo88_0 fo88_1 fo88_2 fo88_3 kd91 sz91 zc91 fp91 fo91_0 fo91_1 fo91_2 el94 kd99 sz99 zc99 fp99 fo99_0 fo99_1 kd100 sz100 el100 kd102 sz102 zc102 fp102 fo102_0 fo102_1 fo102_2 fo102_3 fo102_4 fo102_5 fo102_6 fo102_7 fo102_8 fo102_9 fo102_10 fo102_11 fo102_12 fo102_13 fo102_14 fo102_15 kd109 sz109 zc109 fp109 isStrMap124 zv80 zc127 kd153 sz153 zc153 ar153 isIface157 kd159 sz159 zc159 fp159 isStrMap177 zv84 Tryz.underlying3 Tryz.underlying4 Tryz.underlying5 Tryz.underlying9 Tryz.underlying21 Tryz.underlying22 Tryz.underlying23 Tryz.underlying32 Tryz.underlying38 Tryz.underlying42 Tryz.underlying47 Tryz.underlying55 Tryz.underlying67 Tryz.underlying73 Tryz.underlying80 Tryz.underlying84 Tryz.underlying94 Tryz.underlying100 Tryz.underlying2 Tryz.underlying127 Tryz.underlying60 Tryz.underlying31
mutual
/-- Does it lead to no object? -/
def flat : AV → Bool
  | .val _ => true
  | .any => true
  | .ifc _ x => flat x
  | .agg l => flats l
  | .tup l => flats l
  | _ => false
def flats : List AV → Bool
  | [] => true
  | c :: l => flat c && flats l
end
mutual
theorem flat_rel {m m0 : Places} {w : World} : ∀ {c : AV} {v : Value}, flat c = true → rel m w c v → rel m0 w c v
  | .val _, _, _, h => h
  | .any, _, _, _ => trivial
  | .ifc _ x, _, hf, ⟨u, h1, h2⟩ => ⟨u, h1, flat_rel (by simpa [flat] using hf) h2⟩
  | .agg l, _, hf, ⟨vs, h1, h2⟩ => ⟨vs, h1, flats_rel (by simpa [flat] using hf) h2⟩
  | .tup l, _, hf, ⟨vs, h1, h2⟩ => ⟨vs, h1, flats_rel (by simpa [flat] using hf) h2⟩
  | .ptr .., _, hf, _ => by simp [flat] at hf
  | .sl .., _, hf, _ => by simp [flat] at hf
  | .mp .., _, hf, _ => by simp [flat] at hf
  | .fn .., _, hf, _ => by simp [flat] at hf
theorem flats_rel {m m0 : Places} {w : World} : ∀ {l : List AV} {vs : List Value}, flats l = true → rels m w l vs → rels m0 w l vs
  | [], [], _, _ => trivial
  | c :: l, v :: vs, hf, h => by
    simp only [flats, Bool.and_eq_true] at hf
    exact ⟨flat_rel hf.1 h.1, flats_rel hf.2 h.2⟩
  | [], _ :: _, _, h => h.elim
  | _ :: _, [], _, h => h.elim
end
/-- An answer that leads to no object: what was made is left out. -/
theorem ACalls.flat {P : Program} {C : Base} {f : FuncId} {args : List AV} {H : Heap} {x : AV} (hx : F.flat x = true) (h : ACalls P C f args H fun r H' => r = x ∧ ∃ G, H' = H ++ G) : ACalls P C f args H fun r H' => r = x ∧ H' = H :=
  ACalls.drop (R := fun r => r = x) h fun r hr m m0 w v hv => by subst hr; exact flat_rel hx hv
/-- The weekdays' variables. -/
structure GH (H : Heap) : Prop where
  mo : H[0]? = some (.ro [vI 0, vI 0])
  tu : H[2]? = some (.ro [vI 1, vI 0])
  we : H[3]? = some (.ro [vI 2, vI 0])
  th : H[4]? = some (.ro [vI 3, vI 0])
  fr : H[5]? = some (.ro [vI 4, vI 0])
  sa : H[6]? = some (.ro [vI 5, vI 0])
  su : H[7]? = some (.ro [vI 6, vI 0])
theorem GH.more {H : Heap} (h : GH H) (G : Heap) : GH (H ++ G) :=
  ⟨get_more h.mo, get_more h.tu, get_more h.we, get_more h.th, get_more h.fr, get_more h.sa, get_more h.su⟩
theorem GH.at {H : Heap} (h : GH H) : (∀ G, (H ++ G)[0]? = some (.ro [vI 0, vI 0])) ∧ (∀ G, (H ++ G)[2]? = some (.ro [vI 1, vI 0])) ∧ (∀ G, (H ++ G)[3]? = some (.ro [vI 2, vI 0])) ∧ (∀ G, (H ++ G)[4]? = some (.ro [vI 3, vI 0])) ∧ (∀ G, (H ++ G)[5]? = some (.ro [vI 4, vI 0])) ∧ (∀ G, (H ++ G)[6]? = some (.ro [vI 5, vI 0])) ∧ (∀ G, (H ++ G)[7]? = some (.ro [vI 6, vI 0])) :=
  ⟨fun _ => get_more h.mo, fun _ => get_more h.tu, fun _ => get_more h.we, fun _ => get_more h.th, fun _ => get_more h.fr, fun _ => get_more h.sa, fun _ => get_more h.su⟩
/-- An answer with an error beside it. -/
def exR {α : Type} (f : α → AV) (z : AV) : Except Nat α → AV
  | .ok a => .tup [f a, .val .nilIface]
  | .error t => .tup [z, .ifc t .any]
/-- A weekday's number by its name. -/
def wdNum (s : List UInt8) : Option Int := if s = [77, 79] then some 0 else if s = [84, 85] then some 1 else if s = [87, 69] then some 2 else if s = [84, 72] then some 3 else if s = [70, 82] then some 4 else if s = [83, 65] then some 5 else if s = [83, 85] then some 6 else none
def wdOf (s : List UInt8) : Except Nat (Int × Int) :=
  if s.length < 2 then .error 157 else match wdNum (s.drop (s.length - 2)) with
  | none => .error 157
  | some k => if 2 < s.length then (match Lib.atoiAll (s.take (s.length - 2)) with
    | .ok n => .ok (k, n)
    | _ => .error 207) else .ok (k, 0)
abbrev vD (d : Int × Int) : AV := .agg [vI d.1, vI d.2]
def wdR (s : List UInt8) : AV := exR vD (vD (0, 0)) (wdOf s)
theorem exR_flat {α : Type} {f : α → AV} {z : AV} (x : Except Nat α) (hz : F.flat z = true) (hf : ∀ a, F.flat (f a) = true) : F.flat (exR f z x) = true := by
  cases x with
  | ok a => simp [exR, F.flat, flats, hf a]
  | error t => simp [exR, F.flat, flats, hz]
theorem wdR_flat (s : List UInt8) : F.flat (wdR s) = true := exR_flat _ rfl fun _ => rfl
theorem wd_chain (s : List UInt8) : (if s = [77, 79] then some (vD (0, 0)) else if s = [84, 85] then some (vD (1, 0)) else if s = [87, 69] then some (vD (2, 0)) else if s = [84, 72] then some (vD (3, 0)) else if s = [70, 82] then some (vD (4, 0)) else if s = [83, 65] then some (vD (5, 0)) else if s = [83, 85] then some (vD (6, 0)) else none) = (wdNum s).map fun k => vD (k, 0) := by
  unfold wdNum
  repeat' split
  all_goals rfl
theorem strToWeekday_A {w0 : World} (hG : Glob w0) (s : List UInt8) (hs : s.length ≤ 1000000) (H : Heap) (hH : GH H) : ACalls Tryz.prog (CB w0) 90 [vS s] H fun r H' => r = wdR s ∧ H' = H := by
  refine ACalls.flat (wdR_flat s) ?_
  refine A_fun (N := 60) (rs := [.cell 2 84, .tmp 3]) Tryz.func90 rfl rfl rfl (by kernel_rfl) (by kernel_rfl) (Nat.le_of_ble_eq_true rfl) ?_
  rintro e he ⟨g0, -⟩
  simp only [go_sem, Nat.reduceLT, Nat.reduceBEq, Nat.reduceAdd, Int.reduceBEq, Nat.reduceLeDiff, reduceIte, Nat.reduceEqDiff, Int.reduceEq, Int.reduceLE, Int.reduceLT, Int.reduceNe, Nat.reduceMul, Nat.reduceSub, Int.reduceToNat, he, g0]
  refine condK_of (fun hc => ?_) fun hc => ?_
  · have hc := of_decide_eq_true hc
    simp only [go_sem, Nat.reduceLT, Nat.reduceBEq, Nat.reduceAdd, Int.reduceBEq, Nat.reduceLeDiff, reduceIte, Nat.reduceEqDiff, Int.reduceEq, Int.reduceLE, Int.reduceLT, Int.reduceNe, Nat.reduceMul, Nat.reduceSub, Int.reduceToNat, he, g0]
    refine ⟨by omega, callX_of (errorsNew_A _ _) (List.prefix_refl _) ?_⟩
    simp only [go_sem, Nat.reduceLT, Nat.reduceBEq, Nat.reduceAdd, Int.reduceBEq, Nat.reduceLeDiff, reduceIte, Nat.reduceEqDiff, Int.reduceEq, Int.reduceLE, Int.reduceLT, Int.reduceNe, Nat.reduceMul, Nat.reduceSub, Int.reduceToNat, he, setD_some]
    refine ⟨?_, _, rfl⟩
    unfold wdR wdOf
    rw [if_pos (by omega)]
    rfl
  · have hc := of_decide_eq_false hc
    obtain ⟨m0, m2, m3, m4, m5, m6, m7⟩ := hH.at
    have w1 : IntKind.i64.wrap ((s.length : Int) - 2) = ((s.length - 2 : Nat) : Int) := by rw [wI64 (by omega)]; omega
    simp (decide := true) only [go_sem, Nat.reduceLT, Nat.reduceBEq, Nat.reduceAdd, Int.reduceBEq, Nat.reduceLeDiff, reduceIte, Nat.reduceEqDiff, Int.reduceEq, Int.reduceLE, Int.reduceLT, Int.reduceNe, Nat.reduceMul, Nat.reduceSub, Int.reduceToNat, he, g0, m0, m2, m3, m4, m5, m6, m7, findA_nil, findA_cons, if_false, w1, nn]
    refine ⟨by omega, ?_⟩
    rw [List.take_length, wd_chain]
    unfold wdR wdOf
    rw [if_neg (by omega)]
    cases wdNum (s.drop (s.length - 2)) with
    | none =>
      simp only [Option.map_none, go_sem, Nat.reduceLT, Nat.reduceBEq, Nat.reduceAdd, Int.reduceBEq, Nat.reduceLeDiff, reduceIte, Nat.reduceEqDiff, Int.reduceEq, Int.reduceLE, Int.reduceLT, Int.reduceNe, Nat.reduceMul, Nat.reduceSub, Int.reduceToNat, he, g0]
      refine ⟨by omega, callX_of (errorsNew_A _ _) (List.prefix_refl _) ?_⟩
      simp only [go_sem, Nat.reduceLT, Nat.reduceBEq, Nat.reduceAdd, Int.reduceBEq, Nat.reduceLeDiff, reduceIte, Nat.reduceEqDiff, Int.reduceEq, Int.reduceLE, Int.reduceLT, Int.reduceNe, Nat.reduceMul, Nat.reduceSub, Int.reduceToNat, he, setD_some]
      exact ⟨rfl, _, rfl⟩
    | some k =>
      simp only [Option.map_some, go_sem, Nat.reduceLT, Nat.reduceBEq, Nat.reduceAdd, Int.reduceBEq, Nat.reduceLeDiff, reduceIte, Nat.reduceEqDiff, Int.reduceEq, Int.reduceLE, Int.reduceLT, Int.reduceNe, Nat.reduceMul, Nat.reduceSub, Int.reduceToNat, he, g0]
      refine condK_of (fun hd => ?_) fun hd => ?_
      · have hd := of_decide_eq_true hd
        simp only [go_sem, Nat.reduceLT, Nat.reduceBEq, Nat.reduceAdd, Int.reduceBEq, Nat.reduceLeDiff, reduceIte, Nat.reduceEqDiff, Int.reduceEq, Int.reduceLE, Int.reduceLT, Int.reduceNe, Nat.reduceMul, Nat.reduceSub, Int.reduceToNat, he, g0, w1, nn]
        refine ⟨by omega, callX_of (atoi_A hG _ (by rw [List.length_take]; omega) _) (List.prefix_refl _) ?_⟩
        rw [if_pos (by omega)]
        unfold atoiR
        cases Lib.atoiAll (s.take (s.length - 2)) with
        | ok n =>
          simp only [go_sem, Nat.reduceLT, Nat.reduceBEq, Nat.reduceAdd, Int.reduceBEq, Nat.reduceLeDiff, reduceIte, Nat.reduceEqDiff, Int.reduceEq, Int.reduceLE, Int.reduceLT, Int.reduceNe, Nat.reduceMul, Nat.reduceSub, Int.reduceToNat, he, g0, setD_some]
          exact ⟨rfl, _, rfl⟩
        | range =>
          simp only [go_sem, Nat.reduceLT, Nat.reduceBEq, Nat.reduceAdd, Int.reduceBEq, Nat.reduceLeDiff, reduceIte, Nat.reduceEqDiff, Int.reduceEq, Int.reduceLE, Int.reduceLT, Int.reduceNe, Nat.reduceMul, Nat.reduceSub, Int.reduceToNat, he, g0, setD_some]
          exact ⟨rfl, _, rfl⟩
        | _ =>
          simp only [go_sem, Nat.reduceLT, Nat.reduceBEq, Nat.reduceAdd, Int.reduceBEq, Nat.reduceLeDiff, reduceIte, Nat.reduceEqDiff, Int.reduceEq, Int.reduceLE, Int.reduceLT, Int.reduceNe, Nat.reduceMul, Nat.reduceSub, Int.reduceToNat, he, g0, setD_some]
          exact ⟨rfl, _, rfl⟩
      · have hd := of_decide_eq_false hd
        simp only [go_sem, Nat.reduceLT, Nat.reduceBEq, Nat.reduceAdd, Int.reduceBEq, Nat.reduceLeDiff, reduceIte, Nat.reduceEqDiff, Int.reduceEq, Int.reduceLE, Int.reduceLT, Int.reduceNe, Nat.reduceMul, Nat.reduceSub, Int.reduceToNat, he, g0, w1, nn]
        rw [if_neg (by omega)]
        exact ⟨rfl, _, rfl⟩
end Go.Proofs.YtlfpjdcogkcjlaaGreatDoor.F
