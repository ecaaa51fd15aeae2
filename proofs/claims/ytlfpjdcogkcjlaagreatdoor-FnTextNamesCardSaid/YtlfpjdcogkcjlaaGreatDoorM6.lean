/- Merged: T46 T26 T38 T47 T48 T49 -/
import Derived.Test.YtlfpjdcogkcjlaaGreatDoorM5
/- The specification's reading of a rule's text. -/
namespace Go.Proofs.YtlfpjdcogkcjlaaGreatDoor.F
open Go.RowKit Go.Proofs.YtlfpjdcogkcjlaaGreatDoor.AL Go.Proofs.YtlfpjdcogkcjlaaGreatDoor.B
set_option linter.unusedVariables false
set_option linter.unusedSimpArgs false
set_option maxRecDepth 20000
attribute [local irreducible] aops acode bindK bindV bindH callX callK condK guardK Kseq Kblk Knorm Kfun Kloop Kjoin outK AWp appendA Ktail
attribute [local go_sem] acode_skip acode_seq acode_region acode_cond acode_block acode_exit acode_ret acode_loop Kseq_normal Kseq_exit Kseq_ret Kblk_normal Kblk_ret Kblk_eq Kblk_ne Knorm_eq Kloop_normal Kloop_exit Kloop_ret Kjoin_normal Kjoin_exit Kjoin_ret condK_true condK_false bindK_put bindV_put bindK_no bindV_no bindH_no aops_nil gops wantK_some wantV_bool wantV_undef guardK_true guardK_false guardK_none aops_move aops_assign aops_pick aops_nilCheck aops_binOp aops_unOp aops_convert aops_fieldAddr aops_indexAddr aops_slice aops_index aops_extract aops_makeInterface aops_makeFunc aops_build aops_load aops_lookup aops_alloc aops_box aops_buildSlice aops_makeSlice aops_makeMap aops_store aops_insert aops_mapUpdate aops_len aops_append aops_call opA_tmp opA_const opA_global opA_func get_mk look_nil look_eq look_ne len_mk List.map_cons List.map_nil Option.map_some Option.map_none bin_add bin_sub bin_mul bin_quo bin_rem bin_eql bin_neq bin_lss bin_leq bin_gtr bin_geq bin_cat bin_seql bin_sneq bin_neq_ifc bin_eql_ifc bin_neq_nn bin_eql_nn bin_neq_ptr bin_eql_ptr bin_neq_pn isIfc_true isPtr_true bin_eql2 bin_neq2 aops_max max_int un_not un_neg lenA_K lenK_str lenK_nil lenK_sl lenK_array pick_bool pick_val bindV_ite bindK_ite bindH_ite slotV_sl slotK_some slotV_ptr slotR_some sliceV_sl cutK_some sliceV_str cutS_some bound_none bound_some indexA_str atS_some mkS fieldV_ptr loadV_ptr cellsK_ro cellsK_own loadK_one loadK_many storeA_ptr storeK_own allocA_some heap_len heap_get0 heap_get heap_set0 heap_set Kfun_ret Kfun_normal resA_nil resA_tmp resA_cell outK_some packA_one packA_nil packA_two List.length_cons List.length_nil List.getElem?_cons_zero List.getElem?_cons_succ List.set_cons_zero List.set_cons_succ List.cons_append List.nil_append List.append_assoc Nat.zero_add Nat.add_zero List.all_cons List.all_nil Value.oneCell' Bool.and_true Bool.and_self if_true if_false Bool.false_eq_true partsA buildV buildA fillA Option.bind_some putCells List.drop_succ_cons List.drop_zero List.take_succ_cons List.take_zero List.take_nil List.drop_nil and_self and_true true_and Option.some.injEq ne_eq not_false_eq_true Option.map_map List.getElem?_toArray beq_self_eq_true Bool.true_beq Bool.false_beq Bool.not_true Bool.not_false decide_true decide_false beq_true Nat.mul_one Nat.one_mul Nat.zero_mul bsA buildSliceA zerosN List.append_nil Int.toNat_natCast Int.toNat_zero boxA one_val one_ptr one_sl one_mp one_ifc one_fn avCells_agg avCells_val valCells_true valCells_agg avCells_ptr avCells_sl avCells_mp avCells_ifc avCells_fn app_cons app_nil lookupA insertA ifaceV extractA kd2 ars127 fp127 ars60 fp60 ars31 fp31 eq2_99 eq2_84 eq2_47 fp52 sz2 kd3 sz3 kd4 sz4 kd5 sz5 kd9 sz9 kd22 sz22 el22 kd23 sz23 el23 kd25 sz25 zc25 fp25 fo25_0 fo25_1 fo25_2 fo25_3 fo25_4 fo25_5 fo25_6 fo25_7 fo25_8 fo25_9 fo25_10 fo25_11 fo25_12 fo25_13 fo25_14 fo25_15 fo25_16 fo25_17 kd31 sz31 zc31 ar31 kd32 sz32 el32 kd34 sz34 zc34 fp34 fo34_0 fo34_1 fo34_2 fo34_3 fo34_4 fo34_5 fo34_6 fo34_7 fo34_8 fo34_9 fo34_10 fo34_11 fo34_12 fo34_13 fo34_14 fo34_15 fo34_16 fo34_17 el38 el42 kd47 sz47 zc47 fp47 fo47_0 fo47_1 kd52 sz52 zc52 fo52_0 el55 zc60 kd72 sz72 zc72 fp72 fo72_0 fo72_1 el73 kd80 sz80 kd84 sz84 zc84 fp84 fo84_0 fo84_1 kd88 sz88 zc88 fp88 fo88_0 fo88_1 fo88_2 fo88_3 kd91 sz91 zc91 fp91 fo91_0 fo91_1 fo91_2 el94 kd99 sz99 zc99 fp99 fo99_0 fo99_1 kd100 sz100 el100 kd102 sz102 zc102 fp102 fo102_0 fo102_1 fo102_2 fo102_3 fo102_4 fo102_5 fo102_6 fo102_7 fo102_8 fo102_9 fo102_10 fo102_11 fo102_12 fo102_13 fo102_14 fo102_15 kd109 sz109 zc109 fp109 isStrMap124 zv80 zc127 kd153 sz153 zc153 ar153 isIface157 kd159 sz159 zc159 fp159 isStrMap177 zv84 Tryz.underlying3 Tryz.underlying4 Tryz.underlying5 Tryz.underlying9 Tryz.underlying21 Tryz.underlying22 Tryz.underlying23 Tryz.underlying32 Tryz.underlying38 Tryz.underlying42 Tryz.underlying47 Tryz.underlying55 Tryz.underlying67 Tryz.underlying73 Tryz.underlying80 Tryz.underlying84 Tryz.underlying94 Tryz.underlying100 Tryz.underlying2 Tryz.underlying127 Tryz.underlying60 Tryz.underlying31 kd55 ai60 ai127 indexA_agg atK_some isStrMap76 zv4 Ktail_eq
/-- A part that can be read, and what it makes of a rule. -/
def SPut (q : Ru) (p : KV) (q' : Ru) : Prop :=
  (p.1 = [70, 82, 69, 81] ∧ ∃ f : Nat, ixS freqs p.2 = f ∧ f ≤ 6 ∧ q' = { q with freq := f }) ∨
  (p.1 = [85, 78, 84, 73, 76] ∧ ∃ t, InY t ∧ p.2 = dateText t ∧ q' = { q with til := t, hasUntil := true }) ∨
  (p.1 = [67, 79, 85, 78, 84] ∧ ∃ n, numOf p.2 = some n ∧ 0 < n ∧ q' = { q with count := n }) ∨
  (p.1 = [73, 78, 84, 69, 82, 86, 65, 76] ∧ ∃ n, numOf p.2 = some n ∧ 0 < n ∧ q' = { q with interval := n }) ∨
  (p.1 = [87, 75, 83, 84] ∧ ∃ w, ixS wdays p.2 = w ∧ 0 ≤ w ∧ q' = { q with wkst := w }) ∨
  (p.1 = [66, 89, 68, 65, 89] ∧ ∃ vs, (split 44 p.2).map swd = vs.map some ∧ q' = { q with day := vs }) ∨
  (p.1 = [66, 89, 83, 69, 67, 79, 78, 68] ∧ ∃ vs, (split 44 p.2).map numOf = vs.map some ∧ q' = { q with second := vs }) ∨
  (p.1 = [66, 89, 77, 73, 78, 85, 84, 69] ∧ ∃ vs, (split 44 p.2).map numOf = vs.map some ∧ q' = { q with minute := vs }) ∨
  (p.1 = [66, 89, 72, 79, 85, 82] ∧ ∃ vs, (split 44 p.2).map numOf = vs.map some ∧ q' = { q with hour := vs }) ∨
  (p.1 = [66, 89, 77, 79, 78, 84, 72, 68, 65, 89] ∧ ∃ vs, (split 44 p.2).map numOf = vs.map some ∧ q' = { q with monthDay := vs }) ∨
  (p.1 = [66, 89, 89, 69, 65, 82, 68, 65, 89] ∧ ∃ vs, (split 44 p.2).map numOf = vs.map some ∧ q' = { q with yearDay := vs }) ∨
  (p.1 = [66, 89, 87, 69, 69, 75, 78, 79] ∧ ∃ vs, (split 44 p.2).map numOf = vs.map some ∧ q' = { q with weekNo := vs }) ∨
  (p.1 = [66, 89, 77, 79, 78, 84, 72] ∧ ∃ vs, (split 44 p.2).map numOf = vs.map some ∧ q' = { q with month := vs }) ∨
  (p.1 = [66, 89, 83, 69, 84, 80, 79, 83] ∧ ∃ vs, (split 44 p.2).map numOf = vs.map some ∧ q' = { q with setPos := vs }) ∨
  (p.1 = [66, 89, 69, 65, 83, 84, 69, 82] ∧ ∃ vs, (split 44 p.2).map numOf = vs.map some ∧ q' = { q with easter := vs })
theorem part_A {w0 : World} (kv : KV) (hl : kv.2.length ≤ 100000) (q q' : Ru) (h : SPut q kv q') (H : Heap) (p : Nat) (x : Rs) (hp : H[p]? = some (.own 25 (ruCells q x))) (hx : RuW H q x) :
    ACalls Tryz.prog (CB w0) 40 [.ptr p 0, vS kv.1, vS kv.2] H (PartR H p q') := by
  obtain ⟨k, v⟩ := kv
  simp only [SPut] at h hl ⊢
  rcases h with ⟨rfl, f, h1, h2, rfl⟩ | ⟨rfl, t, h1, h2, rfl⟩ | ⟨rfl, n, h1, h2, rfl⟩ | ⟨rfl, n, h1, h2, rfl⟩ | ⟨rfl, w, h1, h2, rfl⟩ | ⟨rfl, vs, h1, rfl⟩ | ⟨rfl, vs, h1, rfl⟩ | ⟨rfl, vs, h1, rfl⟩ | ⟨rfl, vs, h1, rfl⟩ | ⟨rfl, vs, h1, rfl⟩ | ⟨rfl, vs, h1, rfl⟩ | ⟨rfl, vs, h1, rfl⟩ | ⟨rfl, vs, h1, rfl⟩ | ⟨rfl, vs, h1, rfl⟩ | ⟨rfl, vs, h1, rfl⟩
  · exact part_FREQ v hl f h1 h2 H p q x hp hx
  · exact part_UNTIL v hl t h1 h2 H p q x hp hx
  · exact part_COUNT v hl n h1 h2 H p q x hp hx
  · exact part_INTERVAL v hl n h1 h2 H p q x hp hx
  · exact part_WKST v hl w h1 h2 H p q x hp hx
  · exact part_BYDAY v hl vs h1 H p q x hp hx
  · exact part_BYSECOND v hl vs h1 H p q x hp hx
  · exact part_BYMINUTE v hl vs h1 H p q x hp hx
  · exact part_BYHOUR v hl vs h1 H p q x hp hx
  · exact part_BYMONTHDAY v hl vs h1 H p q x hp hx
  · exact part_BYYEARDAY v hl vs h1 H p q x hp hx
  · exact part_BYWEEKNO v hl vs h1 H p q x hp hx
  · exact part_BYMONTH v hl vs h1 H p q x hp hx
  · exact part_BYSETPOS v hl vs h1 H p q x hp hx
  · exact part_BYEASTER v hl vs h1 H p q x hp hx
/-- Parts one behind the other. -/
def SFold (q : Ru) : List KV → Ru → Prop
  | [], q' => q' = q
  | p :: L, q' => ∃ q1, SPut q p q1 ∧ SFold q1 L q'
/-- The names met. -/
def metL (ks : List (List UInt8)) : List (ByteArray × AV) := ks.map fun k => (S k, vB true)
theorem find_no {k : List UInt8} : ∀ {ks : List (List UInt8)}, k ∉ ks → findA (S k) (metL ks) = none
  | [], _ => rfl
  | a :: r, h => by
    show findA (S k) ((S a, vB true) :: metL r) = none
    rw [findA_cons, if_neg (fun e => h (by rw [e]; simp)), find_no fun hm => h (List.mem_cons_of_mem _ hm)]
theorem find_yes {k : List UInt8} : ∀ {ks : List (List UInt8)}, k ∈ ks → findA (S k) (metL ks) = some (vB true)
  | [], h => by cases h
  | a :: r, h => by
    show findA (S k) ((S a, vB true) :: metL r) = some (vB true)
    rw [findA_cons]
    split
    · rfl
    · rename_i hne
      rcases List.mem_cons.1 h with e | h
      · exact absurd e hne
      · exact find_yes h
def ruQ0 : Ru := ⟨0, false, 0, 1, 0, 0, false, 0, [], [], [], [], [], [], [], [], [], []⟩
def rsNil : Rs := ⟨vNil, vNil, vNil, vNil, vNil, vNil, vNil, vNil, vNil, vNil⟩
theorem RuW.nil (H : Heap) : RuW H ruQ0 rsNil := ⟨.inl ⟨rfl, rfl⟩, .inl ⟨rfl, rfl⟩, .inl ⟨rfl, rfl⟩, .inl ⟨rfl, rfl⟩, .inl ⟨rfl, rfl⟩, .inl ⟨rfl, rfl⟩, .inl ⟨rfl, rfl⟩, .inl ⟨rfl, rfl⟩, .inl ⟨rfl, rfl⟩, .inl ⟨rfl, rfl⟩⟩
theorem IntsOwn.same {h h' : Heap} {x : AV} {l : List Int} (hx : IntsOwn h x l) (hk : ∀ (p t : Nat) (cs : List AV), h[p]? = some (.own t cs) → (t = 3 ∨ t = 47) → h'[p]? = some (.own t cs)) : IntsOwn h' x l := by
  rcases hx with hx | ⟨q, h1, h2⟩
  · exact .inl hx
  · exact .inr ⟨q, h1, hk _ _ _ h2 (.inl rfl)⟩
theorem DaysO.same {h h' : Heap} {x : AV} {l : List (Int × Int)} (hx : DaysO 47 h x l) (hk : ∀ (p t : Nat) (cs : List AV), h[p]? = some (.own t cs) → (t = 3 ∨ t = 47) → h'[p]? = some (.own t cs)) : DaysO 47 h' x l := by
  rcases hx with hx | ⟨q, h1, h2⟩
  · exact .inl hx
  · exact .inr ⟨q, h1, hk _ _ _ h2 (.inr rfl)⟩
theorem RuW.same {h h' : Heap} {r : Ru} {x : Rs} (hx : RuW h r x) (hk : ∀ (p t : Nat) (cs : List AV), h[p]? = some (.own t cs) → (t = 3 ∨ t = 47) → h'[p]? = some (.own t cs)) : RuW h' r x :=
  ⟨hx.setPos.same hk, hx.month.same hk, hx.monthDay.same hk, hx.yearDay.same hk, hx.weekNo.same hk, hx.day.same hk, hx.hour.same hk, hx.minute.same hk, hx.second.same hk, hx.easter.same hk⟩
theorem read_A {w0 : World} (s : List UInt8) (hs : s.length ≤ 2000) (L : List KV) (hL : split 59 s = L.map kvT) (hkv : ∀ p ∈ L, split 61 (kvT p) = [p.1, p.2]) (hnd : (L.map (·.1)).Nodup) (hf : [70, 82, 69, 81] ∈ L.map (·.1)) (q' : Ru) (hq : SFold ruQ0 L q') (H : Heap) :
    ACalls Tryz.prog (CB w0) 19 [vS s] H fun r H' => (∃ x, r = .tup [.agg (ruCells q' x), vB true] ∧ RuW H' q' x) ∧ ∃ G, H' = H ++ G := by
  refine A_fun (N := 52) (rs := [.cell 2 25, .tmp 3]) Tryz.func19 rfl rfl rfl (by kernel_rfl) (by kernel_rfl) (Nat.le_of_ble_eq_true rfl) ?_
  rintro e he ⟨g0, -⟩
  have c2000 : decide ((2000 : Int) < (s.length : Int)) = false := decide_eq_false (by omega)
  simp only [go_sem, Nat.reduceLT, Nat.reduceBEq, Nat.reduceAdd, Int.reduceBEq, Nat.reduceLeDiff, reduceIte, Nat.reduceEqDiff, Int.reduceEq, Int.reduceLE, Int.reduceLT, Int.reduceNe, Nat.reduceMul, Nat.reduceSub, Int.reduceToNat, he, g0, c2000]
  refine callX_any (cut_A (w0 := w0) s 59 (by omega) _) ?_
  rintro r h ⟨⟨G, rfl⟩, o, rfl, ho, hol⟩
  rw [hL] at ho ⊢
  have hll : L.length = (L.map kvT).length := by simp
  have hsl := split_length 59 s
  have hsm : ∀ x ∈ L.map kvT, x.length ≤ s.length := fun x hx => split_mem (c := 59) (by rw [hL]; exact hx)
  rw [hL] at hsl
  have ho2 : H.length + 3 ≤ o := by simpa using hol
  simp only [go_sem, Nat.reduceLT, Nat.reduceBEq, Nat.reduceAdd, Int.reduceBEq, Nat.reduceLeDiff, reduceIte, Nat.reduceEqDiff, Int.reduceEq, Int.reduceLE, Int.reduceLT, Int.reduceNe, Nat.reduceMul, Nat.reduceSub, Int.reduceToNat, he, g0, setD_some]
  refine A_while L.length (fun k e h => ∃ (i : Nat) (q : Ru) (x : Rs) (z : List AV), i + k = L.length ∧ len e = 52 ∧ AL.get e 2 = .ptr H.length 0 ∧ AL.get e 4 = .ptr (H.length + 1) 0 ∧ AL.get e 5 = .mp (H.length + 2) ∧ AL.get e 16 = .sl true o 0 (L.map kvT).length 1 ∧ AL.get e 17 = vI (L.map kvT).length ∧ AL.get e 18 = vI i ∧
    (∃ G, h = H ++ G) ∧ h[H.length]? = some (.own 25 z) ∧ z.length = 18 ∧ h[H.length + 1]? = some (.own 25 (ruCells q x)) ∧ RuW h q x ∧ h[H.length + 2]? = some (.map (metL ((L.take i).map (·.1)))) ∧ h[o]? = some (.own 9 ((L.map kvT).map vS)) ∧ SFold q (L.drop i) q') (by kernel_rfl) ?_ ?_
  · simp only [go_sem, Nat.reduceLT, Nat.reduceBEq, Nat.reduceAdd, Int.reduceBEq, Nat.reduceLeDiff, reduceIte, Nat.reduceEqDiff, Int.reduceEq, Int.reduceLE, Int.reduceLT, Int.reduceNe, Nat.reduceMul, Nat.reduceSub, Int.reduceToNat, he, g0]
    refine ⟨0, ruQ0, rsNil, _, by omega, rfl, ⟨_, rfl⟩, rfl, rfl, rfl, RuW.nil _, ?_, ?_, hq⟩
    · rfl
    · simp only [List.append_assoc, List.cons_append, List.nil_append] at ho
      exact ho
  · rintro k e h ⟨i, q, x, z, hik, he, g2, g4, g5, g16, g17, g18, hGh, hz, hzl, hr, hW, hmp, ho, hq⟩
    have wi : IntKind.i64.wrap ((i : Int) + 1) = ((i + 1 : Nat) : Int) := by rw [wI64 (by omega)]; rfl
    simp only [go_sem, Nat.reduceLT, Nat.reduceBEq, Nat.reduceAdd, Int.reduceBEq, Nat.reduceLeDiff, reduceIte, Nat.reduceEqDiff, Int.reduceEq, Int.reduceLE, Int.reduceLT, Int.reduceNe, Nat.reduceMul, Nat.reduceSub, Int.reduceToNat, he, g2, g4, g5, g16, g17, g18]
    refine condK_of (fun hc => ?_) fun hc => ?_
    · have hc := of_decide_eq_true hc
      have hi : i < L.length := by omega
      have hLi : L[i]? = some L[i] := List.getElem?_eq_getElem hi
      have hdr : L.drop i = L[i] :: L.drop (i + 1) := List.drop_eq_getElem_cons hi
      generalize hpe : L[i] = pp at *
      rw [hdr] at hq
      obtain ⟨q1, hput, hq⟩ := hq
      have hpi : ((L.map kvT).map vS)[i]? = some (vS (kvT pp)) := by rw [List.getElem?_map, List.getElem?_map, hLi]; rfl
      have hcm : cellsK h[o]? = some ((L.map kvT).map vS) := by rw [ho]; rfl
      have hpm : pp ∈ L := List.mem_of_getElem? hLi
      have hpl := hsm (kvT pp) (List.mem_map.2 ⟨pp, hpm, rfl⟩)
      have hnk : pp.1 ∉ (L.take i).map (·.1) := fun hm => by
        obtain ⟨p2, hp2, e2⟩ := List.mem_map.1 hm
        obtain ⟨j, hj⟩ := List.getElem?_of_mem hp2
        have hji : j < i := by have := (List.getElem?_eq_some_iff.1 hj).1; rw [List.length_take] at this; omega
        rw [List.getElem?_take_of_lt hji] at hj
        have h1 : (L.map (·.1))[j]? = some pp.1 := by rw [List.getElem?_map, hj]; exact congrArg some e2
        have h2 : (L.map (·.1))[i]? = some pp.1 := by rw [List.getElem?_map, hLi]; rfl
        have := (List.getElem?_inj (by rw [List.length_map]; omega) hnd).1 (h1.trans h2.symm)
        omega
      simp only [go_sem, Nat.reduceLT, Nat.reduceBEq, Nat.reduceAdd, Int.reduceBEq, Nat.reduceLeDiff, reduceIte, Nat.reduceEqDiff, Int.reduceEq, Int.reduceLE, Int.reduceLT, Int.reduceNe, Nat.reduceMul, Nat.reduceSub, Int.reduceToNat, he, g2, g4, g5, g16, g17, g18, hcm, hpi, Int.toNat_natCast]
      refine ⟨by omega, callX_any (cut_A (w0 := w0) (kvT pp) 61 (by omega) _) ?_⟩
      rintro r h' ⟨⟨G1, rfl⟩, o1, rfl, ho1, hol1⟩
      rw [hkv pp hpm] at ho1 ⊢
      have hz1 := get_more (G := G1) hz
      have hr1 := get_more (G := G1) hr
      have hmp1 := get_more (G := G1) hmp
      have ho1' := get_more (G := G1) ho
      have hfn := find_no hnk
      have d2 : decide (((2 : Nat) : Int) = 2) = true := rfl
      have hc1 : cellsK (h ++ G1)[o1]? = some [vS pp.1, vS pp.2] := by rw [ho1]; rfl
      simp only [go_sem, Nat.reduceLT, Nat.reduceBEq, Nat.reduceAdd, Int.reduceBEq, Nat.reduceLeDiff, reduceIte, Nat.reduceEqDiff, Int.reduceEq, Int.reduceLE, Int.reduceLT, Int.reduceNe, Nat.reduceMul, Nat.reduceSub, Int.reduceToNat, he, g2, g4, g5, g16, g17, g18, setD_some, hc1, Int.toNat_zero, d2, hmp1, hfn]
      refine ⟨by omega, by omega, ?_⟩
      refine acode_tail [] 6 mixed (by kernel_rfl) (by kernel_rfl) (by kernel_rfl) ?_
      have hlt5 : H.length + 2 < (h ++ G1).length := (List.getElem?_eq_some_iff.1 hmp1).1
      have hmet : metL ((L.take i).map (·.1)) ++ [(S pp.1, AV.val (Value.bool true))] = metL ((L.take (i + 1)).map (·.1)) := by
        rw [take_snoc hLi, List.map_append]
        unfold metL
        rw [List.map_append]
        rfl
      rw [hmet]
      obtain ⟨hm, ehm⟩ : ∃ hm, hm = List.set (h ++ G1) (H.length + 2) (AObj.map (metL ((L.take (i + 1)).map (·.1)))) := ⟨_, rfl⟩
      have m1 : hm[H.length]? = some (.own 25 z) := by rw [ehm, List.getElem?_set_ne (by omega)]; exact hz1
      have m2 : hm[H.length + 1]? = some (.own 25 (ruCells q x)) := by rw [ehm, List.getElem?_set_ne (by omega)]; exact hr1
      have m3 : hm[H.length + 2]? = some (.map (metL ((L.take (i + 1)).map (·.1)))) := by rw [ehm, List.getElem?_set_self hlt5]
      have m4 : hm[o]? = some (.own 9 ((L.map kvT).map vS)) := by rw [ehm, List.getElem?_set_ne (by omega)]; exact ho1'
      have hho1 : H.length + 2 < h.length := (List.getElem?_eq_some_iff.1 hmp).1
      have m5 : cellsK hm[o1]? = some [vS pp.1, vS pp.2] := by rw [ehm, List.getElem?_set_ne (by omega)]; exact hc1
      have m6 : RuW hm q x := (hW.more G1).same fun p t cs hp ht => by
        rw [ehm, List.getElem?_set_ne]
        · exact hp
        · rintro rfl
          rw [hmp1] at hp
          cases hp
      have m7 : ∃ G, hm = H ++ G := by
        obtain ⟨G, rfl⟩ := hGh
        rw [ehm, List.append_assoc]
        exact ⟨_, set_behind (by omega)⟩
      rw [← ehm]
      clear ehm
      simp only [go_sem, Nat.reduceLT, Nat.reduceBEq, Nat.reduceAdd, Int.reduceBEq, Nat.reduceLeDiff, reduceIte, Nat.reduceEqDiff, Int.reduceEq, Int.reduceLE, Int.reduceLT, Int.reduceNe, Nat.reduceMul, Nat.reduceSub, Int.reduceToNat, he, g2, g4, g5, g16, g17, g18, m5, Int.toNat_zero, Int.toNat_one]
      refine ⟨by omega, by omega, ?_⟩
      have hvl : pp.2.length ≤ 100000 := by
        have e1 : (kvT pp).length = pp.1.length + (pp.2.length + 1) := by unfold kvT; rw [List.length_append, List.length_cons]
        omega
      refine callX_any (part_A pp hvl q q1 hput hm (H.length + 1) x m2 m6) ?_
      rintro r h3 ⟨rfl, x1, G3, rfl, hW3⟩
      simp only [go_sem, Nat.reduceLT, Nat.reduceBEq, Nat.reduceAdd, Int.reduceBEq, Nat.reduceLeDiff, reduceIte, Nat.reduceEqDiff, Int.reduceEq, Int.reduceLE, Int.reduceLT, Int.reduceNe, Nat.reduceMul, Nat.reduceSub, Int.reduceToNat, he, g2, g4, g5, g16, g17, g18, setD_some, wi]
      have hlt4 : H.length + 1 < hm.length := (List.getElem?_eq_some_iff.1 m2).1
      have ne3 : ∀ (p : Nat) (y : AObj), p ≠ H.length + 1 → hm[p]? = some y → (hm.set (H.length + 1) (AObj.own 25 (ruCells q1 x1)) ++ G3)[p]? = some y := fun p y hne hp => get_more (by rw [List.getElem?_set_ne (fun e => hne e.symm)]; exact hp)
      refine ⟨k - 1, by omega, i + 1, q1, x1, z, by omega, rfl, ?_, ne3 _ _ (by omega) m1, hzl, get_more (List.getElem?_set_self hlt4), hW3, ne3 _ _ (by omega) m3, ne3 _ _ (by omega) m4, hq⟩
      obtain ⟨G, rfl⟩ := m7
      exact ⟨G.set (H.length + 1 - H.length) _ ++ G3, by rw [set_behind (by omega), List.append_assoc]⟩
    · have hc := of_decide_eq_false hc
      have hi : i = L.length := by omega
      subst hi
      rw [List.drop_length] at hq
      have hq : q' = q := hq
      subst hq
      rw [List.take_length] at hmp
      have hfy := find_yes hf
      simp only [go_sem, Nat.reduceLT, Nat.reduceBEq, Nat.reduceAdd, Int.reduceBEq, Nat.reduceLeDiff, reduceIte, Nat.reduceEqDiff, Int.reduceEq, Int.reduceLE, Int.reduceLT, Int.reduceNe, Nat.reduceMul, Nat.reduceSub, Int.reduceToNat, he, g2, g4, g5, g16, g17, g18]
      refine acode_draw mixed (by kernel_rfl) ?_
      have hlt2 : H.length < h.length := (List.getElem?_eq_some_iff.1 hz).1
      have hS : ∀ y : AObj, (h.set H.length y)[H.length]? = some y := fun y => List.getElem?_set_self hlt2
      have hr' := hr
      unfold ruCells at hr'
      have hzd : z.drop 18 = [] := List.drop_eq_nil_of_le (by omega)
      simp only [go_sem, Nat.reduceLT, Nat.reduceBEq, Nat.reduceAdd, Int.reduceBEq, Nat.reduceLeDiff, reduceIte, Nat.reduceEqDiff, Int.reduceEq, Int.reduceLE, Int.reduceLT, Int.reduceNe, Nat.reduceMul, Nat.reduceSub, Int.reduceToNat, he, g2, g4, g5, g16, g17, g18, hz, hr', hmp, hfy, hzl, hzd, hS, hW.setPos.one, hW.month.one, hW.monthDay.one, hW.yearDay.one, hW.weekNo.one, hW.day.one, hW.hour.one, hW.minute.one, hW.second.one, hW.easter.one, Bool.true_and]
      refine ⟨⟨x, rfl, hW.putT hz (by decide) (by decide) _⟩, ?_⟩
      obtain ⟨G, rfl⟩ := hGh
      exact ⟨_, set_behind (Nat.le_refl _)⟩
end Go.Proofs.YtlfpjdcogkcjlaaGreatDoor.F
/- Texts that are no rules. -/
namespace Go.Proofs.YtlfpjdcogkcjlaaGreatDoor.F
open Go.RowKit Go.Proofs.YtlfpjdcogkcjlaaGreatDoor.AL Go.Proofs.YtlfpjdcogkcjlaaGreatDoor.B
set_option linter.unusedVariables false
set_option linter.unusedSimpArgs false
set_option maxRecDepth 20000
attribute [local irreducible] aops acode bindK bindV bindH callX callK condK guardK Kseq Kblk Knorm Kfun Kloop Kjoin outK AWp appendA
attribute [local go_sem] acode_skip acode_seq acode_region acode_cond acode_block acode_exit acode_ret acode_loop Kseq_normal Kseq_exit Kseq_ret Kblk_normal Kblk_ret Kblk_eq Kblk_ne Knorm_eq Kloop_normal Kloop_exit Kloop_ret Kjoin_normal Kjoin_exit Kjoin_ret condK_true condK_false bindK_put bindV_put bindK_no bindV_no bindH_no aops_nil gops wantK_some wantV_bool wantV_undef guardK_true guardK_false guardK_none aops_move aops_assign aops_pick aops_nilCheck aops_binOp aops_unOp aops_convert aops_fieldAddr aops_indexAddr aops_slice aops_index aops_extract aops_makeInterface aops_makeFunc aops_build aops_load aops_lookup aops_alloc aops_box aops_buildSlice aops_makeSlice aops_makeMap aops_store aops_insert aops_mapUpdate aops_len aops_append aops_call opA_tmp opA_const opA_global opA_func get_mk look_nil look_eq look_ne len_mk List.map_cons List.map_nil Option.map_some Option.map_none bin_add bin_sub bin_mul bin_quo bin_rem bin_eql bin_neq bin_lss bin_leq bin_gtr bin_geq bin_cat bin_seql bin_sneq bin_neq_ifc bin_eql_ifc bin_neq_nn bin_eql_nn bin_neq_ptr bin_eql_ptr bin_neq_pn isIfc_true isPtr_true bin_eql2 bin_neq2 aops_max max_int un_not un_neg lenA_K lenK_str lenK_nil lenK_sl lenK_array pick_bool pick_val bindV_ite bindK_ite bindH_ite slotV_sl slotK_some slotV_ptr slotR_some sliceV_sl cutK_some sliceV_str cutS_some bound_none bound_some indexA_str atS_some mkS fieldV_ptr loadV_ptr cellsK_ro cellsK_own loadK_one loadK_many storeA_ptr storeK_own allocA_some heap_len heap_get0 heap_get heap_set0 heap_set Kfun_ret Kfun_normal resA_nil resA_tmp resA_cell outK_some packA_one packA_nil packA_two List.length_cons List.length_nil List.getElem?_cons_zero List.getElem?_cons_succ List.set_cons_zero List.set_cons_succ List.cons_append List.nil_append List.append_assoc Nat.zero_add Nat.add_zero List.all_cons List.all_nil Value.oneCell' Bool.and_true Bool.and_self if_true if_false Bool.false_eq_true partsA buildV buildA fillA Option.bind_some putCells List.drop_succ_cons List.drop_zero List.take_succ_cons List.take_zero List.take_nil List.drop_nil and_self and_true true_and Option.some.injEq ne_eq not_false_eq_true Option.map_map List.getElem?_toArray beq_self_eq_true Bool.true_beq Bool.false_beq Bool.not_true Bool.not_false decide_true decide_false beq_true Nat.mul_one Nat.one_mul Nat.zero_mul bsA buildSliceA zerosN List.append_nil Int.toNat_natCast Int.toNat_zero boxA one_val one_ptr one_sl one_mp one_ifc one_fn avCells_agg avCells_val valCells_true valCells_agg avCells_ptr avCells_sl avCells_mp avCells_ifc avCells_fn app_cons app_nil lookupA insertA ifaceV extractA kd2 ars127 fp127 ars60 fp60 ars31 fp31 eq2_99 eq2_84 eq2_47 fp52 sz2 kd3 sz3 kd4 sz4 kd5 sz5 kd9 sz9 kd22 sz22 el22 kd23 sz23 el23 kd25 sz25 zc25 fp25 fo25_0 fo25_1 fo25_2 fo25_3 fo25_4 fo25_5 fo25_6 fo25_7 fo25_8 fo25_9 fo25_10 fo25_11 fo25_12 fo25_13 fo25_14 fo25_15 fo25_16 fo25_17 kd31 sz31 zc31 ar31 kd32 sz32 el32 kd34 sz34 zc34 fp34 fo34_0 fo34_1 fo34_2 fo34_3 fo34_4 fo34_5 fo34_6 fo34_7 fo34_8 fo34_9 fo34_10 fo34_11 fo34_12 fo34_13 fo34_14 fo34_15 fo34_16 fo34_17 el38 el42 kd47 sz47 zc47 fp47 fo47_0 fo47_1 kd52 sz52 zc52 fo52_0 el55 zc60 kd72 sz72 zc72 fp72 fo72_0 fo72_1 el73 isStrMap76 zv4 kd80 sz80 kd84 sz84 zc84 fp84 fo84_0 fo84_1 kd88 sz88 zc88 fp88 fo88_0 fo88_1 fo88_2 fo88_3 kd91 sz91 zc91 fp91 fo91_0 fo91_1 fo91_2 el94 kd99 sz99 zc99 fp99 fo99_0 fo99_1 kd100 sz100 el100 kd102 sz102 zc102 fp102 fo102_0 fo102_1 fo102_2 fo102_3 fo102_4 fo102_5 fo102_6 fo102_7 fo102_8 fo102_9 fo102_10 fo102_11 fo102_12 fo102_13 fo102_14 fo102_15 kd109 sz109 zc109 fp109 isStrMap124 zv80 zc127 kd153 sz153 zc153 ar153 isIface157 kd159 sz159 zc159 fp159 isStrMap177 zv84 Tryz.underlying3 Tryz.underlying4 Tryz.underlying5 Tryz.underlying9 Tryz.underlying21 Tryz.underlying22 Tryz.underlying23 Tryz.underlying32 Tryz.underlying38 Tryz.underlying42 Tryz.underlying47 Tryz.underlying55 Tryz.underlying67 Tryz.underlying73 Tryz.underlying80 Tryz.underlying84 Tryz.underlying94 Tryz.underlying100 Tryz.underlying2 Tryz.underlying127 Tryz.underlying60 Tryz.underlying31
theorem bad_suffix {r : Ru} (h : CleanP r) {b : List UInt8} (hv : b.all vis = true) (hb : b.length ≤ 100) (hn : b.all (fun c => c != 59) = true) (hf : fracB b = true) (hbad : ∀ o, ∃ t, opStep o b = .error t) : InText (textOf (parts (bare r)) ++ 59 :: b) ∧ ∃ t, opParse (textOf (parts (bare r)) ++ 59 :: b) = .error t := by
  have hpl := parts_length (r := bare r)
  have hne : parts (bare r) ≠ [] := fun e => by rw [e] at hpl; simp at hpl
  have hb59 : (59 : UInt8) ∉ b := fun hm => by have := List.all_eq_true.1 hn _ hm; revert this; decide
  have he : textOf (parts (bare r)) ++ 59 :: b = joinB 59 (parts (bare r) ++ [b]) := (joinB_snoc 59 b _ hne).symm
  have hsp : split 59 (textOf (parts (bare r)) ++ 59 :: b) = parts (bare r) ++ [b] := by
    rw [he]
    exact split_join (by simp) fun s hs => by
      rcases List.mem_append.1 hs with hs | hs
      · exact parts_no s hs
      · rw [List.mem_singleton] at hs; rw [hs]; exact hb59
  refine ⟨inText_of ?_ ?_ ?_ ?_, ?_⟩
  · exact visS_app (joinB_vis rfl parts_vis) fun c hc => by
      rcases List.mem_cons.1 hc with rfl | hc
      · rfl
      · exact List.all_eq_true.1 hv c hc
  · have := joinB_length 59 1388 (parts (bare r)) (parts_clean h)
    rw [List.length_append, List.length_cons]
    unfold textOf
    have : 1389 * (parts (bare r)).length ≤ 1389 * 15 := Nat.mul_le_mul_left _ hpl.1
    omega
  · have hh : ∀ l : List (List UInt8), (joinB 59 ((70 :: [82, 69, 81, 61] ++ freqs.getD (bare r).freq []) :: l)).head? = some 70 := by
      intro l
      cases l <;> rfl
    have : parts (bare r) = (70 :: [82, 69, 81, 61] ++ freqs.getD (bare r).freq []) :: (parts (bare r)).tail := rfl
    unfold textOf
    rw [this, List.head?_append, hh]
    exact (by decide : (some (70 : UInt8)) ≠ some 82)
  · rw [hsp]
    intro a ha k v hkv hk
    rcases List.mem_append.1 ha with ha | ha
    · rw [← kvs_parts] at ha
      obtain ⟨p, hp, rfl⟩ := List.mem_map.1 ha
      have ho := kvs_ok _ p hp
      rw [split_kv ho] at hkv
      simp only [List.cons.injEq, and_true] at hkv
      obtain ⟨rfl, rfl⟩ := hkv
      rcases hk with hk | hk
      · exact ho.2.2.2.2 hk
      · exact absurd hk ho.2.2.2.1
    · rw [List.mem_singleton] at ha
      subst ha
      exact fracB_spec hf a (by rw [split_none (idx_no hb59)]; simp) k v hkv hk
  · rw [he]
    exact parse_bad parts_no hb59 hbad
theorem badS0 {r : Ru} (h : CleanP r) : InText (textOf (parts (bare r)) ++ [59, 66, 89, 78, 79, 84, 72, 73, 78, 71, 61, 49]) ∧ ∃ t, opParse (textOf (parts (bare r)) ++ [59, 66, 89, 78, 79, 84, 72, 73, 78, 71, 61, 49]) = .error t :=
  bad_suffix h (by kernel_rfl) (by decide) (by kernel_rfl) (by kernel_rfl) fun o => ⟨157, by kernel_rfl⟩
theorem badS1 {r : Ru} (h : CleanP r) : InText (textOf (parts (bare r)) ++ [59, 66, 89, 72, 79, 85, 82, 61]) ∧ ∃ t, opParse (textOf (parts (bare r)) ++ [59, 66, 89, 72, 79, 85, 82, 61]) = .error t :=
  bad_suffix h (by kernel_rfl) (by decide) (by kernel_rfl) (by kernel_rfl) fun o => ⟨157, by kernel_rfl⟩
theorem badS2 {r : Ru} (h : CleanP r) : InText (textOf (parts (bare r)) ++ [59, 66, 89, 72, 79, 85, 82, 61, 120]) ∧ ∃ t, opParse (textOf (parts (bare r)) ++ [59, 66, 89, 72, 79, 85, 82, 61, 120]) = .error t :=
  bad_suffix h (by kernel_rfl) (by decide) (by kernel_rfl) (by kernel_rfl) fun o => ⟨207, by kernel_rfl⟩
theorem badS3 {r : Ru} (h : CleanP r) : InText (textOf (parts (bare r)) ++ [59, 66, 89, 72, 79, 85, 82, 61, 49, 44, 44, 50]) ∧ ∃ t, opParse (textOf (parts (bare r)) ++ [59, 66, 89, 72, 79, 85, 82, 61, 49, 44, 44, 50]) = .error t :=
  bad_suffix h (by kernel_rfl) (by decide) (by kernel_rfl) (by kernel_rfl) fun o => ⟨207, by kernel_rfl⟩
theorem badS4 {r : Ru} (h : CleanP r) : InText (textOf (parts (bare r)) ++ [59, 66, 89, 68, 65, 89, 61, 88, 88]) ∧ ∃ t, opParse (textOf (parts (bare r)) ++ [59, 66, 89, 68, 65, 89, 61, 88, 88]) = .error t :=
  bad_suffix h (by kernel_rfl) (by decide) (by kernel_rfl) (by kernel_rfl) fun o => ⟨157, by kernel_rfl⟩
theorem badS5 {r : Ru} (h : CleanP r) : InText (textOf (parts (bare r)) ++ [59, 66, 89, 68, 65, 89, 61, 77]) ∧ ∃ t, opParse (textOf (parts (bare r)) ++ [59, 66, 89, 68, 65, 89, 61, 77]) = .error t :=
  bad_suffix h (by kernel_rfl) (by decide) (by kernel_rfl) (by kernel_rfl) fun o => ⟨157, by kernel_rfl⟩
theorem badS6 {r : Ru} (h : CleanP r) : InText (textOf (parts (bare r)) ++ [59, 85, 78, 84, 73, 76, 61, 50, 48, 50, 48]) ∧ ∃ t, opParse (textOf (parts (bare r)) ++ [59, 85, 78, 84, 73, 76, 61, 50, 48, 50, 48]) = .error t :=
  bad_suffix h (by kernel_rfl) (by decide) (by kernel_rfl) (by kernel_rfl) fun o => ⟨157, by kernel_rfl⟩
theorem badS7 {r : Ru} (h : CleanP r) : InText (textOf (parts (bare r)) ++ [59, 85, 78, 84, 73, 76, 61, 50, 48, 50, 48, 49, 51, 48, 49, 84, 48, 48, 48, 48, 48, 48, 90]) ∧ ∃ t, opParse (textOf (parts (bare r)) ++ [59, 85, 78, 84, 73, 76, 61, 50, 48, 50, 48, 49, 51, 48, 49, 84, 48, 48, 48, 48, 48, 48, 90]) = .error t :=
  bad_suffix h (by kernel_rfl) (by decide) (by kernel_rfl) (by kernel_rfl) fun o => ⟨157, by kernel_rfl⟩
theorem badS8 {r : Ru} (h : CleanP r) : InText (textOf (parts (bare r)) ++ [59, 67, 79, 85, 78, 84, 61, 120]) ∧ ∃ t, opParse (textOf (parts (bare r)) ++ [59, 67, 79, 85, 78, 84, 61, 120]) = .error t :=
  bad_suffix h (by kernel_rfl) (by decide) (by kernel_rfl) (by kernel_rfl) fun o => ⟨207, by kernel_rfl⟩
theorem badS9 {r : Ru} (h : CleanP r) : InText (textOf (parts (bare r)) ++ [59, 73, 78, 84, 69, 82, 86, 65, 76, 61, 120]) ∧ ∃ t, opParse (textOf (parts (bare r)) ++ [59, 73, 78, 84, 69, 82, 86, 65, 76, 61, 120]) = .error t :=
  bad_suffix h (by kernel_rfl) (by decide) (by kernel_rfl) (by kernel_rfl) fun o => ⟨207, by kernel_rfl⟩
theorem badS10 {r : Ru} (h : CleanP r) : InText (textOf (parts (bare r)) ++ [59, 87, 75, 83, 84, 61, 65, 65]) ∧ ∃ t, opParse (textOf (parts (bare r)) ++ [59, 87, 75, 83, 84, 61, 65, 65]) = .error t :=
  bad_suffix h (by kernel_rfl) (by decide) (by kernel_rfl) (by kernel_rfl) fun o => ⟨157, by kernel_rfl⟩
theorem badF0 : InText [] ∧ ∃ t, opParse [] = .error t :=
  ⟨⟨by decide, fracB_spec (by kernel_rfl), by decide, by kernel_rfl, by decide, by kernel_rfl⟩, 157, by kernel_rfl⟩
theorem badF1 : InText [67, 79, 85, 78, 84, 61, 50] ∧ ∃ t, opParse [67, 79, 85, 78, 84, 61, 50] = .error t :=
  ⟨⟨by decide, fracB_spec (by kernel_rfl), by decide, by kernel_rfl, by decide, by kernel_rfl⟩, 157, by kernel_rfl⟩
theorem badF2 : InText [70, 82, 69, 81, 61] ∧ ∃ t, opParse [70, 82, 69, 81, 61] = .error t :=
  ⟨⟨by decide, fracB_spec (by kernel_rfl), by decide, by kernel_rfl, by decide, by kernel_rfl⟩, 157, by kernel_rfl⟩
theorem badF3 : InText [70, 82, 69, 81, 61, 78, 69, 86, 69, 82] ∧ ∃ t, opParse [70, 82, 69, 81, 61, 78, 69, 86, 69, 82] = .error t :=
  ⟨⟨by decide, fracB_spec (by kernel_rfl), by decide, by kernel_rfl, by decide, by kernel_rfl⟩, 157, by kernel_rfl⟩
theorem badF4 : InText [70, 82, 69, 81, 61, 100, 97, 105, 108, 121, 32, 120] ∧ ∃ t, opParse [70, 82, 69, 81, 61, 100, 97, 105, 108, 121, 32, 120] = .error t :=
  ⟨⟨by decide, fracB_spec (by kernel_rfl), by decide, by kernel_rfl, by decide, by kernel_rfl⟩, 157, by kernel_rfl⟩
/-- The texts that are none. -/
def bads (t : List UInt8) : List (List UInt8) := [[], [67, 79, 85, 78, 84, 61, 50], [70, 82, 69, 81, 61], [70, 82, 69, 81, 61, 78, 69, 86, 69, 82], [70, 82, 69, 81, 61, 100, 97, 105, 108, 121, 32, 120], t ++ [59, 66, 89, 78, 79, 84, 72, 73, 78, 71, 61, 49], t ++ [59, 66, 89, 72, 79, 85, 82, 61], t ++ [59, 66, 89, 72, 79, 85, 82, 61, 120], t ++ [59, 66, 89, 72, 79, 85, 82, 61, 49, 44, 44, 50], t ++ [59, 66, 89, 68, 65, 89, 61, 88, 88], t ++ [59, 66, 89, 68, 65, 89, 61, 77], t ++ [59, 85, 78, 84, 73, 76, 61, 50, 48, 50, 48], t ++ [59, 85, 78, 84, 73, 76, 61, 50, 48, 50, 48, 49, 51, 48, 49, 84, 48, 48, 48, 48, 48, 48, 90], t ++ [59, 67, 79, 85, 78, 84, 61, 120], t ++ [59, 73, 78, 84, 69, 82, 86, 65, 76, 61, 120], t ++ [59, 87, 75, 83, 84, 61, 65, 65]]
theorem bads_ok {r : Ru} (h : CleanP r) {k : Nat} (hk : k < 16) : ∃ b, (bads (textOf (parts (bare r))))[k]? = some b ∧ InText b ∧ ∃ t, opParse b = .error t := by
  match k, hk with
  | 0, _ => exact ⟨_, rfl, badF0⟩
  | 1, _ => exact ⟨_, rfl, badF1⟩
  | 2, _ => exact ⟨_, rfl, badF2⟩
  | 3, _ => exact ⟨_, rfl, badF3⟩
  | 4, _ => exact ⟨_, rfl, badF4⟩
  | 5, _ => exact ⟨_, rfl, badS0 h⟩
  | 6, _ => exact ⟨_, rfl, badS1 h⟩
  | 7, _ => exact ⟨_, rfl, badS2 h⟩
  | 8, _ => exact ⟨_, rfl, badS3 h⟩
  | 9, _ => exact ⟨_, rfl, badS4 h⟩
  | 10, _ => exact ⟨_, rfl, badS5 h⟩
  | 11, _ => exact ⟨_, rfl, badS6 h⟩
  | 12, _ => exact ⟨_, rfl, badS7 h⟩
  | 13, _ => exact ⟨_, rfl, badS8 h⟩
  | 14, _ => exact ⟨_, rfl, badS9 h⟩
  | 15, _ => exact ⟨_, rfl, badS10 h⟩
  | k + 16, hk => exact absurd hk (by omega)
end Go.Proofs.YtlfpjdcogkcjlaaGreatDoor.F
/- What the parts of a rule's text tell: each puts its number, moment, day or list into the options. -/
namespace Go.Proofs.YtlfpjdcogkcjlaaGreatDoor.F
open Go.RowKit Go.Proofs.YtlfpjdcogkcjlaaGreatDoor.AL Go.Proofs.YtlfpjdcogkcjlaaGreatDoor.B
set_option linter.unusedVariables false
set_option linter.unusedSimpArgs false
set_option maxRecDepth 20000
attribute [local irreducible] aops acode bindK bindV bindH callX callK condK guardK Kseq Kblk Knorm Kfun Kloop Kjoin outK AWp appendA
attribute [local go_sem] acode_skip acode_seq acode_region acode_cond acode_block acode_exit acode_ret acode_loop Kseq_normal Kseq_exit Kseq_ret Kblk_normal Kblk_ret Kblk_eq Kblk_ne Knorm_eq Kloop_normal Kloop_exit Kloop_ret Kjoin_normal Kjoin_exit Kjoin_ret condK_true condK_false bindK_put bindV_put bindK_no bindV_no bindH_no aops_nil gops wantK_some wantV_bool wantV_undef guardK_true guardK_false guardK_none aops_move aops_assign aops_pick aops_nilCheck aops_binOp aops_unOp aops_convert aops_fieldAddr aops_indexAddr aops_slice aops_index aops_extract aops_makeInterface aops_makeFunc aops_build aops_load aops_lookup aops_alloc aops_box aops_buildSlice aops_makeSlice aops_makeMap aops_store aops_insert aops_mapUpdate aops_len aops_append aops_call opA_tmp opA_const opA_global opA_func get_mk look_nil look_eq look_ne len_mk List.map_cons List.map_nil Option.map_some Option.map_none bin_add bin_sub bin_mul bin_quo bin_rem bin_eql bin_neq bin_lss bin_leq bin_gtr bin_geq bin_cat bin_seql bin_sneq bin_neq_ifc bin_eql_ifc bin_neq_nn bin_eql_nn bin_neq_ptr bin_eql_ptr bin_neq_pn isIfc_true isPtr_true bin_eql2 bin_neq2 aops_max max_int un_not un_neg lenA_K lenK_str lenK_nil lenK_sl lenK_array pick_bool pick_val bindV_ite bindK_ite bindH_ite slotV_sl slotK_some slotV_ptr slotR_some sliceV_sl cutK_some sliceV_str cutS_some bound_none bound_some indexA_str atS_some mkS fieldV_ptr loadV_ptr cellsK_ro cellsK_own loadK_one loadK_many storeA_ptr storeK_own allocA_some heap_len heap_get0 heap_get heap_set0 heap_set Kfun_ret Kfun_normal resA_nil resA_tmp resA_cell outK_some packA_one packA_nil packA_two List.length_cons List.length_nil List.getElem?_cons_zero List.getElem?_cons_succ List.set_cons_zero List.set_cons_succ List.cons_append List.nil_append List.append_assoc Nat.zero_add Nat.add_zero List.all_cons List.all_nil Value.oneCell' Bool.and_true Bool.and_self if_true if_false Bool.false_eq_true partsA buildV buildA fillA Option.bind_some putCells List.drop_succ_cons List.drop_zero List.take_succ_cons List.take_zero List.take_nil List.drop_nil and_self and_true true_and Option.some.injEq ne_eq not_false_eq_true Option.map_map List.getElem?_toArray beq_self_eq_true Bool.true_beq Bool.false_beq Bool.not_true Bool.not_false decide_true decide_false beq_true Nat.mul_one Nat.one_mul Nat.zero_mul bsA buildSliceA zerosN List.append_nil Int.toNat_natCast Int.toNat_zero boxA one_val one_ptr one_sl one_mp one_ifc one_fn avCells_agg avCells_val valCells_true valCells_agg avCells_ptr avCells_sl avCells_mp avCells_ifc avCells_fn app_cons app_nil lookupA insertA ifaceV extractA kd2 ars127 fp127 ars60 fp60 ars31 fp31 eq2_99 eq2_84 eq2_47 fp52 sz2 kd3 sz3 kd4 sz4 kd5 sz5 kd9 sz9 kd22 sz22 el22 kd23 sz23 el23 kd25 sz25 zc25 fp25 fo25_0 fo25_1 fo25_2 fo25_3 fo25_4 fo25_5 fo25_6 fo25_7 fo25_8 fo25_9 fo25_10 fo25_11 fo25_12 fo25_13 fo25_14 fo25_15 fo25_16 fo25_17 kd31 sz31 zc31 ar31 kd32 sz32 el32 kd34 sz34 zc34 fp34 fo34_0 fo34_1 fo34_2 fo34_3 fo34_4 fo34_5 fo34_6 fo34_7 fo34_8 fo34_9 fo34_10 fo34_11 fo34_12 fo34_13 fo34_14 fo34_15 fo34_16 fo34_17 el38 el42 kd47 sz47 zc47 fp47 fo47_0 fo47_1 kd52 sz52 zc52 fo52_0 el55 zc60 kd72 sz72 zc72 fp72 fo72_0 fo72_1 el73 kd80 sz80 kd84 sz84 zc84 fp84 fo84_0 fo84_1 kd88 sz88 zc88 fp88 fo88_0 fo88_1 fo88_2 fo88_3 kd91 sz91 zc91 fp91 fo91_0 fo91_1 fo91_2 el94 kd99 sz99 zc99 fp99 fo99_0 fo99_1 kd100 sz100 el100 kd102 sz102 zc102 fp102 fo102_0 fo102_1 fo102_2 fo102_3 fo102_4 fo102_5 fo102_6 fo102_7 fo102_8 fo102_9 fo102_10 fo102_11 fo102_12 fo102_13 fo102_14 fo102_15 kd109 sz109 zc109 fp109 isStrMap124 zv80 zc127 kd153 sz153 zc153 ar153 isIface157 kd159 sz159 zc159 fp159 isStrMap177 zv84 Tryz.underlying3 Tryz.underlying4 Tryz.underlying5 Tryz.underlying9 Tryz.underlying21 Tryz.underlying22 Tryz.underlying23 Tryz.underlying32 Tryz.underlying38 Tryz.underlying42 Tryz.underlying47 Tryz.underlying55 Tryz.underlying67 Tryz.underlying73 Tryz.underlying80 Tryz.underlying84 Tryz.underlying94 Tryz.underlying100 Tryz.underlying2 Tryz.underlying127 Tryz.underlying60 Tryz.underlying31 kd55 ai60 ai127 indexA_agg atK_some isStrMap76 zv4
set_option maxRecDepth 200000
def atoiOk (n : Int) : Bool := (match atoiE (Lib.itoa n) with | .ok m => decide (m = n) | .error _ => false) && decide ((Lib.itoa n).length ≤ 5) && decide (0 < (Lib.itoa n).length)
theorem atoi_all : ((List.range 2001).all fun k => atoiOk ((k : Int) - 1000)) = true := by kernel_rfl
theorem atoi_itoa {n : Int} (h0 : -1000 ≤ n) (h1 : n ≤ 1000) : atoiE (Lib.itoa n) = .ok n ∧ (Lib.itoa n).length ≤ 5 ∧ 0 < (Lib.itoa n).length := by
  have h := List.all_eq_true.1 atoi_all (n + 1000).toNat (List.mem_range.2 (by omega))
  rw [show (((n + 1000).toNat : Nat) : Int) - 1000 = n by omega] at h
  unfold atoiOk at h
  simp only [Bool.and_eq_true, decide_eq_true_eq] at h
  obtain ⟨⟨h2, h3⟩, h4⟩ := h
  refine ⟨?_, h3, h4⟩
  split at h2
  · rename_i m hm
    rw [hm, of_decide_eq_true h2]
  · cases h2
def wdOk (a b : Int) : Bool := (match wdOf (dayText (a, b)) with | .ok d => decide (d.1 = a) && decide (d.2 = b) | .error _ => false) && decide ((dayText (a, b)).length ≤ 5) && (dayText (a, b)).all (fun c => c != 44) && decide (0 < (dayText (a, b)).length)
theorem wd_all : ((List.range 7).all fun a => (List.range 107).all fun b => wdOk (a : Int) ((b : Int) - 53)) = true := by kernel_rfl
theorem wd_text {d : Int × Int} (h0 : 0 ≤ d.1) (h1 : d.1 ≤ 6) (h2 : -53 ≤ d.2) (h3 : d.2 ≤ 53) : wdOf (dayText d) = .ok d ∧ (dayText d).length ≤ 5 ∧ (44 : UInt8) ∉ dayText d ∧ 0 < (dayText d).length := by
  obtain ⟨a, b⟩ := d
  simp only at h0 h1 h2 h3
  have h := List.all_eq_true.1 (List.all_eq_true.1 wd_all a.toNat (List.mem_range.2 (by omega))) (b + 53).toNat (List.mem_range.2 (by omega))
  rw [show ((a.toNat : Nat) : Int) = a by omega, show (((b + 53).toNat : Nat) : Int) - 53 = b by omega] at h
  unfold wdOk at h
  simp only [Bool.and_eq_true, decide_eq_true_eq] at h
  obtain ⟨⟨⟨h4, h5⟩, h6⟩, h7⟩ := h
  refine ⟨?_, h5, fun hm => ?_, h7⟩
  · split at h4
    · rename_i d hd
      simp only [Bool.and_eq_true, decide_eq_true_eq] at h4
      rw [hd]
      exact congrArg Except.ok (Prod.ext h4.1 h4.2)
    · cases h4
  · have := List.all_eq_true.1 h6 _ hm
    revert this; decide
/-- Numbers that a rule may name. -/
def Small (l : List Int) : Prop := l.length ≤ 12 ∧ ∀ n ∈ l, -1000 ≤ n ∧ n ≤ 1000
theorem intsOf_joined {l : List Int} (h0 : l ≠ []) (h : Small l) : intsOf (joined l) = .ok l := by
  unfold intsOf joined
  rw [split_join (by simpa using h0) fun s hs hm => by
    obtain ⟨n, hn, rfl⟩ := List.mem_map.1 hs
    exact (itoa_noFrac n _ hm).2 rfl]
  rw [mapAcc_map (v := fun n : Int => n) l [] fun n hn => (atoi_itoa (h.2 n hn).1 (h.2 n hn).2).1]
  simp
def SmallD (l : List (Int × Int)) : Prop := l.length ≤ 12 ∧ ∀ d ∈ l, 0 ≤ d.1 ∧ d.1 ≤ 6 ∧ -53 ≤ d.2 ∧ d.2 ≤ 53
theorem daysOf_days {l : List (Int × Int)} (h0 : l ≠ []) (h : SmallD l) : daysOf (days l) = .ok l := by
  unfold daysOf days
  rw [split_join (by simpa using h0) fun s hs hm => by
    obtain ⟨n, hn, rfl⟩ := List.mem_map.1 hs
    obtain ⟨a, b, c, d⟩ := h.2 n hn
    exact (wd_text a b c d).2.2.1 hm]
  rw [mapAcc_map (v := fun n : Int × Int => n) l [] fun n hn => by
    obtain ⟨a, b, c, d⟩ := h.2 n hn
    exact (wd_text a b c d).1]
  simp
theorem joined_small {l : List Int} (h : Small l) : (joined l).length ≤ 72 := by
  have := joinB_length 44 5 (l.map Lib.itoa) (fun s hs => by
    obtain ⟨n, hn, rfl⟩ := List.mem_map.1 hs
    exact (atoi_itoa (h.2 n hn).1 (h.2 n hn).2).2.1)
  rw [List.length_map] at this
  have := h.1
  unfold joined
  omega
theorem days_small {l : List (Int × Int)} (h : SmallD l) : (days l).length ≤ 72 := by
  have := joinB_length 44 5 (l.map dayText) (fun s hs => by
    obtain ⟨n, hn, rfl⟩ := List.mem_map.1 hs
    obtain ⟨a, b, c, d⟩ := h.2 n hn
    exact (wd_text a b c d).2.1)
  rw [List.length_map] at this
  have := h.1
  unfold days
  omega
theorem joinB_pos {c : UInt8} : ∀ {l : List (List UInt8)}, l ≠ [] → (∀ s ∈ l, 0 < s.length) → 0 < (joinB c l).length
  | [], h, _ => absurd rfl h
  | [a], _, h => h a (by simp)
  | a :: b :: r, _, h => by
    show 0 < (a ++ c :: joinB c (b :: r)).length
    rw [List.length_append]
    have := h a (by simp)
    omega
theorem joined_pos {l : List Int} (h0 : l ≠ []) (h : Small l) : 0 < (joined l).length := joinB_pos (by simpa using h0) fun s hs => by
  obtain ⟨n, hn, rfl⟩ := List.mem_map.1 hs
  exact (atoi_itoa (h.2 n hn).1 (h.2 n hn).2).2.2
theorem days_pos {l : List (Int × Int)} (h0 : l ≠ []) (h : SmallD l) : 0 < (days l).length := joinB_pos (by simpa using h0) fun s hs => by
  obtain ⟨n, hn, rfl⟩ := List.mem_map.1 hs
  obtain ⟨a, b, c, d⟩ := h.2 n hn
  exact (wd_text a b c d).2.2.2
/-- A rule that may be written: its numbers are small. -/
structure Wr (r : Ru) : Prop where
  freq : r.freq ≤ 6
  wkst : 0 ≤ r.wkst ∧ r.wkst ≤ 6
  interval : 0 ≤ r.interval ∧ r.interval ≤ 1000
  count : 0 ≤ r.count ∧ r.count ≤ 1000
  til : r.hasUntil = true → InY r.til ∧ r.til ≠ 0
  tilNo : r.hasUntil = false → r.til = 0
  start : r.hasStart = false ∧ r.start = 0
  setPos : Small r.setPos
  month : Small r.month
  monthDay : Small r.monthDay
  yearDay : Small r.yearDay
  weekNo : Small r.weekNo
  day : SmallD r.day
  hour : Small r.hour
  minute : Small r.minute
  second : Small r.second
  easter : Small r.easter
theorem small_of {l : List Int} {low high : Int} {zero : Bool} (h : within l 12 low high zero = true) (h0 : -1000 ≤ low) (h1 : high ≤ 1000) : Small l := by
  obtain ⟨a, b, _⟩ := within_spec h
  exact ⟨by omega, fun n hn => by have := b n hn; omega⟩
theorem wr_bare {r : Ru} (hb : bareOk r = true) : CleanP r ∧ Wr (bare r) := by
  unfold bareOk at hb
  rw [Bool.and_eq_true] at hb
  have h := clean_spec hb.1
  have hm := mostOf_bound r
  refine ⟨h, h.freq, h.wkst, h.interval, h.count, fun hu => ?_, fun hu => ?_, ⟨rfl, rfl⟩, small_of h.setPos (by omega) (by omega), small_of h.month (by omega) (by omega), small_of h.monthDay (by omega) (by omega), small_of h.yearDay (by omega) (by omega), small_of h.weekNo (by omega) (by omega), ⟨h.dayLen, fun d hd => ?_⟩, small_of h.hour (by omega) (by omega), small_of h.minute (by omega) (by omega), small_of h.second (by omega) (by omega), small_of h.easter (by omega) (by omega)⟩
  · have hu' : r.hasUntil = true := hu
    have h2 := hb.2
    rw [hu'] at h2
    have h3 := h.til hu'
    have h4 := h.start
    have e : (bare r).til = r.til := by unfold bare; simp only [hu', if_true]
    rw [e]
    have h5 : before 10000 * 86400 = 315537897600 := by decide
    refine ⟨⟨by omega, by omega⟩, ?_⟩
    simpa using h2
  · have hu' : r.hasUntil = false := hu
    unfold bare
    simp only [hu', Bool.false_eq_true, if_false]
  · obtain ⟨i, hi⟩ := List.getElem?_of_mem (show d ∈ r.day from hd)
    obtain ⟨_, e1, e2, e3, e4⟩ := h.day i d hi
    exact ⟨e1, e2, by omega, by omega⟩
/-- A part by its name, put into the options. -/
def opSet (r : Ru) (o : Op) (k : List UInt8) : Op where
  freq := if k = [70, 82, 69, 81] then r.freq else o.freq
  dt := o.dt
  interval := if k = [73, 78, 84, 69, 82, 86, 65, 76] then r.interval else o.interval
  wkst := if k = [87, 75, 83, 84] then (r.wkst, 0) else o.wkst
  count := if k = [67, 79, 85, 78, 84] then r.count else o.count
  til := if k = [85, 78, 84, 73, 76] then r.til else o.til
  pos := if k = [66, 89, 83, 69, 84, 80, 79, 83] then r.setPos else o.pos
  month := if k = [66, 89, 77, 79, 78, 84, 72] then r.month else o.month
  mday := if k = [66, 89, 77, 79, 78, 84, 72, 68, 65, 89] then r.monthDay else o.mday
  yday := if k = [66, 89, 89, 69, 65, 82, 68, 65, 89] then r.yearDay else o.yday
  weekno := if k = [66, 89, 87, 69, 69, 75, 78, 79] then r.weekNo else o.weekno
  hour := if k = [66, 89, 72, 79, 85, 82] then r.hour else o.hour
  minute := if k = [66, 89, 77, 73, 78, 85, 84, 69] then r.minute else o.minute
  second := if k = [66, 89, 83, 69, 67, 79, 78, 68] then r.second else o.second
  easter := if k = [66, 89, 69, 65, 83, 84, 69, 82] then r.easter else o.easter
  day := if k = [66, 89, 68, 65, 89] then r.day else o.day
  set := if k = [70, 82, 69, 81] then true else o.set
theorem freq_text {f : Nat} (h : f ≤ 6) : freqOf (freqs.getD f []) = some (f : Int) ∧ 0 < (freqs.getD f []).length ∧ (freqs.getD f []).length ≤ 8 := by
  have : f = 0 ∨ f = 1 ∨ f = 2 ∨ f = 3 ∨ f = 4 ∨ f = 5 ∨ f = 6 := by omega
  rcases this with rfl | rfl | rfl | rfl | rfl | rfl | rfl <;> exact ⟨by kernel_rfl, by decide, by decide⟩
theorem wkst_text {w : Int} (h0 : 0 ≤ w) (h1 : w ≤ 6) : wdOf (wdays.getD w.toNat []) = .ok (w, 0) ∧ (wdays.getD w.toNat []).length = 2 := by
  have : w = 0 ∨ w = 1 ∨ w = 2 ∨ w = 3 ∨ w = 4 ∨ w = 5 ∨ w = 6 := by omega
  rcases this with rfl | rfl | rfl | rfl | rfl | rfl | rfl <;> exact ⟨by kernel_rfl, by decide⟩
theorem opStep_of {o : Op} {p : KV} (h : kvOk p) (hv : 0 < p.2.length) : opStep o (kvT p) = opPut o p.1 p.2 := by
  unfold opStep
  rw [split_kv h]
  simp only
  rw [if_neg (by omega)]
theorem kOne_mem {n : List UInt8} {l : List Int} {p : KV} (h : p ∈ kOne n l) : p = (n, joined l) ∧ l ≠ [] := by
  unfold kOne at h
  split at h
  · cases h
  · rename_i h0
    rw [List.mem_singleton] at h
    exact ⟨h, fun e => h0 (by rw [e]; rfl)⟩
theorem opStep_kv {r : Ru} (h : Wr r) {p : KV} (hp : p ∈ kvs r) (o : Op) : opStep o (kvT p) = .ok (opSet r o p.1) := by
  have hk := kvs_ok r p hp
  unfold kvs at hp
  simp only [List.mem_append] at hp
  rcases hp with (((((hp | hp) | hp) | hp) | hp) | hp) | hp
  · rw [List.mem_singleton] at hp
    subst hp
    obtain ⟨h1, h2, h3⟩ := freq_text h.freq
    rw [opStep_of hk h2]
    simp only
    generalize freqs.getD r.freq [] = v at h1 ⊢
    simp [opPut, optFreq, h1, optE, opSet, Except.map]
  · split at hp
    · rename_i hu
      rw [List.mem_singleton] at hp
      subst hp
      have ht := h.til hu
      rw [opStep_of hk (by show 0 < (dateText r.til).length; rw [dateText_eq, List.length_append, dateB_len ht.1.1 ht.1.2]; simp)]
      simp [opPut, loc_full ht.1.1 ht.1.2, optE, opSet, Except.map]
    · cases hp
  · split at hp
    · rw [List.mem_singleton] at hp
      subst hp
      have hc := atoi_itoa (n := r.count) (by have := h.count; omega) h.count.2
      rw [opStep_of hk hc.2.2]
      simp [opPut, hc.1, opSet, Except.map]
    · cases hp
  · split at hp
    · rw [List.mem_singleton] at hp
      subst hp
      have hc := atoi_itoa (n := r.interval) (by have := h.interval; omega) h.interval.2
      rw [opStep_of hk hc.2.2]
      simp [opPut, hc.1, opSet, Except.map]
    · cases hp
  · rcases hp with (((((((hp | hp) | hp) | hp) | hp) | hp) | hp) | hp) | hp
    · obtain ⟨rfl, h0⟩ := kOne_mem hp
      rw [opStep_of hk (joined_pos h0 h.second)]
      simp [opPut, intsOf_joined h0 h.second, opSet, Except.map]
    · obtain ⟨rfl, h0⟩ := kOne_mem hp
      rw [opStep_of hk (joined_pos h0 h.minute)]
      simp [opPut, intsOf_joined h0 h.minute, opSet, Except.map]
    · obtain ⟨rfl, h0⟩ := kOne_mem hp
      rw [opStep_of hk (joined_pos h0 h.hour)]
      simp [opPut, intsOf_joined h0 h.hour, opSet, Except.map]
    · obtain ⟨rfl, h0⟩ := kOne_mem hp
      rw [opStep_of hk (joined_pos h0 h.monthDay)]
      simp [opPut, intsOf_joined h0 h.monthDay, opSet, Except.map]
    · obtain ⟨rfl, h0⟩ := kOne_mem hp
      rw [opStep_of hk (joined_pos h0 h.yearDay)]
      simp [opPut, intsOf_joined h0 h.yearDay, opSet, Except.map]
    · obtain ⟨rfl, h0⟩ := kOne_mem hp
      rw [opStep_of hk (joined_pos h0 h.weekNo)]
      simp [opPut, intsOf_joined h0 h.weekNo, opSet, Except.map]
    · obtain ⟨rfl, h0⟩ := kOne_mem hp
      rw [opStep_of hk (joined_pos h0 h.month)]
      simp [opPut, intsOf_joined h0 h.month, opSet, Except.map]
    · obtain ⟨rfl, h0⟩ := kOne_mem hp
      rw [opStep_of hk (joined_pos h0 h.setPos)]
      simp [opPut, intsOf_joined h0 h.setPos, opSet, Except.map]
    · obtain ⟨rfl, h0⟩ := kOne_mem hp
      rw [opStep_of hk (joined_pos h0 h.easter)]
      simp [opPut, intsOf_joined h0 h.easter, opSet, Except.map]
  · split at hp
    · cases hp
    · rename_i h0
      rw [List.mem_singleton] at hp
      subst hp
      have h0' : r.day ≠ [] := fun e => h0 (by rw [e]; rfl)
      rw [opStep_of hk (days_pos h0' h.day)]
      simp [opPut, daysOf_days h0' h.day, opSet, Except.map]
  · split at hp
    · cases hp
    · rw [List.mem_singleton] at hp
      subst hp
      obtain ⟨h1, h2⟩ := wkst_text h.wkst.1 h.wkst.2
      rw [opStep_of hk (by show 0 < (wdays.getD r.wkst.toNat []).length; omega)]
      simp only [opPut, h1, opSet, Except.map]
      simp
/-- Parts by their names, put into the options. -/
def opMix (r : Ru) (S : List (List UInt8)) (o : Op) : Op where
  freq := if [70, 82, 69, 81] ∈ S then r.freq else o.freq
  dt := o.dt
  interval := if [73, 78, 84, 69, 82, 86, 65, 76] ∈ S then r.interval else o.interval
  wkst := if [87, 75, 83, 84] ∈ S then (r.wkst, 0) else o.wkst
  count := if [67, 79, 85, 78, 84] ∈ S then r.count else o.count
  til := if [85, 78, 84, 73, 76] ∈ S then r.til else o.til
  pos := if [66, 89, 83, 69, 84, 80, 79, 83] ∈ S then r.setPos else o.pos
  month := if [66, 89, 77, 79, 78, 84, 72] ∈ S then r.month else o.month
  mday := if [66, 89, 77, 79, 78, 84, 72, 68, 65, 89] ∈ S then r.monthDay else o.mday
  yday := if [66, 89, 89, 69, 65, 82, 68, 65, 89] ∈ S then r.yearDay else o.yday
  weekno := if [66, 89, 87, 69, 69, 75, 78, 79] ∈ S then r.weekNo else o.weekno
  hour := if [66, 89, 72, 79, 85, 82] ∈ S then r.hour else o.hour
  minute := if [66, 89, 77, 73, 78, 85, 84, 69] ∈ S then r.minute else o.minute
  second := if [66, 89, 83, 69, 67, 79, 78, 68] ∈ S then r.second else o.second
  easter := if [66, 89, 69, 65, 83, 84, 69, 82] ∈ S then r.easter else o.easter
  day := if [66, 89, 68, 65, 89] ∈ S then r.day else o.day
  set := if [70, 82, 69, 81] ∈ S then true else o.set
theorem mix_if {α : Type} {K k : List UInt8} {S : List (List UInt8)} (a b : α) : (if K ∈ S then a else if k = K then a else b) = if K ∈ k :: S then a else b := by
  by_cases h : K ∈ S
  · rw [if_pos h, if_pos (List.mem_cons_of_mem _ h)]
  · rw [if_neg h]
    by_cases hk : k = K
    · rw [if_pos hk, if_pos (by rw [hk]; simp)]
    · rw [if_neg hk, if_neg (by intro hm; rcases List.mem_cons.1 hm with e | e; exact hk e.symm; exact h e)]
theorem opMix_set (r : Ru) (k : List UInt8) (S : List (List UInt8)) (o : Op) : opMix r S (opSet r o k) = opMix r (k :: S) o := by
  unfold opMix opSet
  simp only [mix_if]
theorem foldE_kvs {r : Ru} (h : Wr r) : ∀ {L : List KV} (o : Op), (∀ p ∈ L, p ∈ kvs r) → foldE opStep o (L.map kvT) = .ok (opMix r (L.map (·.1)) o)
  | [], o, _ => by
    unfold opMix
    simp [foldE]
  | p :: L, o, hL => by
    rw [List.map_cons, foldE, opStep_kv h (hL p (by simp)), List.map_cons, ← opMix_set]
    exact foldE_kvs h _ fun q hq => hL q (List.mem_cons_of_mem _ hq)
/-- Parts of a rule, in any order. -/
structure Sub (r : Ru) (L : List KV) : Prop where
  mem : ∀ p ∈ L, p ∈ kvs r
  freq : [70, 82, 69, 81] ∈ L.map (·.1)
theorem kv_no59 {p : KV} (ho : kvOk p) : (59 : UInt8) ∉ kvT p := fun hm => by
  unfold kvT at hm
  rcases List.mem_append.1 hm with hm | hm
  · have := ho.1 _ hm; revert this; decide
  · rcases List.mem_cons.1 hm with e | hm
    · revert e; decide
    · have := ho.2.1 _ hm; revert this; decide
theorem sub_split {r : Ru} {L : List KV} (hL : Sub r L) : split 59 (joinB 59 (L.map kvT)) = L.map kvT :=
  split_join (by intro e; have := hL.freq; rw [List.map_eq_nil_iff.1 e] at this; cases this) fun s hs => by
    obtain ⟨p, hp, rfl⟩ := List.mem_map.1 hs
    exact kv_no59 (kvs_ok r p (hL.mem p hp))
theorem opParse_sub {r : Ru} (h : Wr r) {L : List KV} (hL : Sub r L) : opParse (joinB 59 (L.map kvT)) = .ok (opMix r (L.map (·.1)) op0) := by
  unfold opParse
  rw [sub_split hL, foldE_kvs h _ hL.mem]
  unfold opEnd
  have : (opMix r (L.map (·.1)) op0).set = true := by
    unfold opMix
    simp only
    rw [if_pos hL.freq]
  simp only
  rw [if_pos this]
end Go.Proofs.YtlfpjdcogkcjlaaGreatDoor.F
/- What the specification reads out of a rule's parts. -/
namespace Go.Proofs.YtlfpjdcogkcjlaaGreatDoor.F
open Go.RowKit Go.Proofs.YtlfpjdcogkcjlaaGreatDoor.AL Go.Proofs.YtlfpjdcogkcjlaaGreatDoor.B
set_option linter.unusedVariables false
set_option linter.unusedSimpArgs false
set_option maxRecDepth 20000
attribute [local irreducible] aops acode bindK bindV bindH callX callK condK guardK Kseq Kblk Knorm Kfun Kloop Kjoin outK AWp appendA Ktail
attribute [local go_sem] acode_skip acode_seq acode_region acode_cond acode_block acode_exit acode_ret acode_loop Kseq_normal Kseq_exit Kseq_ret Kblk_normal Kblk_ret Kblk_eq Kblk_ne Knorm_eq Kloop_normal Kloop_exit Kloop_ret Kjoin_normal Kjoin_exit Kjoin_ret condK_true condK_false bindK_put bindV_put bindK_no bindV_no bindH_no aops_nil gops wantK_some wantV_bool wantV_undef guardK_true guardK_false guardK_none aops_move aops_assign aops_pick aops_nilCheck aops_binOp aops_unOp aops_convert aops_fieldAddr aops_indexAddr aops_slice aops_index aops_extract aops_makeInterface aops_makeFunc aops_build aops_load aops_lookup aops_alloc aops_box aops_buildSlice aops_makeSlice aops_makeMap aops_store aops_insert aops_mapUpdate aops_len aops_append aops_call opA_tmp opA_const opA_global opA_func get_mk look_nil look_eq look_ne len_mk List.map_cons List.map_nil Option.map_some Option.map_none bin_add bin_sub bin_mul bin_quo bin_rem bin_eql bin_neq bin_lss bin_leq bin_gtr bin_geq bin_cat bin_seql bin_sneq bin_neq_ifc bin_eql_ifc bin_neq_nn bin_eql_nn bin_neq_ptr bin_eql_ptr bin_neq_pn isIfc_true isPtr_true bin_eql2 bin_neq2 aops_max max_int un_not un_neg lenA_K lenK_str lenK_nil lenK_sl lenK_array pick_bool pick_val bindV_ite bindK_ite bindH_ite slotV_sl slotK_some slotV_ptr slotR_some sliceV_sl cutK_some sliceV_str cutS_some bound_none bound_some indexA_str atS_some mkS fieldV_ptr loadV_ptr cellsK_ro cellsK_own loadK_one loadK_many storeA_ptr storeK_own allocA_some heap_len heap_get0 heap_get heap_set0 heap_set Kfun_ret Kfun_normal resA_nil resA_tmp resA_cell outK_some packA_one packA_nil packA_two List.length_cons List.length_nil List.getElem?_cons_zero List.getElem?_cons_succ List.set_cons_zero List.set_cons_succ List.cons_append List.nil_append List.append_assoc Nat.zero_add Nat.add_zero List.all_cons List.all_nil Value.oneCell' Bool.and_true Bool.and_self if_true if_false Bool.false_eq_true partsA buildV buildA fillA Option.bind_some putCells List.drop_succ_cons List.drop_zero List.take_succ_cons List.take_zero List.take_nil List.drop_nil and_self and_true true_and Option.some.injEq ne_eq not_false_eq_true Option.map_map List.getElem?_toArray beq_self_eq_true Bool.true_beq Bool.false_beq Bool.not_true Bool.not_false decide_true decide_false beq_true Nat.mul_one Nat.one_mul Nat.zero_mul bsA buildSliceA zerosN List.append_nil Int.toNat_natCast Int.toNat_zero boxA one_val one_ptr one_sl one_mp one_ifc one_fn avCells_agg avCells_val valCells_true valCells_agg avCells_ptr avCells_sl avCells_mp avCells_ifc avCells_fn app_cons app_nil lookupA insertA ifaceV extractA kd2 ars127 fp127 ars60 fp60 ars31 fp31 eq2_99 eq2_84 eq2_47 fp52 sz2 kd3 sz3 kd4 sz4 kd5 sz5 kd9 sz9 kd22 sz22 el22 kd23 sz23 el23 kd25 sz25 zc25 fp25 fo25_0 fo25_1 fo25_2 fo25_3 fo25_4 fo25_5 fo25_6 fo25_7 fo25_8 fo25_9 fo25_10 fo25_11 fo25_12 fo25_13 fo25_14 fo25_15 fo25_16 fo25_17 kd31 sz31 zc31 ar31 kd32 sz32 el32 kd34 sz34 zc34 fp34 fo34_0 fo34_1 fo34_2 fo34_3 fo34_4 fo34_5 fo34_6 fo34_7 fo34_8 fo34_9 fo34_10 fo34_11 fo34_12 fo34_13 fo34_14 fo34_15 fo34_16 fo34_17 el38 el42 kd47 sz47 zc47 fp47 fo47_0 fo47_1 kd52 sz52 zc52 fo52_0 el55 zc60 kd72 sz72 zc72 fp72 fo72_0 fo72_1 el73 kd80 sz80 kd84 sz84 zc84 fp84 fo84_0 fo84_1 kd88 sz88 zc88 fp88 fo88_0 fo88_1 fo88_2 fo88_3 kd91 sz91 zc91 fp91 fo91_0 fo91_1 fo91_2 el94 kd99 sz99 zc99 fp99 fo99_0 fo99_1 kd100 sz100 el100 kd102 sz102 zc102 fp102 fo102_0 fo102_1 fo102_2 fo102_3 fo102_4 fo102_5 fo102_6 fo102_7 fo102_8 fo102_9 fo102_10 fo102_11 fo102_12 fo102_13 fo102_14 fo102_15 kd109 sz109 zc109 fp109 isStrMap124 zv80 zc127 kd153 sz153 zc153 ar153 isIface157 kd159 sz159 zc159 fp159 isStrMap177 zv84 Tryz.underlying3 Tryz.underlying4 Tryz.underlying5 Tryz.underlying9 Tryz.underlying21 Tryz.underlying22 Tryz.underlying23 Tryz.underlying32 Tryz.underlying38 Tryz.underlying42 Tryz.underlying47 Tryz.underlying55 Tryz.underlying67 Tryz.underlying73 Tryz.underlying80 Tryz.underlying84 Tryz.underlying94 Tryz.underlying100 Tryz.underlying2 Tryz.underlying127 Tryz.underlying60 Tryz.underlying31 kd55 ai60 ai127 indexA_agg atK_some isStrMap76 zv4 Ktail_eq
set_option maxRecDepth 200000
def snumOk (n : Int) : Bool := match numOf (Lib.itoa n) with | some m => decide (m = n) | none => false
theorem snum_all : ((List.range 2001).all fun k => snumOk ((k : Int) - 1000)) = true := by kernel_rfl
theorem num_itoa {n : Int} (h0 : -1000 ≤ n) (h1 : n ≤ 1000) : numOf (Lib.itoa n) = some n := by
  have h := List.all_eq_true.1 snum_all (n + 1000).toNat (List.mem_range.2 (by omega))
  rw [show (((n + 1000).toNat : Nat) : Int) - 1000 = n by omega] at h
  unfold snumOk at h
  split at h
  · rename_i m hm
    rw [hm, of_decide_eq_true h]
  · cases h
def swdOk (a b : Int) : Bool := match swd (dayText (a, b)) with | some d => decide (d.1 = a) && decide (d.2 = b) | none => false
theorem swd_all : ((List.range 7).all fun a => (List.range 107).all fun b => swdOk (a : Int) ((b : Int) - 53)) = true := by kernel_rfl
theorem swd_text {d : Int × Int} (h0 : 0 ≤ d.1) (h1 : d.1 ≤ 6) (h2 : -53 ≤ d.2) (h3 : d.2 ≤ 53) : swd (dayText d) = some d := by
  obtain ⟨a, b⟩ := d
  simp only at h0 h1 h2 h3
  have h := List.all_eq_true.1 (List.all_eq_true.1 swd_all a.toNat (List.mem_range.2 (by omega))) (b + 53).toNat (List.mem_range.2 (by omega))
  rw [show ((a.toNat : Nat) : Int) = a by omega, show (((b + 53).toNat : Nat) : Int) - 53 = b by omega] at h
  unfold swdOk at h
  split at h
  · rename_i d hd
    simp only [Bool.and_eq_true, decide_eq_true_eq] at h
    rw [hd]
    exact congrArg some (Prod.ext h.1 h.2)
  · cases h
theorem nums_joined {l : List Int} (h0 : l ≠ []) (h : Small l) : (split 44 (joined l)).map numOf = l.map some := by
  unfold joined
  rw [split_join (by simpa using h0) fun s hs hm => by
    obtain ⟨n, hn, rfl⟩ := List.mem_map.1 hs
    exact (itoa_noFrac n _ hm).2 rfl]
  rw [List.map_map]
  exact List.map_congr_left fun n hn => num_itoa (h.2 n hn).1 (h.2 n hn).2
theorem wds_days {l : List (Int × Int)} (h0 : l ≠ []) (h : SmallD l) : (split 44 (days l)).map swd = l.map some := by
  unfold days
  rw [split_join (by simpa using h0) fun s hs hm => by
    obtain ⟨n, hn, rfl⟩ := List.mem_map.1 hs
    obtain ⟨a, b, c, d⟩ := h.2 n hn
    exact (wd_text a b c d).2.2.1 hm]
  rw [List.map_map]
  exact List.map_congr_left fun n hn => by
    obtain ⟨a, b, c, d⟩ := h.2 n hn
    exact swd_text a b c d
theorem ixS_freq {f : Nat} (h : f ≤ 6) : ixS freqs (freqs.getD f []) = f := by
  have : f = 0 ∨ f = 1 ∨ f = 2 ∨ f = 3 ∨ f = 4 ∨ f = 5 ∨ f = 6 := by omega
  rcases this with rfl | rfl | rfl | rfl | rfl | rfl | rfl <;> rfl
theorem ixS_wday {w : Int} (h0 : 0 ≤ w) (h1 : w ≤ 6) : ixS wdays (wdays.getD w.toNat []) = w := by
  have : w = 0 ∨ w = 1 ∨ w = 2 ∨ w = 3 ∨ w = 4 ∨ w = 5 ∨ w = 6 := by omega
  rcases this with rfl | rfl | rfl | rfl | rfl | rfl | rfl <;> rfl
/-- A part by its name, put into a rule. -/
def ruSet (r q : Ru) (k : List UInt8) : Ru where
  freq := if k = [70, 82, 69, 81] then r.freq else q.freq
  hasStart := q.hasStart
  start := q.start
  interval := if k = [73, 78, 84, 69, 82, 86, 65, 76] then r.interval else q.interval
  wkst := if k = [87, 75, 83, 84] then r.wkst else q.wkst
  count := if k = [67, 79, 85, 78, 84] then r.count else q.count
  hasUntil := if k = [85, 78, 84, 73, 76] then true else q.hasUntil
  til := if k = [85, 78, 84, 73, 76] then r.til else q.til
  setPos := if k = [66, 89, 83, 69, 84, 80, 79, 83] then r.setPos else q.setPos
  month := if k = [66, 89, 77, 79, 78, 84, 72] then r.month else q.month
  monthDay := if k = [66, 89, 77, 79, 78, 84, 72, 68, 65, 89] then r.monthDay else q.monthDay
  yearDay := if k = [66, 89, 89, 69, 65, 82, 68, 65, 89] then r.yearDay else q.yearDay
  weekNo := if k = [66, 89, 87, 69, 69, 75, 78, 79] then r.weekNo else q.weekNo
  day := if k = [66, 89, 68, 65, 89] then r.day else q.day
  hour := if k = [66, 89, 72, 79, 85, 82] then r.hour else q.hour
  minute := if k = [66, 89, 77, 73, 78, 85, 84, 69] then r.minute else q.minute
  second := if k = [66, 89, 83, 69, 67, 79, 78, 68] then r.second else q.second
  easter := if k = [66, 89, 69, 65, 83, 84, 69, 82] then r.easter else q.easter
/-- Parts by their names, put into a rule. -/
def ruMix (r : Ru) (S : List (List UInt8)) (q : Ru) : Ru where
  freq := if [70, 82, 69, 81] ∈ S then r.freq else q.freq
  hasStart := q.hasStart
  start := q.start
  interval := if [73, 78, 84, 69, 82, 86, 65, 76] ∈ S then r.interval else q.interval
  wkst := if [87, 75, 83, 84] ∈ S then r.wkst else q.wkst
  count := if [67, 79, 85, 78, 84] ∈ S then r.count else q.count
  hasUntil := if [85, 78, 84, 73, 76] ∈ S then true else q.hasUntil
  til := if [85, 78, 84, 73, 76] ∈ S then r.til else q.til
  setPos := if [66, 89, 83, 69, 84, 80, 79, 83] ∈ S then r.setPos else q.setPos
  month := if [66, 89, 77, 79, 78, 84, 72] ∈ S then r.month else q.month
  monthDay := if [66, 89, 77, 79, 78, 84, 72, 68, 65, 89] ∈ S then r.monthDay else q.monthDay
  yearDay := if [66, 89, 89, 69, 65, 82, 68, 65, 89] ∈ S then r.yearDay else q.yearDay
  weekNo := if [66, 89, 87, 69, 69, 75, 78, 79] ∈ S then r.weekNo else q.weekNo
  day := if [66, 89, 68, 65, 89] ∈ S then r.day else q.day
  hour := if [66, 89, 72, 79, 85, 82] ∈ S then r.hour else q.hour
  minute := if [66, 89, 77, 73, 78, 85, 84, 69] ∈ S then r.minute else q.minute
  second := if [66, 89, 83, 69, 67, 79, 78, 68] ∈ S then r.second else q.second
  easter := if [66, 89, 69, 65, 83, 84, 69, 82] ∈ S then r.easter else q.easter
theorem ruMix_set (r : Ru) (k : List UInt8) (S : List (List UInt8)) (q : Ru) : ruMix r S (ruSet r q k) = ruMix r (k :: S) q := by
  unfold ruMix ruSet
  simp only [mix_if]
theorem sput_kv {r : Ru} (h : Wr r) {p : KV} (hp : p ∈ kvs r) (q : Ru) : SPut q p (ruSet r q p.1) := by
  unfold kvs at hp
  simp only [List.mem_append] at hp
  unfold SPut
  rcases hp with (((((hp | hp) | hp) | hp) | hp) | hp) | hp
  · rw [List.mem_singleton] at hp
    subst hp
    exact .inl ⟨rfl, r.freq, ixS_freq h.freq, h.freq, by simp [ruSet]⟩
  · split at hp
    · rename_i hu
      rw [List.mem_singleton] at hp
      subst hp
      exact .inr (.inl ⟨rfl, r.til, (h.til hu).1, rfl, by simp [ruSet]⟩)
    · cases hp
  · split at hp
    · rename_i h0
      rw [List.mem_singleton] at hp
      subst hp
      exact .inr (.inr (.inl ⟨rfl, r.count, num_itoa (by have := h.count; omega) h.count.2, h0, by simp [ruSet]⟩))
    · cases hp
  · split at hp
    · rename_i h0
      rw [List.mem_singleton] at hp
      subst hp
      exact .inr (.inr (.inr (.inl ⟨rfl, r.interval, num_itoa (by have := h.interval; omega) h.interval.2, by omega, by simp [ruSet]⟩)))
    · cases hp
  · rcases hp with (((((((hp | hp) | hp) | hp) | hp) | hp) | hp) | hp) | hp
    · obtain ⟨rfl, h0⟩ := kOne_mem hp
      exact .inr (.inr (.inr (.inr (.inr (.inr (.inl ⟨rfl, r.second, nums_joined h0 h.second, by simp [ruSet]⟩))))))
    · obtain ⟨rfl, h0⟩ := kOne_mem hp
      exact .inr (.inr (.inr (.inr (.inr (.inr (.inr (.inl ⟨rfl, r.minute, nums_joined h0 h.minute, by simp [ruSet]⟩)))))))
    · obtain ⟨rfl, h0⟩ := kOne_mem hp
      exact .inr (.inr (.inr (.inr (.inr (.inr (.inr (.inr (.inl ⟨rfl, r.hour, nums_joined h0 h.hour, by simp [ruSet]⟩))))))))
    · obtain ⟨rfl, h0⟩ := kOne_mem hp
      exact .inr (.inr (.inr (.inr (.inr (.inr (.inr (.inr (.inr (.inl ⟨rfl, r.monthDay, nums_joined h0 h.monthDay, by simp [ruSet]⟩)))))))))
    · obtain ⟨rfl, h0⟩ := kOne_mem hp
      exact .inr (.inr (.inr (.inr (.inr (.inr (.inr (.inr (.inr (.inr (.inl ⟨rfl, r.yearDay, nums_joined h0 h.yearDay, by simp [ruSet]⟩))))))))))
    · obtain ⟨rfl, h0⟩ := kOne_mem hp
      exact .inr (.inr (.inr (.inr (.inr (.inr (.inr (.inr (.inr (.inr (.inr (.inl ⟨rfl, r.weekNo, nums_joined h0 h.weekNo, by simp [ruSet]⟩)))))))))))
    · obtain ⟨rfl, h0⟩ := kOne_mem hp
      exact .inr (.inr (.inr (.inr (.inr (.inr (.inr (.inr (.inr (.inr (.inr (.inr (.inl ⟨rfl, r.month, nums_joined h0 h.month, by simp [ruSet]⟩))))))))))))
    · obtain ⟨rfl, h0⟩ := kOne_mem hp
      exact .inr (.inr (.inr (.inr (.inr (.inr (.inr (.inr (.inr (.inr (.inr (.inr (.inr (.inl ⟨rfl, r.setPos, nums_joined h0 h.setPos, by simp [ruSet]⟩)))))))))))))
    · obtain ⟨rfl, h0⟩ := kOne_mem hp
      exact .inr (.inr (.inr (.inr (.inr (.inr (.inr (.inr (.inr (.inr (.inr (.inr (.inr (.inr ⟨rfl, r.easter, nums_joined h0 h.easter, by simp [ruSet]⟩)))))))))))))
  · split at hp
    · cases hp
    · rename_i h0
      rw [List.mem_singleton] at hp
      subst hp
      exact .inr (.inr (.inr (.inr (.inr (.inl ⟨rfl, r.day, wds_days (fun e => h0 (by rw [e]; rfl)) h.day, by simp [ruSet]⟩)))))
  · split at hp
    · cases hp
    · rw [List.mem_singleton] at hp
      subst hp
      exact .inr (.inr (.inr (.inr (.inl ⟨rfl, r.wkst, ixS_wday h.wkst.1 h.wkst.2, h.wkst.1, by simp [ruSet]⟩))))
theorem sfold_kvs {r : Ru} (h : Wr r) : ∀ {L : List KV} (q : Ru), (∀ p ∈ L, p ∈ kvs r) → SFold q L (ruMix r (L.map (·.1)) q)
  | [], q, _ => by
    show ruMix r [] q = q
    unfold ruMix
    simp
  | p :: L, q, hL => by
    refine ⟨ruSet r q p.1, sput_kv h (hL p (by simp)) q, ?_⟩
    rw [List.map_cons, ← ruMix_set]
    exact sfold_kvs h _ fun p' hp' => hL p' (List.mem_cons_of_mem _ hp')
/-- How long a rule's text may be. -/
theorem kv_small {r : Ru} (h : Wr r) {p : KV} (hp : p ∈ kvs r) : (kvT p).length ≤ 83 := by
  have hk := kvs_ok r p hp
  have e1 : (kvT p).length = p.1.length + (p.2.length + 1) := by unfold kvT; rw [List.length_append, List.length_cons]
  have hv : p.2.length ≤ 72 := by
    unfold kvs at hp
    simp only [List.mem_append] at hp
    rcases hp with (((((hp | hp) | hp) | hp) | hp) | hp) | hp
    · rw [List.mem_singleton] at hp
      subst hp
      have := (freq_text h.freq).2.2
      exact Nat.le_trans this (by omega)
    · split at hp
      · rename_i hu
        rw [List.mem_singleton] at hp
        subst hp
        have ht := h.til hu
        show (dateText r.til).length ≤ 72
        rw [dateText_eq, List.length_append, dateB_len ht.1.1 ht.1.2]
        simp
      · cases hp
    · split at hp
      · rw [List.mem_singleton] at hp
        subst hp
        have := (atoi_itoa (n := r.count) (by have := h.count; omega) h.count.2).2.1
        exact Nat.le_trans this (by omega)
      · cases hp
    · split at hp
      · rw [List.mem_singleton] at hp
        subst hp
        have := (atoi_itoa (n := r.interval) (by have := h.interval; omega) h.interval.2).2.1
        exact Nat.le_trans this (by omega)
      · cases hp
    · rcases hp with (((((((hp | hp) | hp) | hp) | hp) | hp) | hp) | hp) | hp
      · obtain ⟨rfl, h0⟩ := kOne_mem hp; exact joined_small h.second
      · obtain ⟨rfl, h0⟩ := kOne_mem hp; exact joined_small h.minute
      · obtain ⟨rfl, h0⟩ := kOne_mem hp; exact joined_small h.hour
      · obtain ⟨rfl, h0⟩ := kOne_mem hp; exact joined_small h.monthDay
      · obtain ⟨rfl, h0⟩ := kOne_mem hp; exact joined_small h.yearDay
      · obtain ⟨rfl, h0⟩ := kOne_mem hp; exact joined_small h.weekNo
      · obtain ⟨rfl, h0⟩ := kOne_mem hp; exact joined_small h.month
      · obtain ⟨rfl, h0⟩ := kOne_mem hp; exact joined_small h.setPos
      · obtain ⟨rfl, h0⟩ := kOne_mem hp; exact joined_small h.easter
    · split at hp
      · cases hp
      · rw [List.mem_singleton] at hp
        subst hp
        exact days_small h.day
    · split at hp
      · cases hp
      · rw [List.mem_singleton] at hp
        subst hp
        have := (wkst_text h.wkst.1 h.wkst.2).2
        show (wdays.getD r.wkst.toNat []).length ≤ 72
        omega
  have := hk.2.2.1
  omega
end Go.Proofs.YtlfpjdcogkcjlaaGreatDoor.F
/- The names of frequencies and weekdays. -/
namespace Go.Proofs.YtlfpjdcogkcjlaaGreatDoor.F
open Go.RowKit Go.Proofs.YtlfpjdcogkcjlaaGreatDoor.AL Go.Proofs.YtlfpjdcogkcjlaaGreatDoor.B
set_option linter.unusedVariables false
set_option linter.unusedSimpArgs false
set_option maxRecDepth 20000
attribute [local irreducible] aops acode bindK bindV bindH callX callK condK guardK Kseq Kblk Knorm Kfun Kloop Kjoin outK AWp appendA Ktail
attribute [local go_sem] acode_skip acode_seq acode_region acode_cond acode_block acode_exit acode_ret acode_loop Kseq_normal Kseq_exit Kseq_ret Kblk_normal Kblk_ret Kblk_eq Kblk_ne Knorm_eq Kloop_normal Kloop_exit Kloop_ret Kjoin_normal Kjoin_exit Kjoin_ret condK_true condK_false bindK_put bindV_put bindK_no bindV_no bindH_no aops_nil gops wantK_some wantV_bool wantV_undef guardK_true guardK_false guardK_none aops_move aops_assign aops_pick aops_nilCheck aops_binOp aops_unOp aops_convert aops_fieldAddr aops_indexAddr aops_slice aops_index aops_extract aops_makeInterface aops_makeFunc aops_build aops_load aops_lookup aops_alloc aops_box aops_buildSlice aops_makeSlice aops_makeMap aops_store aops_insert aops_mapUpdate aops_len aops_append aops_call opA_tmp opA_const opA_global opA_func get_mk look_nil look_eq look_ne len_mk List.map_cons List.map_nil Option.map_some Option.map_none bin_add bin_sub bin_mul bin_quo bin_rem bin_eql bin_neq bin_lss bin_leq bin_gtr bin_geq bin_cat bin_seql bin_sneq bin_neq_ifc bin_eql_ifc bin_neq_nn bin_eql_nn bin_neq_ptr bin_eql_ptr bin_neq_pn isIfc_true isPtr_true bin_eql2 bin_neq2 aops_max max_int un_not un_neg lenA_K lenK_str lenK_nil lenK_sl lenK_array pick_bool pick_val bindV_ite bindK_ite bindH_ite slotV_sl slotK_some slotV_ptr slotR_some sliceV_sl cutK_some sliceV_str cutS_some bound_none bound_some indexA_str atS_some mkS fieldV_ptr loadV_ptr cellsK_ro cellsK_own loadK_one loadK_many storeA_ptr storeK_own allocA_some heap_len heap_get0 heap_get heap_set0 heap_set Kfun_ret Kfun_normal resA_nil resA_tmp resA_cell outK_some packA_one packA_nil packA_two List.length_cons List.length_nil List.getElem?_cons_zero List.getElem?_cons_succ List.set_cons_zero List.set_cons_succ List.cons_append List.nil_append List.append_assoc Nat.zero_add Nat.add_zero List.all_cons List.all_nil Value.oneCell' Bool.and_true Bool.and_self if_true if_false Bool.false_eq_true partsA buildV buildA fillA Option.bind_some putCells List.drop_succ_cons List.drop_zero List.take_succ_cons List.take_zero List.take_nil List.drop_nil and_self and_true true_and Option.some.injEq ne_eq not_false_eq_true Option.map_map List.getElem?_toArray beq_self_eq_true Bool.true_beq Bool.false_beq Bool.not_true Bool.not_false decide_true decide_false beq_true Nat.mul_one Nat.one_mul Nat.zero_mul bsA buildSliceA zerosN List.append_nil Int.toNat_natCast Int.toNat_zero boxA one_val one_ptr one_sl one_mp one_ifc one_fn avCells_agg avCells_val valCells_true valCells_agg avCells_ptr avCells_sl avCells_mp avCells_ifc avCells_fn app_cons app_nil lookupA insertA ifaceV extractA kd2 ars127 fp127 ars60 fp60 ars31 fp31 eq2_99 eq2_84 eq2_47 fp52 sz2 kd3 sz3 kd4 sz4 kd5 sz5 kd9 sz9 kd22 sz22 el22 kd23 sz23 el23 kd25 sz25 zc25 fp25 fo25_0 fo25_1 fo25_2 fo25_3 fo25_4 fo25_5 fo25_6 fo25_7 fo25_8 fo25_9 fo25_10 fo25_11 fo25_12 fo25_13 fo25_14 fo25_15 fo25_16 fo25_17 kd31 sz31 zc31 ar31 kd32 sz32 el32 kd34 sz34 zc34 fp34 fo34_0 fo34_1 fo34_2 fo34_3 fo34_4 fo34_5 fo34_6 fo34_7 fo34_8 fo34_9 fo34_10 fo34_11 fo34_12 fo34_13 fo34_14 fo34_15 fo34_16 fo34_17 el38 el42 kd47 sz47 zc47 fp47 fo47_0 fo47_1 kd52 sz52 zc52 fo52_0 el55 zc60 kd72 sz72 zc72 fp72 fo72_0 fo72_1 el73 kd80 sz80 kd84 sz84 zc84 fp84 fo84_0 fo84_1 kd88 sz88 zc88 fp88 fo88_0 fo88_1 fo88_2 fo88_3 kd91 sz91 zc91 fp91 fo91_0 fo91_1 fo91_2 el94 kd99 sz99 zc99 fp99 fo99_0 fo99_1 kd100 sz100 el100 kd102 sz102 zc102 fp102 fo102_0 fo102_1 fo102_2 fo102_3 fo102_4 fo102_5 fo102_6 fo102_7 fo102_8 fo102_9 fo102_10 fo102_11 fo102_12 fo102_13 fo102_14 fo102_15 kd109 sz109 zc109 fp109 isStrMap124 zv80 zc127 kd153 sz153 zc153 ar153 isIface157 kd159 sz159 zc159 fp159 isStrMap177 zv84 Tryz.underlying3 Tryz.underlying4 Tryz.underlying5 Tryz.underlying9 Tryz.underlying21 Tryz.underlying22 Tryz.underlying23 Tryz.underlying32 Tryz.underlying38 Tryz.underlying42 Tryz.underlying47 Tryz.underlying55 Tryz.underlying67 Tryz.underlying73 Tryz.underlying80 Tryz.underlying84 Tryz.underlying94 Tryz.underlying100 Tryz.underlying2 Tryz.underlying127 Tryz.underlying60 Tryz.underlying31 kd55 ai60 ai127 indexA_agg atK_some isStrMap76 zv4 Ktail_eq
theorem freqString_A {w0 : World} (f : Nat) (hf : f ≤ 6) (H : Heap) : ACalls Tryz.prog (CB w0) 44 [vI f] H fun r H' => r = vS (freqs.getD f []) ∧ H' = H := by
  refine A_fun (N := 6) (rs := [.tmp 2]) Tryz.func44 rfl rfl rfl (by kernel_rfl) (by kernel_rfl) (Nat.le_of_ble_eq_true rfl) ?_
  rintro e he ⟨g0, -⟩
  have h1 := (freq_get hf).1
  have h2 : (0 : Int) ≤ (f : Int) ∧ (f : Int) < ((7 : Nat) : Int) := ⟨by omega, by omega⟩
  unfold freqs at h1
  simp only [List.map_cons, List.map_nil] at h1
  simp only [go_sem, Nat.reduceLT, Nat.reduceBEq, Nat.reduceAdd, Int.reduceBEq, Nat.reduceLeDiff, reduceIte, Nat.reduceEqDiff, Int.reduceEq, Int.reduceLE, Int.reduceLT, Int.reduceNe, Nat.reduceMul, Nat.reduceSub, Int.reduceToNat, he, g0, h2, Int.toNat_natCast, h1]
  rfl
theorem freqName_A {w0 : World} (f : Nat) (hf : f ≤ 6) (H : Heap) : ACalls Tryz.prog (CB w0) 23 [vU f] H fun r H' => r = vS (freqs.getD f []) ∧ H' = H := by
  refine A_fun (N := 6) (rs := [.tmp 2]) Tryz.func23 rfl rfl rfl (by kernel_rfl) (by kernel_rfl) (Nat.le_of_ble_eq_true rfl) ?_
  rintro e he ⟨g0, -⟩
  have w1 : IntKind.i64.wrap ((f : Nat) : Int) = (f : Int) := wI64 (by omega)
  simp only [go_sem, Nat.reduceLT, Nat.reduceBEq, Nat.reduceAdd, Int.reduceBEq, Nat.reduceLeDiff, reduceIte, Nat.reduceEqDiff, Int.reduceEq, Int.reduceLE, Int.reduceLT, Int.reduceNe, Nat.reduceMul, Nat.reduceSub, Int.reduceToNat, he, g0, conv_int (P := Tryz.prog) (s := 5) (d := 80) Tryz.underlying5 Tryz.underlying80, w1]
  refine callX_of (freqString_A f hf _) (List.prefix_refl _) ?_
  simp only [go_sem, Nat.reduceLT, Nat.reduceBEq, Nat.reduceAdd, Int.reduceBEq, Nat.reduceLeDiff, reduceIte, Nat.reduceEqDiff, Int.reduceEq, Int.reduceLE, Int.reduceLT, Int.reduceNe, Nat.reduceMul, Nat.reduceSub, Int.reduceToNat, he, g0, setD_some]
theorem freqOf_A {w0 : World} (f : Nat) (hf : f ≤ 6) (H : Heap) : ACalls Tryz.prog (CB w0) 21 [vS (freqs.getD f [])] H fun r H' => r = .tup [vU f, vB true] ∧ H' = H := by
  refine A_fun (N := 15) (rs := [.tmp 2, .tmp 3]) Tryz.func21 rfl rfl rfl (by kernel_rfl) (by kernel_rfl) (Nat.le_of_ble_eq_true rfl) ?_
  rintro e he ⟨g0, -⟩
  obtain ⟨h1, h2, h3⟩ := freq_text hf
  simp only [go_sem, Nat.reduceLT, Nat.reduceBEq, Nat.reduceAdd, Int.reduceBEq, Nat.reduceLeDiff, reduceIte, Nat.reduceEqDiff, Int.reduceEq, Int.reduceLE, Int.reduceLT, Int.reduceNe, Nat.reduceMul, Nat.reduceSub, Int.reduceToNat, he, g0]
  refine callX_of (strToFreq_P _ (by omega) _) (List.prefix_refl _) ?_
  unfold freqR
  rw [h1]
  have w1 : IntKind.u8.wrap ((f : Nat) : Int) = (f : Int) := wU8 (by omega)
  simp only [go_sem, Nat.reduceLT, Nat.reduceBEq, Nat.reduceAdd, Int.reduceBEq, Nat.reduceLeDiff, reduceIte, Nat.reduceEqDiff, Int.reduceEq, Int.reduceLE, Int.reduceLT, Int.reduceNe, Nat.reduceMul, Nat.reduceSub, Int.reduceToNat, he, g0, setD_some, conv_int (P := Tryz.prog) (s := 80) (d := 5) Tryz.underlying80 Tryz.underlying5, w1]
/-- A number with its sign. -/
def signed (n : Int) : List UInt8 := if n < 0 then Lib.itoa n else 43 :: Lib.itoa n
theorem zzSigned_A {w0 : World} (hG : Glob w0) (n : Int) (h0 : -1000 ≤ n) (h1 : n ≤ 1000) (H : Heap) : ACalls Tryz.prog (CB w0) 72 [vI n] H fun r H' => r = vS (signed n) ∧ H' = H := by
  refine A_fun (N := 10) (rs := [.tmp 2]) Tryz.func72 rfl rfl rfl (by kernel_rfl) (by kernel_rfl) (Nat.le_of_ble_eq_true rfl) ?_
  rintro e he ⟨g0, -⟩
  have hl := (atoi_itoa h0 h1).2.1
  simp only [go_sem, Nat.reduceLT, Nat.reduceBEq, Nat.reduceAdd, Int.reduceBEq, Nat.reduceLeDiff, reduceIte, Nat.reduceEqDiff, Int.reduceEq, Int.reduceLE, Int.reduceLT, Int.reduceNe, Nat.reduceMul, Nat.reduceSub, Int.reduceToNat, he, g0]
  unfold signed
  refine condK_of (fun hc => ?_) fun hc => ?_
  · have hc := of_decide_eq_true hc
    rw [if_pos hc]
    simp only [go_sem, Nat.reduceLT, Nat.reduceBEq, Nat.reduceAdd, Int.reduceBEq, Nat.reduceLeDiff, reduceIte, Nat.reduceEqDiff, Int.reduceEq, Int.reduceLE, Int.reduceLT, Int.reduceNe, Nat.reduceMul, Nat.reduceSub, Int.reduceToNat, he, g0]
    refine callX_of (itoa_A hG n (by omega) (by omega) _) (List.prefix_refl _) ?_
    simp only [go_sem, Nat.reduceLT, Nat.reduceBEq, Nat.reduceAdd, Int.reduceBEq, Nat.reduceLeDiff, reduceIte, Nat.reduceEqDiff, Int.reduceEq, Int.reduceLE, Int.reduceLT, Int.reduceNe, Nat.reduceMul, Nat.reduceSub, Int.reduceToNat, he, g0, setD_some]
  · have hc := of_decide_eq_false hc
    rw [if_neg hc]
    simp only [go_sem, Nat.reduceLT, Nat.reduceBEq, Nat.reduceAdd, Int.reduceBEq, Nat.reduceLeDiff, reduceIte, Nat.reduceEqDiff, Int.reduceEq, Int.reduceLE, Int.reduceLT, Int.reduceNe, Nat.reduceMul, Nat.reduceSub, Int.reduceToNat, he, g0]
    refine callX_of (itoa_A hG n (by omega) (by omega) _) (List.prefix_refl _) ?_
    simp only [go_sem, Nat.reduceLT, Nat.reduceBEq, Nat.reduceAdd, Int.reduceBEq, Nat.reduceLeDiff, reduceIte, Nat.reduceEqDiff, Int.reduceEq, Int.reduceLE, Int.reduceLT, Int.reduceNe, Nat.reduceMul, Nat.reduceSub, Int.reduceToNat, he, g0, setD_some]
    omega
theorem zzWeekday_A {w0 : World} (d n : Int) (H : Heap) : ACalls Tryz.prog (CB w0) 42 [vI d, vI n] H fun r H' => r = vD (d, n) ∧ H' = H := by
  refine ACalls.flat rfl ?_
  refine A_fun (N := 8) (rs := [.cell 4 84]) Tryz.func42 rfl rfl rfl (by kernel_rfl) (by kernel_rfl) (Nat.le_of_ble_eq_true rfl) ?_
  rintro e he ⟨g0, g1, -⟩
  simp only [go_sem, Nat.reduceLT, Nat.reduceBEq, Nat.reduceAdd, Int.reduceBEq, Nat.reduceLeDiff, reduceIte, Nat.reduceEqDiff, Int.reduceEq, Int.reduceLE, Int.reduceLT, Int.reduceNe, Nat.reduceMul, Nat.reduceSub, Int.reduceToNat, he, g0, g1]
  exact ⟨_, rfl⟩
/-- A weekday's text with its number's sign. -/
def nameText (d : Int × Int) : List UInt8 := if d.2 = 0 then wdays.getD d.1.toNat [] else signed d.2 ++ wdays.getD d.1.toNat []
theorem wdString_A {w0 : World} (hG : Glob w0) (d : Int × Int) (h0 : 0 ≤ d.1) (h1 : d.1 ≤ 6) (h2 : -53 ≤ d.2) (h3 : d.2 ≤ 53) (H : Heap) : ACalls Tryz.prog (CB w0) 43 [vD d] H fun r H' => r = vS (nameText d) ∧ H' = H := by
  refine ACalls.flat rfl ?_
  refine A_fun (N := 17) (rs := [.tmp 2]) Tryz.func43 rfl rfl rfl (by kernel_rfl) (by kernel_rfl) (Nat.le_of_ble_eq_true rfl) ?_
  rintro e he ⟨g0, -⟩
  obtain ⟨w, n⟩ := d
  simp only at h0 h1 h2 h3
  obtain ⟨k1, k2⟩ := wday_get h0 h1
  have k3 : (0 : Int) ≤ w ∧ w < ((7 : Nat) : Int) := ⟨by omega, by omega⟩
  have hl := (atoi_itoa (n := n) (by omega) (by omega)).2.1
  have hsl : (signed n).length ≤ 6 := by unfold signed; split <;> (try rw [List.length_cons]) <;> omega
  unfold nameText
  unfold wdays at k1
  simp only [List.map_cons, List.map_nil] at k1
  have ek : wdays.getD w.toNat [] = ([[77, 79], [84, 85], [87, 69], [84, 72], [70, 82], [83, 65], [83, 85]] : List (List UInt8)).getD w.toNat [] := rfl
  rw [← ek] at k1
  simp only
  generalize wdays.getD w.toNat [] = nm at *
  simp only [go_sem, Nat.reduceLT, Nat.reduceBEq, Nat.reduceAdd, Int.reduceBEq, Nat.reduceLeDiff, reduceIte, Nat.reduceEqDiff, Int.reduceEq, Int.reduceLE, Int.reduceLT, Int.reduceNe, Nat.reduceMul, Nat.reduceSub, Int.reduceToNat, he, g0, k1, k3]
  refine condK_of (fun hc => ?_) fun hc => ?_
  · have hc := of_decide_eq_true hc
    rw [if_pos hc]
    simp only [go_sem, Nat.reduceLT, Nat.reduceBEq, Nat.reduceAdd, Int.reduceBEq, Nat.reduceLeDiff, reduceIte, Nat.reduceEqDiff, Int.reduceEq, Int.reduceLE, Int.reduceLT, Int.reduceNe, Nat.reduceMul, Nat.reduceSub, Int.reduceToNat, he, g0]
    exact ⟨_, rfl⟩
  · have hc := of_decide_eq_false hc
    rw [if_neg hc]
    simp only [go_sem, Nat.reduceLT, Nat.reduceBEq, Nat.reduceAdd, Int.reduceBEq, Nat.reduceLeDiff, reduceIte, Nat.reduceEqDiff, Int.reduceEq, Int.reduceLE, Int.reduceLT, Int.reduceNe, Nat.reduceMul, Nat.reduceSub, Int.reduceToNat, he, g0]
    refine callX_of (zzSigned_A hG n (by omega) (by omega) _) (List.prefix_refl _) ?_
    simp only [go_sem, Nat.reduceLT, Nat.reduceBEq, Nat.reduceAdd, Int.reduceBEq, Nat.reduceLeDiff, reduceIte, Nat.reduceEqDiff, Int.reduceEq, Int.reduceLE, Int.reduceLT, Int.reduceNe, Nat.reduceMul, Nat.reduceSub, Int.reduceToNat, he, g0, setD_some]
    exact ⟨by omega, _, rfl⟩
theorem dayName_A {w0 : World} (hG : Glob w0) (d : Int × Int) (h0 : 0 ≤ d.1) (h1 : d.1 ≤ 6) (h2 : -53 ≤ d.2) (h3 : d.2 ≤ 53) (H : Heap) : ACalls Tryz.prog (CB w0) 22 [vD d] H fun r H' => r = vS (nameText d) ∧ H' = H := by
  refine ACalls.flat rfl ?_
  obtain ⟨w, n⟩ := d
  refine A_fun (N := 9) (rs := [.tmp 2]) Tryz.func22 rfl rfl rfl (by kernel_rfl) (by kernel_rfl) (Nat.le_of_ble_eq_true rfl) ?_
  rintro e he ⟨g0, -⟩
  have f52 : fo Tryz.prog 52 1 = some 1 := by kernel_rfl
  simp only [go_sem, Nat.reduceLT, Nat.reduceBEq, Nat.reduceAdd, Int.reduceBEq, Nat.reduceLeDiff, reduceIte, Nat.reduceEqDiff, Int.reduceEq, Int.reduceLE, Int.reduceLT, Int.reduceNe, Nat.reduceMul, Nat.reduceSub, Int.reduceToNat, he, g0, f52]
  refine callX_of (zzWeekday_A w n _) (List.prefix_refl _) ?_
  simp only [go_sem, Nat.reduceLT, Nat.reduceBEq, Nat.reduceAdd, Int.reduceBEq, Nat.reduceLeDiff, reduceIte, Nat.reduceEqDiff, Int.reduceEq, Int.reduceLE, Int.reduceLT, Int.reduceNe, Nat.reduceMul, Nat.reduceSub, Int.reduceToNat, he, g0, setD_some]
  refine callX_of (wdString_A hG (w, n) h0 h1 h2 h3 _) (List.prefix_refl _) ?_
  simp only [go_sem, Nat.reduceLT, Nat.reduceBEq, Nat.reduceAdd, Int.reduceBEq, Nat.reduceLeDiff, reduceIte, Nat.reduceEqDiff, Int.reduceEq, Int.reduceLE, Int.reduceLT, Int.reduceNe, Nat.reduceMul, Nat.reduceSub, Int.reduceToNat, he, g0, setD_some]
  exact ⟨_, rfl⟩
/-- The text of a day alone, read by the specification. -/
def nameOk (f : Nat) (a b : Int) : Bool := (match swd (nameText (a, b)) with | some d => decide (d.1 = a) && decide (d.2 = b) | none => false) && decide ((nameText (a, b)).length ≤ 6) && (nameText (a, b)).all (fun c => c != 44 && c != 59 && c != 61)
theorem name_all : ((List.range 7).all fun a => (List.range 107).all fun b => nameOk 0 (a : Int) ((b : Int) - 53)) = true := by kernel_rfl
theorem name_text {d : Int × Int} (h0 : 0 ≤ d.1) (h1 : d.1 ≤ 6) (h2 : -53 ≤ d.2) (h3 : d.2 ≤ 53) : swd (nameText d) = some d ∧ (nameText d).length ≤ 6 ∧ (44 : UInt8) ∉ nameText d ∧ (59 : UInt8) ∉ nameText d ∧ (61 : UInt8) ∉ nameText d := by
  obtain ⟨a, b⟩ := d
  simp only at h0 h1 h2 h3
  have h := List.all_eq_true.1 (List.all_eq_true.1 name_all a.toNat (List.mem_range.2 (by omega))) (b + 53).toNat (List.mem_range.2 (by omega))
  rw [show ((a.toNat : Nat) : Int) = a by omega, show (((b + 53).toNat : Nat) : Int) - 53 = b by omega] at h
  unfold nameOk at h
  simp only [Bool.and_eq_true, decide_eq_true_eq] at h
  obtain ⟨⟨h4, h5⟩, h6⟩ := h
  refine ⟨?_, h5, fun hm => ?_, fun hm => ?_, fun hm => ?_⟩
  · split at h4
    · rename_i d hd
      simp only [Bool.and_eq_true, decide_eq_true_eq] at h4
      rw [hd]
      exact congrArg some (Prod.ext h4.1 h4.2)
    · cases h4
  · have := List.all_eq_true.1 h6 _ hm; revert this; decide
  · have := List.all_eq_true.1 h6 _ hm; revert this; decide
  · have := List.all_eq_true.1 h6 _ hm; revert this; decide
end Go.Proofs.YtlfpjdcogkcjlaaGreatDoor.F
/- laws.FnTextNames: the walk. -/
namespace Go.Proofs.YtlfpjdcogkcjlaaGreatDoor.F
open Go.RowKit Go.Proofs.YtlfpjdcogkcjlaaGreatDoor.AL Go.Proofs.YtlfpjdcogkcjlaaGreatDoor.B
set_option linter.unusedVariables false
set_option linter.unusedSimpArgs false
set_option maxRecDepth 20000
attribute [local irreducible] aops acode bindK bindV bindH callX callK condK guardK Kseq Kblk Knorm Kfun Kloop Kjoin outK AWp appendA Ktail
attribute [local go_sem] acode_skip acode_seq acode_region acode_cond acode_block acode_exit acode_ret acode_loop Kseq_normal Kseq_exit Kseq_ret Kblk_normal Kblk_ret Kblk_eq Kblk_ne Knorm_eq Kloop_normal Kloop_exit Kloop_ret Kjoin_normal Kjoin_exit Kjoin_ret condK_true condK_false bindK_put bindV_put bindK_no bindV_no bindH_no aops_nil gops wantK_some wantV_bool wantV_undef guardK_true guardK_false guardK_none aops_move aops_assign aops_pick aops_nilCheck aops_binOp aops_unOp aops_convert aops_fieldAddr aops_indexAddr aops_slice aops_index aops_extract aops_makeInterface aops_makeFunc aops_build aops_load aops_lookup aops_alloc aops_box aops_buildSlice aops_makeSlice aops_makeMap aops_store aops_insert aops_mapUpdate aops_len aops_append aops_call opA_tmp opA_const opA_global opA_func get_mk look_nil look_eq look_ne len_mk List.map_cons List.map_nil Option.map_some Option.map_none bin_add bin_sub bin_mul bin_quo bin_rem bin_eql bin_neq bin_lss bin_leq bin_gtr bin_geq bin_cat bin_seql bin_sneq bin_neq_ifc bin_eql_ifc bin_neq_nn bin_eql_nn bin_neq_ptr bin_eql_ptr bin_neq_pn isIfc_true isPtr_true bin_eql2 bin_neq2 aops_max max_int un_not un_neg lenA_K lenK_str lenK_nil lenK_sl lenK_array pick_bool pick_val bindV_ite bindK_ite bindH_ite slotV_sl slotK_some slotV_ptr slotR_some sliceV_sl cutK_some sliceV_str cutS_some bound_none bound_some indexA_str atS_some mkS fieldV_ptr loadV_ptr cellsK_ro cellsK_own loadK_one loadK_many storeA_ptr storeK_own allocA_some heap_len heap_get0 heap_get heap_set0 heap_set Kfun_ret Kfun_normal resA_nil resA_tmp resA_cell outK_some packA_one packA_nil packA_two List.length_cons List.length_nil List.getElem?_cons_zero List.getElem?_cons_succ List.set_cons_zero List.set_cons_succ List.cons_append List.nil_append List.append_assoc Nat.zero_add Nat.add_zero List.all_cons List.all_nil Value.oneCell' Bool.and_true Bool.and_self if_true if_false Bool.false_eq_true partsA buildV buildA fillA Option.bind_some putCells List.drop_succ_cons List.drop_zero List.take_succ_cons List.take_zero List.take_nil List.drop_nil and_self and_true true_and Option.some.injEq ne_eq not_false_eq_true Option.map_map List.getElem?_toArray beq_self_eq_true Bool.true_beq Bool.false_beq Bool.not_true Bool.not_false decide_true decide_false beq_true Nat.mul_one Nat.one_mul Nat.zero_mul bsA buildSliceA zerosN List.append_nil Int.toNat_natCast Int.toNat_zero boxA one_val one_ptr one_sl one_mp one_ifc one_fn avCells_agg avCells_val valCells_true valCells_agg avCells_ptr avCells_sl avCells_mp avCells_ifc avCells_fn app_cons app_nil lookupA insertA ifaceV extractA kd2 ars127 fp127 ars60 fp60 ars31 fp31 eq2_99 eq2_84 eq2_47 fp52 sz2 kd3 sz3 kd4 sz4 kd5 sz5 kd9 sz9 kd22 sz22 el22 kd23 sz23 el23 kd25 sz25 zc25 fp25 fo25_0 fo25_1 fo25_2 fo25_3 fo25_4 fo25_5 fo25_6 fo25_7 fo25_8 fo25_9 fo25_10 fo25_11 fo25_12 fo25_13 fo25_14 fo25_15 fo25_16 fo25_17 kd31 sz31 zc31 ar31 kd32 sz32 el32 kd34 sz34 zc34 fp34 fo34_0 fo34_1 fo34_2 fo34_3 fo34_4 fo34_5 fo34_6 fo34_7 fo34_8 fo34_9 fo34_10 fo34_11 fo34_12 fo34_13 fo34_14 fo34_15 fo34_16 fo34_17 el38 el42 kd47 sz47 zc47 fp47 fo47_0 fo47_1 kd52 sz52 zc52 fo52_0 el55 zc60 kd72 sz72 zc72 fp72 fo72_0 fo72_1 el73 kd80 sz80 kd84 sz84 zc84 fp84 fo84_0 fo84_1 kd88 sz88 zc88 fp88 fo88_0 fo88_1 fo88_2 fo88_3 kd91 sz91 zc91 fp91 fo91_0 fo91_1 fo91_2 el94 kd99 sz99 zc99 fp99 fo99_0 fo99_1 kd100 sz100 el100 kd102 sz102 zc102 fp102 fo102_0 fo102_1 fo102_2 fo102_3 fo102_4 fo102_5 fo102_6 fo102_7 fo102_8 fo102_9 fo102_10 fo102_11 fo102_12 fo102_13 fo102_14 fo102_15 kd109 sz109 zc109 fp109 isStrMap124 zv80 zc127 kd153 sz153 zc153 ar153 isIface157 kd159 sz159 zc159 fp159 isStrMap177 zv84 Tryz.underlying3 Tryz.underlying4 Tryz.underlying5 Tryz.underlying9 Tryz.underlying21 Tryz.underlying22 Tryz.underlying23 Tryz.underlying32 Tryz.underlying38 Tryz.underlying42 Tryz.underlying47 Tryz.underlying55 Tryz.underlying67 Tryz.underlying73 Tryz.underlying80 Tryz.underlying84 Tryz.underlying94 Tryz.underlying100 Tryz.underlying2 Tryz.underlying127 Tryz.underlying60 Tryz.underlying31 kd55 ai60 ai127 indexA_agg atK_some isStrMap76 zv4 Ktail_eq
def namesKV (d : Int × Int) : List KV := [([70, 82, 69, 81], [68, 65, 73, 76, 89]), ([66, 89, 68, 65, 89], nameText d)]
def ruN (d : Int × Int) : Ru := ⟨3, false, 0, 1, 0, 0, false, 0, [], [], [], [], [], [d], [], [], [], []⟩
theorem names_read {w0 : World} {d : Int × Int} (h0 : 0 ≤ d.1) (h1 : d.1 ≤ 6) (h2 : -53 ≤ d.2) (h3 : d.2 ≤ 53) (H : Heap) :
    ACalls Tryz.prog (CB w0) 19 [vS ([70, 82, 69, 81, 61, 68, 65, 73, 76, 89, 59, 66, 89, 68, 65, 89, 61] ++ nameText d)] H fun r H' => (∃ x, r = .tup [.agg (ruCells (ruN d) x), vB true] ∧ RuW H' (ruN d) x) ∧ ∃ G, H' = H ++ G := by
  obtain ⟨k1, k2, k3, k4, k5⟩ := name_text h0 h1 h2 h3
  have e : [70, 82, 69, 81, 61, 68, 65, 73, 76, 89, 59, 66, 89, 68, 65, 89, 61] ++ nameText d = joinB 59 ((namesKV d).map kvT) := rfl
  have hs1 : split 59 (joinB 59 ((namesKV d).map kvT)) = (namesKV d).map kvT := split_join (by simp [namesKV]) fun s hs hm => by
    simp only [namesKV, List.map_cons, List.map_nil, List.mem_cons, List.mem_nil_iff, or_false] at hs
    rcases hs with rfl | rfl
    · revert hm; decide
    · unfold kvT at hm
      rcases List.mem_append.1 hm with hm | hm
      · have hm : (59 : UInt8) ∈ ([66, 89, 68, 65, 89] : List UInt8) := hm
        revert hm; decide
      · rcases List.mem_cons.1 hm with hm | hm
        · revert hm; decide
        · exact k4 hm
  have hs2 : ∀ p ∈ namesKV d, split 61 (kvT p) = [p.1, p.2] := by
    intro p hp
    simp only [namesKV, List.mem_cons, List.mem_nil_iff, or_false] at hp
    rcases hp with rfl | rfl
    · exact split_join (c := 61) (l := [[70, 82, 69, 81], [68, 65, 73, 76, 89]]) (by simp) (by intro s hs; simp at hs; rcases hs with rfl | rfl <;> decide)
    · exact split_join (c := 61) (l := [[66, 89, 68, 65, 89], nameText d]) (by simp) (by
        intro s hs
        simp at hs
        rcases hs with rfl | rfl
        · decide
        · exact k5)
  have hs3 : (split 44 (nameText d)).map swd = [d].map some := by
    rw [split_none (idx_no k3)]
    simp [k1]
  rw [e]
  refine read_A _ ?_ (namesKV d) hs1 hs2 (by show ([[70, 82, 69, 81], [66, 89, 68, 65, 89]] : List (List UInt8)).Nodup; decide) (by show [70, 82, 69, 81] ∈ ([[70, 82, 69, 81], [66, 89, 68, 65, 89]] : List (List UInt8)); decide) _ ⟨_, .inl ⟨rfl, 3, rfl, by omega, rfl⟩, _, .inr (.inr (.inr (.inr (.inr (.inl ⟨rfl, [d], hs3, rfl⟩))))), rfl⟩ H
  have : (joinB 59 ((namesKV d).map kvT)).length = 17 + (nameText d).length := by rw [← e, List.length_append]; rfl
  omega
theorem fnTextNames_A {w0 : World} (hG : Glob w0) (f : Nat) (hf : f ≤ 255) (w n : Int) (hw : -9223372036854775808 ≤ w ∧ w ≤ 9223372036854775807) (hn : -9223372036854775808 ≤ n ∧ n ≤ 9223372036854775807) (H : Heap) (hH : GH H) :
    ACalls Tryz.prog (CB w0) 7 [vU f, .agg [vI w, vI n]] H fun v H' => v = vB true ∧ ∃ G, H' = H ++ G := by
  refine A_fun (N := 81) (rs := [.tmp 4]) Tryz.func7 rfl rfl rfl (by kernel_rfl) (by kernel_rfl) (Nat.le_of_ble_eq_true rfl) ?_
  rintro e he ⟨g0, g1, -⟩
  have hB : ∀ G, (H ++ AObj.own 47 [vI w, vI n] :: G)[H.length]? = some (AObj.own 47 [vI w, vI n]) := fun G => heap_get0
  simp only [go_sem, Nat.reduceLT, Nat.reduceBEq, Nat.reduceAdd, Int.reduceBEq, Nat.reduceLeDiff, reduceIte, Nat.reduceEqDiff, Int.reduceEq, Int.reduceLE, Int.reduceLT, Int.reduceNe, Nat.reduceMul, Nat.reduceSub, Int.reduceToNat, he, g0, g1]
  cases c1 : decide ((6 : Int) < (f : Int)) with
  | true =>
    simp only [go_sem, Nat.reduceLT, Nat.reduceBEq, Nat.reduceAdd, Int.reduceBEq, Nat.reduceLeDiff, reduceIte, Nat.reduceEqDiff, Int.reduceEq, Int.reduceLE, Int.reduceLT, Int.reduceNe, Nat.reduceMul, Nat.reduceSub, Int.reduceToNat, he, g0, g1, c1]
    refine callX_of (textAwake_A hG _ (hH.more _)) (List.prefix_refl _) ?_
    simp only [go_sem, Nat.reduceLT, Nat.reduceBEq, Nat.reduceAdd, Int.reduceBEq, Nat.reduceLeDiff, reduceIte, Nat.reduceEqDiff, Int.reduceEq, Int.reduceLE, Int.reduceLT, Int.reduceNe, Nat.reduceMul, Nat.reduceSub, Int.reduceToNat, he, g0, g1, setD_some]
    exact ⟨_, rfl⟩
  | false =>
  simp only [go_sem, Nat.reduceLT, Nat.reduceBEq, Nat.reduceAdd, Int.reduceBEq, Nat.reduceLeDiff, reduceIte, Nat.reduceEqDiff, Int.reduceEq, Int.reduceLE, Int.reduceLT, Int.reduceNe, Nat.reduceMul, Nat.reduceSub, Int.reduceToNat, he, g0, g1, c1, hB]
  cases c2 : decide (w < 0) with
  | true =>
    simp only [go_sem, Nat.reduceLT, Nat.reduceBEq, Nat.reduceAdd, Int.reduceBEq, Nat.reduceLeDiff, reduceIte, Nat.reduceEqDiff, Int.reduceEq, Int.reduceLE, Int.reduceLT, Int.reduceNe, Nat.reduceMul, Nat.reduceSub, Int.reduceToNat, he, g0, g1, c2, hB]
    refine callX_of (textAwake_A hG _ (hH.more _)) (List.prefix_refl _) ?_
    simp only [go_sem, Nat.reduceLT, Nat.reduceBEq, Nat.reduceAdd, Int.reduceBEq, Nat.reduceLeDiff, reduceIte, Nat.reduceEqDiff, Int.reduceEq, Int.reduceLE, Int.reduceLT, Int.reduceNe, Nat.reduceMul, Nat.reduceSub, Int.reduceToNat, he, g0, g1, setD_some]
    exact ⟨_, rfl⟩
  | false =>
  simp only [go_sem, Nat.reduceLT, Nat.reduceBEq, Nat.reduceAdd, Int.reduceBEq, Nat.reduceLeDiff, reduceIte, Nat.reduceEqDiff, Int.reduceEq, Int.reduceLE, Int.reduceLT, Int.reduceNe, Nat.reduceMul, Nat.reduceSub, Int.reduceToNat, he, g0, g1, c2, hB]
  cases c3 : decide (6 < w) with
  | true =>
    simp only [go_sem, Nat.reduceLT, Nat.reduceBEq, Nat.reduceAdd, Int.reduceBEq, Nat.reduceLeDiff, reduceIte, Nat.reduceEqDiff, Int.reduceEq, Int.reduceLE, Int.reduceLT, Int.reduceNe, Nat.reduceMul, Nat.reduceSub, Int.reduceToNat, he, g0, g1, c3, hB]
    refine callX_of (textAwake_A hG _ (hH.more _)) (List.prefix_refl _) ?_
    simp only [go_sem, Nat.reduceLT, Nat.reduceBEq, Nat.reduceAdd, Int.reduceBEq, Nat.reduceLeDiff, reduceIte, Nat.reduceEqDiff, Int.reduceEq, Int.reduceLE, Int.reduceLT, Int.reduceNe, Nat.reduceMul, Nat.reduceSub, Int.reduceToNat, he, g0, g1, setD_some]
    exact ⟨_, rfl⟩
  | false =>
  simp only [go_sem, Nat.reduceLT, Nat.reduceBEq, Nat.reduceAdd, Int.reduceBEq, Nat.reduceLeDiff, reduceIte, Nat.reduceEqDiff, Int.reduceEq, Int.reduceLE, Int.reduceLT, Int.reduceNe, Nat.reduceMul, Nat.reduceSub, Int.reduceToNat, he, g0, g1, c3, hB]
  cases c4 : decide (n < -53) with
  | true =>
    simp only [go_sem, Nat.reduceLT, Nat.reduceBEq, Nat.reduceAdd, Int.reduceBEq, Nat.reduceLeDiff, reduceIte, Nat.reduceEqDiff, Int.reduceEq, Int.reduceLE, Int.reduceLT, Int.reduceNe, Nat.reduceMul, Nat.reduceSub, Int.reduceToNat, he, g0, g1, c4, hB]
    refine callX_of (textAwake_A hG _ (hH.more _)) (List.prefix_refl _) ?_
    simp only [go_sem, Nat.reduceLT, Nat.reduceBEq, Nat.reduceAdd, Int.reduceBEq, Nat.reduceLeDiff, reduceIte, Nat.reduceEqDiff, Int.reduceEq, Int.reduceLE, Int.reduceLT, Int.reduceNe, Nat.reduceMul, Nat.reduceSub, Int.reduceToNat, he, g0, g1, setD_some]
    exact ⟨_, rfl⟩
  | false =>
  simp only [go_sem, Nat.reduceLT, Nat.reduceBEq, Nat.reduceAdd, Int.reduceBEq, Nat.reduceLeDiff, reduceIte, Nat.reduceEqDiff, Int.reduceEq, Int.reduceLE, Int.reduceLT, Int.reduceNe, Nat.reduceMul, Nat.reduceSub, Int.reduceToNat, he, g0, g1, c4, hB]
  cases c5 : decide (53 < n) with
  | true =>
    simp only [go_sem, Nat.reduceLT, Nat.reduceBEq, Nat.reduceAdd, Int.reduceBEq, Nat.reduceLeDiff, reduceIte, Nat.reduceEqDiff, Int.reduceEq, Int.reduceLE, Int.reduceLT, Int.reduceNe, Nat.reduceMul, Nat.reduceSub, Int.reduceToNat, he, g0, g1, c5, hB]
    refine callX_of (textAwake_A hG _ (hH.more _)) (List.prefix_refl _) ?_
    simp only [go_sem, Nat.reduceLT, Nat.reduceBEq, Nat.reduceAdd, Int.reduceBEq, Nat.reduceLeDiff, reduceIte, Nat.reduceEqDiff, Int.reduceEq, Int.reduceLE, Int.reduceLT, Int.reduceNe, Nat.reduceMul, Nat.reduceSub, Int.reduceToNat, he, g0, g1, setD_some]
    exact ⟨_, rfl⟩
  | false =>
  have q1 := of_decide_eq_false c1
  have q2 := of_decide_eq_false c2
  have q3 := of_decide_eq_false c3
  have q4 := of_decide_eq_false c4
  have q5 := of_decide_eq_false c5
  simp only [go_sem, Nat.reduceLT, Nat.reduceBEq, Nat.reduceAdd, Int.reduceBEq, Nat.reduceLeDiff, reduceIte, Nat.reduceEqDiff, Int.reduceEq, Int.reduceLE, Int.reduceLT, Int.reduceNe, Nat.reduceMul, Nat.reduceSub, Int.reduceToNat, he, g0, g1, c5, hB]
  refine callX_of (frequencies_A _) (List.prefix_append _ _) ?_
  have hfi := (freq_get (f := f) (by omega)).1
  simp only [go_sem, Nat.reduceLT, Nat.reduceBEq, Nat.reduceAdd, Int.reduceBEq, Nat.reduceLeDiff, reduceIte, Nat.reduceEqDiff, Int.reduceEq, Int.reduceLE, Int.reduceLT, Int.reduceNe, Nat.reduceMul, Nat.reduceSub, Int.reduceToNat, he, g0, g1, setD_some, hB, hfi, Int.toNat_natCast]
  refine ⟨by omega, callX_of (freqOf_A f (by omega) _) (List.prefix_refl _) ?_⟩
  simp only [go_sem, Nat.reduceLT, Nat.reduceBEq, Nat.reduceAdd, Int.reduceBEq, Nat.reduceLeDiff, reduceIte, Nat.reduceEqDiff, Int.reduceEq, Int.reduceLE, Int.reduceLT, Int.reduceNe, Nat.reduceMul, Nat.reduceSub, Int.reduceToNat, he, g0, g1, setD_some, hB]
  refine callX_of (dayName_A hG (w, n) (by show 0 ≤ w; omega) (by show w ≤ 6; omega) (by show -53 ≤ n; omega) (by show n ≤ 53; omega) _) (List.prefix_refl _) ?_
  have hnl := (name_text (d := (w, n)) (by show 0 ≤ w; omega) (by show w ≤ 6; omega) (by show -53 ≤ n; omega) (by show n ≤ 53; omega)).2.1
  have hrd := fun H => names_read (w0 := w0) (d := (w, n)) (by show 0 ≤ w; omega) (by show w ≤ 6; omega) (by show -53 ≤ n; omega) (by show n ≤ 53; omega) H
  generalize nameText (w, n) = nt at *
  simp only [go_sem, Nat.reduceLT, Nat.reduceBEq, Nat.reduceAdd, Int.reduceBEq, Nat.reduceLeDiff, reduceIte, Nat.reduceEqDiff, Int.reduceEq, Int.reduceLE, Int.reduceLT, Int.reduceNe, Nat.reduceMul, Nat.reduceSub, Int.reduceToNat, he, g0, g1, setD_some, hB]
  refine ⟨by omega, callX_any (hrd _) ?_⟩
  rintro r h ⟨⟨x, rfl, hW⟩, G, rfl⟩
  obtain ⟨qd, hx1, hx2⟩ := hW.day.resolve_left (fun e => by cases e.2)
  have hx2 : _[qd]? = some (AObj.own 47 [vI w, vI n]) := hx2
  have hx1 : x.day = .sl true qd 0 1 2 := hx1
  have hqe : ∀ G2, _ := fun G2 => get_more (G := G2) hx2
  unfold ruN ruCells
  simp only [go_sem, Nat.reduceLT, Nat.reduceBEq, Nat.reduceAdd, Int.reduceBEq, Nat.reduceLeDiff, reduceIte, Nat.reduceEqDiff, Int.reduceEq, Int.reduceLE, Int.reduceLT, Int.reduceNe, Nat.reduceMul, Nat.reduceSub, Int.reduceToNat, he, g0, g1, setD_some, hB, Bool.true_and, hW.setPos.one, hW.month.one, hW.monthDay.one, hW.yearDay.one, hW.weekNo.one, hW.day.one, hW.hour.one, hW.minute.one, hW.second.one, hW.easter.one]
  refine acode_draw mixed (by kernel_rfl) ?_
  have hq2 : ∀ G2, (H ++ AObj.own 47 [vI w, vI n] :: AObj.own 9 (List.map vS freqs) :: (G ++ G2))[qd]? = some (AObj.own 47 [vI w, vI n]) := fun G2 => by
    have := hqe G2
    simp only [List.append_assoc, List.cons_append, List.nil_append] at this
    exact this
  have d1 : decide ((f : Int) = (f : Int)) = true := decide_eq_true rfl
  have d2 : decide (freqs.getD f [] = freqs.getD f []) = true := decide_eq_true rfl
  have d3 : decide (((1 : Nat) : Int) = 1) = true := rfl
  have d4 : decide (w = w) = true := decide_eq_true rfl
  have d5 : decide (n = n) = true := decide_eq_true rfl
  simp only [go_sem, Nat.reduceLT, Nat.reduceBEq, Nat.reduceAdd, Int.reduceBEq, Nat.reduceLeDiff, reduceIte, Nat.reduceEqDiff, Int.reduceEq, Int.reduceLE, Int.reduceLT, Int.reduceNe, Nat.reduceMul, Nat.reduceSub, Int.reduceToNat, he, g0, g1, setD_some, hB]
  refine callX_of (freqName_A f (by omega) _) (List.prefix_refl _) ?_
  simp only [go_sem, Nat.reduceLT, Nat.reduceBEq, Nat.reduceAdd, Int.reduceBEq, Nat.reduceLeDiff, reduceIte, Nat.reduceEqDiff, Int.reduceEq, Int.reduceLE, Int.reduceLT, Int.reduceNe, Nat.reduceMul, Nat.reduceSub, Int.reduceToNat, he, g0, g1, setD_some, hB, hx1, hq2, d1, d2, d3, d4, d5, Int.toNat_zero, Bool.true_and]
  refine ⟨by omega, callX_of (textAwake_A hG _ (hH.more _)) (List.prefix_refl _) ?_⟩
  simp only [go_sem, Nat.reduceLT, Nat.reduceBEq, Nat.reduceAdd, Int.reduceBEq, Nat.reduceLeDiff, reduceIte, Nat.reduceEqDiff, Int.reduceEq, Int.reduceLE, Int.reduceLT, Int.reduceNe, Nat.reduceMul, Nat.reduceSub, Int.reduceToNat, he, g0, g1, setD_some]
  exact ⟨_, rfl⟩
end Go.Proofs.YtlfpjdcogkcjlaaGreatDoor.F
