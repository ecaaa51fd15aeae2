/- A rule's options as data. -/
import Derived.Test.YtlfpjdcogkcjlaaGreatDoorT15
namespace Go.Proofs.YtlfpjdcogkcjlaaGreatDoor.F
open Go.RowKit Go.Proofs.YtlfpjdcogkcjlaaGreatDoor.AL Go.Proofs.YtlfpjdcogkcjlaaGreatDoor.B
set_option linter.unusedVariables false
set_option linter.unusedSimpArgs false
set_option maxRecDepth 20000
attribute [local irreducible] aops acode bindK bindV bindH callX callK condK guardK Kseq Kblk Knorm Kfun Kloop Kjoin outK AWp appendA
attribute [local go_sem] acode_skip acode_seq acode_region acode_cond acode_block acode_exit acode_ret acode_loop Kseq_normal Kseq_exit Kseq_ret Kblk_normal Kblk_ret Kblk_eq Kblk_ne Knorm_eq Kloop_normal Kloop_exit Kloop_ret Kjoin_normal Kjoin_exit Kjoin_ret condK_true condK_false bindK_put bindV_put bindK_no bindV_no bindH_no aops_nil gops wantK_some wantV_bool wantV_undef guardK_true guardK_false guardK_none aops_move aops_assign aops_pick aops_nilCheck aops_binOp aops_unOp aops_convert aops_fieldAddr aops_indexAddr aops_slice aops_index aops_extract aops_makeInterface aops_makeFunc aops_build aops_load aops_lookup aops_alloc aops_box aops_buildSlice aops_makeSlice aops_makeMap aops_store aops_insert aops_mapUpdate aops_len aops_append aops_call opA_tmp opA_const opA_global opA_func get_mk look_nil look_eq look_ne len_mk List.map_cons List.map_nil Option.map_some Option.map_none bin_add bin_sub bin_mul bin_quo bin_rem bin_eql bin_neq bin_lss bin_leq bin_gtr bin_geq bin_cat bin_seql bin_sneq bin_neq_ifc bin_eql_ifc bin_neq_nn bin_eql_nn bin_neq_ptr bin_eql_ptr bin_neq_pn isIfc_true isPtr_true bin_eql2 bin_neq2 aops_max max_int un_not un_neg lenA_K lenK_str lenK_nil lenK_sl lenK_array pick_bool pick_val bindV_ite bindK_ite bindH_ite slotV_sl slotK_some slotV_ptr slotR_some sliceV_sl cutK_some sliceV_str cutS_some bound_none bound_some indexA_str atS_some mkS fieldV_ptr loadV_ptr cellsK_ro cellsK_own loadK_one loadK_many storeA_ptr storeK_own allocA_some heap_len heap_get0 heap_get heap_set0 heap_set Kfun_ret Kfun_normal resA_nil resA_tmp resA_cell outK_some packA_one packA_nil packA_two List.length_cons List.length_nil List.getElem?_cons_zero List.getElem?_cons_succ List.set_cons_zero List.set_cons_succ List.cons_append List.nil_append List.append_assoc Nat.zero_add Nat.add_zero List.all_cons List.all_nil Value.oneCell' Bool.and_true Bool.and_self if_true if_false Bool.false_eq_true partsA buildV buildA fillA Option.bind_some putCells List.drop_succ_cons List.drop_zero List.take_succ_cons List.take_zero List.take_nil List.drop_nil and_self and_true true_and Option.some.injEq ne_eq not_false_eq_true Option.map_map List.getElem?_toArray beq_self_eq_true Bool.true_beq Bool.false_beq Bool.not_true Bool.not_false decide_true decide_false beq_true Nat.mul_one Nat.one_mul Nat.zero_mul bsA buildSliceA zerosN List.append_nil Int.toNat_natCast Int.toNat_zero boxA one_val one_ptr one_sl one_mp one_ifc one_fn avCells_agg avCells_val valCells_true valCells_agg avCells_ptr avCells_sl avCells_mp avCells_ifc avCells_fn app_cons app_nil lookupA insertA ifaceV extractA kd2 ars127 fp127 ars60 fp60 ars31 fp31 eq2_99 eq2_84 eq2_47 fp52 sz2 kd3 sz3 kd4 sz4 kd5 sz5 kd9 sz9 kd22 sz22 el22 kd23 sz23 el23 kd25 sz25 zc25 fp25 fo25_0 fo25_1 fo25_2 fo25_3 fo25_4 fo25_5 fo25_6 fo25_7 fo25_8 fo25_9 fo25_10 fo25_11 fo25_12 fo25_13 fo25_14 fo25_15 fo25_16 fo25_17 kd31 sz31 zc31 ar31 kd32 sz32 el32 kd34 sz34 zc34 fp34 fo34_0 fo34_1 fo34_2 fo34_3 fo34_4 fo34_5 fo34_6 fo34_7 fo34_8 fo34_9 fo34_10 fo34_11 fo34_12 fo34_13 fo34_14 fo34_15 fo34_16 fo34_17 el38 el42 kd47 sz47 zc47 fp47 fo47_0 fo47_1 kd52 sz52 zc52 fo52_0 el55 zc60 kd72 sz72 zc72 fp72 fo72_0 fo72_1 el73 isStrMap76 zv4 kd80 sz80 kd84 sz84 zc84 fp84 fo84_0 fo84_1 kd88 sz88 zc88 fp88 fo88_0 fo88_1 fo88_2 fo88_3 kd91 sz91 zc91 fp91 fo91_0 fo91_1 fo91_2 el94 kd99 sz99 zc99 fp99 fo99_0 fo99_1 kd100 sz100 el100 kd102 sz102 zc102 fp102 fo102_0 fo102_1 fo102_2 fo102_3 fo102_4 fo102_5 fo102_6 fo102_7 fo102_8 fo102_9 fo102_10 fo102_11 fo102_12 fo102_13 fo102_14 fo102_15 kd109 sz109 zc109 fp109 isStrMap124 zv80 zc127 kd153 sz153 zc153 ar153 isIface157 kd159 sz159 zc159 fp159 isStrMap177 zv84 Tryz.underlying3 Tryz.underlying4 Tryz.underlying5 Tryz.underlying9 Tryz.underlying21 Tryz.underlying22 Tryz.underlying23 Tryz.underlying32 Tryz.underlying38 Tryz.underlying42 Tryz.underlying47 Tryz.underlying55 Tryz.underlying67 Tryz.underlying73 Tryz.underlying80 Tryz.underlying84 Tryz.underlying94 Tryz.underlying100 Tryz.underlying2 Tryz.underlying127 Tryz.underlying60 Tryz.underlying31
theorem zUTC_A {w0 : World} (H : Heap) : ACalls Tryz.prog (CB w0) 58 [] H fun r H' => r = .agg [] ∧ H' = H := by
  refine ACalls.flat rfl ?_
  refine A_fun (N := 2) (rs := [.cell 0 109]) Tryz.func58 rfl rfl rfl (by kernel_rfl) (by kernel_rfl) (Nat.le_of_ble_eq_true rfl) ?_
  rintro e he -
  simp only [go_sem, Nat.reduceLT, Nat.reduceBEq, Nat.reduceAdd, Int.reduceBEq, Nat.reduceLeDiff, reduceIte, Nat.reduceEqDiff, Int.reduceEq, Int.reduceLE, Int.reduceLT, Int.reduceNe, Nat.reduceMul, Nat.reduceSub, Int.reduceToNat, he]
  exact ⟨_, rfl⟩
theorem zIsZero_A {w0 : World} (t n : Int) (H : Heap) : ACalls Tryz.prog (CB w0) 59 [.agg [vI t, vI n]] H fun r H' => r = vB (decide (t = 0) && decide (n = 0)) ∧ H' = H := by
  refine ACalls.flat rfl ?_
  refine A_fun (N := 11) (rs := [.tmp 2]) Tryz.func59 rfl rfl rfl (by kernel_rfl) (by kernel_rfl) (Nat.le_of_ble_eq_true rfl) ?_
  rintro e he ⟨g0, -⟩
  by_cases h : t = 0
  · have d := decide_eq_true h
    simp only [go_sem, Nat.reduceLT, Nat.reduceBEq, Nat.reduceAdd, Int.reduceBEq, Nat.reduceLeDiff, reduceIte, Nat.reduceEqDiff, Int.reduceEq, Int.reduceLE, Int.reduceLT, Int.reduceNe, Nat.reduceMul, Nat.reduceSub, Int.reduceToNat, he, g0, d, Bool.true_and]
    exact ⟨_, rfl⟩
  · have d := decide_eq_false h
    simp only [go_sem, Nat.reduceLT, Nat.reduceBEq, Nat.reduceAdd, Int.reduceBEq, Nat.reduceLeDiff, reduceIte, Nat.reduceEqDiff, Int.reduceEq, Int.reduceLE, Int.reduceLT, Int.reduceNe, Nat.reduceMul, Nat.reduceSub, Int.reduceToNat, he, g0, d, Bool.false_and]
    exact ⟨_, rfl⟩
theorem zSeconds_A {w0 : World} (t n : Int) (H : Heap) : ACalls Tryz.prog (CB w0) 60 [.agg [vI t, vI n]] H fun r H' => r = vI t ∧ H' = H := by
  refine ACalls.flat rfl ?_
  refine A_fun (N := 5) (rs := [.tmp 2]) Tryz.func60 rfl rfl rfl (by kernel_rfl) (by kernel_rfl) (Nat.le_of_ble_eq_true rfl) ?_
  rintro e he ⟨g0, -⟩
  simp only [go_sem, Nat.reduceLT, Nat.reduceBEq, Nat.reduceAdd, Int.reduceBEq, Nat.reduceLeDiff, reduceIte, Nat.reduceEqDiff, Int.reduceEq, Int.reduceLE, Int.reduceLT, Int.reduceNe, Nat.reduceMul, Nat.reduceSub, Int.reduceToNat, he, g0]
  exact ⟨_, rfl⟩
theorem wdDay_A {w0 : World} (p off : Nat) (cs : List AV) (a : Int) (H : Heap) (hp : cellsK H[p]? = some cs) (ha : cs[off]? = some (vI a)) : ACalls Tryz.prog (CB w0) 61 [.ptr p off] H fun r H' => r = vI a ∧ H' = H := by
  refine A_fun (N := 7) (rs := [.tmp 2]) Tryz.func61 rfl rfl rfl (by kernel_rfl) (by kernel_rfl) (Nat.le_of_ble_eq_true rfl) ?_
  rintro e he ⟨g0, -⟩
  simp only [go_sem, Nat.reduceLT, Nat.reduceBEq, Nat.reduceAdd, Int.reduceBEq, Nat.reduceLeDiff, reduceIte, Nat.reduceEqDiff, Int.reduceEq, Int.reduceLE, Int.reduceLT, Int.reduceNe, Nat.reduceMul, Nat.reduceSub, Int.reduceToNat, he, g0, nilA, hp, ha]
theorem wdN_A {w0 : World} (p off : Nat) (cs : List AV) (a : Int) (H : Heap) (hp : cellsK H[p]? = some cs) (ha : cs[off + 1]? = some (vI a)) : ACalls Tryz.prog (CB w0) 62 [.ptr p off] H fun r H' => r = vI a ∧ H' = H := by
  refine A_fun (N := 7) (rs := [.tmp 2]) Tryz.func62 rfl rfl rfl (by kernel_rfl) (by kernel_rfl) (Nat.le_of_ble_eq_true rfl) ?_
  rintro e he ⟨g0, -⟩
  simp only [go_sem, Nat.reduceLT, Nat.reduceBEq, Nat.reduceAdd, Int.reduceBEq, Nat.reduceLeDiff, reduceIte, Nat.reduceEqDiff, Int.reduceEq, Int.reduceLE, Int.reduceLT, Int.reduceNe, Nat.reduceMul, Nat.reduceSub, Int.reduceToNat, he, g0, nilA, hp, ha]
/-- The cells of weekdays with their numbers. -/
def dcells (l : List (Int × Int)) : List AV := l.flatMap fun d => [vI d.1, vI d.2]
theorem dcells_len : ∀ l : List (Int × Int), (dcells l).length = l.length * 2
  | [] => rfl
  | d :: l => by simp only [dcells, List.flatMap_cons, List.length_append, List.length_cons, List.length_nil]; have := dcells_len l; unfold dcells at this; omega
theorem dcells_snoc (l : List (Int × Int)) (d : Int × Int) : dcells (l ++ [d]) = dcells l ++ [vI d.1, vI d.2] := by simp [dcells]
theorem dcells_one (l : List (Int × Int)) : (dcells l).all AV.one = true := by
  rw [List.all_eq_true]
  intro x hx
  simp only [dcells, List.mem_flatMap, List.mem_cons, List.not_mem_nil, or_false] at hx
  obtain ⟨d, _, rfl | rfl⟩ := hx <;> rfl
/-- A slice of weekdays of the call's own, or none. -/
def DaysO (t : TypeId) (h : Heap) (x : AV) (l : List (Int × Int)) : Prop := (x = vNil ∧ l = []) ∨ ∃ q, x = .sl true q 0 l.length 2 ∧ h[q]? = some (.own t (dcells l))
theorem DaysO.one {t : TypeId} {h : Heap} {x : AV} {l : List (Int × Int)} (hx : DaysO t h x l) : x.one = true := by rcases hx with ⟨rfl, _⟩ | ⟨q, rfl, _⟩ <;> rfl
theorem DaysO.more {t : TypeId} {h : Heap} {x : AV} {l : List (Int × Int)} (hx : DaysO t h x l) (G : Heap) : DaysO t (h ++ G) x l := by
  rcases hx with hx | ⟨q, h1, h2⟩
  · exact .inl hx
  · exact .inr ⟨q, h1, get_more h2⟩
structure RuOwn (h : Heap) (r : Ru) (x : Rs) : Prop where
  setPos : IntsOwn h x.setPos r.setPos
  month : IntsOwn h x.month r.month
  monthDay : IntsOwn h x.monthDay r.monthDay
  yearDay : IntsOwn h x.yearDay r.yearDay
  weekNo : IntsOwn h x.weekNo r.weekNo
  hour : IntsOwn h x.hour r.hour
  minute : IntsOwn h x.minute r.minute
  second : IntsOwn h x.second r.second
  easter : IntsOwn h x.easter r.easter
  day : DaysO 52 h x.day r.day
def ruOf (o : Op) : Ru := ⟨(o.freq % 256).toNat, !decide (o.dt = 0), o.dt, o.interval, o.wkst.1, o.count, !decide (o.til = 0), o.til, o.pos, o.month, o.mday, o.yday, o.weekno, o.day, o.hour, o.minute, o.second, o.easter⟩
theorem wrapU8 (n : Int) : IntKind.wrap .u8 n = ((n % 256).toNat : Int) := by
  have hb : (IntKind.u8).bits = 8 := rfl
  have hs : (IntKind.u8).signed = false := rfl
  unfold IntKind.wrap
  rw [hb, hs]
  simp only [Bool.false_and, Bool.false_eq_true, if_false]
  have : (0 : Int) ≤ n % 256 := Int.emod_nonneg _ (by omega)
  show n % 256 = _
  omega
theorem DaysOwn.get {h : Heap} {x : AV} {l : List (Int × Int)} (hx : DaysOwn h x l) {i : Nat} (hi : i < l.length) : ∃ q cs, x = .sl true q 0 l.length 2 ∧ cellsK h[q]? = some cs ∧ i * 2 + 2 ≤ cs.length ∧ (cs.drop (i * 2)).take 2 = [vI (l.getD i (0, 0)).1, vI (l.getD i (0, 0)).2] := by
  rcases hx with ⟨_, rfl⟩ | ⟨q, cs, h1, h2, h3⟩
  · simp at hi
  · have e1 := h3 (i * 2) (by omega)
    have e2 := h3 (i * 2 + 1) (by omega)
    unfold dayCell at e1 e2
    rw [if_pos (by omega), show i * 2 / 2 = i by omega] at e1
    rw [if_neg (by omega), show (i * 2 + 1) / 2 = i by omega] at e2
    have := take_two e1 e2
    exact ⟨q, cs, h1, by rw [h2]; rfl, this.1, this.2⟩
theorem DaysOwn.len {h : Heap} {x : AV} {l : List (Int × Int)} (hx : DaysOwn h x l) (e : TypeId) : lenK (some (.slice e)) x = some (vI l.length) := by
  rcases hx with ⟨rfl, rfl⟩ | ⟨q, cs, rfl, _⟩ <;> rfl
theorem IntsOwn.putT {h : Heap} {x : AV} {l : List Int} (hx : IntsOwn h x l) {p t : Nat} {cs : List AV} (hp : h[p]? = some (.own t cs)) (ht : t ≠ 3) (y : AObj) : IntsOwn (h.set p y) x l := by
  rcases hx with hx | ⟨q, h1, h2⟩
  · exact .inl hx
  · refine .inr ⟨q, h1, ?_⟩
    have : p ≠ q := by rintro rfl; rw [hp] at h2; simp at h2; exact ht h2.1
    rw [List.getElem?_set_ne this]; exact h2
theorem DaysOwn.putT {h : Heap} {x : AV} {l : List (Int × Int)} (hx : DaysOwn h x l) {p t : Nat} {cs : List AV} (hp : h[p]? = some (.own t cs)) (ht : t ≠ 84) (y : AObj) : DaysOwn (h.set p y) x l := by
  rcases hx with hx | ⟨q, cs', h1, h2, h3⟩
  · exact .inl hx
  · refine .inr ⟨q, cs', h1, ?_, h3⟩
    have : p ≠ q := by rintro rfl; rw [hp] at h2; simp at h2; exact ht h2.1
    rw [List.getElem?_set_ne this]; exact h2
theorem OpAt.putT {h : Heap} {o : Op} {x : Os} (hx : OpAt h o x) {p t : Nat} {cs : List AV} (hp : h[p]? = some (.own t cs)) (ht : t ≠ 3) (ht' : t ≠ 84) (y : AObj) : OpAt (h.set p y) o x :=
  ⟨hx.pos.putT hp ht y, hx.month.putT hp ht y, hx.mday.putT hp ht y, hx.yday.putT hp ht y, hx.weekno.putT hp ht y, hx.hour.putT hp ht y, hx.minute.putT hp ht y, hx.second.putT hp ht y, hx.easter.putT hp ht y, hx.day.putT hp ht' y⟩
/-- A slice of weekdays that grows, behind objects that stay. -/
def DaysB (t : TypeId) (B : Nat) (h : Heap) (x : AV) (l : List (Int × Int)) : Prop := (x = vNil ∧ l = []) ∨ ∃ q, B ≤ q ∧ x = .sl true q 0 l.length 2 ∧ h[q]? = some (.own t (dcells l))
theorem DaysB.own {t : TypeId} {B : Nat} {h : Heap} {x : AV} {l : List (Int × Int)} (hx : DaysB t B h x l) : DaysO t h x l := by
  rcases hx with hx | ⟨q, _, h1, h2⟩
  · exact .inl hx
  · exact .inr ⟨q, h1, h2⟩
theorem DaysB.one {t : TypeId} {B : Nat} {h : Heap} {x : AV} {l : List (Int × Int)} (hx : DaysB t B h x l) : x.one = true := hx.own.one
theorem DaysB.more {t : TypeId} {B : Nat} {h : Heap} {x : AV} {l : List (Int × Int)} (hx : DaysB t B h x l) (G : Heap) : DaysB t B (h ++ G) x l := by
  rcases hx with hx | ⟨q, h0, h1, h2⟩
  · exact .inl hx
  · exact .inr ⟨q, h0, h1, get_more h2⟩
theorem DaysB.push {ts t : TypeId} {zs : List Value} (hel : el Tryz.prog ts = some (t, 2, 16, zs)) {H h : Heap} {x : AV} {l : List (Int × Int)} (hx : DaysB t H.length h x l) (hG : ∃ G, h = H ++ G) (d : Int × Int) (hl : l.length ≤ 10000000) : ∃ x' h', appendA Tryz.prog ts x (.sl true h.length 0 1 2) (h ++ [AObj.own t [vI d.1, vI d.2]]) = some (x', h') ∧ DaysB t H.length h' x' (l ++ [d]) ∧ (∃ G, h' = H ++ G) ∧ (∀ (p : Nat) (y : AObj), h[p]? = some y → (∀ cs, y ≠ AObj.own t cs) → h'[p]? = some y) := by
  obtain ⟨G, rfl⟩ := hG
  have h1 : cellsOf ((H ++ G) ++ [AObj.own t [vI d.1, vI d.2]]) (H ++ G).length = some [vI d.1, vI d.2] := by unfold cellsOf; rw [heap_get0]; rfl
  rcases hx with ⟨rfl, rfl⟩ | ⟨q, hq, rfl, h2⟩
  · refine ⟨.sl true ((H ++ G) ++ [AObj.own t [vI d.1, vI d.2]]).length 0 1 2, ((H ++ G) ++ [AObj.own t [vI d.1, vI d.2]]) ++ [.own t [vI d.1, vI d.2]], ?_, .inr ⟨_, ?_, rfl, ?_⟩, ⟨G ++ [AObj.own t [vI d.1, vI d.2]] ++ [.own t [vI d.1, vI d.2]], by simp only [List.append_assoc]⟩, fun p y hp _ => get_more (get_more hp)⟩
    · unfold appendA
      rw [hel]
      simp only [h1]
      rw [if_pos ⟨by simp, trivial, by rfl⟩]
      rfl
    · simp only [List.length_append]; omega
    · rw [heap_get0]; rfl
  · have hlt : q < (H ++ G).length := (List.getElem?_eq_some_iff.1 h2).1
    refine ⟨.sl true ((H ++ G) ++ [AObj.own t [vI d.1, vI d.2]]).length 0 (l.length + 1) 2, (((H ++ G) ++ [AObj.own t [vI d.1, vI d.2]]).set q .gone) ++ [AObj.own t (dcells l ++ [vI d.1, vI d.2])], ?_, .inr ⟨_, ?_, by rw [show (l ++ [d]).length = l.length + 1 by simp], ?_⟩, ?_, ?_⟩
    · have h3 : ((H ++ G) ++ [AObj.own t [vI d.1, vI d.2]])[q]? = some (.own t (dcells l)) := get_more h2
      have hdl := dcells_len l
      unfold appendA
      rw [hel]
      simp only [h1, h3]
      rw [if_pos ⟨by simp, trivial, by rfl⟩, if_pos ⟨trivial, trivial, by omega, by omega, by omega⟩]
      simp only [List.drop_zero]
      rw [List.take_of_length_le (l := dcells l) (by omega), List.take_of_length_le (by simp)]
    · simp only [List.length_append]; omega
    · have : (((H ++ G) ++ [AObj.own t [vI d.1, vI d.2]]).set q .gone).length = ((H ++ G) ++ [AObj.own t [vI d.1, vI d.2]]).length := List.length_set
      rw [← this, heap_get0, dcells_snoc]
      rfl
    · exact ⟨_, by rw [List.append_assoc, set_behind hq, List.append_assoc]⟩
    · intro p y hp hy
      have hpo : q ≠ p := by
        rintro rfl
        rw [h2] at hp
        exact hy _ (Option.some.inj hp).symm
      have hpl : p < (H ++ G).length := (List.getElem?_eq_some_iff.1 hp).1
      rw [get_less (by simp only [List.length_set, List.length_append, List.length_cons, List.length_nil] at hpl ⊢; omega), List.getElem?_set_ne hpo, get_less hpl]
      exact hp
theorem DaysO.putT {t : TypeId} {h : Heap} {x : AV} {l : List (Int × Int)} (hx : DaysO t h x l) {p t' : Nat} {cs : List AV} (hp : h[p]? = some (.own t' cs)) (ht : t' ≠ t) (y : AObj) : DaysO t (h.set p y) x l := by
  rcases hx with hx | ⟨q, h1, h2⟩
  · exact .inl hx
  · refine .inr ⟨q, h1, ?_⟩
    have : p ≠ q := by rintro rfl; rw [hp] at h2; simp at h2; exact ht h2.1
    rw [List.getElem?_set_ne this]; exact h2
theorem DaysB.putT {t B : Nat} {h : Heap} {x : AV} {l : List (Int × Int)} (hx : DaysB t B h x l) {p t' : Nat} {cs : List AV} (hp : h[p]? = some (.own t' cs)) (ht : t' ≠ t) (y : AObj) : DaysB t B (h.set p y) x l := by
  rcases hx with hx | ⟨q, h0, h1, h2⟩
  · exact .inl hx
  · refine .inr ⟨q, h0, h1, ?_⟩
    have : p ≠ q := by rintro rfl; rw [hp] at h2; simp at h2; exact ht h2.1
    rw [List.getElem?_set_ne this]; exact h2
/-- Objects of all types but one are kept. -/
def Keeps (t : TypeId) (h h' : Heap) : Prop := ∀ (p : Nat) (y : AObj), h[p]? = some y → (∀ cs, y ≠ AObj.own t cs) → h'[p]? = some y
theorem IntsOwn.keep {h h' : Heap} {x : AV} {l : List Int} (hx : IntsOwn h x l) {t : TypeId} (hk : Keeps t h h') (ht : t ≠ 3) : IntsOwn h' x l := by
  rcases hx with hx | ⟨q, h1, h2⟩
  · exact .inl hx
  · exact .inr ⟨q, h1, hk q _ h2 fun cs e => by cases e; exact ht rfl⟩
theorem DaysOwn.keep {h h' : Heap} {x : AV} {l : List (Int × Int)} (hx : DaysOwn h x l) {t : TypeId} (hk : Keeps t h h') (ht : t ≠ 84) : DaysOwn h' x l := by
  rcases hx with hx | ⟨q, cs, h1, h2, h3⟩
  · exact .inl hx
  · exact .inr ⟨q, cs, h1, hk q _ h2 (fun cs e => by cases e; exact ht rfl), h3⟩
theorem OpAt.keep {h h' : Heap} {o : Op} {x : Os} (hx : OpAt h o x) {t : TypeId} (hk : Keeps t h h') (h1 : t ≠ 3) (h2 : t ≠ 84) : OpAt h' o x :=
  ⟨hx.pos.keep hk h1, hx.month.keep hk h1, hx.mday.keep hk h1, hx.yday.keep hk h1, hx.weekno.keep hk h1, hx.hour.keep hk h1, hx.minute.keep hk h1, hx.second.keep hk h1, hx.easter.keep hk h1, hx.day.keep hk h2⟩
theorem two_front {H G : Heap} {a b : AObj} (h1 : (H ++ G)[H.length]? = some a) (h2 : (H ++ G)[H.length + 1]? = some b) : ∃ G', G = a :: b :: G' := by
  rw [heap_get0] at h1
  rw [heap_get] at h2
  match G, h1, h2 with
  | x :: y :: G', h1, h2 =>
    simp at h1 h2
    exact ⟨G', by rw [h1, h2]⟩
set_option maxHeartbeats 2000000 in
theorem implRule_A {w0 : World} (p : Nat) (o : Op) (x : Os) (hl : o.day.length ≤ 1000000) (H : Heap) (hp : H[p]? = some (.own 102 (opCells o x))) (hx : OpAt H o x) : ACalls Tryz.prog (CB w0) 33 [.ptr p 0] H fun r H' => (∃ y, r = .agg (ruCells (ruOf o) y) ∧ RuOwn H' (ruOf o) y) ∧ ∃ G, H' = H ++ G := by
  refine A_fun (N := 101) (rs := [.cell 2 34]) Tryz.func33 rfl rfl rfl (by kernel_rfl) (by kernel_rfl) (Nat.le_of_ble_eq_true rfl) ?_
  rintro e he ⟨g0, -⟩
  have hB : ∀ G, (H ++ G)[p]? = some (.own 102 (opCells o x)) := fun G => get_more hp
  unfold opCells at hB
  have c1 : ∀ a : Int, convV Tryz.prog 80 5 (vI a) = some (.val (.int .u8 ((a % 256).toNat : Int))) := fun a => by rw [conv_int (P := Tryz.prog) (s := 80) (d := 5) Tryz.underlying80 Tryz.underlying5, wrapU8]
  simp only [go_sem, Nat.reduceLT, Nat.reduceBEq, Nat.reduceAdd, Int.reduceBEq, Nat.reduceLeDiff, reduceIte, Nat.reduceEqDiff, Int.reduceEq, Int.reduceLE, Int.reduceLT, Int.reduceNe, Nat.reduceMul, Nat.reduceSub, Int.reduceToNat, he, g0, nilA, hB, c1]
  refine acode_drawQ [59, 60, 61] mixed (by kernel_rfl) ?_
  simp only [go_sem, Nat.reduceLT, Nat.reduceBEq, Nat.reduceAdd, Int.reduceBEq, Nat.reduceLeDiff, reduceIte, Nat.reduceEqDiff, Int.reduceEq, Int.reduceLE, Int.reduceLT, Int.reduceNe, Nat.reduceMul, Nat.reduceSub, Int.reduceToNat, he, g0, nilA, hB, c1]
  refine callX_quiet (fun _ => zIsZero_A _ _ _) ?_
  simp only [go_sem, Nat.reduceLT, Nat.reduceBEq, Nat.reduceAdd, Int.reduceBEq, Nat.reduceLeDiff, reduceIte, Nat.reduceEqDiff, Int.reduceEq, Int.reduceLE, Int.reduceLT, Int.reduceNe, Nat.reduceMul, Nat.reduceSub, Int.reduceToNat, he, g0, nilA, hB, c1, setD_some]
  refine callX_quiet (fun _ => zSeconds_A _ _ _) ?_
  simp only [go_sem, Nat.reduceLT, Nat.reduceBEq, Nat.reduceAdd, Int.reduceBEq, Nat.reduceLeDiff, reduceIte, Nat.reduceEqDiff, Int.reduceEq, Int.reduceLE, Int.reduceLT, Int.reduceNe, Nat.reduceMul, Nat.reduceSub, Int.reduceToNat, he, g0, nilA, hB, c1, setD_some]
  refine callX_quiet (fun _ => wdDay_A p 4 _ o.wkst.1 _ (by rw [List.append_assoc, hB]; exact cellsK_own) rfl) ?_
  simp only [go_sem, Nat.reduceLT, Nat.reduceBEq, Nat.reduceAdd, Int.reduceBEq, Nat.reduceLeDiff, reduceIte, Nat.reduceEqDiff, Int.reduceEq, Int.reduceLE, Int.reduceLT, Int.reduceNe, Nat.reduceMul, Nat.reduceSub, Int.reduceToNat, he, g0, nilA, hB, c1, setD_some]
  refine callX_quiet (fun _ => zIsZero_A _ _ _) ?_
  simp only [go_sem, Nat.reduceLT, Nat.reduceBEq, Nat.reduceAdd, Int.reduceBEq, Nat.reduceLeDiff, reduceIte, Nat.reduceEqDiff, Int.reduceEq, Int.reduceLE, Int.reduceLT, Int.reduceNe, Nat.reduceMul, Nat.reduceSub, Int.reduceToNat, he, g0, nilA, hB, c1, setD_some]
  refine callX_quiet (fun _ => zSeconds_A _ _ _) ?_
  have hdl := hx.day.len 84
  simp only [go_sem, Nat.reduceLT, Nat.reduceBEq, Nat.reduceAdd, Int.reduceBEq, Nat.reduceLeDiff, reduceIte, Nat.reduceEqDiff, Int.reduceEq, Int.reduceLE, Int.reduceLT, Int.reduceNe, Nat.reduceMul, Nat.reduceSub, Int.reduceToNat, he, g0, nilA, hB, c1, setD_some, avCells_one hx.pos.one, avCells_one hx.month.one, avCells_one hx.mday.one, avCells_one hx.yday.one, avCells_one hx.weekno.one, avCells_one hx.hour.one, avCells_one hx.minute.one, avCells_one hx.second.one, avCells_one hx.easter.one, hx.pos.one, hx.month.one, hx.mday.one, hx.yday.one, hx.weekno.one, hx.hour.one, hx.minute.one, hx.second.one, hx.easter.one, hdl]
  refine A_while o.day.length (fun k e h => ∃ (i : Nat) (y : AV) (z : List AV), i + k = o.day.length ∧ len e = 101 ∧ AL.get e 2 = .ptr H.length 0 ∧ AL.get e 3 = .ptr (H.length + 1) 0 ∧ AL.get e 85 = x.day ∧ AL.get e 86 = vI o.day.length ∧ AL.get e 87 = vI i ∧ (∃ G, h = H ++ G) ∧ OpAt h o x ∧ DaysB 52 H.length h y (o.day.take i) ∧ h[H.length]? = some (.own 34 z) ∧ z.length = 18 ∧ h[H.length + 1]? = some (.own 34 (ruCells (ruOf o) ⟨x.pos, x.month, x.mday, x.yday, x.weekno, y, x.hour, x.minute, x.second, x.easter⟩))) (by kernel_rfl) ?_ ?_
  · simp only [go_sem, Nat.reduceLT, Nat.reduceBEq, Nat.reduceAdd, Int.reduceBEq, Nat.reduceLeDiff, reduceIte, Nat.reduceEqDiff, Int.reduceEq, Int.reduceLE, Int.reduceLT, Int.reduceNe, Nat.reduceMul, Nat.reduceSub, Int.reduceToNat, he, g0]
    exact ⟨0, vNil, _, by omega, rfl, ⟨_, rfl⟩, hx.more _, .inl ⟨rfl, rfl⟩, rfl, rfl, rfl⟩
  · rintro k e h ⟨i, y, z, hik, he, g2, g3, g85, g86, g87, hG, hx, hy, hz, hzl, hr⟩
    simp only [go_sem, Nat.reduceLT, Nat.reduceBEq, Nat.reduceAdd, Int.reduceBEq, Nat.reduceLeDiff, reduceIte, Nat.reduceEqDiff, Int.reduceEq, Int.reduceLE, Int.reduceLT, Int.reduceNe, Nat.reduceMul, Nat.reduceSub, Int.reduceToNat, he, g2, g3, g85, g86, g87]
    refine condK_of (fun hc => ?_) fun hc => ?_
    · have hc := of_decide_eq_true hc
      have hi : i < o.day.length := by omega
      obtain ⟨q, cs, e1, e2, e3, e4⟩ := hx.day.get hi
      rw [e1] at g85
      simp only [go_sem, Nat.reduceLT, Nat.reduceBEq, Nat.reduceAdd, Int.reduceBEq, Nat.reduceLeDiff, reduceIte, Nat.reduceEqDiff, Int.reduceEq, Int.reduceLE, Int.reduceLT, Int.reduceNe, Nat.reduceMul, Nat.reduceSub, Int.reduceToNat, he, g2, g3, g85, g86, g87, e2, e3, e4, Int.toNat_natCast]
      refine ⟨by omega, ?_⟩
      refine acode_drawQ [61, 62] mixed (by kernel_rfl) ?_
      have hr' := get_more (G := [AObj.own 84 [vI (o.day.getD i (0, 0)).1, vI (o.day.getD i (0, 0)).2]]) hr
      unfold ruCells at hr'
      simp only [go_sem, Nat.reduceLT, Nat.reduceBEq, Nat.reduceAdd, Int.reduceBEq, Nat.reduceLeDiff, reduceIte, Nat.reduceEqDiff, Int.reduceEq, Int.reduceLE, Int.reduceLT, Int.reduceNe, Nat.reduceMul, Nat.reduceSub, Int.reduceToNat, he, g2, g3, g85, g86, g87, hr']
      have hnew : ∀ G, ((h ++ [AObj.own 84 [vI (o.day.getD i (0, 0)).1, vI (o.day.getD i (0, 0)).2]]) ++ G)[h.length]? = some (AObj.own 84 [vI (o.day.getD i (0, 0)).1, vI (o.day.getD i (0, 0)).2]) := fun G => by rw [List.append_assoc]; exact heap_get0
      refine callX_quiet (fun G => wdDay_A h.length 0 _ (o.day.getD i (0, 0)).1 _ (by rw [hnew]; exact cellsK_own) rfl) ?_
      simp only [go_sem, Nat.reduceLT, Nat.reduceBEq, Nat.reduceAdd, Int.reduceBEq, Nat.reduceLeDiff, reduceIte, Nat.reduceEqDiff, Int.reduceEq, Int.reduceLE, Int.reduceLT, Int.reduceNe, Nat.reduceMul, Nat.reduceSub, Int.reduceToNat, he, g2, g3, g85, g86, g87, hr', setD_some]
      refine callX_quiet (fun G => wdN_A h.length 0 _ (o.day.getD i (0, 0)).2 _ (by rw [hnew]; exact cellsK_own) rfl) ?_
      have hpush := (hy.more [AObj.own 84 [vI (o.day.getD i (0, 0)).1, vI (o.day.getD i (0, 0)).2]]).push el32 (by obtain ⟨G, rfl⟩ := hG; exact ⟨_, List.append_assoc _ _ _⟩) (o.day.getD i (0, 0)) (by rw [List.length_take]; omega)
      obtain ⟨x', h', ha, hy', hG', hkeep⟩ := hpush
      have htk : o.day.take (i + 1) = o.day.take i ++ [o.day.getD i (0, 0)] := by rw [List.take_add_one, List.getD_eq_getElem?_getD, List.getElem?_eq_getElem hi]; rfl
      rw [← htk] at hy'
      simp only [go_sem, Nat.reduceLT, Nat.reduceBEq, Nat.reduceAdd, Int.reduceBEq, Nat.reduceLeDiff, reduceIte, Nat.reduceEqDiff, Int.reduceEq, Int.reduceLE, Int.reduceLT, Int.reduceNe, Nat.reduceMul, Nat.reduceSub, Int.reduceToNat, he, g2, g3, g85, g86, g87, hr', setD_some] at ha ⊢
      rw [ha]
      have hr2 := hkeep _ _ hr' (by intro cs; simp)
      have wi : IntKind.i64.wrap ((i : Int) + 1) = ((i + 1 : Nat) : Int) := by rw [wI64 (by omega)]; rfl
      simp only [go_sem, Nat.reduceLT, Nat.reduceBEq, Nat.reduceAdd, Int.reduceBEq, Nat.reduceLeDiff, reduceIte, Nat.reduceEqDiff, Int.reduceEq, Int.reduceLE, Int.reduceLT, Int.reduceNe, Nat.reduceMul, Nat.reduceSub, Int.reduceToNat, he, g2, g3, g85, g86, g87, hr2, setD_some, avCells_one hy'.one, wi]
      have hx' := (hx.more [AObj.own 84 [vI (o.day.getD i (0, 0)).1, vI (o.day.getD i (0, 0)).2]]).keep hkeep (by decide) (by decide)
      have hz' := hkeep _ _ (get_more (G := [AObj.own 84 [vI (o.day.getD i (0, 0)).1, vI (o.day.getD i (0, 0)).2]]) hz) (by intro cs; simp)
      obtain ⟨G', rfl⟩ := hG'
      refine ⟨k - 1, by omega, i + 1, x', z, by omega, e1.symm, rfl, ⟨_, set_behind (by omega)⟩, hx'.putT hr2 (by decide) (by decide) _, hy'.putT hr2 (by decide) _, ?_, hzl, ?_⟩
      · rw [List.getElem?_set_ne (by omega)]; exact hz'
      · rw [List.getElem?_set_self (List.getElem?_eq_some_iff.1 hr2).1]; rfl
    · have hc := of_decide_eq_false hc
      have hi : i = o.day.length := by omega
      rw [hi, List.take_length] at hy
      obtain ⟨G, rfl⟩ := hG
      obtain ⟨G', rfl⟩ := two_front hz hr
      have hz18 : z.drop 18 = [] := List.drop_eq_nil_of_le (by omega)
      simp only [ruCells, go_sem, Nat.reduceLT, Nat.reduceBEq, Nat.reduceAdd, Int.reduceBEq, Nat.reduceLeDiff, reduceIte, Nat.reduceEqDiff, Int.reduceEq, Int.reduceLE, Int.reduceLT, Int.reduceNe, Nat.reduceMul, Nat.reduceSub, Int.reduceToNat, he, g2, g3, g85, g86, g87, Bool.true_and, hx.pos.one, hx.month.one, hx.mday.one, hx.yday.one, hx.weekno.one, hx.hour.one, hx.minute.one, hx.second.one, hx.easter.one, hy.one, hzl, hz18]
      have hx2 := hx.putT (y := .own 34 (ruCells (ruOf o) ⟨x.pos, x.month, x.mday, x.yday, x.weekno, y, x.hour, x.minute, x.second, x.easter⟩)) hz (by decide) (by decide)
      rw [heap_set0, List.set_cons_zero] at hx2
      refine ⟨⟨⟨x.pos, x.month, x.mday, x.yday, x.weekno, y, x.hour, x.minute, x.second, x.easter⟩, rfl, ⟨hx2.pos, hx2.month, hx2.mday, hx2.yday, hx2.weekno, hx2.hour, hx2.minute, hx2.second, hx2.easter, ?_⟩⟩, _, rfl⟩
      have hy2 := hy.own.putT (y := .own 34 (ruCells (ruOf o) ⟨x.pos, x.month, x.mday, x.yday, x.weekno, y, x.hour, x.minute, x.second, x.easter⟩)) hz (by decide)
      rw [heap_set0, List.set_cons_zero] at hy2
      exact hy2
end Go.Proofs.YtlfpjdcogkcjlaaGreatDoor.F
