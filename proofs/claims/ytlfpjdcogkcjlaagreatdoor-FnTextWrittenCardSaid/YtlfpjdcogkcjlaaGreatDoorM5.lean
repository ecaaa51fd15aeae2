/- Merged: T37 T39 T42 T43 T44 T45 T46 T38 T47 T55 T61 T62 T51 T63 -/
import Derived.Test.YtlfpjdcogkcjlaaGreatDoorM4
/- Dates' texts with commas between them are read as they were; whether two slices of numbers are the same. -/
namespace Go.Proofs.YtlfpjdcogkcjlaaGreatDoor.F
open Go.RowKit Go.Proofs.YtlfpjdcogkcjlaaGreatDoor.AL Go.Proofs.YtlfpjdcogkcjlaaGreatDoor.B
set_option linter.unusedVariables false
set_option linter.unusedSimpArgs false
set_option maxRecDepth 20000
attribute [local irreducible] aops acode bindK bindV bindH callX callK condK guardK Kseq Kblk Knorm Kfun Kloop Kjoin outK AWp appendA
attribute [local go_sem] acode_skip acode_seq acode_region acode_cond acode_block acode_exit acode_ret acode_loop Kseq_normal Kseq_exit Kseq_ret Kblk_normal Kblk_ret Kblk_eq Kblk_ne Knorm_eq Kloop_normal Kloop_exit Kloop_ret Kjoin_normal Kjoin_exit Kjoin_ret condK_true condK_false bindK_put bindV_put bindK_no bindV_no bindH_no aops_nil gops wantK_some wantV_bool wantV_undef guardK_true guardK_false guardK_none aops_move aops_assign aops_pick aops_nilCheck aops_binOp aops_unOp aops_convert aops_fieldAddr aops_indexAddr aops_slice aops_index aops_extract aops_makeInterface aops_makeFunc aops_build aops_load aops_lookup aops_alloc aops_box aops_buildSlice aops_makeSlice aops_makeMap aops_store aops_insert aops_mapUpdate aops_len aops_append aops_call opA_tmp opA_const opA_global opA_func get_mk look_nil look_eq look_ne len_mk List.map_cons List.map_nil Option.map_some Option.map_none bin_add bin_sub bin_mul bin_quo bin_rem bin_eql bin_neq bin_lss bin_leq bin_gtr bin_geq bin_cat bin_seql bin_sneq bin_neq_ifc bin_eql_ifc bin_neq_nn bin_eql_nn bin_neq_ptr bin_eql_ptr bin_neq_pn isIfc_true isPtr_true bin_eql2 bin_neq2 aops_max max_int un_not un_neg lenA_K lenK_str lenK_nil lenK_sl lenK_array pick_bool pick_val bindV_ite bindK_ite bindH_ite slotV_sl slotK_some slotV_ptr slotR_some sliceV_sl cutK_some sliceV_str cutS_some bound_none bound_some indexA_str atS_some mkS fieldV_ptr loadV_ptr cellsK_ro cellsK_own loadK_one loadK_many storeA_ptr storeK_own allocA_some heap_len heap_get0 heap_get heap_set0 heap_set Kfun_ret Kfun_normal resA_nil resA_tmp resA_cell outK_some packA_one packA_nil packA_two List.length_cons List.length_nil List.getElem?_cons_zero List.getElem?_cons_succ List.set_cons_zero List.set_cons_succ List.cons_append List.nil_append List.append_assoc Nat.zero_add Nat.add_zero List.all_cons List.all_nil Value.oneCell' Bool.and_true Bool.and_self if_true if_false Bool.false_eq_true partsA buildV buildA fillA Option.bind_some putCells List.drop_succ_cons List.drop_zero List.take_succ_cons List.take_zero List.take_nil List.drop_nil and_self and_true true_and Option.some.injEq ne_eq not_false_eq_true Option.map_map List.getElem?_toArray beq_self_eq_true Bool.true_beq Bool.false_beq Bool.not_true Bool.not_false decide_true decide_false beq_true Nat.mul_one Nat.one_mul Nat.zero_mul bsA buildSliceA zerosN List.append_nil Int.toNat_natCast Int.toNat_zero boxA one_val one_ptr one_sl one_mp one_ifc one_fn avCells_agg avCells_val valCells_true valCells_agg avCells_ptr avCells_sl avCells_mp avCells_ifc avCells_fn app_cons app_nil lookupA insertA ifaceV extractA kd2 ars127 fp127 ars60 fp60 ars31 fp31 eq2_99 eq2_84 eq2_47 fp52 sz2 kd3 sz3 kd4 sz4 kd5 sz5 kd9 sz9 kd22 sz22 el22 kd23 sz23 el23 kd25 sz25 zc25 fp25 fo25_0 fo25_1 fo25_2 fo25_3 fo25_4 fo25_5 fo25_6 fo25_7 fo25_8 fo25_9 fo25_10 fo25_11 fo25_12 fo25_13 fo25_14 fo25_15 fo25_16 fo25_17 kd31 sz31 zc31 ar31 kd32 sz32 el32 kd34 sz34 zc34 fp34 fo34_0 fo34_1 fo34_2 fo34_3 fo34_4 fo34_5 fo34_6 fo34_7 fo34_8 fo34_9 fo34_10 fo34_11 fo34_12 fo34_13 fo34_14 fo34_15 fo34_16 fo34_17 el38 el42 kd47 sz47 zc47 fp47 fo47_0 fo47_1 kd52 sz52 zc52 fo52_0 el55 zc60 kd72 sz72 zc72 fp72 fo72_0 fo72_1 el73 kd80 sz80 kd84 sz84 zc84 fp84 fo84_0 fo84_1 kd88 sz88 zc88 fp88 fo88_0 fo88_1 fo88_2 fo88_3 kd91 sz91 zc91 fp91 fo91_0 fo91_1 fo91_2 el94 kd99 sz99 zc99 fp99 fo99_0 fo99_1 kd100 sz100 el100 kd102 sz102 zc102 fp102 fo102_0 fo102_1 fo102_2 fo102_3 fo102_4 fo102_5 fo102_6 fo102_7 fo102_8 fo102_9 fo102_10 fo102_11 fo102_12 fo102_13 fo102_14 fo102_15 kd109 sz109 zc109 fp109 isStrMap124 zv80 zc127 kd153 sz153 zc153 ar153 isIface157 kd159 sz159 zc159 fp159 isStrMap177 zv84 Tryz.underlying3 Tryz.underlying4 Tryz.underlying5 Tryz.underlying9 Tryz.underlying21 Tryz.underlying22 Tryz.underlying23 Tryz.underlying32 Tryz.underlying38 Tryz.underlying42 Tryz.underlying47 Tryz.underlying55 Tryz.underlying67 Tryz.underlying73 Tryz.underlying80 Tryz.underlying84 Tryz.underlying94 Tryz.underlying100 Tryz.underlying2 Tryz.underlying127 Tryz.underlying60 Tryz.underlying31 kd55 ai60 ai127 indexA_agg atK_some isStrMap76 zv4
attribute [local go_sem_proc] Nat.reduceLT Nat.reduceBEq Nat.reduceAdd Int.reduceBEq Nat.reduceLeDiff reduceIte Nat.reduceEqDiff Int.reduceEq Int.reduceLE Int.reduceLT Int.reduceNe Nat.reduceMul Nat.reduceSub Int.reduceToNat
def dtB (c : UInt8) : Bool := isDig c || c == 84 || c == 90
theorem dtB_all : ((List.range 256).all fun n => !dtB (UInt8.ofNat n) || (n != 44 && n != 46 && n != 58)) = true := by kernel_rfl
theorem dtB_not {c : UInt8} (h : dtB c = true) : c.toNat ≠ 44 ∧ c.toNat ≠ 46 ∧ c.toNat ≠ 58 := by
  have h1 := List.all_eq_true.1 dtB_all c.toNat (List.mem_range.2 c.toNat_lt)
  rw [UInt8.ofNat_toNat, h] at h1
  simp only [Bool.not_true, Bool.false_or, Bool.and_eq_true, bne_iff_ne] at h1
  exact ⟨h1.1.1, h1.1.2, h1.2⟩
theorem dig_dtB {s : List UInt8} (h : s.all isDig = true) : s.all dtB = true := by
  rw [List.all_eq_true] at h ⊢
  intro c hc
  unfold dtB
  rw [h c hc]
  rfl
/-- A date's text: whole, without its Z, or the day alone. -/
def formP (p : Nat × Int) : List UInt8 := if p.1 = 0 then dateText p.2 else if p.1 = 1 then dateB p.2 else dateA p.2
def valP (p : Nat × Int) : Int := if p.1 = 0 then p.2 else if p.1 = 1 then p.2 else p.2 - p.2 % 86400
def InY (t : Int) : Prop := 0 ≤ t ∧ t < before 10000 * 86400
theorem dateA_dt {t : Int} (h : InY t) : (dateA t).all dtB = true := by
  have hn : 0 ≤ t / 86400 := by have := h.1; omega
  have hy := yearOf_ok hn
  have hy9 := yearOf_small hn (by have := h.2; omega)
  obtain ⟨m, e1, e2, e3, e4, e5, e6⟩ := dayOf_date hn
  have hmd := monthDays_pos (yearOf (t / 86400)) m
  unfold dateA
  rw [List.all_append, List.all_append, dig_dtB (pad4 (by omega) (by omega)).2.1, dig_dtB (pad2 (by omega) (by omega)).2.1, dig_dtB (pad2 (by omega) (by omega)).2.1]
  rfl
theorem dateB_dt {t : Int} (h : InY t) : (dateB t).all dtB = true := by
  unfold dateB
  rw [List.all_append, List.all_cons, List.all_append, List.all_append, dateA_dt h, dig_dtB (pad2 (by omega) (by omega)).2.1, dig_dtB (pad2 (by omega) (by omega)).2.1, dig_dtB (pad2 (by omega) (by omega)).2.1]
  rfl
theorem formP_dt {p : Nat × Int} (h : InY p.2) : (formP p).all dtB = true := by
  unfold formP
  split
  · rw [dateText_eq, List.all_append, dateB_dt h]; rfl
  · split
    · exact dateB_dt h
    · exact dateA_dt h
theorem formP_len {p : Nat × Int} (h : InY p.2) : (formP p).length ≤ 16 := by
  unfold formP
  split
  · rw [dateText_eq, List.length_append, dateB_len h.1 h.2]; simp
  · split
    · rw [dateB_len h.1 h.2]; omega
    · rw [dateA_len h.1 h.2]; omega
theorem formP_loc {p : Nat × Int} (h : InY p.2) : zLoc (formP p) = some (valP p) := by
  unfold formP valP
  split
  · exact loc_full h.1 h.2
  · split
    · exact loc_noZ h.1 h.2
    · exact loc_day h.1 h.2
theorem mapAcc_map {α β γ : Type} {f : α → Except Nat β} {g : γ → α} {v : γ → β} : ∀ (l : List γ) (acc : List β), (∀ a ∈ l, f (g a) = .ok (v a)) → mapAcc f acc (l.map g) = .ok (acc ++ l.map v)
  | [], acc, _ => by simp [mapAcc]
  | a :: l, acc, h => by
    rw [List.map_cons, mapAcc, h a (by simp)]
    simp only
    rw [mapAcc_map l (acc ++ [v a]) fun b hb => h b (List.mem_cons_of_mem _ hb)]
    simp
theorem mapAcc_stop {α β γ : Type} {f : α → Except Nat β} {g : γ → α} {v : γ → β} {b : α} {e : Nat} (hb : f b = .error e) : ∀ (l : List γ) (acc : List β), (∀ a ∈ l, f (g a) = .ok (v a)) → mapAcc f acc (l.map g ++ [b]) = .error e
  | [], acc, _ => by simp [mapAcc, hb]
  | a :: l, acc, h => by
    rw [List.map_cons, List.cons_append, mapAcc, h a (by simp)]
    simp only
    exact mapAcc_stop hb l (acc ++ [v a]) fun b hb => h b (List.mem_cons_of_mem _ hb)
theorem dateE_form {p : Nat × Int} (h : InY p.2) : dateE (formP p) = .ok (valP p) := by
  unfold dateE
  rw [formP_loc h]
  rfl
theorem forms_split {l : List (Nat × Int)} (h0 : l ≠ []) (h : ∀ p ∈ l, InY p.2) : split 44 (joinB 44 (l.map formP)) = l.map formP :=
  split_join (by simpa using h0) fun s hs hm => by
    obtain ⟨p, hp, rfl⟩ := List.mem_map.1 hs
    exact (dtB_not (List.all_eq_true.1 (formP_dt (h p hp)) _ hm)).1 rfl
theorem datesE_forms {l : List (Nat × Int)} (h0 : l ≠ []) (h : ∀ p ∈ l, InY p.2) : datesE (joinB 44 (l.map formP)) = .ok (l.map valP) := by
  unfold datesE
  rw [forms_split h0 h, mapAcc_map l [] fun p hp => dateE_form (h p hp)]
  rfl
def badD : List (List UInt8) := [[], [50, 48, 50, 48], [50, 48, 50, 48, 48, 50, 51, 48, 84, 48, 48, 48, 48, 48, 48, 90], [50, 48, 50, 48, 48, 49, 48, 49, 84, 50, 53, 48, 48, 48, 48, 90], [120], [50, 48, 50, 48, 48, 49, 48, 49, 84, 48, 48, 48, 48, 48, 48, 88]]
theorem badD_get {k : Nat} (hk : k < 6) : ∃ b, badD[k]? = some b ∧ zLoc b = none ∧ (b.all fun c => c != 44 && c != 46 && c != 58) = true ∧ b.length ≤ 16 := by
  match k, hk with
  | 0, _ => exact ⟨_, rfl, by kernel_rfl, rfl, by decide⟩
  | 1, _ => exact ⟨_, rfl, by kernel_rfl, rfl, by decide⟩
  | 2, _ => exact ⟨_, rfl, by kernel_rfl, rfl, by decide⟩
  | 3, _ => exact ⟨_, rfl, by kernel_rfl, rfl, by decide⟩
  | 4, _ => exact ⟨_, rfl, by kernel_rfl, rfl, by decide⟩
  | 5, _ => exact ⟨_, rfl, by kernel_rfl, rfl, by decide⟩
theorem no44 {b : List UInt8} (h : (b.all fun c => c != 44 && c != 46 && c != 58) = true) : (44 : UInt8) ∉ b ∧ (58 : UInt8) ∉ b ∧ NoFrac b := by
  rw [List.all_eq_true] at h
  refine ⟨fun hm => ?_, fun hm => ?_, fun c hc => ?_⟩
  · have := h _ hm; revert this; decide
  · have := h _ hm; revert this; decide
  · have := h _ hc
    simp only [Bool.and_eq_true, bne_iff_ne] at this
    refine ⟨fun e => this.1.2 (UInt8.toNat_inj.1 e), fun e => this.1.1 (UInt8.toNat_inj.1 e)⟩
theorem bad_split {l : List (Nat × Int)} {b : List UInt8} (h0 : l ≠ []) (h : ∀ p ∈ l, InY p.2) (hb : (44 : UInt8) ∉ b) : split 44 (joinB 44 (l.map formP) ++ 44 :: b) = l.map formP ++ [b] := by
  rw [← joinB_snoc 44 b _ (by simpa using h0)]
  exact split_join (by simp) fun s hs hm => by
    rcases List.mem_append.1 hs with hs | hs
    · obtain ⟨p, hp, rfl⟩ := List.mem_map.1 hs
      exact (dtB_not (List.all_eq_true.1 (formP_dt (h p hp)) _ hm)).1 rfl
    · rw [List.mem_singleton] at hs
      rw [hs] at hm
      exact hb hm
theorem datesE_bad {l : List (Nat × Int)} {b : List UInt8} (h0 : l ≠ []) (h : ∀ p ∈ l, InY p.2) (hb : (44 : UInt8) ∉ b) (hz : zLoc b = none) : ∃ e, datesE (joinB 44 (l.map formP) ++ 44 :: b) = .error e := by
  refine ⟨157, ?_⟩
  unfold datesE
  rw [bad_split h0 h hb]
  exact mapAcc_stop (by unfold dateE; rw [hz]; rfl) l [] fun p hp => dateE_form (h p hp)
theorem forms_no58 : ∀ {l : List (Nat × Int)}, (∀ p ∈ l, InY p.2) → (58 : UInt8) ∉ joinB 44 (l.map formP)
  | [], _, hm => by simp [joinB] at hm
  | [p], h, hm => (dtB_not (List.all_eq_true.1 (formP_dt (h p (by simp))) _ hm)).2.2 rfl
  | p :: q :: r, h, hm => by
    have e : joinB 44 ((p :: q :: r).map formP) = formP p ++ 44 :: joinB 44 ((q :: r).map formP) := rfl
    rw [e] at hm
    rcases List.mem_append.1 hm with hm | hm
    · exact (dtB_not (List.all_eq_true.1 (formP_dt (h p (by simp))) _ hm)).2.2 rfl
    · rcases List.mem_cons.1 hm with hm | hm
      · exact absurd hm (by decide)
      · exact forms_no58 (fun p hp => h p (List.mem_cons_of_mem _ hp)) hm
theorem forms_frac {l : List (Nat × Int)} (h : ∀ p ∈ l, InY p.2) : ∀ x ∈ l.map formP, NoFrac x := by
  intro x hx
  obtain ⟨p, hp, rfl⟩ := List.mem_map.1 hx
  intro c hc
  have := dtB_not (List.all_eq_true.1 (formP_dt (h p hp)) _ hc)
  exact ⟨this.2.1, this.1⟩

theorem IntsAt.get {H : Heap} {x : AV} {l : List Int} (hx : IntsAt H x l) {i : Nat} (hi : i < l.length) : ∃ own o off cs, x = .sl own o off l.length 1 ∧ cellsK H[o]? = some cs ∧ cs[off + i]? = some (vI (l.getD i 0)) := by
  rcases hx with ⟨rfl, h0⟩ | ⟨own, o, off, cs, rfl, hcs, hcell⟩
  · omega
  · exact ⟨own, o, off, cs, rfl, hcs, hcell i (by omega)⟩
theorem list_ext_getD {l l' : List Int} (hl : l.length = l'.length) (h : ∀ i, i < l.length → l.getD i 0 = l'.getD i 0) : l = l' := by
  apply List.ext_getElem hl
  intro i h1 h2
  have := h i h1
  rw [List.getD_eq_getElem?_getD, List.getD_eq_getElem?_getD, List.getElem?_eq_getElem h1, List.getElem?_eq_getElem h2] at this
  exact this
theorem equal64_A {w0 : World} (l l' : List Int) (hl : l.length ≤ 1000000000) (hl' : l'.length ≤ 1000000000) (x y : AV) (H : Heap) (hx : IntsAt H x l) (hy : IntsAt H y l') : ACalls Tryz.prog (CB w0) 27 [x, y] H fun r H' => r = vB (decide (l = l')) ∧ H' = H := by
  refine A_fun (N := 26) (rs := [.tmp 4]) Tryz.func27 rfl rfl rfl (by kernel_rfl) (by kernel_rfl) (Nat.le_of_ble_eq_true rfl) ?_
  rintro e he ⟨g0, g1, -⟩
  have h1 := hx.len 2
  have h2 := hy.len 2
  simp only [go_sem, he, g0, g1, h1, h2]
  refine condK_of (fun hc => ?_) fun hc => ?_
  · have hc : ¬ ((l.length : Int) = l'.length) := by simpa using hc
    simp only [go_sem, he, g0, g1]
    rw [decide_eq_false (by intro e; exact hc (by rw [e]))]
  · have hc : (l.length : Int) = l'.length := by simpa using hc
    simp only [go_sem, he, g0, g1, h1]
    refine A_while l.length (fun k e h => h = H ∧ len e = 26 ∧ AL.get e 0 = x ∧ AL.get e 1 = y ∧ AL.get e 12 = vI l.length ∧ ∃ i : Nat, AL.get e 13 = vI i ∧ i + k = l.length ∧ ∀ j, j < i → l.getD j 0 = l'.getD j 0) (by kernel_rfl) ?_ ?_
    · simp only [go_sem, he, g0, g1]
      exact ⟨0, rfl, by omega, fun j hj => by omega⟩
    · rintro k e h ⟨rfl, he, g0, g1, g12, i, g13, hik, hs⟩
      have wi : IntKind.i64.wrap ((i : Int) + 1) = ((i + 1 : Nat) : Int) := by rw [wI64 (by omega)]; rfl
      simp only [go_sem, he, g0, g1, g12, g13]
      refine condK_of (fun hc => ?_) fun hc => ?_
      · have hc := of_decide_eq_true hc
        obtain ⟨own, o, off, cs, rfl, hcs, hci⟩ := hx.get (i := i) (by omega)
        obtain ⟨own', o', off', cs', rfl, hcs', hci'⟩ := hy.get (i := i) (by omega)
        simp only [go_sem, he, g0, g1, g12, g13]
        refine acode_draw mixed (by kernel_rfl) ?_
        generalize ha : l.getD i 0 = a at *
        generalize hb : l'.getD i 0 = b at *
        simp only [go_sem, he, g0, g1, g12, g13, hcs, hcs', hci, hci', Int.toNat_natCast]
        refine ⟨by omega, by omega, condK_of (fun hq => ?_) fun hq => ?_⟩
        · have hq : ¬ a = b := by simpa using hq
          simp only [go_sem, he, g0, g1, g12, g13]
          rw [decide_eq_false (by rintro rfl; exact hq (ha.symm.trans hb))]
        · have hq : a = b := by simpa using hq
          simp only [go_sem, he, g0, g1, g12, g13, wi]
          refine ⟨k - 1, by omega, i + 1, rfl, by omega, fun j hj => ?_⟩
          rcases Nat.lt_or_ge j i with h1 | h1
          · exact hs j h1
          · obtain rfl : j = i := by omega
            rw [ha, hb, hq]
      · have hc := of_decide_eq_false hc
        simp only [go_sem, he, g0, g1, g12, g13]
        rw [decide_eq_true (list_ext_getD (by omega) fun j hj => hs j (by omega))]
theorem GrN.ints {t : Nat} {H h : Heap} {x : AV} {l : List Int} (hO : GrN t 1 H h x l.length (l.map vI)) : IntsAt h x l := by
  rcases hO.2.2 with ⟨rfl, h0⟩ | ⟨o, rfl, ho, _⟩
  · exact .inl ⟨rfl, h0⟩
  · refine .inr ⟨true, o, 0, _, rfl, by rw [ho]; rfl, fun i hi => ?_⟩
    have hi : i < l.length := by omega
    rw [Nat.zero_add, List.getElem?_map]
    show Option.map vI l[i]? = some (vI (l.getD i 0))
    rw [List.getD_eq_getElem?_getD, List.getElem?_eq_getElem hi]
    rfl
def BytesAt (H : Heap) (x : AV) (l : List Nat) : Prop := SlOf H x l.length 1 fun i => vU (l.getD i 0)
theorem BytesAt.get {H : Heap} {x : AV} {l : List Nat} (hx : BytesAt H x l) {i : Nat} (hi : i < l.length) : ∃ own o off cs, x = .sl own o off l.length 1 ∧ cellsK H[o]? = some cs ∧ cs[off + i]? = some (vU (l.getD i 0)) := by
  rcases hx with ⟨rfl, h0⟩ | ⟨own, o, off, cs, rfl, hcs, hcell⟩
  · omega
  · exact ⟨own, o, off, cs, rfl, hcs, hcell i (by omega)⟩
def itemAt (l : List Int) (fs : List Nat) (i : Nat) : Nat × Int := (fs.getD i 0 % 3, l.getD i 0)
def items (l : List Int) (fs : List Nat) (n : Nat) : List (Nat × Int) := (List.range n).map (itemAt l fs)
theorem items_succ (l : List Int) (fs : List Nat) (n : Nat) : items l fs (n + 1) = items l fs n ++ [itemAt l fs n] := by
  unfold items
  rw [List.range_succ, List.map_append]
  rfl
theorem items_len (l : List Int) (fs : List Nat) (n : Nat) : (items l fs n).length = n := by simp [items]
theorem items_text (l : List Int) (fs : List Nat) (n : Nat) : joinB 44 ((items l fs (n + 1)).map formP) = if n = 0 then formP (itemAt l fs n) else joinB 44 ((items l fs n).map formP) ++ 44 :: formP (itemAt l fs n) := by
  rw [items_succ, List.map_append]
  split
  · rename_i h
    subst h
    rfl
  · rename_i h
    refine joinB_snoc 44 _ _ fun e => h ?_
    have := congrArg List.length e
    simpa [items] using this
theorem items_step {l : List Int} {fs : List Nat} {i : Nat} {tx : List UInt8} (h : tx = joinB 44 ((items l fs i).map formP)) : (if i = 0 then tx else tx ++ [44]) ++ formP (itemAt l fs i) = joinB 44 ((items l fs (i + 1)).map formP) := by
  rw [items_text]
  by_cases h0 : i = 0
  · subst h0
    rw [if_pos rfl, if_pos rfl, h]
    rfl
  · rw [if_neg h0, if_neg h0, h, List.append_assoc]
    rfl
theorem items_vals (l : List Int) (fs : List Nat) (i : Nat) : (items l fs (i + 1)).map (fun p => vI (valP p)) = (items l fs i).map (fun p => vI (valP p)) ++ [vI (valP (itemAt l fs i))] := by
  rw [items_succ, List.map_append]
  rfl
theorem items_in {l : List Int} {fs : List Nat} {i : Nat} (h : ∀ p ∈ items l fs i, InY p.2) (h1 : InY (itemAt l fs i).2) : ∀ p ∈ items l fs (i + 1), InY p.2 := by
  intro p hp
  rw [items_succ] at hp
  rcases List.mem_append.1 hp with hp | hp
  · exact h p hp
  · rw [List.mem_singleton] at hp
    rw [hp]
    exact h1

theorem sdigits_A {w0 : World} (s : List UInt8) (a n : Nat) (hs : s.length ≤ 1000000) (hn : n ≤ 8) (hl : a + n ≤ s.length) (hd : ((s.drop a).take n).all isDig = true) (H : Heap) : ACalls Tryz.prog (CB w0) 94 [vS s, vI a, vI ((a + n : Nat) : Int)] H fun r H' => r = .tup [vI (digFold ((s.drop a).take n)), vB true] ∧ H' = H := by
  refine A_fun (N := 39) (rs := [.tmp 6, .tmp 7]) Tryz.func94 rfl rfl rfl (by kernel_rfl) (by kernel_rfl) (Nat.le_of_ble_eq_true rfl) ?_
  rintro e he ⟨g0, g1, g2, -⟩
  simp only [go_sem, he, g0, g1, g2]
  refine condK_of (fun hc => ?_) fun hc => ?_
  · have hc := of_decide_eq_true hc
    omega
  simp only [go_sem, he, g0, g1, g2]
  refine A_while n (fun k e h => h = H ∧ len e = 39 ∧ AL.get e 0 = vS s ∧ AL.get e 2 = vI ((a + n : Nat) : Int) ∧ ∃ (i : Nat), AL.get e 9 = vI ((a + i : Nat) : Int) ∧ AL.get e 8 = vI (digFold ((s.drop a).take i)) ∧ i + k = n) (by kernel_rfl) ?_ ?_
  · simp only [go_sem, he, g0, g1, g2]
    exact ⟨0, rfl, rfl, by omega⟩
  · rintro k e h ⟨rfl, he, g0, g2, i, g9, g8, hik⟩
    simp only [go_sem, he, g0, g2, g8, g9]
    refine condK_of (fun hc => ?_) fun hc => ?_
    · have hc := of_decide_eq_true hc
      have hi : a + i < s.length := by omega
      have hi2 : i < (s.drop a).length := by rw [List.length_drop]; omega
      have hge : (s.drop a).getD i 0 = s.getD (a + i) 0 := by
        rw [List.getD_eq_getElem?_getD, List.getD_eq_getElem?_getD, List.getElem?_drop]
      have htk : (s.drop a).take (i + 1) = (s.drop a).take i ++ [s.getD (a + i) 0] := by
        rw [List.take_add_one, ← hge, List.getD_eq_getElem?_getD, List.getElem?_eq_getElem hi2]; rfl
      have hall : ((s.drop a).take i).all isDig = true := by
        rw [List.all_eq_true] at hd ⊢
        intro c hc
        have e1 : (s.drop a).take i = ((s.drop a).take n).take i := by rw [List.take_take, Nat.min_eq_left (by omega)]
        rw [e1] at hc
        exact hd c (List.mem_of_mem_take hc)
      have hcd := all_dig (s := s.drop a) hd (show i < n by omega) hi2 hge
      have hdf := digFold_le i ((s.drop a).take i) (by rw [List.length_take]; omega) hall
      have hp : (10 : Int) ^ i ≤ 100000000 := by
        have : (10 : Int) ^ i ≤ 10 ^ 8 := by exact_mod_cast Nat.pow_le_pow_right (by omega) (by omega)
        omega
      generalize hcc : s.getD (a + i) 0 = c at *
      have e48 : decide ((c.toNat : Int) < 48) = false := decide_eq_false (by omega)
      have e57 : decide ((57 : Int) < (c.toNat : Int)) = false := decide_eq_false (by omega)
      have u1 : IntKind.u8.wrap ((c.toNat : Int) - 48) = (c.toNat : Int) - 48 := wU8 (by omega)
      have u2 : IntKind.i64.wrap ((c.toNat : Int) - 48) = (c.toNat : Int) - 48 := wI64 (by omega)
      have u3 : IntKind.i64.wrap (10 * digFold ((s.drop a).take i)) = 10 * digFold ((s.drop a).take i) := wI64 (by omega)
      have u4 : IntKind.i64.wrap (10 * digFold ((s.drop a).take i) + ((c.toNat : Int) - 48)) = digFold ((s.drop a).take (i + 1)) := by rw [htk, digFold_snoc, wI64 (by omega)]
      have wi : IntKind.i64.wrap (((a + i : Nat) : Int) + 1) = ((a + (i + 1) : Nat) : Int) := by rw [wI64 (by omega)]; rfl
      simp only [go_sem, he, g0, g2, g8, g9, Int.toNat_natCast, nn, hcc, e48, e57, u1, conv_int (P := Tryz.prog) (s := 5) (d := 3) Tryz.underlying5 Tryz.underlying3, u2, u3, u4, wi]
      refine ⟨by omega, by omega, by omega, k - 1, by omega, i + 1, rfl, rfl, by omega⟩
    · have hc := of_decide_eq_false hc
      have : i = n := by omega
      subst this
      simp only [go_sem, he, g0, g2, g8, g9]
/-- A number with a sign or without one. -/
def numOf (s : List UInt8) : Option Int :=
  let a := if s.head? = some 43 ∨ s.head? = some 45 then 1 else 0
  if s.length = a ∨ a + 6 < s.length then none else if (s.drop a).all isDig then some ((if s.head? = some 45 then -1 else 1) * digFold (s.drop a)) else none
theorem number_A {w0 : World} (s : List UInt8) (n : Int) (h : numOf s = some n) (H : Heap) : ACalls Tryz.prog (CB w0) 68 [vS s] H fun r H' => r = .tup [vI n, vB true] ∧ H' = H := by
  refine A_fun (N := 47) (rs := [.tmp 2, .tmp 3]) Tryz.func68 rfl rfl rfl (by kernel_rfl) (by kernel_rfl) (Nat.le_of_ble_eq_true rfl) ?_
  rintro e he ⟨g0, -⟩
  unfold numOf at h
  simp only at h
  have hpos : 0 < s.length := by
    cases s with
    | nil => simp at h
    | cons c t => simp
  have hh : s.head? = some (s.getD 0 0) := by
    cases s with
    | nil => simp at hpos
    | cons c t => rfl
  have c0 : decide ((0 : Int) < (s.length : Int)) = true := decide_eq_true (by omega)
  rw [hh] at h
  generalize hg : s.getD 0 0 = c at *
  have fin : ∀ (a : Nat) (sg : Int), a ≤ 1 → (sg = 1 ∨ sg = -1) → (if s.length = a ∨ a + 6 < s.length then none else if (s.drop a).all isDig then some (sg * digFold (s.drop a)) else none) = some n →
      a < s.length ∧ s.length ≤ a + 6 ∧ ((s.drop a).take (s.length - a)).all isDig = true ∧ n = sg * digFold ((s.drop a).take (s.length - a)) ∧ IntKind.i64.wrap (sg * digFold ((s.drop a).take (s.length - a))) = n := by
    intro a sg ha hsg h
    split at h
    · cases h
    rename_i hb
    split at h
    · rename_i hall
      have ht : (s.drop a).take (s.length - a) = s.drop a := List.take_of_length_le (by rw [List.length_drop]; omega)
      have hl : (s.drop a).length = s.length - a := by rw [List.length_drop]
      have hf := digFold_le (s.length - a) (s.drop a) hl hall
      have hp : (10 : Int) ^ (s.length - a) ≤ 1000000 := by
        have : (10 : Int) ^ (s.length - a) ≤ 10 ^ 6 := by exact_mod_cast Nat.pow_le_pow_right (by omega) (by omega)
        omega
      rw [ht]
      have hn : n = sg * digFold (s.drop a) := (Option.some.inj h).symm
      refine ⟨by omega, by omega, hall, hn, ?_⟩
      rw [hn]
      rcases hsg with rfl | rfl
      · exact wI64 (by omega)
      · exact wI64 (by omega)
    · cases h
  have hln : s.length ≤ 7 := by
    by_cases hc : some c = some 43 ∨ some c = some 45
    · rw [if_pos hc] at h
      exact (fin 1 _ (by omega) (by split <;> simp) h).2.1
    · rw [if_neg hc] at h
      have := (fin 0 _ (by omega) (by split <;> simp) h).2.1
      omega
  by_cases h43 : c = 43
  · subst h43
    have ea : (if some (43 : UInt8) = some 43 ∨ some (43 : UInt8) = some 45 then 1 else 0) = 1 := by decide
    have eb : (if some (43 : UInt8) = some 45 then (-1 : Int) else 1) = 1 := by decide
    rw [ea, eb] at h
    obtain ⟨k1, k2, k3, k4, k5⟩ := fin 1 1 (by omega) (.inl rfl) h
    have e43 : decide (((43 : UInt8).toNat : Int) = 43) = true := rfl
    have e45 : decide (((43 : UInt8).toNat : Int) = 45) = false := rfl
    have e1 : decide ((s.length : Int) = 1) = false := decide_eq_false (by omega)
    have e2 : decide ((7 : Int) < (s.length : Int)) = false := decide_eq_false (by omega)
    have w7 : IntKind.i64.wrap (1 + 6) = 7 := by decide
    have el : (s.length : Int) = ((1 + (s.length - 1) : Nat) : Int) := by omega
    have el2 : ((1 + (s.length - 1) : Nat) : Int) = (s.length : Int) := by omega
    have cl := sdigits_A (w0 := w0) s 1 (s.length - 1) (by omega) (by omega) (by omega) k3 H
    rw [el2] at cl
    generalize digFold ((s.drop 1).take (s.length - 1)) = z at *
    simp only [go_sem, he, g0, c0, hg, Int.toNat_zero, e43, e45, e1, e2, w7]
    refine ⟨by omega, by omega, callX_of cl (List.prefix_refl _) ?_⟩
    simp only [go_sem, he, g0, setD_some, k5]
  by_cases h45 : c = 45
  · subst h45
    have ea : (if some (45 : UInt8) = some 43 ∨ some (45 : UInt8) = some 45 then 1 else 0) = 1 := by decide
    have eb : (if some (45 : UInt8) = some 45 then (-1 : Int) else 1) = -1 := by decide
    rw [ea, eb] at h
    obtain ⟨k1, k2, k3, k4, k5⟩ := fin 1 (-1) (by omega) (.inr rfl) h
    have e43 : decide (((45 : UInt8).toNat : Int) = 43) = false := rfl
    have e45 : decide (((45 : UInt8).toNat : Int) = 45) = true := rfl
    have e1 : decide ((s.length : Int) = 1) = false := decide_eq_false (by omega)
    have e2 : decide ((7 : Int) < (s.length : Int)) = false := decide_eq_false (by omega)
    have w7 : IntKind.i64.wrap (1 + 6) = 7 := by decide
    have el2 : ((1 + (s.length - 1) : Nat) : Int) = (s.length : Int) := by omega
    have cl := sdigits_A (w0 := w0) s 1 (s.length - 1) (by omega) (by omega) (by omega) k3 H
    rw [el2] at cl
    generalize digFold ((s.drop 1).take (s.length - 1)) = z at *
    simp only [go_sem, he, g0, c0, hg, Int.toNat_zero, e43, e45, e1, e2, w7]
    refine ⟨by omega, by omega, by omega, callX_of cl (List.prefix_refl _) ?_⟩
    simp only [go_sem, he, g0, setD_some, k5]
  · have ea : (if some c = some 43 ∨ some c = some 45 then 1 else 0) = 0 := if_neg (by simp [h43, h45])
    have eb : (if some c = some 45 then (-1 : Int) else 1) = 1 := if_neg (by simp [h45])
    rw [ea, eb] at h
    obtain ⟨k1, k2, k3, k4, k5⟩ := fin 0 1 (by omega) (.inl rfl) h
    have n43 : c.toNat ≠ 43 := fun e => h43 (UInt8.toNat_inj.1 e)
    have n45 : c.toNat ≠ 45 := fun e => h45 (UInt8.toNat_inj.1 e)
    have e43 : decide ((c.toNat : Int) = 43) = false := decide_eq_false (by omega)
    have e45 : decide ((c.toNat : Int) = 45) = false := decide_eq_false (by omega)
    have e1 : decide ((s.length : Int) = 0) = false := decide_eq_false (by omega)
    have e2 : decide ((6 : Int) < (s.length : Int)) = false := decide_eq_false (by omega)
    have w7 : IntKind.i64.wrap (0 + 6) = 6 := by decide
    have el2 : ((0 + (s.length - 0) : Nat) : Int) = (s.length : Int) := by omega
    have cl := sdigits_A (w0 := w0) s 0 (s.length - 0) (by omega) (by omega) (by omega) k3 H
    rw [el2] at cl
    generalize digFold ((s.drop 0).take (s.length - 0)) = z at *
    simp only [go_sem, he, g0, c0, hg, Int.toNat_zero, e43, e45, e1, e2, w7]
    refine ⟨by omega, by omega, callX_of cl (List.prefix_refl _) ?_⟩
    simp only [go_sem, he, g0, setD_some, k5]
theorem joinB_last (c b : UInt8) (last : List UInt8) : ∀ init : List (List UInt8), joinB c (init ++ [last ++ [b]]) = joinB c (init ++ [last]) ++ [b]
  | [] => rfl
  | a :: r => by
    rw [joinB_snoc c _ (a :: r) (by simp), joinB_snoc c _ (a :: r) (by simp), List.append_assoc]
    rfl
theorem putCells_last (l : List (List UInt8)) (a b : List UInt8) : putCells ((l ++ [a]).map vS) l.length [vS b] = (l ++ [b]).map vS := by
  unfold putCells
  simp only [List.map_append, List.map_cons, List.map_nil]
  rw [List.take_left' (by simp), List.drop_eq_nil_of_le (by simp), List.append_nil]
theorem cut_A {w0 : World} (s : List UInt8) (c : UInt8) (hs : s.length ≤ 1000000) (H : Heap) : ACalls Tryz.prog (CB w0) 39 [vS s, .val (.int .u8 (c.toNat : Int))] H fun r H' => OutAt H H' r (split c s) := by
  refine A_fun (N := 36) (rs := [.tmp 4]) Tryz.func39 rfl rfl rfl (by kernel_rfl) (by kernel_rfl) (Nat.le_of_ble_eq_true rfl) ?_
  rintro e he ⟨g0, g1, -⟩
  simp only [go_sem, he, g0, g1]
  refine A_while s.length (fun k e h => len e = 36 ∧ AL.get e 0 = vS s ∧ AL.get e 1 = .val (.int .u8 (c.toNat : Int)) ∧ ∃ (i : Nat) (y : AV) (init : List (List UInt8)) (last : List UInt8), AL.get e 6 = vI i ∧ AL.get e 5 = y ∧ i + k = s.length ∧ OutAt H h y (init ++ [last]) ∧ joinB c (init ++ [last]) = s.take i ∧ (∀ x ∈ init ++ [last], c ∉ x) ∧ init.length ≤ i ∧ last.length ≤ i) (by kernel_rfl) ?_ ?_
  · simp only [go_sem, he, g0, g1]
    exact ⟨0, _, [], [], rfl, rfl, by omega, ⟨⟨_, rfl⟩, H.length, rfl, heap_get0, Nat.le_refl _⟩, rfl, by simp, by simp, by simp⟩
  · rintro k e h ⟨he, g0, g1, i, y, init, last, g6, g5, hik, hO, hj, hno, hil, hll⟩
    simp only [go_sem, he, g0, g1, g5, g6]
    refine condK_of (fun hc => ?_) fun hc => ?_
    · have hc := of_decide_eq_true hc
      have hi : i < s.length := by omega
      have htk : s.take (i + 1) = s.take i ++ [s.getD i 0] := by rw [List.take_add_one, List.getD_eq_getElem?_getD, List.getElem?_eq_getElem hi]; rfl
      have htk1 := take_one hi
      have wi : IntKind.i64.wrap ((i : Int) + 1) = ((i + 1 : Nat) : Int) := by rw [wI64 (by omega)]; rfl
      generalize hb : s.getD i 0 = b at *
      by_cases hbc : b = c
      · subst hbc
        have hpush := hO.push [] (by simp; omega)
        obtain ⟨x2, h2, ha, hO2, -⟩ := hpush
        have hd : decide ((b.toNat : Int) = (b.toNat : Int)) = true := decide_eq_true rfl
        simp only [go_sem, he, g0, g1, g5, g6, Int.toNat_natCast, nn, hb, hd] at ha ⊢
        refine ⟨by omega, ?_⟩
        rw [ha]
        simp only [go_sem, he, g0, g1, g5, g6, wi]
        refine ⟨k - 1, by omega, i + 1, x2, init ++ [last], [], rfl, rfl, by omega, hO2, ?_, ?_, by simp; omega, by simp⟩
        · rw [joinB_snoc b [] (init ++ [last]) (by simp), hj, htk]
        · intro x hx
          rcases List.mem_append.1 hx with hx | hx
          · exact hno x hx
          · rw [List.mem_singleton] at hx
            rw [hx]
            simp
      · have hd : decide ((b.toNat : Int) = (c.toNat : Int)) = false := decide_eq_false fun e => hbc (UInt8.toNat_inj.1 (by omega))
        obtain ⟨⟨G, rfl⟩, o, rfl, ho, hol⟩ := hO
        simp only [go_sem, he, g0, g1, g5, g6, Int.toNat_natCast, nn, hb, hd]
        refine ⟨by omega, ?_⟩
        refine acode_draw mixed (by kernel_rfl) ?_
        have wl : IntKind.i64.wrap (((init ++ [last]).length : Int) - 1) = (init.length : Int) := by
          rw [List.length_append, List.length_singleton, wI64 (by omega)]; omega
        have hci : ((init ++ [last]).map vS)[init.length]? = some (vS last) := by
          rw [List.map_append, List.getElem?_append_right (by simp)]
          simp
        have hcm : cellsK (H ++ G)[o]? = some ((init ++ [last]).map vS) := by rw [ho]; rfl
        generalize hL : (init ++ [last]).map vS = cs at *
        simp only [go_sem, he, g0, g1, g5, g6, Int.toNat_natCast, nn, wl, hcm, hci, wi, htk1]
        have hil2 : ((init ++ [last]).length : Int) = init.length + 1 := by rw [List.length_append, List.length_singleton]; omega
        have hcl : cs.length = init.length + 1 := by rw [← hL]; simp
        have hpc : cs.take init.length ++ vS (last ++ [b]) :: cs.drop (init.length + 1) = (init ++ [last ++ [b]]).map vS := by
          rw [← putCells_last init last (last ++ [b]), ← hL]
          unfold putCells
          rw [List.append_assoc]
          rfl
        have hll2 : (init ++ [last ++ [b]]).length = (init ++ [last]).length := by simp
        refine ⟨by omega, ⟨by omega, by omega⟩, by omega, by omega, ?_⟩
        simp only [go_sem, he, g0, g1, g5, g6, ho, hcl, wi]
        refine ⟨by omega, ?_⟩
        rw [hpc]
        refine ⟨k - 1, by omega, i + 1, _, init, last ++ [b], rfl, rfl, by omega, ⟨⟨_, set_behind hol⟩, o, by rw [hll2], ?_, hol⟩, ?_, ?_, by omega, by simp; omega⟩
        · rw [List.getElem?_set_self (List.getElem?_eq_some_iff.1 ho).1]
        · rw [joinB_last, hj, htk]
        · intro x hx
          rcases List.mem_append.1 hx with hx | hx
          · exact hno x (List.mem_append_left _ hx)
          · rw [List.mem_singleton] at hx
            rw [hx]
            intro hm
            rcases List.mem_append.1 hm with hm | hm
            · exact hno last (by simp) hm
            · rw [List.mem_singleton] at hm
              exact hbc hm.symm
    · have hc := of_decide_eq_false hc
      have : i = s.length := by omega
      subst this
      simp only [go_sem, he, g0, g1, g5, g6]
      rw [List.take_length] at hj
      rw [← hj, split_join (by simp) hno]
      exact hO

theorem GrN.ne {t st t' : Nat} {H h : Heap} {x : AV} {n : Nat} {cs cs' : List AV} (hO : GrN t st H h x n cs) {p : Nat} (hp : h[p]? = some (.own t' cs')) (ht : t' ≠ t) : ∀ q, x = .sl true q 0 n st → p ≠ q := by
  rintro q rfl rfl
  rcases hO.2.2 with ⟨hy, _⟩ | ⟨o2, hy, hy2, _⟩
  · cases hy
  · simp only [AV.sl.injEq] at hy
    rw [hy.2.1] at hp
    rw [hp] at hy2
    simp only [Option.some.injEq, AObj.own.injEq] at hy2
    exact ht hy2.1
theorem map_get {α β : Type} {f : α → Option β} {l : List α} {vs : List β} (h : l.map f = vs.map some) {i : Nat} {a : α} (ha : l[i]? = some a) : ∃ v, vs[i]? = some v ∧ f a = some v := by
  have h1 := congrArg (·[i]?) h
  simp only [List.getElem?_map, ha, Option.map_some] at h1
  cases hv : vs[i]? with
  | none => rw [hv] at h1; cases h1
  | some v => rw [hv] at h1; exact ⟨v, rfl, Option.some.inj h1⟩
theorem map_len {α β : Type} {f : α → Option β} {l : List α} {vs : List β} (h : l.map f = vs.map some) : l.length = vs.length := by
  have := congrArg List.length h
  simpa using this
theorem take_snoc {α : Type} {l : List α} {i : Nat} {v : α} (h : l[i]? = some v) : l.take (i + 1) = l.take i ++ [v] := by rw [List.take_add_one, h]; rfl
theorem numbers_A {w0 : World} (s : List UInt8) (hs : s.length ≤ 100000) (vs : List Int) (hv : (split 44 s).map numOf = vs.map some) (H : Heap) : ACalls Tryz.prog (CB w0) 70 [vS s] H fun r H' => ∃ x, r = .tup [x, vB true] ∧ GrN 3 1 H H' x vs.length (vs.map vI) := by
  refine A_fun (N := 29) (rs := [.tmp 2, .tmp 3]) Tryz.func70 rfl rfl rfl (by kernel_rfl) (by kernel_rfl) (Nat.le_of_ble_eq_true rfl) ?_
  rintro e he ⟨g0, -⟩
  simp only [go_sem, he, g0]
  have hcut := cut_A (w0 := w0) s 44 (by omega) H
  refine callX_any hcut ?_
  rintro r h ⟨⟨G, rfl⟩, o, rfl, ho, hol⟩
  have hsl := split_length 44 s
  have hlen := map_len hv
  generalize split 44 s = ss at *
  simp only [go_sem, he, g0, setD_some, ho]
  refine A_while ss.length (fun k e h => ∃ (i : Nat) (y : AV), i + k = ss.length ∧ len e = 29 ∧ AL.get e 10 = .sl true o 0 ss.length 1 ∧ AL.get e 11 = vI ss.length ∧ AL.get e 12 = vI i ∧ AL.get e 4 = y ∧ h[o]? = some (.own 9 (ss.map vS)) ∧ GrN 3 1 H h y i ((vs.take i).map vI)) (by kernel_rfl) ?_ ?_
  · simp only [go_sem, he, g0]
    exact ⟨0, _, by omega, rfl, rfl, ho, GrN.nil ⟨_, rfl⟩⟩
  · rintro k e h ⟨i, y, hik, he, g10, g11, g12, g4, ho, hO⟩
    simp only [go_sem, he, g10, g11, g12, g4]
    refine condK_of (fun hc => ?_) fun hc => ?_
    · have hc := of_decide_eq_true hc
      have ha : ss[i]? = some ss[i] := List.getElem?_eq_getElem (by omega)
      generalize ss[i] = a at ha
      obtain ⟨v, hv1, hv2⟩ := map_get hv ha
      have hai : (ss.map vS)[i]? = some (vS a) := by rw [List.getElem?_map, ha]; rfl
      have hcm : cellsK h[o]? = some (ss.map vS) := by rw [ho]; rfl
      have wi : IntKind.i64.wrap ((i : Int) + 1) = ((i + 1 : Nat) : Int) := by rw [wI64 (by omega)]; rfl
      have hpush := (hO.push (s := 22) el22 (by omega) (c := [vI v]) rfl rfl (by omega))
      obtain ⟨x2, h2, hap, hO2, hkp⟩ := hpush
      have k1 := hkp _ _ ho (hO.ne ho (by omega))
      simp only [go_sem, he, g10, g11, g12, g4, hcm, hai, Int.toNat_natCast] at hap ⊢
      refine ⟨by omega, callX_of (number_A a v hv2 _) (List.prefix_refl _) ?_⟩
      simp only [go_sem, he, g10, g11, g12, g4, setD_some] at hap ⊢
      rw [hap]
      simp only [go_sem, he, g10, g11, g12, g4, setD_some, wi]
      exact ⟨k - 1, by omega, i + 1, x2, by omega, rfl, rfl, k1, by rw [take_snoc hv1, List.map_append]; exact hO2⟩
    · have hc := of_decide_eq_false hc
      have : i = ss.length := by omega
      subst this
      simp only [go_sem, he, g10, g11, g12, g4]
      have y1 : y.one = true := by rcases hO.2.2 with ⟨rfl, _⟩ | ⟨q, rfl, _⟩ <;> rfl
      refine ⟨y, rfl, ?_⟩
      rw [hlen, List.take_length] at hO
      exact hO
/-- Where a text is first met. -/
def ixS (l : List (List UInt8)) (a : List UInt8) : Int := match l.findIdx? (fun b => decide (a = b)) with
  | some i => i
  | none => -1
theorem indexS_A {w0 : World} (l : List (List UInt8)) (hl : l.length ≤ 1000000000) (a : List UInt8) (o : Nat) (H : Heap) (ho : H[o]? = some (.own 9 (l.map vS))) : ACalls Tryz.prog (CB w0) 66 [.sl true o 0 l.length 1, vS a] H fun r H' => r = vI (ixS l a) ∧ H' = H := by
  refine A_fun (N := 19) (rs := [.tmp 4]) Tryz.func66 rfl rfl rfl (by kernel_rfl) (by kernel_rfl) (Nat.le_of_ble_eq_true rfl) ?_
  rintro e he ⟨g0, g1, -⟩
  have hcm : cellsK H[o]? = some (l.map vS) := by rw [ho]; rfl
  simp only [go_sem, he, g0, g1]
  refine A_while l.length (fun k e h => h = H ∧ len e = 19 ∧ AL.get e 0 = .sl true o 0 l.length 1 ∧ AL.get e 1 = vS a ∧ AL.get e 7 = vI l.length ∧ ∃ i : Nat, AL.get e 8 = vI i ∧ i + k = l.length ∧ ∀ (j : Nat) b, j < i → l[j]? = some b → decide (a = b) = false) (by kernel_rfl) ?_ ?_
  · simp only [go_sem, he, g0, g1]
    exact ⟨0, rfl, by omega, fun j b hj => by omega⟩
  · rintro k e h ⟨rfl, he, g0, g1, g7, i, g8, hik, hno⟩
    have wi : IntKind.i64.wrap ((i : Int) + 1) = ((i + 1 : Nat) : Int) := by rw [wI64 (by omega)]; rfl
    simp only [go_sem, he, g0, g1, g7, g8]
    refine condK_of (fun hc => ?_) fun hc => ?_
    · have hc := of_decide_eq_true hc
      have hi : i < l.length := by omega
      have hli : l[i]? = some l[i] := List.getElem?_eq_getElem hi
      generalize l[i] = b at hli
      have hci : (l.map vS)[i]? = some (vS b) := by rw [List.getElem?_map, hli]; rfl
      simp only [go_sem, he, g0, g1, g7, g8, hcm, hci, Int.toNat_natCast]
      refine ⟨by omega, condK_of (fun hq => ?_) fun hq => ?_⟩
      · simp only [go_sem, he, g0, g1, g7, g8]
        unfold ixS
        rw [findIdx_hit hli hq hno]
      · simp only [go_sem, he, g0, g1, g7, g8, wi]
        refine ⟨k - 1, by omega, i + 1, rfl, by omega, fun j c hj hjc => ?_⟩
        rcases Nat.lt_or_ge j i with h1 | h1
        · exact hno j c h1 hjc
        · have : j = i := by omega
          subst this
          rw [hli] at hjc
          cases hjc
          exact hq
    · have hc := of_decide_eq_false hc
      simp only [go_sem, he, g0, g1, g7, g8]
      unfold ixS
      rw [findIdx_miss fun j b hj => hno j b (by have := (List.getElem?_eq_some_iff.1 hj).1; omega) hj]
theorem ixS_lt (l : List (List UInt8)) (a : List UInt8) : -1 ≤ ixS l a ∧ ixS l a < l.length := by
  unfold ixS
  cases h : l.findIdx? (fun b => decide (a = b)) with
  | none => simp; omega
  | some i =>
    obtain ⟨hi, _⟩ := List.findIdx?_eq_some_iff_getElem.1 h
    simp only
    omega
def swd (p : List UInt8) : Option (Int × Int) :=
  if p.length < 2 then none else if ixS wdays (p.drop (p.length - 2)) < 0 then none else
  if 2 < p.length then (match numOf (p.take (p.length - 2)) with
    | some n => if n = 0 then none else some (ixS wdays (p.drop (p.length - 2)), n)
    | none => none) else some (ixS wdays (p.drop (p.length - 2)), 0)
theorem dcells_take {l : List (Int × Int)} {i : Nat} {d : Int × Int} (h : l[i]? = some d) : dcells (l.take (i + 1)) = dcells (l.take i) ++ [vI d.1, vI d.2] := by rw [take_snoc h, dcells_snoc]
theorem sweekdays_A {w0 : World} (s : List UInt8) (hs : s.length ≤ 100000) (vs : List (Int × Int)) (hv : (split 44 s).map swd = vs.map some) (H : Heap) : ACalls Tryz.prog (CB w0) 69 [vS s] H fun r H' => ∃ x, r = .tup [x, vB true] ∧ GrN 47 2 H H' x vs.length (dcells vs) := by
  refine A_fun (N := 58) (rs := [.tmp 2, .tmp 3]) Tryz.func69 rfl rfl rfl (by kernel_rfl) (by kernel_rfl) (Nat.le_of_ble_eq_true rfl) ?_
  rintro e he ⟨g0, -⟩
  simp only [go_sem, he, g0]
  have hcut := cut_A (w0 := w0) s 44 (by omega) H
  refine callX_any hcut ?_
  rintro r h ⟨⟨G, rfl⟩, o, rfl, ho, hol⟩
  have hsl := split_length 44 s
  have hsm : ∀ x ∈ split 44 s, x.length ≤ s.length := fun x => split_mem
  have hlen := map_len hv
  generalize split 44 s = ss at *
  simp only [go_sem, he, g0, setD_some, ho]
  refine A_while ss.length (fun k e h => ∃ (i : Nat) (y : AV), i + k = ss.length ∧ len e = 58 ∧ AL.get e 12 = .sl true o 0 ss.length 1 ∧ AL.get e 13 = vI ss.length ∧ AL.get e 14 = vI i ∧ AL.get e 4 = y ∧ h[o]? = some (.own 9 (ss.map vS)) ∧ GrN 47 2 H h y i (dcells (vs.take i))) (by kernel_rfl) ?_ ?_
  · simp only [go_sem, he, g0]
    exact ⟨0, _, by omega, rfl, rfl, ho, GrN.nil ⟨_, rfl⟩⟩
  · rintro k e h ⟨i, y, hik, he, g12, g13, g14, g4, ho, hO⟩
    simp only [go_sem, he, g12, g13, g14, g4]
    refine condK_of (fun hc => ?_) fun hc => ?_
    · have hc := of_decide_eq_true hc
      have ha : ss[i]? = some ss[i] := List.getElem?_eq_getElem (by omega)
      generalize ss[i] = a at ha
      obtain ⟨v, hv1, hv2⟩ := map_get hv ha
      have hal := hsm a (List.mem_of_getElem? ha)
      have hai : (ss.map vS)[i]? = some (vS a) := by rw [List.getElem?_map, ha]; rfl
      have hcm : cellsK h[o]? = some (ss.map vS) := by rw [ho]; rfl
      have wi : IntKind.i64.wrap ((i : Int) + 1) = ((i + 1 : Nat) : Int) := by rw [wI64 (by omega)]; rfl
      unfold swd at hv2
      split at hv2
      · cases hv2
      rename_i ha2
      split at hv2
      · cases hv2
      rename_i hk0
      have c2 : decide ((a.length : Int) < 2) = false := decide_eq_false (by omega)
      have w2 : IntKind.i64.wrap ((a.length : Int) - 2) = ((a.length - 2 : Nat) : Int) := by rw [wI64 (by omega)]; omega
      have ht : (a.take a.length).drop (a.length - 2) = a.drop (a.length - 2) := by rw [List.take_length]
      simp only [go_sem, he, g12, g13, g14, g4, hcm, hai, Int.toNat_natCast, c2]
      refine ⟨by omega, ?_⟩
      refine acode_draw mixed (by kernel_rfl) ?_
      simp only [go_sem, he, g12, g13, g14, g4, w2, ht, nn, Int.toNat_natCast]
      refine callX_of (weekdays_A _) (List.prefix_append _ _) ?_
      simp only [go_sem, he, g12, g13, g14, g4, w2, ht, nn, Int.toNat_natCast, setD_some]
      have ix := indexS_A (w0 := w0) wdays (by decide) (a.drop (a.length - 2)) h.length (h ++ [AObj.own 9 (wdays.map vS)]) heap_get0
      rw [show wdays.length = 7 from rfl] at ix
      refine ⟨⟨by omega, by omega⟩, callX_of ix (List.prefix_refl _) ?_⟩
      have hkx := ixS_lt wdays (a.drop (a.length - 2))
      generalize ixS wdays (a.drop (a.length - 2)) = kx at *
      have c3 : decide (kx < 0) = false := decide_eq_false hk0
      simp only [go_sem, he, g12, g13, g14, g4, w2, nn, Int.toNat_natCast, setD_some, c3]
      by_cases hl2 : 2 < a.length
      · rw [if_pos hl2] at hv2
        have c4 : decide ((2 : Int) < (a.length : Int)) = true := decide_eq_true (by omega)
        cases hn : numOf (a.take (a.length - 2)) with
        | none => rw [hn] at hv2; cases hv2
        | some n =>
        rw [hn] at hv2
        simp only at hv2
        split at hv2
        · cases hv2
        rename_i hn0
        obtain rfl := Option.some.inj hv2
        have c5 : decide (n = 0) = false := decide_eq_false hn0
        have hpush := (hO.more ([AObj.own 9 (wdays.map vS)] ++ [AObj.own 47 [vI kx, vI n]])).push (s := 23) el23 (by omega) (c := [vI kx, vI n]) rfl rfl (by omega)
        obtain ⟨x2, h2, hap, hO2, hkp⟩ := hpush
        have k1 := hkp _ _ (get_more ho) (hO.ne ho (by omega))
        simp only [go_sem, he, g12, g13, g14, g4, w2, nn, Int.toNat_natCast, setD_some, c4] at hap ⊢
        refine ⟨by omega, callX_of (number_A _ n hn _) (List.prefix_refl _) ?_⟩
        simp only [go_sem, he, g12, g13, g14, g4, w2, nn, Int.toNat_natCast, setD_some, c5] at hap ⊢
        rw [hap]
        simp only [go_sem, he, g12, g13, g14, g4, setD_some, wi]
        exact ⟨k - 1, by omega, i + 1, x2, by omega, rfl, rfl, k1, by rw [dcells_take hv1]; exact hO2⟩
      · rw [if_neg hl2] at hv2
        have c4 : decide ((2 : Int) < (a.length : Int)) = false := decide_eq_false (by omega)
        obtain rfl := Option.some.inj hv2
        have hpush := (hO.more ([AObj.own 9 (wdays.map vS)] ++ [AObj.own 47 [vI kx, vI 0]])).push (s := 23) el23 (by omega) (c := [vI kx, vI 0]) rfl rfl (by omega)
        obtain ⟨x2, h2, hap, hO2, hkp⟩ := hpush
        have k1 := hkp _ _ (get_more ho) (hO.ne ho (by omega))
        simp only [go_sem, he, g12, g13, g14, g4, w2, nn, Int.toNat_natCast, setD_some, c4] at hap ⊢
        rw [hap]
        simp only [go_sem, he, g12, g13, g14, g4, setD_some, wi]
        exact ⟨k - 1, by omega, i + 1, x2, by omega, rfl, rfl, k1, by rw [dcells_take hv1]; exact hO2⟩
    · have hc := of_decide_eq_false hc
      have : i = ss.length := by omega
      subst this
      simp only [go_sem, he, g12, g13, g14, g4]
      have y1 : y.one = true := by rcases hO.2.2 with ⟨rfl, _⟩ | ⟨q, rfl, _⟩ <;> rfl
      refine ⟨y, rfl, ?_⟩
      rw [hlen, List.take_length] at hO
      exact hO
theorem seconds_S {w0 : World} (d h mi s : Int) (hd : 0 ≤ d ∧ d ≤ 100000000) (hh : 0 ≤ h ∧ h ≤ 100) (hm : 0 ≤ mi ∧ mi ≤ 100) (hs : 0 ≤ s ∧ s ≤ 100) (H : Heap) : ACalls Tryz.prog (CB w0) 95 [.agg [vI d, vI h, vI mi, vI s]] H fun r H' => r = vI (d * 86400 + h * 3600 + mi * 60 + s) ∧ H' = H := by
  refine ACalls.flat rfl ?_
  refine A_fun (N := 17) (rs := [.tmp 2]) Tryz.func95 rfl rfl rfl (by kernel_rfl) (by kernel_rfl) (Nat.le_of_ble_eq_true rfl) ?_
  rintro e he ⟨g0, -⟩
  have u1 : IntKind.i64.wrap (d * 86400) = d * 86400 := wI64 (by omega)
  have u2 : IntKind.i64.wrap (h * 3600) = h * 3600 := wI64 (by omega)
  have u3 : IntKind.i64.wrap (mi * 60) = mi * 60 := wI64 (by omega)
  have u4 : IntKind.i64.wrap (d * 86400 + h * 3600) = d * 86400 + h * 3600 := wI64 (by omega)
  have u5 : IntKind.i64.wrap (d * 86400 + h * 3600 + mi * 60) = d * 86400 + h * 3600 + mi * 60 := wI64 (by omega)
  have u6 : IntKind.i64.wrap (d * 86400 + h * 3600 + mi * 60 + s) = d * 86400 + h * 3600 + mi * 60 + s := wI64 (by omega)
  simp only [go_sem, he, g0, u1, u2, u3, u4, u5, u6]
  exact ⟨_, rfl⟩
theorem number_S {w0 : World} (y d : Int) (m : Nat) (hy : 1 ≤ y ∧ y ≤ 9999) (hm : 1 ≤ m ∧ m ≤ 12) (hd : 0 ≤ d ∧ d ≤ 100) (H : Heap) : ACalls Tryz.prog (CB w0) 96 [.agg [vI y, vI m, vI d]] H fun r H' => r = vI (before y + msum y (m - 1) + d - 1) ∧ H' = H := by
  refine ACalls.flat rfl ?_
  refine A_fun (N := 25) (rs := [.tmp 2]) Tryz.func96 rfl rfl rfl (by kernel_rfl) (by kernel_rfl) (Nat.le_of_ble_eq_true rfl) ?_
  rintro e he ⟨g0, -⟩
  simp only [go_sem, he, g0]
  have hmp := fun k : Nat => msum_bound y k
  have hb : 0 ≤ before y ∧ before y ≤ 4000000 := by unfold before; omega
  refine callX_of (before_A y (by omega) (by omega) _) (List.prefix_refl _) ?_
  simp only [go_sem, he, g0, setD_some]
  refine A_while m (fun k e h => h = H ++ [.own 91 [vI y, vI m, vI d]] ∧ len e = 25 ∧ AL.get e 1 = .ptr H.length 0 ∧ ∃ i : Nat, AL.get e 4 = vI ((i + 1 : Nat) : Int) ∧ AL.get e 3 = vI (before y + msum y i) ∧ i + k = m ∧ i + 1 ≤ m) (by kernel_rfl) ?_ ?_
  · simp only [go_sem, he, g0]
    exact ⟨0, rfl, by simp [msum], by omega, by omega⟩
  · rintro k e h ⟨rfl, he, g1, i, g4, g3, hik, him⟩
    simp only [go_sem, he, g1, g4, g3]
    refine condK_of (fun hc => ?_) fun hc => ?_
    · have hc := of_decide_eq_true hc
      have hmi := hmp i
      have hmd := monthDays_pos y ((i + 1 : Nat) : Int)
      have w1 : IntKind.i64.wrap (before y + msum y i + monthDays y ((i + 1 : Nat) : Int)) = before y + msum y (i + 1) := by
        rw [show msum y (i + 1) = msum y i + monthDays y ((i + 1 : Nat) : Int) from rfl, wI64 (by omega)]; omega
      have w2 : IntKind.i64.wrap (((i + 1 : Nat) : Int) + 1) = ((i + 1 + 1 : Nat) : Int) := by rw [wI64 (by omega)]; rfl
      simp only [go_sem, he, g1, g4, g3]
      refine callX_of (monthDays_A y _ (by omega) _) (List.prefix_refl _) ?_
      simp only [go_sem, he, g1, g4, g3, setD_some, w1, w2]
      exact ⟨k - 1, by omega, i + 1, rfl, rfl, by omega, by omega⟩
    · have hc := of_decide_eq_false hc
      have hi : i = m - 1 := by omega
      subst hi
      have hmi := hmp (m - 1)
      have w1 : IntKind.i64.wrap (before y + msum y (m - 1) + d) = before y + msum y (m - 1) + d := wI64 (by omega)
      have w2 : IntKind.i64.wrap (before y + msum y (m - 1) + d - 1) = before y + msum y (m - 1) + d - 1 := wI64 (by omega)
      simp only [go_sem, he, g1, g4, g3, w1, w2]
      exact ⟨_, rfl⟩

theorem seg_of {s a b c : List UInt8} {i n : Nat} (h : s = a ++ b ++ c) (ha : a.length = i) (hb : b.length = n) : (s.drop i).take n = b := by
  rw [h, List.append_assoc, List.drop_left' ha, List.take_left' hb]
/-- The numbers of a date's text. -/
def dateVals (t : Int) : List Int := [yearOf (t / 86400), (dayOf (t / 86400)).1, (dayOf (t / 86400)).2, t % 86400 / 3600, t % 86400 / 60 % 60, t % 86400 % 60]
def dateTos : List Int := [4, 6, 8, 11, 13, 15]
theorem date_segs {t : Int} (h : InY t) : (dateText t).length = 16 ∧ (dateText t).getD 8 0 = 84 ∧ (dateText t).getD 15 0 = 90 ∧
    ∀ i, i < 6 → ∃ a n : Nat, n ≤ 8 ∧ a + n ≤ 16 ∧ dateTos[i]? = some ((a + n : Nat) : Int) ∧ (a : Int) = (if i = 0 then 0 else ((a + n : Nat) : Int) - 2) ∧ (((dateText t).drop a).take n).all isDig = true ∧ (dateVals t)[i]? = some (digFold (((dateText t).drop a).take n)) := by
  have hn : 0 ≤ t / 86400 := by have := h.1; omega
  have hy := yearOf_ok hn
  have hy9 := yearOf_small hn (by have := h.2; omega)
  obtain ⟨m, e1, e2, e3, e4, e5, e6⟩ := dayOf_date hn
  have hmd := monthDays_pos (yearOf (t / 86400)) m
  have p0 := pad4 (n := yearOf (t / 86400)) (by omega) (by omega)
  have p1 := pad2 (n := (dayOf (t / 86400)).1) (by omega) (by omega)
  have p2 := pad2 (n := (dayOf (t / 86400)).2) (by omega) (by omega)
  have p3 := pad2 (n := t % 86400 / 3600) (by omega) (by omega)
  have p4 := pad2 (n := t % 86400 / 60 % 60) (by omega) (by omega)
  have p5 := pad2 (n := t % 86400 % 60) (by omega) (by omega)
  have e : dateText t = padded (yearOf (t / 86400)) 4 ++ (padded (dayOf (t / 86400)).1 2 ++ (padded (dayOf (t / 86400)).2 2 ++ ([84] ++ (padded (t % 86400 / 3600) 2 ++ (padded (t % 86400 / 60 % 60) 2 ++ (padded (t % 86400 % 60) 2 ++ [90])))))) := by
    unfold dateText
    simp only [List.append_assoc]
  unfold dateVals
  generalize dateText t = s at *
  generalize yearOf (t / 86400) = v0 at *
  generalize (dayOf (t / 86400)).1 = v1 at *
  generalize (dayOf (t / 86400)).2 = v2 at *
  generalize t % 86400 / 3600 = v3 at *
  generalize t % 86400 / 60 % 60 = v4 at *
  generalize t % 86400 % 60 = v5 at *
  generalize padded v0 4 = b0 at *
  generalize padded v1 2 = b1 at *
  generalize padded v2 2 = b2 at *
  generalize padded v3 2 = b3 at *
  generalize padded v4 2 = b4 at *
  generalize padded v5 2 = b5 at *
  obtain ⟨l0, d0, f0⟩ := p0
  obtain ⟨l1, d1, f1⟩ := p1
  obtain ⟨l2, d2, f2⟩ := p2
  obtain ⟨l3, d3, f3⟩ := p3
  obtain ⟨l4, d4, f4⟩ := p4
  obtain ⟨l5, d5, f5⟩ := p5
  have s0 : (s.drop 0).take 4 = b0 := seg_of (a := []) (c := b1 ++ (b2 ++ ([84] ++ (b3 ++ (b4 ++ (b5 ++ [90])))))) (by rw [e]; simp only [List.append_assoc, List.nil_append]) rfl l0
  have s1 : (s.drop 4).take 2 = b1 := seg_of (a := b0) (c := b2 ++ ([84] ++ (b3 ++ (b4 ++ (b5 ++ [90]))))) (by rw [e]; simp only [List.append_assoc]) l0 l1
  have s2 : (s.drop 6).take 2 = b2 := seg_of (a := b0 ++ b1) (c := [84] ++ (b3 ++ (b4 ++ (b5 ++ [90])))) (by rw [e]; simp only [List.append_assoc]) (by rw [List.length_append, l0, l1]) l2
  have sT : (s.drop 8).take 1 = [84] := seg_of (a := b0 ++ b1 ++ b2) (c := b3 ++ (b4 ++ (b5 ++ [90]))) (by rw [e]; simp only [List.append_assoc]) (by rw [List.length_append, List.length_append, l0, l1, l2]) rfl
  have s3 : (s.drop 9).take 2 = b3 := seg_of (a := b0 ++ b1 ++ b2 ++ [84]) (c := b4 ++ (b5 ++ [90])) (by rw [e]; simp only [List.append_assoc]) (by rw [List.length_append, List.length_append, List.length_append, l0, l1, l2]; rfl) l3
  have s4 : (s.drop 11).take 2 = b4 := seg_of (a := b0 ++ b1 ++ b2 ++ [84] ++ b3) (c := b5 ++ [90]) (by rw [e]; simp only [List.append_assoc]) (by rw [List.length_append, List.length_append, List.length_append, List.length_append, l0, l1, l2, l3]; rfl) l4
  have s5 : (s.drop 13).take 2 = b5 := seg_of (a := b0 ++ b1 ++ b2 ++ [84] ++ b3 ++ b4) (c := [90]) (by rw [e]; simp only [List.append_assoc]) (by rw [List.length_append, List.length_append, List.length_append, List.length_append, List.length_append, l0, l1, l2, l3, l4]; rfl) l5
  have sZ : (s.drop 15).take 1 = [90] := seg_of (a := b0 ++ b1 ++ b2 ++ [84] ++ b3 ++ b4 ++ b5) (c := []) (by rw [e]; simp only [List.append_assoc, List.append_nil]) (by rw [List.length_append, List.length_append, List.length_append, List.length_append, List.length_append, List.length_append, l0, l1, l2, l3, l4, l5]; rfl) rfl
  have hl : s.length = 16 := by rw [e]; simp only [List.length_append, l0, l1, l2, l3, l4, l5, List.length_singleton]
  have one : ∀ (i : Nat) (c : UInt8), (s.drop i).take 1 = [c] → s.getD i 0 = c := fun i c hc => by
    have := congrArg (·[0]?) hc
    simp only [List.getElem?_take_of_lt (show 0 < 1 by omega), List.getElem?_drop, Nat.add_zero] at this
    rw [List.getD_eq_getElem?_getD, this]
    rfl
  refine ⟨hl, one 8 84 sT, one 15 90 sZ, fun i hi => ?_⟩
  match i, hi with
  | 0, _ => exact ⟨0, 4, by omega, by omega, rfl, rfl, by rw [s0]; exact d0, by rw [s0, f0]; rfl⟩
  | 1, _ => exact ⟨4, 2, by omega, by omega, rfl, rfl, by rw [s1]; exact d1, by rw [s1, f1]; rfl⟩
  | 2, _ => exact ⟨6, 2, by omega, by omega, rfl, rfl, by rw [s2]; exact d2, by rw [s2, f2]; rfl⟩
  | 3, _ => exact ⟨9, 2, by omega, by omega, rfl, rfl, by rw [s3]; exact d3, by rw [s3, f3]; rfl⟩
  | 4, _ => exact ⟨11, 2, by omega, by omega, rfl, rfl, by rw [s4]; exact d4, by rw [s4, f4]; rfl⟩
  | 5, _ => exact ⟨13, 2, by omega, by omega, rfl, rfl, by rw [s5]; exact d5, by rw [s5, f5]; rfl⟩
theorem readDate_A {w0 : World} (t : Int) (ht : InY t) (H : Heap) : ACalls Tryz.prog (CB w0) 67 [vS (dateText t)] H fun r H' => r = .tup [vI t, vB true] ∧ H' = H := by
  refine ACalls.flat rfl ?_
  refine A_fun (N := 106) (rs := [.tmp 2, .tmp 3]) Tryz.func67 rfl rfl rfl (by kernel_rfl) (by kernel_rfl) (Nat.le_of_ble_eq_true rfl) ?_
  rintro e he ⟨g0, -⟩
  obtain ⟨hl, h8, h15, hseg⟩ := date_segs ht
  have c16 : decide (((dateText t).length : Int) = 16) = true := decide_eq_true (by omega)
  have z84 : decide (((84 : UInt8).toNat : Int) = 84) = true := rfl
  have z90 : decide (((90 : UInt8).toNat : Int) = 90) = true := rfl
  have hn : 0 ≤ t / 86400 := by have := ht.1; omega
  have hy := yearOf_ok hn
  have hy9 := yearOf_small hn (by have := ht.2; omega)
  obtain ⟨m, e1, e2, e3, e4, e5, e6⟩ := dayOf_date hn
  have hdv : dateVals t = [yearOf (t / 86400), (dayOf (t / 86400)).1, (dayOf (t / 86400)).2, t % 86400 / 3600, t % 86400 / 60 % 60, t % 86400 % 60] := rfl
  generalize dateText t = s at *
  simp only [go_sem, he, g0, c16, h8, h15, z84, z90]
  refine ⟨by omega, by omega, ?_⟩
  refine A_while 6 (fun k e h => len e = 106 ∧ AL.get e 0 = vS s ∧ AL.get e 4 = .ptr H.length 0 ∧ AL.get e 23 = .sl true (H.length + 1) 0 6 1 ∧ AL.get e 24 = vI 6 ∧ ∃ (i : Nat) (cs : List AV), AL.get e 25 = vI i ∧ i + k = 6 ∧ h = H ++ [.own 153 cs, .own 3 (dateTos.map vI)] ∧ cs.length = 6 ∧ ∀ j, j < i → cs[j]? = ((dateVals t)[j]?).map vI) (by kernel_rfl) ?_ ?_
  · simp only [go_sem, he, g0]
    exact ⟨rfl, 0, _, rfl, rfl, rfl, rfl, fun j hj => by omega⟩
  · rintro k e h ⟨he, g0, g4, g23, g24, i, cs, g25, hik, rfl, hcl, hcs⟩
    have wi : IntKind.i64.wrap ((i : Int) + 1) = ((i + 1 : Nat) : Int) := by rw [wI64 (by omega)]; rfl
    simp only [go_sem, he, g0, g4, g23, g24, g25]
    refine condK_of (fun hc => ?_) fun hc => ?_
    · have hc := of_decide_eq_true hc
      obtain ⟨a, n, hn8, han, hto, hfrom, hdig, hval⟩ := hseg i (by omega)
      have hti : (dateTos.map vI)[i]? = some (vI ((a + n : Nat) : Int)) := by rw [List.getElem?_map, hto]; rfl
      have w2 : IntKind.i64.wrap (((a + n : Nat) : Int) - 2) = ((a + n : Nat) : Int) - 2 := wI64 (by omega)
      have cl := fun G => sdigits_A (w0 := w0) s a n (by omega) hn8 (by omega) hdig (H ++ G)
      generalize digFold ((s.drop a).take n) = z at *
      generalize hdt : dateTos.map vI = tos at *
      simp only [go_sem, he, g0, g4, g23, g24, g25, hti, w2, Int.toNat_natCast]
      refine ⟨by omega, ?_⟩
      refine cond_join (fun e1 h1 => h1 = H ++ [.own 153 cs, .own 3 tos] ∧ len e1 = 106 ∧ AL.get e1 0 = vS s ∧ AL.get e1 4 = .ptr H.length 0 ∧ AL.get e1 23 = .sl true (H.length + 1) 0 6 1 ∧ AL.get e1 24 = vI 6 ∧ AL.get e1 25 = vI i ∧ AL.get e1 5 = vI i ∧ AL.get e1 6 = vI ((a + n : Nat) : Int) ∧ AL.get e1 7 = vI a) (fun hp => ?_) (fun hp => ?_) ?_
      · have hp := of_decide_eq_true hp
        have ha0 : (a : Int) = 0 := by rw [hfrom, if_pos (by omega)]
        simp only [go_sem, he, g0, g4, g23, g24, g25]
        rw [ha0]
      · have hp := of_decide_eq_false hp
        have ha0 : (a : Int) = ((a + n : Nat) : Int) - 2 := by rw [if_neg (by omega)] at hfrom; exact hfrom
        simp only [go_sem, he, g0, g4, g23, g24, g25]
        rw [← ha0]
      rintro e h1 ⟨rfl, he, g0, g4, g23, g24, g25, g5, g6, g7⟩
      simp only [go_sem, he, g0, g4, g23, g24, g25, g5, g6, g7]
      refine callX_of (cl _) (List.prefix_refl _) ?_
      simp only [go_sem, he, g0, g4, g23, g24, g25, g5, g6, g7, setD_some, wi, Int.toNat_natCast]
      have hpc : cs.take i ++ vI z :: cs.drop (i + 1) = putCells cs i [vI z] := by unfold putCells; rw [List.append_assoc]; rfl
      obtain ⟨q1, q2⟩ := putCells_one (cs := cs) (c := vI z) (show i < cs.length by omega)
      refine ⟨⟨by omega, by omega⟩, by omega, k - 1, by omega, i + 1, putCells cs i [vI z], rfl, by omega, by rw [hpc], by omega, fun j hj => ?_⟩
      rw [q2]
      split
      · rename_i hji
        rw [hji, hval]
        rfl
      · exact hcs j (by omega)
    · have hc := of_decide_eq_false hc
      have hi : i = 6 := by omega
      subst hi
      have htb : t / 86400 ≤ 100000000 := by
        have h1 := ht.2
        have h2 : before 10000 * 86400 = 315537897600 := by decide
        omega
      have hd1 := (monthDays_pos (yearOf (t / 86400)) m).2
      have hsum : before (yearOf (t / 86400)) + msum (yearOf (t / 86400)) (m - 1) + (dayOf (t / 86400)).2 - 1 = t / 86400 := by omega
      rw [hdv, e1] at hcs
      generalize yearOf (t / 86400) = v0 at *
      generalize (dayOf (t / 86400)).2 = v2 at *
      generalize hv3 : t % 86400 / 3600 = v3 at *
      generalize hv4 : t % 86400 / 60 % 60 = v4 at *
      generalize hv5 : t % 86400 % 60 = v5 at *
      match cs, hcl with
      | [a0, a1, a2, a3, a4, a5], _ =>
      have q0 := hcs 0 (by omega)
      have q1 := hcs 1 (by omega)
      have q2 := hcs 2 (by omega)
      have q3 := hcs 3 (by omega)
      have q4 := hcs 4 (by omega)
      have q5 := hcs 5 (by omega)
      simp only [List.getElem?_cons_zero, List.getElem?_cons_succ, Option.map_some, Option.some.injEq] at q0 q1 q2 q3 q4 q5
      subst q0 q1 q2 q3 q4 q5
      have b0 : decide (v0 < 1) = false := decide_eq_false (by omega)
      have b1 : decide ((m : Int) < 1) = false := decide_eq_false (by omega)
      have b2 : decide ((12 : Int) < (m : Int)) = false := decide_eq_false (by omega)
      have b3 : decide (v2 < 1) = false := decide_eq_false (by omega)
      have b4 : decide (monthDays v0 (m : Int) < v2) = false := decide_eq_false (by omega)
      have b5 : decide (23 < v3) = false := decide_eq_false (by omega)
      have b6 : decide (59 < v4) = false := decide_eq_false (by omega)
      have b7 : decide (59 < v5) = false := decide_eq_false (by omega)
      simp only [go_sem, he, g0, g4, g23, g24, g25]
      refine acode_draw mixed (by kernel_rfl) ?_
      simp only [go_sem, he, g0, g4, g23, g24, g25, b0, b1, b2, b3, b4, b5, b6, b7]
      refine ⟨by omega, by omega, by omega, by omega, by omega, by omega, by omega, callX_of (monthDays_A v0 m (by omega) _) (List.prefix_refl _) ?_⟩
      simp only [go_sem, he, g0, g4, g23, g24, g25, setD_some, b0, b1, b2, b3, b4, b5, b6, b7]
      refine ⟨by omega, by omega, by omega, ?_⟩
      refine acode_draw mixed (by kernel_rfl) ?_
      simp only [go_sem, he, g0, g4, g23, g24, g25]
      refine ⟨by omega, by omega, by omega, callX_of (number_S v0 v2 m (by omega) (by omega) (by omega) _) (List.prefix_refl _) ?_⟩
      simp only [go_sem, he, g0, g4, g23, g24, g25, setD_some]
      rw [hsum]
      refine ⟨by omega, by omega, by omega, callX_of (seconds_S (t / 86400) v3 v4 v5 (by omega) (by omega) (by omega) (by omega) _) (List.prefix_refl _) ?_⟩
      simp only [go_sem, he, g0, g4, g23, g24, g25, setD_some]
      rw [show t / 86400 * 86400 + v3 * 3600 + v4 * 60 + v5 = t by omega]
      exact ⟨rfl, _, rfl⟩

/-- A rule of the specification's whose slices are the call's own. -/
structure RuW (h : Heap) (r : Ru) (x : Rs) : Prop where
  setPos : IntsOwn h x.setPos r.setPos
  month : IntsOwn h x.month r.month
  monthDay : IntsOwn h x.monthDay r.monthDay
  yearDay : IntsOwn h x.yearDay r.yearDay
  weekNo : IntsOwn h x.weekNo r.weekNo
  day : DaysO 47 h x.day r.day
  hour : IntsOwn h x.hour r.hour
  minute : IntsOwn h x.minute r.minute
  second : IntsOwn h x.second r.second
  easter : IntsOwn h x.easter r.easter
theorem RuW.more {h : Heap} {r : Ru} {x : Rs} (hx : RuW h r x) (G : Heap) : RuW (h ++ G) r x :=
  ⟨hx.setPos.more G, hx.month.more G, hx.monthDay.more G, hx.yearDay.more G, hx.weekNo.more G, hx.day.more G, hx.hour.more G, hx.minute.more G, hx.second.more G, hx.easter.more G⟩
theorem RuW.putT {h : Heap} {r : Ru} {x : Rs} (hx : RuW h r x) {p t : Nat} {cs : List AV} (hp : h[p]? = some (.own t cs)) (h1 : t ≠ 3) (h2 : t ≠ 47) (y : AObj) : RuW (h.set p y) r x :=
  ⟨hx.setPos.putT hp h1 y, hx.month.putT hp h1 y, hx.monthDay.putT hp h1 y, hx.yearDay.putT hp h1 y, hx.weekNo.putT hp h1 y, hx.day.putT hp h2 y, hx.hour.putT hp h1 y, hx.minute.putT hp h1 y, hx.second.putT hp h1 y, hx.easter.putT hp h1 y⟩
theorem GrN.own {H h : Heap} {x : AV} {l : List Int} (hO : GrN 3 1 H h x l.length (l.map vI)) : IntsOwn h x l := by
  rcases hO.2.2 with ⟨rfl, h0⟩ | ⟨o, rfl, ho, _⟩
  · exact .inl ⟨rfl, List.eq_nil_of_length_eq_zero h0⟩
  · exact .inr ⟨o, rfl, ho⟩
theorem GrN.ownD {H h : Heap} {x : AV} {l : List (Int × Int)} (hO : GrN 47 2 H h x l.length (dcells l)) : DaysO 47 h x l := by
  rcases hO.2.2 with ⟨rfl, h0⟩ | ⟨o, rfl, ho, _⟩
  · exact .inl ⟨rfl, List.eq_nil_of_length_eq_zero h0⟩
  · exact .inr ⟨o, rfl, ho⟩
theorem GrN.one {t st : Nat} {H h : Heap} {x : AV} {n : Nat} {cs : List AV} (hO : GrN t st H h x n cs) : x.one = true := by rcases hO.2.2 with ⟨rfl, _⟩ | ⟨q, rfl, _⟩ <;> rfl
/-- A part read: true, and the rule behind the pointer says it. -/
def PartR (H : Heap) (p : Nat) (q : Ru) (r : AV) (H' : Heap) : Prop := r = vB true ∧ ∃ x G, H' = H.set p (.own 25 (ruCells q x)) ++ G ∧ RuW H' q x
theorem part_FREQ {w0 : World} (v : List UInt8) (hl : v.length ≤ 100000) (f : Nat) (hf : ixS freqs v = f) (hf6 : f ≤ 6) (H : Heap) (p : Nat) (q : Ru) (x : Rs) (hp : H[p]? = some (.own 25 (ruCells q x))) (hx : RuW H q x) :
    ACalls Tryz.prog (CB w0) 40 [.ptr p 0, vS [70, 82, 69, 81], vS v] H (PartR H p { q with freq := f }) := by
  refine A_fun (N := 187) (rs := [.tmp 6]) Tryz.func40 rfl rfl rfl (by kernel_rfl) (by kernel_rfl) (Nat.le_of_ble_eq_true rfl) ?_
  rintro e he ⟨g0, g1, g2, -⟩
  have hlt := (List.getElem?_eq_some_iff.1 hp).1
  have hB : ∀ G, (H ++ G)[p]? = some (.own 25 (ruCells q x)) := fun G => get_more hp
  have hS : ∀ (G : Heap) (y : AObj), ((H ++ G).set p y)[p]? = some y := fun G y => List.getElem?_set_self (by rw [List.length_append]; omega)
  have hA : ∀ (G : Heap) (y : AObj), (H ++ G).set p y = H.set p y ++ G := fun G y => List.set_append_left _ _ hlt
  have hp' := hp
  have hB' := hB
  have hS' : ∀ (y : AObj), (H.set p y)[p]? = some y := fun y => List.getElem?_set_self hlt
  unfold ruCells at hB hp'
  have z1 : decide (([70, 82, 69, 81] : List UInt8) = [70, 82, 69, 81]) = true := rfl
  have d0 : decide ((0 : Int) ≤ (f : Int)) = true := decide_eq_true (by omega)
  have u0 : IntKind.u8.wrap (f : Int) = (f : Int) := wU8 (by omega)
  have ix := indexS_A (w0 := w0) freqs (by decide) v H.length (H ++ [AObj.own 9 (freqs.map vS)]) heap_get0
  rw [show freqs.length = 7 from rfl, hf] at ix
  simp only [go_sem, he, g0, g1, g2, nilA, hp', setD_some, List.set_set, z1]
  refine callX_of (frequencies_A _) (List.prefix_append _ _) ?_
  simp only [go_sem, he, g0, g1, g2, nilA, hp', setD_some, List.set_set, z1, hB, hS, hS', hx.setPos.one, hx.month.one, hx.monthDay.one, hx.yearDay.one, hx.weekNo.one, hx.day.one, hx.hour.one, hx.minute.one, hx.second.one, hx.easter.one]
  refine callX_of ix (List.prefix_refl _) ?_
  simp only [go_sem, he, g0, g1, g2, nilA, hp', setD_some, List.set_set, z1, hB, hS, hS', hx.setPos.one, hx.month.one, hx.monthDay.one, hx.yearDay.one, hx.weekNo.one, hx.day.one, hx.hour.one, hx.minute.one, hx.second.one, hx.easter.one, d0, conv_int (P := Tryz.prog) (s := 3) (d := 5) Tryz.underlying3 Tryz.underlying5, u0]
  have hx2 := (hx.more [AObj.own 9 (freqs.map vS)]).putT (hB' _) (by decide) (by decide) (.own 25 (ruCells { q with freq := f } x))
  refine ⟨rfl, x, _, hA _ _, ?_⟩
  try rw [← hA]
  exact ⟨hx2.setPos, hx2.month, hx2.monthDay, hx2.yearDay, hx2.weekNo, hx2.day, hx2.hour, hx2.minute, hx2.second, hx2.easter⟩
theorem part_UNTIL {w0 : World} (v : List UInt8) (hl : v.length ≤ 100000) (t : Int) (ht : InY t) (hvt : v = dateText t) (H : Heap) (p : Nat) (q : Ru) (x : Rs) (hp : H[p]? = some (.own 25 (ruCells q x))) (hx : RuW H q x) :
    ACalls Tryz.prog (CB w0) 40 [.ptr p 0, vS [85, 78, 84, 73, 76], vS v] H (PartR H p { q with til := t, hasUntil := true }) := by
  refine A_fun (N := 187) (rs := [.tmp 6]) Tryz.func40 rfl rfl rfl (by kernel_rfl) (by kernel_rfl) (Nat.le_of_ble_eq_true rfl) ?_
  rintro e he ⟨g0, g1, g2, -⟩
  have hlt := (List.getElem?_eq_some_iff.1 hp).1
  have hB : ∀ G, (H ++ G)[p]? = some (.own 25 (ruCells q x)) := fun G => get_more hp
  have hS : ∀ (G : Heap) (y : AObj), ((H ++ G).set p y)[p]? = some y := fun G y => List.getElem?_set_self (by rw [List.length_append]; omega)
  have hA : ∀ (G : Heap) (y : AObj), (H ++ G).set p y = H.set p y ++ G := fun G y => List.set_append_left _ _ hlt
  have hp' := hp
  have hB' := hB
  have hS' : ∀ (y : AObj), (H.set p y)[p]? = some y := fun y => List.getElem?_set_self hlt
  unfold ruCells at hB hp'
  have z1 : decide (([85, 78, 84, 73, 76] : List UInt8) = [70, 82, 69, 81]) = false := rfl
  have z2 : decide (([85, 78, 84, 73, 76] : List UInt8) = [85, 78, 84, 73, 76]) = true := rfl
  subst hvt
  have rd := fun G => readDate_A (w0 := w0) t ht G
  generalize dateText t = v at *
  simp only [go_sem, he, g0, g1, g2, nilA, hp', setD_some, List.set_set, z1, z2]
  refine callX_of (rd _) (List.prefix_refl _) ?_
  simp only [go_sem, he, g0, g1, g2, nilA, hp', setD_some, List.set_set, z1, z2, hB, hS, hS', hx.setPos.one, hx.month.one, hx.monthDay.one, hx.yearDay.one, hx.weekNo.one, hx.day.one, hx.hour.one, hx.minute.one, hx.second.one, hx.easter.one]
  have hx2 := hx.putT hp (by decide) (by decide) (.own 25 (ruCells { q with til := t, hasUntil := true } x))
  refine ⟨rfl, x, [], (List.append_nil _).symm, ?_⟩
  try rw [List.append_nil]
  exact ⟨hx2.setPos, hx2.month, hx2.monthDay, hx2.yearDay, hx2.weekNo, hx2.day, hx2.hour, hx2.minute, hx2.second, hx2.easter⟩
theorem part_COUNT {w0 : World} (v : List UInt8) (hl : v.length ≤ 100000) (n : Int) (hn : numOf v = some n) (hn0 : 0 < n) (H : Heap) (p : Nat) (q : Ru) (x : Rs) (hp : H[p]? = some (.own 25 (ruCells q x))) (hx : RuW H q x) :
    ACalls Tryz.prog (CB w0) 40 [.ptr p 0, vS [67, 79, 85, 78, 84], vS v] H (PartR H p { q with count := n }) := by
  refine A_fun (N := 187) (rs := [.tmp 6]) Tryz.func40 rfl rfl rfl (by kernel_rfl) (by kernel_rfl) (Nat.le_of_ble_eq_true rfl) ?_
  rintro e he ⟨g0, g1, g2, -⟩
  have hlt := (List.getElem?_eq_some_iff.1 hp).1
  have hB : ∀ G, (H ++ G)[p]? = some (.own 25 (ruCells q x)) := fun G => get_more hp
  have hS : ∀ (G : Heap) (y : AObj), ((H ++ G).set p y)[p]? = some y := fun G y => List.getElem?_set_self (by rw [List.length_append]; omega)
  have hA : ∀ (G : Heap) (y : AObj), (H ++ G).set p y = H.set p y ++ G := fun G y => List.set_append_left _ _ hlt
  have hp' := hp
  have hB' := hB
  have hS' : ∀ (y : AObj), (H.set p y)[p]? = some y := fun y => List.getElem?_set_self hlt
  unfold ruCells at hB hp'
  have z1 : decide (([67, 79, 85, 78, 84] : List UInt8) = [70, 82, 69, 81]) = false := rfl
  have z2 : decide (([67, 79, 85, 78, 84] : List UInt8) = [85, 78, 84, 73, 76]) = false := rfl
  have z3 : decide (([67, 79, 85, 78, 84] : List UInt8) = [67, 79, 85, 78, 84]) = true := rfl
  have d0 : decide (0 < n) = true := decide_eq_true hn0
  simp only [go_sem, he, g0, g1, g2, nilA, hp', setD_some, List.set_set, z1, z2, z3]
  refine callX_of (number_A v n hn _) (List.prefix_refl _) ?_
  simp only [go_sem, he, g0, g1, g2, nilA, hp', setD_some, List.set_set, z1, z2, z3, hB, hS, hS', hx.setPos.one, hx.month.one, hx.monthDay.one, hx.yearDay.one, hx.weekNo.one, hx.day.one, hx.hour.one, hx.minute.one, hx.second.one, hx.easter.one, d0]
  have hx2 := hx.putT hp (by decide) (by decide) (.own 25 (ruCells { q with count := n } x))
  refine ⟨rfl, x, [], (List.append_nil _).symm, ?_⟩
  try rw [List.append_nil]
  exact ⟨hx2.setPos, hx2.month, hx2.monthDay, hx2.yearDay, hx2.weekNo, hx2.day, hx2.hour, hx2.minute, hx2.second, hx2.easter⟩
theorem part_INTERVAL {w0 : World} (v : List UInt8) (hl : v.length ≤ 100000) (n : Int) (hn : numOf v = some n) (hn0 : 0 < n) (H : Heap) (p : Nat) (q : Ru) (x : Rs) (hp : H[p]? = some (.own 25 (ruCells q x))) (hx : RuW H q x) :
    ACalls Tryz.prog (CB w0) 40 [.ptr p 0, vS [73, 78, 84, 69, 82, 86, 65, 76], vS v] H (PartR H p { q with interval := n }) := by
  refine A_fun (N := 187) (rs := [.tmp 6]) Tryz.func40 rfl rfl rfl (by kernel_rfl) (by kernel_rfl) (Nat.le_of_ble_eq_true rfl) ?_
  rintro e he ⟨g0, g1, g2, -⟩
  have hlt := (List.getElem?_eq_some_iff.1 hp).1
  have hB : ∀ G, (H ++ G)[p]? = some (.own 25 (ruCells q x)) := fun G => get_more hp
  have hS : ∀ (G : Heap) (y : AObj), ((H ++ G).set p y)[p]? = some y := fun G y => List.getElem?_set_self (by rw [List.length_append]; omega)
  have hA : ∀ (G : Heap) (y : AObj), (H ++ G).set p y = H.set p y ++ G := fun G y => List.set_append_left _ _ hlt
  have hp' := hp
  have hB' := hB
  have hS' : ∀ (y : AObj), (H.set p y)[p]? = some y := fun y => List.getElem?_set_self hlt
  unfold ruCells at hB hp'
  have z1 : decide (([73, 78, 84, 69, 82, 86, 65, 76] : List UInt8) = [70, 82, 69, 81]) = false := rfl
  have z2 : decide (([73, 78, 84, 69, 82, 86, 65, 76] : List UInt8) = [85, 78, 84, 73, 76]) = false := rfl
  have z3 : decide (([73, 78, 84, 69, 82, 86, 65, 76] : List UInt8) = [67, 79, 85, 78, 84]) = false := rfl
  have z4 : decide (([73, 78, 84, 69, 82, 86, 65, 76] : List UInt8) = [73, 78, 84, 69, 82, 86, 65, 76]) = true := rfl
  have d0 : decide (0 < n) = true := decide_eq_true hn0
  simp only [go_sem, he, g0, g1, g2, nilA, hp', setD_some, List.set_set, z1, z2, z3, z4]
  refine callX_of (number_A v n hn _) (List.prefix_refl _) ?_
  simp only [go_sem, he, g0, g1, g2, nilA, hp', setD_some, List.set_set, z1, z2, z3, z4, hB, hS, hS', hx.setPos.one, hx.month.one, hx.monthDay.one, hx.yearDay.one, hx.weekNo.one, hx.day.one, hx.hour.one, hx.minute.one, hx.second.one, hx.easter.one, d0]
  have hx2 := hx.putT hp (by decide) (by decide) (.own 25 (ruCells { q with interval := n } x))
  refine ⟨rfl, x, [], (List.append_nil _).symm, ?_⟩
  try rw [List.append_nil]
  exact ⟨hx2.setPos, hx2.month, hx2.monthDay, hx2.yearDay, hx2.weekNo, hx2.day, hx2.hour, hx2.minute, hx2.second, hx2.easter⟩
theorem part_WKST {w0 : World} (v : List UInt8) (hl : v.length ≤ 100000) (w : Int) (hw : ixS wdays v = w) (hw0 : 0 ≤ w) (H : Heap) (p : Nat) (q : Ru) (x : Rs) (hp : H[p]? = some (.own 25 (ruCells q x))) (hx : RuW H q x) :
    ACalls Tryz.prog (CB w0) 40 [.ptr p 0, vS [87, 75, 83, 84], vS v] H (PartR H p { q with wkst := w }) := by
  refine A_fun (N := 187) (rs := [.tmp 6]) Tryz.func40 rfl rfl rfl (by kernel_rfl) (by kernel_rfl) (Nat.le_of_ble_eq_true rfl) ?_
  rintro e he ⟨g0, g1, g2, -⟩
  have hlt := (List.getElem?_eq_some_iff.1 hp).1
  have hB : ∀ G, (H ++ G)[p]? = some (.own 25 (ruCells q x)) := fun G => get_more hp
  have hS : ∀ (G : Heap) (y : AObj), ((H ++ G).set p y)[p]? = some y := fun G y => List.getElem?_set_self (by rw [List.length_append]; omega)
  have hA : ∀ (G : Heap) (y : AObj), (H ++ G).set p y = H.set p y ++ G := fun G y => List.set_append_left _ _ hlt
  have hp' := hp
  have hB' := hB
  have hS' : ∀ (y : AObj), (H.set p y)[p]? = some y := fun y => List.getElem?_set_self hlt
  unfold ruCells at hB hp'
  have z1 : decide (([87, 75, 83, 84] : List UInt8) = [70, 82, 69, 81]) = false := rfl
  have z2 : decide (([87, 75, 83, 84] : List UInt8) = [85, 78, 84, 73, 76]) = false := rfl
  have z3 : decide (([87, 75, 83, 84] : List UInt8) = [67, 79, 85, 78, 84]) = false := rfl
  have z4 : decide (([87, 75, 83, 84] : List UInt8) = [73, 78, 84, 69, 82, 86, 65, 76]) = false := rfl
  have z5 : decide (([87, 75, 83, 84] : List UInt8) = [87, 75, 83, 84]) = true := rfl
  have d0 : decide (0 ≤ w) = true := decide_eq_true hw0
  have ix := indexS_A (w0 := w0) wdays (by decide) v H.length (H ++ [AObj.own 9 (wdays.map vS)]) heap_get0
  rw [show wdays.length = 7 from rfl, hw] at ix
  simp only [go_sem, he, g0, g1, g2, nilA, hp', setD_some, List.set_set, z1, z2, z3, z4, z5]
  refine callX_of (weekdays_A _) (List.prefix_append _ _) ?_
  simp only [go_sem, he, g0, g1, g2, nilA, hp', setD_some, List.set_set, z1, z2, z3, z4, z5, hB, hS, hS', hx.setPos.one, hx.month.one, hx.monthDay.one, hx.yearDay.one, hx.weekNo.one, hx.day.one, hx.hour.one, hx.minute.one, hx.second.one, hx.easter.one]
  refine callX_of ix (List.prefix_refl _) ?_
  simp only [go_sem, he, g0, g1, g2, nilA, hp', setD_some, List.set_set, z1, z2, z3, z4, z5, hB, hS, hS', hx.setPos.one, hx.month.one, hx.monthDay.one, hx.yearDay.one, hx.weekNo.one, hx.day.one, hx.hour.one, hx.minute.one, hx.second.one, hx.easter.one, d0]
  have hx2 := (hx.more [AObj.own 9 (wdays.map vS)]).putT (hB' _) (by decide) (by decide) (.own 25 (ruCells { q with wkst := w } x))
  refine ⟨rfl, x, _, hA _ _, ?_⟩
  try rw [← hA]
  exact ⟨hx2.setPos, hx2.month, hx2.monthDay, hx2.yearDay, hx2.weekNo, hx2.day, hx2.hour, hx2.minute, hx2.second, hx2.easter⟩
theorem part_BYDAY {w0 : World} (v : List UInt8) (hl : v.length ≤ 100000) (vs : List (Int × Int)) (hv : (split 44 v).map swd = vs.map some) (H : Heap) (p : Nat) (q : Ru) (x : Rs) (hp : H[p]? = some (.own 25 (ruCells q x))) (hx : RuW H q x) :
    ACalls Tryz.prog (CB w0) 40 [.ptr p 0, vS [66, 89, 68, 65, 89], vS v] H (PartR H p { q with day := vs }) := by
  refine A_fun (N := 187) (rs := [.tmp 6]) Tryz.func40 rfl rfl rfl (by kernel_rfl) (by kernel_rfl) (Nat.le_of_ble_eq_true rfl) ?_
  rintro e he ⟨g0, g1, g2, -⟩
  have hlt := (List.getElem?_eq_some_iff.1 hp).1
  have hB : ∀ G, (H ++ G)[p]? = some (.own 25 (ruCells q x)) := fun G => get_more hp
  have hS : ∀ (G : Heap) (y : AObj), ((H ++ G).set p y)[p]? = some y := fun G y => List.getElem?_set_self (by rw [List.length_append]; omega)
  have hA : ∀ (G : Heap) (y : AObj), (H ++ G).set p y = H.set p y ++ G := fun G y => List.set_append_left _ _ hlt
  have hp' := hp
  have hB' := hB
  have hS' : ∀ (y : AObj), (H.set p y)[p]? = some y := fun y => List.getElem?_set_self hlt
  unfold ruCells at hB hp'
  have z1 : decide (([66, 89, 68, 65, 89] : List UInt8) = [70, 82, 69, 81]) = false := rfl
  have z2 : decide (([66, 89, 68, 65, 89] : List UInt8) = [85, 78, 84, 73, 76]) = false := rfl
  have z3 : decide (([66, 89, 68, 65, 89] : List UInt8) = [67, 79, 85, 78, 84]) = false := rfl
  have z4 : decide (([66, 89, 68, 65, 89] : List UInt8) = [73, 78, 84, 69, 82, 86, 65, 76]) = false := rfl
  have z5 : decide (([66, 89, 68, 65, 89] : List UInt8) = [87, 75, 83, 84]) = false := rfl
  have z6 : decide (([66, 89, 68, 65, 89] : List UInt8) = [66, 89, 68, 65, 89]) = true := rfl
  simp only [go_sem, he, g0, g1, g2, nilA, hp', setD_some, List.set_set, z1, z2, z3, z4, z5, z6]
  refine callX_any (sweekdays_A v hl vs hv _) ?_
  rintro r h ⟨a, rfl, hO⟩
  have a1 := hO.one
  have a2 := hO.ownD
  obtain ⟨G, rfl⟩ := hO.1
  simp only [go_sem, he, g0, g1, g2, nilA, hp', setD_some, List.set_set, z1, z2, z3, z4, z5, z6, hB, hS, hS', hx.setPos.one, hx.month.one, hx.monthDay.one, hx.yearDay.one, hx.weekNo.one, hx.day.one, hx.hour.one, hx.minute.one, hx.second.one, hx.easter.one, a1, avCells_one a1]
  have hx2 := (hx.more G).putT (hB' G) (by decide) (by decide) (.own 25 (ruCells { q with day := vs } { x with day := a }))
  refine ⟨rfl, { x with day := a }, G, hA _ _, ?_⟩
  try rw [← hA]
  exact ⟨hx2.setPos, hx2.month, hx2.monthDay, hx2.yearDay, hx2.weekNo, a2.putT (hB' G) (by decide) _, hx2.hour, hx2.minute, hx2.second, hx2.easter⟩
theorem part_BYSECOND {w0 : World} (v : List UInt8) (hl : v.length ≤ 100000) (vs : List Int) (hv : (split 44 v).map numOf = vs.map some) (H : Heap) (p : Nat) (q : Ru) (x : Rs) (hp : H[p]? = some (.own 25 (ruCells q x))) (hx : RuW H q x) :
    ACalls Tryz.prog (CB w0) 40 [.ptr p 0, vS [66, 89, 83, 69, 67, 79, 78, 68], vS v] H (PartR H p { q with second := vs }) := by
  refine A_fun (N := 187) (rs := [.tmp 6]) Tryz.func40 rfl rfl rfl (by kernel_rfl) (by kernel_rfl) (Nat.le_of_ble_eq_true rfl) ?_
  rintro e he ⟨g0, g1, g2, -⟩
  have hlt := (List.getElem?_eq_some_iff.1 hp).1
  have hB : ∀ G, (H ++ G)[p]? = some (.own 25 (ruCells q x)) := fun G => get_more hp
  have hS : ∀ (G : Heap) (y : AObj), ((H ++ G).set p y)[p]? = some y := fun G y => List.getElem?_set_self (by rw [List.length_append]; omega)
  have hA : ∀ (G : Heap) (y : AObj), (H ++ G).set p y = H.set p y ++ G := fun G y => List.set_append_left _ _ hlt
  have hp' := hp
  have hB' := hB
  have hS' : ∀ (y : AObj), (H.set p y)[p]? = some y := fun y => List.getElem?_set_self hlt
  unfold ruCells at hB hp'
  have z1 : decide (([66, 89, 83, 69, 67, 79, 78, 68] : List UInt8) = [70, 82, 69, 81]) = false := rfl
  have z2 : decide (([66, 89, 83, 69, 67, 79, 78, 68] : List UInt8) = [85, 78, 84, 73, 76]) = false := rfl
  have z3 : decide (([66, 89, 83, 69, 67, 79, 78, 68] : List UInt8) = [67, 79, 85, 78, 84]) = false := rfl
  have z4 : decide (([66, 89, 83, 69, 67, 79, 78, 68] : List UInt8) = [73, 78, 84, 69, 82, 86, 65, 76]) = false := rfl
  have z5 : decide (([66, 89, 83, 69, 67, 79, 78, 68] : List UInt8) = [87, 75, 83, 84]) = false := rfl
  have z6 : decide (([66, 89, 83, 69, 67, 79, 78, 68] : List UInt8) = [66, 89, 68, 65, 89]) = false := rfl
  have z7 : decide (([66, 89, 83, 69, 67, 79, 78, 68] : List UInt8) = [66, 89, 83, 69, 67, 79, 78, 68]) = true := rfl
  simp only [go_sem, he, g0, g1, g2, nilA, hp', setD_some, List.set_set, z1, z2, z3, z4, z5, z6, z7]
  refine callX_any (numbers_A v hl vs hv _) ?_
  rintro r h ⟨a, rfl, hO⟩
  have a1 := hO.one
  have a2 := hO.own
  obtain ⟨G, rfl⟩ := hO.1
  simp only [go_sem, he, g0, g1, g2, nilA, hp', setD_some, List.set_set, z1, z2, z3, z4, z5, z6, z7, hB, hS, hS', hx.setPos.one, hx.month.one, hx.monthDay.one, hx.yearDay.one, hx.weekNo.one, hx.day.one, hx.hour.one, hx.minute.one, hx.second.one, hx.easter.one, a1, avCells_one a1]
  have hx2 := (hx.more G).putT (hB' G) (by decide) (by decide) (.own 25 (ruCells { q with second := vs } { x with second := a }))
  refine ⟨rfl, { x with second := a }, G, hA _ _, ?_⟩
  try rw [← hA]
  exact ⟨hx2.setPos, hx2.month, hx2.monthDay, hx2.yearDay, hx2.weekNo, hx2.day, hx2.hour, hx2.minute, a2.putT (hB' G) (by decide) _, hx2.easter⟩
theorem part_BYMINUTE {w0 : World} (v : List UInt8) (hl : v.length ≤ 100000) (vs : List Int) (hv : (split 44 v).map numOf = vs.map some) (H : Heap) (p : Nat) (q : Ru) (x : Rs) (hp : H[p]? = some (.own 25 (ruCells q x))) (hx : RuW H q x) :
    ACalls Tryz.prog (CB w0) 40 [.ptr p 0, vS [66, 89, 77, 73, 78, 85, 84, 69], vS v] H (PartR H p { q with minute := vs }) := by
  refine A_fun (N := 187) (rs := [.tmp 6]) Tryz.func40 rfl rfl rfl (by kernel_rfl) (by kernel_rfl) (Nat.le_of_ble_eq_true rfl) ?_
  rintro e he ⟨g0, g1, g2, -⟩
  have hlt := (List.getElem?_eq_some_iff.1 hp).1
  have hB : ∀ G, (H ++ G)[p]? = some (.own 25 (ruCells q x)) := fun G => get_more hp
  have hS : ∀ (G : Heap) (y : AObj), ((H ++ G).set p y)[p]? = some y := fun G y => List.getElem?_set_self (by rw [List.length_append]; omega)
  have hA : ∀ (G : Heap) (y : AObj), (H ++ G).set p y = H.set p y ++ G := fun G y => List.set_append_left _ _ hlt
  have hp' := hp
  have hB' := hB
  have hS' : ∀ (y : AObj), (H.set p y)[p]? = some y := fun y => List.getElem?_set_self hlt
  unfold ruCells at hB hp'
  have z1 : decide (([66, 89, 77, 73, 78, 85, 84, 69] : List UInt8) = [70, 82, 69, 81]) = false := rfl
  have z2 : decide (([66, 89, 77, 73, 78, 85, 84, 69] : List UInt8) = [85, 78, 84, 73, 76]) = false := rfl
  have z3 : decide (([66, 89, 77, 73, 78, 85, 84, 69] : List UInt8) = [67, 79, 85, 78, 84]) = false := rfl
  have z4 : decide (([66, 89, 77, 73, 78, 85, 84, 69] : List UInt8) = [73, 78, 84, 69, 82, 86, 65, 76]) = false := rfl
  have z5 : decide (([66, 89, 77, 73, 78, 85, 84, 69] : List UInt8) = [87, 75, 83, 84]) = false := rfl
  have z6 : decide (([66, 89, 77, 73, 78, 85, 84, 69] : List UInt8) = [66, 89, 68, 65, 89]) = false := rfl
  have z7 : decide (([66, 89, 77, 73, 78, 85, 84, 69] : List UInt8) = [66, 89, 83, 69, 67, 79, 78, 68]) = false := rfl
  have z8 : decide (([66, 89, 77, 73, 78, 85, 84, 69] : List UInt8) = [66, 89, 77, 73, 78, 85, 84, 69]) = true := rfl
  simp only [go_sem, he, g0, g1, g2, nilA, hp', setD_some, List.set_set, z1, z2, z3, z4, z5, z6, z7, z8]
  refine callX_any (numbers_A v hl vs hv _) ?_
  rintro r h ⟨a, rfl, hO⟩
  have a1 := hO.one
  have a2 := hO.own
  obtain ⟨G, rfl⟩ := hO.1
  simp only [go_sem, he, g0, g1, g2, nilA, hp', setD_some, List.set_set, z1, z2, z3, z4, z5, z6, z7, z8, hB, hS, hS', hx.setPos.one, hx.month.one, hx.monthDay.one, hx.yearDay.one, hx.weekNo.one, hx.day.one, hx.hour.one, hx.minute.one, hx.second.one, hx.easter.one, a1, avCells_one a1]
  have hx2 := (hx.more G).putT (hB' G) (by decide) (by decide) (.own 25 (ruCells { q with minute := vs } { x with minute := a }))
  refine ⟨rfl, { x with minute := a }, G, hA _ _, ?_⟩
  try rw [← hA]
  exact ⟨hx2.setPos, hx2.month, hx2.monthDay, hx2.yearDay, hx2.weekNo, hx2.day, hx2.hour, a2.putT (hB' G) (by decide) _, hx2.second, hx2.easter⟩
theorem part_BYHOUR {w0 : World} (v : List UInt8) (hl : v.length ≤ 100000) (vs : List Int) (hv : (split 44 v).map numOf = vs.map some) (H : Heap) (p : Nat) (q : Ru) (x : Rs) (hp : H[p]? = some (.own 25 (ruCells q x))) (hx : RuW H q x) :
    ACalls Tryz.prog (CB w0) 40 [.ptr p 0, vS [66, 89, 72, 79, 85, 82], vS v] H (PartR H p { q with hour := vs }) := by
  refine A_fun (N := 187) (rs := [.tmp 6]) Tryz.func40 rfl rfl rfl (by kernel_rfl) (by kernel_rfl) (Nat.le_of_ble_eq_true rfl) ?_
  rintro e he ⟨g0, g1, g2, -⟩
  have hlt := (List.getElem?_eq_some_iff.1 hp).1
  have hB : ∀ G, (H ++ G)[p]? = some (.own 25 (ruCells q x)) := fun G => get_more hp
  have hS : ∀ (G : Heap) (y : AObj), ((H ++ G).set p y)[p]? = some y := fun G y => List.getElem?_set_self (by rw [List.length_append]; omega)
  have hA : ∀ (G : Heap) (y : AObj), (H ++ G).set p y = H.set p y ++ G := fun G y => List.set_append_left _ _ hlt
  have hp' := hp
  have hB' := hB
  have hS' : ∀ (y : AObj), (H.set p y)[p]? = some y := fun y => List.getElem?_set_self hlt
  unfold ruCells at hB hp'
  have z1 : decide (([66, 89, 72, 79, 85, 82] : List UInt8) = [70, 82, 69, 81]) = false := rfl
  have z2 : decide (([66, 89, 72, 79, 85, 82] : List UInt8) = [85, 78, 84, 73, 76]) = false := rfl
  have z3 : decide (([66, 89, 72, 79, 85, 82] : List UInt8) = [67, 79, 85, 78, 84]) = false := rfl
  have z4 : decide (([66, 89, 72, 79, 85, 82] : List UInt8) = [73, 78, 84, 69, 82, 86, 65, 76]) = false := rfl
  have z5 : decide (([66, 89, 72, 79, 85, 82] : List UInt8) = [87, 75, 83, 84]) = false := rfl
  have z6 : decide (([66, 89, 72, 79, 85, 82] : List UInt8) = [66, 89, 68, 65, 89]) = false := rfl
  have z7 : decide (([66, 89, 72, 79, 85, 82] : List UInt8) = [66, 89, 83, 69, 67, 79, 78, 68]) = false := rfl
  have z8 : decide (([66, 89, 72, 79, 85, 82] : List UInt8) = [66, 89, 77, 73, 78, 85, 84, 69]) = false := rfl
  have z9 : decide (([66, 89, 72, 79, 85, 82] : List UInt8) = [66, 89, 72, 79, 85, 82]) = true := rfl
  simp only [go_sem, he, g0, g1, g2, nilA, hp', setD_some, List.set_set, z1, z2, z3, z4, z5, z6, z7, z8, z9]
  refine callX_any (numbers_A v hl vs hv _) ?_
  rintro r h ⟨a, rfl, hO⟩
  have a1 := hO.one
  have a2 := hO.own
  obtain ⟨G, rfl⟩ := hO.1
  simp only [go_sem, he, g0, g1, g2, nilA, hp', setD_some, List.set_set, z1, z2, z3, z4, z5, z6, z7, z8, z9, hB, hS, hS', hx.setPos.one, hx.month.one, hx.monthDay.one, hx.yearDay.one, hx.weekNo.one, hx.day.one, hx.hour.one, hx.minute.one, hx.second.one, hx.easter.one, a1, avCells_one a1]
  have hx2 := (hx.more G).putT (hB' G) (by decide) (by decide) (.own 25 (ruCells { q with hour := vs } { x with hour := a }))
  refine ⟨rfl, { x with hour := a }, G, hA _ _, ?_⟩
  try rw [← hA]
  exact ⟨hx2.setPos, hx2.month, hx2.monthDay, hx2.yearDay, hx2.weekNo, hx2.day, a2.putT (hB' G) (by decide) _, hx2.minute, hx2.second, hx2.easter⟩
theorem part_BYMONTHDAY {w0 : World} (v : List UInt8) (hl : v.length ≤ 100000) (vs : List Int) (hv : (split 44 v).map numOf = vs.map some) (H : Heap) (p : Nat) (q : Ru) (x : Rs) (hp : H[p]? = some (.own 25 (ruCells q x))) (hx : RuW H q x) :
    ACalls Tryz.prog (CB w0) 40 [.ptr p 0, vS [66, 89, 77, 79, 78, 84, 72, 68, 65, 89], vS v] H (PartR H p { q with monthDay := vs }) := by
  refine A_fun (N := 187) (rs := [.tmp 6]) Tryz.func40 rfl rfl rfl (by kernel_rfl) (by kernel_rfl) (Nat.le_of_ble_eq_true rfl) ?_
  rintro e he ⟨g0, g1, g2, -⟩
  have hlt := (List.getElem?_eq_some_iff.1 hp).1
  have hB : ∀ G, (H ++ G)[p]? = some (.own 25 (ruCells q x)) := fun G => get_more hp
  have hS : ∀ (G : Heap) (y : AObj), ((H ++ G).set p y)[p]? = some y := fun G y => List.getElem?_set_self (by rw [List.length_append]; omega)
  have hA : ∀ (G : Heap) (y : AObj), (H ++ G).set p y = H.set p y ++ G := fun G y => List.set_append_left _ _ hlt
  have hp' := hp
  have hB' := hB
  have hS' : ∀ (y : AObj), (H.set p y)[p]? = some y := fun y => List.getElem?_set_self hlt
  unfold ruCells at hB hp'
  have z1 : decide (([66, 89, 77, 79, 78, 84, 72, 68, 65, 89] : List UInt8) = [70, 82, 69, 81]) = false := rfl
  have z2 : decide (([66, 89, 77, 79, 78, 84, 72, 68, 65, 89] : List UInt8) = [85, 78, 84, 73, 76]) = false := rfl
  have z3 : decide (([66, 89, 77, 79, 78, 84, 72, 68, 65, 89] : List UInt8) = [67, 79, 85, 78, 84]) = false := rfl
  have z4 : decide (([66, 89, 77, 79, 78, 84, 72, 68, 65, 89] : List UInt8) = [73, 78, 84, 69, 82, 86, 65, 76]) = false := rfl
  have z5 : decide (([66, 89, 77, 79, 78, 84, 72, 68, 65, 89] : List UInt8) = [87, 75, 83, 84]) = false := rfl
  have z6 : decide (([66, 89, 77, 79, 78, 84, 72, 68, 65, 89] : List UInt8) = [66, 89, 68, 65, 89]) = false := rfl
  have z7 : decide (([66, 89, 77, 79, 78, 84, 72, 68, 65, 89] : List UInt8) = [66, 89, 83, 69, 67, 79, 78, 68]) = false := rfl
  have z8 : decide (([66, 89, 77, 79, 78, 84, 72, 68, 65, 89] : List UInt8) = [66, 89, 77, 73, 78, 85, 84, 69]) = false := rfl
  have z9 : decide (([66, 89, 77, 79, 78, 84, 72, 68, 65, 89] : List UInt8) = [66, 89, 72, 79, 85, 82]) = false := rfl
  have z10 : decide (([66, 89, 77, 79, 78, 84, 72, 68, 65, 89] : List UInt8) = [66, 89, 77, 79, 78, 84, 72, 68, 65, 89]) = true := rfl
  simp only [go_sem, he, g0, g1, g2, nilA, hp', setD_some, List.set_set, z1, z2, z3, z4, z5, z6, z7, z8, z9, z10]
  refine callX_any (numbers_A v hl vs hv _) ?_
  rintro r h ⟨a, rfl, hO⟩
  have a1 := hO.one
  have a2 := hO.own
  obtain ⟨G, rfl⟩ := hO.1
  simp only [go_sem, he, g0, g1, g2, nilA, hp', setD_some, List.set_set, z1, z2, z3, z4, z5, z6, z7, z8, z9, z10, hB, hS, hS', hx.setPos.one, hx.month.one, hx.monthDay.one, hx.yearDay.one, hx.weekNo.one, hx.day.one, hx.hour.one, hx.minute.one, hx.second.one, hx.easter.one, a1, avCells_one a1]
  have hx2 := (hx.more G).putT (hB' G) (by decide) (by decide) (.own 25 (ruCells { q with monthDay := vs } { x with monthDay := a }))
  refine ⟨rfl, { x with monthDay := a }, G, hA _ _, ?_⟩
  try rw [← hA]
  exact ⟨hx2.setPos, hx2.month, a2.putT (hB' G) (by decide) _, hx2.yearDay, hx2.weekNo, hx2.day, hx2.hour, hx2.minute, hx2.second, hx2.easter⟩
theorem part_BYYEARDAY {w0 : World} (v : List UInt8) (hl : v.length ≤ 100000) (vs : List Int) (hv : (split 44 v).map numOf = vs.map some) (H : Heap) (p : Nat) (q : Ru) (x : Rs) (hp : H[p]? = some (.own 25 (ruCells q x))) (hx : RuW H q x) :
    ACalls Tryz.prog (CB w0) 40 [.ptr p 0, vS [66, 89, 89, 69, 65, 82, 68, 65, 89], vS v] H (PartR H p { q with yearDay := vs }) := by
  refine A_fun (N := 187) (rs := [.tmp 6]) Tryz.func40 rfl rfl rfl (by kernel_rfl) (by kernel_rfl) (Nat.le_of_ble_eq_true rfl) ?_
  rintro e he ⟨g0, g1, g2, -⟩
  have hlt := (List.getElem?_eq_some_iff.1 hp).1
  have hB : ∀ G, (H ++ G)[p]? = some (.own 25 (ruCells q x)) := fun G => get_more hp
  have hS : ∀ (G : Heap) (y : AObj), ((H ++ G).set p y)[p]? = some y := fun G y => List.getElem?_set_self (by rw [List.length_append]; omega)
  have hA : ∀ (G : Heap) (y : AObj), (H ++ G).set p y = H.set p y ++ G := fun G y => List.set_append_left _ _ hlt
  have hp' := hp
  have hB' := hB
  have hS' : ∀ (y : AObj), (H.set p y)[p]? = some y := fun y => List.getElem?_set_self hlt
  unfold ruCells at hB hp'
  have z1 : decide (([66, 89, 89, 69, 65, 82, 68, 65, 89] : List UInt8) = [70, 82, 69, 81]) = false := rfl
  have z2 : decide (([66, 89, 89, 69, 65, 82, 68, 65, 89] : List UInt8) = [85, 78, 84, 73, 76]) = false := rfl
  have z3 : decide (([66, 89, 89, 69, 65, 82, 68, 65, 89] : List UInt8) = [67, 79, 85, 78, 84]) = false := rfl
  have z4 : decide (([66, 89, 89, 69, 65, 82, 68, 65, 89] : List UInt8) = [73, 78, 84, 69, 82, 86, 65, 76]) = false := rfl
  have z5 : decide (([66, 89, 89, 69, 65, 82, 68, 65, 89] : List UInt8) = [87, 75, 83, 84]) = false := rfl
  have z6 : decide (([66, 89, 89, 69, 65, 82, 68, 65, 89] : List UInt8) = [66, 89, 68, 65, 89]) = false := rfl
  have z7 : decide (([66, 89, 89, 69, 65, 82, 68, 65, 89] : List UInt8) = [66, 89, 83, 69, 67, 79, 78, 68]) = false := rfl
  have z8 : decide (([66, 89, 89, 69, 65, 82, 68, 65, 89] : List UInt8) = [66, 89, 77, 73, 78, 85, 84, 69]) = false := rfl
  have z9 : decide (([66, 89, 89, 69, 65, 82, 68, 65, 89] : List UInt8) = [66, 89, 72, 79, 85, 82]) = false := rfl
  have z10 : decide (([66, 89, 89, 69, 65, 82, 68, 65, 89] : List UInt8) = [66, 89, 77, 79, 78, 84, 72, 68, 65, 89]) = false := rfl
  have z11 : decide (([66, 89, 89, 69, 65, 82, 68, 65, 89] : List UInt8) = [66, 89, 89, 69, 65, 82, 68, 65, 89]) = true := rfl
  simp only [go_sem, he, g0, g1, g2, nilA, hp', setD_some, List.set_set, z1, z2, z3, z4, z5, z6, z7, z8, z9, z10, z11]
  refine callX_any (numbers_A v hl vs hv _) ?_
  rintro r h ⟨a, rfl, hO⟩
  have a1 := hO.one
  have a2 := hO.own
  obtain ⟨G, rfl⟩ := hO.1
  simp only [go_sem, he, g0, g1, g2, nilA, hp', setD_some, List.set_set, z1, z2, z3, z4, z5, z6, z7, z8, z9, z10, z11, hB, hS, hS', hx.setPos.one, hx.month.one, hx.monthDay.one, hx.yearDay.one, hx.weekNo.one, hx.day.one, hx.hour.one, hx.minute.one, hx.second.one, hx.easter.one, a1, avCells_one a1]
  have hx2 := (hx.more G).putT (hB' G) (by decide) (by decide) (.own 25 (ruCells { q with yearDay := vs } { x with yearDay := a }))
  refine ⟨rfl, { x with yearDay := a }, G, hA _ _, ?_⟩
  try rw [← hA]
  exact ⟨hx2.setPos, hx2.month, hx2.monthDay, a2.putT (hB' G) (by decide) _, hx2.weekNo, hx2.day, hx2.hour, hx2.minute, hx2.second, hx2.easter⟩
theorem part_BYWEEKNO {w0 : World} (v : List UInt8) (hl : v.length ≤ 100000) (vs : List Int) (hv : (split 44 v).map numOf = vs.map some) (H : Heap) (p : Nat) (q : Ru) (x : Rs) (hp : H[p]? = some (.own 25 (ruCells q x))) (hx : RuW H q x) :
    ACalls Tryz.prog (CB w0) 40 [.ptr p 0, vS [66, 89, 87, 69, 69, 75, 78, 79], vS v] H (PartR H p { q with weekNo := vs }) := by
  refine A_fun (N := 187) (rs := [.tmp 6]) Tryz.func40 rfl rfl rfl (by kernel_rfl) (by kernel_rfl) (Nat.le_of_ble_eq_true rfl) ?_
  rintro e he ⟨g0, g1, g2, -⟩
  have hlt := (List.getElem?_eq_some_iff.1 hp).1
  have hB : ∀ G, (H ++ G)[p]? = some (.own 25 (ruCells q x)) := fun G => get_more hp
  have hS : ∀ (G : Heap) (y : AObj), ((H ++ G).set p y)[p]? = some y := fun G y => List.getElem?_set_self (by rw [List.length_append]; omega)
  have hA : ∀ (G : Heap) (y : AObj), (H ++ G).set p y = H.set p y ++ G := fun G y => List.set_append_left _ _ hlt
  have hp' := hp
  have hB' := hB
  have hS' : ∀ (y : AObj), (H.set p y)[p]? = some y := fun y => List.getElem?_set_self hlt
  unfold ruCells at hB hp'
  have z1 : decide (([66, 89, 87, 69, 69, 75, 78, 79] : List UInt8) = [70, 82, 69, 81]) = false := rfl
  have z2 : decide (([66, 89, 87, 69, 69, 75, 78, 79] : List UInt8) = [85, 78, 84, 73, 76]) = false := rfl
  have z3 : decide (([66, 89, 87, 69, 69, 75, 78, 79] : List UInt8) = [67, 79, 85, 78, 84]) = false := rfl
  have z4 : decide (([66, 89, 87, 69, 69, 75, 78, 79] : List UInt8) = [73, 78, 84, 69, 82, 86, 65, 76]) = false := rfl
  have z5 : decide (([66, 89, 87, 69, 69, 75, 78, 79] : List UInt8) = [87, 75, 83, 84]) = false := rfl
  have z6 : decide (([66, 89, 87, 69, 69, 75, 78, 79] : List UInt8) = [66, 89, 68, 65, 89]) = false := rfl
  have z7 : decide (([66, 89, 87, 69, 69, 75, 78, 79] : List UInt8) = [66, 89, 83, 69, 67, 79, 78, 68]) = false := rfl
  have z8 : decide (([66, 89, 87, 69, 69, 75, 78, 79] : List UInt8) = [66, 89, 77, 73, 78, 85, 84, 69]) = false := rfl
  have z9 : decide (([66, 89, 87, 69, 69, 75, 78, 79] : List UInt8) = [66, 89, 72, 79, 85, 82]) = false := rfl
  have z10 : decide (([66, 89, 87, 69, 69, 75, 78, 79] : List UInt8) = [66, 89, 77, 79, 78, 84, 72, 68, 65, 89]) = false := rfl
  have z11 : decide (([66, 89, 87, 69, 69, 75, 78, 79] : List UInt8) = [66, 89, 89, 69, 65, 82, 68, 65, 89]) = false := rfl
  have z12 : decide (([66, 89, 87, 69, 69, 75, 78, 79] : List UInt8) = [66, 89, 87, 69, 69, 75, 78, 79]) = true := rfl
  simp only [go_sem, he, g0, g1, g2, nilA, hp', setD_some, List.set_set, z1, z2, z3, z4, z5, z6, z7, z8, z9, z10, z11, z12]
  refine callX_any (numbers_A v hl vs hv _) ?_
  rintro r h ⟨a, rfl, hO⟩
  have a1 := hO.one
  have a2 := hO.own
  obtain ⟨G, rfl⟩ := hO.1
  simp only [go_sem, he, g0, g1, g2, nilA, hp', setD_some, List.set_set, z1, z2, z3, z4, z5, z6, z7, z8, z9, z10, z11, z12, hB, hS, hS', hx.setPos.one, hx.month.one, hx.monthDay.one, hx.yearDay.one, hx.weekNo.one, hx.day.one, hx.hour.one, hx.minute.one, hx.second.one, hx.easter.one, a1, avCells_one a1]
  have hx2 := (hx.more G).putT (hB' G) (by decide) (by decide) (.own 25 (ruCells { q with weekNo := vs } { x with weekNo := a }))
  refine ⟨rfl, { x with weekNo := a }, G, hA _ _, ?_⟩
  try rw [← hA]
  exact ⟨hx2.setPos, hx2.month, hx2.monthDay, hx2.yearDay, a2.putT (hB' G) (by decide) _, hx2.day, hx2.hour, hx2.minute, hx2.second, hx2.easter⟩
theorem part_BYMONTH {w0 : World} (v : List UInt8) (hl : v.length ≤ 100000) (vs : List Int) (hv : (split 44 v).map numOf = vs.map some) (H : Heap) (p : Nat) (q : Ru) (x : Rs) (hp : H[p]? = some (.own 25 (ruCells q x))) (hx : RuW H q x) :
    ACalls Tryz.prog (CB w0) 40 [.ptr p 0, vS [66, 89, 77, 79, 78, 84, 72], vS v] H (PartR H p { q with month := vs }) := by
  refine A_fun (N := 187) (rs := [.tmp 6]) Tryz.func40 rfl rfl rfl (by kernel_rfl) (by kernel_rfl) (Nat.le_of_ble_eq_true rfl) ?_
  rintro e he ⟨g0, g1, g2, -⟩
  have hlt := (List.getElem?_eq_some_iff.1 hp).1
  have hB : ∀ G, (H ++ G)[p]? = some (.own 25 (ruCells q x)) := fun G => get_more hp
  have hS : ∀ (G : Heap) (y : AObj), ((H ++ G).set p y)[p]? = some y := fun G y => List.getElem?_set_self (by rw [List.length_append]; omega)
  have hA : ∀ (G : Heap) (y : AObj), (H ++ G).set p y = H.set p y ++ G := fun G y => List.set_append_left _ _ hlt
  have hp' := hp
  have hB' := hB
  have hS' : ∀ (y : AObj), (H.set p y)[p]? = some y := fun y => List.getElem?_set_self hlt
  unfold ruCells at hB hp'
  have z1 : decide (([66, 89, 77, 79, 78, 84, 72] : List UInt8) = [70, 82, 69, 81]) = false := rfl
  have z2 : decide (([66, 89, 77, 79, 78, 84, 72] : List UInt8) = [85, 78, 84, 73, 76]) = false := rfl
  have z3 : decide (([66, 89, 77, 79, 78, 84, 72] : List UInt8) = [67, 79, 85, 78, 84]) = false := rfl
  have z4 : decide (([66, 89, 77, 79, 78, 84, 72] : List UInt8) = [73, 78, 84, 69, 82, 86, 65, 76]) = false := rfl
  have z5 : decide (([66, 89, 77, 79, 78, 84, 72] : List UInt8) = [87, 75, 83, 84]) = false := rfl
  have z6 : decide (([66, 89, 77, 79, 78, 84, 72] : List UInt8) = [66, 89, 68, 65, 89]) = false := rfl
  have z7 : decide (([66, 89, 77, 79, 78, 84, 72] : List UInt8) = [66, 89, 83, 69, 67, 79, 78, 68]) = false := rfl
  have z8 : decide (([66, 89, 77, 79, 78, 84, 72] : List UInt8) = [66, 89, 77, 73, 78, 85, 84, 69]) = false := rfl
  have z9 : decide (([66, 89, 77, 79, 78, 84, 72] : List UInt8) = [66, 89, 72, 79, 85, 82]) = false := rfl
  have z10 : decide (([66, 89, 77, 79, 78, 84, 72] : List UInt8) = [66, 89, 77, 79, 78, 84, 72, 68, 65, 89]) = false := rfl
  have z11 : decide (([66, 89, 77, 79, 78, 84, 72] : List UInt8) = [66, 89, 89, 69, 65, 82, 68, 65, 89]) = false := rfl
  have z12 : decide (([66, 89, 77, 79, 78, 84, 72] : List UInt8) = [66, 89, 87, 69, 69, 75, 78, 79]) = false := rfl
  have z13 : decide (([66, 89, 77, 79, 78, 84, 72] : List UInt8) = [66, 89, 77, 79, 78, 84, 72]) = true := rfl
  simp only [go_sem, he, g0, g1, g2, nilA, hp', setD_some, List.set_set, z1, z2, z3, z4, z5, z6, z7, z8, z9, z10, z11, z12, z13]
  refine callX_any (numbers_A v hl vs hv _) ?_
  rintro r h ⟨a, rfl, hO⟩
  have a1 := hO.one
  have a2 := hO.own
  obtain ⟨G, rfl⟩ := hO.1
  simp only [go_sem, he, g0, g1, g2, nilA, hp', setD_some, List.set_set, z1, z2, z3, z4, z5, z6, z7, z8, z9, z10, z11, z12, z13, hB, hS, hS', hx.setPos.one, hx.month.one, hx.monthDay.one, hx.yearDay.one, hx.weekNo.one, hx.day.one, hx.hour.one, hx.minute.one, hx.second.one, hx.easter.one, a1, avCells_one a1]
  have hx2 := (hx.more G).putT (hB' G) (by decide) (by decide) (.own 25 (ruCells { q with month := vs } { x with month := a }))
  refine ⟨rfl, { x with month := a }, G, hA _ _, ?_⟩
  try rw [← hA]
  exact ⟨hx2.setPos, a2.putT (hB' G) (by decide) _, hx2.monthDay, hx2.yearDay, hx2.weekNo, hx2.day, hx2.hour, hx2.minute, hx2.second, hx2.easter⟩
theorem part_BYSETPOS {w0 : World} (v : List UInt8) (hl : v.length ≤ 100000) (vs : List Int) (hv : (split 44 v).map numOf = vs.map some) (H : Heap) (p : Nat) (q : Ru) (x : Rs) (hp : H[p]? = some (.own 25 (ruCells q x))) (hx : RuW H q x) :
    ACalls Tryz.prog (CB w0) 40 [.ptr p 0, vS [66, 89, 83, 69, 84, 80, 79, 83], vS v] H (PartR H p { q with setPos := vs }) := by
  refine A_fun (N := 187) (rs := [.tmp 6]) Tryz.func40 rfl rfl rfl (by kernel_rfl) (by kernel_rfl) (Nat.le_of_ble_eq_true rfl) ?_
  rintro e he ⟨g0, g1, g2, -⟩
  have hlt := (List.getElem?_eq_some_iff.1 hp).1
  have hB : ∀ G, (H ++ G)[p]? = some (.own 25 (ruCells q x)) := fun G => get_more hp
  have hS : ∀ (G : Heap) (y : AObj), ((H ++ G).set p y)[p]? = some y := fun G y => List.getElem?_set_self (by rw [List.length_append]; omega)
  have hA : ∀ (G : Heap) (y : AObj), (H ++ G).set p y = H.set p y ++ G := fun G y => List.set_append_left _ _ hlt
  have hp' := hp
  have hB' := hB
  have hS' : ∀ (y : AObj), (H.set p y)[p]? = some y := fun y => List.getElem?_set_self hlt
  unfold ruCells at hB hp'
  have z1 : decide (([66, 89, 83, 69, 84, 80, 79, 83] : List UInt8) = [70, 82, 69, 81]) = false := rfl
  have z2 : decide (([66, 89, 83, 69, 84, 80, 79, 83] : List UInt8) = [85, 78, 84, 73, 76]) = false := rfl
  have z3 : decide (([66, 89, 83, 69, 84, 80, 79, 83] : List UInt8) = [67, 79, 85, 78, 84]) = false := rfl
  have z4 : decide (([66, 89, 83, 69, 84, 80, 79, 83] : List UInt8) = [73, 78, 84, 69, 82, 86, 65, 76]) = false := rfl
  have z5 : decide (([66, 89, 83, 69, 84, 80, 79, 83] : List UInt8) = [87, 75, 83, 84]) = false := rfl
  have z6 : decide (([66, 89, 83, 69, 84, 80, 79, 83] : List UInt8) = [66, 89, 68, 65, 89]) = false := rfl
  have z7 : decide (([66, 89, 83, 69, 84, 80, 79, 83] : List UInt8) = [66, 89, 83, 69, 67, 79, 78, 68]) = false := rfl
  have z8 : decide (([66, 89, 83, 69, 84, 80, 79, 83] : List UInt8) = [66, 89, 77, 73, 78, 85, 84, 69]) = false := rfl
  have z9 : decide (([66, 89, 83, 69, 84, 80, 79, 83] : List UInt8) = [66, 89, 72, 79, 85, 82]) = false := rfl
  have z10 : decide (([66, 89, 83, 69, 84, 80, 79, 83] : List UInt8) = [66, 89, 77, 79, 78, 84, 72, 68, 65, 89]) = false := rfl
  have z11 : decide (([66, 89, 83, 69, 84, 80, 79, 83] : List UInt8) = [66, 89, 89, 69, 65, 82, 68, 65, 89]) = false := rfl
  have z12 : decide (([66, 89, 83, 69, 84, 80, 79, 83] : List UInt8) = [66, 89, 87, 69, 69, 75, 78, 79]) = false := rfl
  have z13 : decide (([66, 89, 83, 69, 84, 80, 79, 83] : List UInt8) = [66, 89, 77, 79, 78, 84, 72]) = false := rfl
  have z14 : decide (([66, 89, 83, 69, 84, 80, 79, 83] : List UInt8) = [66, 89, 83, 69, 84, 80, 79, 83]) = true := rfl
  simp only [go_sem, he, g0, g1, g2, nilA, hp', setD_some, List.set_set, z1, z2, z3, z4, z5, z6, z7, z8, z9, z10, z11, z12, z13, z14]
  refine callX_any (numbers_A v hl vs hv _) ?_
  rintro r h ⟨a, rfl, hO⟩
  have a1 := hO.one
  have a2 := hO.own
  obtain ⟨G, rfl⟩ := hO.1
  simp only [go_sem, he, g0, g1, g2, nilA, hp', setD_some, List.set_set, z1, z2, z3, z4, z5, z6, z7, z8, z9, z10, z11, z12, z13, z14, hB, hS, hS', hx.setPos.one, hx.month.one, hx.monthDay.one, hx.yearDay.one, hx.weekNo.one, hx.day.one, hx.hour.one, hx.minute.one, hx.second.one, hx.easter.one, a1, avCells_one a1]
  have hx2 := (hx.more G).putT (hB' G) (by decide) (by decide) (.own 25 (ruCells { q with setPos := vs } { x with setPos := a }))
  refine ⟨rfl, { x with setPos := a }, G, hA _ _, ?_⟩
  try rw [← hA]
  exact ⟨a2.putT (hB' G) (by decide) _, hx2.month, hx2.monthDay, hx2.yearDay, hx2.weekNo, hx2.day, hx2.hour, hx2.minute, hx2.second, hx2.easter⟩
theorem part_BYEASTER {w0 : World} (v : List UInt8) (hl : v.length ≤ 100000) (vs : List Int) (hv : (split 44 v).map numOf = vs.map some) (H : Heap) (p : Nat) (q : Ru) (x : Rs) (hp : H[p]? = some (.own 25 (ruCells q x))) (hx : RuW H q x) :
    ACalls Tryz.prog (CB w0) 40 [.ptr p 0, vS [66, 89, 69, 65, 83, 84, 69, 82], vS v] H (PartR H p { q with easter := vs }) := by
  refine A_fun (N := 187) (rs := [.tmp 6]) Tryz.func40 rfl rfl rfl (by kernel_rfl) (by kernel_rfl) (Nat.le_of_ble_eq_true rfl) ?_
  rintro e he ⟨g0, g1, g2, -⟩
  have hlt := (List.getElem?_eq_some_iff.1 hp).1
  have hB : ∀ G, (H ++ G)[p]? = some (.own 25 (ruCells q x)) := fun G => get_more hp
  have hS : ∀ (G : Heap) (y : AObj), ((H ++ G).set p y)[p]? = some y := fun G y => List.getElem?_set_self (by rw [List.length_append]; omega)
  have hA : ∀ (G : Heap) (y : AObj), (H ++ G).set p y = H.set p y ++ G := fun G y => List.set_append_left _ _ hlt
  have hp' := hp
  have hB' := hB
  have hS' : ∀ (y : AObj), (H.set p y)[p]? = some y := fun y => List.getElem?_set_self hlt
  unfold ruCells at hB hp'
  have z1 : decide (([66, 89, 69, 65, 83, 84, 69, 82] : List UInt8) = [70, 82, 69, 81]) = false := rfl
  have z2 : decide (([66, 89, 69, 65, 83, 84, 69, 82] : List UInt8) = [85, 78, 84, 73, 76]) = false := rfl
  have z3 : decide (([66, 89, 69, 65, 83, 84, 69, 82] : List UInt8) = [67, 79, 85, 78, 84]) = false := rfl
  have z4 : decide (([66, 89, 69, 65, 83, 84, 69, 82] : List UInt8) = [73, 78, 84, 69, 82, 86, 65, 76]) = false := rfl
  have z5 : decide (([66, 89, 69, 65, 83, 84, 69, 82] : List UInt8) = [87, 75, 83, 84]) = false := rfl
  have z6 : decide (([66, 89, 69, 65, 83, 84, 69, 82] : List UInt8) = [66, 89, 68, 65, 89]) = false := rfl
  have z7 : decide (([66, 89, 69, 65, 83, 84, 69, 82] : List UInt8) = [66, 89, 83, 69, 67, 79, 78, 68]) = false := rfl
  have z8 : decide (([66, 89, 69, 65, 83, 84, 69, 82] : List UInt8) = [66, 89, 77, 73, 78, 85, 84, 69]) = false := rfl
  have z9 : decide (([66, 89, 69, 65, 83, 84, 69, 82] : List UInt8) = [66, 89, 72, 79, 85, 82]) = false := rfl
  have z10 : decide (([66, 89, 69, 65, 83, 84, 69, 82] : List UInt8) = [66, 89, 77, 79, 78, 84, 72, 68, 65, 89]) = false := rfl
  have z11 : decide (([66, 89, 69, 65, 83, 84, 69, 82] : List UInt8) = [66, 89, 89, 69, 65, 82, 68, 65, 89]) = false := rfl
  have z12 : decide (([66, 89, 69, 65, 83, 84, 69, 82] : List UInt8) = [66, 89, 87, 69, 69, 75, 78, 79]) = false := rfl
  have z13 : decide (([66, 89, 69, 65, 83, 84, 69, 82] : List UInt8) = [66, 89, 77, 79, 78, 84, 72]) = false := rfl
  have z14 : decide (([66, 89, 69, 65, 83, 84, 69, 82] : List UInt8) = [66, 89, 83, 69, 84, 80, 79, 83]) = false := rfl
  have z15 : decide (([66, 89, 69, 65, 83, 84, 69, 82] : List UInt8) = [66, 89, 69, 65, 83, 84, 69, 82]) = true := rfl
  simp only [go_sem, he, g0, g1, g2, nilA, hp', setD_some, List.set_set, z1, z2, z3, z4, z5, z6, z7, z8, z9, z10, z11, z12, z13, z14, z15]
  refine callX_any (numbers_A v hl vs hv _) ?_
  rintro r h ⟨a, rfl, hO⟩
  have a1 := hO.one
  have a2 := hO.own
  obtain ⟨G, rfl⟩ := hO.1
  simp only [go_sem, he, g0, g1, g2, nilA, hp', setD_some, List.set_set, z1, z2, z3, z4, z5, z6, z7, z8, z9, z10, z11, z12, z13, z14, z15, hB, hS, hS', hx.setPos.one, hx.month.one, hx.monthDay.one, hx.yearDay.one, hx.weekNo.one, hx.day.one, hx.hour.one, hx.minute.one, hx.second.one, hx.easter.one, a1, avCells_one a1]
  have hx2 := (hx.more G).putT (hB' G) (by decide) (by decide) (.own 25 (ruCells { q with easter := vs } { x with easter := a }))
  refine ⟨rfl, { x with easter := a }, G, hA _ _, ?_⟩
  try rw [← hA]
  exact ⟨hx2.setPos, hx2.month, hx2.monthDay, hx2.yearDay, hx2.weekNo, hx2.day, hx2.hour, hx2.minute, hx2.second, a2.putT (hB' G) (by decide) _⟩
end Go.Proofs.YtlfpjdcogkcjlaaGreatDoor.F
/- The specification's reading of a rule's text. -/
namespace Go.Proofs.YtlfpjdcogkcjlaaGreatDoor.F
open Go.RowKit Go.Proofs.YtlfpjdcogkcjlaaGreatDoor.AL Go.Proofs.YtlfpjdcogkcjlaaGreatDoor.B
set_option linter.unusedVariables false
set_option linter.unusedSimpArgs false
set_option maxRecDepth 20000
attribute [local irreducible] aops acode bindK bindV bindH callX callK condK guardK Kseq Kblk Knorm Kfun Kloop Kjoin outK AWp appendA Ktail
attribute [local go_sem] acode_skip acode_seq acode_region acode_cond acode_block acode_exit acode_ret acode_loop Kseq_normal Kseq_exit Kseq_ret Kblk_normal Kblk_ret Kblk_eq Kblk_ne Knorm_eq Kloop_normal Kloop_exit Kloop_ret Kjoin_normal Kjoin_exit Kjoin_ret condK_true condK_false bindK_put bindV_put bindK_no bindV_no bindH_no aops_nil gops wantK_some wantV_bool wantV_undef guardK_true guardK_false guardK_none aops_move aops_assign aops_pick aops_nilCheck aops_binOp aops_unOp aops_convert aops_fieldAddr aops_indexAddr aops_slice aops_index aops_extract aops_makeInterface aops_makeFunc aops_build aops_load aops_lookup aops_alloc aops_box aops_buildSlice aops_makeSlice aops_makeMap aops_store aops_insert aops_mapUpdate aops_len aops_append aops_call opA_tmp opA_const opA_global opA_func get_mk look_nil look_eq look_ne len_mk List.map_cons List.map_nil Option.map_some Option.map_none bin_add bin_sub bin_mul bin_quo bin_rem bin_eql bin_neq bin_lss bin_leq bin_gtr bin_geq bin_cat bin_seql bin_sneq bin_neq_ifc bin_eql_ifc bin_neq_nn bin_eql_nn bin_neq_ptr bin_eql_ptr bin_neq_pn isIfc_true isPtr_true bin_eql2 bin_neq2 aops_max max_int un_not un_neg lenA_K lenK_str lenK_nil lenK_sl lenK_array pick_bool pick_val bindV_ite bindK_ite bindH_ite slotV_sl slotK_some slotV_ptr slotR_some sliceV_sl cutK_some sliceV_str cutS_some bound_none bound_some indexA_str atS_some mkS fieldV_ptr loadV_ptr cellsK_ro cellsK_own loadK_one loadK_many storeA_ptr storeK_own allocA_some heap_len heap_get0 heap_get heap_set0 heap_set Kfun_ret Kfun_normal resA_nil resA_tmp resA_cell outK_some packA_one packA_nil packA_two List.length_cons List.length_nil List.getElem?_cons_zero List.getElem?_cons_succ List.set_cons_zero List.set_cons_succ List.cons_append List.nil_append List.append_assoc Nat.zero_add Nat.add_zero List.all_cons List.all_nil Value.oneCell' Bool.and_true Bool.and_self if_true if_false Bool.false_eq_true partsA buildV buildA fillA Option.bind_some putCells List.drop_succ_cons List.drop_zero List.take_succ_cons List.take_zero List.take_nil List.drop_nil and_self and_true true_and Option.some.injEq ne_eq not_false_eq_true Option.map_map List.getElem?_toArray beq_self_eq_true Bool.true_beq Bool.false_beq Bool.not_true Bool.not_false decide_true decide_false beq_true Nat.mul_one Nat.one_mul Nat.zero_mul bsA buildSliceA zerosN List.append_nil Int.toNat_natCast Int.toNat_zero boxA one_val one_ptr one_sl one_mp one_ifc one_fn avCells_agg avCells_val valCells_true valCells_agg avCells_ptr avCells_sl avCells_mp avCells_ifc avCells_fn app_cons app_nil lookupA insertA ifaceV extractA kd2 ars127 fp127 ars60 fp60 ars31 fp31 eq2_99 eq2_84 eq2_47 fp52 sz2 kd3 sz3 kd4 sz4 kd5 sz5 kd9 sz9 kd22 sz22 el22 kd23 sz23 el23 kd25 sz25 zc25 fp25 fo25_0 fo25_1 fo25_2 fo25_3 fo25_4 fo25_5 fo25_6 fo25_7 fo25_8 fo25_9 fo25_10 fo25_11 fo25_12 fo25_13 fo25_14 fo25_15 fo25_16 fo25_17 kd31 sz31 zc31 ar31 kd32 sz32 el32 kd34 sz34 zc34 fp34 fo34_0 fo34_1 fo34_2 fo34_3 fo34_4 fo34_5 fo34_6 fo34_7 fo34_8 fo34_9 fo34_10 fo34_11 fo34_12 fo34_13 fo34_14 fo34_15 fo34_16 fo34_17 el38 el42 kd47 sz47 zc47 fp47 fo47_0 fo47_1 kd52 sz52 zc52 fo52_0 el55 zc60 kd72 sz72 zc72 fp72 fo72_0 fo72_1 el73 kd80 sz80 kd84 sz84 zc84 fp84 fo84_0 fo84_1 kd88 sz88 zc88 fp88 fo88_0 fo88_1 fo88_2 fo88_3 kd91 sz91 zc91 fp91 fo91_0 fo91_1 fo91_2 el94 kd99 sz99 zc99 fp99 fo99_0 fo99_1 kd100 sz100 el100 kd102 sz102 zc102 fp102 fo102_0 fo102_1 fo102_2 fo102_3 fo102_4 fo102_5 fo102_6 fo102_7 fo102_8 fo102_9 fo102_10 fo102_11 fo102_12 fo102_13 fo102_14 fo102_15 kd109 sz109 zc109 fp109 isStrMap124 zv80 zc127 kd153 sz153 zc153 ar153 isIface157 kd159 sz159 zc159 fp159 isStrMap177 zv84 Tryz.underlying3 Tryz.underlying4 Tryz.underlying5 Tryz.underlying9 Tryz.underlying21 Tryz.underlying22 Tryz.underlying23 Tryz.underlying32 Tryz.underlying38 Tryz.underlying42 Tryz.underlying47 Tryz.underlying55 Tryz.underlying67 Tryz.underlying73 Tryz.underlying80 Tryz.underlying84 Tryz.underlying94 Tryz.underlying100 Tryz.underlying2 Tryz.underlying127 Tryz.underlying60 Tryz.underlying31 kd55 ai60 ai127 indexA_agg atK_some isStrMap76 zv4 Ktail_eq opsOf_nil opsOf_cons consO_some
attribute [local go_sem_proc] Nat.reduceLT Nat.reduceBEq Nat.reduceAdd Int.reduceBEq Nat.reduceLeDiff reduceIte Nat.reduceEqDiff Int.reduceEq Int.reduceLE Int.reduceLT Int.reduceNe Nat.reduceMul Nat.reduceSub Int.reduceToNat
/-- A part that can be read, and what it makes of a rule. -/
def SPut (q : Ru) (p : KV) (q' : Ru) : Prop :=
  (p.1 = [70, 82, 69, 81] ∧ ∃ f : Nat, ixS freqs p.2 = f ∧ f ≤ 6 ∧ q' = { q with freq := f }) ∨
  (p.1 = [85, 78, 84, 73, 76] ∧ ∃ t, InY t ∧ p.2 = dateText t ∧ q' = { q with til := t, hasUntil := true }) ∨
  (p.1 = [67, 79, 85, 78, 84] ∧ ∃ n, numOf p.2 = some n ∧ 0 < n ∧ q' = { q with count := n }) ∨
  (p.1 = [73, 78, 84, 69, 82, 86, 65, 76] ∧ ∃ n, numOf p.2 = some n ∧ 0 < n ∧ q' = { q with interval := n }) ∨
  (p.1 = [87, 75, 83, 84] ∧ ∃ w, ixS wdays p.2 = w ∧ 0 ≤ w ∧ q' = { q with wkst := w }) ∨
  (p.1 = [66, 89, 68, 65, 89] ∧ ∃ vs, (split 44 p.2).map swd = vs.map some ∧ q' = { q with day := vs }) ∨
  (p.1 = [66, 89, 83, 69, 67, 79, 78, 68] ∧ ∃ vs, (split 44 p.2).map numOf = vs.map some ∧ q' = { q with second := vs }) ∨
  (p.1 = [66, 89, 77, 73, 78, 85, 84, 69] ∧ ∃ vs, (split 44 p.2).map numOf = vs.map some ∧ q' = { q with minute := vs }) ∨
  (p.1 = [66, 89, 72, 79, 85, 82] ∧ ∃ vs, (split 44 p.2).map numOf = vs.map some ∧ q' = { q with hour := vs }) ∨
  (p.1 = [66, 89, 77, 79, 78, 84, 72, 68, 65, 89] ∧ ∃ vs, (split 44 p.2).map numOf = vs.map some ∧ q' = { q with monthDay := vs }) ∨
  (p.1 = [66, 89, 89, 69, 65, 82, 68, 65, 89] ∧ ∃ vs, (split 44 p.2).map numOf = vs.map some ∧ q' = { q with yearDay := vs }) ∨
  (p.1 = [66, 89, 87, 69, 69, 75, 78, 79] ∧ ∃ vs, (split 44 p.2).map numOf = vs.map some ∧ q' = { q with weekNo := vs }) ∨
  (p.1 = [66, 89, 77, 79, 78, 84, 72] ∧ ∃ vs, (split 44 p.2).map numOf = vs.map some ∧ q' = { q with month := vs }) ∨
  (p.1 = [66, 89, 83, 69, 84, 80, 79, 83] ∧ ∃ vs, (split 44 p.2).map numOf = vs.map some ∧ q' = { q with setPos := vs }) ∨
  (p.1 = [66, 89, 69, 65, 83, 84, 69, 82] ∧ ∃ vs, (split 44 p.2).map numOf = vs.map some ∧ q' = { q with easter := vs })
theorem part_A {w0 : World} (kv : KV) (hl : kv.2.length ≤ 100000) (q q' : Ru) (h : SPut q kv q') (H : Heap) (p : Nat) (x : Rs) (hp : H[p]? = some (.own 25 (ruCells q x))) (hx : RuW H q x) :
    ACalls Tryz.prog (CB w0) 40 [.ptr p 0, vS kv.1, vS kv.2] H (PartR H p q') := by
  obtain ⟨k, v⟩ := kv
  simp only [SPut] at h hl ⊢
  rcases h with ⟨rfl, f, h1, h2, rfl⟩ | ⟨rfl, t, h1, h2, rfl⟩ | ⟨rfl, n, h1, h2, rfl⟩ | ⟨rfl, n, h1, h2, rfl⟩ | ⟨rfl, w, h1, h2, rfl⟩ | ⟨rfl, vs, h1, rfl⟩ | ⟨rfl, vs, h1, rfl⟩ | ⟨rfl, vs, h1, rfl⟩ | ⟨rfl, vs, h1, rfl⟩ | ⟨rfl, vs, h1, rfl⟩ | ⟨rfl, vs, h1, rfl⟩ | ⟨rfl, vs, h1, rfl⟩ | ⟨rfl, vs, h1, rfl⟩ | ⟨rfl, vs, h1, rfl⟩ | ⟨rfl, vs, h1, rfl⟩
  · exact part_FREQ v hl f h1 h2 H p q x hp hx
  · exact part_UNTIL v hl t h1 h2 H p q x hp hx
  · exact part_COUNT v hl n h1 h2 H p q x hp hx
  · exact part_INTERVAL v hl n h1 h2 H p q x hp hx
  · exact part_WKST v hl w h1 h2 H p q x hp hx
  · exact part_BYDAY v hl vs h1 H p q x hp hx
  · exact part_BYSECOND v hl vs h1 H p q x hp hx
  · exact part_BYMINUTE v hl vs h1 H p q x hp hx
  · exact part_BYHOUR v hl vs h1 H p q x hp hx
  · exact part_BYMONTHDAY v hl vs h1 H p q x hp hx
  · exact part_BYYEARDAY v hl vs h1 H p q x hp hx
  · exact part_BYWEEKNO v hl vs h1 H p q x hp hx
  · exact part_BYMONTH v hl vs h1 H p q x hp hx
  · exact part_BYSETPOS v hl vs h1 H p q x hp hx
  · exact part_BYEASTER v hl vs h1 H p q x hp hx
/-- Parts one behind the other. -/
def SFold (q : Ru) : List KV → Ru → Prop
  | [], q' => q' = q
  | p :: L, q' => ∃ q1, SPut q p q1 ∧ SFold q1 L q'
/-- The names met. -/
def metL (ks : List (List UInt8)) : List (ByteArray × AV) := ks.map fun k => (S k, vB true)
theorem find_no {k : List UInt8} : ∀ {ks : List (List UInt8)}, k ∉ ks → findA (S k) (metL ks) = none
  | [], _ => rfl
  | a :: r, h => by
    show findA (S k) ((S a, vB true) :: metL r) = none
    rw [findA_cons, if_neg (fun e => h (by rw [e]; simp)), find_no fun hm => h (List.mem_cons_of_mem _ hm)]
theorem find_yes {k : List UInt8} : ∀ {ks : List (List UInt8)}, k ∈ ks → findA (S k) (metL ks) = some (vB true)
  | [], h => by cases h
  | a :: r, h => by
    show findA (S k) ((S a, vB true) :: metL r) = some (vB true)
    rw [findA_cons]
    split
    · rfl
    · rename_i hne
      rcases List.mem_cons.1 h with e | h
      · exact absurd e hne
      · exact find_yes h
def ruQ0 : Ru := ⟨0, false, 0, 1, 0, 0, false, 0, [], [], [], [], [], [], [], [], [], []⟩
def rsNil : Rs := ⟨vNil, vNil, vNil, vNil, vNil, vNil, vNil, vNil, vNil, vNil⟩
theorem RuW.nil (H : Heap) : RuW H ruQ0 rsNil := ⟨.inl ⟨rfl, rfl⟩, .inl ⟨rfl, rfl⟩, .inl ⟨rfl, rfl⟩, .inl ⟨rfl, rfl⟩, .inl ⟨rfl, rfl⟩, .inl ⟨rfl, rfl⟩, .inl ⟨rfl, rfl⟩, .inl ⟨rfl, rfl⟩, .inl ⟨rfl, rfl⟩, .inl ⟨rfl, rfl⟩⟩
theorem IntsOwn.same {h h' : Heap} {x : AV} {l : List Int} (hx : IntsOwn h x l) (hk : ∀ (p t : Nat) (cs : List AV), h[p]? = some (.own t cs) → (t = 3 ∨ t = 47) → h'[p]? = some (.own t cs)) : IntsOwn h' x l := by
  rcases hx with hx | ⟨q, h1, h2⟩
  · exact .inl hx
  · exact .inr ⟨q, h1, hk _ _ _ h2 (.inl rfl)⟩
theorem DaysO.same {h h' : Heap} {x : AV} {l : List (Int × Int)} (hx : DaysO 47 h x l) (hk : ∀ (p t : Nat) (cs : List AV), h[p]? = some (.own t cs) → (t = 3 ∨ t = 47) → h'[p]? = some (.own t cs)) : DaysO 47 h' x l := by
  rcases hx with hx | ⟨q, h1, h2⟩
  · exact .inl hx
  · exact .inr ⟨q, h1, hk _ _ _ h2 (.inr rfl)⟩
theorem RuW.same {h h' : Heap} {r : Ru} {x : Rs} (hx : RuW h r x) (hk : ∀ (p t : Nat) (cs : List AV), h[p]? = some (.own t cs) → (t = 3 ∨ t = 47) → h'[p]? = some (.own t cs)) : RuW h' r x :=
  ⟨hx.setPos.same hk, hx.month.same hk, hx.monthDay.same hk, hx.yearDay.same hk, hx.weekNo.same hk, hx.day.same hk, hx.hour.same hk, hx.minute.same hk, hx.second.same hk, hx.easter.same hk⟩
theorem read_A {w0 : World} (s : List UInt8) (hs : s.length ≤ 2000) (L : List KV) (hL : split 59 s = L.map kvT) (hkv : ∀ p ∈ L, split 61 (kvT p) = [p.1, p.2]) (hnd : (L.map (·.1)).Nodup) (hf : [70, 82, 69, 81] ∈ L.map (·.1)) (q' : Ru) (hq : SFold ruQ0 L q') (H : Heap) :
    ACalls Tryz.prog (CB w0) 19 [vS s] H fun r H' => (∃ x, r = .tup [.agg (ruCells q' x), vB true] ∧ RuW H' q' x) ∧ ∃ G, H' = H ++ G := by
  refine A_fun (N := 52) (rs := [.cell 2 25, .tmp 3]) Tryz.func19 rfl rfl rfl (by kernel_rfl) (by kernel_rfl) (Nat.le_of_ble_eq_true rfl) ?_
  rintro e he ⟨g0, -⟩
  have c2000 : decide ((2000 : Int) < (s.length : Int)) = false := decide_eq_false (by omega)
  simp only [go_sem, he, g0, c2000]
  refine callX_any (cut_A (w0 := w0) s 59 (by omega) _) ?_
  rintro r h ⟨⟨G, rfl⟩, o, rfl, ho, hol⟩
  rw [hL] at ho ⊢
  have hll : L.length = (L.map kvT).length := by simp
  have hsl := split_length 59 s
  have hsm : ∀ x ∈ L.map kvT, x.length ≤ s.length := fun x hx => split_mem (c := 59) (by rw [hL]; exact hx)
  rw [hL] at hsl
  have ho2 : H.length + 3 ≤ o := by simpa using hol
  simp only [go_sem, he, g0, setD_some]
  refine A_while L.length (fun k e h => ∃ (i : Nat) (q : Ru) (x : Rs) (z : List AV), i + k = L.length ∧ len e = 52 ∧ AL.get e 2 = .ptr H.length 0 ∧ AL.get e 4 = .ptr (H.length + 1) 0 ∧ AL.get e 5 = .mp (H.length + 2) ∧ AL.get e 16 = .sl true o 0 (L.map kvT).length 1 ∧ AL.get e 17 = vI (L.map kvT).length ∧ AL.get e 18 = vI i ∧
    (∃ G, h = H ++ G) ∧ h[H.length]? = some (.own 25 z) ∧ z.length = 18 ∧ h[H.length + 1]? = some (.own 25 (ruCells q x)) ∧ RuW h q x ∧ h[H.length + 2]? = some (.map (metL ((L.take i).map (·.1)))) ∧ h[o]? = some (.own 9 ((L.map kvT).map vS)) ∧ SFold q (L.drop i) q') (by kernel_rfl) ?_ ?_
  · simp only [go_sem, he, g0]
    refine ⟨0, ruQ0, rsNil, _, by omega, rfl, ⟨_, rfl⟩, rfl, rfl, rfl, RuW.nil _, ?_, ?_, hq⟩
    · rfl
    · simp only [List.append_assoc, List.cons_append, List.nil_append] at ho
      exact ho
  · rintro k e h ⟨i, q, x, z, hik, he, g2, g4, g5, g16, g17, g18, hGh, hz, hzl, hr, hW, hmp, ho, hq⟩
    have wi : IntKind.i64.wrap ((i : Int) + 1) = ((i + 1 : Nat) : Int) := by rw [wI64 (by omega)]; rfl
    simp only [go_sem, he, g2, g4, g5, g16, g17, g18]
    refine condK_of (fun hc => ?_) fun hc => ?_
    · have hc := of_decide_eq_true hc
      have hi : i < L.length := by omega
      have hLi : L[i]? = some L[i] := List.getElem?_eq_getElem hi
      have hdr : L.drop i = L[i] :: L.drop (i + 1) := List.drop_eq_getElem_cons hi
      generalize hpe : L[i] = pp at *
      rw [hdr] at hq
      obtain ⟨q1, hput, hq⟩ := hq
      have hpi : ((L.map kvT).map vS)[i]? = some (vS (kvT pp)) := by rw [List.getElem?_map, List.getElem?_map, hLi]; rfl
      have hcm : cellsK h[o]? = some ((L.map kvT).map vS) := by rw [ho]; rfl
      have hpm : pp ∈ L := List.mem_of_getElem? hLi
      have hpl := hsm (kvT pp) (List.mem_map.2 ⟨pp, hpm, rfl⟩)
      have hnk : pp.1 ∉ (L.take i).map (·.1) := fun hm => by
        obtain ⟨p2, hp2, e2⟩ := List.mem_map.1 hm
        obtain ⟨j, hj⟩ := List.getElem?_of_mem hp2
        have hji : j < i := by have := (List.getElem?_eq_some_iff.1 hj).1; rw [List.length_take] at this; omega
        rw [List.getElem?_take_of_lt hji] at hj
        have h1 : (L.map (·.1))[j]? = some pp.1 := by rw [List.getElem?_map, hj]; exact congrArg some e2
        have h2 : (L.map (·.1))[i]? = some pp.1 := by rw [List.getElem?_map, hLi]; rfl
        have := (List.getElem?_inj (by rw [List.length_map]; omega) hnd).1 (h1.trans h2.symm)
        omega
      simp only [go_sem, he, g2, g4, g5, g16, g17, g18, hcm, hpi, Int.toNat_natCast]
      refine ⟨by omega, callX_any (cut_A (w0 := w0) (kvT pp) 61 (by omega) _) ?_⟩
      rintro r h' ⟨⟨G1, rfl⟩, o1, rfl, ho1, hol1⟩
      rw [hkv pp hpm] at ho1 ⊢
      have hz1 := get_more (G := G1) hz
      have hr1 := get_more (G := G1) hr
      have hmp1 := get_more (G := G1) hmp
      have ho1' := get_more (G := G1) ho
      have hfn := find_no hnk
      have d2 : decide (((2 : Nat) : Int) = 2) = true := rfl
      have hc1 : cellsK (h ++ G1)[o1]? = some [vS pp.1, vS pp.2] := by rw [ho1]; rfl
      simp only [go_sem, he, g2, g4, g5, g16, g17, g18, setD_some, hc1, Int.toNat_zero, d2, hmp1, hfn]
      refine ⟨by omega, by omega, ?_⟩
      refine acode_tail [] 6 mixed (by kernel_rfl) (by kernel_rfl) (by kernel_rfl) ?_
      have hlt5 : H.length + 2 < (h ++ G1).length := (List.getElem?_eq_some_iff.1 hmp1).1
      have hmet : metL ((L.take i).map (·.1)) ++ [(S pp.1, AV.val (Value.bool true))] = metL ((L.take (i + 1)).map (·.1)) := by
        rw [take_snoc hLi, List.map_append]
        unfold metL
        rw [List.map_append]
        rfl
      rw [hmet]
      obtain ⟨hm, ehm⟩ : ∃ hm, hm = List.set (h ++ G1) (H.length + 2) (AObj.map (metL ((L.take (i + 1)).map (·.1)))) := ⟨_, rfl⟩
      have m1 : hm[H.length]? = some (.own 25 z) := by rw [ehm, List.getElem?_set_ne (by omega)]; exact hz1
      have m2 : hm[H.length + 1]? = some (.own 25 (ruCells q x)) := by rw [ehm, List.getElem?_set_ne (by omega)]; exact hr1
      have m3 : hm[H.length + 2]? = some (.map (metL ((L.take (i + 1)).map (·.1)))) := by rw [ehm, List.getElem?_set_self hlt5]
      have m4 : hm[o]? = some (.own 9 ((L.map kvT).map vS)) := by rw [ehm, List.getElem?_set_ne (by omega)]; exact ho1'
      have hho1 : H.length + 2 < h.length := (List.getElem?_eq_some_iff.1 hmp).1
      have m5 : cellsK hm[o1]? = some [vS pp.1, vS pp.2] := by rw [ehm, List.getElem?_set_ne (by omega)]; exact hc1
      have m6 : RuW hm q x := (hW.more G1).same fun p t cs hp ht => by
        rw [ehm, List.getElem?_set_ne]
        · exact hp
        · rintro rfl
          rw [hmp1] at hp
          cases hp
      have m7 : ∃ G, hm = H ++ G := by
        obtain ⟨G, rfl⟩ := hGh
        rw [ehm, List.append_assoc]
        exact ⟨_, set_behind (by omega)⟩
      rw [← ehm]
      clear ehm
      simp only [go_sem, he, g2, g4, g5, g16, g17, g18, m5, Int.toNat_zero, Int.toNat_one]
      refine ⟨by omega, by omega, ?_⟩
      have hvl : pp.2.length ≤ 100000 := by
        have e1 : (kvT pp).length = pp.1.length + (pp.2.length + 1) := by unfold kvT; rw [List.length_append, List.length_cons]
        omega
      refine callX_any (part_A pp hvl q q1 hput hm (H.length + 1) x m2 m6) ?_
      rintro r h3 ⟨rfl, x1, G3, rfl, hW3⟩
      simp only [go_sem, he, g2, g4, g5, g16, g17, g18, setD_some, wi]
      have hlt4 : H.length + 1 < hm.length := (List.getElem?_eq_some_iff.1 m2).1
      have ne3 : ∀ (p : Nat) (y : AObj), p ≠ H.length + 1 → hm[p]? = some y → (hm.set (H.length + 1) (AObj.own 25 (ruCells q1 x1)) ++ G3)[p]? = some y := fun p y hne hp => get_more (by rw [List.getElem?_set_ne (fun e => hne e.symm)]; exact hp)
      refine ⟨k - 1, by omega, i + 1, q1, x1, z, by omega, rfl, ?_, ne3 _ _ (by omega) m1, hzl, get_more (List.getElem?_set_self hlt4), hW3, ne3 _ _ (by omega) m3, ne3 _ _ (by omega) m4, hq⟩
      obtain ⟨G, rfl⟩ := m7
      exact ⟨G.set (H.length + 1 - H.length) _ ++ G3, by rw [set_behind (by omega), List.append_assoc]⟩
    · have hc := of_decide_eq_false hc
      have hi : i = L.length := by omega
      subst hi
      rw [List.drop_length] at hq
      have hq : q' = q := hq
      subst hq
      rw [List.take_length] at hmp
      have hfy := find_yes hf
      simp only [go_sem, he, g2, g4, g5, g16, g17, g18]
      refine acode_draw mixed (by kernel_rfl) ?_
      have hlt2 : H.length < h.length := (List.getElem?_eq_some_iff.1 hz).1
      have hS : ∀ y : AObj, (h.set H.length y)[H.length]? = some y := fun y => List.getElem?_set_self hlt2
      have hr' := hr
      unfold ruCells at hr'
      have hzd : z.drop 18 = [] := List.drop_eq_nil_of_le (by omega)
      simp only [go_sem, he, g2, g4, g5, g16, g17, g18, hz, hr', hmp, hfy, hzl, hzd, hS, hW.setPos.one, hW.month.one, hW.monthDay.one, hW.yearDay.one, hW.weekNo.one, hW.day.one, hW.hour.one, hW.minute.one, hW.second.one, hW.easter.one, Bool.true_and]
      refine ⟨⟨x, rfl, hW.putT hz (by decide) (by decide) _⟩, ?_⟩
      obtain ⟨G, rfl⟩ := hGh
      exact ⟨_, set_behind (Nat.le_refl _)⟩
end Go.Proofs.YtlfpjdcogkcjlaaGreatDoor.F
/- What the parts of a rule's text tell: each puts its number, moment, day or list into the options. -/
namespace Go.Proofs.YtlfpjdcogkcjlaaGreatDoor.F
open Go.RowKit Go.Proofs.YtlfpjdcogkcjlaaGreatDoor.AL Go.Proofs.YtlfpjdcogkcjlaaGreatDoor.B
set_option linter.unusedVariables false
set_option linter.unusedSimpArgs false
set_option maxRecDepth 20000
attribute [local irreducible] aops acode bindK bindV bindH callX callK condK guardK Kseq Kblk Knorm Kfun Kloop Kjoin outK AWp appendA
attribute [local go_sem] acode_skip acode_seq acode_region acode_cond acode_block acode_exit acode_ret acode_loop Kseq_normal Kseq_exit Kseq_ret Kblk_normal Kblk_ret Kblk_eq Kblk_ne Knorm_eq Kloop_normal Kloop_exit Kloop_ret Kjoin_normal Kjoin_exit Kjoin_ret condK_true condK_false bindK_put bindV_put bindK_no bindV_no bindH_no aops_nil gops wantK_some wantV_bool wantV_undef guardK_true guardK_false guardK_none aops_move aops_assign aops_pick aops_nilCheck aops_binOp aops_unOp aops_convert aops_fieldAddr aops_indexAddr aops_slice aops_index aops_extract aops_makeInterface aops_makeFunc aops_build aops_load aops_lookup aops_alloc aops_box aops_buildSlice aops_makeSlice aops_makeMap aops_store aops_insert aops_mapUpdate aops_len aops_append aops_call opA_tmp opA_const opA_global opA_func get_mk look_nil look_eq look_ne len_mk List.map_cons List.map_nil Option.map_some Option.map_none bin_add bin_sub bin_mul bin_quo bin_rem bin_eql bin_neq bin_lss bin_leq bin_gtr bin_geq bin_cat bin_seql bin_sneq bin_neq_ifc bin_eql_ifc bin_neq_nn bin_eql_nn bin_neq_ptr bin_eql_ptr bin_neq_pn isIfc_true isPtr_true bin_eql2 bin_neq2 aops_max max_int un_not un_neg lenA_K lenK_str lenK_nil lenK_sl lenK_array pick_bool pick_val bindV_ite bindK_ite bindH_ite slotV_sl slotK_some slotV_ptr slotR_some sliceV_sl cutK_some sliceV_str cutS_some bound_none bound_some indexA_str atS_some mkS fieldV_ptr loadV_ptr cellsK_ro cellsK_own loadK_one loadK_many storeA_ptr storeK_own allocA_some heap_len heap_get0 heap_get heap_set0 heap_set Kfun_ret Kfun_normal resA_nil resA_tmp resA_cell outK_some packA_one packA_nil packA_two List.length_cons List.length_nil List.getElem?_cons_zero List.getElem?_cons_succ List.set_cons_zero List.set_cons_succ List.cons_append List.nil_append List.append_assoc Nat.zero_add Nat.add_zero List.all_cons List.all_nil Value.oneCell' Bool.and_true Bool.and_self if_true if_false Bool.false_eq_true partsA buildV buildA fillA Option.bind_some putCells List.drop_succ_cons List.drop_zero List.take_succ_cons List.take_zero List.take_nil List.drop_nil and_self and_true true_and Option.some.injEq ne_eq not_false_eq_true Option.map_map List.getElem?_toArray beq_self_eq_true Bool.true_beq Bool.false_beq Bool.not_true Bool.not_false decide_true decide_false beq_true Nat.mul_one Nat.one_mul Nat.zero_mul bsA buildSliceA zerosN List.append_nil Int.toNat_natCast Int.toNat_zero boxA one_val one_ptr one_sl one_mp one_ifc one_fn avCells_agg avCells_val valCells_true valCells_agg avCells_ptr avCells_sl avCells_mp avCells_ifc avCells_fn app_cons app_nil lookupA insertA ifaceV extractA kd2 ars127 fp127 ars60 fp60 ars31 fp31 eq2_99 eq2_84 eq2_47 fp52 sz2 kd3 sz3 kd4 sz4 kd5 sz5 kd9 sz9 kd22 sz22 el22 kd23 sz23 el23 kd25 sz25 zc25 fp25 fo25_0 fo25_1 fo25_2 fo25_3 fo25_4 fo25_5 fo25_6 fo25_7 fo25_8 fo25_9 fo25_10 fo25_11 fo25_12 fo25_13 fo25_14 fo25_15 fo25_16 fo25_17 kd31 sz31 zc31 ar31 kd32 sz32 el32 kd34 sz34 zc34 fp34 fo34_0 fo34_1 fo34_2 fo34_3 fo34_4 fo34_5 fo34_6 fo34_7 fo34_8 fo34_9 fo34_10 fo34_11 fo34_12 fo34_13 fo34_14 fo34_15 fo34_16 fo34_17 el38 el42 kd47 sz47 zc47 fp47 fo47_0 fo47_1 kd52 sz52 zc52 fo52_0 el55 zc60 kd72 sz72 zc72 fp72 fo72_0 fo72_1 el73 kd80 sz80 kd84 sz84 zc84 fp84 fo84_0 fo84_1 kd88 sz88 zc88 fp88 fo88_0 fo88_1 fo88_2 fo88_3 kd91 sz91 zc91 fp91 fo91_0 fo91_1 fo91_2 el94 kd99 sz99 zc99 fp99 fo99_0 fo99_1 kd100 sz100 el100 kd102 sz102 zc102 fp102 fo102_0 fo102_1 fo102_2 fo102_3 fo102_4 fo102_5 fo102_6 fo102_7 fo102_8 fo102_9 fo102_10 fo102_11 fo102_12 fo102_13 fo102_14 fo102_15 kd109 sz109 zc109 fp109 isStrMap124 zv80 zc127 kd153 sz153 zc153 ar153 isIface157 kd159 sz159 zc159 fp159 isStrMap177 zv84 Tryz.underlying3 Tryz.underlying4 Tryz.underlying5 Tryz.underlying9 Tryz.underlying21 Tryz.underlying22 Tryz.underlying23 Tryz.underlying32 Tryz.underlying38 Tryz.underlying42 Tryz.underlying47 Tryz.underlying55 Tryz.underlying67 Tryz.underlying73 Tryz.underlying80 Tryz.underlying84 Tryz.underlying94 Tryz.underlying100 Tryz.underlying2 Tryz.underlying127 Tryz.underlying60 Tryz.underlying31 kd55 ai60 ai127 indexA_agg atK_some isStrMap76 zv4
attribute [local go_sem_proc] Nat.reduceLT Nat.reduceBEq Nat.reduceAdd Int.reduceBEq Nat.reduceLeDiff reduceIte Nat.reduceEqDiff Int.reduceEq Int.reduceLE Int.reduceLT Int.reduceNe Nat.reduceMul Nat.reduceSub Int.reduceToNat
set_option maxRecDepth 200000
def atoiOk (n : Int) : Bool := (match atoiE (Lib.itoa n) with | .ok m => decide (m = n) | .error _ => false) && decide ((Lib.itoa n).length ≤ 5) && decide (0 < (Lib.itoa n).length)
theorem atoi_all : ((List.range 2001).all fun k => atoiOk ((k : Int) - 1000)) = true := by kernel_rfl
theorem atoi_itoa {n : Int} (h0 : -1000 ≤ n) (h1 : n ≤ 1000) : atoiE (Lib.itoa n) = .ok n ∧ (Lib.itoa n).length ≤ 5 ∧ 0 < (Lib.itoa n).length := by
  have h := List.all_eq_true.1 atoi_all (n + 1000).toNat (List.mem_range.2 (by omega))
  rw [show (((n + 1000).toNat : Nat) : Int) - 1000 = n by omega] at h
  unfold atoiOk at h
  simp only [Bool.and_eq_true, decide_eq_true_eq] at h
  obtain ⟨⟨h2, h3⟩, h4⟩ := h
  refine ⟨?_, h3, h4⟩
  split at h2
  · rename_i m hm
    rw [hm, of_decide_eq_true h2]
  · cases h2
def wdOk (a b : Int) : Bool := (match wdOf (dayText (a, b)) with | .ok d => decide (d.1 = a) && decide (d.2 = b) | .error _ => false) && decide ((dayText (a, b)).length ≤ 5) && (dayText (a, b)).all (fun c => c != 44) && decide (0 < (dayText (a, b)).length)
theorem wd_all : ((List.range 7).all fun a => (List.range 107).all fun b => wdOk (a : Int) ((b : Int) - 53)) = true := by kernel_rfl
theorem wd_text {d : Int × Int} (h0 : 0 ≤ d.1) (h1 : d.1 ≤ 6) (h2 : -53 ≤ d.2) (h3 : d.2 ≤ 53) : wdOf (dayText d) = .ok d ∧ (dayText d).length ≤ 5 ∧ (44 : UInt8) ∉ dayText d ∧ 0 < (dayText d).length := by
  obtain ⟨a, b⟩ := d
  simp only at h0 h1 h2 h3
  have h := List.all_eq_true.1 (List.all_eq_true.1 wd_all a.toNat (List.mem_range.2 (by omega))) (b + 53).toNat (List.mem_range.2 (by omega))
  rw [show ((a.toNat : Nat) : Int) = a by omega, show (((b + 53).toNat : Nat) : Int) - 53 = b by omega] at h
  unfold wdOk at h
  simp only [Bool.and_eq_true, decide_eq_true_eq] at h
  obtain ⟨⟨⟨h4, h5⟩, h6⟩, h7⟩ := h
  refine ⟨?_, h5, fun hm => ?_, h7⟩
  · split at h4
    · rename_i d hd
      simp only [Bool.and_eq_true, decide_eq_true_eq] at h4
      rw [hd]
      exact congrArg Except.ok (Prod.ext h4.1 h4.2)
    · cases h4
  · have := List.all_eq_true.1 h6 _ hm
    revert this; decide
/-- Numbers that a rule may name. -/
def Small (l : List Int) : Prop := l.length ≤ 12 ∧ ∀ n ∈ l, -1000 ≤ n ∧ n ≤ 1000
theorem intsOf_joined {l : List Int} (h0 : l ≠ []) (h : Small l) : intsOf (joined l) = .ok l := by
  unfold intsOf joined
  rw [split_join (by simpa using h0) fun s hs hm => by
    obtain ⟨n, hn, rfl⟩ := List.mem_map.1 hs
    exact (itoa_noFrac n _ hm).2 rfl]
  rw [mapAcc_map (v := fun n : Int => n) l [] fun n hn => (atoi_itoa (h.2 n hn).1 (h.2 n hn).2).1]
  simp
def SmallD (l : List (Int × Int)) : Prop := l.length ≤ 12 ∧ ∀ d ∈ l, 0 ≤ d.1 ∧ d.1 ≤ 6 ∧ -53 ≤ d.2 ∧ d.2 ≤ 53
theorem daysOf_days {l : List (Int × Int)} (h0 : l ≠ []) (h : SmallD l) : daysOf (days l) = .ok l := by
  unfold daysOf days
  rw [split_join (by simpa using h0) fun s hs hm => by
    obtain ⟨n, hn, rfl⟩ := List.mem_map.1 hs
    obtain ⟨a, b, c, d⟩ := h.2 n hn
    exact (wd_text a b c d).2.2.1 hm]
  rw [mapAcc_map (v := fun n : Int × Int => n) l [] fun n hn => by
    obtain ⟨a, b, c, d⟩ := h.2 n hn
    exact (wd_text a b c d).1]
  simp
theorem joined_small {l : List Int} (h : Small l) : (joined l).length ≤ 72 := by
  have := joinB_length 44 5 (l.map Lib.itoa) (fun s hs => by
    obtain ⟨n, hn, rfl⟩ := List.mem_map.1 hs
    exact (atoi_itoa (h.2 n hn).1 (h.2 n hn).2).2.1)
  rw [List.length_map] at this
  have := h.1
  unfold joined
  omega
theorem days_small {l : List (Int × Int)} (h : SmallD l) : (days l).length ≤ 72 := by
  have := joinB_length 44 5 (l.map dayText) (fun s hs => by
    obtain ⟨n, hn, rfl⟩ := List.mem_map.1 hs
    obtain ⟨a, b, c, d⟩ := h.2 n hn
    exact (wd_text a b c d).2.1)
  rw [List.length_map] at this
  have := h.1
  unfold days
  omega
theorem joinB_pos {c : UInt8} : ∀ {l : List (List UInt8)}, l ≠ [] → (∀ s ∈ l, 0 < s.length) → 0 < (joinB c l).length
  | [], h, _ => absurd rfl h
  | [a], _, h => h a (by simp)
  | a :: b :: r, _, h => by
    show 0 < (a ++ c :: joinB c (b :: r)).length
    rw [List.length_append]
    have := h a (by simp)
    omega
theorem joined_pos {l : List Int} (h0 : l ≠ []) (h : Small l) : 0 < (joined l).length := joinB_pos (by simpa using h0) fun s hs => by
  obtain ⟨n, hn, rfl⟩ := List.mem_map.1 hs
  exact (atoi_itoa (h.2 n hn).1 (h.2 n hn).2).2.2
theorem days_pos {l : List (Int × Int)} (h0 : l ≠ []) (h : SmallD l) : 0 < (days l).length := joinB_pos (by simpa using h0) fun s hs => by
  obtain ⟨n, hn, rfl⟩ := List.mem_map.1 hs
  obtain ⟨a, b, c, d⟩ := h.2 n hn
  exact (wd_text a b c d).2.2.2
/-- A rule that may be written: its numbers are small. -/
structure Wr (r : Ru) : Prop where
  freq : r.freq ≤ 6
  wkst : 0 ≤ r.wkst ∧ r.wkst ≤ 6
  interval : 0 ≤ r.interval ∧ r.interval ≤ 1000
  count : 0 ≤ r.count ∧ r.count ≤ 1000
  til : r.hasUntil = true → InY r.til ∧ r.til ≠ 0
  tilNo : r.hasUntil = false → r.til = 0
  start : r.hasStart = false ∧ r.start = 0
  setPos : Small r.setPos
  month : Small r.month
  monthDay : Small r.monthDay
  yearDay : Small r.yearDay
  weekNo : Small r.weekNo
  day : SmallD r.day
  hour : Small r.hour
  minute : Small r.minute
  second : Small r.second
  easter : Small r.easter
theorem small_of {l : List Int} {low high : Int} {zero : Bool} (h : within l 12 low high zero = true) (h0 : -1000 ≤ low) (h1 : high ≤ 1000) : Small l := by
  obtain ⟨a, b, _⟩ := within_spec h
  exact ⟨by omega, fun n hn => by have := b n hn; omega⟩
theorem wr_bare {r : Ru} (hb : bareOk r = true) : CleanP r ∧ Wr (bare r) := by
  unfold bareOk at hb
  rw [Bool.and_eq_true] at hb
  have h := clean_spec hb.1
  have hm := mostOf_bound r
  refine ⟨h, h.freq, h.wkst, h.interval, h.count, fun hu => ?_, fun hu => ?_, ⟨rfl, rfl⟩, small_of h.setPos (by omega) (by omega), small_of h.month (by omega) (by omega), small_of h.monthDay (by omega) (by omega), small_of h.yearDay (by omega) (by omega), small_of h.weekNo (by omega) (by omega), ⟨h.dayLen, fun d hd => ?_⟩, small_of h.hour (by omega) (by omega), small_of h.minute (by omega) (by omega), small_of h.second (by omega) (by omega), small_of h.easter (by omega) (by omega)⟩
  · have hu' : r.hasUntil = true := hu
    have h2 := hb.2
    rw [hu'] at h2
    have h3 := h.til hu'
    have h4 := h.start
    have e : (bare r).til = r.til := by unfold bare; simp only [hu', if_true]
    rw [e]
    have h5 : before 10000 * 86400 = 315537897600 := by decide
    refine ⟨⟨by omega, by omega⟩, ?_⟩
    simpa using h2
  · have hu' : r.hasUntil = false := hu
    unfold bare
    simp only [hu', Bool.false_eq_true, if_false]
  · obtain ⟨i, hi⟩ := List.getElem?_of_mem (show d ∈ r.day from hd)
    obtain ⟨_, e1, e2, e3, e4⟩ := h.day i d hi
    exact ⟨e1, e2, by omega, by omega⟩
/-- A part by its name, put into the options. -/
def opSet (r : Ru) (o : Op) (k : List UInt8) : Op where
  freq := if k = [70, 82, 69, 81] then r.freq else o.freq
  dt := o.dt
  interval := if k = [73, 78, 84, 69, 82, 86, 65, 76] then r.interval else o.interval
  wkst := if k = [87, 75, 83, 84] then (r.wkst, 0) else o.wkst
  count := if k = [67, 79, 85, 78, 84] then r.count else o.count
  til := if k = [85, 78, 84, 73, 76] then r.til else o.til
  pos := if k = [66, 89, 83, 69, 84, 80, 79, 83] then r.setPos else o.pos
  month := if k = [66, 89, 77, 79, 78, 84, 72] then r.month else o.month
  mday := if k = [66, 89, 77, 79, 78, 84, 72, 68, 65, 89] then r.monthDay else o.mday
  yday := if k = [66, 89, 89, 69, 65, 82, 68, 65, 89] then r.yearDay else o.yday
  weekno := if k = [66, 89, 87, 69, 69, 75, 78, 79] then r.weekNo else o.weekno
  hour := if k = [66, 89, 72, 79, 85, 82] then r.hour else o.hour
  minute := if k = [66, 89, 77, 73, 78, 85, 84, 69] then r.minute else o.minute
  second := if k = [66, 89, 83, 69, 67, 79, 78, 68] then r.second else o.second
  easter := if k = [66, 89, 69, 65, 83, 84, 69, 82] then r.easter else o.easter
  day := if k = [66, 89, 68, 65, 89] then r.day else o.day
  set := if k = [70, 82, 69, 81] then true else o.set
theorem freq_text {f : Nat} (h : f ≤ 6) : freqOf (freqs.getD f []) = some (f : Int) ∧ 0 < (freqs.getD f []).length ∧ (freqs.getD f []).length ≤ 8 := by
  have : f = 0 ∨ f = 1 ∨ f = 2 ∨ f = 3 ∨ f = 4 ∨ f = 5 ∨ f = 6 := by omega
  rcases this with rfl | rfl | rfl | rfl | rfl | rfl | rfl <;> exact ⟨by kernel_rfl, by decide, by decide⟩
theorem wkst_text {w : Int} (h0 : 0 ≤ w) (h1 : w ≤ 6) : wdOf (wdays.getD w.toNat []) = .ok (w, 0) ∧ (wdays.getD w.toNat []).length = 2 := by
  have : w = 0 ∨ w = 1 ∨ w = 2 ∨ w = 3 ∨ w = 4 ∨ w = 5 ∨ w = 6 := by omega
  rcases this with rfl | rfl | rfl | rfl | rfl | rfl | rfl <;> exact ⟨by kernel_rfl, by decide⟩
theorem opStep_of {o : Op} {p : KV} (h : kvOk p) (hv : 0 < p.2.length) : opStep o (kvT p) = opPut o p.1 p.2 := by
  unfold opStep
  rw [split_kv h]
  simp only
  rw [if_neg (by omega)]
theorem kOne_mem {n : List UInt8} {l : List Int} {p : KV} (h : p ∈ kOne n l) : p = (n, joined l) ∧ l ≠ [] := by
  unfold kOne at h
  split at h
  · cases h
  · rename_i h0
    rw [List.mem_singleton] at h
    exact ⟨h, fun e => h0 (by rw [e]; rfl)⟩
theorem opStep_kv {r : Ru} (h : Wr r) {p : KV} (hp : p ∈ kvs r) (o : Op) : opStep o (kvT p) = .ok (opSet r o p.1) := by
  have hk := kvs_ok r p hp
  unfold kvs at hp
  simp only [List.mem_append] at hp
  rcases hp with (((((hp | hp) | hp) | hp) | hp) | hp) | hp
  · rw [List.mem_singleton] at hp
    subst hp
    obtain ⟨h1, h2, h3⟩ := freq_text h.freq
    rw [opStep_of hk h2]
    simp only
    generalize freqs.getD r.freq [] = v at h1 ⊢
    simp [opPut, optFreq, h1, optE, opSet, Except.map]
  · split at hp
    · rename_i hu
      rw [List.mem_singleton] at hp
      subst hp
      have ht := h.til hu
      rw [opStep_of hk (by show 0 < (dateText r.til).length; rw [dateText_eq, List.length_append, dateB_len ht.1.1 ht.1.2]; simp)]
      simp [opPut, loc_full ht.1.1 ht.1.2, optE, opSet, Except.map]
    · cases hp
  · split at hp
    · rw [List.mem_singleton] at hp
      subst hp
      have hc := atoi_itoa (n := r.count) (by have := h.count; omega) h.count.2
      rw [opStep_of hk hc.2.2]
      simp [opPut, hc.1, opSet, Except.map]
    · cases hp
  · split at hp
    · rw [List.mem_singleton] at hp
      subst hp
      have hc := atoi_itoa (n := r.interval) (by have := h.interval; omega) h.interval.2
      rw [opStep_of hk hc.2.2]
      simp [opPut, hc.1, opSet, Except.map]
    · cases hp
  · rcases hp with (((((((hp | hp) | hp) | hp) | hp) | hp) | hp) | hp) | hp
    · obtain ⟨rfl, h0⟩ := kOne_mem hp
      rw [opStep_of hk (joined_pos h0 h.second)]
      simp [opPut, intsOf_joined h0 h.second, opSet, Except.map]
    · obtain ⟨rfl, h0⟩ := kOne_mem hp
      rw [opStep_of hk (joined_pos h0 h.minute)]
      simp [opPut, intsOf_joined h0 h.minute, opSet, Except.map]
    · obtain ⟨rfl, h0⟩ := kOne_mem hp
      rw [opStep_of hk (joined_pos h0 h.hour)]
      simp [opPut, intsOf_joined h0 h.hour, opSet, Except.map]
    · obtain ⟨rfl, h0⟩ := kOne_mem hp
      rw [opStep_of hk (joined_pos h0 h.monthDay)]
      simp [opPut, intsOf_joined h0 h.monthDay, opSet, Except.map]
    · obtain ⟨rfl, h0⟩ := kOne_mem hp
      rw [opStep_of hk (joined_pos h0 h.yearDay)]
      simp [opPut, intsOf_joined h0 h.yearDay, opSet, Except.map]
    · obtain ⟨rfl, h0⟩ := kOne_mem hp
      rw [opStep_of hk (joined_pos h0 h.weekNo)]
      simp [opPut, intsOf_joined h0 h.weekNo, opSet, Except.map]
    · obtain ⟨rfl, h0⟩ := kOne_mem hp
      rw [opStep_of hk (joined_pos h0 h.month)]
      simp [opPut, intsOf_joined h0 h.month, opSet, Except.map]
    · obtain ⟨rfl, h0⟩ := kOne_mem hp
      rw [opStep_of hk (joined_pos h0 h.setPos)]
      simp [opPut, intsOf_joined h0 h.setPos, opSet, Except.map]
    · obtain ⟨rfl, h0⟩ := kOne_mem hp
      rw [opStep_of hk (joined_pos h0 h.easter)]
      simp [opPut, intsOf_joined h0 h.easter, opSet, Except.map]
  · split at hp
    · cases hp
    · rename_i h0
      rw [List.mem_singleton] at hp
      subst hp
      have h0' : r.day ≠ [] := fun e => h0 (by rw [e]; rfl)
      rw [opStep_of hk (days_pos h0' h.day)]
      simp [opPut, daysOf_days h0' h.day, opSet, Except.map]
  · split at hp
    · cases hp
    · rw [List.mem_singleton] at hp
      subst hp
      obtain ⟨h1, h2⟩ := wkst_text h.wkst.1 h.wkst.2
      rw [opStep_of hk (by show 0 < (wdays.getD r.wkst.toNat []).length; omega)]
      simp only [opPut, h1, opSet, Except.map]
      simp
/-- Parts by their names, put into the options. -/
def opMix (r : Ru) (S : List (List UInt8)) (o : Op) : Op where
  freq := if [70, 82, 69, 81] ∈ S then r.freq else o.freq
  dt := o.dt
  interval := if [73, 78, 84, 69, 82, 86, 65, 76] ∈ S then r.interval else o.interval
  wkst := if [87, 75, 83, 84] ∈ S then (r.wkst, 0) else o.wkst
  count := if [67, 79, 85, 78, 84] ∈ S then r.count else o.count
  til := if [85, 78, 84, 73, 76] ∈ S then r.til else o.til
  pos := if [66, 89, 83, 69, 84, 80, 79, 83] ∈ S then r.setPos else o.pos
  month := if [66, 89, 77, 79, 78, 84, 72] ∈ S then r.month else o.month
  mday := if [66, 89, 77, 79, 78, 84, 72, 68, 65, 89] ∈ S then r.monthDay else o.mday
  yday := if [66, 89, 89, 69, 65, 82, 68, 65, 89] ∈ S then r.yearDay else o.yday
  weekno := if [66, 89, 87, 69, 69, 75, 78, 79] ∈ S then r.weekNo else o.weekno
  hour := if [66, 89, 72, 79, 85, 82] ∈ S then r.hour else o.hour
  minute := if [66, 89, 77, 73, 78, 85, 84, 69] ∈ S then r.minute else o.minute
  second := if [66, 89, 83, 69, 67, 79, 78, 68] ∈ S then r.second else o.second
  easter := if [66, 89, 69, 65, 83, 84, 69, 82] ∈ S then r.easter else o.easter
  day := if [66, 89, 68, 65, 89] ∈ S then r.day else o.day
  set := if [70, 82, 69, 81] ∈ S then true else o.set
theorem mix_if {α : Type} {K k : List UInt8} {S : List (List UInt8)} (a b : α) : (if K ∈ S then a else if k = K then a else b) = if K ∈ k :: S then a else b := by
  by_cases h : K ∈ S
  · rw [if_pos h, if_pos (List.mem_cons_of_mem _ h)]
  · rw [if_neg h]
    by_cases hk : k = K
    · rw [if_pos hk, if_pos (by rw [hk]; simp)]
    · rw [if_neg hk, if_neg (by intro hm; rcases List.mem_cons.1 hm with e | e; exact hk e.symm; exact h e)]
theorem opMix_set (r : Ru) (k : List UInt8) (S : List (List UInt8)) (o : Op) : opMix r S (opSet r o k) = opMix r (k :: S) o := by
  unfold opMix opSet
  simp only [mix_if]
theorem foldE_kvs {r : Ru} (h : Wr r) : ∀ {L : List KV} (o : Op), (∀ p ∈ L, p ∈ kvs r) → foldE opStep o (L.map kvT) = .ok (opMix r (L.map (·.1)) o)
  | [], o, _ => by
    unfold opMix
    simp [foldE]
  | p :: L, o, hL => by
    rw [List.map_cons, foldE, opStep_kv h (hL p (by simp)), List.map_cons, ← opMix_set]
    exact foldE_kvs h _ fun q hq => hL q (List.mem_cons_of_mem _ hq)
/-- Parts of a rule, in any order. -/
structure Sub (r : Ru) (L : List KV) : Prop where
  mem : ∀ p ∈ L, p ∈ kvs r
  freq : [70, 82, 69, 81] ∈ L.map (·.1)
theorem kv_no59 {p : KV} (ho : kvOk p) : (59 : UInt8) ∉ kvT p := fun hm => by
  unfold kvT at hm
  rcases List.mem_append.1 hm with hm | hm
  · have := ho.1 _ hm; revert this; decide
  · rcases List.mem_cons.1 hm with e | hm
    · revert e; decide
    · have := ho.2.1 _ hm; revert this; decide
theorem sub_split {r : Ru} {L : List KV} (hL : Sub r L) : split 59 (joinB 59 (L.map kvT)) = L.map kvT :=
  split_join (by intro e; have := hL.freq; rw [List.map_eq_nil_iff.1 e] at this; cases this) fun s hs => by
    obtain ⟨p, hp, rfl⟩ := List.mem_map.1 hs
    exact kv_no59 (kvs_ok r p (hL.mem p hp))
theorem opParse_sub {r : Ru} (h : Wr r) {L : List KV} (hL : Sub r L) : opParse (joinB 59 (L.map kvT)) = .ok (opMix r (L.map (·.1)) op0) := by
  unfold opParse
  rw [sub_split hL, foldE_kvs h _ hL.mem]
  unfold opEnd
  have : (opMix r (L.map (·.1)) op0).set = true := by
    unfold opMix
    simp only
    rw [if_pos hL.freq]
  simp only
  rw [if_pos this]
end Go.Proofs.YtlfpjdcogkcjlaaGreatDoor.F
/- What the specification reads out of a rule's parts. -/
namespace Go.Proofs.YtlfpjdcogkcjlaaGreatDoor.F
open Go.RowKit Go.Proofs.YtlfpjdcogkcjlaaGreatDoor.AL Go.Proofs.YtlfpjdcogkcjlaaGreatDoor.B
set_option linter.unusedVariables false
set_option linter.unusedSimpArgs false
set_option maxRecDepth 20000
attribute [local irreducible] aops acode bindK bindV bindH callX callK condK guardK Kseq Kblk Knorm Kfun Kloop Kjoin outK AWp appendA Ktail
attribute [local go_sem] acode_skip acode_seq acode_region acode_cond acode_block acode_exit acode_ret acode_loop Kseq_normal Kseq_exit Kseq_ret Kblk_normal Kblk_ret Kblk_eq Kblk_ne Knorm_eq Kloop_normal Kloop_exit Kloop_ret Kjoin_normal Kjoin_exit Kjoin_ret condK_true condK_false bindK_put bindV_put bindK_no bindV_no bindH_no aops_nil gops wantK_some wantV_bool wantV_undef guardK_true guardK_false guardK_none aops_move aops_assign aops_pick aops_nilCheck aops_binOp aops_unOp aops_convert aops_fieldAddr aops_indexAddr aops_slice aops_index aops_extract aops_makeInterface aops_makeFunc aops_build aops_load aops_lookup aops_alloc aops_box aops_buildSlice aops_makeSlice aops_makeMap aops_store aops_insert aops_mapUpdate aops_len aops_append aops_call opA_tmp opA_const opA_global opA_func get_mk look_nil look_eq look_ne len_mk List.map_cons List.map_nil Option.map_some Option.map_none bin_add bin_sub bin_mul bin_quo bin_rem bin_eql bin_neq bin_lss bin_leq bin_gtr bin_geq bin_cat bin_seql bin_sneq bin_neq_ifc bin_eql_ifc bin_neq_nn bin_eql_nn bin_neq_ptr bin_eql_ptr bin_neq_pn isIfc_true isPtr_true bin_eql2 bin_neq2 aops_max max_int un_not un_neg lenA_K lenK_str lenK_nil lenK_sl lenK_array pick_bool pick_val bindV_ite bindK_ite bindH_ite slotV_sl slotK_some slotV_ptr slotR_some sliceV_sl cutK_some sliceV_str cutS_some bound_none bound_some indexA_str atS_some mkS fieldV_ptr loadV_ptr cellsK_ro cellsK_own loadK_one loadK_many storeA_ptr storeK_own allocA_some heap_len heap_get0 heap_get heap_set0 heap_set Kfun_ret Kfun_normal resA_nil resA_tmp resA_cell outK_some packA_one packA_nil packA_two List.length_cons List.length_nil List.getElem?_cons_zero List.getElem?_cons_succ List.set_cons_zero List.set_cons_succ List.cons_append List.nil_append List.append_assoc Nat.zero_add Nat.add_zero List.all_cons List.all_nil Value.oneCell' Bool.and_true Bool.and_self if_true if_false Bool.false_eq_true partsA buildV buildA fillA Option.bind_some putCells List.drop_succ_cons List.drop_zero List.take_succ_cons List.take_zero List.take_nil List.drop_nil and_self and_true true_and Option.some.injEq ne_eq not_false_eq_true Option.map_map List.getElem?_toArray beq_self_eq_true Bool.true_beq Bool.false_beq Bool.not_true Bool.not_false decide_true decide_false beq_true Nat.mul_one Nat.one_mul Nat.zero_mul bsA buildSliceA zerosN List.append_nil Int.toNat_natCast Int.toNat_zero boxA one_val one_ptr one_sl one_mp one_ifc one_fn avCells_agg avCells_val valCells_true valCells_agg avCells_ptr avCells_sl avCells_mp avCells_ifc avCells_fn app_cons app_nil lookupA insertA ifaceV extractA kd2 ars127 fp127 ars60 fp60 ars31 fp31 eq2_99 eq2_84 eq2_47 fp52 sz2 kd3 sz3 kd4 sz4 kd5 sz5 kd9 sz9 kd22 sz22 el22 kd23 sz23 el23 kd25 sz25 zc25 fp25 fo25_0 fo25_1 fo25_2 fo25_3 fo25_4 fo25_5 fo25_6 fo25_7 fo25_8 fo25_9 fo25_10 fo25_11 fo25_12 fo25_13 fo25_14 fo25_15 fo25_16 fo25_17 kd31 sz31 zc31 ar31 kd32 sz32 el32 kd34 sz34 zc34 fp34 fo34_0 fo34_1 fo34_2 fo34_3 fo34_4 fo34_5 fo34_6 fo34_7 fo34_8 fo34_9 fo34_10 fo34_11 fo34_12 fo34_13 fo34_14 fo34_15 fo34_16 fo34_17 el38 el42 kd47 sz47 zc47 fp47 fo47_0 fo47_1 kd52 sz52 zc52 fo52_0 el55 zc60 kd72 sz72 zc72 fp72 fo72_0 fo72_1 el73 kd80 sz80 kd84 sz84 zc84 fp84 fo84_0 fo84_1 kd88 sz88 zc88 fp88 fo88_0 fo88_1 fo88_2 fo88_3 kd91 sz91 zc91 fp91 fo91_0 fo91_1 fo91_2 el94 kd99 sz99 zc99 fp99 fo99_0 fo99_1 kd100 sz100 el100 kd102 sz102 zc102 fp102 fo102_0 fo102_1 fo102_2 fo102_3 fo102_4 fo102_5 fo102_6 fo102_7 fo102_8 fo102_9 fo102_10 fo102_11 fo102_12 fo102_13 fo102_14 fo102_15 kd109 sz109 zc109 fp109 isStrMap124 zv80 zc127 kd153 sz153 zc153 ar153 isIface157 kd159 sz159 zc159 fp159 isStrMap177 zv84 Tryz.underlying3 Tryz.underlying4 Tryz.underlying5 Tryz.underlying9 Tryz.underlying21 Tryz.underlying22 Tryz.underlying23 Tryz.underlying32 Tryz.underlying38 Tryz.underlying42 Tryz.underlying47 Tryz.underlying55 Tryz.underlying67 Tryz.underlying73 Tryz.underlying80 Tryz.underlying84 Tryz.underlying94 Tryz.underlying100 Tryz.underlying2 Tryz.underlying127 Tryz.underlying60 Tryz.underlying31 kd55 ai60 ai127 indexA_agg atK_some isStrMap76 zv4 Ktail_eq opsOf_nil opsOf_cons consO_some
attribute [local go_sem_proc] Nat.reduceLT Nat.reduceBEq Nat.reduceAdd Int.reduceBEq Nat.reduceLeDiff reduceIte Nat.reduceEqDiff Int.reduceEq Int.reduceLE Int.reduceLT Int.reduceNe Nat.reduceMul Nat.reduceSub Int.reduceToNat
set_option maxRecDepth 200000
def snumOk (n : Int) : Bool := match numOf (Lib.itoa n) with | some m => decide (m = n) | none => false
theorem snum_all : ((List.range 2001).all fun k => snumOk ((k : Int) - 1000)) = true := by kernel_rfl
theorem num_itoa {n : Int} (h0 : -1000 ≤ n) (h1 : n ≤ 1000) : numOf (Lib.itoa n) = some n := by
  have h := List.all_eq_true.1 snum_all (n + 1000).toNat (List.mem_range.2 (by omega))
  rw [show (((n + 1000).toNat : Nat) : Int) - 1000 = n by omega] at h
  unfold snumOk at h
  split at h
  · rename_i m hm
    rw [hm, of_decide_eq_true h]
  · cases h
def swdOk (a b : Int) : Bool := match swd (dayText (a, b)) with | some d => decide (d.1 = a) && decide (d.2 = b) | none => false
theorem swd_all : ((List.range 7).all fun a => (List.range 107).all fun b => swdOk (a : Int) ((b : Int) - 53)) = true := by kernel_rfl
theorem swd_text {d : Int × Int} (h0 : 0 ≤ d.1) (h1 : d.1 ≤ 6) (h2 : -53 ≤ d.2) (h3 : d.2 ≤ 53) : swd (dayText d) = some d := by
  obtain ⟨a, b⟩ := d
  simp only at h0 h1 h2 h3
  have h := List.all_eq_true.1 (List.all_eq_true.1 swd_all a.toNat (List.mem_range.2 (by omega))) (b + 53).toNat (List.mem_range.2 (by omega))
  rw [show ((a.toNat : Nat) : Int) = a by omega, show (((b + 53).toNat : Nat) : Int) - 53 = b by omega] at h
  unfold swdOk at h
  split at h
  · rename_i d hd
    simp only [Bool.and_eq_true, decide_eq_true_eq] at h
    rw [hd]
    exact congrArg some (Prod.ext h.1 h.2)
  · cases h
theorem nums_joined {l : List Int} (h0 : l ≠ []) (h : Small l) : (split 44 (joined l)).map numOf = l.map some := by
  unfold joined
  rw [split_join (by simpa using h0) fun s hs hm => by
    obtain ⟨n, hn, rfl⟩ := List.mem_map.1 hs
    exact (itoa_noFrac n _ hm).2 rfl]
  rw [List.map_map]
  exact List.map_congr_left fun n hn => num_itoa (h.2 n hn).1 (h.2 n hn).2
theorem wds_days {l : List (Int × Int)} (h0 : l ≠ []) (h : SmallD l) : (split 44 (days l)).map swd = l.map some := by
  unfold days
  rw [split_join (by simpa using h0) fun s hs hm => by
    obtain ⟨n, hn, rfl⟩ := List.mem_map.1 hs
    obtain ⟨a, b, c, d⟩ := h.2 n hn
    exact (wd_text a b c d).2.2.1 hm]
  rw [List.map_map]
  exact List.map_congr_left fun n hn => by
    obtain ⟨a, b, c, d⟩ := h.2 n hn
    exact swd_text a b c d
theorem ixS_freq {f : Nat} (h : f ≤ 6) : ixS freqs (freqs.getD f []) = f := by
  have : f = 0 ∨ f = 1 ∨ f = 2 ∨ f = 3 ∨ f = 4 ∨ f = 5 ∨ f = 6 := by omega
  rcases this with rfl | rfl | rfl | rfl | rfl | rfl | rfl <;> rfl
theorem ixS_wday {w : Int} (h0 : 0 ≤ w) (h1 : w ≤ 6) : ixS wdays (wdays.getD w.toNat []) = w := by
  have : w = 0 ∨ w = 1 ∨ w = 2 ∨ w = 3 ∨ w = 4 ∨ w = 5 ∨ w = 6 := by omega
  rcases this with rfl | rfl | rfl | rfl | rfl | rfl | rfl <;> rfl
/-- A part by its name, put into a rule. -/
def ruSet (r q : Ru) (k : List UInt8) : Ru where
  freq := if k = [70, 82, 69, 81] then r.freq else q.freq
  hasStart := q.hasStart
  start := q.start
  interval := if k = [73, 78, 84, 69, 82, 86, 65, 76] then r.interval else q.interval
  wkst := if k = [87, 75, 83, 84] then r.wkst else q.wkst
  count := if k = [67, 79, 85, 78, 84] then r.count else q.count
  hasUntil := if k = [85, 78, 84, 73, 76] then true else q.hasUntil
  til := if k = [85, 78, 84, 73, 76] then r.til else q.til
  setPos := if k = [66, 89, 83, 69, 84, 80, 79, 83] then r.setPos else q.setPos
  month := if k = [66, 89, 77, 79, 78, 84, 72] then r.month else q.month
  monthDay := if k = [66, 89, 77, 79, 78, 84, 72, 68, 65, 89] then r.monthDay else q.monthDay
  yearDay := if k = [66, 89, 89, 69, 65, 82, 68, 65, 89] then r.yearDay else q.yearDay
  weekNo := if k = [66, 89, 87, 69, 69, 75, 78, 79] then r.weekNo else q.weekNo
  day := if k = [66, 89, 68, 65, 89] then r.day else q.day
  hour := if k = [66, 89, 72, 79, 85, 82] then r.hour else q.hour
  minute := if k = [66, 89, 77, 73, 78, 85, 84, 69] then r.minute else q.minute
  second := if k = [66, 89, 83, 69, 67, 79, 78, 68] then r.second else q.second
  easter := if k = [66, 89, 69, 65, 83, 84, 69, 82] then r.easter else q.easter
/-- Parts by their names, put into a rule. -/
def ruMix (r : Ru) (S : List (List UInt8)) (q : Ru) : Ru where
  freq := if [70, 82, 69, 81] ∈ S then r.freq else q.freq
  hasStart := q.hasStart
  start := q.start
  interval := if [73, 78, 84, 69, 82, 86, 65, 76] ∈ S then r.interval else q.interval
  wkst := if [87, 75, 83, 84] ∈ S then r.wkst else q.wkst
  count := if [67, 79, 85, 78, 84] ∈ S then r.count else q.count
  hasUntil := if [85, 78, 84, 73, 76] ∈ S then true else q.hasUntil
  til := if [85, 78, 84, 73, 76] ∈ S then r.til else q.til
  setPos := if [66, 89, 83, 69, 84, 80, 79, 83] ∈ S then r.setPos else q.setPos
  month := if [66, 89, 77, 79, 78, 84, 72] ∈ S then r.month else q.month
  monthDay := if [66, 89, 77, 79, 78, 84, 72, 68, 65, 89] ∈ S then r.monthDay else q.monthDay
  yearDay := if [66, 89, 89, 69, 65, 82, 68, 65, 89] ∈ S then r.yearDay else q.yearDay
  weekNo := if [66, 89, 87, 69, 69, 75, 78, 79] ∈ S then r.weekNo else q.weekNo
  day := if [66, 89, 68, 65, 89] ∈ S then r.day else q.day
  hour := if [66, 89, 72, 79, 85, 82] ∈ S then r.hour else q.hour
  minute := if [66, 89, 77, 73, 78, 85, 84, 69] ∈ S then r.minute else q.minute
  second := if [66, 89, 83, 69, 67, 79, 78, 68] ∈ S then r.second else q.second
  easter := if [66, 89, 69, 65, 83, 84, 69, 82] ∈ S then r.easter else q.easter
theorem ruMix_set (r : Ru) (k : List UInt8) (S : List (List UInt8)) (q : Ru) : ruMix r S (ruSet r q k) = ruMix r (k :: S) q := by
  unfold ruMix ruSet
  simp only [mix_if]
theorem sput_kv {r : Ru} (h : Wr r) {p : KV} (hp : p ∈ kvs r) (q : Ru) : SPut q p (ruSet r q p.1) := by
  unfold kvs at hp
  simp only [List.mem_append] at hp
  unfold SPut
  rcases hp with (((((hp | hp) | hp) | hp) | hp) | hp) | hp
  · rw [List.mem_singleton] at hp
    subst hp
    exact .inl ⟨rfl, r.freq, ixS_freq h.freq, h.freq, by simp [ruSet]⟩
  · split at hp
    · rename_i hu
      rw [List.mem_singleton] at hp
      subst hp
      exact .inr (.inl ⟨rfl, r.til, (h.til hu).1, rfl, by simp [ruSet]⟩)
    · cases hp
  · split at hp
    · rename_i h0
      rw [List.mem_singleton] at hp
      subst hp
      exact .inr (.inr (.inl ⟨rfl, r.count, num_itoa (by have := h.count; omega) h.count.2, h0, by simp [ruSet]⟩))
    · cases hp
  · split at hp
    · rename_i h0
      rw [List.mem_singleton] at hp
      subst hp
      exact .inr (.inr (.inr (.inl ⟨rfl, r.interval, num_itoa (by have := h.interval; omega) h.interval.2, by omega, by simp [ruSet]⟩)))
    · cases hp
  · rcases hp with (((((((hp | hp) | hp) | hp) | hp) | hp) | hp) | hp) | hp
    · obtain ⟨rfl, h0⟩ := kOne_mem hp
      exact .inr (.inr (.inr (.inr (.inr (.inr (.inl ⟨rfl, r.second, nums_joined h0 h.second, by simp [ruSet]⟩))))))
    · obtain ⟨rfl, h0⟩ := kOne_mem hp
      exact .inr (.inr (.inr (.inr (.inr (.inr (.inr (.inl ⟨rfl, r.minute, nums_joined h0 h.minute, by simp [ruSet]⟩)))))))
    · obtain ⟨rfl, h0⟩ := kOne_mem hp
      exact .inr (.inr (.inr (.inr (.inr (.inr (.inr (.inr (.inl ⟨rfl, r.hour, nums_joined h0 h.hour, by simp [ruSet]⟩))))))))
    · obtain ⟨rfl, h0⟩ := kOne_mem hp
      exact .inr (.inr (.inr (.inr (.inr (.inr (.inr (.inr (.inr (.inl ⟨rfl, r.monthDay, nums_joined h0 h.monthDay, by simp [ruSet]⟩)))))))))
    · obtain ⟨rfl, h0⟩ := kOne_mem hp
      exact .inr (.inr (.inr (.inr (.inr (.inr (.inr (.inr (.inr (.inr (.inl ⟨rfl, r.yearDay, nums_joined h0 h.yearDay, by simp [ruSet]⟩))))))))))
    · obtain ⟨rfl, h0⟩ := kOne_mem hp
      exact .inr (.inr (.inr (.inr (.inr (.inr (.inr (.inr (.inr (.inr (.inr (.inl ⟨rfl, r.weekNo, nums_joined h0 h.weekNo, by simp [ruSet]⟩)))))))))))
    · obtain ⟨rfl, h0⟩ := kOne_mem hp
      exact .inr (.inr (.inr (.inr (.inr (.inr (.inr (.inr (.inr (.inr (.inr (.inr (.inl ⟨rfl, r.month, nums_joined h0 h.month, by simp [ruSet]⟩))))))))))))
    · obtain ⟨rfl, h0⟩ := kOne_mem hp
      exact .inr (.inr (.inr (.inr (.inr (.inr (.inr (.inr (.inr (.inr (.inr (.inr (.inr (.inl ⟨rfl, r.setPos, nums_joined h0 h.setPos, by simp [ruSet]⟩)))))))))))))
    · obtain ⟨rfl, h0⟩ := kOne_mem hp
      exact .inr (.inr (.inr (.inr (.inr (.inr (.inr (.inr (.inr (.inr (.inr (.inr (.inr (.inr ⟨rfl, r.easter, nums_joined h0 h.easter, by simp [ruSet]⟩)))))))))))))
  · split at hp
    · cases hp
    · rename_i h0
      rw [List.mem_singleton] at hp
      subst hp
      exact .inr (.inr (.inr (.inr (.inr (.inl ⟨rfl, r.day, wds_days (fun e => h0 (by rw [e]; rfl)) h.day, by simp [ruSet]⟩)))))
  · split at hp
    · cases hp
    · rw [List.mem_singleton] at hp
      subst hp
      exact .inr (.inr (.inr (.inr (.inl ⟨rfl, r.wkst, ixS_wday h.wkst.1 h.wkst.2, h.wkst.1, by simp [ruSet]⟩))))
theorem sfold_kvs {r : Ru} (h : Wr r) : ∀ {L : List KV} (q : Ru), (∀ p ∈ L, p ∈ kvs r) → SFold q L (ruMix r (L.map (·.1)) q)
  | [], q, _ => by
    show ruMix r [] q = q
    unfold ruMix
    simp
  | p :: L, q, hL => by
    refine ⟨ruSet r q p.1, sput_kv h (hL p (by simp)) q, ?_⟩
    rw [List.map_cons, ← ruMix_set]
    exact sfold_kvs h _ fun p' hp' => hL p' (List.mem_cons_of_mem _ hp')
/-- How long a rule's text may be. -/
theorem kv_small {r : Ru} (h : Wr r) {p : KV} (hp : p ∈ kvs r) : (kvT p).length ≤ 83 := by
  have hk := kvs_ok r p hp
  have e1 : (kvT p).length = p.1.length + (p.2.length + 1) := by unfold kvT; rw [List.length_append, List.length_cons]
  have hv : p.2.length ≤ 72 := by
    unfold kvs at hp
    simp only [List.mem_append] at hp
    rcases hp with (((((hp | hp) | hp) | hp) | hp) | hp) | hp
    · rw [List.mem_singleton] at hp
      subst hp
      have := (freq_text h.freq).2.2
      exact Nat.le_trans this (by omega)
    · split at hp
      · rename_i hu
        rw [List.mem_singleton] at hp
        subst hp
        have ht := h.til hu
        show (dateText r.til).length ≤ 72
        rw [dateText_eq, List.length_append, dateB_len ht.1.1 ht.1.2]
        simp
      · cases hp
    · split at hp
      · rw [List.mem_singleton] at hp
        subst hp
        have := (atoi_itoa (n := r.count) (by have := h.count; omega) h.count.2).2.1
        exact Nat.le_trans this (by omega)
      · cases hp
    · split at hp
      · rw [List.mem_singleton] at hp
        subst hp
        have := (atoi_itoa (n := r.interval) (by have := h.interval; omega) h.interval.2).2.1
        exact Nat.le_trans this (by omega)
      · cases hp
    · rcases hp with (((((((hp | hp) | hp) | hp) | hp) | hp) | hp) | hp) | hp
      · obtain ⟨rfl, h0⟩ := kOne_mem hp; exact joined_small h.second
      · obtain ⟨rfl, h0⟩ := kOne_mem hp; exact joined_small h.minute
      · obtain ⟨rfl, h0⟩ := kOne_mem hp; exact joined_small h.hour
      · obtain ⟨rfl, h0⟩ := kOne_mem hp; exact joined_small h.monthDay
      · obtain ⟨rfl, h0⟩ := kOne_mem hp; exact joined_small h.yearDay
      · obtain ⟨rfl, h0⟩ := kOne_mem hp; exact joined_small h.weekNo
      · obtain ⟨rfl, h0⟩ := kOne_mem hp; exact joined_small h.month
      · obtain ⟨rfl, h0⟩ := kOne_mem hp; exact joined_small h.setPos
      · obtain ⟨rfl, h0⟩ := kOne_mem hp; exact joined_small h.easter
    · split at hp
      · cases hp
      · rw [List.mem_singleton] at hp
        subst hp
        exact days_small h.day
    · split at hp
      · cases hp
      · rw [List.mem_singleton] at hp
        subst hp
        have := (wkst_text h.wkst.1 h.wkst.2).2
        show (wdays.getD r.wkst.toNat []).length ≤ 72
        omega
  have := hk.2.2.1
  omega

theorem pad_A {w0 : World} (hG : Glob w0) (n d : Int) (h0 : 0 ≤ n) (h1 : n ≤ 1000000) (hd0 : 0 ≤ d) (hd : d ≤ 100) (H : Heap) : ACalls Tryz.prog (CB w0) 127 [vI n, vI d] H fun r H' => r = vS (padded n d) ∧ H' = H := by
  refine A_fun (N := 22) (rs := [.tmp 4]) Tryz.func127 rfl rfl rfl (by kernel_rfl) (by kernel_rfl) (Nat.le_of_ble_eq_true rfl) ?_
  rintro e he ⟨g0, g1, -⟩
  have c0 : decide (n < 0) = false := decide_eq_false (by omega)
  simp only [go_sem, he, g0, g1, c0]
  refine callX_of (itoa_A hG n (by omega) (by omega) H) (List.prefix_refl _) ?_
  have hli := Lib.itoa_length_le n (by omega) (by omega)
  simp only [go_sem, he, g0, g1, setD_some]
  refine A_while d.toNat (fun k e h => h = H ∧ len e = 22 ∧ AL.get e 1 = vI d ∧ AL.get e 5 = vS [] ∧ ∃ l, AL.get e 6 = vS l ∧ padTo d.toNat l k = padded n d ∧ d.toNat ≤ l.length + k ∧ l.length ≤ 200) (by kernel_rfl) ?_ ?_
  · simp only [go_sem, he, g0, g1]
    exact ⟨_, rfl, rfl, by omega, by omega⟩
  · rintro k e h ⟨rfl, he, g1, g5, l, g6, hk, hl, hll⟩
    simp only [go_sem, he, g1, g5, g6]
    refine condK_of (fun hc => ?_) fun hc => ?_
    · have hc := of_decide_eq_true hc
      simp only [go_sem, he, g1, g5, g6]
      refine ⟨by omega, ?_⟩
      obtain ⟨j, rfl⟩ : ∃ j, k = j + 1 := ⟨k - 1, by omega⟩
      rw [padTo, if_pos (by omega)] at hk
      exact ⟨j, by omega, _, rfl, hk, by simp only [List.length_cons]; omega, by simp only [List.length_cons]; omega⟩
    · have hc := of_decide_eq_false hc
      simp only [go_sem, he, g1, g5, g6]
      rw [padTo_done _ _ (by omega)] at hk
      exact ⟨by omega, by rw [hk]⟩
/-- The year by its days, as the package reckons it. -/
theorem year_unique {n y : Int} (h0 : 0 ≤ n) (hy : 1 ≤ y) (h1 : before y ≤ n) (h2 : n < before (y + 1)) : yearOf n = y := by
  have hk := yearOf_ok h0
  have hk2 := yearOf_lt h0
  rcases Int.lt_trichotomy (yearOf n) y with h | h | h
  · exfalso
    have : before (yearOf n + 1) ≤ before y := by unfold before; omega
    omega
  · exact h
  · exfalso
    have : before (y + 1) ≤ before (yearOf n) := by unfold before; omega
    omega
def cyC (r : Int) : Int := if r / 36524 = 4 then 3 else r / 36524
def cyO (r : Int) : Int := if r / 365 = 4 then 3 else r / 365
theorem split_arith {n q r c f o : Int} (hn : 0 ≤ n) (hq : q = n / 146097) (hr : r = n - q * 146097) (hc : c = cyC r) (hf : f = (r - c * 36524) / 1461) (ho : o = cyO (r - c * 36524 - f * 1461)) :
    yearOf n = 400 * q + 100 * c + 4 * f + o + 1 ∧ n - before (yearOf n) = r - c * 36524 - f * 1461 - o * 365 ∧ 0 ≤ c ∧ c ≤ 3 ∧ 0 ≤ f ∧ f ≤ 24 ∧ 0 ≤ o ∧ o ≤ 3 ∧ 0 ≤ r ∧ r < 146097 := by
  have hr0 : 0 ≤ r ∧ r < 146097 := by omega
  have hc0 : 0 ≤ c ∧ c ≤ 3 ∧ c * 36524 ≤ r ∧ (r < (c + 1) * 36524 ∨ (c = 3 ∧ r < 146097)) := by
    unfold cyC at hc
    split at hc <;> omega
  have hr1 : 0 ≤ r - c * 36524 ∧ r - c * 36524 ≤ 36524 := by omega
  have hf0 : 0 ≤ f ∧ f ≤ 24 ∧ f * 1461 ≤ r - c * 36524 ∧ r - c * 36524 < (f + 1) * 1461 := by omega
  have ho0 : 0 ≤ o ∧ o ≤ 3 ∧ o * 365 ≤ r - c * 36524 - f * 1461 ∧ (r - c * 36524 - f * 1461 < (o + 1) * 365 ∨ (o = 3 ∧ r - c * 36524 - f * 1461 ≤ 1460)) := by
    unfold cyO at ho
    split at ho <;> omega
  have hb : before (400 * q + 100 * c + 4 * f + o + 1) = 146097 * q + 36524 * c + 1461 * f + 365 * o := by
    unfold before
    have e1 : (400 * q + 100 * c + 4 * f + o + 1 - 1) / 4 = 100 * q + 25 * c + f := by omega
    have e2 : (400 * q + 100 * c + 4 * f + o + 1 - 1) / 100 = 4 * q + c := by omega
    have e3 : (400 * q + 100 * c + 4 * f + o + 1 - 1) / 400 = q := by omega
    rw [e1, e2, e3]
    omega
  have hb2 : n < before (400 * q + 100 * c + 4 * f + o + 1 + 1) := by
    rw [before_next, hb]
    by_cases hl : r - c * 36524 - f * 1461 < (o + 1) * 365
    · split <;> omega
    · have ho3 : o = 3 := by omega
      have hlp : leap (400 * q + 100 * c + 4 * f + o + 1) = true := by
        unfold leap
        rw [Bool.and_eq_true, Bool.or_eq_true, decide_eq_true_iff, decide_eq_true_iff, decide_eq_true_iff]
        refine ⟨by omega, ?_⟩
        by_cases hf24 : f = 24
        · right; omega
        · left; omega
      rw [hlp]
      simp only [if_true]
      omega
  have hyr := year_unique hn (by omega) (by rw [hb]; omega) hb2
  refine ⟨hyr, by rw [hyr, hb]; omega, hc0.1, hc0.2.1, hf0.1, hf0.2.1, ho0.1, ho0.2.1, hr0.1, hr0.2⟩
theorem zsplit_A {w0 : World} (t : Int) (ht : InY t) (H : Heap) : ACalls Tryz.prog (CB w0) 150 [.agg [vI t, vI 0]] H fun r H' => r = .tup [vI (yearOf (t / 86400)), vI (t / 86400 - before (yearOf (t / 86400))), vI (t % 86400)] ∧ H' = H := by
  refine ACalls.flat rfl ?_
  refine A_fun (N := 59) (rs := [.tmp 2, .tmp 3, .tmp 4]) Tryz.func150 rfl rfl rfl (by kernel_rfl) (by kernel_rfl) (Nat.le_of_ble_eq_true rfl) ?_
  rintro e he ⟨g0, -⟩
  have hb := ht.2
  have hb2 : before 10000 * 86400 = 315537897600 := by decide
  have h0 := ht.1
  obtain ⟨n, hn⟩ : ∃ n, n = t / 86400 := ⟨_, rfl⟩
  obtain ⟨q, hq⟩ : ∃ q, q = n / 146097 := ⟨_, rfl⟩
  obtain ⟨r, hr⟩ : ∃ r, r = n - q * 146097 := ⟨_, rfl⟩
  obtain ⟨c, hc⟩ : ∃ c, c = cyC r := ⟨_, rfl⟩
  obtain ⟨f, hf⟩ : ∃ f, f = (r - c * 36524) / 1461 := ⟨_, rfl⟩
  obtain ⟨o, ho⟩ : ∃ o, o = cyO (r - c * 36524 - f * 1461) := ⟨_, rfl⟩
  obtain ⟨s1, s2, s3, s4, s5, s6, s7, s8, s9, s10⟩ := split_arith (n := n) (by omega) hq hr hc hf ho
  have hnb : 0 ≤ n ∧ n ≤ 4000000 := by omega
  simp only [go_sem, he, g0]
  refine callX_of (floor_A t 86400 (by omega) (by omega) _) (List.prefix_refl _) ?_
  rw [← hn]
  have u1 : IntKind.i64.wrap (n * 86400) = n * 86400 := wI64 (by omega)
  have u2 : IntKind.i64.wrap (t - n * 86400) = t % 86400 := by rw [wI64 (by omega)]; omega
  simp only [go_sem, he, g0, setD_some, u1, u2]
  refine callX_of (floor_A n 146097 (by omega) (by omega) _) (List.prefix_refl _) ?_
  rw [← hq]
  have u3 : IntKind.i64.wrap (q * 146097) = q * 146097 := wI64 (by omega)
  have u4 : IntKind.i64.wrap (n - q * 146097) = r := by rw [wI64 (by omega)]; omega
  have u5 : IntKind.i64.wrap (r.tdiv 36524) = r / 36524 := by rw [Int.tdiv_eq_ediv_of_nonneg s9]; exact wI64 (by omega)
  simp only [go_sem, he, g0, setD_some, u3, u4, u5]
  refine cond_join (fun e1 h1 => h1 = H ++ [.own 99 [vI t, vI 0]] ∧ len e1 = 59 ∧ AL.get e1 4 = vI (t % 86400) ∧ AL.get e1 5 = vI r ∧ AL.get e1 6 = vI q ∧ AL.get e1 7 = vI c) (fun hp => ?_) (fun hp => ?_) ?_
  · have hp := of_decide_eq_true hp
    simp only [go_sem, he, g0]
    rw [hc, cyC, if_pos hp]
  · have hp := of_decide_eq_false hp
    simp only [go_sem, he, g0]
    rw [hc, cyC, if_neg hp]
  rintro e h1 ⟨rfl, he, g4, g5, g6, g7⟩
  have v1 : IntKind.i64.wrap (c * 36524) = c * 36524 := wI64 (by omega)
  have v2 : IntKind.i64.wrap (r - c * 36524) = r - c * 36524 := wI64 (by omega)
  have hr1 : 0 ≤ r - c * 36524 := by
    unfold cyC at hc
    split at hc <;> omega
  have v3 : IntKind.i64.wrap ((r - c * 36524).tdiv 1461) = f := by rw [Int.tdiv_eq_ediv_of_nonneg hr1, ← hf]; exact wI64 (by omega)
  have v4 : IntKind.i64.wrap (f * 1461) = f * 1461 := wI64 (by omega)
  have v5 : IntKind.i64.wrap (r - c * 36524 - f * 1461) = r - c * 36524 - f * 1461 := wI64 (by omega)
  have hr2 : 0 ≤ r - c * 36524 - f * 1461 := by omega
  have v6 : IntKind.i64.wrap ((r - c * 36524 - f * 1461).tdiv 365) = (r - c * 36524 - f * 1461) / 365 := by rw [Int.tdiv_eq_ediv_of_nonneg hr2]; exact wI64 (by omega)
  simp only [go_sem, he, g4, g5, g6, g7, v1, v2, v3, v4, v5, v6]
  refine cond_join (fun e1 h1 => h1 = H ++ [.own 99 [vI t, vI 0]] ∧ len e1 = 59 ∧ AL.get e1 4 = vI (t % 86400) ∧ AL.get e1 5 = vI (r - c * 36524 - f * 1461) ∧ AL.get e1 6 = vI q ∧ AL.get e1 7 = vI c ∧ AL.get e1 8 = vI f ∧ AL.get e1 9 = vI o) (fun hp => ?_) (fun hp => ?_) ?_
  · have hp := of_decide_eq_true hp
    simp only [go_sem, he, g4, g5, g6, g7]
    rw [ho, cyO, if_pos hp]
  · have hp := of_decide_eq_false hp
    simp only [go_sem, he, g4, g5, g6, g7]
    rw [ho, cyO, if_neg hp]
  rintro e h1 ⟨rfl, he, g4, g5, g6, g7, g8, g9⟩
  have x1 : IntKind.i64.wrap (o * 365) = o * 365 := wI64 (by omega)
  have x2 : IntKind.i64.wrap (r - c * 36524 - f * 1461 - o * 365) = r - c * 36524 - f * 1461 - o * 365 := wI64 (by omega)
  have x3 : IntKind.i64.wrap (400 * q) = 400 * q := wI64 (by omega)
  have x4 : IntKind.i64.wrap (100 * c) = 100 * c := wI64 (by omega)
  have x5 : IntKind.i64.wrap (4 * f) = 4 * f := wI64 (by omega)
  have x6 : IntKind.i64.wrap (400 * q + 100 * c) = 400 * q + 100 * c := wI64 (by omega)
  have x7 : IntKind.i64.wrap (400 * q + 100 * c + 4 * f) = 400 * q + 100 * c + 4 * f := wI64 (by omega)
  have x8 : IntKind.i64.wrap (400 * q + 100 * c + 4 * f + o) = 400 * q + 100 * c + 4 * f + o := wI64 (by omega)
  have x9 : IntKind.i64.wrap (400 * q + 100 * c + 4 * f + o + 1) = 400 * q + 100 * c + 4 * f + o + 1 := wI64 (by omega)
  simp only [go_sem, he, g4, g5, g6, g7, g8, g9, x1, x2, x3, x4, x5, x6, x7, x8, x9]
  rw [← hn, s1] at *
  rw [s2]
  exact ⟨rfl, _, rfl⟩

theorem zDateOf_A {w0 : World} (t : Int) (ht : InY t) (H : Heap) : ACalls Tryz.prog (CB w0) 125 [.agg [vI t, vI 0]] H fun r H' => r = .tup [vI (yearOf (t / 86400)), vI (dayOf (t / 86400)).1, vI (dayOf (t / 86400)).2] ∧ H' = H := by
  refine ACalls.flat rfl ?_
  refine A_fun (N := 31) (rs := [.tmp 2, .tmp 3, .tmp 4]) Tryz.func125 rfl rfl rfl (by kernel_rfl) (by kernel_rfl) (Nat.le_of_ble_eq_true rfl) ?_
  rintro e he ⟨g0, -⟩
  have hb := ht.2
  have hb2 : before 10000 * 86400 = 315537897600 := by decide
  have h0 := ht.1
  simp only [go_sem, he, g0]
  refine callX_of (zsplit_A t ht _) (List.prefix_refl _) ?_
  have hk := yearOf_ok (n := t / 86400) (by omega)
  have hk2 := yearOf_lt (n := t / 86400) (by omega)
  have hst := before_step (yearOf (t / 86400))
  have hbg := before_big (y := yearOf (t / 86400)) (by omega)
  have hdo : dayOf (t / 86400) = monthUp (yearOf (t / 86400)) 400 1 (t / 86400 - before (yearOf (t / 86400)) + 1) := rfl
  simp only [go_sem, he, g0, setD_some]
  generalize yearOf (t / 86400) = y at *
  generalize dayOf (t / 86400) = D at *
  generalize t / 86400 = n at *
  refine A_while 400 (fun k e h => ∃ m d : Int, h = H ++ [.own 99 [vI t, vI 0]] ∧ len e = 31 ∧ AL.get e 5 = vI y ∧ AL.get e 8 = vI m ∧ AL.get e 6 = vI d ∧ monthUp y k m (d + 1) = D ∧ d ≤ 366 - 28 * (m - 1) ∧ 1 ≤ m ∧ m + k = 401 ∧ 0 ≤ d) (by kernel_rfl) ?_ ?_
  · simp only [go_sem, he, g0]
    exact ⟨1, n - before y, rfl, rfl, hdo.symm, by omega, by omega, by omega, by omega⟩
  · rintro k e h ⟨m, d, rfl, he, g5, g8, g6, hk, hd, hm, hm2, hd0⟩
    have hp := monthDays_pos y m
    simp only [go_sem, he, g5, g8, g6]
    refine callX_of (zmonthDays_A y m (by omega) _) (List.prefix_refl _) ?_
    simp only [go_sem, he, g5, g8, g6, setD_some]
    refine condK_of (fun hc => ?_) fun hc => ?_
    · have hc := of_decide_eq_true hc
      simp only [go_sem, he, g5, g8, g6]
      refine callX_of (zmonthDays_A y m (by omega) _) (List.prefix_refl _) ?_
      have w1 : IntKind.i64.wrap (d - monthDays y m) = d - monthDays y m := wI64 (by omega)
      have w2 : IntKind.i64.wrap (m + 1) = m + 1 := wI64 (by omega)
      simp only [go_sem, he, g5, g8, g6, setD_some, w1, w2]
      obtain ⟨j, rfl⟩ : ∃ j, k = j + 1 := ⟨k - 1, by omega⟩
      rw [monthUp, if_pos (by omega), show d + 1 - monthDays y m = d - monthDays y m + 1 by omega] at hk
      exact ⟨j, by omega, _, _, rfl, rfl, hk, by omega, by omega, by omega, by omega⟩
    · have hc := of_decide_eq_false hc
      rw [monthUp_done (by omega)] at hk
      have w1 : IntKind.i64.wrap (d + 1) = d + 1 := wI64 (by omega)
      simp only [go_sem, he, g5, g8, g6, setD_some, w1]
      rw [← hk]
      exact ⟨rfl, _, rfl⟩
theorem zClock_A {w0 : World} (t : Int) (ht : InY t) (H : Heap) : ACalls Tryz.prog (CB w0) 126 [.agg [vI t, vI 0]] H fun r H' => r = .tup [vI (t % 86400 / 3600), vI (t % 86400 / 60 % 60), vI (t % 86400 % 60)] ∧ H' = H := by
  refine ACalls.flat rfl ?_
  refine A_fun (N := 21) (rs := [.tmp 2, .tmp 3, .tmp 4]) Tryz.func126 rfl rfl rfl (by kernel_rfl) (by kernel_rfl) (Nat.le_of_ble_eq_true rfl) ?_
  rintro e he ⟨g0, -⟩
  simp only [go_sem, he, g0]
  refine callX_of (zsplit_A t ht _) (List.prefix_refl _) ?_
  have h1 : (t % 86400).tdiv 3600 = t % 86400 / 3600 := Int.tdiv_eq_ediv_of_nonneg (by omega)
  have h2 : (t % 86400).tdiv 60 = t % 86400 / 60 := Int.tdiv_eq_ediv_of_nonneg (by omega)
  have h3 : (t % 86400 / 60).tmod 60 = t % 86400 / 60 % 60 := Int.tmod_eq_emod_of_nonneg (by omega)
  have h4 : (t % 86400).tmod 60 = t % 86400 % 60 := Int.tmod_eq_emod_of_nonneg (by omega)
  have w1 : IntKind.i64.wrap (t % 86400 / 3600) = t % 86400 / 3600 := wI64 (by omega)
  have w2 : IntKind.i64.wrap (t % 86400 / 60) = t % 86400 / 60 := wI64 (by omega)
  have w3 : IntKind.i64.wrap (t % 86400 / 60 % 60) = t % 86400 / 60 % 60 := wI64 (by omega)
  have w4 : IntKind.i64.wrap (t % 86400 % 60) = t % 86400 % 60 := wI64 (by omega)
  simp only [go_sem, he, g0, setD_some, h1, h2, h3, h4, w1, w2, w3, w4]
  exact ⟨_, rfl⟩
theorem zFormat_A {w0 : World} (hG : Glob w0) (t : Int) (ht : InY t) (H : Heap) : ACalls Tryz.prog (CB w0) 101 [.agg [vI t, vI 0], vS [50, 48, 48, 54, 48, 49, 48, 50, 84, 49, 53, 48, 52, 48, 53, 90]] H fun r H' => r = vS (dateText t) ∧ H' = H := by
  refine ACalls.flat rfl ?_
  refine A_fun (N := 44) (rs := [.tmp 4]) Tryz.func101 rfl rfl rfl (by kernel_rfl) (by kernel_rfl) (Nat.le_of_ble_eq_true rfl) ?_
  rintro e he ⟨g0, g1, -⟩
  simp only [go_sem, he, g0, g1]
  refine callX_of (zDateOf_A t ht _) (List.prefix_refl _) ?_
  simp only [go_sem, he, g0, g1, setD_some]
  refine callX_of (zClock_A t ht _) (List.prefix_refl _) ?_
  simp only [go_sem, he, g0, g1, setD_some]
  refine acode_draw mixed (by kernel_rfl) ?_
  simp only [go_sem, he, g0, g1, setD_some]
  have hb := ht.2
  have hb2 : before 10000 * 86400 = 315537897600 := by decide
  have h0 := ht.1
  have hy := yearOf_ok (n := t / 86400) (by omega)
  have hbg := before_big (y := yearOf (t / 86400)) (by omega)
  have hd := dayOf_ok (n := t / 86400) (by omega)
  have hd2 : (dayOf (t / 86400)).2 ≤ 31 := by
    obtain ⟨m, _, _, _, _, h5, _⟩ := dayOf_date (n := t / 86400) (by omega)
    have := monthDays_pos (yearOf (t / 86400)) m
    omega
  have hy2 : yearOf (t / 86400) ≤ 10000 := by
    have e : before 10000 = 3652059 := by decide
    rcases Int.lt_or_le 10000 (yearOf (t / 86400)) with h | h
    · have : before 10001 ≤ before (yearOf (t / 86400)) := by unfold before; omega
      have e2 : before 10001 = 3652425 := by decide
      omega
    · exact h
  have l1 := padded_length (yearOf (t / 86400)) 4 (by omega) (by omega) (by omega)
  have l2 := padded_length (dayOf (t / 86400)).1 2 (by omega) (by omega) (by omega)
  have l3 := padded_length (dayOf (t / 86400)).2 2 (by omega) (by omega) (by omega)
  have l4 := padded_length (t % 86400 / 3600) 2 (by omega) (by omega) (by omega)
  have l5 := padded_length (t % 86400 / 60 % 60) 2 (by omega) (by omega) (by omega)
  have l6 := padded_length (t % 86400 % 60) 2 (by omega) (by omega) (by omega)
  refine callX_of (pad_A hG _ 4 (by omega) (by omega) (by omega) (by omega) _) (List.prefix_refl _) ?_
  simp only [go_sem, he, g0, g1, setD_some]
  refine callX_of (pad_A hG _ 2 (by omega) (by omega) (by omega) (by omega) _) (List.prefix_refl _) ?_
  simp only [go_sem, he, g0, g1, setD_some, List.length_append]
  refine ⟨by omega, ?_⟩
  refine callX_of (pad_A hG _ 2 (by omega) (by omega) (by omega) (by omega) _) (List.prefix_refl _) ?_
  simp only [go_sem, he, g0, g1, setD_some, List.length_append]
  refine ⟨by omega, by omega, ?_⟩
  refine callX_of (pad_A hG _ 2 (by omega) (by omega) (by omega) (by omega) _) (List.prefix_refl _) ?_
  simp only [go_sem, he, g0, g1, setD_some, List.length_append]
  refine ⟨by omega, ?_⟩
  refine callX_of (pad_A hG _ 2 (by omega) (by omega) (by omega) (by omega) _) (List.prefix_refl _) ?_
  simp only [go_sem, he, g0, g1, setD_some, List.length_append]
  refine ⟨by omega, ?_⟩
  refine callX_of (pad_A hG _ 2 (by omega) (by omega) (by omega) (by omega) _) (List.prefix_refl _) ?_
  simp only [go_sem, he, g0, g1, setD_some, List.length_append]
  refine ⟨by omega, by omega, ?_, _, rfl⟩
  simp only [dateText, List.append_assoc, List.cons_append, List.nil_append]
theorem zUTC2_A {w0 : World} (t : Int) (H : Heap) : ACalls Tryz.prog (CB w0) 100 [.agg [vI t, vI 0]] H fun r H' => r = .agg [vI t, vI 0] ∧ H' = H := by
  refine ACalls.flat rfl ?_
  refine A_fun (N := 4) (rs := [.cell 2 99]) Tryz.func100 rfl rfl rfl (by kernel_rfl) (by kernel_rfl) (Nat.le_of_ble_eq_true rfl) ?_
  rintro e he ⟨g0, -⟩
  simp only [go_sem, he, g0, List.replicate]
  exact ⟨_, rfl⟩
/-- timeToStr of a date without a fraction. -/
theorem timeToStr_A {w0 : World} (hG : Glob w0) (t : Int) (ht : InY t) (H : Heap) : ACalls Tryz.prog (CB w0) 76 [.agg [vI t, vI 0]] H fun r H' => r = vS (dateText t) ∧ H' = H := by
  refine ACalls.flat rfl ?_
  refine A_fun (N := 6) (rs := [.tmp 2]) Tryz.func76 rfl rfl rfl (by kernel_rfl) (by kernel_rfl) (Nat.le_of_ble_eq_true rfl) ?_
  rintro e he ⟨g0, -⟩
  simp only [go_sem, he, g0]
  refine callX_of (zUTC2_A t _) (List.prefix_refl _) ?_
  simp only [go_sem, he, g0, setD_some]
  refine callX_of (zFormat_A hG t ht _) (List.prefix_refl _) ?_
  simp only [go_sem, he, g0, setD_some]
  exact ⟨_, rfl⟩
end Go.Proofs.YtlfpjdcogkcjlaaGreatDoor.F
/- Library functions of lists: slices.Clone, strings.Join. -/
namespace Go.Proofs.YtlfpjdcogkcjlaaGreatDoor.AL
open Go.RowKit
set_option linter.unusedVariables false
variable {P : Program} {C : Base}
/-- A row that a library's function made. -/
theorem RepH.found {m : Places} {w w' : World} {H : Heap} (h : RepH C m w H) (hb : Below w.heap.size w w') {g : Nat} {e : TypeId} {cur : Array Value} {cs : List AV} (hg : w.heap.size ≤ g) (hh : w'.heap[g]? = some (.cells cur e (0, 0))) (hl : cs.length ≤ cur.size)
    (hcs : ∀ (j : Nat) c, cs[j]? = some c → ∃ v, cur[j]? = some v ∧ rel m w' c v) : Fwd C m w (m ++ [(g, 0)]) w' (H ++ [.own e cs]) := by
  have h' := h.belowW hb
  have hpre : m <+: m ++ [(g, 0)] := List.prefix_append _ _
  have split : ∀ (q : Nat) y b, (H ++ [AObj.own e cs])[q]? = some y → (m ++ [(g, 0)])[q]? = some b → (H[q]? = some y ∧ m[q]? = some b) ∨ (q = H.length ∧ y = .own e cs ∧ b = (g, 0)) := by
    intro q y b hy hb
    by_cases hq : q < H.length
    · rw [List.getElem?_append_left hq] at hy
      rw [List.getElem?_append_left (by rw [h.len]; exact hq)] at hb
      exact .inl ⟨hy, hb⟩
    · have : q = H.length := by have := (List.getElem?_eq_some_iff.1 hy).1; simp at this; omega
      subst this
      rw [List.getElem?_append_right (by omega)] at hy
      rw [List.getElem?_append_right (by rw [h.len]; omega), h.len] at hb
      simp at hy hb
      exact .inr ⟨rfl, hy.symm, hb.symm⟩
  have hng : ∀ {y : AObj}, y.mine = true → y ≠ .gone := fun h e => by subst e; simp [AObj.mine] at h
  refine ⟨hpre, szs_below hb, ⟨h'.below, h'.size, by simp [h.len], fun k hk => get_pre hpre (h.glob k hk), fun q y b hy hb => ?_, fun q q' y y' b b' hne hy hy' hb hb' hm hm' => ?_⟩⟩
  · rcases split q y b hy hb with ⟨h1, h2⟩ | ⟨_, rfl, rfl⟩
    · exact relO_pre (h'.obj q y b h1 h2) hpre
    · refine ⟨⟨Nat.le_trans h.size hg, rfl⟩, cur, hh, by omega, fun j c hj => ?_⟩
      obtain ⟨v, k1, k2⟩ := hcs j c hj
      exact ⟨v, by rw [Nat.zero_add]; exact k1, rel_more hpre (Szs.refl _) k2⟩
  · rcases split q y b hy hb with ⟨h1, h2⟩ | ⟨k1, rfl, rfl⟩ <;> rcases split q' y' b' hy' hb' with ⟨h3, h4⟩ | ⟨k2, rfl, rfl⟩
    · exact h.apart q q' y y' b b' hne h1 h3 h2 h4 hm hm'
    · have := h.mine_lt h1 h2 (hng hm); simp; omega
    · have := h.mine_lt h3 h4 (hng hm'); simp; omega
    · omega
/-- The same as a slice. -/
theorem RepH.foundSl {m : Places} {w w' : World} {H : Heap} (h : RepH C m w H) (hb : Below w.heap.size w w') {e : TypeId} {st n : Nat} {xs : List Value} {cs : List AV} {v : Value} (ho : w'.ownsRow w.heap.size e st v n xs) (hne : v ≠ .slice none 0 0)
    (hl : cs.length = xs.length) (hcs : ∀ (j : Nat) c u, cs[j]? = some c → xs[j]? = some u → rel m w' c u) : ∃ m', Fwd C m w m' w' (H ++ [.own e cs]) ∧ rel m' w' (.sl true H.length 0 n st) v := by
  obtain ⟨hx, hn | ⟨g, cap, cur, rfl, hg, hh, hnc, hcm, hcur, hxs⟩⟩ := ho
  · exact absurd hn.1 hne
  have hle : n * st ≤ cur.size := by rw [hcur]; exact Nat.mul_le_mul_right _ hnc
  have hf := h.found (cs := cs) hb hg hh (by omega) (fun j c hj => by
    have hj' : j < xs.length := by have := (List.getElem?_eq_some_iff.1 hj).1; omega
    have hu : xs[j]? = some xs[j] := List.getElem?_eq_getElem hj'
    refine ⟨xs[j], ?_, hcs j c _ hj hu⟩
    rw [← hu, ← hxs, List.getElem?_take_of_lt (by omega), Array.getElem?_toList])
  refine ⟨_, hf, (g, 0), ⟨g, 0, none⟩, cap, by rw [← h.len]; simp, rfl, hnc, Nat.le_trans hcm (by decide), fun _ => ⟨rfl, cur, e, (0, 0), hh, ?_⟩, fun _ => .inr ⟨rfl, cur, e, (0, 0), hh, ?_⟩⟩
  · simp [hcur]
  · simp [hcur]
end Go.Proofs.YtlfpjdcogkcjlaaGreatDoor.AL
namespace Go.Proofs.YtlfpjdcogkcjlaaGreatDoor.F
open Go.RowKit Go.Proofs.YtlfpjdcogkcjlaaGreatDoor.AL Go.Proofs.YtlfpjdcogkcjlaaGreatDoor.B
set_option linter.unusedVariables false
set_option linter.unusedSimpArgs false
set_option maxRecDepth 20000
attribute [local irreducible] aops acode bindK bindV bindH callX callK condK guardK Kseq Kblk Knorm Kfun Kloop Kjoin outK AWp appendA Ktail
attribute [local go_sem] acode_skip acode_seq acode_region acode_cond acode_block acode_exit acode_ret acode_loop Kseq_normal Kseq_exit Kseq_ret Kblk_normal Kblk_ret Kblk_eq Kblk_ne Knorm_eq Kloop_normal Kloop_exit Kloop_ret Kjoin_normal Kjoin_exit Kjoin_ret condK_true condK_false bindK_put bindV_put bindK_no bindV_no bindH_no aops_nil gops wantK_some wantV_bool wantV_undef guardK_true guardK_false guardK_none aops_move aops_assign aops_pick aops_nilCheck aops_binOp aops_unOp aops_convert aops_fieldAddr aops_indexAddr aops_slice aops_index aops_extract aops_makeInterface aops_makeFunc aops_build aops_load aops_lookup aops_alloc aops_box aops_buildSlice aops_makeSlice aops_makeMap aops_store aops_insert aops_mapUpdate aops_len aops_append aops_call opA_tmp opA_const opA_global opA_func get_mk look_nil look_eq look_ne len_mk List.map_cons List.map_nil Option.map_some Option.map_none bin_add bin_sub bin_mul bin_quo bin_rem bin_eql bin_neq bin_lss bin_leq bin_gtr bin_geq bin_cat bin_seql bin_sneq bin_neq_ifc bin_eql_ifc bin_neq_nn bin_eql_nn bin_neq_ptr bin_eql_ptr bin_neq_pn isIfc_true isPtr_true bin_eql2 bin_neq2 aops_max max_int un_not un_neg lenA_K lenK_str lenK_nil lenK_sl lenK_array pick_bool pick_val bindV_ite bindK_ite bindH_ite slotV_sl slotK_some slotV_ptr slotR_some sliceV_sl cutK_some sliceV_str cutS_some bound_none bound_some indexA_str atS_some mkS fieldV_ptr loadV_ptr cellsK_ro cellsK_own loadK_one loadK_many storeA_ptr storeK_own allocA_some heap_len heap_get0 heap_get heap_set0 heap_set Kfun_ret Kfun_normal resA_nil resA_tmp resA_cell outK_some packA_one packA_nil packA_two List.length_cons List.length_nil List.getElem?_cons_zero List.getElem?_cons_succ List.set_cons_zero List.set_cons_succ List.cons_append List.nil_append List.append_assoc Nat.zero_add Nat.add_zero List.all_cons List.all_nil Value.oneCell' Bool.and_true Bool.and_self if_true if_false Bool.false_eq_true partsA buildV buildA fillA Option.bind_some putCells List.drop_succ_cons List.drop_zero List.take_succ_cons List.take_zero List.take_nil List.drop_nil and_self and_true true_and Option.some.injEq ne_eq not_false_eq_true Option.map_map List.getElem?_toArray beq_self_eq_true Bool.true_beq Bool.false_beq Bool.not_true Bool.not_false decide_true decide_false beq_true Nat.mul_one Nat.one_mul Nat.zero_mul bsA buildSliceA zerosN List.append_nil Int.toNat_natCast Int.toNat_zero boxA one_val one_ptr one_sl one_mp one_ifc one_fn avCells_agg avCells_val valCells_true valCells_agg avCells_ptr avCells_sl avCells_mp avCells_ifc avCells_fn app_cons app_nil lookupA insertA ifaceV extractA kd2 ars127 fp127 ars60 fp60 ars31 fp31 eq2_99 eq2_84 eq2_47 fp52 sz2 kd3 sz3 kd4 sz4 kd5 sz5 kd9 sz9 kd22 sz22 el22 kd23 sz23 el23 kd25 sz25 zc25 fp25 fo25_0 fo25_1 fo25_2 fo25_3 fo25_4 fo25_5 fo25_6 fo25_7 fo25_8 fo25_9 fo25_10 fo25_11 fo25_12 fo25_13 fo25_14 fo25_15 fo25_16 fo25_17 kd31 sz31 zc31 ar31 kd32 sz32 el32 kd34 sz34 zc34 fp34 fo34_0 fo34_1 fo34_2 fo34_3 fo34_4 fo34_5 fo34_6 fo34_7 fo34_8 fo34_9 fo34_10 fo34_11 fo34_12 fo34_13 fo34_14 fo34_15 fo34_16 fo34_17 el38 el42 kd47 sz47 zc47 fp47 fo47_0 fo47_1 kd52 sz52 zc52 fo52_0 el55 zc60 kd72 sz72 zc72 fp72 fo72_0 fo72_1 el73 kd80 sz80 kd84 sz84 zc84 fp84 fo84_0 fo84_1 kd88 sz88 zc88 fp88 fo88_0 fo88_1 fo88_2 fo88_3 kd91 sz91 zc91 fp91 fo91_0 fo91_1 fo91_2 el94 kd99 sz99 zc99 fp99 fo99_0 fo99_1 kd100 sz100 el100 kd102 sz102 zc102 fp102 fo102_0 fo102_1 fo102_2 fo102_3 fo102_4 fo102_5 fo102_6 fo102_7 fo102_8 fo102_9 fo102_10 fo102_11 fo102_12 fo102_13 fo102_14 fo102_15 kd109 sz109 zc109 fp109 isStrMap124 zv80 zc127 kd153 sz153 zc153 ar153 isIface157 kd159 sz159 zc159 fp159 isStrMap177 zv84 Tryz.underlying3 Tryz.underlying4 Tryz.underlying5 Tryz.underlying9 Tryz.underlying21 Tryz.underlying22 Tryz.underlying23 Tryz.underlying32 Tryz.underlying38 Tryz.underlying42 Tryz.underlying47 Tryz.underlying55 Tryz.underlying67 Tryz.underlying73 Tryz.underlying80 Tryz.underlying84 Tryz.underlying94 Tryz.underlying100 Tryz.underlying2 Tryz.underlying127 Tryz.underlying60 Tryz.underlying31 kd55 ai60 ai127 indexA_agg atK_some isStrMap76 zv4 Ktail_eq opsOf_nil opsOf_cons consO_some
attribute [local go_sem_proc] Nat.reduceLT Nat.reduceBEq Nat.reduceAdd Int.reduceBEq Nat.reduceLeDiff reduceIte Nat.reduceEqDiff Int.reduceEq Int.reduceLE Int.reduceLT Int.reduceNe Nat.reduceMul Nat.reduceSub Int.reduceToNat
theorem clone_A {w0 : World} (l : List Int) (hl : l.length ≤ 1000000) (x : AV) (H : Heap) (hx : IntsAt H x l) : ACalls Tryz.prog (CB w0) 52 [x] H fun r H' => IntsOwn H' r l ∧ ∃ G, H' = H ++ G := by
  refine ⟨callable_of Tryz.func52 (by kernel_rfl) (by kernel_rfl), fun m w vals hH hv => ?_⟩
  obtain ⟨v, rfl⟩ : ∃ v, vals = #[v] := by
    have := rels_length hv
    match vals, this with
    | ⟨[v]⟩, _ => exact ⟨v, rfl⟩
  have hv : rel m w x v := hv.1
  rcases hx with ⟨rfl, h0⟩ | ⟨own, o, off, cs, rfl, hcs, hcell⟩
  · obtain rfl : v = .slice none 0 0 := hv
    refine (Tryz.slices_Clone_int_nil 0 0 w).mono ?_
    rintro e w' ⟨rfl, rfl⟩
    exact ⟨_, m, H, .val (.slice none 0 0), rfl, ⟨List.prefix_refl m, Szs.refl _, hH⟩, rfl, .inl ⟨rfl, List.eq_nil_of_length_eq_zero h0⟩, [], (List.append_nil _).symm⟩
  obtain ⟨b, a, cap, hb, rfl, hle, hcap, ha, -⟩ := hv
  have key : ∀ (xs : List Value) (v' : Value) (w' : World), xs = l.map (Value.int .i64) → w'.ownsRow w.heap.size 3 1 v' l.length xs → v' ≠ .slice none 0 0 → Below w.heap.size w w' →
      ∃ rv m' H' r, Ending.returned v' = .returned rv ∧ Fwd (CB w0) m w m' w' H' ∧ rel m' w' r rv ∧ (IntsOwn H' r l ∧ ∃ G, H' = H ++ G) := by
    rintro xs v' w' rfl ho hne hb'
    obtain ⟨m', hf, hr⟩ := hH.foundSl (cs := l.map vI) hb' ho hne (by simp) (fun j c u hc hu => by
      rw [List.getElem?_map] at hc hu
      cases hj : l[j]? with
      | none => rw [hj] at hc; cases hc
      | some z =>
        rw [hj] at hc hu
        cases hc; cases hu
        rfl)
    exact ⟨_, m', _, _, rfl, hf, hr, .inr ⟨H.length, rfl, by rw [heap_get0]; rfl⟩, _, rfl⟩
  by_cases hn : l.length = 0
  · rw [hn]
    refine (Tryz.slices_Clone_int_zero a cap w).mono ?_
    rintro e w' ⟨v', rfl, ho, hne, hb'⟩
    have : l = [] := List.eq_nil_of_length_eq_zero hn
    exact key [] v' w' (by rw [this]; rfl) (by rw [hn]; exact ho) hne hb'
  · obtain ⟨rfl, hroom⟩ := ha (by omega)
    have hco : cellsOf H o = some cs := by unfold cellsOf; unfold cellsK at hcs; revert hcs; cases H[o]? <;> exact _root_.id
    refine (Tryz.slices_Clone_int b.1 (b.2 + off) l.length cap l w (Nat.le_refl _) (by omega) (fun j hj => ?_)).mono ?_
    · obtain ⟨u, h1, h2⟩ := hH.cell hco hb (hcell j (by omega))
      obtain rfl : u = .int .i64 (l.getD j 0) := h2
      rw [Nat.add_assoc]
      exact h1
    · rintro e w' ⟨v', rfl, ho, hne, hb'⟩
      rw [List.take_length] at ho
      exact key _ v' w' rfl ho hne hb'
def TextsAt (H : Heap) (x : AV) (l : List (List UInt8)) : Prop := SlOf H x l.length 1 fun i => vS (l.getD i [])
theorem lib_join (c : UInt8) : ∀ l : List (List UInt8), Lib.join l [c] = joinB c l
  | [] => rfl
  | [a] => Lib.join_one a [c]
  | a :: b :: r => by
    have h := lib_join c (b :: r)
    rw [Lib.join_cons] at h ⊢
    show _ = a ++ c :: joinB c (b :: r)
    rw [← h]
    simp [Lib.joinTail]
theorem join_A {w0 : World} (c : UInt8) (l : List (List UInt8)) (hl : l.length ≤ 1000000) (hj : (joinB c l).length ≤ 1000000000) (x : AV) (H : Heap) (hx : TextsAt H x l) : ACalls Tryz.prog (CB w0) 78 [x, vS [c]] H fun r H' => r = vS (joinB c l) ∧ H' = H := by
  refine ⟨callable_of Tryz.func78 (by kernel_rfl) (by kernel_rfl), fun m w vals hH hv => ?_⟩
  obtain ⟨v, s, rfl⟩ : ∃ v s, vals = #[v, s] := by
    have := rels_length hv
    match vals, this with
    | ⟨[v, s]⟩, _ => exact ⟨v, s, rfl⟩
  have hv1 : rel m w x v := hv.1
  obtain rfl : s = .string (S [c]) := hv.2.1
  have fin0 : l.length = 0 → ∀ (a : Option Addr) (cap : Nat), v = .slice a 0 cap → Calls Tryz.prog 78 #[v, .string (S [c])] w fun e w' => ∃ rv m' H' r, e = .returned rv ∧ Fwd (CB w0) m w m' w' H' ∧ rel m' w' r rv ∧ (r = vS (joinB c l) ∧ H' = H) := by
    rintro h0 a cap rfl
    have : l = [] := List.eq_nil_of_length_eq_zero h0
    subst this
    refine (Tryz.strings_Join_none a cap (S [c]) w).mono ?_
    rintro e w' ⟨rfl, rfl⟩
    exact ⟨_, m, H, vS [], rfl, ⟨List.prefix_refl m, Szs.refl _, hH⟩, rfl, rfl, rfl⟩
  rcases hx with ⟨rfl, h0⟩ | ⟨own, o, off, cs, rfl, hcs, hcell⟩
  · exact fin0 h0 none 0 hv1
  obtain ⟨b, a, cap, hb, rfl, hle, hcap, ha, -⟩ := hv1
  by_cases hn : l.length = 0
  · exact fin0 hn (some a) cap (by rw [hn])
  obtain ⟨rfl, hroom⟩ := ha (by omega)
  have hco : cellsOf H o = some cs := by unfold cellsOf; unfold cellsK at hcs; revert hcs; cases H[o]? <;> exact _root_.id
  have hc : ∀ (j : Nat) y, (l.map S)[j]? = some y → w.cell? ⟨b.1, b.2 + off + j, none⟩ = some (.string y) := by
    intro j y hy
    have hj' : j < l.length := by have := (List.getElem?_eq_some_iff.1 hy).1; simpa using this
    obtain ⟨u, h1, h2⟩ := hH.cell hco hb (hcell j (by omega))
    have h2 : u = .string (S (l.getD j [])) := h2
    rw [List.getElem?_map, List.getElem?_eq_getElem hj'] at hy
    obtain rfl := Option.some.inj hy
    rw [Nat.add_assoc, h1, h2, List.getD_eq_getElem?_getD, List.getElem?_eq_getElem hj']
    rfl
  have hlt : b.1 < w.heap.size := by
    obtain ⟨y, hy⟩ : ∃ y, (l.map S)[0]? = some y := ⟨_, List.getElem?_eq_getElem (by simp; omega)⟩
    rcases Nat.lt_or_ge b.1 w.heap.size with h | h
    · exact h
    · exfalso
      have := hc 0 y hy
      simp [World.cell?, Array.getElem?_eq_none h] at this
  have hd : (l.map S).map (·.data.toList) = l := by
    rw [List.map_map]
    exact (List.map_congr_left fun s _ => rfl).trans (List.map_id _)
  have hjn : Lib.join ((l.map S).map (·.data.toList)) (S [c]).data.toList = joinB c l := by rw [hd]; exact lib_join c l
  have hcall := Tryz.strings_Join b.1 (b.2 + off) cap (l.map S) (S [c]) w hc hlt (by simp; omega) (by simp; omega) (by rw [hjn]; omega)
  rw [hjn, List.length_map] at hcall
  refine hcall.mono ?_
  rintro e w' ⟨rfl, hb'⟩
  exact ⟨_, m, H, vS (joinB c l), rfl, ⟨List.prefix_refl m, szs_below hb', hH.belowW hb'⟩, rfl, rfl, rfl⟩
end Go.Proofs.YtlfpjdcogkcjlaaGreatDoor.F
/- Rules that say the same. -/
namespace Go.Proofs.YtlfpjdcogkcjlaaGreatDoor.AL
open Go.RowKit
set_option linter.unusedVariables false
variable {P : Program}
theorem bin_neq_bool {t : TypeId} {xo yo : Operand} {a b : Bool} (h : P.underlying t = some .bool) : binA P .neq t xo yo (vB a) (vB b) = some (vB (!(a == b))) := by
  have h1 : pureRun P (eqGuard .neq t xo yo (.bool a) (.bool b)) = some () := by unfold eqGuard; cases xo <;> rfl
  have h2 : pureRun P (binOp .neq t (.bool a) (.bool b)) = some (.bool (!(a == b))) := by
    show pureRun P (Op.equal t (.bool a) (.bool b) >>= fun r => pure (Value.bool (!r))) = _
    rw [pureRun_bind]
    unfold Op.equal Op.maxDepth
    rw [Op.equalIn, pureRun_bind, pureRun_underlying h]
    rfl
  simp only [binA, plain, pureRun_bind, h1, h2, Option.bind_some, Option.map_some]
end Go.Proofs.YtlfpjdcogkcjlaaGreatDoor.AL
namespace Go.Proofs.YtlfpjdcogkcjlaaGreatDoor.F
open Go.RowKit Go.Proofs.YtlfpjdcogkcjlaaGreatDoor.AL Go.Proofs.YtlfpjdcogkcjlaaGreatDoor.B
set_option linter.unusedVariables false
set_option linter.unusedSimpArgs false
set_option maxRecDepth 20000
attribute [local irreducible] aops acode bindK bindV bindH callX callK condK guardK Kseq Kblk Knorm Kfun Kloop Kjoin outK AWp appendA Ktail
attribute [local go_sem] acode_skip acode_seq acode_region acode_cond acode_block acode_exit acode_ret acode_loop Kseq_normal Kseq_exit Kseq_ret Kblk_normal Kblk_ret Kblk_eq Kblk_ne Knorm_eq Kloop_normal Kloop_exit Kloop_ret Kjoin_normal Kjoin_exit Kjoin_ret condK_true condK_false bindK_put bindV_put bindK_no bindV_no bindH_no aops_nil gops wantK_some wantV_bool wantV_undef guardK_true guardK_false guardK_none aops_move aops_assign aops_pick aops_nilCheck aops_binOp aops_unOp aops_convert aops_fieldAddr aops_indexAddr aops_slice aops_index aops_extract aops_makeInterface aops_makeFunc aops_build aops_load aops_lookup aops_alloc aops_box aops_buildSlice aops_makeSlice aops_makeMap aops_store aops_insert aops_mapUpdate aops_len aops_append aops_call opA_tmp opA_const opA_global opA_func get_mk look_nil look_eq look_ne len_mk List.map_cons List.map_nil Option.map_some Option.map_none bin_add bin_sub bin_mul bin_quo bin_rem bin_eql bin_neq bin_lss bin_leq bin_gtr bin_geq bin_cat bin_seql bin_sneq bin_neq_ifc bin_eql_ifc bin_neq_nn bin_eql_nn bin_neq_ptr bin_eql_ptr bin_neq_pn isIfc_true isPtr_true bin_eql2 bin_neq2 aops_max max_int un_not un_neg lenA_K lenK_str lenK_nil lenK_sl lenK_array pick_bool pick_val bindV_ite bindK_ite bindH_ite slotV_sl slotK_some slotV_ptr slotR_some sliceV_sl cutK_some sliceV_str cutS_some bound_none bound_some indexA_str atS_some mkS fieldV_ptr loadV_ptr cellsK_ro cellsK_own loadK_one loadK_many storeA_ptr storeK_own allocA_some heap_len heap_get0 heap_get heap_set0 heap_set Kfun_ret Kfun_normal resA_nil resA_tmp resA_cell outK_some packA_one packA_nil packA_two List.length_cons List.length_nil List.getElem?_cons_zero List.getElem?_cons_succ List.set_cons_zero List.set_cons_succ List.cons_append List.nil_append List.append_assoc Nat.zero_add Nat.add_zero List.all_cons List.all_nil Value.oneCell' Bool.and_true Bool.and_self if_true if_false Bool.false_eq_true partsA buildV buildA fillA Option.bind_some putCells List.drop_succ_cons List.drop_zero List.take_succ_cons List.take_zero List.take_nil List.drop_nil and_self and_true true_and Option.some.injEq ne_eq not_false_eq_true Option.map_map List.getElem?_toArray beq_self_eq_true Bool.true_beq Bool.false_beq Bool.not_true Bool.not_false decide_true decide_false beq_true Nat.mul_one Nat.one_mul Nat.zero_mul bsA buildSliceA zerosN List.append_nil Int.toNat_natCast Int.toNat_zero boxA one_val one_ptr one_sl one_mp one_ifc one_fn avCells_agg avCells_val valCells_true valCells_agg avCells_ptr avCells_sl avCells_mp avCells_ifc avCells_fn app_cons app_nil lookupA insertA ifaceV extractA kd2 ars127 fp127 ars60 fp60 ars31 fp31 eq2_99 eq2_84 eq2_47 fp52 sz2 kd3 sz3 kd4 sz4 kd5 sz5 kd9 sz9 kd22 sz22 el22 kd23 sz23 el23 kd25 sz25 zc25 fp25 fo25_0 fo25_1 fo25_2 fo25_3 fo25_4 fo25_5 fo25_6 fo25_7 fo25_8 fo25_9 fo25_10 fo25_11 fo25_12 fo25_13 fo25_14 fo25_15 fo25_16 fo25_17 kd31 sz31 zc31 ar31 kd32 sz32 el32 kd34 sz34 zc34 fp34 fo34_0 fo34_1 fo34_2 fo34_3 fo34_4 fo34_5 fo34_6 fo34_7 fo34_8 fo34_9 fo34_10 fo34_11 fo34_12 fo34_13 fo34_14 fo34_15 fo34_16 fo34_17 el38 el42 kd47 sz47 zc47 fp47 fo47_0 fo47_1 kd52 sz52 zc52 fo52_0 el55 zc60 kd72 sz72 zc72 fp72 fo72_0 fo72_1 el73 kd80 sz80 kd84 sz84 zc84 fp84 fo84_0 fo84_1 kd88 sz88 zc88 fp88 fo88_0 fo88_1 fo88_2 fo88_3 kd91 sz91 zc91 fp91 fo91_0 fo91_1 fo91_2 el94 kd99 sz99 zc99 fp99 fo99_0 fo99_1 kd100 sz100 el100 kd102 sz102 zc102 fp102 fo102_0 fo102_1 fo102_2 fo102_3 fo102_4 fo102_5 fo102_6 fo102_7 fo102_8 fo102_9 fo102_10 fo102_11 fo102_12 fo102_13 fo102_14 fo102_15 kd109 sz109 zc109 fp109 isStrMap124 zv80 zc127 kd153 sz153 zc153 ar153 isIface157 kd159 sz159 zc159 fp159 isStrMap177 zv84 Tryz.underlying3 Tryz.underlying4 Tryz.underlying5 Tryz.underlying9 Tryz.underlying21 Tryz.underlying22 Tryz.underlying23 Tryz.underlying32 Tryz.underlying38 Tryz.underlying42 Tryz.underlying47 Tryz.underlying55 Tryz.underlying67 Tryz.underlying73 Tryz.underlying80 Tryz.underlying84 Tryz.underlying94 Tryz.underlying100 Tryz.underlying2 Tryz.underlying127 Tryz.underlying60 Tryz.underlying31 kd55 ai60 ai127 indexA_agg atK_some isStrMap76 zv4 Ktail_eq opsOf_nil opsOf_cons consO_some
attribute [local go_sem_proc] Nat.reduceLT Nat.reduceBEq Nat.reduceAdd Int.reduceBEq Nat.reduceLeDiff reduceIte Nat.reduceEqDiff Int.reduceEq Int.reduceLE Int.reduceLT Int.reduceNe Nat.reduceMul Nat.reduceSub Int.reduceToNat
theorem equalI_A {w0 : World} (l l' : List Int) (hl : l.length ≤ 1000000000) (hl' : l'.length ≤ 1000000000) (x y : AV) (H : Heap) (hx : IntsAt H x l) (hy : IntsAt H y l') : ACalls Tryz.prog (CB w0) 63 [x, y] H fun r H' => r = vB (decide (l = l')) ∧ H' = H := by
  refine A_fun (N := 26) (rs := [.tmp 4]) Tryz.func63 rfl rfl rfl (by kernel_rfl) (by kernel_rfl) (Nat.le_of_ble_eq_true rfl) ?_
  rintro e he ⟨g0, g1, -⟩
  have h1 := hx.len 3
  have h2 := hy.len 3
  simp only [go_sem, he, g0, g1, h1, h2]
  refine condK_of (fun hc => ?_) fun hc => ?_
  · have hc : ¬ ((l.length : Int) = l'.length) := by simpa using hc
    simp only [go_sem, he, g0, g1]
    rw [decide_eq_false (by intro e; exact hc (by rw [e]))]
  · have hc : (l.length : Int) = l'.length := by simpa using hc
    simp only [go_sem, he, g0, g1, h1]
    refine A_while l.length (fun k e h => h = H ∧ len e = 26 ∧ AL.get e 0 = x ∧ AL.get e 1 = y ∧ AL.get e 12 = vI l.length ∧ ∃ i : Nat, AL.get e 13 = vI i ∧ i + k = l.length ∧ ∀ j, j < i → l.getD j 0 = l'.getD j 0) (by kernel_rfl) ?_ ?_
    · simp only [go_sem, he, g0, g1]
      exact ⟨0, rfl, by omega, fun j hj => by omega⟩
    · rintro k e h ⟨rfl, he, g0, g1, g12, i, g13, hik, hs⟩
      have wi : IntKind.i64.wrap ((i : Int) + 1) = ((i + 1 : Nat) : Int) := by rw [wI64 (by omega)]; rfl
      simp only [go_sem, he, g0, g1, g12, g13]
      refine condK_of (fun hc => ?_) fun hc => ?_
      · have hc := of_decide_eq_true hc
        obtain ⟨own, o, off, cs, rfl, hcs, hci⟩ := hx.get (i := i) (by omega)
        obtain ⟨own', o', off', cs', rfl, hcs', hci'⟩ := hy.get (i := i) (by omega)
        simp only [go_sem, he, g0, g1, g12, g13]
        refine acode_draw mixed (by kernel_rfl) ?_
        generalize ha : l.getD i 0 = a at *
        generalize hb : l'.getD i 0 = b at *
        simp only [go_sem, he, g0, g1, g12, g13, hcs, hcs', hci, hci', Int.toNat_natCast]
        refine ⟨by omega, by omega, condK_of (fun hq => ?_) fun hq => ?_⟩
        · have hq : ¬ a = b := by simpa using hq
          simp only [go_sem, he, g0, g1, g12, g13]
          rw [decide_eq_false (by rintro rfl; exact hq (ha.symm.trans hb))]
        · have hq : a = b := by simpa using hq
          simp only [go_sem, he, g0, g1, g12, g13, wi]
          refine ⟨k - 1, by omega, i + 1, rfl, by omega, fun j hj => ?_⟩
          rcases Nat.lt_or_ge j i with h1 | h1
          · exact hs j h1
          · obtain rfl : j = i := by omega
            rw [ha, hb, hq]
      · have hc := of_decide_eq_false hc
        simp only [go_sem, he, g0, g1, g12, g13]
        rw [decide_eq_true (list_ext_getD (by omega) fun j hj => hs j (by omega))]
theorem DaysAt.get {H : Heap} {x : AV} {l : List (Int × Int)} (hx : DaysAt H x l) {i : Nat} (hi : i < l.length) : ∃ own o off cs, x = .sl own o off l.length 2 ∧ cellsK H[o]? = some cs ∧ off + i * 2 + 2 ≤ cs.length ∧ (cs.drop (off + i * 2)).take 2 = [vI (l.getD i (0, 0)).1, vI (l.getD i (0, 0)).2] := by
  rcases hx with ⟨rfl, h0⟩ | ⟨own, o, off, cs, rfl, hcs, hcell⟩
  · omega
  · obtain ⟨h1, h2⟩ := days_load (H := H) hcell hi
    exact ⟨own, o, off, cs, rfl, hcs, h1, h2⟩
theorem equalD_A {w0 : World} (l : List (Int × Int)) (hl : l.length ≤ 1000000000) (x y : AV) (H : Heap) (hx : DaysAt H x l) (hy : DaysAt H y l) : ACalls Tryz.prog (CB w0) 64 [x, y] H fun r H' => r = vB true ∧ H' = H := by
  refine A_fun (N := 26) (rs := [.tmp 4]) Tryz.func64 rfl rfl rfl (by kernel_rfl) (by kernel_rfl) (Nat.le_of_ble_eq_true rfl) ?_
  rintro e he ⟨g0, g1, -⟩
  have h1 := hx.len 47
  have h2 := hy.len 47
  have d0 : decide ((l.length : Int) = (l.length : Int)) = true := decide_eq_true rfl
  simp only [go_sem, he, g0, g1, h1, h2, d0]
  refine A_while l.length (fun k e h => h = H ∧ len e = 26 ∧ AL.get e 0 = x ∧ AL.get e 1 = y ∧ AL.get e 12 = vI l.length ∧ ∃ i : Nat, AL.get e 13 = vI i ∧ i + k = l.length) (by kernel_rfl) ?_ ?_
  · simp only [go_sem, he, g0, g1]
    exact ⟨0, rfl, by omega⟩
  · rintro k e h ⟨rfl, he, g0, g1, g12, i, g13, hik⟩
    have wi : IntKind.i64.wrap ((i : Int) + 1) = ((i + 1 : Nat) : Int) := by rw [wI64 (by omega)]; rfl
    simp only [go_sem, he, g0, g1, g12, g13]
    refine condK_of (fun hc => ?_) fun hc => ?_
    · have hc := of_decide_eq_true hc
      obtain ⟨own, o, off, cs, rfl, hcs, hc1, hc2⟩ := hx.get (i := i) (by omega)
      obtain ⟨own', o', off', cs', rfl, hcs', hc1', hc2'⟩ := hy.get (i := i) (by omega)
      simp only [go_sem, he, g0, g1, g12, g13]
      refine acode_draw mixed (by kernel_rfl) ?_
      generalize l.getD i (0, 0) = d at *
      have d1 : decide (d.1 = d.1) = true := decide_eq_true rfl
      have d2 : decide (d.2 = d.2) = true := decide_eq_true rfl
      simp only [go_sem, he, g0, g1, g12, g13, hcs, hcs', hc1, hc1', hc2, hc2', Int.toNat_natCast, d1, d2, Bool.true_and, wi]
      exact ⟨by omega, by omega, k - 1, by omega, i + 1, rfl, by omega⟩
    · have hc := of_decide_eq_false hc
      simp only [go_sem, he, g0, g1, g12, g13]
theorem equalT_A {w0 : World} (l : List Int) (hl : l.length ≤ 1000000) (x y : AV) (H : Heap) (hx : IntsAt H x l) (hy : IntsAt H y l) : ACalls Tryz.prog (CB w0) 63 [x, y] H fun r H' => r = vB true ∧ H' = H :=
  (equalI_A l l (by omega) (by omega) x y H hx hy).mono fun r H' h => ⟨by rw [h.1, decide_eq_true rfl], h.2⟩
structure Few (r : Ru) : Prop where
  setPos : r.setPos.length ≤ 1000000
  month : r.month.length ≤ 1000000
  monthDay : r.monthDay.length ≤ 1000000
  yearDay : r.yearDay.length ≤ 1000000
  weekNo : r.weekNo.length ≤ 1000000
  day : r.day.length ≤ 1000000
  hour : r.hour.length ≤ 1000000
  minute : r.minute.length ≤ 1000000
  second : r.second.length ≤ 1000000
  easter : r.easter.length ≤ 1000000
/-- Two writings of one rule. -/
theorem same_A {w0 : World} (r : Ru) (hl : Few r) (x y : Rs) (H : Heap) (hx : RuAt H r x) (hy : RuAt H r y) : ACalls Tryz.prog (CB w0) 34 [.agg (ruCells r x), .agg (ruCells r y)] H fun v H' => v = vB true ∧ H' = H := by
  refine ACalls.flat rfl ?_
  refine A_fun (N := 135) (rs := [.tmp 4]) Tryz.func34 rfl rfl rfl (by kernel_rfl) (by kernel_rfl) (Nat.le_of_ble_eq_true rfl) ?_
  rintro e he ⟨g0, g1, -⟩
  unfold ruCells at g0 g1
  have e0 : decide ((r.freq : Int) = (r.freq : Int)) = true := decide_eq_true rfl
  have e1 : decide (r.start = r.start) = true := decide_eq_true rfl
  have e2 : decide (r.interval = r.interval) = true := decide_eq_true rfl
  have e3 : decide (r.wkst = r.wkst) = true := decide_eq_true rfl
  have e4 : decide (r.count = r.count) = true := decide_eq_true rfl
  have e5 : decide (r.til = r.til) = true := decide_eq_true rfl
  have e6 : (r.hasStart == r.hasStart) = true := beq_self_eq_true _
  have e7 : (r.hasUntil == r.hasUntil) = true := beq_self_eq_true _
  have nb : ∀ a b : Bool, ∀ (xo yo : Operand), binA Tryz.prog .neq 4 xo yo (vB a) (vB b) = some (vB (!(a == b))) := fun a b xo yo => bin_neq_bool Tryz.underlying4
  simp only [go_sem, he, g0, g1, e0, e1, e2, e3, e4, e5, e6, e7, nb, hx.setPos.one, hy.setPos.one, hx.month.one, hy.month.one, hx.monthDay.one, hy.monthDay.one, hx.yearDay.one, hy.yearDay.one, hx.weekNo.one, hy.weekNo.one, hx.day.one, hy.day.one, hx.hour.one, hy.hour.one, hx.minute.one, hy.minute.one, hx.second.one, hy.second.one, hx.easter.one, hy.easter.one]
  cases hs : r.hasStart <;> cases hu : r.hasUntil
  all_goals
    simp only [go_sem, he, e0, e1, e2, e3, e4, e5, e6, e7, nb, hx.setPos.one, hy.setPos.one, hx.month.one, hy.month.one, hx.monthDay.one, hy.monthDay.one, hx.yearDay.one, hy.yearDay.one, hx.weekNo.one, hy.weekNo.one, hx.day.one, hy.day.one, hx.hour.one, hy.hour.one, hx.minute.one, hy.minute.one, hx.second.one, hy.second.one, hx.easter.one, hy.easter.one, hs, hu]
    refine callX_of (equalT_A r.setPos hl.setPos _ _ _ (hx.setPos.more _) (hy.setPos.more _)) (List.prefix_refl _) ?_
    simp only [go_sem, he, setD_some, hx.setPos.one, hy.setPos.one, hx.month.one, hy.month.one, hx.monthDay.one, hy.monthDay.one, hx.yearDay.one, hy.yearDay.one, hx.weekNo.one, hy.weekNo.one, hx.day.one, hy.day.one, hx.hour.one, hy.hour.one, hx.minute.one, hy.minute.one, hx.second.one, hy.second.one, hx.easter.one, hy.easter.one]
    refine callX_of (equalT_A r.month hl.month _ _ _ (hx.month.more _) (hy.month.more _)) (List.prefix_refl _) ?_
    simp only [go_sem, he, setD_some, hx.setPos.one, hy.setPos.one, hx.month.one, hy.month.one, hx.monthDay.one, hy.monthDay.one, hx.yearDay.one, hy.yearDay.one, hx.weekNo.one, hy.weekNo.one, hx.day.one, hy.day.one, hx.hour.one, hy.hour.one, hx.minute.one, hy.minute.one, hx.second.one, hy.second.one, hx.easter.one, hy.easter.one]
    refine callX_of (equalT_A r.monthDay hl.monthDay _ _ _ (hx.monthDay.more _) (hy.monthDay.more _)) (List.prefix_refl _) ?_
    simp only [go_sem, he, setD_some, hx.setPos.one, hy.setPos.one, hx.month.one, hy.month.one, hx.monthDay.one, hy.monthDay.one, hx.yearDay.one, hy.yearDay.one, hx.weekNo.one, hy.weekNo.one, hx.day.one, hy.day.one, hx.hour.one, hy.hour.one, hx.minute.one, hy.minute.one, hx.second.one, hy.second.one, hx.easter.one, hy.easter.one]
    refine callX_of (equalT_A r.yearDay hl.yearDay _ _ _ (hx.yearDay.more _) (hy.yearDay.more _)) (List.prefix_refl _) ?_
    simp only [go_sem, he, setD_some, hx.setPos.one, hy.setPos.one, hx.month.one, hy.month.one, hx.monthDay.one, hy.monthDay.one, hx.yearDay.one, hy.yearDay.one, hx.weekNo.one, hy.weekNo.one, hx.day.one, hy.day.one, hx.hour.one, hy.hour.one, hx.minute.one, hy.minute.one, hx.second.one, hy.second.one, hx.easter.one, hy.easter.one]
    refine callX_of (equalT_A r.weekNo hl.weekNo _ _ _ (hx.weekNo.more _) (hy.weekNo.more _)) (List.prefix_refl _) ?_
    simp only [go_sem, he, setD_some, hx.setPos.one, hy.setPos.one, hx.month.one, hy.month.one, hx.monthDay.one, hy.monthDay.one, hx.yearDay.one, hy.yearDay.one, hx.weekNo.one, hy.weekNo.one, hx.day.one, hy.day.one, hx.hour.one, hy.hour.one, hx.minute.one, hy.minute.one, hx.second.one, hy.second.one, hx.easter.one, hy.easter.one]
    refine callX_of (equalD_A r.day (by have := hl.day; omega) _ _ _ (hx.day.more _) (hy.day.more _)) (List.prefix_refl _) ?_
    simp only [go_sem, he, setD_some, hx.setPos.one, hy.setPos.one, hx.month.one, hy.month.one, hx.monthDay.one, hy.monthDay.one, hx.yearDay.one, hy.yearDay.one, hx.weekNo.one, hy.weekNo.one, hx.day.one, hy.day.one, hx.hour.one, hy.hour.one, hx.minute.one, hy.minute.one, hx.second.one, hy.second.one, hx.easter.one, hy.easter.one]
    refine callX_of (equalT_A r.hour hl.hour _ _ _ (hx.hour.more _) (hy.hour.more _)) (List.prefix_refl _) ?_
    simp only [go_sem, he, setD_some, hx.setPos.one, hy.setPos.one, hx.month.one, hy.month.one, hx.monthDay.one, hy.monthDay.one, hx.yearDay.one, hy.yearDay.one, hx.weekNo.one, hy.weekNo.one, hx.day.one, hy.day.one, hx.hour.one, hy.hour.one, hx.minute.one, hy.minute.one, hx.second.one, hy.second.one, hx.easter.one, hy.easter.one]
    refine callX_of (equalT_A r.minute hl.minute _ _ _ (hx.minute.more _) (hy.minute.more _)) (List.prefix_refl _) ?_
    simp only [go_sem, he, setD_some, hx.setPos.one, hy.setPos.one, hx.month.one, hy.month.one, hx.monthDay.one, hy.monthDay.one, hx.yearDay.one, hy.yearDay.one, hx.weekNo.one, hy.weekNo.one, hx.day.one, hy.day.one, hx.hour.one, hy.hour.one, hx.minute.one, hy.minute.one, hx.second.one, hy.second.one, hx.easter.one, hy.easter.one]
    refine callX_of (equalT_A r.second hl.second _ _ _ (hx.second.more _) (hy.second.more _)) (List.prefix_refl _) ?_
    simp only [go_sem, he, setD_some, hx.setPos.one, hy.setPos.one, hx.month.one, hy.month.one, hx.monthDay.one, hy.monthDay.one, hx.yearDay.one, hy.yearDay.one, hx.weekNo.one, hy.weekNo.one, hx.day.one, hy.day.one, hx.hour.one, hy.hour.one, hx.minute.one, hy.minute.one, hx.second.one, hy.second.one, hx.easter.one, hy.easter.one]
    refine callX_of (equalT_A r.easter hl.easter _ _ _ (hx.easter.more _) (hy.easter.more _)) (List.prefix_refl _) ?_
    simp only [go_sem, he, setD_some, hx.setPos.one, hy.setPos.one, hx.month.one, hy.month.one, hx.monthDay.one, hy.monthDay.one, hx.yearDay.one, hy.yearDay.one, hx.weekNo.one, hy.weekNo.one, hx.day.one, hy.day.one, hx.hour.one, hy.hour.one, hx.minute.one, hy.minute.one, hx.second.one, hy.second.one, hx.easter.one, hy.easter.one]
    exact ⟨_, rfl⟩
theorem textSame_A {w0 : World} (r : Ru) (hl : Few r) (a b : Int) (hab : max a 1 = max b 1) (x y : Rs) (H : Heap) (hx : RuAt H r x) (hy : RuAt H r y) : ACalls Tryz.prog (CB w0) 16 [.agg (ruCells { r with interval := a } x), .agg (ruCells { r with interval := b } y)] H fun v H' => v = vB true ∧ H' = H := by
  refine ACalls.flat rfl ?_
  refine A_fun (N := 16) (rs := [.tmp 4]) Tryz.func16 rfl rfl rfl (by kernel_rfl) (by kernel_rfl) (Nat.le_of_ble_eq_true rfl) ?_
  rintro e he ⟨g0, g1, -⟩
  unfold ruCells at g0 g1
  simp only at g0 g1
  simp only [go_sem, he, g0, g1, hx.setPos.one, hy.setPos.one, hx.month.one, hy.month.one, hx.monthDay.one, hy.monthDay.one, hx.yearDay.one, hy.yearDay.one, hx.weekNo.one, hy.weekNo.one, hx.day.one, hy.day.one, hx.hour.one, hy.hour.one, hx.minute.one, hy.minute.one, hx.second.one, hy.second.one, hx.easter.one, hy.easter.one]
  have sm := same_A (w0 := w0) { r with interval := max a 1 } ⟨hl.setPos, hl.month, hl.monthDay, hl.yearDay, hl.weekNo, hl.day, hl.hour, hl.minute, hl.second, hl.easter⟩ x y
  unfold ruCells at sm
  simp only at sm
  rw [hab] at sm
  refine acode_order2 [] 4 7 [0, 1, 2, 3, 4, 5, 6, 7, 8, 9] [0, 1, 2, 6, 7, 3, 4, 5, 8, 9] mixed (by kernel_rfl) (by kernel_rfl) rfl (by kernel_rfl) (by kernel_rfl) ?_ ?_
  all_goals
    simp only [go_sem, he, g0, g1, hab, hx.setPos.one, hy.setPos.one, hx.month.one, hy.month.one, hx.monthDay.one, hy.monthDay.one, hx.yearDay.one, hy.yearDay.one, hx.weekNo.one, hy.weekNo.one, hx.day.one, hy.day.one, hx.hour.one, hy.hour.one, hx.minute.one, hy.minute.one, hx.second.one, hy.second.one, hx.easter.one, hy.easter.one]
    refine callX_of (sm _ ⟨hx.setPos.more _, hx.month.more _, hx.monthDay.more _, hx.yearDay.more _, hx.weekNo.more _, hx.day.more _, hx.hour.more _, hx.minute.more _, hx.second.more _, hx.easter.more _⟩ ⟨hy.setPos.more _, hy.month.more _, hy.monthDay.more _, hy.yearDay.more _, hy.weekNo.more _, hy.day.more _, hy.hour.more _, hy.minute.more _, hy.second.more _, hy.easter.more _⟩) (List.prefix_refl _) ?_
    simp only [go_sem, he, setD_some]
    exact ⟨_, rfl⟩
theorem IntsOwn.ints {h : Heap} {x : AV} {l : List Int} (hx : IntsOwn h x l) : IntsAt h x l := by
  rcases hx with ⟨rfl, rfl⟩ | ⟨q, rfl, h1⟩
  · exact .inl ⟨rfl, rfl⟩
  · refine .inr ⟨true, q, 0, _, rfl, by rw [h1]; rfl, fun i hi => ?_⟩
    have hi : i < l.length := by omega
    rw [Nat.zero_add, List.getElem?_map]
    show Option.map vI l[i]? = some (vI (l.getD i 0))
    rw [List.getD_eq_getElem?_getD, List.getElem?_eq_getElem hi]
    rfl
theorem dcells_get : ∀ (l : List (Int × Int)) (i : Nat), i < l.length * 2 → (dcells l)[i]? = some (if i % 2 = 0 then vI (l.getD (i / 2) (0, 0)).1 else vI (l.getD (i / 2) (0, 0)).2)
  | [], i, h => by simp at h
  | d :: l, 0, h => rfl
  | d :: l, 1, h => rfl
  | d :: l, i + 2, h => by
    have := dcells_get l i (by simp only [List.length_cons] at h; omega)
    have e : dcells (d :: l) = vI d.1 :: vI d.2 :: dcells l := rfl
    rw [e, List.getElem?_cons_succ, List.getElem?_cons_succ, this, show (i + 2) % 2 = i % 2 by omega, show (i + 2) / 2 = i / 2 + 1 by omega]
    rfl
theorem DaysO.days {t : TypeId} {h : Heap} {x : AV} {l : List (Int × Int)} (hx : DaysO t h x l) : DaysAt h x l := by
  rcases hx with ⟨rfl, rfl⟩ | ⟨q, rfl, h1⟩
  · exact .inl ⟨rfl, rfl⟩
  · exact .inr ⟨true, q, 0, _, rfl, by rw [h1]; rfl, fun i hi => by rw [Nat.zero_add]; exact dcells_get l i hi⟩
theorem RuOwn.at {h : Heap} {r : Ru} {x : Rs} (hx : RuOwn h r x) : RuAt h r x := ⟨hx.setPos.ints, hx.month.ints, hx.monthDay.ints, hx.yearDay.ints, hx.weekNo.ints, hx.day.days, hx.hour.ints, hx.minute.ints, hx.second.ints, hx.easter.ints⟩
theorem RuW.at {h : Heap} {r : Ru} {x : Rs} (hx : RuW h r x) : RuAt h r x := ⟨hx.setPos.ints, hx.month.ints, hx.monthDay.ints, hx.yearDay.ints, hx.weekNo.ints, hx.day.days, hx.hour.ints, hx.minute.ints, hx.second.ints, hx.easter.ints⟩
theorem ofRule_A {w0 : World} (r : Ru) (hdl : r.day.length ≤ 1000000) (x : Rs) (H : Heap) (hx : RuAt H r x) : ACalls Tryz.prog (CB w0) 17 [.agg (ruCells r x)] H fun v H' => (∃ y, v = .agg (ruCells r y) ∧ RuAt H' r y) ∧ ∃ G, H' = H ++ G := by
  refine A_fun (N := 56) (rs := [.cell 2 25]) Tryz.func17 rfl rfl rfl (by kernel_rfl) (by kernel_rfl) (Nat.le_of_ble_eq_true rfl) ?_
  rintro e he ⟨g0, -⟩
  unfold ruCells at g0
  have hdl' := hx.day.len 52
  simp only [go_sem, he, g0, hdl', avCells_one hx.setPos.one, avCells_one hx.month.one, avCells_one hx.monthDay.one, avCells_one hx.yearDay.one, avCells_one hx.weekNo.one, avCells_one hx.hour.one, avCells_one hx.minute.one, avCells_one hx.second.one, avCells_one hx.easter.one, hx.setPos.one, hx.month.one, hx.monthDay.one, hx.yearDay.one, hx.weekNo.one, hx.day.one, hx.hour.one, hx.minute.one, hx.second.one, hx.easter.one]
  refine A_while r.day.length (fun k e h => ∃ (i : Nat) (y : AV) (z : List AV), i + k = r.day.length ∧ len e = 56 ∧ AL.get e 2 = .ptr (H.length + 1) 0 ∧ AL.get e 3 = .ptr (H.length + 2) 0 ∧ AL.get e 42 = x.day ∧ AL.get e 43 = vI r.day.length ∧ AL.get e 44 = vI i ∧ (∃ G, h = H ++ G) ∧ DaysB 47 H.length h y (r.day.take i) ∧ h[H.length + 1]? = some (.own 25 z) ∧ z.length = 18 ∧ h[H.length + 2]? = some (.own 25 (ruCells r { x with day := y }))) (by kernel_rfl) ?_ ?_
  · simp only [go_sem, he, g0]
    exact ⟨0, vNil, _, by omega, rfl, ⟨_, rfl⟩, .inl ⟨rfl, rfl⟩, rfl, rfl, rfl⟩
  · rintro k e h ⟨i, y, z, hik, he, g2, g3, g42, g43, g44, hG, hy, hz, hzl, hr⟩
    simp only [go_sem, he, g2, g3, g42, g43, g44]
    refine condK_of (fun hc => ?_) fun hc => ?_
    · have hc := of_decide_eq_true hc
      have hi : i < r.day.length := by omega
      have hxh : DaysAt h x.day r.day := by obtain ⟨G, rfl⟩ := hG; exact hx.day.more G
      obtain ⟨own, q, off, cs, e1, e2, e3, e4⟩ := hxh.get hi
      have wi : IntKind.i64.wrap ((i : Int) + 1) = ((i + 1 : Nat) : Int) := by rw [wI64 (by omega)]; rfl
      rw [e1] at g42
      generalize hd : r.day.getD i (0, 0) = d at *
      simp only [go_sem, he, g2, g3, g42, g43, g44, e2, e3, e4, Int.toNat_natCast]
      refine ⟨by omega, ?_⟩
      have hr' := get_more (G := [AObj.own 52 [vI d.1, vI d.2]]) hr
      unfold ruCells at hr'
      have hpush := (hy.more [AObj.own 52 [vI d.1, vI d.2]]).push el23 (by obtain ⟨G, rfl⟩ := hG; exact ⟨_, List.append_assoc _ _ _⟩) d (by rw [List.length_take]; omega)
      obtain ⟨x', h', ha, hy', hG', hkeep⟩ := hpush
      have htk : r.day.take (i + 1) = r.day.take i ++ [d] := by rw [List.take_add_one, ← hd, List.getD_eq_getElem?_getD, List.getElem?_eq_getElem hi]; rfl
      rw [← htk] at hy'
      simp only [go_sem, he, g2, g3, g42, g43, g44, hr'] at ha ⊢
      rw [ha]
      have hr2 := hkeep _ _ hr' (by intro cs; simp)
      have hz' := hkeep _ _ (get_more (G := [AObj.own 52 [vI d.1, vI d.2]]) hz) (by intro cs; simp)
      simp only [go_sem, he, g2, g3, g42, g43, g44, hr2, avCells_one hy'.one, wi]
      obtain ⟨G', rfl⟩ := hG'
      refine ⟨k - 1, by omega, i + 1, x', z, by omega, e1.symm, rfl, ⟨_, set_behind (by omega)⟩, hy'.putT hr2 (by decide) _, ?_, hzl, ?_⟩
      · rw [List.getElem?_set_ne (by omega)]; exact hz'
      · rw [List.getElem?_set_self (List.getElem?_eq_some_iff.1 hr2).1]; rfl
    · have hc := of_decide_eq_false hc
      have hi : i = r.day.length := by omega
      rw [hi, List.take_length] at hy
      have hlt1 := (List.getElem?_eq_some_iff.1 hz).1
      have hS : ∀ y : AObj, (h.set (H.length + 1) y)[H.length + 1]? = some y := fun y => List.getElem?_set_self hlt1
      have hr' := hr
      unfold ruCells at hr'
      have hz18 : z.drop 18 = [] := List.drop_eq_nil_of_le (by omega)
      simp only [go_sem, he, g2, g3, g42, g43, g44, hr', hz, hzl, hz18, hS, hy.one, Bool.true_and, hx.setPos.one, hx.month.one, hx.monthDay.one, hx.yearDay.one, hx.weekNo.one, hx.hour.one, hx.minute.one, hx.second.one, hx.easter.one]
      have hy2 := hy.own.putT (y := .own 25 (ruCells r { x with day := y })) hz (by decide)
      obtain ⟨G, rfl⟩ := hG
      have eset := set_behind (H := H) (G := G) (o := H.length + 1) (y := .own 25 (ruCells r { x with day := y })) (by omega)
      refine ⟨⟨{ x with day := y }, rfl, ?_⟩, _, eset⟩
      have hx2 : ∀ G, RuAt (H ++ G) r x := fun G => hx.more G
      have hd2 := hy2.days
      have eset' : List.set (H ++ G) (H.length + 1) (.own 25 [vU r.freq, vB r.hasStart, vI r.start, vI r.interval, vI r.wkst, vI r.count, vB r.hasUntil, vI r.til, x.setPos, x.month, x.monthDay, x.yearDay, x.weekNo, y, x.hour, x.minute, x.second, x.easter]) = H ++ List.set G (H.length + 1 - H.length) (.own 25 (ruCells r { x with day := y })) := eset
      rw [eset']
      rw [eset] at hd2
      exact ⟨(hx2 _).setPos, (hx2 _).month, (hx2 _).monthDay, (hx2 _).yearDay, (hx2 _).weekNo, hd2, (hx2 _).hour, (hx2 _).minute, (hx2 _).second, (hx2 _).easter⟩
end Go.Proofs.YtlfpjdcogkcjlaaGreatDoor.F
/- laws.textRule -/
namespace Go.Proofs.YtlfpjdcogkcjlaaGreatDoor.F
open Go.RowKit Go.Proofs.YtlfpjdcogkcjlaaGreatDoor.AL Go.Proofs.YtlfpjdcogkcjlaaGreatDoor.B
set_option linter.unusedVariables false
theorem floatL_eq {pre cs post : List Nat} {a m : Nat} {l : List Oper} : opsOf (List.toArray l) (floatL pre cs post a m) = opsOf (List.toArray l) pre ++ (opsOf (List.toArray l) (cs.take m ++ a :: cs.drop m) ++ opsOf (List.toArray l) post) := by
  unfold floatL
  rw [opsOf_append, opsOf_append]
def Same3 (h h' : Heap) : Prop := ∀ (q : Nat) (cs : List AV), h[q]? = some (.own 3 cs) → h'[q]? = some (.own 3 cs)
theorem same3_nil {h : Heap} : Same3 [] h := fun q cs hq => by simp at hq
theorem same3_pre {A B : Heap} : Same3 A (A ++ B) := fun q cs hq => get_more hq
theorem same3_refl {A : Heap} : Same3 A A := fun q cs hq => hq
theorem same3_app {A B B' : Heap} (h : Same3 B B') : Same3 (A ++ B) (A ++ B') := fun q cs hq => by
  rcases Nat.lt_or_ge q A.length with hl | hl
  · rw [List.getElem?_append_left hl] at hq ⊢
    exact hq
  · rw [List.getElem?_append_right hl] at hq ⊢
    exact h _ _ hq
theorem same3_cons {x : AObj} {B B' : Heap} (h : Same3 B B') : Same3 (x :: B) (x :: B') := fun q cs hq => by
  cases q with
  | zero => exact hq
  | succ q => exact h q cs hq
theorem same3_own {t : Nat} {z c : List AV} {B B' : Heap} (ht : t ≠ 3) (h : Same3 B B') : Same3 (.own t z :: B) (.own t c :: B') := fun q cs hq => by
  cases q with
  | zero => simp at hq; exact absurd hq.1 ht
  | succ q => exact h q cs hq
theorem IntsOwn.same3 {h h' : Heap} {x : AV} {l : List Int} (hx : IntsOwn h x l) (hk : Same3 h h') : IntsOwn h' x l := by
  rcases hx with hx | ⟨q, h1, h2⟩
  · exact .inl hx
  · exact .inr ⟨q, h1, hk _ _ h2⟩
theorem same3_set {h : Heap} {p t : Nat} {z : List AV} (hp : h[p]? = some (.own t z)) (ht : t ≠ 3) (y : AObj) : Same3 h (h.set p y) := fun q cs hq => by
  by_cases hqp : p = q
  · subst hqp
    rw [hp] at hq
    simp at hq
    exact absurd hq.1 ht
  · rw [List.getElem?_set_ne hqp]
    exact hq
theorem Same3.trans {a b c : Heap} (h : Same3 a b) (k : Same3 b c) : Same3 a c := fun q cs hq => k q cs (h q cs hq)
/-- A rule's lists of numbers, each of the call's own. -/
structure Nine (h : Heap) (r : Ru) (y : Rs) : Prop where
  setPos : IntsOwn h y.setPos r.setPos
  month : IntsOwn h y.month r.month
  monthDay : IntsOwn h y.monthDay r.monthDay
  yearDay : IntsOwn h y.yearDay r.yearDay
  weekNo : IntsOwn h y.weekNo r.weekNo
  hour : IntsOwn h y.hour r.hour
  minute : IntsOwn h y.minute r.minute
  second : IntsOwn h y.second r.second
  easter : IntsOwn h y.easter r.easter
theorem Nine.keep {h h' : Heap} {r : Ru} {y : Rs} (hn : Nine h r y) (k : Same3 h h') : Nine h' r y := ⟨hn.setPos.same3 k, hn.month.same3 k, hn.monthDay.same3 k, hn.yearDay.same3 k, hn.weekNo.same3 k, hn.hour.same3 k, hn.minute.same3 k, hn.second.same3 k, hn.easter.same3 k⟩
set_option linter.unusedVariables false
set_option linter.unusedSimpArgs false
set_option maxRecDepth 20000
attribute [local irreducible] aops acode bindK bindV bindH callX callK condK guardK Kseq Kblk Knorm Kfun Kloop Kjoin outK AWp appendA Ktail
attribute [local go_sem] acode_skip acode_seq acode_region acode_cond acode_block acode_exit acode_ret acode_loop Kseq_normal Kseq_exit Kseq_ret Kblk_normal Kblk_ret Kblk_eq Kblk_ne Knorm_eq Kloop_normal Kloop_exit Kloop_ret Kjoin_normal Kjoin_exit Kjoin_ret condK_true condK_false bindK_put bindV_put bindK_no bindV_no bindH_no aops_nil gops wantK_some wantV_bool wantV_undef guardK_true guardK_false guardK_none aops_move aops_assign aops_pick aops_nilCheck aops_binOp aops_unOp aops_convert aops_fieldAddr aops_indexAddr aops_slice aops_index aops_extract aops_makeInterface aops_makeFunc aops_build aops_load aops_lookup aops_alloc aops_box aops_buildSlice aops_makeSlice aops_makeMap aops_store aops_insert aops_mapUpdate aops_len aops_append aops_call opA_tmp opA_const opA_global opA_func get_mk look_nil look_eq look_ne len_mk List.map_cons List.map_nil Option.map_some Option.map_none bin_add bin_sub bin_mul bin_quo bin_rem bin_eql bin_neq bin_lss bin_leq bin_gtr bin_geq bin_cat bin_seql bin_sneq bin_neq_ifc bin_eql_ifc bin_neq_nn bin_eql_nn bin_neq_ptr bin_eql_ptr bin_neq_pn isIfc_true isPtr_true bin_eql2 bin_neq2 aops_max max_int un_not un_neg lenA_K lenK_str lenK_nil lenK_sl lenK_array pick_bool pick_val bindV_ite bindK_ite bindH_ite slotV_sl slotK_some slotV_ptr slotR_some sliceV_sl cutK_some sliceV_str cutS_some bound_none bound_some indexA_str atS_some mkS fieldV_ptr loadV_ptr cellsK_ro cellsK_own loadK_one loadK_many storeA_ptr storeK_own allocA_some heap_len heap_get0 heap_get heap_set0 heap_set Kfun_ret Kfun_normal resA_nil resA_tmp resA_cell outK_some packA_one packA_nil packA_two List.length_cons List.length_nil List.getElem?_cons_zero List.getElem?_cons_succ List.set_cons_zero List.set_cons_succ List.cons_append List.nil_append List.append_assoc Nat.zero_add Nat.add_zero List.all_cons List.all_nil Value.oneCell' Bool.and_true Bool.and_self if_true if_false Bool.false_eq_true partsA buildV buildA fillA Option.bind_some putCells List.drop_succ_cons List.drop_zero List.take_succ_cons List.take_zero List.take_nil List.drop_nil and_self and_true true_and Option.some.injEq ne_eq not_false_eq_true Option.map_map List.getElem?_toArray beq_self_eq_true Bool.true_beq Bool.false_beq Bool.not_true Bool.not_false decide_true decide_false beq_true Nat.mul_one Nat.one_mul Nat.zero_mul bsA buildSliceA zerosN List.append_nil Int.toNat_natCast Int.toNat_zero boxA one_val one_ptr one_sl one_mp one_ifc one_fn avCells_agg avCells_val valCells_true valCells_agg avCells_ptr avCells_sl avCells_mp avCells_ifc avCells_fn app_cons app_nil lookupA insertA ifaceV extractA kd2 ars127 fp127 ars60 fp60 ars31 fp31 eq2_99 eq2_84 eq2_47 fp52 sz2 kd3 sz3 kd4 sz4 kd5 sz5 kd9 sz9 kd22 sz22 el22 kd23 sz23 el23 kd25 sz25 zc25 fp25 fo25_0 fo25_1 fo25_2 fo25_3 fo25_4 fo25_5 fo25_6 fo25_7 fo25_8 fo25_9 fo25_10 fo25_11 fo25_12 fo25_13 fo25_14 fo25_15 fo25_16 fo25_17 kd31 sz31 zc31 ar31 kd32 sz32 el32 kd34 sz34 zc34 fp34 fo34_0 fo34_1 fo34_2 fo34_3 fo34_4 fo34_5 fo34_6 fo34_7 fo34_8 fo34_9 fo34_10 fo34_11 fo34_12 fo34_13 fo34_14 fo34_15 fo34_16 fo34_17 el38 el42 kd47 sz47 zc47 fp47 fo47_0 fo47_1 kd52 sz52 zc52 fo52_0 el55 zc60 kd72 sz72 zc72 fp72 fo72_0 fo72_1 el73 kd80 sz80 kd84 sz84 zc84 fp84 fo84_0 fo84_1 kd88 sz88 zc88 fp88 fo88_0 fo88_1 fo88_2 fo88_3 kd91 sz91 zc91 fp91 fo91_0 fo91_1 fo91_2 el94 kd99 sz99 zc99 fp99 fo99_0 fo99_1 kd100 sz100 el100 kd102 sz102 zc102 fp102 fo102_0 fo102_1 fo102_2 fo102_3 fo102_4 fo102_5 fo102_6 fo102_7 fo102_8 fo102_9 fo102_10 fo102_11 fo102_12 fo102_13 fo102_14 fo102_15 kd109 sz109 zc109 fp109 isStrMap124 zv80 zc127 kd153 sz153 zc153 ar153 isIface157 kd159 sz159 zc159 fp159 isStrMap177 zv84 Tryz.underlying3 Tryz.underlying4 Tryz.underlying5 Tryz.underlying9 Tryz.underlying21 Tryz.underlying22 Tryz.underlying23 Tryz.underlying32 Tryz.underlying38 Tryz.underlying42 Tryz.underlying47 Tryz.underlying55 Tryz.underlying67 Tryz.underlying73 Tryz.underlying80 Tryz.underlying84 Tryz.underlying94 Tryz.underlying100 Tryz.underlying2 Tryz.underlying127 Tryz.underlying60 Tryz.underlying31 kd55 ai60 ai127 indexA_agg atK_some isStrMap76 zv4 Ktail_eq opsOf_nil opsOf_cons consO_some
attribute [local go_sem_proc] Nat.reduceLT Nat.reduceBEq Nat.reduceAdd Int.reduceBEq Nat.reduceLeDiff reduceIte Nat.reduceEqDiff Int.reduceEq Int.reduceLE Int.reduceLT Int.reduceNe Nat.reduceMul Nat.reduceSub Int.reduceToNat
theorem callX_clone {w0 : World} (l : List Int) (hl : l.length ≤ 1000000) (x : AV) {H : Heap} (hx : IntsAt H x l) {ops : Array Oper} {rest : List Oper} {env : Env} {dst : Option Nat} {K : Env → Heap → Prop}
    (hk : ∀ y G, IntsOwn (H ++ G) y l → aops Tryz.prog (CB w0) (some []) ops rest (setD env dst y) (H ++ G) K) : callX Tryz.prog (CB w0) (some []) 52 [x] H ops rest env dst K := by
  have hex : ∃ y G, IntsOwn (H ++ G) y l := by
    refine ⟨.sl true H.length 0 l.length 1, [.own 3 (l.map vI)], .inr ⟨_, rfl, by rw [heap_get0]; rfl⟩⟩
  obtain ⟨y0, G0, h0⟩ := hex
  refine callX_many (clone_A l hl x H hx) (by rintro _ _ ⟨-, G, rfl⟩; exact List.prefix_append _ _) ⟨y0, _, h0, G0, rfl⟩ ?_
  rintro v h ⟨hy, G, rfl⟩
  exact hk v G hy
set_option maxHeartbeats 4000000 in
theorem textRule_A {w0 : World} (r : Ru) (hf : Few r) (x : Rs) (H : Heap) (hx : RuAt H r x) : ACalls Tryz.prog (CB w0) 29 [.agg (ruCells r x)] H fun v H' => (∃ y, v = .agg (ruCells r y) ∧ RuAt H' r y) ∧ ∃ G, H' = H ++ G := by
  refine A_fun (N := 65) (rs := [.cell 2 34]) Tryz.func29 rfl rfl rfl (by kernel_rfl) (by kernel_rfl) (Nat.le_of_ble_eq_true rfl) ?_
  rintro e he ⟨g0, -⟩
  unfold ruCells at g0
  have hdl' := hx.day.len 47
  simp only [go_sem, he, g0, hdl', avCells_one hx.setPos.one, avCells_one hx.month.one, avCells_one hx.monthDay.one, avCells_one hx.yearDay.one, avCells_one hx.weekNo.one, avCells_one hx.hour.one, avCells_one hx.minute.one, avCells_one hx.second.one, avCells_one hx.easter.one, hx.setPos.one, hx.month.one, hx.monthDay.one, hx.yearDay.one, hx.weekNo.one, hx.day.one, hx.hour.one, hx.minute.one, hx.second.one, hx.easter.one]
  refine acode_join (fun e h => ∃ (p : Nat) (z : List AV) (y : Rs), len e = 65 ∧ AL.get e 1 = .ptr H.length 0 ∧ AL.get e 2 = .ptr (H.length + 1) 0 ∧ AL.get e 3 = .ptr p 0 ∧ (∃ G, h = H ++ G) ∧ h[H.length]? = some (.own 25 (ruCells r x)) ∧ h[H.length + 1]? = some (.own 34 z) ∧ z.length = 18 ∧ H.length + 2 ≤ p ∧ h[p]? = some (.own 34 (ruCells r { y with day := vNil })) ∧
    Nine h r y) ?_ ?_
  · refine acode_float [] 44 [0, 1, 2, 3, 4, 5, 6, 7, 8, 9, 10, 11, 12, 13, 14, 15, 16, 17, 19, 20, 22, 23, 25, 26, 28, 29, 31, 32, 34, 35, 37, 38, 40, 41] [18, 21, 24, 27, 30, 33, 36, 39, 42] [43, 45] mixed (by kernel_rfl) (by kernel_rfl) rfl (by kernel_rfl) (by kernel_rfl) fun m hm => ?_
    rw [floatL_eq]
    simp only [go_sem, he, g0, hdl', avCells_one hx.setPos.one, avCells_one hx.month.one, avCells_one hx.monthDay.one, avCells_one hx.yearDay.one, avCells_one hx.weekNo.one, avCells_one hx.hour.one, avCells_one hx.minute.one, avCells_one hx.second.one, avCells_one hx.easter.one, hx.setPos.one, hx.month.one, hx.monthDay.one, hx.yearDay.one, hx.weekNo.one, hx.day.one, hx.hour.one, hx.minute.one, hx.second.one, hx.easter.one]
    have hm9 : m = 0 ∨ m = 1 ∨ m = 2 ∨ m = 3 ∨ m = 4 ∨ m = 5 ∨ m = 6 ∨ m = 7 ∨ m = 8 ∨ m = 9 := by simp only [List.length_cons, List.length_nil] at hm; omega
    clear hm
    rcases hm9 with rfl | rfl | rfl | rfl | rfl | rfl | rfl | rfl | rfl | rfl
    all_goals
      simp only [go_sem, he]
      refine callX_clone r.setPos hf.setPos x.setPos (hx.setPos.more _) fun y1 G1 i1 => ?_
      simp only [go_sem, he, setD_some] at i1 ⊢
      refine callX_clone r.month hf.month x.month (hx.month.more _) fun y2 G2 i2 => ?_
      simp only [go_sem, he, setD_some] at i2 ⊢
      refine callX_clone r.monthDay hf.monthDay x.monthDay (hx.monthDay.more _) fun y3 G3 i3 => ?_
      simp only [go_sem, he, setD_some] at i3 ⊢
      refine callX_clone r.yearDay hf.yearDay x.yearDay (hx.yearDay.more _) fun y4 G4 i4 => ?_
      simp only [go_sem, he, setD_some] at i4 ⊢
      refine callX_clone r.weekNo hf.weekNo x.weekNo (hx.weekNo.more _) fun y5 G5 i5 => ?_
      simp only [go_sem, he, setD_some] at i5 ⊢
      refine callX_clone r.hour hf.hour x.hour (hx.hour.more _) fun y6 G6 i6 => ?_
      simp only [go_sem, he, setD_some] at i6 ⊢
      refine callX_clone r.minute hf.minute x.minute (hx.minute.more _) fun y7 G7 i7 => ?_
      simp only [go_sem, he, setD_some] at i7 ⊢
      refine callX_clone r.second hf.second x.second (hx.second.more _) fun y8 G8 i8 => ?_
      simp only [go_sem, he, setD_some] at i8 ⊢
      refine callX_clone r.easter hf.easter x.easter (hx.easter.more _) fun y9 G9 i9 => ?_
      simp only [go_sem, he, setD_some, i1.one, i2.one, i3.one, i4.one, i5.one, i6.one, i7.one, i8.one, avCells_one i1.one, avCells_one i2.one, avCells_one i3.one, avCells_one i4.one, avCells_one i5.one, avCells_one i6.one, avCells_one i7.one, avCells_one i8.one, avCells_one i9.one, i9.one] at i9 ⊢
    all_goals
      refine ⟨_, _, ⟨y1, y2, y3, y4, y5, vNil, y6, y7, y8, y9⟩, rfl, ⟨_, rfl⟩, rfl, rfl, rfl, by omega, by simp only [go_sem]; rfl, ?_⟩
      exact ⟨i1.same3 (by repeat first | apply same3_app | apply same3_cons | apply same3_own (by decide) | exact same3_pre | exact same3_refl | exact same3_nil), i2.same3 (by repeat first | apply same3_app | apply same3_cons | apply same3_own (by decide) | exact same3_pre | exact same3_refl | exact same3_nil), i3.same3 (by repeat first | apply same3_app | apply same3_cons | apply same3_own (by decide) | exact same3_pre | exact same3_refl | exact same3_nil), i4.same3 (by repeat first | apply same3_app | apply same3_cons | apply same3_own (by decide) | exact same3_pre | exact same3_refl | exact same3_nil), i5.same3 (by repeat first | apply same3_app | apply same3_cons | apply same3_own (by decide) | exact same3_pre | exact same3_refl | exact same3_nil), i6.same3 (by repeat first | apply same3_app | apply same3_cons | apply same3_own (by decide) | exact same3_pre | exact same3_refl | exact same3_nil), i7.same3 (by repeat first | apply same3_app | apply same3_cons | apply same3_own (by decide) | exact same3_pre | exact same3_refl | exact same3_nil), i8.same3 (by repeat first | apply same3_app | apply same3_cons | apply same3_own (by decide) | exact same3_pre | exact same3_refl | exact same3_nil), i9.same3 (by repeat first | apply same3_app | apply same3_cons | apply same3_own (by decide) | exact same3_pre | exact same3_refl | exact same3_nil)⟩
  · rintro e h ⟨p, z, y, he, g1, g2, g3, hG, hbx, hz, hzl, hp2, hp, hn⟩
    unfold ruCells at hbx
    simp only [go_sem, he, g1, g2, g3, hbx, hdl']
    refine A_while r.day.length (fun k e h => ∃ (i : Nat) (yd : AV) (z : List AV), i + k = r.day.length ∧ len e = 65 ∧ AL.get e 2 = .ptr (H.length + 1) 0 ∧ AL.get e 3 = .ptr p 0 ∧ AL.get e 51 = x.day ∧ AL.get e 52 = vI r.day.length ∧ AL.get e 53 = vI i ∧ (∃ G, h = H ++ G) ∧ DaysB 52 H.length h yd (r.day.take i) ∧ h[H.length + 1]? = some (.own 34 z) ∧ z.length = 18 ∧ h[p]? = some (.own 34 (ruCells r { y with day := yd })) ∧ Nine h r y) (by kernel_rfl) ?_ ?_
    · simp only [go_sem, he, g1, g2, g3]
      exact ⟨0, vNil, z, by omega, rfl, hG, .inl ⟨rfl, rfl⟩, hz, hzl, hp, hn⟩
    · clear hG hz hzl hp hn hbx g1 g2 g3 he
      rintro k e h ⟨i, yd, z, hik, he, g2, g3, g51, g52, g53, hG, hy, hz, hzl, hr, hn⟩
      simp only [go_sem, he, g2, g3, g51, g52, g53]
      refine condK_of (fun hc => ?_) fun hc => ?_
      · have hc := of_decide_eq_true hc
        have hi : i < r.day.length := by omega
        have hxh : DaysAt h x.day r.day := by obtain ⟨G, rfl⟩ := hG; exact hx.day.more G
        obtain ⟨own, q, off, cs, e1, e2, e3, e4⟩ := hxh.get hi
        have hdl := hf.day
        have wi : IntKind.i64.wrap ((i : Int) + 1) = ((i + 1 : Nat) : Int) := by rw [wI64 (by omega)]; rfl
        rw [e1] at g51
        generalize hd : r.day.getD i (0, 0) = d at *
        simp only [go_sem, he, g2, g3, g51, g52, g53, e2, e3, e4, Int.toNat_natCast]
        refine ⟨by omega, ?_⟩
        have hr' := get_more (G := [AObj.own 47 [vI d.1, vI d.2]]) hr
        unfold ruCells at hr'
        have hpush := (hy.more [AObj.own 47 [vI d.1, vI d.2]]).push el32 (by obtain ⟨G, rfl⟩ := hG; exact ⟨_, List.append_assoc _ _ _⟩) d (by rw [List.length_take]; omega)
        obtain ⟨x', h', ha, hy', hG', hkeep⟩ := hpush
        have htk : r.day.take (i + 1) = r.day.take i ++ [d] := by rw [List.take_add_one, ← hd, List.getD_eq_getElem?_getD, List.getElem?_eq_getElem hi]; rfl
        rw [← htk] at hy'
        simp only [go_sem, he, g2, g3, g51, g52, g53, hr'] at ha ⊢
        rw [ha]
        have hr2 := hkeep _ _ hr' (by intro cs; simp)
        have hz' := hkeep _ _ (get_more (G := [AObj.own 47 [vI d.1, vI d.2]]) hz) (by intro cs; simp)
        have hn' : Nine h' r y := hn.keep fun q cs hq => hkeep _ _ (get_more (G := [AObj.own 47 [vI d.1, vI d.2]]) hq) (by intro cs; simp)
        simp only [go_sem, he, g2, g3, g51, g52, g53, hr2, avCells_one hy'.one, wi]
        obtain ⟨G', rfl⟩ := hG'
        refine ⟨k - 1, by omega, i + 1, x', z, by omega, e1.symm, rfl, ⟨_, set_behind (by omega)⟩, hy'.putT hr2 (by decide) _, ?_, hzl, ?_, hn'.keep (same3_set hr2 (by decide) _)⟩
        · rw [List.getElem?_set_ne (by omega)]; exact hz'
        · rw [List.getElem?_set_self (List.getElem?_eq_some_iff.1 hr2).1]; rfl
      · have hc := of_decide_eq_false hc
        have hi : i = r.day.length := by omega
        rw [hi, List.take_length] at hy
        have hlt1 := (List.getElem?_eq_some_iff.1 hz).1
        have hS : ∀ y : AObj, (h.set (H.length + 1) y)[H.length + 1]? = some y := fun y => List.getElem?_set_self hlt1
        have hr' := hr
        unfold ruCells at hr'
        have hz18 : z.drop 18 = [] := List.drop_eq_nil_of_le (by omega)
        simp only [go_sem, he, g2, g3, g51, g52, g53, hr', hz, hzl, hz18, hS, hy.one, Bool.true_and, hn.setPos.one, hn.month.one, hn.monthDay.one, hn.yearDay.one, hn.weekNo.one, hn.hour.one, hn.minute.one, hn.second.one, hn.easter.one]
        have hy2 := (hy.own.putT (y := .own 34 (ruCells r { y with day := yd })) hz (by decide)).days
        have hn2 := hn.keep (same3_set hz (by decide) (.own 34 (ruCells r { y with day := yd })))
        obtain ⟨G, rfl⟩ := hG
        exact ⟨⟨{ y with day := yd }, rfl, ⟨hn2.setPos.ints, hn2.month.ints, hn2.monthDay.ints, hn2.yearDay.ints, hn2.weekNo.ints, hy2, hn2.hour.ints, hn2.minute.ints, hn2.second.ints, hn2.easter.ints⟩⟩, _, set_behind (by omega)⟩
end Go.Proofs.YtlfpjdcogkcjlaaGreatDoor.F
