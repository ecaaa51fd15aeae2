/- Texts are taken apart where they were put together. -/
import Derived.Test.YtlfpjdcogkcjlaaGreatDoorT24
namespace Go.Proofs.YtlfpjdcogkcjlaaGreatDoor.F
open Go.RowKit Go.Proofs.YtlfpjdcogkcjlaaGreatDoor.AL Go.Proofs.YtlfpjdcogkcjlaaGreatDoor.B
set_option linter.unusedVariables false
set_option linter.unusedSimpArgs false
set_option maxRecDepth 20000
attribute [local irreducible] aops acode bindK bindV bindH callX callK condK guardK Kseq Kblk Knorm Kfun Kloop Kjoin outK AWp appendA
attribute [local go_sem] acode_skip acode_seq acode_region acode_cond acode_block acode_exit acode_ret acode_loop Kseq_normal Kseq_exit Kseq_ret Kblk_normal Kblk_ret Kblk_eq Kblk_ne Knorm_eq Kloop_normal Kloop_exit Kloop_ret Kjoin_normal Kjoin_exit Kjoin_ret condK_true condK_false bindK_put bindV_put bindK_no bindV_no bindH_no aops_nil gops wantK_some wantV_bool wantV_undef guardK_true guardK_false guardK_none aops_move aops_assign aops_pick aops_nilCheck aops_binOp aops_unOp aops_convert aops_fieldAddr aops_indexAddr aops_slice aops_index aops_extract aops_makeInterface aops_makeFunc aops_build aops_load aops_lookup aops_alloc aops_box aops_buildSlice aops_makeSlice aops_makeMap aops_store aops_insert aops_mapUpdate aops_len aops_append aops_call opA_tmp opA_const opA_global opA_func get_mk look_nil look_eq look_ne len_mk List.map_cons List.map_nil Option.map_some Option.map_none bin_add bin_sub bin_mul bin_quo bin_rem bin_eql bin_neq bin_lss bin_leq bin_gtr bin_geq bin_cat bin_seql bin_sneq bin_neq_ifc bin_eql_ifc bin_neq_nn bin_eql_nn bin_neq_ptr bin_eql_ptr bin_neq_pn isIfc_true isPtr_true bin_eql2 bin_neq2 aops_max max_int un_not un_neg lenA_K lenK_str lenK_nil lenK_sl lenK_array pick_bool pick_val bindV_ite bindK_ite bindH_ite slotV_sl slotK_some slotV_ptr slotR_some sliceV_sl cutK_some sliceV_str cutS_some bound_none bound_some indexA_str atS_some mkS fieldV_ptr loadV_ptr cellsK_ro cellsK_own loadK_one loadK_many storeA_ptr storeK_own allocA_some heap_len heap_get0 heap_get heap_set0 heap_set Kfun_ret Kfun_normal resA_nil resA_tmp resA_cell outK_some packA_one packA_nil packA_two List.length_cons List.length_nil List.getElem?_cons_zero List.getElem?_cons_succ List.set_cons_zero List.set_cons_succ List.cons_append List.nil_append List.append_assoc Nat.zero_add Nat.add_zero List.all_cons List.all_nil Value.oneCell' Bool.and_true Bool.and_self if_true if_false Bool.false_eq_true partsA buildV buildA fillA Option.bind_some putCells List.drop_succ_cons List.drop_zero List.take_succ_cons List.take_zero List.take_nil List.drop_nil and_self and_true true_and Option.some.injEq ne_eq not_false_eq_true Option.map_map List.getElem?_toArray beq_self_eq_true Bool.true_beq Bool.false_beq Bool.not_true Bool.not_false decide_true decide_false beq_true Nat.mul_one Nat.one_mul Nat.zero_mul bsA buildSliceA zerosN List.append_nil Int.toNat_natCast Int.toNat_zero boxA one_val one_ptr one_sl one_mp one_ifc one_fn avCells_agg avCells_val valCells_true valCells_agg avCells_ptr avCells_sl avCells_mp avCells_ifc avCells_fn app_cons app_nil lookupA insertA ifaceV extractA kd2 ars127 fp127 ars60 fp60 ars31 fp31 eq2_99 eq2_84 eq2_47 fp52 sz2 kd3 sz3 kd4 sz4 kd5 sz5 kd9 sz9 kd22 sz22 el22 kd23 sz23 el23 kd25 sz25 zc25 fp25 fo25_0 fo25_1 fo25_2 fo25_3 fo25_4 fo25_5 fo25_6 fo25_7 fo25_8 fo25_9 fo25_10 fo25_11 fo25_12 fo25_13 fo25_14 fo25_15 fo25_16 fo25_17 kd31 sz31 zc31 ar31 kd32 sz32 el32 kd34 sz34 zc34 fp34 fo34_0 fo34_1 fo34_2 fo34_3 fo34_4 fo34_5 fo34_6 fo34_7 fo34_8 fo34_9 fo34_10 fo34_11 fo34_12 fo34_13 fo34_14 fo34_15 fo34_16 fo34_17 el38 el42 kd47 sz47 zc47 fp47 fo47_0 fo47_1 kd52 sz52 zc52 fo52_0 el55 zc60 kd72 sz72 zc72 fp72 fo72_0 fo72_1 el73 isStrMap76 zv4 kd80 sz80 kd84 sz84 zc84 fp84 fo84_0 fo84_1 kd88 sz88 zc88 fp88 fo88_0 fo88_1 fo88_2 fo88_3 kd91 sz91 zc91 fp91 fo91_0 fo91_1 fo91_2 el94 kd99 sz99 zc99 fp99 fo99_0 fo99_1 kd100 sz100 el100 kd102 sz102 zc102 fp102 fo102_0 fo102_1 fo102_2 fo102_3 fo102_4 fo102_5 fo102_6 fo102_7 fo102_8 fo102_9 fo102_10 fo102_11 fo102_12 fo102_13 fo102_14 fo102_15 kd109 sz109 zc109 fp109 isStrMap124 zv80 zc127 kd153 sz153 zc153 ar153 isIface157 kd159 sz159 zc159 fp159 isStrMap177 zv84 Tryz.underlying3 Tryz.underlying4 Tryz.underlying5 Tryz.underlying9 Tryz.underlying21 Tryz.underlying22 Tryz.underlying23 Tryz.underlying32 Tryz.underlying38 Tryz.underlying42 Tryz.underlying47 Tryz.underlying55 Tryz.underlying67 Tryz.underlying73 Tryz.underlying80 Tryz.underlying84 Tryz.underlying94 Tryz.underlying100 Tryz.underlying2 Tryz.underlying127 Tryz.underlying60 Tryz.underlying31
theorem idx_no {c : UInt8} : ∀ {s : List UInt8}, c ∉ s → idx c s = none
  | [], _ => rfl
  | b :: r, h => by
    rw [idx, if_neg (fun e => h (by simp [e])), idx_no fun hr => h (List.mem_cons_of_mem _ hr)]; rfl
theorem idx_at {c : UInt8} {b : List UInt8} : ∀ {a : List UInt8}, c ∉ a → idx c (a ++ c :: b) = some a.length
  | [], _ => by simp [idx]
  | d :: a, h => by
    rw [List.cons_append, idx, if_neg (fun e => h (by simp [e])), idx_at fun hr => h (List.mem_cons_of_mem _ hr)]
    rfl
theorem splitN_join {c : UInt8} : ∀ {l : List (List UInt8)} {k : Nat}, l ≠ [] → (∀ s ∈ l, c ∉ s) → l.length ≤ k + 1 → splitN c k (joinB c l) = l
  | [], _, h, _, _ => absurd rfl h
  | [a], k, _, h, _ => by
    show splitN c k a = [a]
    cases k with
    | zero => rfl
    | succ k => rw [splitN, idx_no (h a (by simp))]
  | a :: b :: r, k, _, h, hk => by
    show splitN c k (a ++ c :: joinB c (b :: r)) = _
    cases k with
    | zero => simp at hk
    | succ k =>
      rw [splitN, idx_at (h a (by simp))]
      simp only
      rw [List.take_left, show (a ++ c :: joinB c (b :: r)).drop (a.length + 1) = joinB c (b :: r) by
        rw [← List.drop_drop, List.drop_left]; rfl]
      rw [splitN_join (by simp) (fun s hs => h s (List.mem_cons_of_mem _ hs)) (by simp at hk ⊢; omega)]
theorem joinB_len {c : UInt8} : ∀ (l : List (List UInt8)), l.length ≤ (joinB c l).length + 1
  | [] => by simp
  | [a] => by simp [joinB]
  | a :: b :: r => by
    have := joinB_len (c := c) (b :: r)
    show (b :: r).length + 1 ≤ (a ++ c :: joinB c (b :: r)).length + 1
    simp only [List.length_append, List.length_cons] at this ⊢
    omega
theorem split_join {c : UInt8} {l : List (List UInt8)} (h0 : l ≠ []) (h : ∀ s ∈ l, c ∉ s) : split c (joinB c l) = l := by
  unfold split
  exact splitN_join h0 h (by have := joinB_len (c := c) l; omega)
theorem split_kv {p : KV} (h : kvOk p) : split 61 (kvT p) = [p.1, p.2] := by
  have h1 : (61 : UInt8) ∉ p.1 := fun hm => by have := h.1 _ hm; simp [okB] at this
  have h2 : (61 : UInt8) ∉ p.2 := fun hm => by have := h.2.1 _ hm; simp [okB] at this
  have := split_join (c := 61) (l := [p.1, p.2]) (by simp) (by intro s hs; simp at hs; rcases hs with rfl | rfl <;> assumption)
  exact this
/-- A sign that can be seen. -/
def vis (c : UInt8) : Bool := decide (33 ≤ c.toNat) && decide (c.toNat < 128)
def visS (s : List UInt8) : Prop := ∀ c ∈ s, vis c = true
theorem visS_app {a b : List UInt8} (h : visS a) (h' : visS b) : visS (a ++ b) := fun c hc => by
  rcases List.mem_append.1 hc with hc | hc
  · exact h c hc
  · exact h' c hc
theorem okS_vis {s : List UInt8} (h : okS s) : visS s := fun c hc => by
  have := h c hc
  unfold okB at this
  unfold vis
  simp only [Bool.and_eq_true] at this ⊢
  exact this.1.1
theorem joinB_vis {c : UInt8} (hc : vis c = true) : ∀ {l : List (List UInt8)}, (∀ s ∈ l, visS s) → visS (joinB c l)
  | [], _ => fun _ h => by simp [joinB] at h
  | [a], h => h a (by simp)
  | a :: b :: r, h => visS_app (h a (by simp)) fun d hd => by
    rcases List.mem_cons.1 hd with rfl | hd
    · exact hc
    · exact joinB_vis hc (fun s hs => h s (List.mem_cons_of_mem _ hs)) d hd
theorem visS_rev {s : List UInt8} (h : visS s) : visS s.reverse := fun c hc => h c (by simpa using hc)
theorem vis_all : ((List.range 256).all fun n => !vis (UInt8.ofNat n) || !Lib.isSp (UInt8.ofNat n)) = true := by kernel_rfl
theorem vis_sp {c : UInt8} (h : vis c = true) : Lib.isSp c = false := by
  have h1 := List.all_eq_true.1 vis_all c.toNat (List.mem_range.2 c.toNat_lt)
  rw [UInt8.ofNat_toNat, h] at h1
  simpa using h1
theorem drop_vis {s : List UInt8} (h : visS s) : s.dropWhile Lib.isSp = s := by
  cases s with
  | nil => rfl
  | cons c r =>
    rw [List.dropWhile_cons, vis_sp (h c (by simp))]
    rfl
theorem inText_of {s : List UInt8} (hv : visS s) (hl : s.length ≤ 50000) (hh : s.head? ≠ some 82) (hf : ∀ a ∈ split 59 s, ∀ k v, split 61 a = [k, v] → (k = [85, 78, 84, 73, 76] ∨ k = [68, 84, 83, 84, 65, 82, 84]) → NoFrac v) : InText s where
  len := hl
  frac := hf
  ascii := fun c hc => by
    have := hv c hc
    unfold vis at this
    simp only [Bool.and_eq_true, decide_eq_true_eq] at this
    exact this.2
  trim := by
    unfold Lib.trimSpace
    rw [drop_vis hv, drop_vis (visS_rev hv), List.reverse_reverse]
  line := idx_no fun hm => by have := hv _ hm; revert this; decide
  pre := by
    unfold Lib.trimPrefix Lib.hasPrefix
    cases s with
    | nil => rfl
    | cons c r =>
      have : c ≠ 82 := fun e => hh (by rw [e]; rfl)
      have h2 : ((82 : UInt8) == c) = false := by simpa using fun e => this e.symm
      simp only [List.isPrefixOf, h2, Bool.false_and, Bool.false_eq_true, if_false]
/-- Parts behind a text, put into the options. -/
theorem foldE_app {σ α : Type} (f : σ → α → Except Nat σ) : ∀ (l : List α) (o : σ) (m : List α), foldE f o (l ++ m) = match foldE f o l with
    | .ok o' => foldE f o' m
    | .error t => .error t
  | [], o, m => rfl
  | a :: l, o, m => by
    rw [List.cons_append, foldE, foldE]
    cases f o a with
    | ok o1 => exact foldE_app f l o1 m
    | error t => rfl
theorem parse_bad {l : List (List UInt8)} {b : List UInt8} (h0 : ∀ s ∈ l, (59 : UInt8) ∉ s) (hb : (59 : UInt8) ∉ b) (hbad : ∀ o, ∃ t, opStep o b = .error t) : ∃ t, opParse (joinB 59 (l ++ [b])) = .error t := by
  unfold opParse
  rw [split_join (by simp) (by
    intro s hs
    rcases List.mem_append.1 hs with hs | hs
    · exact h0 s hs
    · rw [List.mem_singleton] at hs; rw [hs]; exact hb), foldE_app]
  cases foldE opStep op0 l with
  | error t => exact ⟨t, rfl⟩
  | ok o =>
    obtain ⟨t, ht⟩ := hbad o
    exact ⟨t, by simp only [foldE, ht, opEnd]⟩
theorem parts_no {r : Ru} : ∀ s ∈ parts r, (59 : UInt8) ∉ s := by
  intro s hs hm
  rw [← kvs_parts] at hs
  obtain ⟨p, hp, rfl⟩ := List.mem_map.1 hs
  have ho := kvs_ok r p hp
  unfold kvT at hm
  rcases List.mem_append.1 hm with hm | hm
  · have := ho.1 _ hm; revert this; decide
  · rcases List.mem_cons.1 hm with e | hm
    · revert e; decide
    · have := ho.2.1 _ hm; revert this; decide
theorem parts_vis {r : Ru} : ∀ s ∈ parts r, visS s := by
  intro s hs
  rw [← kvs_parts] at hs
  obtain ⟨p, hp, rfl⟩ := List.mem_map.1 hs
  have ho := kvs_ok r p hp
  refine visS_app (okS_vis ho.1) fun c hc => ?_
  rcases List.mem_cons.1 hc with rfl | hc
  · rfl
  · exact okS_vis ho.2.1 c hc
end Go.Proofs.YtlfpjdcogkcjlaaGreatDoor.F
