/- The parts of a rule's text, by name and value. -/
import Derived.Test.YtlfpjdcogkcjlaaGreatDoorT23
namespace Go.Proofs.YtlfpjdcogkcjlaaGreatDoor.F
open Go.RowKit Go.Proofs.YtlfpjdcogkcjlaaGreatDoor.AL Go.Proofs.YtlfpjdcogkcjlaaGreatDoor.B
set_option linter.unusedVariables false
set_option linter.unusedSimpArgs false
set_option maxRecDepth 20000
attribute [local irreducible] aops acode bindK bindV bindH callX callK condK guardK Kseq Kblk Knorm Kfun Kloop Kjoin outK AWp appendA
attribute [local go_sem] acode_skip acode_seq acode_region acode_cond acode_block acode_exit acode_ret acode_loop Kseq_normal Kseq_exit Kseq_ret Kblk_normal Kblk_ret Kblk_eq Kblk_ne Knorm_eq Kloop_normal Kloop_exit Kloop_ret Kjoin_normal Kjoin_exit Kjoin_ret condK_true condK_false bindK_put bindV_put bindK_no bindV_no bindH_no aops_nil gops wantK_some wantV_bool wantV_undef guardK_true guardK_false guardK_none aops_move aops_assign aops_pick aops_nilCheck aops_binOp aops_unOp aops_convert aops_fieldAddr aops_indexAddr aops_slice aops_index aops_extract aops_makeInterface aops_makeFunc aops_build aops_load aops_lookup aops_alloc aops_box aops_buildSlice aops_makeSlice aops_makeMap aops_store aops_insert aops_mapUpdate aops_len aops_append aops_call opA_tmp opA_const opA_global opA_func get_mk look_nil look_eq look_ne len_mk List.map_cons List.map_nil Option.map_some Option.map_none bin_add bin_sub bin_mul bin_quo bin_rem bin_eql bin_neq bin_lss bin_leq bin_gtr bin_geq bin_cat bin_seql bin_sneq bin_neq_ifc bin_eql_ifc bin_neq_nn bin_eql_nn bin_neq_ptr bin_eql_ptr bin_neq_pn isIfc_true isPtr_true bin_eql2 bin_neq2 aops_max max_int un_not un_neg lenA_K lenK_str lenK_nil lenK_sl lenK_array pick_bool pick_val bindV_ite bindK_ite bindH_ite slotV_sl slotK_some slotV_ptr slotR_some sliceV_sl cutK_some sliceV_str cutS_some bound_none bound_some indexA_str atS_some mkS fieldV_ptr loadV_ptr cellsK_ro cellsK_own loadK_one loadK_many storeA_ptr storeK_own allocA_some heap_len heap_get0 heap_get heap_set0 heap_set Kfun_ret Kfun_normal resA_nil resA_tmp resA_cell outK_some packA_one packA_nil packA_two List.length_cons List.length_nil List.getElem?_cons_zero List.getElem?_cons_succ List.set_cons_zero List.set_cons_succ List.cons_append List.nil_append List.append_assoc Nat.zero_add Nat.add_zero List.all_cons List.all_nil Value.oneCell' Bool.and_true Bool.and_self if_true if_false Bool.false_eq_true partsA buildV buildA fillA Option.bind_some putCells List.drop_succ_cons List.drop_zero List.take_succ_cons List.take_zero List.take_nil List.drop_nil and_self and_true true_and Option.some.injEq ne_eq not_false_eq_true Option.map_map List.getElem?_toArray beq_self_eq_true Bool.true_beq Bool.false_beq Bool.not_true Bool.not_false decide_true decide_false beq_true Nat.mul_one Nat.one_mul Nat.zero_mul bsA buildSliceA zerosN List.append_nil Int.toNat_natCast Int.toNat_zero boxA one_val one_ptr one_sl one_mp one_ifc one_fn avCells_agg avCells_val valCells_true valCells_agg avCells_ptr avCells_sl avCells_mp avCells_ifc avCells_fn app_cons app_nil lookupA insertA ifaceV extractA kd2 ars127 fp127 ars60 fp60 ars31 fp31 eq2_99 eq2_84 eq2_47 fp52 sz2 kd3 sz3 kd4 sz4 kd5 sz5 kd9 sz9 kd22 sz22 el22 kd23 sz23 el23 kd25 sz25 zc25 fp25 fo25_0 fo25_1 fo25_2 fo25_3 fo25_4 fo25_5 fo25_6 fo25_7 fo25_8 fo25_9 fo25_10 fo25_11 fo25_12 fo25_13 fo25_14 fo25_15 fo25_16 fo25_17 kd31 sz31 zc31 ar31 kd32 sz32 el32 kd34 sz34 zc34 fp34 fo34_0 fo34_1 fo34_2 fo34_3 fo34_4 fo34_5 fo34_6 fo34_7 fo34_8 fo34_9 fo34_10 fo34_11 fo34_12 fo34_13 fo34_14 fo34_15 fo34_16 fo34_17 el38 el42 kd47 sz47 zc47 fp47 fo47_0 fo47_1 kd52 sz52 zc52 fo52_0 el55 zc60 kd72 sz72 zc72 fp72 fo72_0 fo72_1 el73 isStrMap76 zv4 kd80 sz80 kd84 sz84 zc84 fp84 fo84_0 fo84_1 kd88 sz88 zc88 fp88 fo88_0 fo88_1 fo88_2 fo88_3 kd91 sz91 zc91 fp91 fo91_0 fo91_1 fo91_2 el94 kd99 sz99 zc99 fp99 fo99_0 fo99_1 kd100 sz100 el100 kd102 sz102 zc102 fp102 fo102_0 fo102_1 fo102_2 fo102_3 fo102_4 fo102_5 fo102_6 fo102_7 fo102_8 fo102_9 fo102_10 fo102_11 fo102_12 fo102_13 fo102_14 fo102_15 kd109 sz109 zc109 fp109 isStrMap124 zv80 zc127 kd153 sz153 zc153 ar153 isIface157 kd159 sz159 zc159 fp159 isStrMap177 zv84 Tryz.underlying3 Tryz.underlying4 Tryz.underlying5 Tryz.underlying9 Tryz.underlying21 Tryz.underlying22 Tryz.underlying23 Tryz.underlying32 Tryz.underlying38 Tryz.underlying42 Tryz.underlying47 Tryz.underlying55 Tryz.underlying67 Tryz.underlying73 Tryz.underlying80 Tryz.underlying84 Tryz.underlying94 Tryz.underlying100 Tryz.underlying2 Tryz.underlying127 Tryz.underlying60 Tryz.underlying31
/-- A sign of a value: none that parts texts, none that is blank. -/
def okB (c : UInt8) : Bool := decide (33 ≤ c.toNat) && decide (c.toNat < 128) && c != 59 && c != 61
def okS (s : List UInt8) : Prop := ∀ c ∈ s, okB c = true
theorem okS_nil : okS [] := fun _ h => by simp at h
theorem okS_app {a b : List UInt8} (h : okS a) (h' : okS b) : okS (a ++ b) := fun c hc => by
  rcases List.mem_append.1 hc with hc | hc
  · exact h c hc
  · exact h' c hc
theorem okS_cons {c : UInt8} {b : List UInt8} (h : okB c = true) (h' : okS b) : okS (c :: b) := fun d hd => by
  rcases List.mem_cons.1 hd with rfl | hd
  · exact h
  · exact h' d hd
theorem okS_of {s : List UInt8} (h : s.all okB = true) : okS s := fun c hc => List.all_eq_true.1 h c hc
theorem digit_ok {n : Nat} (h : n < 10) : okB (UInt8.ofNat (48 + n)) = true := by
  have : n = 0 ∨ n = 1 ∨ n = 2 ∨ n = 3 ∨ n = 4 ∨ n = 5 ∨ n = 6 ∨ n = 7 ∨ n = 8 ∨ n = 9 := by omega
  rcases this with rfl | rfl | rfl | rfl | rfl | rfl | rfl | rfl | rfl | rfl <;> rfl
theorem dec_ok (u : Nat) : okS (Lib.decDigits u) := by
  induction u using Nat.strongRecOn with
  | _ u ih =>
    rw [Lib.decDigits]
    split
    · rename_i h
      exact okS_cons (digit_ok h) okS_nil
    · exact okS_app (ih (u / 10) (by omega)) (okS_cons (digit_ok (by omega)) okS_nil)
theorem itoa_ok (n : Int) : okS (Lib.itoa n) := by
  unfold Lib.itoa
  split
  · exact okS_cons rfl (dec_ok _)
  · exact dec_ok _
theorem padTo_ok (d : Nat) : ∀ (k : Nat) (l : List UInt8), okS l → okS (padTo d l k)
  | 0, l, h => h
  | k + 1, l, h => by
    unfold padTo
    split
    · exact padTo_ok d k _ (okS_cons rfl h)
    · exact h
theorem padded_ok (n d : Int) : okS (padded n d) := padTo_ok _ _ _ (itoa_ok n)
theorem dateText_ok (t : Int) : okS (dateText t) := by
  unfold dateText
  exact okS_app (okS_app (okS_app (okS_app (okS_app (okS_app (okS_app (padded_ok _ _) (padded_ok _ _)) (padded_ok _ _)) (okS_of rfl)) (padded_ok _ _)) (padded_ok _ _)) (padded_ok _ _)) (okS_of rfl)
theorem joinB_ok {c : UInt8} (hc : okB c = true) : ∀ {l : List (List UInt8)}, (∀ s ∈ l, okS s) → okS (joinB c l)
  | [], _ => okS_nil
  | [a], h => h a (by simp)
  | a :: b :: r, h => okS_app (h a (by simp)) (okS_cons hc (joinB_ok hc fun s hs => h s (List.mem_cons_of_mem _ hs)))
theorem joined_ok (l : List Int) : okS (joined l) := joinB_ok rfl fun s hs => by
  obtain ⟨n, _, rfl⟩ := List.mem_map.1 hs
  exact itoa_ok n
theorem getD_ok {l : List (List UInt8)} (h : l.all (fun s => s.all okB) = true) (i : Nat) : okS (l.getD i []) := by
  rw [List.getD_eq_getElem?_getD]
  cases hi : l[i]? with
  | none => exact okS_nil
  | some s => exact okS_of (List.all_eq_true.1 h s (List.mem_of_getElem? hi))
theorem dayText_ok (d : Int × Int) : okS (dayText d) := by
  unfold dayText
  refine okS_app ?_ (getD_ok rfl _)
  split
  · exact okS_nil
  · exact itoa_ok _
theorem days_ok (l : List (Int × Int)) : okS (days l) := joinB_ok rfl fun s hs => by
  obtain ⟨n, _, rfl⟩ := List.mem_map.1 hs
  exact dayText_ok n
/-- Names and values. -/
abbrev KV := List UInt8 × List UInt8
def kvT (p : KV) : List UInt8 := p.1 ++ 61 :: p.2
def kOne (n : List UInt8) (l : List Int) : List KV := if l.length = 0 then [] else [(n, joined l)]
def kvs (r : Ru) : List KV :=
  [([70, 82, 69, 81], freqs.getD r.freq [])] ++ (if r.hasUntil then [([85, 78, 84, 73, 76], dateText r.til)] else []) ++ (if 0 < r.count then [([67, 79, 85, 78, 84], Lib.itoa r.count)] else []) ++ (if 1 < r.interval then [([73, 78, 84, 69, 82, 86, 65, 76], Lib.itoa r.interval)] else []) ++
  (kOne [66, 89, 83, 69, 67, 79, 78, 68] r.second ++ kOne [66, 89, 77, 73, 78, 85, 84, 69] r.minute ++ kOne [66, 89, 72, 79, 85, 82] r.hour ++ kOne [66, 89, 77, 79, 78, 84, 72, 68, 65, 89] r.monthDay ++ kOne [66, 89, 89, 69, 65, 82, 68, 65, 89] r.yearDay ++ kOne [66, 89, 87, 69, 69, 75, 78, 79] r.weekNo ++ kOne [66, 89, 77, 79, 78, 84, 72] r.month ++ kOne [66, 89, 83, 69, 84, 80, 79, 83] r.setPos ++ kOne [66, 89, 69, 65, 83, 84, 69, 82] r.easter) ++
  (if r.day.length = 0 then [] else [([66, 89, 68, 65, 89], days r.day)]) ++ (if r.wkst = 0 then [] else [([87, 75, 83, 84], wdays.getD r.wkst.toNat [])])
theorem kOne_parts (n : List UInt8) (a : AV) (l : List Int) : (kOne n l).map kvT = pOne (n, a, l) := by
  unfold kOne pOne
  split <;> rfl
theorem kvs_parts (r : Ru) : (kvs r).map kvT = parts r := by
  unfold kvs parts
  simp only [List.map_append]
  congr 1
  · congr 1
    · congr 1
      · congr 1
        · congr 1
          · congr 1
            unfold pUntil
            split <;> rfl
          · unfold pCount
            split <;> rfl
        · unfold pInterval
          split <;> rfl
      · unfold pNine nine
        simp only [List.flatMap_cons, List.flatMap_nil, List.append_nil, ← kOne_parts, List.append_assoc]
    · unfold pDay
      split <;> rfl
  · unfold pWkst
    split <;> rfl
def kvOk (p : KV) : Prop := okS p.1 ∧ okS p.2 ∧ p.1.length ≤ 10 ∧ p.1 ≠ [68, 84, 83, 84, 65, 82, 84] ∧ (p.1 = [85, 78, 84, 73, 76] → NoFrac p.2)
theorem padTo_digits (d : Nat) : ∀ (k : Nat) (l : List UInt8), NoFrac l → NoFrac (padTo d l k)
  | 0, l, h => h
  | k + 1, l, h => by
    unfold padTo
    split
    · refine padTo_digits d k _ ?_
      intro c hc
      rcases List.mem_cons.1 hc with rfl | hc
      · decide
      · exact h c hc
    · exact h
theorem noFrac_app {a b : List UInt8} (h : NoFrac a) (h' : NoFrac b) : NoFrac (a ++ b) := fun c hc => by
  rcases List.mem_append.1 hc with hc | hc
  · exact h c hc
  · exact h' c hc
theorem dec_noFrac (u : Nat) : NoFrac (Lib.decDigits u) := by
  have hd : ∀ n, n < 10 → NoFrac [UInt8.ofNat (48 + n)] := by
    intro n h c hc
    rw [List.mem_singleton] at hc
    subst hc
    have : n = 0 ∨ n = 1 ∨ n = 2 ∨ n = 3 ∨ n = 4 ∨ n = 5 ∨ n = 6 ∨ n = 7 ∨ n = 8 ∨ n = 9 := by omega
    rcases this with rfl | rfl | rfl | rfl | rfl | rfl | rfl | rfl | rfl | rfl <;> decide
  induction u using Nat.strongRecOn with
  | _ u ih =>
    rw [Lib.decDigits]
    split
    · rename_i h; exact hd u h
    · exact noFrac_app (ih (u / 10) (by omega)) (hd _ (by omega))
theorem itoa_noFrac (n : Int) : NoFrac (Lib.itoa n) := by
  unfold Lib.itoa
  split
  · exact noFrac_app (a := [45]) (by unfold NoFrac; decide) (dec_noFrac _)
  · exact dec_noFrac _
theorem padded_noFrac (n d : Int) : NoFrac (padded n d) := padTo_digits _ _ _ (itoa_noFrac n)
theorem dateText_noFrac (t : Int) : NoFrac (dateText t) := by
  unfold dateText
  exact noFrac_app (noFrac_app (noFrac_app (noFrac_app (noFrac_app (noFrac_app (noFrac_app (padded_noFrac _ _) (padded_noFrac _ _)) (padded_noFrac _ _)) (by unfold NoFrac; decide)) (padded_noFrac _ _)) (padded_noFrac _ _)) (padded_noFrac _ _)) (by unfold NoFrac; decide)
theorem kv_of {n v : List UInt8} (hn : n.all okB = true ∧ n.length ≤ 10 ∧ n ≠ [68, 84, 83, 84, 65, 82, 84] ∧ n ≠ [85, 78, 84, 73, 76]) (hv : okS v) : kvOk (n, v) := ⟨okS_of hn.1, hv, hn.2.1, hn.2.2.1, fun e => absurd e hn.2.2.2⟩
theorem kOne_ok {n : List UInt8} {l : List Int} (hn : n.all okB = true ∧ n.length ≤ 10 ∧ n ≠ [68, 84, 83, 84, 65, 82, 84] ∧ n ≠ [85, 78, 84, 73, 76]) : ∀ p ∈ kOne n l, kvOk p := by
  intro p hp
  unfold kOne at hp
  split at hp
  · simp at hp
  · rw [List.mem_singleton] at hp
    subst hp
    exact ⟨okS_of hn.1, joined_ok _, hn.2.1, hn.2.2.1, fun e => absurd e hn.2.2.2⟩
theorem kvs_ok (r : Ru) : ∀ p ∈ kvs r, kvOk p := by
  intro p hp
  unfold kvs at hp
  simp only [List.mem_append] at hp
  rcases hp with (((((hp | hp) | hp) | hp) | hp) | hp) | hp
  · rw [List.mem_singleton] at hp
    subst hp
    exact kv_of (by decide) (getD_ok rfl _)
  · split at hp
    · rw [List.mem_singleton] at hp
      subst hp
      exact ⟨okS_of rfl, dateText_ok _, by show 5 ≤ 10; omega, by show [85, 78, 84, 73, 76] ≠ _; decide, fun _ => dateText_noFrac _⟩
    · simp at hp
  · split at hp
    · rw [List.mem_singleton] at hp
      subst hp
      exact kv_of (by decide) (itoa_ok _)
    · simp at hp
  · split at hp
    · rw [List.mem_singleton] at hp
      subst hp
      exact kv_of (by decide) (itoa_ok _)
    · simp at hp
  · rcases hp with (((((((hp | hp) | hp) | hp) | hp) | hp) | hp) | hp) | hp
    all_goals exact kOne_ok (by decide) p hp
  · split at hp
    · simp at hp
    · rw [List.mem_singleton] at hp
      subst hp
      exact kv_of (by decide) (days_ok _)
  · split at hp
    · simp at hp
    · rw [List.mem_singleton] at hp
      subst hp
      exact kv_of (by decide) (getD_ok rfl _)
end Go.Proofs.YtlfpjdcogkcjlaaGreatDoor.F
