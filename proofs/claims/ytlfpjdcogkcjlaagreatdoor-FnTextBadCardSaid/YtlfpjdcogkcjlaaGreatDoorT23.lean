/- A clean rule's numbers; its text in its own order. -/
import Derived.Test.YtlfpjdcogkcjlaaGreatDoorT22
namespace Go.Proofs.YtlfpjdcogkcjlaaGreatDoor.F
open Go.RowKit Go.Proofs.YtlfpjdcogkcjlaaGreatDoor.AL Go.Proofs.YtlfpjdcogkcjlaaGreatDoor.B
set_option linter.unusedVariables false
set_option linter.unusedSimpArgs false
set_option maxRecDepth 20000
attribute [local irreducible] aops acode bindK bindV bindH callX callK condK guardK Kseq Kblk Knorm Kfun Kloop Kjoin outK AWp appendA
attribute [local go_sem] acode_skip acode_seq acode_region acode_cond acode_block acode_exit acode_ret acode_loop Kseq_normal Kseq_exit Kseq_ret Kblk_normal Kblk_ret Kblk_eq Kblk_ne Knorm_eq Kloop_normal Kloop_exit Kloop_ret Kjoin_normal Kjoin_exit Kjoin_ret condK_true condK_false bindK_put bindV_put bindK_no bindV_no bindH_no aops_nil gops wantK_some wantV_bool wantV_undef guardK_true guardK_false guardK_none aops_move aops_assign aops_pick aops_nilCheck aops_binOp aops_unOp aops_convert aops_fieldAddr aops_indexAddr aops_slice aops_index aops_extract aops_makeInterface aops_makeFunc aops_build aops_load aops_lookup aops_alloc aops_box aops_buildSlice aops_makeSlice aops_makeMap aops_store aops_insert aops_mapUpdate aops_len aops_append aops_call opA_tmp opA_const opA_global opA_func get_mk look_nil look_eq look_ne len_mk List.map_cons List.map_nil Option.map_some Option.map_none bin_add bin_sub bin_mul bin_quo bin_rem bin_eql bin_neq bin_lss bin_leq bin_gtr bin_geq bin_cat bin_seql bin_sneq bin_neq_ifc bin_eql_ifc bin_neq_nn bin_eql_nn bin_neq_ptr bin_eql_ptr bin_neq_pn isIfc_true isPtr_true bin_eql2 bin_neq2 aops_max max_int un_not un_neg lenA_K lenK_str lenK_nil lenK_sl lenK_array pick_bool pick_val bindV_ite bindK_ite bindH_ite slotV_sl slotK_some slotV_ptr slotR_some sliceV_sl cutK_some sliceV_str cutS_some bound_none bound_some indexA_str atS_some mkS fieldV_ptr loadV_ptr cellsK_ro cellsK_own loadK_one loadK_many storeA_ptr storeK_own allocA_some heap_len heap_get0 heap_get heap_set0 heap_set Kfun_ret Kfun_normal resA_nil resA_tmp resA_cell outK_some packA_one packA_nil packA_two List.length_cons List.length_nil List.getElem?_cons_zero List.getElem?_cons_succ List.set_cons_zero List.set_cons_succ List.cons_append List.nil_append List.append_assoc Nat.zero_add Nat.add_zero List.all_cons List.all_nil Value.oneCell' Bool.and_true Bool.and_self if_true if_false Bool.false_eq_true partsA buildV buildA fillA Option.bind_some putCells List.drop_succ_cons List.drop_zero List.take_succ_cons List.take_zero List.take_nil List.drop_nil and_self and_true true_and Option.some.injEq ne_eq not_false_eq_true Option.map_map List.getElem?_toArray beq_self_eq_true Bool.true_beq Bool.false_beq Bool.not_true Bool.not_false decide_true decide_false beq_true Nat.mul_one Nat.one_mul Nat.zero_mul bsA buildSliceA zerosN List.append_nil Int.toNat_natCast Int.toNat_zero boxA one_val one_ptr one_sl one_mp one_ifc one_fn avCells_agg avCells_val valCells_true valCells_agg avCells_ptr avCells_sl avCells_mp avCells_ifc avCells_fn app_cons app_nil lookupA insertA ifaceV extractA kd2 ars127 fp127 ars60 fp60 ars31 fp31 eq2_99 eq2_84 eq2_47 fp52 sz2 kd3 sz3 kd4 sz4 kd5 sz5 kd9 sz9 kd22 sz22 el22 kd23 sz23 el23 kd25 sz25 zc25 fp25 fo25_0 fo25_1 fo25_2 fo25_3 fo25_4 fo25_5 fo25_6 fo25_7 fo25_8 fo25_9 fo25_10 fo25_11 fo25_12 fo25_13 fo25_14 fo25_15 fo25_16 fo25_17 kd31 sz31 zc31 ar31 kd32 sz32 el32 kd34 sz34 zc34 fp34 fo34_0 fo34_1 fo34_2 fo34_3 fo34_4 fo34_5 fo34_6 fo34_7 fo34_8 fo34_9 fo34_10 fo34_11 fo34_12 fo34_13 fo34_14 fo34_15 fo34_16 fo34_17 el38 el42 kd47 sz47 zc47 fp47 fo47_0 fo47_1 kd52 sz52 zc52 fo52_0 el55 zc60 kd72 sz72 zc72 fp72 fo72_0 fo72_1 el73 isStrMap76 zv4 kd80 sz80 kd84 sz84 zc84 fp84 fo84_0 fo84_1 kd88 sz88 zc88 fp88 fo88_0 fo88_1 fo88_2 fo88_3 kd91 sz91 zc91 fp91 fo91_0 fo91_1 fo91_2 el94 kd99 sz99 zc99 fp99 fo99_0 fo99_1 kd100 sz100 el100 kd102 sz102 zc102 fp102 fo102_0 fo102_1 fo102_2 fo102_3 fo102_4 fo102_5 fo102_6 fo102_7 fo102_8 fo102_9 fo102_10 fo102_11 fo102_12 fo102_13 fo102_14 fo102_15 kd109 sz109 zc109 fp109 isStrMap124 zv80 zc127 kd153 sz153 zc153 ar153 isIface157 kd159 sz159 zc159 fp159 isStrMap177 zv84 Tryz.underlying3 Tryz.underlying4 Tryz.underlying5 Tryz.underlying9 Tryz.underlying21 Tryz.underlying22 Tryz.underlying23 Tryz.underlying32 Tryz.underlying38 Tryz.underlying42 Tryz.underlying47 Tryz.underlying55 Tryz.underlying67 Tryz.underlying73 Tryz.underlying80 Tryz.underlying84 Tryz.underlying94 Tryz.underlying100 Tryz.underlying2 Tryz.underlying127 Tryz.underlying60 Tryz.underlying31
theorem within_spec {l : List Int} {most low high : Int} {zero : Bool} (h : within l most low high zero = true) : (l.length : Int) ≤ most ∧ (∀ n ∈ l, low ≤ n ∧ n ≤ high ∧ (zero = false → n ≠ 0)) ∧ ∀ (i : Nat) n, l[i]? = some n → n ∉ l.take i := by
  unfold within at h
  rw [Bool.and_eq_true] at h
  obtain ⟨h1, h2⟩ := h
  have key : ∀ (i : Nat) n, l[i]? = some n → ¬ n < low ∧ ¬ high < n ∧ ¬ (n = 0 ∧ zero = false) ∧ n ∉ l.take i := by
    intro i n hi
    have hlt := (List.getElem?_eq_some_iff.1 hi).1
    have h3 := List.all_eq_true.1 h2 i (List.mem_range.2 hlt)
    have hg : l.getD i 0 = n := by rw [List.getD_eq_getElem?_getD, hi]; rfl
    unfold withinAt at h3
    rw [hg] at h3
    simp only [Bool.not_eq_true', Bool.or_eq_false_iff, decide_eq_false_iff_not, Bool.and_eq_false_iff, Bool.not_eq_false'] at h3
    obtain ⟨⟨⟨a, b⟩, c⟩, d⟩ := h3
    refine ⟨a, b, ?_, ?_⟩
    · rintro ⟨rfl, hz⟩
      rcases c with c | c
      · exact c rfl
      · rw [hz] at c; cases c
    · intro hm
      rw [List.contains_iff_mem.2 hm] at d
      cases d
  refine ⟨of_decide_eq_true h1, fun n hn => ?_, fun i n hi => (key i n hi).2.2.2⟩
  obtain ⟨i, hi⟩ := List.getElem?_of_mem hn
  obtain ⟨a, b, c, _⟩ := key i n hi
  exact ⟨by omega, by omega, fun hz h0 => c ⟨h0, hz⟩⟩
theorem within_ok {l : List Int} {most low high : Int} {zero : Bool} (h : within l most low high zero = true) (hm : most ≤ 12) (h0 : -1000 ≤ low) (h1 : high ≤ 1000) : IntsOk l := by
  obtain ⟨a, b, _⟩ := within_spec h
  exact ⟨by omega, fun n hn => by have := b n hn; omega⟩
/-- What a clean rule says. -/
structure CleanP (r : Ru) : Prop where
  freq : r.freq ≤ 6
  hasStart : r.hasStart = true
  start : 31536000 ≤ r.start ∧ r.start < 284012524800
  interval : 0 ≤ r.interval ∧ r.interval ≤ 1000
  wkst : 0 ≤ r.wkst ∧ r.wkst ≤ 6
  count : 0 ≤ r.count ∧ r.count ≤ 1000
  til : r.hasUntil = true → r.start ≤ r.til ∧ r.til < 315537897600
  setPos : within r.setPos 12 (-366) 366 false = true
  month : within r.month 12 1 12 false = true
  monthDay : within r.monthDay 12 (-31) 31 false = true
  yearDay : within r.yearDay 12 (-366) 366 false = true
  weekNo : within r.weekNo 12 (-53) 53 false = true
  hour : within r.hour 12 0 23 true = true
  minute : within r.minute 12 0 59 true = true
  second : within r.second 12 0 59 true = true
  easter : within r.easter 12 (-80) 80 true = true
  dayLen : r.day.length ≤ 12
  day : ∀ (i : Nat) d, r.day[i]? = some d → d ∉ r.day.take i ∧ 0 ≤ d.1 ∧ d.1 ≤ 6 ∧ -mostOf r ≤ d.2 ∧ d.2 ≤ mostOf r
  many : max 1 (r.hour.length : Int) * max 1 (r.minute.length : Int) * max 1 (r.second.length : Int) ≤ 60
  weekYear : 0 < r.weekNo.length → r.freq = 0
  easterYear : 0 < r.easter.length → r.freq = 0
  monthDayWeek : 0 < r.monthDay.length → r.freq ≠ 2
  yearDayFreq : 0 < r.yearDay.length → r.freq ≠ 1 ∧ r.freq ≠ 2 ∧ r.freq ≠ 3
  pos : 0 < r.setPos.length → parted r = true
theorem clean_spec {r : Ru} (h : clean r = true) : CleanP r := by
  unfold clean at h
  simp only [Bool.and_eq_true, Bool.not_eq_true'] at h
  obtain ⟨⟨⟨⟨⟨⟨⟨⟨q1, q2⟩, q3⟩, q4⟩, q5⟩, q6⟩, q7⟩, q8⟩, q9⟩ := h
  unfold g1 at q1
  simp only [Bool.or_eq_false_iff, decide_eq_false_iff_not, Bool.not_eq_false'] at q1
  obtain ⟨⟨⟨⟨⟨⟨⟨⟨⟨a1, a2⟩, a3⟩, a4⟩, a5⟩, a6⟩, a7⟩, a8⟩, a9⟩, a10⟩ := q1
  unfold g3 at q3
  simp only [Bool.or_eq_false_iff, Bool.not_eq_false'] at q3
  obtain ⟨⟨⟨⟨b1, b2⟩, b3⟩, b4⟩, b5⟩ := q3
  unfold g4 at q4
  simp only [Bool.or_eq_false_iff, Bool.not_eq_false', decide_eq_false_iff_not] at q4
  obtain ⟨⟨⟨⟨c1, c2⟩, c3⟩, c4⟩, c5⟩ := q4
  unfold g6 at q6
  rw [Bool.not_eq_false'] at q6
  unfold g7 at q7
  simp only [Bool.or_eq_false_iff, Bool.and_eq_false_iff, decide_eq_false_iff_not, Bool.not_eq_false', decide_eq_true_eq] at q7
  unfold g8 at q8
  simp only [Bool.or_eq_false_iff, Bool.and_eq_false_iff, decide_eq_false_iff_not] at q8
  unfold g5 at q5
  simp only [decide_eq_false_iff_not] at q5
  refine ⟨by omega, a2, by omega, by omega, by omega, by omega, fun hu => ?_, b1, b2, b3, b4, b5, c1, c2, c3, c4, by omega, fun i d hi => ?_, by omega, fun hh => ?_, fun hh => ?_, fun hh => ?_, fun hh => ?_, fun hh => ?_⟩
  · unfold g2 at q2
    simp only [hu, Bool.true_and, Bool.or_eq_false_iff, decide_eq_false_iff_not] at q2
    omega
  · have hlt := (List.getElem?_eq_some_iff.1 hi).1
    have h3 := List.all_eq_true.1 q6 i (List.mem_range.2 hlt)
    have hg : r.day.getD i (0, 0) = d := by rw [List.getD_eq_getElem?_getD, hi]; rfl
    unfold dayAt at h3
    rw [hg] at h3
    simp only [Bool.and_eq_true, Bool.not_eq_true', Bool.or_eq_false_iff, decide_eq_false_iff_not] at h3
    obtain ⟨d1, ⟨⟨d2, d3⟩, d4⟩, d5⟩ := h3
    refine ⟨fun hm => ?_, by omega, by omega, by omega, by omega⟩
    rw [List.contains_iff_mem.2 hm] at d1
    cases d1
  · rcases q7.1.1 with e | e
    · exact absurd hh e
    · exact e
  · rcases q7.1.2 with e | e
    · exact absurd hh e
    · exact e
  · rcases q7.2 with e | e
    · exact absurd hh e
    · exact e
  · rcases q8 with e | e
    · exact absurd hh e
    · exact ⟨e.1.1, e.1.2, e.2⟩
  · rcases Bool.or_eq_true_iff.1 q9 with e | e
    · have := of_decide_eq_true e; omega
    · exact e
theorem clean_ok {r : Ru} (h : CleanP r) : RuOk (bare r) := by
  have hm := mostOf_bound r
  refine ⟨h.freq, h.wkst, ⟨h.interval.1, ?_⟩, ⟨h.count.1, ?_⟩, ?_, within_ok h.setPos (by omega) (by omega) (by omega), within_ok h.month (by omega) (by omega) (by omega), within_ok h.monthDay (by omega) (by omega) (by omega), within_ok h.yearDay (by omega) (by omega) (by omega), within_ok h.weekNo (by omega) (by omega) (by omega), ⟨?_, ?_⟩, within_ok h.hour (by omega) (by omega) (by omega), within_ok h.minute (by omega) (by omega) (by omega), within_ok h.second (by omega) (by omega) (by omega), within_ok h.easter (by omega) (by omega) (by omega)⟩
  · have := h.interval; show r.interval ≤ _; omega
  · have := h.count; show r.count ≤ _; omega
  · show 0 ≤ (if r.hasUntil then r.til else 0) ∧ (if r.hasUntil then r.til else 0) ≤ _
    have hs := h.start
    split
    · rename_i hu
      have := h.til hu
      omega
    · omega
  · have := h.dayLen; show r.day.length ≤ _; omega
  · intro d hd
    obtain ⟨i, hi⟩ := List.getElem?_of_mem (show d ∈ r.day from hd)
    obtain ⟨_, e1, e2, e3, e4⟩ := h.day i d hi
    exact ⟨e1, e2, by omega, by omega⟩
/-- The parts of a rule's text. -/
def parts (r : Ru) : List (List UInt8) := pFreq r ++ pUntil r ++ pCount r ++ pInterval r ++ pNine r ⟨vNil, vNil, vNil, vNil, vNil, vNil, vNil, vNil, vNil, vNil⟩ ++ pDay r ++ pWkst r
theorem pNine_same (r : Ru) (x y : Rs) : pNine r x = pNine r y := rfl
theorem parts_length {r : Ru} : (parts r).length ≤ 15 ∧ 0 < (parts r).length := by
  have h1 := pUntil_len r
  have h2 := pCount_len r
  have h3 := pInterval_len r
  have h4 := pDay_len r
  have h5 : (pWkst r).length ≤ 1 := by unfold pWkst; split <;> simp
  have h6 : (pNine r ⟨vNil, vNil, vNil, vNil, vNil, vNil, vNil, vNil, vNil, vNil⟩).length ≤ 9 := by
    unfold pNine nine
    simp only [List.flatMap_cons, List.flatMap_nil, List.length_append, List.length_nil]
    have := fun p => pOne_length p
    have e : ∀ p, (pOne p).length ≤ 1 := pOne_length
    have a1 := e ([66, 89, 83, 69, 67, 79, 78, 68], vNil, r.second)
    have a2 := e ([66, 89, 77, 73, 78, 85, 84, 69], vNil, r.minute)
    have a3 := e ([66, 89, 72, 79, 85, 82], vNil, r.hour)
    have a4 := e ([66, 89, 77, 79, 78, 84, 72, 68, 65, 89], vNil, r.monthDay)
    have a5 := e ([66, 89, 89, 69, 65, 82, 68, 65, 89], vNil, r.yearDay)
    have a6 := e ([66, 89, 87, 69, 69, 75, 78, 79], vNil, r.weekNo)
    have a7 := e ([66, 89, 77, 79, 78, 84, 72], vNil, r.month)
    have a8 := e ([66, 89, 83, 69, 84, 80, 79, 83], vNil, r.setPos)
    have a9 := e ([66, 89, 69, 65, 83, 84, 69, 82], vNil, r.easter)
    omega
  unfold parts
  simp only [List.length_append]
  have : (pFreq r).length = 1 := rfl
  omega
theorem parts_memN {r : Ru} (h : RuOk r) (N : Nat) (hN : r.setPos.length ≤ N ∧ r.month.length ≤ N ∧ r.monthDay.length ≤ N ∧ r.yearDay.length ≤ N ∧ r.weekNo.length ≤ N ∧ r.day.length ≤ N ∧ r.hour.length ≤ N ∧ r.minute.length ≤ N ∧ r.second.length ≤ N ∧ r.easter.length ≤ N) : ∀ s ∈ parts r, s.length ≤ 24 * N + 1100 := by
  intro s hs
  unfold parts at hs
  simp only [List.mem_append] at hs
  rcases hs with (((((hs | hs) | hs) | hs) | hs) | hs) | hs
  · unfold pFreq at hs
    rw [List.mem_singleton] at hs; subst hs
    have := (freq_get h.freq).2
    simp only [List.length_append, List.length_cons, List.length_nil]
    omega
  · unfold pUntil at hs
    split at hs
    · simp at hs; subst hs
      have := dateText_length h.til.1 h.til.2
      simp only [List.length_cons]; omega
    · simp at hs
  · unfold pCount at hs
    split at hs
    · simp at hs; subst hs
      have := Lib.itoa_length_le r.count (by have := h.count; omega) h.count.2
      simp only [List.length_cons]; omega
    · simp at hs
  · unfold pInterval at hs
    split at hs
    · simp at hs; subst hs
      have := Lib.itoa_length_le r.interval (by have := h.interval; omega) h.interval.2
      simp only [List.length_cons]; omega
    · simp at hs
  · unfold pNine at hs
    obtain ⟨p, hp, hs⟩ := List.mem_flatMap.1 hs
    have key : p.1.length ≤ 10 ∧ IntsOk p.2.2 ∧ p.2.2.length ≤ N := by
      unfold nine at hp
      simp only [List.mem_cons, List.not_mem_nil, or_false] at hp
      rcases hp with rfl | rfl | rfl | rfl | rfl | rfl | rfl | rfl | rfl
      · exact ⟨by show 8 ≤ 10; omega, h.second, by show r.second.length ≤ N; omega⟩
      · exact ⟨by show 8 ≤ 10; omega, h.minute, by show r.minute.length ≤ N; omega⟩
      · exact ⟨by show 6 ≤ 10; omega, h.hour, by show r.hour.length ≤ N; omega⟩
      · exact ⟨by show 10 ≤ 10; omega, h.monthDay, by show r.monthDay.length ≤ N; omega⟩
      · exact ⟨by show 9 ≤ 10; omega, h.yearDay, by show r.yearDay.length ≤ N; omega⟩
      · exact ⟨by show 8 ≤ 10; omega, h.weekNo, by show r.weekNo.length ≤ N; omega⟩
      · exact ⟨by show 7 ≤ 10; omega, h.month, by show r.month.length ≤ N; omega⟩
      · exact ⟨by show 8 ≤ 10; omega, h.setPos, by show r.setPos.length ≤ N; omega⟩
      · exact ⟨by show 8 ≤ 10; omega, h.easter, by show r.easter.length ≤ N; omega⟩
    unfold pOne at hs
    split at hs
    · simp at hs
    · simp at hs; subst hs
      have := joined_length key.2.1
      have := key.2.2
      have := key.1
      simp only [List.length_append, List.length_cons]; omega
  · unfold pDay at hs
    split at hs
    · simp at hs
    · simp at hs; subst hs
      have := days_length h.day.1 h.day.2
      have := h.day.1
      simp only [List.length_cons]; omega
  · unfold pWkst at hs
    split at hs
    · simp at hs
    · rw [List.mem_singleton] at hs; subst hs
      have := (wday_get h.wkst.1 h.wkst.2).2
      simp only [List.length_append, List.length_cons, List.length_nil]; omega
theorem parts_mem {r : Ru} (h : RuOk r) : ∀ s ∈ parts r, s.length ≤ 30000 := fun s hs => by
  have := parts_memN h 1000 ⟨h.setPos.1, h.month.1, h.monthDay.1, h.yearDay.1, h.weekNo.1, h.day.1, h.hour.1, h.minute.1, h.second.1, h.easter.1⟩ s hs
  omega
theorem parts_clean {r : Ru} (h : CleanP r) : ∀ s ∈ parts (bare r), s.length ≤ 1388 := fun s hs => by
  have a1 := (within_spec h.setPos).1
  have a2 := (within_spec h.month).1
  have a3 := (within_spec h.monthDay).1
  have a4 := (within_spec h.yearDay).1
  have a5 := (within_spec h.weekNo).1
  have a6 := (within_spec h.hour).1
  have a7 := (within_spec h.minute).1
  have a8 := (within_spec h.second).1
  have a9 := (within_spec h.easter).1
  have a10 := h.dayLen
  have := parts_memN (clean_ok h) 12 (by show r.setPos.length ≤ 12 ∧ r.month.length ≤ 12 ∧ r.monthDay.length ≤ 12 ∧ r.yearDay.length ≤ 12 ∧ r.weekNo.length ≤ 12 ∧ r.day.length ≤ 12 ∧ r.hour.length ≤ 12 ∧ r.minute.length ≤ 12 ∧ r.second.length ≤ 12 ∧ r.easter.length ≤ 12; omega) s hs
  omega
/-- A text with semicolons. -/
def textOf (l : List (List UInt8)) : List UInt8 := joinB 59 l
theorem textNil_A {w0 : World} (hG : Glob w0) (r : Ru) (x : Rs) (hr : RuOk r) (H : Heap) (hx : RuAt H r x) : ACalls Tryz.prog (CB w0) 14 [.agg (ruCells r x), vNil] H fun v H' => v = vS (textOf (parts r)) ∧ H' = H := by
  refine ACalls.flat rfl ?_
  refine A_fun (N := 74) (rs := [.tmp 4]) Tryz.func14 rfl rfl rfl (by kernel_rfl) (by kernel_rfl) (Nat.le_of_ble_eq_true rfl) ?_
  rintro e he ⟨g0, g1, -⟩
  have g0' := g0
  unfold ruCells at g0
  simp only [go_sem, Nat.reduceLT, Nat.reduceBEq, Nat.reduceAdd, Int.reduceBEq, Nat.reduceLeDiff, reduceIte, Nat.reduceEqDiff, Int.reduceEq, Int.reduceLE, Int.reduceLT, Int.reduceNe, Nat.reduceMul, Nat.reduceSub, Int.reduceToNat, he, g0, g1, hx.setPos.one, hx.month.one, hx.monthDay.one, hx.yearDay.one, hx.weekNo.one, hx.day.one, hx.hour.one, hx.minute.one, hx.second.one, hx.easter.one]
  refine callX_any (parts_A hG r x hr _ (hx.more _)) ?_
  rintro v h ⟨⟨G, rfl⟩, o, rfl, ho, hol⟩
  rw [pNine_same r x ⟨vNil, vNil, vNil, vNil, vNil, vNil, vNil, vNil, vNil, vNil⟩] at ho ⊢
  have hpl := parts_length (r := r)
  have hpm := parts_mem hr
  unfold parts at hpl hpm ⊢
  generalize pFreq r ++ pUntil r ++ pCount r ++ pInterval r ++ pNine r ⟨vNil, vNil, vNil, vNil, vNil, vNil, vNil, vNil, vNil, vNil⟩ ++ pDay r ++ pWkst r = l at *
  simp only [go_sem, Nat.reduceLT, Nat.reduceBEq, Nat.reduceAdd, Int.reduceBEq, Nat.reduceLeDiff, reduceIte, Nat.reduceEqDiff, Int.reduceEq, Int.reduceLE, Int.reduceLT, Int.reduceNe, Nat.reduceMul, Nat.reduceSub, Int.reduceToNat, he, g0, g1, setD_some]
  rw [List.append_assoc, List.cons_append, List.nil_append] at ho
  refine A_while 0 (fun k e h => (∃ G, h = H ++ G) ∧ h[o]? = some (.own 9 (l.map vS)) ∧ len e = 74 ∧ AL.get e 5 = .sl true o 0 l.length 1 ∧ AL.get e 15 = vI 0 ∧ AL.get e 16 = vI 0) (by kernel_rfl) ?_ ?_
  · simp only [go_sem, Nat.reduceLT, Nat.reduceBEq, Nat.reduceAdd, Int.reduceBEq, Nat.reduceLeDiff, reduceIte, Nat.reduceEqDiff, Int.reduceEq, Int.reduceLE, Int.reduceLT, Int.reduceNe, Nat.reduceMul, Nat.reduceSub, Int.reduceToNat, he, g0, g1]
    exact ⟨⟨_, rfl⟩, ho⟩
  · rintro k e h ⟨⟨G2, rfl⟩, ho, he, g5, g15, g16⟩
    have d0 : decide ((0 : Int) < 0) = false := rfl
    simp only [go_sem, Nat.reduceLT, Nat.reduceBEq, Nat.reduceAdd, Int.reduceBEq, Nat.reduceLeDiff, reduceIte, Nat.reduceEqDiff, Int.reduceEq, Int.reduceLE, Int.reduceLT, Int.reduceNe, Nat.reduceMul, Nat.reduceSub, Int.reduceToNat, he, g5, g15, g16, d0]
    refine A_while l.length (fun k e h => h = H ++ G2 ∧ len e = 74 ∧ AL.get e 58 = .sl true o 0 l.length 1 ∧ AL.get e 59 = vI l.length ∧ ∃ (i : Nat) (out : List UInt8), AL.get e 60 = vI i ∧ AL.get e 9 = vS out ∧ i + k = l.length ∧ out = joinB 59 (l.take i) ∧ out.length ≤ 30001 * i) (by kernel_rfl) ?_ ?_
    · simp only [go_sem, Nat.reduceLT, Nat.reduceBEq, Nat.reduceAdd, Int.reduceBEq, Nat.reduceLeDiff, reduceIte, Nat.reduceEqDiff, Int.reduceEq, Int.reduceLE, Int.reduceLT, Int.reduceNe, Nat.reduceMul, Nat.reduceSub, Int.reduceToNat, he, g5, g15, g16]
      exact ⟨0, [], rfl, rfl, by omega, rfl, by simp⟩
    · rintro k e h ⟨rfl, he, g58, g59, i, out, g60, g9, hik, hout, hol⟩
      simp only [go_sem, Nat.reduceLT, Nat.reduceBEq, Nat.reduceAdd, Int.reduceBEq, Nat.reduceLeDiff, reduceIte, Nat.reduceEqDiff, Int.reduceEq, Int.reduceLE, Int.reduceLT, Int.reduceNe, Nat.reduceMul, Nat.reduceSub, Int.reduceToNat, he, g58, g59, g60, g9]
      refine condK_of (fun hc => ?_) fun hc => ?_
      · have hc := of_decide_eq_true hc
        have hi : i < l.length := by omega
        have hli : l[i]? = some (l.getD i []) := by rw [List.getD_eq_getElem?_getD, List.getElem?_eq_getElem hi]; rfl
        have hlm := hpm _ (List.mem_of_getElem? hli)
        have hcell : (l.map vS)[i]? = some (vS (l.getD i [])) := by rw [List.getElem?_map, hli]; rfl
        have hst := joinB_take 59 l i _ hli
        generalize l.getD i [] = a at *
        have wi : IntKind.i64.wrap ((i : Int) + 1) = ((i + 1 : Nat) : Int) := by rw [wI64 (by omega)]; rfl
        simp only [go_sem, Nat.reduceLT, Nat.reduceBEq, Nat.reduceAdd, Int.reduceBEq, Nat.reduceLeDiff, reduceIte, Nat.reduceEqDiff, Int.reduceEq, Int.reduceLE, Int.reduceLT, Int.reduceNe, Nat.reduceMul, Nat.reduceSub, Int.reduceToNat, he, g58, g59, g60, g9, ho, hcell, Int.toNat_natCast]
        refine ⟨by omega, condK_of (fun hp => ?_) fun hp => ?_⟩
        · have hp := of_decide_eq_true hp
          simp only [go_sem, Nat.reduceLT, Nat.reduceBEq, Nat.reduceAdd, Int.reduceBEq, Nat.reduceLeDiff, reduceIte, Nat.reduceEqDiff, Int.reduceEq, Int.reduceLE, Int.reduceLT, Int.reduceNe, Nat.reduceMul, Nat.reduceSub, Int.reduceToNat, he, g58, g59, g60, g9, wi, List.length_append]
          rw [if_neg (by omega), ← hout] at hst
          refine ⟨by omega, by omega, k - 1, by omega, i + 1, _, rfl, rfl, by omega, by rw [hst], by simp only [List.length_append, List.length_cons]; omega⟩
        · have hp := of_decide_eq_false hp
          have h0 : i = 0 := by omega
          subst h0
          simp only [go_sem, Nat.reduceLT, Nat.reduceBEq, Nat.reduceAdd, Int.reduceBEq, Nat.reduceLeDiff, reduceIte, Nat.reduceEqDiff, Int.reduceEq, Int.reduceLE, Int.reduceLT, Int.reduceNe, Nat.reduceMul, Nat.reduceSub, Int.reduceToNat, he, g58, g59, g60, g9, wi, List.length_append]
          have ho2 : out = [] := List.eq_nil_of_length_eq_zero (by omega)
          subst ho2
          rw [if_pos rfl] at hst
          exact ⟨by simp only [List.length_nil]; omega, k - 1, by omega, 1, _, rfl, rfl, by omega, hst.symm, by simp only [List.nil_append]; omega⟩
      · have hc := of_decide_eq_false hc
        have hil : i = l.length := by omega
        simp only [go_sem, Nat.reduceLT, Nat.reduceBEq, Nat.reduceAdd, Int.reduceBEq, Nat.reduceLeDiff, reduceIte, Nat.reduceEqDiff, Int.reduceEq, Int.reduceLE, Int.reduceLT, Int.reduceNe, Nat.reduceMul, Nat.reduceSub, Int.reduceToNat, he, g58, g59, g60, g9]
        refine ⟨?_, _, rfl⟩
        rw [hout, hil, List.take_length]
        rfl
end Go.Proofs.YtlfpjdcogkcjlaaGreatDoor.F
