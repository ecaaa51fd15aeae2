/- The parts of a rule's text. -/
import Derived.Test.YtlfpjdcogkcjlaaGreatDoorT5
namespace Go.Proofs.YtlfpjdcogkcjlaaGreatDoor.F
open Go.RowKit Go.Proofs.YtlfpjdcogkcjlaaGreatDoor.AL Go.Proofs.YtlfpjdcogkcjlaaGreatDoor.B
set_option linter.unusedVariables false
set_option linter.unusedSimpArgs false
set_option maxRecDepth 20000
attribute [local irreducible] aops acode bindK bindV bindH callX callK condK guardK Kseq Kblk Knorm Kfun Kloop Kjoin outK AWp appendA
attribute [local go_sem] acode_skip acode_seq acode_region acode_cond acode_block acode_exit acode_ret acode_loop Kseq_normal Kseq_exit Kseq_ret Kblk_normal Kblk_ret Kblk_eq Kblk_ne Knorm_eq Kloop_normal Kloop_exit Kloop_ret Kjoin_normal Kjoin_exit Kjoin_ret condK_true condK_false bindK_put bindV_put bindK_no bindV_no bindH_no aops_nil gops wantK_some wantV_bool wantV_undef guardK_true guardK_false guardK_none aops_move aops_assign aops_pick aops_nilCheck aops_binOp aops_unOp aops_convert aops_fieldAddr aops_indexAddr aops_slice aops_index aops_extract aops_makeInterface aops_makeFunc aops_build aops_load aops_lookup aops_alloc aops_box aops_buildSlice aops_makeSlice aops_makeMap aops_store aops_insert aops_mapUpdate aops_len aops_append aops_call opA_tmp opA_const opA_global opA_func get_mk look_nil look_eq look_ne len_mk List.map_cons List.map_nil Option.map_some Option.map_none bin_add bin_sub bin_mul bin_quo bin_rem bin_eql bin_neq bin_lss bin_leq bin_gtr bin_geq bin_cat bin_seql bin_sneq bin_neq_ifc bin_eql_ifc bin_neq_nn bin_eql_nn bin_neq_ptr bin_eql_ptr bin_neq_pn isIfc_true isPtr_true bin_eql2 bin_neq2 aops_max max_int un_not un_neg lenA_K lenK_str lenK_nil lenK_sl lenK_array pick_bool pick_val bindV_ite bindK_ite bindH_ite slotV_sl slotK_some slotV_ptr slotR_some sliceV_sl cutK_some sliceV_str cutS_some bound_none bound_some indexA_str atS_some mkS fieldV_ptr loadV_ptr cellsK_ro cellsK_own loadK_one loadK_many storeA_ptr storeK_own allocA_some heap_len heap_get0 heap_get heap_set0 heap_set Kfun_ret Kfun_normal resA_nil resA_tmp resA_cell outK_some packA_one packA_nil packA_two List.length_cons List.length_nil List.getElem?_cons_zero List.getElem?_cons_succ List.set_cons_zero List.set_cons_succ List.cons_append List.nil_append List.append_assoc Nat.zero_add Nat.add_zero List.all_cons List.all_nil Value.oneCell' Bool.and_true Bool.and_self if_true if_false Bool.false_eq_true partsA buildV buildA fillA Option.bind_some putCells List.drop_succ_cons List.drop_zero List.take_succ_cons List.take_zero List.take_nil List.drop_nil and_self and_true true_and Option.some.injEq ne_eq not_false_eq_true Option.map_map List.getElem?_toArray beq_self_eq_true Bool.true_beq Bool.false_beq Bool.not_true Bool.not_false decide_true decide_false beq_true Nat.mul_one Nat.one_mul Nat.zero_mul bsA buildSliceA zerosN List.append_nil Int.toNat_natCast Int.toNat_zero boxA one_val one_ptr one_sl one_mp one_ifc one_fn avCells_agg avCells_val valCells_true valCells_agg avCells_ptr avCells_sl avCells_mp avCells_ifc avCells_fn app_cons app_nil lookupA insertA ifaceV extractA kd2 ars127 fp127 ars60 fp60 ars31 fp31 eq2_99 eq2_84 eq2_47 fp52 sz2 kd3 sz3 kd4 sz4 kd5 sz5 kd9 sz9 kd22 sz22 el22 kd23 sz23 el23 kd25 sz25 zc25 fp25 fo25_0 fo25_1 fo25_2 fo25_3 fo25_4 fo25_5 fo25_6 fo25_7 fo25_8 fo25_9 fo25_10 fo25_11 fo25_12 fo25_13 fo25_14 fo25_15 fo25_16 fo25_17 kd31 sz31 zc31 ar31 kd32 sz32 el32 kd34 sz34 zc34 fp34 fo34_0 fo34_1 fo34_2 fo34_3 fo34_4 fo34_5 fo34_6 fo34_7 fo34_8 fo34_9 fo34_10 fo34_11 fo34_12 fo34_13 fo34_14 fo34_15 fo34_16 fo34_17 el38 el42 kd47 sz47 zc47 fp47 fo47_0 fo47_1 kd52 sz52 zc52 fo52_0 el55 zc60 kd72 sz72 zc72 fp72 fo72_0 fo72_1 el73 isStrMap76 zv4 kd80 sz80 kd84 sz84 zc84 fp84 fo84_0 fo84_1 kd88 sz88 zc88 fp88 fo88_0 fo88_1 fo88_2 fo88_3 kd91 sz91 zc91 fp91 fo91_0 fo91_1 fo91_2 el94 kd99 sz99 zc99 fp99 fo99_0 fo99_1 kd100 sz100 el100 kd102 sz102 zc102 fp102 fo102_0 fo102_1 fo102_2 fo102_3 fo102_4 fo102_5 fo102_6 fo102_7 fo102_8 fo102_9 fo102_10 fo102_11 fo102_12 fo102_13 fo102_14 fo102_15 kd109 sz109 zc109 fp109 isStrMap124 zv80 zc127 kd153 sz153 zc153 ar153 isIface157 kd159 sz159 zc159 fp159 isStrMap177 zv84 Tryz.underlying3 Tryz.underlying4 Tryz.underlying5 Tryz.underlying9 Tryz.underlying21 Tryz.underlying22 Tryz.underlying23 Tryz.underlying32 Tryz.underlying38 Tryz.underlying42 Tryz.underlying47 Tryz.underlying55 Tryz.underlying67 Tryz.underlying73 Tryz.underlying80 Tryz.underlying84 Tryz.underlying94 Tryz.underlying100 Tryz.underlying2 Tryz.underlying127 Tryz.underlying60 Tryz.underlying31
/-- A slice of texts of the call's own, behind objects that stay. -/
def OutAt (H h : Heap) (x : AV) (l : List (List UInt8)) : Prop := (∃ G, h = H ++ G) ∧ ∃ o, x = .sl true o 0 l.length 1 ∧ h[o]? = some (.own 9 (l.map vS)) ∧ H.length ≤ o
theorem set_behind {H G : Heap} {o : Nat} {y : AObj} (h : H.length ≤ o) : (H ++ G).set o y = H ++ G.set (o - H.length) y := List.set_append_right _ _ h
theorem one_vS (l : List UInt8) : (vS l).one = true := rfl
theorem all_one (l : List (List UInt8)) : (l.map vS).all AV.one = true := by
  rw [List.all_eq_true]
  intro x hx
  obtain ⟨s, _, rfl⟩ := List.mem_map.1 hx
  rfl
/-- A slice, and one text behind it. -/
theorem OutAt.push {H h : Heap} {x : AV} {l : List (List UInt8)} (hO : OutAt H h x l) (s : List UInt8) (hl : l.length ≤ 100000000) : ∃ x' h', appendA Tryz.prog 42 x (.sl true h.length 0 1 1) (h ++ [AObj.own 9 [vS s]]) = some (x', h') ∧ OutAt H h' x' (l ++ [s]) ∧ ∀ (p : Nat) (y : AObj), h[p]? = some y → (∀ cs, y ≠ AObj.own 9 cs) → h'[p]? = some y := by
  obtain ⟨⟨G, rfl⟩, o, rfl, ho, hol⟩ := hO
  have hlt : o < (H ++ G).length := (List.getElem?_eq_some_iff.1 ho).1
  refine ⟨.sl true (H ++ G ++ [AObj.own 9 [vS s]]).length 0 (l.length + 1) 1, ((H ++ G) ++ [AObj.own 9 [vS s]]).set o .gone ++ [AObj.own 9 (l.map vS ++ [vS s])], ?_, ⟨?_, ?_⟩, ?_⟩
  · have h1 : cellsOf (H ++ G ++ [AObj.own 9 [vS s]]) (H ++ G).length = some [vS s] := by unfold cellsOf; rw [heap_get0]; rfl
    have h2 : (H ++ G ++ [AObj.own 9 [vS s]])[o]? = some (.own 9 (l.map vS)) := by rw [get_less hlt]; exact ho
    unfold appendA
    rw [el42]
    simp only [h1, h2]
    rw [if_pos ⟨by simp, trivial, by rfl⟩, if_pos ⟨trivial, trivial, by simp, by omega, by omega⟩]
    simp only [Nat.mul_one, List.drop_zero, List.take_succ_cons, List.take_zero]
    rw [List.take_of_length_le (by simp)]
  · refine ⟨(G ++ [AObj.own 9 [vS s]]).set (o - H.length) .gone ++ [AObj.own 9 (l.map vS ++ [vS s])], ?_⟩
    rw [List.append_assoc, set_behind hol, List.append_assoc]
  · refine ⟨(H ++ G ++ [AObj.own 9 [vS s]]).length, by simp, ?_, by simp⟩
    have : ((H ++ G ++ [AObj.own 9 [vS s]]).set o .gone).length = (H ++ G ++ [AObj.own 9 [vS s]]).length := List.length_set
    rw [← this, heap_get0]
    simp
  · intro p y hp hy
    have hpo : o ≠ p := by
      rintro rfl
      rw [ho] at hp
      exact hy _ (Option.some.inj hp).symm
    have hpl : p < (H ++ G).length := (List.getElem?_eq_some_iff.1 hp).1
    rw [get_less (by simp only [List.length_set, List.length_append, List.length_cons, List.length_nil] at hpl ⊢; omega), List.getElem?_set_ne hpo, get_less hpl]
    exact hp
theorem OutAt.more {H h : Heap} {x : AV} {l : List (List UInt8)} (hO : OutAt H h x l) (G : Heap) : OutAt H (h ++ G) x l := by
  obtain ⟨⟨G0, rfl⟩, o, h1, h2, h3⟩ := hO
  exact ⟨⟨G0 ++ G, List.append_assoc _ _ _⟩, o, h1, get_more h2, h3⟩
/-- A rule of the specification's. -/
structure Ru where
  freq : Nat
  hasStart : Bool
  start : Int
  interval : Int
  wkst : Int
  count : Int
  hasUntil : Bool
  til : Int
  setPos : List Int
  month : List Int
  monthDay : List Int
  yearDay : List Int
  weekNo : List Int
  day : List (Int × Int)
  hour : List Int
  minute : List Int
  second : List Int
  easter : List Int
/-- The slices of a rule, as values. -/
structure Rs where
  setPos : AV
  month : AV
  monthDay : AV
  yearDay : AV
  weekNo : AV
  day : AV
  hour : AV
  minute : AV
  second : AV
  easter : AV
abbrev vU (n : Nat) : AV := .val (.int .u8 (n : Int))
/-- A rule's cells. -/
def ruCells (r : Ru) (x : Rs) : List AV := [vU r.freq, vB r.hasStart, vI r.start, vI r.interval, vI r.wkst, vI r.count, vB r.hasUntil, vI r.til, x.setPos, x.month, x.monthDay, x.yearDay, x.weekNo, x.day, x.hour, x.minute, x.second, x.easter]
structure RuAt (H : Heap) (r : Ru) (x : Rs) : Prop where
  setPos : IntsAt H x.setPos r.setPos
  month : IntsAt H x.month r.month
  monthDay : IntsAt H x.monthDay r.monthDay
  yearDay : IntsAt H x.yearDay r.yearDay
  weekNo : IntsAt H x.weekNo r.weekNo
  day : DaysAt H x.day r.day
  hour : IntsAt H x.hour r.hour
  minute : IntsAt H x.minute r.minute
  second : IntsAt H x.second r.second
  easter : IntsAt H x.easter r.easter
theorem RuAt.more {H : Heap} {r : Ru} {x : Rs} (h : RuAt H r x) (G : Heap) : RuAt (H ++ G) r x :=
  ⟨h.setPos.more G, h.month.more G, h.monthDay.more G, h.yearDay.more G, h.weekNo.more G, h.day.more G, h.hour.more G, h.minute.more G, h.second.more G, h.easter.more G⟩
theorem SlOf.one {H : Heap} {x : AV} {n st : Nat} {cell : Nat → AV} (h : SlOf H x n st cell) : x.one = true := by
  rcases h with ⟨rfl, _⟩ | ⟨own, o, off, cs, rfl, _⟩ <;> rfl
def IntsOk (l : List Int) : Prop := l.length ≤ 1000 ∧ ∀ n ∈ l, -9223372036854775808 ≤ n ∧ n ≤ 9223372036854775807
/-- A rule whose numbers are numbers. -/
structure RuOk (r : Ru) : Prop where
  freq : r.freq ≤ 6
  wkst : 0 ≤ r.wkst ∧ r.wkst ≤ 6
  interval : 0 ≤ r.interval ∧ r.interval ≤ 9223372036854775807
  count : 0 ≤ r.count ∧ r.count ≤ 9223372036854775807
  til : 0 ≤ r.til ∧ r.til ≤ 1000000000000
  setPos : IntsOk r.setPos
  month : IntsOk r.month
  monthDay : IntsOk r.monthDay
  yearDay : IntsOk r.yearDay
  weekNo : IntsOk r.weekNo
  day : r.day.length ≤ 1000 ∧ ∀ d ∈ r.day, DayOk d
  hour : IntsOk r.hour
  minute : IntsOk r.minute
  second : IntsOk r.second
  easter : IntsOk r.easter
theorem freq_get {f : Nat} (h : f ≤ 6) : (freqs.map vS)[f]? = some (vS (freqs.getD f [])) ∧ (freqs.getD f []).length ≤ 8 := by
  match f, h with
  | 0, _ => exact ⟨rfl, by decide⟩
  | 1, _ => exact ⟨rfl, by decide⟩
  | 2, _ => exact ⟨rfl, by decide⟩
  | 3, _ => exact ⟨rfl, by decide⟩
  | 4, _ => exact ⟨rfl, by decide⟩
  | 5, _ => exact ⟨rfl, by decide⟩
  | 6, _ => exact ⟨rfl, by decide⟩
def pFreq (r : Ru) : List (List UInt8) := [[70, 82, 69, 81, 61] ++ freqs.getD r.freq []]
def pUntil (r : Ru) : List (List UInt8) := if r.hasUntil then [[85, 78, 84, 73, 76, 61] ++ dateText r.til] else []
def pCount (r : Ru) : List (List UInt8) := if 0 < r.count then [[67, 79, 85, 78, 84, 61] ++ Lib.itoa r.count] else []
def pInterval (r : Ru) : List (List UInt8) := if 1 < r.interval then [[73, 78, 84, 69, 82, 86, 65, 76, 61] ++ Lib.itoa r.interval] else []
theorem pUntil_len (r : Ru) : (pUntil r).length ≤ 1 := by unfold pUntil; split <;> simp
theorem pCount_len (r : Ru) : (pCount r).length ≤ 1 := by unfold pCount; split <;> simp
theorem pInterval_len (r : Ru) : (pInterval r).length ≤ 1 := by unfold pInterval; split <;> simp
def pOne (p : List UInt8 × AV × List Int) : List (List UInt8) := if p.2.2.length = 0 then [] else [p.1 ++ 61 :: joined p.2.2]
theorem joinB_length (c : UInt8) (m : Nat) : ∀ l : List (List UInt8), (∀ s ∈ l, s.length ≤ m) → (joinB c l).length ≤ (m + 1) * l.length
  | [], _ => by simp [joinB]
  | [a], h => by have := h a (by simp); simp [joinB]; omega
  | a :: b :: r, h => by
    have h1 := h a (by simp)
    have h2 := joinB_length c m (b :: r) fun s hs => h s (List.mem_cons_of_mem _ hs)
    show (a ++ c :: joinB c (b :: r)).length ≤ (m + 1) * ((b :: r).length + 1)
    rw [List.length_append, List.length_cons, Nat.mul_add]
    omega
theorem joined_length {l : List Int} (h : IntsOk l) : (joined l).length ≤ 22 * l.length := by
  have := joinB_length 44 21 (l.map Lib.itoa) (by
    intro s hs
    obtain ⟨n, hn, rfl⟩ := List.mem_map.1 hs
    exact Lib.itoa_length_le n (h.2 n hn).1 (h.2 n hn).2)
  rw [List.length_map] at this
  exact this
theorem pOne_length (p : List UInt8 × AV × List Int) : (pOne p).length ≤ 1 := by unfold pOne; split <;> simp
/-- The nine lists, with their names. -/
def nine (r : Ru) (x : Rs) : List (List UInt8 × AV × List Int) := [([66, 89, 83, 69, 67, 79, 78, 68], x.second, r.second), ([66, 89, 77, 73, 78, 85, 84, 69], x.minute, r.minute), ([66, 89, 72, 79, 85, 82], x.hour, r.hour), ([66, 89, 77, 79, 78, 84, 72, 68, 65, 89], x.monthDay, r.monthDay), ([66, 89, 89, 69, 65, 82, 68, 65, 89], x.yearDay, r.yearDay), ([66, 89, 87, 69, 69, 75, 78, 79], x.weekNo, r.weekNo), ([66, 89, 77, 79, 78, 84, 72], x.month, r.month), ([66, 89, 83, 69, 84, 80, 79, 83], x.setPos, r.setPos), ([66, 89, 69, 65, 83, 84, 69, 82], x.easter, r.easter)]
def nineCells (x : Rs) : List AV := [vS [66, 89, 83, 69, 67, 79, 78, 68], x.second, vS [66, 89, 77, 73, 78, 85, 84, 69], x.minute, vS [66, 89, 72, 79, 85, 82], x.hour, vS [66, 89, 77, 79, 78, 84, 72, 68, 65, 89], x.monthDay, vS [66, 89, 89, 69, 65, 82, 68, 65, 89], x.yearDay, vS [66, 89, 87, 69, 69, 75, 78, 79], x.weekNo, vS [66, 89, 77, 79, 78, 84, 72], x.month, vS [66, 89, 83, 69, 84, 80, 79, 83], x.setPos, vS [66, 89, 69, 65, 83, 84, 69, 82], x.easter]
theorem nine_spec (r : Ru) (x : Rs) {H : Heap} (hx : RuAt H r x) (hr : RuOk r) {i : Nat} (hi : i < 9) : ∃ n a l, (nine r x)[i]? = some (n, a, l) ∧ n.length ≤ 10 ∧ i * 2 + 2 ≤ (nineCells x).length ∧ ((nineCells x).drop (i * 2)).take 2 = [vS n, a] ∧ IntsAt H a l ∧ IntsOk l := by
  match i, hi with
  | 0, _ => exact ⟨_, _, _, rfl, by decide, by show _ ≤ 18; omega, rfl, hx.second, hr.second⟩
  | 1, _ => exact ⟨_, _, _, rfl, by decide, by show _ ≤ 18; omega, rfl, hx.minute, hr.minute⟩
  | 2, _ => exact ⟨_, _, _, rfl, by decide, by show _ ≤ 18; omega, rfl, hx.hour, hr.hour⟩
  | 3, _ => exact ⟨_, _, _, rfl, by decide, by show _ ≤ 18; omega, rfl, hx.monthDay, hr.monthDay⟩
  | 4, _ => exact ⟨_, _, _, rfl, by decide, by show _ ≤ 18; omega, rfl, hx.yearDay, hr.yearDay⟩
  | 5, _ => exact ⟨_, _, _, rfl, by decide, by show _ ≤ 18; omega, rfl, hx.weekNo, hr.weekNo⟩
  | 6, _ => exact ⟨_, _, _, rfl, by decide, by show _ ≤ 18; omega, rfl, hx.month, hr.month⟩
  | 7, _ => exact ⟨_, _, _, rfl, by decide, by show _ ≤ 18; omega, rfl, hx.setPos, hr.setPos⟩
  | 8, _ => exact ⟨_, _, _, rfl, by decide, by show _ ≤ 18; omega, rfl, hx.easter, hr.easter⟩
def pDay (r : Ru) : List (List UInt8) := if r.day.length = 0 then [] else [[66, 89, 68, 65, 89, 61] ++ days r.day]
def pWkst (r : Ru) : List (List UInt8) := if r.wkst = 0 then [] else [[87, 75, 83, 84, 61] ++ wdays.getD r.wkst.toNat []]
theorem pDay_len (r : Ru) : (pDay r).length ≤ 1 := by unfold pDay; split <;> simp
theorem days_length {l : List (Int × Int)} (hl : l.length ≤ 1000) (h : ∀ d ∈ l, DayOk d) : (days l).length ≤ 24 * l.length := by
  have := joinB_length 44 23 (l.map dayText) (by
    intro s hs
    obtain ⟨d, hd, rfl⟩ := List.mem_map.1 hs
    obtain ⟨h0, h1, h2, h3⟩ := h d hd
    have hw := (wday_get h0 h1).2
    have hi := Lib.itoa_length_le d.2 h2 h3
    unfold dayText
    rw [List.length_append, hw]
    split <;> (try simp only [List.length_nil]) <;> omega)
  rw [List.length_map] at this
  exact this
def pNine (r : Ru) (x : Rs) : List (List UInt8) := (nine r x).flatMap pOne
theorem dateText_length {t : Int} (h0 : 0 ≤ t) (h1 : t ≤ 1000000000000) : (dateText t).length ≤ 1000 := by
  have hy := yearOf_ok (n := t / 86400) (by omega)
  have hd := dayOf_ok (n := t / 86400) (by omega)
  have l1 := padded_length (yearOf (t / 86400)) 4 (by omega) (by omega) (by omega)
  have l2 := padded_length (dayOf (t / 86400)).1 2 (by omega) (by omega) (by omega)
  have l3 := padded_length (dayOf (t / 86400)).2 2 (by omega) (by omega) (by omega)
  have l4 := padded_length (t % 86400 / 3600) 2 (by omega) (by omega) (by omega)
  have l5 := padded_length (t % 86400 / 60 % 60) 2 (by omega) (by omega) (by omega)
  have l6 := padded_length (t % 86400 % 60) 2 (by omega) (by omega) (by omega)
  unfold dateText
  simp only [List.length_append, List.length_cons, List.length_nil]
  omega
set_option maxHeartbeats 4000000 in
theorem parts_A {w0 : World} (hG : Glob w0) (r : Ru) (x : Rs) (hr : RuOk r) (H : Heap) (hx : RuAt H r x) : ACalls Tryz.prog (CB w0) 18 [.agg (ruCells r x)] H fun v H' => OutAt H H' v (pFreq r ++ pUntil r ++ pCount r ++ pInterval r ++ pNine r x ++ pDay r ++ pWkst r) := by
  refine A_fun (N := 114) (rs := [.tmp 2]) Tryz.func18 rfl rfl rfl (by kernel_rfl) (by kernel_rfl) (Nat.le_of_ble_eq_true rfl) ?_
  rintro e he ⟨g0, -⟩
  obtain ⟨hf, hfl⟩ := freq_get hr.freq
  have hbox : ∀ {h : Heap} {x' : AV} {l : List (List UInt8)}, OutAt (H ++ [.own 25 (ruCells r x)]) h x' l → h[H.length]? = some (.own 25 (ruCells r x)) ∧ RuAt h r x := by
    rintro h x' l ⟨⟨G, rfl⟩, _⟩
    rw [List.append_assoc, heap_get0]
    exact ⟨rfl, hx.more _⟩
  have hB : ∀ G, (H ++ [.own 25 (ruCells r x)] ++ G)[H.length]? = some (.own 25 (ruCells r x)) := fun G => by rw [List.append_assoc, heap_get0]; rfl
  have hB0 : (H ++ [.own 25 (ruCells r x)])[H.length]? = some (.own 25 (ruCells r x)) := heap_get0
  unfold ruCells at g0 hB hB0 hbox
  simp only [go_sem, Nat.reduceLT, Nat.reduceBEq, Nat.reduceAdd, Int.reduceBEq, Nat.reduceLeDiff, reduceIte, Nat.reduceEqDiff, Int.reduceEq, Int.reduceLE, Int.reduceLT, Int.reduceNe, Nat.reduceMul, Nat.reduceSub, Int.reduceToNat, he, g0, hx.setPos.one, hx.month.one, hx.monthDay.one, hx.yearDay.one, hx.weekNo.one, hx.day.one, hx.hour.one, hx.minute.one, hx.second.one, hx.easter.one]
  generalize hH1 : H ++ [AObj.own 25 [vU r.freq, vB r.hasStart, vI r.start, vI r.interval, vI r.wkst, vI r.count, vB r.hasUntil, vI r.til, x.setPos, x.month, x.monthDay, x.yearDay, x.weekNo, x.day, x.hour, x.minute, x.second, x.easter]] = H1 at *
  refine acode_draw mixed (by kernel_rfl) ?_
  simp only [go_sem, Nat.reduceLT, Nat.reduceBEq, Nat.reduceAdd, Int.reduceBEq, Nat.reduceLeDiff, reduceIte, Nat.reduceEqDiff, Int.reduceEq, Int.reduceLE, Int.reduceLT, Int.reduceNe, Nat.reduceMul, Nat.reduceSub, Int.reduceToNat, he]
  refine callX_of (frequencies_A _) (List.prefix_append _ _) ?_
  simp only [go_sem, Nat.reduceLT, Nat.reduceBEq, Nat.reduceAdd, Int.reduceBEq, Nat.reduceLeDiff, reduceIte, Nat.reduceEqDiff, Int.reduceEq, Int.reduceLE, Int.reduceLT, Int.reduceNe, Nat.reduceMul, Nat.reduceSub, Int.reduceToNat, he, setD_some, hB, hf, Int.toNat_natCast]
  refine ⟨by have := hr.freq; omega, by omega, ?_⟩
  have hO1 : OutAt H1 (H1 ++ [AObj.own 9 (List.map vS freqs), AObj.own 9 [vS (70 :: 82 :: 69 :: 81 :: 61 :: freqs.getD r.freq [])]]) (AV.sl true (H1.length + 1) 0 1 1) (pFreq r) := ⟨⟨_, rfl⟩, _, rfl, by rw [heap_get]; rfl, by omega⟩
  refine cond_join (fun e h => len e = 114 ∧ AL.get e 1 = .ptr H.length 0 ∧ ∃ x', AL.get e 3 = x' ∧ OutAt H1 h x' (pFreq r ++ pUntil r)) (fun hp => ?_) (fun hp => ?_) ?_
  · simp only [go_sem, Nat.reduceLT, Nat.reduceBEq, Nat.reduceAdd, Int.reduceBEq, Nat.reduceLeDiff, reduceIte, Nat.reduceEqDiff, Int.reduceEq, Int.reduceLE, Int.reduceLT, Int.reduceNe, Nat.reduceMul, Nat.reduceSub, Int.reduceToNat, he, hB]
    refine callX_of (dateText_A hG _ hr.til.1 hr.til.2 _) (List.prefix_refl _) ?_
    have hdl := dateText_length hr.til.1 hr.til.2
    have hl1 : (pFreq r).length ≤ 100000000 := by show 1 ≤ 100000000; omega
    have hpush := hO1.push ([85, 78, 84, 73, 76, 61] ++ dateText r.til) hl1
    obtain ⟨x', h', ha, hO, -⟩ := hpush
    simp only [go_sem, Nat.reduceLT, Nat.reduceBEq, Nat.reduceAdd, Int.reduceBEq, Nat.reduceLeDiff, reduceIte, Nat.reduceEqDiff, Int.reduceEq, Int.reduceLE, Int.reduceLT, Int.reduceNe, Nat.reduceMul, Nat.reduceSub, Int.reduceToNat, he, hB, setD_some] at ha ⊢
    rw [ha]
    simp only [go_sem, Nat.reduceLT, Nat.reduceBEq, Nat.reduceAdd, Int.reduceBEq, Nat.reduceLeDiff, reduceIte, Nat.reduceEqDiff, Int.reduceEq, Int.reduceLE, Int.reduceLT, Int.reduceNe, Nat.reduceMul, Nat.reduceSub, Int.reduceToNat, he]
    refine ⟨by omega, _, rfl, ?_⟩
    unfold pUntil
    rw [if_pos hp]
    exact hO
  · simp only [go_sem, Nat.reduceLT, Nat.reduceBEq, Nat.reduceAdd, Int.reduceBEq, Nat.reduceLeDiff, reduceIte, Nat.reduceEqDiff, Int.reduceEq, Int.reduceLE, Int.reduceLT, Int.reduceNe, Nat.reduceMul, Nat.reduceSub, Int.reduceToNat, he, hB]
    unfold pUntil
    rw [if_neg (by simp [hp]), List.append_nil]
    exact ⟨_, rfl, hO1⟩
  rintro e h ⟨he, g1, x', g3, hO⟩
  have hb := (hbox hO).1
  have hlc := Lib.itoa_length_le r.count (by have := hr.count; omega) hr.count.2
  have hli := Lib.itoa_length_le r.interval (by have := hr.interval; omega) hr.interval.2
  have lu := pUntil_len r
  have lc := pCount_len r
  simp only [go_sem, Nat.reduceLT, Nat.reduceBEq, Nat.reduceAdd, Int.reduceBEq, Nat.reduceLeDiff, reduceIte, Nat.reduceEqDiff, Int.reduceEq, Int.reduceLE, Int.reduceLT, Int.reduceNe, Nat.reduceMul, Nat.reduceSub, Int.reduceToNat, he, g1, g3, hb]
  refine cond_join (fun e h => len e = 114 ∧ AL.get e 1 = .ptr H.length 0 ∧ ∃ x', AL.get e 3 = x' ∧ OutAt H1 h x' (pFreq r ++ pUntil r ++ pCount r)) (fun hp => ?_) (fun hp => ?_) ?_
  · have hp := of_decide_eq_true hp
    simp only [go_sem, Nat.reduceLT, Nat.reduceBEq, Nat.reduceAdd, Int.reduceBEq, Nat.reduceLeDiff, reduceIte, Nat.reduceEqDiff, Int.reduceEq, Int.reduceLE, Int.reduceLT, Int.reduceNe, Nat.reduceMul, Nat.reduceSub, Int.reduceToNat, he, g1, g3, hb]
    refine callX_of (itoa_A hG _ (by omega) hr.count.2 _) (List.prefix_refl _) ?_
    have hpush := hO.push ([67, 79, 85, 78, 84, 61] ++ Lib.itoa r.count) (by simp only [List.length_append, pFreq, List.length_cons, List.length_nil]; omega)
    obtain ⟨x2, h2, ha, hO2, -⟩ := hpush
    simp only [go_sem, Nat.reduceLT, Nat.reduceBEq, Nat.reduceAdd, Int.reduceBEq, Nat.reduceLeDiff, reduceIte, Nat.reduceEqDiff, Int.reduceEq, Int.reduceLE, Int.reduceLT, Int.reduceNe, Nat.reduceMul, Nat.reduceSub, Int.reduceToNat, he, g1, g3, hb, setD_some] at ha ⊢
    rw [ha]
    simp only [go_sem, Nat.reduceLT, Nat.reduceBEq, Nat.reduceAdd, Int.reduceBEq, Nat.reduceLeDiff, reduceIte, Nat.reduceEqDiff, Int.reduceEq, Int.reduceLE, Int.reduceLT, Int.reduceNe, Nat.reduceMul, Nat.reduceSub, Int.reduceToNat, he, g1]
    refine ⟨by omega, _, rfl, ?_⟩
    unfold pCount
    rw [if_pos hp]
    simpa only [List.append_assoc] using hO2
  · have hp := of_decide_eq_false hp
    simp only [go_sem, Nat.reduceLT, Nat.reduceBEq, Nat.reduceAdd, Int.reduceBEq, Nat.reduceLeDiff, reduceIte, Nat.reduceEqDiff, Int.reduceEq, Int.reduceLE, Int.reduceLT, Int.reduceNe, Nat.reduceMul, Nat.reduceSub, Int.reduceToNat, he, g1, g3]
    unfold pCount
    rw [if_neg hp, List.append_nil]
    exact ⟨_, rfl, hO⟩
  rintro e h ⟨he, g1, x', g3, hO⟩
  have hb := (hbox hO).1
  have lv := pInterval_len r
  simp only [go_sem, Nat.reduceLT, Nat.reduceBEq, Nat.reduceAdd, Int.reduceBEq, Nat.reduceLeDiff, reduceIte, Nat.reduceEqDiff, Int.reduceEq, Int.reduceLE, Int.reduceLT, Int.reduceNe, Nat.reduceMul, Nat.reduceSub, Int.reduceToNat, he, g1, g3, hb]
  refine cond_join (fun e h => len e = 114 ∧ AL.get e 1 = .ptr H.length 0 ∧ ∃ x', AL.get e 3 = x' ∧ OutAt H1 h x' (pFreq r ++ pUntil r ++ pCount r ++ pInterval r)) (fun hp => ?_) (fun hp => ?_) ?_
  · have hp := of_decide_eq_true hp
    simp only [go_sem, Nat.reduceLT, Nat.reduceBEq, Nat.reduceAdd, Int.reduceBEq, Nat.reduceLeDiff, reduceIte, Nat.reduceEqDiff, Int.reduceEq, Int.reduceLE, Int.reduceLT, Int.reduceNe, Nat.reduceMul, Nat.reduceSub, Int.reduceToNat, he, g1, g3, hb]
    refine callX_of (itoa_A hG _ (by omega) hr.interval.2 _) (List.prefix_refl _) ?_
    have hpush := hO.push ([73, 78, 84, 69, 82, 86, 65, 76, 61] ++ Lib.itoa r.interval) (by simp only [List.length_append, pFreq, List.length_cons, List.length_nil]; omega)
    obtain ⟨x2, h2, ha, hO2, -⟩ := hpush
    simp only [go_sem, Nat.reduceLT, Nat.reduceBEq, Nat.reduceAdd, Int.reduceBEq, Nat.reduceLeDiff, reduceIte, Nat.reduceEqDiff, Int.reduceEq, Int.reduceLE, Int.reduceLT, Int.reduceNe, Nat.reduceMul, Nat.reduceSub, Int.reduceToNat, he, g1, g3, hb, setD_some] at ha ⊢
    rw [ha]
    simp only [go_sem, Nat.reduceLT, Nat.reduceBEq, Nat.reduceAdd, Int.reduceBEq, Nat.reduceLeDiff, reduceIte, Nat.reduceEqDiff, Int.reduceEq, Int.reduceLE, Int.reduceLT, Int.reduceNe, Nat.reduceMul, Nat.reduceSub, Int.reduceToNat, he, g1]
    refine ⟨by omega, _, rfl, ?_⟩
    unfold pInterval
    rw [if_pos hp]
    simpa only [List.append_assoc] using hO2
  · have hp := of_decide_eq_false hp
    simp only [go_sem, Nat.reduceLT, Nat.reduceBEq, Nat.reduceAdd, Int.reduceBEq, Nat.reduceLeDiff, reduceIte, Nat.reduceEqDiff, Int.reduceEq, Int.reduceLE, Int.reduceLT, Int.reduceNe, Nat.reduceMul, Nat.reduceSub, Int.reduceToNat, he, g1, g3]
    unfold pInterval
    rw [if_neg hp, List.append_nil]
    exact ⟨_, rfl, hO⟩
  rintro e h ⟨he, g1, x', g3, hO⟩
  have hb := (hbox hO).1
  simp only [go_sem, Nat.reduceLT, Nat.reduceBEq, Nat.reduceAdd, Int.reduceBEq, Nat.reduceLeDiff, reduceIte, Nat.reduceEqDiff, Int.reduceEq, Int.reduceLE, Int.reduceLT, Int.reduceNe, Nat.reduceMul, Nat.reduceSub, Int.reduceToNat, he, g1, g3, hb, avCells_one hx.setPos.one, avCells_one hx.month.one, avCells_one hx.monthDay.one, avCells_one hx.yearDay.one, avCells_one hx.weekNo.one, avCells_one hx.hour.one, avCells_one hx.minute.one, avCells_one hx.second.one, avCells_one hx.easter.one, hx.setPos.one, hx.month.one, hx.monthDay.one, hx.yearDay.one, hx.weekNo.one, hx.hour.one, hx.minute.one, hx.second.one, hx.easter.one]
  have hO9 := hO.more [.own 72 (nineCells x)]
  generalize hL : pFreq r ++ pUntil r ++ pCount r ++ pInterval r = L0 at *
  have hL0 : L0.length ≤ 4 := by rw [← hL]; simp only [List.length_append, pFreq, List.length_cons, List.length_nil]; omega
  refine A_while 9 (fun k e h' => ∃ (i : Nat) (x2 : AV), i + k = 9 ∧ len e = 114 ∧ AL.get e 1 = .ptr H.length 0 ∧ AL.get e 71 = vI i ∧ AL.get e 70 = vI 9 ∧ AL.get e 69 = .sl true h.length 0 9 2 ∧ AL.get e 3 = x2 ∧ OutAt H1 h' x2 (L0 ++ ((nine r x).take i).flatMap pOne) ∧ (((nine r x).take i).flatMap pOne).length ≤ i ∧ h'[h.length]? = some (.own 72 (nineCells x))) (by kernel_rfl) ?_ ?_
  · simp only [go_sem, Nat.reduceLT, Nat.reduceBEq, Nat.reduceAdd, Int.reduceBEq, Nat.reduceLeDiff, reduceIte, Nat.reduceEqDiff, Int.reduceEq, Int.reduceLE, Int.reduceLT, Int.reduceNe, Nat.reduceMul, Nat.reduceSub, Int.reduceToNat, he, g1, g3]
    refine ⟨0, x', rfl, rfl, rfl, rfl, ?_, by simp, rfl⟩
    show OutAt H1 _ x' (L0 ++ [])
    rw [List.append_nil]
    exact hO9
  · rintro k e h' ⟨i, x2, hik, he, g1, g71, g70, g69, g3, hO, hfl, h72⟩
    simp only [go_sem, Nat.reduceLT, Nat.reduceBEq, Nat.reduceAdd, Int.reduceBEq, Nat.reduceLeDiff, reduceIte, Nat.reduceEqDiff, Int.reduceEq, Int.reduceLE, Int.reduceLT, Int.reduceNe, Nat.reduceMul, Nat.reduceSub, Int.reduceToNat, he, g1, g3, g69, g70, g71]
    refine condK_of (fun hc => ?_) fun hc => ?_
    · have hc := of_decide_eq_true hc
      have hi : i < 9 := by omega
      have hxh := (hbox hO).2
      obtain ⟨n, a, l, hn1, hn2, hn3, hn4, hn5, hn6⟩ := nine_spec r x hxh hr hi
      simp only [go_sem, Nat.reduceLT, Nat.reduceBEq, Nat.reduceAdd, Int.reduceBEq, Nat.reduceLeDiff, reduceIte, Nat.reduceEqDiff, Int.reduceEq, Int.reduceLE, Int.reduceLT, Int.reduceNe, Nat.reduceMul, Nat.reduceSub, Int.reduceToNat, he, g1, g3, g69, g70, g71, h72, hn3, hn4, Int.toNat_natCast]
      have hlen := hn5.len 3
      simp only [hn5.one, go_sem, Nat.reduceLT, Nat.reduceBEq, Nat.reduceAdd, Int.reduceBEq, Nat.reduceLeDiff, reduceIte, Nat.reduceEqDiff, Int.reduceEq, Int.reduceLE, Int.reduceLT, Int.reduceNe, Nat.reduceMul, Nat.reduceSub, Int.reduceToNat, he, g1, g3, g69, g70, g71]
      refine ⟨by omega, ?_⟩
      simp only [hlen, go_sem, Nat.reduceLT, Nat.reduceBEq, Nat.reduceAdd, Int.reduceBEq, Nat.reduceLeDiff, reduceIte, Nat.reduceEqDiff, Int.reduceEq, Int.reduceLE, Int.reduceLT, Int.reduceNe, Nat.reduceMul, Nat.reduceSub, Int.reduceToNat, he, g1, g3, g69, g70, g71]
      have hnine : (nine r x).take (i + 1) = (nine r x).take i ++ [(n, a, l)] := by rw [List.take_add_one, hn1]; rfl
      have hLi : (L0 ++ ((nine r x).take i).flatMap pOne).length ≤ 20 := by rw [List.length_append]; omega
      refine cond_join (fun e h2 => ∃ x2, len e = 114 ∧ AL.get e 1 = .ptr H.length 0 ∧ AL.get e 71 = vI i ∧ AL.get e 70 = vI 9 ∧ AL.get e 69 = .sl true h.length 0 9 2 ∧ AL.get e 3 = x2 ∧ OutAt H1 h2 x2 (L0 ++ ((nine r x).take i).flatMap pOne ++ pOne (n, a, l)) ∧ h2[h.length]? = some (.own 72 (nineCells x))) (fun hp => ?_) (fun hp => ?_) ?_
      · have hp := of_decide_eq_true hp
        simp only [go_sem, Nat.reduceLT, Nat.reduceBEq, Nat.reduceAdd, Int.reduceBEq, Nat.reduceLeDiff, reduceIte, Nat.reduceEqDiff, Int.reduceEq, Int.reduceLE, Int.reduceLT, Int.reduceNe, Nat.reduceMul, Nat.reduceSub, Int.reduceToNat, he, g1, g3, g69, g70, g71]
        refine acode_draw mixed (by kernel_rfl) ?_
        have hO' := hO.more [.own 72 [vS n, a]]
        simp only [go_sem, Nat.reduceLT, Nat.reduceBEq, Nat.reduceAdd, Int.reduceBEq, Nat.reduceLeDiff, reduceIte, Nat.reduceEqDiff, Int.reduceEq, Int.reduceLE, Int.reduceLT, Int.reduceNe, Nat.reduceMul, Nat.reduceSub, Int.reduceToNat, he, g1, g3, g69, g70, g71]
        refine ⟨by omega, ?_⟩
        refine callX_of (joined_A hG l (by have := hn6.1; omega) hn6.2 a _ (hn5.more _)) (List.prefix_refl _) ?_
        have hpush := hO'.push (n ++ 61 :: joined l) (by omega)
        obtain ⟨x3, h3, ha, hO3, hkeep⟩ := hpush
        simp only [go_sem, Nat.reduceLT, Nat.reduceBEq, Nat.reduceAdd, Int.reduceBEq, Nat.reduceLeDiff, reduceIte, Nat.reduceEqDiff, Int.reduceEq, Int.reduceLE, Int.reduceLT, Int.reduceNe, Nat.reduceMul, Nat.reduceSub, Int.reduceToNat, he, g1, g3, g69, g70, g71, setD_some] at ha ⊢
        rw [ha]
        have hjl := joined_length hn6
        have hl6 := hn6.1
        simp only [go_sem, Nat.reduceLT, Nat.reduceBEq, Nat.reduceAdd, Int.reduceBEq, Nat.reduceLeDiff, reduceIte, Nat.reduceEqDiff, Int.reduceEq, Int.reduceLE, Int.reduceLT, Int.reduceNe, Nat.reduceMul, Nat.reduceSub, Int.reduceToNat, he, g1, g3, g69, g70, g71]
        refine ⟨by simp only [List.length_append, List.length_cons, List.length_nil]; omega, x3, rfl, ?_, hkeep _ _ (get_more h72) (by intro cs; simp)⟩
        have hp1 : pOne (n, a, l) = [n ++ 61 :: joined l] := by unfold pOne; rw [if_neg (by simp only; omega)]
        rw [hp1]
        simpa only [List.append_assoc] using hO3
      · have hp := of_decide_eq_false hp
        simp only [go_sem, Nat.reduceLT, Nat.reduceBEq, Nat.reduceAdd, Int.reduceBEq, Nat.reduceLeDiff, reduceIte, Nat.reduceEqDiff, Int.reduceEq, Int.reduceLE, Int.reduceLT, Int.reduceNe, Nat.reduceMul, Nat.reduceSub, Int.reduceToNat, he, g1, g3, g69, g70, g71]
        refine ⟨x2, rfl, ?_, get_more h72⟩
        have hp1 : pOne (n, a, l) = [] := by unfold pOne; rw [if_pos (by simp only; omega)]
        rw [hp1, List.append_nil]
        exact hO.more _
      rintro e h2 ⟨x2, he, g1, g71, g70, g69, g3, hO, h72⟩
      have wi : IntKind.i64.wrap ((i : Int) + 1) = ((i + 1 : Nat) : Int) := by rw [wI64 (by omega)]; rfl
      simp only [go_sem, Nat.reduceLT, Nat.reduceBEq, Nat.reduceAdd, Int.reduceBEq, Nat.reduceLeDiff, reduceIte, Nat.reduceEqDiff, Int.reduceEq, Int.reduceLE, Int.reduceLT, Int.reduceNe, Nat.reduceMul, Nat.reduceSub, Int.reduceToNat, he, g1, g3, g69, g70, g71, wi]
      have hpl := pOne_length (n, a, l)
      refine ⟨k - 1, by omega, i + 1, x2, by omega, rfl, rfl, ?_, ?_, h72⟩
      · rw [hnine, List.flatMap_append, List.flatMap_singleton, ← List.append_assoc]; exact hO
      · rw [hnine, List.flatMap_append, List.flatMap_singleton, List.length_append]; omega
    · have hc := of_decide_eq_false hc
      have hi9 : i = 9 := by omega
      have hall : (nine r x).take i = nine r x := by rw [hi9]; rfl
      rw [hall] at hO hfl
      obtain ⟨hb, hxh⟩ := hbox hO
      have hlen := hxh.day.len 47
      have hLn : (L0 ++ (nine r x).flatMap pOne).length ≤ 20 := by rw [List.length_append]; omega
      have hdl := days_length hr.day.1 hr.day.2
      have hd1 := hr.day.1
      simp only [hlen, go_sem, Nat.reduceLT, Nat.reduceBEq, Nat.reduceAdd, Int.reduceBEq, Nat.reduceLeDiff, reduceIte, Nat.reduceEqDiff, Int.reduceEq, Int.reduceLE, Int.reduceLT, Int.reduceNe, Nat.reduceMul, Nat.reduceSub, Int.reduceToNat, he, g1, g3, g69, g70, g71, hb]
      refine cond_join (fun e h => len e = 114 ∧ AL.get e 1 = .ptr H.length 0 ∧ ∃ x', AL.get e 3 = x' ∧ OutAt H1 h x' (L0 ++ pNine r x ++ pDay r)) (fun hp => ?_) (fun hp => ?_) ?_
      · have hp := of_decide_eq_true hp
        simp only [go_sem, Nat.reduceLT, Nat.reduceBEq, Nat.reduceAdd, Int.reduceBEq, Nat.reduceLeDiff, reduceIte, Nat.reduceEqDiff, Int.reduceEq, Int.reduceLE, Int.reduceLT, Int.reduceNe, Nat.reduceMul, Nat.reduceSub, Int.reduceToNat, he, g1, g3, hb]
        refine callX_of (days_A hG r.day (by omega) hr.day.2 _ _ hxh.day) (List.prefix_refl _) ?_
        have hpush := hO.push ([66, 89, 68, 65, 89, 61] ++ days r.day) (by omega)
        obtain ⟨x3, h3, ha, hO3, -⟩ := hpush
        simp only [go_sem, Nat.reduceLT, Nat.reduceBEq, Nat.reduceAdd, Int.reduceBEq, Nat.reduceLeDiff, reduceIte, Nat.reduceEqDiff, Int.reduceEq, Int.reduceLE, Int.reduceLT, Int.reduceNe, Nat.reduceMul, Nat.reduceSub, Int.reduceToNat, he, g1, g3, hb, setD_some] at ha ⊢
        rw [ha]
        simp only [go_sem, Nat.reduceLT, Nat.reduceBEq, Nat.reduceAdd, Int.reduceBEq, Nat.reduceLeDiff, reduceIte, Nat.reduceEqDiff, Int.reduceEq, Int.reduceLE, Int.reduceLT, Int.reduceNe, Nat.reduceMul, Nat.reduceSub, Int.reduceToNat, he, g1]
        refine ⟨by omega, x3, rfl, ?_⟩
        unfold pDay pNine
        rw [if_neg (by omega)]
        simpa only [List.append_assoc] using hO3
      · have hp := of_decide_eq_false hp
        simp only [go_sem, Nat.reduceLT, Nat.reduceBEq, Nat.reduceAdd, Int.reduceBEq, Nat.reduceLeDiff, reduceIte, Nat.reduceEqDiff, Int.reduceEq, Int.reduceLE, Int.reduceLT, Int.reduceNe, Nat.reduceMul, Nat.reduceSub, Int.reduceToNat, he, g1, g3]
        refine ⟨x2, rfl, ?_⟩
        unfold pDay
        rw [if_pos (by omega), List.append_nil]
        exact hO
      rintro e h4 ⟨he, g1, x4, g3, hO⟩
      have hb := (hbox hO).1
      have lD := pDay_len r
      have hLw : (L0 ++ pNine r x ++ pDay r).length ≤ 21 := by rw [List.length_append]; have : (L0 ++ pNine r x).length ≤ 20 := hLn; omega
      obtain ⟨hwd, hwl⟩ := wday_get hr.wkst.1 hr.wkst.2
      simp only [go_sem, Nat.reduceLT, Nat.reduceBEq, Nat.reduceAdd, Int.reduceBEq, Nat.reduceLeDiff, reduceIte, Nat.reduceEqDiff, Int.reduceEq, Int.reduceLE, Int.reduceLT, Int.reduceNe, Nat.reduceMul, Nat.reduceSub, Int.reduceToNat, he, g1, g3, hb]
      refine cond_join (fun e h => len e = 114 ∧ ∃ x', AL.get e 3 = x' ∧ OutAt H1 h x' (L0 ++ pNine r x ++ pDay r ++ pWkst r)) (fun hp => ?_) (fun hp => ?_) ?_
      · have hp : r.wkst ≠ 0 := by simpa using hp
        simp only [go_sem, Nat.reduceLT, Nat.reduceBEq, Nat.reduceAdd, Int.reduceBEq, Nat.reduceLeDiff, reduceIte, Nat.reduceEqDiff, Int.reduceEq, Int.reduceLE, Int.reduceLT, Int.reduceNe, Nat.reduceMul, Nat.reduceSub, Int.reduceToNat, he, g1, g3, hb]
        refine acode_draw mixed (by kernel_rfl) ?_
        simp only [go_sem, Nat.reduceLT, Nat.reduceBEq, Nat.reduceAdd, Int.reduceBEq, Nat.reduceLeDiff, reduceIte, Nat.reduceEqDiff, Int.reduceEq, Int.reduceLE, Int.reduceLT, Int.reduceNe, Nat.reduceMul, Nat.reduceSub, Int.reduceToNat, he, g1, g3, hb]
        refine callX_of (weekdays_A _) (List.prefix_append _ _) ?_
        have hpush := (hO.more [.own 9 (wdays.map vS)]).push ([87, 75, 83, 84, 61] ++ wdays.getD r.wkst.toNat []) (by omega)
        obtain ⟨x3, h3, ha, hO3, -⟩ := hpush
        have hb2 : (h4 ++ [AObj.own 9 (wdays.map vS)])[H.length]? = h4[H.length]? := by rw [hb]; exact get_more hb
        simp only [go_sem, Nat.reduceLT, Nat.reduceBEq, Nat.reduceAdd, Int.reduceBEq, Nat.reduceLeDiff, reduceIte, Nat.reduceEqDiff, Int.reduceEq, Int.reduceLE, Int.reduceLT, Int.reduceNe, Nat.reduceMul, Nat.reduceSub, Int.reduceToNat, he, g1, g3, hb2, hb, hwd, hwl, setD_some] at ha ⊢
        rw [ha]
        simp only [go_sem, Nat.reduceLT, Nat.reduceBEq, Nat.reduceAdd, Int.reduceBEq, Nat.reduceLeDiff, reduceIte, Nat.reduceEqDiff, Int.reduceEq, Int.reduceLE, Int.reduceLT, Int.reduceNe, Nat.reduceMul, Nat.reduceSub, Int.reduceToNat, he, g1]
        refine ⟨by have := hr.wkst; omega, x3, rfl, ?_⟩
        unfold pWkst
        rw [if_neg hp]
        simpa only [List.append_assoc] using hO3
      · have hp : r.wkst = 0 := by simpa using hp
        simp only [go_sem, Nat.reduceLT, Nat.reduceBEq, Nat.reduceAdd, Int.reduceBEq, Nat.reduceLeDiff, reduceIte, Nat.reduceEqDiff, Int.reduceEq, Int.reduceLE, Int.reduceLT, Int.reduceNe, Nat.reduceMul, Nat.reduceSub, Int.reduceToNat, he, g1, g3]
        refine ⟨x4, rfl, ?_⟩
        unfold pWkst
        rw [if_pos hp, List.append_nil]
        simpa only [List.append_assoc] using hO
      rintro e h5 ⟨he, x5, g3, hO⟩
      simp only [go_sem, Nat.reduceLT, Nat.reduceBEq, Nat.reduceAdd, Int.reduceBEq, Nat.reduceLeDiff, reduceIte, Nat.reduceEqDiff, Int.reduceEq, Int.reduceLE, Int.reduceLT, Int.reduceNe, Nat.reduceMul, Nat.reduceSub, Int.reduceToNat, he, g3]
      obtain ⟨⟨G, rfl⟩, o, h1, h2, h3⟩ := hO
      have h3' : H.length ≤ o := by rw [← hH1, List.length_append] at h3; omega
      rw [← hL] at h1 h2
      simp only [← hH1, List.append_assoc] at h1 h2 ⊢
      exact ⟨⟨_, rfl⟩, o, h1, h2, h3'⟩
end Go.Proofs.YtlfpjdcogkcjlaaGreatDoor.F
