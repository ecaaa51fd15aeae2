/- Merged: T17 T18 T19 T20 T21 T29 T30 T22 T23 T24 T25 T26 T27 T31 T33 ALX AL15 T34 T35 T36 -/
import Derived.Test.YtlfpjdcogkcjlaaGreatDoorM3
import Derived.Deep.SlicePairs
import Derived.Deep.Fields
import Derived.ChangeSlices
import Derived.LaidMore
import Derived.Lib.LaidTab
import Derived.ChangeSame
import Derived.FnData
/- impl.ParseOption. -/
namespace Go.Proofs.YtlfpjdcogkcjlaaGreatDoor.F
open Go.RowKit Go.Proofs.YtlfpjdcogkcjlaaGreatDoor.AL Go.Proofs.YtlfpjdcogkcjlaaGreatDoor.B
set_option linter.unusedVariables false
set_option linter.unusedSimpArgs false
set_option maxRecDepth 20000
attribute [local irreducible] aops acode bindK bindV bindH callX callK condK guardK Kseq Kblk Knorm Kfun Kloop Kjoin outK AWp appendA
attribute [local go_sem] acode_skip acode_seq acode_region acode_cond acode_block acode_exit acode_ret acode_loop Kseq_normal Kseq_exit Kseq_ret Kblk_normal Kblk_ret Kblk_eq Kblk_ne Knorm_eq Kloop_normal Kloop_exit Kloop_ret Kjoin_normal Kjoin_exit Kjoin_ret condK_true condK_false bindK_put bindV_put bindK_no bindV_no bindH_no aops_nil gops wantK_some wantV_bool wantV_undef guardK_true guardK_false guardK_none aops_move aops_assign aops_pick aops_nilCheck aops_binOp aops_unOp aops_convert aops_fieldAddr aops_indexAddr aops_slice aops_index aops_extract aops_makeInterface aops_makeFunc aops_build aops_load aops_lookup aops_alloc aops_box aops_buildSlice aops_makeSlice aops_makeMap aops_store aops_insert aops_mapUpdate aops_len aops_append aops_call opA_tmp opA_const opA_global opA_func get_mk look_nil look_eq look_ne len_mk List.map_cons List.map_nil Option.map_some Option.map_none bin_add bin_sub bin_mul bin_quo bin_rem bin_eql bin_neq bin_lss bin_leq bin_gtr bin_geq bin_cat bin_seql bin_sneq bin_neq_ifc bin_eql_ifc bin_neq_nn bin_eql_nn bin_neq_ptr bin_eql_ptr bin_neq_pn isIfc_true isPtr_true bin_eql2 bin_neq2 aops_max max_int un_not un_neg lenA_K lenK_str lenK_nil lenK_sl lenK_array pick_bool pick_val bindV_ite bindK_ite bindH_ite slotV_sl slotK_some slotV_ptr slotR_some sliceV_sl cutK_some sliceV_str cutS_some bound_none bound_some indexA_str atS_some mkS fieldV_ptr loadV_ptr cellsK_ro cellsK_own loadK_one loadK_many storeA_ptr storeK_own allocA_some heap_len heap_get0 heap_get heap_set0 heap_set Kfun_ret Kfun_normal resA_nil resA_tmp resA_cell outK_some packA_one packA_nil packA_two List.length_cons List.length_nil List.getElem?_cons_zero List.getElem?_cons_succ List.set_cons_zero List.set_cons_succ List.cons_append List.nil_append List.append_assoc Nat.zero_add Nat.add_zero List.all_cons List.all_nil Value.oneCell' Bool.and_true Bool.and_self if_true if_false Bool.false_eq_true partsA buildV buildA fillA Option.bind_some putCells List.drop_succ_cons List.drop_zero List.take_succ_cons List.take_zero List.take_nil List.drop_nil and_self and_true true_and Option.some.injEq ne_eq not_false_eq_true Option.map_map List.getElem?_toArray beq_self_eq_true Bool.true_beq Bool.false_beq Bool.not_true Bool.not_false decide_true decide_false beq_true Nat.mul_one Nat.one_mul Nat.zero_mul bsA buildSliceA zerosN List.append_nil Int.toNat_natCast Int.toNat_zero boxA one_val one_ptr one_sl one_mp one_ifc one_fn avCells_agg avCells_val valCells_true valCells_agg avCells_ptr avCells_sl avCells_mp avCells_ifc avCells_fn app_cons app_nil lookupA insertA ifaceV extractA kd2 ars127 fp127 ars60 fp60 ars31 fp31 eq2_99 eq2_84 eq2_47 fp52 sz2 kd3 sz3 kd4 sz4 kd5 sz5 kd9 sz9 kd22 sz22 el22 kd23 sz23 el23 kd25 sz25 zc25 fp25 fo25_0 fo25_1 fo25_2 fo25_3 fo25_4 fo25_5 fo25_6 fo25_7 fo25_8 fo25_9 fo25_10 fo25_11 fo25_12 fo25_13 fo25_14 fo25_15 fo25_16 fo25_17 kd31 sz31 zc31 ar31 kd32 sz32 el32 kd34 sz34 zc34 fp34 fo34_0 fo34_1 fo34_2 fo34_3 fo34_4 fo34_5 fo34_6 fo34_7 fo34_8 fo34_9 fo34_10 fo34_11 fo34_12 fo34_13 fo34_14 fo34_15 fo34_16 fo34_17 el38 el42 kd47 sz47 zc47 fp47 fo47_0 fo47_1 kd52 sz52 zc52 fo52_0 el55 zc60 kd72 sz72 zc72 fp72 fo72_0 fo72_1 el73 isStrMap76 zv4 kd80 sz80 kd84 sz84 zc84 fp84 fo84_0 fo84_1 kd88 sz88 zc88 fp88 fo88_0 fo88_1 fo88_2 fo88_3 kd91 sz91 zc91 fp91 fo91_0 fo91_1 fo91_2 el94 kd99 sz99 zc99 fp99 fo99_0 fo99_1 kd100 sz100 el100 kd102 sz102 zc102 fp102 fo102_0 fo102_1 fo102_2 fo102_3 fo102_4 fo102_5 fo102_6 fo102_7 fo102_8 fo102_9 fo102_10 fo102_11 fo102_12 fo102_13 fo102_14 fo102_15 kd109 sz109 zc109 fp109 isStrMap124 zv80 zc127 kd153 sz153 zc153 ar153 isIface157 kd159 sz159 zc159 fp159 isStrMap177 zv84 Tryz.underlying3 Tryz.underlying4 Tryz.underlying5 Tryz.underlying9 Tryz.underlying21 Tryz.underlying22 Tryz.underlying23 Tryz.underlying32 Tryz.underlying38 Tryz.underlying42 Tryz.underlying47 Tryz.underlying55 Tryz.underlying67 Tryz.underlying73 Tryz.underlying80 Tryz.underlying84 Tryz.underlying94 Tryz.underlying100 Tryz.underlying2 Tryz.underlying127 Tryz.underlying60 Tryz.underlying31
attribute [local go_sem_proc] Nat.reduceLT Nat.reduceBEq Nat.reduceAdd Int.reduceBEq Nat.reduceLeDiff reduceIte Nat.reduceEqDiff Int.reduceEq Int.reduceLE Int.reduceLT Int.reduceNe Nat.reduceMul Nat.reduceSub Int.reduceToNat
theorem mapAcc_length {α β : Type} {f : α → Except Nat β} : ∀ {l : List α} {acc r : List β}, mapAcc f acc l = .ok r → r.length = acc.length + l.length
  | [], acc, r, h => by simp only [mapAcc, Except.ok.injEq] at h; subst h; simp
  | a :: l, acc, r, h => by
    simp only [mapAcc] at h
    split at h
    · have := mapAcc_length h
      simp at this ⊢; omega
    · cases h
theorem foldE_inv {σ α : Type} {f : σ → α → Except Nat σ} (I : σ → Prop) : ∀ {l : List α} {o o' : σ}, (∀ a ∈ l, ∀ o o', I o → f o a = .ok o' → I o') → I o → foldE f o l = .ok o' → I o'
  | [], o, o', _, h0, h => by simp only [foldE, Except.ok.injEq] at h; exact h ▸ h0
  | a :: l, o, o', hf, h0, h => by
    simp only [foldE] at h
    split at h
    · rename_i o1 h1
      exact foldE_inv I (fun a ha => hf a (List.mem_cons_of_mem _ ha)) (hf a (List.mem_cons_self ..) o o1 h0 h1) h
    · cases h
theorem map_ok {α β : Type} {x : Except Nat α} {g : α → β} {b : β} (h : x.map g = .ok b) : ∃ a, x = .ok a ∧ g a = b := by
  cases x with
  | ok a => exact ⟨a, rfl, by simpa [Except.map] using h⟩
  | error t => simp [Except.map] at h
theorem ite_ok {α : Type} {c : Prop} [Decidable c] {a b x : α} (h : (if c then a else b) = x) {P : Prop} (h1 : a = x → P) (h2 : b = x → P) : P := by
  by_cases hc : c
  · rw [if_pos hc] at h; exact h1 h
  · rw [if_neg hc] at h; exact h2 h
theorem opPut_day {o o' : Op} {k v : List UInt8} (h : opPut o k v = .ok o') : o'.day = o.day ∨ o'.day.length ≤ v.length + 2 := by
  unfold opPut at h
  refine ite_ok h (fun h => by obtain ⟨a, -, rfl⟩ := map_ok h; exact .inl rfl) fun h => ?_
  refine ite_ok h (fun h => by obtain ⟨a, -, rfl⟩ := map_ok h; exact .inl rfl) fun h => ?_
  refine ite_ok h (fun h => by obtain ⟨a, -, rfl⟩ := map_ok h; exact .inl rfl) fun h => ?_
  refine ite_ok h (fun h => by obtain ⟨a, -, rfl⟩ := map_ok h; exact .inl rfl) fun h => ?_
  refine ite_ok h (fun h => by obtain ⟨a, -, rfl⟩ := map_ok h; exact .inl rfl) fun h => ?_
  refine ite_ok h (fun h => by obtain ⟨a, -, rfl⟩ := map_ok h; exact .inl rfl) fun h => ?_
  refine ite_ok h (fun h => by obtain ⟨a, -, rfl⟩ := map_ok h; exact .inl rfl) fun h => ?_
  refine ite_ok h (fun h => by obtain ⟨a, -, rfl⟩ := map_ok h; exact .inl rfl) fun h => ?_
  refine ite_ok h (fun h => by obtain ⟨a, -, rfl⟩ := map_ok h; exact .inl rfl) fun h => ?_
  refine ite_ok h (fun h => by obtain ⟨a, -, rfl⟩ := map_ok h; exact .inl rfl) fun h => ?_
  refine ite_ok h (fun h => by obtain ⟨a, -, rfl⟩ := map_ok h; exact .inl rfl) fun h => ?_
  refine ite_ok h (fun h => ?_) fun h => ?_
  · obtain ⟨a, h1, rfl⟩ := map_ok h
    right
    have := mapAcc_length h1
    have hs := split_length 44 v
    simp only [List.length_nil] at this
    show a.length ≤ _
    omega
  refine ite_ok h (fun h => by obtain ⟨a, -, rfl⟩ := map_ok h; exact .inl rfl) fun h => ?_
  refine ite_ok h (fun h => by obtain ⟨a, -, rfl⟩ := map_ok h; exact .inl rfl) fun h => ?_
  refine ite_ok h (fun h => by obtain ⟨a, -, rfl⟩ := map_ok h; exact .inl rfl) fun h => ?_
  refine ite_ok h (fun h => by obtain ⟨a, -, rfl⟩ := map_ok h; exact .inl rfl) fun h => ?_
  cases h
theorem opParse_day {s : List UInt8} {o : Op} (hs : s.length ≤ 50000) (h : opParse s = .ok o) : o.day.length ≤ 1000000 := by
  unfold opParse opEnd at h
  split at h
  · rename_i o1 h1
    split at h
    · obtain rfl := Except.ok.inj h
      refine foldE_inv (fun o => o.day.length ≤ 1000000) (fun a ha o o' hI hst => ?_) (by simp [op0]) h1
      unfold opStep at hst
      split at hst
      · rename_i k v hkv
        split at hst
        · cases hst
        · rcases opPut_day hst with h2 | h2
          · rw [h2]; exact hI
          · have hv := split_mem (c := 61) (s := a) (x := v) (by rw [hkv]; simp)
            have ha' := split_mem ha
            omega
      · cases hst
    · cases h
  · cases h
theorem RuOwn.putT {h : Heap} {r : Ru} {x : Rs} (hx : RuOwn h r x) {p t : Nat} {cs : List AV} (hp : h[p]? = some (.own t cs)) (h1 : t ≠ 3) (h2 : t ≠ 52) (y : AObj) : RuOwn (h.set p y) r x :=
  ⟨hx.setPos.putT hp h1 y, hx.month.putT hp h1 y, hx.monthDay.putT hp h1 y, hx.yearDay.putT hp h1 y, hx.weekNo.putT hp h1 y, hx.hour.putT hp h1 y, hx.minute.putT hp h1 y, hx.second.putT hp h1 y, hx.easter.putT hp h1 y, hx.day.putT hp h2 y⟩
theorem RuOwn.more {h : Heap} {r : Ru} {x : Rs} (hx : RuOwn h r x) (G : Heap) : RuOwn (h ++ G) r x :=
  ⟨hx.setPos.more G, hx.month.more G, hx.monthDay.more G, hx.yearDay.more G, hx.weekNo.more G, hx.hour.more G, hx.minute.more G, hx.second.more G, hx.easter.more G, hx.day.more G⟩
abbrev ru0 : List AV := [vU 0, vB false, vI 0, vI 0, vI 0, vI 0, vB false, vI 0, vNil, vNil, vNil, vNil, vNil, vNil, vNil, vNil, vNil, vNil]
def ParseR (h : Heap) (r : AV) : Except Nat Op → Prop
  | .ok o => ∃ y, r = .tup [.agg (ruCells (ruOf o) y), vB true] ∧ RuOwn h (ruOf o) y
  | .error _ => ∃ l, r = .tup [.agg l, vB false] ∧ l.length = 18 ∧ l.all AV.one = true
theorem strToROption_A {w0 : World} (hG : Glob w0) (s : List UInt8) (hs : InText s) (H : Heap) (hH : GH H) : ACalls Tryz.prog (CB w0) 32 [vS s] H fun r H' => OpR H H' r (opParse s) ∧ ∃ G, H' = H ++ G := by
  refine A_fun (N := 9) (rs := [.tmp 2, .tmp 3]) Tryz.func32 rfl rfl rfl (by kernel_rfl) (by kernel_rfl) (Nat.le_of_ble_eq_true rfl) ?_
  rintro e he ⟨g0, -⟩
  simp only [go_sem, he, g0]
  refine callX_of (zUTC_A _) (List.prefix_refl _) ?_
  simp only [go_sem, he, g0, setD_some]
  refine callX_any (strToROptionIn_A hG s hs _ rfl _ hH) ?_
  rintro r h ⟨hr, G, rfl⟩
  cases ho : opParse s with
  | error t =>
    rw [ho] at hr
    obtain rfl : r = _ := hr
    simp only [go_sem, he, g0, setD_some]
    exact ⟨rfl, _, rfl⟩
  | ok o =>
    rw [ho] at hr
    obtain ⟨p, x, rfl, h1, h2, h3⟩ := hr
    simp only [go_sem, he, g0, setD_some]
    exact ⟨⟨p, x, rfl, h1, h2, h3⟩, _, rfl⟩
theorem parseOption_A {w0 : World} (hG : Glob w0) (s : List UInt8) (hs : InText s) (H : Heap) (hH : GH H) : ACalls Tryz.prog (CB w0) 15 [vS s] H fun r H' => ParseR H' r (opParse s) ∧ ∃ G, H' = H ++ G := by
  refine A_fun (N := 16) (rs := [.cell 2 34, .tmp 3]) Tryz.func15 rfl rfl rfl (by kernel_rfl) (by kernel_rfl) (Nat.le_of_ble_eq_true rfl) ?_
  rintro e he ⟨g0, -⟩
  simp only [go_sem, he, g0]
  refine callX_any (strToROption_A hG s hs _ (hH.more _)) ?_
  rintro r h ⟨hr, G, rfl⟩
  cases ho : opParse s with
  | error t =>
    rw [ho] at hr
    obtain rfl : r = _ := hr
    simp only [go_sem, he, g0, setD_some]
    exact ⟨⟨_, rfl, rfl, rfl⟩, _, rfl⟩
  | ok o =>
    rw [ho] at hr
    obtain ⟨p, x, rfl, h1, h2, h3⟩ := hr
    have hd := opParse_day hs.len ho
    simp only [go_sem, he, g0, setD_some]
    rw [List.append_assoc, List.cons_append, List.nil_append] at h1 h3
    refine callX_any (implRule_A p o x hd _ h1 h3) ?_
    rintro r h ⟨⟨y, rfl, hy⟩, G2, rfl⟩
    simp only [ruCells, go_sem, he, g0, setD_some, Bool.true_and, hy.setPos.one, hy.month.one, hy.monthDay.one, hy.yearDay.one, hy.weekNo.one, hy.hour.one, hy.minute.one, hy.second.one, hy.easter.one, hy.day.one]
    refine ⟨⟨y, rfl, ?_⟩, _, rfl⟩
    rw [List.append_assoc, List.cons_append] at hy
    have h2 := hy.putT (y := .own 34 (ruCells (ruOf o) y)) heap_get0 (by decide) (by decide)
    rw [heap_set0, List.set_cons_zero] at h2
    exact h2

abbrev txW : List UInt8 := [70, 82, 69, 81, 61, 87, 69, 69, 75, 76, 89, 59, 67, 79, 85, 78, 84, 61, 51, 59, 66, 89, 68, 65, 89, 61, 77, 79, 44, 70, 82]
abbrev txN : List UInt8 := [70, 82, 69, 81, 61, 78, 69, 86, 69, 82]
def fracB (s : List UInt8) : Bool := (split 59 s).all fun a => match split 61 a with
  | [k, v] => !(k == [85, 78, 84, 73, 76] || k == [68, 84, 83, 84, 65, 82, 84]) || v.all fun c => c.toNat != 46 && c.toNat != 44
  | _ => true
theorem fracB_spec {s : List UInt8} (h : fracB s = true) : ∀ a ∈ split 59 s, ∀ k v, split 61 a = [k, v] → (k = [85, 78, 84, 73, 76] ∨ k = [68, 84, 83, 84, 65, 82, 84]) → NoFrac v := by
  intro a ha k v hkv hk c hc
  have h1 := List.all_eq_true.1 h a ha
  rw [hkv] at h1
  have h2 : (!(k == [85, 78, 84, 73, 76] || k == [68, 84, 83, 84, 65, 82, 84])) = false := by rcases hk with rfl | rfl <;> rfl
  simp only [h2, Bool.false_or] at h1
  have h3 := List.all_eq_true.1 h1 c hc
  simpa using h3
theorem txW_in : InText txW := ⟨by decide, fracB_spec (by kernel_rfl), by decide, by kernel_rfl, by decide, by kernel_rfl⟩
theorem txN_in : InText txN := ⟨by decide, fracB_spec (by kernel_rfl), by decide, by kernel_rfl, by decide, by kernel_rfl⟩
def opW : Op := { op0 with freq := 2, set := true, count := 3, day := [(0, 0), (4, 0)] }
theorem txW_parse : opParse txW = .ok opW := by kernel_rfl
theorem txN_parse : opParse txN = .error 157 := by kernel_rfl
theorem parseW_A {w0 : World} (hG : Glob w0) (H : Heap) (hH : GH H) : ACalls Tryz.prog (CB w0) 15 [vS txW] H fun r H' => ParseR H' r (.ok opW) ∧ ∃ G, H' = H ++ G := by
  have h := parseOption_A hG txW txW_in H hH
  rw [txW_parse] at h
  exact h
theorem parseN_A {w0 : World} (hG : Glob w0) (H : Heap) (hH : GH H) : ACalls Tryz.prog (CB w0) 15 [vS txN] H fun r H' => ParseR H' r (.error 157) ∧ ∃ G, H' = H ++ G := by
  have h := parseOption_A hG txN txN_in H hH
  rw [txN_parse] at h
  exact h
theorem DaysO.get {t : TypeId} {h : Heap} {x : AV} {l : List (Int × Int)} (hx : DaysO t h x l) (hl : l ≠ []) : ∃ q, x = .sl true q 0 l.length 2 ∧ h[q]? = some (.own t (dcells l)) := hx.resolve_left fun e => hl e.2
theorem textAwake_A {w0 : World} (hG : Glob w0) (H : Heap) (hH : GH H) : ACalls Tryz.prog (CB w0) 13 [] H fun r H' => r = vB true ∧ H' = H := by
  refine ACalls.flat rfl ?_
  refine A_fun (N := 42) (rs := [.tmp 0]) Tryz.func13 rfl rfl rfl (by kernel_rfl) (by kernel_rfl) (Nat.le_of_ble_eq_true rfl) ?_
  rintro e he -
  simp only [go_sem, he]
  refine callX_any (parseW_A hG _ hH) ?_
  rintro r h ⟨hr, G, rfl⟩
  obtain ⟨y, rfl, hy⟩ := hr
  obtain ⟨q, e1, e2⟩ := hy.day.get (by decide)
  simp only [ruCells, go_sem, he, setD_some, Bool.true_and, hy.setPos.one, hy.month.one, hy.monthDay.one, hy.yearDay.one, hy.weekNo.one, hy.hour.one, hy.minute.one, hy.second.one, hy.easter.one, hy.day.one]
  refine callX_any (parseN_A hG _ (hH.more _)) ?_
  rintro r h ⟨hr, G2, rfl⟩
  obtain ⟨l, rfl, l1, l2⟩ := hr
  have l3 : l.drop 18 = [] := List.drop_eq_nil_of_le (by omega)
  have f1 : (ruOf opW).freq = 2 := rfl
  have f2 : (ruOf opW).count = 3 := rfl
  have f3 : (ruOf opW).day.length = 2 := rfl
  have f4 : dcells (ruOf opW).day = [vI 0, vI 0, vI 4, vI 0] := rfl
  have d1 : decide (((2 : Nat) : Int) = 2) = true := rfl
  generalize ruOf opW = R at *
  rw [f3] at e1
  rw [f4] at e2
  clear f3 f4
  have e3 : ∀ X : Heap, (H ++ (G ++ X))[q]? = some (AObj.own 52 [vI 0, vI 0, vI 4, vI 0]) := fun X => by rw [← List.append_assoc]; exact get_more e2
  simp only [go_sem, he, setD_some, l1, l2, l3]
  refine guardK_name fun A hA => ?_
  have a1 : (A[1]?).bind (·.dst) = some 14 := by rw [hA]; rfl
  have a2 : (A[6]?).bind (·.dst) = some 19 := by rw [hA]; rfl
  have a3 : (A[11]?).bind (·.dst) = some 24 := by rw [hA]; rfl
  have a4 : (A[17]?).bind (·.dst) = some 30 := by rw [hA]; rfl
  have a5 : (A[25]?).bind (·.dst) = some 38 := by rw [hA]; rfl
  clear hA
  simp only [go_sem, he, setD_some, f1, f2, d1, e1, e2, e3, a1, a2, a3, a4, a5]
  exact ⟨by decide, _, rfl⟩

/-- Where a number is first met. -/
def ixI (l : List Int) (a : Int) : Int := match l.findIdx? (fun b => decide (a = b)) with
  | some i => i
  | none => -1
theorem findIdx_hit {α : Type} {p : α → Bool} : ∀ {l : List α} {i : Nat} {a : α}, l[i]? = some a → p a = true → (∀ j b, j < i → l[j]? = some b → p b = false) → l.findIdx? p = some i
  | [], _, _, h, _, _ => by simp at h
  | b :: l, 0, a, h, ha, _ => by
    simp at h; subst h
    simp [List.findIdx?_cons, ha]
  | b :: l, i + 1, a, h, ha, hn => by
    have hb := hn 0 b (by omega) rfl
    simp at h
    rw [List.findIdx?_cons, hb, findIdx_hit h ha fun j c hj hc => hn (j + 1) c (by omega) (by simpa using hc)]
    rfl
theorem findIdx_miss {α : Type} {p : α → Bool} : ∀ {l : List α}, (∀ (j : Nat) b, l[j]? = some b → p b = false) → l.findIdx? p = none
  | [], _ => rfl
  | b :: l, hn => by
    rw [List.findIdx?_cons, hn 0 b rfl, findIdx_miss fun j c hc => hn (j + 1) c (by simpa using hc)]
    rfl
/-- A slice that reads as a list of numbers: l's first ones, or all. -/
def IntsIn (H : Heap) (x : AV) (l : List Int) : Prop := SlOf H x l.length 1 fun i => vI (l.getD i 0)
theorem index_A {w0 : World} (l : List Int) (hl : l.length ≤ 1000000000) (a : Int) (x : AV) (H : Heap) (hx : IntsAt H x l) : ACalls Tryz.prog (CB w0) 107 [x, vI a] H fun r H' => r = vI (ixI l a) ∧ H' = H := by
  refine A_fun (N := 19) (rs := [.tmp 4]) Tryz.func107 rfl rfl rfl (by kernel_rfl) (by kernel_rfl) (Nat.le_of_ble_eq_true rfl) ?_
  rintro e he ⟨g0, g1, -⟩
  have hlen := hx.len 3
  simp only [go_sem, he, g0, g1, hlen]
  refine A_while l.length (fun k e h => h = H ∧ len e = 19 ∧ AL.get e 0 = x ∧ AL.get e 1 = vI a ∧ AL.get e 7 = vI l.length ∧ ∃ i : Nat, AL.get e 8 = vI i ∧ i + k = l.length ∧ ∀ (j : Nat) b, j < i → l[j]? = some b → decide (a = b) = false) (by kernel_rfl) ?_ ?_
  · simp only [go_sem, he, g0, g1]
    exact ⟨0, rfl, by omega, fun j b hj => by omega⟩
  · rintro k e h ⟨rfl, he, g0, g1, g7, i, g8, hik, hno⟩
    have wi : IntKind.i64.wrap ((i : Int) + 1) = ((i + 1 : Nat) : Int) := by rw [wI64 (by omega)]; rfl
    simp only [go_sem, he, g0, g1, g7, g8]
    refine condK_of (fun hc => ?_) fun hc => ?_
    · have hc := of_decide_eq_true hc
      have hi : i < l.length := by omega
      rcases hx with ⟨rfl, h0⟩ | ⟨own, o, off, cs, rfl, hcs, hcell⟩
      · omega
      have hci : cs[off + i]? = some (vI (l.getD i 0)) := hcell i (by omega)
      have hli : l[i]? = some (l.getD i 0) := by rw [List.getD_eq_getElem?_getD, List.getElem?_eq_getElem hi]; rfl
      generalize l.getD i 0 = b at *
      simp only [go_sem, he, g0, g1, g7, g8, hcs, hci, Int.toNat_natCast]
      refine ⟨by omega, condK_of (fun hq => ?_) fun hq => ?_⟩
      · simp only [go_sem, he, g0, g1, g7, g8]
        unfold ixI
        rw [findIdx_hit hli hq hno]
      · simp only [go_sem, he, g0, g1, g7, g8, wi]
        refine ⟨k - 1, by omega, i + 1, rfl, by omega, fun j c hj hjc => ?_⟩
        rcases Nat.lt_or_ge j i with h1 | h1
        · exact hno j c h1 hjc
        · have : j = i := by omega
          subst this
          rw [hli] at hjc
          cases hjc
          exact hq
    · have hc := of_decide_eq_false hc
      simp only [go_sem, he, g0, g1, g7, g8]
      unfold ixI
      rw [findIdx_miss fun j b hj => hno j b (by have := (List.getElem?_eq_some_iff.1 hj).1; omega) hj]
theorem ixI_mem (l : List Int) (a : Int) : decide (0 ≤ ixI l a) = l.contains a := by
  unfold ixI
  cases h : l.findIdx? (fun b => decide (a = b)) with
  | some i =>
    obtain ⟨hi, h1, _⟩ := List.findIdx?_eq_some_iff_getElem.1 h
    have h1 := of_decide_eq_true h1
    have : l.contains a = true := by rw [List.contains_iff_mem]; rw [h1]; exact List.getElem_mem hi
    rw [this]
    show decide (0 ≤ (i : Int)) = true
    exact decide_eq_true (by omega)
  | none =>
    have : l.contains a = false := by
      rw [Bool.eq_false_iff]
      intro hc
      have := List.findIdx?_eq_none_iff.1 h a (List.contains_iff_mem.1 hc)
      simp at this
    rw [this]
    rfl
theorem contains_A {w0 : World} (l : List Int) (hl : l.length ≤ 1000000000) (a : Int) (x : AV) (H : Heap) (hx : IntsAt H x l) : ACalls Tryz.prog (CB w0) 80 [x, vI a] H fun r H' => r = vB (l.contains a) ∧ H' = H := by
  refine A_fun (N := 9) (rs := [.tmp 4]) Tryz.func80 rfl rfl rfl (by kernel_rfl) (by kernel_rfl) (Nat.le_of_ble_eq_true rfl) ?_
  rintro e he ⟨g0, g1, -⟩
  simp only [go_sem, he, g0, g1]
  refine callX_of (index_A l hl a x _ hx) (List.prefix_refl _) ?_
  simp only [go_sem, he, g0, g1, setD_some]
  rw [ixI_mem]
theorem IntsAt.take {H : Heap} {own : Bool} {o off st : Nat} {l : List Int} (hx : IntsAt H (.sl own o off l.length 1) l) {i : Nat} (hi : i ≤ l.length) : IntsAt H (.sl own o off i 1) (l.take i) := by
  rcases hx with ⟨h, _⟩ | ⟨own', o', off', cs, h, hcs, hcell⟩
  · cases h
  · cases h
    refine .inr ⟨own, o, off, cs, by rw [List.length_take]; congr 1; omega, hcs, fun j hj => ?_⟩
    rw [List.length_take] at hj
    rw [hcell j (by omega)]
    show some (vI (l.getD j 0)) = some (vI ((l.take i).getD j 0))
    rw [List.getD_eq_getElem?_getD, List.getD_eq_getElem?_getD, List.getElem?_take_of_lt (by omega)]
def withinAt (l : List Int) (low high : Int) (zero : Bool) (i : Nat) : Bool :=
  !(decide (l.getD i 0 < low) || decide (high < l.getD i 0) || (decide (l.getD i 0 = 0) && !zero) || (l.take i).contains (l.getD i 0))
/-- spec.within -/
def within (l : List Int) (most low high : Int) (zero : Bool) : Bool := decide ((l.length : Int) ≤ most) && (List.range l.length).all (withinAt l low high zero)
theorem within_fail {l : List Int} {most low high : Int} {zero : Bool} {i : Nat} (hi : i < l.length) (h : withinAt l low high zero i = false) : within l most low high zero = false := by
  unfold within
  rw [Bool.and_eq_false_iff]
  right
  rw [Bool.eq_false_iff]
  intro ha
  have := List.all_eq_true.1 ha i (List.mem_range.2 hi)
  rw [h] at this; cases this
theorem within_A {w0 : World} (l : List Int) (hl : l.length ≤ 1000000000000) (hr : ∀ n ∈ l, -9223372036854775808 ≤ n ∧ n ≤ 9223372036854775807) (most low high : Int) (hm : most ≤ 1000) (zero : Bool) (x : AV) (H : Heap) (hx : IntsAt H x l) : ACalls Tryz.prog (CB w0) 54 [x, vI most, vI low, vI high, vB zero] H fun r H' => r = vB (within l most low high zero) ∧ H' = H := by
  refine A_fun (N := 48) (rs := [.tmp 10]) Tryz.func54 rfl rfl rfl (by kernel_rfl) (by kernel_rfl) (Nat.le_of_ble_eq_true rfl) ?_
  rintro e he ⟨g0, g1, g2, g3, g4, -⟩
  have hlen := hx.len 3
  simp only [go_sem, he, g0, g1, g2, g3, g4, hlen]
  refine condK_of (fun hc => ?_) fun hc => ?_
  · have hc := of_decide_eq_true hc
    simp only [go_sem, he, g0, g1, g2, g3, g4]
    unfold within
    rw [decide_eq_false (by omega), Bool.false_and]
  · have hc := of_decide_eq_false hc
    simp only [go_sem, he, g0, g1, g2, g3, g4, hlen]
    refine A_while l.length (fun k e h => h = H ∧ len e = 48 ∧ AL.get e 0 = x ∧ AL.get e 2 = vI low ∧ AL.get e 3 = vI high ∧ AL.get e 4 = vB zero ∧ AL.get e 17 = x ∧ AL.get e 18 = vI l.length ∧ ∃ i : Nat, AL.get e 19 = vI i ∧ i + k = l.length ∧ (List.range i).all (withinAt l low high zero) = true) (by kernel_rfl) ?_ ?_
    · simp only [go_sem, he, g0, g1, g2, g3, g4]
      exact ⟨0, rfl, by omega, rfl⟩
    · rintro k e h ⟨rfl, he, g0, g2, g3, g4, g17, g18, i, g19, hik, hall⟩
      simp only [go_sem, he, g0, g2, g3, g4, g17, g18, g19]
      refine condK_of (fun hc => ?_) fun hc => ?_
      · have hc := of_decide_eq_true hc
        have hi : i < l.length := by omega
        rcases hx with ⟨rfl, h0⟩ | ⟨own, o, off, cs, rfl, hcs, hcell⟩
        · omega
        have hci : cs[off + i]? = some (vI (l.getD i 0)) := hcell i (by omega)
        have hx' : IntsAt h (.sl own o off l.length 1) l := .inr ⟨own, o, off, cs, rfl, hcs, hcell⟩
        have hdef : withinAt l low high zero i = !(decide (l.getD i 0 < low) || decide (high < l.getD i 0) || (decide (l.getD i 0 = 0) && !zero) || (l.take i).contains (l.getD i 0)) := rfl
        have wi : IntKind.i64.wrap ((i : Int) + 1) = ((i + 1 : Nat) : Int) := by rw [wI64 (by omega)]; rfl
        generalize hn : l.getD i 0 = n at *
        by_cases c1 : n < low
        · have d1 := decide_eq_true c1
          simp only [go_sem, he, g0, g2, g3, g4, g17, g18, g19, hcs, hci, Int.toNat_natCast, d1]
          refine ⟨by omega, ?_⟩
          rw [within_fail (most := most) hi (show withinAt l low high zero i = false by rw [hdef, d1]; rfl)]
        have d1 := decide_eq_false c1
        by_cases c2 : high < n
        · have d2 := decide_eq_true c2
          simp only [go_sem, he, g0, g2, g3, g4, g17, g18, g19, hcs, hci, Int.toNat_natCast, d1, d2]
          refine ⟨by omega, ?_⟩
          rw [within_fail (most := most) hi (show withinAt l low high zero i = false by rw [hdef, d1, d2]; rfl)]
        have d2 := decide_eq_false c2
        by_cases c3 : n = 0
        · have d3 := decide_eq_true c3
          cases zero with
          | false =>
            simp only [go_sem, he, g0, g2, g3, g4, g17, g18, g19, hcs, hci, Int.toNat_natCast, d1, d2, d3]
            refine ⟨by omega, ?_⟩
            rw [within_fail (most := most) hi (show withinAt l low high false i = false by rw [hdef, d1, d2, d3]; rfl)]
          | true =>
            simp only [go_sem, he, g0, g2, g3, g4, g17, g18, g19, hcs, hci, Int.toNat_natCast, nn, d1, d2, d3]
            refine ⟨by omega, by omega, ?_⟩
            refine callX_of (contains_A (l.take i) (by rw [List.length_take]; omega) n _ _ (IntsAt.take (st := 1) hx' (by omega))) (List.prefix_refl _) ?_
            cases hq : (l.take i).contains n with
            | true =>
              simp only [go_sem, he, g0, g2, g3, g4, g17, g18, g19, hcs, hci, Int.toNat_natCast, nn, d1, d2, d3, setD_some]
              rw [within_fail (most := most) hi (show withinAt l low high true i = false by rw [hdef, d1, d2, d3, hq]; rfl)]
            | false =>
              simp only [go_sem, he, g0, g2, g3, g4, g17, g18, g19, hcs, hci, Int.toNat_natCast, nn, d1, d2, d3, setD_some, wi]
              refine ⟨k - 1, by omega, i + 1, rfl, by omega, ?_⟩
              rw [List.range_succ, List.all_append, hall, List.all_cons, List.all_nil, show withinAt l low high true i = true by rw [hdef, d1, d2, d3, hq]; rfl]
              rfl
        · have d3 := decide_eq_false c3
          simp only [go_sem, he, g0, g2, g3, g4, g17, g18, g19, hcs, hci, Int.toNat_natCast, nn, d1, d2, d3]
          refine ⟨by omega, by omega, ?_⟩
          refine callX_of (contains_A (l.take i) (by rw [List.length_take]; omega) n _ _ (IntsAt.take (st := 1) hx' (by omega))) (List.prefix_refl _) ?_
          cases hq : (l.take i).contains n with
          | true =>
            simp only [go_sem, he, g0, g2, g3, g4, g17, g18, g19, hcs, hci, Int.toNat_natCast, nn, d1, d2, d3, setD_some]
            rw [within_fail (most := most) hi (show withinAt l low high zero i = false by rw [hdef, d1, d2, d3, hq]; rfl)]
          | false =>
            simp only [go_sem, he, g0, g2, g3, g4, g17, g18, g19, hcs, hci, Int.toNat_natCast, nn, d1, d2, d3, setD_some, wi]
            refine ⟨k - 1, by omega, i + 1, rfl, by omega, ?_⟩
            rw [List.range_succ, List.all_append, hall, List.all_cons, List.all_nil, show withinAt l low high zero i = true by rw [hdef, d1, d2, d3, hq]; rfl]
            rfl
      · have hc := of_decide_eq_false hc
        simp only [go_sem, he, g0, g2, g3, g4, g17, g18, g19]
        have hi : i = l.length := by omega
        rw [hi] at hall
        unfold within
        rw [hall, decide_eq_true (by omega)]
        rfl

def eqD (a b : Int × Int) : Bool := decide (a.1 = b.1) && decide (a.2 = b.2)
theorem eqD_iff {a b : Int × Int} : eqD a b = true ↔ a = b := by
  unfold eqD
  rw [Bool.and_eq_true, decide_eq_true_iff, decide_eq_true_iff]
  exact ⟨fun h => Prod.ext h.1 h.2, fun h => by rw [h]; exact ⟨rfl, rfl⟩⟩
def ixD (l : List (Int × Int)) (a : Int × Int) : Int := match l.findIdx? (eqD a) with
  | some i => i
  | none => -1
theorem indexD_A {w0 : World} (l : List (Int × Int)) (hl : l.length ≤ 1000000000) (a : Int × Int) (x : AV) (H : Heap) (hx : DaysAt H x l) : ACalls Tryz.prog (CB w0) 81 [x, vD a] H fun r H' => r = vI (ixD l a) ∧ H' = H := by
  refine ACalls.flat rfl ?_
  refine A_fun (N := 19) (rs := [.tmp 4]) Tryz.func81 rfl rfl rfl (by kernel_rfl) (by kernel_rfl) (Nat.le_of_ble_eq_true rfl) ?_
  rintro e he ⟨g0, g1, -⟩
  have hlen := hx.len 47
  simp only [go_sem, he, g0, g1, hlen]
  refine A_while l.length (fun k e h => h = H ++ [.own 47 [vI a.1, vI a.2]] ∧ len e = 19 ∧ AL.get e 0 = x ∧ AL.get e 3 = .ptr H.length 0 ∧ AL.get e 7 = vI l.length ∧ ∃ i : Nat, AL.get e 8 = vI i ∧ i + k = l.length ∧ ∀ (j : Nat) b, j < i → l[j]? = some b → eqD a b = false) (by kernel_rfl) ?_ ?_
  · simp only [go_sem, he, g0, g1]
    exact ⟨0, rfl, by omega, fun j b hj => by omega⟩
  · rintro k e h ⟨rfl, he, g0, g3, g7, i, g8, hik, hno⟩
    have wi : IntKind.i64.wrap ((i : Int) + 1) = ((i + 1 : Nat) : Int) := by rw [wI64 (by omega)]; rfl
    simp only [go_sem, he, g0, g3, g7, g8]
    refine condK_of (fun hc => ?_) fun hc => ?_
    · have hc := of_decide_eq_true hc
      have hi : i < l.length := by omega
      have hx2 := hx.more [AObj.own 47 [vI a.1, vI a.2]]
      rcases hx2 with ⟨rfl, h0⟩ | ⟨own, o, off, cs, rfl, hcs, hcell⟩
      · omega
      obtain ⟨hd1, hd2⟩ := days_load (H := H) hcell hi
      have hli : l[i]? = some (l.getD i (0, 0)) := by rw [List.getD_eq_getElem?_getD, List.getElem?_eq_getElem hi]; rfl
      generalize l.getD i (0, 0) = b at *
      simp only [go_sem, he, g0, g3, g7, g8]
      refine acode_draw mixed (by kernel_rfl) ?_
      simp only [go_sem, he, g0, g3, g7, g8, hcs, hd1, hd2, Int.toNat_natCast]
      refine ⟨by omega, condK_of (fun hq => ?_) fun hq => ?_⟩
      · simp only [go_sem, he, g0, g3, g7, g8]
        unfold ixD
        rw [findIdx_hit hli hq hno]
        exact ⟨rfl, _, rfl⟩
      · simp only [go_sem, he, g0, g3, g7, g8, wi]
        refine ⟨k - 1, by omega, i + 1, rfl, by omega, fun j c hj hjc => ?_⟩
        rcases Nat.lt_or_ge j i with h1 | h1
        · exact hno j c h1 hjc
        · have : j = i := by omega
          subst this
          rw [hli] at hjc
          cases hjc
          exact hq
    · have hc := of_decide_eq_false hc
      simp only [go_sem, he, g0, g3, g7, g8]
      unfold ixD
      rw [findIdx_miss fun j b hj => hno j b (by have := (List.getElem?_eq_some_iff.1 hj).1; omega) hj]
      exact ⟨rfl, _, rfl⟩
theorem ixD_mem (l : List (Int × Int)) (a : Int × Int) : decide (0 ≤ ixD l a) = l.contains a := by
  unfold ixD
  cases h : l.findIdx? (eqD a) with
  | some i =>
    obtain ⟨hi, h1, _⟩ := List.findIdx?_eq_some_iff_getElem.1 h
    have h1 := eqD_iff.1 h1
    have : l.contains a = true := by rw [List.contains_iff_mem]; rw [h1]; exact List.getElem_mem hi
    rw [this]
    show decide (0 ≤ (i : Int)) = true
    exact decide_eq_true (by omega)
  | none =>
    have : l.contains a = false := by
      rw [Bool.eq_false_iff]
      intro hc
      have := List.findIdx?_eq_none_iff.1 h a (List.contains_iff_mem.1 hc)
      rw [eqD_iff.2 rfl] at this
      cases this
    rw [this]
    rfl
theorem containsD_A {w0 : World} (l : List (Int × Int)) (hl : l.length ≤ 1000000000) (a : Int × Int) (x : AV) (H : Heap) (hx : DaysAt H x l) : ACalls Tryz.prog (CB w0) 55 [x, vD a] H fun r H' => r = vB (l.contains a) ∧ H' = H := by
  refine ACalls.flat rfl ?_
  refine A_fun (N := 9) (rs := [.tmp 4]) Tryz.func55 rfl rfl rfl (by kernel_rfl) (by kernel_rfl) (Nat.le_of_ble_eq_true rfl) ?_
  rintro e he ⟨g0, g1, -⟩
  simp only [go_sem, he, g0, g1]
  refine callX_of (indexD_A l hl a x _ (hx.more _)) (List.prefix_refl _) ?_
  simp only [go_sem, he, g0, g1, setD_some]
  rw [ixD_mem]
  exact ⟨rfl, _, rfl⟩
theorem DaysAt.take {H : Heap} {own : Bool} {o off : Nat} {l : List (Int × Int)} (hx : DaysAt H (.sl own o off l.length 2) l) {i : Nat} (hi : i ≤ l.length) : DaysAt H (.sl own o off i 2) (l.take i) := by
  rcases hx with ⟨h, _⟩ | ⟨own', o', off', cs, h, hcs, hcell⟩
  · cases h
  · cases h
    refine .inr ⟨own, o, off, cs, by rw [List.length_take]; congr 1; omega, hcs, fun j hj => ?_⟩
    rw [List.length_take] at hj
    rw [hcell j (by omega)]
    show some (if j % 2 = 0 then vI (l.getD (j / 2) (0, 0)).1 else vI (l.getD (j / 2) (0, 0)).2) = some (if j % 2 = 0 then vI ((l.take i).getD (j / 2) (0, 0)).1 else vI ((l.take i).getD (j / 2) (0, 0)).2)
    have : (l.take i).getD (j / 2) (0, 0) = l.getD (j / 2) (0, 0) := by
      rw [List.getD_eq_getElem?_getD, List.getD_eq_getElem?_getD, List.getElem?_take_of_lt (by omega)]
    rw [this]
/-- How long a rule's lists are. -/
structure RuLen (r : Ru) : Prop where
  setPos : r.setPos.length ≤ 3000000000
  month : r.month.length ≤ 3000000000
  monthDay : r.monthDay.length ≤ 3000000000
  yearDay : r.yearDay.length ≤ 3000000000
  weekNo : r.weekNo.length ≤ 3000000000
  day : r.day.length ≤ 3000000000
  hour : r.hour.length ≤ 3000000000
  minute : r.minute.length ≤ 3000000000
  second : r.second.length ≤ 3000000000
  easter : r.easter.length ≤ 3000000000
def dayed (r : Ru) : Bool := decide (0 < r.monthDay.length + r.yearDay.length + r.weekNo.length + r.day.length + r.easter.length)
def parted (r : Ru) : Bool := dayed r || decide (0 < r.month.length + r.hour.length + r.minute.length + r.second.length)
theorem dayed_A {w0 : World} (r : Ru) (x : Rs) (hl : RuLen r) (H : Heap) (hx : RuAt H r x) : ACalls Tryz.prog (CB w0) 82 [.agg (ruCells r x)] H fun v H' => v = vB (dayed r) ∧ H' = H := by
  refine ACalls.flat rfl ?_
  refine A_fun (N := 23) (rs := [.tmp 2]) Tryz.func82 rfl rfl rfl (by kernel_rfl) (by kernel_rfl) (Nat.le_of_ble_eq_true rfl) ?_
  rintro e he ⟨g0, -⟩
  unfold ruCells at g0
  have h1 := hx.monthDay.len 3
  have h2 := hx.yearDay.len 3
  have h3 := hx.weekNo.len 3
  have h4 := hx.day.len 47
  have h5 := hx.easter.len 3
  obtain ⟨l1, l2, l3, l4, l5, l6, l7, l8, l9, l10⟩ := hl
  simp only [go_sem, he, g0, hx.setPos.one, hx.month.one, hx.monthDay.one, hx.yearDay.one, hx.weekNo.one, hx.day.one, hx.hour.one, hx.minute.one, hx.second.one, hx.easter.one, h1, h2, h3, h4, h5]
  rw [wI64 (n := (r.monthDay.length : Int) + r.yearDay.length) (by omega), wI64 (n := (r.monthDay.length : Int) + r.yearDay.length + r.weekNo.length) (by omega), wI64 (n := (r.monthDay.length : Int) + r.yearDay.length + r.weekNo.length + r.day.length) (by omega), wI64 (n := (r.monthDay.length : Int) + r.yearDay.length + r.weekNo.length + r.day.length + r.easter.length) (by omega)]
  refine ⟨?_, _, rfl⟩
  show vB _ = vB (decide _)
  exact congrArg vB (decide_eq_decide.2 (by omega))
theorem parted_A {w0 : World} (r : Ru) (x : Rs) (hl : RuLen r) (H : Heap) (hx : RuAt H r x) : ACalls Tryz.prog (CB w0) 56 [.agg (ruCells r x)] H fun v H' => v = vB (parted r) ∧ H' = H := by
  refine ACalls.flat rfl ?_
  refine A_fun (N := 23) (rs := [.tmp 2]) Tryz.func56 rfl rfl rfl (by kernel_rfl) (by kernel_rfl) (Nat.le_of_ble_eq_true rfl) ?_
  rintro e he ⟨g0, -⟩
  have h1 := hx.month.len 3
  have h2 := hx.hour.len 3
  have h3 := hx.minute.len 3
  have h4 := hx.second.len 3
  have g0' := g0
  unfold ruCells at g0
  simp only [go_sem, he, g0, hx.setPos.one, hx.month.one, hx.monthDay.one, hx.yearDay.one, hx.weekNo.one, hx.day.one, hx.hour.one, hx.minute.one, hx.second.one, hx.easter.one, h1, h2, h3, h4]
  refine callX_of (dayed_A r x hl _ (hx.more _)) (List.prefix_refl _) ?_
  obtain ⟨l1, l2, l3, l4, l5, l6, l7, l8, l9, l10⟩ := hl
  unfold parted
  cases hd : dayed r with
  | true =>
    simp only [go_sem, he, setD_some, Bool.true_or]
    exact ⟨_, rfl⟩
  | false =>
    simp only [go_sem, he, setD_some, Bool.false_or, h1, h2, h3, h4]
    rw [wI64 (n := (r.month.length : Int) + r.hour.length) (by omega), wI64 (n := (r.month.length : Int) + r.hour.length + r.minute.length) (by omega), wI64 (n := (r.month.length : Int) + r.hour.length + r.minute.length + r.second.length) (by omega)]
    refine ⟨?_, _, rfl⟩
    exact congrArg vB (decide_eq_decide.2 (by omega))

def g1 (r : Ru) : Bool := decide (6 < (r.freq : Int)) || !r.hasStart || decide (r.start < 31536000) || decide (284012524800 ≤ r.start) || decide (r.interval < 0) || decide (1000 < r.interval) || decide (r.wkst < 0) || decide (6 < r.wkst) || decide (r.count < 0) || decide (1000 < r.count)
def g2 (r : Ru) : Bool := r.hasUntil && (decide (r.til < r.start) || decide (315537897600 ≤ r.til))
def g3 (r : Ru) : Bool := !within r.setPos 12 (-366) 366 false || !within r.month 12 1 12 false || !within r.monthDay 12 (-31) 31 false || !within r.yearDay 12 (-366) 366 false || !within r.weekNo 12 (-53) 53 false
def g4 (r : Ru) : Bool := !within r.hour 12 0 23 true || !within r.minute 12 0 59 true || !within r.second 12 0 59 true || !within r.easter 12 (-80) 80 true || decide (12 < (r.day.length : Int))
def g5 (r : Ru) : Bool := decide (60 < max 1 (r.hour.length : Int) * max 1 (r.minute.length : Int) * max 1 (r.second.length : Int))
def mostOf (r : Ru) : Int := if r.freq = 1 ∨ (r.freq = 0 ∧ 0 < r.month.length) then 5 else if r.freq = 0 ∧ r.weekNo.length = 0 then 53 else 0
def dayAt (l : List (Int × Int)) (most : Int) (i : Nat) : Bool := !((l.take i).contains (l.getD i (0, 0))) && !(decide ((l.getD i (0, 0)).1 < 0) || decide (6 < (l.getD i (0, 0)).1) || decide ((l.getD i (0, 0)).2 < -most) || decide (most < (l.getD i (0, 0)).2))
def g6 (r : Ru) : Bool := !(List.range r.day.length).all (dayAt r.day (mostOf r))
def g7 (r : Ru) : Bool := (decide (0 < r.weekNo.length) && !decide (r.freq = 0)) || (decide (0 < r.easter.length) && !decide (r.freq = 0)) || (decide (0 < r.monthDay.length) && decide (r.freq = 2))
def g8 (r : Ru) : Bool := decide (0 < r.yearDay.length) && (decide (r.freq = 1) || decide (r.freq = 2) || decide (r.freq = 3))
/-- spec.Clean -/
def clean (r : Ru) : Bool := !g1 r && !g2 r && !g3 r && !g4 r && !g5 r && !g6 r && !g7 r && !g8 r && (decide (r.setPos.length = 0) || parted r)
theorem clean_g1 {r : Ru} (h : g1 r = true) : clean r = false := by simp [clean, h]
theorem clean_g2 {r : Ru} (h : g2 r = true) : clean r = false := by simp [clean, h]
theorem clean_g3 {r : Ru} (h : g3 r = true) : clean r = false := by simp [clean, h]
theorem clean_g4 {r : Ru} (h : g4 r = true) : clean r = false := by simp [clean, h]
theorem clean_g5 {r : Ru} (h : g5 r = true) : clean r = false := by simp [clean, h]
theorem clean_g6 {r : Ru} (h : g6 r = true) : clean r = false := by simp [clean, h]
theorem clean_g7 {r : Ru} (h : g7 r = true) : clean r = false := by simp [clean, h]
theorem clean_g8 {r : Ru} (h : g8 r = true) : clean r = false := by simp [clean, h]

theorem within_len {l : List Int} {most low high : Int} {zero : Bool} (h : within l most low high zero = true) : (l.length : Int) ≤ most := by
  unfold within at h
  rw [Bool.and_eq_true] at h
  exact of_decide_eq_true h.1
theorem mul3 {a b c : Int} (ha : 1 ≤ a ∧ a ≤ 12) (hb : 1 ≤ b ∧ b ≤ 12) (hc : 1 ≤ c ∧ c ≤ 12) : (0 ≤ a * b ∧ a * b ≤ 144) ∧ 0 ≤ a * b * c ∧ a * b * c ≤ 1728 := by
  have h1 : 0 ≤ a * b := Int.mul_nonneg (by omega) (by omega)
  have h2 : a * b ≤ 12 * 12 := Int.mul_le_mul ha.2 hb.2 (by omega) (by omega)
  have h3 : 0 ≤ a * b * c := Int.mul_nonneg h1 (by omega)
  have h4 : a * b * c ≤ 144 * 12 := Int.mul_le_mul (by omega) hc.2 (by omega) (by omega)
  omega
theorem g4_len {r : Ru} (h : g4 r = false) : r.hour.length ≤ 12 ∧ r.minute.length ≤ 12 ∧ r.second.length ≤ 12 ∧ r.easter.length ≤ 12 ∧ r.day.length ≤ 12 := by
  unfold g4 at h
  simp only [Bool.or_eq_false_iff, Bool.not_eq_false', decide_eq_false_iff_not] at h
  obtain ⟨⟨⟨⟨h1, h2⟩, h3⟩, h4⟩, h5⟩ := h
  have := within_len h1
  have := within_len h2
  have := within_len h3
  have := within_len h4
  omega
theorem mostOf_bound (r : Ru) : 0 ≤ mostOf r ∧ mostOf r ≤ 53 := by unfold mostOf; split <;> (try split) <;> omega
theorem g6_fail {r : Ru} {i : Nat} (hi : i < r.day.length) (h : dayAt r.day (mostOf r) i = false) : g6 r = true := by
  unfold g6
  rw [Bool.not_eq_true', Bool.eq_false_iff]
  intro ha
  have := List.all_eq_true.1 ha i (List.mem_range.2 hi)
  rw [h] at this; cases this
structure RuNum (r : Ru) : Prop where
  freq : r.freq ≤ 255
  start : -9223372036854775808 ≤ r.start ∧ r.start ≤ 9223372036854775807
  til : -9223372036854775808 ≤ r.til ∧ r.til ≤ 9223372036854775807
  interval : -9223372036854775808 ≤ r.interval ∧ r.interval ≤ 9223372036854775807
  wkst : -9223372036854775808 ≤ r.wkst ∧ r.wkst ≤ 9223372036854775807
  count : -9223372036854775808 ≤ r.count ∧ r.count ≤ 9223372036854775807
  setPos : ∀ n ∈ r.setPos, -9223372036854775808 ≤ n ∧ n ≤ 9223372036854775807
  month : ∀ n ∈ r.month, -9223372036854775808 ≤ n ∧ n ≤ 9223372036854775807
  monthDay : ∀ n ∈ r.monthDay, -9223372036854775808 ≤ n ∧ n ≤ 9223372036854775807
  yearDay : ∀ n ∈ r.yearDay, -9223372036854775808 ≤ n ∧ n ≤ 9223372036854775807
  weekNo : ∀ n ∈ r.weekNo, -9223372036854775808 ≤ n ∧ n ≤ 9223372036854775807
  hour : ∀ n ∈ r.hour, -9223372036854775808 ≤ n ∧ n ≤ 9223372036854775807
  minute : ∀ n ∈ r.minute, -9223372036854775808 ≤ n ∧ n ≤ 9223372036854775807
  second : ∀ n ∈ r.second, -9223372036854775808 ≤ n ∧ n ≤ 9223372036854775807
  easter : ∀ n ∈ r.easter, -9223372036854775808 ≤ n ∧ n ≤ 9223372036854775807
  day : ∀ d ∈ r.day, (-9223372036854775808 ≤ d.1 ∧ d.1 ≤ 9223372036854775807) ∧ (-9223372036854775808 ≤ d.2 ∧ d.2 ≤ 9223372036854775807)
theorem b2 : IntKind.i64.wrap (before 2 * 86400) = 31536000 := by kernel_rfl
theorem b9001 : IntKind.i64.wrap (before 9001 * 86400) = 284012524800 := by kernel_rfl
theorem b10000 : IntKind.i64.wrap (before 10000 * 86400) = 315537897600 := by kernel_rfl
set_option maxHeartbeats 8000000 in
theorem clean_A {w0 : World} (r : Ru) (x : Rs) (hl : RuLen r) (hn : RuNum r) (H : Heap) (hx : RuAt H r x) : ACalls Tryz.prog (CB w0) 31 [.agg (ruCells r x)] H fun v H' => v = vB (clean r) ∧ H' = H := by
  refine ACalls.flat rfl ?_
  refine A_fun (N := 264) (rs := [.tmp 2]) Tryz.func31 rfl rfl rfl (by kernel_rfl) (by kernel_rfl) (Nat.le_of_ble_eq_true rfl) ?_
  rintro e he ⟨g0, -⟩
  have hBo : ∀ G, (H ++ AObj.own 25 (ruCells r x) :: G)[H.length]? = some (AObj.own 25 (ruCells r x)) := fun G => heap_get0
  have k1 := hx.setPos.len 3
  have k2 := hx.month.len 3
  have k3 := hx.monthDay.len 3
  have k4 := hx.yearDay.len 3
  have k5 := hx.weekNo.len 3
  have k6 := hx.day.len 47
  have k7 := hx.hour.len 3
  have k8 := hx.minute.len 3
  have k9 := hx.second.len 3
  have k10 := hx.easter.len 3
  unfold ruCells at g0 hBo
  simp only [go_sem, he, g0, hx.setPos.one, hx.month.one, hx.monthDay.one, hx.yearDay.one, hx.weekNo.one, hx.day.one, hx.hour.one, hx.minute.one, hx.second.one, hx.easter.one]
  have gp : True := trivial
  refine acode_join (fun e h => h = H ++ [AObj.own 25 [vU r.freq, vB r.hasStart, vI r.start, vI r.interval, vI r.wkst, vI r.count, vB r.hasUntil, vI r.til, x.setPos, x.month, x.monthDay, x.yearDay, x.weekNo, x.day, x.hour, x.minute, x.second, x.easter]] ∧ len e = 264 ∧ AL.get e 1 = .ptr H.length 0 ∧ AL.get e 57 = vB (g1 r)) ?_ ?_
  · refine acode_draw mixed (by kernel_rfl) ?_
    cases e1_0 : decide (6 < (r.freq : Int)) with
    | true =>
      simp only [go_sem, he, gp, b2, b9001, b10000, k1, k2, k3, k4, k5, k6, k7, k8, k9, k10, e1_0]
      rw [show g1 r = true by unfold g1; simp only [e1_0, Bool.true_or, Bool.or_true, Bool.false_or, Bool.true_and, Bool.false_and, Bool.not_false, Bool.not_true, Bool.or_false]]
    | false =>
    cases e1_1 : r.hasStart with
    | false =>
      simp only [go_sem, he, gp, b2, b9001, b10000, k1, k2, k3, k4, k5, k6, k7, k8, k9, k10, e1_0, e1_1]
      rw [show g1 r = true by unfold g1; simp only [e1_0, e1_1, Bool.true_or, Bool.or_true, Bool.false_or, Bool.true_and, Bool.false_and, Bool.not_false, Bool.not_true, Bool.or_false]]
    | true =>
    cases e1_2 : decide (r.start < 31536000) with
    | true =>
      simp only [go_sem, he, gp, b2, b9001, b10000, k1, k2, k3, k4, k5, k6, k7, k8, k9, k10, e1_0, e1_1, e1_2]
      refine callX_of (before_A 2 (by omega) (by omega) _) (List.prefix_refl _) ?_
      simp only [go_sem, he, gp, b2, b9001, b10000, k1, k2, k3, k4, k5, k6, k7, k8, k9, k10, e1_0, e1_1, e1_2, setD_some]
      rw [show g1 r = true by unfold g1; simp only [e1_0, e1_1, e1_2, Bool.true_or, Bool.or_true, Bool.false_or, Bool.true_and, Bool.false_and, Bool.not_false, Bool.not_true, Bool.or_false]]
    | false =>
    cases e1_3 : decide (284012524800 ≤ r.start) with
    | true =>
      simp only [go_sem, he, gp, b2, b9001, b10000, k1, k2, k3, k4, k5, k6, k7, k8, k9, k10, e1_0, e1_1, e1_2, e1_3]
      refine callX_of (before_A 2 (by omega) (by omega) _) (List.prefix_refl _) ?_
      simp only [go_sem, he, gp, b2, b9001, b10000, k1, k2, k3, k4, k5, k6, k7, k8, k9, k10, e1_0, e1_1, e1_2, e1_3, setD_some]
      refine callX_of (before_A 9001 (by omega) (by omega) _) (List.prefix_refl _) ?_
      simp only [go_sem, he, gp, b2, b9001, b10000, k1, k2, k3, k4, k5, k6, k7, k8, k9, k10, e1_0, e1_1, e1_2, e1_3, setD_some]
      rw [show g1 r = true by unfold g1; simp only [e1_0, e1_1, e1_2, e1_3, Bool.true_or, Bool.or_true, Bool.false_or, Bool.true_and, Bool.false_and, Bool.not_false, Bool.not_true, Bool.or_false]]
    | false =>
    cases e1_4 : decide (r.interval < 0) with
    | true =>
      simp only [go_sem, he, gp, b2, b9001, b10000, k1, k2, k3, k4, k5, k6, k7, k8, k9, k10, e1_0, e1_1, e1_2, e1_3, e1_4]
      refine callX_of (before_A 2 (by omega) (by omega) _) (List.prefix_refl _) ?_
      simp only [go_sem, he, gp, b2, b9001, b10000, k1, k2, k3, k4, k5, k6, k7, k8, k9, k10, e1_0, e1_1, e1_2, e1_3, e1_4, setD_some]
      refine callX_of (before_A 9001 (by omega) (by omega) _) (List.prefix_refl _) ?_
      simp only [go_sem, he, gp, b2, b9001, b10000, k1, k2, k3, k4, k5, k6, k7, k8, k9, k10, e1_0, e1_1, e1_2, e1_3, e1_4, setD_some]
      rw [show g1 r = true by unfold g1; simp only [e1_0, e1_1, e1_2, e1_3, e1_4, Bool.true_or, Bool.or_true, Bool.false_or, Bool.true_and, Bool.false_and, Bool.not_false, Bool.not_true, Bool.or_false]]
    | false =>
    cases e1_5 : decide (1000 < r.interval) with
    | true =>
      simp only [go_sem, he, gp, b2, b9001, b10000, k1, k2, k3, k4, k5, k6, k7, k8, k9, k10, e1_0, e1_1, e1_2, e1_3, e1_4, e1_5]
      refine callX_of (before_A 2 (by omega) (by omega) _) (List.prefix_refl _) ?_
      simp only [go_sem, he, gp, b2, b9001, b10000, k1, k2, k3, k4, k5, k6, k7, k8, k9, k10, e1_0, e1_1, e1_2, e1_3, e1_4, e1_5, setD_some]
      refine callX_of (before_A 9001 (by omega) (by omega) _) (List.prefix_refl _) ?_
      simp only [go_sem, he, gp, b2, b9001, b10000, k1, k2, k3, k4, k5, k6, k7, k8, k9, k10, e1_0, e1_1, e1_2, e1_3, e1_4, e1_5, setD_some]
      rw [show g1 r = true by unfold g1; simp only [e1_0, e1_1, e1_2, e1_3, e1_4, e1_5, Bool.true_or, Bool.or_true, Bool.false_or, Bool.true_and, Bool.false_and, Bool.not_false, Bool.not_true, Bool.or_false]]
    | false =>
    cases e1_6 : decide (r.wkst < 0) with
    | true =>
      simp only [go_sem, he, gp, b2, b9001, b10000, k1, k2, k3, k4, k5, k6, k7, k8, k9, k10, e1_0, e1_1, e1_2, e1_3, e1_4, e1_5, e1_6]
      refine callX_of (before_A 2 (by omega) (by omega) _) (List.prefix_refl _) ?_
      simp only [go_sem, he, gp, b2, b9001, b10000, k1, k2, k3, k4, k5, k6, k7, k8, k9, k10, e1_0, e1_1, e1_2, e1_3, e1_4, e1_5, e1_6, setD_some]
      refine callX_of (before_A 9001 (by omega) (by omega) _) (List.prefix_refl _) ?_
      simp only [go_sem, he, gp, b2, b9001, b10000, k1, k2, k3, k4, k5, k6, k7, k8, k9, k10, e1_0, e1_1, e1_2, e1_3, e1_4, e1_5, e1_6, setD_some]
      rw [show g1 r = true by unfold g1; simp only [e1_0, e1_1, e1_2, e1_3, e1_4, e1_5, e1_6, Bool.true_or, Bool.or_true, Bool.false_or, Bool.true_and, Bool.false_and, Bool.not_false, Bool.not_true, Bool.or_false]]
    | false =>
    cases e1_7 : decide (6 < r.wkst) with
    | true =>
      simp only [go_sem, he, gp, b2, b9001, b10000, k1, k2, k3, k4, k5, k6, k7, k8, k9, k10, e1_0, e1_1, e1_2, e1_3, e1_4, e1_5, e1_6, e1_7]
      refine callX_of (before_A 2 (by omega) (by omega) _) (List.prefix_refl _) ?_
      simp only [go_sem, he, gp, b2, b9001, b10000, k1, k2, k3, k4, k5, k6, k7, k8, k9, k10, e1_0, e1_1, e1_2, e1_3, e1_4, e1_5, e1_6, e1_7, setD_some]
      refine callX_of (before_A 9001 (by omega) (by omega) _) (List.prefix_refl _) ?_
      simp only [go_sem, he, gp, b2, b9001, b10000, k1, k2, k3, k4, k5, k6, k7, k8, k9, k10, e1_0, e1_1, e1_2, e1_3, e1_4, e1_5, e1_6, e1_7, setD_some]
      rw [show g1 r = true by unfold g1; simp only [e1_0, e1_1, e1_2, e1_3, e1_4, e1_5, e1_6, e1_7, Bool.true_or, Bool.or_true, Bool.false_or, Bool.true_and, Bool.false_and, Bool.not_false, Bool.not_true, Bool.or_false]]
    | false =>
    cases e1_8 : decide (r.count < 0) with
    | true =>
      simp only [go_sem, he, gp, b2, b9001, b10000, k1, k2, k3, k4, k5, k6, k7, k8, k9, k10, e1_0, e1_1, e1_2, e1_3, e1_4, e1_5, e1_6, e1_7, e1_8]
      refine callX_of (before_A 2 (by omega) (by omega) _) (List.prefix_refl _) ?_
      simp only [go_sem, he, gp, b2, b9001, b10000, k1, k2, k3, k4, k5, k6, k7, k8, k9, k10, e1_0, e1_1, e1_2, e1_3, e1_4, e1_5, e1_6, e1_7, e1_8, setD_some]
      refine callX_of (before_A 9001 (by omega) (by omega) _) (List.prefix_refl _) ?_
      simp only [go_sem, he, gp, b2, b9001, b10000, k1, k2, k3, k4, k5, k6, k7, k8, k9, k10, e1_0, e1_1, e1_2, e1_3, e1_4, e1_5, e1_6, e1_7, e1_8, setD_some]
      rw [show g1 r = true by unfold g1; simp only [e1_0, e1_1, e1_2, e1_3, e1_4, e1_5, e1_6, e1_7, e1_8, Bool.true_or, Bool.or_true, Bool.false_or, Bool.true_and, Bool.false_and, Bool.not_false, Bool.not_true, Bool.or_false]]
    | false =>
    cases e1_9 : decide (1000 < r.count) with
    | true =>
      simp only [go_sem, he, gp, b2, b9001, b10000, k1, k2, k3, k4, k5, k6, k7, k8, k9, k10, e1_0, e1_1, e1_2, e1_3, e1_4, e1_5, e1_6, e1_7, e1_8, e1_9]
      refine callX_of (before_A 2 (by omega) (by omega) _) (List.prefix_refl _) ?_
      simp only [go_sem, he, gp, b2, b9001, b10000, k1, k2, k3, k4, k5, k6, k7, k8, k9, k10, e1_0, e1_1, e1_2, e1_3, e1_4, e1_5, e1_6, e1_7, e1_8, e1_9, setD_some]
      refine callX_of (before_A 9001 (by omega) (by omega) _) (List.prefix_refl _) ?_
      simp only [go_sem, he, gp, b2, b9001, b10000, k1, k2, k3, k4, k5, k6, k7, k8, k9, k10, e1_0, e1_1, e1_2, e1_3, e1_4, e1_5, e1_6, e1_7, e1_8, e1_9, setD_some]
      rw [show g1 r = true by unfold g1; simp only [e1_0, e1_1, e1_2, e1_3, e1_4, e1_5, e1_6, e1_7, e1_8, e1_9, Bool.true_or, Bool.or_true, Bool.false_or, Bool.true_and, Bool.false_and, Bool.not_false, Bool.not_true, Bool.or_false]]
    | false =>
    simp only [go_sem, he, gp, b2, b9001, b10000, k1, k2, k3, k4, k5, k6, k7, k8, k9, k10, e1_0, e1_1, e1_2, e1_3, e1_4, e1_5, e1_6, e1_7, e1_8, e1_9]
    refine callX_of (before_A 2 (by omega) (by omega) _) (List.prefix_refl _) ?_
    simp only [go_sem, he, gp, b2, b9001, b10000, k1, k2, k3, k4, k5, k6, k7, k8, k9, k10, e1_0, e1_1, e1_2, e1_3, e1_4, e1_5, e1_6, e1_7, e1_8, e1_9, setD_some]
    refine callX_of (before_A 9001 (by omega) (by omega) _) (List.prefix_refl _) ?_
    simp only [go_sem, he, gp, b2, b9001, b10000, k1, k2, k3, k4, k5, k6, k7, k8, k9, k10, e1_0, e1_1, e1_2, e1_3, e1_4, e1_5, e1_6, e1_7, e1_8, e1_9, setD_some]
    rw [show g1 r = false by unfold g1; simp only [e1_0, e1_1, e1_2, e1_3, e1_4, e1_5, e1_6, e1_7, e1_8, e1_9, Bool.true_or, Bool.or_true, Bool.false_or, Bool.true_and, Bool.false_and, Bool.not_false, Bool.not_true, Bool.or_false]]
  rintro e h ⟨rfl, he, gp, gt⟩
  simp only [go_sem, he, gp, gt]
  refine condK_of (fun hq => ?_) fun hq => ?_
  · simp only [go_sem, he, gp, gt]
    rw [clean_g1 hq]
    exact ⟨rfl, _, rfl⟩
  rename g1 r = false => q1
  simp only [go_sem, he, gp, gt, k1, k2, k3, k4, k5, k6, k7, k8, k9, k10]
  refine acode_join (fun e h => h = H ++ [AObj.own 25 [vU r.freq, vB r.hasStart, vI r.start, vI r.interval, vI r.wkst, vI r.count, vB r.hasUntil, vI r.til, x.setPos, x.month, x.monthDay, x.yearDay, x.weekNo, x.day, x.hour, x.minute, x.second, x.easter]] ∧ len e = 264 ∧ AL.get e 1 = .ptr H.length 0 ∧ AL.get e 73 = vB (g2 r)) ?_ ?_
  · refine acode_draw mixed (by kernel_rfl) ?_
    cases e0 : r.hasUntil with
    | false =>
      simp only [go_sem, he, gp, b2, b9001, b10000, k1, k2, k3, k4, k5, k6, k7, k8, k9, k10, e0]
      rw [show g2 r = false by unfold g2; simp only [e0, Bool.true_or, Bool.or_true, Bool.false_or, Bool.true_and, Bool.false_and, Bool.not_false, Bool.not_true, Bool.or_false]]
    | true =>
    cases e1 : decide (r.til < r.start) with
    | true =>
      simp only [go_sem, he, gp, b2, b9001, b10000, k1, k2, k3, k4, k5, k6, k7, k8, k9, k10, e0, e1]
      rw [show g2 r = true by unfold g2; simp only [e0, e1, Bool.true_or, Bool.or_true, Bool.false_or, Bool.true_and, Bool.false_and, Bool.not_false, Bool.not_true, Bool.or_false]]
    | false =>
    cases e2 : decide (315537897600 ≤ r.til) with
    | true =>
      simp only [go_sem, he, gp, b2, b9001, b10000, k1, k2, k3, k4, k5, k6, k7, k8, k9, k10, e0, e1, e2]
      refine callX_of (before_A 10000 (by omega) (by omega) _) (List.prefix_refl _) ?_
      simp only [go_sem, he, gp, b2, b9001, b10000, k1, k2, k3, k4, k5, k6, k7, k8, k9, k10, e0, e1, e2, setD_some]
      rw [show g2 r = true by unfold g2; simp only [e0, e1, e2, Bool.true_or, Bool.or_true, Bool.false_or, Bool.true_and, Bool.false_and, Bool.not_false, Bool.not_true, Bool.or_false]]
    | false =>
    simp only [go_sem, he, gp, b2, b9001, b10000, k1, k2, k3, k4, k5, k6, k7, k8, k9, k10, e0, e1, e2]
    refine callX_of (before_A 10000 (by omega) (by omega) _) (List.prefix_refl _) ?_
    simp only [go_sem, he, gp, b2, b9001, b10000, k1, k2, k3, k4, k5, k6, k7, k8, k9, k10, e0, e1, e2, setD_some]
    rw [show g2 r = false by unfold g2; simp only [e0, e1, e2, Bool.true_or, Bool.or_true, Bool.false_or, Bool.true_and, Bool.false_and, Bool.not_false, Bool.not_true, Bool.or_false]]
  rintro e h ⟨rfl, he, gp, gt⟩
  simp only [go_sem, he, gp, gt]
  refine condK_of (fun hq => ?_) fun hq => ?_
  · simp only [go_sem, he, gp, gt]
    rw [clean_g2 hq]
    exact ⟨rfl, _, rfl⟩
  rename g2 r = false => q2
  simp only [go_sem, he, gp, gt, k1, k2, k3, k4, k5, k6, k7, k8, k9, k10]
  refine callX_join (fun e h => h = H ++ [AObj.own 25 [vU r.freq, vB r.hasStart, vI r.start, vI r.interval, vI r.wkst, vI r.count, vB r.hasUntil, vI r.til, x.setPos, x.month, x.monthDay, x.yearDay, x.weekNo, x.day, x.hour, x.minute, x.second, x.easter]] ∧ len e = 264 ∧ AL.get e 1 = .ptr H.length 0 ∧ AL.get e 101 = vB (g3 r)) ?_ ?_
  · cases e3_0 : within r.setPos 12 (-366) 366 false with
    | false =>
      refine callX_of (within_A r.setPos (by have := hl.setPos; omega) hn.setPos 12 (-366) 366 (by omega) false _ _ (hx.setPos.more _)) (List.prefix_refl _) ?_
      simp only [go_sem, he, gp, b2, b9001, b10000, k1, k2, k3, k4, k5, k6, k7, k8, k9, k10, e3_0, setD_some]
      rw [show g3 r = true by unfold g3; simp only [e3_0, Bool.true_or, Bool.or_true, Bool.false_or, Bool.true_and, Bool.false_and, Bool.not_false, Bool.not_true, Bool.or_false]]
    | true =>
    cases e3_1 : within r.month 12 1 12 false with
    | false =>
      refine callX_of (within_A r.setPos (by have := hl.setPos; omega) hn.setPos 12 (-366) 366 (by omega) false _ _ (hx.setPos.more _)) (List.prefix_refl _) ?_
      simp only [go_sem, he, gp, b2, b9001, b10000, k1, k2, k3, k4, k5, k6, k7, k8, k9, k10, e3_0, e3_1, setD_some]
      refine callX_of (within_A r.month (by have := hl.month; omega) hn.month 12 1 12 (by omega) false _ _ (hx.month.more _)) (List.prefix_refl _) ?_
      simp only [go_sem, he, gp, b2, b9001, b10000, k1, k2, k3, k4, k5, k6, k7, k8, k9, k10, e3_0, e3_1, setD_some]
      rw [show g3 r = true by unfold g3; simp only [e3_0, e3_1, Bool.true_or, Bool.or_true, Bool.false_or, Bool.true_and, Bool.false_and, Bool.not_false, Bool.not_true, Bool.or_false]]
    | true =>
    cases e3_2 : within r.monthDay 12 (-31) 31 false with
    | false =>
      refine callX_of (within_A r.setPos (by have := hl.setPos; omega) hn.setPos 12 (-366) 366 (by omega) false _ _ (hx.setPos.more _)) (List.prefix_refl _) ?_
      simp only [go_sem, he, gp, b2, b9001, b10000, k1, k2, k3, k4, k5, k6, k7, k8, k9, k10, e3_0, e3_1, e3_2, setD_some]
      refine callX_of (within_A r.month (by have := hl.month; omega) hn.month 12 1 12 (by omega) false _ _ (hx.month.more _)) (List.prefix_refl _) ?_
      simp only [go_sem, he, gp, b2, b9001, b10000, k1, k2, k3, k4, k5, k6, k7, k8, k9, k10, e3_0, e3_1, e3_2, setD_some]
      refine callX_of (within_A r.monthDay (by have := hl.monthDay; omega) hn.monthDay 12 (-31) 31 (by omega) false _ _ (hx.monthDay.more _)) (List.prefix_refl _) ?_
      simp only [go_sem, he, gp, b2, b9001, b10000, k1, k2, k3, k4, k5, k6, k7, k8, k9, k10, e3_0, e3_1, e3_2, setD_some]
      rw [show g3 r = true by unfold g3; simp only [e3_0, e3_1, e3_2, Bool.true_or, Bool.or_true, Bool.false_or, Bool.true_and, Bool.false_and, Bool.not_false, Bool.not_true, Bool.or_false]]
    | true =>
    cases e3_3 : within r.yearDay 12 (-366) 366 false with
    | false =>
      refine callX_of (within_A r.setPos (by have := hl.setPos; omega) hn.setPos 12 (-366) 366 (by omega) false _ _ (hx.setPos.more _)) (List.prefix_refl _) ?_
      simp only [go_sem, he, gp, b2, b9001, b10000, k1, k2, k3, k4, k5, k6, k7, k8, k9, k10, e3_0, e3_1, e3_2, e3_3, setD_some]
      refine callX_of (within_A r.month (by have := hl.month; omega) hn.month 12 1 12 (by omega) false _ _ (hx.month.more _)) (List.prefix_refl _) ?_
      simp only [go_sem, he, gp, b2, b9001, b10000, k1, k2, k3, k4, k5, k6, k7, k8, k9, k10, e3_0, e3_1, e3_2, e3_3, setD_some]
      refine callX_of (within_A r.monthDay (by have := hl.monthDay; omega) hn.monthDay 12 (-31) 31 (by omega) false _ _ (hx.monthDay.more _)) (List.prefix_refl _) ?_
      simp only [go_sem, he, gp, b2, b9001, b10000, k1, k2, k3, k4, k5, k6, k7, k8, k9, k10, e3_0, e3_1, e3_2, e3_3, setD_some]
      refine callX_of (within_A r.yearDay (by have := hl.yearDay; omega) hn.yearDay 12 (-366) 366 (by omega) false _ _ (hx.yearDay.more _)) (List.prefix_refl _) ?_
      simp only [go_sem, he, gp, b2, b9001, b10000, k1, k2, k3, k4, k5, k6, k7, k8, k9, k10, e3_0, e3_1, e3_2, e3_3, setD_some]
      rw [show g3 r = true by unfold g3; simp only [e3_0, e3_1, e3_2, e3_3, Bool.true_or, Bool.or_true, Bool.false_or, Bool.true_and, Bool.false_and, Bool.not_false, Bool.not_true, Bool.or_false]]
    | true =>
    cases e3_4 : within r.weekNo 12 (-53) 53 false with
    | false =>
      refine callX_of (within_A r.setPos (by have := hl.setPos; omega) hn.setPos 12 (-366) 366 (by omega) false _ _ (hx.setPos.more _)) (List.prefix_refl _) ?_
      simp only [go_sem, he, gp, b2, b9001, b10000, k1, k2, k3, k4, k5, k6, k7, k8, k9, k10, e3_0, e3_1, e3_2, e3_3, e3_4, setD_some]
      refine callX_of (within_A r.month (by have := hl.month; omega) hn.month 12 1 12 (by omega) false _ _ (hx.month.more _)) (List.prefix_refl _) ?_
      simp only [go_sem, he, gp, b2, b9001, b10000, k1, k2, k3, k4, k5, k6, k7, k8, k9, k10, e3_0, e3_1, e3_2, e3_3, e3_4, setD_some]
      refine callX_of (within_A r.monthDay (by have := hl.monthDay; omega) hn.monthDay 12 (-31) 31 (by omega) false _ _ (hx.monthDay.more _)) (List.prefix_refl _) ?_
      simp only [go_sem, he, gp, b2, b9001, b10000, k1, k2, k3, k4, k5, k6, k7, k8, k9, k10, e3_0, e3_1, e3_2, e3_3, e3_4, setD_some]
      refine callX_of (within_A r.yearDay (by have := hl.yearDay; omega) hn.yearDay 12 (-366) 366 (by omega) false _ _ (hx.yearDay.more _)) (List.prefix_refl _) ?_
      simp only [go_sem, he, gp, b2, b9001, b10000, k1, k2, k3, k4, k5, k6, k7, k8, k9, k10, e3_0, e3_1, e3_2, e3_3, e3_4, setD_some]
      refine callX_of (within_A r.weekNo (by have := hl.weekNo; omega) hn.weekNo 12 (-53) 53 (by omega) false _ _ (hx.weekNo.more _)) (List.prefix_refl _) ?_
      simp only [go_sem, he, gp, b2, b9001, b10000, k1, k2, k3, k4, k5, k6, k7, k8, k9, k10, e3_0, e3_1, e3_2, e3_3, e3_4, setD_some]
      rw [show g3 r = true by unfold g3; simp only [e3_0, e3_1, e3_2, e3_3, e3_4, Bool.true_or, Bool.or_true, Bool.false_or, Bool.true_and, Bool.false_and, Bool.not_false, Bool.not_true, Bool.or_false]]
    | true =>
    refine callX_of (within_A r.setPos (by have := hl.setPos; omega) hn.setPos 12 (-366) 366 (by omega) false _ _ (hx.setPos.more _)) (List.prefix_refl _) ?_
    simp only [go_sem, he, gp, b2, b9001, b10000, k1, k2, k3, k4, k5, k6, k7, k8, k9, k10, e3_0, e3_1, e3_2, e3_3, e3_4, setD_some]
    refine callX_of (within_A r.month (by have := hl.month; omega) hn.month 12 1 12 (by omega) false _ _ (hx.month.more _)) (List.prefix_refl _) ?_
    simp only [go_sem, he, gp, b2, b9001, b10000, k1, k2, k3, k4, k5, k6, k7, k8, k9, k10, e3_0, e3_1, e3_2, e3_3, e3_4, setD_some]
    refine callX_of (within_A r.monthDay (by have := hl.monthDay; omega) hn.monthDay 12 (-31) 31 (by omega) false _ _ (hx.monthDay.more _)) (List.prefix_refl _) ?_
    simp only [go_sem, he, gp, b2, b9001, b10000, k1, k2, k3, k4, k5, k6, k7, k8, k9, k10, e3_0, e3_1, e3_2, e3_3, e3_4, setD_some]
    refine callX_of (within_A r.yearDay (by have := hl.yearDay; omega) hn.yearDay 12 (-366) 366 (by omega) false _ _ (hx.yearDay.more _)) (List.prefix_refl _) ?_
    simp only [go_sem, he, gp, b2, b9001, b10000, k1, k2, k3, k4, k5, k6, k7, k8, k9, k10, e3_0, e3_1, e3_2, e3_3, e3_4, setD_some]
    refine callX_of (within_A r.weekNo (by have := hl.weekNo; omega) hn.weekNo 12 (-53) 53 (by omega) false _ _ (hx.weekNo.more _)) (List.prefix_refl _) ?_
    simp only [go_sem, he, gp, b2, b9001, b10000, k1, k2, k3, k4, k5, k6, k7, k8, k9, k10, e3_0, e3_1, e3_2, e3_3, e3_4, setD_some]
    rw [show g3 r = false by unfold g3; simp only [e3_0, e3_1, e3_2, e3_3, e3_4, Bool.true_or, Bool.or_true, Bool.false_or, Bool.true_and, Bool.false_and, Bool.not_false, Bool.not_true, Bool.or_false]]
  rintro e h ⟨rfl, he, gp, gt⟩
  simp only [go_sem, he, gp, gt]
  refine condK_of (fun hq => ?_) fun hq => ?_
  · simp only [go_sem, he, gp, gt]
    rw [clean_g3 hq]
    exact ⟨rfl, _, rfl⟩
  rename g3 r = false => q3
  simp only [go_sem, he, gp, gt, k1, k2, k3, k4, k5, k6, k7, k8, k9, k10]
  refine callX_join (fun e h => h = H ++ [AObj.own 25 [vU r.freq, vB r.hasStart, vI r.start, vI r.interval, vI r.wkst, vI r.count, vB r.hasUntil, vI r.til, x.setPos, x.month, x.monthDay, x.yearDay, x.weekNo, x.day, x.hour, x.minute, x.second, x.easter]] ∧ len e = 264 ∧ AL.get e 1 = .ptr H.length 0 ∧ AL.get e 129 = vB (g4 r)) ?_ ?_
  · cases e4_0 : within r.hour 12 0 23 true with
    | false =>
      refine callX_of (within_A r.hour (by have := hl.hour; omega) hn.hour 12 0 23 (by omega) true _ _ (hx.hour.more _)) (List.prefix_refl _) ?_
      simp only [go_sem, he, gp, b2, b9001, b10000, k1, k2, k3, k4, k5, k6, k7, k8, k9, k10, e4_0, setD_some]
      rw [show g4 r = true by unfold g4; simp only [e4_0, Bool.true_or, Bool.or_true, Bool.false_or, Bool.true_and, Bool.false_and, Bool.not_false, Bool.not_true, Bool.or_false]]
    | true =>
    cases e4_1 : within r.minute 12 0 59 true with
    | false =>
      refine callX_of (within_A r.hour (by have := hl.hour; omega) hn.hour 12 0 23 (by omega) true _ _ (hx.hour.more _)) (List.prefix_refl _) ?_
      simp only [go_sem, he, gp, b2, b9001, b10000, k1, k2, k3, k4, k5, k6, k7, k8, k9, k10, e4_0, e4_1, setD_some]
      refine callX_of (within_A r.minute (by have := hl.minute; omega) hn.minute 12 0 59 (by omega) true _ _ (hx.minute.more _)) (List.prefix_refl _) ?_
      simp only [go_sem, he, gp, b2, b9001, b10000, k1, k2, k3, k4, k5, k6, k7, k8, k9, k10, e4_0, e4_1, setD_some]
      rw [show g4 r = true by unfold g4; simp only [e4_0, e4_1, Bool.true_or, Bool.or_true, Bool.false_or, Bool.true_and, Bool.false_and, Bool.not_false, Bool.not_true, Bool.or_false]]
    | true =>
    cases e4_2 : within r.second 12 0 59 true with
    | false =>
      refine callX_of (within_A r.hour (by have := hl.hour; omega) hn.hour 12 0 23 (by omega) true _ _ (hx.hour.more _)) (List.prefix_refl _) ?_
      simp only [go_sem, he, gp, b2, b9001, b10000, k1, k2, k3, k4, k5, k6, k7, k8, k9, k10, e4_0, e4_1, e4_2, setD_some]
      refine callX_of (within_A r.minute (by have := hl.minute; omega) hn.minute 12 0 59 (by omega) true _ _ (hx.minute.more _)) (List.prefix_refl _) ?_
      simp only [go_sem, he, gp, b2, b9001, b10000, k1, k2, k3, k4, k5, k6, k7, k8, k9, k10, e4_0, e4_1, e4_2, setD_some]
      refine callX_of (within_A r.second (by have := hl.second; omega) hn.second 12 0 59 (by omega) true _ _ (hx.second.more _)) (List.prefix_refl _) ?_
      simp only [go_sem, he, gp, b2, b9001, b10000, k1, k2, k3, k4, k5, k6, k7, k8, k9, k10, e4_0, e4_1, e4_2, setD_some]
      rw [show g4 r = true by unfold g4; simp only [e4_0, e4_1, e4_2, Bool.true_or, Bool.or_true, Bool.false_or, Bool.true_and, Bool.false_and, Bool.not_false, Bool.not_true, Bool.or_false]]
    | true =>
    cases e4_3 : within r.easter 12 (-80) 80 true with
    | false =>
      refine callX_of (within_A r.hour (by have := hl.hour; omega) hn.hour 12 0 23 (by omega) true _ _ (hx.hour.more _)) (List.prefix_refl _) ?_
      simp only [go_sem, he, gp, b2, b9001, b10000, k1, k2, k3, k4, k5, k6, k7, k8, k9, k10, e4_0, e4_1, e4_2, e4_3, setD_some]
      refine callX_of (within_A r.minute (by have := hl.minute; omega) hn.minute 12 0 59 (by omega) true _ _ (hx.minute.more _)) (List.prefix_refl _) ?_
      simp only [go_sem, he, gp, b2, b9001, b10000, k1, k2, k3, k4, k5, k6, k7, k8, k9, k10, e4_0, e4_1, e4_2, e4_3, setD_some]
      refine callX_of (within_A r.second (by have := hl.second; omega) hn.second 12 0 59 (by omega) true _ _ (hx.second.more _)) (List.prefix_refl _) ?_
      simp only [go_sem, he, gp, b2, b9001, b10000, k1, k2, k3, k4, k5, k6, k7, k8, k9, k10, e4_0, e4_1, e4_2, e4_3, setD_some]
      refine callX_of (within_A r.easter (by have := hl.easter; omega) hn.easter 12 (-80) 80 (by omega) true _ _ (hx.easter.more _)) (List.prefix_refl _) ?_
      simp only [go_sem, he, gp, b2, b9001, b10000, k1, k2, k3, k4, k5, k6, k7, k8, k9, k10, e4_0, e4_1, e4_2, e4_3, setD_some]
      rw [show g4 r = true by unfold g4; simp only [e4_0, e4_1, e4_2, e4_3, Bool.true_or, Bool.or_true, Bool.false_or, Bool.true_and, Bool.false_and, Bool.not_false, Bool.not_true, Bool.or_false]]
    | true =>
    cases e4_4 : decide (12 < (r.day.length : Int)) with
    | true =>
      refine callX_of (within_A r.hour (by have := hl.hour; omega) hn.hour 12 0 23 (by omega) true _ _ (hx.hour.more _)) (List.prefix_refl _) ?_
      simp only [go_sem, he, gp, b2, b9001, b10000, k1, k2, k3, k4, k5, k6, k7, k8, k9, k10, e4_0, e4_1, e4_2, e4_3, e4_4, setD_some]
      refine callX_of (within_A r.minute (by have := hl.minute; omega) hn.minute 12 0 59 (by omega) true _ _ (hx.minute.more _)) (List.prefix_refl _) ?_
      simp only [go_sem, he, gp, b2, b9001, b10000, k1, k2, k3, k4, k5, k6, k7, k8, k9, k10, e4_0, e4_1, e4_2, e4_3, e4_4, setD_some]
      refine callX_of (within_A r.second (by have := hl.second; omega) hn.second 12 0 59 (by omega) true _ _ (hx.second.more _)) (List.prefix_refl _) ?_
      simp only [go_sem, he, gp, b2, b9001, b10000, k1, k2, k3, k4, k5, k6, k7, k8, k9, k10, e4_0, e4_1, e4_2, e4_3, e4_4, setD_some]
      refine callX_of (within_A r.easter (by have := hl.easter; omega) hn.easter 12 (-80) 80 (by omega) true _ _ (hx.easter.more _)) (List.prefix_refl _) ?_
      simp only [go_sem, he, gp, b2, b9001, b10000, k1, k2, k3, k4, k5, k6, k7, k8, k9, k10, e4_0, e4_1, e4_2, e4_3, e4_4, setD_some]
      rw [show g4 r = true by unfold g4; simp only [e4_0, e4_1, e4_2, e4_3, e4_4, Bool.true_or, Bool.or_true, Bool.false_or, Bool.true_and, Bool.false_and, Bool.not_false, Bool.not_true, Bool.or_false]]
    | false =>
    refine callX_of (within_A r.hour (by have := hl.hour; omega) hn.hour 12 0 23 (by omega) true _ _ (hx.hour.more _)) (List.prefix_refl _) ?_
    simp only [go_sem, he, gp, b2, b9001, b10000, k1, k2, k3, k4, k5, k6, k7, k8, k9, k10, e4_0, e4_1, e4_2, e4_3, e4_4, setD_some]
    refine callX_of (within_A r.minute (by have := hl.minute; omega) hn.minute 12 0 59 (by omega) true _ _ (hx.minute.more _)) (List.prefix_refl _) ?_
    simp only [go_sem, he, gp, b2, b9001, b10000, k1, k2, k3, k4, k5, k6, k7, k8, k9, k10, e4_0, e4_1, e4_2, e4_3, e4_4, setD_some]
    refine callX_of (within_A r.second (by have := hl.second; omega) hn.second 12 0 59 (by omega) true _ _ (hx.second.more _)) (List.prefix_refl _) ?_
    simp only [go_sem, he, gp, b2, b9001, b10000, k1, k2, k3, k4, k5, k6, k7, k8, k9, k10, e4_0, e4_1, e4_2, e4_3, e4_4, setD_some]
    refine callX_of (within_A r.easter (by have := hl.easter; omega) hn.easter 12 (-80) 80 (by omega) true _ _ (hx.easter.more _)) (List.prefix_refl _) ?_
    simp only [go_sem, he, gp, b2, b9001, b10000, k1, k2, k3, k4, k5, k6, k7, k8, k9, k10, e4_0, e4_1, e4_2, e4_3, e4_4, setD_some]
    rw [show g4 r = false by unfold g4; simp only [e4_0, e4_1, e4_2, e4_3, e4_4, Bool.true_or, Bool.or_true, Bool.false_or, Bool.true_and, Bool.false_and, Bool.not_false, Bool.not_true, Bool.or_false]]
  rintro e h ⟨rfl, he, gp, gt⟩
  simp only [go_sem, he, gp, gt]
  refine condK_of (fun hq => ?_) fun hq => ?_
  · simp only [go_sem, he, gp, gt]
    rw [clean_g4 hq]
    exact ⟨rfl, _, rfl⟩
  rename g4 r = false => q4
  simp only [go_sem, he, gp, gt, k1, k2, k3, k4, k5, k6, k7, k8, k9, k10]
  obtain ⟨n1, n2, n3, n4, n5⟩ := g4_len q4
  have hmul := mul3 (a := max 1 (r.hour.length : Int)) (b := max 1 (r.minute.length : Int)) (c := max 1 (r.second.length : Int)) (by omega) (by omega) (by omega)
  rw [wI64 (n := max 1 (r.hour.length : Int) * max 1 (r.minute.length : Int)) (by omega), wI64 (n := max 1 (r.hour.length : Int) * max 1 (r.minute.length : Int) * max 1 (r.second.length : Int)) (by omega)]
  refine condK_of (fun hq => ?_) fun hq => ?_
  · simp only [go_sem, he, gp, gt]
    rw [clean_g5 hq]
    exact ⟨rfl, _, rfl⟩
  have q5' : g5 r = false := hq
  clear hmul gt
  rw [acode_skip, Kseq_normal, acode_seq]
  refine acode_join (fun e h => h = H ++ [AObj.own 25 [vU r.freq, vB r.hasStart, vI r.start, vI r.interval, vI r.wkst, vI r.count, vB r.hasUntil, vI r.til, x.setPos, x.month, x.monthDay, x.yearDay, x.weekNo, x.day, x.hour, x.minute, x.second, x.easter]] ∧ len e = 264 ∧ AL.get e 1 = .ptr H.length 0 ∧ AL.get e 3 = vI 0) (by simp only [go_sem, he, gp]) ?_
  rintro e h ⟨rfl, he, gp, g3⟩
  rw [Kseq_normal, acode_seq]
  refine acode_join (fun e h => h = H ++ [AObj.own 25 [vU r.freq, vB r.hasStart, vI r.start, vI r.interval, vI r.wkst, vI r.count, vB r.hasUntil, vI r.til, x.setPos, x.month, x.monthDay, x.yearDay, x.weekNo, x.day, x.hour, x.minute, x.second, x.easter]] ∧ len e = 264 ∧ AL.get e 1 = .ptr H.length 0 ∧ AL.get e 3 = vI (mostOf r)) ?_ ?_
  · by_cases f1 : r.freq = 1
    · have d1 : decide ((r.freq : Int) = 1) = true := decide_eq_true (by omega)
      simp only [go_sem, he, gp, g3, k2, k5, d1]
      unfold mostOf
      rw [if_pos (.inl f1)]
    have d1 : decide ((r.freq : Int) = 1) = false := decide_eq_false (by omega)
    by_cases f0 : r.freq = 0
    · have d0 : decide ((r.freq : Int) = 0) = true := decide_eq_true (by omega)
      by_cases fm : 0 < r.month.length
      · have dm : decide (0 < (r.month.length : Int)) = true := decide_eq_true (by omega)
        simp only [go_sem, he, gp, g3, k2, k5, d1, d0, dm]
        unfold mostOf
        rw [if_pos (.inr ⟨f0, fm⟩)]
      have dm : decide (0 < (r.month.length : Int)) = false := decide_eq_false (by omega)
      by_cases fw : r.weekNo.length = 0
      · have dw : decide ((r.weekNo.length : Int) = 0) = true := decide_eq_true (by omega)
        simp only [go_sem, he, gp, g3, k2, k5, d1, d0, dm, dw]
        unfold mostOf
        rw [if_neg (by omega), if_pos ⟨f0, fw⟩]
      have dw : decide ((r.weekNo.length : Int) = 0) = false := decide_eq_false (by omega)
      simp only [go_sem, he, gp, g3, k2, k5, d1, d0, dm, dw]
      unfold mostOf
      rw [if_neg (by omega), if_neg (by omega)]
    have d0 : decide ((r.freq : Int) = 0) = false := decide_eq_false (by omega)
    simp only [go_sem, he, gp, g3, k2, k5, d1, d0]
    unfold mostOf
    rw [if_neg (by omega), if_neg (by omega)]
  rintro e h ⟨rfl, he, gp, g3⟩
  simp only [go_sem, he, gp, g3, k6]
  refine A_while r.day.length (fun k e h => (∃ G, h = H ++ [AObj.own 25 [vU r.freq, vB r.hasStart, vI r.start, vI r.interval, vI r.wkst, vI r.count, vB r.hasUntil, vI r.til, x.setPos, x.month, x.monthDay, x.yearDay, x.weekNo, x.day, x.hour, x.minute, x.second, x.easter]] ++ G) ∧ len e = 264 ∧ AL.get e 1 = .ptr H.length 0 ∧ AL.get e 3 = vI (mostOf r) ∧ AL.get e 171 = x.day ∧ AL.get e 172 = vI r.day.length ∧ ∃ i : Nat, AL.get e 173 = vI i ∧ i + k = r.day.length ∧ (List.range i).all (dayAt r.day (mostOf r)) = true) (by kernel_rfl) ?_ ?_
  · simp only [go_sem, he, gp, g3]
    exact ⟨⟨[], rfl⟩, 0, rfl, by omega, rfl⟩
  rintro k e h ⟨⟨G, rfl⟩, he, gp, g3, g171, g172, i, g173, hik, hall⟩
  rw [List.append_assoc, List.cons_append, List.nil_append]
  simp only [go_sem, he, gp, g3, g171, g172, g173]
  refine condK_of (fun hc => ?_) fun hc => ?_
  · have hc := of_decide_eq_true hc
    have hi : i < r.day.length := by omega
    have hx2 := hx.day.more (AObj.own 25 [vU r.freq, vB r.hasStart, vI r.start, vI r.interval, vI r.wkst, vI r.count, vB r.hasUntil, vI r.til, x.setPos, x.month, x.monthDay, x.yearDay, x.weekNo, x.day, x.hour, x.minute, x.second, x.easter] :: G)
    rcases id hx2 with ⟨_, h0⟩ | ⟨own, o, off, cs, hxd, hcs, hcell⟩
    · omega
    obtain ⟨hd1, hd2⟩ := days_load (H := H) hcell hi
    rw [hxd] at hx2
    have hdef : dayAt r.day (mostOf r) i = (!((r.day.take i).contains (r.day.getD i (0, 0))) && !(decide ((r.day.getD i (0, 0)).1 < 0) || decide (6 < (r.day.getD i (0, 0)).1) || decide ((r.day.getD i (0, 0)).2 < -mostOf r) || decide (mostOf r < (r.day.getD i (0, 0)).2))) := rfl
    have wi : IntKind.i64.wrap ((i : Int) + 1) = ((i + 1 : Nat) : Int) := by rw [wI64 (by omega)]; rfl
    have wm : IntKind.i64.wrap (0 - mostOf r) = -mostOf r := by have := mostOf_bound r; rw [wI64 (by omega)]; omega
    generalize r.day.getD i (0, 0) = dd at *
    rw [hxd] at g171
    simp only [go_sem, he, gp, g3, g171, g172, g173, hcs, hd1, hd2, Int.toNat_natCast]
    refine ⟨by omega, ?_⟩
    refine acode_draw mixed (by kernel_rfl) ?_
    simp only [go_sem, he, gp, g3, g171, g172, g173, hxd, nn]
    refine ⟨by omega, ?_⟩
    have hx3 := (DaysAt.take (i := i) hx2 (by omega)).more [AObj.own 47 [vI dd.1, vI dd.2]]
    rw [List.append_assoc, List.cons_append] at hx3
    refine callX_of (containsD_A (r.day.take i) (by rw [List.length_take]; omega) dd _ _ hx3) (List.prefix_refl _) ?_
    cases hq : (r.day.take i).contains dd with
    | true =>
      simp only [go_sem, he, gp, g3, g171, g172, g173, setD_some]
      rw [clean_g6 (g6_fail hi (show dayAt r.day (mostOf r) i = false by rw [hdef, hq]; rfl))]
      exact ⟨rfl, _, rfl⟩
    | false =>
    cases z0 : decide (dd.1 < 0) with
    | true =>
      simp only [go_sem, he, gp, g3, g171, g172, g173, setD_some, wm, z0]
      rw [clean_g6 (g6_fail hi (show dayAt r.day (mostOf r) i = false by rw [hdef, hq]; simp only [z0, Bool.true_or, Bool.or_true, Bool.false_or, Bool.not_true, Bool.and_false]))]
      exact ⟨rfl, _, rfl⟩
    | false =>
    cases z1 : decide (6 < dd.1) with
    | true =>
      simp only [go_sem, he, gp, g3, g171, g172, g173, setD_some, wm, z0, z1]
      rw [clean_g6 (g6_fail hi (show dayAt r.day (mostOf r) i = false by rw [hdef, hq]; simp only [z0, z1, Bool.true_or, Bool.or_true, Bool.false_or, Bool.not_true, Bool.and_false]))]
      exact ⟨rfl, _, rfl⟩
    | false =>
    cases z2 : decide (dd.2 < -mostOf r) with
    | true =>
      simp only [go_sem, he, gp, g3, g171, g172, g173, setD_some, wm, z0, z1, z2]
      rw [clean_g6 (g6_fail hi (show dayAt r.day (mostOf r) i = false by rw [hdef, hq]; simp only [z0, z1, z2, Bool.true_or, Bool.or_true, Bool.false_or, Bool.not_true, Bool.and_false]))]
      exact ⟨rfl, _, rfl⟩
    | false =>
    cases z3 : decide (mostOf r < dd.2) with
    | true =>
      simp only [go_sem, he, gp, g3, g171, g172, g173, setD_some, wm, z0, z1, z2, z3]
      rw [clean_g6 (g6_fail hi (show dayAt r.day (mostOf r) i = false by rw [hdef, hq]; simp only [z0, z1, z2, z3, Bool.true_or, Bool.or_true, Bool.false_or, Bool.not_true, Bool.and_false]))]
      exact ⟨rfl, _, rfl⟩
    | false =>
    simp only [go_sem, he, gp, g3, g171, g172, g173, setD_some, wm, wi, z0, z1, z2, z3]
    refine ⟨k - 1, by omega, ⟨_, rfl⟩, i + 1, rfl, by omega, ?_⟩
    rw [List.range_succ, List.all_append, hall, List.all_cons, List.all_nil, show dayAt r.day (mostOf r) i = true by rw [hdef, hq]; simp only [z0, z1, z2, z3, Bool.or_false, Bool.not_false, Bool.and_true]]
    rfl
  have hc := of_decide_eq_false hc
  have hi : i = r.day.length := by omega
  rw [hi] at hall
  have q6 : g6 r = false := by unfold g6; rw [hall]; rfl
  simp only [go_sem, he, gp, k5]
  refine guardK_join (fun e h => (∃ G, h = H ++ AObj.own 25 [vU r.freq, vB r.hasStart, vI r.start, vI r.interval, vI r.wkst, vI r.count, vB r.hasUntil, vI r.til, x.setPos, x.month, x.monthDay, x.yearDay, x.weekNo, x.day, x.hour, x.minute, x.second, x.easter] :: G) ∧ len e = 264 ∧ AL.get e 1 = .ptr H.length 0 ∧ AL.get e 236 = vB (g7 r)) ?_ ?_
  · by_cases cf0 : r.freq = 0
    · have df0 : decide ((r.freq : Int) = 0) = true := decide_eq_true (by omega)
      have nf0 : decide (r.freq = 0) = true := decide_eq_true (by omega)
      by_cases ca : 0 < r.weekNo.length
      · have da : decide (0 < (r.weekNo.length : Int)) = true := decide_eq_true (by omega)
        have na : decide (0 < r.weekNo.length) = true := decide_eq_true (by omega)
        by_cases cb : 0 < r.easter.length
        · have db : decide (0 < (r.easter.length : Int)) = true := decide_eq_true (by omega)
          have nb : decide (0 < r.easter.length) = true := decide_eq_true (by omega)
          by_cases cc : 0 < r.monthDay.length
          · have dc : decide (0 < (r.monthDay.length : Int)) = true := decide_eq_true (by omega)
            have nc : decide (0 < r.monthDay.length) = true := decide_eq_true (by omega)
            by_cases cf2 : r.freq = 2
            · have df2 : decide ((r.freq : Int) = 2) = true := decide_eq_true (by omega)
              have nf2 : decide (r.freq = 2) = true := decide_eq_true (by omega)
              simp only [go_sem, he, gp, k1, k2, k3, k4, k5, k6, k10, df0, da, db, dc, df2]
              exact ⟨⟨_, rfl⟩, by rw [show g7 r = true by unfold g7; simp only [nf0, na, nb, nc, nf2, Bool.true_or, Bool.or_true, Bool.false_or, Bool.true_and, Bool.false_and, Bool.not_false, Bool.not_true, Bool.or_false, Bool.and_false, Bool.and_true]]⟩
            have df2 : decide ((r.freq : Int) = 2) = false := decide_eq_false (by omega)
            have nf2 : decide (r.freq = 2) = false := decide_eq_false (by omega)
            simp only [go_sem, he, gp, k1, k2, k3, k4, k5, k6, k10, df0, da, db, dc, df2]
            exact ⟨⟨_, rfl⟩, by rw [show g7 r = false by unfold g7; simp only [nf0, na, nb, nc, nf2, Bool.true_or, Bool.or_true, Bool.false_or, Bool.true_and, Bool.false_and, Bool.not_false, Bool.not_true, Bool.or_false, Bool.and_false, Bool.and_true]]⟩
          have dc : decide (0 < (r.monthDay.length : Int)) = false := decide_eq_false (by omega)
          have nc : decide (0 < r.monthDay.length) = false := decide_eq_false (by omega)
          simp only [go_sem, he, gp, k1, k2, k3, k4, k5, k6, k10, df0, da, db, dc]
          exact ⟨⟨_, rfl⟩, by rw [show g7 r = false by unfold g7; simp only [nf0, na, nb, nc, Bool.true_or, Bool.or_true, Bool.false_or, Bool.true_and, Bool.false_and, Bool.not_false, Bool.not_true, Bool.or_false, Bool.and_false, Bool.and_true]]⟩
        have db : decide (0 < (r.easter.length : Int)) = false := decide_eq_false (by omega)
        have nb : decide (0 < r.easter.length) = false := decide_eq_false (by omega)
        by_cases cc : 0 < r.monthDay.length
        · have dc : decide (0 < (r.monthDay.length : Int)) = true := decide_eq_true (by omega)
          have nc : decide (0 < r.monthDay.length) = true := decide_eq_true (by omega)
          by_cases cf2 : r.freq = 2
          · have df2 : decide ((r.freq : Int) = 2) = true := decide_eq_true (by omega)
            have nf2 : decide (r.freq = 2) = true := decide_eq_true (by omega)
            simp only [go_sem, he, gp, k1, k2, k3, k4, k5, k6, k10, df0, da, db, dc, df2]
            exact ⟨⟨_, rfl⟩, by rw [show g7 r = true by unfold g7; simp only [nf0, na, nb, nc, nf2, Bool.true_or, Bool.or_true, Bool.false_or, Bool.true_and, Bool.false_and, Bool.not_false, Bool.not_true, Bool.or_false, Bool.and_false, Bool.and_true]]⟩
          have df2 : decide ((r.freq : Int) = 2) = false := decide_eq_false (by omega)
          have nf2 : decide (r.freq = 2) = false := decide_eq_false (by omega)
          simp only [go_sem, he, gp, k1, k2, k3, k4, k5, k6, k10, df0, da, db, dc, df2]
          exact ⟨⟨_, rfl⟩, by rw [show g7 r = false by unfold g7; simp only [nf0, na, nb, nc, nf2, Bool.true_or, Bool.or_true, Bool.false_or, Bool.true_and, Bool.false_and, Bool.not_false, Bool.not_true, Bool.or_false, Bool.and_false, Bool.and_true]]⟩
        have dc : decide (0 < (r.monthDay.length : Int)) = false := decide_eq_false (by omega)
        have nc : decide (0 < r.monthDay.length) = false := decide_eq_false (by omega)
        simp only [go_sem, he, gp, k1, k2, k3, k4, k5, k6, k10, df0, da, db, dc]
        exact ⟨⟨_, rfl⟩, by rw [show g7 r = false by unfold g7; simp only [nf0, na, nb, nc, Bool.true_or, Bool.or_true, Bool.false_or, Bool.true_and, Bool.false_and, Bool.not_false, Bool.not_true, Bool.or_false, Bool.and_false, Bool.and_true]]⟩
      have da : decide (0 < (r.weekNo.length : Int)) = false := decide_eq_false (by omega)
      have na : decide (0 < r.weekNo.length) = false := decide_eq_false (by omega)
      by_cases cb : 0 < r.easter.length
      · have db : decide (0 < (r.easter.length : Int)) = true := decide_eq_true (by omega)
        have nb : decide (0 < r.easter.length) = true := decide_eq_true (by omega)
        by_cases cc : 0 < r.monthDay.length
        · have dc : decide (0 < (r.monthDay.length : Int)) = true := decide_eq_true (by omega)
          have nc : decide (0 < r.monthDay.length) = true := decide_eq_true (by omega)
          by_cases cf2 : r.freq = 2
          · have df2 : decide ((r.freq : Int) = 2) = true := decide_eq_true (by omega)
            have nf2 : decide (r.freq = 2) = true := decide_eq_true (by omega)
            simp only [go_sem, he, gp, k1, k2, k3, k4, k5, k6, k10, df0, da, db, dc, df2]
            exact ⟨⟨_, rfl⟩, by rw [show g7 r = true by unfold g7; simp only [nf0, na, nb, nc, nf2, Bool.true_or, Bool.or_true, Bool.false_or, Bool.true_and, Bool.false_and, Bool.not_false, Bool.not_true, Bool.or_false, Bool.and_false, Bool.and_true]]⟩
          have df2 : decide ((r.freq : Int) = 2) = false := decide_eq_false (by omega)
          have nf2 : decide (r.freq = 2) = false := decide_eq_false (by omega)
          simp only [go_sem, he, gp, k1, k2, k3, k4, k5, k6, k10, df0, da, db, dc, df2]
          exact ⟨⟨_, rfl⟩, by rw [show g7 r = false by unfold g7; simp only [nf0, na, nb, nc, nf2, Bool.true_or, Bool.or_true, Bool.false_or, Bool.true_and, Bool.false_and, Bool.not_false, Bool.not_true, Bool.or_false, Bool.and_false, Bool.and_true]]⟩
        have dc : decide (0 < (r.monthDay.length : Int)) = false := decide_eq_false (by omega)
        have nc : decide (0 < r.monthDay.length) = false := decide_eq_false (by omega)
        simp only [go_sem, he, gp, k1, k2, k3, k4, k5, k6, k10, df0, da, db, dc]
        exact ⟨⟨_, rfl⟩, by rw [show g7 r = false by unfold g7; simp only [nf0, na, nb, nc, Bool.true_or, Bool.or_true, Bool.false_or, Bool.true_and, Bool.false_and, Bool.not_false, Bool.not_true, Bool.or_false, Bool.and_false, Bool.and_true]]⟩
      have db : decide (0 < (r.easter.length : Int)) = false := decide_eq_false (by omega)
      have nb : decide (0 < r.easter.length) = false := decide_eq_false (by omega)
      by_cases cc : 0 < r.monthDay.length
      · have dc : decide (0 < (r.monthDay.length : Int)) = true := decide_eq_true (by omega)
        have nc : decide (0 < r.monthDay.length) = true := decide_eq_true (by omega)
        by_cases cf2 : r.freq = 2
        · have df2 : decide ((r.freq : Int) = 2) = true := decide_eq_true (by omega)
          have nf2 : decide (r.freq = 2) = true := decide_eq_true (by omega)
          simp only [go_sem, he, gp, k1, k2, k3, k4, k5, k6, k10, df0, da, db, dc, df2]
          exact ⟨⟨_, rfl⟩, by rw [show g7 r = true by unfold g7; simp only [nf0, na, nb, nc, nf2, Bool.true_or, Bool.or_true, Bool.false_or, Bool.true_and, Bool.false_and, Bool.not_false, Bool.not_true, Bool.or_false, Bool.and_false, Bool.and_true]]⟩
        have df2 : decide ((r.freq : Int) = 2) = false := decide_eq_false (by omega)
        have nf2 : decide (r.freq = 2) = false := decide_eq_false (by omega)
        simp only [go_sem, he, gp, k1, k2, k3, k4, k5, k6, k10, df0, da, db, dc, df2]
        exact ⟨⟨_, rfl⟩, by rw [show g7 r = false by unfold g7; simp only [nf0, na, nb, nc, nf2, Bool.true_or, Bool.or_true, Bool.false_or, Bool.true_and, Bool.false_and, Bool.not_false, Bool.not_true, Bool.or_false, Bool.and_false, Bool.and_true]]⟩
      have dc : decide (0 < (r.monthDay.length : Int)) = false := decide_eq_false (by omega)
      have nc : decide (0 < r.monthDay.length) = false := decide_eq_false (by omega)
      simp only [go_sem, he, gp, k1, k2, k3, k4, k5, k6, k10, df0, da, db, dc]
      exact ⟨⟨_, rfl⟩, by rw [show g7 r = false by unfold g7; simp only [nf0, na, nb, nc, Bool.true_or, Bool.or_true, Bool.false_or, Bool.true_and, Bool.false_and, Bool.not_false, Bool.not_true, Bool.or_false, Bool.and_false, Bool.and_true]]⟩
    have df0 : decide ((r.freq : Int) = 0) = false := decide_eq_false (by omega)
    have nf0 : decide (r.freq = 0) = false := decide_eq_false (by omega)
    by_cases ca : 0 < r.weekNo.length
    · have da : decide (0 < (r.weekNo.length : Int)) = true := decide_eq_true (by omega)
      have na : decide (0 < r.weekNo.length) = true := decide_eq_true (by omega)
      by_cases cb : 0 < r.easter.length
      · have db : decide (0 < (r.easter.length : Int)) = true := decide_eq_true (by omega)
        have nb : decide (0 < r.easter.length) = true := decide_eq_true (by omega)
        by_cases cc : 0 < r.monthDay.length
        · have dc : decide (0 < (r.monthDay.length : Int)) = true := decide_eq_true (by omega)
          have nc : decide (0 < r.monthDay.length) = true := decide_eq_true (by omega)
          simp only [go_sem, he, gp, k1, k2, k3, k4, k5, k6, k10, df0, da, db, dc]
          exact ⟨⟨_, rfl⟩, by rw [show g7 r = true by unfold g7; simp only [nf0, na, nb, nc, Bool.true_or, Bool.or_true, Bool.false_or, Bool.true_and, Bool.false_and, Bool.not_false, Bool.not_true, Bool.or_false, Bool.and_false, Bool.and_true]]⟩
        have dc : decide (0 < (r.monthDay.length : Int)) = false := decide_eq_false (by omega)
        have nc : decide (0 < r.monthDay.length) = false := decide_eq_false (by omega)
        simp only [go_sem, he, gp, k1, k2, k3, k4, k5, k6, k10, df0, da, db, dc]
        exact ⟨⟨_, rfl⟩, by rw [show g7 r = true by unfold g7; simp only [nf0, na, nb, nc, Bool.true_or, Bool.or_true, Bool.false_or, Bool.true_and, Bool.false_and, Bool.not_false, Bool.not_true, Bool.or_false, Bool.and_false, Bool.and_true]]⟩
      have db : decide (0 < (r.easter.length : Int)) = false := decide_eq_false (by omega)
      have nb : decide (0 < r.easter.length) = false := decide_eq_false (by omega)
      by_cases cc : 0 < r.monthDay.length
      · have dc : decide (0 < (r.monthDay.length : Int)) = true := decide_eq_true (by omega)
        have nc : decide (0 < r.monthDay.length) = true := decide_eq_true (by omega)
        simp only [go_sem, he, gp, k1, k2, k3, k4, k5, k6, k10, df0, da, db, dc]
        exact ⟨⟨_, rfl⟩, by rw [show g7 r = true by unfold g7; simp only [nf0, na, nb, nc, Bool.true_or, Bool.or_true, Bool.false_or, Bool.true_and, Bool.false_and, Bool.not_false, Bool.not_true, Bool.or_false, Bool.and_false, Bool.and_true]]⟩
      have dc : decide (0 < (r.monthDay.length : Int)) = false := decide_eq_false (by omega)
      have nc : decide (0 < r.monthDay.length) = false := decide_eq_false (by omega)
      simp only [go_sem, he, gp, k1, k2, k3, k4, k5, k6, k10, df0, da, db, dc]
      exact ⟨⟨_, rfl⟩, by rw [show g7 r = true by unfold g7; simp only [nf0, na, nb, nc, Bool.true_or, Bool.or_true, Bool.false_or, Bool.true_and, Bool.false_and, Bool.not_false, Bool.not_true, Bool.or_false, Bool.and_false, Bool.and_true]]⟩
    have da : decide (0 < (r.weekNo.length : Int)) = false := decide_eq_false (by omega)
    have na : decide (0 < r.weekNo.length) = false := decide_eq_false (by omega)
    by_cases cb : 0 < r.easter.length
    · have db : decide (0 < (r.easter.length : Int)) = true := decide_eq_true (by omega)
      have nb : decide (0 < r.easter.length) = true := decide_eq_true (by omega)
      by_cases cc : 0 < r.monthDay.length
      · have dc : decide (0 < (r.monthDay.length : Int)) = true := decide_eq_true (by omega)
        have nc : decide (0 < r.monthDay.length) = true := decide_eq_true (by omega)
        simp only [go_sem, he, gp, k1, k2, k3, k4, k5, k6, k10, df0, da, db, dc]
        exact ⟨⟨_, rfl⟩, by rw [show g7 r = true by unfold g7; simp only [nf0, na, nb, nc, Bool.true_or, Bool.or_true, Bool.false_or, Bool.true_and, Bool.false_and, Bool.not_false, Bool.not_true, Bool.or_false, Bool.and_false, Bool.and_true]]⟩
      have dc : decide (0 < (r.monthDay.length : Int)) = false := decide_eq_false (by omega)
      have nc : decide (0 < r.monthDay.length) = false := decide_eq_false (by omega)
      simp only [go_sem, he, gp, k1, k2, k3, k4, k5, k6, k10, df0, da, db, dc]
      exact ⟨⟨_, rfl⟩, by rw [show g7 r = true by unfold g7; simp only [nf0, na, nb, nc, Bool.true_or, Bool.or_true, Bool.false_or, Bool.true_and, Bool.false_and, Bool.not_false, Bool.not_true, Bool.or_false, Bool.and_false, Bool.and_true]]⟩
    have db : decide (0 < (r.easter.length : Int)) = false := decide_eq_false (by omega)
    have nb : decide (0 < r.easter.length) = false := decide_eq_false (by omega)
    by_cases cc : 0 < r.monthDay.length
    · have dc : decide (0 < (r.monthDay.length : Int)) = true := decide_eq_true (by omega)
      have nc : decide (0 < r.monthDay.length) = true := decide_eq_true (by omega)
      by_cases cf2 : r.freq = 2
      · have df2 : decide ((r.freq : Int) = 2) = true := decide_eq_true (by omega)
        have nf2 : decide (r.freq = 2) = true := decide_eq_true (by omega)
        simp only [go_sem, he, gp, k1, k2, k3, k4, k5, k6, k10, df0, da, db, dc, df2]
        exact ⟨⟨_, rfl⟩, by rw [show g7 r = true by unfold g7; simp only [nf0, na, nb, nc, nf2, Bool.true_or, Bool.or_true, Bool.false_or, Bool.true_and, Bool.false_and, Bool.not_false, Bool.not_true, Bool.or_false, Bool.and_false, Bool.and_true]]⟩
      have df2 : decide ((r.freq : Int) = 2) = false := decide_eq_false (by omega)
      have nf2 : decide (r.freq = 2) = false := decide_eq_false (by omega)
      simp only [go_sem, he, gp, k1, k2, k3, k4, k5, k6, k10, df0, da, db, dc, df2]
      exact ⟨⟨_, rfl⟩, by rw [show g7 r = false by unfold g7; simp only [nf0, na, nb, nc, nf2, Bool.true_or, Bool.or_true, Bool.false_or, Bool.true_and, Bool.false_and, Bool.not_false, Bool.not_true, Bool.or_false, Bool.and_false, Bool.and_true]]⟩
    have dc : decide (0 < (r.monthDay.length : Int)) = false := decide_eq_false (by omega)
    have nc : decide (0 < r.monthDay.length) = false := decide_eq_false (by omega)
    simp only [go_sem, he, gp, k1, k2, k3, k4, k5, k6, k10, df0, da, db, dc]
    exact ⟨⟨_, rfl⟩, by rw [show g7 r = false by unfold g7; simp only [nf0, na, nb, nc, Bool.true_or, Bool.or_true, Bool.false_or, Bool.true_and, Bool.false_and, Bool.not_false, Bool.not_true, Bool.or_false, Bool.and_false, Bool.and_true]]⟩
  rintro e h ⟨⟨G, rfl⟩, he, gp, gt⟩
  simp only [go_sem, he, gp, gt, k4]
  refine condK_of (fun hq => ?_) fun hq => ?_
  · simp only [go_sem, he, gp, gt]
    rw [clean_g7 hq]
    exact ⟨rfl, _, rfl⟩
  rename g7 r = false => q7
  simp only [go_sem, he, gp, gt, k4]
  refine guardK_join (fun e h => (∃ G, h = H ++ AObj.own 25 [vU r.freq, vB r.hasStart, vI r.start, vI r.interval, vI r.wkst, vI r.count, vB r.hasUntil, vI r.til, x.setPos, x.month, x.monthDay, x.yearDay, x.weekNo, x.day, x.hour, x.minute, x.second, x.easter] :: G) ∧ len e = 264 ∧ AL.get e 1 = .ptr H.length 0 ∧ AL.get e 255 = vB (g8 r)) ?_ ?_
  · by_cases cy : 0 < r.yearDay.length
    · have dy : decide (0 < (r.yearDay.length : Int)) = true := decide_eq_true (by omega)
      have ny : decide (0 < r.yearDay.length) = true := decide_eq_true (by omega)
      by_cases cf1 : r.freq = 1
      · have df1 : decide ((r.freq : Int) = 1) = true := decide_eq_true (by omega)
        have nf1 : decide (r.freq = 1) = true := decide_eq_true (by omega)
        simp only [go_sem, he, gp, k1, k2, k3, k4, k5, k6, k10, dy, df1]
        exact ⟨⟨_, rfl⟩, by rw [show g8 r = true by unfold g8; simp only [ny, nf1, Bool.true_or, Bool.or_true, Bool.false_or, Bool.true_and, Bool.false_and, Bool.not_false, Bool.not_true, Bool.or_false, Bool.and_false, Bool.and_true]]⟩
      have df1 : decide ((r.freq : Int) = 1) = false := decide_eq_false (by omega)
      have nf1 : decide (r.freq = 1) = false := decide_eq_false (by omega)
      by_cases cf2 : r.freq = 2
      · have df2 : decide ((r.freq : Int) = 2) = true := decide_eq_true (by omega)
        have nf2 : decide (r.freq = 2) = true := decide_eq_true (by omega)
        simp only [go_sem, he, gp, k1, k2, k3, k4, k5, k6, k10, dy, df1, df2]
        exact ⟨⟨_, rfl⟩, by rw [show g8 r = true by unfold g8; simp only [ny, nf1, nf2, Bool.true_or, Bool.or_true, Bool.false_or, Bool.true_and, Bool.false_and, Bool.not_false, Bool.not_true, Bool.or_false, Bool.and_false, Bool.and_true]]⟩
      have df2 : decide ((r.freq : Int) = 2) = false := decide_eq_false (by omega)
      have nf2 : decide (r.freq = 2) = false := decide_eq_false (by omega)
      by_cases cf3 : r.freq = 3
      · have df3 : decide ((r.freq : Int) = 3) = true := decide_eq_true (by omega)
        have nf3 : decide (r.freq = 3) = true := decide_eq_true (by omega)
        simp only [go_sem, he, gp, k1, k2, k3, k4, k5, k6, k10, dy, df1, df2, df3]
        exact ⟨⟨_, rfl⟩, by rw [show g8 r = true by unfold g8; simp only [ny, nf1, nf2, nf3, Bool.true_or, Bool.or_true, Bool.false_or, Bool.true_and, Bool.false_and, Bool.not_false, Bool.not_true, Bool.or_false, Bool.and_false, Bool.and_true]]⟩
      have df3 : decide ((r.freq : Int) = 3) = false := decide_eq_false (by omega)
      have nf3 : decide (r.freq = 3) = false := decide_eq_false (by omega)
      simp only [go_sem, he, gp, k1, k2, k3, k4, k5, k6, k10, dy, df1, df2, df3]
      exact ⟨⟨_, rfl⟩, by rw [show g8 r = false by unfold g8; simp only [ny, nf1, nf2, nf3, Bool.true_or, Bool.or_true, Bool.false_or, Bool.true_and, Bool.false_and, Bool.not_false, Bool.not_true, Bool.or_false, Bool.and_false, Bool.and_true]]⟩
    have dy : decide (0 < (r.yearDay.length : Int)) = false := decide_eq_false (by omega)
    have ny : decide (0 < r.yearDay.length) = false := decide_eq_false (by omega)
    simp only [go_sem, he, gp, k1, k2, k3, k4, k5, k6, k10, dy]
    exact ⟨⟨_, rfl⟩, by rw [show g8 r = false by unfold g8; simp only [ny, Bool.true_or, Bool.or_true, Bool.false_or, Bool.true_and, Bool.false_and, Bool.not_false, Bool.not_true, Bool.or_false, Bool.and_false, Bool.and_true]]⟩
  rintro e h ⟨⟨G, rfl⟩, he, gp, gt⟩
  simp only [go_sem, he, gp, gt]
  refine condK_of (fun hq => ?_) fun hq => ?_
  · simp only [go_sem, he, gp, gt]
    rw [clean_g8 hq]
    exact ⟨rfl, _, rfl⟩
  rename g8 r = false => q8
  have hfin : clean r = (decide (r.setPos.length = 0) || parted r) := by unfold clean; simp only [q1, q2, q3, q4, q5', q6, q7, q8, Bool.not_false, Bool.true_and]
  by_cases hs : r.setPos.length = 0
  · have ds : decide ((r.setPos.length : Int) = 0) = true := decide_eq_true (by omega)
    simp only [go_sem, he, gp, gt, k1, ds]
    rw [hfin, decide_eq_true hs]
    exact ⟨rfl, _, rfl⟩
  have ds : decide ((r.setPos.length : Int) = 0) = false := decide_eq_false (by omega)
  simp only [go_sem, he, gp, gt, k1, ds]
  refine callX_of (parted_A r x hl _ (hx.more _)) (List.prefix_refl _) ?_
  simp only [go_sem, he, gp, gt, setD_some]
  rw [hfin, decide_eq_false hs, Bool.false_or]
  exact ⟨rfl, _, rfl⟩
end Go.Proofs.YtlfpjdcogkcjlaaGreatDoor.F
/- Arguments opened: slices and structs as objects of the abstract heap. -/
namespace Go.Proofs.YtlfpjdcogkcjlaaGreatDoor.F
open Go.ChangeShapes Go.WideShapes Go.RowKit Go.Deep Go.Proofs.YtlfpjdcogkcjlaaGreatDoor.AL Go.Proofs.YtlfpjdcogkcjlaaGreatDoor.B
set_option linter.unusedVariables false
def InSl (W : World) (v : Value) (n st : Nat) (cell : Nat → Value) : Prop :=
  (v = .slice none 0 0 ∧ n = 0) ∨ ∃ a cap, v = .slice (some a) n cap ∧ n ≤ cap ∧ cap ≤ 9223372036854775807 ∧ ∀ i, i < cap * st → W.cell? (a.add i) = some (cell i)
/-- A value that comes in as an object. -/
structure Obj1 (W : World) (v : Value) (x : Nat → AV) (pl : Nat × Nat) (ob : AObj) : Prop where
  rel : ∀ (o : Nat) (m : Places), m[o]? = some pl → AL.rel m W (x o) v
  relO : ∀ m : Places, AL.relO (CB W) m W pl ob
  mine : ob.mine = false
theorem cell_block {W : World} {a : Addr} {v : Value} (h : W.cell? a = some v) : ∃ arr e fr, W.heap[a.block]? = some (.cells arr e fr) ∧ arr[a.off]? = some v := by
  have hs := World.cell?_spot h
  unfold World.cell? at h
  split at h
  · rename_i c e fr hc
    rw [hs] at h
    exact ⟨c, e, fr, hc, by simpa using h⟩
  · cases h
theorem inSl_obj {W : World} {v : Value} {n st : Nat} {cell : Nat → Value} (hst : 0 < st) (h : InSl W v n st cell) (hW : 0 < W.heap.size) :
    ∃ (x : Nat → AV) (pl : Nat × Nat) (ob : AObj), Obj1 W v x pl ob ∧ ∀ (o : Nat) (H : Heap), H[o]? = some ob → SlOf H (x o) n st fun i => .val (cell i) := by
  rcases h with ⟨rfl, rfl⟩ | ⟨a, cap, rfl, hn, hc, hcell⟩
  · exact ⟨fun _ => .val (.slice none 0 0), (0, 0), .gone, ⟨fun _ _ _ => rfl, fun _ => trivial, rfl⟩, fun _ _ _ => .inl ⟨rfl, rfl⟩⟩
  · rcases Nat.eq_zero_or_pos cap with h0 | h0
    · subst h0
      obtain rfl : n = 0 := by omega
      refine ⟨fun o => .sl false o 0 0 st, (0, 0), .ro [], ⟨fun o m hm => ⟨(0, 0), a, 0, hm, rfl, Nat.le_refl _, by omega, fun h => absurd h (by omega), fun h => by cases h⟩, fun m => ⟨hW, fun j c hj => by simp at hj⟩, rfl⟩, fun o H ho => ?_⟩
      exact .inr ⟨false, o, 0, [], rfl, by rw [ho]; rfl, fun i hi => absurd hi (by omega)⟩
    · have hpos : 0 < cap * st := Nat.mul_pos h0 hst
      have hc0 := hcell 0 hpos
      have hsp := World.cell?_spot hc0
      obtain ⟨b, off, spot⟩ := a
      have e0 : (⟨b, off, spot⟩ : Addr).add 0 = ⟨b, off, spot⟩ := rfl
      rw [e0] at hsp hc0
      simp only at hsp
      subst hsp
      have ea : ∀ j, (⟨b, off, none⟩ : Addr).add j = ⟨b, off + j, none⟩ := by
        intro j
        unfold Addr.add
        split
        · rename_i hj; subst hj; rfl
        · rfl
      obtain ⟨arr, e, fr, hb, _⟩ := cell_block hc0
      simp only at hb
      have hlt : b < W.heap.size := (Array.getElem?_eq_some_iff.1 hb).1
      have hroom : off + cap * st ≤ arr.size := by
        have h1 := hcell (cap * st - 1) (by omega)
        rw [ea] at h1
        obtain ⟨arr', e', fr', hb', h2⟩ := cell_block h1
        simp only at hb' h2
        rw [hb] at hb'
        simp only [Option.some.injEq, Obj.cells.injEq] at hb'
        obtain ⟨rfl, rfl, rfl⟩ := hb'
        have := (Array.getElem?_eq_some_iff.1 h2).1
        omega
      refine ⟨fun o => .sl false o 0 n st, (b, off), .ro ((List.range (cap * st)).map fun i => .val (cell i)), ⟨fun o m hm => ⟨(b, off), ⟨b, off, none⟩, cap, hm, rfl, hn, hc, fun _ => ⟨rfl, arr, e, fr, hb, hroom⟩, fun h => by cases h⟩, fun m => ⟨hlt, fun j c hj => ?_⟩, rfl⟩, fun o H ho => ?_⟩
      · have hjl : j < cap * st := by
          have := (List.getElem?_eq_some_iff.1 hj).1
          simpa using this
        simp only [List.getElem?_map, List.getElem?_range hjl, Option.map_some, Option.some.injEq] at hj
        subst hj
        have := hcell j hjl
        rw [ea] at this
        exact ⟨_, this, rfl⟩
      · refine .inr ⟨false, o, 0, _, rfl, by rw [ho]; rfl, fun i hi => ?_⟩
        have hil : i < cap * st := Nat.lt_of_lt_of_le hi (Nat.mul_le_mul_right _ hn)
        rw [Nat.zero_add, List.getElem?_map, List.getElem?_range hil]
        rfl
theorem SlOf.congr {H : Heap} {x : AV} {n st : Nat} {c c' : Nat → AV} (h : SlOf H x n st c) (he : ∀ i, i < n * st → c i = c' i) : SlOf H x n st c' := by
  rcases h with h | ⟨own, o, off, cs, h1, h2, h3⟩
  · exact .inl h
  · exact .inr ⟨own, o, off, cs, h1, h2, fun i hi => by rw [h3 i hi, he i hi]⟩
theorem wf_range {n : Int} (h : (Lit.int .i64 n).wf = true) : -9223372036854775808 ≤ n ∧ n ≤ 9223372036854775807 := by
  have e : (Lit.int .i64 n).wf = (decide (-9223372036854775808 ≤ n) && decide (n ≤ 9223372036854775807)) := rfl
  rw [e] at h
  simpa using h
theorem wf_range8 {n : Int} (h : (Lit.int .u8 n).wf = true) : 0 ≤ n ∧ n ≤ 255 := by
  have e : (Lit.int .u8 n).wf = (decide (0 ≤ n) && decide (n ≤ 255)) := rfl
  rw [e] at h
  simpa using h
section
variable {H : Type} {enc : TypeId × Value → H} {P : Program} {W : World}
def numV : Value → Int
  | .int _ n => n
  | _ => 0
theorem ints_obj {t e : TypeId} {fuel : Nat} {v : Value} {y : DataW H × List MemPlace} (ht : P.underlying t = some (.slice e)) (he : P.underlying e = some (.int .i64)) (hc : P.cellsOf e = 1) (hW : 0 < W.heap.size)
    (h : DataW.trod enc P W 0 (fun _ => true) true fuel t [v] = some y) :
    ∃ (x : Nat → AV) (pl : Nat × Nat) (ob : AObj) (l : List Int), Obj1 W v x pl ob ∧ (∀ (o : Nat) (H : Heap), H[o]? = some ob → IntsAt H (x o) l) ∧ ∀ n ∈ l, -9223372036854775808 ≤ n ∧ n ≤ 9223372036854775807 := by
  rcases open_ints ht he hc h with ⟨hcs, _⟩ | ⟨a, len, cap, zs, hcs, _, hl, hm, hz, _, hcell, hw⟩
  · simp only [List.cons.injEq, and_true] at hcs
    obtain ⟨x, pl, ob, h1, h2⟩ := inSl_obj (W := W) (v := v) (n := 0) (st := 1) (cell := fun _ => .bool false) (by omega) (.inl ⟨hcs, rfl⟩) hW
    exact ⟨x, pl, ob, [], h1, fun o H ho => (h2 o H ho).congr (fun i hi => absurd hi (by omega)), fun n hn => by cases hn⟩
  · simp only [List.cons.injEq, and_true] at hcs
    simp only [if_true] at hz
    obtain ⟨x, pl, ob, h1, h2⟩ := inSl_obj (W := W) (v := v) (n := len) (st := 1) (cell := fun i => .int .i64 (zs.getD i 0)) (by omega) (.inr ⟨a, cap, hcs, hl, hm, fun i hi => hcell i (by omega)⟩) hW
    have hlen : (zs.take len).length = len := by rw [List.length_take]; omega
    refine ⟨x, pl, ob, zs.take len, h1, fun o H ho => ?_, fun n hn => wf_range (hw n (List.mem_of_mem_take hn))⟩
    unfold IntsAt
    rw [hlen]
    refine (h2 o H ho).congr fun i hi => ?_
    have : (zs.take len).getD i 0 = zs.getD i 0 := by
      rw [List.getD_eq_getElem?_getD, List.getD_eq_getElem?_getD, List.getElem?_take_of_lt (by omega)]
    rw [this]
theorem days_obj {t e : TypeId} {f0 f1 : Field} {fuel : Nat} {v : Value} {y : DataW H × List MemPlace} (ht : P.underlying t = some (.slice e)) (he : P.underlying e = some (.struct #[f0, f1])) (ce : P.cellsOf e = 2) (o0 : f0.offset = 0) (o1 : f1.offset = 1)
    (c0 : P.cellsOf f0.type = 1) (c1 : P.cellsOf f1.type = 1) (t0 : P.underlying f0.type = some (.int .i64)) (t1 : P.underlying f1.type = some (.int .i64)) (hW : 0 < W.heap.size)
    (h : DataW.trod enc P W 0 (fun _ => true) true fuel t [v] = some y) :
    ∃ (x : Nat → AV) (pl : Nat × Nat) (ob : AObj) (l : List (Int × Int)), Obj1 W v x pl ob ∧ (∀ (o : Nat) (H : Heap), H[o]? = some ob → DaysAt H (x o) l) ∧
      ∀ d ∈ l, (-9223372036854775808 ≤ d.1 ∧ d.1 ≤ 9223372036854775807) ∧ (-9223372036854775808 ≤ d.2 ∧ d.2 ≤ 9223372036854775807) := by
  rcases open_slice_pairs ht he ce o0 o1 c0 c1 h with ⟨hcs, _⟩ | ⟨a, len, cap, m, n, V0, V1, D0, D1, P0, P1, hcs, _, hl, hm, hz, _, hcell⟩
  · simp only [List.cons.injEq, and_true] at hcs
    obtain ⟨x, pl, ob, h1, h2⟩ := inSl_obj (W := W) (v := v) (n := 0) (st := 2) (cell := fun _ => .bool false) (by omega) (.inl ⟨hcs, rfl⟩) hW
    exact ⟨x, pl, ob, [], h1, fun o H ho => (h2 o H ho).congr (fun i hi => absurd hi (by omega)), fun n hn => by cases hn⟩
  · simp only [List.cons.injEq, and_true] at hcs
    simp only [if_true] at hz
    subst hz
    have each : ∀ i, i < m → W.cell? (a.add (i * 2)) = some (.int .i64 (numV (V0 i))) ∧ W.cell? (a.add (i * 2 + 1)) = some (.int .i64 (numV (V1 i))) ∧ (Lit.int .i64 (numV (V0 i))).wf = true ∧ (Lit.int .i64 (numV (V1 i))).wf = true := by
      intro i hi
      obtain ⟨h1, h2, h3, h4⟩ := hcell i hi
      obtain ⟨n0, e0, _, w0⟩ := DataW.trod_int t0 h3
      obtain ⟨n1, e1, _, w1⟩ := DataW.trod_int t1 h4
      simp only [List.cons.injEq, and_true] at e0 e1
      rw [e0] at h1 ⊢
      rw [e1] at h2 ⊢
      exact ⟨h1, h2, w0, w1⟩
    obtain ⟨x, pl, ob, h1, h2⟩ := inSl_obj (W := W) (v := v) (n := len) (st := 2) (cell := fun i => .int .i64 (if i % 2 = 0 then numV (V0 (i / 2)) else numV (V1 (i / 2)))) (by omega) (.inr ⟨a, m, hcs, hl, hm, fun i hi => by
      obtain ⟨k1, k2, _⟩ := each (i / 2) (by omega)
      show W.cell? (a.add i) = some (Value.int .i64 (if i % 2 = 0 then numV (V0 (i / 2)) else numV (V1 (i / 2))))
      split
      · rename_i hp
        rw [show i / 2 * 2 = i by omega] at k1
        exact k1
      · rename_i hp
        rw [show i / 2 * 2 + 1 = i by omega] at k2
        exact k2⟩) hW
    have hlen : ((List.range len).map fun i => (numV (V0 i), numV (V1 i))).length = len := by simp
    refine ⟨x, pl, ob, (List.range len).map fun i => (numV (V0 i), numV (V1 i)), h1, fun o H ho => ?_, fun d hd => ?_⟩
    · unfold DaysAt
      rw [hlen]
      refine (h2 o H ho).congr fun i hi => ?_
      have : ((List.range len).map fun i => (numV (V0 i), numV (V1 i))).getD (i / 2) (0, 0) = (numV (V0 (i / 2)), numV (V1 (i / 2))) := by
        rw [List.getD_eq_getElem?_getD, List.getElem?_map, List.getElem?_range (by omega)]
        rfl
      rw [this]
      split <;> rfl
    · obtain ⟨i, hi, rfl⟩ := List.mem_map.1 hd
      obtain ⟨_, _, w0, w1⟩ := each i (by have := List.mem_range.1 hi; omega)
      exact ⟨wf_range w0, wf_range w1⟩
theorem open_fields {r : Reach} {b0 : Nat} {t : TypeId} {fs : Array Field} {v : Value} {d : DataW H} {p : List MemPlace} (hs : P.underlying t = some (.struct fs)) (hone : oneCellFields P fs = true) (hC : P.cellsOf t = fs.size) (hv : Value.okWide P W r b0 t v) (h : DataW.Trod enc P W 0 (fun _ => true) true t v d p) :
    ∃ l : List Value, v = .agg ⟨l⟩ ∧ l.length = fs.size ∧ ∃ n, ∀ (i : Nat) (f : Field) (c : Value), fs[i]? = some f → l[i]? = some c → ∃ y, DataW.trod enc P W 0 (fun _ => true) true n f.type [c] = some y := by
  obtain ⟨cs, rfl, hsz⟩ := okWide_struct hs hv
  obtain ⟨l⟩ := cs
  obtain ⟨fuel, hf⟩ := h
  obtain ⟨xs, n, _, _, _, hxl, hg⟩ := DataW.trod_struct hs hf
  refine ⟨l, rfl, hsz.trans hC, n, fun i f c hi hc => ?_⟩
  obtain ⟨ho, hk⟩ := hone_of hone i f hi
  have h1 := hg i f hi
  have hil : i < xs.length := by
    have := (Array.getElem?_eq_some_iff.1 hi).1
    omega
  have hcl := (List.getElem?_eq_some_iff.1 hc).1
  rw [ho, hk, List.getElem?_eq_getElem hil] at h1
  have e1 : (((Value.agg ⟨l⟩).cells).toList.drop i).take 1 = [c] := by
    show (l.drop i).take 1 = [c]
    rw [List.drop_eq_getElem_cons hcl, (List.getElem?_eq_some_iff.1 hc).2]
    rfl
  rw [e1] at h1
  exact ⟨_, h1⟩
end
end Go.Proofs.YtlfpjdcogkcjlaaGreatDoor.F
/- What the row's list gives; the heap in which a law begins. -/
namespace Go.Proofs.YtlfpjdcogkcjlaaGreatDoor.F
open Go.ChangeShapes Go.WideShapes Go.RowKit Go.Deep Go.Proofs.YtlfpjdcogkcjlaaGreatDoor.AL Go.Proofs.YtlfpjdcogkcjlaaGreatDoor.B
set_option linter.unusedVariables false
set_option maxRecDepth 100000
theorem laid_mem {P : Program} {w : World} : ∀ {l : List (String × DataW Unit)} {ps : List MemPlace}, DataW.LaidVars P w l ps → ∀ (n : String) (d : DataW Unit), (n, d) ∈ l → ∃ g t cs fuel p, P.globalNamed n = some g ∧ (P.globals[g]?).map (·.type) = some t ∧ w.var? P n = some cs ∧ DataW.trod (fun _ => ()) P w 0 (fun _ => true) false fuel t cs.toList = some (d, p)
  | [], _, _, _, _, h => by cases h
  | (n', d') :: r, ps, h, n, d, hm => by
    obtain ⟨g, t, cs, fuel, p, q, h1, h2, h3, h4, h5, e⟩ := h
    rcases List.mem_cons.1 hm with he | hm
    · cases he
      exact ⟨g, t, cs, fuel, p, h1, h2, h3, h4⟩
    · exact laid_mem h5 n d hm
theorem laid_at {W : World} (h : laidMetH Tryz.prog laid W) (i : Nat) (n : String) (d : DataW Unit) (hi : laid[i]? = some (n, d)) {g : Nat} {t : TypeId} (hg : Tryz.prog.globalNamed n = some g) (ht : (Tryz.prog.globals[g]?).map (·.type) = some t) :
    ∃ cs fuel p, W.var? Tryz.prog n = some cs ∧ DataW.trod (fun _ => ()) Tryz.prog W 0 (fun _ => true) false fuel t cs.toList = some (d, p) := by
  rw [MakeChecks.laidMetH_plain _ _ _ (by kernel_rfl)] at h
  obtain ⟨ps, hv, _⟩ := h
  obtain ⟨g', t', cs, fuel, p, h1, h2, h3, h4⟩ := laid_mem hv n d (List.mem_of_getElem? hi)
  obtain rfl := Option.some.inj (hg.symm.trans h1)
  obtain rfl := Option.some.inj (ht.symm.trans h2)
  exact ⟨cs, fuel, p, h3, h4⟩
theorem laid_tab {W : World} (h : laidMetH Tryz.prog laid W) (i : Nat) (n : String) {k : IntKind} {zs : List Int} (hi : laid[i]? = some (n, Lib.tabData k zs)) {g : Nat} {t e : TypeId} {m : Nat} (hg : Tryz.prog.globalNamed n = some g) (ht : (Tryz.prog.globals[g]?).map (·.type) = some t)
    (hu : Tryz.prog.underlying t = some (.array m e)) (he : Tryz.prog.underlying e = some (.int k)) (hce : Tryz.prog.cellsOf e = 1) (hct : Tryz.prog.cellsOf t = m) : Lib.TabIs Tryz.prog W n k zs := by
  obtain ⟨cs, fuel, p, h3, h4⟩ := laid_at h i n _ hi hg ht
  unfold Lib.TabIs
  rw [h3, ← Lib.cells_of_tab hu he hce hct h4]
theorem c84 : Tryz.prog.cellsOf 84 = 2 := by kernel_rfl
theorem c3 : Tryz.prog.cellsOf 3 = 1 := by kernel_rfl
theorem laid_day {W : World} (h : laidMetH Tryz.prog laid W) (i : Nat) (n : String) {a b : Int} (hi : laid[i]? = some (n, .agg [.lit (.int .i64 a), .lit (.int .i64 b)])) {g : Nat} (hg : Tryz.prog.globalNamed n = some g) (ht : (Tryz.prog.globals[g]?).map (·.type) = some 84) :
    W.cell? ⟨g, 0, none⟩ = some (.int .i64 a) ∧ W.cell? ⟨g, 1, none⟩ = some (.int .i64 b) := by
  obtain ⟨cs, fuel, p, h3, h4⟩ := laid_at h i n _ hi hg ht
  obtain ⟨y0, y1, m, e, hl, r0, r1⟩ := trod_struct2 Tryz.underlying84 h4
  obtain ⟨n0, e0, f0, _⟩ := DataW.trod_int Tryz.underlying3 r0
  obtain ⟨n1, e1, f1, _⟩ := DataW.trod_int Tryz.underlying3 r1
  subst f0; subst f1
  simp only [Prod.mk.injEq, DataW.agg.injEq, List.cons.injEq, DataW.lit.injEq, Lit.int.injEq, true_and, and_true] at e
  obtain ⟨⟨rfl, rfl⟩, _⟩ := e
  rw [World.var?_cell hg h3, World.var?_cell hg h3]
  obtain ⟨l⟩ := cs
  rw [c84] at hl
  match l, hl with
  | [v0, v1], _ =>
    have k3 : Tryz.prog.cellsOf 3 = 1 := c3
    simp only [k3, List.drop_zero, List.take_succ_cons, List.take_zero, List.cons.injEq, and_true] at e0
    simp only [k3, List.drop_succ_cons, List.drop_zero, List.take_succ_cons, List.take_zero, List.cons.injEq, and_true] at e1
    subst e0; subst e1
    exact ⟨rfl, rfl⟩
theorem trod_err {P : Program} {w : World} {t : TypeId} {ms : Array (String × TypeId)} {fuel : Nat} {cs : List Value} {x : DataW Unit × List MemPlace} (ht : P.underlying t = some (.interface ms)) (h : DataW.trod (fun _ => ()) P w 0 (fun _ => true) false fuel t cs = some x) :
    ∃ ev, cs = [ev] ∧ (ev = .nilIface ∨ ∃ te pe, ev = .iface te pe) := by
  cases fuel with
  | zero => simp [DataW.trod] at h
  | succ n =>
    unfold DataW.trod at h
    rw [ht] at h
    split at h <;> simp_all
theorem laid_err {W : World} (h : laidMetH Tryz.prog laid W) (i : Nat) (n : String) {d : DataW Unit} (hi : laid[i]? = some (n, d)) {g : Nat} (hg : Tryz.prog.globalNamed n = some g) (ht : (Tryz.prog.globals[g]?).map (·.type) = some 67) :
    ∃ ev, W.cell? ⟨g, 0, none⟩ = some ev ∧ (ev = .nilIface ∨ ∃ te pe, ev = .iface te pe) := by
  obtain ⟨cs, fuel, p, h3, h4⟩ := laid_at h i n _ hi hg ht
  obtain ⟨ev, e, hev⟩ := trod_err Tryz.underlying67 h4
  refine ⟨ev, ?_, hev⟩
  rw [World.var?_cell hg h3]
  obtain ⟨l⟩ := cs
  simp only at e
  subst e
  rfl
theorem glob_of {W : World} (h : laidMetH Tryz.prog laid W) : Glob W where
  ascii := laid_tab h 7 _ (by kernel_rfl) gAscii (t := 172) (by kernel_rfl) Tryz.underlying172 Tryz.underlying5 (by kernel_rfl) (by kernel_rfl)
  pow := laid_tab h 2 _ (by kernel_rfl) gPow (t := 211) (by kernel_rfl) Tryz.underlying211 (by kernel_rfl) (by kernel_rfl) (by kernel_rfl)
  errR := laid_err h 4 "strconv.ErrRange" (d := Rows.laid_strconv_ErrRange) (by kernel_rfl) (by kernel_rfl) (by kernel_rfl)
  errS := laid_err h 5 "strconv.ErrSyntax" (d := Rows.laid_strconv_ErrSyntax) (by kernel_rfl) (by kernel_rfl) (by kernel_rfl)
  mo := laid_day h 8 "pub-hebdomad/pub/rrule.MO" (by kernel_rfl) (by kernel_rfl) (by kernel_rfl)
  tu := laid_day h 9 "pub-hebdomad/pub/rrule.TU" (by kernel_rfl) (by kernel_rfl) (by kernel_rfl)
  we := laid_day h 10 "pub-hebdomad/pub/rrule.WE" (by kernel_rfl) (by kernel_rfl) (by kernel_rfl)
  th := laid_day h 11 "pub-hebdomad/pub/rrule.TH" (by kernel_rfl) (by kernel_rfl) (by kernel_rfl)
  fr := laid_day h 12 "pub-hebdomad/pub/rrule.FR" (by kernel_rfl) (by kernel_rfl) (by kernel_rfl)
  sa := laid_day h 13 "pub-hebdomad/pub/rrule.SA" (by kernel_rfl) (by kernel_rfl) (by kernel_rfl)
  su := laid_day h 14 "pub-hebdomad/pub/rrule.SU" (by kernel_rfl) (by kernel_rfl) (by kernel_rfl)
/-- The objects of the variables and their places. -/
def vars19 : List (AObj × (Nat × Nat)) := [(.ro [vI 0, vI 0], (0, 0)), (.gone, (1, 0)), (.ro [vI 1, vI 0], (2, 0)), (.ro [vI 2, vI 0], (3, 0)), (.ro [vI 3, vI 0], (4, 0)), (.ro [vI 4, vI 0], (5, 0)), (.ro [vI 5, vI 0], (6, 0)), (.ro [vI 6, vI 0], (7, 0)),
  (.gone, (8, 0)), (.gone, (9, 0)), (.gone, (10, 0)), (.gone, (11, 0)), (.gone, (12, 0)), (.gone, (13, 0)), (.gone, (14, 0)), (.gone, (15, 0)), (.gone, (16, 0)), (.gone, (17, 0)), (.gone, (18, 0))]
def heapOf (L : List (AObj × (Nat × Nat))) : Heap := (vars19 ++ L).map (·.1)
def placesOf (L : List (AObj × (Nat × Nat))) : Places := (vars19 ++ L).map (·.2)
theorem heapOf_GH (L : List (AObj × (Nat × Nat))) : GH (heapOf L) := ⟨rfl, rfl, rfl, rfl, rfl, rfl, rfl⟩
theorem ro_day {W : World} {b : Nat} {a c : Int} (h : W.cell? ⟨b, 0, none⟩ = some (.int .i64 a) ∧ W.cell? ⟨b, 1, none⟩ = some (.int .i64 c)) (m : Places) : relO (CB W) m W (b, 0) (.ro [vI a, vI c]) := by
  obtain ⟨arr, e, fr, hb, _⟩ := cell_block h.1
  refine ⟨(Array.getElem?_eq_some_iff.1 hb).1, fun j v hj => ?_⟩
  match j with
  | 0 =>
    simp only [List.getElem?_cons_zero, Option.some.injEq] at hj
    subst hj
    exact ⟨_, h.1, rfl⟩
  | 1 =>
    simp only [List.getElem?_cons_succ, List.getElem?_cons_zero, Option.some.injEq] at hj
    subst hj
    exact ⟨_, h.2, rfl⟩
  | j + 2 => simp at hj
theorem heap_rep {W : World} (hG : Glob W) (L : List (AObj × (Nat × Nat))) (hL : ∀ p ∈ L, (∀ m : Places, relO (CB W) m W p.2 p.1) ∧ p.1.mine = false) : RepH (CB W) (placesOf L) W (heapOf L) := by
  have hall : ∀ p ∈ vars19 ++ L, (∀ m : Places, relO (CB W) m W p.2 p.1) ∧ p.1.mine = false := by
    intro p hp
    rcases List.mem_append.1 hp with hp | hp
    · simp only [vars19, List.mem_cons, List.mem_nil_iff, or_false] at hp
      rcases hp with rfl | rfl | rfl | rfl | rfl | rfl | rfl | rfl | rfl | rfl | rfl | rfl | rfl | rfl | rfl | rfl | rfl | rfl | rfl
      · exact ⟨ro_day hG.mo, rfl⟩
      · exact ⟨fun _ => trivial, rfl⟩
      · exact ⟨ro_day hG.tu, rfl⟩
      · exact ⟨ro_day hG.we, rfl⟩
      · exact ⟨ro_day hG.th, rfl⟩
      · exact ⟨ro_day hG.fr, rfl⟩
      · exact ⟨ro_day hG.sa, rfl⟩
      · exact ⟨ro_day hG.su, rfl⟩
      all_goals exact ⟨fun _ => trivial, rfl⟩
    · exact hL p hp
  have hget : ∀ (o : Nat) x b, (heapOf L)[o]? = some x → (placesOf L)[o]? = some b → (x, b) ∈ vars19 ++ L := by
    intro o x b h1 h2
    unfold heapOf at h1
    unfold placesOf at h2
    rw [List.getElem?_map] at h1 h2
    cases hk : (vars19 ++ L)[o]? with
    | none => rw [hk] at h1; cases h1
    | some p =>
      rw [hk] at h1 h2
      simp only [Option.map_some, Option.some.injEq] at h1 h2
      subst h1; subst h2
      exact List.mem_of_getElem? hk
  exact {
    below := Below.refl _ _
    size := Nat.le_refl _
    len := by unfold placesOf heapOf; simp
    glob := fun g hg => by
      have : g < 19 := hg
      have e : ∀ g, g < 19 → (vars19.map (·.2))[g]? = some (g, 0) := by decide
      unfold placesOf
      rw [List.map_append, List.getElem?_append_left (by show g < 19; exact this)]
      exact e g this
    obj := fun o x b h1 h2 => (hall _ (hget o x b h1 h2)).1 _
    apart := fun o o' x x' b b' _ h1 h2 h3 h4 hm => by
      have := (hall _ (hget o x b h1 h3)).2
      simp only at this
      rw [this] at hm
      cases hm }
theorem heapOf_get {L : List (AObj × (Nat × Nat))} {k : Nat} {p : AObj × (Nat × Nat)} (h : L[k]? = some p) : (heapOf L)[19 + k]? = some p.1 ∧ (placesOf L)[19 + k]? = some p.2 := by
  have : (vars19 ++ L)[19 + k]? = some p := by
    rw [List.getElem?_append_right (by show 19 ≤ 19 + k; omega)]
    show L[19 + k - 19]? = _
    rw [show 19 + k - 19 = k by omega, h]
  unfold heapOf placesOf
  rw [List.getElem?_map, List.getElem?_map, this]
  exact ⟨rfl, rfl⟩
end Go.Proofs.YtlfpjdcogkcjlaaGreatDoor.F
/- Rules that fit, bare rules, a rule's text in its own order. -/
namespace Go.Proofs.YtlfpjdcogkcjlaaGreatDoor.F
open Go.RowKit Go.Proofs.YtlfpjdcogkcjlaaGreatDoor.AL Go.Proofs.YtlfpjdcogkcjlaaGreatDoor.B
set_option linter.unusedVariables false
set_option linter.unusedSimpArgs false
set_option maxRecDepth 20000
attribute [local irreducible] aops acode bindK bindV bindH callX callK condK guardK Kseq Kblk Knorm Kfun Kloop Kjoin outK AWp appendA
attribute [local go_sem] acode_skip acode_seq acode_region acode_cond acode_block acode_exit acode_ret acode_loop Kseq_normal Kseq_exit Kseq_ret Kblk_normal Kblk_ret Kblk_eq Kblk_ne Knorm_eq Kloop_normal Kloop_exit Kloop_ret Kjoin_normal Kjoin_exit Kjoin_ret condK_true condK_false bindK_put bindV_put bindK_no bindV_no bindH_no aops_nil gops wantK_some wantV_bool wantV_undef guardK_true guardK_false guardK_none aops_move aops_assign aops_pick aops_nilCheck aops_binOp aops_unOp aops_convert aops_fieldAddr aops_indexAddr aops_slice aops_index aops_extract aops_makeInterface aops_makeFunc aops_build aops_load aops_lookup aops_alloc aops_box aops_buildSlice aops_makeSlice aops_makeMap aops_store aops_insert aops_mapUpdate aops_len aops_append aops_call opA_tmp opA_const opA_global opA_func get_mk look_nil look_eq look_ne len_mk List.map_cons List.map_nil Option.map_some Option.map_none bin_add bin_sub bin_mul bin_quo bin_rem bin_eql bin_neq bin_lss bin_leq bin_gtr bin_geq bin_cat bin_seql bin_sneq bin_neq_ifc bin_eql_ifc bin_neq_nn bin_eql_nn bin_neq_ptr bin_eql_ptr bin_neq_pn isIfc_true isPtr_true bin_eql2 bin_neq2 aops_max max_int un_not un_neg lenA_K lenK_str lenK_nil lenK_sl lenK_array pick_bool pick_val bindV_ite bindK_ite bindH_ite slotV_sl slotK_some slotV_ptr slotR_some sliceV_sl cutK_some sliceV_str cutS_some bound_none bound_some indexA_str atS_some mkS fieldV_ptr loadV_ptr cellsK_ro cellsK_own loadK_one loadK_many storeA_ptr storeK_own allocA_some heap_len heap_get0 heap_get heap_set0 heap_set Kfun_ret Kfun_normal resA_nil resA_tmp resA_cell outK_some packA_one packA_nil packA_two List.length_cons List.length_nil List.getElem?_cons_zero List.getElem?_cons_succ List.set_cons_zero List.set_cons_succ List.cons_append List.nil_append List.append_assoc Nat.zero_add Nat.add_zero List.all_cons List.all_nil Value.oneCell' Bool.and_true Bool.and_self if_true if_false Bool.false_eq_true partsA buildV buildA fillA Option.bind_some putCells List.drop_succ_cons List.drop_zero List.take_succ_cons List.take_zero List.take_nil List.drop_nil and_self and_true true_and Option.some.injEq ne_eq not_false_eq_true Option.map_map List.getElem?_toArray beq_self_eq_true Bool.true_beq Bool.false_beq Bool.not_true Bool.not_false decide_true decide_false beq_true Nat.mul_one Nat.one_mul Nat.zero_mul bsA buildSliceA zerosN List.append_nil Int.toNat_natCast Int.toNat_zero boxA one_val one_ptr one_sl one_mp one_ifc one_fn avCells_agg avCells_val valCells_true valCells_agg avCells_ptr avCells_sl avCells_mp avCells_ifc avCells_fn app_cons app_nil lookupA insertA ifaceV extractA kd2 ars127 fp127 ars60 fp60 ars31 fp31 eq2_99 eq2_84 eq2_47 fp52 sz2 kd3 sz3 kd4 sz4 kd5 sz5 kd9 sz9 kd22 sz22 el22 kd23 sz23 el23 kd25 sz25 zc25 fp25 fo25_0 fo25_1 fo25_2 fo25_3 fo25_4 fo25_5 fo25_6 fo25_7 fo25_8 fo25_9 fo25_10 fo25_11 fo25_12 fo25_13 fo25_14 fo25_15 fo25_16 fo25_17 kd31 sz31 zc31 ar31 kd32 sz32 el32 kd34 sz34 zc34 fp34 fo34_0 fo34_1 fo34_2 fo34_3 fo34_4 fo34_5 fo34_6 fo34_7 fo34_8 fo34_9 fo34_10 fo34_11 fo34_12 fo34_13 fo34_14 fo34_15 fo34_16 fo34_17 el38 el42 kd47 sz47 zc47 fp47 fo47_0 fo47_1 kd52 sz52 zc52 fo52_0 el55 zc60 kd72 sz72 zc72 fp72 fo72_0 fo72_1 el73 isStrMap76 zv4 kd80 sz80 kd84 sz84 zc84 fp84 fo84_0 fo84_1 kd88 sz88 zc88 fp88 fo88_0 fo88_1 fo88_2 fo88_3 kd91 sz91 zc91 fp91 fo91_0 fo91_1 fo91_2 el94 kd99 sz99 zc99 fp99 fo99_0 fo99_1 kd100 sz100 el100 kd102 sz102 zc102 fp102 fo102_0 fo102_1 fo102_2 fo102_3 fo102_4 fo102_5 fo102_6 fo102_7 fo102_8 fo102_9 fo102_10 fo102_11 fo102_12 fo102_13 fo102_14 fo102_15 kd109 sz109 zc109 fp109 isStrMap124 zv80 zc127 kd153 sz153 zc153 ar153 isIface157 kd159 sz159 zc159 fp159 isStrMap177 zv84 Tryz.underlying3 Tryz.underlying4 Tryz.underlying5 Tryz.underlying9 Tryz.underlying21 Tryz.underlying22 Tryz.underlying23 Tryz.underlying32 Tryz.underlying38 Tryz.underlying42 Tryz.underlying47 Tryz.underlying55 Tryz.underlying67 Tryz.underlying73 Tryz.underlying80 Tryz.underlying84 Tryz.underlying94 Tryz.underlying100 Tryz.underlying2 Tryz.underlying127 Tryz.underlying60 Tryz.underlying31
attribute [local go_sem_proc] Nat.reduceLT Nat.reduceBEq Nat.reduceAdd Int.reduceBEq Nat.reduceLeDiff reduceIte Nat.reduceEqDiff Int.reduceEq Int.reduceLE Int.reduceLT Int.reduceNe Nat.reduceMul Nat.reduceSub Int.reduceToNat
def mostLen : Nat := 2147483647
def fits (r : Ru) : Bool := !(decide (mostLen < r.setPos.length) || decide (mostLen < r.month.length) || decide (mostLen < r.monthDay.length) || decide (mostLen < r.yearDay.length) || decide (mostLen < r.weekNo.length) || decide (mostLen < r.day.length) || decide (mostLen < r.hour.length) || decide (mostLen < r.minute.length) || decide (mostLen < r.second.length) || decide (mostLen < r.easter.length))
theorem fits_len {r : Ru} (h : fits r = true) : RuLen r := by
  unfold fits at h
  simp only [Bool.not_eq_true', Bool.or_eq_false_iff, decide_eq_false_iff_not] at h
  obtain ⟨⟨⟨⟨⟨⟨⟨⟨⟨h1, h2⟩, h3⟩, h4⟩, h5⟩, h6⟩, h7⟩, h8⟩, h9⟩, h10⟩ := h
  unfold mostLen at *
  constructor <;> omega
theorem zzFits1_A {w0 : World} (r : Ru) (x : Rs) (H : Heap) (hx : RuAt H r x) : ACalls Tryz.prog (CB w0) 11 [.agg (ruCells r x)] H fun v H' => v = vB (fits r) ∧ H' = H := by
  refine ACalls.flat rfl ?_
  refine A_fun (N := 43) (rs := [.tmp 2]) Tryz.func11 rfl rfl rfl (by kernel_rfl) (by kernel_rfl) (Nat.le_of_ble_eq_true rfl) ?_
  rintro e he ⟨g0, -⟩
  have k1 := hx.setPos.len 3
  have k2 := hx.month.len 3
  have k3 := hx.monthDay.len 3
  have k4 := hx.yearDay.len 3
  have k5 := hx.weekNo.len 3
  have k6 := hx.day.len 47
  have k7 := hx.hour.len 3
  have k8 := hx.minute.len 3
  have k9 := hx.second.len 3
  have k10 := hx.easter.len 3
  unfold ruCells at g0
  have hd : ∀ (n : Nat), decide ((2147483647 : Int) < (n : Int)) = decide (mostLen < n) := fun n => decide_eq_decide.2 (by unfold mostLen; omega)
  unfold fits
  simp only [go_sem, he, g0, hx.setPos.one, hx.month.one, hx.monthDay.one, hx.yearDay.one, hx.weekNo.one, hx.day.one, hx.hour.one, hx.minute.one, hx.second.one, hx.easter.one, k1, k2, k3, k4, k5, k6, k7, k8, k9, k10, hd]
  cases c0 : decide (mostLen < r.setPos.length) with
  | true =>
    simp only [go_sem, he, k1, k2, k3, k4, k5, k6, k7, k8, k9, k10, hd, c0, Bool.true_or, Bool.or_true]
    first | exact ⟨_, rfl⟩ | exact ⟨rfl, _, rfl⟩
  | false =>
  simp only [go_sem, he, k1, k2, k3, k4, k5, k6, k7, k8, k9, k10, hd, c0]
  cases c1 : decide (mostLen < r.month.length) with
  | true =>
    simp only [go_sem, he, k1, k2, k3, k4, k5, k6, k7, k8, k9, k10, hd, c1, Bool.true_or, Bool.or_true]
    first | exact ⟨_, rfl⟩ | exact ⟨rfl, _, rfl⟩
  | false =>
  simp only [go_sem, he, k1, k2, k3, k4, k5, k6, k7, k8, k9, k10, hd, c1]
  cases c2 : decide (mostLen < r.monthDay.length) with
  | true =>
    simp only [go_sem, he, k1, k2, k3, k4, k5, k6, k7, k8, k9, k10, hd, c2, Bool.true_or, Bool.or_true]
    first | exact ⟨_, rfl⟩ | exact ⟨rfl, _, rfl⟩
  | false =>
  simp only [go_sem, he, k1, k2, k3, k4, k5, k6, k7, k8, k9, k10, hd, c2]
  cases c3 : decide (mostLen < r.yearDay.length) with
  | true =>
    simp only [go_sem, he, k1, k2, k3, k4, k5, k6, k7, k8, k9, k10, hd, c3, Bool.true_or, Bool.or_true]
    first | exact ⟨_, rfl⟩ | exact ⟨rfl, _, rfl⟩
  | false =>
  simp only [go_sem, he, k1, k2, k3, k4, k5, k6, k7, k8, k9, k10, hd, c3]
  cases c4 : decide (mostLen < r.weekNo.length) with
  | true =>
    simp only [go_sem, he, k1, k2, k3, k4, k5, k6, k7, k8, k9, k10, hd, c4, Bool.true_or, Bool.or_true]
    first | exact ⟨_, rfl⟩ | exact ⟨rfl, _, rfl⟩
  | false =>
  simp only [go_sem, he, k1, k2, k3, k4, k5, k6, k7, k8, k9, k10, hd, c4]
  cases c5 : decide (mostLen < r.day.length) with
  | true =>
    simp only [go_sem, he, k1, k2, k3, k4, k5, k6, k7, k8, k9, k10, hd, c5, Bool.true_or, Bool.or_true]
    first | exact ⟨_, rfl⟩ | exact ⟨rfl, _, rfl⟩
  | false =>
  simp only [go_sem, he, k1, k2, k3, k4, k5, k6, k7, k8, k9, k10, hd, c5]
  cases c6 : decide (mostLen < r.hour.length) with
  | true =>
    simp only [go_sem, he, k1, k2, k3, k4, k5, k6, k7, k8, k9, k10, hd, c6, Bool.true_or, Bool.or_true]
    first | exact ⟨_, rfl⟩ | exact ⟨rfl, _, rfl⟩
  | false =>
  simp only [go_sem, he, k1, k2, k3, k4, k5, k6, k7, k8, k9, k10, hd, c6]
  cases c7 : decide (mostLen < r.minute.length) with
  | true =>
    simp only [go_sem, he, k1, k2, k3, k4, k5, k6, k7, k8, k9, k10, hd, c7, Bool.true_or, Bool.or_true]
    first | exact ⟨_, rfl⟩ | exact ⟨rfl, _, rfl⟩
  | false =>
  simp only [go_sem, he, k1, k2, k3, k4, k5, k6, k7, k8, k9, k10, hd, c7]
  cases c8 : decide (mostLen < r.second.length) with
  | true =>
    simp only [go_sem, he, k1, k2, k3, k4, k5, k6, k7, k8, k9, k10, hd, c8, Bool.true_or, Bool.or_true]
    first | exact ⟨_, rfl⟩ | exact ⟨rfl, _, rfl⟩
  | false =>
  simp only [go_sem, he, k1, k2, k3, k4, k5, k6, k7, k8, k9, k10, hd, c8]
  cases c9 : decide (mostLen < r.easter.length) with
  | true =>
    simp only [go_sem, he, k1, k2, k3, k4, k5, k6, k7, k8, k9, k10, hd, c9, Bool.true_or, Bool.or_true]
    first | exact ⟨_, rfl⟩ | exact ⟨rfl, _, rfl⟩
  | false =>
  simp only [go_sem, he, k1, k2, k3, k4, k5, k6, k7, k8, k9, k10, hd, c9]
  first | exact ⟨_, rfl⟩ | exact ⟨rfl, _, rfl⟩
/-- A rule without its start. -/
def bare (r : Ru) : Ru := { r with hasStart := false, start := 0, til := if r.hasUntil then r.til else 0 }
def bareOk (r : Ru) : Bool := clean r && !(r.hasUntil && decide (r.til = 0))
def bareR (r : Ru) (x : Rs) : AV := if bareOk r then .tup [.agg (ruCells (bare r) x), vB true] else .tup [.agg (ruCells r x), vB false]
theorem textBare_A {w0 : World} (r : Ru) (x : Rs) (hl : RuLen r) (hn : RuNum r) (H : Heap) (hx : RuAt H r x) : ACalls Tryz.prog (CB w0) 12 [.agg (ruCells r x)] H fun v H' => v = bareR r x ∧ ∃ G, H' = H ++ G := by
  refine A_fun (N := 24) (rs := [.cell 2 25, .tmp 3]) Tryz.func12 rfl rfl rfl (by kernel_rfl) (by kernel_rfl) (Nat.le_of_ble_eq_true rfl) ?_
  rintro e he ⟨g0, -⟩
  have g0' := g0
  unfold ruCells at g0
  simp only [go_sem, he, g0, hx.setPos.one, hx.month.one, hx.monthDay.one, hx.yearDay.one, hx.weekNo.one, hx.day.one, hx.hour.one, hx.minute.one, hx.second.one, hx.easter.one]
  refine callX_of (clean_A r x hl hn _ (hx.more _)) (List.prefix_refl _) ?_
  unfold bareR bareOk
  cases hc : clean r with
  | false =>
    simp only [go_sem, he, setD_some, Bool.true_and, hx.setPos.one, hx.month.one, hx.monthDay.one, hx.yearDay.one, hx.weekNo.one, hx.day.one, hx.hour.one, hx.minute.one, hx.second.one, hx.easter.one, Bool.false_and]
    exact ⟨rfl, _, rfl⟩
  | true =>
    cases hu : r.hasUntil with
    | false =>
      simp only [go_sem, he, setD_some, Bool.true_and, hx.setPos.one, hx.month.one, hx.monthDay.one, hx.yearDay.one, hx.weekNo.one, hx.day.one, hx.hour.one, hx.minute.one, hx.second.one, hx.easter.one, Bool.false_and, hu]
      refine ⟨?_, _, rfl⟩
      simp only [ruCells, bare, hu, Bool.false_eq_true, if_false]
    | true =>
      cases ht : decide (r.til = 0) with
      | true =>
        simp only [go_sem, he, setD_some, Bool.true_and, hx.setPos.one, hx.month.one, hx.monthDay.one, hx.yearDay.one, hx.weekNo.one, hx.day.one, hx.hour.one, hx.minute.one, hx.second.one, hx.easter.one, Bool.false_and, hu, ht]
        exact ⟨by simp only [ruCells, hu], _, rfl⟩
      | false =>
        simp only [go_sem, he, setD_some, Bool.true_and, hx.setPos.one, hx.month.one, hx.monthDay.one, hx.yearDay.one, hx.weekNo.one, hx.day.one, hx.hour.one, hx.minute.one, hx.second.one, hx.easter.one, Bool.false_and, hu, ht]
        refine ⟨?_, _, rfl⟩
        simp only [ruCells, bare, hu, if_true]

theorem within_spec {l : List Int} {most low high : Int} {zero : Bool} (h : within l most low high zero = true) : (l.length : Int) ≤ most ∧ (∀ n ∈ l, low ≤ n ∧ n ≤ high ∧ (zero = false → n ≠ 0)) ∧ ∀ (i : Nat) n, l[i]? = some n → n ∉ l.take i := by
  unfold within at h
  rw [Bool.and_eq_true] at h
  obtain ⟨h1, h2⟩ := h
  have key : ∀ (i : Nat) n, l[i]? = some n → ¬ n < low ∧ ¬ high < n ∧ ¬ (n = 0 ∧ zero = false) ∧ n ∉ l.take i := by
    intro i n hi
    have hlt := (List.getElem?_eq_some_iff.1 hi).1
    have h3 := List.all_eq_true.1 h2 i (List.mem_range.2 hlt)
    have hg : l.getD i 0 = n := by rw [List.getD_eq_getElem?_getD, hi]; rfl
    unfold withinAt at h3
    rw [hg] at h3
    simp only [Bool.not_eq_true', Bool.or_eq_false_iff, decide_eq_false_iff_not, Bool.and_eq_false_iff, Bool.not_eq_false'] at h3
    obtain ⟨⟨⟨a, b⟩, c⟩, d⟩ := h3
    refine ⟨a, b, ?_, ?_⟩
    · rintro ⟨rfl, hz⟩
      rcases c with c | c
      · exact c rfl
      · rw [hz] at c; cases c
    · intro hm
      rw [List.contains_iff_mem.2 hm] at d
      cases d
  refine ⟨of_decide_eq_true h1, fun n hn => ?_, fun i n hi => (key i n hi).2.2.2⟩
  obtain ⟨i, hi⟩ := List.getElem?_of_mem hn
  obtain ⟨a, b, c, _⟩ := key i n hi
  exact ⟨by omega, by omega, fun hz h0 => c ⟨h0, hz⟩⟩
theorem within_ok {l : List Int} {most low high : Int} {zero : Bool} (h : within l most low high zero = true) (hm : most ≤ 12) (h0 : -1000 ≤ low) (h1 : high ≤ 1000) : IntsOk l := by
  obtain ⟨a, b, _⟩ := within_spec h
  exact ⟨by omega, fun n hn => by have := b n hn; omega⟩
/-- What a clean rule says. -/
structure CleanP (r : Ru) : Prop where
  freq : r.freq ≤ 6
  hasStart : r.hasStart = true
  start : 31536000 ≤ r.start ∧ r.start < 284012524800
  interval : 0 ≤ r.interval ∧ r.interval ≤ 1000
  wkst : 0 ≤ r.wkst ∧ r.wkst ≤ 6
  count : 0 ≤ r.count ∧ r.count ≤ 1000
  til : r.hasUntil = true → r.start ≤ r.til ∧ r.til < 315537897600
  setPos : within r.setPos 12 (-366) 366 false = true
  month : within r.month 12 1 12 false = true
  monthDay : within r.monthDay 12 (-31) 31 false = true
  yearDay : within r.yearDay 12 (-366) 366 false = true
  weekNo : within r.weekNo 12 (-53) 53 false = true
  hour : within r.hour 12 0 23 true = true
  minute : within r.minute 12 0 59 true = true
  second : within r.second 12 0 59 true = true
  easter : within r.easter 12 (-80) 80 true = true
  dayLen : r.day.length ≤ 12
  day : ∀ (i : Nat) d, r.day[i]? = some d → d ∉ r.day.take i ∧ 0 ≤ d.1 ∧ d.1 ≤ 6 ∧ -mostOf r ≤ d.2 ∧ d.2 ≤ mostOf r
  many : max 1 (r.hour.length : Int) * max 1 (r.minute.length : Int) * max 1 (r.second.length : Int) ≤ 60
  weekYear : 0 < r.weekNo.length → r.freq = 0
  easterYear : 0 < r.easter.length → r.freq = 0
  monthDayWeek : 0 < r.monthDay.length → r.freq ≠ 2
  yearDayFreq : 0 < r.yearDay.length → r.freq ≠ 1 ∧ r.freq ≠ 2 ∧ r.freq ≠ 3
  pos : 0 < r.setPos.length → parted r = true
theorem clean_spec {r : Ru} (h : clean r = true) : CleanP r := by
  unfold clean at h
  simp only [Bool.and_eq_true, Bool.not_eq_true'] at h
  obtain ⟨⟨⟨⟨⟨⟨⟨⟨q1, q2⟩, q3⟩, q4⟩, q5⟩, q6⟩, q7⟩, q8⟩, q9⟩ := h
  unfold g1 at q1
  simp only [Bool.or_eq_false_iff, decide_eq_false_iff_not, Bool.not_eq_false'] at q1
  obtain ⟨⟨⟨⟨⟨⟨⟨⟨⟨a1, a2⟩, a3⟩, a4⟩, a5⟩, a6⟩, a7⟩, a8⟩, a9⟩, a10⟩ := q1
  unfold g3 at q3
  simp only [Bool.or_eq_false_iff, Bool.not_eq_false'] at q3
  obtain ⟨⟨⟨⟨b1, b2⟩, b3⟩, b4⟩, b5⟩ := q3
  unfold g4 at q4
  simp only [Bool.or_eq_false_iff, Bool.not_eq_false', decide_eq_false_iff_not] at q4
  obtain ⟨⟨⟨⟨c1, c2⟩, c3⟩, c4⟩, c5⟩ := q4
  unfold g6 at q6
  rw [Bool.not_eq_false'] at q6
  unfold g7 at q7
  simp only [Bool.or_eq_false_iff, Bool.and_eq_false_iff, decide_eq_false_iff_not, Bool.not_eq_false', decide_eq_true_eq] at q7
  unfold g8 at q8
  simp only [Bool.or_eq_false_iff, Bool.and_eq_false_iff, decide_eq_false_iff_not] at q8
  unfold g5 at q5
  simp only [decide_eq_false_iff_not] at q5
  refine ⟨by omega, a2, by omega, by omega, by omega, by omega, fun hu => ?_, b1, b2, b3, b4, b5, c1, c2, c3, c4, by omega, fun i d hi => ?_, by omega, fun hh => ?_, fun hh => ?_, fun hh => ?_, fun hh => ?_, fun hh => ?_⟩
  · unfold g2 at q2
    simp only [hu, Bool.true_and, Bool.or_eq_false_iff, decide_eq_false_iff_not] at q2
    omega
  · have hlt := (List.getElem?_eq_some_iff.1 hi).1
    have h3 := List.all_eq_true.1 q6 i (List.mem_range.2 hlt)
    have hg : r.day.getD i (0, 0) = d := by rw [List.getD_eq_getElem?_getD, hi]; rfl
    unfold dayAt at h3
    rw [hg] at h3
    simp only [Bool.and_eq_true, Bool.not_eq_true', Bool.or_eq_false_iff, decide_eq_false_iff_not] at h3
    obtain ⟨d1, ⟨⟨d2, d3⟩, d4⟩, d5⟩ := h3
    refine ⟨fun hm => ?_, by omega, by omega, by omega, by omega⟩
    rw [List.contains_iff_mem.2 hm] at d1
    cases d1
  · rcases q7.1.1 with e | e
    · exact absurd hh e
    · exact e
  · rcases q7.1.2 with e | e
    · exact absurd hh e
    · exact e
  · rcases q7.2 with e | e
    · exact absurd hh e
    · exact e
  · rcases q8 with e | e
    · exact absurd hh e
    · exact ⟨e.1.1, e.1.2, e.2⟩
  · rcases Bool.or_eq_true_iff.1 q9 with e | e
    · have := of_decide_eq_true e; omega
    · exact e
theorem clean_ok {r : Ru} (h : CleanP r) : RuOk (bare r) := by
  have hm := mostOf_bound r
  refine ⟨h.freq, h.wkst, ⟨h.interval.1, ?_⟩, ⟨h.count.1, ?_⟩, ?_, within_ok h.setPos (by omega) (by omega) (by omega), within_ok h.month (by omega) (by omega) (by omega), within_ok h.monthDay (by omega) (by omega) (by omega), within_ok h.yearDay (by omega) (by omega) (by omega), within_ok h.weekNo (by omega) (by omega) (by omega), ⟨?_, ?_⟩, within_ok h.hour (by omega) (by omega) (by omega), within_ok h.minute (by omega) (by omega) (by omega), within_ok h.second (by omega) (by omega) (by omega), within_ok h.easter (by omega) (by omega) (by omega)⟩
  · have := h.interval; show r.interval ≤ _; omega
  · have := h.count; show r.count ≤ _; omega
  · show 0 ≤ (if r.hasUntil then r.til else 0) ∧ (if r.hasUntil then r.til else 0) ≤ _
    have hs := h.start
    split
    · rename_i hu
      have := h.til hu
      omega
    · omega
  · have := h.dayLen; show r.day.length ≤ _; omega
  · intro d hd
    obtain ⟨i, hi⟩ := List.getElem?_of_mem (show d ∈ r.day from hd)
    obtain ⟨_, e1, e2, e3, e4⟩ := h.day i d hi
    exact ⟨e1, e2, by omega, by omega⟩
/-- The parts of a rule's text. -/
def parts (r : Ru) : List (List UInt8) := pFreq r ++ pUntil r ++ pCount r ++ pInterval r ++ pNine r ⟨vNil, vNil, vNil, vNil, vNil, vNil, vNil, vNil, vNil, vNil⟩ ++ pDay r ++ pWkst r
theorem pNine_same (r : Ru) (x y : Rs) : pNine r x = pNine r y := rfl
theorem parts_length {r : Ru} : (parts r).length ≤ 15 ∧ 0 < (parts r).length := by
  have h1 := pUntil_len r
  have h2 := pCount_len r
  have h3 := pInterval_len r
  have h4 := pDay_len r
  have h5 : (pWkst r).length ≤ 1 := by unfold pWkst; split <;> simp
  have h6 : (pNine r ⟨vNil, vNil, vNil, vNil, vNil, vNil, vNil, vNil, vNil, vNil⟩).length ≤ 9 := by
    unfold pNine nine
    simp only [List.flatMap_cons, List.flatMap_nil, List.length_append, List.length_nil]
    have := fun p => pOne_length p
    have e : ∀ p, (pOne p).length ≤ 1 := pOne_length
    have a1 := e ([66, 89, 83, 69, 67, 79, 78, 68], vNil, r.second)
    have a2 := e ([66, 89, 77, 73, 78, 85, 84, 69], vNil, r.minute)
    have a3 := e ([66, 89, 72, 79, 85, 82], vNil, r.hour)
    have a4 := e ([66, 89, 77, 79, 78, 84, 72, 68, 65, 89], vNil, r.monthDay)
    have a5 := e ([66, 89, 89, 69, 65, 82, 68, 65, 89], vNil, r.yearDay)
    have a6 := e ([66, 89, 87, 69, 69, 75, 78, 79], vNil, r.weekNo)
    have a7 := e ([66, 89, 77, 79, 78, 84, 72], vNil, r.month)
    have a8 := e ([66, 89, 83, 69, 84, 80, 79, 83], vNil, r.setPos)
    have a9 := e ([66, 89, 69, 65, 83, 84, 69, 82], vNil, r.easter)
    omega
  unfold parts
  simp only [List.length_append]
  have : (pFreq r).length = 1 := rfl
  omega
theorem parts_memN {r : Ru} (h : RuOk r) (N : Nat) (hN : r.setPos.length ≤ N ∧ r.month.length ≤ N ∧ r.monthDay.length ≤ N ∧ r.yearDay.length ≤ N ∧ r.weekNo.length ≤ N ∧ r.day.length ≤ N ∧ r.hour.length ≤ N ∧ r.minute.length ≤ N ∧ r.second.length ≤ N ∧ r.easter.length ≤ N) : ∀ s ∈ parts r, s.length ≤ 24 * N + 1100 := by
  intro s hs
  unfold parts at hs
  simp only [List.mem_append] at hs
  rcases hs with (((((hs | hs) | hs) | hs) | hs) | hs) | hs
  · unfold pFreq at hs
    rw [List.mem_singleton] at hs; subst hs
    have := (freq_get h.freq).2
    simp only [List.length_append, List.length_cons, List.length_nil]
    omega
  · unfold pUntil at hs
    split at hs
    · simp at hs; subst hs
      have := dateText_length h.til.1 h.til.2
      simp only [List.length_cons]; omega
    · simp at hs
  · unfold pCount at hs
    split at hs
    · simp at hs; subst hs
      have := Lib.itoa_length_le r.count (by have := h.count; omega) h.count.2
      simp only [List.length_cons]; omega
    · simp at hs
  · unfold pInterval at hs
    split at hs
    · simp at hs; subst hs
      have := Lib.itoa_length_le r.interval (by have := h.interval; omega) h.interval.2
      simp only [List.length_cons]; omega
    · simp at hs
  · unfold pNine at hs
    obtain ⟨p, hp, hs⟩ := List.mem_flatMap.1 hs
    have key : p.1.length ≤ 10 ∧ IntsOk p.2.2 ∧ p.2.2.length ≤ N := by
      unfold nine at hp
      simp only [List.mem_cons, List.not_mem_nil, or_false] at hp
      rcases hp with rfl | rfl | rfl | rfl | rfl | rfl | rfl | rfl | rfl
      · exact ⟨by show 8 ≤ 10; omega, h.second, by show r.second.length ≤ N; omega⟩
      · exact ⟨by show 8 ≤ 10; omega, h.minute, by show r.minute.length ≤ N; omega⟩
      · exact ⟨by show 6 ≤ 10; omega, h.hour, by show r.hour.length ≤ N; omega⟩
      · exact ⟨by show 10 ≤ 10; omega, h.monthDay, by show r.monthDay.length ≤ N; omega⟩
      · exact ⟨by show 9 ≤ 10; omega, h.yearDay, by show r.yearDay.length ≤ N; omega⟩
      · exact ⟨by show 8 ≤ 10; omega, h.weekNo, by show r.weekNo.length ≤ N; omega⟩
      · exact ⟨by show 7 ≤ 10; omega, h.month, by show r.month.length ≤ N; omega⟩
      · exact ⟨by show 8 ≤ 10; omega, h.setPos, by show r.setPos.length ≤ N; omega⟩
      · exact ⟨by show 8 ≤ 10; omega, h.easter, by show r.easter.length ≤ N; omega⟩
    unfold pOne at hs
    split at hs
    · simp at hs
    · simp at hs; subst hs
      have := joined_length key.2.1
      have := key.2.2
      have := key.1
      simp only [List.length_append, List.length_cons]; omega
  · unfold pDay at hs
    split at hs
    · simp at hs
    · simp at hs; subst hs
      have := days_length h.day.1 h.day.2
      have := h.day.1
      simp only [List.length_cons]; omega
  · unfold pWkst at hs
    split at hs
    · simp at hs
    · rw [List.mem_singleton] at hs; subst hs
      have := (wday_get h.wkst.1 h.wkst.2).2
      simp only [List.length_append, List.length_cons, List.length_nil]; omega
theorem parts_mem {r : Ru} (h : RuOk r) : ∀ s ∈ parts r, s.length ≤ 30000 := fun s hs => by
  have := parts_memN h 1000 ⟨h.setPos.1, h.month.1, h.monthDay.1, h.yearDay.1, h.weekNo.1, h.day.1, h.hour.1, h.minute.1, h.second.1, h.easter.1⟩ s hs
  omega
theorem parts_clean {r : Ru} (h : CleanP r) : ∀ s ∈ parts (bare r), s.length ≤ 1388 := fun s hs => by
  have a1 := (within_spec h.setPos).1
  have a2 := (within_spec h.month).1
  have a3 := (within_spec h.monthDay).1
  have a4 := (within_spec h.yearDay).1
  have a5 := (within_spec h.weekNo).1
  have a6 := (within_spec h.hour).1
  have a7 := (within_spec h.minute).1
  have a8 := (within_spec h.second).1
  have a9 := (within_spec h.easter).1
  have a10 := h.dayLen
  have := parts_memN (clean_ok h) 12 (by show r.setPos.length ≤ 12 ∧ r.month.length ≤ 12 ∧ r.monthDay.length ≤ 12 ∧ r.yearDay.length ≤ 12 ∧ r.weekNo.length ≤ 12 ∧ r.day.length ≤ 12 ∧ r.hour.length ≤ 12 ∧ r.minute.length ≤ 12 ∧ r.second.length ≤ 12 ∧ r.easter.length ≤ 12; omega) s hs
  omega
/-- A text with semicolons. -/
def textOf (l : List (List UInt8)) : List UInt8 := joinB 59 l
theorem textNil_A {w0 : World} (hG : Glob w0) (r : Ru) (x : Rs) (hr : RuOk r) (H : Heap) (hx : RuAt H r x) : ACalls Tryz.prog (CB w0) 14 [.agg (ruCells r x), vNil] H fun v H' => v = vS (textOf (parts r)) ∧ H' = H := by
  refine ACalls.flat rfl ?_
  refine A_fun (N := 74) (rs := [.tmp 4]) Tryz.func14 rfl rfl rfl (by kernel_rfl) (by kernel_rfl) (Nat.le_of_ble_eq_true rfl) ?_
  rintro e he ⟨g0, g1, -⟩
  have g0' := g0
  unfold ruCells at g0
  simp only [go_sem, he, g0, g1, hx.setPos.one, hx.month.one, hx.monthDay.one, hx.yearDay.one, hx.weekNo.one, hx.day.one, hx.hour.one, hx.minute.one, hx.second.one, hx.easter.one]
  refine callX_any (parts_A hG r x hr _ (hx.more _)) ?_
  rintro v h ⟨⟨G, rfl⟩, o, rfl, ho, hol⟩
  rw [pNine_same r x ⟨vNil, vNil, vNil, vNil, vNil, vNil, vNil, vNil, vNil, vNil⟩] at ho ⊢
  have hpl := parts_length (r := r)
  have hpm := parts_mem hr
  unfold parts at hpl hpm ⊢
  generalize pFreq r ++ pUntil r ++ pCount r ++ pInterval r ++ pNine r ⟨vNil, vNil, vNil, vNil, vNil, vNil, vNil, vNil, vNil, vNil⟩ ++ pDay r ++ pWkst r = l at *
  simp only [go_sem, he, g0, g1, setD_some]
  rw [List.append_assoc, List.cons_append, List.nil_append] at ho
  refine A_while 0 (fun k e h => (∃ G, h = H ++ G) ∧ h[o]? = some (.own 9 (l.map vS)) ∧ len e = 74 ∧ AL.get e 5 = .sl true o 0 l.length 1 ∧ AL.get e 15 = vI 0 ∧ AL.get e 16 = vI 0) (by kernel_rfl) ?_ ?_
  · simp only [go_sem, he, g0, g1]
    exact ⟨⟨_, rfl⟩, ho⟩
  · rintro k e h ⟨⟨G2, rfl⟩, ho, he, g5, g15, g16⟩
    have d0 : decide ((0 : Int) < 0) = false := rfl
    simp only [go_sem, he, g5, g15, g16, d0]
    refine A_while l.length (fun k e h => h = H ++ G2 ∧ len e = 74 ∧ AL.get e 58 = .sl true o 0 l.length 1 ∧ AL.get e 59 = vI l.length ∧ ∃ (i : Nat) (out : List UInt8), AL.get e 60 = vI i ∧ AL.get e 9 = vS out ∧ i + k = l.length ∧ out = joinB 59 (l.take i) ∧ out.length ≤ 30001 * i) (by kernel_rfl) ?_ ?_
    · simp only [go_sem, he, g5, g15, g16]
      exact ⟨0, [], rfl, rfl, by omega, rfl, by simp⟩
    · rintro k e h ⟨rfl, he, g58, g59, i, out, g60, g9, hik, hout, hol⟩
      simp only [go_sem, he, g58, g59, g60, g9]
      refine condK_of (fun hc => ?_) fun hc => ?_
      · have hc := of_decide_eq_true hc
        have hi : i < l.length := by omega
        have hli : l[i]? = some (l.getD i []) := by rw [List.getD_eq_getElem?_getD, List.getElem?_eq_getElem hi]; rfl
        have hlm := hpm _ (List.mem_of_getElem? hli)
        have hcell : (l.map vS)[i]? = some (vS (l.getD i [])) := by rw [List.getElem?_map, hli]; rfl
        have hst := joinB_take 59 l i _ hli
        generalize l.getD i [] = a at *
        have wi : IntKind.i64.wrap ((i : Int) + 1) = ((i + 1 : Nat) : Int) := by rw [wI64 (by omega)]; rfl
        simp only [go_sem, he, g58, g59, g60, g9, ho, hcell, Int.toNat_natCast]
        refine ⟨by omega, condK_of (fun hp => ?_) fun hp => ?_⟩
        · have hp := of_decide_eq_true hp
          simp only [go_sem, he, g58, g59, g60, g9, wi, List.length_append]
          rw [if_neg (by omega), ← hout] at hst
          refine ⟨by omega, by omega, k - 1, by omega, i + 1, _, rfl, rfl, by omega, by rw [hst], by simp only [List.length_append, List.length_cons]; omega⟩
        · have hp := of_decide_eq_false hp
          have h0 : i = 0 := by omega
          subst h0
          simp only [go_sem, he, g58, g59, g60, g9, wi, List.length_append]
          have ho2 : out = [] := List.eq_nil_of_length_eq_zero (by omega)
          subst ho2
          rw [if_pos rfl] at hst
          exact ⟨by simp only [List.length_nil]; omega, k - 1, by omega, 1, _, rfl, rfl, by omega, hst.symm, by simp only [List.nil_append]; omega⟩
      · have hc := of_decide_eq_false hc
        have hil : i = l.length := by omega
        simp only [go_sem, he, g58, g59, g60, g9]
        refine ⟨?_, _, rfl⟩
        rw [hout, hil, List.take_length]
        rfl

/-- A sign of a value: none that parts texts, none that is blank. -/
def okB (c : UInt8) : Bool := decide (33 ≤ c.toNat) && decide (c.toNat < 128) && c != 59 && c != 61
def okS (s : List UInt8) : Prop := ∀ c ∈ s, okB c = true
theorem okS_nil : okS [] := fun _ h => by simp at h
theorem okS_app {a b : List UInt8} (h : okS a) (h' : okS b) : okS (a ++ b) := fun c hc => by
  rcases List.mem_append.1 hc with hc | hc
  · exact h c hc
  · exact h' c hc
theorem okS_cons {c : UInt8} {b : List UInt8} (h : okB c = true) (h' : okS b) : okS (c :: b) := fun d hd => by
  rcases List.mem_cons.1 hd with rfl | hd
  · exact h
  · exact h' d hd
theorem okS_of {s : List UInt8} (h : s.all okB = true) : okS s := fun c hc => List.all_eq_true.1 h c hc
theorem digit_ok {n : Nat} (h : n < 10) : okB (UInt8.ofNat (48 + n)) = true := by
  have : n = 0 ∨ n = 1 ∨ n = 2 ∨ n = 3 ∨ n = 4 ∨ n = 5 ∨ n = 6 ∨ n = 7 ∨ n = 8 ∨ n = 9 := by omega
  rcases this with rfl | rfl | rfl | rfl | rfl | rfl | rfl | rfl | rfl | rfl <;> rfl
theorem dec_ok (u : Nat) : okS (Lib.decDigits u) := by
  induction u using Nat.strongRecOn with
  | _ u ih =>
    rw [Lib.decDigits]
    split
    · rename_i h
      exact okS_cons (digit_ok h) okS_nil
    · exact okS_app (ih (u / 10) (by omega)) (okS_cons (digit_ok (by omega)) okS_nil)
theorem itoa_ok (n : Int) : okS (Lib.itoa n) := by
  unfold Lib.itoa
  split
  · exact okS_cons rfl (dec_ok _)
  · exact dec_ok _
theorem padTo_ok (d : Nat) : ∀ (k : Nat) (l : List UInt8), okS l → okS (padTo d l k)
  | 0, l, h => h
  | k + 1, l, h => by
    unfold padTo
    split
    · exact padTo_ok d k _ (okS_cons rfl h)
    · exact h
theorem padded_ok (n d : Int) : okS (padded n d) := padTo_ok _ _ _ (itoa_ok n)
theorem dateText_ok (t : Int) : okS (dateText t) := by
  unfold dateText
  exact okS_app (okS_app (okS_app (okS_app (okS_app (okS_app (okS_app (padded_ok _ _) (padded_ok _ _)) (padded_ok _ _)) (okS_of rfl)) (padded_ok _ _)) (padded_ok _ _)) (padded_ok _ _)) (okS_of rfl)
theorem joinB_ok {c : UInt8} (hc : okB c = true) : ∀ {l : List (List UInt8)}, (∀ s ∈ l, okS s) → okS (joinB c l)
  | [], _ => okS_nil
  | [a], h => h a (by simp)
  | a :: b :: r, h => okS_app (h a (by simp)) (okS_cons hc (joinB_ok hc fun s hs => h s (List.mem_cons_of_mem _ hs)))
theorem joined_ok (l : List Int) : okS (joined l) := joinB_ok rfl fun s hs => by
  obtain ⟨n, _, rfl⟩ := List.mem_map.1 hs
  exact itoa_ok n
theorem getD_ok {l : List (List UInt8)} (h : l.all (fun s => s.all okB) = true) (i : Nat) : okS (l.getD i []) := by
  rw [List.getD_eq_getElem?_getD]
  cases hi : l[i]? with
  | none => exact okS_nil
  | some s => exact okS_of (List.all_eq_true.1 h s (List.mem_of_getElem? hi))
theorem dayText_ok (d : Int × Int) : okS (dayText d) := by
  unfold dayText
  refine okS_app ?_ (getD_ok rfl _)
  split
  · exact okS_nil
  · exact itoa_ok _
theorem days_ok (l : List (Int × Int)) : okS (days l) := joinB_ok rfl fun s hs => by
  obtain ⟨n, _, rfl⟩ := List.mem_map.1 hs
  exact dayText_ok n
/-- Names and values. -/
abbrev KV := List UInt8 × List UInt8
def kvT (p : KV) : List UInt8 := p.1 ++ 61 :: p.2
def kOne (n : List UInt8) (l : List Int) : List KV := if l.length = 0 then [] else [(n, joined l)]
def kvs (r : Ru) : List KV :=
  [([70, 82, 69, 81], freqs.getD r.freq [])] ++ (if r.hasUntil then [([85, 78, 84, 73, 76], dateText r.til)] else []) ++ (if 0 < r.count then [([67, 79, 85, 78, 84], Lib.itoa r.count)] else []) ++ (if 1 < r.interval then [([73, 78, 84, 69, 82, 86, 65, 76], Lib.itoa r.interval)] else []) ++
  (kOne [66, 89, 83, 69, 67, 79, 78, 68] r.second ++ kOne [66, 89, 77, 73, 78, 85, 84, 69] r.minute ++ kOne [66, 89, 72, 79, 85, 82] r.hour ++ kOne [66, 89, 77, 79, 78, 84, 72, 68, 65, 89] r.monthDay ++ kOne [66, 89, 89, 69, 65, 82, 68, 65, 89] r.yearDay ++ kOne [66, 89, 87, 69, 69, 75, 78, 79] r.weekNo ++ kOne [66, 89, 77, 79, 78, 84, 72] r.month ++ kOne [66, 89, 83, 69, 84, 80, 79, 83] r.setPos ++ kOne [66, 89, 69, 65, 83, 84, 69, 82] r.easter) ++
  (if r.day.length = 0 then [] else [([66, 89, 68, 65, 89], days r.day)]) ++ (if r.wkst = 0 then [] else [([87, 75, 83, 84], wdays.getD r.wkst.toNat [])])
theorem kOne_parts (n : List UInt8) (a : AV) (l : List Int) : (kOne n l).map kvT = pOne (n, a, l) := by
  unfold kOne pOne
  split <;> rfl
theorem kvs_parts (r : Ru) : (kvs r).map kvT = parts r := by
  unfold kvs parts
  simp only [List.map_append]
  congr 1
  · congr 1
    · congr 1
      · congr 1
        · congr 1
          · congr 1
            unfold pUntil
            split <;> rfl
          · unfold pCount
            split <;> rfl
        · unfold pInterval
          split <;> rfl
      · unfold pNine nine
        simp only [List.flatMap_cons, List.flatMap_nil, List.append_nil, ← kOne_parts, List.append_assoc]
    · unfold pDay
      split <;> rfl
  · unfold pWkst
    split <;> rfl
def kvOk (p : KV) : Prop := okS p.1 ∧ okS p.2 ∧ p.1.length ≤ 10 ∧ p.1 ≠ [68, 84, 83, 84, 65, 82, 84] ∧ (p.1 = [85, 78, 84, 73, 76] → NoFrac p.2)
theorem padTo_digits (d : Nat) : ∀ (k : Nat) (l : List UInt8), NoFrac l → NoFrac (padTo d l k)
  | 0, l, h => h
  | k + 1, l, h => by
    unfold padTo
    split
    · refine padTo_digits d k _ ?_
      intro c hc
      rcases List.mem_cons.1 hc with rfl | hc
      · decide
      · exact h c hc
    · exact h
theorem noFrac_app {a b : List UInt8} (h : NoFrac a) (h' : NoFrac b) : NoFrac (a ++ b) := fun c hc => by
  rcases List.mem_append.1 hc with hc | hc
  · exact h c hc
  · exact h' c hc
theorem dec_noFrac (u : Nat) : NoFrac (Lib.decDigits u) := by
  have hd : ∀ n, n < 10 → NoFrac [UInt8.ofNat (48 + n)] := by
    intro n h c hc
    rw [List.mem_singleton] at hc
    subst hc
    have : n = 0 ∨ n = 1 ∨ n = 2 ∨ n = 3 ∨ n = 4 ∨ n = 5 ∨ n = 6 ∨ n = 7 ∨ n = 8 ∨ n = 9 := by omega
    rcases this with rfl | rfl | rfl | rfl | rfl | rfl | rfl | rfl | rfl | rfl <;> decide
  induction u using Nat.strongRecOn with
  | _ u ih =>
    rw [Lib.decDigits]
    split
    · rename_i h; exact hd u h
    · exact noFrac_app (ih (u / 10) (by omega)) (hd _ (by omega))
theorem itoa_noFrac (n : Int) : NoFrac (Lib.itoa n) := by
  unfold Lib.itoa
  split
  · exact noFrac_app (a := [45]) (by unfold NoFrac; decide) (dec_noFrac _)
  · exact dec_noFrac _
theorem padded_noFrac (n d : Int) : NoFrac (padded n d) := padTo_digits _ _ _ (itoa_noFrac n)
theorem dateText_noFrac (t : Int) : NoFrac (dateText t) := by
  unfold dateText
  exact noFrac_app (noFrac_app (noFrac_app (noFrac_app (noFrac_app (noFrac_app (noFrac_app (padded_noFrac _ _) (padded_noFrac _ _)) (padded_noFrac _ _)) (by unfold NoFrac; decide)) (padded_noFrac _ _)) (padded_noFrac _ _)) (padded_noFrac _ _)) (by unfold NoFrac; decide)
theorem kv_of {n v : List UInt8} (hn : n.all okB = true ∧ n.length ≤ 10 ∧ n ≠ [68, 84, 83, 84, 65, 82, 84] ∧ n ≠ [85, 78, 84, 73, 76]) (hv : okS v) : kvOk (n, v) := ⟨okS_of hn.1, hv, hn.2.1, hn.2.2.1, fun e => absurd e hn.2.2.2⟩
theorem kOne_ok {n : List UInt8} {l : List Int} (hn : n.all okB = true ∧ n.length ≤ 10 ∧ n ≠ [68, 84, 83, 84, 65, 82, 84] ∧ n ≠ [85, 78, 84, 73, 76]) : ∀ p ∈ kOne n l, kvOk p := by
  intro p hp
  unfold kOne at hp
  split at hp
  · simp at hp
  · rw [List.mem_singleton] at hp
    subst hp
    exact ⟨okS_of hn.1, joined_ok _, hn.2.1, hn.2.2.1, fun e => absurd e hn.2.2.2⟩
theorem kvs_ok (r : Ru) : ∀ p ∈ kvs r, kvOk p := by
  intro p hp
  unfold kvs at hp
  simp only [List.mem_append] at hp
  rcases hp with (((((hp | hp) | hp) | hp) | hp) | hp) | hp
  · rw [List.mem_singleton] at hp
    subst hp
    exact kv_of (by decide) (getD_ok rfl _)
  · split at hp
    · rw [List.mem_singleton] at hp
      subst hp
      exact ⟨okS_of rfl, dateText_ok _, by show 5 ≤ 10; omega, by show [85, 78, 84, 73, 76] ≠ _; decide, fun _ => dateText_noFrac _⟩
    · simp at hp
  · split at hp
    · rw [List.mem_singleton] at hp
      subst hp
      exact kv_of (by decide) (itoa_ok _)
    · simp at hp
  · split at hp
    · rw [List.mem_singleton] at hp
      subst hp
      exact kv_of (by decide) (itoa_ok _)
    · simp at hp
  · rcases hp with (((((((hp | hp) | hp) | hp) | hp) | hp) | hp) | hp) | hp
    all_goals exact kOne_ok (by decide) p hp
  · split at hp
    · simp at hp
    · rw [List.mem_singleton] at hp
      subst hp
      exact kv_of (by decide) (days_ok _)
  · split at hp
    · simp at hp
    · rw [List.mem_singleton] at hp
      subst hp
      exact kv_of (by decide) (getD_ok rfl _)

theorem idx_no {c : UInt8} : ∀ {s : List UInt8}, c ∉ s → idx c s = none
  | [], _ => rfl
  | b :: r, h => by
    rw [idx, if_neg (fun e => h (by simp [e])), idx_no fun hr => h (List.mem_cons_of_mem _ hr)]; rfl
theorem idx_at {c : UInt8} {b : List UInt8} : ∀ {a : List UInt8}, c ∉ a → idx c (a ++ c :: b) = some a.length
  | [], _ => by simp [idx]
  | d :: a, h => by
    rw [List.cons_append, idx, if_neg (fun e => h (by simp [e])), idx_at fun hr => h (List.mem_cons_of_mem _ hr)]
    rfl
theorem splitN_join {c : UInt8} : ∀ {l : List (List UInt8)} {k : Nat}, l ≠ [] → (∀ s ∈ l, c ∉ s) → l.length ≤ k + 1 → splitN c k (joinB c l) = l
  | [], _, h, _, _ => absurd rfl h
  | [a], k, _, h, _ => by
    show splitN c k a = [a]
    cases k with
    | zero => rfl
    | succ k => rw [splitN, idx_no (h a (by simp))]
  | a :: b :: r, k, _, h, hk => by
    show splitN c k (a ++ c :: joinB c (b :: r)) = _
    cases k with
    | zero => simp at hk
    | succ k =>
      rw [splitN, idx_at (h a (by simp))]
      simp only
      rw [List.take_left, show (a ++ c :: joinB c (b :: r)).drop (a.length + 1) = joinB c (b :: r) by
        rw [← List.drop_drop, List.drop_left]; rfl]
      rw [splitN_join (by simp) (fun s hs => h s (List.mem_cons_of_mem _ hs)) (by simp at hk ⊢; omega)]
theorem joinB_len {c : UInt8} : ∀ (l : List (List UInt8)), l.length ≤ (joinB c l).length + 1
  | [] => by simp
  | [a] => by simp [joinB]
  | a :: b :: r => by
    have := joinB_len (c := c) (b :: r)
    show (b :: r).length + 1 ≤ (a ++ c :: joinB c (b :: r)).length + 1
    simp only [List.length_append, List.length_cons] at this ⊢
    omega
theorem split_join {c : UInt8} {l : List (List UInt8)} (h0 : l ≠ []) (h : ∀ s ∈ l, c ∉ s) : split c (joinB c l) = l := by
  unfold split
  exact splitN_join h0 h (by have := joinB_len (c := c) l; omega)
theorem split_kv {p : KV} (h : kvOk p) : split 61 (kvT p) = [p.1, p.2] := by
  have h1 : (61 : UInt8) ∉ p.1 := fun hm => by have := h.1 _ hm; simp [okB] at this
  have h2 : (61 : UInt8) ∉ p.2 := fun hm => by have := h.2.1 _ hm; simp [okB] at this
  have := split_join (c := 61) (l := [p.1, p.2]) (by simp) (by intro s hs; simp at hs; rcases hs with rfl | rfl <;> assumption)
  exact this
/-- A sign that can be seen. -/
def vis (c : UInt8) : Bool := decide (33 ≤ c.toNat) && decide (c.toNat < 128)
def visS (s : List UInt8) : Prop := ∀ c ∈ s, vis c = true
theorem visS_app {a b : List UInt8} (h : visS a) (h' : visS b) : visS (a ++ b) := fun c hc => by
  rcases List.mem_append.1 hc with hc | hc
  · exact h c hc
  · exact h' c hc
theorem okS_vis {s : List UInt8} (h : okS s) : visS s := fun c hc => by
  have := h c hc
  unfold okB at this
  unfold vis
  simp only [Bool.and_eq_true] at this ⊢
  exact this.1.1
theorem joinB_vis {c : UInt8} (hc : vis c = true) : ∀ {l : List (List UInt8)}, (∀ s ∈ l, visS s) → visS (joinB c l)
  | [], _ => fun _ h => by simp [joinB] at h
  | [a], h => h a (by simp)
  | a :: b :: r, h => visS_app (h a (by simp)) fun d hd => by
    rcases List.mem_cons.1 hd with rfl | hd
    · exact hc
    · exact joinB_vis hc (fun s hs => h s (List.mem_cons_of_mem _ hs)) d hd
theorem visS_rev {s : List UInt8} (h : visS s) : visS s.reverse := fun c hc => h c (by simpa using hc)
theorem vis_all : ((List.range 256).all fun n => !vis (UInt8.ofNat n) || !Lib.isSp (UInt8.ofNat n)) = true := by kernel_rfl
theorem vis_sp {c : UInt8} (h : vis c = true) : Lib.isSp c = false := by
  have h1 := List.all_eq_true.1 vis_all c.toNat (List.mem_range.2 c.toNat_lt)
  rw [UInt8.ofNat_toNat, h] at h1
  simpa using h1
theorem drop_vis {s : List UInt8} (h : visS s) : s.dropWhile Lib.isSp = s := by
  cases s with
  | nil => rfl
  | cons c r =>
    rw [List.dropWhile_cons, vis_sp (h c (by simp))]
    rfl
theorem inText_of {s : List UInt8} (hv : visS s) (hl : s.length ≤ 50000) (hh : s.head? ≠ some 82) (hf : ∀ a ∈ split 59 s, ∀ k v, split 61 a = [k, v] → (k = [85, 78, 84, 73, 76] ∨ k = [68, 84, 83, 84, 65, 82, 84]) → NoFrac v) : InText s where
  len := hl
  frac := hf
  ascii := fun c hc => by
    have := hv c hc
    unfold vis at this
    simp only [Bool.and_eq_true, decide_eq_true_eq] at this
    exact this.2
  trim := by
    unfold Lib.trimSpace
    rw [drop_vis hv, drop_vis (visS_rev hv), List.reverse_reverse]
  line := idx_no fun hm => by have := hv _ hm; revert this; decide
  pre := by
    unfold Lib.trimPrefix Lib.hasPrefix
    cases s with
    | nil => rfl
    | cons c r =>
      have : c ≠ 82 := fun e => hh (by rw [e]; rfl)
      have h2 : ((82 : UInt8) == c) = false := by simpa using fun e => this e.symm
      simp only [List.isPrefixOf, h2, Bool.false_and, Bool.false_eq_true, if_false]
/-- Parts behind a text, put into the options. -/
theorem foldE_app {σ α : Type} (f : σ → α → Except Nat σ) : ∀ (l : List α) (o : σ) (m : List α), foldE f o (l ++ m) = match foldE f o l with
    | .ok o' => foldE f o' m
    | .error t => .error t
  | [], o, m => rfl
  | a :: l, o, m => by
    rw [List.cons_append, foldE, foldE]
    cases f o a with
    | ok o1 => exact foldE_app f l o1 m
    | error t => rfl
theorem parse_bad {l : List (List UInt8)} {b : List UInt8} (h0 : ∀ s ∈ l, (59 : UInt8) ∉ s) (hb : (59 : UInt8) ∉ b) (hbad : ∀ o, ∃ t, opStep o b = .error t) : ∃ t, opParse (joinB 59 (l ++ [b])) = .error t := by
  unfold opParse
  rw [split_join (by simp) (by
    intro s hs
    rcases List.mem_append.1 hs with hs | hs
    · exact h0 s hs
    · rw [List.mem_singleton] at hs; rw [hs]; exact hb), foldE_app]
  cases foldE opStep op0 l with
  | error t => exact ⟨t, rfl⟩
  | ok o =>
    obtain ⟨t, ht⟩ := hbad o
    exact ⟨t, by simp only [foldE, ht, opEnd]⟩
theorem parts_no {r : Ru} : ∀ s ∈ parts r, (59 : UInt8) ∉ s := by
  intro s hs hm
  rw [← kvs_parts] at hs
  obtain ⟨p, hp, rfl⟩ := List.mem_map.1 hs
  have ho := kvs_ok r p hp
  unfold kvT at hm
  rcases List.mem_append.1 hm with hm | hm
  · have := ho.1 _ hm; revert this; decide
  · rcases List.mem_cons.1 hm with e | hm
    · revert e; decide
    · have := ho.2.1 _ hm; revert this; decide
theorem parts_vis {r : Ru} : ∀ s ∈ parts r, visS s := by
  intro s hs
  rw [← kvs_parts] at hs
  obtain ⟨p, hp, rfl⟩ := List.mem_map.1 hs
  have ho := kvs_ok r p hp
  refine visS_app (okS_vis ho.1) fun c hc => ?_
  rcases List.mem_cons.1 hc with rfl | hc
  · rfl
  · exact okS_vis ho.2.1 c hc

theorem bad_suffix {r : Ru} (h : CleanP r) {b : List UInt8} (hv : b.all vis = true) (hb : b.length ≤ 100) (hn : b.all (fun c => c != 59) = true) (hf : fracB b = true) (hbad : ∀ o, ∃ t, opStep o b = .error t) : InText (textOf (parts (bare r)) ++ 59 :: b) ∧ ∃ t, opParse (textOf (parts (bare r)) ++ 59 :: b) = .error t := by
  have hpl := parts_length (r := bare r)
  have hne : parts (bare r) ≠ [] := fun e => by rw [e] at hpl; simp at hpl
  have hb59 : (59 : UInt8) ∉ b := fun hm => by have := List.all_eq_true.1 hn _ hm; revert this; decide
  have he : textOf (parts (bare r)) ++ 59 :: b = joinB 59 (parts (bare r) ++ [b]) := (joinB_snoc 59 b _ hne).symm
  have hsp : split 59 (textOf (parts (bare r)) ++ 59 :: b) = parts (bare r) ++ [b] := by
    rw [he]
    exact split_join (by simp) fun s hs => by
      rcases List.mem_append.1 hs with hs | hs
      · exact parts_no s hs
      · rw [List.mem_singleton] at hs; rw [hs]; exact hb59
  refine ⟨inText_of ?_ ?_ ?_ ?_, ?_⟩
  · exact visS_app (joinB_vis rfl parts_vis) fun c hc => by
      rcases List.mem_cons.1 hc with rfl | hc
      · rfl
      · exact List.all_eq_true.1 hv c hc
  · have := joinB_length 59 1388 (parts (bare r)) (parts_clean h)
    rw [List.length_append, List.length_cons]
    unfold textOf
    have : 1389 * (parts (bare r)).length ≤ 1389 * 15 := Nat.mul_le_mul_left _ hpl.1
    omega
  · have hh : ∀ l : List (List UInt8), (joinB 59 ((70 :: [82, 69, 81, 61] ++ freqs.getD (bare r).freq []) :: l)).head? = some 70 := by
      intro l
      cases l <;> rfl
    have : parts (bare r) = (70 :: [82, 69, 81, 61] ++ freqs.getD (bare r).freq []) :: (parts (bare r)).tail := rfl
    unfold textOf
    rw [this, List.head?_append, hh]
    exact (by decide : (some (70 : UInt8)) ≠ some 82)
  · rw [hsp]
    intro a ha k v hkv hk
    rcases List.mem_append.1 ha with ha | ha
    · rw [← kvs_parts] at ha
      obtain ⟨p, hp, rfl⟩ := List.mem_map.1 ha
      have ho := kvs_ok _ p hp
      rw [split_kv ho] at hkv
      simp only [List.cons.injEq, and_true] at hkv
      obtain ⟨rfl, rfl⟩ := hkv
      rcases hk with hk | hk
      · exact ho.2.2.2.2 hk
      · exact absurd hk ho.2.2.2.1
    · rw [List.mem_singleton] at ha
      subst ha
      exact fracB_spec hf a (by rw [split_none (idx_no hb59)]; simp) k v hkv hk
  · rw [he]
    exact parse_bad parts_no hb59 hbad
theorem badS0 {r : Ru} (h : CleanP r) : InText (textOf (parts (bare r)) ++ [59, 66, 89, 78, 79, 84, 72, 73, 78, 71, 61, 49]) ∧ ∃ t, opParse (textOf (parts (bare r)) ++ [59, 66, 89, 78, 79, 84, 72, 73, 78, 71, 61, 49]) = .error t :=
  bad_suffix h (by kernel_rfl) (by decide) (by kernel_rfl) (by kernel_rfl) fun o => ⟨157, by kernel_rfl⟩
theorem badS1 {r : Ru} (h : CleanP r) : InText (textOf (parts (bare r)) ++ [59, 66, 89, 72, 79, 85, 82, 61]) ∧ ∃ t, opParse (textOf (parts (bare r)) ++ [59, 66, 89, 72, 79, 85, 82, 61]) = .error t :=
  bad_suffix h (by kernel_rfl) (by decide) (by kernel_rfl) (by kernel_rfl) fun o => ⟨157, by kernel_rfl⟩
theorem badS2 {r : Ru} (h : CleanP r) : InText (textOf (parts (bare r)) ++ [59, 66, 89, 72, 79, 85, 82, 61, 120]) ∧ ∃ t, opParse (textOf (parts (bare r)) ++ [59, 66, 89, 72, 79, 85, 82, 61, 120]) = .error t :=
  bad_suffix h (by kernel_rfl) (by decide) (by kernel_rfl) (by kernel_rfl) fun o => ⟨207, by kernel_rfl⟩
theorem badS3 {r : Ru} (h : CleanP r) : InText (textOf (parts (bare r)) ++ [59, 66, 89, 72, 79, 85, 82, 61, 49, 44, 44, 50]) ∧ ∃ t, opParse (textOf (parts (bare r)) ++ [59, 66, 89, 72, 79, 85, 82, 61, 49, 44, 44, 50]) = .error t :=
  bad_suffix h (by kernel_rfl) (by decide) (by kernel_rfl) (by kernel_rfl) fun o => ⟨207, by kernel_rfl⟩
theorem badS4 {r : Ru} (h : CleanP r) : InText (textOf (parts (bare r)) ++ [59, 66, 89, 68, 65, 89, 61, 88, 88]) ∧ ∃ t, opParse (textOf (parts (bare r)) ++ [59, 66, 89, 68, 65, 89, 61, 88, 88]) = .error t :=
  bad_suffix h (by kernel_rfl) (by decide) (by kernel_rfl) (by kernel_rfl) fun o => ⟨157, by kernel_rfl⟩
theorem badS5 {r : Ru} (h : CleanP r) : InText (textOf (parts (bare r)) ++ [59, 66, 89, 68, 65, 89, 61, 77]) ∧ ∃ t, opParse (textOf (parts (bare r)) ++ [59, 66, 89, 68, 65, 89, 61, 77]) = .error t :=
  bad_suffix h (by kernel_rfl) (by decide) (by kernel_rfl) (by kernel_rfl) fun o => ⟨157, by kernel_rfl⟩
theorem badS6 {r : Ru} (h : CleanP r) : InText (textOf (parts (bare r)) ++ [59, 85, 78, 84, 73, 76, 61, 50, 48, 50, 48]) ∧ ∃ t, opParse (textOf (parts (bare r)) ++ [59, 85, 78, 84, 73, 76, 61, 50, 48, 50, 48]) = .error t :=
  bad_suffix h (by kernel_rfl) (by decide) (by kernel_rfl) (by kernel_rfl) fun o => ⟨157, by kernel_rfl⟩
theorem badS7 {r : Ru} (h : CleanP r) : InText (textOf (parts (bare r)) ++ [59, 85, 78, 84, 73, 76, 61, 50, 48, 50, 48, 49, 51, 48, 49, 84, 48, 48, 48, 48, 48, 48, 90]) ∧ ∃ t, opParse (textOf (parts (bare r)) ++ [59, 85, 78, 84, 73, 76, 61, 50, 48, 50, 48, 49, 51, 48, 49, 84, 48, 48, 48, 48, 48, 48, 90]) = .error t :=
  bad_suffix h (by kernel_rfl) (by decide) (by kernel_rfl) (by kernel_rfl) fun o => ⟨157, by kernel_rfl⟩
theorem badS8 {r : Ru} (h : CleanP r) : InText (textOf (parts (bare r)) ++ [59, 67, 79, 85, 78, 84, 61, 120]) ∧ ∃ t, opParse (textOf (parts (bare r)) ++ [59, 67, 79, 85, 78, 84, 61, 120]) = .error t :=
  bad_suffix h (by kernel_rfl) (by decide) (by kernel_rfl) (by kernel_rfl) fun o => ⟨207, by kernel_rfl⟩
theorem badS9 {r : Ru} (h : CleanP r) : InText (textOf (parts (bare r)) ++ [59, 73, 78, 84, 69, 82, 86, 65, 76, 61, 120]) ∧ ∃ t, opParse (textOf (parts (bare r)) ++ [59, 73, 78, 84, 69, 82, 86, 65, 76, 61, 120]) = .error t :=
  bad_suffix h (by kernel_rfl) (by decide) (by kernel_rfl) (by kernel_rfl) fun o => ⟨207, by kernel_rfl⟩
theorem badS10 {r : Ru} (h : CleanP r) : InText (textOf (parts (bare r)) ++ [59, 87, 75, 83, 84, 61, 65, 65]) ∧ ∃ t, opParse (textOf (parts (bare r)) ++ [59, 87, 75, 83, 84, 61, 65, 65]) = .error t :=
  bad_suffix h (by kernel_rfl) (by decide) (by kernel_rfl) (by kernel_rfl) fun o => ⟨157, by kernel_rfl⟩
theorem badF0 : InText [] ∧ ∃ t, opParse [] = .error t :=
  ⟨⟨by decide, fracB_spec (by kernel_rfl), by decide, by kernel_rfl, by decide, by kernel_rfl⟩, 157, by kernel_rfl⟩
theorem badF1 : InText [67, 79, 85, 78, 84, 61, 50] ∧ ∃ t, opParse [67, 79, 85, 78, 84, 61, 50] = .error t :=
  ⟨⟨by decide, fracB_spec (by kernel_rfl), by decide, by kernel_rfl, by decide, by kernel_rfl⟩, 157, by kernel_rfl⟩
theorem badF2 : InText [70, 82, 69, 81, 61] ∧ ∃ t, opParse [70, 82, 69, 81, 61] = .error t :=
  ⟨⟨by decide, fracB_spec (by kernel_rfl), by decide, by kernel_rfl, by decide, by kernel_rfl⟩, 157, by kernel_rfl⟩
theorem badF3 : InText [70, 82, 69, 81, 61, 78, 69, 86, 69, 82] ∧ ∃ t, opParse [70, 82, 69, 81, 61, 78, 69, 86, 69, 82] = .error t :=
  ⟨⟨by decide, fracB_spec (by kernel_rfl), by decide, by kernel_rfl, by decide, by kernel_rfl⟩, 157, by kernel_rfl⟩
theorem badF4 : InText [70, 82, 69, 81, 61, 100, 97, 105, 108, 121, 32, 120] ∧ ∃ t, opParse [70, 82, 69, 81, 61, 100, 97, 105, 108, 121, 32, 120] = .error t :=
  ⟨⟨by decide, fracB_spec (by kernel_rfl), by decide, by kernel_rfl, by decide, by kernel_rfl⟩, 157, by kernel_rfl⟩
/-- The texts that are none. -/
def bads (t : List UInt8) : List (List UInt8) := [[], [67, 79, 85, 78, 84, 61, 50], [70, 82, 69, 81, 61], [70, 82, 69, 81, 61, 78, 69, 86, 69, 82], [70, 82, 69, 81, 61, 100, 97, 105, 108, 121, 32, 120], t ++ [59, 66, 89, 78, 79, 84, 72, 73, 78, 71, 61, 49], t ++ [59, 66, 89, 72, 79, 85, 82, 61], t ++ [59, 66, 89, 72, 79, 85, 82, 61, 120], t ++ [59, 66, 89, 72, 79, 85, 82, 61, 49, 44, 44, 50], t ++ [59, 66, 89, 68, 65, 89, 61, 88, 88], t ++ [59, 66, 89, 68, 65, 89, 61, 77], t ++ [59, 85, 78, 84, 73, 76, 61, 50, 48, 50, 48], t ++ [59, 85, 78, 84, 73, 76, 61, 50, 48, 50, 48, 49, 51, 48, 49, 84, 48, 48, 48, 48, 48, 48, 90], t ++ [59, 67, 79, 85, 78, 84, 61, 120], t ++ [59, 73, 78, 84, 69, 82, 86, 65, 76, 61, 120], t ++ [59, 87, 75, 83, 84, 61, 65, 65]]
theorem bads_ok {r : Ru} (h : CleanP r) {k : Nat} (hk : k < 16) : ∃ b, (bads (textOf (parts (bare r))))[k]? = some b ∧ InText b ∧ ∃ t, opParse b = .error t := by
  match k, hk with
  | 0, _ => exact ⟨_, rfl, badF0⟩
  | 1, _ => exact ⟨_, rfl, badF1⟩
  | 2, _ => exact ⟨_, rfl, badF2⟩
  | 3, _ => exact ⟨_, rfl, badF3⟩
  | 4, _ => exact ⟨_, rfl, badF4⟩
  | 5, _ => exact ⟨_, rfl, badS0 h⟩
  | 6, _ => exact ⟨_, rfl, badS1 h⟩
  | 7, _ => exact ⟨_, rfl, badS2 h⟩
  | 8, _ => exact ⟨_, rfl, badS3 h⟩
  | 9, _ => exact ⟨_, rfl, badS4 h⟩
  | 10, _ => exact ⟨_, rfl, badS5 h⟩
  | 11, _ => exact ⟨_, rfl, badS6 h⟩
  | 12, _ => exact ⟨_, rfl, badS7 h⟩
  | 13, _ => exact ⟨_, rfl, badS8 h⟩
  | 14, _ => exact ⟨_, rfl, badS9 h⟩
  | 15, _ => exact ⟨_, rfl, badS10 h⟩
  | k + 16, hk => exact absurd hk (by omega)

theorem textOf_len {r : Ru} (h : CleanP r) : (textOf (parts (bare r))).length ≤ 25000 := by
  have hpl := parts_length (r := bare r)
  have := joinB_length 59 1388 (parts (bare r)) (parts_clean h)
  have : 1389 * (parts (bare r)).length ≤ 1389 * 15 := Nat.mul_le_mul_left _ hpl.1
  unfold textOf
  omega
theorem bare_at {H : Heap} {r : Ru} {x : Rs} (hx : RuAt H r x) : RuAt H (bare r) x := ⟨hx.setPos, hx.month, hx.monthDay, hx.yearDay, hx.weekNo, hx.day, hx.hour, hx.minute, hx.second, hx.easter⟩
theorem fnTextBad_A {w0 : World} (hG : Glob w0) (r : Ru) (x : Rs) (hn : RuNum r) (which : Nat) (hw : which ≤ 255) (H : Heap) (hH : GH H) (hx : RuAt H r x) : ACalls Tryz.prog (CB w0) 3 [.agg (ruCells r x), vU which] H fun v H' => v = vB true ∧ ∃ G, H' = H ++ G := by
  refine A_fun (N := 60) (rs := [.tmp 4]) Tryz.func3 rfl rfl rfl (by kernel_rfl) (by kernel_rfl) (Nat.le_of_ble_eq_true rfl) ?_
  rintro e he ⟨g0, g1, -⟩
  have hB : ∀ G, (H ++ AObj.own 25 (ruCells r x) :: G)[H.length]? = some (AObj.own 25 (ruCells r x)) := fun G => heap_get0
  unfold ruCells at g0 hB
  simp only [go_sem, he, g0, g1, hx.setPos.one, hx.month.one, hx.monthDay.one, hx.yearDay.one, hx.weekNo.one, hx.day.one, hx.hour.one, hx.minute.one, hx.second.one, hx.easter.one]
  refine callX_of (zzFits1_A r x _ (hx.more _)) (List.prefix_refl _) ?_
  cases hf : fits r with
  | false =>
    simp only [go_sem, he, g1, setD_some]
    exact ⟨_, rfl⟩
  | true =>
  have hl := fits_len hf
  simp only [go_sem, he, g1, setD_some]
  refine callX_any (textBare_A r x hl hn _ (hx.more _)) ?_
  rintro v h ⟨rfl, G, rfl⟩
  unfold bareR
  cases hb : bareOk r with
  | false =>
    simp only [ruCells, go_sem, he, g1, setD_some, Bool.true_and, hx.setPos.one, hx.month.one, hx.monthDay.one, hx.yearDay.one, hx.weekNo.one, hx.day.one, hx.hour.one, hx.minute.one, hx.second.one, hx.easter.one]
    refine callX_of (textAwake_A hG _ (hH.more _)) (List.prefix_refl _) ?_
    simp only [go_sem, he, g1, setD_some]
    exact ⟨_, rfl⟩
  | true =>
    have hc : CleanP r := clean_spec (by unfold bareOk at hb; rw [Bool.and_eq_true] at hb; exact hb.1)
    have htl := textOf_len hc
    simp only [ruCells, go_sem, he, g1, setD_some, Bool.true_and, hx.setPos.one, hx.month.one, hx.monthDay.one, hx.yearDay.one, hx.weekNo.one, hx.day.one, hx.hour.one, hx.minute.one, hx.second.one, hx.easter.one]
    refine callX_of (textNil_A hG (bare r) x (clean_ok hc) _ ((bare_at hx).more _)) (List.prefix_refl _) ?_
    obtain ⟨b, hb1, hb2, t, hb3⟩ := bads_ok hc (k := which % 16) (by omega)
    unfold bads at hb1
    generalize textOf (parts (bare r)) = tx at *
    simp only [go_sem, he, g1, setD_some]
    refine ⟨by omega, by omega, by omega, by omega, by omega, by omega, by omega, by omega, by omega, by omega, by omega, ?_⟩
    have w1 : IntKind.i64.wrap ((which : Nat) : Int) = (which : Int) := wI64 (by omega)
    have w2 : ((which : Nat) : Int).tmod 16 = ((which % 16 : Nat) : Int) := by rw [Int.tmod_eq_emod_of_nonneg (by omega)]; rfl
    have w3 : (0 : Int) ≤ ((which % 16 : Nat) : Int) ∧ ((which % 16 : Nat) : Int) < ((16 : Nat) : Int) := ⟨by omega, by omega⟩
    have w4 := congrArg (Option.map vS) hb1
    rw [← List.getElem?_map] at w4
    simp only [List.map_cons, List.map_nil, Option.map_some] at w4
    simp only [go_sem, he, g1, setD_some, conv_int (P := Tryz.prog) (s := 5) (d := 3) Tryz.underlying5 Tryz.underlying3, w1, w2, w3, w4]
    refine callX_any (parseOption_A hG b hb2 _ (hH.more _)) ?_
    rw [hb3]
    rintro v' h' ⟨⟨l, rfl, hll, hl1⟩, G', rfl⟩
    match l, hll with
    | [a0, a1, a2, a3, a4, a5, a6, a7, a8, a9, a10, a11, a12, a13, a14, a15, a16, a17], _ =>
    simp only [List.all_cons, List.all_nil, Bool.and_true, Bool.and_eq_true] at hl1
    obtain ⟨o0, o1, o2, o3, o4, o5, o6, o7, o8, o9, o10, o11, o12, o13, o14, o15, o16, o17⟩ := hl1
    simp only [go_sem, he, g1, setD_some, o0, o1, o2, o3, o4, o5, o6, o7, o8, o9, o10, o11, o12, o13, o14, o15, o16, o17]
    refine callX_of (textAwake_A hG _ (hH.more _)) (List.prefix_refl _) ?_
    simp only [go_sem, he, g1, setD_some]
    exact ⟨_, rfl⟩
end Go.Proofs.YtlfpjdcogkcjlaaGreatDoor.F
/- A rule that comes in. -/
namespace Go.Proofs.YtlfpjdcogkcjlaaGreatDoor.F
open Go.ChangeShapes Go.WideShapes Go.RowKit Go.Deep Go.Proofs.YtlfpjdcogkcjlaaGreatDoor.AL Go.Proofs.YtlfpjdcogkcjlaaGreatDoor.B
set_option linter.unusedVariables false
set_option maxRecDepth 100000
theorem one25 : ∀ fs, Tryz.prog.underlying 25 = some (.struct fs) → oneCellFields Tryz.prog fs = true := by
  intro fs h
  rw [Tryz.underlying25] at h
  simp only [Option.some.injEq, TypeDesc.struct.injEq] at h
  subst h
  kernel_rfl
theorem c25 : Tryz.prog.cellsOf 25 = 18 := by kernel_rfl
section
variable {H : Type} {enc : TypeId × Value → H} {W : World}
/-- A rule that comes in: its cells as values of the abstract heap, if the ten slices' objects stand from place k on. -/
theorem rule_obj {r : Reach} {b0 : Nat} {v : Value} {d : DataW H} {p : List MemPlace} (hW : 0 < W.heap.size) (hv : Value.okWide Tryz.prog W r b0 25 v) (h : DataW.Trod enc Tryz.prog W 0 (fun _ => true) true 25 v d p) :
    ∃ (ru : Ru) (xs : Nat → Rs) (L : List (AObj × (Nat × Nat))), RuNum ru ∧ L.length = 10 ∧ (∀ q ∈ L, (∀ m : Places, relO (CB W) m W q.2 q.1) ∧ q.1.mine = false) ∧
      (∀ (k : Nat) (H : Heap), (∀ i p, L[i]? = some p → H[k + i]? = some p.1) → RuAt H ru (xs k)) ∧
      (∀ (k : Nat) (m : Places), (∀ i p, L[i]? = some p → m[k + i]? = some p.2) → AL.rel m W (.agg (ruCells ru (xs k))) v) := by
  obtain ⟨l, rfl, hl, n, hf⟩ := open_fields Tryz.underlying25 (one25 _ Tryz.underlying25) c25 hv h
  match l, hl with
  | [a0, a1, a2, a3, a4, a5, a6, a7, a8, a9, a10, a11, a12, a13, a14, a15, a16, a17], _ =>
  obtain ⟨_, h0⟩ := hf 0 _ _ rfl rfl
  obtain ⟨_, h1⟩ := hf 1 _ _ rfl rfl
  obtain ⟨_, h2⟩ := hf 2 _ _ rfl rfl
  obtain ⟨_, h3⟩ := hf 3 _ _ rfl rfl
  obtain ⟨_, h4⟩ := hf 4 _ _ rfl rfl
  obtain ⟨_, h5⟩ := hf 5 _ _ rfl rfl
  obtain ⟨_, h6⟩ := hf 6 _ _ rfl rfl
  obtain ⟨_, h7⟩ := hf 7 _ _ rfl rfl
  obtain ⟨_, h8⟩ := hf 8 _ _ rfl rfl
  obtain ⟨_, h9⟩ := hf 9 _ _ rfl rfl
  obtain ⟨_, h10⟩ := hf 10 _ _ rfl rfl
  obtain ⟨_, h11⟩ := hf 11 _ _ rfl rfl
  obtain ⟨_, h12⟩ := hf 12 _ _ rfl rfl
  obtain ⟨_, h13⟩ := hf 13 _ _ rfl rfl
  obtain ⟨_, h14⟩ := hf 14 _ _ rfl rfl
  obtain ⟨_, h15⟩ := hf 15 _ _ rfl rfl
  obtain ⟨_, h16⟩ := hf 16 _ _ rfl rfl
  obtain ⟨_, h17⟩ := hf 17 _ _ rfl rfl
  clear hf
  obtain ⟨n0, e0, _, w0⟩ := DataW.trod_int Tryz.underlying5 h0
  obtain ⟨n1, e1, _⟩ := DataW.trod_bool Tryz.underlying4 h1
  obtain ⟨n2, e2, _, w2⟩ := DataW.trod_int Tryz.underlying2 h2
  obtain ⟨n3, e3, _, w3⟩ := DataW.trod_int Tryz.underlying3 h3
  obtain ⟨n4, e4, _, w4⟩ := DataW.trod_int Tryz.underlying3 h4
  obtain ⟨n5, e5, _, w5⟩ := DataW.trod_int Tryz.underlying3 h5
  obtain ⟨n6, e6, _⟩ := DataW.trod_bool Tryz.underlying4 h6
  obtain ⟨n7, e7, _, w7⟩ := DataW.trod_int Tryz.underlying2 h7
  obtain ⟨x8, q8, o8, l8, k8, s8, r8⟩ := ints_obj Tryz.underlying22 Tryz.underlying3 c3 hW h8
  obtain ⟨x9, q9, o9, l9, k9, s9, r9⟩ := ints_obj Tryz.underlying22 Tryz.underlying3 c3 hW h9
  obtain ⟨x10, q10, o10, l10, k10, s10, r10⟩ := ints_obj Tryz.underlying22 Tryz.underlying3 c3 hW h10
  obtain ⟨x11, q11, o11, l11, k11, s11, r11⟩ := ints_obj Tryz.underlying22 Tryz.underlying3 c3 hW h11
  obtain ⟨x12, q12, o12, l12, k12, s12, r12⟩ := ints_obj Tryz.underlying22 Tryz.underlying3 c3 hW h12
  obtain ⟨x13, q13, o13, l13, k13, s13, r13⟩ := days_obj Tryz.underlying23 Tryz.underlying47 (by kernel_rfl) rfl rfl c3 c3 Tryz.underlying3 Tryz.underlying3 hW h13
  obtain ⟨x14, q14, o14, l14, k14, s14, r14⟩ := ints_obj Tryz.underlying22 Tryz.underlying3 c3 hW h14
  obtain ⟨x15, q15, o15, l15, k15, s15, r15⟩ := ints_obj Tryz.underlying22 Tryz.underlying3 c3 hW h15
  obtain ⟨x16, q16, o16, l16, k16, s16, r16⟩ := ints_obj Tryz.underlying22 Tryz.underlying3 c3 hW h16
  obtain ⟨x17, q17, o17, l17, k17, s17, r17⟩ := ints_obj Tryz.underlying22 Tryz.underlying3 c3 hW h17
  clear h0 h1 h2 h3 h4 h5 h6 h7 h8 h9 h10 h11 h12 h13 h14 h15 h16 h17
  simp only [List.cons.injEq, and_true] at e0 e1 e2 e3 e4 e5 e6 e7
  subst e0; subst e1; subst e2; subst e3; subst e4; subst e5; subst e6; subst e7
  have b0 := wf_range8 w0
  obtain ⟨f, rfl⟩ : ∃ f : Nat, n0 = (f : Int) := ⟨n0.toNat, by omega⟩
  refine ⟨⟨f, n1, n2, n3, n4, n5, n6, n7, l8, l9, l10, l11, l12, l13, l14, l15, l16, l17⟩, fun k => ⟨x8 (k + 0), x9 (k + 1), x10 (k + 2), x11 (k + 3), x12 (k + 4), x13 (k + 5), x14 (k + 6), x15 (k + 7), x16 (k + 8), x17 (k + 9)⟩,
    [(o8, q8), (o9, q9), (o10, q10), (o11, q11), (o12, q12), (o13, q13), (o14, q14), (o15, q15), (o16, q16), (o17, q17)],
    ⟨by show f ≤ 255; omega, wf_range w2, wf_range w7, wf_range w3, wf_range w4, wf_range w5, r8, r9, r10, r11, r12, r14, r15, r16, r17, r13⟩, rfl, ?_, ?_, ?_⟩
  · intro q hq
    simp only [List.mem_cons, List.mem_nil_iff, or_false] at hq
    rcases hq with rfl | rfl | rfl | rfl | rfl | rfl | rfl | rfl | rfl | rfl
    · exact ⟨k8.relO, k8.mine⟩
    · exact ⟨k9.relO, k9.mine⟩
    · exact ⟨k10.relO, k10.mine⟩
    · exact ⟨k11.relO, k11.mine⟩
    · exact ⟨k12.relO, k12.mine⟩
    · exact ⟨k13.relO, k13.mine⟩
    · exact ⟨k14.relO, k14.mine⟩
    · exact ⟨k15.relO, k15.mine⟩
    · exact ⟨k16.relO, k16.mine⟩
    · exact ⟨k17.relO, k17.mine⟩
  · intro k H hH
    exact ⟨s8 _ _ (hH 0 _ rfl), s9 _ _ (hH 1 _ rfl), s10 _ _ (hH 2 _ rfl), s11 _ _ (hH 3 _ rfl), s12 _ _ (hH 4 _ rfl), s13 _ _ (hH 5 _ rfl), s14 _ _ (hH 6 _ rfl), s15 _ _ (hH 7 _ rfl), s16 _ _ (hH 8 _ rfl), s17 _ _ (hH 9 _ rfl)⟩
  · intro k m hm
    exact ⟨_, rfl, rfl, rfl, rfl, rfl, rfl, rfl, rfl, rfl, k8.rel _ _ (hm 0 _ rfl), k9.rel _ _ (hm 1 _ rfl), k10.rel _ _ (hm 2 _ rfl), k11.rel _ _ (hm 3 _ rfl), k12.rel _ _ (hm 4 _ rfl), k13.rel _ _ (hm 5 _ rfl), k14.rel _ _ (hm 6 _ rfl), k15.rel _ _ (hm 7 _ rfl), k16.rel _ _ (hm 8 _ rfl), k17.rel _ _ (hm 9 _ rfl), trivial⟩
end
end Go.Proofs.YtlfpjdcogkcjlaaGreatDoor.F
/- A date's text read again tells the same moment. -/
namespace Go.Proofs.YtlfpjdcogkcjlaaGreatDoor.F
open Go.RowKit Go.Proofs.YtlfpjdcogkcjlaaGreatDoor.AL Go.Proofs.YtlfpjdcogkcjlaaGreatDoor.B
set_option linter.unusedVariables false
set_option linter.unusedSimpArgs false
set_option maxRecDepth 20000
attribute [local irreducible] aops acode bindK bindV bindH callX callK condK guardK Kseq Kblk Knorm Kfun Kloop Kjoin outK AWp appendA
attribute [local go_sem] acode_skip acode_seq acode_region acode_cond acode_block acode_exit acode_ret acode_loop Kseq_normal Kseq_exit Kseq_ret Kblk_normal Kblk_ret Kblk_eq Kblk_ne Knorm_eq Kloop_normal Kloop_exit Kloop_ret Kjoin_normal Kjoin_exit Kjoin_ret condK_true condK_false bindK_put bindV_put bindK_no bindV_no bindH_no aops_nil gops wantK_some wantV_bool wantV_undef guardK_true guardK_false guardK_none aops_move aops_assign aops_pick aops_nilCheck aops_binOp aops_unOp aops_convert aops_fieldAddr aops_indexAddr aops_slice aops_index aops_extract aops_makeInterface aops_makeFunc aops_build aops_load aops_lookup aops_alloc aops_box aops_buildSlice aops_makeSlice aops_makeMap aops_store aops_insert aops_mapUpdate aops_len aops_append aops_call opA_tmp opA_const opA_global opA_func get_mk look_nil look_eq look_ne len_mk List.map_cons List.map_nil Option.map_some Option.map_none bin_add bin_sub bin_mul bin_quo bin_rem bin_eql bin_neq bin_lss bin_leq bin_gtr bin_geq bin_cat bin_seql bin_sneq bin_neq_ifc bin_eql_ifc bin_neq_nn bin_eql_nn bin_neq_ptr bin_eql_ptr bin_neq_pn isIfc_true isPtr_true bin_eql2 bin_neq2 aops_max max_int un_not un_neg lenA_K lenK_str lenK_nil lenK_sl lenK_array pick_bool pick_val bindV_ite bindK_ite bindH_ite slotV_sl slotK_some slotV_ptr slotR_some sliceV_sl cutK_some sliceV_str cutS_some bound_none bound_some indexA_str atS_some mkS fieldV_ptr loadV_ptr cellsK_ro cellsK_own loadK_one loadK_many storeA_ptr storeK_own allocA_some heap_len heap_get0 heap_get heap_set0 heap_set Kfun_ret Kfun_normal resA_nil resA_tmp resA_cell outK_some packA_one packA_nil packA_two List.length_cons List.length_nil List.getElem?_cons_zero List.getElem?_cons_succ List.set_cons_zero List.set_cons_succ List.cons_append List.nil_append List.append_assoc Nat.zero_add Nat.add_zero List.all_cons List.all_nil Value.oneCell' Bool.and_true Bool.and_self if_true if_false Bool.false_eq_true partsA buildV buildA fillA Option.bind_some putCells List.drop_succ_cons List.drop_zero List.take_succ_cons List.take_zero List.take_nil List.drop_nil and_self and_true true_and Option.some.injEq ne_eq not_false_eq_true Option.map_map List.getElem?_toArray beq_self_eq_true Bool.true_beq Bool.false_beq Bool.not_true Bool.not_false decide_true decide_false beq_true Nat.mul_one Nat.one_mul Nat.zero_mul bsA buildSliceA zerosN List.append_nil Int.toNat_natCast Int.toNat_zero boxA one_val one_ptr one_sl one_mp one_ifc one_fn avCells_agg avCells_val valCells_true valCells_agg avCells_ptr avCells_sl avCells_mp avCells_ifc avCells_fn app_cons app_nil lookupA insertA ifaceV extractA kd2 ars127 fp127 ars60 fp60 ars31 fp31 eq2_99 eq2_84 eq2_47 fp52 sz2 kd3 sz3 kd4 sz4 kd5 sz5 kd9 sz9 kd22 sz22 el22 kd23 sz23 el23 kd25 sz25 zc25 fp25 fo25_0 fo25_1 fo25_2 fo25_3 fo25_4 fo25_5 fo25_6 fo25_7 fo25_8 fo25_9 fo25_10 fo25_11 fo25_12 fo25_13 fo25_14 fo25_15 fo25_16 fo25_17 kd31 sz31 zc31 ar31 kd32 sz32 el32 kd34 sz34 zc34 fp34 fo34_0 fo34_1 fo34_2 fo34_3 fo34_4 fo34_5 fo34_6 fo34_7 fo34_8 fo34_9 fo34_10 fo34_11 fo34_12 fo34_13 fo34_14 fo34_15 fo34_16 fo34_17 el38 el42 kd47 sz47 zc47 fp47 fo47_0 fo47_1 kd52 sz52 zc52 fo52_0 el55 zc60 kd72 sz72 zc72 fp72 fo72_0 fo72_1 el73 isStrMap76 zv4 kd80 sz80 kd84 sz84 zc84 fp84 fo84_0 fo84_1 kd88 sz88 zc88 fp88 fo88_0 fo88_1 fo88_2 fo88_3 kd91 sz91 zc91 fp91 fo91_0 fo91_1 fo91_2 el94 kd99 sz99 zc99 fp99 fo99_0 fo99_1 kd100 sz100 el100 kd102 sz102 zc102 fp102 fo102_0 fo102_1 fo102_2 fo102_3 fo102_4 fo102_5 fo102_6 fo102_7 fo102_8 fo102_9 fo102_10 fo102_11 fo102_12 fo102_13 fo102_14 fo102_15 kd109 sz109 zc109 fp109 isStrMap124 zv80 zc127 kd153 sz153 zc153 ar153 isIface157 kd159 sz159 zc159 fp159 isStrMap177 zv84 Tryz.underlying3 Tryz.underlying4 Tryz.underlying5 Tryz.underlying9 Tryz.underlying21 Tryz.underlying22 Tryz.underlying23 Tryz.underlying32 Tryz.underlying38 Tryz.underlying42 Tryz.underlying47 Tryz.underlying55 Tryz.underlying67 Tryz.underlying73 Tryz.underlying80 Tryz.underlying84 Tryz.underlying94 Tryz.underlying100 Tryz.underlying2 Tryz.underlying127 Tryz.underlying60 Tryz.underlying31
attribute [local go_sem_proc] Nat.reduceLT Nat.reduceBEq Nat.reduceAdd Int.reduceBEq Nat.reduceLeDiff reduceIte Nat.reduceEqDiff Int.reduceEq Int.reduceLE Int.reduceLT Int.reduceNe Nat.reduceMul Nat.reduceSub Int.reduceToNat
def padOk (n d : Nat) : Bool := (padded n d).length == d && ((padded n d).all isDig && digFold (padded n d) == (n : Int))
set_option maxRecDepth 200000 in
theorem pad2_all : ((List.range 100).all fun n => padOk n 2) = true := by kernel_rfl
set_option maxRecDepth 200000 in
theorem pad4_all : ((List.range 10000).all fun n => padOk n 4) = true := by kernel_rfl
theorem padOk_spec {n d : Nat} (h : padOk n d = true) : (padded n d).length = d ∧ (padded n d).all isDig = true ∧ digFold (padded n d) = n := by
  unfold padOk at h
  simp only [Bool.and_eq_true, beq_iff_eq] at h
  exact ⟨h.1, h.2.1, h.2.2⟩
theorem pad2 {n : Int} (h0 : 0 ≤ n) (h1 : n < 100) : (padded n 2).length = 2 ∧ (padded n 2).all isDig = true ∧ digFold (padded n 2) = n := by
  obtain ⟨m, rfl⟩ : ∃ m : Nat, n = (m : Int) := ⟨n.toNat, by omega⟩
  exact padOk_spec (d := 2) (List.all_eq_true.1 pad2_all m (List.mem_range.2 (by omega)))
theorem pad4 {n : Int} (h0 : 0 ≤ n) (h1 : n < 10000) : (padded n 4).length = 4 ∧ (padded n 4).all isDig = true ∧ digFold (padded n 4) = n := by
  obtain ⟨m, rfl⟩ : ∃ m : Nat, n = (m : Int) := ⟨n.toNat, by omega⟩
  exact padOk_spec (d := 4) (List.all_eq_true.1 pad4_all m (List.mem_range.2 (by omega)))
theorem zDigits_app {a s : List UInt8} {k : Nat} {n : Int} (h : a.length = k ∧ a.all isDig = true ∧ digFold a = n) : zDigits (a ++ s) k = some (n, s) := by
  obtain ⟨h1, h2, h3⟩ := h
  unfold zDigits
  rw [if_neg (by rw [List.length_append]; omega), List.take_left' h1, if_pos h2, List.drop_left' h1, h3]
theorem before_next (y : Int) : before (y + 1) = before y + (if leap y then 366 else 365) := by
  unfold before leap
  have e : y + 1 - 1 = y := by omega
  rw [e]
  by_cases h4 : y % 4 = 0 <;> by_cases h1 : y % 100 = 0 <;> by_cases h5 : y % 400 = 0 <;> simp only [h4, h1, h5, decide_true, decide_false, ne_eq, not_true, not_false_eq_true, Bool.or_true, Bool.or_false, Bool.and_true, Bool.and_false, Bool.true_and, Bool.false_and, if_true, if_false, Bool.false_eq_true] <;> omega
theorem msum12 (y : Int) : msum y 12 = if leap y then 366 else 365 := by
  simp only [msum, monthDays]
  cases leap y <;> rfl
theorem yearUp_lt {n : Int} : ∀ (k : Nat) (y : Int), 1 ≤ y → n < before y + 365 * k → n < before (yearUp n k y + 1) ∨ k = 0
  | 0, y, _, h => .inr rfl
  | k + 1, y, h1, h => by
    left
    unfold yearUp
    split
    · rename_i hb
      have hs := before_next y
      have : before (y + 1) ≥ before y + 365 := by rw [hs]; split <;> omega
      rcases yearUp_lt (n := n) k (y + 1) (by omega) (by push_cast at h; omega) with hh | hh
      · exact hh
      · subst hh
        simp only [yearUp]
        omega
    · omega
theorem yearOf_lt {n : Int} (h : 0 ≤ n) : n < before (yearOf n + 1) := by
  unfold yearOf
  have hb : 0 ≤ before (n / 366 + 1) := by unfold before; omega
  rcases yearUp_lt (n := n) (n.toNat + 1) (n / 366 + 1) (by omega) (by omega) with hh | hh
  · exact hh
  · omega
theorem monthUp_sum (y : Int) : ∀ (k : Nat) (m : Nat) (d : Int), 1 ≤ m → 1 ≤ d → msum y (m - 1) + d ≤ msum y 12 → m ≤ 12 → 12 < m + k →
    ∃ m' : Nat, (monthUp y k m d).1 = m' ∧ 1 ≤ m' ∧ m' ≤ 12 ∧ 1 ≤ (monthUp y k m d).2 ∧ (monthUp y k m d).2 ≤ monthDays y m' ∧ msum y (m' - 1) + (monthUp y k m d).2 = msum y (m - 1) + d
  | 0, m, d, _, _, _, h, h' => absurd h' (by omega)
  | k + 1, m, d, h1, hd, hs, h12, hk => by
    unfold monthUp
    have hm : msum y m = msum y (m - 1) + monthDays y m := by
      obtain ⟨j, rfl⟩ : ∃ j, m = j + 1 := ⟨m - 1, by omega⟩
      simp only [msum, Nat.add_sub_cancel]
      rfl
    split
    · rename_i hlt
      by_cases he : m = 12
      · subst he
        omega
      · have := monthUp_sum y k (m + 1) (d - monthDays y m) (by omega) (by omega) (by rw [Nat.add_sub_cancel]; omega) (by omega) (by omega)
        rw [Nat.add_sub_cancel] at this
        obtain ⟨m', e1, e2, e3, e4, e5, e6⟩ := this
        exact ⟨m', e1, e2, e3, e4, e5, by have : msum y (m' - 1) + (monthUp y k (↑(m + 1)) (d - monthDays y ↑m)).2 = _ := e6; push_cast at this ⊢; omega⟩
    · exact ⟨m, rfl, h1, h12, hd, by omega, rfl⟩
/-- The day of a number of days, as a date of the calendar. -/
theorem dayOf_date {n : Int} (h : 0 ≤ n) : ∃ m : Nat, (dayOf n).1 = m ∧ 1 ≤ m ∧ m ≤ 12 ∧ 1 ≤ (dayOf n).2 ∧ (dayOf n).2 ≤ monthDays (yearOf n) m ∧ before (yearOf n) + (dayOf n).2 - 1 + msum (yearOf n) (m - 1) = n := by
  have h1 := yearOf_ok h
  have h2 := yearOf_lt h
  have h3 := before_next (yearOf n)
  have h4 := msum12 (yearOf n)
  have h5 : (if leap (yearOf n) then (366 : Int) else 365) = msum (yearOf n) 12 := h4.symm
  rw [h5] at h3
  obtain ⟨m', e1, e2, e3, e4, e5, e6⟩ := monthUp_sum (yearOf n) 400 1 (n - before (yearOf n) + 1) (by omega) (by omega) (by have e7 : msum (yearOf n) (1 - 1) = 0 := rfl; rw [e7]; omega) (by omega) (by omega)
  refine ⟨m', e1, e2, e3, e4, e5, ?_⟩
  have e7 : msum (yearOf n) (1 - 1) = 0 := rfl
  unfold dayOf
  have e8 : msum (yearOf n) (m' - 1) + (monthUp (yearOf n) 400 1 (n - before (yearOf n) + 1)).2 = msum (yearOf n) (1 - 1) + (n - before (yearOf n) + 1) := e6
  omega
theorem dateSec_day {n h mi s : Int} (hn : 0 ≤ n) : dateSec (yearOf n) (dayOf n).1 (dayOf n).2 h mi s = n * 86400 + h * 3600 + mi * 60 + s := by
  obtain ⟨m, e1, e2, e3, e4, e5, e6⟩ := dayOf_date hn
  unfold dateSec
  rw [e1, show ((m : Int) - 1) / 12 = 0 by omega, show (((m : Int) - 1) % 12).toNat = m - 1 by omega, Int.add_zero, e6]
theorem yearOf_small {n : Int} (h : 0 ≤ n) (h1 : n < before 10000) : yearOf n ≤ 9999 := by
  have h2 := (yearOf_ok h).1
  by_cases hc : yearOf n ≤ 9999
  · exact hc
  · have : before 10000 ≤ before (yearOf n) := by unfold before; omega
    omega
/-- The three forms of a date. -/
theorem parse_full {t : Int} (h0 : 0 ≤ t) (h1 : t < before 10000 * 86400) : zParse [84, 49, 53, 48, 52, 48, 53, 90] (dateText t) = some t := by
  have hn : 0 ≤ t / 86400 := by omega
  have hy := yearOf_ok hn
  have hy9 := yearOf_small hn (by omega)
  obtain ⟨m, e1, e2, e3, e4, e5, e6⟩ := dayOf_date hn
  have hmd := monthDays_pos (yearOf (t / 86400)) m
  unfold zParse dateText
  simp only [List.append_assoc]
  rw [zDigits_app (pad4 (by omega) (by omega)), Option.bind_some]
  simp only
  rw [zDigits_app (pad2 (by omega) (by omega)), Option.bind_some]
  simp only
  rw [if_neg (by omega), if_neg (by omega), zDigits_app (pad2 (by omega) (by omega)), Option.bind_some]
  simp only
  rw [if_neg (by simp)]
  unfold zTime
  rw [if_neg (by simp), if_neg (by simp)]
  simp only [List.singleton_append, List.drop_succ_cons, List.drop_zero]
  rw [zDigits_app (pad2 (by omega) (by omega)), Option.bind_some]
  simp only
  rw [if_neg (by omega), zDigits_app (pad2 (by omega) (by omega)), Option.bind_some]
  simp only
  rw [if_neg (by omega), zDigits_app (pad2 (by omega) (by omega)), Option.bind_some]
  simp only
  rw [if_neg (by omega)]
  unfold zEnd
  rw [if_neg (by simp), if_neg (by omega), if_neg (by rw [e1]; omega), dateSec_day hn]
  congr 1
  omega
def dateA (t : Int) : List UInt8 := padded (yearOf (t / 86400)) 4 ++ (padded (dayOf (t / 86400)).1 2 ++ padded (dayOf (t / 86400)).2 2)
def dateB (t : Int) : List UInt8 := dateA t ++ (84 :: (padded (t % 86400 / 3600) 2 ++ (padded (t % 86400 / 60 % 60) 2 ++ padded (t % 86400 % 60) 2)))
theorem dateText_eq (t : Int) : dateText t = dateB t ++ [90] := by
  unfold dateText dateB dateA
  simp only [List.append_assoc, List.cons_append, List.nil_append]
theorem dateA_len {t : Int} (h0 : 0 ≤ t) (h1 : t < before 10000 * 86400) : (dateA t).length = 8 := by
  have hn : 0 ≤ t / 86400 := by omega
  have hy := yearOf_ok hn
  have hy9 := yearOf_small hn (by omega)
  obtain ⟨m, e1, e2, e3, e4, e5, e6⟩ := dayOf_date hn
  have hmd := monthDays_pos (yearOf (t / 86400)) m
  unfold dateA
  rw [List.length_append, List.length_append, (pad4 (by omega) (by omega)).1, (pad2 (by omega) (by omega)).1, (pad2 (by omega) (by omega)).1]
theorem dateB_len {t : Int} (h0 : 0 ≤ t) (h1 : t < before 10000 * 86400) : (dateB t).length = 15 := by
  unfold dateB
  rw [List.length_append, List.length_cons, List.length_append, List.length_append, dateA_len h0 h1, (pad2 (by omega) (by omega)).1, (pad2 (by omega) (by omega)).1, (pad2 (by omega) (by omega)).1]
theorem dateText_15 {t : Int} (h0 : 0 ≤ t) (h1 : t < before 10000 * 86400) : (dateText t).take 15 = dateB t := by
  rw [dateText_eq, List.take_left' (dateB_len h0 h1)]
theorem dateText_8 {t : Int} (h0 : 0 ≤ t) (h1 : t < before 10000 * 86400) : (dateText t).take 8 = dateA t := by
  rw [dateText_eq]
  unfold dateB
  rw [List.append_assoc, List.take_left' (dateA_len h0 h1)]
theorem loc_full {t : Int} (h0 : 0 ≤ t) (h1 : t < before 10000 * 86400) : zLoc (dateText t) = some t := by
  have hl : (dateText t).length = 16 := by rw [dateText_eq, List.length_append, dateB_len h0 h1]; rfl
  unfold zLoc
  rw [if_neg (by omega), if_neg (by omega), parse_full h0 h1]
theorem loc_day {t : Int} (h0 : 0 ≤ t) (h1 : t < before 10000 * 86400) : zLoc (dateA t) = some (t - t % 86400) := by
  have hn : 0 ≤ t / 86400 := by omega
  have hy := yearOf_ok hn
  have hy9 := yearOf_small hn (by omega)
  obtain ⟨m, e1, e2, e3, e4, e5, e6⟩ := dayOf_date hn
  have hmd := monthDays_pos (yearOf (t / 86400)) m
  unfold zLoc
  rw [if_pos (dateA_len h0 h1)]
  have en : ∀ a : List UInt8, a = a ++ [] := fun a => (List.append_nil a).symm
  unfold zParse dateA
  rw [zDigits_app (pad4 (by omega) (by omega)), Option.bind_some]
  simp only
  rw [zDigits_app (pad2 (by omega) (by omega)), Option.bind_some]
  simp only
  rw [if_neg (by omega), if_neg (by omega), en (padded (dayOf (t / 86400)).2 2), zDigits_app (pad2 (by omega) (by omega)), Option.bind_some]
  simp only [if_true]
  unfold zEnd
  rw [if_neg (by simp), if_neg (by omega), if_neg (by rw [e1]; omega), dateSec_day hn]
  congr 1
  omega
theorem loc_noZ {t : Int} (h0 : 0 ≤ t) (h1 : t < before 10000 * 86400) : zLoc (dateB t) = some t := by
  have hn : 0 ≤ t / 86400 := by omega
  have hy := yearOf_ok hn
  have hy9 := yearOf_small hn (by omega)
  obtain ⟨m, e1, e2, e3, e4, e5, e6⟩ := dayOf_date hn
  have hmd := monthDays_pos (yearOf (t / 86400)) m
  have hl := dateB_len h0 h1
  unfold zLoc
  rw [if_neg (by omega), if_pos hl]
  unfold zParse dateB dateA
  simp only [List.append_assoc]
  rw [zDigits_app (pad4 (by omega) (by omega)), Option.bind_some]
  simp only
  rw [zDigits_app (pad2 (by omega) (by omega)), Option.bind_some]
  simp only
  rw [if_neg (by omega), if_neg (by omega), zDigits_app (pad2 (by omega) (by omega)), Option.bind_some]
  simp only
  rw [if_neg (by simp)]
  unfold zTime
  have en : ∀ a : List UInt8, a = a ++ [] := fun a => (List.append_nil a).symm
  rw [if_neg (by simp), if_neg (by simp)]
  simp only [List.drop_succ_cons, List.drop_zero]
  rw [zDigits_app (pad2 (by omega) (by omega)), Option.bind_some]
  simp only
  rw [if_neg (by omega), zDigits_app (pad2 (by omega) (by omega)), Option.bind_some]
  simp only
  rw [if_neg (by omega), en (padded (t % 86400 % 60) 2), zDigits_app (pad2 (by omega) (by omega)), Option.bind_some]
  simp only
  rw [if_neg (by omega)]
  unfold zEnd
  rw [if_neg (by simp), if_neg (by omega), if_neg (by rw [e1]; omega), dateSec_day hn]
  congr 1
  omega
end Go.Proofs.YtlfpjdcogkcjlaaGreatDoor.F
/-
  Further values: an array's element.
-/
namespace Go.Proofs.YtlfpjdcogkcjlaaGreatDoor.AL
open Go.RowKit
set_option linter.unusedVariables false
variable {P : Program}
/-- How many elements of one cell an array has. -/
def ai (P : Program) (t : TypeId) : Option Nat := match P.underlying t with
  | some (.array len e) => match kd P e with
    | some .one => some len
    | _ => none
  | _ => none
def atK (a : Option Nat) (l : List AV) (n : Int) : Option AV := match a with
  | some len => if 0 ≤ n ∧ n < len then l[n.toNat]? else none
  | none => none
theorem indexA_agg {t : TypeId} {l : List AV} {k : IntKind} {n : Int} : indexA P t (.agg l) (.val (.int k n)) = atK (ai P t) l n := by
  unfold indexA atK ai
  simp only
  cases P.underlying t with
  | none => rfl
  | some d =>
    cases d with
    | array len e =>
      simp only
      cases kd P e with
      | none => rfl
      | some kk => cases kk <;> rfl
    | _ => rfl
theorem atK_some {len : Nat} {l : List AV} {n : Int} : atK (some len) l n = if 0 ≤ n ∧ n < len then l[n.toNat]? else none := rfl
end Go.Proofs.YtlfpjdcogkcjlaaGreatDoor.AL
/- More facts of the program's types. -/
namespace Go.Proofs.YtlfpjdcogkcjlaaGreatDoor.F
open Go.RowKit Go.Proofs.YtlfpjdcogkcjlaaGreatDoor.AL
theorem kd55 : kd Tryz.prog 55 = (some Kind.one) := by kernel_rfl
theorem ai60 : ai Tryz.prog 60 = some 6 := by kernel_rfl
theorem ai127 : ai Tryz.prog 127 = some 7 := by kernel_rfl
end Go.Proofs.YtlfpjdcogkcjlaaGreatDoor.F
/- Slices that grow, of any elements; the seconds of times. -/
namespace Go.Proofs.YtlfpjdcogkcjlaaGreatDoor.F
open Go.RowKit Go.Proofs.YtlfpjdcogkcjlaaGreatDoor.AL Go.Proofs.YtlfpjdcogkcjlaaGreatDoor.B
set_option linter.unusedVariables false
set_option linter.unusedSimpArgs false
set_option maxRecDepth 20000
attribute [local irreducible] aops acode bindK bindV bindH callX callK condK guardK Kseq Kblk Knorm Kfun Kloop Kjoin outK AWp appendA
attribute [local go_sem] acode_skip acode_seq acode_region acode_cond acode_block acode_exit acode_ret acode_loop Kseq_normal Kseq_exit Kseq_ret Kblk_normal Kblk_ret Kblk_eq Kblk_ne Knorm_eq Kloop_normal Kloop_exit Kloop_ret Kjoin_normal Kjoin_exit Kjoin_ret condK_true condK_false bindK_put bindV_put bindK_no bindV_no bindH_no aops_nil gops wantK_some wantV_bool wantV_undef guardK_true guardK_false guardK_none aops_move aops_assign aops_pick aops_nilCheck aops_binOp aops_unOp aops_convert aops_fieldAddr aops_indexAddr aops_slice aops_index aops_extract aops_makeInterface aops_makeFunc aops_build aops_load aops_lookup aops_alloc aops_box aops_buildSlice aops_makeSlice aops_makeMap aops_store aops_insert aops_mapUpdate aops_len aops_append aops_call opA_tmp opA_const opA_global opA_func get_mk look_nil look_eq look_ne len_mk List.map_cons List.map_nil Option.map_some Option.map_none bin_add bin_sub bin_mul bin_quo bin_rem bin_eql bin_neq bin_lss bin_leq bin_gtr bin_geq bin_cat bin_seql bin_sneq bin_neq_ifc bin_eql_ifc bin_neq_nn bin_eql_nn bin_neq_ptr bin_eql_ptr bin_neq_pn isIfc_true isPtr_true bin_eql2 bin_neq2 aops_max max_int un_not un_neg lenA_K lenK_str lenK_nil lenK_sl lenK_array pick_bool pick_val bindV_ite bindK_ite bindH_ite slotV_sl slotK_some slotV_ptr slotR_some sliceV_sl cutK_some sliceV_str cutS_some bound_none bound_some indexA_str atS_some mkS fieldV_ptr loadV_ptr cellsK_ro cellsK_own loadK_one loadK_many storeA_ptr storeK_own allocA_some heap_len heap_get0 heap_get heap_set0 heap_set Kfun_ret Kfun_normal resA_nil resA_tmp resA_cell outK_some packA_one packA_nil packA_two List.length_cons List.length_nil List.getElem?_cons_zero List.getElem?_cons_succ List.set_cons_zero List.set_cons_succ List.cons_append List.nil_append List.append_assoc Nat.zero_add Nat.add_zero List.all_cons List.all_nil Value.oneCell' Bool.and_true Bool.and_self if_true if_false Bool.false_eq_true partsA buildV buildA fillA Option.bind_some putCells List.drop_succ_cons List.drop_zero List.take_succ_cons List.take_zero List.take_nil List.drop_nil and_self and_true true_and Option.some.injEq ne_eq not_false_eq_true Option.map_map List.getElem?_toArray beq_self_eq_true Bool.true_beq Bool.false_beq Bool.not_true Bool.not_false decide_true decide_false beq_true Nat.mul_one Nat.one_mul Nat.zero_mul bsA buildSliceA zerosN List.append_nil Int.toNat_natCast Int.toNat_zero boxA one_val one_ptr one_sl one_mp one_ifc one_fn avCells_agg avCells_val valCells_true valCells_agg avCells_ptr avCells_sl avCells_mp avCells_ifc avCells_fn app_cons app_nil lookupA insertA ifaceV extractA kd2 ars127 fp127 ars60 fp60 ars31 fp31 eq2_99 eq2_84 eq2_47 fp52 sz2 kd3 sz3 kd4 sz4 kd5 sz5 kd9 sz9 kd22 sz22 el22 kd23 sz23 el23 kd25 sz25 zc25 fp25 fo25_0 fo25_1 fo25_2 fo25_3 fo25_4 fo25_5 fo25_6 fo25_7 fo25_8 fo25_9 fo25_10 fo25_11 fo25_12 fo25_13 fo25_14 fo25_15 fo25_16 fo25_17 kd31 sz31 zc31 ar31 kd32 sz32 el32 kd34 sz34 zc34 fp34 fo34_0 fo34_1 fo34_2 fo34_3 fo34_4 fo34_5 fo34_6 fo34_7 fo34_8 fo34_9 fo34_10 fo34_11 fo34_12 fo34_13 fo34_14 fo34_15 fo34_16 fo34_17 el38 el42 kd47 sz47 zc47 fp47 fo47_0 fo47_1 kd52 sz52 zc52 fo52_0 el55 zc60 kd72 sz72 zc72 fp72 fo72_0 fo72_1 el73 kd80 sz80 kd84 sz84 zc84 fp84 fo84_0 fo84_1 kd88 sz88 zc88 fp88 fo88_0 fo88_1 fo88_2 fo88_3 kd91 sz91 zc91 fp91 fo91_0 fo91_1 fo91_2 el94 kd99 sz99 zc99 fp99 fo99_0 fo99_1 kd100 sz100 el100 kd102 sz102 zc102 fp102 fo102_0 fo102_1 fo102_2 fo102_3 fo102_4 fo102_5 fo102_6 fo102_7 fo102_8 fo102_9 fo102_10 fo102_11 fo102_12 fo102_13 fo102_14 fo102_15 kd109 sz109 zc109 fp109 isStrMap124 zv80 zc127 kd153 sz153 zc153 ar153 isIface157 kd159 sz159 zc159 fp159 isStrMap177 zv84 Tryz.underlying3 Tryz.underlying4 Tryz.underlying5 Tryz.underlying9 Tryz.underlying21 Tryz.underlying22 Tryz.underlying23 Tryz.underlying32 Tryz.underlying38 Tryz.underlying42 Tryz.underlying47 Tryz.underlying55 Tryz.underlying67 Tryz.underlying73 Tryz.underlying80 Tryz.underlying84 Tryz.underlying94 Tryz.underlying100 Tryz.underlying2 Tryz.underlying127 Tryz.underlying60 Tryz.underlying31 kd55 ai60 ai127 indexA_agg atK_some isStrMap76 zv4
attribute [local go_sem_proc] Nat.reduceLT Nat.reduceBEq Nat.reduceAdd Int.reduceBEq Nat.reduceLeDiff reduceIte Nat.reduceEqDiff Int.reduceEq Int.reduceLE Int.reduceLT Int.reduceNe Nat.reduceMul Nat.reduceSub Int.reduceToNat
/-- A slice of n elements of type t, each of st cells, that grows: none yet, or one of the call's own. -/
def GrN (t st : Nat) (H h : Heap) (x : AV) (n : Nat) (cs : List AV) : Prop := (∃ G, h = H ++ G) ∧ cs.length = n * st ∧ ((x = .val (.slice none 0 0) ∧ n = 0) ∨ ∃ o, x = .sl true o 0 n st ∧ h[o]? = some (.own t cs) ∧ H.length ≤ o)
theorem GrN.nil {t st : Nat} {H h : Heap} (hG : ∃ G, h = H ++ G) : GrN t st H h (.val (.slice none 0 0)) 0 [] := ⟨hG, by simp, .inl ⟨rfl, rfl⟩⟩
theorem GrN.more {t st : Nat} {H h : Heap} {x : AV} {n : Nat} {cs : List AV} (hO : GrN t st H h x n cs) (G : Heap) : GrN t st H (h ++ G) x n cs := by
  obtain ⟨⟨G0, rfl⟩, hl, hx⟩ := hO
  refine ⟨⟨G0 ++ G, List.append_assoc _ _ _⟩, hl, ?_⟩
  rcases hx with hx | ⟨o, h1, h2, h3⟩
  · exact .inl hx
  · exact .inr ⟨o, h1, get_more h2, h3⟩
theorem GrN.push {s t st bytes : Nat} {z : List Value} (hel : el Tryz.prog s = some (t, st, bytes, z)) (hb : bytes ≤ 1000) {H h : Heap} {x : AV} {n : Nat} {cs : List AV} (hO : GrN t st H h x n cs) {c : List AV} (hc : c.length = st) (h1 : c.all AV.one = true) (hn : n ≤ 100000000) :
    ∃ x' h', appendA Tryz.prog s x (.sl true h.length 0 1 st) (h ++ [AObj.own t c]) = some (x', h') ∧ GrN t st H h' x' (n + 1) (cs ++ c) ∧ ∀ (p : Nat) (y : AObj), h[p]? = some y → (∀ q, x = .sl true q 0 n st → p ≠ q) → h'[p]? = some y := by
  obtain ⟨⟨G, rfl⟩, hl, hx⟩ := hO
  have e1 : cellsOf (H ++ G ++ [AObj.own t c]) (H ++ G).length = some c := by unfold cellsOf; rw [heap_get0]; rfl
  have e3 : (c.drop 0).take (1 * st) = c := by rw [List.drop_zero, Nat.one_mul, List.take_of_length_le (by omega)]
  rcases hx with ⟨rfl, rfl⟩ | ⟨o, rfl, ho, hol⟩
  · have hcs : cs = [] := List.length_eq_zero_iff.1 (by omega)
    subst hcs
    refine ⟨.sl true (H ++ G ++ [AObj.own t c]).length 0 1 st, (H ++ G ++ [AObj.own t c]) ++ [.own t c], ?_, ⟨⟨G ++ [AObj.own t c] ++ [.own t c], by simp only [List.append_assoc]⟩, by simp; omega, .inr ⟨_, rfl, by rw [heap_get0]; rfl, by simp only [List.length_append]; omega⟩⟩, fun p y hp _ => get_more (get_more hp)⟩
    unfold appendA
    rw [hel]
    simp only [e1, e3]
    rw [if_pos ⟨by omega, trivial, h1⟩, if_neg (by omega), if_pos ⟨by omega, by omega⟩]
  · have hlt : o < (H ++ G).length := (List.getElem?_eq_some_iff.1 ho).1
    have e2 : (H ++ G ++ [AObj.own t c])[o]? = some (.own t cs) := by rw [get_less hlt]; exact ho
    have e4 : cs.take (n * st) = cs := List.take_of_length_le (by omega)
    have hb2 : (n + 1) * bytes ≤ 100000001 * 1000 := Nat.mul_le_mul (by omega) hb
    refine ⟨.sl true (H ++ G ++ [AObj.own t c]).length 0 (n + 1) st, ((H ++ G) ++ [AObj.own t c]).set o .gone ++ [AObj.own t (cs ++ c)], ?_, ⟨⟨(G ++ [AObj.own t c]).set (o - H.length) .gone ++ [AObj.own t (cs ++ c)], ?_⟩, ?_, .inr ⟨(H ++ G ++ [AObj.own t c]).length, rfl, ?_, by simp only [List.length_append]; omega⟩⟩, ?_⟩
    · unfold appendA
      rw [hel]
      simp only [e1, e2, e3, e4]
      rw [if_pos ⟨by omega, trivial, h1⟩, if_pos ⟨trivial, trivial, by omega, by omega, by omega⟩]
    · rw [List.append_assoc, set_behind hol, List.append_assoc]
    · rw [List.length_append, Nat.succ_mul]; omega
    · have : ((H ++ G ++ [AObj.own t c]).set o .gone).length = (H ++ G ++ [AObj.own t c]).length := List.length_set
      rw [← this, heap_get0]
      rfl
    · intro p y hp hy
      have hpo : o ≠ p := fun e => hy o rfl e.symm
      have hpl : p < (H ++ G).length := (List.getElem?_eq_some_iff.1 hp).1
      rw [get_less (by simp only [List.length_set, List.length_append, List.length_cons, List.length_nil] at hpl ⊢; omega), List.getElem?_set_ne hpo, get_less hpl]
      exact hp
theorem seconds_A {w0 : World} (l : List Int) (x : AV) (hl : l.length ≤ 1000000) (H : Heap) (hx : DaysAt H x (l.map fun t => (t, 0))) : ACalls Tryz.prog (CB w0) 49 [x] H fun r H' => GrN 2 1 H H' r l.length (l.map vI) := by
  refine A_fun (N := 19) (rs := [.tmp 2]) Tryz.func49 rfl rfl rfl (by kernel_rfl) (by kernel_rfl) (Nat.le_of_ble_eq_true rfl) ?_
  rintro e he ⟨g0, -⟩
  have hlen : (l.map fun t => (t, (0 : Int))).length = l.length := by simp
  have x1 := hx.one
  have xl := hx.len 99
  rw [hlen] at xl
  simp only [go_sem, he, g0, x1, xl]
  refine A_while l.length (fun k e h => (∃ G, h = H ++ G) ∧ len e = 19 ∧ AL.get e 6 = x ∧ AL.get e 7 = vI l.length ∧ ∃ (i : Nat) (y : AV), AL.get e 8 = vI i ∧ AL.get e 3 = y ∧ i + k = l.length ∧ GrN 2 1 H h y i ((l.take i).map vI)) (by kernel_rfl) ?_ ?_
  · simp only [go_sem, he, g0]
    exact ⟨⟨[], (List.append_nil _).symm⟩, 0, _, rfl, rfl, by omega, GrN.nil ⟨[], (List.append_nil _).symm⟩⟩
  · rintro k e h ⟨hG1, he, g6, g7, i, y, g8, g3, hik, hO⟩
    simp only [go_sem, he, g6, g7, g8, g3]
    refine condK_of (fun hc => ?_) fun hc => ?_
    · have hc := of_decide_eq_true hc
      have hi : i < l.length := by omega
      have hxh : DaysAt h x (l.map fun t => (t, 0)) := by obtain ⟨G, rfl⟩ := hG1; exact hx.more G
      rcases hxh with ⟨rfl, h0⟩ | ⟨own, o, off, cs, rfl, hcs, hcell⟩
      · omega
      obtain ⟨hd1, hd2⟩ := days_load (H := h) hcell (by rw [hlen]; exact hi)
      have hti : (l.map fun t => (t, (0 : Int))).getD i (0, 0) = (l.getD i 0, 0) := by
        rw [List.getD_eq_getElem?_getD, List.getElem?_map, List.getElem?_eq_getElem hi, List.getD_eq_getElem?_getD, List.getElem?_eq_getElem hi]
        rfl
      rw [hti] at hd2
      rw [hlen] at *
      have wi : IntKind.i64.wrap ((i : Int) + 1) = ((i + 1 : Nat) : Int) := by rw [wI64 (by omega)]; rfl
      have hpush := (hO.more [AObj.own 99 [vI (l.getD i 0), vI 0]]).push el55 (by omega) (c := [vI (l.getD i 0)]) rfl rfl (by omega)
      obtain ⟨x2, h2, ha, hO2, -⟩ := hpush
      simp only [go_sem, he, g6, g7, g8, g3, hcs, hd1, hd2, Int.toNat_natCast] at ha ⊢
      refine ⟨by omega, callX_of (zSeconds_A _ _ _) (List.prefix_refl _) ?_⟩
      simp only [go_sem, he, g6, g7, g8, g3, setD_some, Int.toNat_natCast, wi] at ha ⊢
      rw [ha]
      simp only [go_sem, he, g6, g7, g8, g3, setD_some, wi]
      have htk : (l.take (i + 1)).map vI = (l.take i).map vI ++ [vI (l.getD i 0)] := by
        rw [List.take_add_one, List.getElem?_eq_getElem hi, List.getD_eq_getElem?_getD, List.getElem?_eq_getElem hi, List.map_append]
        rfl
      exact ⟨k - 1, by omega, hO2.1, i + 1, x2, rfl, rfl, by omega, by rw [htk]; exact hO2⟩
    · have hc := of_decide_eq_false hc
      have : i = l.length := by omega
      subst this
      simp only [go_sem, he, g6, g7, g8, g3]
      rw [List.take_length] at hO
      exact hO

def dateE (s : List UInt8) : Except Nat Int := optE (zLoc s)
def datesE (s : List UInt8) : Except Nat (List Int) := mapAcc dateE [] (split 44 s)
def tcells (l : List Int) : List AV := l.flatMap fun t => [vI t, vI 0]
def DatesR (H h : Heap) (r : AV) : Except Nat (List Int) → Prop
  | .ok l => ∃ x, r = .tup [x, .val .nilIface] ∧ GrN 99 2 H h x l.length (tcells l)
  | .error _ => ∃ t, r = .tup [.val (.slice none 0 0), .ifc t .any]
theorem strToDatesIn_A {w0 : World} (s : List UInt8) (hs : s.length ≤ 100000) (hc : (58 : UInt8) ∉ s) (hf : ∀ x ∈ split 44 s, NoFrac x) (H : Heap) : ACalls Tryz.prog (CB w0) 74 [vS s, .agg []] H fun r H' => DatesR H H' r (datesE s) ∧ ∃ G, H' = H ++ G := by
  refine A_fun (N := 78) (rs := [.tmp 4, .tmp 5]) Tryz.func74 rfl rfl rfl (by kernel_rfl) (by kernel_rfl) (Nat.le_of_ble_eq_true rfl) ?_
  rintro e he ⟨g0, g1, -⟩
  simp only [go_sem, he, g0, g1]
  refine callX_any (zzSplit_A s 58 (by omega) _) ?_
  rintro r h ⟨⟨G, rfl⟩, o, rfl, ho, hol⟩
  rw [split_none (idx_no hc)] at ho
  simp only [go_sem, he, g0, g1, setD_some, ho, split_none (idx_no hc)]
  have q1 : decide ((2 : Int) < ((1 : Nat) : Int)) = false := rfl
  have q2 : decide (((1 : Nat) : Int) = 2) = false := rfl
  have ho' : (H ++ AObj.own 109 [] :: (G ++ [AObj.own 109 []]))[o]? = some (.own 9 [vS s]) := by
    have := get_more (G := [AObj.own 109 []]) ho
    simpa using this
  simp only [go_sem, he, g0, g1, setD_some, ho, ho', q1, q2, Int.cast_ofNat_Int]
  refine callX_any (zzSplit_A s 44 (by omega) _) ?_
  rintro r h ⟨⟨G1, rfl⟩, o1, rfl, ho1, hol1⟩
  simp only [go_sem, he, g0, g1, setD_some, ho1]
  have hsl := split_length 44 s
  have hsm : ∀ x ∈ split 44 s, x.length ≤ s.length := fun x => split_mem
  have hfs := hf
  unfold datesE
  generalize split 44 s = ss at *
  refine A_while ss.length (fun k e h => ∃ (i : Nat) (y : AV) (vs : List Int), i + k = ss.length ∧ len e = 78 ∧ AL.get e 58 = .sl true o1 0 ss.length 1 ∧ AL.get e 59 = vI ss.length ∧ AL.get e 60 = vI i ∧ AL.get e 4 = y ∧ AL.get e 5 = .val .nilIface ∧ AL.get e 7 = .ptr (H.length + (G.length + 1)) 0 ∧ h[H.length + (G.length + 1)]? = some (.own 109 []) ∧ h[o1]? = some (.own 9 (ss.map vS)) ∧ vs.length = i ∧ GrN 99 2 H h y i (tcells vs) ∧ mapAcc dateE vs (ss.drop i) = mapAcc dateE [] ss) (by kernel_rfl) ?_ ?_
  · simp only [go_sem, he, g0]
    exact ⟨0, _, [], by omega, rfl, rfl, by simpa using ho1, rfl, GrN.nil ⟨_, rfl⟩, rfl⟩
  · rintro k e h ⟨i, y, vs, hik, he, g58, g59, g60, g4, g5, g7, h7, ho1, hvl, hO, hm⟩
    simp only [go_sem, he, g58, g59, g60, g4, g5, g7]
    refine condK_of (fun hc => ?_) fun hc => ?_
    · have hc := of_decide_eq_true hc
      obtain ⟨a, ha, hd⟩ := drop_get (l := ss) (i := i) (by omega)
      have hai : (ss.map vS)[i]? = some (vS a) := by rw [List.getElem?_map, ha]; rfl
      have hal := hsm a (List.mem_of_getElem? ha)
      have haf := hfs a (List.mem_of_getElem? ha)
      rw [hd, mapAcc] at hm
      have wi : IntKind.i64.wrap ((i : Int) + 1) = ((i + 1 : Nat) : Int) := by rw [wI64 (by omega)]; rfl
      simp only [go_sem, he, g58, g59, g60, g4, g5, g7, h7, ho1, hai, Int.toNat_natCast]
      refine ⟨by omega, callX_of (strToTimeInLoc_A a (by omega) haf _ rfl _) (List.prefix_refl _) ?_⟩
      unfold zLocR
      cases hq : zLoc a with
      | none =>
        have ea : dateE a = .error 157 := by unfold dateE; rw [hq]; rfl
        rw [ea] at hm
        simp only [go_sem, he, g58, g59, g60, g4, g5, g7, h7, setD_some, exR, optE]
        refine callX_of (errorsNew_A _ _) (List.prefix_refl _) ?_
        simp only [go_sem, he, g58, g59, g60, g4, g5, g7, setD_some]
        rw [← hm]
        obtain ⟨G2, rfl⟩ := hO.1
        exact ⟨⟨_, rfl⟩, _, List.append_assoc _ _ _⟩
      | some t =>
        have ea : dateE a = .ok t := by unfold dateE; rw [hq]; rfl
        rw [ea] at hm
        simp only [go_sem, he, g58, g59, g60, g4, g5, g7, h7, setD_some, exR, optE, wi]
        obtain ⟨x2, h2, ha2, hO2, hkp⟩ := (hO.more [AObj.own 99 [vI t, vI 0]]).push el94 (by omega) (c := [vI t, vI 0]) rfl rfl (by omega)
        have hne : ∀ (p : Nat) (u : Nat) (cs : List AV), h[p]? = some (.own u cs) → u ≠ 99 → ∀ q, y = .sl true q 0 i 2 → p ≠ q := by
          rintro p u cs hp hu q rfl rfl
          rcases hO.2.2 with ⟨hy, _⟩ | ⟨o2, hy, hy2, _⟩
          · cases hy
          · simp only [AV.sl.injEq] at hy
            rw [hy.2.1] at hp
            rw [hp] at hy2
            simp only [Option.some.injEq, AObj.own.injEq] at hy2
            exact hu hy2.1
        have k7 := hkp _ _ (get_more h7) (hne _ _ _ h7 (by omega))
        have k1 := hkp _ _ (get_more ho1) (hne _ _ _ ho1 (by omega))
        simp only [go_sem, he, g58, g59, g60, g4, g5, g7, h7, setD_some, wi] at ha2 ⊢
        rw [ha2]
        simp only [go_sem, he, g58, g59, g60, g4, g5, g7, setD_some, wi]
        have htc : tcells (vs ++ [t]) = tcells vs ++ [vI t, vI 0] := by simp [tcells]
        exact ⟨k - 1, by omega, i + 1, x2, vs ++ [t], by omega, rfl, rfl, k7, k1, by simp [hvl], by rw [htc]; exact hO2, hm⟩
    · have hc := of_decide_eq_false hc
      have : i = ss.length := by omega
      subst this
      simp only [go_sem, he, g58, g59, g60, g4, g5, g7]
      rw [List.drop_length] at hm
      rw [← hm]
      refine ⟨⟨_, rfl, ?_⟩, hO.1⟩
      rw [hvl]
      exact hO

theorem strToDates_A {w0 : World} (s : List UInt8) (hs : s.length ≤ 100000) (hc : (58 : UInt8) ∉ s) (hf : ∀ x ∈ split 44 s, NoFrac x) (H : Heap) : ACalls Tryz.prog (CB w0) 48 [vS s] H fun r H' => DatesR H H' r (datesE s) ∧ ∃ G, H' = H ++ G := by
  refine A_fun (N := 9) (rs := [.tmp 2, .tmp 3]) Tryz.func48 rfl rfl rfl (by kernel_rfl) (by kernel_rfl) (Nat.le_of_ble_eq_true rfl) ?_
  rintro e he ⟨g0, -⟩
  simp only [go_sem, he, g0]
  refine callX_of (zUTC_A _) (List.prefix_refl _) ?_
  simp only [go_sem, he, g0, setD_some]
  refine callX_any (strToDatesIn_A s hs hc hf _) ?_
  rintro r h ⟨hr, G, rfl⟩
  cases hq : datesE s with
  | error t =>
    rw [hq] at hr
    obtain ⟨t', rfl⟩ := hr
    simp only [go_sem, he, g0, setD_some]
    exact ⟨⟨t', rfl⟩, _, rfl⟩
  | ok l =>
    rw [hq] at hr
    obtain ⟨x, rfl, hO⟩ := hr
    simp only [go_sem, he, g0, setD_some]
    exact ⟨⟨x, rfl, hO⟩, _, rfl⟩
/-- The moments of a text of dates, and whether there are any. -/
def DatesB (H h : Heap) (r : AV) : Except Nat (List Int) → Prop
  | .ok l => ∃ x, r = .tup [x, vB true] ∧ GrN 2 1 H h x l.length (l.map vI)
  | .error _ => r = .tup [.val (.slice none 0 0), vB false]
theorem tcells_len : ∀ l : List Int, (tcells l).length = l.length * 2
  | [] => rfl
  | t :: l => by
    have := tcells_len l
    unfold tcells at this ⊢
    simp only [List.flatMap_cons, List.length_append, this, List.length_cons, List.length_nil]
    omega
theorem tcells_get (l : List Int) (i : Nat) (h : i < l.length * 2) : (tcells l)[i]? = some (if i % 2 = 0 then vI ((l.map fun t => (t, (0 : Int))).getD (i / 2) (0, 0)).1 else vI ((l.map fun t => (t, (0 : Int))).getD (i / 2) (0, 0)).2) := by
  induction l generalizing i with
  | nil => simp at h
  | cons t l ih =>
    unfold tcells at ih ⊢
    match i with
    | 0 => rfl
    | 1 => rfl
    | i + 2 =>
      have := ih i (by simp only [List.length_cons] at h; omega)
      simp only [List.flatMap_cons, List.cons_append, List.nil_append, List.getElem?_cons_succ, List.map_cons]
      rw [this, show (i + 2) % 2 = i % 2 by omega, show (i + 2) / 2 = i / 2 + 1 by omega]
      rfl
theorem GrN.days {H h : Heap} {x : AV} {l : List Int} (hO : GrN 99 2 H h x l.length (tcells l)) : DaysAt h x (l.map fun t => (t, 0)) := by
  unfold DaysAt
  rw [List.length_map]
  rcases hO.2.2 with ⟨rfl, h0⟩ | ⟨o, rfl, ho, _⟩
  · exact .inl ⟨rfl, h0⟩
  · refine .inr ⟨true, o, 0, tcells l, rfl, by rw [ho]; rfl, fun i hi => ?_⟩
    rw [Nat.zero_add]
    exact tcells_get l i hi
theorem datesE_len {s : List UInt8} {l : List Int} (h : datesE s = .ok l) : l.length ≤ s.length + 2 := by
  have key : ∀ (ss : List (List UInt8)) (acc : List Int), mapAcc dateE acc ss = .ok l → l.length = acc.length + ss.length := by
    intro ss
    induction ss with
    | nil =>
      intro acc h
      simp only [mapAcc, Except.ok.injEq] at h
      subst h
      simp
    | cons a r ih =>
      intro acc h
      simp only [mapAcc] at h
      split at h
      · have := ih _ h
        simp only [List.length_append, List.length_cons, List.length_nil] at this ⊢
        omega
      · cases h
  have h1 := key _ _ h
  have h2 := (split_length 44 s).1
  simp only [List.length_nil] at h1
  omega
theorem datesOf_A {w0 : World} (s : List UInt8) (hs : s.length ≤ 100000) (hc : (58 : UInt8) ∉ s) (hf : ∀ x ∈ split 44 s, NoFrac x) (H : Heap) : ACalls Tryz.prog (CB w0) 26 [vS s] H fun r H' => DatesB H H' r (datesE s) ∧ ∃ G, H' = H ++ G := by
  refine A_fun (N := 15) (rs := [.tmp 2, .tmp 3]) Tryz.func26 rfl rfl rfl (by kernel_rfl) (by kernel_rfl) (Nat.le_of_ble_eq_true rfl) ?_
  rintro e he ⟨g0, -⟩
  simp only [go_sem, he, g0]
  refine callX_any (strToDates_A s hs hc hf _) ?_
  rintro r h ⟨hr, G, rfl⟩
  cases hq : datesE s with
  | error t =>
    rw [hq] at hr
    obtain ⟨t', rfl⟩ := hr
    simp only [go_sem, he, g0, setD_some]
    exact ⟨rfl, _, rfl⟩
  | ok l =>
    rw [hq] at hr
    obtain ⟨x, rfl, hO⟩ := hr
    have x1 := hO.days.one
    have hl := datesE_len hq
    simp only [go_sem, he, g0, setD_some, x1]
    refine callX_any (seconds_A l x (by omega) _ hO.days) ?_
    rintro r h hO2
    have y1 : r.one = true := by rcases hO2.2.2 with ⟨rfl, _⟩ | ⟨q, rfl, _⟩ <;> rfl
    simp only [go_sem, he, g0, setD_some, y1]
    obtain ⟨⟨G2, e2⟩, k1, k2⟩ := hO2
    refine ⟨⟨r, rfl, ⟨G ++ G2, by rw [e2, List.append_assoc]⟩, k1, ?_⟩, G ++ G2, by rw [e2, List.append_assoc]⟩
    rcases k2 with k2 | ⟨o, h1, h2, h3⟩
    · exact .inl k2
    · exact .inr ⟨o, h1, h2, by rw [List.length_append] at h3; omega⟩
end Go.Proofs.YtlfpjdcogkcjlaaGreatDoor.F
