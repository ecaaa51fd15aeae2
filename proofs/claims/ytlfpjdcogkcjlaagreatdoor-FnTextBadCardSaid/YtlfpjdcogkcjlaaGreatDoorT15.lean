/- A rule's options out of a text: the package's parser. -/
import Derived.Test.YtlfpjdcogkcjlaaGreatDoorT14
namespace Go.Proofs.YtlfpjdcogkcjlaaGreatDoor.F
open Go.RowKit Go.Proofs.YtlfpjdcogkcjlaaGreatDoor.AL Go.Proofs.YtlfpjdcogkcjlaaGreatDoor.B
set_option linter.unusedVariables false
set_option linter.unusedSimpArgs false
set_option maxRecDepth 20000
attribute [local irreducible] aops acode bindK bindV bindH callX callK condK guardK Kseq Kblk Knorm Kfun Kloop Kjoin outK AWp appendA
attribute [local go_sem] acode_skip acode_seq acode_region acode_cond acode_block acode_exit acode_ret acode_loop Kseq_normal Kseq_exit Kseq_ret Kblk_normal Kblk_ret Kblk_eq Kblk_ne Knorm_eq Kloop_normal Kloop_exit Kloop_ret Kjoin_normal Kjoin_exit Kjoin_ret condK_true condK_false bindK_put bindV_put bindK_no bindV_no bindH_no aops_nil gops wantK_some wantV_bool wantV_undef guardK_true guardK_false guardK_none aops_move aops_assign aops_pick aops_nilCheck aops_binOp aops_unOp aops_convert aops_fieldAddr aops_indexAddr aops_slice aops_index aops_extract aops_makeInterface aops_makeFunc aops_build aops_load aops_lookup aops_alloc aops_box aops_buildSlice aops_makeSlice aops_makeMap aops_store aops_insert aops_mapUpdate aops_len aops_append aops_call opA_tmp opA_const opA_global opA_func get_mk look_nil look_eq look_ne len_mk List.map_cons List.map_nil Option.map_some Option.map_none bin_add bin_sub bin_mul bin_quo bin_rem bin_eql bin_neq bin_lss bin_leq bin_gtr bin_geq bin_cat bin_seql bin_sneq bin_neq_ifc bin_eql_ifc bin_neq_nn bin_eql_nn bin_neq_ptr bin_eql_ptr bin_neq_pn isIfc_true isPtr_true bin_eql2 bin_neq2 aops_max max_int un_not un_neg lenA_K lenK_str lenK_nil lenK_sl lenK_array pick_bool pick_val bindV_ite bindK_ite bindH_ite slotV_sl slotK_some slotV_ptr slotR_some sliceV_sl cutK_some sliceV_str cutS_some bound_none bound_some indexA_str atS_some mkS fieldV_ptr loadV_ptr cellsK_ro cellsK_own loadK_one loadK_many storeA_ptr storeK_own allocA_some heap_len heap_get0 heap_get heap_set0 heap_set Kfun_ret Kfun_normal resA_nil resA_tmp resA_cell outK_some packA_one packA_nil packA_two List.length_cons List.length_nil List.getElem?_cons_zero List.getElem?_cons_succ List.set_cons_zero List.set_cons_succ List.cons_append List.nil_append List.append_assoc Nat.zero_add Nat.add_zero List.all_cons List.all_nil Value.oneCell' Bool.and_true Bool.and_self if_true if_false Bool.false_eq_true partsA buildV buildA fillA Option.bind_some putCells List.drop_succ_cons List.drop_zero List.take_succ_cons List.take_zero List.take_nil List.drop_nil and_self and_true true_and Option.some.injEq ne_eq not_false_eq_true Option.map_map List.getElem?_toArray beq_self_eq_true Bool.true_beq Bool.false_beq Bool.not_true Bool.not_false decide_true decide_false beq_true Nat.mul_one Nat.one_mul Nat.zero_mul bsA buildSliceA zerosN List.append_nil Int.toNat_natCast Int.toNat_zero boxA one_val one_ptr one_sl one_mp one_ifc one_fn avCells_agg avCells_val valCells_true valCells_agg avCells_ptr avCells_sl avCells_mp avCells_ifc avCells_fn app_cons app_nil lookupA insertA ifaceV extractA kd2 ars127 fp127 ars60 fp60 ars31 fp31 eq2_99 eq2_84 eq2_47 fp52 sz2 kd3 sz3 kd4 sz4 kd5 sz5 kd9 sz9 kd22 sz22 el22 kd23 sz23 el23 kd25 sz25 zc25 fp25 fo25_0 fo25_1 fo25_2 fo25_3 fo25_4 fo25_5 fo25_6 fo25_7 fo25_8 fo25_9 fo25_10 fo25_11 fo25_12 fo25_13 fo25_14 fo25_15 fo25_16 fo25_17 kd31 sz31 zc31 ar31 kd32 sz32 el32 kd34 sz34 zc34 fp34 fo34_0 fo34_1 fo34_2 fo34_3 fo34_4 fo34_5 fo34_6 fo34_7 fo34_8 fo34_9 fo34_10 fo34_11 fo34_12 fo34_13 fo34_14 fo34_15 fo34_16 fo34_17 el38 el42 kd47 sz47 zc47 fp47 fo47_0 fo47_1 kd52 sz52 zc52 fo52_0 el55 zc60 kd72 sz72 zc72 fp72 fo72_0 fo72_1 el73 isStrMap76 zv4 kd80 sz80 kd84 sz84 zc84 fp84 fo84_0 fo84_1 kd88 sz88 zc88 fp88 fo88_0 fo88_1 fo88_2 fo88_3 kd91 sz91 zc91 fp91 fo91_0 fo91_1 fo91_2 el94 kd99 sz99 zc99 fp99 fo99_0 fo99_1 kd100 sz100 el100 kd102 sz102 zc102 fp102 fo102_0 fo102_1 fo102_2 fo102_3 fo102_4 fo102_5 fo102_6 fo102_7 fo102_8 fo102_9 fo102_10 fo102_11 fo102_12 fo102_13 fo102_14 fo102_15 kd109 sz109 zc109 fp109 isStrMap124 zv80 zc127 kd153 sz153 zc153 ar153 isIface157 kd159 sz159 zc159 fp159 isStrMap177 zv84 Tryz.underlying3 Tryz.underlying4 Tryz.underlying5 Tryz.underlying9 Tryz.underlying21 Tryz.underlying22 Tryz.underlying23 Tryz.underlying32 Tryz.underlying38 Tryz.underlying42 Tryz.underlying47 Tryz.underlying55 Tryz.underlying67 Tryz.underlying73 Tryz.underlying80 Tryz.underlying84 Tryz.underlying94 Tryz.underlying100 Tryz.underlying2 Tryz.underlying127 Tryz.underlying60 Tryz.underlying31
theorem trimSpace_A {w0 : World} (hG : Glob w0) (s : List UInt8) (hs : s.length ≤ 1000000) (ha : ∀ c ∈ s, c.toNat < 128) (H : Heap) : ACalls Tryz.prog (CB w0) 83 [vS s] H fun r H' => r = vS (Lib.trimSpace s) ∧ H' = H := by
  refine A_lib (args := [.string (S s)]) (callable_of Tryz.func83 (by kernel_rfl) (by kernel_rfl)) fun w hb _ => ?_
  refine (Tryz.strings_TrimSpace (S s) w (by rw [S_size]; omega) (fun j b hj => ha b (List.mem_of_getElem? hj)) (hG.below hb).ascii).mono ?_
  rintro e w' ⟨rfl, rfl⟩
  exact ⟨rfl, Lib.bytesWorld_below _ _ _⟩
theorem trimPrefix_A {w0 : World} (s p : List UInt8) (H : Heap) : ACalls Tryz.prog (CB w0) 87 [vS s, vS p] H fun r H' => r = vS (Lib.trimPrefix s p) ∧ H' = H := by
  refine A_lib (args := [.string (S s), .string (S p)]) (callable_of Tryz.func87 (by kernel_rfl) (by kernel_rfl)) fun w hb _ => ?_
  refine (Tryz.strings_TrimPrefix (S s) (S p) w).mono ?_
  rintro e w' ⟨rfl, rfl⟩
  exact ⟨rfl, Below.refl _ _⟩
/-- A rule's options. -/
structure Op where
  freq : Int
  dt : Int
  interval : Int
  wkst : Int × Int
  count : Int
  til : Int
  pos : List Int
  month : List Int
  mday : List Int
  yday : List Int
  weekno : List Int
  hour : List Int
  minute : List Int
  second : List Int
  easter : List Int
  day : List (Int × Int)
  set : Bool
/-- Their slices, ats values. -/
structure Os where
  pos : AV
  month : AV
  mday : AV
  yday : AV
  weekno : AV
  hour : AV
  minute : AV
  second : AV
  easter : AV
  day : AV
def op0 : Op := ⟨0, 0, 0, (0, 0), 0, 0, [], [], [], [], [], [], [], [], [], [], false⟩
abbrev vNil : AV := .val (.slice none 0 0)
def opCells (o : Op) (x : Os) : List AV := [vI o.freq, vI o.dt, vI 0, vI o.interval, vI o.wkst.1, vI o.wkst.2, vI o.count, vI o.til, vI 0, x.pos, x.month, x.mday, x.yday, x.weekno, x.day, x.hour, x.minute, x.second, x.easter]
/-- A slice of numbers of the call's own, or none. -/
def IntsOwn (h : Heap) (x : AV) (l : List Int) : Prop := (x = vNil ∧ l = []) ∨ ∃ q, x = .sl true q 0 l.length 1 ∧ h[q]? = some (.own 3 (l.map vI))
def dayCell (l : List (Int × Int)) (i : Nat) : AV := if i % 2 = 0 then vI (l.getD (i / 2) (0, 0)).1 else vI (l.getD (i / 2) (0, 0)).2
def DaysOwn (h : Heap) (x : AV) (l : List (Int × Int)) : Prop := (x = vNil ∧ l = []) ∨ ∃ q cs, x = .sl true q 0 l.length 2 ∧ h[q]? = some (.own 84 cs) ∧ ∀ i, i < l.length * 2 → cs[i]? = some (dayCell l i)
theorem IntsOwn.one {h : Heap} {x : AV} {l : List Int} (hx : IntsOwn h x l) : x.one = true := by rcases hx with ⟨rfl, _⟩ | ⟨q, rfl, _⟩ <;> rfl
theorem DaysOwn.one {h : Heap} {x : AV} {l : List (Int × Int)} (hx : DaysOwn h x l) : x.one = true := by rcases hx with ⟨rfl, _⟩ | ⟨q, cs, rfl, _⟩ <;> rfl
theorem IntsOwn.more {h : Heap} {x : AV} {l : List Int} (hx : IntsOwn h x l) (G : Heap) : IntsOwn (h ++ G) x l := by
  rcases hx with hx | ⟨q, h1, h2⟩
  · exact .inl hx
  · exact .inr ⟨q, h1, get_more h2⟩
theorem DaysOwn.more {h : Heap} {x : AV} {l : List (Int × Int)} (hx : DaysOwn h x l) (G : Heap) : DaysOwn (h ++ G) x l := by
  rcases hx with hx | ⟨q, cs, h1, h2, h3⟩
  · exact .inl hx
  · exact .inr ⟨q, cs, h1, get_more h2, h3⟩
theorem IntsOwn.put {h : Heap} {x : AV} {l : List Int} (hx : IntsOwn h x l) {p : Nat} {cs : List AV} (hp : h[p]? = some (.own 102 cs)) (y : AObj) : IntsOwn (h.set p y) x l := by
  rcases hx with hx | ⟨q, h1, h2⟩
  · exact .inl hx
  · refine .inr ⟨q, h1, ?_⟩
    have : p ≠ q := by rintro rfl; rw [hp] at h2; simp at h2
    rw [List.getElem?_set_ne this]; exact h2
theorem DaysOwn.put {h : Heap} {x : AV} {l : List (Int × Int)} (hx : DaysOwn h x l) {p : Nat} {cs : List AV} (hp : h[p]? = some (.own 102 cs)) (y : AObj) : DaysOwn (h.set p y) x l := by
  rcases hx with hx | ⟨q, cs', h1, h2, h3⟩
  · exact .inl hx
  · refine .inr ⟨q, cs', h1, ?_, h3⟩
    have : p ≠ q := by rintro rfl; rw [hp] at h2; simp at h2
    rw [List.getElem?_set_ne this]; exact h2
structure OpAt (h : Heap) (o : Op) (x : Os) : Prop where
  pos : IntsOwn h x.pos o.pos
  month : IntsOwn h x.month o.month
  mday : IntsOwn h x.mday o.mday
  yday : IntsOwn h x.yday o.yday
  weekno : IntsOwn h x.weekno o.weekno
  hour : IntsOwn h x.hour o.hour
  minute : IntsOwn h x.minute o.minute
  second : IntsOwn h x.second o.second
  easter : IntsOwn h x.easter o.easter
  day : DaysOwn h x.day o.day
theorem OpAt.more {h : Heap} {o : Op} {x : Os} (hx : OpAt h o x) (G : Heap) : OpAt (h ++ G) o x :=
  ⟨hx.pos.more G, hx.month.more G, hx.mday.more G, hx.yday.more G, hx.weekno.more G, hx.hour.more G, hx.minute.more G, hx.second.more G, hx.easter.more G, hx.day.more G⟩
theorem OpAt.put {h : Heap} {o : Op} {x : Os} (hx : OpAt h o x) {p : Nat} {cs : List AV} (hp : h[p]? = some (.own 102 cs)) (y : AObj) : OpAt (h.set p y) o x :=
  ⟨hx.pos.put hp y, hx.month.put hp y, hx.mday.put hp y, hx.yday.put hp y, hx.weekno.put hp y, hx.hour.put hp y, hx.minute.put hp y, hx.second.put hp y, hx.easter.put hp y, hx.day.put hp y⟩
theorem strToFreq_P {w0 : World} (s : List UInt8) (hs : s.length ≤ 1000000) (H : Heap) : ACalls Tryz.prog (CB w0) 41 [vS s] H fun r H' => r = freqR s ∧ H' = H :=
  ACalls.flat (by unfold freqR; cases freqOf s <;> rfl) (strToFreq_A s hs H)
def optFreq (s : List UInt8) : Except Nat Int := optE (freqOf s)
/-- One part of a text, put into the options. -/
def opPut (o : Op) (k v : List UInt8) : Except Nat Op :=
  if k = [70, 82, 69, 81] then (optFreq v).map fun a => { o with freq := a, set := true } else
  if k = [68, 84, 83, 84, 65, 82, 84] then (optE (zLoc v)).map fun a => { o with dt := a } else
  if k = [73, 78, 84, 69, 82, 86, 65, 76] then (atoiE v).map fun a => { o with interval := a } else
  if k = [87, 75, 83, 84] then (wdOf v).map fun a => { o with wkst := a } else
  if k = [67, 79, 85, 78, 84] then (atoiE v).map fun a => { o with count := a } else
  if k = [85, 78, 84, 73, 76] then (optE (zLoc v)).map fun a => { o with til := a } else
  if k = [66, 89, 83, 69, 84, 80, 79, 83] then (intsOf v).map fun a => { o with pos := a } else
  if k = [66, 89, 77, 79, 78, 84, 72] then (intsOf v).map fun a => { o with month := a } else
  if k = [66, 89, 77, 79, 78, 84, 72, 68, 65, 89] then (intsOf v).map fun a => { o with mday := a } else
  if k = [66, 89, 89, 69, 65, 82, 68, 65, 89] then (intsOf v).map fun a => { o with yday := a } else
  if k = [66, 89, 87, 69, 69, 75, 78, 79] then (intsOf v).map fun a => { o with weekno := a } else
  if k = [66, 89, 68, 65, 89] then (daysOf v).map fun a => { o with day := a } else
  if k = [66, 89, 72, 79, 85, 82] then (intsOf v).map fun a => { o with hour := a } else
  if k = [66, 89, 77, 73, 78, 85, 84, 69] then (intsOf v).map fun a => { o with minute := a } else
  if k = [66, 89, 83, 69, 67, 79, 78, 68] then (intsOf v).map fun a => { o with second := a } else
  if k = [66, 89, 69, 65, 83, 84, 69, 82] then (intsOf v).map fun a => { o with easter := a } else
  .error 157
def opStep (o : Op) (attr : List UInt8) : Except Nat Op :=
  match split 61 attr with
  | [k, v] => if v.length = 0 then .error 157 else opPut o k v
  | _ => .error 157
def foldE {σ α : Type} (f : σ → α → Except Nat σ) (o : σ) : List α → Except Nat σ
  | [] => .ok o
  | a :: r => match f o a with
    | .ok o => foldE f o r
    | .error t => .error t
def opEnd : Except Nat Op → Except Nat Op
  | .ok o => if o.set then .ok o else .error 157
  | .error t => .error t
/-- The options that a text tells. -/
def opParse (s : List UInt8) : Except Nat Op := opEnd (foldE opStep op0 (split 59 s))
/-- The parser's answer. -/
def OpR (H h : Heap) (r : AV) : Except Nat Op → Prop
  | .ok o => ∃ p x, r = .tup [.ptr p 0, .val .nilIface] ∧ h[p]? = some (.own 102 (opCells o x)) ∧ H.length ≤ p ∧ OpAt h o x
  | .error t => r = .tup [.val (.pointer none), .ifc t .any]
theorem split_none {c : UInt8} {s : List UInt8} (h : idx c s = none) : split c s = [s] := by unfold split; rw [splitN, h]
theorem NoFrac.split {c : UInt8} : ∀ (k : Nat) {s x : List UInt8}, NoFrac s → x ∈ splitN c k s → NoFrac x
  | 0, s, x, h, hx => by simp [splitN] at hx; exact hx ▸ h
  | k + 1, s, x, h, hx => by
    unfold splitN at hx
    split at hx
    · simp at hx; exact hx ▸ h
    · rcases List.mem_cons.1 hx with rfl | hx
      · exact fun c hc => h c (List.mem_of_mem_take hc)
      · exact NoFrac.split k (h.drop _) hx
structure InText (s : List UInt8) : Prop where
  len : s.length ≤ 50000
  frac : ∀ a ∈ split 59 s, ∀ k v, split 61 a = [k, v] → (k = [85, 78, 84, 73, 76] ∨ k = [68, 84, 83, 84, 65, 82, 84]) → NoFrac v
  ascii : ∀ c ∈ s, c.toNat < 128
  trim : Lib.trimSpace s = s
  line : idx 10 s = none
  pre : Lib.trimPrefix s [82, 82, 85, 76, 69, 58] = s
theorem set_box {H G : Heap} {b y : AObj} {p : Nat} (h : H.length + 1 ≤ p) : (H ++ b :: G).set p y = H ++ b :: G.set (p - (H.length + 1)) y := by
  obtain ⟨j, rfl⟩ : ∃ j, p = H.length + 1 + j := ⟨p - (H.length + 1), by omega⟩
  rw [List.set_append_right _ _ (by omega), show H.length + 1 + j - H.length = j + 1 by omega, List.set_cons_succ, show H.length + 1 + j - (H.length + 1) = j by omega]
set_option maxHeartbeats 8000000 in
theorem strToROptionIn_A {w0 : World} (hG : Glob w0) (s : List UInt8) (hs : InText s) (z : AV) (hz : avCells z = some []) (H : Heap) (hH : GH H) : ACalls Tryz.prog (CB w0) 57 [vS s, z] H fun r H' => OpR H H' r (opParse s) ∧ ∃ G, H' = H ++ G := by
  refine A_fun (N := 235) (rs := [.tmp 4, .tmp 5]) Tryz.func57 rfl rfl rfl (by kernel_rfl) (by kernel_rfl) (Nat.le_of_ble_eq_true rfl) ?_
  rintro e he ⟨g0, g1, -⟩
  have hsl := hs.len
  simp only [go_sem, Nat.reduceLT, Nat.reduceBEq, Nat.reduceAdd, Int.reduceBEq, Nat.reduceLeDiff, reduceIte, Nat.reduceEqDiff, Int.reduceEq, Int.reduceLE, Int.reduceLT, Int.reduceNe, Nat.reduceMul, Nat.reduceSub, Int.reduceToNat, he, g0, g1, hz]
  refine callX_of (trimSpace_A hG s (by omega) hs.ascii _) (List.prefix_refl _) ?_
  simp only [go_sem, Nat.reduceLT, Nat.reduceBEq, Nat.reduceAdd, Int.reduceBEq, Nat.reduceLeDiff, reduceIte, Nat.reduceEqDiff, Int.reduceEq, Int.reduceLE, Int.reduceLT, Int.reduceNe, Nat.reduceMul, Nat.reduceSub, Int.reduceToNat, he, g0, g1, setD_some, hs.trim]
  refine callX_any (zzSplit_A s 10 (by omega) _) ?_
  rw [split_none hs.line]
  rintro r h ⟨⟨G, rfl⟩, o1, rfl, ho1, -⟩
  simp only [go_sem, Nat.reduceLT, Nat.reduceBEq, Nat.reduceAdd, Int.reduceBEq, Nat.reduceLeDiff, reduceIte, Nat.reduceEqDiff, Int.reduceEq, Int.reduceLE, Int.reduceLT, Int.reduceNe, Nat.reduceMul, Nat.reduceSub, Int.reduceToNat, he, g0, g1, setD_some] at ho1 ⊢
  simp only [go_sem, Nat.reduceLT, Nat.reduceBEq, Nat.reduceAdd, Int.reduceBEq, Nat.reduceLeDiff, reduceIte, Nat.reduceEqDiff, Int.reduceEq, Int.reduceLE, Int.reduceLT, Int.reduceNe, Nat.reduceMul, Nat.reduceSub, Int.reduceToNat, he, g0, g1, setD_some, ho1, cast1, Int.reduceLT]
  refine callX_of (trimPrefix_A s [82, 82, 85, 76, 69, 58] _) (List.prefix_refl _) ?_
  simp only [go_sem, Nat.reduceLT, Nat.reduceBEq, Nat.reduceAdd, Int.reduceBEq, Nat.reduceLeDiff, reduceIte, Nat.reduceEqDiff, Int.reduceEq, Int.reduceLE, Int.reduceLT, Int.reduceNe, Nat.reduceMul, Nat.reduceSub, Int.reduceToNat, he, g0, g1, setD_some, hs.pre]
  generalize hp1 : H.length + (G.length + 1) = p at *
  have hb0 : ∀ G', (H ++ AObj.own 109 [] :: G')[H.length]? = some (.own 109 []) := fun G' => heap_get0
  have hpp : (H ++ AObj.own 109 [] :: (G ++ [AObj.own 102 [vI 0, vI 0, vI 0, vI 0, vI 0, vI 0, vI 0, vI 0, vI 0, vNil, vNil, vNil, vNil, vNil, vNil, vNil, vNil, vNil, vNil]]))[p]? = some (AObj.own 102 [vI 0, vI 0, vI 0, vI 0, vI 0, vI 0, vI 0, vI 0, vI 0, vNil, vNil, vNil, vNil, vNil, vNil, vNil, vNil, vNil, vNil]) := by
    rw [← hp1, heap_get, List.getElem?_cons_succ, heap_get0]
    rfl
  have hG2 : ∃ G', H ++ AObj.own 109 [] :: (G ++ [AObj.own 102 [vI 0, vI 0, vI 0, vI 0, vI 0, vI 0, vI 0, vI 0, vI 0, vNil, vNil, vNil, vNil, vNil, vNil, vNil, vNil, vNil, vNil]]) = H ++ AObj.own 109 [] :: G' := ⟨_, rfl⟩
  generalize H ++ AObj.own 109 [] :: (G ++ [AObj.own 102 [vI 0, vI 0, vI 0, vI 0, vI 0, vI 0, vI 0, vI 0, vI 0, vNil, vNil, vNil, vNil, vNil, vNil, vNil, vNil, vNil, vNil]]) = H2 at *
  refine callX_any (zzSplit_A s 59 (by omega) _) ?_
  rintro r h ⟨⟨G2, rfl⟩, o2, rfl, ho2, ho2l⟩
  have hal := split_length 59 s
  have ham : ∀ a ∈ split 59 s, a.length ≤ s.length := fun a => split_mem
  have haf := hs.frac
  unfold opParse
  generalize split 59 s = ats at *
  simp only [go_sem, Nat.reduceLT, Nat.reduceBEq, Nat.reduceAdd, Int.reduceBEq, Nat.reduceLeDiff, reduceIte, Nat.reduceEqDiff, Int.reduceEq, Int.reduceLE, Int.reduceLT, Int.reduceNe, Nat.reduceMul, Nat.reduceSub, Int.reduceToNat, he, g0, g1, setD_some]
  refine A_while ats.length (fun k e h => ∃ (i : Nat) (o : Op) (x : Os), i + k = ats.length ∧ len e = 235 ∧ AL.get e 3 = .ptr H.length 0 ∧ AL.get e 9 = .ptr p 0 ∧ AL.get e 10 = vB o.set ∧ AL.get e 70 = .sl true o2 0 ats.length 1 ∧ AL.get e 71 = vI ats.length ∧ AL.get e 72 = vI i ∧ (∃ G, h = H ++ AObj.own 109 [] :: G) ∧ o2 ≠ p ∧ h[o2]? = some (.own 9 (ats.map vS)) ∧ h[p]? = some (.own 102 (opCells o x)) ∧ OpAt h o x ∧ foldE opStep o (ats.drop i) = foldE opStep op0 ats) (by kernel_rfl) ?_ ?_
  · simp only [go_sem, Nat.reduceLT, Nat.reduceBEq, Nat.reduceAdd, Int.reduceBEq, Nat.reduceLeDiff, reduceIte, Nat.reduceEqDiff, Int.reduceEq, Int.reduceLE, Int.reduceLT, Int.reduceNe, Nat.reduceMul, Nat.reduceSub, Int.reduceToNat, he, g0, g1]
    obtain ⟨G', rfl⟩ := hG2
    have hlt := (List.getElem?_eq_some_iff.1 hpp).1
    refine ⟨0, op0, ⟨vNil, vNil, vNil, vNil, vNil, vNil, vNil, vNil, vNil, vNil⟩, by omega, rfl, rfl, ⟨G' ++ G2, by simp only [List.append_assoc, List.cons_append]⟩, by omega, ho2, get_more hpp, ?_, rfl⟩
    exact ⟨.inl ⟨rfl, rfl⟩, .inl ⟨rfl, rfl⟩, .inl ⟨rfl, rfl⟩, .inl ⟨rfl, rfl⟩, .inl ⟨rfl, rfl⟩, .inl ⟨rfl, rfl⟩, .inl ⟨rfl, rfl⟩, .inl ⟨rfl, rfl⟩, .inl ⟨rfl, rfl⟩, .inl ⟨rfl, rfl⟩⟩
  · rintro k e h ⟨i, o, x, hik, he, g3, g9, g10, g70, g71, g72, ⟨G3, rfl⟩, hne, ho2, hp, hx, hfold⟩
    simp only [go_sem, Nat.reduceLT, Nat.reduceBEq, Nat.reduceAdd, Int.reduceBEq, Nat.reduceLeDiff, reduceIte, Nat.reduceEqDiff, Int.reduceEq, Int.reduceLE, Int.reduceLT, Int.reduceNe, Nat.reduceMul, Nat.reduceSub, Int.reduceToNat, he, g3, g9, g10, g70, g71, g72]
    refine condK_of (fun hc => ?_) fun hc => ?_
    · have hc := of_decide_eq_true hc
      obtain ⟨a, ha, hd⟩ := drop_get (l := ats) (i := i) (by omega)
      have hai : (ats.map vS)[i]? = some (vS a) := by rw [List.getElem?_map, ha]; rfl
      have hmem := List.mem_of_getElem? ha
      have hal2 := ham a hmem
      have hfr := haf a hmem
      simp only [go_sem, Nat.reduceLT, Nat.reduceBEq, Nat.reduceAdd, Int.reduceBEq, Nat.reduceLeDiff, reduceIte, Nat.reduceEqDiff, Int.reduceEq, Int.reduceLE, Int.reduceLT, Int.reduceNe, Nat.reduceMul, Nat.reduceSub, Int.reduceToNat, he, g3, g9, g10, g70, g71, g72, ho2, hai, Int.toNat_natCast]
      refine ⟨by omega, callX_any (zzSplit_A a 61 (by omega) _) ?_⟩
      rintro r h ⟨⟨G4, rfl⟩, o3, rfl, ho3, -⟩
      rw [hd, foldE] at hfold
      have hk2 := split_length 61 a
      have hkm : ∀ b ∈ split 61 a, b.length ≤ a.length := fun b => split_mem
      have hst : opStep o a = match split 61 a with | [k, v] => if v.length = 0 then .error 157 else opPut o k v | _ => .error 157 := rfl
      generalize split 61 a = kv at *
      have ho2' := get_more (G := G4) ho2
      have hp' := get_more (G := G4) hp
      have hx' := hx.more G4
      rw [List.append_assoc, List.cons_append] at ho2' hp' hx' ho3
      rw [List.append_assoc, List.cons_append]
      generalize G3 ++ G4 = G5 at *
      clear ho2 hp hx
      have wi : IntKind.i64.wrap ((i : Int) + 1) = ((i + 1 : Nat) : Int) := by rw [wI64 (by omega)]; rfl
      have hpl : H.length + 1 ≤ p := by omega
      have hHb : GH (H ++ AObj.own 109 [] :: G5) := hH.more _
      by_cases h2 : kv.length = 2
      · obtain ⟨ky, v, rfl⟩ : ∃ ky v, kv = [ky, v] := by
          match kv, h2 with
          | [ky, v], _ => exact ⟨ky, v, rfl⟩
        have hvl := hkm v (by simp)
        have hvf := hfr ky v rfl
        have hkl := hkm ky (by simp)
        rw [hst] at hfold
        simp only [go_sem, Nat.reduceLT, Nat.reduceBEq, Nat.reduceAdd, Int.reduceBEq, Nat.reduceLeDiff, reduceIte, Nat.reduceEqDiff, Int.reduceEq, Int.reduceLE, Int.reduceLT, Int.reduceNe, Nat.reduceMul, Nat.reduceSub, Int.reduceToNat, he, g3, g9, g10, g70, g71, g72, setD_some, cast1] at ho3 ⊢
        simp (decide := true) only [go_sem, Nat.reduceLT, Nat.reduceBEq, Nat.reduceAdd, Int.reduceBEq, Nat.reduceLeDiff, reduceIte, Nat.reduceEqDiff, Int.reduceEq, Int.reduceLE, Int.reduceLT, Int.reduceNe, Nat.reduceMul, Nat.reduceSub, Int.reduceToNat, he, g3, g9, g10, g70, g71, g72, setD_some, cast1, ho3]
        refine acode_draw mixed (by kernel_rfl) ?_
        simp (decide := true) only [go_sem, Nat.reduceLT, Nat.reduceBEq, Nat.reduceAdd, Int.reduceBEq, Nat.reduceLeDiff, reduceIte, Nat.reduceEqDiff, Int.reduceEq, Int.reduceLE, Int.reduceLT, Int.reduceNe, Nat.reduceMul, Nat.reduceSub, Int.reduceToNat, he, g3, g9, g10, g70, g71, g72, setD_some, cast1, ho3]
        refine condK_of (fun hv0 => ?_) fun hv0 => ?_
        · have hv0 := of_decide_eq_true hv0
          rw [show (match [ky, v] with | [k, v] => if v.length = 0 then .error 157 else opPut o k v | _ => .error 157 : Except Nat Op) = .error 157 from if_pos (by omega)] at hfold
          simp (decide := true) only [go_sem, Nat.reduceLT, Nat.reduceBEq, Nat.reduceAdd, Int.reduceBEq, Nat.reduceLeDiff, reduceIte, Nat.reduceEqDiff, Int.reduceEq, Int.reduceLE, Int.reduceLT, Int.reduceNe, Nat.reduceMul, Nat.reduceSub, Int.reduceToNat, he, g3, g9, g10, g70, g71, g72]
          refine ⟨by omega, callX_of (errorsNew_A _ _) (List.prefix_refl _) ?_⟩
          simp only [go_sem, Nat.reduceLT, Nat.reduceBEq, Nat.reduceAdd, Int.reduceBEq, Nat.reduceLeDiff, reduceIte, Nat.reduceEqDiff, Int.reduceEq, Int.reduceLE, Int.reduceLT, Int.reduceNe, Nat.reduceMul, Nat.reduceSub, Int.reduceToNat, he, setD_some]
          refine ⟨?_, _, rfl⟩
          rw [← hfold]
          exact rfl
        have hv0 := of_decide_eq_false hv0
        rw [show (match [ky, v] with | [k, v] => if v.length = 0 then .error 157 else opPut o k v | _ => .error 157 : Except Nat Op) = opPut o ky v from if_neg (by omega)] at hfold
        simp only [go_sem, Nat.reduceLT, Nat.reduceBEq, Nat.reduceAdd, Int.reduceBEq, Nat.reduceLeDiff, reduceIte, Nat.reduceEqDiff, Int.reduceEq, Int.reduceLE, Int.reduceLT, Int.reduceNe, Nat.reduceMul, Nat.reduceSub, Int.reduceToNat, he, g3, g9, g10, g70, g71, g72]
        by_cases kkFREQ : ky = [70, 82, 69, 81]
        · subst kkFREQ
          rw [show opPut o [70, 82, 69, 81] v = (optFreq v).map fun a => { o with freq := a, set := true } from rfl] at hfold
          simp (decide := true) only [go_sem, Nat.reduceLT, Nat.reduceBEq, Nat.reduceAdd, Int.reduceBEq, Nat.reduceLeDiff, reduceIte, Nat.reduceEqDiff, Int.reduceEq, Int.reduceLE, Int.reduceLT, Int.reduceNe, Nat.reduceMul, Nat.reduceSub, Int.reduceToNat, he, g3, g9, g10, g70, g71, g72, hb0]
          refine callX_of (strToFreq_P v (by omega) _) (List.prefix_refl _) ?_
          have ho2'' := ho2'
          have hp'' := hp'
          have hx'' := hx'
          unfold opCells at hp''
          unfold freqR
          cases hq : freqOf v with
          | none =>
            rw [show optFreq v = .error 157 by unfold optFreq; rw [hq]; rfl] at hfold
            simp (decide := true) only [go_sem, Nat.reduceLT, Nat.reduceBEq, Nat.reduceAdd, Int.reduceBEq, Nat.reduceLeDiff, reduceIte, Nat.reduceEqDiff, Int.reduceEq, Int.reduceLE, Int.reduceLT, Int.reduceNe, Nat.reduceMul, Nat.reduceSub, Int.reduceToNat, he, g3, g9, g10, g70, g71, g72, setD_some, hp'', wi, hx''.day.one]
            refine ⟨?_, _, set_box hpl⟩
            rw [← hfold]
            exact rfl
          | some n =>
            rw [show optFreq v = .ok n by unfold optFreq; rw [hq]; rfl] at hfold
            simp (decide := true) only [go_sem, Nat.reduceLT, Nat.reduceBEq, Nat.reduceAdd, Int.reduceBEq, Nat.reduceLeDiff, reduceIte, Nat.reduceEqDiff, Int.reduceEq, Int.reduceLE, Int.reduceLT, Int.reduceNe, Nat.reduceMul, Nat.reduceSub, Int.reduceToNat, he, g3, g9, g10, g70, g71, g72, setD_some, hp'', wi, hx''.day.one]
            refine ⟨k - 1, by omega, i + 1, { o with freq := n, set := true }, x, by omega, rfl, rfl, ⟨_, set_box hpl⟩, hne, ?_, ?_, ?_, hfold⟩
            · rw [List.getElem?_set_ne (by omega)]; exact ho2''
            · rw [List.getElem?_set_self (List.getElem?_eq_some_iff.1 hp'').1]; rfl
            · exact ⟨(hx''.put hp'' _).pos, (hx''.put hp'' _).month, (hx''.put hp'' _).mday, (hx''.put hp'' _).yday, (hx''.put hp'' _).weekno, (hx''.put hp'' _).hour, (hx''.put hp'' _).minute, (hx''.put hp'' _).second, (hx''.put hp'' _).easter, (hx''.put hp'' _).day⟩
        by_cases kkDTSTART : ky = [68, 84, 83, 84, 65, 82, 84]
        · subst kkDTSTART
          rw [show opPut o [68, 84, 83, 84, 65, 82, 84] v = (optE (zLoc v)).map fun a => { o with dt := a } from rfl] at hfold
          simp (decide := true) only [go_sem, Nat.reduceLT, Nat.reduceBEq, Nat.reduceAdd, Int.reduceBEq, Nat.reduceLeDiff, reduceIte, Nat.reduceEqDiff, Int.reduceEq, Int.reduceLE, Int.reduceLT, Int.reduceNe, Nat.reduceMul, Nat.reduceSub, Int.reduceToNat, he, g3, g9, g10, g70, g71, g72, hb0]
          refine callX_of (strToTimeInLoc_A v (by omega) (hvf (by decide)) _ rfl _) (List.prefix_refl _) ?_
          have ho2'' := ho2'
          have hp'' := hp'
          have hx'' := hx'
          unfold opCells at hp''
          unfold zLocR
          cases hq : zLoc v with
          | none =>
            rw [hq] at hfold
            simp (decide := true) only [go_sem, Nat.reduceLT, Nat.reduceBEq, Nat.reduceAdd, Int.reduceBEq, Nat.reduceLeDiff, reduceIte, Nat.reduceEqDiff, Int.reduceEq, Int.reduceLE, Int.reduceLT, Int.reduceNe, Nat.reduceMul, Nat.reduceSub, Int.reduceToNat, he, g3, g9, g10, g70, g71, g72, setD_some, hp'', wi, hx''.day.one, exR, optE]
            refine ⟨?_, _, set_box hpl⟩
            rw [← hfold]
            exact rfl
          | some n =>
            rw [hq] at hfold
            simp (decide := true) only [go_sem, Nat.reduceLT, Nat.reduceBEq, Nat.reduceAdd, Int.reduceBEq, Nat.reduceLeDiff, reduceIte, Nat.reduceEqDiff, Int.reduceEq, Int.reduceLE, Int.reduceLT, Int.reduceNe, Nat.reduceMul, Nat.reduceSub, Int.reduceToNat, he, g3, g9, g10, g70, g71, g72, setD_some, hp'', wi, hx''.day.one, exR, optE]
            refine ⟨k - 1, by omega, i + 1, { o with dt := n }, x, by omega, rfl, rfl, ⟨_, set_box hpl⟩, hne, ?_, ?_, ?_, hfold⟩
            · rw [List.getElem?_set_ne (by omega)]; exact ho2''
            · rw [List.getElem?_set_self (List.getElem?_eq_some_iff.1 hp'').1]; rfl
            · exact ⟨(hx''.put hp'' _).pos, (hx''.put hp'' _).month, (hx''.put hp'' _).mday, (hx''.put hp'' _).yday, (hx''.put hp'' _).weekno, (hx''.put hp'' _).hour, (hx''.put hp'' _).minute, (hx''.put hp'' _).second, (hx''.put hp'' _).easter, (hx''.put hp'' _).day⟩
        by_cases kkINTERVAL : ky = [73, 78, 84, 69, 82, 86, 65, 76]
        · subst kkINTERVAL
          rw [show opPut o [73, 78, 84, 69, 82, 86, 65, 76] v = (atoiE v).map fun a => { o with interval := a } from rfl] at hfold
          simp (decide := true) only [go_sem, Nat.reduceLT, Nat.reduceBEq, Nat.reduceAdd, Int.reduceBEq, Nat.reduceLeDiff, reduceIte, Nat.reduceEqDiff, Int.reduceEq, Int.reduceLE, Int.reduceLT, Int.reduceNe, Nat.reduceMul, Nat.reduceSub, Int.reduceToNat, he, g3, g9, g10, g70, g71, g72, hb0]
          refine callX_of (atoi_A hG v (by omega) _) (List.prefix_refl _) ?_
          have ho2'' := ho2'
          have hp'' := hp'
          have hx'' := hx'
          unfold opCells at hp''
          unfold atoiR
          cases hq : Lib.atoiAll v with
          | range =>
            rw [show atoiE v = .error 207 by unfold atoiE; rw [hq]] at hfold
            simp (decide := true) only [go_sem, Nat.reduceLT, Nat.reduceBEq, Nat.reduceAdd, Int.reduceBEq, Nat.reduceLeDiff, reduceIte, Nat.reduceEqDiff, Int.reduceEq, Int.reduceLE, Int.reduceLT, Int.reduceNe, Nat.reduceMul, Nat.reduceSub, Int.reduceToNat, he, g3, g9, g10, g70, g71, g72, setD_some, hp'', wi, hx''.day.one]
            refine ⟨?_, _, set_box hpl⟩
            rw [← hfold]
            exact rfl
          | ok n =>
            rw [show atoiE v = .ok n by unfold atoiE; rw [hq]] at hfold
            simp (decide := true) only [go_sem, Nat.reduceLT, Nat.reduceBEq, Nat.reduceAdd, Int.reduceBEq, Nat.reduceLeDiff, reduceIte, Nat.reduceEqDiff, Int.reduceEq, Int.reduceLE, Int.reduceLT, Int.reduceNe, Nat.reduceMul, Nat.reduceSub, Int.reduceToNat, he, g3, g9, g10, g70, g71, g72, setD_some, hp'', wi, hx''.day.one]
            refine ⟨k - 1, by omega, i + 1, { o with interval := n }, x, by omega, rfl, rfl, ⟨_, set_box hpl⟩, hne, ?_, ?_, ?_, hfold⟩
            · rw [List.getElem?_set_ne (by omega)]; exact ho2''
            · rw [List.getElem?_set_self (List.getElem?_eq_some_iff.1 hp'').1]; rfl
            · exact ⟨(hx''.put hp'' _).pos, (hx''.put hp'' _).month, (hx''.put hp'' _).mday, (hx''.put hp'' _).yday, (hx''.put hp'' _).weekno, (hx''.put hp'' _).hour, (hx''.put hp'' _).minute, (hx''.put hp'' _).second, (hx''.put hp'' _).easter, (hx''.put hp'' _).day⟩
          | _ =>
            rw [show atoiE v = .error 207 by unfold atoiE; rw [hq]] at hfold
            simp (decide := true) only [go_sem, Nat.reduceLT, Nat.reduceBEq, Nat.reduceAdd, Int.reduceBEq, Nat.reduceLeDiff, reduceIte, Nat.reduceEqDiff, Int.reduceEq, Int.reduceLE, Int.reduceLT, Int.reduceNe, Nat.reduceMul, Nat.reduceSub, Int.reduceToNat, he, g3, g9, g10, g70, g71, g72, setD_some, hp'', wi, hx''.day.one]
            refine ⟨?_, _, set_box hpl⟩
            rw [← hfold]
            exact rfl
        by_cases kkWKST : ky = [87, 75, 83, 84]
        · subst kkWKST
          rw [show opPut o [87, 75, 83, 84] v = (wdOf v).map fun a => { o with wkst := a } from rfl] at hfold
          simp (decide := true) only [go_sem, Nat.reduceLT, Nat.reduceBEq, Nat.reduceAdd, Int.reduceBEq, Nat.reduceLeDiff, reduceIte, Nat.reduceEqDiff, Int.reduceEq, Int.reduceLE, Int.reduceLT, Int.reduceNe, Nat.reduceMul, Nat.reduceSub, Int.reduceToNat, he, g3, g9, g10, g70, g71, g72, hb0]
          refine callX_of (strToWeekday_A hG v (by omega) _ hHb) (List.prefix_refl _) ?_
          have ho2'' := ho2'
          have hp'' := hp'
          have hx'' := hx'
          unfold opCells at hp''
          unfold wdR
          cases hq : wdOf v with
          | error t =>
            rw [hq] at hfold
            simp (decide := true) only [go_sem, Nat.reduceLT, Nat.reduceBEq, Nat.reduceAdd, Int.reduceBEq, Nat.reduceLeDiff, reduceIte, Nat.reduceEqDiff, Int.reduceEq, Int.reduceLE, Int.reduceLT, Int.reduceNe, Nat.reduceMul, Nat.reduceSub, Int.reduceToNat, he, g3, g9, g10, g70, g71, g72, setD_some, hp'', wi, hx''.day.one, exR]
            refine ⟨?_, _, set_box hpl⟩
            rw [← hfold]
            exact rfl
          | ok n =>
            rw [hq] at hfold
            simp (decide := true) only [go_sem, Nat.reduceLT, Nat.reduceBEq, Nat.reduceAdd, Int.reduceBEq, Nat.reduceLeDiff, reduceIte, Nat.reduceEqDiff, Int.reduceEq, Int.reduceLE, Int.reduceLT, Int.reduceNe, Nat.reduceMul, Nat.reduceSub, Int.reduceToNat, he, g3, g9, g10, g70, g71, g72, setD_some, hp'', wi, hx''.day.one, exR]
            refine ⟨k - 1, by omega, i + 1, { o with wkst := n }, x, by omega, rfl, rfl, ⟨_, set_box hpl⟩, hne, ?_, ?_, ?_, hfold⟩
            · rw [List.getElem?_set_ne (by omega)]; exact ho2''
            · rw [List.getElem?_set_self (List.getElem?_eq_some_iff.1 hp'').1]; rfl
            · exact ⟨(hx''.put hp'' _).pos, (hx''.put hp'' _).month, (hx''.put hp'' _).mday, (hx''.put hp'' _).yday, (hx''.put hp'' _).weekno, (hx''.put hp'' _).hour, (hx''.put hp'' _).minute, (hx''.put hp'' _).second, (hx''.put hp'' _).easter, (hx''.put hp'' _).day⟩
        by_cases kkCOUNT : ky = [67, 79, 85, 78, 84]
        · subst kkCOUNT
          rw [show opPut o [67, 79, 85, 78, 84] v = (atoiE v).map fun a => { o with count := a } from rfl] at hfold
          simp (decide := true) only [go_sem, Nat.reduceLT, Nat.reduceBEq, Nat.reduceAdd, Int.reduceBEq, Nat.reduceLeDiff, reduceIte, Nat.reduceEqDiff, Int.reduceEq, Int.reduceLE, Int.reduceLT, Int.reduceNe, Nat.reduceMul, Nat.reduceSub, Int.reduceToNat, he, g3, g9, g10, g70, g71, g72, hb0]
          refine callX_of (atoi_A hG v (by omega) _) (List.prefix_refl _) ?_
          have ho2'' := ho2'
          have hp'' := hp'
          have hx'' := hx'
          unfold opCells at hp''
          unfold atoiR
          cases hq : Lib.atoiAll v with
          | range =>
            rw [show atoiE v = .error 207 by unfold atoiE; rw [hq]] at hfold
            simp (decide := true) only [go_sem, Nat.reduceLT, Nat.reduceBEq, Nat.reduceAdd, Int.reduceBEq, Nat.reduceLeDiff, reduceIte, Nat.reduceEqDiff, Int.reduceEq, Int.reduceLE, Int.reduceLT, Int.reduceNe, Nat.reduceMul, Nat.reduceSub, Int.reduceToNat, he, g3, g9, g10, g70, g71, g72, setD_some, hp'', wi, hx''.day.one]
            refine ⟨?_, _, set_box hpl⟩
            rw [← hfold]
            exact rfl
          | ok n =>
            rw [show atoiE v = .ok n by unfold atoiE; rw [hq]] at hfold
            simp (decide := true) only [go_sem, Nat.reduceLT, Nat.reduceBEq, Nat.reduceAdd, Int.reduceBEq, Nat.reduceLeDiff, reduceIte, Nat.reduceEqDiff, Int.reduceEq, Int.reduceLE, Int.reduceLT, Int.reduceNe, Nat.reduceMul, Nat.reduceSub, Int.reduceToNat, he, g3, g9, g10, g70, g71, g72, setD_some, hp'', wi, hx''.day.one]
            refine ⟨k - 1, by omega, i + 1, { o with count := n }, x, by omega, rfl, rfl, ⟨_, set_box hpl⟩, hne, ?_, ?_, ?_, hfold⟩
            · rw [List.getElem?_set_ne (by omega)]; exact ho2''
            · rw [List.getElem?_set_self (List.getElem?_eq_some_iff.1 hp'').1]; rfl
            · exact ⟨(hx''.put hp'' _).pos, (hx''.put hp'' _).month, (hx''.put hp'' _).mday, (hx''.put hp'' _).yday, (hx''.put hp'' _).weekno, (hx''.put hp'' _).hour, (hx''.put hp'' _).minute, (hx''.put hp'' _).second, (hx''.put hp'' _).easter, (hx''.put hp'' _).day⟩
          | _ =>
            rw [show atoiE v = .error 207 by unfold atoiE; rw [hq]] at hfold
            simp (decide := true) only [go_sem, Nat.reduceLT, Nat.reduceBEq, Nat.reduceAdd, Int.reduceBEq, Nat.reduceLeDiff, reduceIte, Nat.reduceEqDiff, Int.reduceEq, Int.reduceLE, Int.reduceLT, Int.reduceNe, Nat.reduceMul, Nat.reduceSub, Int.reduceToNat, he, g3, g9, g10, g70, g71, g72, setD_some, hp'', wi, hx''.day.one]
            refine ⟨?_, _, set_box hpl⟩
            rw [← hfold]
            exact rfl
        by_cases kkUNTIL : ky = [85, 78, 84, 73, 76]
        · subst kkUNTIL
          rw [show opPut o [85, 78, 84, 73, 76] v = (optE (zLoc v)).map fun a => { o with til := a } from rfl] at hfold
          simp (decide := true) only [go_sem, Nat.reduceLT, Nat.reduceBEq, Nat.reduceAdd, Int.reduceBEq, Nat.reduceLeDiff, reduceIte, Nat.reduceEqDiff, Int.reduceEq, Int.reduceLE, Int.reduceLT, Int.reduceNe, Nat.reduceMul, Nat.reduceSub, Int.reduceToNat, he, g3, g9, g10, g70, g71, g72, hb0]
          refine callX_of (strToTimeInLoc_A v (by omega) (hvf (by decide)) _ rfl _) (List.prefix_refl _) ?_
          have ho2'' := ho2'
          have hp'' := hp'
          have hx'' := hx'
          unfold opCells at hp''
          unfold zLocR
          cases hq : zLoc v with
          | none =>
            rw [hq] at hfold
            simp (decide := true) only [go_sem, Nat.reduceLT, Nat.reduceBEq, Nat.reduceAdd, Int.reduceBEq, Nat.reduceLeDiff, reduceIte, Nat.reduceEqDiff, Int.reduceEq, Int.reduceLE, Int.reduceLT, Int.reduceNe, Nat.reduceMul, Nat.reduceSub, Int.reduceToNat, he, g3, g9, g10, g70, g71, g72, setD_some, hp'', wi, hx''.day.one, exR, optE]
            refine ⟨?_, _, set_box hpl⟩
            rw [← hfold]
            exact rfl
          | some n =>
            rw [hq] at hfold
            simp (decide := true) only [go_sem, Nat.reduceLT, Nat.reduceBEq, Nat.reduceAdd, Int.reduceBEq, Nat.reduceLeDiff, reduceIte, Nat.reduceEqDiff, Int.reduceEq, Int.reduceLE, Int.reduceLT, Int.reduceNe, Nat.reduceMul, Nat.reduceSub, Int.reduceToNat, he, g3, g9, g10, g70, g71, g72, setD_some, hp'', wi, hx''.day.one, exR, optE]
            refine ⟨k - 1, by omega, i + 1, { o with til := n }, x, by omega, rfl, rfl, ⟨_, set_box hpl⟩, hne, ?_, ?_, ?_, hfold⟩
            · rw [List.getElem?_set_ne (by omega)]; exact ho2''
            · rw [List.getElem?_set_self (List.getElem?_eq_some_iff.1 hp'').1]; rfl
            · exact ⟨(hx''.put hp'' _).pos, (hx''.put hp'' _).month, (hx''.put hp'' _).mday, (hx''.put hp'' _).yday, (hx''.put hp'' _).weekno, (hx''.put hp'' _).hour, (hx''.put hp'' _).minute, (hx''.put hp'' _).second, (hx''.put hp'' _).easter, (hx''.put hp'' _).day⟩
        by_cases kkBYSETPOS : ky = [66, 89, 83, 69, 84, 80, 79, 83]
        · subst kkBYSETPOS
          rw [show opPut o [66, 89, 83, 69, 84, 80, 79, 83] v = (intsOf v).map fun a => { o with pos := a } from rfl] at hfold
          simp (decide := true) only [go_sem, Nat.reduceLT, Nat.reduceBEq, Nat.reduceAdd, Int.reduceBEq, Nat.reduceLeDiff, reduceIte, Nat.reduceEqDiff, Int.reduceEq, Int.reduceLE, Int.reduceLT, Int.reduceNe, Nat.reduceMul, Nat.reduceSub, Int.reduceToNat, he, g3, g9, g10, g70, g71, g72, hb0]
          refine callX_any (strToInts_A hG v (by omega) _) ?_
          rintro r h ⟨hr, G6, rfl⟩
          have ho2'' := get_more (G := G6) ho2'
          have hp'' := get_more (G := G6) hp'
          have hx'' := hx'.more G6
          rw [List.append_assoc, List.cons_append] at ho2'' hp'' hx'' hr
          rw [List.append_assoc, List.cons_append]
          unfold opCells at hp''
          cases hq : intsOf v with
          | error t =>
            rw [hq] at hr hfold
            obtain rfl : r = _ := hr
            simp (decide := true) only [go_sem, Nat.reduceLT, Nat.reduceBEq, Nat.reduceAdd, Int.reduceBEq, Nat.reduceLeDiff, reduceIte, Nat.reduceEqDiff, Int.reduceEq, Int.reduceLE, Int.reduceLT, Int.reduceNe, Nat.reduceMul, Nat.reduceSub, Int.reduceToNat, he, g3, g9, g10, g70, g71, g72, setD_some, hp'', wi, hx''.day.one]
            refine ⟨?_, _, set_box hpl⟩
            rw [← hfold]
            exact rfl
          | ok l =>
            rw [hq] at hr hfold
            obtain ⟨q, rfl, hq1, hq2⟩ := hr
            have hqp : p ≠ q := by rintro rfl; rw [hp''] at hq1; simp at hq1
            simp (decide := true) only [go_sem, Nat.reduceLT, Nat.reduceBEq, Nat.reduceAdd, Int.reduceBEq, Nat.reduceLeDiff, reduceIte, Nat.reduceEqDiff, Int.reduceEq, Int.reduceLE, Int.reduceLT, Int.reduceNe, Nat.reduceMul, Nat.reduceSub, Int.reduceToNat, he, g3, g9, g10, g70, g71, g72, setD_some, hp'', wi, hx''.day.one]
            refine ⟨k - 1, by omega, i + 1, { o with pos := l }, { x with pos := .sl true q 0 l.length 1 }, by omega, rfl, rfl, ⟨_, set_box hpl⟩, hne, ?_, ?_, ?_, hfold⟩
            · rw [List.getElem?_set_ne (by omega)]; exact ho2''
            · rw [List.getElem?_set_self (List.getElem?_eq_some_iff.1 hp'').1]; rfl
            · exact { (hx''.put hp'' _) with pos := .inr ⟨q, rfl, by rw [List.getElem?_set_ne hqp]; exact hq1⟩ }
        by_cases kkBYMONTH : ky = [66, 89, 77, 79, 78, 84, 72]
        · subst kkBYMONTH
          rw [show opPut o [66, 89, 77, 79, 78, 84, 72] v = (intsOf v).map fun a => { o with month := a } from rfl] at hfold
          simp (decide := true) only [go_sem, Nat.reduceLT, Nat.reduceBEq, Nat.reduceAdd, Int.reduceBEq, Nat.reduceLeDiff, reduceIte, Nat.reduceEqDiff, Int.reduceEq, Int.reduceLE, Int.reduceLT, Int.reduceNe, Nat.reduceMul, Nat.reduceSub, Int.reduceToNat, he, g3, g9, g10, g70, g71, g72, hb0]
          refine callX_any (strToInts_A hG v (by omega) _) ?_
          rintro r h ⟨hr, G6, rfl⟩
          have ho2'' := get_more (G := G6) ho2'
          have hp'' := get_more (G := G6) hp'
          have hx'' := hx'.more G6
          rw [List.append_assoc, List.cons_append] at ho2'' hp'' hx'' hr
          rw [List.append_assoc, List.cons_append]
          unfold opCells at hp''
          cases hq : intsOf v with
          | error t =>
            rw [hq] at hr hfold
            obtain rfl : r = _ := hr
            simp (decide := true) only [go_sem, Nat.reduceLT, Nat.reduceBEq, Nat.reduceAdd, Int.reduceBEq, Nat.reduceLeDiff, reduceIte, Nat.reduceEqDiff, Int.reduceEq, Int.reduceLE, Int.reduceLT, Int.reduceNe, Nat.reduceMul, Nat.reduceSub, Int.reduceToNat, he, g3, g9, g10, g70, g71, g72, setD_some, hp'', wi, hx''.day.one]
            refine ⟨?_, _, set_box hpl⟩
            rw [← hfold]
            exact rfl
          | ok l =>
            rw [hq] at hr hfold
            obtain ⟨q, rfl, hq1, hq2⟩ := hr
            have hqp : p ≠ q := by rintro rfl; rw [hp''] at hq1; simp at hq1
            simp (decide := true) only [go_sem, Nat.reduceLT, Nat.reduceBEq, Nat.reduceAdd, Int.reduceBEq, Nat.reduceLeDiff, reduceIte, Nat.reduceEqDiff, Int.reduceEq, Int.reduceLE, Int.reduceLT, Int.reduceNe, Nat.reduceMul, Nat.reduceSub, Int.reduceToNat, he, g3, g9, g10, g70, g71, g72, setD_some, hp'', wi, hx''.day.one]
            refine ⟨k - 1, by omega, i + 1, { o with month := l }, { x with month := .sl true q 0 l.length 1 }, by omega, rfl, rfl, ⟨_, set_box hpl⟩, hne, ?_, ?_, ?_, hfold⟩
            · rw [List.getElem?_set_ne (by omega)]; exact ho2''
            · rw [List.getElem?_set_self (List.getElem?_eq_some_iff.1 hp'').1]; rfl
            · exact { (hx''.put hp'' _) with month := .inr ⟨q, rfl, by rw [List.getElem?_set_ne hqp]; exact hq1⟩ }
        by_cases kkBYMONTHDAY : ky = [66, 89, 77, 79, 78, 84, 72, 68, 65, 89]
        · subst kkBYMONTHDAY
          rw [show opPut o [66, 89, 77, 79, 78, 84, 72, 68, 65, 89] v = (intsOf v).map fun a => { o with mday := a } from rfl] at hfold
          simp (decide := true) only [go_sem, Nat.reduceLT, Nat.reduceBEq, Nat.reduceAdd, Int.reduceBEq, Nat.reduceLeDiff, reduceIte, Nat.reduceEqDiff, Int.reduceEq, Int.reduceLE, Int.reduceLT, Int.reduceNe, Nat.reduceMul, Nat.reduceSub, Int.reduceToNat, he, g3, g9, g10, g70, g71, g72, hb0]
          refine callX_any (strToInts_A hG v (by omega) _) ?_
          rintro r h ⟨hr, G6, rfl⟩
          have ho2'' := get_more (G := G6) ho2'
          have hp'' := get_more (G := G6) hp'
          have hx'' := hx'.more G6
          rw [List.append_assoc, List.cons_append] at ho2'' hp'' hx'' hr
          rw [List.append_assoc, List.cons_append]
          unfold opCells at hp''
          cases hq : intsOf v with
          | error t =>
            rw [hq] at hr hfold
            obtain rfl : r = _ := hr
            simp (decide := true) only [go_sem, Nat.reduceLT, Nat.reduceBEq, Nat.reduceAdd, Int.reduceBEq, Nat.reduceLeDiff, reduceIte, Nat.reduceEqDiff, Int.reduceEq, Int.reduceLE, Int.reduceLT, Int.reduceNe, Nat.reduceMul, Nat.reduceSub, Int.reduceToNat, he, g3, g9, g10, g70, g71, g72, setD_some, hp'', wi, hx''.day.one]
            refine ⟨?_, _, set_box hpl⟩
            rw [← hfold]
            exact rfl
          | ok l =>
            rw [hq] at hr hfold
            obtain ⟨q, rfl, hq1, hq2⟩ := hr
            have hqp : p ≠ q := by rintro rfl; rw [hp''] at hq1; simp at hq1
            simp (decide := true) only [go_sem, Nat.reduceLT, Nat.reduceBEq, Nat.reduceAdd, Int.reduceBEq, Nat.reduceLeDiff, reduceIte, Nat.reduceEqDiff, Int.reduceEq, Int.reduceLE, Int.reduceLT, Int.reduceNe, Nat.reduceMul, Nat.reduceSub, Int.reduceToNat, he, g3, g9, g10, g70, g71, g72, setD_some, hp'', wi, hx''.day.one]
            refine ⟨k - 1, by omega, i + 1, { o with mday := l }, { x with mday := .sl true q 0 l.length 1 }, by omega, rfl, rfl, ⟨_, set_box hpl⟩, hne, ?_, ?_, ?_, hfold⟩
            · rw [List.getElem?_set_ne (by omega)]; exact ho2''
            · rw [List.getElem?_set_self (List.getElem?_eq_some_iff.1 hp'').1]; rfl
            · exact { (hx''.put hp'' _) with mday := .inr ⟨q, rfl, by rw [List.getElem?_set_ne hqp]; exact hq1⟩ }
        by_cases kkBYYEARDAY : ky = [66, 89, 89, 69, 65, 82, 68, 65, 89]
        · subst kkBYYEARDAY
          rw [show opPut o [66, 89, 89, 69, 65, 82, 68, 65, 89] v = (intsOf v).map fun a => { o with yday := a } from rfl] at hfold
          simp (decide := true) only [go_sem, Nat.reduceLT, Nat.reduceBEq, Nat.reduceAdd, Int.reduceBEq, Nat.reduceLeDiff, reduceIte, Nat.reduceEqDiff, Int.reduceEq, Int.reduceLE, Int.reduceLT, Int.reduceNe, Nat.reduceMul, Nat.reduceSub, Int.reduceToNat, he, g3, g9, g10, g70, g71, g72, hb0]
          refine callX_any (strToInts_A hG v (by omega) _) ?_
          rintro r h ⟨hr, G6, rfl⟩
          have ho2'' := get_more (G := G6) ho2'
          have hp'' := get_more (G := G6) hp'
          have hx'' := hx'.more G6
          rw [List.append_assoc, List.cons_append] at ho2'' hp'' hx'' hr
          rw [List.append_assoc, List.cons_append]
          unfold opCells at hp''
          cases hq : intsOf v with
          | error t =>
            rw [hq] at hr hfold
            obtain rfl : r = _ := hr
            simp (decide := true) only [go_sem, Nat.reduceLT, Nat.reduceBEq, Nat.reduceAdd, Int.reduceBEq, Nat.reduceLeDiff, reduceIte, Nat.reduceEqDiff, Int.reduceEq, Int.reduceLE, Int.reduceLT, Int.reduceNe, Nat.reduceMul, Nat.reduceSub, Int.reduceToNat, he, g3, g9, g10, g70, g71, g72, setD_some, hp'', wi, hx''.day.one]
            refine ⟨?_, _, set_box hpl⟩
            rw [← hfold]
            exact rfl
          | ok l =>
            rw [hq] at hr hfold
            obtain ⟨q, rfl, hq1, hq2⟩ := hr
            have hqp : p ≠ q := by rintro rfl; rw [hp''] at hq1; simp at hq1
            simp (decide := true) only [go_sem, Nat.reduceLT, Nat.reduceBEq, Nat.reduceAdd, Int.reduceBEq, Nat.reduceLeDiff, reduceIte, Nat.reduceEqDiff, Int.reduceEq, Int.reduceLE, Int.reduceLT, Int.reduceNe, Nat.reduceMul, Nat.reduceSub, Int.reduceToNat, he, g3, g9, g10, g70, g71, g72, setD_some, hp'', wi, hx''.day.one]
            refine ⟨k - 1, by omega, i + 1, { o with yday := l }, { x with yday := .sl true q 0 l.length 1 }, by omega, rfl, rfl, ⟨_, set_box hpl⟩, hne, ?_, ?_, ?_, hfold⟩
            · rw [List.getElem?_set_ne (by omega)]; exact ho2''
            · rw [List.getElem?_set_self (List.getElem?_eq_some_iff.1 hp'').1]; rfl
            · exact { (hx''.put hp'' _) with yday := .inr ⟨q, rfl, by rw [List.getElem?_set_ne hqp]; exact hq1⟩ }
        by_cases kkBYWEEKNO : ky = [66, 89, 87, 69, 69, 75, 78, 79]
        · subst kkBYWEEKNO
          rw [show opPut o [66, 89, 87, 69, 69, 75, 78, 79] v = (intsOf v).map fun a => { o with weekno := a } from rfl] at hfold
          simp (decide := true) only [go_sem, Nat.reduceLT, Nat.reduceBEq, Nat.reduceAdd, Int.reduceBEq, Nat.reduceLeDiff, reduceIte, Nat.reduceEqDiff, Int.reduceEq, Int.reduceLE, Int.reduceLT, Int.reduceNe, Nat.reduceMul, Nat.reduceSub, Int.reduceToNat, he, g3, g9, g10, g70, g71, g72, hb0]
          refine callX_any (strToInts_A hG v (by omega) _) ?_
          rintro r h ⟨hr, G6, rfl⟩
          have ho2'' := get_more (G := G6) ho2'
          have hp'' := get_more (G := G6) hp'
          have hx'' := hx'.more G6
          rw [List.append_assoc, List.cons_append] at ho2'' hp'' hx'' hr
          rw [List.append_assoc, List.cons_append]
          unfold opCells at hp''
          cases hq : intsOf v with
          | error t =>
            rw [hq] at hr hfold
            obtain rfl : r = _ := hr
            simp (decide := true) only [go_sem, Nat.reduceLT, Nat.reduceBEq, Nat.reduceAdd, Int.reduceBEq, Nat.reduceLeDiff, reduceIte, Nat.reduceEqDiff, Int.reduceEq, Int.reduceLE, Int.reduceLT, Int.reduceNe, Nat.reduceMul, Nat.reduceSub, Int.reduceToNat, he, g3, g9, g10, g70, g71, g72, setD_some, hp'', wi, hx''.day.one]
            refine ⟨?_, _, set_box hpl⟩
            rw [← hfold]
            exact rfl
          | ok l =>
            rw [hq] at hr hfold
            obtain ⟨q, rfl, hq1, hq2⟩ := hr
            have hqp : p ≠ q := by rintro rfl; rw [hp''] at hq1; simp at hq1
            simp (decide := true) only [go_sem, Nat.reduceLT, Nat.reduceBEq, Nat.reduceAdd, Int.reduceBEq, Nat.reduceLeDiff, reduceIte, Nat.reduceEqDiff, Int.reduceEq, Int.reduceLE, Int.reduceLT, Int.reduceNe, Nat.reduceMul, Nat.reduceSub, Int.reduceToNat, he, g3, g9, g10, g70, g71, g72, setD_some, hp'', wi, hx''.day.one]
            refine ⟨k - 1, by omega, i + 1, { o with weekno := l }, { x with weekno := .sl true q 0 l.length 1 }, by omega, rfl, rfl, ⟨_, set_box hpl⟩, hne, ?_, ?_, ?_, hfold⟩
            · rw [List.getElem?_set_ne (by omega)]; exact ho2''
            · rw [List.getElem?_set_self (List.getElem?_eq_some_iff.1 hp'').1]; rfl
            · exact { (hx''.put hp'' _) with weekno := .inr ⟨q, rfl, by rw [List.getElem?_set_ne hqp]; exact hq1⟩ }
        by_cases kkBYDAY : ky = [66, 89, 68, 65, 89]
        · subst kkBYDAY
          rw [show opPut o [66, 89, 68, 65, 89] v = (daysOf v).map fun a => { o with day := a } from rfl] at hfold
          simp (decide := true) only [go_sem, Nat.reduceLT, Nat.reduceBEq, Nat.reduceAdd, Int.reduceBEq, Nat.reduceLeDiff, reduceIte, Nat.reduceEqDiff, Int.reduceEq, Int.reduceLE, Int.reduceLT, Int.reduceNe, Nat.reduceMul, Nat.reduceSub, Int.reduceToNat, he, g3, g9, g10, g70, g71, g72, hb0]
          refine callX_any (strToWeekdays_A hG v (by omega) _ hHb) ?_
          rintro r h ⟨hr, G6, rfl⟩
          have ho2'' := get_more (G := G6) ho2'
          have hp'' := get_more (G := G6) hp'
          have hx'' := hx'.more G6
          rw [List.append_assoc, List.cons_append] at ho2'' hp'' hx'' hr
          rw [List.append_assoc, List.cons_append]
          unfold opCells at hp''
          cases hq : daysOf v with
          | error t =>
            rw [hq] at hr hfold
            obtain rfl : r = _ := hr
            simp (decide := true) only [go_sem, Nat.reduceLT, Nat.reduceBEq, Nat.reduceAdd, Int.reduceBEq, Nat.reduceLeDiff, reduceIte, Nat.reduceEqDiff, Int.reduceEq, Int.reduceLE, Int.reduceLT, Int.reduceNe, Nat.reduceMul, Nat.reduceSub, Int.reduceToNat, he, g3, g9, g10, g70, g71, g72, setD_some, hp'', wi, hx''.day.one]
            refine ⟨?_, _, set_box hpl⟩
            rw [← hfold]
            exact rfl
          | ok l =>
            rw [hq] at hr hfold
            obtain ⟨q, cs, rfl, hq1, hq2, hq3⟩ := hr
            have hqp : p ≠ q := by rintro rfl; rw [hp''] at hq1; simp at hq1
            simp (decide := true) only [go_sem, Nat.reduceLT, Nat.reduceBEq, Nat.reduceAdd, Int.reduceBEq, Nat.reduceLeDiff, reduceIte, Nat.reduceEqDiff, Int.reduceEq, Int.reduceLE, Int.reduceLT, Int.reduceNe, Nat.reduceMul, Nat.reduceSub, Int.reduceToNat, he, g3, g9, g10, g70, g71, g72, setD_some, hp'', wi, hx''.day.one]
            refine ⟨k - 1, by omega, i + 1, { o with day := l }, { x with day := .sl true q 0 l.length 2 }, by omega, rfl, rfl, ⟨_, set_box hpl⟩, hne, ?_, ?_, ?_, hfold⟩
            · rw [List.getElem?_set_ne (by omega)]; exact ho2''
            · rw [List.getElem?_set_self (List.getElem?_eq_some_iff.1 hp'').1]; rfl
            · exact { (hx''.put hp'' _) with day := .inr ⟨q, cs, rfl, by rw [List.getElem?_set_ne hqp]; exact hq1, hq3⟩ }
        by_cases kkBYHOUR : ky = [66, 89, 72, 79, 85, 82]
        · subst kkBYHOUR
          rw [show opPut o [66, 89, 72, 79, 85, 82] v = (intsOf v).map fun a => { o with hour := a } from rfl] at hfold
          simp (decide := true) only [go_sem, Nat.reduceLT, Nat.reduceBEq, Nat.reduceAdd, Int.reduceBEq, Nat.reduceLeDiff, reduceIte, Nat.reduceEqDiff, Int.reduceEq, Int.reduceLE, Int.reduceLT, Int.reduceNe, Nat.reduceMul, Nat.reduceSub, Int.reduceToNat, he, g3, g9, g10, g70, g71, g72, hb0]
          refine callX_any (strToInts_A hG v (by omega) _) ?_
          rintro r h ⟨hr, G6, rfl⟩
          have ho2'' := get_more (G := G6) ho2'
          have hp'' := get_more (G := G6) hp'
          have hx'' := hx'.more G6
          rw [List.append_assoc, List.cons_append] at ho2'' hp'' hx'' hr
          rw [List.append_assoc, List.cons_append]
          unfold opCells at hp''
          cases hq : intsOf v with
          | error t =>
            rw [hq] at hr hfold
            obtain rfl : r = _ := hr
            simp (decide := true) only [go_sem, Nat.reduceLT, Nat.reduceBEq, Nat.reduceAdd, Int.reduceBEq, Nat.reduceLeDiff, reduceIte, Nat.reduceEqDiff, Int.reduceEq, Int.reduceLE, Int.reduceLT, Int.reduceNe, Nat.reduceMul, Nat.reduceSub, Int.reduceToNat, he, g3, g9, g10, g70, g71, g72, setD_some, hp'', wi, hx''.day.one]
            refine ⟨?_, _, set_box hpl⟩
            rw [← hfold]
            exact rfl
          | ok l =>
            rw [hq] at hr hfold
            obtain ⟨q, rfl, hq1, hq2⟩ := hr
            have hqp : p ≠ q := by rintro rfl; rw [hp''] at hq1; simp at hq1
            simp (decide := true) only [go_sem, Nat.reduceLT, Nat.reduceBEq, Nat.reduceAdd, Int.reduceBEq, Nat.reduceLeDiff, reduceIte, Nat.reduceEqDiff, Int.reduceEq, Int.reduceLE, Int.reduceLT, Int.reduceNe, Nat.reduceMul, Nat.reduceSub, Int.reduceToNat, he, g3, g9, g10, g70, g71, g72, setD_some, hp'', wi, hx''.day.one]
            refine ⟨k - 1, by omega, i + 1, { o with hour := l }, { x with hour := .sl true q 0 l.length 1 }, by omega, rfl, rfl, ⟨_, set_box hpl⟩, hne, ?_, ?_, ?_, hfold⟩
            · rw [List.getElem?_set_ne (by omega)]; exact ho2''
            · rw [List.getElem?_set_self (List.getElem?_eq_some_iff.1 hp'').1]; rfl
            · exact { (hx''.put hp'' _) with hour := .inr ⟨q, rfl, by rw [List.getElem?_set_ne hqp]; exact hq1⟩ }
        by_cases kkBYMINUTE : ky = [66, 89, 77, 73, 78, 85, 84, 69]
        · subst kkBYMINUTE
          rw [show opPut o [66, 89, 77, 73, 78, 85, 84, 69] v = (intsOf v).map fun a => { o with minute := a } from rfl] at hfold
          simp (decide := true) only [go_sem, Nat.reduceLT, Nat.reduceBEq, Nat.reduceAdd, Int.reduceBEq, Nat.reduceLeDiff, reduceIte, Nat.reduceEqDiff, Int.reduceEq, Int.reduceLE, Int.reduceLT, Int.reduceNe, Nat.reduceMul, Nat.reduceSub, Int.reduceToNat, he, g3, g9, g10, g70, g71, g72, hb0]
          refine callX_any (strToInts_A hG v (by omega) _) ?_
          rintro r h ⟨hr, G6, rfl⟩
          have ho2'' := get_more (G := G6) ho2'
          have hp'' := get_more (G := G6) hp'
          have hx'' := hx'.more G6
          rw [List.append_assoc, List.cons_append] at ho2'' hp'' hx'' hr
          rw [List.append_assoc, List.cons_append]
          unfold opCells at hp''
          cases hq : intsOf v with
          | error t =>
            rw [hq] at hr hfold
            obtain rfl : r = _ := hr
            simp (decide := true) only [go_sem, Nat.reduceLT, Nat.reduceBEq, Nat.reduceAdd, Int.reduceBEq, Nat.reduceLeDiff, reduceIte, Nat.reduceEqDiff, Int.reduceEq, Int.reduceLE, Int.reduceLT, Int.reduceNe, Nat.reduceMul, Nat.reduceSub, Int.reduceToNat, he, g3, g9, g10, g70, g71, g72, setD_some, hp'', wi, hx''.day.one]
            refine ⟨?_, _, set_box hpl⟩
            rw [← hfold]
            exact rfl
          | ok l =>
            rw [hq] at hr hfold
            obtain ⟨q, rfl, hq1, hq2⟩ := hr
            have hqp : p ≠ q := by rintro rfl; rw [hp''] at hq1; simp at hq1
            simp (decide := true) only [go_sem, Nat.reduceLT, Nat.reduceBEq, Nat.reduceAdd, Int.reduceBEq, Nat.reduceLeDiff, reduceIte, Nat.reduceEqDiff, Int.reduceEq, Int.reduceLE, Int.reduceLT, Int.reduceNe, Nat.reduceMul, Nat.reduceSub, Int.reduceToNat, he, g3, g9, g10, g70, g71, g72, setD_some, hp'', wi, hx''.day.one]
            refine ⟨k - 1, by omega, i + 1, { o with minute := l }, { x with minute := .sl true q 0 l.length 1 }, by omega, rfl, rfl, ⟨_, set_box hpl⟩, hne, ?_, ?_, ?_, hfold⟩
            · rw [List.getElem?_set_ne (by omega)]; exact ho2''
            · rw [List.getElem?_set_self (List.getElem?_eq_some_iff.1 hp'').1]; rfl
            · exact { (hx''.put hp'' _) with minute := .inr ⟨q, rfl, by rw [List.getElem?_set_ne hqp]; exact hq1⟩ }
        by_cases kkBYSECOND : ky = [66, 89, 83, 69, 67, 79, 78, 68]
        · subst kkBYSECOND
          rw [show opPut o [66, 89, 83, 69, 67, 79, 78, 68] v = (intsOf v).map fun a => { o with second := a } from rfl] at hfold
          simp (decide := true) only [go_sem, Nat.reduceLT, Nat.reduceBEq, Nat.reduceAdd, Int.reduceBEq, Nat.reduceLeDiff, reduceIte, Nat.reduceEqDiff, Int.reduceEq, Int.reduceLE, Int.reduceLT, Int.reduceNe, Nat.reduceMul, Nat.reduceSub, Int.reduceToNat, he, g3, g9, g10, g70, g71, g72, hb0]
          refine callX_any (strToInts_A hG v (by omega) _) ?_
          rintro r h ⟨hr, G6, rfl⟩
          have ho2'' := get_more (G := G6) ho2'
          have hp'' := get_more (G := G6) hp'
          have hx'' := hx'.more G6
          rw [List.append_assoc, List.cons_append] at ho2'' hp'' hx'' hr
          rw [List.append_assoc, List.cons_append]
          unfold opCells at hp''
          cases hq : intsOf v with
          | error t =>
            rw [hq] at hr hfold
            obtain rfl : r = _ := hr
            simp (decide := true) only [go_sem, Nat.reduceLT, Nat.reduceBEq, Nat.reduceAdd, Int.reduceBEq, Nat.reduceLeDiff, reduceIte, Nat.reduceEqDiff, Int.reduceEq, Int.reduceLE, Int.reduceLT, Int.reduceNe, Nat.reduceMul, Nat.reduceSub, Int.reduceToNat, he, g3, g9, g10, g70, g71, g72, setD_some, hp'', wi, hx''.day.one]
            refine ⟨?_, _, set_box hpl⟩
            rw [← hfold]
            exact rfl
          | ok l =>
            rw [hq] at hr hfold
            obtain ⟨q, rfl, hq1, hq2⟩ := hr
            have hqp : p ≠ q := by rintro rfl; rw [hp''] at hq1; simp at hq1
            simp (decide := true) only [go_sem, Nat.reduceLT, Nat.reduceBEq, Nat.reduceAdd, Int.reduceBEq, Nat.reduceLeDiff, reduceIte, Nat.reduceEqDiff, Int.reduceEq, Int.reduceLE, Int.reduceLT, Int.reduceNe, Nat.reduceMul, Nat.reduceSub, Int.reduceToNat, he, g3, g9, g10, g70, g71, g72, setD_some, hp'', wi, hx''.day.one]
            refine ⟨k - 1, by omega, i + 1, { o with second := l }, { x with second := .sl true q 0 l.length 1 }, by omega, rfl, rfl, ⟨_, set_box hpl⟩, hne, ?_, ?_, ?_, hfold⟩
            · rw [List.getElem?_set_ne (by omega)]; exact ho2''
            · rw [List.getElem?_set_self (List.getElem?_eq_some_iff.1 hp'').1]; rfl
            · exact { (hx''.put hp'' _) with second := .inr ⟨q, rfl, by rw [List.getElem?_set_ne hqp]; exact hq1⟩ }
        by_cases kkBYEASTER : ky = [66, 89, 69, 65, 83, 84, 69, 82]
        · subst kkBYEASTER
          rw [show opPut o [66, 89, 69, 65, 83, 84, 69, 82] v = (intsOf v).map fun a => { o with easter := a } from rfl] at hfold
          simp (decide := true) only [go_sem, Nat.reduceLT, Nat.reduceBEq, Nat.reduceAdd, Int.reduceBEq, Nat.reduceLeDiff, reduceIte, Nat.reduceEqDiff, Int.reduceEq, Int.reduceLE, Int.reduceLT, Int.reduceNe, Nat.reduceMul, Nat.reduceSub, Int.reduceToNat, he, g3, g9, g10, g70, g71, g72, hb0]
          refine callX_any (strToInts_A hG v (by omega) _) ?_
          rintro r h ⟨hr, G6, rfl⟩
          have ho2'' := get_more (G := G6) ho2'
          have hp'' := get_more (G := G6) hp'
          have hx'' := hx'.more G6
          rw [List.append_assoc, List.cons_append] at ho2'' hp'' hx'' hr
          rw [List.append_assoc, List.cons_append]
          unfold opCells at hp''
          cases hq : intsOf v with
          | error t =>
            rw [hq] at hr hfold
            obtain rfl : r = _ := hr
            simp (decide := true) only [go_sem, Nat.reduceLT, Nat.reduceBEq, Nat.reduceAdd, Int.reduceBEq, Nat.reduceLeDiff, reduceIte, Nat.reduceEqDiff, Int.reduceEq, Int.reduceLE, Int.reduceLT, Int.reduceNe, Nat.reduceMul, Nat.reduceSub, Int.reduceToNat, he, g3, g9, g10, g70, g71, g72, setD_some, hp'', wi, hx''.day.one]
            refine ⟨?_, _, set_box hpl⟩
            rw [← hfold]
            exact rfl
          | ok l =>
            rw [hq] at hr hfold
            obtain ⟨q, rfl, hq1, hq2⟩ := hr
            have hqp : p ≠ q := by rintro rfl; rw [hp''] at hq1; simp at hq1
            simp (decide := true) only [go_sem, Nat.reduceLT, Nat.reduceBEq, Nat.reduceAdd, Int.reduceBEq, Nat.reduceLeDiff, reduceIte, Nat.reduceEqDiff, Int.reduceEq, Int.reduceLE, Int.reduceLT, Int.reduceNe, Nat.reduceMul, Nat.reduceSub, Int.reduceToNat, he, g3, g9, g10, g70, g71, g72, setD_some, hp'', wi, hx''.day.one]
            refine ⟨k - 1, by omega, i + 1, { o with easter := l }, { x with easter := .sl true q 0 l.length 1 }, by omega, rfl, rfl, ⟨_, set_box hpl⟩, hne, ?_, ?_, ?_, hfold⟩
            · rw [List.getElem?_set_ne (by omega)]; exact ho2''
            · rw [List.getElem?_set_self (List.getElem?_eq_some_iff.1 hp'').1]; rfl
            · exact { (hx''.put hp'' _) with easter := .inr ⟨q, rfl, by rw [List.getElem?_set_ne hqp]; exact hq1⟩ }
        have eeFREQ := decide_eq_false kkFREQ
        have eeDTSTART := decide_eq_false kkDTSTART
        have eeINTERVAL := decide_eq_false kkINTERVAL
        have eeWKST := decide_eq_false kkWKST
        have eeCOUNT := decide_eq_false kkCOUNT
        have eeUNTIL := decide_eq_false kkUNTIL
        have eeBYSETPOS := decide_eq_false kkBYSETPOS
        have eeBYMONTH := decide_eq_false kkBYMONTH
        have eeBYMONTHDAY := decide_eq_false kkBYMONTHDAY
        have eeBYYEARDAY := decide_eq_false kkBYYEARDAY
        have eeBYWEEKNO := decide_eq_false kkBYWEEKNO
        have eeBYDAY := decide_eq_false kkBYDAY
        have eeBYHOUR := decide_eq_false kkBYHOUR
        have eeBYMINUTE := decide_eq_false kkBYMINUTE
        have eeBYSECOND := decide_eq_false kkBYSECOND
        have eeBYEASTER := decide_eq_false kkBYEASTER
        rw [show opPut o ky v = .error 157 by simp only [opPut, kkFREQ, kkDTSTART, kkINTERVAL, kkWKST, kkCOUNT, kkUNTIL, kkBYSETPOS, kkBYMONTH, kkBYMONTHDAY, kkBYYEARDAY, kkBYWEEKNO, kkBYDAY, kkBYHOUR, kkBYMINUTE, kkBYSECOND, kkBYEASTER, if_false]] at hfold
        simp (decide := true) only [go_sem, Nat.reduceLT, Nat.reduceBEq, Nat.reduceAdd, Int.reduceBEq, Nat.reduceLeDiff, reduceIte, Nat.reduceEqDiff, Int.reduceEq, Int.reduceLE, Int.reduceLT, Int.reduceNe, Nat.reduceMul, Nat.reduceSub, Int.reduceToNat, he, g3, g9, g10, g70, g71, g72, eeFREQ, eeDTSTART, eeINTERVAL, eeWKST, eeCOUNT, eeUNTIL, eeBYSETPOS, eeBYMONTH, eeBYMONTHDAY, eeBYYEARDAY, eeBYWEEKNO, eeBYDAY, eeBYHOUR, eeBYMINUTE, eeBYSECOND, eeBYEASTER]
        refine ⟨by omega, callX_of (errorsNew_A _ _) (List.prefix_refl _) ?_⟩
        simp only [go_sem, Nat.reduceLT, Nat.reduceBEq, Nat.reduceAdd, Int.reduceBEq, Nat.reduceLeDiff, reduceIte, Nat.reduceEqDiff, Int.reduceEq, Int.reduceLE, Int.reduceLT, Int.reduceNe, Nat.reduceMul, Nat.reduceSub, Int.reduceToNat, he, setD_some]
        refine ⟨?_, _, rfl⟩
        rw [← hfold]
        exact rfl
      · have e2 : decide ((kv.length : Int) = 2) = false := decide_eq_false (by omega)
        have hst2 : opStep o a = .error 157 := by
          rw [hst]
          split
          · simp at h2
          · rfl
        rw [hst2] at hfold
        simp only [go_sem, Nat.reduceLT, Nat.reduceBEq, Nat.reduceAdd, Int.reduceBEq, Nat.reduceLeDiff, reduceIte, Nat.reduceEqDiff, Int.reduceEq, Int.reduceLE, Int.reduceLT, Int.reduceNe, Nat.reduceMul, Nat.reduceSub, Int.reduceToNat, he, g3, g9, g10, g70, g71, g72, setD_some, e2]
        refine callX_of (errorsNew_A _ _) (List.prefix_refl _) ?_
        simp only [go_sem, Nat.reduceLT, Nat.reduceBEq, Nat.reduceAdd, Int.reduceBEq, Nat.reduceLeDiff, reduceIte, Nat.reduceEqDiff, Int.reduceEq, Int.reduceLE, Int.reduceLT, Int.reduceNe, Nat.reduceMul, Nat.reduceSub, Int.reduceToNat, he, setD_some]
        refine ⟨?_, _, rfl⟩
        rw [← hfold]
        exact rfl
    · have hc := of_decide_eq_false hc
      have hi : i = ats.length := by omega
      rw [hi, List.drop_length, foldE] at hfold
      simp only [go_sem, Nat.reduceLT, Nat.reduceBEq, Nat.reduceAdd, Int.reduceBEq, Nat.reduceLeDiff, reduceIte, Nat.reduceEqDiff, Int.reduceEq, Int.reduceLE, Int.reduceLT, Int.reduceNe, Nat.reduceMul, Nat.reduceSub, Int.reduceToNat, he, g3, g9, g10, g70, g71, g72]
      refine condK_of (fun hq => ?_) fun hq => ?_
      · have hq : o.set = false := by simpa using hq
        simp only [go_sem, Nat.reduceLT, Nat.reduceBEq, Nat.reduceAdd, Int.reduceBEq, Nat.reduceLeDiff, reduceIte, Nat.reduceEqDiff, Int.reduceEq, Int.reduceLE, Int.reduceLT, Int.reduceNe, Nat.reduceMul, Nat.reduceSub, Int.reduceToNat, he, g3, g9, g10, g70, g71, g72]
        refine callX_of (errorsNew_A _ _) (List.prefix_refl _) ?_
        simp only [go_sem, Nat.reduceLT, Nat.reduceBEq, Nat.reduceAdd, Int.reduceBEq, Nat.reduceLeDiff, reduceIte, Nat.reduceEqDiff, Int.reduceEq, Int.reduceLE, Int.reduceLT, Int.reduceNe, Nat.reduceMul, Nat.reduceSub, Int.reduceToNat, he, setD_some]
        refine ⟨?_, _, rfl⟩
        rw [← hfold]
        rw [show opEnd (.ok o) = .error 157 by simp [opEnd, hq]]
        exact rfl
      · have hq : o.set = true := by simpa using hq
        simp only [go_sem, Nat.reduceLT, Nat.reduceBEq, Nat.reduceAdd, Int.reduceBEq, Nat.reduceLeDiff, reduceIte, Nat.reduceEqDiff, Int.reduceEq, Int.reduceLE, Int.reduceLT, Int.reduceNe, Nat.reduceMul, Nat.reduceSub, Int.reduceToNat, he, g3, g9, g10, g70, g71, g72]
        refine ⟨?_, _, rfl⟩
        rw [← hfold]
        rw [show opEnd (.ok o) = .ok o by simp [opEnd, hq]]
        exact ⟨p, x, rfl, hp, by omega, hx⟩
end Go.Proofs.YtlfpjdcogkcjlaaGreatDoor.F
