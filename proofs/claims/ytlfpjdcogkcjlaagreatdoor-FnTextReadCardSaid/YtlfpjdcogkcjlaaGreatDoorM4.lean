/- Merged: T15 T16 T17 T18 T19 T20 T21 T29 T30 -/
import Derived.Test.YtlfpjdcogkcjlaaGreatDoorM3
import Derived.Deep.SlicePairs
import Derived.Deep.Fields
import Derived.ChangeSlices
import Derived.LaidMore
import Derived.Lib.LaidTab
import Derived.ChangeSame
import Derived.FnData
/- A rule's options out of a text: the package's parser. -/
namespace Go.Proofs.YtlfpjdcogkcjlaaGreatDoor.F
open Go.RowKit Go.Proofs.YtlfpjdcogkcjlaaGreatDoor.AL Go.Proofs.YtlfpjdcogkcjlaaGreatDoor.B
set_option linter.unusedVariables false
set_option linter.unusedSimpArgs false
set_option maxRecDepth 20000
attribute [local irreducible] aops acode bindK bindV bindH callX callK condK guardK Kseq Kblk Knorm Kfun Kloop Kjoin outK AWp appendA
attribute [local go_sem] acode_skip acode_seq acode_region acode_cond acode_block acode_exit acode_ret acode_loop Kseq_normal Kseq_exit Kseq_ret Kblk_normal Kblk_ret Kblk_eq Kblk_ne Knorm_eq Kloop_normal Kloop_exit Kloop_ret Kjoin_normal Kjoin_exit Kjoin_ret condK_true condK_false bindK_put bindV_put bindK_no bindV_no bindH_no aops_nil gops wantK_some wantV_bool wantV_undef guardK_true guardK_false guardK_none aops_move aops_assign aops_pick aops_nilCheck aops_binOp aops_unOp aops_convert aops_fieldAddr aops_indexAddr aops_slice aops_index aops_extract aops_makeInterface aops_makeFunc aops_build aops_load aops_lookup aops_alloc aops_box aops_buildSlice aops_makeSlice aops_makeMap aops_store aops_insert aops_mapUpdate aops_len aops_append aops_call opA_tmp opA_const opA_global opA_func get_mk look_nil look_eq look_ne len_mk List.map_cons List.map_nil Option.map_some Option.map_none bin_add bin_sub bin_mul bin_quo bin_rem bin_eql bin_neq bin_lss bin_leq bin_gtr bin_geq bin_cat bin_seql bin_sneq bin_neq_ifc bin_eql_ifc bin_neq_nn bin_eql_nn bin_neq_ptr bin_eql_ptr bin_neq_pn isIfc_true isPtr_true bin_eql2 bin_neq2 aops_max max_int un_not un_neg lenA_K lenK_str lenK_nil lenK_sl lenK_array pick_bool pick_val bindV_ite bindK_ite bindH_ite slotV_sl slotK_some slotV_ptr slotR_some sliceV_sl cutK_some sliceV_str cutS_some bound_none bound_some indexA_str atS_some mkS fieldV_ptr loadV_ptr cellsK_ro cellsK_own loadK_one loadK_many storeA_ptr storeK_own allocA_some heap_len heap_get0 heap_get heap_set0 heap_set Kfun_ret Kfun_normal resA_nil resA_tmp resA_cell outK_some packA_one packA_nil packA_two List.length_cons List.length_nil List.getElem?_cons_zero List.getElem?_cons_succ List.set_cons_zero List.set_cons_succ List.cons_append List.nil_append List.append_assoc Nat.zero_add Nat.add_zero List.all_cons List.all_nil Value.oneCell' Bool.and_true Bool.and_self if_true if_false Bool.false_eq_true partsA buildV buildA fillA Option.bind_some putCells List.drop_succ_cons List.drop_zero List.take_succ_cons List.take_zero List.take_nil List.drop_nil and_self and_true true_and Option.some.injEq ne_eq not_false_eq_true Option.map_map List.getElem?_toArray beq_self_eq_true Bool.true_beq Bool.false_beq Bool.not_true Bool.not_false decide_true decide_false beq_true Nat.mul_one Nat.one_mul Nat.zero_mul bsA buildSliceA zerosN List.append_nil Int.toNat_natCast Int.toNat_zero boxA one_val one_ptr one_sl one_mp one_ifc one_fn avCells_agg avCells_val valCells_true valCells_agg avCells_ptr avCells_sl avCells_mp avCells_ifc avCells_fn app_cons app_nil lookupA insertA ifaceV extractA kd2 ars127 fp127 ars60 fp60 ars31 fp31 eq2_99 eq2_84 eq2_47 fp52 sz2 kd3 sz3 kd4 sz4 kd5 sz5 kd9 sz9 kd22 sz22 el22 kd23 sz23 el23 kd25 sz25 zc25 fp25 fo25_0 fo25_1 fo25_2 fo25_3 fo25_4 fo25_5 fo25_6 fo25_7 fo25_8 fo25_9 fo25_10 fo25_11 fo25_12 fo25_13 fo25_14 fo25_15 fo25_16 fo25_17 kd31 sz31 zc31 ar31 kd32 sz32 el32 kd34 sz34 zc34 fp34 fo34_0 fo34_1 fo34_2 fo34_3 fo34_4 fo34_5 fo34_6 fo34_7 fo34_8 fo34_9 fo34_10 fo34_11 fo34_12 fo34_13 fo34_14 fo34_15 fo34_16 fo34_17 el38 el42 kd47 sz47 zc47 fp47 fo47_0 fo47_1 kd52 sz52 zc52 fo52_0 el55 zc60 kd72 sz72 zc72 fp72 fo72_0 fo72_1 el73 isStrMap76 zv4 kd80 sz80 kd84 sz84 zc84 fp84 fo84_0 fo84_1 kd88 sz88 zc88 fp88 fo88_0 fo88_1 fo88_2 fo88_3 kd91 sz91 zc91 fp91 fo91_0 fo91_1 fo91_2 el94 kd99 sz99 zc99 fp99 fo99_0 fo99_1 kd100 sz100 el100 kd102 sz102 zc102 fp102 fo102_0 fo102_1 fo102_2 fo102_3 fo102_4 fo102_5 fo102_6 fo102_7 fo102_8 fo102_9 fo102_10 fo102_11 fo102_12 fo102_13 fo102_14 fo102_15 kd109 sz109 zc109 fp109 isStrMap124 zv80 zc127 kd153 sz153 zc153 ar153 isIface157 kd159 sz159 zc159 fp159 isStrMap177 zv84 Tryz.underlying3 Tryz.underlying4 Tryz.underlying5 Tryz.underlying9 Tryz.underlying21 Tryz.underlying22 Tryz.underlying23 Tryz.underlying32 Tryz.underlying38 Tryz.underlying42 Tryz.underlying47 Tryz.underlying55 Tryz.underlying67 Tryz.underlying73 Tryz.underlying80 Tryz.underlying84 Tryz.underlying94 Tryz.underlying100 Tryz.underlying2 Tryz.underlying127 Tryz.underlying60 Tryz.underlying31
theorem trimSpace_A {w0 : World} (hG : Glob w0) (s : List UInt8) (hs : s.length ≤ 1000000) (ha : ∀ c ∈ s, c.toNat < 128) (H : Heap) : ACalls Tryz.prog (CB w0) 83 [vS s] H fun r H' => r = vS (Lib.trimSpace s) ∧ H' = H := by
  refine A_lib (args := [.string (S s)]) (callable_of Tryz.func83 (by kernel_rfl) (by kernel_rfl)) fun w hb _ => ?_
  refine (Tryz.strings_TrimSpace (S s) w (by rw [S_size]; omega) (fun j b hj => ha b (List.mem_of_getElem? hj)) (hG.below hb).ascii).mono ?_
  rintro e w' ⟨rfl, rfl⟩
  exact ⟨rfl, Lib.bytesWorld_below _ _ _⟩
theorem trimPrefix_A {w0 : World} (s p : List UInt8) (H : Heap) : ACalls Tryz.prog (CB w0) 87 [vS s, vS p] H fun r H' => r = vS (Lib.trimPrefix s p) ∧ H' = H := by
  refine A_lib (args := [.string (S s), .string (S p)]) (callable_of Tryz.func87 (by kernel_rfl) (by kernel_rfl)) fun w hb _ => ?_
  refine (Tryz.strings_TrimPrefix (S s) (S p) w).mono ?_
  rintro e w' ⟨rfl, rfl⟩
  exact ⟨rfl, Below.refl _ _⟩
/-- A rule's options. -/
structure Op where
  freq : Int
  dt : Int
  interval : Int
  wkst : Int × Int
  count : Int
  til : Int
  pos : List Int
  month : List Int
  mday : List Int
  yday : List Int
  weekno : List Int
  hour : List Int
  minute : List Int
  second : List Int
  easter : List Int
  day : List (Int × Int)
  set : Bool
/-- Their slices, ats values. -/
structure Os where
  pos : AV
  month : AV
  mday : AV
  yday : AV
  weekno : AV
  hour : AV
  minute : AV
  second : AV
  easter : AV
  day : AV
def op0 : Op := ⟨0, 0, 0, (0, 0), 0, 0, [], [], [], [], [], [], [], [], [], [], false⟩
abbrev vNil : AV := .val (.slice none 0 0)
def opCells (o : Op) (x : Os) : List AV := [vI o.freq, vI o.dt, vI 0, vI o.interval, vI o.wkst.1, vI o.wkst.2, vI o.count, vI o.til, vI 0, x.pos, x.month, x.mday, x.yday, x.weekno, x.day, x.hour, x.minute, x.second, x.easter]
/-- A slice of numbers of the call's own, or none. -/
def IntsOwn (h : Heap) (x : AV) (l : List Int) : Prop := (x = vNil ∧ l = []) ∨ ∃ q, x = .sl true q 0 l.length 1 ∧ h[q]? = some (.own 3 (l.map vI))
def dayCell (l : List (Int × Int)) (i : Nat) : AV := if i % 2 = 0 then vI (l.getD (i / 2) (0, 0)).1 else vI (l.getD (i / 2) (0, 0)).2
def DaysOwn (h : Heap) (x : AV) (l : List (Int × Int)) : Prop := (x = vNil ∧ l = []) ∨ ∃ q cs, x = .sl true q 0 l.length 2 ∧ h[q]? = some (.own 84 cs) ∧ ∀ i, i < l.length * 2 → cs[i]? = some (dayCell l i)
theorem IntsOwn.one {h : Heap} {x : AV} {l : List Int} (hx : IntsOwn h x l) : x.one = true := by rcases hx with ⟨rfl, _⟩ | ⟨q, rfl, _⟩ <;> rfl
theorem DaysOwn.one {h : Heap} {x : AV} {l : List (Int × Int)} (hx : DaysOwn h x l) : x.one = true := by rcases hx with ⟨rfl, _⟩ | ⟨q, cs, rfl, _⟩ <;> rfl
theorem IntsOwn.more {h : Heap} {x : AV} {l : List Int} (hx : IntsOwn h x l) (G : Heap) : IntsOwn (h ++ G) x l := by
  rcases hx with hx | ⟨q, h1, h2⟩
  · exact .inl hx
  · exact .inr ⟨q, h1, get_more h2⟩
theorem DaysOwn.more {h : Heap} {x : AV} {l : List (Int × Int)} (hx : DaysOwn h x l) (G : Heap) : DaysOwn (h ++ G) x l := by
  rcases hx with hx | ⟨q, cs, h1, h2, h3⟩
  · exact .inl hx
  · exact .inr ⟨q, cs, h1, get_more h2, h3⟩
theorem IntsOwn.put {h : Heap} {x : AV} {l : List Int} (hx : IntsOwn h x l) {p : Nat} {cs : List AV} (hp : h[p]? = some (.own 102 cs)) (y : AObj) : IntsOwn (h.set p y) x l := by
  rcases hx with hx | ⟨q, h1, h2⟩
  · exact .inl hx
  · refine .inr ⟨q, h1, ?_⟩
    have : p ≠ q := by rintro rfl; rw [hp] at h2; simp at h2
    rw [List.getElem?_set_ne this]; exact h2
theorem DaysOwn.put {h : Heap} {x : AV} {l : List (Int × Int)} (hx : DaysOwn h x l) {p : Nat} {cs : List AV} (hp : h[p]? = some (.own 102 cs)) (y : AObj) : DaysOwn (h.set p y) x l := by
  rcases hx with hx | ⟨q, cs', h1, h2, h3⟩
  · exact .inl hx
  · refine .inr ⟨q, cs', h1, ?_, h3⟩
    have : p ≠ q := by rintro rfl; rw [hp] at h2; simp at h2
    rw [List.getElem?_set_ne this]; exact h2
structure OpAt (h : Heap) (o : Op) (x : Os) : Prop where
  pos : IntsOwn h x.pos o.pos
  month : IntsOwn h x.month o.month
  mday : IntsOwn h x.mday o.mday
  yday : IntsOwn h x.yday o.yday
  weekno : IntsOwn h x.weekno o.weekno
  hour : IntsOwn h x.hour o.hour
  minute : IntsOwn h x.minute o.minute
  second : IntsOwn h x.second o.second
  easter : IntsOwn h x.easter o.easter
  day : DaysOwn h x.day o.day
theorem OpAt.more {h : Heap} {o : Op} {x : Os} (hx : OpAt h o x) (G : Heap) : OpAt (h ++ G) o x :=
  ⟨hx.pos.more G, hx.month.more G, hx.mday.more G, hx.yday.more G, hx.weekno.more G, hx.hour.more G, hx.minute.more G, hx.second.more G, hx.easter.more G, hx.day.more G⟩
theorem OpAt.put {h : Heap} {o : Op} {x : Os} (hx : OpAt h o x) {p : Nat} {cs : List AV} (hp : h[p]? = some (.own 102 cs)) (y : AObj) : OpAt (h.set p y) o x :=
  ⟨hx.pos.put hp y, hx.month.put hp y, hx.mday.put hp y, hx.yday.put hp y, hx.weekno.put hp y, hx.hour.put hp y, hx.minute.put hp y, hx.second.put hp y, hx.easter.put hp y, hx.day.put hp y⟩
theorem strToFreq_P {w0 : World} (s : List UInt8) (hs : s.length ≤ 1000000) (H : Heap) : ACalls Tryz.prog (CB w0) 41 [vS s] H fun r H' => r = freqR s ∧ H' = H :=
  ACalls.flat (by unfold freqR; cases freqOf s <;> rfl) (strToFreq_A s hs H)
def optFreq (s : List UInt8) : Except Nat Int := optE (freqOf s)
/-- One part of a text, put into the options. -/
def opPut (o : Op) (k v : List UInt8) : Except Nat Op :=
  if k = [70, 82, 69, 81] then (optFreq v).map fun a => { o with freq := a, set := true } else
  if k = [68, 84, 83, 84, 65, 82, 84] then (optE (zLoc v)).map fun a => { o with dt := a } else
  if k = [73, 78, 84, 69, 82, 86, 65, 76] then (atoiE v).map fun a => { o with interval := a } else
  if k = [87, 75, 83, 84] then (wdOf v).map fun a => { o with wkst := a } else
  if k = [67, 79, 85, 78, 84] then (atoiE v).map fun a => { o with count := a } else
  if k = [85, 78, 84, 73, 76] then (optE (zLoc v)).map fun a => { o with til := a } else
  if k = [66, 89, 83, 69, 84, 80, 79, 83] then (intsOf v).map fun a => { o with pos := a } else
  if k = [66, 89, 77, 79, 78, 84, 72] then (intsOf v).map fun a => { o with month := a } else
  if k = [66, 89, 77, 79, 78, 84, 72, 68, 65, 89] then (intsOf v).map fun a => { o with mday := a } else
  if k = [66, 89, 89, 69, 65, 82, 68, 65, 89] then (intsOf v).map fun a => { o with yday := a } else
  if k = [66, 89, 87, 69, 69, 75, 78, 79] then (intsOf v).map fun a => { o with weekno := a } else
  if k = [66, 89, 68, 65, 89] then (daysOf v).map fun a => { o with day := a } else
  if k = [66, 89, 72, 79, 85, 82] then (intsOf v).map fun a => { o with hour := a } else
  if k = [66, 89, 77, 73, 78, 85, 84, 69] then (intsOf v).map fun a => { o with minute := a } else
  if k = [66, 89, 83, 69, 67, 79, 78, 68] then (intsOf v).map fun a => { o with second := a } else
  if k = [66, 89, 69, 65, 83, 84, 69, 82] then (intsOf v).map fun a => { o with easter := a } else
  .error 157
def opStep (o : Op) (attr : List UInt8) : Except Nat Op :=
  match split 61 attr with
  | [k, v] => if v.length = 0 then .error 157 else opPut o k v
  | _ => .error 157
def foldE {σ α : Type} (f : σ → α → Except Nat σ) (o : σ) : List α → Except Nat σ
  | [] => .ok o
  | a :: r => match f o a with
    | .ok o => foldE f o r
    | .error t => .error t
def opEnd : Except Nat Op → Except Nat Op
  | .ok o => if o.set then .ok o else .error 157
  | .error t => .error t
/-- The options that a text tells. -/
def opParse (s : List UInt8) : Except Nat Op := opEnd (foldE opStep op0 (split 59 s))
/-- The parser's answer. -/
def OpR (H h : Heap) (r : AV) : Except Nat Op → Prop
  | .ok o => ∃ p x, r = .tup [.ptr p 0, .val .nilIface] ∧ h[p]? = some (.own 102 (opCells o x)) ∧ H.length ≤ p ∧ OpAt h o x
  | .error t => r = .tup [.val (.pointer none), .ifc t .any]
theorem split_none {c : UInt8} {s : List UInt8} (h : idx c s = none) : split c s = [s] := by unfold split; rw [splitN, h]
theorem NoFrac.split {c : UInt8} : ∀ (k : Nat) {s x : List UInt8}, NoFrac s → x ∈ splitN c k s → NoFrac x
  | 0, s, x, h, hx => by simp [splitN] at hx; exact hx ▸ h
  | k + 1, s, x, h, hx => by
    unfold splitN at hx
    split at hx
    · simp at hx; exact hx ▸ h
    · rcases List.mem_cons.1 hx with rfl | hx
      · exact fun c hc => h c (List.mem_of_mem_take hc)
      · exact NoFrac.split k (h.drop _) hx
structure InText (s : List UInt8) : Prop where
  len : s.length ≤ 50000
  frac : ∀ a ∈ split 59 s, ∀ k v, split 61 a = [k, v] → (k = [85, 78, 84, 73, 76] ∨ k = [68, 84, 83, 84, 65, 82, 84]) → NoFrac v
  ascii : ∀ c ∈ s, c.toNat < 128
  trim : Lib.trimSpace s = s
  line : idx 10 s = none
  pre : Lib.trimPrefix s [82, 82, 85, 76, 69, 58] = s
theorem set_box {H G : Heap} {b y : AObj} {p : Nat} (h : H.length + 1 ≤ p) : (H ++ b :: G).set p y = H ++ b :: G.set (p - (H.length + 1)) y := by
  obtain ⟨j, rfl⟩ : ∃ j, p = H.length + 1 + j := ⟨p - (H.length + 1), by omega⟩
  rw [List.set_append_right _ _ (by omega), show H.length + 1 + j - H.length = j + 1 by omega, List.set_cons_succ, show H.length + 1 + j - (H.length + 1) = j by omega]
set_option maxHeartbeats 8000000 in
theorem strToROptionIn_A {w0 : World} (hG : Glob w0) (s : List UInt8) (hs : InText s) (z : AV) (hz : avCells z = some []) (H : Heap) (hH : GH H) : ACalls Tryz.prog (CB w0) 57 [vS s, z] H fun r H' => OpR H H' r (opParse s) ∧ ∃ G, H' = H ++ G := by
  refine A_fun (N := 235) (rs := [.tmp 4, .tmp 5]) Tryz.func57 rfl rfl rfl (by kernel_rfl) (by kernel_rfl) (Nat.le_of_ble_eq_true rfl) ?_
  rintro e he ⟨g0, g1, -⟩
  have hsl := hs.len
  simp only [go_sem, Nat.reduceLT, Nat.reduceBEq, Nat.reduceAdd, Int.reduceBEq, Nat.reduceLeDiff, reduceIte, Nat.reduceEqDiff, Int.reduceEq, Int.reduceLE, Int.reduceLT, Int.reduceNe, Nat.reduceMul, Nat.reduceSub, Int.reduceToNat, he, g0, g1, hz]
  refine callX_of (trimSpace_A hG s (by omega) hs.ascii _) (List.prefix_refl _) ?_
  simp only [go_sem, Nat.reduceLT, Nat.reduceBEq, Nat.reduceAdd, Int.reduceBEq, Nat.reduceLeDiff, reduceIte, Nat.reduceEqDiff, Int.reduceEq, Int.reduceLE, Int.reduceLT, Int.reduceNe, Nat.reduceMul, Nat.reduceSub, Int.reduceToNat, he, g0, g1, setD_some, hs.trim]
  refine callX_any (zzSplit_A s 10 (by omega) _) ?_
  rw [split_none hs.line]
  rintro r h ⟨⟨G, rfl⟩, o1, rfl, ho1, -⟩
  simp only [go_sem, Nat.reduceLT, Nat.reduceBEq, Nat.reduceAdd, Int.reduceBEq, Nat.reduceLeDiff, reduceIte, Nat.reduceEqDiff, Int.reduceEq, Int.reduceLE, Int.reduceLT, Int.reduceNe, Nat.reduceMul, Nat.reduceSub, Int.reduceToNat, he, g0, g1, setD_some] at ho1 ⊢
  simp only [go_sem, Nat.reduceLT, Nat.reduceBEq, Nat.reduceAdd, Int.reduceBEq, Nat.reduceLeDiff, reduceIte, Nat.reduceEqDiff, Int.reduceEq, Int.reduceLE, Int.reduceLT, Int.reduceNe, Nat.reduceMul, Nat.reduceSub, Int.reduceToNat, he, g0, g1, setD_some, ho1, cast1, Int.reduceLT]
  refine callX_of (trimPrefix_A s [82, 82, 85, 76, 69, 58] _) (List.prefix_refl _) ?_
  simp only [go_sem, Nat.reduceLT, Nat.reduceBEq, Nat.reduceAdd, Int.reduceBEq, Nat.reduceLeDiff, reduceIte, Nat.reduceEqDiff, Int.reduceEq, Int.reduceLE, Int.reduceLT, Int.reduceNe, Nat.reduceMul, Nat.reduceSub, Int.reduceToNat, he, g0, g1, setD_some, hs.pre]
  generalize hp1 : H.length + (G.length + 1) = p at *
  have hb0 : ∀ G', (H ++ AObj.own 109 [] :: G')[H.length]? = some (.own 109 []) := fun G' => heap_get0
  have hpp : (H ++ AObj.own 109 [] :: (G ++ [AObj.own 102 [vI 0, vI 0, vI 0, vI 0, vI 0, vI 0, vI 0, vI 0, vI 0, vNil, vNil, vNil, vNil, vNil, vNil, vNil, vNil, vNil, vNil]]))[p]? = some (AObj.own 102 [vI 0, vI 0, vI 0, vI 0, vI 0, vI 0, vI 0, vI 0, vI 0, vNil, vNil, vNil, vNil, vNil, vNil, vNil, vNil, vNil, vNil]) := by
    rw [← hp1, heap_get, List.getElem?_cons_succ, heap_get0]
    rfl
  have hG2 : ∃ G', H ++ AObj.own 109 [] :: (G ++ [AObj.own 102 [vI 0, vI 0, vI 0, vI 0, vI 0, vI 0, vI 0, vI 0, vI 0, vNil, vNil, vNil, vNil, vNil, vNil, vNil, vNil, vNil, vNil]]) = H ++ AObj.own 109 [] :: G' := ⟨_, rfl⟩
  generalize H ++ AObj.own 109 [] :: (G ++ [AObj.own 102 [vI 0, vI 0, vI 0, vI 0, vI 0, vI 0, vI 0, vI 0, vI 0, vNil, vNil, vNil, vNil, vNil, vNil, vNil, vNil, vNil, vNil]]) = H2 at *
  refine callX_any (zzSplit_A s 59 (by omega) _) ?_
  rintro r h ⟨⟨G2, rfl⟩, o2, rfl, ho2, ho2l⟩
  have hal := split_length 59 s
  have ham : ∀ a ∈ split 59 s, a.length ≤ s.length := fun a => split_mem
  have haf := hs.frac
  unfold opParse
  generalize split 59 s = ats at *
  simp only [go_sem, Nat.reduceLT, Nat.reduceBEq, Nat.reduceAdd, Int.reduceBEq, Nat.reduceLeDiff, reduceIte, Nat.reduceEqDiff, Int.reduceEq, Int.reduceLE, Int.reduceLT, Int.reduceNe, Nat.reduceMul, Nat.reduceSub, Int.reduceToNat, he, g0, g1, setD_some]
  refine A_while ats.length (fun k e h => ∃ (i : Nat) (o : Op) (x : Os), i + k = ats.length ∧ len e = 235 ∧ AL.get e 3 = .ptr H.length 0 ∧ AL.get e 9 = .ptr p 0 ∧ AL.get e 10 = vB o.set ∧ AL.get e 70 = .sl true o2 0 ats.length 1 ∧ AL.get e 71 = vI ats.length ∧ AL.get e 72 = vI i ∧ (∃ G, h = H ++ AObj.own 109 [] :: G) ∧ o2 ≠ p ∧ h[o2]? = some (.own 9 (ats.map vS)) ∧ h[p]? = some (.own 102 (opCells o x)) ∧ OpAt h o x ∧ foldE opStep o (ats.drop i) = foldE opStep op0 ats) (by kernel_rfl) ?_ ?_
  · simp only [go_sem, Nat.reduceLT, Nat.reduceBEq, Nat.reduceAdd, Int.reduceBEq, Nat.reduceLeDiff, reduceIte, Nat.reduceEqDiff, Int.reduceEq, Int.reduceLE, Int.reduceLT, Int.reduceNe, Nat.reduceMul, Nat.reduceSub, Int.reduceToNat, he, g0, g1]
    obtain ⟨G', rfl⟩ := hG2
    have hlt := (List.getElem?_eq_some_iff.1 hpp).1
    refine ⟨0, op0, ⟨vNil, vNil, vNil, vNil, vNil, vNil, vNil, vNil, vNil, vNil⟩, by omega, rfl, rfl, ⟨G' ++ G2, by simp only [List.append_assoc, List.cons_append]⟩, by omega, ho2, get_more hpp, ?_, rfl⟩
    exact ⟨.inl ⟨rfl, rfl⟩, .inl ⟨rfl, rfl⟩, .inl ⟨rfl, rfl⟩, .inl ⟨rfl, rfl⟩, .inl ⟨rfl, rfl⟩, .inl ⟨rfl, rfl⟩, .inl ⟨rfl, rfl⟩, .inl ⟨rfl, rfl⟩, .inl ⟨rfl, rfl⟩, .inl ⟨rfl, rfl⟩⟩
  · rintro k e h ⟨i, o, x, hik, he, g3, g9, g10, g70, g71, g72, ⟨G3, rfl⟩, hne, ho2, hp, hx, hfold⟩
    simp only [go_sem, Nat.reduceLT, Nat.reduceBEq, Nat.reduceAdd, Int.reduceBEq, Nat.reduceLeDiff, reduceIte, Nat.reduceEqDiff, Int.reduceEq, Int.reduceLE, Int.reduceLT, Int.reduceNe, Nat.reduceMul, Nat.reduceSub, Int.reduceToNat, he, g3, g9, g10, g70, g71, g72]
    refine condK_of (fun hc => ?_) fun hc => ?_
    · have hc := of_decide_eq_true hc
      obtain ⟨a, ha, hd⟩ := drop_get (l := ats) (i := i) (by omega)
      have hai : (ats.map vS)[i]? = some (vS a) := by rw [List.getElem?_map, ha]; rfl
      have hmem := List.mem_of_getElem? ha
      have hal2 := ham a hmem
      have hfr := haf a hmem
      simp only [go_sem, Nat.reduceLT, Nat.reduceBEq, Nat.reduceAdd, Int.reduceBEq, Nat.reduceLeDiff, reduceIte, Nat.reduceEqDiff, Int.reduceEq, Int.reduceLE, Int.reduceLT, Int.reduceNe, Nat.reduceMul, Nat.reduceSub, Int.reduceToNat, he, g3, g9, g10, g70, g71, g72, ho2, hai, Int.toNat_natCast]
      refine ⟨by omega, callX_any (zzSplit_A a 61 (by omega) _) ?_⟩
      rintro r h ⟨⟨G4, rfl⟩, o3, rfl, ho3, -⟩
      rw [hd, foldE] at hfold
      have hk2 := split_length 61 a
      have hkm : ∀ b ∈ split 61 a, b.length ≤ a.length := fun b => split_mem
      have hst : opStep o a = match split 61 a with | [k, v] => if v.length = 0 then .error 157 else opPut o k v | _ => .error 157 := rfl
      generalize split 61 a = kv at *
      have ho2' := get_more (G := G4) ho2
      have hp' := get_more (G := G4) hp
      have hx' := hx.more G4
      rw [List.append_assoc, List.cons_append] at ho2' hp' hx' ho3
      rw [List.append_assoc, List.cons_append]
      generalize G3 ++ G4 = G5 at *
      clear ho2 hp hx
      have wi : IntKind.i64.wrap ((i : Int) + 1) = ((i + 1 : Nat) : Int) := by rw [wI64 (by omega)]; rfl
      have hpl : H.length + 1 ≤ p := by omega
      have hHb : GH (H ++ AObj.own 109 [] :: G5) := hH.more _
      by_cases h2 : kv.length = 2
      · obtain ⟨ky, v, rfl⟩ : ∃ ky v, kv = [ky, v] := by
          match kv, h2 with
          | [ky, v], _ => exact ⟨ky, v, rfl⟩
        have hvl := hkm v (by simp)
        have hvf := hfr ky v rfl
        have hkl := hkm ky (by simp)
        rw [hst] at hfold
        simp only [go_sem, Nat.reduceLT, Nat.reduceBEq, Nat.reduceAdd, Int.reduceBEq, Nat.reduceLeDiff, reduceIte, Nat.reduceEqDiff, Int.reduceEq, Int.reduceLE, Int.reduceLT, Int.reduceNe, Nat.reduceMul, Nat.reduceSub, Int.reduceToNat, he, g3, g9, g10, g70, g71, g72, setD_some, cast1] at ho3 ⊢
        simp (decide := true) only [go_sem, Nat.reduceLT, Nat.reduceBEq, Nat.reduceAdd, Int.reduceBEq, Nat.reduceLeDiff, reduceIte, Nat.reduceEqDiff, Int.reduceEq, Int.reduceLE, Int.reduceLT, Int.reduceNe, Nat.reduceMul, Nat.reduceSub, Int.reduceToNat, he, g3, g9, g10, g70, g71, g72, setD_some, cast1, ho3]
        refine acode_draw mixed (by kernel_rfl) ?_
        simp (decide := true) only [go_sem, Nat.reduceLT, Nat.reduceBEq, Nat.reduceAdd, Int.reduceBEq, Nat.reduceLeDiff, reduceIte, Nat.reduceEqDiff, Int.reduceEq, Int.reduceLE, Int.reduceLT, Int.reduceNe, Nat.reduceMul, Nat.reduceSub, Int.reduceToNat, he, g3, g9, g10, g70, g71, g72, setD_some, cast1, ho3]
        refine condK_of (fun hv0 => ?_) fun hv0 => ?_
        · have hv0 := of_decide_eq_true hv0
          rw [show (match [ky, v] with | [k, v] => if v.length = 0 then .error 157 else opPut o k v | _ => .error 157 : Except Nat Op) = .error 157 from if_pos (by omega)] at hfold
          simp (decide := true) only [go_sem, Nat.reduceLT, Nat.reduceBEq, Nat.reduceAdd, Int.reduceBEq, Nat.reduceLeDiff, reduceIte, Nat.reduceEqDiff, Int.reduceEq, Int.reduceLE, Int.reduceLT, Int.reduceNe, Nat.reduceMul, Nat.reduceSub, Int.reduceToNat, he, g3, g9, g10, g70, g71, g72]
          refine ⟨by omega, callX_of (errorsNew_A _ _) (List.prefix_refl _) ?_⟩
          simp only [go_sem, Nat.reduceLT, Nat.reduceBEq, Nat.reduceAdd, Int.reduceBEq, Nat.reduceLeDiff, reduceIte, Nat.reduceEqDiff, Int.reduceEq, Int.reduceLE, Int.reduceLT, Int.reduceNe, Nat.reduceMul, Nat.reduceSub, Int.reduceToNat, he, setD_some]
          refine ⟨?_, _, rfl⟩
          rw [← hfold]
          exact rfl
        have hv0 := of_decide_eq_false hv0
        rw [show (match [ky, v] with | [k, v] => if v.length = 0 then .error 157 else opPut o k v | _ => .error 157 : Except Nat Op) = opPut o ky v from if_neg (by omega)] at hfold
        simp only [go_sem, Nat.reduceLT, Nat.reduceBEq, Nat.reduceAdd, Int.reduceBEq, Nat.reduceLeDiff, reduceIte, Nat.reduceEqDiff, Int.reduceEq, Int.reduceLE, Int.reduceLT, Int.reduceNe, Nat.reduceMul, Nat.reduceSub, Int.reduceToNat, he, g3, g9, g10, g70, g71, g72]
        by_cases kkFREQ : ky = [70, 82, 69, 81]
        · subst kkFREQ
          rw [show opPut o [70, 82, 69, 81] v = (optFreq v).map fun a => { o with freq := a, set := true } from rfl] at hfold
          simp (decide := true) only [go_sem, Nat.reduceLT, Nat.reduceBEq, Nat.reduceAdd, Int.reduceBEq, Nat.reduceLeDiff, reduceIte, Nat.reduceEqDiff, Int.reduceEq, Int.reduceLE, Int.reduceLT, Int.reduceNe, Nat.reduceMul, Nat.reduceSub, Int.reduceToNat, he, g3, g9, g10, g70, g71, g72, hb0]
          refine callX_of (strToFreq_P v (by omega) _) (List.prefix_refl _) ?_
          have ho2'' := ho2'
          have hp'' := hp'
          have hx'' := hx'
          unfold opCells at hp''
          unfold freqR
          cases hq : freqOf v with
          | none =>
            rw [show optFreq v = .error 157 by unfold optFreq; rw [hq]; rfl] at hfold
            simp (decide := true) only [go_sem, Nat.reduceLT, Nat.reduceBEq, Nat.reduceAdd, Int.reduceBEq, Nat.reduceLeDiff, reduceIte, Nat.reduceEqDiff, Int.reduceEq, Int.reduceLE, Int.reduceLT, Int.reduceNe, Nat.reduceMul, Nat.reduceSub, Int.reduceToNat, he, g3, g9, g10, g70, g71, g72, setD_some, hp'', wi, hx''.day.one]
            refine ⟨?_, _, set_box hpl⟩
            rw [← hfold]
            exact rfl
          | some n =>
            rw [show optFreq v = .ok n by unfold optFreq; rw [hq]; rfl] at hfold
            simp (decide := true) only [go_sem, Nat.reduceLT, Nat.reduceBEq, Nat.reduceAdd, Int.reduceBEq, Nat.reduceLeDiff, reduceIte, Nat.reduceEqDiff, Int.reduceEq, Int.reduceLE, Int.reduceLT, Int.reduceNe, Nat.reduceMul, Nat.reduceSub, Int.reduceToNat, he, g3, g9, g10, g70, g71, g72, setD_some, hp'', wi, hx''.day.one]
            refine ⟨k - 1, by omega, i + 1, { o with freq := n, set := true }, x, by omega, rfl, rfl, ⟨_, set_box hpl⟩, hne, ?_, ?_, ?_, hfold⟩
            · rw [List.getElem?_set_ne (by omega)]; exact ho2''
            · rw [List.getElem?_set_self (List.getElem?_eq_some_iff.1 hp'').1]; rfl
            · exact ⟨(hx''.put hp'' _).pos, (hx''.put hp'' _).month, (hx''.put hp'' _).mday, (hx''.put hp'' _).yday, (hx''.put hp'' _).weekno, (hx''.put hp'' _).hour, (hx''.put hp'' _).minute, (hx''.put hp'' _).second, (hx''.put hp'' _).easter, (hx''.put hp'' _).day⟩
        by_cases kkDTSTART : ky = [68, 84, 83, 84, 65, 82, 84]
        · subst kkDTSTART
          rw [show opPut o [68, 84, 83, 84, 65, 82, 84] v = (optE (zLoc v)).map fun a => { o with dt := a } from rfl] at hfold
          simp (decide := true) only [go_sem, Nat.reduceLT, Nat.reduceBEq, Nat.reduceAdd, Int.reduceBEq, Nat.reduceLeDiff, reduceIte, Nat.reduceEqDiff, Int.reduceEq, Int.reduceLE, Int.reduceLT, Int.reduceNe, Nat.reduceMul, Nat.reduceSub, Int.reduceToNat, he, g3, g9, g10, g70, g71, g72, hb0]
          refine callX_of (strToTimeInLoc_A v (by omega) (hvf (by decide)) _ rfl _) (List.prefix_refl _) ?_
          have ho2'' := ho2'
          have hp'' := hp'
          have hx'' := hx'
          unfold opCells at hp''
          unfold zLocR
          cases hq : zLoc v with
          | none =>
            rw [hq] at hfold
            simp (decide := true) only [go_sem, Nat.reduceLT, Nat.reduceBEq, Nat.reduceAdd, Int.reduceBEq, Nat.reduceLeDiff, reduceIte, Nat.reduceEqDiff, Int.reduceEq, Int.reduceLE, Int.reduceLT, Int.reduceNe, Nat.reduceMul, Nat.reduceSub, Int.reduceToNat, he, g3, g9, g10, g70, g71, g72, setD_some, hp'', wi, hx''.day.one, exR, optE]
            refine ⟨?_, _, set_box hpl⟩
            rw [← hfold]
            exact rfl
          | some n =>
            rw [hq] at hfold
            simp (decide := true) only [go_sem, Nat.reduceLT, Nat.reduceBEq, Nat.reduceAdd, Int.reduceBEq, Nat.reduceLeDiff, reduceIte, Nat.reduceEqDiff, Int.reduceEq, Int.reduceLE, Int.reduceLT, Int.reduceNe, Nat.reduceMul, Nat.reduceSub, Int.reduceToNat, he, g3, g9, g10, g70, g71, g72, setD_some, hp'', wi, hx''.day.one, exR, optE]
            refine ⟨k - 1, by omega, i + 1, { o with dt := n }, x, by omega, rfl, rfl, ⟨_, set_box hpl⟩, hne, ?_, ?_, ?_, hfold⟩
            · rw [List.getElem?_set_ne (by omega)]; exact ho2''
            · rw [List.getElem?_set_self (List.getElem?_eq_some_iff.1 hp'').1]; rfl
            · exact ⟨(hx''.put hp'' _).pos, (hx''.put hp'' _).month, (hx''.put hp'' _).mday, (hx''.put hp'' _).yday, (hx''.put hp'' _).weekno, (hx''.put hp'' _).hour, (hx''.put hp'' _).minute, (hx''.put hp'' _).second, (hx''.put hp'' _).easter, (hx''.put hp'' _).day⟩
        by_cases kkINTERVAL : ky = [73, 78, 84, 69, 82, 86, 65, 76]
        · subst kkINTERVAL
          rw [show opPut o [73, 78, 84, 69, 82, 86, 65, 76] v = (atoiE v).map fun a => { o with interval := a } from rfl] at hfold
          simp (decide := true) only [go_sem, Nat.reduceLT, Nat.reduceBEq, Nat.reduceAdd, Int.reduceBEq, Nat.reduceLeDiff, reduceIte, Nat.reduceEqDiff, Int.reduceEq, Int.reduceLE, Int.reduceLT, Int.reduceNe, Nat.reduceMul, Nat.reduceSub, Int.reduceToNat, he, g3, g9, g10, g70, g71, g72, hb0]
          refine callX_of (atoi_A hG v (by omega) _) (List.prefix_refl _) ?_
          have ho2'' := ho2'
          have hp'' := hp'
          have hx'' := hx'
          unfold opCells at hp''
          unfold atoiR
          cases hq : Lib.atoiAll v with
          | range =>
            rw [show atoiE v = .error 207 by unfold atoiE; rw [hq]] at hfold
            simp (decide := true) only [go_sem, Nat.reduceLT, Nat.reduceBEq, Nat.reduceAdd, Int.reduceBEq, Nat.reduceLeDiff, reduceIte, Nat.reduceEqDiff, Int.reduceEq, Int.reduceLE, Int.reduceLT, Int.reduceNe, Nat.reduceMul, Nat.reduceSub, Int.reduceToNat, he, g3, g9, g10, g70, g71, g72, setD_some, hp'', wi, hx''.day.one]
            refine ⟨?_, _, set_box hpl⟩
            rw [← hfold]
            exact rfl
          | ok n =>
            rw [show atoiE v = .ok n by unfold atoiE; rw [hq]] at hfold
            simp (decide := true) only [go_sem, Nat.reduceLT, Nat.reduceBEq, Nat.reduceAdd, Int.reduceBEq, Nat.reduceLeDiff, reduceIte, Nat.reduceEqDiff, Int.reduceEq, Int.reduceLE, Int.reduceLT, Int.reduceNe, Nat.reduceMul, Nat.reduceSub, Int.reduceToNat, he, g3, g9, g10, g70, g71, g72, setD_some, hp'', wi, hx''.day.one]
            refine ⟨k - 1, by omega, i + 1, { o with interval := n }, x, by omega, rfl, rfl, ⟨_, set_box hpl⟩, hne, ?_, ?_, ?_, hfold⟩
            · rw [List.getElem?_set_ne (by omega)]; exact ho2''
            · rw [List.getElem?_set_self (List.getElem?_eq_some_iff.1 hp'').1]; rfl
            · exact ⟨(hx''.put hp'' _).pos, (hx''.put hp'' _).month, (hx''.put hp'' _).mday, (hx''.put hp'' _).yday, (hx''.put hp'' _).weekno, (hx''.put hp'' _).hour, (hx''.put hp'' _).minute, (hx''.put hp'' _).second, (hx''.put hp'' _).easter, (hx''.put hp'' _).day⟩
          | _ =>
            rw [show atoiE v = .error 207 by unfold atoiE; rw [hq]] at hfold
            simp (decide := true) only [go_sem, Nat.reduceLT, Nat.reduceBEq, Nat.reduceAdd, Int.reduceBEq, Nat.reduceLeDiff, reduceIte, Nat.reduceEqDiff, Int.reduceEq, Int.reduceLE, Int.reduceLT, Int.reduceNe, Nat.reduceMul, Nat.reduceSub, Int.reduceToNat, he, g3, g9, g10, g70, g71, g72, setD_some, hp'', wi, hx''.day.one]
            refine ⟨?_, _, set_box hpl⟩
            rw [← hfold]
            exact rfl
        by_cases kkWKST : ky = [87, 75, 83, 84]
        · subst kkWKST
          rw [show opPut o [87, 75, 83, 84] v = (wdOf v).map fun a => { o with wkst := a } from rfl] at hfold
          simp (decide := true) only [go_sem, Nat.reduceLT, Nat.reduceBEq, Nat.reduceAdd, Int.reduceBEq, Nat.reduceLeDiff, reduceIte, Nat.reduceEqDiff, Int.reduceEq, Int.reduceLE, Int.reduceLT, Int.reduceNe, Nat.reduceMul, Nat.reduceSub, Int.reduceToNat, he, g3, g9, g10, g70, g71, g72, hb0]
          refine callX_of (strToWeekday_A hG v (by omega) _ hHb) (List.prefix_refl _) ?_
          have ho2'' := ho2'
          have hp'' := hp'
          have hx'' := hx'
          unfold opCells at hp''
          unfold wdR
          cases hq : wdOf v with
          | error t =>
            rw [hq] at hfold
            simp (decide := true) only [go_sem, Nat.reduceLT, Nat.reduceBEq, Nat.reduceAdd, Int.reduceBEq, Nat.reduceLeDiff, reduceIte, Nat.reduceEqDiff, Int.reduceEq, Int.reduceLE, Int.reduceLT, Int.reduceNe, Nat.reduceMul, Nat.reduceSub, Int.reduceToNat, he, g3, g9, g10, g70, g71, g72, setD_some, hp'', wi, hx''.day.one, exR]
            refine ⟨?_, _, set_box hpl⟩
            rw [← hfold]
            exact rfl
          | ok n =>
            rw [hq] at hfold
            simp (decide := true) only [go_sem, Nat.reduceLT, Nat.reduceBEq, Nat.reduceAdd, Int.reduceBEq, Nat.reduceLeDiff, reduceIte, Nat.reduceEqDiff, Int.reduceEq, Int.reduceLE, Int.reduceLT, Int.reduceNe, Nat.reduceMul, Nat.reduceSub, Int.reduceToNat, he, g3, g9, g10, g70, g71, g72, setD_some, hp'', wi, hx''.day.one, exR]
            refine ⟨k - 1, by omega, i + 1, { o with wkst := n }, x, by omega, rfl, rfl, ⟨_, set_box hpl⟩, hne, ?_, ?_, ?_, hfold⟩
            · rw [List.getElem?_set_ne (by omega)]; exact ho2''
            · rw [List.getElem?_set_self (List.getElem?_eq_some_iff.1 hp'').1]; rfl
            · exact ⟨(hx''.put hp'' _).pos, (hx''.put hp'' _).month, (hx''.put hp'' _).mday, (hx''.put hp'' _).yday, (hx''.put hp'' _).weekno, (hx''.put hp'' _).hour, (hx''.put hp'' _).minute, (hx''.put hp'' _).second, (hx''.put hp'' _).easter, (hx''.put hp'' _).day⟩
        by_cases kkCOUNT : ky = [67, 79, 85, 78, 84]
        · subst kkCOUNT
          rw [show opPut o [67, 79, 85, 78, 84] v = (atoiE v).map fun a => { o with count := a } from rfl] at hfold
          simp (decide := true) only [go_sem, Nat.reduceLT, Nat.reduceBEq, Nat.reduceAdd, Int.reduceBEq, Nat.reduceLeDiff, reduceIte, Nat.reduceEqDiff, Int.reduceEq, Int.reduceLE, Int.reduceLT, Int.reduceNe, Nat.reduceMul, Nat.reduceSub, Int.reduceToNat, he, g3, g9, g10, g70, g71, g72, hb0]
          refine callX_of (atoi_A hG v (by omega) _) (List.prefix_refl _) ?_
          have ho2'' := ho2'
          have hp'' := hp'
          have hx'' := hx'
          unfold opCells at hp''
          unfold atoiR
          cases hq : Lib.atoiAll v with
          | range =>
            rw [show atoiE v = .error 207 by unfold atoiE; rw [hq]] at hfold
            simp (decide := true) only [go_sem, Nat.reduceLT, Nat.reduceBEq, Nat.reduceAdd, Int.reduceBEq, Nat.reduceLeDiff, reduceIte, Nat.reduceEqDiff, Int.reduceEq, Int.reduceLE, Int.reduceLT, Int.reduceNe, Nat.reduceMul, Nat.reduceSub, Int.reduceToNat, he, g3, g9, g10, g70, g71, g72, setD_some, hp'', wi, hx''.day.one]
            refine ⟨?_, _, set_box hpl⟩
            rw [← hfold]
            exact rfl
          | ok n =>
            rw [show atoiE v = .ok n by unfold atoiE; rw [hq]] at hfold
            simp (decide := true) only [go_sem, Nat.reduceLT, Nat.reduceBEq, Nat.reduceAdd, Int.reduceBEq, Nat.reduceLeDiff, reduceIte, Nat.reduceEqDiff, Int.reduceEq, Int.reduceLE, Int.reduceLT, Int.reduceNe, Nat.reduceMul, Nat.reduceSub, Int.reduceToNat, he, g3, g9, g10, g70, g71, g72, setD_some, hp'', wi, hx''.day.one]
            refine ⟨k - 1, by omega, i + 1, { o with count := n }, x, by omega, rfl, rfl, ⟨_, set_box hpl⟩, hne, ?_, ?_, ?_, hfold⟩
            · rw [List.getElem?_set_ne (by omega)]; exact ho2''
            · rw [List.getElem?_set_self (List.getElem?_eq_some_iff.1 hp'').1]; rfl
            · exact ⟨(hx''.put hp'' _).pos, (hx''.put hp'' _).month, (hx''.put hp'' _).mday, (hx''.put hp'' _).yday, (hx''.put hp'' _).weekno, (hx''.put hp'' _).hour, (hx''.put hp'' _).minute, (hx''.put hp'' _).second, (hx''.put hp'' _).easter, (hx''.put hp'' _).day⟩
          | _ =>
            rw [show atoiE v = .error 207 by unfold atoiE; rw [hq]] at hfold
            simp (decide := true) only [go_sem, Nat.reduceLT, Nat.reduceBEq, Nat.reduceAdd, Int.reduceBEq, Nat.reduceLeDiff, reduceIte, Nat.reduceEqDiff, Int.reduceEq, Int.reduceLE, Int.reduceLT, Int.reduceNe, Nat.reduceMul, Nat.reduceSub, Int.reduceToNat, he, g3, g9, g10, g70, g71, g72, setD_some, hp'', wi, hx''.day.one]
            refine ⟨?_, _, set_box hpl⟩
            rw [← hfold]
            exact rfl
        by_cases kkUNTIL : ky = [85, 78, 84, 73, 76]
        · subst kkUNTIL
          rw [show opPut o [85, 78, 84, 73, 76] v = (optE (zLoc v)).map fun a => { o with til := a } from rfl] at hfold
          simp (decide := true) only [go_sem, Nat.reduceLT, Nat.reduceBEq, Nat.reduceAdd, Int.reduceBEq, Nat.reduceLeDiff, reduceIte, Nat.reduceEqDiff, Int.reduceEq, Int.reduceLE, Int.reduceLT, Int.reduceNe, Nat.reduceMul, Nat.reduceSub, Int.reduceToNat, he, g3, g9, g10, g70, g71, g72, hb0]
          refine callX_of (strToTimeInLoc_A v (by omega) (hvf (by decide)) _ rfl _) (List.prefix_refl _) ?_
          have ho2'' := ho2'
          have hp'' := hp'
          have hx'' := hx'
          unfold opCells at hp''
          unfold zLocR
          cases hq : zLoc v with
          | none =>
            rw [hq] at hfold
            simp (decide := true) only [go_sem, Nat.reduceLT, Nat.reduceBEq, Nat.reduceAdd, Int.reduceBEq, Nat.reduceLeDiff, reduceIte, Nat.reduceEqDiff, Int.reduceEq, Int.reduceLE, Int.reduceLT, Int.reduceNe, Nat.reduceMul, Nat.reduceSub, Int.reduceToNat, he, g3, g9, g10, g70, g71, g72, setD_some, hp'', wi, hx''.day.one, exR, optE]
            refine ⟨?_, _, set_box hpl⟩
            rw [← hfold]
            exact rfl
          | some n =>
            rw [hq] at hfold
            simp (decide := true) only [go_sem, Nat.reduceLT, Nat.reduceBEq, Nat.reduceAdd, Int.reduceBEq, Nat.reduceLeDiff, reduceIte, Nat.reduceEqDiff, Int.reduceEq, Int.reduceLE, Int.reduceLT, Int.reduceNe, Nat.reduceMul, Nat.reduceSub, Int.reduceToNat, he, g3, g9, g10, g70, g71, g72, setD_some, hp'', wi, hx''.day.one, exR, optE]
            refine ⟨k - 1, by omega, i + 1, { o with til := n }, x, by omega, rfl, rfl, ⟨_, set_box hpl⟩, hne, ?_, ?_, ?_, hfold⟩
            · rw [List.getElem?_set_ne (by omega)]; exact ho2''
            · rw [List.getElem?_set_self (List.getElem?_eq_some_iff.1 hp'').1]; rfl
            · exact ⟨(hx''.put hp'' _).pos, (hx''.put hp'' _).month, (hx''.put hp'' _).mday, (hx''.put hp'' _).yday, (hx''.put hp'' _).weekno, (hx''.put hp'' _).hour, (hx''.put hp'' _).minute, (hx''.put hp'' _).second, (hx''.put hp'' _).easter, (hx''.put hp'' _).day⟩
        by_cases kkBYSETPOS : ky = [66, 89, 83, 69, 84, 80, 79, 83]
        · subst kkBYSETPOS
          rw [show opPut o [66, 89, 83, 69, 84, 80, 79, 83] v = (intsOf v).map fun a => { o with pos := a } from rfl] at hfold
          simp (decide := true) only [go_sem, Nat.reduceLT, Nat.reduceBEq, Nat.reduceAdd, Int.reduceBEq, Nat.reduceLeDiff, reduceIte, Nat.reduceEqDiff, Int.reduceEq, Int.reduceLE, Int.reduceLT, Int.reduceNe, Nat.reduceMul, Nat.reduceSub, Int.reduceToNat, he, g3, g9, g10, g70, g71, g72, hb0]
          refine callX_any (strToInts_A hG v (by omega) _) ?_
          rintro r h ⟨hr, G6, rfl⟩
          have ho2'' := get_more (G := G6) ho2'
          have hp'' := get_more (G := G6) hp'
          have hx'' := hx'.more G6
          rw [List.append_assoc, List.cons_append] at ho2'' hp'' hx'' hr
          rw [List.append_assoc, List.cons_append]
          unfold opCells at hp''
          cases hq : intsOf v with
          | error t =>
            rw [hq] at hr hfold
            obtain rfl : r = _ := hr
            simp (decide := true) only [go_sem, Nat.reduceLT, Nat.reduceBEq, Nat.reduceAdd, Int.reduceBEq, Nat.reduceLeDiff, reduceIte, Nat.reduceEqDiff, Int.reduceEq, Int.reduceLE, Int.reduceLT, Int.reduceNe, Nat.reduceMul, Nat.reduceSub, Int.reduceToNat, he, g3, g9, g10, g70, g71, g72, setD_some, hp'', wi, hx''.day.one]
            refine ⟨?_, _, set_box hpl⟩
            rw [← hfold]
            exact rfl
          | ok l =>
            rw [hq] at hr hfold
            obtain ⟨q, rfl, hq1, hq2⟩ := hr
            have hqp : p ≠ q := by rintro rfl; rw [hp''] at hq1; simp at hq1
            simp (decide := true) only [go_sem, Nat.reduceLT, Nat.reduceBEq, Nat.reduceAdd, Int.reduceBEq, Nat.reduceLeDiff, reduceIte, Nat.reduceEqDiff, Int.reduceEq, Int.reduceLE, Int.reduceLT, Int.reduceNe, Nat.reduceMul, Nat.reduceSub, Int.reduceToNat, he, g3, g9, g10, g70, g71, g72, setD_some, hp'', wi, hx''.day.one]
            refine ⟨k - 1, by omega, i + 1, { o with pos := l }, { x with pos := .sl true q 0 l.length 1 }, by omega, rfl, rfl, ⟨_, set_box hpl⟩, hne, ?_, ?_, ?_, hfold⟩
            · rw [List.getElem?_set_ne (by omega)]; exact ho2''
            · rw [List.getElem?_set_self (List.getElem?_eq_some_iff.1 hp'').1]; rfl
            · exact { (hx''.put hp'' _) with pos := .inr ⟨q, rfl, by rw [List.getElem?_set_ne hqp]; exact hq1⟩ }
        by_cases kkBYMONTH : ky = [66, 89, 77, 79, 78, 84, 72]
        · subst kkBYMONTH
          rw [show opPut o [66, 89, 77, 79, 78, 84, 72] v = (intsOf v).map fun a => { o with month := a } from rfl] at hfold
          simp (decide := true) only [go_sem, Nat.reduceLT, Nat.reduceBEq, Nat.reduceAdd, Int.reduceBEq, Nat.reduceLeDiff, reduceIte, Nat.reduceEqDiff, Int.reduceEq, Int.reduceLE, Int.reduceLT, Int.reduceNe, Nat.reduceMul, Nat.reduceSub, Int.reduceToNat, he, g3, g9, g10, g70, g71, g72, hb0]
          refine callX_any (strToInts_A hG v (by omega) _) ?_
          rintro r h ⟨hr, G6, rfl⟩
          have ho2'' := get_more (G := G6) ho2'
          have hp'' := get_more (G := G6) hp'
          have hx'' := hx'.more G6
          rw [List.append_assoc, List.cons_append] at ho2'' hp'' hx'' hr
          rw [List.append_assoc, List.cons_append]
          unfold opCells at hp''
          cases hq : intsOf v with
          | error t =>
            rw [hq] at hr hfold
            obtain rfl : r = _ := hr
            simp (decide := true) only [go_sem, Nat.reduceLT, Nat.reduceBEq, Nat.reduceAdd, Int.reduceBEq, Nat.reduceLeDiff, reduceIte, Nat.reduceEqDiff, Int.reduceEq, Int.reduceLE, Int.reduceLT, Int.reduceNe, Nat.reduceMul, Nat.reduceSub, Int.reduceToNat, he, g3, g9, g10, g70, g71, g72, setD_some, hp'', wi, hx''.day.one]
            refine ⟨?_, _, set_box hpl⟩
            rw [← hfold]
            exact rfl
          | ok l =>
            rw [hq] at hr hfold
            obtain ⟨q, rfl, hq1, hq2⟩ := hr
            have hqp : p ≠ q := by rintro rfl; rw [hp''] at hq1; simp at hq1
            simp (decide := true) only [go_sem, Nat.reduceLT, Nat.reduceBEq, Nat.reduceAdd, Int.reduceBEq, Nat.reduceLeDiff, reduceIte, Nat.reduceEqDiff, Int.reduceEq, Int.reduceLE, Int.reduceLT, Int.reduceNe, Nat.reduceMul, Nat.reduceSub, Int.reduceToNat, he, g3, g9, g10, g70, g71, g72, setD_some, hp'', wi, hx''.day.one]
            refine ⟨k - 1, by omega, i + 1, { o with month := l }, { x with month := .sl true q 0 l.length 1 }, by omega, rfl, rfl, ⟨_, set_box hpl⟩, hne, ?_, ?_, ?_, hfold⟩
            · rw [List.getElem?_set_ne (by omega)]; exact ho2''
            · rw [List.getElem?_set_self (List.getElem?_eq_some_iff.1 hp'').1]; rfl
            · exact { (hx''.put hp'' _) with month := .inr ⟨q, rfl, by rw [List.getElem?_set_ne hqp]; exact hq1⟩ }
        by_cases kkBYMONTHDAY : ky = [66, 89, 77, 79, 78, 84, 72, 68, 65, 89]
        · subst kkBYMONTHDAY
          rw [show opPut o [66, 89, 77, 79, 78, 84, 72, 68, 65, 89] v = (intsOf v).map fun a => { o with mday := a } from rfl] at hfold
          simp (decide := true) only [go_sem, Nat.reduceLT, Nat.reduceBEq, Nat.reduceAdd, Int.reduceBEq, Nat.reduceLeDiff, reduceIte, Nat.reduceEqDiff, Int.reduceEq, Int.reduceLE, Int.reduceLT, Int.reduceNe, Nat.reduceMul, Nat.reduceSub, Int.reduceToNat, he, g3, g9, g10, g70, g71, g72, hb0]
          refine callX_any (strToInts_A hG v (by omega) _) ?_
          rintro r h ⟨hr, G6, rfl⟩
          have ho2'' := get_more (G := G6) ho2'
          have hp'' := get_more (G := G6) hp'
          have hx'' := hx'.more G6
          rw [List.append_assoc, List.cons_append] at ho2'' hp'' hx'' hr
          rw [List.append_assoc, List.cons_append]
          unfold opCells at hp''
          cases hq : intsOf v with
          | error t =>
            rw [hq] at hr hfold
            obtain rfl : r = _ := hr
            simp (decide := true) only [go_sem, Nat.reduceLT, Nat.reduceBEq, Nat.reduceAdd, Int.reduceBEq, Nat.reduceLeDiff, reduceIte, Nat.reduceEqDiff, Int.reduceEq, Int.reduceLE, Int.reduceLT, Int.reduceNe, Nat.reduceMul, Nat.reduceSub, Int.reduceToNat, he, g3, g9, g10, g70, g71, g72, setD_some, hp'', wi, hx''.day.one]
            refine ⟨?_, _, set_box hpl⟩
            rw [← hfold]
            exact rfl
          | ok l =>
            rw [hq] at hr hfold
            obtain ⟨q, rfl, hq1, hq2⟩ := hr
            have hqp : p ≠ q := by rintro rfl; rw [hp''] at hq1; simp at hq1
            simp (decide := true) only [go_sem, Nat.reduceLT, Nat.reduceBEq, Nat.reduceAdd, Int.reduceBEq, Nat.reduceLeDiff, reduceIte, Nat.reduceEqDiff, Int.reduceEq, Int.reduceLE, Int.reduceLT, Int.reduceNe, Nat.reduceMul, Nat.reduceSub, Int.reduceToNat, he, g3, g9, g10, g70, g71, g72, setD_some, hp'', wi, hx''.day.one]
            refine ⟨k - 1, by omega, i + 1, { o with mday := l }, { x with mday := .sl true q 0 l.length 1 }, by omega, rfl, rfl, ⟨_, set_box hpl⟩, hne, ?_, ?_, ?_, hfold⟩
            · rw [List.getElem?_set_ne (by omega)]; exact ho2''
            · rw [List.getElem?_set_self (List.getElem?_eq_some_iff.1 hp'').1]; rfl
            · exact { (hx''.put hp'' _) with mday := .inr ⟨q, rfl, by rw [List.getElem?_set_ne hqp]; exact hq1⟩ }
        by_cases kkBYYEARDAY : ky = [66, 89, 89, 69, 65, 82, 68, 65, 89]
        · subst kkBYYEARDAY
          rw [show opPut o [66, 89, 89, 69, 65, 82, 68, 65, 89] v = (intsOf v).map fun a => { o with yday := a } from rfl] at hfold
          simp (decide := true) only [go_sem, Nat.reduceLT, Nat.reduceBEq, Nat.reduceAdd, Int.reduceBEq, Nat.reduceLeDiff, reduceIte, Nat.reduceEqDiff, Int.reduceEq, Int.reduceLE, Int.reduceLT, Int.reduceNe, Nat.reduceMul, Nat.reduceSub, Int.reduceToNat, he, g3, g9, g10, g70, g71, g72, hb0]
          refine callX_any (strToInts_A hG v (by omega) _) ?_
          rintro r h ⟨hr, G6, rfl⟩
          have ho2'' := get_more (G := G6) ho2'
          have hp'' := get_more (G := G6) hp'
          have hx'' := hx'.more G6
          rw [List.append_assoc, List.cons_append] at ho2'' hp'' hx'' hr
          rw [List.append_assoc, List.cons_append]
          unfold opCells at hp''
          cases hq : intsOf v with
          | error t =>
            rw [hq] at hr hfold
            obtain rfl : r = _ := hr
            simp (decide := true) only [go_sem, Nat.reduceLT, Nat.reduceBEq, Nat.reduceAdd, Int.reduceBEq, Nat.reduceLeDiff, reduceIte, Nat.reduceEqDiff, Int.reduceEq, Int.reduceLE, Int.reduceLT, Int.reduceNe, Nat.reduceMul, Nat.reduceSub, Int.reduceToNat, he, g3, g9, g10, g70, g71, g72, setD_some, hp'', wi, hx''.day.one]
            refine ⟨?_, _, set_box hpl⟩
            rw [← hfold]
            exact rfl
          | ok l =>
            rw [hq] at hr hfold
            obtain ⟨q, rfl, hq1, hq2⟩ := hr
            have hqp : p ≠ q := by rintro rfl; rw [hp''] at hq1; simp at hq1
            simp (decide := true) only [go_sem, Nat.reduceLT, Nat.reduceBEq, Nat.reduceAdd, Int.reduceBEq, Nat.reduceLeDiff, reduceIte, Nat.reduceEqDiff, Int.reduceEq, Int.reduceLE, Int.reduceLT, Int.reduceNe, Nat.reduceMul, Nat.reduceSub, Int.reduceToNat, he, g3, g9, g10, g70, g71, g72, setD_some, hp'', wi, hx''.day.one]
            refine ⟨k - 1, by omega, i + 1, { o with yday := l }, { x with yday := .sl true q 0 l.length 1 }, by omega, rfl, rfl, ⟨_, set_box hpl⟩, hne, ?_, ?_, ?_, hfold⟩
            · rw [List.getElem?_set_ne (by omega)]; exact ho2''
            · rw [List.getElem?_set_self (List.getElem?_eq_some_iff.1 hp'').1]; rfl
            · exact { (hx''.put hp'' _) with yday := .inr ⟨q, rfl, by rw [List.getElem?_set_ne hqp]; exact hq1⟩ }
        by_cases kkBYWEEKNO : ky = [66, 89, 87, 69, 69, 75, 78, 79]
        · subst kkBYWEEKNO
          rw [show opPut o [66, 89, 87, 69, 69, 75, 78, 79] v = (intsOf v).map fun a => { o with weekno := a } from rfl] at hfold
          simp (decide := true) only [go_sem, Nat.reduceLT, Nat.reduceBEq, Nat.reduceAdd, Int.reduceBEq, Nat.reduceLeDiff, reduceIte, Nat.reduceEqDiff, Int.reduceEq, Int.reduceLE, Int.reduceLT, Int.reduceNe, Nat.reduceMul, Nat.reduceSub, Int.reduceToNat, he, g3, g9, g10, g70, g71, g72, hb0]
          refine callX_any (strToInts_A hG v (by omega) _) ?_
          rintro r h ⟨hr, G6, rfl⟩
          have ho2'' := get_more (G := G6) ho2'
          have hp'' := get_more (G := G6) hp'
          have hx'' := hx'.more G6
          rw [List.append_assoc, List.cons_append] at ho2'' hp'' hx'' hr
          rw [List.append_assoc, List.cons_append]
          unfold opCells at hp''
          cases hq : intsOf v with
          | error t =>
            rw [hq] at hr hfold
            obtain rfl : r = _ := hr
            simp (decide := true) only [go_sem, Nat.reduceLT, Nat.reduceBEq, Nat.reduceAdd, Int.reduceBEq, Nat.reduceLeDiff, reduceIte, Nat.reduceEqDiff, Int.reduceEq, Int.reduceLE, Int.reduceLT, Int.reduceNe, Nat.reduceMul, Nat.reduceSub, Int.reduceToNat, he, g3, g9, g10, g70, g71, g72, setD_some, hp'', wi, hx''.day.one]
            refine ⟨?_, _, set_box hpl⟩
            rw [← hfold]
            exact rfl
          | ok l =>
            rw [hq] at hr hfold
            obtain ⟨q, rfl, hq1, hq2⟩ := hr
            have hqp : p ≠ q := by rintro rfl; rw [hp''] at hq1; simp at hq1
            simp (decide := true) only [go_sem, Nat.reduceLT, Nat.reduceBEq, Nat.reduceAdd, Int.reduceBEq, Nat.reduceLeDiff, reduceIte, Nat.reduceEqDiff, Int.reduceEq, Int.reduceLE, Int.reduceLT, Int.reduceNe, Nat.reduceMul, Nat.reduceSub, Int.reduceToNat, he, g3, g9, g10, g70, g71, g72, setD_some, hp'', wi, hx''.day.one]
            refine ⟨k - 1, by omega, i + 1, { o with weekno := l }, { x with weekno := .sl true q 0 l.length 1 }, by omega, rfl, rfl, ⟨_, set_box hpl⟩, hne, ?_, ?_, ?_, hfold⟩
            · rw [List.getElem?_set_ne (by omega)]; exact ho2''
            · rw [List.getElem?_set_self (List.getElem?_eq_some_iff.1 hp'').1]; rfl
            · exact { (hx''.put hp'' _) with weekno := .inr ⟨q, rfl, by rw [List.getElem?_set_ne hqp]; exact hq1⟩ }
        by_cases kkBYDAY : ky = [66, 89, 68, 65, 89]
        · subst kkBYDAY
          rw [show opPut o [66, 89, 68, 65, 89] v = (daysOf v).map fun a => { o with day := a } from rfl] at hfold
          simp (decide := true) only [go_sem, Nat.reduceLT, Nat.reduceBEq, Nat.reduceAdd, Int.reduceBEq, Nat.reduceLeDiff, reduceIte, Nat.reduceEqDiff, Int.reduceEq, Int.reduceLE, Int.reduceLT, Int.reduceNe, Nat.reduceMul, Nat.reduceSub, Int.reduceToNat, he, g3, g9, g10, g70, g71, g72, hb0]
          refine callX_any (strToWeekdays_A hG v (by omega) _ hHb) ?_
          rintro r h ⟨hr, G6, rfl⟩
          have ho2'' := get_more (G := G6) ho2'
          have hp'' := get_more (G := G6) hp'
          have hx'' := hx'.more G6
          rw [List.append_assoc, List.cons_append] at ho2'' hp'' hx'' hr
          rw [List.append_assoc, List.cons_append]
          unfold opCells at hp''
          cases hq : daysOf v with
          | error t =>
            rw [hq] at hr hfold
            obtain rfl : r = _ := hr
            simp (decide := true) only [go_sem, Nat.reduceLT, Nat.reduceBEq, Nat.reduceAdd, Int.reduceBEq, Nat.reduceLeDiff, reduceIte, Nat.reduceEqDiff, Int.reduceEq, Int.reduceLE, Int.reduceLT, Int.reduceNe, Nat.reduceMul, Nat.reduceSub, Int.reduceToNat, he, g3, g9, g10, g70, g71, g72, setD_some, hp'', wi, hx''.day.one]
            refine ⟨?_, _, set_box hpl⟩
            rw [← hfold]
            exact rfl
          | ok l =>
            rw [hq] at hr hfold
            obtain ⟨q, cs, rfl, hq1, hq2, hq3⟩ := hr
            have hqp : p ≠ q := by rintro rfl; rw [hp''] at hq1; simp at hq1
            simp (decide := true) only [go_sem, Nat.reduceLT, Nat.reduceBEq, Nat.reduceAdd, Int.reduceBEq, Nat.reduceLeDiff, reduceIte, Nat.reduceEqDiff, Int.reduceEq, Int.reduceLE, Int.reduceLT, Int.reduceNe, Nat.reduceMul, Nat.reduceSub, Int.reduceToNat, he, g3, g9, g10, g70, g71, g72, setD_some, hp'', wi, hx''.day.one]
            refine ⟨k - 1, by omega, i + 1, { o with day := l }, { x with day := .sl true q 0 l.length 2 }, by omega, rfl, rfl, ⟨_, set_box hpl⟩, hne, ?_, ?_, ?_, hfold⟩
            · rw [List.getElem?_set_ne (by omega)]; exact ho2''
            · rw [List.getElem?_set_self (List.getElem?_eq_some_iff.1 hp'').1]; rfl
            · exact { (hx''.put hp'' _) with day := .inr ⟨q, cs, rfl, by rw [List.getElem?_set_ne hqp]; exact hq1, hq3⟩ }
        by_cases kkBYHOUR : ky = [66, 89, 72, 79, 85, 82]
        · subst kkBYHOUR
          rw [show opPut o [66, 89, 72, 79, 85, 82] v = (intsOf v).map fun a => { o with hour := a } from rfl] at hfold
          simp (decide := true) only [go_sem, Nat.reduceLT, Nat.reduceBEq, Nat.reduceAdd, Int.reduceBEq, Nat.reduceLeDiff, reduceIte, Nat.reduceEqDiff, Int.reduceEq, Int.reduceLE, Int.reduceLT, Int.reduceNe, Nat.reduceMul, Nat.reduceSub, Int.reduceToNat, he, g3, g9, g10, g70, g71, g72, hb0]
          refine callX_any (strToInts_A hG v (by omega) _) ?_
          rintro r h ⟨hr, G6, rfl⟩
          have ho2'' := get_more (G := G6) ho2'
          have hp'' := get_more (G := G6) hp'
          have hx'' := hx'.more G6
          rw [List.append_assoc, List.cons_append] at ho2'' hp'' hx'' hr
          rw [List.append_assoc, List.cons_append]
          unfold opCells at hp''
          cases hq : intsOf v with
          | error t =>
            rw [hq] at hr hfold
            obtain rfl : r = _ := hr
            simp (decide := true) only [go_sem, Nat.reduceLT, Nat.reduceBEq, Nat.reduceAdd, Int.reduceBEq, Nat.reduceLeDiff, reduceIte, Nat.reduceEqDiff, Int.reduceEq, Int.reduceLE, Int.reduceLT, Int.reduceNe, Nat.reduceMul, Nat.reduceSub, Int.reduceToNat, he, g3, g9, g10, g70, g71, g72, setD_some, hp'', wi, hx''.day.one]
            refine ⟨?_, _, set_box hpl⟩
            rw [← hfold]
            exact rfl
          | ok l =>
            rw [hq] at hr hfold
            obtain ⟨q, rfl, hq1, hq2⟩ := hr
            have hqp : p ≠ q := by rintro rfl; rw [hp''] at hq1; simp at hq1
            simp (decide := true) only [go_sem, Nat.reduceLT, Nat.reduceBEq, Nat.reduceAdd, Int.reduceBEq, Nat.reduceLeDiff, reduceIte, Nat.reduceEqDiff, Int.reduceEq, Int.reduceLE, Int.reduceLT, Int.reduceNe, Nat.reduceMul, Nat.reduceSub, Int.reduceToNat, he, g3, g9, g10, g70, g71, g72, setD_some, hp'', wi, hx''.day.one]
            refine ⟨k - 1, by omega, i + 1, { o with hour := l }, { x with hour := .sl true q 0 l.length 1 }, by omega, rfl, rfl, ⟨_, set_box hpl⟩, hne, ?_, ?_, ?_, hfold⟩
            · rw [List.getElem?_set_ne (by omega)]; exact ho2''
            · rw [List.getElem?_set_self (List.getElem?_eq_some_iff.1 hp'').1]; rfl
            · exact { (hx''.put hp'' _) with hour := .inr ⟨q, rfl, by rw [List.getElem?_set_ne hqp]; exact hq1⟩ }
        by_cases kkBYMINUTE : ky = [66, 89, 77, 73, 78, 85, 84, 69]
        · subst kkBYMINUTE
          rw [show opPut o [66, 89, 77, 73, 78, 85, 84, 69] v = (intsOf v).map fun a => { o with minute := a } from rfl] at hfold
          simp (decide := true) only [go_sem, Nat.reduceLT, Nat.reduceBEq, Nat.reduceAdd, Int.reduceBEq, Nat.reduceLeDiff, reduceIte, Nat.reduceEqDiff, Int.reduceEq, Int.reduceLE, Int.reduceLT, Int.reduceNe, Nat.reduceMul, Nat.reduceSub, Int.reduceToNat, he, g3, g9, g10, g70, g71, g72, hb0]
          refine callX_any (strToInts_A hG v (by omega) _) ?_
          rintro r h ⟨hr, G6, rfl⟩
          have ho2'' := get_more (G := G6) ho2'
          have hp'' := get_more (G := G6) hp'
          have hx'' := hx'.more G6
          rw [List.append_assoc, List.cons_append] at ho2'' hp'' hx'' hr
          rw [List.append_assoc, List.cons_append]
          unfold opCells at hp''
          cases hq : intsOf v with
          | error t =>
            rw [hq] at hr hfold
            obtain rfl : r = _ := hr
            simp (decide := true) only [go_sem, Nat.reduceLT, Nat.reduceBEq, Nat.reduceAdd, Int.reduceBEq, Nat.reduceLeDiff, reduceIte, Nat.reduceEqDiff, Int.reduceEq, Int.reduceLE, Int.reduceLT, Int.reduceNe, Nat.reduceMul, Nat.reduceSub, Int.reduceToNat, he, g3, g9, g10, g70, g71, g72, setD_some, hp'', wi, hx''.day.one]
            refine ⟨?_, _, set_box hpl⟩
            rw [← hfold]
            exact rfl
          | ok l =>
            rw [hq] at hr hfold
            obtain ⟨q, rfl, hq1, hq2⟩ := hr
            have hqp : p ≠ q := by rintro rfl; rw [hp''] at hq1; simp at hq1
            simp (decide := true) only [go_sem, Nat.reduceLT, Nat.reduceBEq, Nat.reduceAdd, Int.reduceBEq, Nat.reduceLeDiff, reduceIte, Nat.reduceEqDiff, Int.reduceEq, Int.reduceLE, Int.reduceLT, Int.reduceNe, Nat.reduceMul, Nat.reduceSub, Int.reduceToNat, he, g3, g9, g10, g70, g71, g72, setD_some, hp'', wi, hx''.day.one]
            refine ⟨k - 1, by omega, i + 1, { o with minute := l }, { x with minute := .sl true q 0 l.length 1 }, by omega, rfl, rfl, ⟨_, set_box hpl⟩, hne, ?_, ?_, ?_, hfold⟩
            · rw [List.getElem?_set_ne (by omega)]; exact ho2''
            · rw [List.getElem?_set_self (List.getElem?_eq_some_iff.1 hp'').1]; rfl
            · exact { (hx''.put hp'' _) with minute := .inr ⟨q, rfl, by rw [List.getElem?_set_ne hqp]; exact hq1⟩ }
        by_cases kkBYSECOND : ky = [66, 89, 83, 69, 67, 79, 78, 68]
        · subst kkBYSECOND
          rw [show opPut o [66, 89, 83, 69, 67, 79, 78, 68] v = (intsOf v).map fun a => { o with second := a } from rfl] at hfold
          simp (decide := true) only [go_sem, Nat.reduceLT, Nat.reduceBEq, Nat.reduceAdd, Int.reduceBEq, Nat.reduceLeDiff, reduceIte, Nat.reduceEqDiff, Int.reduceEq, Int.reduceLE, Int.reduceLT, Int.reduceNe, Nat.reduceMul, Nat.reduceSub, Int.reduceToNat, he, g3, g9, g10, g70, g71, g72, hb0]
          refine callX_any (strToInts_A hG v (by omega) _) ?_
          rintro r h ⟨hr, G6, rfl⟩
          have ho2'' := get_more (G := G6) ho2'
          have hp'' := get_more (G := G6) hp'
          have hx'' := hx'.more G6
          rw [List.append_assoc, List.cons_append] at ho2'' hp'' hx'' hr
          rw [List.append_assoc, List.cons_append]
          unfold opCells at hp''
          cases hq : intsOf v with
          | error t =>
            rw [hq] at hr hfold
            obtain rfl : r = _ := hr
            simp (decide := true) only [go_sem, Nat.reduceLT, Nat.reduceBEq, Nat.reduceAdd, Int.reduceBEq, Nat.reduceLeDiff, reduceIte, Nat.reduceEqDiff, Int.reduceEq, Int.reduceLE, Int.reduceLT, Int.reduceNe, Nat.reduceMul, Nat.reduceSub, Int.reduceToNat, he, g3, g9, g10, g70, g71, g72, setD_some, hp'', wi, hx''.day.one]
            refine ⟨?_, _, set_box hpl⟩
            rw [← hfold]
            exact rfl
          | ok l =>
            rw [hq] at hr hfold
            obtain ⟨q, rfl, hq1, hq2⟩ := hr
            have hqp : p ≠ q := by rintro rfl; rw [hp''] at hq1; simp at hq1
            simp (decide := true) only [go_sem, Nat.reduceLT, Nat.reduceBEq, Nat.reduceAdd, Int.reduceBEq, Nat.reduceLeDiff, reduceIte, Nat.reduceEqDiff, Int.reduceEq, Int.reduceLE, Int.reduceLT, Int.reduceNe, Nat.reduceMul, Nat.reduceSub, Int.reduceToNat, he, g3, g9, g10, g70, g71, g72, setD_some, hp'', wi, hx''.day.one]
            refine ⟨k - 1, by omega, i + 1, { o with second := l }, { x with second := .sl true q 0 l.length 1 }, by omega, rfl, rfl, ⟨_, set_box hpl⟩, hne, ?_, ?_, ?_, hfold⟩
            · rw [List.getElem?_set_ne (by omega)]; exact ho2''
            · rw [List.getElem?_set_self (List.getElem?_eq_some_iff.1 hp'').1]; rfl
            · exact { (hx''.put hp'' _) with second := .inr ⟨q, rfl, by rw [List.getElem?_set_ne hqp]; exact hq1⟩ }
        by_cases kkBYEASTER : ky = [66, 89, 69, 65, 83, 84, 69, 82]
        · subst kkBYEASTER
          rw [show opPut o [66, 89, 69, 65, 83, 84, 69, 82] v = (intsOf v).map fun a => { o with easter := a } from rfl] at hfold
          simp (decide := true) only [go_sem, Nat.reduceLT, Nat.reduceBEq, Nat.reduceAdd, Int.reduceBEq, Nat.reduceLeDiff, reduceIte, Nat.reduceEqDiff, Int.reduceEq, Int.reduceLE, Int.reduceLT, Int.reduceNe, Nat.reduceMul, Nat.reduceSub, Int.reduceToNat, he, g3, g9, g10, g70, g71, g72, hb0]
          refine callX_any (strToInts_A hG v (by omega) _) ?_
          rintro r h ⟨hr, G6, rfl⟩
          have ho2'' := get_more (G := G6) ho2'
          have hp'' := get_more (G := G6) hp'
          have hx'' := hx'.more G6
          rw [List.append_assoc, List.cons_append] at ho2'' hp'' hx'' hr
          rw [List.append_assoc, List.cons_append]
          unfold opCells at hp''
          cases hq : intsOf v with
          | error t =>
            rw [hq] at hr hfold
            obtain rfl : r = _ := hr
            simp (decide := true) only [go_sem, Nat.reduceLT, Nat.reduceBEq, Nat.reduceAdd, Int.reduceBEq, Nat.reduceLeDiff, reduceIte, Nat.reduceEqDiff, Int.reduceEq, Int.reduceLE, Int.reduceLT, Int.reduceNe, Nat.reduceMul, Nat.reduceSub, Int.reduceToNat, he, g3, g9, g10, g70, g71, g72, setD_some, hp'', wi, hx''.day.one]
            refine ⟨?_, _, set_box hpl⟩
            rw [← hfold]
            exact rfl
          | ok l =>
            rw [hq] at hr hfold
            obtain ⟨q, rfl, hq1, hq2⟩ := hr
            have hqp : p ≠ q := by rintro rfl; rw [hp''] at hq1; simp at hq1
            simp (decide := true) only [go_sem, Nat.reduceLT, Nat.reduceBEq, Nat.reduceAdd, Int.reduceBEq, Nat.reduceLeDiff, reduceIte, Nat.reduceEqDiff, Int.reduceEq, Int.reduceLE, Int.reduceLT, Int.reduceNe, Nat.reduceMul, Nat.reduceSub, Int.reduceToNat, he, g3, g9, g10, g70, g71, g72, setD_some, hp'', wi, hx''.day.one]
            refine ⟨k - 1, by omega, i + 1, { o with easter := l }, { x with easter := .sl true q 0 l.length 1 }, by omega, rfl, rfl, ⟨_, set_box hpl⟩, hne, ?_, ?_, ?_, hfold⟩
            · rw [List.getElem?_set_ne (by omega)]; exact ho2''
            · rw [List.getElem?_set_self (List.getElem?_eq_some_iff.1 hp'').1]; rfl
            · exact { (hx''.put hp'' _) with easter := .inr ⟨q, rfl, by rw [List.getElem?_set_ne hqp]; exact hq1⟩ }
        have eeFREQ := decide_eq_false kkFREQ
        have eeDTSTART := decide_eq_false kkDTSTART
        have eeINTERVAL := decide_eq_false kkINTERVAL
        have eeWKST := decide_eq_false kkWKST
        have eeCOUNT := decide_eq_false kkCOUNT
        have eeUNTIL := decide_eq_false kkUNTIL
        have eeBYSETPOS := decide_eq_false kkBYSETPOS
        have eeBYMONTH := decide_eq_false kkBYMONTH
        have eeBYMONTHDAY := decide_eq_false kkBYMONTHDAY
        have eeBYYEARDAY := decide_eq_false kkBYYEARDAY
        have eeBYWEEKNO := decide_eq_false kkBYWEEKNO
        have eeBYDAY := decide_eq_false kkBYDAY
        have eeBYHOUR := decide_eq_false kkBYHOUR
        have eeBYMINUTE := decide_eq_false kkBYMINUTE
        have eeBYSECOND := decide_eq_false kkBYSECOND
        have eeBYEASTER := decide_eq_false kkBYEASTER
        rw [show opPut o ky v = .error 157 by simp only [opPut, kkFREQ, kkDTSTART, kkINTERVAL, kkWKST, kkCOUNT, kkUNTIL, kkBYSETPOS, kkBYMONTH, kkBYMONTHDAY, kkBYYEARDAY, kkBYWEEKNO, kkBYDAY, kkBYHOUR, kkBYMINUTE, kkBYSECOND, kkBYEASTER, if_false]] at hfold
        simp (decide := true) only [go_sem, Nat.reduceLT, Nat.reduceBEq, Nat.reduceAdd, Int.reduceBEq, Nat.reduceLeDiff, reduceIte, Nat.reduceEqDiff, Int.reduceEq, Int.reduceLE, Int.reduceLT, Int.reduceNe, Nat.reduceMul, Nat.reduceSub, Int.reduceToNat, he, g3, g9, g10, g70, g71, g72, eeFREQ, eeDTSTART, eeINTERVAL, eeWKST, eeCOUNT, eeUNTIL, eeBYSETPOS, eeBYMONTH, eeBYMONTHDAY, eeBYYEARDAY, eeBYWEEKNO, eeBYDAY, eeBYHOUR, eeBYMINUTE, eeBYSECOND, eeBYEASTER]
        refine ⟨by omega, callX_of (errorsNew_A _ _) (List.prefix_refl _) ?_⟩
        simp only [go_sem, Nat.reduceLT, Nat.reduceBEq, Nat.reduceAdd, Int.reduceBEq, Nat.reduceLeDiff, reduceIte, Nat.reduceEqDiff, Int.reduceEq, Int.reduceLE, Int.reduceLT, Int.reduceNe, Nat.reduceMul, Nat.reduceSub, Int.reduceToNat, he, setD_some]
        refine ⟨?_, _, rfl⟩
        rw [← hfold]
        exact rfl
      · have e2 : decide ((kv.length : Int) = 2) = false := decide_eq_false (by omega)
        have hst2 : opStep o a = .error 157 := by
          rw [hst]
          split
          · simp at h2
          · rfl
        rw [hst2] at hfold
        simp only [go_sem, Nat.reduceLT, Nat.reduceBEq, Nat.reduceAdd, Int.reduceBEq, Nat.reduceLeDiff, reduceIte, Nat.reduceEqDiff, Int.reduceEq, Int.reduceLE, Int.reduceLT, Int.reduceNe, Nat.reduceMul, Nat.reduceSub, Int.reduceToNat, he, g3, g9, g10, g70, g71, g72, setD_some, e2]
        refine callX_of (errorsNew_A _ _) (List.prefix_refl _) ?_
        simp only [go_sem, Nat.reduceLT, Nat.reduceBEq, Nat.reduceAdd, Int.reduceBEq, Nat.reduceLeDiff, reduceIte, Nat.reduceEqDiff, Int.reduceEq, Int.reduceLE, Int.reduceLT, Int.reduceNe, Nat.reduceMul, Nat.reduceSub, Int.reduceToNat, he, setD_some]
        refine ⟨?_, _, rfl⟩
        rw [← hfold]
        exact rfl
    · have hc := of_decide_eq_false hc
      have hi : i = ats.length := by omega
      rw [hi, List.drop_length, foldE] at hfold
      simp only [go_sem, Nat.reduceLT, Nat.reduceBEq, Nat.reduceAdd, Int.reduceBEq, Nat.reduceLeDiff, reduceIte, Nat.reduceEqDiff, Int.reduceEq, Int.reduceLE, Int.reduceLT, Int.reduceNe, Nat.reduceMul, Nat.reduceSub, Int.reduceToNat, he, g3, g9, g10, g70, g71, g72]
      refine condK_of (fun hq => ?_) fun hq => ?_
      · have hq : o.set = false := by simpa using hq
        simp only [go_sem, Nat.reduceLT, Nat.reduceBEq, Nat.reduceAdd, Int.reduceBEq, Nat.reduceLeDiff, reduceIte, Nat.reduceEqDiff, Int.reduceEq, Int.reduceLE, Int.reduceLT, Int.reduceNe, Nat.reduceMul, Nat.reduceSub, Int.reduceToNat, he, g3, g9, g10, g70, g71, g72]
        refine callX_of (errorsNew_A _ _) (List.prefix_refl _) ?_
        simp only [go_sem, Nat.reduceLT, Nat.reduceBEq, Nat.reduceAdd, Int.reduceBEq, Nat.reduceLeDiff, reduceIte, Nat.reduceEqDiff, Int.reduceEq, Int.reduceLE, Int.reduceLT, Int.reduceNe, Nat.reduceMul, Nat.reduceSub, Int.reduceToNat, he, setD_some]
        refine ⟨?_, _, rfl⟩
        rw [← hfold]
        rw [show opEnd (.ok o) = .error 157 by simp [opEnd, hq]]
        exact rfl
      · have hq : o.set = true := by simpa using hq
        simp only [go_sem, Nat.reduceLT, Nat.reduceBEq, Nat.reduceAdd, Int.reduceBEq, Nat.reduceLeDiff, reduceIte, Nat.reduceEqDiff, Int.reduceEq, Int.reduceLE, Int.reduceLT, Int.reduceNe, Nat.reduceMul, Nat.reduceSub, Int.reduceToNat, he, g3, g9, g10, g70, g71, g72]
        refine ⟨?_, _, rfl⟩
        rw [← hfold]
        rw [show opEnd (.ok o) = .ok o by simp [opEnd, hq]]
        exact ⟨p, x, rfl, hp, by omega, hx⟩

theorem zUTC_A {w0 : World} (H : Heap) : ACalls Tryz.prog (CB w0) 58 [] H fun r H' => r = .agg [] ∧ H' = H := by
  refine ACalls.flat rfl ?_
  refine A_fun (N := 2) (rs := [.cell 0 109]) Tryz.func58 rfl rfl rfl (by kernel_rfl) (by kernel_rfl) (Nat.le_of_ble_eq_true rfl) ?_
  rintro e he -
  simp only [go_sem, Nat.reduceLT, Nat.reduceBEq, Nat.reduceAdd, Int.reduceBEq, Nat.reduceLeDiff, reduceIte, Nat.reduceEqDiff, Int.reduceEq, Int.reduceLE, Int.reduceLT, Int.reduceNe, Nat.reduceMul, Nat.reduceSub, Int.reduceToNat, he]
  exact ⟨_, rfl⟩
theorem zIsZero_A {w0 : World} (t n : Int) (H : Heap) : ACalls Tryz.prog (CB w0) 59 [.agg [vI t, vI n]] H fun r H' => r = vB (decide (t = 0) && decide (n = 0)) ∧ H' = H := by
  refine ACalls.flat rfl ?_
  refine A_fun (N := 11) (rs := [.tmp 2]) Tryz.func59 rfl rfl rfl (by kernel_rfl) (by kernel_rfl) (Nat.le_of_ble_eq_true rfl) ?_
  rintro e he ⟨g0, -⟩
  by_cases h : t = 0
  · have d := decide_eq_true h
    simp only [go_sem, Nat.reduceLT, Nat.reduceBEq, Nat.reduceAdd, Int.reduceBEq, Nat.reduceLeDiff, reduceIte, Nat.reduceEqDiff, Int.reduceEq, Int.reduceLE, Int.reduceLT, Int.reduceNe, Nat.reduceMul, Nat.reduceSub, Int.reduceToNat, he, g0, d, Bool.true_and]
    exact ⟨_, rfl⟩
  · have d := decide_eq_false h
    simp only [go_sem, Nat.reduceLT, Nat.reduceBEq, Nat.reduceAdd, Int.reduceBEq, Nat.reduceLeDiff, reduceIte, Nat.reduceEqDiff, Int.reduceEq, Int.reduceLE, Int.reduceLT, Int.reduceNe, Nat.reduceMul, Nat.reduceSub, Int.reduceToNat, he, g0, d, Bool.false_and]
    exact ⟨_, rfl⟩
theorem zSeconds_A {w0 : World} (t n : Int) (H : Heap) : ACalls Tryz.prog (CB w0) 60 [.agg [vI t, vI n]] H fun r H' => r = vI t ∧ H' = H := by
  refine ACalls.flat rfl ?_
  refine A_fun (N := 5) (rs := [.tmp 2]) Tryz.func60 rfl rfl rfl (by kernel_rfl) (by kernel_rfl) (Nat.le_of_ble_eq_true rfl) ?_
  rintro e he ⟨g0, -⟩
  simp only [go_sem, Nat.reduceLT, Nat.reduceBEq, Nat.reduceAdd, Int.reduceBEq, Nat.reduceLeDiff, reduceIte, Nat.reduceEqDiff, Int.reduceEq, Int.reduceLE, Int.reduceLT, Int.reduceNe, Nat.reduceMul, Nat.reduceSub, Int.reduceToNat, he, g0]
  exact ⟨_, rfl⟩
theorem wdDay_A {w0 : World} (p off : Nat) (cs : List AV) (a : Int) (H : Heap) (hp : cellsK H[p]? = some cs) (ha : cs[off]? = some (vI a)) : ACalls Tryz.prog (CB w0) 61 [.ptr p off] H fun r H' => r = vI a ∧ H' = H := by
  refine A_fun (N := 7) (rs := [.tmp 2]) Tryz.func61 rfl rfl rfl (by kernel_rfl) (by kernel_rfl) (Nat.le_of_ble_eq_true rfl) ?_
  rintro e he ⟨g0, -⟩
  simp only [go_sem, Nat.reduceLT, Nat.reduceBEq, Nat.reduceAdd, Int.reduceBEq, Nat.reduceLeDiff, reduceIte, Nat.reduceEqDiff, Int.reduceEq, Int.reduceLE, Int.reduceLT, Int.reduceNe, Nat.reduceMul, Nat.reduceSub, Int.reduceToNat, he, g0, nilA, hp, ha]
theorem wdN_A {w0 : World} (p off : Nat) (cs : List AV) (a : Int) (H : Heap) (hp : cellsK H[p]? = some cs) (ha : cs[off + 1]? = some (vI a)) : ACalls Tryz.prog (CB w0) 62 [.ptr p off] H fun r H' => r = vI a ∧ H' = H := by
  refine A_fun (N := 7) (rs := [.tmp 2]) Tryz.func62 rfl rfl rfl (by kernel_rfl) (by kernel_rfl) (Nat.le_of_ble_eq_true rfl) ?_
  rintro e he ⟨g0, -⟩
  simp only [go_sem, Nat.reduceLT, Nat.reduceBEq, Nat.reduceAdd, Int.reduceBEq, Nat.reduceLeDiff, reduceIte, Nat.reduceEqDiff, Int.reduceEq, Int.reduceLE, Int.reduceLT, Int.reduceNe, Nat.reduceMul, Nat.reduceSub, Int.reduceToNat, he, g0, nilA, hp, ha]
/-- The cells of weekdays with their numbers. -/
def dcells (l : List (Int × Int)) : List AV := l.flatMap fun d => [vI d.1, vI d.2]
theorem dcells_len : ∀ l : List (Int × Int), (dcells l).length = l.length * 2
  | [] => rfl
  | d :: l => by simp only [dcells, List.flatMap_cons, List.length_append, List.length_cons, List.length_nil]; have := dcells_len l; unfold dcells at this; omega
theorem dcells_snoc (l : List (Int × Int)) (d : Int × Int) : dcells (l ++ [d]) = dcells l ++ [vI d.1, vI d.2] := by simp [dcells]
theorem dcells_one (l : List (Int × Int)) : (dcells l).all AV.one = true := by
  rw [List.all_eq_true]
  intro x hx
  simp only [dcells, List.mem_flatMap, List.mem_cons, List.not_mem_nil, or_false] at hx
  obtain ⟨d, _, rfl | rfl⟩ := hx <;> rfl
/-- A slice of weekdays of the call's own, or none. -/
def DaysO (t : TypeId) (h : Heap) (x : AV) (l : List (Int × Int)) : Prop := (x = vNil ∧ l = []) ∨ ∃ q, x = .sl true q 0 l.length 2 ∧ h[q]? = some (.own t (dcells l))
theorem DaysO.one {t : TypeId} {h : Heap} {x : AV} {l : List (Int × Int)} (hx : DaysO t h x l) : x.one = true := by rcases hx with ⟨rfl, _⟩ | ⟨q, rfl, _⟩ <;> rfl
theorem DaysO.more {t : TypeId} {h : Heap} {x : AV} {l : List (Int × Int)} (hx : DaysO t h x l) (G : Heap) : DaysO t (h ++ G) x l := by
  rcases hx with hx | ⟨q, h1, h2⟩
  · exact .inl hx
  · exact .inr ⟨q, h1, get_more h2⟩
structure RuOwn (h : Heap) (r : Ru) (x : Rs) : Prop where
  setPos : IntsOwn h x.setPos r.setPos
  month : IntsOwn h x.month r.month
  monthDay : IntsOwn h x.monthDay r.monthDay
  yearDay : IntsOwn h x.yearDay r.yearDay
  weekNo : IntsOwn h x.weekNo r.weekNo
  hour : IntsOwn h x.hour r.hour
  minute : IntsOwn h x.minute r.minute
  second : IntsOwn h x.second r.second
  easter : IntsOwn h x.easter r.easter
  day : DaysO 52 h x.day r.day
def ruOf (o : Op) : Ru := ⟨(o.freq % 256).toNat, !decide (o.dt = 0), o.dt, o.interval, o.wkst.1, o.count, !decide (o.til = 0), o.til, o.pos, o.month, o.mday, o.yday, o.weekno, o.day, o.hour, o.minute, o.second, o.easter⟩
theorem wrapU8 (n : Int) : IntKind.wrap .u8 n = ((n % 256).toNat : Int) := by
  have hb : (IntKind.u8).bits = 8 := rfl
  have hs : (IntKind.u8).signed = false := rfl
  unfold IntKind.wrap
  rw [hb, hs]
  simp only [Bool.false_and, Bool.false_eq_true, if_false]
  have : (0 : Int) ≤ n % 256 := Int.emod_nonneg _ (by omega)
  show n % 256 = _
  omega
theorem DaysOwn.get {h : Heap} {x : AV} {l : List (Int × Int)} (hx : DaysOwn h x l) {i : Nat} (hi : i < l.length) : ∃ q cs, x = .sl true q 0 l.length 2 ∧ cellsK h[q]? = some cs ∧ i * 2 + 2 ≤ cs.length ∧ (cs.drop (i * 2)).take 2 = [vI (l.getD i (0, 0)).1, vI (l.getD i (0, 0)).2] := by
  rcases hx with ⟨_, rfl⟩ | ⟨q, cs, h1, h2, h3⟩
  · simp at hi
  · have e1 := h3 (i * 2) (by omega)
    have e2 := h3 (i * 2 + 1) (by omega)
    unfold dayCell at e1 e2
    rw [if_pos (by omega), show i * 2 / 2 = i by omega] at e1
    rw [if_neg (by omega), show (i * 2 + 1) / 2 = i by omega] at e2
    have := take_two e1 e2
    exact ⟨q, cs, h1, by rw [h2]; rfl, this.1, this.2⟩
theorem DaysOwn.len {h : Heap} {x : AV} {l : List (Int × Int)} (hx : DaysOwn h x l) (e : TypeId) : lenK (some (.slice e)) x = some (vI l.length) := by
  rcases hx with ⟨rfl, rfl⟩ | ⟨q, cs, rfl, _⟩ <;> rfl
theorem IntsOwn.putT {h : Heap} {x : AV} {l : List Int} (hx : IntsOwn h x l) {p t : Nat} {cs : List AV} (hp : h[p]? = some (.own t cs)) (ht : t ≠ 3) (y : AObj) : IntsOwn (h.set p y) x l := by
  rcases hx with hx | ⟨q, h1, h2⟩
  · exact .inl hx
  · refine .inr ⟨q, h1, ?_⟩
    have : p ≠ q := by rintro rfl; rw [hp] at h2; simp at h2; exact ht h2.1
    rw [List.getElem?_set_ne this]; exact h2
theorem DaysOwn.putT {h : Heap} {x : AV} {l : List (Int × Int)} (hx : DaysOwn h x l) {p t : Nat} {cs : List AV} (hp : h[p]? = some (.own t cs)) (ht : t ≠ 84) (y : AObj) : DaysOwn (h.set p y) x l := by
  rcases hx with hx | ⟨q, cs', h1, h2, h3⟩
  · exact .inl hx
  · refine .inr ⟨q, cs', h1, ?_, h3⟩
    have : p ≠ q := by rintro rfl; rw [hp] at h2; simp at h2; exact ht h2.1
    rw [List.getElem?_set_ne this]; exact h2
theorem OpAt.putT {h : Heap} {o : Op} {x : Os} (hx : OpAt h o x) {p t : Nat} {cs : List AV} (hp : h[p]? = some (.own t cs)) (ht : t ≠ 3) (ht' : t ≠ 84) (y : AObj) : OpAt (h.set p y) o x :=
  ⟨hx.pos.putT hp ht y, hx.month.putT hp ht y, hx.mday.putT hp ht y, hx.yday.putT hp ht y, hx.weekno.putT hp ht y, hx.hour.putT hp ht y, hx.minute.putT hp ht y, hx.second.putT hp ht y, hx.easter.putT hp ht y, hx.day.putT hp ht' y⟩
/-- A slice of weekdays that grows, behind objects that stay. -/
def DaysB (t : TypeId) (B : Nat) (h : Heap) (x : AV) (l : List (Int × Int)) : Prop := (x = vNil ∧ l = []) ∨ ∃ q, B ≤ q ∧ x = .sl true q 0 l.length 2 ∧ h[q]? = some (.own t (dcells l))
theorem DaysB.own {t : TypeId} {B : Nat} {h : Heap} {x : AV} {l : List (Int × Int)} (hx : DaysB t B h x l) : DaysO t h x l := by
  rcases hx with hx | ⟨q, _, h1, h2⟩
  · exact .inl hx
  · exact .inr ⟨q, h1, h2⟩
theorem DaysB.one {t : TypeId} {B : Nat} {h : Heap} {x : AV} {l : List (Int × Int)} (hx : DaysB t B h x l) : x.one = true := hx.own.one
theorem DaysB.more {t : TypeId} {B : Nat} {h : Heap} {x : AV} {l : List (Int × Int)} (hx : DaysB t B h x l) (G : Heap) : DaysB t B (h ++ G) x l := by
  rcases hx with hx | ⟨q, h0, h1, h2⟩
  · exact .inl hx
  · exact .inr ⟨q, h0, h1, get_more h2⟩
theorem DaysB.push {ts t : TypeId} {zs : List Value} (hel : el Tryz.prog ts = some (t, 2, 16, zs)) {H h : Heap} {x : AV} {l : List (Int × Int)} (hx : DaysB t H.length h x l) (hG : ∃ G, h = H ++ G) (d : Int × Int) (hl : l.length ≤ 10000000) : ∃ x' h', appendA Tryz.prog ts x (.sl true h.length 0 1 2) (h ++ [AObj.own t [vI d.1, vI d.2]]) = some (x', h') ∧ DaysB t H.length h' x' (l ++ [d]) ∧ (∃ G, h' = H ++ G) ∧ (∀ (p : Nat) (y : AObj), h[p]? = some y → (∀ cs, y ≠ AObj.own t cs) → h'[p]? = some y) := by
  obtain ⟨G, rfl⟩ := hG
  have h1 : cellsOf ((H ++ G) ++ [AObj.own t [vI d.1, vI d.2]]) (H ++ G).length = some [vI d.1, vI d.2] := by unfold cellsOf; rw [heap_get0]; rfl
  rcases hx with ⟨rfl, rfl⟩ | ⟨q, hq, rfl, h2⟩
  · refine ⟨.sl true ((H ++ G) ++ [AObj.own t [vI d.1, vI d.2]]).length 0 1 2, ((H ++ G) ++ [AObj.own t [vI d.1, vI d.2]]) ++ [.own t [vI d.1, vI d.2]], ?_, .inr ⟨_, ?_, rfl, ?_⟩, ⟨G ++ [AObj.own t [vI d.1, vI d.2]] ++ [.own t [vI d.1, vI d.2]], by simp only [List.append_assoc]⟩, fun p y hp _ => get_more (get_more hp)⟩
    · unfold appendA
      rw [hel]
      simp only [h1]
      rw [if_pos ⟨by simp, trivial, by rfl⟩]
      rfl
    · simp only [List.length_append]; omega
    · rw [heap_get0]; rfl
  · have hlt : q < (H ++ G).length := (List.getElem?_eq_some_iff.1 h2).1
    refine ⟨.sl true ((H ++ G) ++ [AObj.own t [vI d.1, vI d.2]]).length 0 (l.length + 1) 2, (((H ++ G) ++ [AObj.own t [vI d.1, vI d.2]]).set q .gone) ++ [AObj.own t (dcells l ++ [vI d.1, vI d.2])], ?_, .inr ⟨_, ?_, by rw [show (l ++ [d]).length = l.length + 1 by simp], ?_⟩, ?_, ?_⟩
    · have h3 : ((H ++ G) ++ [AObj.own t [vI d.1, vI d.2]])[q]? = some (.own t (dcells l)) := get_more h2
      have hdl := dcells_len l
      unfold appendA
      rw [hel]
      simp only [h1, h3]
      rw [if_pos ⟨by simp, trivial, by rfl⟩, if_pos ⟨trivial, trivial, by omega, by omega, by omega⟩]
      simp only [List.drop_zero]
      rw [List.take_of_length_le (l := dcells l) (by omega), List.take_of_length_le (by simp)]
    · simp only [List.length_append]; omega
    · have : (((H ++ G) ++ [AObj.own t [vI d.1, vI d.2]]).set q .gone).length = ((H ++ G) ++ [AObj.own t [vI d.1, vI d.2]]).length := List.length_set
      rw [← this, heap_get0, dcells_snoc]
      rfl
    · exact ⟨_, by rw [List.append_assoc, set_behind hq, List.append_assoc]⟩
    · intro p y hp hy
      have hpo : q ≠ p := by
        rintro rfl
        rw [h2] at hp
        exact hy _ (Option.some.inj hp).symm
      have hpl : p < (H ++ G).length := (List.getElem?_eq_some_iff.1 hp).1
      rw [get_less (by simp only [List.length_set, List.length_append, List.length_cons, List.length_nil] at hpl ⊢; omega), List.getElem?_set_ne hpo, get_less hpl]
      exact hp
theorem DaysO.putT {t : TypeId} {h : Heap} {x : AV} {l : List (Int × Int)} (hx : DaysO t h x l) {p t' : Nat} {cs : List AV} (hp : h[p]? = some (.own t' cs)) (ht : t' ≠ t) (y : AObj) : DaysO t (h.set p y) x l := by
  rcases hx with hx | ⟨q, h1, h2⟩
  · exact .inl hx
  · refine .inr ⟨q, h1, ?_⟩
    have : p ≠ q := by rintro rfl; rw [hp] at h2; simp at h2; exact ht h2.1
    rw [List.getElem?_set_ne this]; exact h2
theorem DaysB.putT {t B : Nat} {h : Heap} {x : AV} {l : List (Int × Int)} (hx : DaysB t B h x l) {p t' : Nat} {cs : List AV} (hp : h[p]? = some (.own t' cs)) (ht : t' ≠ t) (y : AObj) : DaysB t B (h.set p y) x l := by
  rcases hx with hx | ⟨q, h0, h1, h2⟩
  · exact .inl hx
  · refine .inr ⟨q, h0, h1, ?_⟩
    have : p ≠ q := by rintro rfl; rw [hp] at h2; simp at h2; exact ht h2.1
    rw [List.getElem?_set_ne this]; exact h2
/-- Objects of all types but one are kept. -/
def Keeps (t : TypeId) (h h' : Heap) : Prop := ∀ (p : Nat) (y : AObj), h[p]? = some y → (∀ cs, y ≠ AObj.own t cs) → h'[p]? = some y
theorem IntsOwn.keep {h h' : Heap} {x : AV} {l : List Int} (hx : IntsOwn h x l) {t : TypeId} (hk : Keeps t h h') (ht : t ≠ 3) : IntsOwn h' x l := by
  rcases hx with hx | ⟨q, h1, h2⟩
  · exact .inl hx
  · exact .inr ⟨q, h1, hk q _ h2 fun cs e => by cases e; exact ht rfl⟩
theorem DaysOwn.keep {h h' : Heap} {x : AV} {l : List (Int × Int)} (hx : DaysOwn h x l) {t : TypeId} (hk : Keeps t h h') (ht : t ≠ 84) : DaysOwn h' x l := by
  rcases hx with hx | ⟨q, cs, h1, h2, h3⟩
  · exact .inl hx
  · exact .inr ⟨q, cs, h1, hk q _ h2 (fun cs e => by cases e; exact ht rfl), h3⟩
theorem OpAt.keep {h h' : Heap} {o : Op} {x : Os} (hx : OpAt h o x) {t : TypeId} (hk : Keeps t h h') (h1 : t ≠ 3) (h2 : t ≠ 84) : OpAt h' o x :=
  ⟨hx.pos.keep hk h1, hx.month.keep hk h1, hx.mday.keep hk h1, hx.yday.keep hk h1, hx.weekno.keep hk h1, hx.hour.keep hk h1, hx.minute.keep hk h1, hx.second.keep hk h1, hx.easter.keep hk h1, hx.day.keep hk h2⟩
theorem two_front {H G : Heap} {a b : AObj} (h1 : (H ++ G)[H.length]? = some a) (h2 : (H ++ G)[H.length + 1]? = some b) : ∃ G', G = a :: b :: G' := by
  rw [heap_get0] at h1
  rw [heap_get] at h2
  match G, h1, h2 with
  | x :: y :: G', h1, h2 =>
    simp at h1 h2
    exact ⟨G', by rw [h1, h2]⟩
set_option maxHeartbeats 2000000 in
theorem implRule_A {w0 : World} (p : Nat) (o : Op) (x : Os) (hl : o.day.length ≤ 1000000) (H : Heap) (hp : H[p]? = some (.own 102 (opCells o x))) (hx : OpAt H o x) : ACalls Tryz.prog (CB w0) 33 [.ptr p 0] H fun r H' => (∃ y, r = .agg (ruCells (ruOf o) y) ∧ RuOwn H' (ruOf o) y) ∧ ∃ G, H' = H ++ G := by
  refine A_fun (N := 101) (rs := [.cell 2 34]) Tryz.func33 rfl rfl rfl (by kernel_rfl) (by kernel_rfl) (Nat.le_of_ble_eq_true rfl) ?_
  rintro e he ⟨g0, -⟩
  have hB : ∀ G, (H ++ G)[p]? = some (.own 102 (opCells o x)) := fun G => get_more hp
  unfold opCells at hB
  have c1 : ∀ a : Int, convV Tryz.prog 80 5 (vI a) = some (.val (.int .u8 ((a % 256).toNat : Int))) := fun a => by rw [conv_int (P := Tryz.prog) (s := 80) (d := 5) Tryz.underlying80 Tryz.underlying5, wrapU8]
  simp only [go_sem, Nat.reduceLT, Nat.reduceBEq, Nat.reduceAdd, Int.reduceBEq, Nat.reduceLeDiff, reduceIte, Nat.reduceEqDiff, Int.reduceEq, Int.reduceLE, Int.reduceLT, Int.reduceNe, Nat.reduceMul, Nat.reduceSub, Int.reduceToNat, he, g0, nilA, hB, c1]
  refine acode_drawQ [59, 60, 61] mixed (by kernel_rfl) ?_
  simp only [go_sem, Nat.reduceLT, Nat.reduceBEq, Nat.reduceAdd, Int.reduceBEq, Nat.reduceLeDiff, reduceIte, Nat.reduceEqDiff, Int.reduceEq, Int.reduceLE, Int.reduceLT, Int.reduceNe, Nat.reduceMul, Nat.reduceSub, Int.reduceToNat, he, g0, nilA, hB, c1]
  refine callX_quiet (fun _ => zIsZero_A _ _ _) ?_
  simp only [go_sem, Nat.reduceLT, Nat.reduceBEq, Nat.reduceAdd, Int.reduceBEq, Nat.reduceLeDiff, reduceIte, Nat.reduceEqDiff, Int.reduceEq, Int.reduceLE, Int.reduceLT, Int.reduceNe, Nat.reduceMul, Nat.reduceSub, Int.reduceToNat, he, g0, nilA, hB, c1, setD_some]
  refine callX_quiet (fun _ => zSeconds_A _ _ _) ?_
  simp only [go_sem, Nat.reduceLT, Nat.reduceBEq, Nat.reduceAdd, Int.reduceBEq, Nat.reduceLeDiff, reduceIte, Nat.reduceEqDiff, Int.reduceEq, Int.reduceLE, Int.reduceLT, Int.reduceNe, Nat.reduceMul, Nat.reduceSub, Int.reduceToNat, he, g0, nilA, hB, c1, setD_some]
  refine callX_quiet (fun _ => wdDay_A p 4 _ o.wkst.1 _ (by rw [List.append_assoc, hB]; exact cellsK_own) rfl) ?_
  simp only [go_sem, Nat.reduceLT, Nat.reduceBEq, Nat.reduceAdd, Int.reduceBEq, Nat.reduceLeDiff, reduceIte, Nat.reduceEqDiff, Int.reduceEq, Int.reduceLE, Int.reduceLT, Int.reduceNe, Nat.reduceMul, Nat.reduceSub, Int.reduceToNat, he, g0, nilA, hB, c1, setD_some]
  refine callX_quiet (fun _ => zIsZero_A _ _ _) ?_
  simp only [go_sem, Nat.reduceLT, Nat.reduceBEq, Nat.reduceAdd, Int.reduceBEq, Nat.reduceLeDiff, reduceIte, Nat.reduceEqDiff, Int.reduceEq, Int.reduceLE, Int.reduceLT, Int.reduceNe, Nat.reduceMul, Nat.reduceSub, Int.reduceToNat, he, g0, nilA, hB, c1, setD_some]
  refine callX_quiet (fun _ => zSeconds_A _ _ _) ?_
  have hdl := hx.day.len 84
  simp only [go_sem, Nat.reduceLT, Nat.reduceBEq, Nat.reduceAdd, Int.reduceBEq, Nat.reduceLeDiff, reduceIte, Nat.reduceEqDiff, Int.reduceEq, Int.reduceLE, Int.reduceLT, Int.reduceNe, Nat.reduceMul, Nat.reduceSub, Int.reduceToNat, he, g0, nilA, hB, c1, setD_some, avCells_one hx.pos.one, avCells_one hx.month.one, avCells_one hx.mday.one, avCells_one hx.yday.one, avCells_one hx.weekno.one, avCells_one hx.hour.one, avCells_one hx.minute.one, avCells_one hx.second.one, avCells_one hx.easter.one, hx.pos.one, hx.month.one, hx.mday.one, hx.yday.one, hx.weekno.one, hx.hour.one, hx.minute.one, hx.second.one, hx.easter.one, hdl]
  refine A_while o.day.length (fun k e h => ∃ (i : Nat) (y : AV) (z : List AV), i + k = o.day.length ∧ len e = 101 ∧ AL.get e 2 = .ptr H.length 0 ∧ AL.get e 3 = .ptr (H.length + 1) 0 ∧ AL.get e 85 = x.day ∧ AL.get e 86 = vI o.day.length ∧ AL.get e 87 = vI i ∧ (∃ G, h = H ++ G) ∧ OpAt h o x ∧ DaysB 52 H.length h y (o.day.take i) ∧ h[H.length]? = some (.own 34 z) ∧ z.length = 18 ∧ h[H.length + 1]? = some (.own 34 (ruCells (ruOf o) ⟨x.pos, x.month, x.mday, x.yday, x.weekno, y, x.hour, x.minute, x.second, x.easter⟩))) (by kernel_rfl) ?_ ?_
  · simp only [go_sem, Nat.reduceLT, Nat.reduceBEq, Nat.reduceAdd, Int.reduceBEq, Nat.reduceLeDiff, reduceIte, Nat.reduceEqDiff, Int.reduceEq, Int.reduceLE, Int.reduceLT, Int.reduceNe, Nat.reduceMul, Nat.reduceSub, Int.reduceToNat, he, g0]
    exact ⟨0, vNil, _, by omega, rfl, ⟨_, rfl⟩, hx.more _, .inl ⟨rfl, rfl⟩, rfl, rfl, rfl⟩
  · rintro k e h ⟨i, y, z, hik, he, g2, g3, g85, g86, g87, hG, hx, hy, hz, hzl, hr⟩
    simp only [go_sem, Nat.reduceLT, Nat.reduceBEq, Nat.reduceAdd, Int.reduceBEq, Nat.reduceLeDiff, reduceIte, Nat.reduceEqDiff, Int.reduceEq, Int.reduceLE, Int.reduceLT, Int.reduceNe, Nat.reduceMul, Nat.reduceSub, Int.reduceToNat, he, g2, g3, g85, g86, g87]
    refine condK_of (fun hc => ?_) fun hc => ?_
    · have hc := of_decide_eq_true hc
      have hi : i < o.day.length := by omega
      obtain ⟨q, cs, e1, e2, e3, e4⟩ := hx.day.get hi
      rw [e1] at g85
      simp only [go_sem, Nat.reduceLT, Nat.reduceBEq, Nat.reduceAdd, Int.reduceBEq, Nat.reduceLeDiff, reduceIte, Nat.reduceEqDiff, Int.reduceEq, Int.reduceLE, Int.reduceLT, Int.reduceNe, Nat.reduceMul, Nat.reduceSub, Int.reduceToNat, he, g2, g3, g85, g86, g87, e2, e3, e4, Int.toNat_natCast]
      refine ⟨by omega, ?_⟩
      refine acode_drawQ [61, 62] mixed (by kernel_rfl) ?_
      have hr' := get_more (G := [AObj.own 84 [vI (o.day.getD i (0, 0)).1, vI (o.day.getD i (0, 0)).2]]) hr
      unfold ruCells at hr'
      simp only [go_sem, Nat.reduceLT, Nat.reduceBEq, Nat.reduceAdd, Int.reduceBEq, Nat.reduceLeDiff, reduceIte, Nat.reduceEqDiff, Int.reduceEq, Int.reduceLE, Int.reduceLT, Int.reduceNe, Nat.reduceMul, Nat.reduceSub, Int.reduceToNat, he, g2, g3, g85, g86, g87, hr']
      have hnew : ∀ G, ((h ++ [AObj.own 84 [vI (o.day.getD i (0, 0)).1, vI (o.day.getD i (0, 0)).2]]) ++ G)[h.length]? = some (AObj.own 84 [vI (o.day.getD i (0, 0)).1, vI (o.day.getD i (0, 0)).2]) := fun G => by rw [List.append_assoc]; exact heap_get0
      refine callX_quiet (fun G => wdDay_A h.length 0 _ (o.day.getD i (0, 0)).1 _ (by rw [hnew]; exact cellsK_own) rfl) ?_
      simp only [go_sem, Nat.reduceLT, Nat.reduceBEq, Nat.reduceAdd, Int.reduceBEq, Nat.reduceLeDiff, reduceIte, Nat.reduceEqDiff, Int.reduceEq, Int.reduceLE, Int.reduceLT, Int.reduceNe, Nat.reduceMul, Nat.reduceSub, Int.reduceToNat, he, g2, g3, g85, g86, g87, hr', setD_some]
      refine callX_quiet (fun G => wdN_A h.length 0 _ (o.day.getD i (0, 0)).2 _ (by rw [hnew]; exact cellsK_own) rfl) ?_
      have hpush := (hy.more [AObj.own 84 [vI (o.day.getD i (0, 0)).1, vI (o.day.getD i (0, 0)).2]]).push el32 (by obtain ⟨G, rfl⟩ := hG; exact ⟨_, List.append_assoc _ _ _⟩) (o.day.getD i (0, 0)) (by rw [List.length_take]; omega)
      obtain ⟨x', h', ha, hy', hG', hkeep⟩ := hpush
      have htk : o.day.take (i + 1) = o.day.take i ++ [o.day.getD i (0, 0)] := by rw [List.take_add_one, List.getD_eq_getElem?_getD, List.getElem?_eq_getElem hi]; rfl
      rw [← htk] at hy'
      simp only [go_sem, Nat.reduceLT, Nat.reduceBEq, Nat.reduceAdd, Int.reduceBEq, Nat.reduceLeDiff, reduceIte, Nat.reduceEqDiff, Int.reduceEq, Int.reduceLE, Int.reduceLT, Int.reduceNe, Nat.reduceMul, Nat.reduceSub, Int.reduceToNat, he, g2, g3, g85, g86, g87, hr', setD_some] at ha ⊢
      rw [ha]
      have hr2 := hkeep _ _ hr' (by intro cs; simp)
      have wi : IntKind.i64.wrap ((i : Int) + 1) = ((i + 1 : Nat) : Int) := by rw [wI64 (by omega)]; rfl
      simp only [go_sem, Nat.reduceLT, Nat.reduceBEq, Nat.reduceAdd, Int.reduceBEq, Nat.reduceLeDiff, reduceIte, Nat.reduceEqDiff, Int.reduceEq, Int.reduceLE, Int.reduceLT, Int.reduceNe, Nat.reduceMul, Nat.reduceSub, Int.reduceToNat, he, g2, g3, g85, g86, g87, hr2, setD_some, avCells_one hy'.one, wi]
      have hx' := (hx.more [AObj.own 84 [vI (o.day.getD i (0, 0)).1, vI (o.day.getD i (0, 0)).2]]).keep hkeep (by decide) (by decide)
      have hz' := hkeep _ _ (get_more (G := [AObj.own 84 [vI (o.day.getD i (0, 0)).1, vI (o.day.getD i (0, 0)).2]]) hz) (by intro cs; simp)
      obtain ⟨G', rfl⟩ := hG'
      refine ⟨k - 1, by omega, i + 1, x', z, by omega, e1.symm, rfl, ⟨_, set_behind (by omega)⟩, hx'.putT hr2 (by decide) (by decide) _, hy'.putT hr2 (by decide) _, ?_, hzl, ?_⟩
      · rw [List.getElem?_set_ne (by omega)]; exact hz'
      · rw [List.getElem?_set_self (List.getElem?_eq_some_iff.1 hr2).1]; rfl
    · have hc := of_decide_eq_false hc
      have hi : i = o.day.length := by omega
      rw [hi, List.take_length] at hy
      obtain ⟨G, rfl⟩ := hG
      obtain ⟨G', rfl⟩ := two_front hz hr
      have hz18 : z.drop 18 = [] := List.drop_eq_nil_of_le (by omega)
      simp only [ruCells, go_sem, Nat.reduceLT, Nat.reduceBEq, Nat.reduceAdd, Int.reduceBEq, Nat.reduceLeDiff, reduceIte, Nat.reduceEqDiff, Int.reduceEq, Int.reduceLE, Int.reduceLT, Int.reduceNe, Nat.reduceMul, Nat.reduceSub, Int.reduceToNat, he, g2, g3, g85, g86, g87, Bool.true_and, hx.pos.one, hx.month.one, hx.mday.one, hx.yday.one, hx.weekno.one, hx.hour.one, hx.minute.one, hx.second.one, hx.easter.one, hy.one, hzl, hz18]
      have hx2 := hx.putT (y := .own 34 (ruCells (ruOf o) ⟨x.pos, x.month, x.mday, x.yday, x.weekno, y, x.hour, x.minute, x.second, x.easter⟩)) hz (by decide) (by decide)
      rw [heap_set0, List.set_cons_zero] at hx2
      refine ⟨⟨⟨x.pos, x.month, x.mday, x.yday, x.weekno, y, x.hour, x.minute, x.second, x.easter⟩, rfl, ⟨hx2.pos, hx2.month, hx2.mday, hx2.yday, hx2.weekno, hx2.hour, hx2.minute, hx2.second, hx2.easter, ?_⟩⟩, _, rfl⟩
      have hy2 := hy.own.putT (y := .own 34 (ruCells (ruOf o) ⟨x.pos, x.month, x.mday, x.yday, x.weekno, y, x.hour, x.minute, x.second, x.easter⟩)) hz (by decide)
      rw [heap_set0, List.set_cons_zero] at hy2
      exact hy2

theorem mapAcc_length {α β : Type} {f : α → Except Nat β} : ∀ {l : List α} {acc r : List β}, mapAcc f acc l = .ok r → r.length = acc.length + l.length
  | [], acc, r, h => by simp only [mapAcc, Except.ok.injEq] at h; subst h; simp
  | a :: l, acc, r, h => by
    simp only [mapAcc] at h
    split at h
    · have := mapAcc_length h
      simp at this ⊢; omega
    · cases h
theorem foldE_inv {σ α : Type} {f : σ → α → Except Nat σ} (I : σ → Prop) : ∀ {l : List α} {o o' : σ}, (∀ a ∈ l, ∀ o o', I o → f o a = .ok o' → I o') → I o → foldE f o l = .ok o' → I o'
  | [], o, o', _, h0, h => by simp only [foldE, Except.ok.injEq] at h; exact h ▸ h0
  | a :: l, o, o', hf, h0, h => by
    simp only [foldE] at h
    split at h
    · rename_i o1 h1
      exact foldE_inv I (fun a ha => hf a (List.mem_cons_of_mem _ ha)) (hf a (List.mem_cons_self ..) o o1 h0 h1) h
    · cases h
theorem map_ok {α β : Type} {x : Except Nat α} {g : α → β} {b : β} (h : x.map g = .ok b) : ∃ a, x = .ok a ∧ g a = b := by
  cases x with
  | ok a => exact ⟨a, rfl, by simpa [Except.map] using h⟩
  | error t => simp [Except.map] at h
theorem ite_ok {α : Type} {c : Prop} [Decidable c] {a b x : α} (h : (if c then a else b) = x) {P : Prop} (h1 : a = x → P) (h2 : b = x → P) : P := by
  by_cases hc : c
  · rw [if_pos hc] at h; exact h1 h
  · rw [if_neg hc] at h; exact h2 h
theorem opPut_day {o o' : Op} {k v : List UInt8} (h : opPut o k v = .ok o') : o'.day = o.day ∨ o'.day.length ≤ v.length + 2 := by
  unfold opPut at h
  refine ite_ok h (fun h => by obtain ⟨a, -, rfl⟩ := map_ok h; exact .inl rfl) fun h => ?_
  refine ite_ok h (fun h => by obtain ⟨a, -, rfl⟩ := map_ok h; exact .inl rfl) fun h => ?_
  refine ite_ok h (fun h => by obtain ⟨a, -, rfl⟩ := map_ok h; exact .inl rfl) fun h => ?_
  refine ite_ok h (fun h => by obtain ⟨a, -, rfl⟩ := map_ok h; exact .inl rfl) fun h => ?_
  refine ite_ok h (fun h => by obtain ⟨a, -, rfl⟩ := map_ok h; exact .inl rfl) fun h => ?_
  refine ite_ok h (fun h => by obtain ⟨a, -, rfl⟩ := map_ok h; exact .inl rfl) fun h => ?_
  refine ite_ok h (fun h => by obtain ⟨a, -, rfl⟩ := map_ok h; exact .inl rfl) fun h => ?_
  refine ite_ok h (fun h => by obtain ⟨a, -, rfl⟩ := map_ok h; exact .inl rfl) fun h => ?_
  refine ite_ok h (fun h => by obtain ⟨a, -, rfl⟩ := map_ok h; exact .inl rfl) fun h => ?_
  refine ite_ok h (fun h => by obtain ⟨a, -, rfl⟩ := map_ok h; exact .inl rfl) fun h => ?_
  refine ite_ok h (fun h => by obtain ⟨a, -, rfl⟩ := map_ok h; exact .inl rfl) fun h => ?_
  refine ite_ok h (fun h => ?_) fun h => ?_
  · obtain ⟨a, h1, rfl⟩ := map_ok h
    right
    have := mapAcc_length h1
    have hs := split_length 44 v
    simp only [List.length_nil] at this
    show a.length ≤ _
    omega
  refine ite_ok h (fun h => by obtain ⟨a, -, rfl⟩ := map_ok h; exact .inl rfl) fun h => ?_
  refine ite_ok h (fun h => by obtain ⟨a, -, rfl⟩ := map_ok h; exact .inl rfl) fun h => ?_
  refine ite_ok h (fun h => by obtain ⟨a, -, rfl⟩ := map_ok h; exact .inl rfl) fun h => ?_
  refine ite_ok h (fun h => by obtain ⟨a, -, rfl⟩ := map_ok h; exact .inl rfl) fun h => ?_
  cases h
theorem opParse_day {s : List UInt8} {o : Op} (hs : s.length ≤ 50000) (h : opParse s = .ok o) : o.day.length ≤ 1000000 := by
  unfold opParse opEnd at h
  split at h
  · rename_i o1 h1
    split at h
    · obtain rfl := Except.ok.inj h
      refine foldE_inv (fun o => o.day.length ≤ 1000000) (fun a ha o o' hI hst => ?_) (by simp [op0]) h1
      unfold opStep at hst
      split at hst
      · rename_i k v hkv
        split at hst
        · cases hst
        · rcases opPut_day hst with h2 | h2
          · rw [h2]; exact hI
          · have hv := split_mem (c := 61) (s := a) (x := v) (by rw [hkv]; simp)
            have ha' := split_mem ha
            omega
      · cases hst
    · cases h
  · cases h
theorem RuOwn.putT {h : Heap} {r : Ru} {x : Rs} (hx : RuOwn h r x) {p t : Nat} {cs : List AV} (hp : h[p]? = some (.own t cs)) (h1 : t ≠ 3) (h2 : t ≠ 52) (y : AObj) : RuOwn (h.set p y) r x :=
  ⟨hx.setPos.putT hp h1 y, hx.month.putT hp h1 y, hx.monthDay.putT hp h1 y, hx.yearDay.putT hp h1 y, hx.weekNo.putT hp h1 y, hx.hour.putT hp h1 y, hx.minute.putT hp h1 y, hx.second.putT hp h1 y, hx.easter.putT hp h1 y, hx.day.putT hp h2 y⟩
theorem RuOwn.more {h : Heap} {r : Ru} {x : Rs} (hx : RuOwn h r x) (G : Heap) : RuOwn (h ++ G) r x :=
  ⟨hx.setPos.more G, hx.month.more G, hx.monthDay.more G, hx.yearDay.more G, hx.weekNo.more G, hx.hour.more G, hx.minute.more G, hx.second.more G, hx.easter.more G, hx.day.more G⟩
abbrev ru0 : List AV := [vU 0, vB false, vI 0, vI 0, vI 0, vI 0, vB false, vI 0, vNil, vNil, vNil, vNil, vNil, vNil, vNil, vNil, vNil, vNil]
def ParseR (h : Heap) (r : AV) : Except Nat Op → Prop
  | .ok o => ∃ y, r = .tup [.agg (ruCells (ruOf o) y), vB true] ∧ RuOwn h (ruOf o) y
  | .error _ => ∃ l, r = .tup [.agg l, vB false] ∧ l.length = 18 ∧ l.all AV.one = true
theorem strToROption_A {w0 : World} (hG : Glob w0) (s : List UInt8) (hs : InText s) (H : Heap) (hH : GH H) : ACalls Tryz.prog (CB w0) 32 [vS s] H fun r H' => OpR H H' r (opParse s) ∧ ∃ G, H' = H ++ G := by
  refine A_fun (N := 9) (rs := [.tmp 2, .tmp 3]) Tryz.func32 rfl rfl rfl (by kernel_rfl) (by kernel_rfl) (Nat.le_of_ble_eq_true rfl) ?_
  rintro e he ⟨g0, -⟩
  simp only [go_sem, Nat.reduceLT, Nat.reduceBEq, Nat.reduceAdd, Int.reduceBEq, Nat.reduceLeDiff, reduceIte, Nat.reduceEqDiff, Int.reduceEq, Int.reduceLE, Int.reduceLT, Int.reduceNe, Nat.reduceMul, Nat.reduceSub, Int.reduceToNat, he, g0]
  refine callX_of (zUTC_A _) (List.prefix_refl _) ?_
  simp only [go_sem, Nat.reduceLT, Nat.reduceBEq, Nat.reduceAdd, Int.reduceBEq, Nat.reduceLeDiff, reduceIte, Nat.reduceEqDiff, Int.reduceEq, Int.reduceLE, Int.reduceLT, Int.reduceNe, Nat.reduceMul, Nat.reduceSub, Int.reduceToNat, he, g0, setD_some]
  refine callX_any (strToROptionIn_A hG s hs _ rfl _ hH) ?_
  rintro r h ⟨hr, G, rfl⟩
  cases ho : opParse s with
  | error t =>
    rw [ho] at hr
    obtain rfl : r = _ := hr
    simp only [go_sem, Nat.reduceLT, Nat.reduceBEq, Nat.reduceAdd, Int.reduceBEq, Nat.reduceLeDiff, reduceIte, Nat.reduceEqDiff, Int.reduceEq, Int.reduceLE, Int.reduceLT, Int.reduceNe, Nat.reduceMul, Nat.reduceSub, Int.reduceToNat, he, g0, setD_some]
    exact ⟨rfl, _, rfl⟩
  | ok o =>
    rw [ho] at hr
    obtain ⟨p, x, rfl, h1, h2, h3⟩ := hr
    simp only [go_sem, Nat.reduceLT, Nat.reduceBEq, Nat.reduceAdd, Int.reduceBEq, Nat.reduceLeDiff, reduceIte, Nat.reduceEqDiff, Int.reduceEq, Int.reduceLE, Int.reduceLT, Int.reduceNe, Nat.reduceMul, Nat.reduceSub, Int.reduceToNat, he, g0, setD_some]
    exact ⟨⟨p, x, rfl, h1, h2, h3⟩, _, rfl⟩
theorem parseOption_A {w0 : World} (hG : Glob w0) (s : List UInt8) (hs : InText s) (H : Heap) (hH : GH H) : ACalls Tryz.prog (CB w0) 15 [vS s] H fun r H' => ParseR H' r (opParse s) ∧ ∃ G, H' = H ++ G := by
  refine A_fun (N := 16) (rs := [.cell 2 34, .tmp 3]) Tryz.func15 rfl rfl rfl (by kernel_rfl) (by kernel_rfl) (Nat.le_of_ble_eq_true rfl) ?_
  rintro e he ⟨g0, -⟩
  simp only [go_sem, Nat.reduceLT, Nat.reduceBEq, Nat.reduceAdd, Int.reduceBEq, Nat.reduceLeDiff, reduceIte, Nat.reduceEqDiff, Int.reduceEq, Int.reduceLE, Int.reduceLT, Int.reduceNe, Nat.reduceMul, Nat.reduceSub, Int.reduceToNat, he, g0]
  refine callX_any (strToROption_A hG s hs _ (hH.more _)) ?_
  rintro r h ⟨hr, G, rfl⟩
  cases ho : opParse s with
  | error t =>
    rw [ho] at hr
    obtain rfl : r = _ := hr
    simp only [go_sem, Nat.reduceLT, Nat.reduceBEq, Nat.reduceAdd, Int.reduceBEq, Nat.reduceLeDiff, reduceIte, Nat.reduceEqDiff, Int.reduceEq, Int.reduceLE, Int.reduceLT, Int.reduceNe, Nat.reduceMul, Nat.reduceSub, Int.reduceToNat, he, g0, setD_some]
    exact ⟨⟨_, rfl, rfl, rfl⟩, _, rfl⟩
  | ok o =>
    rw [ho] at hr
    obtain ⟨p, x, rfl, h1, h2, h3⟩ := hr
    have hd := opParse_day hs.len ho
    simp only [go_sem, Nat.reduceLT, Nat.reduceBEq, Nat.reduceAdd, Int.reduceBEq, Nat.reduceLeDiff, reduceIte, Nat.reduceEqDiff, Int.reduceEq, Int.reduceLE, Int.reduceLT, Int.reduceNe, Nat.reduceMul, Nat.reduceSub, Int.reduceToNat, he, g0, setD_some]
    rw [List.append_assoc, List.cons_append, List.nil_append] at h1 h3
    refine callX_any (implRule_A p o x hd _ h1 h3) ?_
    rintro r h ⟨⟨y, rfl, hy⟩, G2, rfl⟩
    simp only [ruCells, go_sem, Nat.reduceLT, Nat.reduceBEq, Nat.reduceAdd, Int.reduceBEq, Nat.reduceLeDiff, reduceIte, Nat.reduceEqDiff, Int.reduceEq, Int.reduceLE, Int.reduceLT, Int.reduceNe, Nat.reduceMul, Nat.reduceSub, Int.reduceToNat, he, g0, setD_some, Bool.true_and, hy.setPos.one, hy.month.one, hy.monthDay.one, hy.yearDay.one, hy.weekNo.one, hy.hour.one, hy.minute.one, hy.second.one, hy.easter.one, hy.day.one]
    refine ⟨⟨y, rfl, ?_⟩, _, rfl⟩
    rw [List.append_assoc, List.cons_append] at hy
    have h2 := hy.putT (y := .own 34 (ruCells (ruOf o) y)) heap_get0 (by decide) (by decide)
    rw [heap_set0, List.set_cons_zero] at h2
    exact h2

abbrev txW : List UInt8 := [70, 82, 69, 81, 61, 87, 69, 69, 75, 76, 89, 59, 67, 79, 85, 78, 84, 61, 51, 59, 66, 89, 68, 65, 89, 61, 77, 79, 44, 70, 82]
abbrev txN : List UInt8 := [70, 82, 69, 81, 61, 78, 69, 86, 69, 82]
def fracB (s : List UInt8) : Bool := (split 59 s).all fun a => match split 61 a with
  | [k, v] => !(k == [85, 78, 84, 73, 76] || k == [68, 84, 83, 84, 65, 82, 84]) || v.all fun c => c.toNat != 46 && c.toNat != 44
  | _ => true
theorem fracB_spec {s : List UInt8} (h : fracB s = true) : ∀ a ∈ split 59 s, ∀ k v, split 61 a = [k, v] → (k = [85, 78, 84, 73, 76] ∨ k = [68, 84, 83, 84, 65, 82, 84]) → NoFrac v := by
  intro a ha k v hkv hk c hc
  have h1 := List.all_eq_true.1 h a ha
  rw [hkv] at h1
  have h2 : (!(k == [85, 78, 84, 73, 76] || k == [68, 84, 83, 84, 65, 82, 84])) = false := by rcases hk with rfl | rfl <;> rfl
  simp only [h2, Bool.false_or] at h1
  have h3 := List.all_eq_true.1 h1 c hc
  simpa using h3
theorem txW_in : InText txW := ⟨by decide, fracB_spec (by kernel_rfl), by decide, by kernel_rfl, by decide, by kernel_rfl⟩
theorem txN_in : InText txN := ⟨by decide, fracB_spec (by kernel_rfl), by decide, by kernel_rfl, by decide, by kernel_rfl⟩
def opW : Op := { op0 with freq := 2, set := true, count := 3, day := [(0, 0), (4, 0)] }
theorem txW_parse : opParse txW = .ok opW := by kernel_rfl
theorem txN_parse : opParse txN = .error 157 := by kernel_rfl
theorem parseW_A {w0 : World} (hG : Glob w0) (H : Heap) (hH : GH H) : ACalls Tryz.prog (CB w0) 15 [vS txW] H fun r H' => ParseR H' r (.ok opW) ∧ ∃ G, H' = H ++ G := by
  have h := parseOption_A hG txW txW_in H hH
  rw [txW_parse] at h
  exact h
theorem parseN_A {w0 : World} (hG : Glob w0) (H : Heap) (hH : GH H) : ACalls Tryz.prog (CB w0) 15 [vS txN] H fun r H' => ParseR H' r (.error 157) ∧ ∃ G, H' = H ++ G := by
  have h := parseOption_A hG txN txN_in H hH
  rw [txN_parse] at h
  exact h
theorem DaysO.get {t : TypeId} {h : Heap} {x : AV} {l : List (Int × Int)} (hx : DaysO t h x l) (hl : l ≠ []) : ∃ q, x = .sl true q 0 l.length 2 ∧ h[q]? = some (.own t (dcells l)) := hx.resolve_left fun e => hl e.2
theorem textAwake_A {w0 : World} (hG : Glob w0) (H : Heap) (hH : GH H) : ACalls Tryz.prog (CB w0) 13 [] H fun r H' => r = vB true ∧ H' = H := by
  refine ACalls.flat rfl ?_
  refine A_fun (N := 42) (rs := [.tmp 0]) Tryz.func13 rfl rfl rfl (by kernel_rfl) (by kernel_rfl) (Nat.le_of_ble_eq_true rfl) ?_
  rintro e he -
  simp only [go_sem, Nat.reduceLT, Nat.reduceBEq, Nat.reduceAdd, Int.reduceBEq, Nat.reduceLeDiff, reduceIte, Nat.reduceEqDiff, Int.reduceEq, Int.reduceLE, Int.reduceLT, Int.reduceNe, Nat.reduceMul, Nat.reduceSub, Int.reduceToNat, he]
  refine callX_any (parseW_A hG _ hH) ?_
  rintro r h ⟨hr, G, rfl⟩
  obtain ⟨y, rfl, hy⟩ := hr
  obtain ⟨q, e1, e2⟩ := hy.day.get (by decide)
  simp only [ruCells, go_sem, Nat.reduceLT, Nat.reduceBEq, Nat.reduceAdd, Int.reduceBEq, Nat.reduceLeDiff, reduceIte, Nat.reduceEqDiff, Int.reduceEq, Int.reduceLE, Int.reduceLT, Int.reduceNe, Nat.reduceMul, Nat.reduceSub, Int.reduceToNat, he, setD_some, Bool.true_and, hy.setPos.one, hy.month.one, hy.monthDay.one, hy.yearDay.one, hy.weekNo.one, hy.hour.one, hy.minute.one, hy.second.one, hy.easter.one, hy.day.one]
  refine callX_any (parseN_A hG _ (hH.more _)) ?_
  rintro r h ⟨hr, G2, rfl⟩
  obtain ⟨l, rfl, l1, l2⟩ := hr
  have l3 : l.drop 18 = [] := List.drop_eq_nil_of_le (by omega)
  have f1 : (ruOf opW).freq = 2 := rfl
  have f2 : (ruOf opW).count = 3 := rfl
  have f3 : (ruOf opW).day.length = 2 := rfl
  have f4 : dcells (ruOf opW).day = [vI 0, vI 0, vI 4, vI 0] := rfl
  have d1 : decide (((2 : Nat) : Int) = 2) = true := rfl
  generalize ruOf opW = R at *
  rw [f3] at e1
  rw [f4] at e2
  clear f3 f4
  have e3 : ∀ X : Heap, (H ++ (G ++ X))[q]? = some (AObj.own 52 [vI 0, vI 0, vI 4, vI 0]) := fun X => by rw [← List.append_assoc]; exact get_more e2
  simp only [go_sem, Nat.reduceLT, Nat.reduceBEq, Nat.reduceAdd, Int.reduceBEq, Nat.reduceLeDiff, reduceIte, Nat.reduceEqDiff, Int.reduceEq, Int.reduceLE, Int.reduceLT, Int.reduceNe, Nat.reduceMul, Nat.reduceSub, Int.reduceToNat, he, setD_some, l1, l2, l3]
  refine guardK_name fun A hA => ?_
  have a1 : (A[1]?).bind (·.dst) = some 14 := by rw [hA]; rfl
  have a2 : (A[6]?).bind (·.dst) = some 19 := by rw [hA]; rfl
  have a3 : (A[11]?).bind (·.dst) = some 24 := by rw [hA]; rfl
  have a4 : (A[17]?).bind (·.dst) = some 30 := by rw [hA]; rfl
  have a5 : (A[25]?).bind (·.dst) = some 38 := by rw [hA]; rfl
  clear hA
  simp only [go_sem, Nat.reduceLT, Nat.reduceBEq, Nat.reduceAdd, Int.reduceBEq, Nat.reduceLeDiff, reduceIte, Nat.reduceEqDiff, Int.reduceEq, Int.reduceLE, Int.reduceLT, Int.reduceNe, Nat.reduceMul, Nat.reduceSub, Int.reduceToNat, he, setD_some, f1, f2, d1, e1, e2, e3, a1, a2, a3, a4, a5]
  exact ⟨by decide, _, rfl⟩

/-- Where a number is first met. -/
def ixI (l : List Int) (a : Int) : Int := match l.findIdx? (fun b => decide (a = b)) with
  | some i => i
  | none => -1
theorem findIdx_hit {α : Type} {p : α → Bool} : ∀ {l : List α} {i : Nat} {a : α}, l[i]? = some a → p a = true → (∀ j b, j < i → l[j]? = some b → p b = false) → l.findIdx? p = some i
  | [], _, _, h, _, _ => by simp at h
  | b :: l, 0, a, h, ha, _ => by
    simp at h; subst h
    simp [List.findIdx?_cons, ha]
  | b :: l, i + 1, a, h, ha, hn => by
    have hb := hn 0 b (by omega) rfl
    simp at h
    rw [List.findIdx?_cons, hb, findIdx_hit h ha fun j c hj hc => hn (j + 1) c (by omega) (by simpa using hc)]
    rfl
theorem findIdx_miss {α : Type} {p : α → Bool} : ∀ {l : List α}, (∀ (j : Nat) b, l[j]? = some b → p b = false) → l.findIdx? p = none
  | [], _ => rfl
  | b :: l, hn => by
    rw [List.findIdx?_cons, hn 0 b rfl, findIdx_miss fun j c hc => hn (j + 1) c (by simpa using hc)]
    rfl
/-- A slice that reads as a list of numbers: l's first ones, or all. -/
def IntsIn (H : Heap) (x : AV) (l : List Int) : Prop := SlOf H x l.length 1 fun i => vI (l.getD i 0)
theorem index_A {w0 : World} (l : List Int) (hl : l.length ≤ 1000000000) (a : Int) (x : AV) (H : Heap) (hx : IntsAt H x l) : ACalls Tryz.prog (CB w0) 107 [x, vI a] H fun r H' => r = vI (ixI l a) ∧ H' = H := by
  refine A_fun (N := 19) (rs := [.tmp 4]) Tryz.func107 rfl rfl rfl (by kernel_rfl) (by kernel_rfl) (Nat.le_of_ble_eq_true rfl) ?_
  rintro e he ⟨g0, g1, -⟩
  have hlen := hx.len 3
  simp only [go_sem, Nat.reduceLT, Nat.reduceBEq, Nat.reduceAdd, Int.reduceBEq, Nat.reduceLeDiff, reduceIte, Nat.reduceEqDiff, Int.reduceEq, Int.reduceLE, Int.reduceLT, Int.reduceNe, Nat.reduceMul, Nat.reduceSub, Int.reduceToNat, he, g0, g1, hlen]
  refine A_while l.length (fun k e h => h = H ∧ len e = 19 ∧ AL.get e 0 = x ∧ AL.get e 1 = vI a ∧ AL.get e 7 = vI l.length ∧ ∃ i : Nat, AL.get e 8 = vI i ∧ i + k = l.length ∧ ∀ (j : Nat) b, j < i → l[j]? = some b → decide (a = b) = false) (by kernel_rfl) ?_ ?_
  · simp only [go_sem, Nat.reduceLT, Nat.reduceBEq, Nat.reduceAdd, Int.reduceBEq, Nat.reduceLeDiff, reduceIte, Nat.reduceEqDiff, Int.reduceEq, Int.reduceLE, Int.reduceLT, Int.reduceNe, Nat.reduceMul, Nat.reduceSub, Int.reduceToNat, he, g0, g1]
    exact ⟨0, rfl, by omega, fun j b hj => by omega⟩
  · rintro k e h ⟨rfl, he, g0, g1, g7, i, g8, hik, hno⟩
    have wi : IntKind.i64.wrap ((i : Int) + 1) = ((i + 1 : Nat) : Int) := by rw [wI64 (by omega)]; rfl
    simp only [go_sem, Nat.reduceLT, Nat.reduceBEq, Nat.reduceAdd, Int.reduceBEq, Nat.reduceLeDiff, reduceIte, Nat.reduceEqDiff, Int.reduceEq, Int.reduceLE, Int.reduceLT, Int.reduceNe, Nat.reduceMul, Nat.reduceSub, Int.reduceToNat, he, g0, g1, g7, g8]
    refine condK_of (fun hc => ?_) fun hc => ?_
    · have hc := of_decide_eq_true hc
      have hi : i < l.length := by omega
      rcases hx with ⟨rfl, h0⟩ | ⟨own, o, off, cs, rfl, hcs, hcell⟩
      · omega
      have hci : cs[off + i]? = some (vI (l.getD i 0)) := hcell i (by omega)
      have hli : l[i]? = some (l.getD i 0) := by rw [List.getD_eq_getElem?_getD, List.getElem?_eq_getElem hi]; rfl
      generalize l.getD i 0 = b at *
      simp only [go_sem, Nat.reduceLT, Nat.reduceBEq, Nat.reduceAdd, Int.reduceBEq, Nat.reduceLeDiff, reduceIte, Nat.reduceEqDiff, Int.reduceEq, Int.reduceLE, Int.reduceLT, Int.reduceNe, Nat.reduceMul, Nat.reduceSub, Int.reduceToNat, he, g0, g1, g7, g8, hcs, hci, Int.toNat_natCast]
      refine ⟨by omega, condK_of (fun hq => ?_) fun hq => ?_⟩
      · simp only [go_sem, Nat.reduceLT, Nat.reduceBEq, Nat.reduceAdd, Int.reduceBEq, Nat.reduceLeDiff, reduceIte, Nat.reduceEqDiff, Int.reduceEq, Int.reduceLE, Int.reduceLT, Int.reduceNe, Nat.reduceMul, Nat.reduceSub, Int.reduceToNat, he, g0, g1, g7, g8]
        unfold ixI
        rw [findIdx_hit hli hq hno]
      · simp only [go_sem, Nat.reduceLT, Nat.reduceBEq, Nat.reduceAdd, Int.reduceBEq, Nat.reduceLeDiff, reduceIte, Nat.reduceEqDiff, Int.reduceEq, Int.reduceLE, Int.reduceLT, Int.reduceNe, Nat.reduceMul, Nat.reduceSub, Int.reduceToNat, he, g0, g1, g7, g8, wi]
        refine ⟨k - 1, by omega, i + 1, rfl, by omega, fun j c hj hjc => ?_⟩
        rcases Nat.lt_or_ge j i with h1 | h1
        · exact hno j c h1 hjc
        · have : j = i := by omega
          subst this
          rw [hli] at hjc
          cases hjc
          exact hq
    · have hc := of_decide_eq_false hc
      simp only [go_sem, Nat.reduceLT, Nat.reduceBEq, Nat.reduceAdd, Int.reduceBEq, Nat.reduceLeDiff, reduceIte, Nat.reduceEqDiff, Int.reduceEq, Int.reduceLE, Int.reduceLT, Int.reduceNe, Nat.reduceMul, Nat.reduceSub, Int.reduceToNat, he, g0, g1, g7, g8]
      unfold ixI
      rw [findIdx_miss fun j b hj => hno j b (by have := (List.getElem?_eq_some_iff.1 hj).1; omega) hj]
theorem ixI_mem (l : List Int) (a : Int) : decide (0 ≤ ixI l a) = l.contains a := by
  unfold ixI
  cases h : l.findIdx? (fun b => decide (a = b)) with
  | some i =>
    obtain ⟨hi, h1, _⟩ := List.findIdx?_eq_some_iff_getElem.1 h
    have h1 := of_decide_eq_true h1
    have : l.contains a = true := by rw [List.contains_iff_mem]; rw [h1]; exact List.getElem_mem hi
    rw [this]
    show decide (0 ≤ (i : Int)) = true
    exact decide_eq_true (by omega)
  | none =>
    have : l.contains a = false := by
      rw [Bool.eq_false_iff]
      intro hc
      have := List.findIdx?_eq_none_iff.1 h a (List.contains_iff_mem.1 hc)
      simp at this
    rw [this]
    rfl
theorem contains_A {w0 : World} (l : List Int) (hl : l.length ≤ 1000000000) (a : Int) (x : AV) (H : Heap) (hx : IntsAt H x l) : ACalls Tryz.prog (CB w0) 80 [x, vI a] H fun r H' => r = vB (l.contains a) ∧ H' = H := by
  refine A_fun (N := 9) (rs := [.tmp 4]) Tryz.func80 rfl rfl rfl (by kernel_rfl) (by kernel_rfl) (Nat.le_of_ble_eq_true rfl) ?_
  rintro e he ⟨g0, g1, -⟩
  simp only [go_sem, Nat.reduceLT, Nat.reduceBEq, Nat.reduceAdd, Int.reduceBEq, Nat.reduceLeDiff, reduceIte, Nat.reduceEqDiff, Int.reduceEq, Int.reduceLE, Int.reduceLT, Int.reduceNe, Nat.reduceMul, Nat.reduceSub, Int.reduceToNat, he, g0, g1]
  refine callX_of (index_A l hl a x _ hx) (List.prefix_refl _) ?_
  simp only [go_sem, Nat.reduceLT, Nat.reduceBEq, Nat.reduceAdd, Int.reduceBEq, Nat.reduceLeDiff, reduceIte, Nat.reduceEqDiff, Int.reduceEq, Int.reduceLE, Int.reduceLT, Int.reduceNe, Nat.reduceMul, Nat.reduceSub, Int.reduceToNat, he, g0, g1, setD_some]
  rw [ixI_mem]
theorem IntsAt.take {H : Heap} {own : Bool} {o off st : Nat} {l : List Int} (hx : IntsAt H (.sl own o off l.length 1) l) {i : Nat} (hi : i ≤ l.length) : IntsAt H (.sl own o off i 1) (l.take i) := by
  rcases hx with ⟨h, _⟩ | ⟨own', o', off', cs, h, hcs, hcell⟩
  · cases h
  · cases h
    refine .inr ⟨own, o, off, cs, by rw [List.length_take]; congr 1; omega, hcs, fun j hj => ?_⟩
    rw [List.length_take] at hj
    rw [hcell j (by omega)]
    show some (vI (l.getD j 0)) = some (vI ((l.take i).getD j 0))
    rw [List.getD_eq_getElem?_getD, List.getD_eq_getElem?_getD, List.getElem?_take_of_lt (by omega)]
def withinAt (l : List Int) (low high : Int) (zero : Bool) (i : Nat) : Bool :=
  !(decide (l.getD i 0 < low) || decide (high < l.getD i 0) || (decide (l.getD i 0 = 0) && !zero) || (l.take i).contains (l.getD i 0))
/-- spec.within -/
def within (l : List Int) (most low high : Int) (zero : Bool) : Bool := decide ((l.length : Int) ≤ most) && (List.range l.length).all (withinAt l low high zero)
theorem within_fail {l : List Int} {most low high : Int} {zero : Bool} {i : Nat} (hi : i < l.length) (h : withinAt l low high zero i = false) : within l most low high zero = false := by
  unfold within
  rw [Bool.and_eq_false_iff]
  right
  rw [Bool.eq_false_iff]
  intro ha
  have := List.all_eq_true.1 ha i (List.mem_range.2 hi)
  rw [h] at this; cases this
theorem within_A {w0 : World} (l : List Int) (hl : l.length ≤ 1000000000000) (hr : ∀ n ∈ l, -9223372036854775808 ≤ n ∧ n ≤ 9223372036854775807) (most low high : Int) (hm : most ≤ 1000) (zero : Bool) (x : AV) (H : Heap) (hx : IntsAt H x l) : ACalls Tryz.prog (CB w0) 54 [x, vI most, vI low, vI high, vB zero] H fun r H' => r = vB (within l most low high zero) ∧ H' = H := by
  refine A_fun (N := 48) (rs := [.tmp 10]) Tryz.func54 rfl rfl rfl (by kernel_rfl) (by kernel_rfl) (Nat.le_of_ble_eq_true rfl) ?_
  rintro e he ⟨g0, g1, g2, g3, g4, -⟩
  have hlen := hx.len 3
  simp only [go_sem, Nat.reduceLT, Nat.reduceBEq, Nat.reduceAdd, Int.reduceBEq, Nat.reduceLeDiff, reduceIte, Nat.reduceEqDiff, Int.reduceEq, Int.reduceLE, Int.reduceLT, Int.reduceNe, Nat.reduceMul, Nat.reduceSub, Int.reduceToNat, he, g0, g1, g2, g3, g4, hlen]
  refine condK_of (fun hc => ?_) fun hc => ?_
  · have hc := of_decide_eq_true hc
    simp only [go_sem, Nat.reduceLT, Nat.reduceBEq, Nat.reduceAdd, Int.reduceBEq, Nat.reduceLeDiff, reduceIte, Nat.reduceEqDiff, Int.reduceEq, Int.reduceLE, Int.reduceLT, Int.reduceNe, Nat.reduceMul, Nat.reduceSub, Int.reduceToNat, he, g0, g1, g2, g3, g4]
    unfold within
    rw [decide_eq_false (by omega), Bool.false_and]
  · have hc := of_decide_eq_false hc
    simp only [go_sem, Nat.reduceLT, Nat.reduceBEq, Nat.reduceAdd, Int.reduceBEq, Nat.reduceLeDiff, reduceIte, Nat.reduceEqDiff, Int.reduceEq, Int.reduceLE, Int.reduceLT, Int.reduceNe, Nat.reduceMul, Nat.reduceSub, Int.reduceToNat, he, g0, g1, g2, g3, g4, hlen]
    refine A_while l.length (fun k e h => h = H ∧ len e = 48 ∧ AL.get e 0 = x ∧ AL.get e 2 = vI low ∧ AL.get e 3 = vI high ∧ AL.get e 4 = vB zero ∧ AL.get e 17 = x ∧ AL.get e 18 = vI l.length ∧ ∃ i : Nat, AL.get e 19 = vI i ∧ i + k = l.length ∧ (List.range i).all (withinAt l low high zero) = true) (by kernel_rfl) ?_ ?_
    · simp only [go_sem, Nat.reduceLT, Nat.reduceBEq, Nat.reduceAdd, Int.reduceBEq, Nat.reduceLeDiff, reduceIte, Nat.reduceEqDiff, Int.reduceEq, Int.reduceLE, Int.reduceLT, Int.reduceNe, Nat.reduceMul, Nat.reduceSub, Int.reduceToNat, he, g0, g1, g2, g3, g4]
      exact ⟨0, rfl, by omega, rfl⟩
    · rintro k e h ⟨rfl, he, g0, g2, g3, g4, g17, g18, i, g19, hik, hall⟩
      simp only [go_sem, Nat.reduceLT, Nat.reduceBEq, Nat.reduceAdd, Int.reduceBEq, Nat.reduceLeDiff, reduceIte, Nat.reduceEqDiff, Int.reduceEq, Int.reduceLE, Int.reduceLT, Int.reduceNe, Nat.reduceMul, Nat.reduceSub, Int.reduceToNat, he, g0, g2, g3, g4, g17, g18, g19]
      refine condK_of (fun hc => ?_) fun hc => ?_
      · have hc := of_decide_eq_true hc
        have hi : i < l.length := by omega
        rcases hx with ⟨rfl, h0⟩ | ⟨own, o, off, cs, rfl, hcs, hcell⟩
        · omega
        have hci : cs[off + i]? = some (vI (l.getD i 0)) := hcell i (by omega)
        have hx' : IntsAt h (.sl own o off l.length 1) l := .inr ⟨own, o, off, cs, rfl, hcs, hcell⟩
        have hdef : withinAt l low high zero i = !(decide (l.getD i 0 < low) || decide (high < l.getD i 0) || (decide (l.getD i 0 = 0) && !zero) || (l.take i).contains (l.getD i 0)) := rfl
        have wi : IntKind.i64.wrap ((i : Int) + 1) = ((i + 1 : Nat) : Int) := by rw [wI64 (by omega)]; rfl
        generalize hn : l.getD i 0 = n at *
        by_cases c1 : n < low
        · have d1 := decide_eq_true c1
          simp only [go_sem, Nat.reduceLT, Nat.reduceBEq, Nat.reduceAdd, Int.reduceBEq, Nat.reduceLeDiff, reduceIte, Nat.reduceEqDiff, Int.reduceEq, Int.reduceLE, Int.reduceLT, Int.reduceNe, Nat.reduceMul, Nat.reduceSub, Int.reduceToNat, he, g0, g2, g3, g4, g17, g18, g19, hcs, hci, Int.toNat_natCast, d1]
          refine ⟨by omega, ?_⟩
          rw [within_fail (most := most) hi (show withinAt l low high zero i = false by rw [hdef, d1]; rfl)]
        have d1 := decide_eq_false c1
        by_cases c2 : high < n
        · have d2 := decide_eq_true c2
          simp only [go_sem, Nat.reduceLT, Nat.reduceBEq, Nat.reduceAdd, Int.reduceBEq, Nat.reduceLeDiff, reduceIte, Nat.reduceEqDiff, Int.reduceEq, Int.reduceLE, Int.reduceLT, Int.reduceNe, Nat.reduceMul, Nat.reduceSub, Int.reduceToNat, he, g0, g2, g3, g4, g17, g18, g19, hcs, hci, Int.toNat_natCast, d1, d2]
          refine ⟨by omega, ?_⟩
          rw [within_fail (most := most) hi (show withinAt l low high zero i = false by rw [hdef, d1, d2]; rfl)]
        have d2 := decide_eq_false c2
        by_cases c3 : n = 0
        · have d3 := decide_eq_true c3
          cases zero with
          | false =>
            simp only [go_sem, Nat.reduceLT, Nat.reduceBEq, Nat.reduceAdd, Int.reduceBEq, Nat.reduceLeDiff, reduceIte, Nat.reduceEqDiff, Int.reduceEq, Int.reduceLE, Int.reduceLT, Int.reduceNe, Nat.reduceMul, Nat.reduceSub, Int.reduceToNat, he, g0, g2, g3, g4, g17, g18, g19, hcs, hci, Int.toNat_natCast, d1, d2, d3]
            refine ⟨by omega, ?_⟩
            rw [within_fail (most := most) hi (show withinAt l low high false i = false by rw [hdef, d1, d2, d3]; rfl)]
          | true =>
            simp only [go_sem, Nat.reduceLT, Nat.reduceBEq, Nat.reduceAdd, Int.reduceBEq, Nat.reduceLeDiff, reduceIte, Nat.reduceEqDiff, Int.reduceEq, Int.reduceLE, Int.reduceLT, Int.reduceNe, Nat.reduceMul, Nat.reduceSub, Int.reduceToNat, he, g0, g2, g3, g4, g17, g18, g19, hcs, hci, Int.toNat_natCast, nn, d1, d2, d3]
            refine ⟨by omega, by omega, ?_⟩
            refine callX_of (contains_A (l.take i) (by rw [List.length_take]; omega) n _ _ (IntsAt.take (st := 1) hx' (by omega))) (List.prefix_refl _) ?_
            cases hq : (l.take i).contains n with
            | true =>
              simp only [go_sem, Nat.reduceLT, Nat.reduceBEq, Nat.reduceAdd, Int.reduceBEq, Nat.reduceLeDiff, reduceIte, Nat.reduceEqDiff, Int.reduceEq, Int.reduceLE, Int.reduceLT, Int.reduceNe, Nat.reduceMul, Nat.reduceSub, Int.reduceToNat, he, g0, g2, g3, g4, g17, g18, g19, hcs, hci, Int.toNat_natCast, nn, d1, d2, d3, setD_some]
              rw [within_fail (most := most) hi (show withinAt l low high true i = false by rw [hdef, d1, d2, d3, hq]; rfl)]
            | false =>
              simp only [go_sem, Nat.reduceLT, Nat.reduceBEq, Nat.reduceAdd, Int.reduceBEq, Nat.reduceLeDiff, reduceIte, Nat.reduceEqDiff, Int.reduceEq, Int.reduceLE, Int.reduceLT, Int.reduceNe, Nat.reduceMul, Nat.reduceSub, Int.reduceToNat, he, g0, g2, g3, g4, g17, g18, g19, hcs, hci, Int.toNat_natCast, nn, d1, d2, d3, setD_some, wi]
              refine ⟨k - 1, by omega, i + 1, rfl, by omega, ?_⟩
              rw [List.range_succ, List.all_append, hall, List.all_cons, List.all_nil, show withinAt l low high true i = true by rw [hdef, d1, d2, d3, hq]; rfl]
              rfl
        · have d3 := decide_eq_false c3
          simp only [go_sem, Nat.reduceLT, Nat.reduceBEq, Nat.reduceAdd, Int.reduceBEq, Nat.reduceLeDiff, reduceIte, Nat.reduceEqDiff, Int.reduceEq, Int.reduceLE, Int.reduceLT, Int.reduceNe, Nat.reduceMul, Nat.reduceSub, Int.reduceToNat, he, g0, g2, g3, g4, g17, g18, g19, hcs, hci, Int.toNat_natCast, nn, d1, d2, d3]
          refine ⟨by omega, by omega, ?_⟩
          refine callX_of (contains_A (l.take i) (by rw [List.length_take]; omega) n _ _ (IntsAt.take (st := 1) hx' (by omega))) (List.prefix_refl _) ?_
          cases hq : (l.take i).contains n with
          | true =>
            simp only [go_sem, Nat.reduceLT, Nat.reduceBEq, Nat.reduceAdd, Int.reduceBEq, Nat.reduceLeDiff, reduceIte, Nat.reduceEqDiff, Int.reduceEq, Int.reduceLE, Int.reduceLT, Int.reduceNe, Nat.reduceMul, Nat.reduceSub, Int.reduceToNat, he, g0, g2, g3, g4, g17, g18, g19, hcs, hci, Int.toNat_natCast, nn, d1, d2, d3, setD_some]
            rw [within_fail (most := most) hi (show withinAt l low high zero i = false by rw [hdef, d1, d2, d3, hq]; rfl)]
          | false =>
            simp only [go_sem, Nat.reduceLT, Nat.reduceBEq, Nat.reduceAdd, Int.reduceBEq, Nat.reduceLeDiff, reduceIte, Nat.reduceEqDiff, Int.reduceEq, Int.reduceLE, Int.reduceLT, Int.reduceNe, Nat.reduceMul, Nat.reduceSub, Int.reduceToNat, he, g0, g2, g3, g4, g17, g18, g19, hcs, hci, Int.toNat_natCast, nn, d1, d2, d3, setD_some, wi]
            refine ⟨k - 1, by omega, i + 1, rfl, by omega, ?_⟩
            rw [List.range_succ, List.all_append, hall, List.all_cons, List.all_nil, show withinAt l low high zero i = true by rw [hdef, d1, d2, d3, hq]; rfl]
            rfl
      · have hc := of_decide_eq_false hc
        simp only [go_sem, Nat.reduceLT, Nat.reduceBEq, Nat.reduceAdd, Int.reduceBEq, Nat.reduceLeDiff, reduceIte, Nat.reduceEqDiff, Int.reduceEq, Int.reduceLE, Int.reduceLT, Int.reduceNe, Nat.reduceMul, Nat.reduceSub, Int.reduceToNat, he, g0, g2, g3, g4, g17, g18, g19]
        have hi : i = l.length := by omega
        rw [hi] at hall
        unfold within
        rw [hall, decide_eq_true (by omega)]
        rfl

def eqD (a b : Int × Int) : Bool := decide (a.1 = b.1) && decide (a.2 = b.2)
theorem eqD_iff {a b : Int × Int} : eqD a b = true ↔ a = b := by
  unfold eqD
  rw [Bool.and_eq_true, decide_eq_true_iff, decide_eq_true_iff]
  exact ⟨fun h => Prod.ext h.1 h.2, fun h => by rw [h]; exact ⟨rfl, rfl⟩⟩
def ixD (l : List (Int × Int)) (a : Int × Int) : Int := match l.findIdx? (eqD a) with
  | some i => i
  | none => -1
theorem indexD_A {w0 : World} (l : List (Int × Int)) (hl : l.length ≤ 1000000000) (a : Int × Int) (x : AV) (H : Heap) (hx : DaysAt H x l) : ACalls Tryz.prog (CB w0) 81 [x, vD a] H fun r H' => r = vI (ixD l a) ∧ H' = H := by
  refine ACalls.flat rfl ?_
  refine A_fun (N := 19) (rs := [.tmp 4]) Tryz.func81 rfl rfl rfl (by kernel_rfl) (by kernel_rfl) (Nat.le_of_ble_eq_true rfl) ?_
  rintro e he ⟨g0, g1, -⟩
  have hlen := hx.len 47
  simp only [go_sem, Nat.reduceLT, Nat.reduceBEq, Nat.reduceAdd, Int.reduceBEq, Nat.reduceLeDiff, reduceIte, Nat.reduceEqDiff, Int.reduceEq, Int.reduceLE, Int.reduceLT, Int.reduceNe, Nat.reduceMul, Nat.reduceSub, Int.reduceToNat, he, g0, g1, hlen]
  refine A_while l.length (fun k e h => h = H ++ [.own 47 [vI a.1, vI a.2]] ∧ len e = 19 ∧ AL.get e 0 = x ∧ AL.get e 3 = .ptr H.length 0 ∧ AL.get e 7 = vI l.length ∧ ∃ i : Nat, AL.get e 8 = vI i ∧ i + k = l.length ∧ ∀ (j : Nat) b, j < i → l[j]? = some b → eqD a b = false) (by kernel_rfl) ?_ ?_
  · simp only [go_sem, Nat.reduceLT, Nat.reduceBEq, Nat.reduceAdd, Int.reduceBEq, Nat.reduceLeDiff, reduceIte, Nat.reduceEqDiff, Int.reduceEq, Int.reduceLE, Int.reduceLT, Int.reduceNe, Nat.reduceMul, Nat.reduceSub, Int.reduceToNat, he, g0, g1]
    exact ⟨0, rfl, by omega, fun j b hj => by omega⟩
  · rintro k e h ⟨rfl, he, g0, g3, g7, i, g8, hik, hno⟩
    have wi : IntKind.i64.wrap ((i : Int) + 1) = ((i + 1 : Nat) : Int) := by rw [wI64 (by omega)]; rfl
    simp only [go_sem, Nat.reduceLT, Nat.reduceBEq, Nat.reduceAdd, Int.reduceBEq, Nat.reduceLeDiff, reduceIte, Nat.reduceEqDiff, Int.reduceEq, Int.reduceLE, Int.reduceLT, Int.reduceNe, Nat.reduceMul, Nat.reduceSub, Int.reduceToNat, he, g0, g3, g7, g8]
    refine condK_of (fun hc => ?_) fun hc => ?_
    · have hc := of_decide_eq_true hc
      have hi : i < l.length := by omega
      have hx2 := hx.more [AObj.own 47 [vI a.1, vI a.2]]
      rcases hx2 with ⟨rfl, h0⟩ | ⟨own, o, off, cs, rfl, hcs, hcell⟩
      · omega
      obtain ⟨hd1, hd2⟩ := days_load (H := H) hcell hi
      have hli : l[i]? = some (l.getD i (0, 0)) := by rw [List.getD_eq_getElem?_getD, List.getElem?_eq_getElem hi]; rfl
      generalize l.getD i (0, 0) = b at *
      simp only [go_sem, Nat.reduceLT, Nat.reduceBEq, Nat.reduceAdd, Int.reduceBEq, Nat.reduceLeDiff, reduceIte, Nat.reduceEqDiff, Int.reduceEq, Int.reduceLE, Int.reduceLT, Int.reduceNe, Nat.reduceMul, Nat.reduceSub, Int.reduceToNat, he, g0, g3, g7, g8]
      refine acode_draw mixed (by kernel_rfl) ?_
      simp only [go_sem, Nat.reduceLT, Nat.reduceBEq, Nat.reduceAdd, Int.reduceBEq, Nat.reduceLeDiff, reduceIte, Nat.reduceEqDiff, Int.reduceEq, Int.reduceLE, Int.reduceLT, Int.reduceNe, Nat.reduceMul, Nat.reduceSub, Int.reduceToNat, he, g0, g3, g7, g8, hcs, hd1, hd2, Int.toNat_natCast]
      refine ⟨by omega, condK_of (fun hq => ?_) fun hq => ?_⟩
      · simp only [go_sem, Nat.reduceLT, Nat.reduceBEq, Nat.reduceAdd, Int.reduceBEq, Nat.reduceLeDiff, reduceIte, Nat.reduceEqDiff, Int.reduceEq, Int.reduceLE, Int.reduceLT, Int.reduceNe, Nat.reduceMul, Nat.reduceSub, Int.reduceToNat, he, g0, g3, g7, g8]
        unfold ixD
        rw [findIdx_hit hli hq hno]
        exact ⟨rfl, _, rfl⟩
      · simp only [go_sem, Nat.reduceLT, Nat.reduceBEq, Nat.reduceAdd, Int.reduceBEq, Nat.reduceLeDiff, reduceIte, Nat.reduceEqDiff, Int.reduceEq, Int.reduceLE, Int.reduceLT, Int.reduceNe, Nat.reduceMul, Nat.reduceSub, Int.reduceToNat, he, g0, g3, g7, g8, wi]
        refine ⟨k - 1, by omega, i + 1, rfl, by omega, fun j c hj hjc => ?_⟩
        rcases Nat.lt_or_ge j i with h1 | h1
        · exact hno j c h1 hjc
        · have : j = i := by omega
          subst this
          rw [hli] at hjc
          cases hjc
          exact hq
    · have hc := of_decide_eq_false hc
      simp only [go_sem, Nat.reduceLT, Nat.reduceBEq, Nat.reduceAdd, Int.reduceBEq, Nat.reduceLeDiff, reduceIte, Nat.reduceEqDiff, Int.reduceEq, Int.reduceLE, Int.reduceLT, Int.reduceNe, Nat.reduceMul, Nat.reduceSub, Int.reduceToNat, he, g0, g3, g7, g8]
      unfold ixD
      rw [findIdx_miss fun j b hj => hno j b (by have := (List.getElem?_eq_some_iff.1 hj).1; omega) hj]
      exact ⟨rfl, _, rfl⟩
theorem ixD_mem (l : List (Int × Int)) (a : Int × Int) : decide (0 ≤ ixD l a) = l.contains a := by
  unfold ixD
  cases h : l.findIdx? (eqD a) with
  | some i =>
    obtain ⟨hi, h1, _⟩ := List.findIdx?_eq_some_iff_getElem.1 h
    have h1 := eqD_iff.1 h1
    have : l.contains a = true := by rw [List.contains_iff_mem]; rw [h1]; exact List.getElem_mem hi
    rw [this]
    show decide (0 ≤ (i : Int)) = true
    exact decide_eq_true (by omega)
  | none =>
    have : l.contains a = false := by
      rw [Bool.eq_false_iff]
      intro hc
      have := List.findIdx?_eq_none_iff.1 h a (List.contains_iff_mem.1 hc)
      rw [eqD_iff.2 rfl] at this
      cases this
    rw [this]
    rfl
theorem containsD_A {w0 : World} (l : List (Int × Int)) (hl : l.length ≤ 1000000000) (a : Int × Int) (x : AV) (H : Heap) (hx : DaysAt H x l) : ACalls Tryz.prog (CB w0) 55 [x, vD a] H fun r H' => r = vB (l.contains a) ∧ H' = H := by
  refine ACalls.flat rfl ?_
  refine A_fun (N := 9) (rs := [.tmp 4]) Tryz.func55 rfl rfl rfl (by kernel_rfl) (by kernel_rfl) (Nat.le_of_ble_eq_true rfl) ?_
  rintro e he ⟨g0, g1, -⟩
  simp only [go_sem, Nat.reduceLT, Nat.reduceBEq, Nat.reduceAdd, Int.reduceBEq, Nat.reduceLeDiff, reduceIte, Nat.reduceEqDiff, Int.reduceEq, Int.reduceLE, Int.reduceLT, Int.reduceNe, Nat.reduceMul, Nat.reduceSub, Int.reduceToNat, he, g0, g1]
  refine callX_of (indexD_A l hl a x _ (hx.more _)) (List.prefix_refl _) ?_
  simp only [go_sem, Nat.reduceLT, Nat.reduceBEq, Nat.reduceAdd, Int.reduceBEq, Nat.reduceLeDiff, reduceIte, Nat.reduceEqDiff, Int.reduceEq, Int.reduceLE, Int.reduceLT, Int.reduceNe, Nat.reduceMul, Nat.reduceSub, Int.reduceToNat, he, g0, g1, setD_some]
  rw [ixD_mem]
  exact ⟨rfl, _, rfl⟩
theorem DaysAt.take {H : Heap} {own : Bool} {o off : Nat} {l : List (Int × Int)} (hx : DaysAt H (.sl own o off l.length 2) l) {i : Nat} (hi : i ≤ l.length) : DaysAt H (.sl own o off i 2) (l.take i) := by
  rcases hx with ⟨h, _⟩ | ⟨own', o', off', cs, h, hcs, hcell⟩
  · cases h
  · cases h
    refine .inr ⟨own, o, off, cs, by rw [List.length_take]; congr 1; omega, hcs, fun j hj => ?_⟩
    rw [List.length_take] at hj
    rw [hcell j (by omega)]
    show some (if j % 2 = 0 then vI (l.getD (j / 2) (0, 0)).1 else vI (l.getD (j / 2) (0, 0)).2) = some (if j % 2 = 0 then vI ((l.take i).getD (j / 2) (0, 0)).1 else vI ((l.take i).getD (j / 2) (0, 0)).2)
    have : (l.take i).getD (j / 2) (0, 0) = l.getD (j / 2) (0, 0) := by
      rw [List.getD_eq_getElem?_getD, List.getD_eq_getElem?_getD, List.getElem?_take_of_lt (by omega)]
    rw [this]
/-- How long a rule's lists are. -/
structure RuLen (r : Ru) : Prop where
  setPos : r.setPos.length ≤ 3000000000
  month : r.month.length ≤ 3000000000
  monthDay : r.monthDay.length ≤ 3000000000
  yearDay : r.yearDay.length ≤ 3000000000
  weekNo : r.weekNo.length ≤ 3000000000
  day : r.day.length ≤ 3000000000
  hour : r.hour.length ≤ 3000000000
  minute : r.minute.length ≤ 3000000000
  second : r.second.length ≤ 3000000000
  easter : r.easter.length ≤ 3000000000
def dayed (r : Ru) : Bool := decide (0 < r.monthDay.length + r.yearDay.length + r.weekNo.length + r.day.length + r.easter.length)
def parted (r : Ru) : Bool := dayed r || decide (0 < r.month.length + r.hour.length + r.minute.length + r.second.length)
theorem dayed_A {w0 : World} (r : Ru) (x : Rs) (hl : RuLen r) (H : Heap) (hx : RuAt H r x) : ACalls Tryz.prog (CB w0) 82 [.agg (ruCells r x)] H fun v H' => v = vB (dayed r) ∧ H' = H := by
  refine ACalls.flat rfl ?_
  refine A_fun (N := 23) (rs := [.tmp 2]) Tryz.func82 rfl rfl rfl (by kernel_rfl) (by kernel_rfl) (Nat.le_of_ble_eq_true rfl) ?_
  rintro e he ⟨g0, -⟩
  unfold ruCells at g0
  have h1 := hx.monthDay.len 3
  have h2 := hx.yearDay.len 3
  have h3 := hx.weekNo.len 3
  have h4 := hx.day.len 47
  have h5 := hx.easter.len 3
  obtain ⟨l1, l2, l3, l4, l5, l6, l7, l8, l9, l10⟩ := hl
  simp only [go_sem, Nat.reduceLT, Nat.reduceBEq, Nat.reduceAdd, Int.reduceBEq, Nat.reduceLeDiff, reduceIte, Nat.reduceEqDiff, Int.reduceEq, Int.reduceLE, Int.reduceLT, Int.reduceNe, Nat.reduceMul, Nat.reduceSub, Int.reduceToNat, he, g0, hx.setPos.one, hx.month.one, hx.monthDay.one, hx.yearDay.one, hx.weekNo.one, hx.day.one, hx.hour.one, hx.minute.one, hx.second.one, hx.easter.one, h1, h2, h3, h4, h5]
  rw [wI64 (n := (r.monthDay.length : Int) + r.yearDay.length) (by omega), wI64 (n := (r.monthDay.length : Int) + r.yearDay.length + r.weekNo.length) (by omega), wI64 (n := (r.monthDay.length : Int) + r.yearDay.length + r.weekNo.length + r.day.length) (by omega), wI64 (n := (r.monthDay.length : Int) + r.yearDay.length + r.weekNo.length + r.day.length + r.easter.length) (by omega)]
  refine ⟨?_, _, rfl⟩
  show vB _ = vB (decide _)
  exact congrArg vB (decide_eq_decide.2 (by omega))
theorem parted_A {w0 : World} (r : Ru) (x : Rs) (hl : RuLen r) (H : Heap) (hx : RuAt H r x) : ACalls Tryz.prog (CB w0) 56 [.agg (ruCells r x)] H fun v H' => v = vB (parted r) ∧ H' = H := by
  refine ACalls.flat rfl ?_
  refine A_fun (N := 23) (rs := [.tmp 2]) Tryz.func56 rfl rfl rfl (by kernel_rfl) (by kernel_rfl) (Nat.le_of_ble_eq_true rfl) ?_
  rintro e he ⟨g0, -⟩
  have h1 := hx.month.len 3
  have h2 := hx.hour.len 3
  have h3 := hx.minute.len 3
  have h4 := hx.second.len 3
  have g0' := g0
  unfold ruCells at g0
  simp only [go_sem, Nat.reduceLT, Nat.reduceBEq, Nat.reduceAdd, Int.reduceBEq, Nat.reduceLeDiff, reduceIte, Nat.reduceEqDiff, Int.reduceEq, Int.reduceLE, Int.reduceLT, Int.reduceNe, Nat.reduceMul, Nat.reduceSub, Int.reduceToNat, he, g0, hx.setPos.one, hx.month.one, hx.monthDay.one, hx.yearDay.one, hx.weekNo.one, hx.day.one, hx.hour.one, hx.minute.one, hx.second.one, hx.easter.one, h1, h2, h3, h4]
  refine callX_of (dayed_A r x hl _ (hx.more _)) (List.prefix_refl _) ?_
  obtain ⟨l1, l2, l3, l4, l5, l6, l7, l8, l9, l10⟩ := hl
  unfold parted
  cases hd : dayed r with
  | true =>
    simp only [go_sem, Nat.reduceLT, Nat.reduceBEq, Nat.reduceAdd, Int.reduceBEq, Nat.reduceLeDiff, reduceIte, Nat.reduceEqDiff, Int.reduceEq, Int.reduceLE, Int.reduceLT, Int.reduceNe, Nat.reduceMul, Nat.reduceSub, Int.reduceToNat, he, setD_some, Bool.true_or]
    exact ⟨_, rfl⟩
  | false =>
    simp only [go_sem, Nat.reduceLT, Nat.reduceBEq, Nat.reduceAdd, Int.reduceBEq, Nat.reduceLeDiff, reduceIte, Nat.reduceEqDiff, Int.reduceEq, Int.reduceLE, Int.reduceLT, Int.reduceNe, Nat.reduceMul, Nat.reduceSub, Int.reduceToNat, he, setD_some, Bool.false_or, h1, h2, h3, h4]
    rw [wI64 (n := (r.month.length : Int) + r.hour.length) (by omega), wI64 (n := (r.month.length : Int) + r.hour.length + r.minute.length) (by omega), wI64 (n := (r.month.length : Int) + r.hour.length + r.minute.length + r.second.length) (by omega)]
    refine ⟨?_, _, rfl⟩
    exact congrArg vB (decide_eq_decide.2 (by omega))

def g1 (r : Ru) : Bool := decide (6 < (r.freq : Int)) || !r.hasStart || decide (r.start < 31536000) || decide (284012524800 ≤ r.start) || decide (r.interval < 0) || decide (1000 < r.interval) || decide (r.wkst < 0) || decide (6 < r.wkst) || decide (r.count < 0) || decide (1000 < r.count)
def g2 (r : Ru) : Bool := r.hasUntil && (decide (r.til < r.start) || decide (315537897600 ≤ r.til))
def g3 (r : Ru) : Bool := !within r.setPos 12 (-366) 366 false || !within r.month 12 1 12 false || !within r.monthDay 12 (-31) 31 false || !within r.yearDay 12 (-366) 366 false || !within r.weekNo 12 (-53) 53 false
def g4 (r : Ru) : Bool := !within r.hour 12 0 23 true || !within r.minute 12 0 59 true || !within r.second 12 0 59 true || !within r.easter 12 (-80) 80 true || decide (12 < (r.day.length : Int))
def g5 (r : Ru) : Bool := decide (60 < max 1 (r.hour.length : Int) * max 1 (r.minute.length : Int) * max 1 (r.second.length : Int))
def mostOf (r : Ru) : Int := if r.freq = 1 ∨ (r.freq = 0 ∧ 0 < r.month.length) then 5 else if r.freq = 0 ∧ r.weekNo.length = 0 then 53 else 0
def dayAt (l : List (Int × Int)) (most : Int) (i : Nat) : Bool := !((l.take i).contains (l.getD i (0, 0))) && !(decide ((l.getD i (0, 0)).1 < 0) || decide (6 < (l.getD i (0, 0)).1) || decide ((l.getD i (0, 0)).2 < -most) || decide (most < (l.getD i (0, 0)).2))
def g6 (r : Ru) : Bool := !(List.range r.day.length).all (dayAt r.day (mostOf r))
def g7 (r : Ru) : Bool := (decide (0 < r.weekNo.length) && !decide (r.freq = 0)) || (decide (0 < r.easter.length) && !decide (r.freq = 0)) || (decide (0 < r.monthDay.length) && decide (r.freq = 2))
def g8 (r : Ru) : Bool := decide (0 < r.yearDay.length) && (decide (r.freq = 1) || decide (r.freq = 2) || decide (r.freq = 3))
/-- spec.Clean -/
def clean (r : Ru) : Bool := !g1 r && !g2 r && !g3 r && !g4 r && !g5 r && !g6 r && !g7 r && !g8 r && (decide (r.setPos.length = 0) || parted r)
theorem clean_g1 {r : Ru} (h : g1 r = true) : clean r = false := by simp [clean, h]
theorem clean_g2 {r : Ru} (h : g2 r = true) : clean r = false := by simp [clean, h]
theorem clean_g3 {r : Ru} (h : g3 r = true) : clean r = false := by simp [clean, h]
theorem clean_g4 {r : Ru} (h : g4 r = true) : clean r = false := by simp [clean, h]
theorem clean_g5 {r : Ru} (h : g5 r = true) : clean r = false := by simp [clean, h]
theorem clean_g6 {r : Ru} (h : g6 r = true) : clean r = false := by simp [clean, h]
theorem clean_g7 {r : Ru} (h : g7 r = true) : clean r = false := by simp [clean, h]
theorem clean_g8 {r : Ru} (h : g8 r = true) : clean r = false := by simp [clean, h]

theorem within_len {l : List Int} {most low high : Int} {zero : Bool} (h : within l most low high zero = true) : (l.length : Int) ≤ most := by
  unfold within at h
  rw [Bool.and_eq_true] at h
  exact of_decide_eq_true h.1
theorem mul3 {a b c : Int} (ha : 1 ≤ a ∧ a ≤ 12) (hb : 1 ≤ b ∧ b ≤ 12) (hc : 1 ≤ c ∧ c ≤ 12) : (0 ≤ a * b ∧ a * b ≤ 144) ∧ 0 ≤ a * b * c ∧ a * b * c ≤ 1728 := by
  have h1 : 0 ≤ a * b := Int.mul_nonneg (by omega) (by omega)
  have h2 : a * b ≤ 12 * 12 := Int.mul_le_mul ha.2 hb.2 (by omega) (by omega)
  have h3 : 0 ≤ a * b * c := Int.mul_nonneg h1 (by omega)
  have h4 : a * b * c ≤ 144 * 12 := Int.mul_le_mul (by omega) hc.2 (by omega) (by omega)
  omega
theorem g4_len {r : Ru} (h : g4 r = false) : r.hour.length ≤ 12 ∧ r.minute.length ≤ 12 ∧ r.second.length ≤ 12 ∧ r.easter.length ≤ 12 ∧ r.day.length ≤ 12 := by
  unfold g4 at h
  simp only [Bool.or_eq_false_iff, Bool.not_eq_false', decide_eq_false_iff_not] at h
  obtain ⟨⟨⟨⟨h1, h2⟩, h3⟩, h4⟩, h5⟩ := h
  have := within_len h1
  have := within_len h2
  have := within_len h3
  have := within_len h4
  omega
theorem mostOf_bound (r : Ru) : 0 ≤ mostOf r ∧ mostOf r ≤ 53 := by unfold mostOf; split <;> (try split) <;> omega
theorem g6_fail {r : Ru} {i : Nat} (hi : i < r.day.length) (h : dayAt r.day (mostOf r) i = false) : g6 r = true := by
  unfold g6
  rw [Bool.not_eq_true', Bool.eq_false_iff]
  intro ha
  have := List.all_eq_true.1 ha i (List.mem_range.2 hi)
  rw [h] at this; cases this
structure RuNum (r : Ru) : Prop where
  freq : r.freq ≤ 255
  start : -9223372036854775808 ≤ r.start ∧ r.start ≤ 9223372036854775807
  til : -9223372036854775808 ≤ r.til ∧ r.til ≤ 9223372036854775807
  interval : -9223372036854775808 ≤ r.interval ∧ r.interval ≤ 9223372036854775807
  wkst : -9223372036854775808 ≤ r.wkst ∧ r.wkst ≤ 9223372036854775807
  count : -9223372036854775808 ≤ r.count ∧ r.count ≤ 9223372036854775807
  setPos : ∀ n ∈ r.setPos, -9223372036854775808 ≤ n ∧ n ≤ 9223372036854775807
  month : ∀ n ∈ r.month, -9223372036854775808 ≤ n ∧ n ≤ 9223372036854775807
  monthDay : ∀ n ∈ r.monthDay, -9223372036854775808 ≤ n ∧ n ≤ 9223372036854775807
  yearDay : ∀ n ∈ r.yearDay, -9223372036854775808 ≤ n ∧ n ≤ 9223372036854775807
  weekNo : ∀ n ∈ r.weekNo, -9223372036854775808 ≤ n ∧ n ≤ 9223372036854775807
  hour : ∀ n ∈ r.hour, -9223372036854775808 ≤ n ∧ n ≤ 9223372036854775807
  minute : ∀ n ∈ r.minute, -9223372036854775808 ≤ n ∧ n ≤ 9223372036854775807
  second : ∀ n ∈ r.second, -9223372036854775808 ≤ n ∧ n ≤ 9223372036854775807
  easter : ∀ n ∈ r.easter, -9223372036854775808 ≤ n ∧ n ≤ 9223372036854775807
  day : ∀ d ∈ r.day, (-9223372036854775808 ≤ d.1 ∧ d.1 ≤ 9223372036854775807) ∧ (-9223372036854775808 ≤ d.2 ∧ d.2 ≤ 9223372036854775807)
theorem b2 : IntKind.i64.wrap (before 2 * 86400) = 31536000 := by kernel_rfl
theorem b9001 : IntKind.i64.wrap (before 9001 * 86400) = 284012524800 := by kernel_rfl
theorem b10000 : IntKind.i64.wrap (before 10000 * 86400) = 315537897600 := by kernel_rfl
set_option maxHeartbeats 8000000 in
theorem clean_A {w0 : World} (r : Ru) (x : Rs) (hl : RuLen r) (hn : RuNum r) (H : Heap) (hx : RuAt H r x) : ACalls Tryz.prog (CB w0) 31 [.agg (ruCells r x)] H fun v H' => v = vB (clean r) ∧ H' = H := by
  refine ACalls.flat rfl ?_
  refine A_fun (N := 264) (rs := [.tmp 2]) Tryz.func31 rfl rfl rfl (by kernel_rfl) (by kernel_rfl) (Nat.le_of_ble_eq_true rfl) ?_
  rintro e he ⟨g0, -⟩
  have hBo : ∀ G, (H ++ AObj.own 25 (ruCells r x) :: G)[H.length]? = some (AObj.own 25 (ruCells r x)) := fun G => heap_get0
  have k1 := hx.setPos.len 3
  have k2 := hx.month.len 3
  have k3 := hx.monthDay.len 3
  have k4 := hx.yearDay.len 3
  have k5 := hx.weekNo.len 3
  have k6 := hx.day.len 47
  have k7 := hx.hour.len 3
  have k8 := hx.minute.len 3
  have k9 := hx.second.len 3
  have k10 := hx.easter.len 3
  unfold ruCells at g0 hBo
  simp only [go_sem, Nat.reduceLT, Nat.reduceBEq, Nat.reduceAdd, Int.reduceBEq, Nat.reduceLeDiff, reduceIte, Nat.reduceEqDiff, Int.reduceEq, Int.reduceLE, Int.reduceLT, Int.reduceNe, Nat.reduceMul, Nat.reduceSub, Int.reduceToNat, he, g0, hx.setPos.one, hx.month.one, hx.monthDay.one, hx.yearDay.one, hx.weekNo.one, hx.day.one, hx.hour.one, hx.minute.one, hx.second.one, hx.easter.one]
  have gp : True := trivial
  refine acode_join (fun e h => h = H ++ [AObj.own 25 [vU r.freq, vB r.hasStart, vI r.start, vI r.interval, vI r.wkst, vI r.count, vB r.hasUntil, vI r.til, x.setPos, x.month, x.monthDay, x.yearDay, x.weekNo, x.day, x.hour, x.minute, x.second, x.easter]] ∧ len e = 264 ∧ AL.get e 1 = .ptr H.length 0 ∧ AL.get e 57 = vB (g1 r)) ?_ ?_
  · refine acode_draw mixed (by kernel_rfl) ?_
    cases e1_0 : decide (6 < (r.freq : Int)) with
    | true =>
      simp only [go_sem, Nat.reduceLT, Nat.reduceBEq, Nat.reduceAdd, Int.reduceBEq, Nat.reduceLeDiff, reduceIte, Nat.reduceEqDiff, Int.reduceEq, Int.reduceLE, Int.reduceLT, Int.reduceNe, Nat.reduceMul, Nat.reduceSub, Int.reduceToNat, he, gp, b2, b9001, b10000, k1, k2, k3, k4, k5, k6, k7, k8, k9, k10, e1_0]
      rw [show g1 r = true by unfold g1; simp only [e1_0, Bool.true_or, Bool.or_true, Bool.false_or, Bool.true_and, Bool.false_and, Bool.not_false, Bool.not_true, Bool.or_false]]
    | false =>
    cases e1_1 : r.hasStart with
    | false =>
      simp only [go_sem, Nat.reduceLT, Nat.reduceBEq, Nat.reduceAdd, Int.reduceBEq, Nat.reduceLeDiff, reduceIte, Nat.reduceEqDiff, Int.reduceEq, Int.reduceLE, Int.reduceLT, Int.reduceNe, Nat.reduceMul, Nat.reduceSub, Int.reduceToNat, he, gp, b2, b9001, b10000, k1, k2, k3, k4, k5, k6, k7, k8, k9, k10, e1_0, e1_1]
      rw [show g1 r = true by unfold g1; simp only [e1_0, e1_1, Bool.true_or, Bool.or_true, Bool.false_or, Bool.true_and, Bool.false_and, Bool.not_false, Bool.not_true, Bool.or_false]]
    | true =>
    cases e1_2 : decide (r.start < 31536000) with
    | true =>
      simp only [go_sem, Nat.reduceLT, Nat.reduceBEq, Nat.reduceAdd, Int.reduceBEq, Nat.reduceLeDiff, reduceIte, Nat.reduceEqDiff, Int.reduceEq, Int.reduceLE, Int.reduceLT, Int.reduceNe, Nat.reduceMul, Nat.reduceSub, Int.reduceToNat, he, gp, b2, b9001, b10000, k1, k2, k3, k4, k5, k6, k7, k8, k9, k10, e1_0, e1_1, e1_2]
      refine callX_of (before_A 2 (by omega) (by omega) _) (List.prefix_refl _) ?_
      simp only [go_sem, Nat.reduceLT, Nat.reduceBEq, Nat.reduceAdd, Int.reduceBEq, Nat.reduceLeDiff, reduceIte, Nat.reduceEqDiff, Int.reduceEq, Int.reduceLE, Int.reduceLT, Int.reduceNe, Nat.reduceMul, Nat.reduceSub, Int.reduceToNat, he, gp, b2, b9001, b10000, k1, k2, k3, k4, k5, k6, k7, k8, k9, k10, e1_0, e1_1, e1_2, setD_some]
      rw [show g1 r = true by unfold g1; simp only [e1_0, e1_1, e1_2, Bool.true_or, Bool.or_true, Bool.false_or, Bool.true_and, Bool.false_and, Bool.not_false, Bool.not_true, Bool.or_false]]
    | false =>
    cases e1_3 : decide (284012524800 ≤ r.start) with
    | true =>
      simp only [go_sem, Nat.reduceLT, Nat.reduceBEq, Nat.reduceAdd, Int.reduceBEq, Nat.reduceLeDiff, reduceIte, Nat.reduceEqDiff, Int.reduceEq, Int.reduceLE, Int.reduceLT, Int.reduceNe, Nat.reduceMul, Nat.reduceSub, Int.reduceToNat, he, gp, b2, b9001, b10000, k1, k2, k3, k4, k5, k6, k7, k8, k9, k10, e1_0, e1_1, e1_2, e1_3]
      refine callX_of (before_A 2 (by omega) (by omega) _) (List.prefix_refl _) ?_
      simp only [go_sem, Nat.reduceLT, Nat.reduceBEq, Nat.reduceAdd, Int.reduceBEq, Nat.reduceLeDiff, reduceIte, Nat.reduceEqDiff, Int.reduceEq, Int.reduceLE, Int.reduceLT, Int.reduceNe, Nat.reduceMul, Nat.reduceSub, Int.reduceToNat, he, gp, b2, b9001, b10000, k1, k2, k3, k4, k5, k6, k7, k8, k9, k10, e1_0, e1_1, e1_2, e1_3, setD_some]
      refine callX_of (before_A 9001 (by omega) (by omega) _) (List.prefix_refl _) ?_
      simp only [go_sem, Nat.reduceLT, Nat.reduceBEq, Nat.reduceAdd, Int.reduceBEq, Nat.reduceLeDiff, reduceIte, Nat.reduceEqDiff, Int.reduceEq, Int.reduceLE, Int.reduceLT, Int.reduceNe, Nat.reduceMul, Nat.reduceSub, Int.reduceToNat, he, gp, b2, b9001, b10000, k1, k2, k3, k4, k5, k6, k7, k8, k9, k10, e1_0, e1_1, e1_2, e1_3, setD_some]
      rw [show g1 r = true by unfold g1; simp only [e1_0, e1_1, e1_2, e1_3, Bool.true_or, Bool.or_true, Bool.false_or, Bool.true_and, Bool.false_and, Bool.not_false, Bool.not_true, Bool.or_false]]
    | false =>
    cases e1_4 : decide (r.interval < 0) with
    | true =>
      simp only [go_sem, Nat.reduceLT, Nat.reduceBEq, Nat.reduceAdd, Int.reduceBEq, Nat.reduceLeDiff, reduceIte, Nat.reduceEqDiff, Int.reduceEq, Int.reduceLE, Int.reduceLT, Int.reduceNe, Nat.reduceMul, Nat.reduceSub, Int.reduceToNat, he, gp, b2, b9001, b10000, k1, k2, k3, k4, k5, k6, k7, k8, k9, k10, e1_0, e1_1, e1_2, e1_3, e1_4]
      refine callX_of (before_A 2 (by omega) (by omega) _) (List.prefix_refl _) ?_
      simp only [go_sem, Nat.reduceLT, Nat.reduceBEq, Nat.reduceAdd, Int.reduceBEq, Nat.reduceLeDiff, reduceIte, Nat.reduceEqDiff, Int.reduceEq, Int.reduceLE, Int.reduceLT, Int.reduceNe, Nat.reduceMul, Nat.reduceSub, Int.reduceToNat, he, gp, b2, b9001, b10000, k1, k2, k3, k4, k5, k6, k7, k8, k9, k10, e1_0, e1_1, e1_2, e1_3, e1_4, setD_some]
      refine callX_of (before_A 9001 (by omega) (by omega) _) (List.prefix_refl _) ?_
      simp only [go_sem, Nat.reduceLT, Nat.reduceBEq, Nat.reduceAdd, Int.reduceBEq, Nat.reduceLeDiff, reduceIte, Nat.reduceEqDiff, Int.reduceEq, Int.reduceLE, Int.reduceLT, Int.reduceNe, Nat.reduceMul, Nat.reduceSub, Int.reduceToNat, he, gp, b2, b9001, b10000, k1, k2, k3, k4, k5, k6, k7, k8, k9, k10, e1_0, e1_1, e1_2, e1_3, e1_4, setD_some]
      rw [show g1 r = true by unfold g1; simp only [e1_0, e1_1, e1_2, e1_3, e1_4, Bool.true_or, Bool.or_true, Bool.false_or, Bool.true_and, Bool.false_and, Bool.not_false, Bool.not_true, Bool.or_false]]
    | false =>
    cases e1_5 : decide (1000 < r.interval) with
    | true =>
      simp only [go_sem, Nat.reduceLT, Nat.reduceBEq, Nat.reduceAdd, Int.reduceBEq, Nat.reduceLeDiff, reduceIte, Nat.reduceEqDiff, Int.reduceEq, Int.reduceLE, Int.reduceLT, Int.reduceNe, Nat.reduceMul, Nat.reduceSub, Int.reduceToNat, he, gp, b2, b9001, b10000, k1, k2, k3, k4, k5, k6, k7, k8, k9, k10, e1_0, e1_1, e1_2, e1_3, e1_4, e1_5]
      refine callX_of (before_A 2 (by omega) (by omega) _) (List.prefix_refl _) ?_
      simp only [go_sem, Nat.reduceLT, Nat.reduceBEq, Nat.reduceAdd, Int.reduceBEq, Nat.reduceLeDiff, reduceIte, Nat.reduceEqDiff, Int.reduceEq, Int.reduceLE, Int.reduceLT, Int.reduceNe, Nat.reduceMul, Nat.reduceSub, Int.reduceToNat, he, gp, b2, b9001, b10000, k1, k2, k3, k4, k5, k6, k7, k8, k9, k10, e1_0, e1_1, e1_2, e1_3, e1_4, e1_5, setD_some]
      refine callX_of (before_A 9001 (by omega) (by omega) _) (List.prefix_refl _) ?_
      simp only [go_sem, Nat.reduceLT, Nat.reduceBEq, Nat.reduceAdd, Int.reduceBEq, Nat.reduceLeDiff, reduceIte, Nat.reduceEqDiff, Int.reduceEq, Int.reduceLE, Int.reduceLT, Int.reduceNe, Nat.reduceMul, Nat.reduceSub, Int.reduceToNat, he, gp, b2, b9001, b10000, k1, k2, k3, k4, k5, k6, k7, k8, k9, k10, e1_0, e1_1, e1_2, e1_3, e1_4, e1_5, setD_some]
      rw [show g1 r = true by unfold g1; simp only [e1_0, e1_1, e1_2, e1_3, e1_4, e1_5, Bool.true_or, Bool.or_true, Bool.false_or, Bool.true_and, Bool.false_and, Bool.not_false, Bool.not_true, Bool.or_false]]
    | false =>
    cases e1_6 : decide (r.wkst < 0) with
    | true =>
      simp only [go_sem, Nat.reduceLT, Nat.reduceBEq, Nat.reduceAdd, Int.reduceBEq, Nat.reduceLeDiff, reduceIte, Nat.reduceEqDiff, Int.reduceEq, Int.reduceLE, Int.reduceLT, Int.reduceNe, Nat.reduceMul, Nat.reduceSub, Int.reduceToNat, he, gp, b2, b9001, b10000, k1, k2, k3, k4, k5, k6, k7, k8, k9, k10, e1_0, e1_1, e1_2, e1_3, e1_4, e1_5, e1_6]
      refine callX_of (before_A 2 (by omega) (by omega) _) (List.prefix_refl _) ?_
      simp only [go_sem, Nat.reduceLT, Nat.reduceBEq, Nat.reduceAdd, Int.reduceBEq, Nat.reduceLeDiff, reduceIte, Nat.reduceEqDiff, Int.reduceEq, Int.reduceLE, Int.reduceLT, Int.reduceNe, Nat.reduceMul, Nat.reduceSub, Int.reduceToNat, he, gp, b2, b9001, b10000, k1, k2, k3, k4, k5, k6, k7, k8, k9, k10, e1_0, e1_1, e1_2, e1_3, e1_4, e1_5, e1_6, setD_some]
      refine callX_of (before_A 9001 (by omega) (by omega) _) (List.prefix_refl _) ?_
      simp only [go_sem, Nat.reduceLT, Nat.reduceBEq, Nat.reduceAdd, Int.reduceBEq, Nat.reduceLeDiff, reduceIte, Nat.reduceEqDiff, Int.reduceEq, Int.reduceLE, Int.reduceLT, Int.reduceNe, Nat.reduceMul, Nat.reduceSub, Int.reduceToNat, he, gp, b2, b9001, b10000, k1, k2, k3, k4, k5, k6, k7, k8, k9, k10, e1_0, e1_1, e1_2, e1_3, e1_4, e1_5, e1_6, setD_some]
      rw [show g1 r = true by unfold g1; simp only [e1_0, e1_1, e1_2, e1_3, e1_4, e1_5, e1_6, Bool.true_or, Bool.or_true, Bool.false_or, Bool.true_and, Bool.false_and, Bool.not_false, Bool.not_true, Bool.or_false]]
    | false =>
    cases e1_7 : decide (6 < r.wkst) with
    | true =>
      simp only [go_sem, Nat.reduceLT, Nat.reduceBEq, Nat.reduceAdd, Int.reduceBEq, Nat.reduceLeDiff, reduceIte, Nat.reduceEqDiff, Int.reduceEq, Int.reduceLE, Int.reduceLT, Int.reduceNe, Nat.reduceMul, Nat.reduceSub, Int.reduceToNat, he, gp, b2, b9001, b10000, k1, k2, k3, k4, k5, k6, k7, k8, k9, k10, e1_0, e1_1, e1_2, e1_3, e1_4, e1_5, e1_6, e1_7]
      refine callX_of (before_A 2 (by omega) (by omega) _) (List.prefix_refl _) ?_
      simp only [go_sem, Nat.reduceLT, Nat.reduceBEq, Nat.reduceAdd, Int.reduceBEq, Nat.reduceLeDiff, reduceIte, Nat.reduceEqDiff, Int.reduceEq, Int.reduceLE, Int.reduceLT, Int.reduceNe, Nat.reduceMul, Nat.reduceSub, Int.reduceToNat, he, gp, b2, b9001, b10000, k1, k2, k3, k4, k5, k6, k7, k8, k9, k10, e1_0, e1_1, e1_2, e1_3, e1_4, e1_5, e1_6, e1_7, setD_some]
      refine callX_of (before_A 9001 (by omega) (by omega) _) (List.prefix_refl _) ?_
      simp only [go_sem, Nat.reduceLT, Nat.reduceBEq, Nat.reduceAdd, Int.reduceBEq, Nat.reduceLeDiff, reduceIte, Nat.reduceEqDiff, Int.reduceEq, Int.reduceLE, Int.reduceLT, Int.reduceNe, Nat.reduceMul, Nat.reduceSub, Int.reduceToNat, he, gp, b2, b9001, b10000, k1, k2, k3, k4, k5, k6, k7, k8, k9, k10, e1_0, e1_1, e1_2, e1_3, e1_4, e1_5, e1_6, e1_7, setD_some]
      rw [show g1 r = true by unfold g1; simp only [e1_0, e1_1, e1_2, e1_3, e1_4, e1_5, e1_6, e1_7, Bool.true_or, Bool.or_true, Bool.false_or, Bool.true_and, Bool.false_and, Bool.not_false, Bool.not_true, Bool.or_false]]
    | false =>
    cases e1_8 : decide (r.count < 0) with
    | true =>
      simp only [go_sem, Nat.reduceLT, Nat.reduceBEq, Nat.reduceAdd, Int.reduceBEq, Nat.reduceLeDiff, reduceIte, Nat.reduceEqDiff, Int.reduceEq, Int.reduceLE, Int.reduceLT, Int.reduceNe, Nat.reduceMul, Nat.reduceSub, Int.reduceToNat, he, gp, b2, b9001, b10000, k1, k2, k3, k4, k5, k6, k7, k8, k9, k10, e1_0, e1_1, e1_2, e1_3, e1_4, e1_5, e1_6, e1_7, e1_8]
      refine callX_of (before_A 2 (by omega) (by omega) _) (List.prefix_refl _) ?_
      simp only [go_sem, Nat.reduceLT, Nat.reduceBEq, Nat.reduceAdd, Int.reduceBEq, Nat.reduceLeDiff, reduceIte, Nat.reduceEqDiff, Int.reduceEq, Int.reduceLE, Int.reduceLT, Int.reduceNe, Nat.reduceMul, Nat.reduceSub, Int.reduceToNat, he, gp, b2, b9001, b10000, k1, k2, k3, k4, k5, k6, k7, k8, k9, k10, e1_0, e1_1, e1_2, e1_3, e1_4, e1_5, e1_6, e1_7, e1_8, setD_some]
      refine callX_of (before_A 9001 (by omega) (by omega) _) (List.prefix_refl _) ?_
      simp only [go_sem, Nat.reduceLT, Nat.reduceBEq, Nat.reduceAdd, Int.reduceBEq, Nat.reduceLeDiff, reduceIte, Nat.reduceEqDiff, Int.reduceEq, Int.reduceLE, Int.reduceLT, Int.reduceNe, Nat.reduceMul, Nat.reduceSub, Int.reduceToNat, he, gp, b2, b9001, b10000, k1, k2, k3, k4, k5, k6, k7, k8, k9, k10, e1_0, e1_1, e1_2, e1_3, e1_4, e1_5, e1_6, e1_7, e1_8, setD_some]
      rw [show g1 r = true by unfold g1; simp only [e1_0, e1_1, e1_2, e1_3, e1_4, e1_5, e1_6, e1_7, e1_8, Bool.true_or, Bool.or_true, Bool.false_or, Bool.true_and, Bool.false_and, Bool.not_false, Bool.not_true, Bool.or_false]]
    | false =>
    cases e1_9 : decide (1000 < r.count) with
    | true =>
      simp only [go_sem, Nat.reduceLT, Nat.reduceBEq, Nat.reduceAdd, Int.reduceBEq, Nat.reduceLeDiff, reduceIte, Nat.reduceEqDiff, Int.reduceEq, Int.reduceLE, Int.reduceLT, Int.reduceNe, Nat.reduceMul, Nat.reduceSub, Int.reduceToNat, he, gp, b2, b9001, b10000, k1, k2, k3, k4, k5, k6, k7, k8, k9, k10, e1_0, e1_1, e1_2, e1_3, e1_4, e1_5, e1_6, e1_7, e1_8, e1_9]
      refine callX_of (before_A 2 (by omega) (by omega) _) (List.prefix_refl _) ?_
      simp only [go_sem, Nat.reduceLT, Nat.reduceBEq, Nat.reduceAdd, Int.reduceBEq, Nat.reduceLeDiff, reduceIte, Nat.reduceEqDiff, Int.reduceEq, Int.reduceLE, Int.reduceLT, Int.reduceNe, Nat.reduceMul, Nat.reduceSub, Int.reduceToNat, he, gp, b2, b9001, b10000, k1, k2, k3, k4, k5, k6, k7, k8, k9, k10, e1_0, e1_1, e1_2, e1_3, e1_4, e1_5, e1_6, e1_7, e1_8, e1_9, setD_some]
      refine callX_of (before_A 9001 (by omega) (by omega) _) (List.prefix_refl _) ?_
      simp only [go_sem, Nat.reduceLT, Nat.reduceBEq, Nat.reduceAdd, Int.reduceBEq, Nat.reduceLeDiff, reduceIte, Nat.reduceEqDiff, Int.reduceEq, Int.reduceLE, Int.reduceLT, Int.reduceNe, Nat.reduceMul, Nat.reduceSub, Int.reduceToNat, he, gp, b2, b9001, b10000, k1, k2, k3, k4, k5, k6, k7, k8, k9, k10, e1_0, e1_1, e1_2, e1_3, e1_4, e1_5, e1_6, e1_7, e1_8, e1_9, setD_some]
      rw [show g1 r = true by unfold g1; simp only [e1_0, e1_1, e1_2, e1_3, e1_4, e1_5, e1_6, e1_7, e1_8, e1_9, Bool.true_or, Bool.or_true, Bool.false_or, Bool.true_and, Bool.false_and, Bool.not_false, Bool.not_true, Bool.or_false]]
    | false =>
    simp only [go_sem, Nat.reduceLT, Nat.reduceBEq, Nat.reduceAdd, Int.reduceBEq, Nat.reduceLeDiff, reduceIte, Nat.reduceEqDiff, Int.reduceEq, Int.reduceLE, Int.reduceLT, Int.reduceNe, Nat.reduceMul, Nat.reduceSub, Int.reduceToNat, he, gp, b2, b9001, b10000, k1, k2, k3, k4, k5, k6, k7, k8, k9, k10, e1_0, e1_1, e1_2, e1_3, e1_4, e1_5, e1_6, e1_7, e1_8, e1_9]
    refine callX_of (before_A 2 (by omega) (by omega) _) (List.prefix_refl _) ?_
    simp only [go_sem, Nat.reduceLT, Nat.reduceBEq, Nat.reduceAdd, Int.reduceBEq, Nat.reduceLeDiff, reduceIte, Nat.reduceEqDiff, Int.reduceEq, Int.reduceLE, Int.reduceLT, Int.reduceNe, Nat.reduceMul, Nat.reduceSub, Int.reduceToNat, he, gp, b2, b9001, b10000, k1, k2, k3, k4, k5, k6, k7, k8, k9, k10, e1_0, e1_1, e1_2, e1_3, e1_4, e1_5, e1_6, e1_7, e1_8, e1_9, setD_some]
    refine callX_of (before_A 9001 (by omega) (by omega) _) (List.prefix_refl _) ?_
    simp only [go_sem, Nat.reduceLT, Nat.reduceBEq, Nat.reduceAdd, Int.reduceBEq, Nat.reduceLeDiff, reduceIte, Nat.reduceEqDiff, Int.reduceEq, Int.reduceLE, Int.reduceLT, Int.reduceNe, Nat.reduceMul, Nat.reduceSub, Int.reduceToNat, he, gp, b2, b9001, b10000, k1, k2, k3, k4, k5, k6, k7, k8, k9, k10, e1_0, e1_1, e1_2, e1_3, e1_4, e1_5, e1_6, e1_7, e1_8, e1_9, setD_some]
    rw [show g1 r = false by unfold g1; simp only [e1_0, e1_1, e1_2, e1_3, e1_4, e1_5, e1_6, e1_7, e1_8, e1_9, Bool.true_or, Bool.or_true, Bool.false_or, Bool.true_and, Bool.false_and, Bool.not_false, Bool.not_true, Bool.or_false]]
  rintro e h ⟨rfl, he, gp, gt⟩
  simp only [go_sem, Nat.reduceLT, Nat.reduceBEq, Nat.reduceAdd, Int.reduceBEq, Nat.reduceLeDiff, reduceIte, Nat.reduceEqDiff, Int.reduceEq, Int.reduceLE, Int.reduceLT, Int.reduceNe, Nat.reduceMul, Nat.reduceSub, Int.reduceToNat, he, gp, gt]
  refine condK_of (fun hq => ?_) fun hq => ?_
  · simp only [go_sem, Nat.reduceLT, Nat.reduceBEq, Nat.reduceAdd, Int.reduceBEq, Nat.reduceLeDiff, reduceIte, Nat.reduceEqDiff, Int.reduceEq, Int.reduceLE, Int.reduceLT, Int.reduceNe, Nat.reduceMul, Nat.reduceSub, Int.reduceToNat, he, gp, gt]
    rw [clean_g1 hq]
    exact ⟨rfl, _, rfl⟩
  rename g1 r = false => q1
  simp only [go_sem, Nat.reduceLT, Nat.reduceBEq, Nat.reduceAdd, Int.reduceBEq, Nat.reduceLeDiff, reduceIte, Nat.reduceEqDiff, Int.reduceEq, Int.reduceLE, Int.reduceLT, Int.reduceNe, Nat.reduceMul, Nat.reduceSub, Int.reduceToNat, he, gp, gt, k1, k2, k3, k4, k5, k6, k7, k8, k9, k10]
  refine acode_join (fun e h => h = H ++ [AObj.own 25 [vU r.freq, vB r.hasStart, vI r.start, vI r.interval, vI r.wkst, vI r.count, vB r.hasUntil, vI r.til, x.setPos, x.month, x.monthDay, x.yearDay, x.weekNo, x.day, x.hour, x.minute, x.second, x.easter]] ∧ len e = 264 ∧ AL.get e 1 = .ptr H.length 0 ∧ AL.get e 73 = vB (g2 r)) ?_ ?_
  · refine acode_draw mixed (by kernel_rfl) ?_
    cases e0 : r.hasUntil with
    | false =>
      simp only [go_sem, Nat.reduceLT, Nat.reduceBEq, Nat.reduceAdd, Int.reduceBEq, Nat.reduceLeDiff, reduceIte, Nat.reduceEqDiff, Int.reduceEq, Int.reduceLE, Int.reduceLT, Int.reduceNe, Nat.reduceMul, Nat.reduceSub, Int.reduceToNat, he, gp, b2, b9001, b10000, k1, k2, k3, k4, k5, k6, k7, k8, k9, k10, e0]
      rw [show g2 r = false by unfold g2; simp only [e0, Bool.true_or, Bool.or_true, Bool.false_or, Bool.true_and, Bool.false_and, Bool.not_false, Bool.not_true, Bool.or_false]]
    | true =>
    cases e1 : decide (r.til < r.start) with
    | true =>
      simp only [go_sem, Nat.reduceLT, Nat.reduceBEq, Nat.reduceAdd, Int.reduceBEq, Nat.reduceLeDiff, reduceIte, Nat.reduceEqDiff, Int.reduceEq, Int.reduceLE, Int.reduceLT, Int.reduceNe, Nat.reduceMul, Nat.reduceSub, Int.reduceToNat, he, gp, b2, b9001, b10000, k1, k2, k3, k4, k5, k6, k7, k8, k9, k10, e0, e1]
      rw [show g2 r = true by unfold g2; simp only [e0, e1, Bool.true_or, Bool.or_true, Bool.false_or, Bool.true_and, Bool.false_and, Bool.not_false, Bool.not_true, Bool.or_false]]
    | false =>
    cases e2 : decide (315537897600 ≤ r.til) with
    | true =>
      simp only [go_sem, Nat.reduceLT, Nat.reduceBEq, Nat.reduceAdd, Int.reduceBEq, Nat.reduceLeDiff, reduceIte, Nat.reduceEqDiff, Int.reduceEq, Int.reduceLE, Int.reduceLT, Int.reduceNe, Nat.reduceMul, Nat.reduceSub, Int.reduceToNat, he, gp, b2, b9001, b10000, k1, k2, k3, k4, k5, k6, k7, k8, k9, k10, e0, e1, e2]
      refine callX_of (before_A 10000 (by omega) (by omega) _) (List.prefix_refl _) ?_
      simp only [go_sem, Nat.reduceLT, Nat.reduceBEq, Nat.reduceAdd, Int.reduceBEq, Nat.reduceLeDiff, reduceIte, Nat.reduceEqDiff, Int.reduceEq, Int.reduceLE, Int.reduceLT, Int.reduceNe, Nat.reduceMul, Nat.reduceSub, Int.reduceToNat, he, gp, b2, b9001, b10000, k1, k2, k3, k4, k5, k6, k7, k8, k9, k10, e0, e1, e2, setD_some]
      rw [show g2 r = true by unfold g2; simp only [e0, e1, e2, Bool.true_or, Bool.or_true, Bool.false_or, Bool.true_and, Bool.false_and, Bool.not_false, Bool.not_true, Bool.or_false]]
    | false =>
    simp only [go_sem, Nat.reduceLT, Nat.reduceBEq, Nat.reduceAdd, Int.reduceBEq, Nat.reduceLeDiff, reduceIte, Nat.reduceEqDiff, Int.reduceEq, Int.reduceLE, Int.reduceLT, Int.reduceNe, Nat.reduceMul, Nat.reduceSub, Int.reduceToNat, he, gp, b2, b9001, b10000, k1, k2, k3, k4, k5, k6, k7, k8, k9, k10, e0, e1, e2]
    refine callX_of (before_A 10000 (by omega) (by omega) _) (List.prefix_refl _) ?_
    simp only [go_sem, Nat.reduceLT, Nat.reduceBEq, Nat.reduceAdd, Int.reduceBEq, Nat.reduceLeDiff, reduceIte, Nat.reduceEqDiff, Int.reduceEq, Int.reduceLE, Int.reduceLT, Int.reduceNe, Nat.reduceMul, Nat.reduceSub, Int.reduceToNat, he, gp, b2, b9001, b10000, k1, k2, k3, k4, k5, k6, k7, k8, k9, k10, e0, e1, e2, setD_some]
    rw [show g2 r = false by unfold g2; simp only [e0, e1, e2, Bool.true_or, Bool.or_true, Bool.false_or, Bool.true_and, Bool.false_and, Bool.not_false, Bool.not_true, Bool.or_false]]
  rintro e h ⟨rfl, he, gp, gt⟩
  simp only [go_sem, Nat.reduceLT, Nat.reduceBEq, Nat.reduceAdd, Int.reduceBEq, Nat.reduceLeDiff, reduceIte, Nat.reduceEqDiff, Int.reduceEq, Int.reduceLE, Int.reduceLT, Int.reduceNe, Nat.reduceMul, Nat.reduceSub, Int.reduceToNat, he, gp, gt]
  refine condK_of (fun hq => ?_) fun hq => ?_
  · simp only [go_sem, Nat.reduceLT, Nat.reduceBEq, Nat.reduceAdd, Int.reduceBEq, Nat.reduceLeDiff, reduceIte, Nat.reduceEqDiff, Int.reduceEq, Int.reduceLE, Int.reduceLT, Int.reduceNe, Nat.reduceMul, Nat.reduceSub, Int.reduceToNat, he, gp, gt]
    rw [clean_g2 hq]
    exact ⟨rfl, _, rfl⟩
  rename g2 r = false => q2
  simp only [go_sem, Nat.reduceLT, Nat.reduceBEq, Nat.reduceAdd, Int.reduceBEq, Nat.reduceLeDiff, reduceIte, Nat.reduceEqDiff, Int.reduceEq, Int.reduceLE, Int.reduceLT, Int.reduceNe, Nat.reduceMul, Nat.reduceSub, Int.reduceToNat, he, gp, gt, k1, k2, k3, k4, k5, k6, k7, k8, k9, k10]
  refine callX_join (fun e h => h = H ++ [AObj.own 25 [vU r.freq, vB r.hasStart, vI r.start, vI r.interval, vI r.wkst, vI r.count, vB r.hasUntil, vI r.til, x.setPos, x.month, x.monthDay, x.yearDay, x.weekNo, x.day, x.hour, x.minute, x.second, x.easter]] ∧ len e = 264 ∧ AL.get e 1 = .ptr H.length 0 ∧ AL.get e 101 = vB (g3 r)) ?_ ?_
  · cases e3_0 : within r.setPos 12 (-366) 366 false with
    | false =>
      refine callX_of (within_A r.setPos (by have := hl.setPos; omega) hn.setPos 12 (-366) 366 (by omega) false _ _ (hx.setPos.more _)) (List.prefix_refl _) ?_
      simp only [go_sem, Nat.reduceLT, Nat.reduceBEq, Nat.reduceAdd, Int.reduceBEq, Nat.reduceLeDiff, reduceIte, Nat.reduceEqDiff, Int.reduceEq, Int.reduceLE, Int.reduceLT, Int.reduceNe, Nat.reduceMul, Nat.reduceSub, Int.reduceToNat, he, gp, b2, b9001, b10000, k1, k2, k3, k4, k5, k6, k7, k8, k9, k10, e3_0, setD_some]
      rw [show g3 r = true by unfold g3; simp only [e3_0, Bool.true_or, Bool.or_true, Bool.false_or, Bool.true_and, Bool.false_and, Bool.not_false, Bool.not_true, Bool.or_false]]
    | true =>
    cases e3_1 : within r.month 12 1 12 false with
    | false =>
      refine callX_of (within_A r.setPos (by have := hl.setPos; omega) hn.setPos 12 (-366) 366 (by omega) false _ _ (hx.setPos.more _)) (List.prefix_refl _) ?_
      simp only [go_sem, Nat.reduceLT, Nat.reduceBEq, Nat.reduceAdd, Int.reduceBEq, Nat.reduceLeDiff, reduceIte, Nat.reduceEqDiff, Int.reduceEq, Int.reduceLE, Int.reduceLT, Int.reduceNe, Nat.reduceMul, Nat.reduceSub, Int.reduceToNat, he, gp, b2, b9001, b10000, k1, k2, k3, k4, k5, k6, k7, k8, k9, k10, e3_0, e3_1, setD_some]
      refine callX_of (within_A r.month (by have := hl.month; omega) hn.month 12 1 12 (by omega) false _ _ (hx.month.more _)) (List.prefix_refl _) ?_
      simp only [go_sem, Nat.reduceLT, Nat.reduceBEq, Nat.reduceAdd, Int.reduceBEq, Nat.reduceLeDiff, reduceIte, Nat.reduceEqDiff, Int.reduceEq, Int.reduceLE, Int.reduceLT, Int.reduceNe, Nat.reduceMul, Nat.reduceSub, Int.reduceToNat, he, gp, b2, b9001, b10000, k1, k2, k3, k4, k5, k6, k7, k8, k9, k10, e3_0, e3_1, setD_some]
      rw [show g3 r = true by unfold g3; simp only [e3_0, e3_1, Bool.true_or, Bool.or_true, Bool.false_or, Bool.true_and, Bool.false_and, Bool.not_false, Bool.not_true, Bool.or_false]]
    | true =>
    cases e3_2 : within r.monthDay 12 (-31) 31 false with
    | false =>
      refine callX_of (within_A r.setPos (by have := hl.setPos; omega) hn.setPos 12 (-366) 366 (by omega) false _ _ (hx.setPos.more _)) (List.prefix_refl _) ?_
      simp only [go_sem, Nat.reduceLT, Nat.reduceBEq, Nat.reduceAdd, Int.reduceBEq, Nat.reduceLeDiff, reduceIte, Nat.reduceEqDiff, Int.reduceEq, Int.reduceLE, Int.reduceLT, Int.reduceNe, Nat.reduceMul, Nat.reduceSub, Int.reduceToNat, he, gp, b2, b9001, b10000, k1, k2, k3, k4, k5, k6, k7, k8, k9, k10, e3_0, e3_1, e3_2, setD_some]
      refine callX_of (within_A r.month (by have := hl.month; omega) hn.month 12 1 12 (by omega) false _ _ (hx.month.more _)) (List.prefix_refl _) ?_
      simp only [go_sem, Nat.reduceLT, Nat.reduceBEq, Nat.reduceAdd, Int.reduceBEq, Nat.reduceLeDiff, reduceIte, Nat.reduceEqDiff, Int.reduceEq, Int.reduceLE, Int.reduceLT, Int.reduceNe, Nat.reduceMul, Nat.reduceSub, Int.reduceToNat, he, gp, b2, b9001, b10000, k1, k2, k3, k4, k5, k6, k7, k8, k9, k10, e3_0, e3_1, e3_2, setD_some]
      refine callX_of (within_A r.monthDay (by have := hl.monthDay; omega) hn.monthDay 12 (-31) 31 (by omega) false _ _ (hx.monthDay.more _)) (List.prefix_refl _) ?_
      simp only [go_sem, Nat.reduceLT, Nat.reduceBEq, Nat.reduceAdd, Int.reduceBEq, Nat.reduceLeDiff, reduceIte, Nat.reduceEqDiff, Int.reduceEq, Int.reduceLE, Int.reduceLT, Int.reduceNe, Nat.reduceMul, Nat.reduceSub, Int.reduceToNat, he, gp, b2, b9001, b10000, k1, k2, k3, k4, k5, k6, k7, k8, k9, k10, e3_0, e3_1, e3_2, setD_some]
      rw [show g3 r = true by unfold g3; simp only [e3_0, e3_1, e3_2, Bool.true_or, Bool.or_true, Bool.false_or, Bool.true_and, Bool.false_and, Bool.not_false, Bool.not_true, Bool.or_false]]
    | true =>
    cases e3_3 : within r.yearDay 12 (-366) 366 false with
    | false =>
      refine callX_of (within_A r.setPos (by have := hl.setPos; omega) hn.setPos 12 (-366) 366 (by omega) false _ _ (hx.setPos.more _)) (List.prefix_refl _) ?_
      simp only [go_sem, Nat.reduceLT, Nat.reduceBEq, Nat.reduceAdd, Int.reduceBEq, Nat.reduceLeDiff, reduceIte, Nat.reduceEqDiff, Int.reduceEq, Int.reduceLE, Int.reduceLT, Int.reduceNe, Nat.reduceMul, Nat.reduceSub, Int.reduceToNat, he, gp, b2, b9001, b10000, k1, k2, k3, k4, k5, k6, k7, k8, k9, k10, e3_0, e3_1, e3_2, e3_3, setD_some]
      refine callX_of (within_A r.month (by have := hl.month; omega) hn.month 12 1 12 (by omega) false _ _ (hx.month.more _)) (List.prefix_refl _) ?_
      simp only [go_sem, Nat.reduceLT, Nat.reduceBEq, Nat.reduceAdd, Int.reduceBEq, Nat.reduceLeDiff, reduceIte, Nat.reduceEqDiff, Int.reduceEq, Int.reduceLE, Int.reduceLT, Int.reduceNe, Nat.reduceMul, Nat.reduceSub, Int.reduceToNat, he, gp, b2, b9001, b10000, k1, k2, k3, k4, k5, k6, k7, k8, k9, k10, e3_0, e3_1, e3_2, e3_3, setD_some]
      refine callX_of (within_A r.monthDay (by have := hl.monthDay; omega) hn.monthDay 12 (-31) 31 (by omega) false _ _ (hx.monthDay.more _)) (List.prefix_refl _) ?_
      simp only [go_sem, Nat.reduceLT, Nat.reduceBEq, Nat.reduceAdd, Int.reduceBEq, Nat.reduceLeDiff, reduceIte, Nat.reduceEqDiff, Int.reduceEq, Int.reduceLE, Int.reduceLT, Int.reduceNe, Nat.reduceMul, Nat.reduceSub, Int.reduceToNat, he, gp, b2, b9001, b10000, k1, k2, k3, k4, k5, k6, k7, k8, k9, k10, e3_0, e3_1, e3_2, e3_3, setD_some]
      refine callX_of (within_A r.yearDay (by have := hl.yearDay; omega) hn.yearDay 12 (-366) 366 (by omega) false _ _ (hx.yearDay.more _)) (List.prefix_refl _) ?_
      simp only [go_sem, Nat.reduceLT, Nat.reduceBEq, Nat.reduceAdd, Int.reduceBEq, Nat.reduceLeDiff, reduceIte, Nat.reduceEqDiff, Int.reduceEq, Int.reduceLE, Int.reduceLT, Int.reduceNe, Nat.reduceMul, Nat.reduceSub, Int.reduceToNat, he, gp, b2, b9001, b10000, k1, k2, k3, k4, k5, k6, k7, k8, k9, k10, e3_0, e3_1, e3_2, e3_3, setD_some]
      rw [show g3 r = true by unfold g3; simp only [e3_0, e3_1, e3_2, e3_3, Bool.true_or, Bool.or_true, Bool.false_or, Bool.true_and, Bool.false_and, Bool.not_false, Bool.not_true, Bool.or_false]]
    | true =>
    cases e3_4 : within r.weekNo 12 (-53) 53 false with
    | false =>
      refine callX_of (within_A r.setPos (by have := hl.setPos; omega) hn.setPos 12 (-366) 366 (by omega) false _ _ (hx.setPos.more _)) (List.prefix_refl _) ?_
      simp only [go_sem, Nat.reduceLT, Nat.reduceBEq, Nat.reduceAdd, Int.reduceBEq, Nat.reduceLeDiff, reduceIte, Nat.reduceEqDiff, Int.reduceEq, Int.reduceLE, Int.reduceLT, Int.reduceNe, Nat.reduceMul, Nat.reduceSub, Int.reduceToNat, he, gp, b2, b9001, b10000, k1, k2, k3, k4, k5, k6, k7, k8, k9, k10, e3_0, e3_1, e3_2, e3_3, e3_4, setD_some]
      refine callX_of (within_A r.month (by have := hl.month; omega) hn.month 12 1 12 (by omega) false _ _ (hx.month.more _)) (List.prefix_refl _) ?_
      simp only [go_sem, Nat.reduceLT, Nat.reduceBEq, Nat.reduceAdd, Int.reduceBEq, Nat.reduceLeDiff, reduceIte, Nat.reduceEqDiff, Int.reduceEq, Int.reduceLE, Int.reduceLT, Int.reduceNe, Nat.reduceMul, Nat.reduceSub, Int.reduceToNat, he, gp, b2, b9001, b10000, k1, k2, k3, k4, k5, k6, k7, k8, k9, k10, e3_0, e3_1, e3_2, e3_3, e3_4, setD_some]
      refine callX_of (within_A r.monthDay (by have := hl.monthDay; omega) hn.monthDay 12 (-31) 31 (by omega) false _ _ (hx.monthDay.more _)) (List.prefix_refl _) ?_
      simp only [go_sem, Nat.reduceLT, Nat.reduceBEq, Nat.reduceAdd, Int.reduceBEq, Nat.reduceLeDiff, reduceIte, Nat.reduceEqDiff, Int.reduceEq, Int.reduceLE, Int.reduceLT, Int.reduceNe, Nat.reduceMul, Nat.reduceSub, Int.reduceToNat, he, gp, b2, b9001, b10000, k1, k2, k3, k4, k5, k6, k7, k8, k9, k10, e3_0, e3_1, e3_2, e3_3, e3_4, setD_some]
      refine callX_of (within_A r.yearDay (by have := hl.yearDay; omega) hn.yearDay 12 (-366) 366 (by omega) false _ _ (hx.yearDay.more _)) (List.prefix_refl _) ?_
      simp only [go_sem, Nat.reduceLT, Nat.reduceBEq, Nat.reduceAdd, Int.reduceBEq, Nat.reduceLeDiff, reduceIte, Nat.reduceEqDiff, Int.reduceEq, Int.reduceLE, Int.reduceLT, Int.reduceNe, Nat.reduceMul, Nat.reduceSub, Int.reduceToNat, he, gp, b2, b9001, b10000, k1, k2, k3, k4, k5, k6, k7, k8, k9, k10, e3_0, e3_1, e3_2, e3_3, e3_4, setD_some]
      refine callX_of (within_A r.weekNo (by have := hl.weekNo; omega) hn.weekNo 12 (-53) 53 (by omega) false _ _ (hx.weekNo.more _)) (List.prefix_refl _) ?_
      simp only [go_sem, Nat.reduceLT, Nat.reduceBEq, Nat.reduceAdd, Int.reduceBEq, Nat.reduceLeDiff, reduceIte, Nat.reduceEqDiff, Int.reduceEq, Int.reduceLE, Int.reduceLT, Int.reduceNe, Nat.reduceMul, Nat.reduceSub, Int.reduceToNat, he, gp, b2, b9001, b10000, k1, k2, k3, k4, k5, k6, k7, k8, k9, k10, e3_0, e3_1, e3_2, e3_3, e3_4, setD_some]
      rw [show g3 r = true by unfold g3; simp only [e3_0, e3_1, e3_2, e3_3, e3_4, Bool.true_or, Bool.or_true, Bool.false_or, Bool.true_and, Bool.false_and, Bool.not_false, Bool.not_true, Bool.or_false]]
    | true =>
    refine callX_of (within_A r.setPos (by have := hl.setPos; omega) hn.setPos 12 (-366) 366 (by omega) false _ _ (hx.setPos.more _)) (List.prefix_refl _) ?_
    simp only [go_sem, Nat.reduceLT, Nat.reduceBEq, Nat.reduceAdd, Int.reduceBEq, Nat.reduceLeDiff, reduceIte, Nat.reduceEqDiff, Int.reduceEq, Int.reduceLE, Int.reduceLT, Int.reduceNe, Nat.reduceMul, Nat.reduceSub, Int.reduceToNat, he, gp, b2, b9001, b10000, k1, k2, k3, k4, k5, k6, k7, k8, k9, k10, e3_0, e3_1, e3_2, e3_3, e3_4, setD_some]
    refine callX_of (within_A r.month (by have := hl.month; omega) hn.month 12 1 12 (by omega) false _ _ (hx.month.more _)) (List.prefix_refl _) ?_
    simp only [go_sem, Nat.reduceLT, Nat.reduceBEq, Nat.reduceAdd, Int.reduceBEq, Nat.reduceLeDiff, reduceIte, Nat.reduceEqDiff, Int.reduceEq, Int.reduceLE, Int.reduceLT, Int.reduceNe, Nat.reduceMul, Nat.reduceSub, Int.reduceToNat, he, gp, b2, b9001, b10000, k1, k2, k3, k4, k5, k6, k7, k8, k9, k10, e3_0, e3_1, e3_2, e3_3, e3_4, setD_some]
    refine callX_of (within_A r.monthDay (by have := hl.monthDay; omega) hn.monthDay 12 (-31) 31 (by omega) false _ _ (hx.monthDay.more _)) (List.prefix_refl _) ?_
    simp only [go_sem, Nat.reduceLT, Nat.reduceBEq, Nat.reduceAdd, Int.reduceBEq, Nat.reduceLeDiff, reduceIte, Nat.reduceEqDiff, Int.reduceEq, Int.reduceLE, Int.reduceLT, Int.reduceNe, Nat.reduceMul, Nat.reduceSub, Int.reduceToNat, he, gp, b2, b9001, b10000, k1, k2, k3, k4, k5, k6, k7, k8, k9, k10, e3_0, e3_1, e3_2, e3_3, e3_4, setD_some]
    refine callX_of (within_A r.yearDay (by have := hl.yearDay; omega) hn.yearDay 12 (-366) 366 (by omega) false _ _ (hx.yearDay.more _)) (List.prefix_refl _) ?_
    simp only [go_sem, Nat.reduceLT, Nat.reduceBEq, Nat.reduceAdd, Int.reduceBEq, Nat.reduceLeDiff, reduceIte, Nat.reduceEqDiff, Int.reduceEq, Int.reduceLE, Int.reduceLT, Int.reduceNe, Nat.reduceMul, Nat.reduceSub, Int.reduceToNat, he, gp, b2, b9001, b10000, k1, k2, k3, k4, k5, k6, k7, k8, k9, k10, e3_0, e3_1, e3_2, e3_3, e3_4, setD_some]
    refine callX_of (within_A r.weekNo (by have := hl.weekNo; omega) hn.weekNo 12 (-53) 53 (by omega) false _ _ (hx.weekNo.more _)) (List.prefix_refl _) ?_
    simp only [go_sem, Nat.reduceLT, Nat.reduceBEq, Nat.reduceAdd, Int.reduceBEq, Nat.reduceLeDiff, reduceIte, Nat.reduceEqDiff, Int.reduceEq, Int.reduceLE, Int.reduceLT, Int.reduceNe, Nat.reduceMul, Nat.reduceSub, Int.reduceToNat, he, gp, b2, b9001, b10000, k1, k2, k3, k4, k5, k6, k7, k8, k9, k10, e3_0, e3_1, e3_2, e3_3, e3_4, setD_some]
    rw [show g3 r = false by unfold g3; simp only [e3_0, e3_1, e3_2, e3_3, e3_4, Bool.true_or, Bool.or_true, Bool.false_or, Bool.true_and, Bool.false_and, Bool.not_false, Bool.not_true, Bool.or_false]]
  rintro e h ⟨rfl, he, gp, gt⟩
  simp only [go_sem, Nat.reduceLT, Nat.reduceBEq, Nat.reduceAdd, Int.reduceBEq, Nat.reduceLeDiff, reduceIte, Nat.reduceEqDiff, Int.reduceEq, Int.reduceLE, Int.reduceLT, Int.reduceNe, Nat.reduceMul, Nat.reduceSub, Int.reduceToNat, he, gp, gt]
  refine condK_of (fun hq => ?_) fun hq => ?_
  · simp only [go_sem, Nat.reduceLT, Nat.reduceBEq, Nat.reduceAdd, Int.reduceBEq, Nat.reduceLeDiff, reduceIte, Nat.reduceEqDiff, Int.reduceEq, Int.reduceLE, Int.reduceLT, Int.reduceNe, Nat.reduceMul, Nat.reduceSub, Int.reduceToNat, he, gp, gt]
    rw [clean_g3 hq]
    exact ⟨rfl, _, rfl⟩
  rename g3 r = false => q3
  simp only [go_sem, Nat.reduceLT, Nat.reduceBEq, Nat.reduceAdd, Int.reduceBEq, Nat.reduceLeDiff, reduceIte, Nat.reduceEqDiff, Int.reduceEq, Int.reduceLE, Int.reduceLT, Int.reduceNe, Nat.reduceMul, Nat.reduceSub, Int.reduceToNat, he, gp, gt, k1, k2, k3, k4, k5, k6, k7, k8, k9, k10]
  refine callX_join (fun e h => h = H ++ [AObj.own 25 [vU r.freq, vB r.hasStart, vI r.start, vI r.interval, vI r.wkst, vI r.count, vB r.hasUntil, vI r.til, x.setPos, x.month, x.monthDay, x.yearDay, x.weekNo, x.day, x.hour, x.minute, x.second, x.easter]] ∧ len e = 264 ∧ AL.get e 1 = .ptr H.length 0 ∧ AL.get e 129 = vB (g4 r)) ?_ ?_
  · cases e4_0 : within r.hour 12 0 23 true with
    | false =>
      refine callX_of (within_A r.hour (by have := hl.hour; omega) hn.hour 12 0 23 (by omega) true _ _ (hx.hour.more _)) (List.prefix_refl _) ?_
      simp only [go_sem, Nat.reduceLT, Nat.reduceBEq, Nat.reduceAdd, Int.reduceBEq, Nat.reduceLeDiff, reduceIte, Nat.reduceEqDiff, Int.reduceEq, Int.reduceLE, Int.reduceLT, Int.reduceNe, Nat.reduceMul, Nat.reduceSub, Int.reduceToNat, he, gp, b2, b9001, b10000, k1, k2, k3, k4, k5, k6, k7, k8, k9, k10, e4_0, setD_some]
      rw [show g4 r = true by unfold g4; simp only [e4_0, Bool.true_or, Bool.or_true, Bool.false_or, Bool.true_and, Bool.false_and, Bool.not_false, Bool.not_true, Bool.or_false]]
    | true =>
    cases e4_1 : within r.minute 12 0 59 true with
    | false =>
      refine callX_of (within_A r.hour (by have := hl.hour; omega) hn.hour 12 0 23 (by omega) true _ _ (hx.hour.more _)) (List.prefix_refl _) ?_
      simp only [go_sem, Nat.reduceLT, Nat.reduceBEq, Nat.reduceAdd, Int.reduceBEq, Nat.reduceLeDiff, reduceIte, Nat.reduceEqDiff, Int.reduceEq, Int.reduceLE, Int.reduceLT, Int.reduceNe, Nat.reduceMul, Nat.reduceSub, Int.reduceToNat, he, gp, b2, b9001, b10000, k1, k2, k3, k4, k5, k6, k7, k8, k9, k10, e4_0, e4_1, setD_some]
      refine callX_of (within_A r.minute (by have := hl.minute; omega) hn.minute 12 0 59 (by omega) true _ _ (hx.minute.more _)) (List.prefix_refl _) ?_
      simp only [go_sem, Nat.reduceLT, Nat.reduceBEq, Nat.reduceAdd, Int.reduceBEq, Nat.reduceLeDiff, reduceIte, Nat.reduceEqDiff, Int.reduceEq, Int.reduceLE, Int.reduceLT, Int.reduceNe, Nat.reduceMul, Nat.reduceSub, Int.reduceToNat, he, gp, b2, b9001, b10000, k1, k2, k3, k4, k5, k6, k7, k8, k9, k10, e4_0, e4_1, setD_some]
      rw [show g4 r = true by unfold g4; simp only [e4_0, e4_1, Bool.true_or, Bool.or_true, Bool.false_or, Bool.true_and, Bool.false_and, Bool.not_false, Bool.not_true, Bool.or_false]]
    | true =>
    cases e4_2 : within r.second 12 0 59 true with
    | false =>
      refine callX_of (within_A r.hour (by have := hl.hour; omega) hn.hour 12 0 23 (by omega) true _ _ (hx.hour.more _)) (List.prefix_refl _) ?_
      simp only [go_sem, Nat.reduceLT, Nat.reduceBEq, Nat.reduceAdd, Int.reduceBEq, Nat.reduceLeDiff, reduceIte, Nat.reduceEqDiff, Int.reduceEq, Int.reduceLE, Int.reduceLT, Int.reduceNe, Nat.reduceMul, Nat.reduceSub, Int.reduceToNat, he, gp, b2, b9001, b10000, k1, k2, k3, k4, k5, k6, k7, k8, k9, k10, e4_0, e4_1, e4_2, setD_some]
      refine callX_of (within_A r.minute (by have := hl.minute; omega) hn.minute 12 0 59 (by omega) true _ _ (hx.minute.more _)) (List.prefix_refl _) ?_
      simp only [go_sem, Nat.reduceLT, Nat.reduceBEq, Nat.reduceAdd, Int.reduceBEq, Nat.reduceLeDiff, reduceIte, Nat.reduceEqDiff, Int.reduceEq, Int.reduceLE, Int.reduceLT, Int.reduceNe, Nat.reduceMul, Nat.reduceSub, Int.reduceToNat, he, gp, b2, b9001, b10000, k1, k2, k3, k4, k5, k6, k7, k8, k9, k10, e4_0, e4_1, e4_2, setD_some]
      refine callX_of (within_A r.second (by have := hl.second; omega) hn.second 12 0 59 (by omega) true _ _ (hx.second.more _)) (List.prefix_refl _) ?_
      simp only [go_sem, Nat.reduceLT, Nat.reduceBEq, Nat.reduceAdd, Int.reduceBEq, Nat.reduceLeDiff, reduceIte, Nat.reduceEqDiff, Int.reduceEq, Int.reduceLE, Int.reduceLT, Int.reduceNe, Nat.reduceMul, Nat.reduceSub, Int.reduceToNat, he, gp, b2, b9001, b10000, k1, k2, k3, k4, k5, k6, k7, k8, k9, k10, e4_0, e4_1, e4_2, setD_some]
      rw [show g4 r = true by unfold g4; simp only [e4_0, e4_1, e4_2, Bool.true_or, Bool.or_true, Bool.false_or, Bool.true_and, Bool.false_and, Bool.not_false, Bool.not_true, Bool.or_false]]
    | true =>
    cases e4_3 : within r.easter 12 (-80) 80 true with
    | false =>
      refine callX_of (within_A r.hour (by have := hl.hour; omega) hn.hour 12 0 23 (by omega) true _ _ (hx.hour.more _)) (List.prefix_refl _) ?_
      simp only [go_sem, Nat.reduceLT, Nat.reduceBEq, Nat.reduceAdd, Int.reduceBEq, Nat.reduceLeDiff, reduceIte, Nat.reduceEqDiff, Int.reduceEq, Int.reduceLE, Int.reduceLT, Int.reduceNe, Nat.reduceMul, Nat.reduceSub, Int.reduceToNat, he, gp, b2, b9001, b10000, k1, k2, k3, k4, k5, k6, k7, k8, k9, k10, e4_0, e4_1, e4_2, e4_3, setD_some]
      refine callX_of (within_A r.minute (by have := hl.minute; omega) hn.minute 12 0 59 (by omega) true _ _ (hx.minute.more _)) (List.prefix_refl _) ?_
      simp only [go_sem, Nat.reduceLT, Nat.reduceBEq, Nat.reduceAdd, Int.reduceBEq, Nat.reduceLeDiff, reduceIte, Nat.reduceEqDiff, Int.reduceEq, Int.reduceLE, Int.reduceLT, Int.reduceNe, Nat.reduceMul, Nat.reduceSub, Int.reduceToNat, he, gp, b2, b9001, b10000, k1, k2, k3, k4, k5, k6, k7, k8, k9, k10, e4_0, e4_1, e4_2, e4_3, setD_some]
      refine callX_of (within_A r.second (by have := hl.second; omega) hn.second 12 0 59 (by omega) true _ _ (hx.second.more _)) (List.prefix_refl _) ?_
      simp only [go_sem, Nat.reduceLT, Nat.reduceBEq, Nat.reduceAdd, Int.reduceBEq, Nat.reduceLeDiff, reduceIte, Nat.reduceEqDiff, Int.reduceEq, Int.reduceLE, Int.reduceLT, Int.reduceNe, Nat.reduceMul, Nat.reduceSub, Int.reduceToNat, he, gp, b2, b9001, b10000, k1, k2, k3, k4, k5, k6, k7, k8, k9, k10, e4_0, e4_1, e4_2, e4_3, setD_some]
      refine callX_of (within_A r.easter (by have := hl.easter; omega) hn.easter 12 (-80) 80 (by omega) true _ _ (hx.easter.more _)) (List.prefix_refl _) ?_
      simp only [go_sem, Nat.reduceLT, Nat.reduceBEq, Nat.reduceAdd, Int.reduceBEq, Nat.reduceLeDiff, reduceIte, Nat.reduceEqDiff, Int.reduceEq, Int.reduceLE, Int.reduceLT, Int.reduceNe, Nat.reduceMul, Nat.reduceSub, Int.reduceToNat, he, gp, b2, b9001, b10000, k1, k2, k3, k4, k5, k6, k7, k8, k9, k10, e4_0, e4_1, e4_2, e4_3, setD_some]
      rw [show g4 r = true by unfold g4; simp only [e4_0, e4_1, e4_2, e4_3, Bool.true_or, Bool.or_true, Bool.false_or, Bool.true_and, Bool.false_and, Bool.not_false, Bool.not_true, Bool.or_false]]
    | true =>
    cases e4_4 : decide (12 < (r.day.length : Int)) with
    | true =>
      refine callX_of (within_A r.hour (by have := hl.hour; omega) hn.hour 12 0 23 (by omega) true _ _ (hx.hour.more _)) (List.prefix_refl _) ?_
      simp only [go_sem, Nat.reduceLT, Nat.reduceBEq, Nat.reduceAdd, Int.reduceBEq, Nat.reduceLeDiff, reduceIte, Nat.reduceEqDiff, Int.reduceEq, Int.reduceLE, Int.reduceLT, Int.reduceNe, Nat.reduceMul, Nat.reduceSub, Int.reduceToNat, he, gp, b2, b9001, b10000, k1, k2, k3, k4, k5, k6, k7, k8, k9, k10, e4_0, e4_1, e4_2, e4_3, e4_4, setD_some]
      refine callX_of (within_A r.minute (by have := hl.minute; omega) hn.minute 12 0 59 (by omega) true _ _ (hx.minute.more _)) (List.prefix_refl _) ?_
      simp only [go_sem, Nat.reduceLT, Nat.reduceBEq, Nat.reduceAdd, Int.reduceBEq, Nat.reduceLeDiff, reduceIte, Nat.reduceEqDiff, Int.reduceEq, Int.reduceLE, Int.reduceLT, Int.reduceNe, Nat.reduceMul, Nat.reduceSub, Int.reduceToNat, he, gp, b2, b9001, b10000, k1, k2, k3, k4, k5, k6, k7, k8, k9, k10, e4_0, e4_1, e4_2, e4_3, e4_4, setD_some]
      refine callX_of (within_A r.second (by have := hl.second; omega) hn.second 12 0 59 (by omega) true _ _ (hx.second.more _)) (List.prefix_refl _) ?_
      simp only [go_sem, Nat.reduceLT, Nat.reduceBEq, Nat.reduceAdd, Int.reduceBEq, Nat.reduceLeDiff, reduceIte, Nat.reduceEqDiff, Int.reduceEq, Int.reduceLE, Int.reduceLT, Int.reduceNe, Nat.reduceMul, Nat.reduceSub, Int.reduceToNat, he, gp, b2, b9001, b10000, k1, k2, k3, k4, k5, k6, k7, k8, k9, k10, e4_0, e4_1, e4_2, e4_3, e4_4, setD_some]
      refine callX_of (within_A r.easter (by have := hl.easter; omega) hn.easter 12 (-80) 80 (by omega) true _ _ (hx.easter.more _)) (List.prefix_refl _) ?_
      simp only [go_sem, Nat.reduceLT, Nat.reduceBEq, Nat.reduceAdd, Int.reduceBEq, Nat.reduceLeDiff, reduceIte, Nat.reduceEqDiff, Int.reduceEq, Int.reduceLE, Int.reduceLT, Int.reduceNe, Nat.reduceMul, Nat.reduceSub, Int.reduceToNat, he, gp, b2, b9001, b10000, k1, k2, k3, k4, k5, k6, k7, k8, k9, k10, e4_0, e4_1, e4_2, e4_3, e4_4, setD_some]
      rw [show g4 r = true by unfold g4; simp only [e4_0, e4_1, e4_2, e4_3, e4_4, Bool.true_or, Bool.or_true, Bool.false_or, Bool.true_and, Bool.false_and, Bool.not_false, Bool.not_true, Bool.or_false]]
    | false =>
    refine callX_of (within_A r.hour (by have := hl.hour; omega) hn.hour 12 0 23 (by omega) true _ _ (hx.hour.more _)) (List.prefix_refl _) ?_
    simp only [go_sem, Nat.reduceLT, Nat.reduceBEq, Nat.reduceAdd, Int.reduceBEq, Nat.reduceLeDiff, reduceIte, Nat.reduceEqDiff, Int.reduceEq, Int.reduceLE, Int.reduceLT, Int.reduceNe, Nat.reduceMul, Nat.reduceSub, Int.reduceToNat, he, gp, b2, b9001, b10000, k1, k2, k3, k4, k5, k6, k7, k8, k9, k10, e4_0, e4_1, e4_2, e4_3, e4_4, setD_some]
    refine callX_of (within_A r.minute (by have := hl.minute; omega) hn.minute 12 0 59 (by omega) true _ _ (hx.minute.more _)) (List.prefix_refl _) ?_
    simp only [go_sem, Nat.reduceLT, Nat.reduceBEq, Nat.reduceAdd, Int.reduceBEq, Nat.reduceLeDiff, reduceIte, Nat.reduceEqDiff, Int.reduceEq, Int.reduceLE, Int.reduceLT, Int.reduceNe, Nat.reduceMul, Nat.reduceSub, Int.reduceToNat, he, gp, b2, b9001, b10000, k1, k2, k3, k4, k5, k6, k7, k8, k9, k10, e4_0, e4_1, e4_2, e4_3, e4_4, setD_some]
    refine callX_of (within_A r.second (by have := hl.second; omega) hn.second 12 0 59 (by omega) true _ _ (hx.second.more _)) (List.prefix_refl _) ?_
    simp only [go_sem, Nat.reduceLT, Nat.reduceBEq, Nat.reduceAdd, Int.reduceBEq, Nat.reduceLeDiff, reduceIte, Nat.reduceEqDiff, Int.reduceEq, Int.reduceLE, Int.reduceLT, Int.reduceNe, Nat.reduceMul, Nat.reduceSub, Int.reduceToNat, he, gp, b2, b9001, b10000, k1, k2, k3, k4, k5, k6, k7, k8, k9, k10, e4_0, e4_1, e4_2, e4_3, e4_4, setD_some]
    refine callX_of (within_A r.easter (by have := hl.easter; omega) hn.easter 12 (-80) 80 (by omega) true _ _ (hx.easter.more _)) (List.prefix_refl _) ?_
    simp only [go_sem, Nat.reduceLT, Nat.reduceBEq, Nat.reduceAdd, Int.reduceBEq, Nat.reduceLeDiff, reduceIte, Nat.reduceEqDiff, Int.reduceEq, Int.reduceLE, Int.reduceLT, Int.reduceNe, Nat.reduceMul, Nat.reduceSub, Int.reduceToNat, he, gp, b2, b9001, b10000, k1, k2, k3, k4, k5, k6, k7, k8, k9, k10, e4_0, e4_1, e4_2, e4_3, e4_4, setD_some]
    rw [show g4 r = false by unfold g4; simp only [e4_0, e4_1, e4_2, e4_3, e4_4, Bool.true_or, Bool.or_true, Bool.false_or, Bool.true_and, Bool.false_and, Bool.not_false, Bool.not_true, Bool.or_false]]
  rintro e h ⟨rfl, he, gp, gt⟩
  simp only [go_sem, Nat.reduceLT, Nat.reduceBEq, Nat.reduceAdd, Int.reduceBEq, Nat.reduceLeDiff, reduceIte, Nat.reduceEqDiff, Int.reduceEq, Int.reduceLE, Int.reduceLT, Int.reduceNe, Nat.reduceMul, Nat.reduceSub, Int.reduceToNat, he, gp, gt]
  refine condK_of (fun hq => ?_) fun hq => ?_
  · simp only [go_sem, Nat.reduceLT, Nat.reduceBEq, Nat.reduceAdd, Int.reduceBEq, Nat.reduceLeDiff, reduceIte, Nat.reduceEqDiff, Int.reduceEq, Int.reduceLE, Int.reduceLT, Int.reduceNe, Nat.reduceMul, Nat.reduceSub, Int.reduceToNat, he, gp, gt]
    rw [clean_g4 hq]
    exact ⟨rfl, _, rfl⟩
  rename g4 r = false => q4
  simp only [go_sem, Nat.reduceLT, Nat.reduceBEq, Nat.reduceAdd, Int.reduceBEq, Nat.reduceLeDiff, reduceIte, Nat.reduceEqDiff, Int.reduceEq, Int.reduceLE, Int.reduceLT, Int.reduceNe, Nat.reduceMul, Nat.reduceSub, Int.reduceToNat, he, gp, gt, k1, k2, k3, k4, k5, k6, k7, k8, k9, k10]
  obtain ⟨n1, n2, n3, n4, n5⟩ := g4_len q4
  have hmul := mul3 (a := max 1 (r.hour.length : Int)) (b := max 1 (r.minute.length : Int)) (c := max 1 (r.second.length : Int)) (by omega) (by omega) (by omega)
  rw [wI64 (n := max 1 (r.hour.length : Int) * max 1 (r.minute.length : Int)) (by omega), wI64 (n := max 1 (r.hour.length : Int) * max 1 (r.minute.length : Int) * max 1 (r.second.length : Int)) (by omega)]
  refine condK_of (fun hq => ?_) fun hq => ?_
  · simp only [go_sem, Nat.reduceLT, Nat.reduceBEq, Nat.reduceAdd, Int.reduceBEq, Nat.reduceLeDiff, reduceIte, Nat.reduceEqDiff, Int.reduceEq, Int.reduceLE, Int.reduceLT, Int.reduceNe, Nat.reduceMul, Nat.reduceSub, Int.reduceToNat, he, gp, gt]
    rw [clean_g5 hq]
    exact ⟨rfl, _, rfl⟩
  have q5' : g5 r = false := hq
  clear hmul gt
  rw [acode_skip, Kseq_normal, acode_seq]
  refine acode_join (fun e h => h = H ++ [AObj.own 25 [vU r.freq, vB r.hasStart, vI r.start, vI r.interval, vI r.wkst, vI r.count, vB r.hasUntil, vI r.til, x.setPos, x.month, x.monthDay, x.yearDay, x.weekNo, x.day, x.hour, x.minute, x.second, x.easter]] ∧ len e = 264 ∧ AL.get e 1 = .ptr H.length 0 ∧ AL.get e 3 = vI 0) (by simp only [go_sem, Nat.reduceLT, Nat.reduceBEq, Nat.reduceAdd, Int.reduceBEq, Nat.reduceLeDiff, reduceIte, Nat.reduceEqDiff, Int.reduceEq, Int.reduceLE, Int.reduceLT, Int.reduceNe, Nat.reduceMul, Nat.reduceSub, Int.reduceToNat, he, gp]) ?_
  rintro e h ⟨rfl, he, gp, g3⟩
  rw [Kseq_normal, acode_seq]
  refine acode_join (fun e h => h = H ++ [AObj.own 25 [vU r.freq, vB r.hasStart, vI r.start, vI r.interval, vI r.wkst, vI r.count, vB r.hasUntil, vI r.til, x.setPos, x.month, x.monthDay, x.yearDay, x.weekNo, x.day, x.hour, x.minute, x.second, x.easter]] ∧ len e = 264 ∧ AL.get e 1 = .ptr H.length 0 ∧ AL.get e 3 = vI (mostOf r)) ?_ ?_
  · by_cases f1 : r.freq = 1
    · have d1 : decide ((r.freq : Int) = 1) = true := decide_eq_true (by omega)
      simp only [go_sem, Nat.reduceLT, Nat.reduceBEq, Nat.reduceAdd, Int.reduceBEq, Nat.reduceLeDiff, reduceIte, Nat.reduceEqDiff, Int.reduceEq, Int.reduceLE, Int.reduceLT, Int.reduceNe, Nat.reduceMul, Nat.reduceSub, Int.reduceToNat, he, gp, g3, k2, k5, d1]
      unfold mostOf
      rw [if_pos (.inl f1)]
    have d1 : decide ((r.freq : Int) = 1) = false := decide_eq_false (by omega)
    by_cases f0 : r.freq = 0
    · have d0 : decide ((r.freq : Int) = 0) = true := decide_eq_true (by omega)
      by_cases fm : 0 < r.month.length
      · have dm : decide (0 < (r.month.length : Int)) = true := decide_eq_true (by omega)
        simp only [go_sem, Nat.reduceLT, Nat.reduceBEq, Nat.reduceAdd, Int.reduceBEq, Nat.reduceLeDiff, reduceIte, Nat.reduceEqDiff, Int.reduceEq, Int.reduceLE, Int.reduceLT, Int.reduceNe, Nat.reduceMul, Nat.reduceSub, Int.reduceToNat, he, gp, g3, k2, k5, d1, d0, dm]
        unfold mostOf
        rw [if_pos (.inr ⟨f0, fm⟩)]
      have dm : decide (0 < (r.month.length : Int)) = false := decide_eq_false (by omega)
      by_cases fw : r.weekNo.length = 0
      · have dw : decide ((r.weekNo.length : Int) = 0) = true := decide_eq_true (by omega)
        simp only [go_sem, Nat.reduceLT, Nat.reduceBEq, Nat.reduceAdd, Int.reduceBEq, Nat.reduceLeDiff, reduceIte, Nat.reduceEqDiff, Int.reduceEq, Int.reduceLE, Int.reduceLT, Int.reduceNe, Nat.reduceMul, Nat.reduceSub, Int.reduceToNat, he, gp, g3, k2, k5, d1, d0, dm, dw]
        unfold mostOf
        rw [if_neg (by omega), if_pos ⟨f0, fw⟩]
      have dw : decide ((r.weekNo.length : Int) = 0) = false := decide_eq_false (by omega)
      simp only [go_sem, Nat.reduceLT, Nat.reduceBEq, Nat.reduceAdd, Int.reduceBEq, Nat.reduceLeDiff, reduceIte, Nat.reduceEqDiff, Int.reduceEq, Int.reduceLE, Int.reduceLT, Int.reduceNe, Nat.reduceMul, Nat.reduceSub, Int.reduceToNat, he, gp, g3, k2, k5, d1, d0, dm, dw]
      unfold mostOf
      rw [if_neg (by omega), if_neg (by omega)]
    have d0 : decide ((r.freq : Int) = 0) = false := decide_eq_false (by omega)
    simp only [go_sem, Nat.reduceLT, Nat.reduceBEq, Nat.reduceAdd, Int.reduceBEq, Nat.reduceLeDiff, reduceIte, Nat.reduceEqDiff, Int.reduceEq, Int.reduceLE, Int.reduceLT, Int.reduceNe, Nat.reduceMul, Nat.reduceSub, Int.reduceToNat, he, gp, g3, k2, k5, d1, d0]
    unfold mostOf
    rw [if_neg (by omega), if_neg (by omega)]
  rintro e h ⟨rfl, he, gp, g3⟩
  simp only [go_sem, Nat.reduceLT, Nat.reduceBEq, Nat.reduceAdd, Int.reduceBEq, Nat.reduceLeDiff, reduceIte, Nat.reduceEqDiff, Int.reduceEq, Int.reduceLE, Int.reduceLT, Int.reduceNe, Nat.reduceMul, Nat.reduceSub, Int.reduceToNat, he, gp, g3, k6]
  refine A_while r.day.length (fun k e h => (∃ G, h = H ++ [AObj.own 25 [vU r.freq, vB r.hasStart, vI r.start, vI r.interval, vI r.wkst, vI r.count, vB r.hasUntil, vI r.til, x.setPos, x.month, x.monthDay, x.yearDay, x.weekNo, x.day, x.hour, x.minute, x.second, x.easter]] ++ G) ∧ len e = 264 ∧ AL.get e 1 = .ptr H.length 0 ∧ AL.get e 3 = vI (mostOf r) ∧ AL.get e 171 = x.day ∧ AL.get e 172 = vI r.day.length ∧ ∃ i : Nat, AL.get e 173 = vI i ∧ i + k = r.day.length ∧ (List.range i).all (dayAt r.day (mostOf r)) = true) (by kernel_rfl) ?_ ?_
  · simp only [go_sem, Nat.reduceLT, Nat.reduceBEq, Nat.reduceAdd, Int.reduceBEq, Nat.reduceLeDiff, reduceIte, Nat.reduceEqDiff, Int.reduceEq, Int.reduceLE, Int.reduceLT, Int.reduceNe, Nat.reduceMul, Nat.reduceSub, Int.reduceToNat, he, gp, g3]
    exact ⟨⟨[], rfl⟩, 0, rfl, by omega, rfl⟩
  rintro k e h ⟨⟨G, rfl⟩, he, gp, g3, g171, g172, i, g173, hik, hall⟩
  rw [List.append_assoc, List.cons_append, List.nil_append]
  simp only [go_sem, Nat.reduceLT, Nat.reduceBEq, Nat.reduceAdd, Int.reduceBEq, Nat.reduceLeDiff, reduceIte, Nat.reduceEqDiff, Int.reduceEq, Int.reduceLE, Int.reduceLT, Int.reduceNe, Nat.reduceMul, Nat.reduceSub, Int.reduceToNat, he, gp, g3, g171, g172, g173]
  refine condK_of (fun hc => ?_) fun hc => ?_
  · have hc := of_decide_eq_true hc
    have hi : i < r.day.length := by omega
    have hx2 := hx.day.more (AObj.own 25 [vU r.freq, vB r.hasStart, vI r.start, vI r.interval, vI r.wkst, vI r.count, vB r.hasUntil, vI r.til, x.setPos, x.month, x.monthDay, x.yearDay, x.weekNo, x.day, x.hour, x.minute, x.second, x.easter] :: G)
    rcases id hx2 with ⟨_, h0⟩ | ⟨own, o, off, cs, hxd, hcs, hcell⟩
    · omega
    obtain ⟨hd1, hd2⟩ := days_load (H := H) hcell hi
    rw [hxd] at hx2
    have hdef : dayAt r.day (mostOf r) i = (!((r.day.take i).contains (r.day.getD i (0, 0))) && !(decide ((r.day.getD i (0, 0)).1 < 0) || decide (6 < (r.day.getD i (0, 0)).1) || decide ((r.day.getD i (0, 0)).2 < -mostOf r) || decide (mostOf r < (r.day.getD i (0, 0)).2))) := rfl
    have wi : IntKind.i64.wrap ((i : Int) + 1) = ((i + 1 : Nat) : Int) := by rw [wI64 (by omega)]; rfl
    have wm : IntKind.i64.wrap (0 - mostOf r) = -mostOf r := by have := mostOf_bound r; rw [wI64 (by omega)]; omega
    generalize r.day.getD i (0, 0) = dd at *
    rw [hxd] at g171
    simp only [go_sem, Nat.reduceLT, Nat.reduceBEq, Nat.reduceAdd, Int.reduceBEq, Nat.reduceLeDiff, reduceIte, Nat.reduceEqDiff, Int.reduceEq, Int.reduceLE, Int.reduceLT, Int.reduceNe, Nat.reduceMul, Nat.reduceSub, Int.reduceToNat, he, gp, g3, g171, g172, g173, hcs, hd1, hd2, Int.toNat_natCast]
    refine ⟨by omega, ?_⟩
    refine acode_draw mixed (by kernel_rfl) ?_
    simp only [go_sem, Nat.reduceLT, Nat.reduceBEq, Nat.reduceAdd, Int.reduceBEq, Nat.reduceLeDiff, reduceIte, Nat.reduceEqDiff, Int.reduceEq, Int.reduceLE, Int.reduceLT, Int.reduceNe, Nat.reduceMul, Nat.reduceSub, Int.reduceToNat, he, gp, g3, g171, g172, g173, hxd, nn]
    refine ⟨by omega, ?_⟩
    have hx3 := (DaysAt.take (i := i) hx2 (by omega)).more [AObj.own 47 [vI dd.1, vI dd.2]]
    rw [List.append_assoc, List.cons_append] at hx3
    refine callX_of (containsD_A (r.day.take i) (by rw [List.length_take]; omega) dd _ _ hx3) (List.prefix_refl _) ?_
    cases hq : (r.day.take i).contains dd with
    | true =>
      simp only [go_sem, Nat.reduceLT, Nat.reduceBEq, Nat.reduceAdd, Int.reduceBEq, Nat.reduceLeDiff, reduceIte, Nat.reduceEqDiff, Int.reduceEq, Int.reduceLE, Int.reduceLT, Int.reduceNe, Nat.reduceMul, Nat.reduceSub, Int.reduceToNat, he, gp, g3, g171, g172, g173, setD_some]
      rw [clean_g6 (g6_fail hi (show dayAt r.day (mostOf r) i = false by rw [hdef, hq]; rfl))]
      exact ⟨rfl, _, rfl⟩
    | false =>
    cases z0 : decide (dd.1 < 0) with
    | true =>
      simp only [go_sem, Nat.reduceLT, Nat.reduceBEq, Nat.reduceAdd, Int.reduceBEq, Nat.reduceLeDiff, reduceIte, Nat.reduceEqDiff, Int.reduceEq, Int.reduceLE, Int.reduceLT, Int.reduceNe, Nat.reduceMul, Nat.reduceSub, Int.reduceToNat, he, gp, g3, g171, g172, g173, setD_some, wm, z0]
      rw [clean_g6 (g6_fail hi (show dayAt r.day (mostOf r) i = false by rw [hdef, hq]; simp only [z0, Bool.true_or, Bool.or_true, Bool.false_or, Bool.not_true, Bool.and_false]))]
      exact ⟨rfl, _, rfl⟩
    | false =>
    cases z1 : decide (6 < dd.1) with
    | true =>
      simp only [go_sem, Nat.reduceLT, Nat.reduceBEq, Nat.reduceAdd, Int.reduceBEq, Nat.reduceLeDiff, reduceIte, Nat.reduceEqDiff, Int.reduceEq, Int.reduceLE, Int.reduceLT, Int.reduceNe, Nat.reduceMul, Nat.reduceSub, Int.reduceToNat, he, gp, g3, g171, g172, g173, setD_some, wm, z0, z1]
      rw [clean_g6 (g6_fail hi (show dayAt r.day (mostOf r) i = false by rw [hdef, hq]; simp only [z0, z1, Bool.true_or, Bool.or_true, Bool.false_or, Bool.not_true, Bool.and_false]))]
      exact ⟨rfl, _, rfl⟩
    | false =>
    cases z2 : decide (dd.2 < -mostOf r) with
    | true =>
      simp only [go_sem, Nat.reduceLT, Nat.reduceBEq, Nat.reduceAdd, Int.reduceBEq, Nat.reduceLeDiff, reduceIte, Nat.reduceEqDiff, Int.reduceEq, Int.reduceLE, Int.reduceLT, Int.reduceNe, Nat.reduceMul, Nat.reduceSub, Int.reduceToNat, he, gp, g3, g171, g172, g173, setD_some, wm, z0, z1, z2]
      rw [clean_g6 (g6_fail hi (show dayAt r.day (mostOf r) i = false by rw [hdef, hq]; simp only [z0, z1, z2, Bool.true_or, Bool.or_true, Bool.false_or, Bool.not_true, Bool.and_false]))]
      exact ⟨rfl, _, rfl⟩
    | false =>
    cases z3 : decide (mostOf r < dd.2) with
    | true =>
      simp only [go_sem, Nat.reduceLT, Nat.reduceBEq, Nat.reduceAdd, Int.reduceBEq, Nat.reduceLeDiff, reduceIte, Nat.reduceEqDiff, Int.reduceEq, Int.reduceLE, Int.reduceLT, Int.reduceNe, Nat.reduceMul, Nat.reduceSub, Int.reduceToNat, he, gp, g3, g171, g172, g173, setD_some, wm, z0, z1, z2, z3]
      rw [clean_g6 (g6_fail hi (show dayAt r.day (mostOf r) i = false by rw [hdef, hq]; simp only [z0, z1, z2, z3, Bool.true_or, Bool.or_true, Bool.false_or, Bool.not_true, Bool.and_false]))]
      exact ⟨rfl, _, rfl⟩
    | false =>
    simp only [go_sem, Nat.reduceLT, Nat.reduceBEq, Nat.reduceAdd, Int.reduceBEq, Nat.reduceLeDiff, reduceIte, Nat.reduceEqDiff, Int.reduceEq, Int.reduceLE, Int.reduceLT, Int.reduceNe, Nat.reduceMul, Nat.reduceSub, Int.reduceToNat, he, gp, g3, g171, g172, g173, setD_some, wm, wi, z0, z1, z2, z3]
    refine ⟨k - 1, by omega, ⟨_, rfl⟩, i + 1, rfl, by omega, ?_⟩
    rw [List.range_succ, List.all_append, hall, List.all_cons, List.all_nil, show dayAt r.day (mostOf r) i = true by rw [hdef, hq]; simp only [z0, z1, z2, z3, Bool.or_false, Bool.not_false, Bool.and_true]]
    rfl
  have hc := of_decide_eq_false hc
  have hi : i = r.day.length := by omega
  rw [hi] at hall
  have q6 : g6 r = false := by unfold g6; rw [hall]; rfl
  simp only [go_sem, Nat.reduceLT, Nat.reduceBEq, Nat.reduceAdd, Int.reduceBEq, Nat.reduceLeDiff, reduceIte, Nat.reduceEqDiff, Int.reduceEq, Int.reduceLE, Int.reduceLT, Int.reduceNe, Nat.reduceMul, Nat.reduceSub, Int.reduceToNat, he, gp, k5]
  refine guardK_join (fun e h => (∃ G, h = H ++ AObj.own 25 [vU r.freq, vB r.hasStart, vI r.start, vI r.interval, vI r.wkst, vI r.count, vB r.hasUntil, vI r.til, x.setPos, x.month, x.monthDay, x.yearDay, x.weekNo, x.day, x.hour, x.minute, x.second, x.easter] :: G) ∧ len e = 264 ∧ AL.get e 1 = .ptr H.length 0 ∧ AL.get e 236 = vB (g7 r)) ?_ ?_
  · by_cases cf0 : r.freq = 0
    · have df0 : decide ((r.freq : Int) = 0) = true := decide_eq_true (by omega)
      have nf0 : decide (r.freq = 0) = true := decide_eq_true (by omega)
      by_cases ca : 0 < r.weekNo.length
      · have da : decide (0 < (r.weekNo.length : Int)) = true := decide_eq_true (by omega)
        have na : decide (0 < r.weekNo.length) = true := decide_eq_true (by omega)
        by_cases cb : 0 < r.easter.length
        · have db : decide (0 < (r.easter.length : Int)) = true := decide_eq_true (by omega)
          have nb : decide (0 < r.easter.length) = true := decide_eq_true (by omega)
          by_cases cc : 0 < r.monthDay.length
          · have dc : decide (0 < (r.monthDay.length : Int)) = true := decide_eq_true (by omega)
            have nc : decide (0 < r.monthDay.length) = true := decide_eq_true (by omega)
            by_cases cf2 : r.freq = 2
            · have df2 : decide ((r.freq : Int) = 2) = true := decide_eq_true (by omega)
              have nf2 : decide (r.freq = 2) = true := decide_eq_true (by omega)
              simp only [go_sem, Nat.reduceLT, Nat.reduceBEq, Nat.reduceAdd, Int.reduceBEq, Nat.reduceLeDiff, reduceIte, Nat.reduceEqDiff, Int.reduceEq, Int.reduceLE, Int.reduceLT, Int.reduceNe, Nat.reduceMul, Nat.reduceSub, Int.reduceToNat, he, gp, k1, k2, k3, k4, k5, k6, k10, df0, da, db, dc, df2]
              exact ⟨⟨_, rfl⟩, by rw [show g7 r = true by unfold g7; simp only [nf0, na, nb, nc, nf2, Bool.true_or, Bool.or_true, Bool.false_or, Bool.true_and, Bool.false_and, Bool.not_false, Bool.not_true, Bool.or_false, Bool.and_false, Bool.and_true]]⟩
            have df2 : decide ((r.freq : Int) = 2) = false := decide_eq_false (by omega)
            have nf2 : decide (r.freq = 2) = false := decide_eq_false (by omega)
            simp only [go_sem, Nat.reduceLT, Nat.reduceBEq, Nat.reduceAdd, Int.reduceBEq, Nat.reduceLeDiff, reduceIte, Nat.reduceEqDiff, Int.reduceEq, Int.reduceLE, Int.reduceLT, Int.reduceNe, Nat.reduceMul, Nat.reduceSub, Int.reduceToNat, he, gp, k1, k2, k3, k4, k5, k6, k10, df0, da, db, dc, df2]
            exact ⟨⟨_, rfl⟩, by rw [show g7 r = false by unfold g7; simp only [nf0, na, nb, nc, nf2, Bool.true_or, Bool.or_true, Bool.false_or, Bool.true_and, Bool.false_and, Bool.not_false, Bool.not_true, Bool.or_false, Bool.and_false, Bool.and_true]]⟩
          have dc : decide (0 < (r.monthDay.length : Int)) = false := decide_eq_false (by omega)
          have nc : decide (0 < r.monthDay.length) = false := decide_eq_false (by omega)
          simp only [go_sem, Nat.reduceLT, Nat.reduceBEq, Nat.reduceAdd, Int.reduceBEq, Nat.reduceLeDiff, reduceIte, Nat.reduceEqDiff, Int.reduceEq, Int.reduceLE, Int.reduceLT, Int.reduceNe, Nat.reduceMul, Nat.reduceSub, Int.reduceToNat, he, gp, k1, k2, k3, k4, k5, k6, k10, df0, da, db, dc]
          exact ⟨⟨_, rfl⟩, by rw [show g7 r = false by unfold g7; simp only [nf0, na, nb, nc, Bool.true_or, Bool.or_true, Bool.false_or, Bool.true_and, Bool.false_and, Bool.not_false, Bool.not_true, Bool.or_false, Bool.and_false, Bool.and_true]]⟩
        have db : decide (0 < (r.easter.length : Int)) = false := decide_eq_false (by omega)
        have nb : decide (0 < r.easter.length) = false := decide_eq_false (by omega)
        by_cases cc : 0 < r.monthDay.length
        · have dc : decide (0 < (r.monthDay.length : Int)) = true := decide_eq_true (by omega)
          have nc : decide (0 < r.monthDay.length) = true := decide_eq_true (by omega)
          by_cases cf2 : r.freq = 2
          · have df2 : decide ((r.freq : Int) = 2) = true := decide_eq_true (by omega)
            have nf2 : decide (r.freq = 2) = true := decide_eq_true (by omega)
            simp only [go_sem, Nat.reduceLT, Nat.reduceBEq, Nat.reduceAdd, Int.reduceBEq, Nat.reduceLeDiff, reduceIte, Nat.reduceEqDiff, Int.reduceEq, Int.reduceLE, Int.reduceLT, Int.reduceNe, Nat.reduceMul, Nat.reduceSub, Int.reduceToNat, he, gp, k1, k2, k3, k4, k5, k6, k10, df0, da, db, dc, df2]
            exact ⟨⟨_, rfl⟩, by rw [show g7 r = true by unfold g7; simp only [nf0, na, nb, nc, nf2, Bool.true_or, Bool.or_true, Bool.false_or, Bool.true_and, Bool.false_and, Bool.not_false, Bool.not_true, Bool.or_false, Bool.and_false, Bool.and_true]]⟩
          have df2 : decide ((r.freq : Int) = 2) = false := decide_eq_false (by omega)
          have nf2 : decide (r.freq = 2) = false := decide_eq_false (by omega)
          simp only [go_sem, Nat.reduceLT, Nat.reduceBEq, Nat.reduceAdd, Int.reduceBEq, Nat.reduceLeDiff, reduceIte, Nat.reduceEqDiff, Int.reduceEq, Int.reduceLE, Int.reduceLT, Int.reduceNe, Nat.reduceMul, Nat.reduceSub, Int.reduceToNat, he, gp, k1, k2, k3, k4, k5, k6, k10, df0, da, db, dc, df2]
          exact ⟨⟨_, rfl⟩, by rw [show g7 r = false by unfold g7; simp only [nf0, na, nb, nc, nf2, Bool.true_or, Bool.or_true, Bool.false_or, Bool.true_and, Bool.false_and, Bool.not_false, Bool.not_true, Bool.or_false, Bool.and_false, Bool.and_true]]⟩
        have dc : decide (0 < (r.monthDay.length : Int)) = false := decide_eq_false (by omega)
        have nc : decide (0 < r.monthDay.length) = false := decide_eq_false (by omega)
        simp only [go_sem, Nat.reduceLT, Nat.reduceBEq, Nat.reduceAdd, Int.reduceBEq, Nat.reduceLeDiff, reduceIte, Nat.reduceEqDiff, Int.reduceEq, Int.reduceLE, Int.reduceLT, Int.reduceNe, Nat.reduceMul, Nat.reduceSub, Int.reduceToNat, he, gp, k1, k2, k3, k4, k5, k6, k10, df0, da, db, dc]
        exact ⟨⟨_, rfl⟩, by rw [show g7 r = false by unfold g7; simp only [nf0, na, nb, nc, Bool.true_or, Bool.or_true, Bool.false_or, Bool.true_and, Bool.false_and, Bool.not_false, Bool.not_true, Bool.or_false, Bool.and_false, Bool.and_true]]⟩
      have da : decide (0 < (r.weekNo.length : Int)) = false := decide_eq_false (by omega)
      have na : decide (0 < r.weekNo.length) = false := decide_eq_false (by omega)
      by_cases cb : 0 < r.easter.length
      · have db : decide (0 < (r.easter.length : Int)) = true := decide_eq_true (by omega)
        have nb : decide (0 < r.easter.length) = true := decide_eq_true (by omega)
        by_cases cc : 0 < r.monthDay.length
        · have dc : decide (0 < (r.monthDay.length : Int)) = true := decide_eq_true (by omega)
          have nc : decide (0 < r.monthDay.length) = true := decide_eq_true (by omega)
          by_cases cf2 : r.freq = 2
          · have df2 : decide ((r.freq : Int) = 2) = true := decide_eq_true (by omega)
            have nf2 : decide (r.freq = 2) = true := decide_eq_true (by omega)
            simp only [go_sem, Nat.reduceLT, Nat.reduceBEq, Nat.reduceAdd, Int.reduceBEq, Nat.reduceLeDiff, reduceIte, Nat.reduceEqDiff, Int.reduceEq, Int.reduceLE, Int.reduceLT, Int.reduceNe, Nat.reduceMul, Nat.reduceSub, Int.reduceToNat, he, gp, k1, k2, k3, k4, k5, k6, k10, df0, da, db, dc, df2]
            exact ⟨⟨_, rfl⟩, by rw [show g7 r = true by unfold g7; simp only [nf0, na, nb, nc, nf2, Bool.true_or, Bool.or_true, Bool.false_or, Bool.true_and, Bool.false_and, Bool.not_false, Bool.not_true, Bool.or_false, Bool.and_false, Bool.and_true]]⟩
          have df2 : decide ((r.freq : Int) = 2) = false := decide_eq_false (by omega)
          have nf2 : decide (r.freq = 2) = false := decide_eq_false (by omega)
          simp only [go_sem, Nat.reduceLT, Nat.reduceBEq, Nat.reduceAdd, Int.reduceBEq, Nat.reduceLeDiff, reduceIte, Nat.reduceEqDiff, Int.reduceEq, Int.reduceLE, Int.reduceLT, Int.reduceNe, Nat.reduceMul, Nat.reduceSub, Int.reduceToNat, he, gp, k1, k2, k3, k4, k5, k6, k10, df0, da, db, dc, df2]
          exact ⟨⟨_, rfl⟩, by rw [show g7 r = false by unfold g7; simp only [nf0, na, nb, nc, nf2, Bool.true_or, Bool.or_true, Bool.false_or, Bool.true_and, Bool.false_and, Bool.not_false, Bool.not_true, Bool.or_false, Bool.and_false, Bool.and_true]]⟩
        have dc : decide (0 < (r.monthDay.length : Int)) = false := decide_eq_false (by omega)
        have nc : decide (0 < r.monthDay.length) = false := decide_eq_false (by omega)
        simp only [go_sem, Nat.reduceLT, Nat.reduceBEq, Nat.reduceAdd, Int.reduceBEq, Nat.reduceLeDiff, reduceIte, Nat.reduceEqDiff, Int.reduceEq, Int.reduceLE, Int.reduceLT, Int.reduceNe, Nat.reduceMul, Nat.reduceSub, Int.reduceToNat, he, gp, k1, k2, k3, k4, k5, k6, k10, df0, da, db, dc]
        exact ⟨⟨_, rfl⟩, by rw [show g7 r = false by unfold g7; simp only [nf0, na, nb, nc, Bool.true_or, Bool.or_true, Bool.false_or, Bool.true_and, Bool.false_and, Bool.not_false, Bool.not_true, Bool.or_false, Bool.and_false, Bool.and_true]]⟩
      have db : decide (0 < (r.easter.length : Int)) = false := decide_eq_false (by omega)
      have nb : decide (0 < r.easter.length) = false := decide_eq_false (by omega)
      by_cases cc : 0 < r.monthDay.length
      · have dc : decide (0 < (r.monthDay.length : Int)) = true := decide_eq_true (by omega)
        have nc : decide (0 < r.monthDay.length) = true := decide_eq_true (by omega)
        by_cases cf2 : r.freq = 2
        · have df2 : decide ((r.freq : Int) = 2) = true := decide_eq_true (by omega)
          have nf2 : decide (r.freq = 2) = true := decide_eq_true (by omega)
          simp only [go_sem, Nat.reduceLT, Nat.reduceBEq, Nat.reduceAdd, Int.reduceBEq, Nat.reduceLeDiff, reduceIte, Nat.reduceEqDiff, Int.reduceEq, Int.reduceLE, Int.reduceLT, Int.reduceNe, Nat.reduceMul, Nat.reduceSub, Int.reduceToNat, he, gp, k1, k2, k3, k4, k5, k6, k10, df0, da, db, dc, df2]
          exact ⟨⟨_, rfl⟩, by rw [show g7 r = true by unfold g7; simp only [nf0, na, nb, nc, nf2, Bool.true_or, Bool.or_true, Bool.false_or, Bool.true_and, Bool.false_and, Bool.not_false, Bool.not_true, Bool.or_false, Bool.and_false, Bool.and_true]]⟩
        have df2 : decide ((r.freq : Int) = 2) = false := decide_eq_false (by omega)
        have nf2 : decide (r.freq = 2) = false := decide_eq_false (by omega)
        simp only [go_sem, Nat.reduceLT, Nat.reduceBEq, Nat.reduceAdd, Int.reduceBEq, Nat.reduceLeDiff, reduceIte, Nat.reduceEqDiff, Int.reduceEq, Int.reduceLE, Int.reduceLT, Int.reduceNe, Nat.reduceMul, Nat.reduceSub, Int.reduceToNat, he, gp, k1, k2, k3, k4, k5, k6, k10, df0, da, db, dc, df2]
        exact ⟨⟨_, rfl⟩, by rw [show g7 r = false by unfold g7; simp only [nf0, na, nb, nc, nf2, Bool.true_or, Bool.or_true, Bool.false_or, Bool.true_and, Bool.false_and, Bool.not_false, Bool.not_true, Bool.or_false, Bool.and_false, Bool.and_true]]⟩
      have dc : decide (0 < (r.monthDay.length : Int)) = false := decide_eq_false (by omega)
      have nc : decide (0 < r.monthDay.length) = false := decide_eq_false (by omega)
      simp only [go_sem, Nat.reduceLT, Nat.reduceBEq, Nat.reduceAdd, Int.reduceBEq, Nat.reduceLeDiff, reduceIte, Nat.reduceEqDiff, Int.reduceEq, Int.reduceLE, Int.reduceLT, Int.reduceNe, Nat.reduceMul, Nat.reduceSub, Int.reduceToNat, he, gp, k1, k2, k3, k4, k5, k6, k10, df0, da, db, dc]
      exact ⟨⟨_, rfl⟩, by rw [show g7 r = false by unfold g7; simp only [nf0, na, nb, nc, Bool.true_or, Bool.or_true, Bool.false_or, Bool.true_and, Bool.false_and, Bool.not_false, Bool.not_true, Bool.or_false, Bool.and_false, Bool.and_true]]⟩
    have df0 : decide ((r.freq : Int) = 0) = false := decide_eq_false (by omega)
    have nf0 : decide (r.freq = 0) = false := decide_eq_false (by omega)
    by_cases ca : 0 < r.weekNo.length
    · have da : decide (0 < (r.weekNo.length : Int)) = true := decide_eq_true (by omega)
      have na : decide (0 < r.weekNo.length) = true := decide_eq_true (by omega)
      by_cases cb : 0 < r.easter.length
      · have db : decide (0 < (r.easter.length : Int)) = true := decide_eq_true (by omega)
        have nb : decide (0 < r.easter.length) = true := decide_eq_true (by omega)
        by_cases cc : 0 < r.monthDay.length
        · have dc : decide (0 < (r.monthDay.length : Int)) = true := decide_eq_true (by omega)
          have nc : decide (0 < r.monthDay.length) = true := decide_eq_true (by omega)
          simp only [go_sem, Nat.reduceLT, Nat.reduceBEq, Nat.reduceAdd, Int.reduceBEq, Nat.reduceLeDiff, reduceIte, Nat.reduceEqDiff, Int.reduceEq, Int.reduceLE, Int.reduceLT, Int.reduceNe, Nat.reduceMul, Nat.reduceSub, Int.reduceToNat, he, gp, k1, k2, k3, k4, k5, k6, k10, df0, da, db, dc]
          exact ⟨⟨_, rfl⟩, by rw [show g7 r = true by unfold g7; simp only [nf0, na, nb, nc, Bool.true_or, Bool.or_true, Bool.false_or, Bool.true_and, Bool.false_and, Bool.not_false, Bool.not_true, Bool.or_false, Bool.and_false, Bool.and_true]]⟩
        have dc : decide (0 < (r.monthDay.length : Int)) = false := decide_eq_false (by omega)
        have nc : decide (0 < r.monthDay.length) = false := decide_eq_false (by omega)
        simp only [go_sem, Nat.reduceLT, Nat.reduceBEq, Nat.reduceAdd, Int.reduceBEq, Nat.reduceLeDiff, reduceIte, Nat.reduceEqDiff, Int.reduceEq, Int.reduceLE, Int.reduceLT, Int.reduceNe, Nat.reduceMul, Nat.reduceSub, Int.reduceToNat, he, gp, k1, k2, k3, k4, k5, k6, k10, df0, da, db, dc]
        exact ⟨⟨_, rfl⟩, by rw [show g7 r = true by unfold g7; simp only [nf0, na, nb, nc, Bool.true_or, Bool.or_true, Bool.false_or, Bool.true_and, Bool.false_and, Bool.not_false, Bool.not_true, Bool.or_false, Bool.and_false, Bool.and_true]]⟩
      have db : decide (0 < (r.easter.length : Int)) = false := decide_eq_false (by omega)
      have nb : decide (0 < r.easter.length) = false := decide_eq_false (by omega)
      by_cases cc : 0 < r.monthDay.length
      · have dc : decide (0 < (r.monthDay.length : Int)) = true := decide_eq_true (by omega)
        have nc : decide (0 < r.monthDay.length) = true := decide_eq_true (by omega)
        simp only [go_sem, Nat.reduceLT, Nat.reduceBEq, Nat.reduceAdd, Int.reduceBEq, Nat.reduceLeDiff, reduceIte, Nat.reduceEqDiff, Int.reduceEq, Int.reduceLE, Int.reduceLT, Int.reduceNe, Nat.reduceMul, Nat.reduceSub, Int.reduceToNat, he, gp, k1, k2, k3, k4, k5, k6, k10, df0, da, db, dc]
        exact ⟨⟨_, rfl⟩, by rw [show g7 r = true by unfold g7; simp only [nf0, na, nb, nc, Bool.true_or, Bool.or_true, Bool.false_or, Bool.true_and, Bool.false_and, Bool.not_false, Bool.not_true, Bool.or_false, Bool.and_false, Bool.and_true]]⟩
      have dc : decide (0 < (r.monthDay.length : Int)) = false := decide_eq_false (by omega)
      have nc : decide (0 < r.monthDay.length) = false := decide_eq_false (by omega)
      simp only [go_sem, Nat.reduceLT, Nat.reduceBEq, Nat.reduceAdd, Int.reduceBEq, Nat.reduceLeDiff, reduceIte, Nat.reduceEqDiff, Int.reduceEq, Int.reduceLE, Int.reduceLT, Int.reduceNe, Nat.reduceMul, Nat.reduceSub, Int.reduceToNat, he, gp, k1, k2, k3, k4, k5, k6, k10, df0, da, db, dc]
      exact ⟨⟨_, rfl⟩, by rw [show g7 r = true by unfold g7; simp only [nf0, na, nb, nc, Bool.true_or, Bool.or_true, Bool.false_or, Bool.true_and, Bool.false_and, Bool.not_false, Bool.not_true, Bool.or_false, Bool.and_false, Bool.and_true]]⟩
    have da : decide (0 < (r.weekNo.length : Int)) = false := decide_eq_false (by omega)
    have na : decide (0 < r.weekNo.length) = false := decide_eq_false (by omega)
    by_cases cb : 0 < r.easter.length
    · have db : decide (0 < (r.easter.length : Int)) = true := decide_eq_true (by omega)
      have nb : decide (0 < r.easter.length) = true := decide_eq_true (by omega)
      by_cases cc : 0 < r.monthDay.length
      · have dc : decide (0 < (r.monthDay.length : Int)) = true := decide_eq_true (by omega)
        have nc : decide (0 < r.monthDay.length) = true := decide_eq_true (by omega)
        simp only [go_sem, Nat.reduceLT, Nat.reduceBEq, Nat.reduceAdd, Int.reduceBEq, Nat.reduceLeDiff, reduceIte, Nat.reduceEqDiff, Int.reduceEq, Int.reduceLE, Int.reduceLT, Int.reduceNe, Nat.reduceMul, Nat.reduceSub, Int.reduceToNat, he, gp, k1, k2, k3, k4, k5, k6, k10, df0, da, db, dc]
        exact ⟨⟨_, rfl⟩, by rw [show g7 r = true by unfold g7; simp only [nf0, na, nb, nc, Bool.true_or, Bool.or_true, Bool.false_or, Bool.true_and, Bool.false_and, Bool.not_false, Bool.not_true, Bool.or_false, Bool.and_false, Bool.and_true]]⟩
      have dc : decide (0 < (r.monthDay.length : Int)) = false := decide_eq_false (by omega)
      have nc : decide (0 < r.monthDay.length) = false := decide_eq_false (by omega)
      simp only [go_sem, Nat.reduceLT, Nat.reduceBEq, Nat.reduceAdd, Int.reduceBEq, Nat.reduceLeDiff, reduceIte, Nat.reduceEqDiff, Int.reduceEq, Int.reduceLE, Int.reduceLT, Int.reduceNe, Nat.reduceMul, Nat.reduceSub, Int.reduceToNat, he, gp, k1, k2, k3, k4, k5, k6, k10, df0, da, db, dc]
      exact ⟨⟨_, rfl⟩, by rw [show g7 r = true by unfold g7; simp only [nf0, na, nb, nc, Bool.true_or, Bool.or_true, Bool.false_or, Bool.true_and, Bool.false_and, Bool.not_false, Bool.not_true, Bool.or_false, Bool.and_false, Bool.and_true]]⟩
    have db : decide (0 < (r.easter.length : Int)) = false := decide_eq_false (by omega)
    have nb : decide (0 < r.easter.length) = false := decide_eq_false (by omega)
    by_cases cc : 0 < r.monthDay.length
    · have dc : decide (0 < (r.monthDay.length : Int)) = true := decide_eq_true (by omega)
      have nc : decide (0 < r.monthDay.length) = true := decide_eq_true (by omega)
      by_cases cf2 : r.freq = 2
      · have df2 : decide ((r.freq : Int) = 2) = true := decide_eq_true (by omega)
        have nf2 : decide (r.freq = 2) = true := decide_eq_true (by omega)
        simp only [go_sem, Nat.reduceLT, Nat.reduceBEq, Nat.reduceAdd, Int.reduceBEq, Nat.reduceLeDiff, reduceIte, Nat.reduceEqDiff, Int.reduceEq, Int.reduceLE, Int.reduceLT, Int.reduceNe, Nat.reduceMul, Nat.reduceSub, Int.reduceToNat, he, gp, k1, k2, k3, k4, k5, k6, k10, df0, da, db, dc, df2]
        exact ⟨⟨_, rfl⟩, by rw [show g7 r = true by unfold g7; simp only [nf0, na, nb, nc, nf2, Bool.true_or, Bool.or_true, Bool.false_or, Bool.true_and, Bool.false_and, Bool.not_false, Bool.not_true, Bool.or_false, Bool.and_false, Bool.and_true]]⟩
      have df2 : decide ((r.freq : Int) = 2) = false := decide_eq_false (by omega)
      have nf2 : decide (r.freq = 2) = false := decide_eq_false (by omega)
      simp only [go_sem, Nat.reduceLT, Nat.reduceBEq, Nat.reduceAdd, Int.reduceBEq, Nat.reduceLeDiff, reduceIte, Nat.reduceEqDiff, Int.reduceEq, Int.reduceLE, Int.reduceLT, Int.reduceNe, Nat.reduceMul, Nat.reduceSub, Int.reduceToNat, he, gp, k1, k2, k3, k4, k5, k6, k10, df0, da, db, dc, df2]
      exact ⟨⟨_, rfl⟩, by rw [show g7 r = false by unfold g7; simp only [nf0, na, nb, nc, nf2, Bool.true_or, Bool.or_true, Bool.false_or, Bool.true_and, Bool.false_and, Bool.not_false, Bool.not_true, Bool.or_false, Bool.and_false, Bool.and_true]]⟩
    have dc : decide (0 < (r.monthDay.length : Int)) = false := decide_eq_false (by omega)
    have nc : decide (0 < r.monthDay.length) = false := decide_eq_false (by omega)
    simp only [go_sem, Nat.reduceLT, Nat.reduceBEq, Nat.reduceAdd, Int.reduceBEq, Nat.reduceLeDiff, reduceIte, Nat.reduceEqDiff, Int.reduceEq, Int.reduceLE, Int.reduceLT, Int.reduceNe, Nat.reduceMul, Nat.reduceSub, Int.reduceToNat, he, gp, k1, k2, k3, k4, k5, k6, k10, df0, da, db, dc]
    exact ⟨⟨_, rfl⟩, by rw [show g7 r = false by unfold g7; simp only [nf0, na, nb, nc, Bool.true_or, Bool.or_true, Bool.false_or, Bool.true_and, Bool.false_and, Bool.not_false, Bool.not_true, Bool.or_false, Bool.and_false, Bool.and_true]]⟩
  rintro e h ⟨⟨G, rfl⟩, he, gp, gt⟩
  simp only [go_sem, Nat.reduceLT, Nat.reduceBEq, Nat.reduceAdd, Int.reduceBEq, Nat.reduceLeDiff, reduceIte, Nat.reduceEqDiff, Int.reduceEq, Int.reduceLE, Int.reduceLT, Int.reduceNe, Nat.reduceMul, Nat.reduceSub, Int.reduceToNat, he, gp, gt, k4]
  refine condK_of (fun hq => ?_) fun hq => ?_
  · simp only [go_sem, Nat.reduceLT, Nat.reduceBEq, Nat.reduceAdd, Int.reduceBEq, Nat.reduceLeDiff, reduceIte, Nat.reduceEqDiff, Int.reduceEq, Int.reduceLE, Int.reduceLT, Int.reduceNe, Nat.reduceMul, Nat.reduceSub, Int.reduceToNat, he, gp, gt]
    rw [clean_g7 hq]
    exact ⟨rfl, _, rfl⟩
  rename g7 r = false => q7
  simp only [go_sem, Nat.reduceLT, Nat.reduceBEq, Nat.reduceAdd, Int.reduceBEq, Nat.reduceLeDiff, reduceIte, Nat.reduceEqDiff, Int.reduceEq, Int.reduceLE, Int.reduceLT, Int.reduceNe, Nat.reduceMul, Nat.reduceSub, Int.reduceToNat, he, gp, gt, k4]
  refine guardK_join (fun e h => (∃ G, h = H ++ AObj.own 25 [vU r.freq, vB r.hasStart, vI r.start, vI r.interval, vI r.wkst, vI r.count, vB r.hasUntil, vI r.til, x.setPos, x.month, x.monthDay, x.yearDay, x.weekNo, x.day, x.hour, x.minute, x.second, x.easter] :: G) ∧ len e = 264 ∧ AL.get e 1 = .ptr H.length 0 ∧ AL.get e 255 = vB (g8 r)) ?_ ?_
  · by_cases cy : 0 < r.yearDay.length
    · have dy : decide (0 < (r.yearDay.length : Int)) = true := decide_eq_true (by omega)
      have ny : decide (0 < r.yearDay.length) = true := decide_eq_true (by omega)
      by_cases cf1 : r.freq = 1
      · have df1 : decide ((r.freq : Int) = 1) = true := decide_eq_true (by omega)
        have nf1 : decide (r.freq = 1) = true := decide_eq_true (by omega)
        simp only [go_sem, Nat.reduceLT, Nat.reduceBEq, Nat.reduceAdd, Int.reduceBEq, Nat.reduceLeDiff, reduceIte, Nat.reduceEqDiff, Int.reduceEq, Int.reduceLE, Int.reduceLT, Int.reduceNe, Nat.reduceMul, Nat.reduceSub, Int.reduceToNat, he, gp, k1, k2, k3, k4, k5, k6, k10, dy, df1]
        exact ⟨⟨_, rfl⟩, by rw [show g8 r = true by unfold g8; simp only [ny, nf1, Bool.true_or, Bool.or_true, Bool.false_or, Bool.true_and, Bool.false_and, Bool.not_false, Bool.not_true, Bool.or_false, Bool.and_false, Bool.and_true]]⟩
      have df1 : decide ((r.freq : Int) = 1) = false := decide_eq_false (by omega)
      have nf1 : decide (r.freq = 1) = false := decide_eq_false (by omega)
      by_cases cf2 : r.freq = 2
      · have df2 : decide ((r.freq : Int) = 2) = true := decide_eq_true (by omega)
        have nf2 : decide (r.freq = 2) = true := decide_eq_true (by omega)
        simp only [go_sem, Nat.reduceLT, Nat.reduceBEq, Nat.reduceAdd, Int.reduceBEq, Nat.reduceLeDiff, reduceIte, Nat.reduceEqDiff, Int.reduceEq, Int.reduceLE, Int.reduceLT, Int.reduceNe, Nat.reduceMul, Nat.reduceSub, Int.reduceToNat, he, gp, k1, k2, k3, k4, k5, k6, k10, dy, df1, df2]
        exact ⟨⟨_, rfl⟩, by rw [show g8 r = true by unfold g8; simp only [ny, nf1, nf2, Bool.true_or, Bool.or_true, Bool.false_or, Bool.true_and, Bool.false_and, Bool.not_false, Bool.not_true, Bool.or_false, Bool.and_false, Bool.and_true]]⟩
      have df2 : decide ((r.freq : Int) = 2) = false := decide_eq_false (by omega)
      have nf2 : decide (r.freq = 2) = false := decide_eq_false (by omega)
      by_cases cf3 : r.freq = 3
      · have df3 : decide ((r.freq : Int) = 3) = true := decide_eq_true (by omega)
        have nf3 : decide (r.freq = 3) = true := decide_eq_true (by omega)
        simp only [go_sem, Nat.reduceLT, Nat.reduceBEq, Nat.reduceAdd, Int.reduceBEq, Nat.reduceLeDiff, reduceIte, Nat.reduceEqDiff, Int.reduceEq, Int.reduceLE, Int.reduceLT, Int.reduceNe, Nat.reduceMul, Nat.reduceSub, Int.reduceToNat, he, gp, k1, k2, k3, k4, k5, k6, k10, dy, df1, df2, df3]
        exact ⟨⟨_, rfl⟩, by rw [show g8 r = true by unfold g8; simp only [ny, nf1, nf2, nf3, Bool.true_or, Bool.or_true, Bool.false_or, Bool.true_and, Bool.false_and, Bool.not_false, Bool.not_true, Bool.or_false, Bool.and_false, Bool.and_true]]⟩
      have df3 : decide ((r.freq : Int) = 3) = false := decide_eq_false (by omega)
      have nf3 : decide (r.freq = 3) = false := decide_eq_false (by omega)
      simp only [go_sem, Nat.reduceLT, Nat.reduceBEq, Nat.reduceAdd, Int.reduceBEq, Nat.reduceLeDiff, reduceIte, Nat.reduceEqDiff, Int.reduceEq, Int.reduceLE, Int.reduceLT, Int.reduceNe, Nat.reduceMul, Nat.reduceSub, Int.reduceToNat, he, gp, k1, k2, k3, k4, k5, k6, k10, dy, df1, df2, df3]
      exact ⟨⟨_, rfl⟩, by rw [show g8 r = false by unfold g8; simp only [ny, nf1, nf2, nf3, Bool.true_or, Bool.or_true, Bool.false_or, Bool.true_and, Bool.false_and, Bool.not_false, Bool.not_true, Bool.or_false, Bool.and_false, Bool.and_true]]⟩
    have dy : decide (0 < (r.yearDay.length : Int)) = false := decide_eq_false (by omega)
    have ny : decide (0 < r.yearDay.length) = false := decide_eq_false (by omega)
    simp only [go_sem, Nat.reduceLT, Nat.reduceBEq, Nat.reduceAdd, Int.reduceBEq, Nat.reduceLeDiff, reduceIte, Nat.reduceEqDiff, Int.reduceEq, Int.reduceLE, Int.reduceLT, Int.reduceNe, Nat.reduceMul, Nat.reduceSub, Int.reduceToNat, he, gp, k1, k2, k3, k4, k5, k6, k10, dy]
    exact ⟨⟨_, rfl⟩, by rw [show g8 r = false by unfold g8; simp only [ny, Bool.true_or, Bool.or_true, Bool.false_or, Bool.true_and, Bool.false_and, Bool.not_false, Bool.not_true, Bool.or_false, Bool.and_false, Bool.and_true]]⟩
  rintro e h ⟨⟨G, rfl⟩, he, gp, gt⟩
  simp only [go_sem, Nat.reduceLT, Nat.reduceBEq, Nat.reduceAdd, Int.reduceBEq, Nat.reduceLeDiff, reduceIte, Nat.reduceEqDiff, Int.reduceEq, Int.reduceLE, Int.reduceLT, Int.reduceNe, Nat.reduceMul, Nat.reduceSub, Int.reduceToNat, he, gp, gt]
  refine condK_of (fun hq => ?_) fun hq => ?_
  · simp only [go_sem, Nat.reduceLT, Nat.reduceBEq, Nat.reduceAdd, Int.reduceBEq, Nat.reduceLeDiff, reduceIte, Nat.reduceEqDiff, Int.reduceEq, Int.reduceLE, Int.reduceLT, Int.reduceNe, Nat.reduceMul, Nat.reduceSub, Int.reduceToNat, he, gp, gt]
    rw [clean_g8 hq]
    exact ⟨rfl, _, rfl⟩
  rename g8 r = false => q8
  have hfin : clean r = (decide (r.setPos.length = 0) || parted r) := by unfold clean; simp only [q1, q2, q3, q4, q5', q6, q7, q8, Bool.not_false, Bool.true_and]
  by_cases hs : r.setPos.length = 0
  · have ds : decide ((r.setPos.length : Int) = 0) = true := decide_eq_true (by omega)
    simp only [go_sem, Nat.reduceLT, Nat.reduceBEq, Nat.reduceAdd, Int.reduceBEq, Nat.reduceLeDiff, reduceIte, Nat.reduceEqDiff, Int.reduceEq, Int.reduceLE, Int.reduceLT, Int.reduceNe, Nat.reduceMul, Nat.reduceSub, Int.reduceToNat, he, gp, gt, k1, ds]
    rw [hfin, decide_eq_true hs]
    exact ⟨rfl, _, rfl⟩
  have ds : decide ((r.setPos.length : Int) = 0) = false := decide_eq_false (by omega)
  simp only [go_sem, Nat.reduceLT, Nat.reduceBEq, Nat.reduceAdd, Int.reduceBEq, Nat.reduceLeDiff, reduceIte, Nat.reduceEqDiff, Int.reduceEq, Int.reduceLE, Int.reduceLT, Int.reduceNe, Nat.reduceMul, Nat.reduceSub, Int.reduceToNat, he, gp, gt, k1, ds]
  refine callX_of (parted_A r x hl _ (hx.more _)) (List.prefix_refl _) ?_
  simp only [go_sem, Nat.reduceLT, Nat.reduceBEq, Nat.reduceAdd, Int.reduceBEq, Nat.reduceLeDiff, reduceIte, Nat.reduceEqDiff, Int.reduceEq, Int.reduceLE, Int.reduceLT, Int.reduceNe, Nat.reduceMul, Nat.reduceSub, Int.reduceToNat, he, gp, gt, setD_some]
  rw [hfin, decide_eq_false hs, Bool.false_or]
  exact ⟨rfl, _, rfl⟩
end Go.Proofs.YtlfpjdcogkcjlaaGreatDoor.F
/- Arguments opened: slices and structs as objects of the abstract heap. -/
namespace Go.Proofs.YtlfpjdcogkcjlaaGreatDoor.F
open Go.ChangeShapes Go.WideShapes Go.RowKit Go.Deep Go.Proofs.YtlfpjdcogkcjlaaGreatDoor.AL Go.Proofs.YtlfpjdcogkcjlaaGreatDoor.B
set_option linter.unusedVariables false
def InSl (W : World) (v : Value) (n st : Nat) (cell : Nat → Value) : Prop :=
  (v = .slice none 0 0 ∧ n = 0) ∨ ∃ a cap, v = .slice (some a) n cap ∧ n ≤ cap ∧ cap ≤ 9223372036854775807 ∧ ∀ i, i < cap * st → W.cell? (a.add i) = some (cell i)
/-- A value that comes in as an object. -/
structure Obj1 (W : World) (v : Value) (x : Nat → AV) (pl : Nat × Nat) (ob : AObj) : Prop where
  rel : ∀ (o : Nat) (m : Places), m[o]? = some pl → AL.rel m W (x o) v
  relO : ∀ m : Places, AL.relO (CB W) m W pl ob
  mine : ob.mine = false
theorem cell_block {W : World} {a : Addr} {v : Value} (h : W.cell? a = some v) : ∃ arr e fr, W.heap[a.block]? = some (.cells arr e fr) ∧ arr[a.off]? = some v := by
  have hs := World.cell?_spot h
  unfold World.cell? at h
  split at h
  · rename_i c e fr hc
    rw [hs] at h
    exact ⟨c, e, fr, hc, by simpa using h⟩
  · cases h
theorem inSl_obj {W : World} {v : Value} {n st : Nat} {cell : Nat → Value} (hst : 0 < st) (h : InSl W v n st cell) (hW : 0 < W.heap.size) :
    ∃ (x : Nat → AV) (pl : Nat × Nat) (ob : AObj), Obj1 W v x pl ob ∧ ∀ (o : Nat) (H : Heap), H[o]? = some ob → SlOf H (x o) n st fun i => .val (cell i) := by
  rcases h with ⟨rfl, rfl⟩ | ⟨a, cap, rfl, hn, hc, hcell⟩
  · exact ⟨fun _ => .val (.slice none 0 0), (0, 0), .gone, ⟨fun _ _ _ => rfl, fun _ => trivial, rfl⟩, fun _ _ _ => .inl ⟨rfl, rfl⟩⟩
  · rcases Nat.eq_zero_or_pos cap with h0 | h0
    · subst h0
      obtain rfl : n = 0 := by omega
      refine ⟨fun o => .sl false o 0 0 st, (0, 0), .ro [], ⟨fun o m hm => ⟨(0, 0), a, 0, hm, rfl, Nat.le_refl _, by omega, fun h => absurd h (by omega), fun h => by cases h⟩, fun m => ⟨hW, fun j c hj => by simp at hj⟩, rfl⟩, fun o H ho => ?_⟩
      exact .inr ⟨false, o, 0, [], rfl, by rw [ho]; rfl, fun i hi => absurd hi (by omega)⟩
    · have hpos : 0 < cap * st := Nat.mul_pos h0 hst
      have hc0 := hcell 0 hpos
      have hsp := World.cell?_spot hc0
      obtain ⟨b, off, spot⟩ := a
      have e0 : (⟨b, off, spot⟩ : Addr).add 0 = ⟨b, off, spot⟩ := rfl
      rw [e0] at hsp hc0
      simp only at hsp
      subst hsp
      have ea : ∀ j, (⟨b, off, none⟩ : Addr).add j = ⟨b, off + j, none⟩ := by
        intro j
        unfold Addr.add
        split
        · rename_i hj; subst hj; rfl
        · rfl
      obtain ⟨arr, e, fr, hb, _⟩ := cell_block hc0
      simp only at hb
      have hlt : b < W.heap.size := (Array.getElem?_eq_some_iff.1 hb).1
      have hroom : off + cap * st ≤ arr.size := by
        have h1 := hcell (cap * st - 1) (by omega)
        rw [ea] at h1
        obtain ⟨arr', e', fr', hb', h2⟩ := cell_block h1
        simp only at hb' h2
        rw [hb] at hb'
        simp only [Option.some.injEq, Obj.cells.injEq] at hb'
        obtain ⟨rfl, rfl, rfl⟩ := hb'
        have := (Array.getElem?_eq_some_iff.1 h2).1
        omega
      refine ⟨fun o => .sl false o 0 n st, (b, off), .ro ((List.range (cap * st)).map fun i => .val (cell i)), ⟨fun o m hm => ⟨(b, off), ⟨b, off, none⟩, cap, hm, rfl, hn, hc, fun _ => ⟨rfl, arr, e, fr, hb, hroom⟩, fun h => by cases h⟩, fun m => ⟨hlt, fun j c hj => ?_⟩, rfl⟩, fun o H ho => ?_⟩
      · have hjl : j < cap * st := by
          have := (List.getElem?_eq_some_iff.1 hj).1
          simpa using this
        simp only [List.getElem?_map, List.getElem?_range hjl, Option.map_some, Option.some.injEq] at hj
        subst hj
        have := hcell j hjl
        rw [ea] at this
        exact ⟨_, this, rfl⟩
      · refine .inr ⟨false, o, 0, _, rfl, by rw [ho]; rfl, fun i hi => ?_⟩
        have hil : i < cap * st := Nat.lt_of_lt_of_le hi (Nat.mul_le_mul_right _ hn)
        rw [Nat.zero_add, List.getElem?_map, List.getElem?_range hil]
        rfl
theorem SlOf.congr {H : Heap} {x : AV} {n st : Nat} {c c' : Nat → AV} (h : SlOf H x n st c) (he : ∀ i, i < n * st → c i = c' i) : SlOf H x n st c' := by
  rcases h with h | ⟨own, o, off, cs, h1, h2, h3⟩
  · exact .inl h
  · exact .inr ⟨own, o, off, cs, h1, h2, fun i hi => by rw [h3 i hi, he i hi]⟩
theorem wf_range {n : Int} (h : (Lit.int .i64 n).wf = true) : -9223372036854775808 ≤ n ∧ n ≤ 9223372036854775807 := by
  have e : (Lit.int .i64 n).wf = (decide (-9223372036854775808 ≤ n) && decide (n ≤ 9223372036854775807)) := rfl
  rw [e] at h
  simpa using h
theorem wf_range8 {n : Int} (h : (Lit.int .u8 n).wf = true) : 0 ≤ n ∧ n ≤ 255 := by
  have e : (Lit.int .u8 n).wf = (decide (0 ≤ n) && decide (n ≤ 255)) := rfl
  rw [e] at h
  simpa using h
section
variable {H : Type} {enc : TypeId × Value → H} {P : Program} {W : World}
def numV : Value → Int
  | .int _ n => n
  | _ => 0
theorem ints_obj {t e : TypeId} {fuel : Nat} {v : Value} {y : DataW H × List MemPlace} (ht : P.underlying t = some (.slice e)) (he : P.underlying e = some (.int .i64)) (hc : P.cellsOf e = 1) (hW : 0 < W.heap.size)
    (h : DataW.trod enc P W 0 (fun _ => true) true fuel t [v] = some y) :
    ∃ (x : Nat → AV) (pl : Nat × Nat) (ob : AObj) (l : List Int), Obj1 W v x pl ob ∧ (∀ (o : Nat) (H : Heap), H[o]? = some ob → IntsAt H (x o) l) ∧ ∀ n ∈ l, -9223372036854775808 ≤ n ∧ n ≤ 9223372036854775807 := by
  rcases open_ints ht he hc h with ⟨hcs, _⟩ | ⟨a, len, cap, zs, hcs, _, hl, hm, hz, _, hcell, hw⟩
  · simp only [List.cons.injEq, and_true] at hcs
    obtain ⟨x, pl, ob, h1, h2⟩ := inSl_obj (W := W) (v := v) (n := 0) (st := 1) (cell := fun _ => .bool false) (by omega) (.inl ⟨hcs, rfl⟩) hW
    exact ⟨x, pl, ob, [], h1, fun o H ho => (h2 o H ho).congr (fun i hi => absurd hi (by omega)), fun n hn => by cases hn⟩
  · simp only [List.cons.injEq, and_true] at hcs
    simp only [if_true] at hz
    obtain ⟨x, pl, ob, h1, h2⟩ := inSl_obj (W := W) (v := v) (n := len) (st := 1) (cell := fun i => .int .i64 (zs.getD i 0)) (by omega) (.inr ⟨a, cap, hcs, hl, hm, fun i hi => hcell i (by omega)⟩) hW
    have hlen : (zs.take len).length = len := by rw [List.length_take]; omega
    refine ⟨x, pl, ob, zs.take len, h1, fun o H ho => ?_, fun n hn => wf_range (hw n (List.mem_of_mem_take hn))⟩
    unfold IntsAt
    rw [hlen]
    refine (h2 o H ho).congr fun i hi => ?_
    have : (zs.take len).getD i 0 = zs.getD i 0 := by
      rw [List.getD_eq_getElem?_getD, List.getD_eq_getElem?_getD, List.getElem?_take_of_lt (by omega)]
    rw [this]
theorem days_obj {t e : TypeId} {f0 f1 : Field} {fuel : Nat} {v : Value} {y : DataW H × List MemPlace} (ht : P.underlying t = some (.slice e)) (he : P.underlying e = some (.struct #[f0, f1])) (ce : P.cellsOf e = 2) (o0 : f0.offset = 0) (o1 : f1.offset = 1)
    (c0 : P.cellsOf f0.type = 1) (c1 : P.cellsOf f1.type = 1) (t0 : P.underlying f0.type = some (.int .i64)) (t1 : P.underlying f1.type = some (.int .i64)) (hW : 0 < W.heap.size)
    (h : DataW.trod enc P W 0 (fun _ => true) true fuel t [v] = some y) :
    ∃ (x : Nat → AV) (pl : Nat × Nat) (ob : AObj) (l : List (Int × Int)), Obj1 W v x pl ob ∧ (∀ (o : Nat) (H : Heap), H[o]? = some ob → DaysAt H (x o) l) ∧
      ∀ d ∈ l, (-9223372036854775808 ≤ d.1 ∧ d.1 ≤ 9223372036854775807) ∧ (-9223372036854775808 ≤ d.2 ∧ d.2 ≤ 9223372036854775807) := by
  rcases open_slice_pairs ht he ce o0 o1 c0 c1 h with ⟨hcs, _⟩ | ⟨a, len, cap, m, n, V0, V1, D0, D1, P0, P1, hcs, _, hl, hm, hz, _, hcell⟩
  · simp only [List.cons.injEq, and_true] at hcs
    obtain ⟨x, pl, ob, h1, h2⟩ := inSl_obj (W := W) (v := v) (n := 0) (st := 2) (cell := fun _ => .bool false) (by omega) (.inl ⟨hcs, rfl⟩) hW
    exact ⟨x, pl, ob, [], h1, fun o H ho => (h2 o H ho).congr (fun i hi => absurd hi (by omega)), fun n hn => by cases hn⟩
  · simp only [List.cons.injEq, and_true] at hcs
    simp only [if_true] at hz
    subst hz
    have each : ∀ i, i < m → W.cell? (a.add (i * 2)) = some (.int .i64 (numV (V0 i))) ∧ W.cell? (a.add (i * 2 + 1)) = some (.int .i64 (numV (V1 i))) ∧ (Lit.int .i64 (numV (V0 i))).wf = true ∧ (Lit.int .i64 (numV (V1 i))).wf = true := by
      intro i hi
      obtain ⟨h1, h2, h3, h4⟩ := hcell i hi
      obtain ⟨n0, e0, _, w0⟩ := DataW.trod_int t0 h3
      obtain ⟨n1, e1, _, w1⟩ := DataW.trod_int t1 h4
      simp only [List.cons.injEq, and_true] at e0 e1
      rw [e0] at h1 ⊢
      rw [e1] at h2 ⊢
      exact ⟨h1, h2, w0, w1⟩
    obtain ⟨x, pl, ob, h1, h2⟩ := inSl_obj (W := W) (v := v) (n := len) (st := 2) (cell := fun i => .int .i64 (if i % 2 = 0 then numV (V0 (i / 2)) else numV (V1 (i / 2)))) (by omega) (.inr ⟨a, m, hcs, hl, hm, fun i hi => by
      obtain ⟨k1, k2, _⟩ := each (i / 2) (by omega)
      show W.cell? (a.add i) = some (Value.int .i64 (if i % 2 = 0 then numV (V0 (i / 2)) else numV (V1 (i / 2))))
      split
      · rename_i hp
        rw [show i / 2 * 2 = i by omega] at k1
        exact k1
      · rename_i hp
        rw [show i / 2 * 2 + 1 = i by omega] at k2
        exact k2⟩) hW
    have hlen : ((List.range len).map fun i => (numV (V0 i), numV (V1 i))).length = len := by simp
    refine ⟨x, pl, ob, (List.range len).map fun i => (numV (V0 i), numV (V1 i)), h1, fun o H ho => ?_, fun d hd => ?_⟩
    · unfold DaysAt
      rw [hlen]
      refine (h2 o H ho).congr fun i hi => ?_
      have : ((List.range len).map fun i => (numV (V0 i), numV (V1 i))).getD (i / 2) (0, 0) = (numV (V0 (i / 2)), numV (V1 (i / 2))) := by
        rw [List.getD_eq_getElem?_getD, List.getElem?_map, List.getElem?_range (by omega)]
        rfl
      rw [this]
      split <;> rfl
    · obtain ⟨i, hi, rfl⟩ := List.mem_map.1 hd
      obtain ⟨_, _, w0, w1⟩ := each i (by have := List.mem_range.1 hi; omega)
      exact ⟨wf_range w0, wf_range w1⟩
theorem open_fields {r : Reach} {b0 : Nat} {t : TypeId} {fs : Array Field} {v : Value} {d : DataW H} {p : List MemPlace} (hs : P.underlying t = some (.struct fs)) (hone : oneCellFields P fs = true) (hC : P.cellsOf t = fs.size) (hv : Value.okWide P W r b0 t v) (h : DataW.Trod enc P W 0 (fun _ => true) true t v d p) :
    ∃ l : List Value, v = .agg ⟨l⟩ ∧ l.length = fs.size ∧ ∃ n, ∀ (i : Nat) (f : Field) (c : Value), fs[i]? = some f → l[i]? = some c → ∃ y, DataW.trod enc P W 0 (fun _ => true) true n f.type [c] = some y := by
  obtain ⟨cs, rfl, hsz⟩ := okWide_struct hs hv
  obtain ⟨l⟩ := cs
  obtain ⟨fuel, hf⟩ := h
  obtain ⟨xs, n, _, _, _, hxl, hg⟩ := DataW.trod_struct hs hf
  refine ⟨l, rfl, hsz.trans hC, n, fun i f c hi hc => ?_⟩
  obtain ⟨ho, hk⟩ := hone_of hone i f hi
  have h1 := hg i f hi
  have hil : i < xs.length := by
    have := (Array.getElem?_eq_some_iff.1 hi).1
    omega
  have hcl := (List.getElem?_eq_some_iff.1 hc).1
  rw [ho, hk, List.getElem?_eq_getElem hil] at h1
  have e1 : (((Value.agg ⟨l⟩).cells).toList.drop i).take 1 = [c] := by
    show (l.drop i).take 1 = [c]
    rw [List.drop_eq_getElem_cons hcl, (List.getElem?_eq_some_iff.1 hc).2]
    rfl
  rw [e1] at h1
  exact ⟨_, h1⟩
end
end Go.Proofs.YtlfpjdcogkcjlaaGreatDoor.F
/- What the row's list gives; the heap in which a law begins. -/
namespace Go.Proofs.YtlfpjdcogkcjlaaGreatDoor.F
open Go.ChangeShapes Go.WideShapes Go.RowKit Go.Deep Go.Proofs.YtlfpjdcogkcjlaaGreatDoor.AL Go.Proofs.YtlfpjdcogkcjlaaGreatDoor.B
set_option linter.unusedVariables false
set_option maxRecDepth 100000
theorem laid_mem {P : Program} {w : World} : ∀ {l : List (String × DataW Unit)} {ps : List MemPlace}, DataW.LaidVars P w l ps → ∀ (n : String) (d : DataW Unit), (n, d) ∈ l → ∃ g t cs fuel p, P.globalNamed n = some g ∧ (P.globals[g]?).map (·.type) = some t ∧ w.var? P n = some cs ∧ DataW.trod (fun _ => ()) P w 0 (fun _ => true) false fuel t cs.toList = some (d, p)
  | [], _, _, _, _, h => by cases h
  | (n', d') :: r, ps, h, n, d, hm => by
    obtain ⟨g, t, cs, fuel, p, q, h1, h2, h3, h4, h5, e⟩ := h
    rcases List.mem_cons.1 hm with he | hm
    · cases he
      exact ⟨g, t, cs, fuel, p, h1, h2, h3, h4⟩
    · exact laid_mem h5 n d hm
theorem laid_at {W : World} (h : laidMetH Tryz.prog laid W) (i : Nat) (n : String) (d : DataW Unit) (hi : laid[i]? = some (n, d)) {g : Nat} {t : TypeId} (hg : Tryz.prog.globalNamed n = some g) (ht : (Tryz.prog.globals[g]?).map (·.type) = some t) :
    ∃ cs fuel p, W.var? Tryz.prog n = some cs ∧ DataW.trod (fun _ => ()) Tryz.prog W 0 (fun _ => true) false fuel t cs.toList = some (d, p) := by
  rw [MakeChecks.laidMetH_plain _ _ _ (by kernel_rfl)] at h
  obtain ⟨ps, hv, _⟩ := h
  obtain ⟨g', t', cs, fuel, p, h1, h2, h3, h4⟩ := laid_mem hv n d (List.mem_of_getElem? hi)
  obtain rfl := Option.some.inj (hg.symm.trans h1)
  obtain rfl := Option.some.inj (ht.symm.trans h2)
  exact ⟨cs, fuel, p, h3, h4⟩
theorem laid_tab {W : World} (h : laidMetH Tryz.prog laid W) (i : Nat) (n : String) {k : IntKind} {zs : List Int} (hi : laid[i]? = some (n, Lib.tabData k zs)) {g : Nat} {t e : TypeId} {m : Nat} (hg : Tryz.prog.globalNamed n = some g) (ht : (Tryz.prog.globals[g]?).map (·.type) = some t)
    (hu : Tryz.prog.underlying t = some (.array m e)) (he : Tryz.prog.underlying e = some (.int k)) (hce : Tryz.prog.cellsOf e = 1) (hct : Tryz.prog.cellsOf t = m) : Lib.TabIs Tryz.prog W n k zs := by
  obtain ⟨cs, fuel, p, h3, h4⟩ := laid_at h i n _ hi hg ht
  unfold Lib.TabIs
  rw [h3, ← Lib.cells_of_tab hu he hce hct h4]
theorem c84 : Tryz.prog.cellsOf 84 = 2 := by kernel_rfl
theorem c3 : Tryz.prog.cellsOf 3 = 1 := by kernel_rfl
theorem laid_day {W : World} (h : laidMetH Tryz.prog laid W) (i : Nat) (n : String) {a b : Int} (hi : laid[i]? = some (n, .agg [.lit (.int .i64 a), .lit (.int .i64 b)])) {g : Nat} (hg : Tryz.prog.globalNamed n = some g) (ht : (Tryz.prog.globals[g]?).map (·.type) = some 84) :
    W.cell? ⟨g, 0, none⟩ = some (.int .i64 a) ∧ W.cell? ⟨g, 1, none⟩ = some (.int .i64 b) := by
  obtain ⟨cs, fuel, p, h3, h4⟩ := laid_at h i n _ hi hg ht
  obtain ⟨y0, y1, m, e, hl, r0, r1⟩ := trod_struct2 Tryz.underlying84 h4
  obtain ⟨n0, e0, f0, _⟩ := DataW.trod_int Tryz.underlying3 r0
  obtain ⟨n1, e1, f1, _⟩ := DataW.trod_int Tryz.underlying3 r1
  subst f0; subst f1
  simp only [Prod.mk.injEq, DataW.agg.injEq, List.cons.injEq, DataW.lit.injEq, Lit.int.injEq, true_and, and_true] at e
  obtain ⟨⟨rfl, rfl⟩, _⟩ := e
  rw [World.var?_cell hg h3, World.var?_cell hg h3]
  obtain ⟨l⟩ := cs
  rw [c84] at hl
  match l, hl with
  | [v0, v1], _ =>
    have k3 : Tryz.prog.cellsOf 3 = 1 := c3
    simp only [k3, List.drop_zero, List.take_succ_cons, List.take_zero, List.cons.injEq, and_true] at e0
    simp only [k3, List.drop_succ_cons, List.drop_zero, List.take_succ_cons, List.take_zero, List.cons.injEq, and_true] at e1
    subst e0; subst e1
    exact ⟨rfl, rfl⟩
theorem trod_err {P : Program} {w : World} {t : TypeId} {ms : Array (String × TypeId)} {fuel : Nat} {cs : List Value} {x : DataW Unit × List MemPlace} (ht : P.underlying t = some (.interface ms)) (h : DataW.trod (fun _ => ()) P w 0 (fun _ => true) false fuel t cs = some x) :
    ∃ ev, cs = [ev] ∧ (ev = .nilIface ∨ ∃ te pe, ev = .iface te pe) := by
  cases fuel with
  | zero => simp [DataW.trod] at h
  | succ n =>
    unfold DataW.trod at h
    rw [ht] at h
    split at h <;> simp_all
theorem laid_err {W : World} (h : laidMetH Tryz.prog laid W) (i : Nat) (n : String) {d : DataW Unit} (hi : laid[i]? = some (n, d)) {g : Nat} (hg : Tryz.prog.globalNamed n = some g) (ht : (Tryz.prog.globals[g]?).map (·.type) = some 67) :
    ∃ ev, W.cell? ⟨g, 0, none⟩ = some ev ∧ (ev = .nilIface ∨ ∃ te pe, ev = .iface te pe) := by
  obtain ⟨cs, fuel, p, h3, h4⟩ := laid_at h i n _ hi hg ht
  obtain ⟨ev, e, hev⟩ := trod_err Tryz.underlying67 h4
  refine ⟨ev, ?_, hev⟩
  rw [World.var?_cell hg h3]
  obtain ⟨l⟩ := cs
  simp only at e
  subst e
  rfl
theorem glob_of {W : World} (h : laidMetH Tryz.prog laid W) : Glob W where
  ascii := laid_tab h 7 _ (by kernel_rfl) gAscii (t := 172) (by kernel_rfl) Tryz.underlying172 Tryz.underlying5 (by kernel_rfl) (by kernel_rfl)
  pow := laid_tab h 2 _ (by kernel_rfl) gPow (t := 211) (by kernel_rfl) Tryz.underlying211 (by kernel_rfl) (by kernel_rfl) (by kernel_rfl)
  errR := laid_err h 4 "strconv.ErrRange" (d := Rows.laid_strconv_ErrRange) (by kernel_rfl) (by kernel_rfl) (by kernel_rfl)
  errS := laid_err h 5 "strconv.ErrSyntax" (d := Rows.laid_strconv_ErrSyntax) (by kernel_rfl) (by kernel_rfl) (by kernel_rfl)
  mo := laid_day h 8 "pub-hebdomad/pub/rrule.MO" (by kernel_rfl) (by kernel_rfl) (by kernel_rfl)
  tu := laid_day h 9 "pub-hebdomad/pub/rrule.TU" (by kernel_rfl) (by kernel_rfl) (by kernel_rfl)
  we := laid_day h 10 "pub-hebdomad/pub/rrule.WE" (by kernel_rfl) (by kernel_rfl) (by kernel_rfl)
  th := laid_day h 11 "pub-hebdomad/pub/rrule.TH" (by kernel_rfl) (by kernel_rfl) (by kernel_rfl)
  fr := laid_day h 12 "pub-hebdomad/pub/rrule.FR" (by kernel_rfl) (by kernel_rfl) (by kernel_rfl)
  sa := laid_day h 13 "pub-hebdomad/pub/rrule.SA" (by kernel_rfl) (by kernel_rfl) (by kernel_rfl)
  su := laid_day h 14 "pub-hebdomad/pub/rrule.SU" (by kernel_rfl) (by kernel_rfl) (by kernel_rfl)
/-- The objects of the variables and their places. -/
def vars19 : List (AObj × (Nat × Nat)) := [(.ro [vI 0, vI 0], (0, 0)), (.gone, (1, 0)), (.ro [vI 1, vI 0], (2, 0)), (.ro [vI 2, vI 0], (3, 0)), (.ro [vI 3, vI 0], (4, 0)), (.ro [vI 4, vI 0], (5, 0)), (.ro [vI 5, vI 0], (6, 0)), (.ro [vI 6, vI 0], (7, 0)),
  (.gone, (8, 0)), (.gone, (9, 0)), (.gone, (10, 0)), (.gone, (11, 0)), (.gone, (12, 0)), (.gone, (13, 0)), (.gone, (14, 0)), (.gone, (15, 0)), (.gone, (16, 0)), (.gone, (17, 0)), (.gone, (18, 0))]
def heapOf (L : List (AObj × (Nat × Nat))) : Heap := (vars19 ++ L).map (·.1)
def placesOf (L : List (AObj × (Nat × Nat))) : Places := (vars19 ++ L).map (·.2)
theorem heapOf_GH (L : List (AObj × (Nat × Nat))) : GH (heapOf L) := ⟨rfl, rfl, rfl, rfl, rfl, rfl, rfl⟩
theorem ro_day {W : World} {b : Nat} {a c : Int} (h : W.cell? ⟨b, 0, none⟩ = some (.int .i64 a) ∧ W.cell? ⟨b, 1, none⟩ = some (.int .i64 c)) (m : Places) : relO (CB W) m W (b, 0) (.ro [vI a, vI c]) := by
  obtain ⟨arr, e, fr, hb, _⟩ := cell_block h.1
  refine ⟨(Array.getElem?_eq_some_iff.1 hb).1, fun j v hj => ?_⟩
  match j with
  | 0 =>
    simp only [List.getElem?_cons_zero, Option.some.injEq] at hj
    subst hj
    exact ⟨_, h.1, rfl⟩
  | 1 =>
    simp only [List.getElem?_cons_succ, List.getElem?_cons_zero, Option.some.injEq] at hj
    subst hj
    exact ⟨_, h.2, rfl⟩
  | j + 2 => simp at hj
theorem heap_rep {W : World} (hG : Glob W) (L : List (AObj × (Nat × Nat))) (hL : ∀ p ∈ L, (∀ m : Places, relO (CB W) m W p.2 p.1) ∧ p.1.mine = false) : RepH (CB W) (placesOf L) W (heapOf L) := by
  have hall : ∀ p ∈ vars19 ++ L, (∀ m : Places, relO (CB W) m W p.2 p.1) ∧ p.1.mine = false := by
    intro p hp
    rcases List.mem_append.1 hp with hp | hp
    · simp only [vars19, List.mem_cons, List.mem_nil_iff, or_false] at hp
      rcases hp with rfl | rfl | rfl | rfl | rfl | rfl | rfl | rfl | rfl | rfl | rfl | rfl | rfl | rfl | rfl | rfl | rfl | rfl | rfl
      · exact ⟨ro_day hG.mo, rfl⟩
      · exact ⟨fun _ => trivial, rfl⟩
      · exact ⟨ro_day hG.tu, rfl⟩
      · exact ⟨ro_day hG.we, rfl⟩
      · exact ⟨ro_day hG.th, rfl⟩
      · exact ⟨ro_day hG.fr, rfl⟩
      · exact ⟨ro_day hG.sa, rfl⟩
      · exact ⟨ro_day hG.su, rfl⟩
      all_goals exact ⟨fun _ => trivial, rfl⟩
    · exact hL p hp
  have hget : ∀ (o : Nat) x b, (heapOf L)[o]? = some x → (placesOf L)[o]? = some b → (x, b) ∈ vars19 ++ L := by
    intro o x b h1 h2
    unfold heapOf at h1
    unfold placesOf at h2
    rw [List.getElem?_map] at h1 h2
    cases hk : (vars19 ++ L)[o]? with
    | none => rw [hk] at h1; cases h1
    | some p =>
      rw [hk] at h1 h2
      simp only [Option.map_some, Option.some.injEq] at h1 h2
      subst h1; subst h2
      exact List.mem_of_getElem? hk
  exact {
    below := Below.refl _ _
    size := Nat.le_refl _
    len := by unfold placesOf heapOf; simp
    glob := fun g hg => by
      have : g < 19 := hg
      have e : ∀ g, g < 19 → (vars19.map (·.2))[g]? = some (g, 0) := by decide
      unfold placesOf
      rw [List.map_append, List.getElem?_append_left (by show g < 19; exact this)]
      exact e g this
    obj := fun o x b h1 h2 => (hall _ (hget o x b h1 h2)).1 _
    apart := fun o o' x x' b b' _ h1 h2 h3 h4 hm => by
      have := (hall _ (hget o x b h1 h3)).2
      simp only at this
      rw [this] at hm
      cases hm }
theorem heapOf_get {L : List (AObj × (Nat × Nat))} {k : Nat} {p : AObj × (Nat × Nat)} (h : L[k]? = some p) : (heapOf L)[19 + k]? = some p.1 ∧ (placesOf L)[19 + k]? = some p.2 := by
  have : (vars19 ++ L)[19 + k]? = some p := by
    rw [List.getElem?_append_right (by show 19 ≤ 19 + k; omega)]
    show L[19 + k - 19]? = _
    rw [show 19 + k - 19 = k by omega, h]
  unfold heapOf placesOf
  rw [List.getElem?_map, List.getElem?_map, this]
  exact ⟨rfl, rfl⟩
end Go.Proofs.YtlfpjdcogkcjlaaGreatDoor.F
