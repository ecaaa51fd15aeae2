/-
  Values: numbers, texts, structs, the objects' list, as equations; the rule for a function in these terms.
-/
import Derived.Test.YtlfpjdcogkcjlaaGreatDoorAL13
namespace Go.Proofs.YtlfpjdcogkcjlaaGreatDoor.AL
open Go.RowKit
set_option linter.unusedVariables false
set_option linter.unusedSimpArgs false
variable {P : Program} {C : Base}

def szA (P : Program) (t : TypeId) : Option Nat := (P.info? t).map (·.size)
/-- A text by its bytes. -/
def S (l : List UInt8) : ByteArray := ⟨l.toArray⟩
theorem mkS (l : List UInt8) : ByteArray.mk (List.toArray l) = S l := rfl
theorem S_inj {a b : List UInt8} : S a = S b ↔ a = b := by simp [S]
theorem S_size (l : List UInt8) : (S l).size = l.length := rfl
theorem S_append (a b : List UInt8) : S a ++ S b = S (a ++ b) := by
  apply ByteArray.ext; simp [S]
theorem S_toList (l : List UInt8) : (S l).toList = l := by simp [S, ByteArray.toList_mk]
theorem S_data (l : List UInt8) : (S l).data.toList = l := rfl
theorem S_extract (l : List UInt8) (i j : Nat) : (S l).extract i j = S ((l.take j).drop i) := by
  apply ByteArray.ext; simp [S, List.drop_take]
abbrev vI (n : Int) : AV := .val (.int .i64 n)
abbrev vB (b : Bool) : AV := .val (.bool b)
abbrev vS (l : List UInt8) : AV := .val (.string (S l))

theorem wI64 {n : Int} (h : -9223372036854775808 ≤ n ∧ n ≤ 9223372036854775807) : IntKind.wrap .i64 n = n := by
  obtain ⟨h0, h1⟩ := h
  have hb : (IntKind.i64).bits = 64 := rfl
  have hs : (IntKind.i64).signed = true := rfl
  unfold IntKind.wrap
  rw [hb, hs]
  simp only [Bool.true_and, decide_eq_true_eq]
  split <;> omega
theorem wU8 {n : Int} (h : 0 ≤ n ∧ n ≤ 255) : IntKind.wrap .u8 n = n := by
  obtain ⟨h0, h1⟩ := h
  have hb : (IntKind.u8).bits = 8 := rfl
  have hs : (IntKind.u8).signed = false := rfl
  unfold IntKind.wrap
  rw [hb, hs]
  simp only [Bool.false_and, Bool.false_eq_true, if_false]
  omega

section
variable {t : TypeId} {xo yo : Operand} {k : IntKind} {a b : Int} {p q : Bool} {l l' : List UInt8}
theorem bin_add : binA P .add t xo yo (.val (.int k a)) (.val (.int k b)) = some (.val (.int k (k.wrap (a + b)))) := by simp [binA, plain, pureRun, eqGuard, binOp, Op.intArith, bind, Sem.bind, pure]
theorem bin_sub : binA P .sub t xo yo (.val (.int k a)) (.val (.int k b)) = some (.val (.int k (k.wrap (a - b)))) := by simp [binA, plain, pureRun, eqGuard, binOp, Op.intArith, bind, Sem.bind, pure]
theorem bin_mul : binA P .mul t xo yo (.val (.int k a)) (.val (.int k b)) = some (.val (.int k (k.wrap (a * b)))) := by simp [binA, plain, pureRun, eqGuard, binOp, Op.intArith, bind, Sem.bind, pure]
theorem bin_quo : binA P .quo t xo yo (.val (.int k a)) (.val (.int k b)) = if b ≠ 0 then some (.val (.int k (k.wrap (a.tdiv b)))) else none := by
  by_cases h : b = 0 <;> simp [runtimePanic, program, goPanic, Sem.halt, h, binA, plain, pureRun, eqGuard, binOp, Op.intDiv, bind, Sem.bind, pure]
theorem bin_rem : binA P .rem t xo yo (.val (.int k a)) (.val (.int k b)) = if b ≠ 0 then some (.val (.int k (a.tmod b))) else none := by
  by_cases h : b = 0 <;> simp [runtimePanic, program, goPanic, Sem.halt, h, binA, plain, pureRun, eqGuard, binOp, Op.intDiv, bind, Sem.bind, pure]
theorem bin_eql : binA P .eql t xo yo (.val (.int k a)) (.val (.int k b)) = some (vB (decide (a = b))) := by simp [binA, plain, pureRun, eqGuard, binOp, Op.intCmp, bind, Sem.bind, pure]; rfl
theorem bin_neq : binA P .neq t xo yo (.val (.int k a)) (.val (.int k b)) = some (vB (!decide (a = b))) := by simp [binA, plain, pureRun, eqGuard, binOp, Op.intCmp, bind, Sem.bind, pure]; rfl
theorem bin_lss : binA P .lss t xo yo (.val (.int k a)) (.val (.int k b)) = some (vB (decide (a < b))) := by simp [binA, plain, pureRun, eqGuard, binOp, Op.intCmp, bind, Sem.bind, pure]
theorem bin_leq : binA P .leq t xo yo (.val (.int k a)) (.val (.int k b)) = some (vB (decide (a ≤ b))) := by simp [binA, plain, pureRun, eqGuard, binOp, Op.intCmp, bind, Sem.bind, pure]
theorem bin_gtr : binA P .gtr t xo yo (.val (.int k a)) (.val (.int k b)) = some (vB (decide (b < a))) := by simp [binA, plain, pureRun, eqGuard, binOp, Op.intCmp, bind, Sem.bind, pure]
theorem bin_geq : binA P .geq t xo yo (.val (.int k a)) (.val (.int k b)) = some (vB (decide (b ≤ a))) := by simp [binA, plain, pureRun, eqGuard, binOp, Op.intCmp, bind, Sem.bind, pure]
theorem bin_cat : binA P .add t xo yo (vS l) (vS l') = if l.length + l'.length ≤ 9223372036854775807 then some (vS (l ++ l')) else none := by
  have hm : IntKind.i64.max = 9223372036854775807 := rfl
  by_cases h : l.length + l'.length ≤ 9223372036854775807
  · have : ¬ (((S l).size + (S l').size : Nat) : Int) > IntKind.i64.max := by rw [hm, S_size, S_size]; omega
    simp only [binA, plain, eqGuard, binOp, Op.stringOp, if_neg this, S_append, if_pos h]
    rfl
  · have : (((S l).size + (S l').size : Nat) : Int) > IntKind.i64.max := by rw [hm, S_size, S_size]; omega
    simp only [binA, plain, eqGuard, binOp, Op.stringOp, if_pos this, if_neg h]
    rfl
theorem bin_seql : binA P .eql t xo yo (vS l) (vS l') = some (vB (decide (l = l'))) := by
  simp only [binA, plain, eqGuard, binOp, Op.stringOp, S_toList]
  show some (AV.val (.bool (l == l'))) = _
  have : (l == l') = decide (l = l') := by by_cases h : l = l' <;> simp [h]
  rw [this]
theorem bin_sneq : binA P .neq t xo yo (vS l) (vS l') = some (vB (!decide (l = l'))) := by
  simp only [binA, plain, eqGuard, binOp, Op.stringOp, S_toList]
  show some (AV.val (.bool (!(l == l')))) = _
  have : (l == l') = decide (l = l') := by by_cases h : l = l' <;> simp [h]
  rw [this]
theorem un_not : unV P .not (vB p) = some (vB (!p)) := by simp [unV, plain, pureRun, Op.unary, pure]
theorem un_neg : unV P .neg (.val (.int k a)) = some (.val (.int k (k.wrap (0 - a)))) := by simp [unV, plain, pureRun, Op.unary, Op.intArith, pure]
def isIfc : Option TypeDesc → Bool
  | some (.interface _) => true
  | _ => false
theorem isIfc_spec {u : Option TypeDesc} (h : isIfc u = true) : ∃ ms, u = some (.interface ms) := by
  unfold isIfc at h
  split at h
  · exact ⟨_, rfl⟩
  · cases h
def isPtr : Option TypeDesc → Bool
  | some (.pointer _) => true
  | _ => false
theorem isPtr_spec {u : Option TypeDesc} (h : isPtr u = true) : ∃ e, u = some (.pointer e) := by
  unfold isPtr at h
  split at h
  · exact ⟨_, rfl⟩
  · cases h
theorem bin_neq_ifc {t' : TypeId} (h : isIfc (P.underlying t) = true) : binA P .neq t xo yo (.ifc t' .any) (.val .nilIface) = some (vB true) := by
  obtain ⟨ms, h⟩ := isIfc_spec h
  simp only [binA, plain, Option.map_none, nilCmp, h]; rfl
theorem bin_eql_ifc {t' : TypeId} (h : isIfc (P.underlying t) = true) : binA P .eql t xo yo (.ifc t' .any) (.val .nilIface) = some (vB false) := by
  obtain ⟨ms, h⟩ := isIfc_spec h
  simp only [binA, plain, Option.map_none, nilCmp, h]
theorem pureRun_bind {α β : Type} (s : Sem α) (f : α → Sem β) : pureRun P (s >>= f) = (pureRun P s).bind fun a => pureRun P (f a) := by
  induction s with
  | pure a => rfl
  | program k ih => show pureRun P (Sem.program fun p => (k p).bind f) = _; simp only [pureRun]; exact ih P
  | _ => rfl
theorem pureRun_pure {α : Type} (a : α) : pureRun P (pure a : Sem α) = some a := rfl
theorem pureRun_underlying {u : TypeDesc} (h : P.underlying t = some u) : pureRun P (underlying t) = some u := by
  simp only [underlying, program, bind, Sem.bind, pureRun, h, pure]
theorem bin_neq_nn {c : Value} (h : isIfc (P.underlying t) = true) : binA P .neq t xo (.const c) (.val .nilIface) (.val .nilIface) = some (vB false) := by
  obtain ⟨ms, h⟩ := isIfc_spec h
  have e1 : pureRun P (eqGuard .neq t xo (.const c) .nilIface .nilIface) = some () := by
    unfold eqGuard
    cases xo <;> rfl
  have e2 : pureRun P (binOp .neq t .nilIface .nilIface) = some (.bool false) := by
    show pureRun P (Op.equal t .nilIface .nilIface >>= fun r => pure (Value.bool (!r))) = _
    rw [pureRun_bind]
    unfold Op.equal Op.maxDepth
    rw [Op.equalIn, pureRun_bind, pureRun_underlying h]
    rfl
  simp only [binA, plain, pureRun_bind, e1, e2, Option.bind_some, Option.map_some]
theorem bin_eql_nn {c : Value} (h : isIfc (P.underlying t) = true) : binA P .eql t xo (.const c) (.val .nilIface) (.val .nilIface) = some (vB true) := by
  obtain ⟨ms, h⟩ := isIfc_spec h
  have e1 : pureRun P (eqGuard .eql t xo (.const c) .nilIface .nilIface) = some () := by
    unfold eqGuard
    cases xo <;> rfl
  have e2 : pureRun P (binOp .eql t .nilIface .nilIface) = some (.bool true) := by
    show pureRun P (Op.equal t .nilIface .nilIface >>= fun r => pure (Value.bool r)) = _
    rw [pureRun_bind]
    unfold Op.equal Op.maxDepth
    rw [Op.equalIn, pureRun_bind, pureRun_underlying h]
    rfl
  simp only [binA, plain, pureRun_bind, e1, e2, Option.bind_some, Option.map_some]
theorem isIfc_true {ms : Array (String × TypeId)} : isIfc (some (.interface ms)) = true := rfl
theorem isPtr_true {e : TypeId} : isPtr (some (.pointer e)) = true := rfl
theorem bin_neq_ptr {o off : Nat} (h : isPtr (P.underlying t) = true) : binA P .neq t xo yo (.ptr o off) (.val (.pointer none)) = some (vB true) := by
  obtain ⟨ms, h⟩ := isPtr_spec h
  simp only [binA, plain, nilCmp, h]; rfl
theorem bin_eql_ptr {o off : Nat} (h : isPtr (P.underlying t) = true) : binA P .eql t xo yo (.ptr o off) (.val (.pointer none)) = some (vB false) := by
  obtain ⟨ms, h⟩ := isPtr_spec h
  simp only [binA, plain, nilCmp, h]
theorem bin_neq_pn {a : Value} (ha : a = .pointer none) (h : isPtr (P.underlying t) = true) : binA P .neq t xo yo (.val a) (.val (.pointer none)) = some (vB false) := by
  obtain ⟨ms, h⟩ := isPtr_spec h
  subst ha
  have e1 : pureRun P (eqGuard .neq t xo yo (.pointer none) (.pointer none)) = some () := rfl
  have e2 : pureRun P (binOp .neq t (.pointer none) (.pointer none)) = some (.bool false) := by
    show pureRun P (Op.equal t (.pointer none) (.pointer none) >>= fun r => pure (Value.bool (!r))) = _
    rw [pureRun_bind]
    unfold Op.equal Op.maxDepth
    rw [Op.equalIn, pureRun_bind, pureRun_underlying h]
    rfl
  simp only [binA, plain, pureRun_bind, e1, e2, Option.bind_some, Option.map_some]
def convK (u v : Option TypeDesc) (n : Int) : Option AV := match u, v with
  | some _, some (.int k) => some (.val (.int k (k.wrap n)))
  | _, _ => none
theorem pureRun_under {α : Type} {d : TypeId} {u : TypeDesc} (h : P.underlying d = some u) {f : TypeDesc → Sem α} : pureRun P (underlying d >>= f) = pureRun P (f u) := by
  show pureRun P (Sem.program fun p => Sem.bind (match p.underlying d with | some d => pure d | none => stuck "no such type") f) = _
  simp only [pureRun, h]
  rfl
theorem conv_int {s d : TypeId} {u : TypeDesc} {k' : IntKind} (hs : P.underlying s = some u) (hd : P.underlying d = some (.int k')) : convV P s d (.val (.int k a)) = some (.val (.int k' (k'.wrap a))) := by
  simp only [convV, plain, Option.bind_some, convert]
  rw [pureRun_under hs, pureRun_under hd]
  cases u <;> rfl
def lenK (u : Option TypeDesc) (x : AV) : Option AV := match u, x with
  | some .string, .val (.string s) => some (.val (.int .i64 s.size))
  | some (.slice _), .val (.slice none 0 0) => some (.val (.int .i64 0))
  | some (.slice _), .sl _ _ _ n _ => some (.val (.int .i64 n))
  | some (.array n _), _ => some (.val (.int .i64 n))
  | _, _ => none
theorem lenA_K {x : AV} : lenA P t x = lenK (P.underlying t) x := rfl
theorem lenK_str : lenK (some .string) (vS l) = some (vI l.length) := rfl
theorem lenK_nil {e : TypeId} : lenK (some (.slice e)) (.val (.slice none 0 0)) = some (vI 0) := rfl
theorem lenK_sl {e : TypeId} {own : Bool} {o off n st : Nat} : lenK (some (.slice e)) (.sl own o off n st) = some (vI n) := rfl
theorem lenK_array {e : TypeId} {n : Nat} {x : AV} : lenK (some (.array n e)) x = some (vI n) := by unfold lenK; split <;> simp_all
theorem pick_bool {c a b : Bool} : pickA (vB c) (vB a) (vB b) = some (vB (if c then a else b)) := by cases c <;> rfl
theorem pick_val {c : Bool} {a b : AV} : pickA (vB c) a b = some (if c then a else b) := rfl
end

theorem fieldV_ptr {s o off f : Nat} : fieldV P s (.ptr o off) f = (fo P s f).map fun k => .ptr o (off + k) := by unfold fieldV; cases fo P s f <;> rfl
def cellsK (x : Option AObj) : Option (List AV) := match x with
  | some (.ro cs) => some cs
  | some (.own _ cs) => some cs
  | _ => none
def loadK (x : Option (List AV)) (k : Option Kind) (off : Nat) : Option AV := match x, k with
  | some cs, some .one => cs[off]?
  | some cs, some (.many n) => if off + n ≤ cs.length then some (.agg ((cs.drop off).take n)) else none
  | _, _ => none
theorem loadV_ptr {t o off : Nat} {H : Heap} : loadV P t (.ptr o off) H = loadK (cellsK H[o]?) (kd P t) off := by
  unfold loadV loadA loadK
  show Option.map _ (match cellsK H[o]?, kd P t with | some cs, some .one => _ | some cs, some (.many n) => _ | _, _ => _) = _
  cases cellsK H[o]? with
  | none => rfl
  | some cs => cases kd P t with
    | none => rfl
    | some k => cases k with
      | one => simp only [Option.map_map]; cases cs[off]? <;> rfl
      | many n => simp only; split <;> rfl
theorem cellsK_ro {cs : List AV} : cellsK (some (.ro cs)) = some cs := rfl
theorem cellsK_own {e : TypeId} {cs : List AV} : cellsK (some (.own e cs)) = some cs := rfl
theorem loadK_one {cs : List AV} {off : Nat} : loadK (some cs) (some .one) off = cs[off]? := rfl
theorem loadK_many {cs : List AV} {off n : Nat} : loadK (some cs) (some (.many n)) off = if off + n ≤ cs.length then some (.agg ((cs.drop off).take n)) else none := rfl
def storeK (v : Option (List AV)) (x : Option AObj) (z : Option Nat) (o off : Nat) (H : Heap) : Option Heap := match v, x with
  | some l, some (.own e cs) => if z = some l.length ∧ off + l.length ≤ cs.length then some (H.set o (.own e (putCells cs off l))) else none
  | _, _ => none
theorem storeA_ptr {t o off : Nat} {v : AV} {H : Heap} : storeA P t (.ptr o off) v H = storeK (avCells v) H[o]? (szA P t) o off H := by
  unfold storeA storeK szA
  cases avCells v with
  | none => rfl
  | some l => cases h : H[o]? with
    | none => simp [h]
    | some x => cases x <;> simp [h]
theorem storeK_own {l cs : List AV} {e : TypeId} {n o off : Nat} {H : Heap} : storeK (some l) (some (.own e cs)) (some n) o off H = if n = l.length ∧ off + l.length ≤ cs.length then some (H.set o (.own e (putCells cs off l))) else none := by
  simp only [storeK, Option.some.injEq]
theorem allocA_some {zs : List Value} {e : TypeId} {H : Heap} : allocA (some zs) e H = if zs.all Value.oneCell' then some (.ptr H.length 0, H ++ [.own e (zs.map .val)]) else none := rfl

/-- The objects: those that came in, and those made since. -/
theorem heap_len {H l : Heap} : (H ++ l).length = H.length + l.length := List.length_append
theorem heap_get0 {H l : Heap} : (H ++ l)[H.length]? = l[0]? := by rw [List.getElem?_append_right (Nat.le_refl _), Nat.sub_self]
theorem heap_get {H l : Heap} {k : Nat} : (H ++ l)[H.length + k]? = l[k]? := by rw [List.getElem?_append_right (by omega)]; congr 1; omega
theorem heap_set0 {H l : Heap} {x : AObj} : (H ++ l).set H.length x = H ++ l.set 0 x := by rw [List.set_append_right _ _ (by omega), Nat.sub_self]
theorem heap_set {H l : Heap} {k : Nat} {x : AObj} : (H ++ l).set (H.length + k) x = H ++ l.set k x := by rw [List.set_append_right _ _ (by omega)]; congr 2; omega

def argsAt (e : Env) : Nat → List AV → Prop
  | _, [] => True
  | i, a :: l => get e i = a ∧ argsAt e (i + 1) l
theorem argsAt_app : ∀ (l pre suf : List AV), argsAt (pre ++ l ++ suf) pre.length l
  | [], _, _ => trivial
  | a :: l, pre, suf => ⟨by simp [get], by
    have h := argsAt_app l (pre ++ [a]) suf
    simpa using h⟩
def outK (P : Program) (cs : Option (List AV)) (R : AV → Heap → Prop) (h : Heap) : Prop := match cs with
  | some cs => R (packA cs) h
  | none => False
/-- The end of a function. -/
def Kfun (P : Program) (rs : List ResultVar) (R : AV → Heap → Prop) : Exit → Env → Heap → Prop := fun ex e h => (ex = .normal ∨ ex = .ret) ∧ outK P (resA P e h rs) R h
theorem Kfun_ret {rs : List ResultVar} {R : AV → Heap → Prop} {e : Env} {h : Heap} : Kfun P rs R .ret e h = outK P (resA P e h rs) R h := by simp [Kfun]
theorem Kfun_normal {rs : List ResultVar} {R : AV → Heap → Prop} {e : Env} {h : Heap} : Kfun P rs R .normal e h = outK P (resA P e h rs) R h := by simp [Kfun]
@[congr] theorem outK_cg {x y : Option (List AV)} {R : AV → Heap → Prop} {h : Heap} (hx : x = y) : outK P x R h = outK P y R h := by rw [hx]
theorem resA_nil {e : Env} {h : Heap} : resA P e h [] = some [] := rfl
theorem resA_tmp {e : Env} {h : Heap} {t : Nat} {r : List ResultVar} : resA P e h (.tmp t :: r) = (resA P e h r).map (get e t :: ·) := rfl
theorem resA_cell {e : Env} {h : Heap} {p t : Nat} {r : List ResultVar} : resA P e h (.cell p t :: r) = (loadV P t (get e p) h).bind fun c => (resA P e h r).map (c :: ·) := by
  show ((loadA P t (get e p) h).bind fun c => (resA P e h r).map (c.1 :: ·)) = _
  unfold loadV
  cases loadA P t (get e p) h <;> rfl
theorem outK_some {cs : List AV} {R : AV → Heap → Prop} {h : Heap} : outK P (some cs) R h = R (packA cs) h := _root_.id rfl
theorem packA_one {c : AV} : packA [c] = c := rfl
theorem packA_nil : packA [] = .tup [] := rfl
theorem packA_two {c d : AV} {l : List AV} : packA (c :: d :: l) = .tup (c :: d :: l) := rfl

/-- THE RULE FOR A FUNCTION. -/
theorem A_fun {f : FuncId} {fn : Func} {c : Code} {args : List AV} {H : Heap} {R : AV → Heap → Prop} {N : Nat} {rs : List ResultVar} (hf : P.funcs[f]? = some fn) (hb : fn.body = some c) (hN : fn.ntmps = N) (hrs : fn.results.toList = rs) (hn : (fn.name == "runtime.NumGoroutine") = false) (hok : okC C.nG c = true) (hl : args.length ≤ N)
    (h : ∀ e, len e = N → argsAt e 0 args → acode P C c (mk e []) H (Kfun P rs R)) : ACalls P C f args H R := by
  subst hN hrs
  refine A_enter hf hb hn hok ?_
  have h1 := h (args ++ List.replicate (fn.ntmps - args.length) (.val undef)) (by simp [len]; omega) (argsAt_app args [] _)
  have e : (Kfun P fn.results.toList R) = fun ex env' H' => (ex = .normal ∨ ex = .ret) ∧ ∃ cs, resA P env' H' fn.results.toList = some cs ∧ R (packA cs) H' := by
    funext ex e h
    unfold Kfun outK
    cases resA P e h fn.results.toList <;> simp
  rw [← e]
  exact h1

/-- The end of a loop's round. -/
def Kloop (I : Nat → Env → Heap → Prop) (n : Nat) (Q : Exit → Env → Heap → Prop) : Exit → Env → Heap → Prop := fun ex e h => match ex with
  | .normal => ∃ n', n' < n ∧ I n' e h
  | ex => Q ex e h
section
variable {I : Nat → Env → Heap → Prop} {n i : Nat} {Q : Exit → Env → Heap → Prop} {e : Env} {h : Heap}
theorem Kloop_normal : Kloop I n Q .normal e h = ∃ n', n' < n ∧ I n' e h := _root_.id rfl
theorem Kloop_exit : Kloop I n Q (.exit i) e h = Q (.exit i) e h := _root_.id rfl
theorem Kloop_ret : Kloop I n Q .ret e h = Q .ret e h := _root_.id rfl
end
/-- THE RULE FOR LOOPS: an invariant with a number that falls. -/
theorem A_while {b : Code} {Q : Exit → Env → Heap → Prop} {env : Env} {H : Heap} (n : Nat) (I : Nat → Env → Heap → Prop) (hok : okC C.nG b = true) (h0 : I n env H)
    (step : ∀ n e h, I n e h → acode P C b (mk e []) h (Kloop I n Q)) : AWp P C (.loop b) env H Q := by
  refine A_loop I hok (fun n env H h => ?_) h0
  have e : (Kloop I n Q) = fun ex e h => match ex with
      | .normal => ∃ n', n' < n ∧ I n' e h
      | ex => Q ex e h := by funext ex e h; cases ex <;> rfl
  have h2 := step n env H h
  rw [e] at h2
  exact h2
theorem aops_mono {d : Option (List Nat)} {ops : Array Oper} {K K' : Env → Heap → Prop} (hk : ∀ e h, K e h → K' e h) : ∀ {l : List Oper} {env : Env} {H : Heap}, aops P C d ops l env H K → aops P C d ops l env H K'
  | [], _, _, h => hk _ _ h
  | o :: rest, env, H, h => by
    unfold aops at h ⊢
    split at h
    · exact aops_mono hk h
    · split at h
      · split at h
        · unfold callK at h ⊢
          split at h
          · exact h.mono fun r H' h => aops_mono hk h
          · obtain ⟨r, H', h1, h2, h4, h3⟩ := h
            exact ⟨r, H', h1, h2, h4, aops_mono hk h3⟩
        · split at h
          · exact aops_mono hk h
          · exact h.elim
      · split at h
        · exact aops_mono hk h
        · exact h.elim
    · exact h.elim
/-- A part of the code by what holds behind it. -/
theorem acode_cut : ∀ {c : Code} {env : Env} {H : Heap} {Q Q' : Exit → Env → Heap → Prop}, acode P C c env H Q → (∀ ex e h, Q ex e h → Q' ex e h) → acode P C c env H Q'
  | .skip, _, _, _, _, h, hq => hq _ _ _ h
  | .region id ops draw, env, H, Q, Q', h, hq => by
    unfold acode at h ⊢
    split
    · rename_i hd
      rw [if_pos hd] at h
      rcases h with ⟨h1, q, h2, h3⟩ | h
      · exact .inl ⟨h1, q, h2, aops_mono (fun e h => hq _ e h) h3⟩
      · exact .inr (h.mono hq)
    · rename_i hd
      rw [if_neg hd] at h
      exact aops_mono (fun e h => hq _ e h) h
  | .seq a b, env, H, Q, Q', h, hq => by
    rw [acode_seq] at h ⊢
    refine acode_cut h fun ex e h' hk => ?_
    cases ex with
    | normal => exact acode_cut hk hq
    | _ => exact hq _ _ _ hk
  | .cond c a b, env, H, Q, Q', h, hq => by
    unfold acode at h ⊢
    split at h
    · split at h
      · rw [if_pos ‹_›]; exact acode_cut h hq
      · rw [if_neg ‹_›]; exact acode_cut h hq
    · exact h.elim
  | .block id b, env, H, Q, Q', h, hq => by
    rw [acode_block] at h ⊢
    refine acode_cut h fun ex e h' hk => ?_
    cases ex with
    | exit i =>
      show if i = id then _ else _
      have hk' : if i = id then Q .normal e h' else Q (.exit i) e h' := hk
      split
      · rw [if_pos ‹_›] at hk'; exact hq _ _ _ hk'
      · rw [if_neg ‹_›] at hk'; exact hq _ _ _ hk'
    | _ => exact hq _ _ _ hk
  | .exit id, _, _, _, _, h, hq => hq _ _ _ h
  | .ret, _, _, _, _, h, hq => hq _ _ _ h
  | .loop b, _, _, _, _, h, hq => AWp.mono h hq
  | .rangeFunc .., _, _, _, _, h, _ => h.elim
  | .scope _, _, _, _, _, h, _ => h.elim
  | .label _, _, _, _, _, h, _ => h.elim
  | .goto _, _, _, _, _, h, _ => h.elim
  | .refuse _, _, _, _, _, h, _ => h.elim
/-- The end of a way that meets the other one. -/
def Kjoin (J : Env → Heap → Prop) (Q : Exit → Env → Heap → Prop) : Exit → Env → Heap → Prop := fun ex e h => match ex with
  | .normal => J e h
  | ex => Q ex e h
section
variable {J : Env → Heap → Prop} {i : Nat} {Q : Exit → Env → Heap → Prop} {e : Env} {h : Heap}
theorem Kjoin_normal : Kjoin J Q .normal e h = J e h := _root_.id rfl
theorem Kjoin_exit : Kjoin J Q (.exit i) e h = Q (.exit i) e h := _root_.id rfl
theorem Kjoin_ret : Kjoin J Q .ret e h = Q .ret e h := _root_.id rfl
end
/-- A part of the code by what holds behind it. -/
theorem acode_join {c : Code} {env : Env} {H : Heap} {Q : Exit → Env → Heap → Prop} (J : Env → Heap → Prop) (h1 : acode P C c env H (Kjoin J Q)) (h2 : ∀ e h, J e h → Q .normal (mk e []) h) : acode P C c env H Q :=
  acode_cut h1 fun ex e h hk => by cases ex <;> first | exact hk | exact h2 e h hk
/-- A parting whose ways come together again. -/
theorem cond_join {c : Bool} {a b : Code} {env : Env} {H : Heap} {Q : Exit → Env → Heap → Prop} (J : Env → Heap → Prop)
    (h1 : c = true → acode P C a env H (Kjoin J Q)) (h2 : c = false → acode P C b env H (Kjoin J Q)) (h3 : ∀ e h, J e h → Q .normal (mk e []) h) :
    condK (.val (.bool c)) P C a b env H Q :=
  condK_of (fun hc => acode_join J (h1 hc) h3) fun hc => acode_join J (h2 hc) h3

section
variable {d : Option (List Nat)} {ops : Array Oper} {rest : List Oper} {H H' : Heap} {K : Env → Heap → Prop} {r : AV} {e : Env} {l : List (Nat × AV)} {k : Nat} {c : Prop} [Decidable c]
/-- What an operation asks for. -/
theorem bindV_ite : bindV (if c then some r else none) H P C d ops rest (mk e l) (some k) K = (c ∧ aops P C d ops rest (mk e ((k, r) :: l)) H K) := by
  by_cases h : c <;> simp [h, bindV, setD_some]
theorem bindK_ite : bindK (if c then some (r, H') else none) P C d ops rest (mk e l) (some k) K = (c ∧ aops P C d ops rest (mk e ((k, r) :: l)) H' K) := by
  by_cases h : c <;> simp [h, bindK, setD_some]
theorem bindH_ite {env : Env} : bindH (if c then some H' else none) P C d ops rest env none K = (c ∧ aops P C d ops rest env H' K) := by
  by_cases h : c <;> simp [h, bindH, setD_none]
end
def slotK (x : Option (TypeId × Nat × Nat × List Value)) (o off len st : Nat) (n : Int) : Option AV := match x with
  | some (_, st', _, _) => if 0 ≤ n ∧ n < len ∧ st' = st then some (.ptr o (off + n.toNat * st)) else none
  | none => none
theorem slotV_sl {t : TypeId} {own : Bool} {o off len st : Nat} {k : IntKind} {n : Int} : slotV P t (.sl own o off len st) (.val (.int k n)) = slotK (el P t) o off len st n := by
  unfold slotV indexAddrA slotK
  cases el P t with
  | none => rfl
  | some x => simp only; split <;> rfl
def slotR (x : Option (Nat × Nat)) (o off : Nat) (n : Int) : Option AV := match x with
  | some (len, st) => if 0 ≤ n ∧ n < len then some (.ptr o (off + n.toNat * st)) else none
  | none => none
theorem slotV_ptr {t : TypeId} {o off : Nat} {k : IntKind} {n : Int} : slotV P t (.ptr o off) (.val (.int k n)) = slotR (ar P t) o off n := by
  unfold slotV indexAddrA slotR
  cases ar P t with
  | none => rfl
  | some x => simp only; split <;> rfl
theorem slotR_some {len st o off : Nat} {n : Int} : slotR (some (len, st)) o off n = if 0 ≤ n ∧ n < len then some (.ptr o (off + n.toNat * st)) else none := rfl
theorem slotK_some {e st' b : Nat} {z : List Value} {o off len st : Nat} {n : Int} : slotK (some (e, st', b, z)) o off len st n = if 0 ≤ n ∧ n < len ∧ st' = st then some (.ptr o (off + n.toNat * st)) else none := rfl
def cutK (x : Option (TypeId × Nat × Nat × List Value)) (own : Bool) (o off st : Nat) (l h : Option Nat) (len : Nat) : Option AV := match x, l, h with
  | some (_, st', _, _), some l, some h => if l ≤ h ∧ h ≤ len ∧ st' = st then some (.sl own o (off + l * st) (h - l) st) else none
  | _, _, _ => none
theorem sliceV_sl {t : TypeId} {own : Bool} {o off len st : Nat} {lo hi : Option AV} : sliceV P t (.sl own o off len st) lo hi = cutK (el P t) own o off st (boundA 0 lo) (boundA len hi) len := by
  have : sliceA P t (.sl own o off len st) lo hi [] = (match el P t, boundA 0 lo, boundA len hi with
    | some (_, st', _, _), some l, some h => if l ≤ h ∧ h ≤ len ∧ st' = st then some (.sl own o (off + l * st) (h - l) st, []) else none
    | _, _, _ => none) := rfl
  unfold sliceV cutK
  rw [this]
  generalize el P t = x
  generalize boundA 0 lo = a
  generalize boundA len hi = b
  rcases x with _ | ⟨e, st', bb, z⟩
  · rfl
  · cases a with
    | none => rfl
    | some a => cases b with
      | none => rfl
      | some b => simp only; split <;> rfl
theorem cutK_some {e st' b : Nat} {z : List Value} {own : Bool} {o off len st l h : Nat} : cutK (some (e, st', b, z)) own o off st (some l) (some h) len = if l ≤ h ∧ h ≤ len ∧ st' = st then some (.sl own o (off + l * st) (h - l) st) else none := rfl
def cutS (u : Option TypeDesc) (s : List UInt8) (l h : Option Nat) : Option AV := match u, l, h with
  | some .string, some l, some h => if l ≤ h ∧ h ≤ s.length then some (vS ((s.take h).drop l)) else none
  | _, _, _ => none
theorem sliceV_str {t : TypeId} {s : List UInt8} {lo hi : Option AV} : sliceV P t (vS s) lo hi = cutS (P.underlying t) s (boundA 0 lo) (boundA s.length hi) := by
  have : sliceA P t (vS s) lo hi [] = (match P.underlying t, boundA 0 lo, boundA (S s).size hi with
    | some .string, some l, some h => if l ≤ h ∧ h ≤ (S s).size then some (.val (.string ((S s).extract l h)), []) else none
    | _, _, _ => none) := rfl
  unfold sliceV cutS
  rw [this, S_size]
  generalize P.underlying t = u
  generalize boundA 0 lo = a
  generalize boundA s.length hi = b
  cases u with
  | none => rfl
  | some u => cases a with
    | none => cases u <;> rfl
    | some a => cases b with
      | none => cases u <;> rfl
      | some b => cases u <;> first | rfl | (simp only [S_extract]; split <;> rfl)
theorem cutS_some {s : List UInt8} {l h : Nat} : cutS (some .string) s (some l) (some h) = if l ≤ h ∧ h ≤ s.length then some (vS ((s.take h).drop l)) else none := rfl
theorem bound_none {d : Nat} : boundA d none = some d := rfl
theorem bound_some {d : Nat} {k : IntKind} {i : Int} : boundA d (some (.val (.int k i))) = if 0 ≤ i then some i.toNat else none := rfl
def atS (u : Option TypeDesc) (s : List UInt8) (n : Int) : Option AV := match u with
  | some .string => if 0 ≤ n ∧ n < s.length then some (.val (.int .u8 ((s.getD n.toNat 0).toNat : Int))) else none
  | _ => none
theorem indexA_str {t : TypeId} {s : List UInt8} {k : IntKind} {n : Int} : indexA P t (vS s) (.val (.int k n)) = atS (P.underlying t) s n := by
  have : indexA P t (vS s) (.val (.int k n)) = (match P.underlying t with
    | some .string => if 0 ≤ n ∧ n < (S s).size then some (.val (.int .u8 (((S s).data.toList.getD n.toNat 0).toNat : Int))) else none
    | _ => none) := rfl
  rw [this, S_size, S_data]
  unfold atS
  cases P.underlying t with
  | none => rfl
  | some u => cases u <;> rfl
theorem atS_some {s : List UInt8} {n : Int} : atS (some .string) s n = if 0 ≤ n ∧ n < s.length then some (.val (.int .u8 ((s.getD n.toNat 0).toNat : Int))) else none := rfl
theorem one_val {v : Value} : AV.one (.val v) = v.oneCell' := rfl
theorem one_ptr {o off : Nat} : AV.one (.ptr o off) = true := rfl
theorem one_sl {own : Bool} {o off n st : Nat} : AV.one (.sl own o off n st) = true := rfl
theorem one_mp {o : Nat} : AV.one (.mp o) = true := rfl
theorem one_ifc {t : TypeId} {x : AV} : AV.one (.ifc t x) = true := rfl
theorem one_fn {f : Fn} {a c : List AV} : AV.one (.fn f a c) = true := rfl
theorem avCells_agg {l : List AV} : avCells (.agg l) = if l.all AV.one then some l else none := rfl
theorem avCells_one {c : AV} (h : c.one = true) : avCells c = some [c] := by
  cases c with
  | val v => simp only [AV.one] at h; simp [avCells, h]
  | agg _ => cases h
  | tup _ => cases h
  | any => cases h
  | _ => rfl
def valCells (v : Value) (b : Bool) : Option (List AV) := if b then some [.val v] else avCells (.val v)
theorem avCells_val {v : Value} : avCells (.val v) = valCells v v.oneCell' := by
  unfold valCells
  split
  · rename_i h; exact avCells_one (c := .val v) h
  · rfl
theorem valCells_true {v : Value} : valCells v true = some [.val v] := rfl
theorem valCells_agg {vs : List Value} : valCells (.agg (List.toArray vs)) false = if vs.all Value.oneCell' then some (vs.map .val) else none := rfl
theorem avCells_ptr {o off : Nat} : avCells (.ptr o off) = some [.ptr o off] := rfl
theorem avCells_sl {own : Bool} {o off n st : Nat} : avCells (.sl own o off n st) = some [.sl own o off n st] := rfl
theorem avCells_mp {o : Nat} : avCells (.mp o) = some [.mp o] := rfl
theorem avCells_ifc {t : TypeId} {x : AV} : avCells (.ifc t x) = some [.ifc t x] := rfl
theorem guardK_name {x : Option Bool} {P : Program} {C : Base} {d : Option (List Nat)} {ops : Array Oper} {o : Oper} {rest : List Oper} {env : Env} {H : Heap} {K : Env → Heap → Prop} (h : ∀ A : Array Oper, A = ops → guardK x P C d A o rest env H K) : guardK x P C d ops o rest env H K := h ops rfl
theorem app_cons {α : Type} {a : α} {l r : List α} : List.append (a :: l) r = a :: List.append l r := rfl
theorem app_nil {α : Type} {r : List α} : List.append [] r = r := rfl
theorem avCells_fn {f : Fn} {a c : List AV} : avCells (.fn f a c) = some [.fn f a c] := rfl
end Go.Proofs.YtlfpjdcogkcjlaaGreatDoor.AL
