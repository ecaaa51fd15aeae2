/-
  The logic's rules as equations: one call of simp walks code that neither parts nor calls.
-/
import Derived.Test.YtlfpjdcogkcjlaaGreatDoorAL12
namespace Go.Proofs.YtlfpjdcogkcjlaaGreatDoor.AL
open Go.RowKit
set_option linter.unusedVariables false
set_option linter.unusedSimpArgs false
variable {P : Program} {C : Base}

/-- Slots: those of e, and over them those that were put, the last one first. -/
def mk (e : Env) (l : List (Nat × AV)) : Env := l.foldr (fun p e => e.set p.1 p.2) e
def get (e : Env) (k : Nat) : AV := e.getD k .any
def len (e : Env) : Nat := e.length
def look (l : List (Nat × AV)) (j : Nat) (d : AV) : AV := match l with
  | [] => d
  | (k, v) :: l => if k = j then v else look l j d
theorem len_mk (e : Env) (l : List (Nat × AV)) : len (mk e l) = len e := by
  induction l with
  | nil => rfl
  | cons p l ih => simpa [len, mk] using ih
theorem get_mk {e : Env} {l : List (Nat × AV)} {j : Nat} (h : j < len e) : get (mk e l) j = look l j (get e j) := by
  induction l with
  | nil => rfl
  | cons p l ih =>
    have hl := len_mk e l
    unfold len at hl h
    unfold look
    split
    · rename_i hp
      subst hp
      have h2 : p.1 < (mk e l).length := by rw [hl]; exact h
      show ((mk e l).set p.1 p.2).getD p.1 .any = p.2
      simp [h2]
    · rename_i hp
      rw [← ih]
      show ((mk e l).set p.1 p.2).getD j .any = (mk e l).getD j .any
      simp [List.getElem?_set_ne hp]
theorem look_nil {j : Nat} {d : AV} : look [] j d = d := rfl
theorem look_eq {l : List (Nat × AV)} {j : Nat} {v d : AV} : look ((j, v) :: l) j d = v := by simp [look]
theorem look_ne {l : List (Nat × AV)} {k j : Nat} {v d : AV} (h : (k == j) = false) : look ((k, v) :: l) j d = look l j d := by
  have : k ≠ j := by simpa using h
  simp [look, this]
theorem mk_nil (e : Env) : mk e [] = e := _root_.id rfl
theorem setD_some (e : Env) (l : List (Nat × AV)) (k : Nat) (v : AV) : setD (mk e l) (some k) v = mk e ((k, v) :: l) := rfl
theorem setD_none (e : Env) (v : AV) : setD e none v = e := rfl
theorem opA_tmp (e : Env) (t : Nat) : opA e (.tmp t) = get e t := rfl
theorem opA_const (e : Env) (v : Value) : opA e (.const v) = .val v := rfl
theorem opA_global (e : Env) (g : Nat) : opA e (.global g) = .ptr g 0 := rfl
theorem opA_func (e : Env) (f : Nat) : opA e (.func f) = .fn (.func f) [] [] := rfl

def Kseq (P : Program) (C : Base) (b : Code) (Q : Exit → Env → Heap → Prop) : Exit → Env → Heap → Prop := fun ex e h => match ex with
  | .normal => acode P C b e h Q
  | ex => Q ex e h
def Kblk (id : Nat) (Q : Exit → Env → Heap → Prop) : Exit → Env → Heap → Prop := fun ex e h => match ex with
  | .exit i => if i = id then Q .normal e h else Q (.exit i) e h
  | ex => Q ex e h
def Knorm (Q : Exit → Env → Heap → Prop) : Env → Heap → Prop := fun e h => Q .normal e h
def condK (c : AV) (P : Program) (C : Base) (a b : Code) (env : Env) (H : Heap) (Q : Exit → Env → Heap → Prop) : Prop := match c with
  | .val (.bool t) => if t = true then acode P C a env H Q else acode P C b env H Q
  | _ => False

section
variable {env : Env} {H : Heap} {Q : Exit → Env → Heap → Prop} {a b : Code} {id i j : Nat}
theorem acode_skip : acode P C .skip env H Q = Q .normal env H := _root_.id rfl
theorem acode_seq : acode P C (.seq a b) env H Q = acode P C a env H (Kseq P C b Q) := by
  rw [acode]; rfl
theorem acode_region {l : List Oper} : acode P C (.region id (List.toArray l) false) env H Q = aops P C none (List.toArray l) l env H (Knorm Q) := by rw [acode, if_neg (by simp)]; rfl
theorem acode_drawQ {l : List Oper} (q : List Nat) (hm : P.follows .mixedOrders = true) (hok : okDraw q (List.toArray l) = true) (h : aops P C (some q) (List.toArray l) l env H (Knorm Q)) : acode P C (.region id (List.toArray l) true) env H Q := by
  rw [acode, if_pos rfl]; exact .inl ⟨hm, q, hok, h⟩
theorem acode_draw {l : List Oper} (hm : P.follows .mixedOrders = true) (hok : okDraw [] (List.toArray l) = true) (h : aops P C (some []) (List.toArray l) l env H (Knorm Q)) : acode P C (.region id (List.toArray l) true) env H Q := acode_drawQ [] hm hok h
theorem acode_cond {c : Operand} : acode P C (.cond c a b) env H Q = condK (opA env c) P C a b env H Q := by rw [acode]; rfl
theorem acode_block : acode P C (.block id b) env H Q = acode P C b env H (Kblk id Q) := by
  rw [acode]; rfl
theorem acode_exit : acode P C (.exit id) env H Q = Q (.exit id) env H := _root_.id rfl
theorem acode_ret : acode P C .ret env H Q = Q .ret env H := _root_.id rfl
theorem acode_loop : acode P C (.loop b) env H Q = AWp P C (.loop b) env H Q := _root_.id rfl
theorem Kseq_normal : Kseq P C b Q .normal env H = acode P C b env H Q := _root_.id rfl
theorem Kseq_exit : Kseq P C b Q (.exit i) env H = Q (.exit i) env H := _root_.id rfl
theorem Kseq_ret : Kseq P C b Q .ret env H = Q .ret env H := _root_.id rfl
theorem Kblk_normal : Kblk i Q .normal env H = Q .normal env H := _root_.id rfl
theorem Kblk_ret : Kblk i Q .ret env H = Q .ret env H := _root_.id rfl
theorem Kblk_eq : Kblk i Q (.exit i) env H = Q .normal env H := by simp [Kblk]
theorem Kblk_ne (h : (j == i) = false) : Kblk i Q (.exit j) env H = Q (.exit j) env H := by
  have : j ≠ i := by simpa using h
  simp [Kblk, this]
theorem Knorm_eq : Knorm Q env H = Q .normal env H := _root_.id rfl
end
section
variable {env : Env} {H : Heap} {Q : Exit → Env → Heap → Prop} {a b : Code} {c : Bool}
theorem condK_true : condK (.val (.bool true)) P C a b env H Q = acode P C a env H Q := by simp [condK]
theorem condK_false : condK (.val (.bool false)) P C a b env H Q = acode P C b env H Q := by simp [condK]
theorem condK_of (h1 : c = true → acode P C a env H Q) (h2 : c = false → acode P C b env H Q) : condK (.val (.bool c)) P C a b env H Q := by cases c <;> simp_all [condK]
end

/-- A step among operations. -/
def bindK (a : Ans) (P : Program) (C : Base) (d : Option (List Nat)) (ops : Array Oper) (rest : List Oper) (env : Env) (dst : Option Nat) (K : Env → Heap → Prop) : Prop := match a with
  | some (r, H') => aops P C d ops rest (setD env dst r) H' K
  | none => False
def bindV (a : Option AV) (H : Heap) (P : Program) (C : Base) (d : Option (List Nat)) (ops : Array Oper) (rest : List Oper) (env : Env) (dst : Option Nat) (K : Env → Heap → Prop) : Prop := match a with
  | some r => aops P C d ops rest (setD env dst r) H K
  | none => False
def bindH (a : Option Heap) (P : Program) (C : Base) (d : Option (List Nat)) (ops : Array Oper) (rest : List Oper) (env : Env) (dst : Option Nat) (K : Env → Heap → Prop) : Prop := match a with
  | some H' => aops P C d ops rest (setD env dst .any) H' K
  | none => False
/-- A call among operations. -/
def callX (P : Program) (C : Base) (d : Option (List Nat)) (f : FuncId) (args : List AV) (H : Heap) (ops : Array Oper) (rest : List Oper) (env : Env) (dst : Option Nat) (K : Env → Heap → Prop) : Prop :=
  callK P C d f args H fun r H' => aops P C d ops rest (setD env dst r) H' K
/-- An operation that is carried out where a slot says so. -/
def guardK (c : Option Bool) (P : Program) (C : Base) (d : Option (List Nat)) (ops : Array Oper) (o : Oper) (rest : List Oper) (env : Env) (H : Heap) (K : Env → Heap → Prop) : Prop := match c with
  | some true => aops P C d ops (o :: rest) env H K
  | some false => aops P C d ops rest (setD env o.dst (.val undef)) H K
  | none => False
def wantK (d : Option Tmp) (want : Bool) (env : Env) : Option Bool := match d with
  | some d => match get env d with
    | .val (.bool b) => some (b == want)
    | .val (.tuple _) => some false
    | _ => none
  | none => none
def wantV (x : AV) (want : Bool) : Option Bool := match x with
  | .val (.bool b) => some (b == want)
  | .val (.tuple _) => some false
  | _ => none

def pickA (c a b : AV) : Option AV := match c with
  | .val (.bool t) => some (if t then a else b)
  | _ => none
def nilA (x : AV) : Option AV := match x with
  | .ptr a b => some (.ptr a b)
  | .fn (.func f) a c => some (.fn (.func f) a c)
  | _ => none
def fieldV (P : Program) (s : TypeId) (x : AV) (f : Nat) : Option AV := match x, fo P s f with
  | .ptr o off, some k => some (.ptr o (off + k))
  | _, _ => none
def slotV (P : Program) (t : TypeId) (x i : AV) : Option AV := (indexAddrA P t x i []).map (·.1)
def sliceV (P : Program) (t : TypeId) (x : AV) (lo hi : Option AV) : Option AV := (sliceA P t x lo hi []).map (·.1)
def buildV (P : Program) (t : TypeId) (l : Option (List (Nat × List AV))) : Option AV := l.bind fun l => (buildA P t l []).map (·.1)
def loadV (P : Program) (t : TypeId) (x : AV) (H : Heap) : Option AV := (loadA P t x H).map (·.1)
def allocA (z : Option (List Value)) (e : TypeId) (H : Heap) : Ans := match z with
  | some zs => if zs.all Value.oneCell' then some (.ptr H.length 0, H ++ [.own e (zs.map .val)]) else none
  | none => none
def boxA (e : TypeId) (x : AV) (H : Heap) : Ans := (avCells x).map fun l => (.ptr H.length 0, H ++ [.own e l])
def unV (P : Program) (op : UnOp) (x : AV) : Option AV := (plain x).bind fun v => (pureRun P (Op.unary op v)).map .val
def convV (P : Program) (s d : TypeId) (x : AV) : Option AV := (plain x).bind fun v => (pureRun P (convert s d v)).map .val
def ifaceV (P : Program) (t : TypeId) (x : AV) : Option AV := match isIface P t with
  | some false => some (.ifc t x)
  | _ => none
def bsA (P : Program) (t n : Nat) (l : Option (List (Nat × List AV))) (H : Heap) : Ans := l.bind fun l => buildSliceA P t n l H

section
variable {d : Option (List Nat)} {ops : Array Oper} {rest : List Oper} {env : Env} {H H' : Heap} {K : Env → Heap → Prop} {r : AV} {dst : Option Nat}
theorem bindK_some : bindK (some (r, H')) P C d ops rest env dst K = aops P C d ops rest (setD env dst r) H' K := _root_.id rfl
theorem bindV_some : bindV (some r) H P C d ops rest env dst K = aops P C d ops rest (setD env dst r) H K := _root_.id rfl
theorem bindH_some : bindH (some H') P C d ops rest env dst K = aops P C d ops rest (setD env dst .any) H' K := _root_.id rfl
theorem aops_nil : aops P C d ops [] env H K = K env H := _root_.id rfl
section
variable {e : Env} {l : List (Nat × AV)} {k : Nat}
theorem bindK_put : bindK (some (r, H')) P C d ops rest (mk e l) (some k) K = aops P C d ops rest (mk e ((k, r) :: l)) H' K := _root_.id rfl
theorem bindV_put : bindV (some r) H P C d ops rest (mk e l) (some k) K = aops P C d ops rest (mk e ((k, r) :: l)) H K := _root_.id rfl
theorem bindK_no : bindK (some (r, H')) P C d ops rest env none K = aops P C d ops rest env H' K := _root_.id rfl
theorem bindV_no : bindV (some r) H P C d ops rest env none K = aops P C d ops rest env H K := _root_.id rfl
theorem bindH_no : bindH (some H') P C d ops rest env none K = aops P C d ops rest env H' K := _root_.id rfl
end
variable {ty : TypeId} {p : String} {af : Array Edge}
theorem aops_of {o : Oper} (hg : o.guard = none) (hc : ∀ c, o.op = .call c → callOf env c = none) : aops P C d ops (o :: rest) env H K = bindK (astep P o env H) P C d ops rest env o.dst K := by
  rw [aops]
  have hw : wantA ops o env = some true := by unfold wantA; rw [hg]
  rw [hw]
  simp only
  split
  · rename_i c ho
    rw [hc c ho]
    simp only
    cases astep P o env H <;> rfl
  · cases astep P o env H <;> rfl
theorem ofK {a a' : Ans} (h : a = a') : bindK a P C d ops rest env dst K = bindK a' P C d ops rest env dst K := by rw [h]
theorem ofV {x : Option AV} {a : Ans} (h : a = x.map fun c => (c, H)) : bindK a P C d ops rest env dst K = bindV x H P C d ops rest env dst K := by subst h; cases x <;> rfl
theorem ofH {x : Option Heap} {a : Ans} (h : a = x.map fun H' => (.any, H')) : bindK a P C d ops rest env dst K = bindH x P C d ops rest env dst K := by subst h; cases x <;> rfl
theorem same_val {g : Heap → Ans} (h : Same g) (H : Heap) : g H = ((g []).map (·.1)).map fun c => (c, H) := by
  cases hg : g [] with
  | none => cases hH : g H with
    | none => rfl
    | some x =>
      have := (h (r := x.1) (H' := x.2) hH).2 []
      rw [hg] at this; cases this
  | some x => rw [(h (r := x.1) (H' := x.2) hg).2 H]; rfl
theorem gops {op : Op} {j : Nat} {w : Bool} : aops P C d ops (⟨dst, op, ty, p, af, some (j, w)⟩ :: rest) env H K = guardK (wantK ((ops[j]?).bind (·.dst)) w env) P C d ops ⟨dst, op, ty, p, af, none⟩ rest env H K := by
  rw [aops]
  have : wantA ops ⟨dst, op, ty, p, af, some (j, w)⟩ env = wantK ((ops[j]?).bind (·.dst)) w env := rfl
  rw [this]
  cases hw : wantK ((ops[j]?).bind (·.dst)) w env with
  | none => rfl
  | some b => cases b with
    | false => rfl
    | true => show _ = aops P C d ops (⟨dst, op, ty, p, af, none⟩ :: rest) env H K; rw [aops]; rfl
theorem wantK_some {k : Nat} {w : Bool} : wantK (some k) w env = wantV (get env k) w := rfl
theorem wantV_bool {b w : Bool} : wantV (.val (.bool b)) w = some (b == w) := rfl
theorem wantV_undef {w : Bool} : wantV (.val undef) w = some false := rfl
theorem guardK_true {o : Oper} : guardK (some true) P C d ops o rest env H K = aops P C d ops (o :: rest) env H K := _root_.id rfl
theorem guardK_false {op : Op} {e : Env} {l : List (Nat × AV)} {k : Nat} : guardK (some false) P C d ops ⟨some k, op, ty, p, af, none⟩ rest (mk e l) H K = aops P C d ops rest (mk e ((k, .val undef) :: l)) H K := _root_.id rfl
theorem guardK_none {op : Op} : guardK (some false) P C d ops ⟨none, op, ty, p, af, none⟩ rest env H K = aops P C d ops rest env H K := _root_.id rfl
theorem guardK_of {b w : Bool} {o : Oper} (h1 : (b == w) = true → aops P C d ops (o :: rest) env H K) (h2 : (b == w) = false → guardK (some false) P C d ops o rest env H K) : guardK (some (b == w)) P C d ops o rest env H K := by
  cases h : (b == w) with
  | true => exact h1 h
  | false => exact h2 h
theorem map_val {α : Type} {x : Option α} {f : α → Option Value} : (x.bind fun v => (f v).map fun r => (AV.val r, H)) = (x.bind fun v => (f v).map AV.val).map fun c => (c, H) := by
  cases x with
  | none => rfl
  | some v => cases h : f v <;> simp [h]
theorem aops_move {x : Operand} : aops P C d ops (⟨dst, .move x, ty, p, af, none⟩ :: rest) env H K = bindV (some (opA env x)) H P C d ops rest env dst K := by
  refine (aops_of rfl (by intro c h; cases h)).trans (ofV ?_)
  rfl
theorem aops_assign {x : Operand} : aops P C d ops (⟨dst, .assign x, ty, p, af, none⟩ :: rest) env H K = bindV (some (opA env x)) H P C d ops rest env dst K := by
  refine (aops_of rfl (by intro c h; cases h)).trans (ofV ?_)
  rfl
theorem aops_pick {c x y : Operand} : aops P C d ops (⟨dst, .pick c x y, ty, p, af, none⟩ :: rest) env H K = bindV (pickA (opA env c) (opA env x) (opA env y)) H P C d ops rest env dst K := by
  refine (aops_of rfl (by intro c h; cases h)).trans (ofV ?_)
  show astep P _ env H = _; unfold astep pickA; simp only; split <;> simp_all
theorem aops_nilCheck {x : Operand} : aops P C d ops (⟨dst, .nilCheck x, ty, p, af, none⟩ :: rest) env H K = bindV (nilA (opA env x)) H P C d ops rest env dst K := by
  refine (aops_of rfl (by intro c h; cases h)).trans (ofV ?_)
  show astep P _ env H = _; unfold astep nilA; simp only; split <;> simp_all
theorem aops_binOp {op : BinOp} {t yt : TypeId} {x y : Operand} : aops P C d ops (⟨dst, .binOp op t x y yt, ty, p, af, none⟩ :: rest) env H K = bindV (binA P op t x y (opA env x) (opA env y)) H P C d ops rest env dst K := by
  refine (aops_of rfl (by intro c h; cases h)).trans (ofV ?_)
  rfl
theorem aops_unOp {op : UnOp} {t : TypeId} {x : Operand} : aops P C d ops (⟨dst, .unOp op t x, ty, p, af, none⟩ :: rest) env H K = bindV (unV P op (opA env x)) H P C d ops rest env dst K := by
  refine (aops_of rfl (by intro c h; cases h)).trans (ofV ?_)
  exact map_val
theorem aops_convert {s t : TypeId} {x : Operand} : aops P C d ops (⟨dst, .convert s t x, ty, p, af, none⟩ :: rest) env H K = bindV (convV P s t (opA env x)) H P C d ops rest env dst K := by
  refine (aops_of rfl (by intro c h; cases h)).trans (ofV ?_)
  exact map_val
theorem aops_fieldAddr {t : TypeId} {x : Operand} {f : Nat} : aops P C d ops (⟨dst, .fieldAddr t x f, ty, p, af, none⟩ :: rest) env H K = bindV (fieldV P t (opA env x) f) H P C d ops rest env dst K := by
  refine (aops_of rfl (by intro c h; cases h)).trans (ofV ?_)
  show fieldAddrA P t (opA env x) f H = _; unfold fieldAddrA fieldV; split <;> simp_all
theorem aops_indexAddr {t : TypeId} {x y : Operand} : aops P C d ops (⟨dst, .indexAddr t x y, ty, p, af, none⟩ :: rest) env H K = bindV (slotV P t (opA env x) (opA env y)) H P C d ops rest env dst K := by
  refine (aops_of rfl (by intro c h; cases h)).trans (ofV ?_)
  exact same_val (same_index _ _ _) H
theorem aops_slice {t : TypeId} {x : Operand} {lo hi : Option Operand} : aops P C d ops (⟨dst, .slice t x lo hi none, ty, p, af, none⟩ :: rest) env H K = bindV (sliceV P t (opA env x) (lo.map (opA env)) (hi.map (opA env))) H P C d ops rest env dst K := by
  refine (aops_of rfl (by intro c h; cases h)).trans (ofV ?_)
  exact same_val (same_slice _ _ _ _) H
theorem aops_index {t : TypeId} {x y : Operand} : aops P C d ops (⟨dst, .index t x y, ty, p, af, none⟩ :: rest) env H K = bindV (indexA P t (opA env x) (opA env y)) H P C d ops rest env dst K := by
  refine (aops_of rfl (by intro c h; cases h)).trans (ofV ?_)
  rfl
theorem aops_extract {x : Operand} {k : Nat} : aops P C d ops (⟨dst, .extract x k, ty, p, af, none⟩ :: rest) env H K = bindV (extractA (opA env x) k) H P C d ops rest env dst K := by
  refine (aops_of rfl (by intro c h; cases h)).trans (ofV ?_)
  rfl
theorem aops_makeInterface {t : TypeId} {x : Operand} : aops P C d ops (⟨dst, .makeInterface t x, ty, p, af, none⟩ :: rest) env H K = bindV (ifaceV P t (opA env x)) H P C d ops rest env dst K := by
  refine (aops_of rfl (by intro c h; cases h)).trans (ofV ?_)
  show astep P _ env H = _; unfold astep ifaceV; simp only; split <;> simp_all
theorem aops_makeFunc {f : Fn} {l l' : List Operand} : aops P C d ops (⟨dst, .makeFunc f (List.toArray l) (List.toArray l'), ty, p, af, none⟩ :: rest) env H K = bindV (some (.fn f (l.map (opA env)) (l'.map (opA env)))) H P C d ops rest env dst K := by
  refine (aops_of rfl (by intro c h; cases h)).trans (ofV ?_)
  rfl
theorem aops_build {t : TypeId} {l : List (Nat × Operand)} : aops P C d ops (⟨dst, .build t (List.toArray l), ty, p, af, none⟩ :: rest) env H K = bindV (buildV P t (partsA env l)) H P C d ops rest env dst K := by
  refine (aops_of rfl (by intro c h; cases h)).trans (ofV ?_)
  show ((partsA env l).bind fun r => buildA P t r H) = _; unfold buildV; cases partsA env l with
  | none => rfl
  | some l' => exact same_val (same_build _ _) H
theorem aops_load {t : TypeId} {x : Operand} : aops P C d ops (⟨dst, .load t x, ty, p, af, none⟩ :: rest) env H K = bindV (loadV P t (opA env x) H) H P C d ops rest env dst K := by
  refine (aops_of rfl (by intro c h; cases h)).trans (ofV ?_)
  show loadA P t (opA env x) H = _; unfold loadV; cases h : loadA P t (opA env x) H with
  | none => rfl
  | some r => have := loadA_same (r := r.1) (H' := r.2) h; simp only [Option.map_some, ← this]
theorem aops_lookup {t : TypeId} {x y : Operand} {ok : Bool} : aops P C d ops (⟨dst, .lookup t x y ok, ty, p, af, none⟩ :: rest) env H K = bindV (lookupA P t (opA env x) (opA env y) ok H) H P C d ops rest env dst K := by
  refine (aops_of rfl (by intro c h; cases h)).trans (ofV ?_)
  rfl
theorem aops_alloc {e : TypeId} : aops P C d ops (⟨dst, .alloc e, ty, p, af, none⟩ :: rest) env H K = bindK (allocA (zc P e) e H) P C d ops rest env dst K := by
  refine (aops_of rfl (by intro c h; cases h)).trans (ofK ?_)
  rfl
theorem aops_box {e : TypeId} {x : Operand} : aops P C d ops (⟨dst, .box e x, ty, p, af, none⟩ :: rest) env H K = bindK (boxA e (opA env x) H) P C d ops rest env dst K := by
  refine (aops_of rfl (by intro c h; cases h)).trans (ofK ?_)
  rfl
theorem aops_buildSlice {t n : Nat} {l : List (Nat × Operand)} : aops P C d ops (⟨dst, .buildSlice t n (List.toArray l), ty, p, af, none⟩ :: rest) env H K = bindK (bsA P t n (partsA env l) H) P C d ops rest env dst K := by
  refine (aops_of rfl (by intro c h; cases h)).trans (ofK ?_)
  rfl
theorem aops_makeSlice {t : TypeId} {x y : Operand} : aops P C d ops (⟨dst, .makeSlice t x y, ty, p, af, none⟩ :: rest) env H K = bindK (makeSliceA P t (opA env x) (opA env y) H) P C d ops rest env dst K := by
  refine (aops_of rfl (by intro c h; cases h)).trans (ofK ?_)
  rfl
theorem aops_makeMap {t : TypeId} : aops P C d ops (⟨dst, .makeMap t none, ty, p, af, none⟩ :: rest) env H K = bindK (some (.mp H.length, H ++ [.map []])) P C d ops rest env dst K := by
  refine (aops_of rfl (by intro c h; cases h)).trans (ofK ?_)
  rfl
theorem aops_store {t : TypeId} {x y : Operand} : aops P C d ops (⟨dst, .store t x y, ty, p, af, none⟩ :: rest) env H K = bindH (storeA P t (opA env x) (opA env y) H) P C d ops rest env dst K := by
  refine (aops_of rfl (by intro c h; cases h)).trans (ofH ?_)
  rfl
theorem aops_insert {t : TypeId} {x y z : Operand} : aops P C d ops (⟨dst, .insert t x y z, ty, p, af, none⟩ :: rest) env H K = bindH (insertA P t (opA env x) (opA env y) (opA env z) H) P C d ops rest env dst K := by
  refine (aops_of rfl (by intro c h; cases h)).trans (ofH ?_)
  rfl
theorem aops_mapUpdate {t : TypeId} {x y z : Operand} : aops P C d ops (⟨dst, .mapUpdate t x y z, ty, p, af, none⟩ :: rest) env H K = bindH (insertA P t (opA env x) (opA env y) (opA env z) H) P C d ops rest env dst K := by
  refine (aops_of rfl (by intro c h; cases h)).trans (ofH ?_)
  rfl
theorem aops_len {x : Operand} {t : TypeId} : aops P C d ops (⟨dst, .call ⟨.builtin .len, List.toArray [x], List.toArray [t]⟩, ty, p, af, none⟩ :: rest) env H K = bindV (lenA P t (opA env x)) H P C d ops rest env dst K := by
  refine (aops_of rfl (by intro c h; cases h; rfl)).trans (ofV ?_)
  rfl
theorem aops_append {x y : Operand} {t : TypeId} : aops P C d ops (⟨dst, .call ⟨.builtin .append, List.toArray [x, y], List.toArray [t, t]⟩, ty, p, af, none⟩ :: rest) env H K = bindK (appendA P t (opA env x) (opA env y) H) P C d ops rest env dst K := by
  refine (aops_of rfl (by intro c h; cases h; rfl)).trans (ofK ?_)
  show builtinA P .append ty [opA env x, opA env y] (List.toArray [t, t]) H = _; unfold builtinA; simp
theorem aops_call {f : Nat} {l : List Operand} {ts : Array TypeId} : aops P C d ops (⟨dst, .call ⟨.value (.func f), List.toArray l, ts⟩, ty, p, af, none⟩ :: rest) env H K = callX P C d f (l.map (opA env)) H ops rest env dst K := by
  rw [aops]
  simp only [wantA, callOf, opA, List.nil_append, List.append_nil]
  rfl

/-- Are calls of a function among those that leave the objects alone? -/
def quietD (d : Option (List Nat)) (f : FuncId) : Bool := match d with
  | none => false
  | some q => q.contains f
/-- A call by its contract: one answer, objects added. -/
theorem callX_of {f : FuncId} {args : List AV} {r : AV} (h : ACalls P C f args H fun r' H2 => r' = r ∧ H2 = H') (hp : H <+: H') (hk : aops P C d ops rest (setD env dst r) H' K) (hq : quietD d f = false := by rfl) : callX P C d f args H ops rest env dst K := by
  unfold callX callK
  cases d with
  | none => exact h.mono fun r' H2 ⟨e1, e2⟩ => e1 ▸ e2 ▸ hk
  | some q =>
    have hq' : q.contains f = false := hq
    exact ⟨r, H', h, hp, fun (e : q.contains f = true) => absurd e (by rw [hq']; simp), hk⟩
/-- A call that leaves the objects alone, whatever more there are. -/
theorem callX_quiet {f : FuncId} {args : List AV} {r : AV} (h : ∀ G, ACalls P C f args (H ++ G) fun r' H2 => r' = r ∧ H2 = H ++ G) (hk : aops P C d ops rest (setD env dst r) H K) : callX P C d f args H ops rest env dst K := by
  have h0 : ACalls P C f args H fun r' H2 => r' = r ∧ H2 = H := by have := h []; rwa [List.append_nil] at this
  unfold callX callK
  cases d with
  | none => exact h0.mono fun r' H2 ⟨e1, e2⟩ => e1 ▸ e2 ▸ hk
  | some q => exact ⟨r, H, h0, List.prefix_refl _, fun _ => ⟨rfl, h⟩, hk⟩
theorem callX_any {f : FuncId} {args : List AV} {R : AV → Heap → Prop} (h : ACalls P C f args H R) (hk : ∀ r H', R r H' → aops P C none ops rest (setD env dst r) H' K) : callX P C none f args H ops rest env dst K := h.mono hk
end

section
variable {d : Option (List Nat)} {ops : Array Oper} {rest : List Oper} {env : Env} {H : Heap} {K : Env → Heap → Prop} {dst : Option Nat} {c : Code} {Q : Exit → Env → Heap → Prop}
@[congr] theorem condK_cg {x y : AV} {a b : Code} (h : x = y) : condK x P C a b env H Q = condK y P C a b env H Q := by rw [h]
@[congr] theorem guardK_cg {x y : Option Bool} {o : Oper} (h : x = y) : guardK x P C d ops o rest env H K = guardK y P C d ops o rest env H K := by rw [h]
@[congr] theorem bindK_cg {x y : Ans} (h : x = y) : bindK x P C d ops rest env dst K = bindK y P C d ops rest env dst K := by rw [h]
@[congr] theorem bindV_cg {x y : Option AV} (h : x = y) : bindV x H P C d ops rest env dst K = bindV y H P C d ops rest env dst K := by rw [h]
@[congr] theorem bindH_cg {x y : Option Heap} (h : x = y) : bindH x P C d ops rest env dst K = bindH y P C d ops rest env dst K := by rw [h]
@[congr] theorem callX_cg {f : FuncId} {x y : List AV} (h : x = y) : callX P C d f x H ops rest env dst K = callX P C d f y H ops rest env dst K := by rw [h]
end
end Go.Proofs.YtlfpjdcogkcjlaaGreatDoor.AL
