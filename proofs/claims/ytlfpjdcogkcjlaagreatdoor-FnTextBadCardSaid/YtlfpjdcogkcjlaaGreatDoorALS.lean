/-
  '==' of structs of two numbers.
-/
import Derived.Test.YtlfpjdcogkcjlaaGreatDoorALV
import Derived.Laws.StructEq
namespace Go.Proofs.YtlfpjdcogkcjlaaGreatDoor.AL
open Go.RowKit
set_option linter.unusedVariables false
set_option linter.unusedSimpArgs false
variable {P : Program} {C : Base}

theorem pureRun_program : pureRun P program = some P := rfl
theorem pureRun_ite {α : Type} {c : Prop} [Decidable c] {a b : Sem α} : pureRun P (if c then a else b) = if c then pureRun P a else pureRun P b := by split <;> rfl
theorem pr_struct (d : Nat) (t : TypeId) (fs : Array Field) (xs ys : Array Value) (ht : P.underlying t = some (.struct fs)) (hp : P.stoodInHeld t = false) :
    pureRun P (Op.equalIn (d + 1) t (.agg xs) (.agg ys)) = pureRun P (Op.eqFields d xs ys fs.toList) := by
  rw [Op.equalIn, pureRun_bind, pureRun_underlying ht]
  simp only [Option.bind_some, pureRun_bind, pureRun_program, hp, Bool.false_eq_true, if_false]
  rw [← Array.forIn_toList]
  generalize fs.toList = l
  clear ht
  induction l with
  | nil => rfl
  | cons f l ih =>
    simp only [List.forIn_cons, Op.eqFields, pureRun_bind, pureRun_ite]
    split
    · cases pureRun P (part f.type xs f.offset) with
      | none => rfl
      | some a =>
        simp only [Option.bind_some]
        cases pureRun P (part f.type ys f.offset) with
        | none => rfl
        | some b =>
          simp only [Option.bind_some]
          cases pureRun P (Op.equalIn d f.type a b) with
          | none => rfl
          | some r =>
            cases r
            · rfl
            · simp only [Option.bind_some, Bool.not_true, Bool.false_eq_true, if_false, pureRun_pure]
              exact ih
    · simp only [Option.bind_some, pureRun_pure]
      exact ih
def isI64 : Option TypeDesc → Bool
  | some (.int .i64) => true
  | _ => false
theorem isI64_spec {u : Option TypeDesc} (h : isI64 u = true) : u = some (.int .i64) := by
  unfold isI64 at h
  split at h
  · rfl
  · cases h
def eq2 (P : Program) (t : TypeId) : Bool := match P.underlying t with
  | some (.struct fs) => !P.stoodInHeld t && !P.eqGuardType P.depth t && (match fs.toList with
    | [f, g] => f.name != "_" && g.name != "_" && f.offset == 0 && g.offset == 1 && isI64 (P.underlying f.type) && isI64 (P.underlying g.type)
    | _ => false)
  | _ => false
theorem pr_part {u : TypeId} {k : IntKind} (h : P.underlying u = some (.int k)) {xs : Array Value} {n : Nat} {v : Value} (hv : xs[n]? = some v) : pureRun P (part u xs n) = some v := by
  unfold part isAgg
  simp only [pureRun_bind, pureRun_underlying h, Option.bind_some, hv]
  rfl
theorem pr_int {d : Nat} {u : TypeId} {k k' : IntKind} (h : P.underlying u = some (.int k')) {a b : Int} : pureRun P (Op.equalIn (d + 1) u (.int k a) (.int k b)) = some (a == b) := by
  rw [Op.equalIn, pureRun_bind, pureRun_underlying h]
  simp only [Option.bind_some, if_true]
  rfl
theorem eq2_run {t : TypeId} (h : eq2 P t = true) {a b c d : Int} {xo yo : Operand} : pureRun P (eqGuard .eql t xo yo (.agg #[.int .i64 a, .int .i64 b]) (.agg #[.int .i64 c, .int .i64 d])) = some () ∧ pureRun P (eqGuard .neq t xo yo (.agg #[.int .i64 a, .int .i64 b]) (.agg #[.int .i64 c, .int .i64 d])) = some () ∧ pureRun P (Op.equal t (.agg #[.int .i64 a, .int .i64 b]) (.agg #[.int .i64 c, .int .i64 d])) = some (decide (a = c) && decide (b = d)) := by
  unfold eq2 at h
  split at h
  · rename_i fs hu
    simp only [Bool.and_eq_true, Bool.not_eq_true'] at h
    obtain ⟨⟨h1, h2⟩, h3⟩ := h
    split at h3
    · rename_i f g hfs
      simp only [Bool.and_eq_true, bne_iff_ne, ne_eq, beq_iff_eq] at h3
      obtain ⟨⟨⟨⟨⟨n1, n2⟩, o1⟩, o2⟩, u1⟩, u2⟩ := h3
      have u1 := isI64_spec u1
      have u2 := isI64_spec u2
      refine ⟨?_, ?_, ?_⟩
      · unfold eqGuard
        simp only [Bool.not_true, Bool.false_eq_true, if_false, pureRun_bind, pureRun_program, Option.bind_some, pureRun_ite, h2, Bool.not_false, if_true]
        rfl
      · unfold eqGuard
        simp only [Bool.not_true, Bool.false_eq_true, if_false, pureRun_bind, pureRun_program, Option.bind_some, pureRun_ite, h2, Bool.not_false, if_true]
        rfl
      · unfold Op.equal Op.maxDepth
        rw [pr_struct _ _ fs _ _ hu h1, hfs]
        simp only [Op.eqFields, ne_eq, n1, n2, not_false_eq_true, if_true, pureRun_bind, o1, o2]
        rw [pr_part u1 (v := .int .i64 a) rfl, pr_part u1 (v := .int .i64 c) rfl]
        simp only [Option.bind_some]
        rw [pr_int u1]
        simp only [Option.bind_some, pureRun_ite, pureRun_bind]
        rw [pr_part u2 (v := .int .i64 b) rfl, pr_part u2 (v := .int .i64 d) rfl]
        simp only [Option.bind_some]
        rw [pr_int u2]
        by_cases e1 : a = c <;> by_cases e2 : b = d <;> simp [e1, e2, pureRun_pure]
    · cases h3
  · cases h
theorem bin_eql2 {t : TypeId} {xo yo : Operand} {a b c d : Int} (h : eq2 P t = true) : binA P .eql t xo yo (.agg [vI a, vI b]) (.agg [vI c, vI d]) = some (vB (decide (a = c) && decide (b = d))) := by
  obtain ⟨h1, _, h2⟩ := eq2_run h (a := a) (b := b) (c := c) (d := d) (xo := xo) (yo := yo)
  have hb : pureRun P (binOp .eql t (.agg #[.int .i64 a, .int .i64 b]) (.agg #[.int .i64 c, .int .i64 d])) = some (.bool (decide (a = c) && decide (b = d))) := by
    show pureRun P (Op.equal t _ _ >>= fun r => pure (Value.bool r)) = _
    rw [pureRun_bind, h2]; rfl
  simp only [binA, plain, plains, Option.bind_some, Option.map_some, pureRun_bind, h1, hb]
theorem bin_neq2 {t : TypeId} {xo yo : Operand} {a b c d : Int} (h : eq2 P t = true) : binA P .neq t xo yo (.agg [vI a, vI b]) (.agg [vI c, vI d]) = some (vB (!(decide (a = c) && decide (b = d)))) := by
  obtain ⟨_, h1, h2⟩ := eq2_run h (a := a) (b := b) (c := c) (d := d) (xo := xo) (yo := yo)
  have hb : pureRun P (binOp .neq t (.agg #[.int .i64 a, .int .i64 b]) (.agg #[.int .i64 c, .int .i64 d])) = some (.bool (!(decide (a = c) && decide (b = d)))) := by
    show pureRun P (Op.equal t _ _ >>= fun r => pure (Value.bool (!r))) = _
    rw [pureRun_bind, h2]; rfl
  simp only [binA, plain, plains, Option.bind_some, Option.map_some, pureRun_bind, h1, hb]
section
variable {d : Option (List Nat)} {ops : Array Oper} {rest : List Oper} {env : Env} {H : Heap} {K : Env → Heap → Prop} {dst : Option Nat}
/-- The rest of a list of operations by what holds behind it. -/
theorem callX_join (J : Env → Heap → Prop) {f : FuncId} {args : List AV} (h1 : callX P C d f args H ops rest env dst J) (h2 : ∀ e h, J e h → K (mk e []) h) : callX P C d f args H ops rest env dst K := by
  unfold callX callK at h1 ⊢
  cases d with
  | none => exact ACalls.mono h1 fun r H' hk => aops_mono (fun e h hj => h2 e h hj) hk
  | some q =>
    obtain ⟨r, H', a, b, c, hk⟩ := h1
    exact ⟨r, H', a, b, c, aops_mono (fun e h hj => h2 e h hj) hk⟩
theorem guardK_join (J : Env → Heap → Prop) {x : Option Bool} {o : Oper} (h1 : guardK x P C d ops o rest env H J) (h2 : ∀ e h, J e h → K (mk e []) h) : guardK x P C d ops o rest env H K := by
  unfold guardK at h1 ⊢
  split at h1
  · exact aops_mono (fun e h hj => h2 e h hj) h1
  · exact aops_mono (fun e h hj => h2 e h hj) h1
  · exact h1.elim
end
/-- max of two. -/
def maxV (P : Program) (ts : Array TypeId) (ty : TypeId) (x y : AV) : Option AV := (plains [x, y]).bind fun vs => (pureRun P (Builtin.max_ ts ty vs.toArray)).map .val
section
variable {d : Option (List Nat)} {ops : Array Oper} {rest : List Oper} {env : Env} {H : Heap} {K : Env → Heap → Prop} {dst : Option Nat} {ty : TypeId} {p : String} {af : Array Edge}
theorem aops_max {x y : Operand} {ts : Array TypeId} : aops P C d ops (⟨dst, .call ⟨.builtin .max, List.toArray [x, y], ts⟩, ty, p, af, none⟩ :: rest) env H K = bindV (maxV P ts ty (opA env x) (opA env y)) H P C d ops rest env dst K := by
  refine (aops_of rfl (by intro c h; cases h; rfl)).trans (ofV ?_)
  have e : builtinA P .max ty [opA env x, opA env y] ts H = (plains [opA env x, opA env y]).bind fun vs => (pureRun P (Builtin.max_ ts ty vs.toArray)).map fun v => (AV.val v, H) := by
    unfold builtinA
    split <;> simp_all
  show builtinA P .max ty [opA env x, opA env y] ts H = _
  rw [e]
  unfold maxV
  cases plains [opA env x, opA env y] with
  | none => rfl
  | some vs =>
    simp only [Option.bind_some]
    cases pureRun P (Builtin.max_ ts ty vs.toArray) <;> rfl
theorem max_int {ts : Array TypeId} {k : IntKind} {a b : Int} : maxV P ts ty (.val (.int k a)) (.val (.int k b)) = some (.val (.int k (max a b))) := by
  unfold maxV
  simp only [plains, plain, Option.bind_some, Option.map_some]
  have : pureRun P (Builtin.max_ ts ty (List.toArray [.int k a, .int k b])) = some (.int k (max a b)) := by
    show some (Value.int k (if b > a then b else a)) = _
    congr 2
    split <;> omega
  rw [this]; rfl
end
end Go.Proofs.YtlfpjdcogkcjlaaGreatDoor.AL
