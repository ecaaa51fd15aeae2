/-
  Calls, lists of operations, code: the logic's rules.
-/
import Derived.Test.YtlfpjdcogkcjlaaGreatDoorAL9
namespace Go.Proofs.YtlfpjdcogkcjlaaGreatDoor.AL
open Go.RowKit
set_option linter.unusedVariables false
set_option linter.unusedSimpArgs false

def Callable (P : Program) (f : FuncId) : Prop := ∃ fn, P.funcs[f]? = some fn ∧ (fn.name == "runtime.NumGoroutine") = false ∧ fn.body.isNone = false

/-- What a call does, over abstract states. -/
def ACalls (P : Program) (C : Base) (f : FuncId) (args : List AV) (H : Heap) (R : AV → Heap → Prop) : Prop :=
  Callable P f ∧ ∀ m w (vals : Array Value), RepH C m w H → rels m w args vals.toList → Calls P f vals w fun e w' => ∃ rv m' H' r, e = .returned rv ∧ Fwd C m w m' w' H' ∧ rel m' w' r rv ∧ R r H'

variable {P : Program} {C : Base}

theorem ACalls.mono {f : FuncId} {args : List AV} {H : Heap} {R R' : AV → Heap → Prop} (h : ACalls P C f args H R) (hr : ∀ r H', R r H' → R' r H') : ACalls P C f args H R' :=
  ⟨h.1, fun m w vals h1 h2 => (h.2 m w vals h1 h2).mono fun e w' ⟨rv, m', H', r, a, b, c, d⟩ => ⟨rv, m', H', r, a, b, c, hr _ _ d⟩⟩

theorem Fwd.trans {m m' m2 : Places} {w w' w2 : World} {H' H2 : Heap} (h : Fwd C m w m' w' H') (k : Fwd C m' w' m2 w2 H2) : Fwd C m w m2 w2 H2 :=
  ⟨h.pre.trans k.pre, h.szs.trans k.szs, k.rep⟩

def callOf (env : Env) (c : Call) : Option (FuncId × List AV) :=
  match c.callee with
  | .value x => match opA env x with
    | .fn (.func f) fi ca => some (f, fi ++ c.args.toList.map (opA env) ++ ca)
    | _ => none
  | _ => none

/-- Is an operation carried out? -/
def wantA (ops : Array Oper) (o : Oper) (env : Env) : Option Bool :=
  match o.guard with
  | none => some true
  | some (j, want) => match (ops[j]?).bind (·.dst) with
    | some d => match env.getD d .any with
      | .val (.bool b) => some (b == want)
      | .val (.tuple _) => some false
      | _ => none
    | none => none

/-- A call among operations; in a region that draws its order it answers in one way, and adds objects alone. -/
def callK (P : Program) (C : Base) (d : Option (List Nat)) (f : FuncId) (args : List AV) (H : Heap) (X : AV → Heap → Prop) : Prop :=
  match d with
  | none => ACalls P C f args H X
  | some q => ∃ r H', ACalls P C f args H (fun r' H2 => r' = r ∧ H2 = H') ∧ H <+: H' ∧ (q.contains f = true → H' = H ∧ ∀ G, ACalls P C f args (H ++ G) (fun r' H2 => r' = r ∧ H2 = H ++ G)) ∧ X r H'
theorem callK_calls {d : Option (List Nat)} {f : FuncId} {args : List AV} {H : Heap} {X : AV → Heap → Prop} (h : callK P C d f args H X) : ACalls P C f args H X := by
  unfold callK at h
  split at h
  · exact h
  · obtain ⟨r, H', h1, _, _, h2⟩ := h
    exact h1.mono fun r' H2 ⟨e1, e2⟩ => e1 ▸ e2 ▸ h2

def aops (P : Program) (C : Base) (d : Option (List Nat)) (ops : Array Oper) : List Oper → Env → Heap → (Env → Heap → Prop) → Prop
  | [], env, H, K => K env H
  | o :: rest, env, H, K =>
    match wantA ops o env with
    | some false => aops P C d ops rest (setD env o.dst (.val undef)) H K
    | some true => match o.op with
      | .call c => match callOf env c with
        | some (f, args) => callK P C d f args H fun r H' => aops P C d ops rest (setD env o.dst r) H' K
        | none => match astep P o env H with
          | some (r, H') => aops P C d ops rest (setD env o.dst r) H' K
          | none => False
      | _ => match astep P o env H with
        | some (r, H') => aops P C d ops rest (setD env o.dst r) H' K
        | none => False
    | none => False

theorem wantA_wanted {ops : Array Oper} {o : Oper} {env : Env} {b : Bool} (h : wantA ops o env = some b) {m : Places} {w : World} {a : Act} (hE : RepE m w env a) : Region.wanted o (yielded ops a.tmps) = b := by
  unfold wantA at h
  unfold Region.wanted
  split at h
  · rename_i hg
    rw [hg]
    exact Option.some.inj h
  · rename_i j want hg
    rw [hg]
    simp only
    split at h
    · rename_i d hd
      have hr := hE.get d
      split at h
      · rename_i t ht
        rw [ht] at hr
        have hr' : a.tmps.getD d undef = .bool t := hr
        obtain rfl := Option.some.inj h
        have : a.tmps[d]? = some (.bool t) := by
          rw [Array.getD_eq_getD_getElem?] at hr'
          cases h1 : a.tmps[d]? with
          | none => rw [h1] at hr'; cases hr'
          | some v => rw [h1] at hr'; simp at hr'; rw [hr']
        simp only [yielded, hd, Option.bind_some, this]
        cases t <;> cases want <;> rfl
      · rename_i vs ht
        rw [ht] at hr
        have hr' : a.tmps.getD d undef = .tuple vs := hr
        obtain rfl := Option.some.inj h
        rw [Array.getD_eq_getD_getElem?] at hr'
        simp only [yielded, hd, Option.bind_some]
        cases h1 : a.tmps[d]? with
        | none => cases want <;> rfl
        | some v => rw [h1] at hr'; simp at hr'; rw [hr']; cases want <;> rfl
      · cases h
    · cases h

theorem run_callFunc {f : FuncId} {args : Array Value} {w : World} (h : Callable P f) : (callFunc f args).run P w = .ok (.enter f args) w := by
  obtain ⟨fn, h1, h2, h3⟩ := h
  unfold callFunc
  have h2' : fn.name ≠ "runtime.NumGoroutine" := by simpa using h2
  have h3' : fn.body ≠ none := by intro e; rw [e] at h3; cases h3
  simp [program, Sem.run, h1, h2', h3', bind, Sem.bind, pure]

def okOp (n : Nat) (o : Oper) : Bool := o.op.operands.all (okX n)

theorem callOf_run {env : Env} {c : Call} {f : FuncId} {args : List AV} (h : callOf env c = some (f, args)) {o : Oper} (ho : o.op = .call c) {m : Places} {w : World} {H : Heap} {a : Act} (hH : RepH C m w H) (hE : RepE m w env a) (hx : okOp C.nG o = true) (hc : Callable P f) :
    ∃ vals : Array Value, (execOp a.eval o).run P w = .ok (.enter f vals) w ∧ rels m w args vals.toList := by
  have hmem : ∀ x ∈ o.op.operands, okX C.nG x = true := fun x hxm => by unfold okOp at hx; rw [Array.all_eq_true_iff_forall_mem] at hx; exact hx x hxm
  rw [ho] at hmem
  unfold callOf at h
  split at h
  · rename_i x hv
    split at h
    · rename_i g fi ca hx'
      simp only [Option.some.injEq, Prod.mk.injEq] at h
      obtain ⟨rfl, rfl⟩ := h
      have h1 := opA_rel hE hH (okX_spec (hmem x (by show x ∈ Call.operands c; unfold Call.operands; rw [hv]; simp)))
      rw [hx'] at h1
      obtain ⟨vs, us, h2, h3, h4⟩ := h1
      have h5 := rels_map_opA hE hH (xs := c.args.toList) fun z hz => hmem z (by show z ∈ Call.operands c; unfold Call.operands; rw [hv]; simp; right; simpa using hz)
      refine ⟨vs ++ c.args.map a.eval ++ us, ?_, by simpa using rels_append (rels_append h3 h5) h4⟩
      simp only [execOp, ho, resolve, hv, h2, Deferred.ofValue, Sem.run_bind, Sem.run_pure, Result.andThen_ok, invoke]
      exact run_callFunc hc
    · cases h
  · cases h

theorem aops_sound {d : Option (List Nat)} {ops : Array Oper} : ∀ {l : List Oper} {env : Env} {H : Heap} {K : Env → Heap → Prop}, aops P C d ops l env H K → l.all (okOp C.nG) = true → ∀ {m : Places} {w : World} {a : Act}, RepH C m w H → RepE m w env a →
    ∀ {Q : Exit → Act → World → Prop}, (∀ m' w' a' env' H', Fwd C m w m' w' H' → RepE m' w' env' a' → K env' H' → Q .normal a' w') → wpList P ops Q l a w
  | [], env, H, K, h, _, m, w, a, hH, hE, Q, hQ => hQ m w a env H ⟨List.prefix_refl m, Szs.refl w, hH⟩ hE h
  | o :: rest, env, H, K, h, hok, m, w, a, hH, hE, Q, hQ => by
    simp only [List.all_cons, Bool.and_eq_true] at hok
    have hx : o.op.operands.all (okX C.nG) = true := hok.1
    unfold wpList
    unfold aops at h
    have stepped : ∀ {r : AV} {H' : Heap}, astep P o env H = some (r, H') → aops P C d ops rest (setD env o.dst r) H' K → o.wp P a w (wpList P ops Q rest) Q := by
      intro r H' hs hk
      obtain ⟨nxt, m', w', h1, h2, h3⟩ := astep_run hs hH hE hx
      unfold Oper.wp
      rw [h1]
      have hE' := hE.more h3.pre h3.szs
      rcases h2 with ⟨u, rfl, hu⟩ | ⟨rfl, rfl⟩
      · exact aops_sound hk hok.2 h3.rep (hE'.put o.dst hu) fun m2 w2 a2 e2 H2 k1 k2 k3 => hQ m2 w2 a2 e2 H2 (h3.trans k1) k2 k3
      · exact aops_sound hk hok.2 h3.rep (hE'.put o.dst (v := undef) trivial) fun m2 w2 a2 e2 H2 k1 k2 k3 => hQ m2 w2 a2 e2 H2 (h3.trans k1) k2 k3
    split at h
    · rename_i hw
      rw [if_neg (by rw [wantA_wanted hw hE]; simp)]
      exact aops_sound h hok.2 hH (hE.put o.dst rfl) hQ
    · rename_i hw
      rw [if_pos (wantA_wanted hw hE)]
      left
      split at h
      · rename_i c ho
        split at h
        · rename_i f args hc
          have h := callK_calls h
          obtain ⟨vals, h1, h2⟩ := callOf_run hc ho hH hE hok.1 h.1
          unfold Oper.wp
          rw [h1, Oper.upon_enter]
          refine (h.2 m w vals hH h2).mono ?_
          rintro e w' ⟨rv, m', H', r, rfl, k1, k2, k3⟩
          exact aops_sound k3 hok.2 k1.rep ((hE.more k1.pre k1.szs).put o.dst k2) fun m2 w2 a2 e2 H2 q1 q2 q3 => hQ m2 w2 a2 e2 H2 (k1.trans q1) q2 q3
        · split at h
          · rename_i r H' hs
            exact stepped hs h
          · exact h.elim
      · split at h
        · rename_i r H' hs
          exact stepped hs h
        · exact h.elim
    · exact h.elim

end Go.Proofs.YtlfpjdcogkcjlaaGreatDoor.AL
