/-
  Code: the logic's rules.
-/
import Derived.Test.YtlfpjdcogkcjlaaGreatDoorAL11
namespace Go.Proofs.YtlfpjdcogkcjlaaGreatDoor.AL
open Go.RowKit
set_option linter.unusedVariables false
set_option linter.unusedSimpArgs false
variable {P : Program} {C : Base}

def acode (P : Program) (C : Base) : Code → Env → Heap → (Exit → Env → Heap → Prop) → Prop
  | .skip, env, H, Q => Q .normal env H
  | .region id ops draw, env, H, Q => if draw = true then (P.follows .mixedOrders = true ∧ ∃ q, okDraw q ops = true ∧ aops P C (some q) ops ops.toList env H fun e h => Q .normal e h) ∨ AWp P C (.region id ops true) env H Q else aops P C none ops ops.toList env H fun e h => Q .normal e h
  | .seq a b, env, H, Q => acode P C a env H fun ex e h => match ex with
    | .normal => acode P C b e h Q
    | ex => Q ex e h
  | .cond c a b, env, H, Q => match opA env c with
    | .val (.bool t) => if t = true then acode P C a env H Q else acode P C b env H Q
    | _ => False
  | .block id b, env, H, Q => acode P C b env H fun ex e h => match ex with
    | .exit i => if i = id then Q .normal e h else Q (.exit i) e h
    | ex => Q ex e h
  | .exit id, env, H, Q => Q (.exit id) env H
  | .ret, env, H, Q => Q .ret env H
  | .loop b, env, H, Q => AWp P C (.loop b) env H Q
  | _, _, _, _ => False

def okC (n : Nat) : Code → Bool
  | .region _ ops _ => ops.toList.all (okOp n)
  | .seq a b => okC n a && okC n b
  | .cond c a b => okX n c && okC n a && okC n b
  | .block _ b => okC n b
  | .loop b => okC n b
  | _ => true

theorem AWp.mono {c : Code} {env : Env} {H : Heap} {Q Q' : Exit → Env → Heap → Prop} (h : AWp P C c env H Q) (hq : ∀ ex e h, Q ex e h → Q' ex e h) : AWp P C c env H Q' :=
  fun m w a h1 h2 => wp_mono (h m w a h1 h2) fun ex a' w' ⟨m', e', H', k1, k2, k3⟩ => ⟨m', e', H', k1, k2, hq _ _ _ k3⟩

theorem acode_sound : ∀ {c : Code} {env : Env} {H : Heap} {Q : Exit → Env → Heap → Prop}, acode P C c env H Q → okC C.nG c = true → AWp P C c env H Q
  | .skip, env, H, Q, h, _ => fun m w a h1 h2 => wp_skip ⟨m, env, H, ⟨List.prefix_refl m, Szs.refl w, h1⟩, h2, h⟩
  | .region id ops draw, env, H, Q, h, hok => by
    unfold acode at h
    split at h
    · rename_i hd
      subst hd
      rcases h with ⟨h1, q, h2, h3⟩ | h
      · exact A_draw h1 h2 hok h3
      · exact h
    · rename_i hd
      obtain rfl : draw = false := by simpa using hd
      exact fun m w a h1 h2 => wp_region_list (aops_sound h hok h1 h2 fun m' w' a' env' H' k1 k2 k3 => ⟨m', env', H', k1, k2, k3⟩)
  | .seq x y, env, H, Q, h, hok => by
    unfold acode at h
    simp only [okC, Bool.and_eq_true] at hok
    intro m w a h1 h2
    refine wp_seq (wp_mono (acode_sound h hok.1 m w a h1 h2) ?_)
    rintro ex a' w' ⟨m', e', H', k1, k2, k3⟩
    cases ex with
    | normal =>
      exact wp_mono (acode_sound k3 hok.2 m' w' a' k1.rep k2) fun ex a2 w2 ⟨m2, e2, H2, q1, q2, q3⟩ => ⟨m2, e2, H2, k1.trans q1, q2, q3⟩
    | exit i => exact ⟨m', e', H', k1, k2, k3⟩
    | goto l => exact ⟨m', e', H', k1, k2, k3⟩
    | ret => exact ⟨m', e', H', k1, k2, k3⟩
    | panic ch => exact ⟨m', e', H', k1, k2, k3⟩
    | outgrown => exact ⟨m', e', H', k1, k2, k3⟩
  | .cond c x y, env, H, Q, h, hok => by
    unfold acode at h
    simp only [okC, Bool.and_eq_true] at hok
    split at h
    · rename_i t ht
      intro m w a h1 h2
      have hv := opA_rel h2 h1 (okX_spec hok.1.1)
      rw [ht] at hv
      have hv' : a.eval c = .bool t := hv
      refine wp_cond hv' ?_
      cases t
      · exact acode_sound (by simpa using h) hok.2 m w a h1 h2
      · exact acode_sound (by simpa using h) hok.1.2 m w a h1 h2
    · exact h.elim
  | .block id b, env, H, Q, h, hok => by
    unfold acode at h
    intro m w a h1 h2
    refine wp_block (wp_mono (acode_sound h hok m w a h1 h2) ?_)
    rintro ex a' w' ⟨m', e', H', k1, k2, k3⟩
    cases ex with
    | exit i =>
      show if i = id then _ else _
      split
      · rename_i hi; simp only [hi, if_true] at k3; exact ⟨m', e', H', k1, k2, k3⟩
      · rename_i hi; simp only [hi, if_false] at k3; exact ⟨m', e', H', k1, k2, k3⟩
    | normal => exact ⟨m', e', H', k1, k2, k3⟩
    | goto l => exact ⟨m', e', H', k1, k2, k3⟩
    | ret => exact ⟨m', e', H', k1, k2, k3⟩
    | panic ch => exact ⟨m', e', H', k1, k2, k3⟩
    | outgrown => exact ⟨m', e', H', k1, k2, k3⟩
  | .exit id, env, H, Q, h, _ => fun m w a h1 h2 => wp_exit ⟨m, env, H, ⟨List.prefix_refl m, Szs.refl w, h1⟩, h2, h⟩
  | .ret, env, H, Q, h, _ => fun m w a h1 h2 => wp_ret ⟨m, env, H, ⟨List.prefix_refl m, Szs.refl w, h1⟩, h2, h⟩
  | .loop b, env, H, Q, h, _ => h
  | .rangeFunc .., _, _, _, h, _ => h.elim
  | .scope _, _, _, _, h, _ => h.elim
  | .label _, _, _, _, h, _ => h.elim
  | .goto _, _, _, _, h, _ => h.elim
  | .refuse _, _, _, _, h, _ => h.elim

/-- A loop with a measure that nothing in the state need show. -/
theorem wp_loopn {c : Code} {Q : Exit → Act → World → Prop} (I : Nat → Act → World → Prop)
    (round : ∀ n a w, I n a w → c.wp P (Exit.then (fun a' w' => ∃ n', n' < n ∧ I n' a' w') Q) a w) {n : Nat} {a : Act} {w : World} (h0 : I n a w) : (Code.loop c).wp P Q a w := by
  intro b k cs
  have key : ∀ n a w, I n a w → ∃ e a' w', Q e a' w' ∧ Arrives P (lone (b.at a (.code c :: .inLoop c :: k)) cs w) b k cs e a' w' := by
    intro n
    induction n using Nat.strongRecOn with
    | _ n ih =>
      intro a w hI
      obtain ⟨e, a1, w1, hq, harr⟩ := round n a w hI b (.inLoop c :: k) cs
      have through : ∀ e, e ≠ Exit.normal → Q e a1 w1 → Arrives P (lone (b.at a (.code c :: .inLoop c :: k)) cs w) b (.inLoop c :: k) cs e a1 w1 → ∃ e a' w', Q e a' w' ∧ Arrives P (lone (b.at a (.code c :: .inLoop c :: k)) cs w) b k cs e a' w' :=
        fun e he hq harr => ⟨e, a1, w1, hq, .pass (x := .inLoop c) rfl (fun _ _ => .inl he) harr⟩
      cases e with
      | normal =>
        obtain ⟨n', hlt, hI'⟩ := hq
        obtain ⟨e2, a2, w2, hq2, harr2⟩ := ih n' hlt a1 w1 hI'
        exact ⟨e2, a2, w2, hq2, .of_steps (Steps.trans harr (.one step_inLoop)) harr2⟩
      | exit id => exact through _ (by simp) hq harr
      | goto l => exact through _ (by simp) hq harr
      | ret => exact through _ (by simp) hq harr
      | panic ch => exact through _ (by simp) hq harr
      | outgrown => exact through _ (by simp) hq harr
  obtain ⟨e, a', w', hq, harr⟩ := key n a w h0
  exact ⟨e, a', w', hq, .of_steps (.one step_loop) harr⟩

/-- THE RULE FOR LOOPS. -/
theorem A_loop {b : Code} {Q : Exit → Env → Heap → Prop} (I : Nat → Env → Heap → Prop) (hok : okC C.nG b = true)
    (step : ∀ n env H, I n env H → acode P C b env H fun ex e h => match ex with
      | .normal => ∃ n', n' < n ∧ I n' e h
      | ex => Q ex e h) {n : Nat} {env : Env} {H : Heap} (h0 : I n env H) : AWp P C (.loop b) env H Q := by
  intro m w a h1 h2
  refine wp_loopn (I := fun n a' w' => ∃ m' e' H', Fwd C m w m' w' H' ∧ RepE m' w' e' a' ∧ I n e' H') ?_ (n := n) ⟨m, env, H, ⟨List.prefix_refl m, Szs.refl w, h1⟩, h2, h0⟩
  rintro n a' w' ⟨m', e', H', k1, k2, k3⟩
  refine wp_mono (acode_sound (step n e' H' k3) hok m' w' a' k1.rep k2) ?_
  rintro ex a2 w2 ⟨m2, e2, H2, q1, q2, q3⟩
  cases ex with
  | normal =>
    obtain ⟨n', hlt, hI⟩ := q3
    exact ⟨n', hlt, m2, e2, H2, k1.trans q1, q2, hI⟩
  | exit i => exact ⟨m2, e2, H2, k1.trans q1, q2, q3⟩
  | goto l => exact ⟨m2, e2, H2, k1.trans q1, q2, q3⟩
  | ret => exact ⟨m2, e2, H2, k1.trans q1, q2, q3⟩
  | panic ch => exact ⟨m2, e2, H2, k1.trans q1, q2, q3⟩
  | outgrown => exact ⟨m2, e2, H2, k1.trans q1, q2, q3⟩

/-- A function's results. -/
def resA (P : Program) (env : Env) (H : Heap) : List ResultVar → Option (List AV)
  | [] => some []
  | .tmp t :: r => (resA P env H r).map (env.getD t .any :: ·)
  | .cell p t :: r => (loadA P t (env.getD p .any) H).bind fun c => (resA P env H r).map (c.1 :: ·)
def packA : List AV → AV
  | [c] => c
  | l => .tup l
theorem resA_run {env : Env} {H : Heap} {m : Places} {w : World} {a : Act} (hH : RepH C m w H) (hE : RepE m w env a) {g : ResultVar → Sem Value} (g1 : ∀ t, g (.tmp t) = pure (a.tmps.getD t undef)) (g2 : ∀ p t, g (.cell p t) = do loadVar t (← asAddr (a.tmps.getD p undef))) : ∀ {l : List ResultVar} {cs : List AV}, resA P env H l = some cs →
    ∃ vs : List Value, (l.mapM g).run P w = .ok vs w ∧ rels m w cs vs
  | [], cs, h => by simp only [resA, Option.some.injEq] at h; subst h; exact ⟨[], rfl, trivial⟩
  | .tmp t :: l, cs, h => by
    simp only [resA, Option.map_eq_some_iff] at h
    obtain ⟨cs', h1, rfl⟩ := h
    obtain ⟨vs, h2, h3⟩ := resA_run hH hE g1 g2 h1
    exact ⟨a.tmps.getD t undef :: vs, by rw [List.mapM_cons]; simp only [Sem.run_bind, g1, Sem.run_pure, Result.andThen_ok, h2], hE.get t, h3⟩
  | .cell p t :: l, cs, h => by
    simp only [resA, Option.bind_eq_some_iff, Option.map_eq_some_iff] at h
    obtain ⟨⟨c, Hc⟩, h0, cs', h1, rfl⟩ := h
    obtain ⟨vs, h2, h3⟩ := resA_run hH hE g1 g2 h1
    have hp := hE.get p
    obtain ⟨_, u, h4, h5⟩ := loadA_run h0 hH hp
    have h6 : (g (.cell p t)).run P w = .ok u w := by
      rw [g2]
      generalize env.getD p .any = x at h0 hp
      generalize a.tmps.getD p undef = y at h4 hp ⊢
      cases x with
      | ptr o off =>
        obtain ⟨b, _, rfl⟩ := hp
        exact h4
      | _ => simp [loadA] at h0
    exact ⟨u :: vs, by rw [List.mapM_cons, Sem.run_bind, h6, Result.andThen_ok, Sem.run_bind, h2]; rfl, h5, h3⟩

/-- THE RULE FOR A FUNCTION. -/
theorem A_enter {f : FuncId} {fn : Func} {c : Code} {args : List AV} {H : Heap} {R : AV → Heap → Prop} (hf : P.funcs[f]? = some fn) (hb : fn.body = some c) (hn : (fn.name == "runtime.NumGoroutine") = false) (hok : okC C.nG c = true)
    (h : acode P C c (args ++ List.replicate (fn.ntmps - args.length) (.val undef)) H fun ex env' H' => (ex = .normal ∨ ex = .ret) ∧ ∃ cs, resA P env' H' fn.results.toList = some cs ∧ R (packA cs) H') : ACalls P C f args H R := by
  refine ⟨⟨fn, hf, hn, by rw [hb]; rfl⟩, fun m w vals h1 h2 => calls_of_wp hf hb ?_⟩
  have hl := rels_length h2
  have hrep : ∀ n, rels m w (List.replicate n (AV.val undef)) (List.replicate n undef) := fun n => by
    induction n with
    | zero => trivial
    | succ n ih => exact ⟨rfl, ih⟩
  have hE : RepE m w (args ++ List.replicate (fn.ntmps - args.length) (.val undef)) { tmps := vals ++ Array.replicate (fn.ntmps - vals.size) undef, defers := [] } :=
    ⟨rfl, by simp only [Array.toList_append, Array.toList_replicate]; refine rels_append h2 ?_; rw [hl]; simpa using hrep _⟩
  refine wp_mono (acode_sound h hok m w _ h1 hE) ?_
  rintro ex a' w' ⟨m', e', H', k1, k2, hex, cs, k3, k4⟩
  have hres : ∃ v, (results fn a'.tmps).run P w' = .ok v w' ∧ rel m' w' (packA cs) v := by
    unfold results
    rw [Array.mapM_eq_mapM_toList, ← bind_pure_comp]
    simp only [Sem.run_bind]
    have key : ∀ g : ResultVar → Sem Value, (∀ t, g (.tmp t) = pure (a'.tmps.getD t undef)) → (∀ p t, g (.cell p t) = do loadVar t (← asAddr (a'.tmps.getD p undef))) → ∃ v, (((fn.results.toList.mapM g).run P w').andThen fun x w2 => (pure x.toArray : Sem (Array Value)).run P w2).andThen (fun x w2 => (pure (if h : x.size = 1 then x[0] else .tuple x) : Sem Value).run P w2) = .ok v w' ∧ rel m' w' (packA cs) v := ?_
    · exact key _ (fun _ => rfl) (fun _ _ => rfl)
    intro g g1 g2
    obtain ⟨vs, h3, h4⟩ := resA_run (P := P) k1.rep k2 g1 g2 k3
    refine ⟨if h : vs.toArray.size = 1 then vs.toArray[0] else .tuple vs.toArray, ?_, ?_⟩
    · rw [h3]
      rfl
    · match cs, vs, h4 with
      | [c], [v], h4 => exact h4.1
      | [], [], h4 => exact ⟨#[], rfl, trivial⟩
      | c :: c' :: cs, v :: v' :: vs, h4 => exact ⟨(v :: v' :: vs).toArray, by simp, h4⟩
  obtain ⟨v, h5, h6⟩ := hres
  have hpost : a'.defers = [] ∧ ∃ v, (results fn a'.tmps).run P w' = .ok v w' ∧ ∃ rv m' H' r, Ending.returned v = .returned rv ∧ Fwd C m w m' w' H' ∧ rel m' w' r rv ∧ R r H' := ⟨k2.defers, v, h5, v, m', H', packA cs, rfl, k1, h6, k4⟩
  rcases hex with rfl | rfl
  · exact hpost
  · exact hpost
end Go.Proofs.YtlfpjdcogkcjlaaGreatDoor.AL
