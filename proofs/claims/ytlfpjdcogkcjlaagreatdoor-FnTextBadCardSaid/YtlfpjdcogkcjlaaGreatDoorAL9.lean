/-
  One table of operations over abstract states; the machine's operation does what the table says.
-/
import Derived.Test.YtlfpjdcogkcjlaaGreatDoorAL8
namespace Go.Proofs.YtlfpjdcogkcjlaaGreatDoor.AL
open Go.RowKit
set_option linter.unusedVariables false
set_option linter.unusedSimpArgs false
variable {P : Program} {C : Base}

def builtinA (P : Program) (b : Builtin) (ty : TypeId) (args : List AV) (ts : Array TypeId) (H : Heap) : Ans :=
  match b, args, ts.toList with
  | .len, [x], [t] => (lenA P t x).map fun c => (c, H)
  | .append, [x, y], [t, t'] => if t = t' then appendA P t x y H else none
  | .max, xs, _ => (plains xs).bind fun vs => (pureRun P (Builtin.max_ ts ty vs.toArray)).map fun v => (.val v, H)
  | .min, xs, _ => (plains xs).bind fun vs => (pureRun P (Builtin.min_ ts ty vs.toArray)).map fun v => (.val v, H)
  | _, _, _ => none

def isIface (P : Program) (t : TypeId) : Option Bool :=
  match P.underlying t with
  | some (.interface _) => some true
  | some _ => some false
  | none => none

def astep (P : Program) (o : Oper) (env : Env) (H : Heap) : Ans :=
  match o.op with
  | .move x => some (opA env x, H)
  | .assign x => some (opA env x, H)
  | .pick c a b => match opA env c with
    | .val (.bool t) => some (if t then opA env a else opA env b, H)
    | _ => none
  | .alloc e => match zc P e with
    | some zs => if zs.all Value.oneCell' then some (.ptr H.length 0, H ++ [.own e (zs.map .val)]) else none
    | none => none
  | .box e x => (avCells (opA env x)).map fun l => (.ptr H.length 0, H ++ [.own e l])
  | .build t ps => (partsA env ps.toList).bind fun r => buildA P t r H
  | .buildSlice t n ps => (partsA env ps.toList).bind fun r => buildSliceA P t n r H
  | .load t x => loadA P t (opA env x) H
  | .store t x y => (storeA P t (opA env x) (opA env y) H).map fun H' => (.any, H')
  | .nilCheck x => match opA env x with
    | .ptr a b => some (.ptr a b, H)
    | .fn (.func f) a c => some (.fn (.func f) a c, H)
    | _ => none
  | .binOp op t x y _ => (binA P op t x y (opA env x) (opA env y)).map fun c => (c, H)
  | .unOp op _ x => (plain (opA env x)).bind fun v => (pureRun P (Op.unary op v)).map fun r => (.val r, H)
  | .convert s d x => (plain (opA env x)).bind fun v => (pureRun P (convert s d v)).map fun r => (.val r, H)
  | .slice t x lo hi none => sliceA P t (opA env x) (lo.map (opA env)) (hi.map (opA env)) H
  | .fieldAddr s x f => fieldAddrA P s (opA env x) f H
  | .indexAddr t x i => indexAddrA P t (opA env x) (opA env i) H
  | .index t x i => (indexA P t (opA env x) (opA env i)).map fun c => (c, H)
  | .lookup t x k ok => (lookupA P t (opA env x) (opA env k) ok H).map fun c => (c, H)
  | .insert t m k v => (insertA P t (opA env m) (opA env k) (opA env v) H).map fun H' => (.any, H')
  | .mapUpdate t m k v => (insertA P t (opA env m) (opA env k) (opA env v) H).map fun H' => (.any, H')
  | .makeMap t none => some (.mp H.length, H ++ [.map []])
  | .makeSlice t l c => makeSliceA P t (opA env l) (opA env c) H
  | .extract x i => (extractA (opA env x) i).map fun c => (c, H)
  | .makeInterface t x => match isIface P t with
    | some false => some (.ifc t (opA env x), H)
    | _ => none
  | .makeFunc f a c => some (.fn f (a.toList.map (opA env)) (c.toList.map (opA env)), H)
  | .call c => match c.callee with
    | .builtin b => builtinA P b o.type (c.args.toList.map (opA env)) c.argTypes H
    | _ => none
  | _ => none

/-- The machine's operation gives this. -/
def StepOk (P : Program) (C : Base) (o : Oper) (a : Act) (m : Places) (w : World) (r : AV) (H' : Heap) : Prop :=
  ∃ nxt m' w', (execOp a.eval o).run P w = .ok nxt w' ∧ ((∃ u, nxt = .value u ∧ rel m' w' r u) ∨ (nxt = .skip ∧ r = .any)) ∧ Fwd C m w m' w' H'

theorem rels_map_opA {m : Places} {w : World} {env : Env} {a : Act} (h : RepE m w env a) {H : Heap} (hH : RepH C m w H) : ∀ {xs : List Operand}, (∀ x ∈ xs, okX C.nG x = true) → rels m w (xs.map (opA env)) (xs.map a.eval)
  | [], _ => trivial
  | x :: xs, hx => ⟨opA_rel h hH (okX_spec (hx x (List.mem_cons_self ..))), rels_map_opA h hH fun y hy => hx y (List.mem_cons_of_mem _ hy)⟩

theorem builtinA_run {b : Builtin} {ty : TypeId} {args : List AV} {ts : Array TypeId} {H H' : Heap} {r : AV} (h : builtinA P b ty args ts H = some (r, H')) {m : Places} {w : World} (hH : RepH C m w H) {vs : List Value} (hr : rels m w args vs) (consts : Array Bool) :
    ∃ u m' w', (Go.builtin b ts ty consts vs.toArray).run P w = .ok (.value u) w' ∧ Fwd C m w m' w' H' ∧ rel m' w' r u := by
  have self : Fwd C m w m w H := ⟨List.prefix_refl m, Szs.refl w, hH⟩
  unfold builtinA at h
  split at h
  · rename_i x t hts
    obtain ⟨c, h1, h2⟩ := Option.map_eq_some_iff.1 h
    simp only [Prod.mk.injEq] at h2
    obtain ⟨rfl, rfl⟩ := h2
    match vs, hr with
    | [u], hr =>
      obtain ⟨y, h3, h4⟩ := lenA_run (ty := ty) h1 hr.1
      have hts' : ts = #[t] := by rw [← Array.toArray_toList (xs := ts), hts]
      subst hts'
      exact ⟨y, m, w, by simp [Go.builtin, h3], self, h4⟩
  · rename_i x y t t' hts
    split at h
    · rename_i he
      subst he
      match vs, hr with
      | [u, v], hr =>
        obtain ⟨z, m', w', h3, h4, h5⟩ := appendA_run (ty := ty) h hH hr.1 hr.2.1
        have hts' : ts = #[t, t] := by rw [← Array.toArray_toList (xs := ts), hts]
        subst hts'
        exact ⟨z, m', w', by simp [Go.builtin, h3], h4, h5⟩
    · cases h
  · obtain ⟨us, h1, h2⟩ := Option.bind_eq_some_iff.1 h
    obtain ⟨v, h3, h4⟩ := Option.map_eq_some_iff.1 h2
    simp only [Prod.mk.injEq] at h4
    obtain ⟨rfl, rfl⟩ := h4
    obtain rfl := plains_rel h1 hr
    exact ⟨v, m, w, by simp [Go.builtin, pureRun_run h3 w], self, rfl⟩
  · obtain ⟨us, h1, h2⟩ := Option.bind_eq_some_iff.1 h
    obtain ⟨v, h3, h4⟩ := Option.map_eq_some_iff.1 h2
    simp only [Prod.mk.injEq] at h4
    obtain ⟨rfl, rfl⟩ := h4
    obtain rfl := plains_rel h1 hr
    exact ⟨v, m, w, by simp [Go.builtin, pureRun_run h3 w], self, rfl⟩
  · cases h

theorem isIface_false {t : TypeId} (h : isIface P t = some false) : ∃ d, P.underlying t = some d ∧ ∀ ms, d ≠ .interface ms := by
  unfold isIface at h
  split at h
  · simp at h
  · rename_i d hd hu; exact ⟨d, hu, fun ms e => hd ms e⟩
  · cases h

set_option maxHeartbeats 4000000 in
theorem astep_run {o : Oper} {env : Env} {H H' : Heap} {r : AV} (h : astep P o env H = some (r, H')) {m : Places} {w : World} {a : Act} (hH : RepH C m w H) (hE : RepE m w env a) (hx : o.op.operands.all (okX C.nG) = true) :
    StepOk P C o a m w r H' := by
  have self : Fwd C m w m w H := ⟨List.prefix_refl m, Szs.refl w, hH⟩
  have hmem : ∀ x ∈ o.op.operands, okX C.nG x = true := fun x hxm => by rw [Array.all_eq_true_iff_forall_mem] at hx; exact hx x hxm
  have ev : ∀ x ∈ o.op.operands, rel m w (opA env x) (a.eval x) := fun x hxm => opA_rel hE hH (okX_spec (hmem x hxm))
  have val : ∀ {u : Value} {s : Sem Value}, (execOp a.eval o = do pure (.value (← s))) → s.run P w = .ok u w → rel m w r u → H' = H → StepOk P C o a m w r H' := by
    intro u s he hs hr hH'
    subst hH'
    exact ⟨.value u, m, w, by rw [he, Sem.run_bind, hs]; rfl, .inl ⟨u, rfl, hr⟩, self⟩
  have valn : ∀ {u : Value} {s : Sem Value} {m' : Places} {w' : World}, (execOp a.eval o = do pure (.value (← s))) → s.run P w = .ok u w' → rel m' w' r u → Fwd C m w m' w' H' → StepOk P C o a m w r H' := by
    intro u s m' w' he hs hr hf
    exact ⟨.value u, m', w', by rw [he, Sem.run_bind, hs]; rfl, .inl ⟨u, rfl, hr⟩, hf⟩
  unfold astep at h
  split at h
  · rename_i x ho
    simp only [Option.some.injEq, Prod.mk.injEq] at h
    obtain ⟨rfl, rfl⟩ := h
    exact ⟨.value (a.eval x), m, w, by simp [execOp, ho], .inl ⟨_, rfl, ev x (by simp [ho, Op.operands])⟩, self⟩
  · rename_i x ho
    simp only [Option.some.injEq, Prod.mk.injEq] at h
    obtain ⟨rfl, rfl⟩ := h
    exact ⟨.value (a.eval x), m, w, by simp [execOp, ho], .inl ⟨_, rfl, ev x (by simp [ho, Op.operands])⟩, self⟩
  · rename_i c x y ho
    split at h
    · rename_i t hc
      simp only [Option.some.injEq, Prod.mk.injEq] at h
      obtain ⟨rfl, rfl⟩ := h
      have h1 := ev c (by simp [ho, Op.operands])
      rw [hc] at h1
      have h1' : a.eval c = .bool t := h1
      refine ⟨.value (if t then a.eval x else a.eval y), m, w, by simp [execOp, ho, h1', asBool], .inl ⟨_, rfl, ?_⟩, self⟩
      cases t
      · exact ev y (by simp [ho, Op.operands])
      · exact ev x (by simp [ho, Op.operands])
    · cases h
  · rename_i e ho
    split at h
    · rename_i zs hz
      split at h
      · rename_i hall
        simp only [Option.some.injEq, Prod.mk.injEq] at h
        obtain ⟨rfl, rfl⟩ := h
        obtain ⟨z, h1, h2⟩ := run_zero (P := P) (w := w) hz
        have hr := rels_val m w zs
        have hf := hH.new e (arr := z.cells) (cs := zs.map .val) (fun j c hj => by
          obtain ⟨v, q1, q2⟩ := rels_get hr j c hj
          exact ⟨v, by rw [← Array.getElem?_toList, h2]; exact q1, q2⟩) (by rw [← Array.length_toList, h2]; simp)
        refine valn (s := Instr.alloc e true (.tuple #[])) (by simp [execOp, ho]) (u := .pointer (some ⟨w.heap.size, 0, none⟩)) ?_ ⟨(w.heap.size, 0), by rw [← hH.len]; simp, rfl⟩ hf
        simp [Instr.alloc, h1, newVar, newRow]
      · cases h
    · cases h
  · rename_i e x ho
    obtain ⟨l, h1, h2⟩ := Option.map_eq_some_iff.1 h
    simp only [Prod.mk.injEq] at h2
    obtain ⟨rfl, rfl⟩ := h2
    have hr := (avCells_rel h1 (ev x (by simp [ho, Op.operands]))).1
    have hf := hH.new e (arr := (a.eval x).cells) (cs := l) (fun j c hj => by
      obtain ⟨v, q1, q2⟩ := rels_get hr j c hj
      exact ⟨v, by rw [← Array.getElem?_toList]; exact q1, q2⟩) (by rw [rels_length hr]; simp)
    refine valn (s := Instr.box e (a.eval x)) (by simp [execOp, ho]) (u := .pointer (some ⟨w.heap.size, 0, none⟩)) ?_ ⟨(w.heap.size, 0), by rw [← hH.len]; simp, rfl⟩ hf
    simp [Instr.box, newVar, newRow]
  · rename_i t ps ho
    obtain ⟨l, h1, h2⟩ := Option.bind_eq_some_iff.1 h
    have hp := partsA_rel hE hH (ps := ps.toList) (fun p hp => hmem p.2 (by simp [ho, Op.operands]; exact ⟨p.1, by simpa using hp⟩)) h1
    obtain ⟨rfl, u, h3, h4⟩ := buildA_run (P := P) h2 (w := w) (ps := ps.map fun p => (p.1, a.eval p.2)) (by simpa using hp)
    exact val (s := Instr.build t (ps.map fun p => (p.1, a.eval p.2))) (by simp [execOp, ho]) h3 h4 rfl
  · rename_i t n ps ho
    obtain ⟨l, h1, h2⟩ := Option.bind_eq_some_iff.1 h
    have hp := partsA_rel hE hH (ps := ps.toList) (fun p hp => hmem p.2 (by simp [ho, Op.operands]; exact ⟨p.1, by simpa using hp⟩)) h1
    obtain ⟨u, m', w', h3, h4, h5⟩ := buildSliceA_run (P := P) h2 hH (ps := ps.map fun p => (p.1, a.eval p.2)) (by simpa using hp)
    exact valn (s := Instr.buildSlice t n (ps.map fun p => (p.1, a.eval p.2))) (by simp [execOp, ho]) h3 h5 h4
  · rename_i t x ho
    obtain ⟨rfl, u, h3, h4⟩ := loadA_run h hH (ev x (by simp [ho, Op.operands]))
    exact val (s := Instr.loadAt t (a.eval x)) (by simp [execOp, ho]) h3 h4 rfl
  · rename_i t x y ho
    obtain ⟨H2, h1, h2⟩ := Option.map_eq_some_iff.1 h
    simp only [Prod.mk.injEq] at h2
    obtain ⟨rfl, rfl⟩ := h2
    obtain ⟨w', h3, h4⟩ := storeA_run h1 hH (ev x (by simp [ho, Op.operands])) (ev y (by simp [ho, Op.operands]))
    exact ⟨.skip, m, w', by simp [execOp, ho, h3], .inr ⟨rfl, rfl⟩, h4⟩
  · rename_i x ho
    have hv := ev x (by simp [ho, Op.operands])
    split at h
    · rename_i p q hp
      simp only [Option.some.injEq, Prod.mk.injEq] at h
      obtain ⟨rfl, rfl⟩ := h
      rw [hp] at hv
      have hv' := hv
      obtain ⟨b, _, hb⟩ := hv'
      exact ⟨.value (a.eval x), m, w, by simp [execOp, ho, hb], .inl ⟨_, rfl, hv⟩, self⟩
    · rename_i f p q hp
      simp only [Option.some.injEq, Prod.mk.injEq] at h
      obtain ⟨rfl, rfl⟩ := h
      rw [hp] at hv
      have hv' := hv
      obtain ⟨vs, us, hb, _⟩ := hv'
      exact ⟨.value (a.eval x), m, w, by simp [execOp, ho, hb], .inl ⟨_, rfl, hv⟩, self⟩
    · cases h
  · rename_i op t x y _ ho
    obtain ⟨c, h1, h2⟩ := Option.map_eq_some_iff.1 h
    simp only [Prod.mk.injEq] at h2
    obtain ⟨rfl, rfl⟩ := h2
    obtain ⟨r, h3, h4⟩ := binA_run h1 (ev x (by simp [ho, Op.operands])) (ev y (by simp [ho, Op.operands]))
    exact val (by simp only [execOp, ho]) h3 h4 rfl
  · rename_i op _ x ho
    obtain ⟨v, h1, h2⟩ := Option.bind_eq_some_iff.1 h
    obtain ⟨r, h3, h4⟩ := Option.map_eq_some_iff.1 h2
    simp only [Prod.mk.injEq] at h4
    obtain ⟨rfl, rfl⟩ := h4
    obtain hv := plain_rel h1 (ev x (by simp [ho, Op.operands]))
    exact val (s := Op.unary op (a.eval x)) (by simp only [execOp, ho]) (by rw [hv]; exact pureRun_run h3 w) rfl rfl
  · rename_i s d x ho
    obtain ⟨v, h1, h2⟩ := Option.bind_eq_some_iff.1 h
    obtain ⟨r, h3, h4⟩ := Option.map_eq_some_iff.1 h2
    simp only [Prod.mk.injEq] at h4
    obtain ⟨rfl, rfl⟩ := h4
    obtain hv := plain_rel h1 (ev x (by simp [ho, Op.operands]))
    exact val (s := convert s d (a.eval x)) (by simp only [execOp, ho]) (by rw [hv]; exact pureRun_run h3 w) rfl rfl
  · rename_i t x lo hi ho
    have hl : relOpt m w (lo.map (opA env)) (lo.map a.eval) := by
      cases lo with
      | none => trivial
      | some y => exact ev y (by simp [ho, Op.operands])
    have hh : relOpt m w (hi.map (opA env)) (hi.map a.eval) := by
      cases hi with
      | none => trivial
      | some y => exact ev y (by simp [ho, Op.operands])
    obtain ⟨rfl, u, h3, h4⟩ := sliceA_run h (ev x (by simp [ho, Op.operands])) hl hh
    exact val (s := Instr.sliceAt t (a.eval x) (lo.map a.eval) (hi.map a.eval) none) (by simp [execOp, ho]) h3 h4 rfl
  · rename_i s x f ho
    obtain ⟨rfl, u, h3, h4⟩ := fieldAddrA_run h (ev x (by simp [ho, Op.operands]))
    exact val (s := Instr.fieldAt s (a.eval x) f) (by simp only [execOp, ho]) h3 h4 rfl
  · rename_i t x i ho
    obtain ⟨rfl, u, h3, h4⟩ := indexAddrA_run h (ev x (by simp [ho, Op.operands])) (ev i (by simp [ho, Op.operands]))
    exact val (s := Instr.indexAt t (a.eval x) (a.eval i)) (by simp only [execOp, ho]) h3 h4 rfl
  · rename_i t x i ho
    obtain ⟨c, h1, h2⟩ := Option.map_eq_some_iff.1 h
    simp only [Prod.mk.injEq] at h2
    obtain ⟨rfl, rfl⟩ := h2
    obtain ⟨u, h3, h4⟩ := indexA_run h1 (ev x (by simp [ho, Op.operands])) (ev i (by simp [ho, Op.operands]))
    exact val (s := Instr.index t (a.eval x) (a.eval i)) (by simp only [execOp, ho]) h3 h4 rfl
  · rename_i t x k ok ho
    obtain ⟨c, h1, h2⟩ := Option.map_eq_some_iff.1 h
    simp only [Prod.mk.injEq] at h2
    obtain ⟨rfl, rfl⟩ := h2
    obtain ⟨u, h3, h4⟩ := lookupA_run h1 hH (ev x (by simp [ho, Op.operands])) (ev k (by simp [ho, Op.operands]))
    exact val (s := Instr.lookup t (a.eval x) (a.eval k) ok) (by simp only [execOp, ho]) h3 h4 rfl
  · rename_i t x k y ho
    obtain ⟨H2, h1, h2⟩ := Option.map_eq_some_iff.1 h
    simp only [Prod.mk.injEq] at h2
    obtain ⟨rfl, rfl⟩ := h2
    obtain ⟨w', h3, h4⟩ := insertA_run h1 hH (ev x (by simp [ho, Op.operands])) (ev k (by simp [ho, Op.operands])) (ev y (by simp [ho, Op.operands]))
    exact ⟨.skip, m, w', by simp [execOp, ho, h3], .inr ⟨rfl, rfl⟩, h4⟩
  · rename_i t x k y ho
    obtain ⟨H2, h1, h2⟩ := Option.map_eq_some_iff.1 h
    simp only [Prod.mk.injEq] at h2
    obtain ⟨rfl, rfl⟩ := h2
    obtain ⟨w', h3, h4⟩ := insertA_run h1 hH (ev x (by simp [ho, Op.operands])) (ev k (by simp [ho, Op.operands])) (ev y (by simp [ho, Op.operands]))
    exact ⟨.skip, m, w', by simp [execOp, ho, h3], .inr ⟨rfl, rfl⟩, h4⟩
  · rename_i t ho
    simp only [Option.some.injEq, Prod.mk.injEq] at h
    obtain ⟨rfl, rfl⟩ := h
    have hf := hH.add (.map #[] 0) (.map []) ⟨hH.size, #[], 0, heap_alloc_new w _, rfl, fun j k c hj => by simp at hj⟩
    refine valn (s := Instr.makeMap t none) (by simp [execOp, ho]) (u := .map (some w.heap.size)) ?_ ⟨(w.heap.size, 0), by rw [← hH.len]; simp, rfl⟩ hf
    simp [Instr.makeMap]
  · rename_i t x y ho
    obtain ⟨u, m', w', h3, h4, h5⟩ := makeSliceA_run h hH (ev x (by simp [ho, Op.operands])) (ev y (by simp [ho, Op.operands]))
    exact valn (s := Instr.makeSlice t (a.eval x) (a.eval y)) (by simp only [execOp, ho]) h3 h5 h4
  · rename_i x i ho
    obtain ⟨c, h1, h2⟩ := Option.map_eq_some_iff.1 h
    simp only [Prod.mk.injEq] at h2
    obtain ⟨rfl, rfl⟩ := h2
    obtain ⟨u, h3, h4⟩ := extractA_run h1 (ev x (by simp [ho, Op.operands]))
    exact val (s := Instr.extract (a.eval x) i) (by simp only [execOp, ho]) (by rw [h3]) h4 rfl
  · rename_i t x ho
    split at h
    · rename_i hi
      simp only [Option.some.injEq, Prod.mk.injEq] at h
      obtain ⟨rfl, rfl⟩ := h
      obtain ⟨d, hu, hd⟩ := isIface_false hi
      refine val (s := Instr.makeInterface t (a.eval x)) (by simp only [execOp, ho]) (u := .iface t (a.eval x)) ?_ ⟨_, rfl, ev x (by simp [ho, Op.operands])⟩ rfl
      unfold Instr.makeInterface
      rw [Sem.run_bind, run_underlying hu, Result.andThen_ok]
      cases d <;> first | exact absurd rfl (hd _) | rfl
    · cases h
  · rename_i f x y ho
    simp only [Option.some.injEq, Prod.mk.injEq] at h
    obtain ⟨rfl, rfl⟩ := h
    refine val (s := Instr.makeFunc f (x.map a.eval) (y.map a.eval)) (by simp only [execOp, ho]) (u := .func f (x.map a.eval) (y.map a.eval)) ?_ ⟨_, _, rfl, ?_, ?_⟩ rfl
    · rfl
    · simpa using rels_map_opA hE hH (xs := x.toList) fun z hz => hmem z (by simp [ho, Op.operands]; exact .inl (by simpa using hz))
    · simpa using rels_map_opA hE hH (xs := y.toList) fun z hz => hmem z (by simp [ho, Op.operands]; exact .inr (by simpa using hz))
  · rename_i c ho
    split at h
    · rename_i b hb
      have hr := rels_map_opA hE hH (xs := c.args.toList) fun z hz => hmem z (by rw [ho]; show z ∈ Call.operands c; unfold Call.operands; rw [hb]; simpa using hz)
      obtain ⟨u, m', w', h3, h4, h5⟩ := builtinA_run h hH hr (c.args.map fun | .const _ => true | _ => false)
      refine ⟨.value u, m', w', ?_, .inl ⟨u, rfl, h5⟩, h4⟩
      have harr : (c.args.toList.map a.eval).toArray = c.args.map a.eval := by rw [← Array.toList_map, Array.toArray_toList]
      rw [harr] at h3
      simp only [execOp, ho, resolve, hb, Sem.run_bind, Sem.run_pure, Result.andThen_ok, invoke]
      exact h3
    · cases h
  · cases h
end Go.Proofs.YtlfpjdcogkcjlaaGreatDoor.AL
