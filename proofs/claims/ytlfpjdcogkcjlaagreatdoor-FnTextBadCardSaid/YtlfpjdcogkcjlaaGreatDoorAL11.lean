/-
  Regions that draw their order: where each two operations that would meet are ordered, the program's order stands for all.
-/
import Derived.Test.YtlfpjdcogkcjlaaGreatDoorAL10
import Derived.Orders
namespace Go.Proofs.YtlfpjdcogkcjlaaGreatDoor.AL
open Go.RowKit
set_option linter.unusedVariables false
set_option linter.unusedSimpArgs false
variable {P : Program} {C : Base}

def Lift (C : Base) (Q : Exit → Env → Heap → Prop) (m : Places) (w : World) : Exit → Act → World → Prop := fun ex a' w' => ∃ m' env' H', Fwd C m w m' w' H' ∧ RepE m' w' env' a' ∧ Q ex env' H'
def AWp (P : Program) (C : Base) (c : Code) (env : Env) (H : Heap) (Q : Exit → Env → Heap → Prop) : Prop :=
  ∀ m w a, RepH C m w H → RepE m w env a → c.wp P (Lift C Q m w) a w

/-- What an operation has to do with the objects. -/
inductive Cl where
  | pure | read | look | quiet | new | put | turn
  deriving DecidableEq
def Cl.rd : Cl → Bool
  | .read => true
  | .look => true
  | _ => false
def clOf (q : List Nat) (o : Oper) : Cl :=
  match o.op with
  | .move _ => .pure
  | .assign _ => .pure
  | .pick .. => .pure
  | .build .. => .pure
  | .nilCheck _ => .pure
  | .binOp .. => .pure
  | .unOp .. => .pure
  | .convert .. => .pure
  | .fieldAddr .. => .pure
  | .indexAddr .. => .pure
  | .index .. => .pure
  | .extract .. => .pure
  | .makeInterface .. => .pure
  | .makeFunc .. => .pure
  | .slice .. => .pure
  | .load .. => .read
  | .lookup .. => .look
  | .store .. => .put
  | .alloc _ => .new
  | .box .. => .new
  | .buildSlice .. => .new
  | .makeMap .. => .new
  | .call c => match c.callee with
    | .builtin .len => .pure
    | .builtin .max => .pure
    | .builtin .min => .pure
    | .value (.func f) => if q.contains f then .quiet else .new
    | .value _ => .new
    | _ => .turn
  | _ => .turn

theorem clOf_call {q : List Nat} {o : Oper} {c : Call} (ho : o.op = .call c) : (clOf q o).rd = false := by
  unfold clOf
  simp only [ho]
  split <;> (try split) <;> rfl
theorem clOf_value {q : List Nat} {o : Oper} {c : Call} {x : Operand} (ho : o.op = .call c) (hx : c.callee = .value x) : clOf q o = .quiet ∨ clOf q o = .new := by
  unfold clOf
  simp only [ho, hx]
  cases x with
  | func f =>
    simp only
    split
    · exact .inl rfl
    · exact .inr rfl
  | _ => exact .inr rfl
theorem clOf_quiet {q : List Nat} {o : Oper} (h : clOf q o = .quiet) : ∃ c f, o.op = .call c ∧ c.callee = .value (.func f) ∧ q.contains f = true := by
  unfold clOf at h
  cases ho : o.op <;> simp only [ho, reduceCtorEq] at h
  case call c =>
    cases hx : c.callee with
    | value x =>
      cases x with
      | func f =>
        simp only [hx] at h
        split at h
        · exact ⟨c, f, rfl, hx, by assumption⟩
        · cases h
      | _ => simp [hx] at h
    | builtin b => cases b <;> simp [hx] at h
    | _ => simp [hx] at h
def Same (g : Heap → Ans) : Prop := ∀ {H H' : Heap} {r : AV}, g H = some (r, H') → H' = H ∧ ∀ H2, g H2 = some (r, H2)
theorem same_build (t : TypeId) (l : List (Nat × List AV)) : Same (buildA P t l) := by
  intro H H' r h
  unfold buildA at h ⊢
  repeat' split at h
  all_goals first
    | (cases h; done)
    | (simp only [Option.some.injEq, Prod.mk.injEq] at h; obtain ⟨rfl, rfl⟩ := h; exact ⟨rfl, fun _ => by simp_all⟩)
    | (obtain ⟨c, h1, h2⟩ := Option.map_eq_some_iff.1 h; simp only [Prod.mk.injEq] at h2; obtain ⟨rfl, rfl⟩ := h2; exact ⟨rfl, fun _ => by simp_all⟩)
theorem same_field (t : TypeId) (x : AV) (f : Nat) : Same (fieldAddrA P t x f) := by
  intro H H' r h
  unfold fieldAddrA at h ⊢
  split at h
  · simp only [Option.some.injEq, Prod.mk.injEq] at h
    obtain ⟨rfl, rfl⟩ := h
    exact ⟨rfl, fun _ => rfl⟩
  · cases h
theorem same_index (t : TypeId) (x i : AV) : Same (indexAddrA P t x i) := by
  intro H H' r h
  unfold indexAddrA at h ⊢
  split at h
  · split at h
    · split at h
      · simp only [Option.some.injEq, Prod.mk.injEq] at h
        obtain ⟨rfl, rfl⟩ := h
        exact ⟨rfl, fun _ => by simp_all⟩
      · cases h
    · cases h
  · split at h
    · split at h
      · simp only [Option.some.injEq, Prod.mk.injEq] at h
        obtain ⟨rfl, rfl⟩ := h
        exact ⟨rfl, fun _ => by simp_all⟩
      · cases h
    · cases h
  · cases h
theorem same_slice (t : TypeId) (x : AV) (lo hi : Option AV) : Same (sliceA P t x lo hi) := by
  intro H H' r h
  unfold sliceA at h ⊢
  split at h
  · split at h
    · split at h
      · simp only [Option.some.injEq, Prod.mk.injEq] at h
        obtain ⟨rfl, rfl⟩ := h
        exact ⟨rfl, fun _ => by simp_all⟩
      · cases h
    · cases h
  · split at h
    · simp only [Option.some.injEq, Prod.mk.injEq] at h
      obtain ⟨rfl, rfl⟩ := h
      exact ⟨rfl, fun _ => by simp_all⟩
    · cases h
  · split at h
    · split at h
      · simp only [Option.some.injEq, Prod.mk.injEq] at h
        obtain ⟨rfl, rfl⟩ := h
        exact ⟨rfl, fun _ => by simp_all⟩
      · cases h
    · cases h
  · cases h

theorem same_builtin (b : Builtin) (ty : TypeId) (args : List AV) (ts : Array TypeId) (hb : b ≠ .append) : Same (builtinA P b ty args ts) := by
  intro H H' r h
  unfold builtinA at h ⊢
  split at h
  · obtain ⟨c, h1, h2⟩ := Option.map_eq_some_iff.1 h
    simp only [Prod.mk.injEq] at h2
    obtain ⟨rfl, rfl⟩ := h2
    exact ⟨rfl, fun _ => by simp_all⟩
  · exact absurd rfl hb
  · obtain ⟨l, h1, h2⟩ := Option.bind_eq_some_iff.1 h
    obtain ⟨c, h3, h4⟩ := Option.map_eq_some_iff.1 h2
    simp only [Prod.mk.injEq] at h4
    obtain ⟨rfl, rfl⟩ := h4
    exact ⟨rfl, fun H2 => by simp_all⟩
  · obtain ⟨l, h1, h2⟩ := Option.bind_eq_some_iff.1 h
    obtain ⟨c, h3, h4⟩ := Option.map_eq_some_iff.1 h2
    simp only [Prod.mk.injEq] at h4
    obtain ⟨rfl, rfl⟩ := h4
    exact ⟨rfl, fun H2 => by simp_all⟩
  · cases h
theorem same_const (r : AV) : Same fun H => some (r, H) := by
  intro H H' r' h
  simp only [Option.some.injEq, Prod.mk.injEq] at h
  obtain ⟨rfl, rfl⟩ := h
  exact ⟨rfl, fun _ => rfl⟩
theorem same_map (x : Option AV) : Same fun H => x.map fun c => (c, H) := by
  intro H H' r' h
  obtain ⟨c, h1, h2⟩ := Option.map_eq_some_iff.1 h
  simp only [Prod.mk.injEq] at h2
  obtain ⟨rfl, rfl⟩ := h2
  exact ⟨rfl, fun _ => by rw [h1]; rfl⟩
theorem same_bind {α : Type} (x : Option α) (f : α → Option AV) : Same fun H => x.bind fun a => (f a).map fun r => (r, H) := by
  intro H H' r' h
  obtain ⟨l, h1, h2⟩ := Option.bind_eq_some_iff.1 h
  obtain ⟨c, h3, h4⟩ := Option.map_eq_some_iff.1 h2
  simp only [Prod.mk.injEq] at h4
  obtain ⟨rfl, rfl⟩ := h4
  exact ⟨rfl, fun H2 => by simp only [h1, Option.bind_some, h3, Option.map_some]⟩
theorem bind_map_val {α : Type} (x : Option α) (g : α → Option Value) (H : Heap) : (x.bind fun v => (g v).map fun r => (AV.val r, H)) = x.bind fun a => ((g a).map AV.val).map fun r => (r, H) := by
  cases x with
  | none => rfl
  | some a => cases h : g a <;> simp [h]

theorem astep_pure {q : List Nat} {o : Oper} {env : Env} {H H' : Heap} {r : AV} (h : astep P o env H = some (r, H')) (hc : clOf q o = .pure) : H' = H ∧ ∀ H2, astep P o env H2 = some (r, H2) := by
  unfold astep at h ⊢
  unfold clOf at hc
  cases ho : o.op <;> simp only [ho, reduceCtorEq] at h hc ⊢
  case move x => exact same_const _ h
  case assign x => exact same_const _ h
  case pick c x y =>
    split at h
    · exact same_const _ h
    · cases h
  case build t ps =>
    obtain ⟨l, h1, h2⟩ := Option.bind_eq_some_iff.1 h
    obtain ⟨k1, k2⟩ := same_build _ _ h2
    exact ⟨k1, fun H2 => by rw [h1]; exact k2 H2⟩
  case nilCheck x =>
    split at h
    · exact same_const _ h
    · exact same_const _ h
    · cases h
  case binOp => exact same_map _ h
  case unOp => rw [bind_map_val] at h; obtain ⟨k1, k2⟩ := same_bind _ _ h; exact ⟨k1, fun H2 => by rw [bind_map_val]; exact k2 H2⟩
  case convert => rw [bind_map_val] at h; obtain ⟨k1, k2⟩ := same_bind _ _ h; exact ⟨k1, fun H2 => by rw [bind_map_val]; exact k2 H2⟩
  case fieldAddr => exact same_field _ _ _ h
  case indexAddr => exact same_index _ _ _ h
  case index => exact same_map _ h
  case extract => exact same_map _ h
  case makeInterface =>
    split at h
    · exact same_const _ h
    · cases h
  case makeFunc => exact same_const _ h
  case slice t x lo hi mx =>
    cases mx with
    | none => exact same_slice _ _ _ _ h
    | some _ => cases h
  case call c =>
    split at h
    · rename_i b hb
      simp only [hb] at hc
      have : b ≠ .append := by intro e; rw [e] at hc; cases hc
      obtain ⟨k1, k2⟩ := same_builtin _ _ _ _ this h
      exact ⟨k1, fun H2 => k2 H2⟩
    · cases h

/-- Objects added at the end are not met by what was there. -/
theorem get_more {H G : Heap} {o : Nat} {x : AObj} (h : H[o]? = some x) : (H ++ G)[o]? = some x := by
  rw [List.getElem?_append_left (List.getElem?_eq_some_iff.1 h).1]; exact h
theorem get_less {H G : Heap} {o : Nat} (h : o < H.length) : (H ++ G)[o]? = H[o]? := List.getElem?_append_left h
theorem cellsOf_less {H G : Heap} {o : Nat} (h : o < H.length) : cellsOf (H ++ G) o = cellsOf H o := by unfold cellsOf; rw [get_less h]
theorem cellsOf_lt {H : Heap} {o : Nat} {cs : List AV} (h : cellsOf H o = some cs) : o < H.length := by
  rcases Nat.lt_or_ge o H.length with h1 | h1
  · exact h1
  · unfold cellsOf at h; rw [List.getElem?_eq_none h1] at h; cases h

/-- Is it a state at all? -/
def Poss (C : Base) (env : Env) (H : Heap) : Prop := ∃ m w a, RepH C m w H ∧ RepE m w env a
theorem Poss.lt {env : Env} {H : Heap} (h : Poss C env H) {x : Operand} (hx : okX C.nG x = true) : (∀ o off, opA env x = .ptr o off → o < H.length) ∧ (∀ o, opA env x = .mp o → o < H.length) := by
  obtain ⟨m, w, a, h1, h2⟩ := h
  have h3 := opA_rel h2 h1 (okX_spec hx)
  constructor
  · intro o off he
    rw [he] at h3
    obtain ⟨b, hb, _⟩ := h3
    rw [← h1.len]; exact (List.getElem?_eq_some_iff.1 hb).1
  · intro o he
    rw [he] at h3
    obtain ⟨b, hb, _⟩ := h3
    rw [← h1.len]; exact (List.getElem?_eq_some_iff.1 hb).1

theorem loadA_less {t : TypeId} {x : AV} {H G : Heap} (hx : ∀ o off, x = .ptr o off → o < H.length) : loadA P t x (H ++ G) = (loadA P t x H).map fun c => (c.1, H ++ G) := by
  unfold loadA
  cases x with
  | ptr o off =>
    simp only [cellsOf_less (hx o off rfl)]
    cases cellsOf H o with
    | none => rfl
    | some cs =>
      cases kd P t with
      | none => rfl
      | some k => cases k with
        | one => simp only [Option.map_map]; rfl
        | many n => simp only; split <;> rfl
  | _ => rfl
theorem lookupA_less {t : TypeId} {x k : AV} {ok : Bool} {H G : Heap} (hx : ∀ o, x = .mp o → o < H.length) : lookupA P t x k ok (H ++ G) = lookupA P t x k ok H := by
  unfold lookupA
  cases isStrMap P t with
  | none => rfl
  | some e => cases x with
    | mp o => cases k with
      | val v => cases v with
        | string s => simp only [get_less (hx o rfl)]
        | _ => rfl
      | _ => rfl
    | _ => rfl
theorem loadA_lt {t : TypeId} {x : AV} {H H' : Heap} {r : AV} (h : loadA P t x H = some (r, H')) : ∀ o off, x = .ptr o off → o < H.length := by
  rintro o off rfl
  unfold loadA at h
  cases hc : cellsOf H o with
  | none => simp [hc] at h
  | some cs => exact cellsOf_lt hc
theorem loadA_same {t : TypeId} {x : AV} {H H' : Heap} {r : AV} (h : loadA P t x H = some (r, H')) : H' = H := by
  unfold loadA at h
  repeat' split at h
  all_goals first
    | (cases h; done)
    | (simp only [Option.some.injEq, Prod.mk.injEq] at h; exact h.2.symm)
    | (obtain ⟨c, h1, h2⟩ := Option.map_eq_some_iff.1 h; simp only [Prod.mk.injEq] at h2; exact h2.2.symm)
theorem lookupA_lt {t : TypeId} {x k : AV} {ok : Bool} {H : Heap} {r : AV} (h : lookupA P t x k ok H = some r) : ∀ o, x = .mp o → o < H.length := by
  rintro o rfl
  rcases Nat.lt_or_ge o H.length with h1 | h1
  · exact h1
  · exfalso
    unfold lookupA at h
    cases hi : isStrMap P t with
    | none => rw [hi] at h; cases h
    | some e => rw [hi] at h; cases k with
      | val v => cases v with
        | string s => simp only [List.getElem?_eq_none h1] at h; cases h
        | _ => cases h
      | _ => cases h

theorem astep_read {q : List Nat} {o : Oper} {env : Env} {H H' : Heap} {r : AV} (h : astep P o env H = some (r, H')) (hc : (clOf q o).rd = true) : H' = H ∧ ∀ G, astep P o env (H ++ G) = some (r, H ++ G) := by
  unfold astep at h ⊢
  have hnc : ∀ c, o.op ≠ .call c := fun c e => by rw [clOf_call e] at hc; cases hc
  unfold clOf at hc
  cases ho : o.op <;> simp only [ho, Cl.rd, reduceCtorEq, Bool.false_eq_true] at h hc ⊢
  case call c => exact absurd ho (hnc c)
  case load t x =>
    obtain rfl := loadA_same h
    exact ⟨rfl, fun G => by rw [loadA_less (loadA_lt h), h]; rfl⟩
  case lookup t x k ok =>
    obtain ⟨c, h1, h2⟩ := Option.map_eq_some_iff.1 h
    simp only [Prod.mk.injEq] at h2
    obtain ⟨rfl, rfl⟩ := h2
    exact ⟨rfl, fun G => by rw [lookupA_less (lookupA_lt h1), h1]; rfl⟩
theorem astep_back {q : List Nat} {o : Oper} {env : Env} {H G H' : Heap} {r : AV} (h : astep P o env (H ++ G) = some (r, H')) (hc : (clOf q o).rd = true) (hp : Poss C env H) (hok : okOp C.nG o = true) : astep P o env H = some (r, H) := by
  have hmem : ∀ x ∈ o.op.operands, okX C.nG x = true := fun x hxm => by unfold okOp at hok; rw [Array.all_eq_true_iff_forall_mem] at hok; exact hok x hxm
  unfold astep at h ⊢
  have hnc : ∀ c, o.op ≠ .call c := fun c e => by rw [clOf_call e] at hc; cases hc
  unfold clOf at hc
  cases ho : o.op <;> simp only [ho, Cl.rd, reduceCtorEq, Bool.false_eq_true] at h hc ⊢
  case call c => exact absurd ho (hnc c)
  case load t x =>
    have hx := (hp.lt (hmem x (by simp [ho, Op.operands]))).1
    rw [loadA_less hx] at h
    obtain ⟨c, h1, h2⟩ := Option.map_eq_some_iff.1 h
    simp only [Prod.mk.injEq] at h2
    obtain ⟨rfl, rfl⟩ := h2
    rw [h1]
    have := loadA_same (r := c.1) (H' := c.2) h1
    rw [← this]
  case lookup t x k ok =>
    obtain ⟨c, h1, h2⟩ := Option.map_eq_some_iff.1 h
    simp only [Prod.mk.injEq] at h2
    obtain ⟨rfl, rfl⟩ := h2
    rw [lookupA_less (hp.lt (hmem x (by simp [ho, Op.operands]))).2] at h1
    rw [h1]; rfl
theorem buildSliceA_new {t n : Nat} {l : List (Nat × List AV)} {H H' : Heap} {r : AV} (h : buildSliceA P t n l H = some (r, H')) : H <+: H' := by
  unfold buildSliceA at h
  repeat' split at h
  all_goals first
    | (cases h; done)
    | (simp only [Option.some.injEq, Prod.mk.injEq] at h; rw [← h.2]; exact List.prefix_append ..)
theorem astep_new {q : List Nat} {o : Oper} {env : Env} {H H' : Heap} {r : AV} (h : astep P o env H = some (r, H')) (hc : clOf q o = .new) : H <+: H' := by
  unfold astep at h
  unfold clOf at hc
  cases ho : o.op <;> simp only [ho, reduceCtorEq] at h hc
  case alloc e =>
    repeat' split at h
    all_goals first
      | (cases h; done)
      | (simp only [Option.some.injEq, Prod.mk.injEq] at h; rw [← h.2]; exact List.prefix_append ..)
  case box e x =>
    obtain ⟨c, h1, h2⟩ := Option.map_eq_some_iff.1 h
    simp only [Prod.mk.injEq] at h2
    rw [← h2.2]; exact List.prefix_append ..
  case buildSlice t n ps =>
    obtain ⟨l, h1, h2⟩ := Option.bind_eq_some_iff.1 h
    exact buildSliceA_new h2
  case makeMap t x =>
    cases x with
    | none => simp only [Option.some.injEq, Prod.mk.injEq] at h; rw [← h.2]; exact List.prefix_append ..
    | some _ => cases h
  case call c =>
    split at h
    · rename_i b hb
      simp only [hb] at hc
      split at hc <;> simp_all
    · cases h

theorem partsA_congr {env env' : Env} : ∀ {l : List (Nat × Operand)}, (∀ p ∈ l, opA env p.2 = opA env' p.2) → partsA env l = partsA env' l
  | [], _ => rfl
  | (i, x) :: l, h => by
    unfold partsA
    rw [h (i, x) (List.mem_cons_self ..), partsA_congr fun p hp => h p (List.mem_cons_of_mem _ hp)]
theorem map_opA_congr {env env' : Env} {l : List Operand} (h : ∀ x ∈ l, opA env x = opA env' x) : l.map (opA env) = l.map (opA env') := List.map_congr_left h
theorem optmap_congr {env env' : Env} {x : Option Operand} (h : ∀ y, x = some y → opA env y = opA env' y) : x.map (opA env) = x.map (opA env') := by
  cases x with
  | none => rfl
  | some y => simp only [Option.map_some, h y rfl]
theorem astep_congr {o : Oper} {env env' : Env} {H : Heap} (h : ∀ x ∈ o.op.operands, opA env x = opA env' x) : astep P o env H = astep P o env' H := by
  unfold astep
  cases ho : o.op <;> simp only [ho] at h ⊢
  case move x => rw [h x (by simp [Op.operands])]
  case assign x => rw [h x (by simp [Op.operands])]
  case pick c x y => rw [h c (by simp [Op.operands]), h x (by simp [Op.operands]), h y (by simp [Op.operands])]
  case box e x => rw [h x (by simp [Op.operands])]
  case build t ps => rw [partsA_congr fun p hp => h p.2 (by simp [Op.operands]; exact ⟨p.1, by simpa using hp⟩)]
  case buildSlice t n ps => rw [partsA_congr fun p hp => h p.2 (by simp [Op.operands]; exact ⟨p.1, by simpa using hp⟩)]
  case load t x => rw [h x (by simp [Op.operands])]
  case store t x y => rw [h x (by simp [Op.operands]), h y (by simp [Op.operands])]
  case nilCheck x => rw [h x (by simp [Op.operands])]
  case binOp op t x y _ => rw [h x (by simp [Op.operands]), h y (by simp [Op.operands])]
  case unOp op _ x => rw [h x (by simp [Op.operands])]
  case convert s d x => rw [h x (by simp [Op.operands])]
  case slice t x lo hi mx =>
    cases mx with
    | none => simp only; rw [h x (by simp [Op.operands]), optmap_congr (x := lo) fun y hy => h y (by simp [Op.operands, hy]), optmap_congr (x := hi) fun y hy => h y (by simp [Op.operands, hy])]
    | some _ => rfl
  case makeMap t x => cases x <;> rfl
  case fieldAddr s x f => rw [h x (by simp [Op.operands])]
  case indexAddr t x i => rw [h x (by simp [Op.operands]), h i (by simp [Op.operands])]
  case index t x i => rw [h x (by simp [Op.operands]), h i (by simp [Op.operands])]
  case lookup t x k ok => rw [h x (by simp [Op.operands]), h k (by simp [Op.operands])]
  case insert t x k y => rw [h x (by simp [Op.operands]), h k (by simp [Op.operands]), h y (by simp [Op.operands])]
  case mapUpdate t x k y => rw [h x (by simp [Op.operands]), h k (by simp [Op.operands]), h y (by simp [Op.operands])]
  case makeSlice t x y => rw [h x (by simp [Op.operands]), h y (by simp [Op.operands])]
  case extract x i => rw [h x (by simp [Op.operands])]
  case makeInterface t x => rw [h x (by simp [Op.operands])]
  case makeFunc f x y => rw [map_opA_congr (l := x.toList) fun z hz => h z (by simp [Op.operands]; exact .inl (by simpa using hz)), map_opA_congr (l := y.toList) fun z hz => h z (by simp [Op.operands]; exact .inr (by simpa using hz))]
  case call c =>
    split
    · rename_i b hb
      rw [map_opA_congr (l := c.args.toList) fun z hz => h z (by show z ∈ Call.operands c; unfold Call.operands; rw [hb]; simpa using hz)]
    · rfl
theorem callOf_congr {c : Call} {env env' : Env} (h : ∀ x ∈ c.operands, opA env x = opA env' x) : callOf env c = callOf env' c := by
  unfold callOf
  split
  · rename_i x hv
    rw [h x (by unfold Call.operands; rw [hv]; simp), map_opA_congr (l := c.args.toList) fun z hz => h z (by unfold Call.operands; rw [hv]; simp; right; simpa using hz)]
  · rfl

/-- One operation's answer. -/
def dstep (P : Program) (C : Base) (q : List Nat) (ops : Array Oper) (o : Oper) (env : Env) (H : Heap) (r : AV) (H' : Heap) : Prop :=
  (wantA ops o env = some false ∧ r = .val undef ∧ H' = H) ∨
  (wantA ops o env = some true ∧ ((∃ c f args, o.op = .call c ∧ callOf env c = some (f, args) ∧ ACalls P C f args H (fun r' H2 => r' = r ∧ H2 = H') ∧ H <+: H' ∧ (q.contains f = true → H' = H ∧ ∀ G, ACalls P C f args (H ++ G) (fun r' H2 => r' = r ∧ H2 = H ++ G))) ∨ ((∀ c, o.op = .call c → callOf env c = none) ∧ astep P o env H = some (r, H'))))
theorem aops_step {q : List Nat} {ops : Array Oper} {o : Oper} {rest : List Oper} {env : Env} {H : Heap} {K : Env → Heap → Prop} (h : aops P C (some q) ops (o :: rest) env H K) : ∃ r H', dstep P C q ops o env H r H' ∧ aops P C (some q) ops rest (setD env o.dst r) H' K := by
  unfold aops at h
  split at h
  · rename_i hw; exact ⟨_, _, .inl ⟨hw, rfl, rfl⟩, h⟩
  · rename_i hw
    split at h
    · rename_i c ho
      split at h
      · rename_i f args hc
        unfold callK at h
        obtain ⟨r, H', h1, h2, h2q, h3⟩ := h
        exact ⟨r, H', .inr ⟨hw, .inl ⟨c, f, args, ho, hc, h1, h2, h2q⟩⟩, h3⟩
      · rename_i hc
        split at h
        · rename_i r H' hs
          exact ⟨r, H', .inr ⟨hw, .inr ⟨fun c' hc' => by rw [ho] at hc'; cases hc'; exact hc, hs⟩⟩, h⟩
        · exact h.elim
    · rename_i hne
      split at h
      · rename_i r H' hs
        exact ⟨r, H', .inr ⟨hw, .inr ⟨fun c' hc' => absurd hc' (hne c'), hs⟩⟩, h⟩
      · exact h.elim
  · exact h.elim
theorem aops_cons {q : List Nat} {ops : Array Oper} {o : Oper} {rest : List Oper} {env : Env} {H H' : Heap} {r : AV} {K : Env → Heap → Prop} (hd : dstep P C q ops o env H r H') (h : aops P C (some q) ops rest (setD env o.dst r) H' K) : aops P C (some q) ops (o :: rest) env H K := by
  unfold aops
  rcases hd with ⟨hw, rfl, rfl⟩ | ⟨hw, ⟨c, f, args, ho, hc, h1, h2⟩ | ⟨hc, hs⟩⟩
  · rw [hw]; exact h
  · rw [hw]
    simp only [ho, hc]
    unfold callK
    exact ⟨r, H', h1, h2.1, h2.2, h⟩
  · rw [hw]
    simp only
    split
    · rename_i c ho
      rw [hc c ho]
      simp only [hs]
      exact h
    · simp only [hs]
      exact h

theorem callOf_callee {env : Env} {c : Call} {f : FuncId} {args : List AV} (h : callOf env c = some (f, args)) : ∃ x, c.callee = .value x ∧ ∀ g, x = .func g → g = f := by
  unfold callOf at h
  split at h
  · rename_i x hv
    refine ⟨x, hv, fun g hg => ?_⟩
    subst hg
    simp only [opA, Option.some.injEq, Prod.mk.injEq] at h
    exact h.1
  · cases h
theorem dstep_pure {q : List Nat} {ops : Array Oper} {o : Oper} {env : Env} {H H' : Heap} {r : AV} (h : dstep P C q ops o env H r H') (hc : clOf q o = .pure) : H' = H ∧ ∀ H2, dstep P C q ops o env H2 r H2 := by
  rcases h with ⟨hw, rfl, rfl⟩ | ⟨hw, ⟨c, f, args, ho, hcl, h1, h2⟩ | ⟨hcl, hs⟩⟩
  · exact ⟨rfl, fun H2 => .inl ⟨hw, rfl, rfl⟩⟩
  · exfalso
    obtain ⟨x, hx, _⟩ := callOf_callee hcl
    rcases clOf_value (q := q) ho hx with e | e <;> rw [e] at hc <;> cases hc
  · obtain ⟨k1, k2⟩ := astep_pure hs hc
    exact ⟨k1, fun H2 => .inr ⟨hw, .inr ⟨hcl, k2 H2⟩⟩⟩
theorem dstep_read {q : List Nat} {ops : Array Oper} {o : Oper} {env : Env} {H H' : Heap} {r : AV} (h : dstep P C q ops o env H r H') (hc : (clOf q o).rd = true) : H' = H ∧ ∀ G, dstep P C q ops o env (H ++ G) r (H ++ G) := by
  rcases h with ⟨hw, rfl, rfl⟩ | ⟨hw, ⟨c, f, args, ho, hcl, h1, h2⟩ | ⟨hcl, hs⟩⟩
  · exact ⟨rfl, fun H2 => .inl ⟨hw, rfl, rfl⟩⟩
  · rw [clOf_call ho] at hc; cases hc
  · obtain ⟨k1, k2⟩ := astep_read hs hc
    exact ⟨k1, fun G => .inr ⟨hw, .inr ⟨hcl, k2 G⟩⟩⟩
theorem dstep_quiet {q : List Nat} {ops : Array Oper} {o : Oper} {env : Env} {H H' : Heap} {r : AV} (h : dstep P C q ops o env H r H') (hc : clOf q o = .quiet) : H' = H ∧ ∀ G, dstep P C q ops o env (H ++ G) r (H ++ G) := by
  rcases h with ⟨hw, rfl, rfl⟩ | ⟨hw, ⟨c, f, args, ho, hcl, h1, h2, h3⟩ | ⟨hcl, hs⟩⟩
  · exact ⟨rfl, fun H2 => .inl ⟨hw, rfl, rfl⟩⟩
  · obtain ⟨c', f', ho', hv', hq⟩ := clOf_quiet hc
    rw [ho] at ho'
    cases ho'
    obtain ⟨x, hx, hxf⟩ := callOf_callee hcl
    rw [hv'] at hx
    cases hx
    obtain rfl := hxf _ rfl
    obtain ⟨rfl, h4⟩ := h3 hq
    exact ⟨rfl, fun G => .inr ⟨hw, .inl ⟨c, f', args, ho, hcl, h4 G, List.prefix_refl _, fun _ => ⟨rfl, fun G' => by rw [List.append_assoc]; exact h4 (G ++ G')⟩⟩⟩⟩
  · obtain ⟨c, f, ho, hv, hq⟩ := clOf_quiet hc
    exfalso
    have := hcl c ho
    unfold callOf at this
    rw [hv] at this
    simp [opA] at this
theorem dstep_back {q : List Nat} {ops : Array Oper} {o : Oper} {env : Env} {H G H' : Heap} {r : AV} (h : dstep P C q ops o env (H ++ G) r H') (hc : (clOf q o).rd = true) (hp : Poss C env H) (hok : okOp C.nG o = true) : H' = H ++ G ∧ dstep P C q ops o env H r H := by
  rcases h with ⟨hw, rfl, rfl⟩ | ⟨hw, ⟨c, f, args, ho, hcl, h1, h2⟩ | ⟨hcl, hs⟩⟩
  · exact ⟨rfl, .inl ⟨hw, rfl, rfl⟩⟩
  · rw [clOf_call ho] at hc; cases hc
  · exact ⟨(astep_read hs hc).1, .inr ⟨hw, .inr ⟨hcl, astep_back hs hc hp hok⟩⟩⟩
theorem dstep_new {q : List Nat} {ops : Array Oper} {o : Oper} {env : Env} {H H' : Heap} {r : AV} (h : dstep P C q ops o env H r H') (hc : clOf q o = .new) : H <+: H' := by
  rcases h with ⟨hw, rfl, rfl⟩ | ⟨hw, ⟨c, f, args, ho, hcl, h1, h2⟩ | ⟨hcl, hs⟩⟩
  · exact List.prefix_refl _
  · exact h2.1
  · exact astep_new hs hc
/-- A store, and a look into a map. -/
theorem clOf_put {q : List Nat} {o : Oper} (h : clOf q o = .put) : ∃ t x y, o.op = .store t x y := by
  unfold clOf at h
  cases ho : o.op <;> simp only [ho, reduceCtorEq] at h
  case store t x y => exact ⟨t, x, y, rfl⟩
  case call c => split at h <;> (try split at h) <;> cases h
theorem clOf_look {q : List Nat} {o : Oper} (h : clOf q o = .look) : ∃ t x k ok, o.op = .lookup t x k ok := by
  unfold clOf at h
  cases ho : o.op <;> simp only [ho, reduceCtorEq] at h
  case lookup t x k ok => exact ⟨t, x, k, ok, rfl⟩
  case call c => split at h <;> (try split at h) <;> cases h
theorem storeA_maps {t : TypeId} {x v : AV} {H H' : Heap} (h : storeA P t x v H = some H') : ∃ o e cs cs', H[o]? = some (.own e cs) ∧ H' = H.set o (.own e cs') := by
  unfold storeA at h
  split at h
  · split at h
    · split at h
      · exact ⟨_, _, _, _, ‹_›, (Option.some.inj h).symm⟩
      · cases h
    · cases h
  · cases h
theorem lookupA_put {t : TypeId} {x k : AV} {ok : Bool} {H : Heap} {o : Nat} {e : TypeId} {cs cs' : List AV} (h : H[o]? = some (.own e cs)) : lookupA P t x k ok (H.set o (.own e cs')) = lookupA P t x k ok H := by
  have key : ∀ m : Nat, ∀ es, (H.set o (.own e cs'))[m]? = some (.map es) ↔ H[m]? = some (.map es) := by
    intro m es
    by_cases hm : o = m
    · subst hm
      rw [List.getElem?_set_self (List.getElem?_eq_some_iff.1 h).1, h]
      simp
    · rw [List.getElem?_set_ne hm]
  unfold lookupA
  split
  · rename_i e' m s hu
    cases hm : H[m]? with
    | none =>
      have : (H.set o (.own e cs'))[m]? = none := by
        rw [List.getElem?_eq_none_iff] at hm ⊢
        simpa using hm
      rw [this]
    | some y =>
      cases y with
      | map es => rw [(key m es).2 hm]
      | _ =>
        split
        · rename_i es z h1 h2
          rw [key] at h1
          rw [hm] at h1
          cases h1
        · rfl
  · rfl
theorem dstep_put_look {q : List Nat} {ops : Array Oper} {oi oj : Oper} {env : Env} {H Hj Hi : Heap} {ri rj : AV} (hj : clOf q oj = .put) (hi : clOf q oi = .look) (h1 : dstep P C q ops oj env H rj Hj) (h2 : dstep P C q ops oi env Hj ri Hi) : dstep P C q ops oi env H ri H ∧ dstep P C q ops oj env H rj Hi := by
  have hh := dstep_read h2 (by rw [hi]; rfl)
  obtain ⟨rfl, -⟩ := hh
  refine ⟨?_, h1⟩
  obtain ⟨t, x, y, ho⟩ := clOf_put hj
  obtain ⟨t', x', k', ok', ho'⟩ := clOf_look hi
  rcases h2 with ⟨hw, rfl, -⟩ | ⟨hw, ⟨c, f, args, hoc, _⟩ | ⟨hcl, hs⟩⟩
  · exact .inl ⟨hw, rfl, rfl⟩
  · rw [ho'] at hoc; cases hoc
  · refine .inr ⟨hw, .inr ⟨hcl, ?_⟩⟩
    rcases h1 with ⟨_, _, rfl⟩ | ⟨_, ⟨c, f, args, hoc, _⟩ | ⟨_, hs1⟩⟩
    · exact hs
    · rw [ho] at hoc; cases hoc
    · unfold astep at hs1 hs ⊢
      rw [ho] at hs1
      rw [ho'] at hs ⊢
      simp only at hs1 hs ⊢
      obtain ⟨H2, k1, k2⟩ := Option.map_eq_some_iff.1 hs1
      simp only [Prod.mk.injEq] at k2
      obtain ⟨-, rfl⟩ := k2
      obtain ⟨o, e, cs, cs', k3, rfl⟩ := storeA_maps k1
      rw [lookupA_put k3] at hs
      obtain ⟨c, k4, k5⟩ := Option.map_eq_some_iff.1 hs
      rw [k4]
      simp only [Prod.mk.injEq] at k5
      simp [k5.1]
theorem dstep_look_put {q : List Nat} {ops : Array Oper} {oi oj : Oper} {env : Env} {H Hj Hi : Heap} {ri rj : AV} (hj : clOf q oj = .look) (hi : clOf q oi = .put) (h1 : dstep P C q ops oj env H rj Hj) (h2 : dstep P C q ops oi env Hj ri Hi) : dstep P C q ops oi env H ri Hi ∧ dstep P C q ops oj env Hi rj Hi := by
  obtain ⟨rfl, -⟩ := dstep_read h1 (by rw [hj]; rfl)
  refine ⟨h2, ?_⟩
  obtain ⟨t, x, y, ho⟩ := clOf_put hi
  obtain ⟨t', x', k', ok', ho'⟩ := clOf_look hj
  rcases h1 with ⟨hw, rfl, -⟩ | ⟨hw, ⟨c, f, args, hoc, _⟩ | ⟨hcl, hs⟩⟩
  · exact .inl ⟨hw, rfl, rfl⟩
  · rw [ho'] at hoc; cases hoc
  · refine .inr ⟨hw, .inr ⟨hcl, ?_⟩⟩
    rcases h2 with ⟨_, _, rfl⟩ | ⟨_, ⟨c, f, args, hoc, _⟩ | ⟨_, hs1⟩⟩
    · exact hs
    · rw [ho] at hoc; cases hoc
    · unfold astep at hs1 hs ⊢
      rw [ho] at hs1
      rw [ho'] at hs ⊢
      simp only at hs1 hs ⊢
      obtain ⟨H2, k1, k2⟩ := Option.map_eq_some_iff.1 hs1
      simp only [Prod.mk.injEq] at k2
      obtain ⟨-, rfl⟩ := k2
      obtain ⟨o, e, cs, cs', k3, rfl⟩ := storeA_maps k1
      rw [lookupA_put k3]
      obtain ⟨c, k4, k5⟩ := Option.map_eq_some_iff.1 hs
      rw [k4]
      simp only [Prod.mk.injEq] at k5
      simp [k5.1]
theorem dstep_congr {q : List Nat} {ops : Array Oper} {o : Oper} {env env' : Env} {H H' : Heap} {r : AV} (h : dstep P C q ops o env H r H') (hx : ∀ x ∈ o.op.operands, opA env x = opA env' x) (hw : wantA ops o env = wantA ops o env') : dstep P C q ops o env' H r H' := by
  unfold dstep at h ⊢
  rw [← hw, ← astep_congr hx]
  rcases h with h | ⟨h0, h | ⟨h1, h2⟩⟩
  · exact .inl h
  · refine .inr ⟨h0, .inl ?_⟩
    obtain ⟨c, f, args, ho, hcl, h1, h2⟩ := h
    exact ⟨c, f, args, ho, by rw [← hcl]; exact (callOf_congr fun x hxm => hx x (by rw [ho]; exact hxm)).symm, h1, h2⟩
  · exact .inr ⟨h0, .inr ⟨fun c hc => by rw [← h1 c hc]; exact (callOf_congr fun x hxm => hx x (by rw [hc]; exact hxm)).symm, h2⟩⟩
theorem dstep_poss {q : List Nat} {ops : Array Oper} {o : Oper} {env : Env} {H H' : Heap} {r : AV} (h : dstep P C q ops o env H r H') (hok : okOp C.nG o = true) (hp : Poss C env H) : Poss C (setD env o.dst r) H' := by
  obtain ⟨m, w, a, hH, hE⟩ := hp
  rcases h with ⟨hw, rfl, rfl⟩ | ⟨hw, ⟨c, f, args, ho, hcl, h1, h2⟩ | ⟨hcl, hs⟩⟩
  · exact ⟨m, w, a.put o.dst undef, hH, hE.put o.dst rfl⟩
  · obtain ⟨vals, h3, h4⟩ := callOf_run hcl ho hH hE hok h1.1
    obtain ⟨e, w', fr, ⟨rv, m', H2, r', rfl, k1, k2, rfl, rfl⟩, _⟩ := h1.2 m w vals hH h4 []
    exact ⟨m', w', a.put o.dst rv, k1.rep, (hE.more k1.pre k1.szs).put o.dst k2⟩
  · obtain ⟨nxt, m', w', h1, h2, h3⟩ := astep_run hs hH hE hok
    have hE' := hE.more h3.pre h3.szs
    rcases h2 with ⟨u, rfl, hu⟩ | ⟨rfl, rfl⟩
    · exact ⟨m', w', a.put o.dst u, h3.rep, hE'.put o.dst hu⟩
    · exact ⟨m', w', a.put o.dst undef, h3.rep, hE'.put o.dst trivial⟩

/-- Do two operations meet? -/
def meets (q : List Nat) (ops : Array Oper) (a b : Oper) : Bool :=
  !(a.apart ops b) || (match clOf q a, clOf q b with
    | .pure, _ => false
    | _, .pure => false
    | .put, .look => false
    | .look, .put => false
    | x, y => !((x.rd || x == .quiet) && (y.rd || y == .quiet) || x.rd && y == .new || x == .new && (y.rd || y == .quiet)))

theorem setD_comm {env : Env} {d d' : Option Nat} {x y : AV} (h : ∀ k, d = some k → d' ≠ some k) : setD (setD env d x) d' y = setD (setD env d' y) d x := by
  cases d with
  | none => rfl
  | some k => cases d' with
    | none => rfl
    | some k' =>
      have : k ≠ k' := fun e => h k rfl (by rw [e])
      exact List.set_comm _ _ this
theorem opA_set {env : Env} {d : Option Nat} {r : AV} {x : Operand} (h : ∀ k, d = some k → x ≠ .tmp k) : opA (setD env d r) x = opA env x := by
  cases d with
  | none => rfl
  | some k => cases x with
    | tmp t =>
      have hne : k ≠ t := fun e => h k rfl (by rw [e])
      unfold opA setD
      simp only [List.getD_eq_getElem?_getD, List.getElem?_set_ne hne]
    | _ => rfl
theorem looks_operand {ops : Array Oper} {o : Oper} {d : Option Nat} (h : ∀ k, d = some k → k ∉ o.looksAt ops) {x : Operand} (hx : x ∈ o.op.operands) : ∀ k, d = some k → x ≠ .tmp k := by
  intro k hk he
  subst he
  refine h k hk ?_
  unfold Oper.looksAt
  exact List.mem_append_left _ (List.mem_filterMap.2 ⟨_, by simpa using hx, rfl⟩)
theorem wantA_set {ops : Array Oper} {o : Oper} {env : Env} {d : Option Nat} {r : AV} (h : ∀ k, d = some k → k ∉ o.looksAt ops) : wantA ops o (setD env d r) = wantA ops o env := by
  unfold wantA
  cases hg : o.guard with
  | none => rfl
  | some g =>
    simp only
    cases hd : (ops[g.1]?).bind (·.dst) with
    | none => rfl
    | some k =>
      simp only
      have : (setD env d r).getD k .any = env.getD k .any := by
        cases d with
        | none => rfl
        | some k' =>
          have hne : k' ≠ k := by
            intro e
            refine h k' rfl ?_
            unfold Oper.looksAt
            refine List.mem_append_right _ ?_
            rw [hg]
            simp only [hd]
            simp [e]
          unfold setD
          simp only [List.getD_eq_getElem?_getD, List.getElem?_set_ne hne]
      rw [this]
theorem dstep_set {q : List Nat} {ops : Array Oper} {o : Oper} {env : Env} {H H' : Heap} {r : AV} {d : Option Nat} {x : AV} (h : ∀ k, d = some k → k ∉ o.looksAt ops) : dstep P C q ops o (setD env d x) H r H' ↔ dstep P C q ops o env H r H' :=
  ⟨fun hd => dstep_congr hd (fun y hy => opA_set (looks_operand h hy)) (wantA_set h), fun hd => dstep_congr hd (fun y hy => (opA_set (looks_operand h hy)).symm) (wantA_set h).symm⟩

/-- Two operations that do not meet may change places. -/
theorem dstep_comm {q : List Nat} {ops : Array Oper} {oi oj : Oper} (hm : meets q ops oi oj = false) {env : Env} {H Hj Hi : Heap} {ri rj : AV} (h1 : dstep P C q ops oj env H rj Hj) (h2 : dstep P C q ops oi (setD env oj.dst rj) Hj ri Hi) (hp : Poss C env H) (hok : okOp C.nG oi = true) :
    ∃ H1, dstep P C q ops oi env H ri H1 ∧ dstep P C q ops oj (setD env oi.dst ri) H1 rj Hi ∧ setD (setD env oj.dst rj) oi.dst ri = setD (setD env oi.dst ri) oj.dst rj := by
  unfold meets at hm
  rw [Bool.or_eq_false_iff] at hm
  obtain ⟨hap, hcl⟩ := hm
  obtain ⟨a1, a2, a3⟩ := Oper.apart_spec (by simpa using hap)
  rw [dstep_set a3] at h2
  have fin : ∀ H1, dstep P C q ops oi env H ri H1 → dstep P C q ops oj env H1 rj Hi → ∃ H1, dstep P C q ops oi env H ri H1 ∧ dstep P C q ops oj (setD env oi.dst ri) H1 rj Hi ∧ setD (setD env oj.dst rj) oi.dst ri = setD (setD env oi.dst ri) oj.dst rj :=
    fun H1 k1 k2 => ⟨H1, k1, (dstep_set a1).2 k2, setD_comm fun k hk hk' => a2 k hk' hk⟩
  have same : (Hj = H ∧ Hi = Hj) → ∃ H1, dstep P C q ops oi env H ri H1 ∧ dstep P C q ops oj (setD env oi.dst ri) H1 rj Hi ∧ setD (setD env oj.dst rj) oi.dst ri = setD (setD env oi.dst ri) oj.dst rj := by
    rintro ⟨rfl, rfl⟩
    exact fin _ h2 h1
  by_cases p1 : clOf q oi = .pure
  · obtain ⟨rfl, k⟩ := dstep_pure h2 p1
    exact fin H (k H) h1
  by_cases p2 : clOf q oj = .pure
  · obtain ⟨rfl, k⟩ := dstep_pure h1 p2
    exact fin Hi h2 (k Hi)
  by_cases p3 : clOf q oi = .put ∧ clOf q oj = .look
  · obtain ⟨k1, k2⟩ := dstep_look_put p3.2 p3.1 h1 h2
    exact fin Hi k1 k2
  by_cases p4 : clOf q oi = .look ∧ clOf q oj = .put
  · obtain ⟨k1, k2⟩ := dstep_put_look p4.2 p4.1 h1 h2
    exact fin H k1 k2
  have hcl' : ((clOf q oi).rd || clOf q oi == .quiet) && ((clOf q oj).rd || clOf q oj == .quiet) || (clOf q oi).rd && clOf q oj == .new || clOf q oi == .new && ((clOf q oj).rd || clOf q oj == .quiet) = true := by
    revert hcl p1 p2 p3 p4
    generalize clOf q oi = x
    generalize clOf q oj = y
    cases x <;> cases y <;> simp [Cl.rd]
  have rdq : ∀ {o : Oper} {e : Env} {A A' : Heap} {r : AV}, ((clOf q o).rd || clOf q o == .quiet) = true → dstep P C q ops o e A r A' → A' = A ∧ ∀ G, dstep P C q ops o e (A ++ G) r (A ++ G) := by
    intro o e A A' r hq hd
    rcases Bool.or_eq_true_iff.1 hq with hq | hq
    · exact dstep_read hd hq
    · exact dstep_quiet hd (by simpa using hq)
  have hcl2 : (((clOf q oi).rd || clOf q oi == .quiet) = true ∧ ((clOf q oj).rd || clOf q oj == .quiet) = true) ∨ ((clOf q oi).rd = true ∧ clOf q oj = .new) ∨ (clOf q oi = .new ∧ ((clOf q oj).rd || clOf q oj == .quiet) = true) := by
    revert hcl'
    generalize clOf q oi = x
    generalize clOf q oj = y
    cases x <;> cases y <;> simp [Cl.rd]
  rcases hcl2 with ⟨c1, c2⟩ | ⟨c1, c2⟩ | ⟨c1, c2⟩
  · exact same ⟨(rdq c2 h1).1, (rdq c1 h2).1⟩
  · obtain ⟨G, rfl⟩ := dstep_new h1 c2
    obtain ⟨rfl, k⟩ := dstep_back h2 c1 hp hok
    exact fin H k h1
  · obtain ⟨rfl, k⟩ := rdq c2 h1
    obtain ⟨G, rfl⟩ := dstep_new h2 c1
    exact fin _ h2 (k G)

/-- An operation goes ahead of those that it does not meet. -/
theorem aops_ahead {q : List Nat} {ops : Array Oper} {oi : Oper} {B : List Oper} {K : Env → Heap → Prop} (hok : okOp C.nG oi = true) : ∀ {A : List Oper} {env : Env} {H : Heap}, (∀ o ∈ A, meets q ops oi o = false) → (∀ o ∈ A, okOp C.nG o = true) → Poss C env H → aops P C (some q) ops (A ++ oi :: B) env H K →
    ∃ r H', dstep P C q ops oi env H r H' ∧ aops P C (some q) ops (A ++ B) (setD env oi.dst r) H' K
  | [], env, H, _, _, hp, h => aops_step h
  | oj :: A, env, H, hm, hoks, hp, h => by
    obtain ⟨rj, Hj, k1, k2⟩ := aops_step (rest := A ++ oi :: B) h
    obtain ⟨ri, Hi, k3, k4⟩ := aops_ahead hok (fun o ho => hm o (List.mem_cons_of_mem _ ho)) (fun o ho => hoks o (List.mem_cons_of_mem _ ho)) (dstep_poss k1 (hoks _ (List.mem_cons_self ..)) hp) k2
    obtain ⟨H1, q1, q2, q3⟩ := dstep_comm (hm _ (List.mem_cons_self ..)) k1 k3 hp hok
    exact ⟨ri, H1, q1, aops_cons (rest := A ++ B) q2 (q3 ▸ k4)⟩

/-- Does an edge's way lead from i to j? -/
def reach (ops : Array Oper) : Nat → Nat → Nat → Bool
  | 0, _, _ => false
  | k + 1, i, j => match ops[i]? with
    | none => false
    | some o => (o.after.toList.any fun e => Region.binds .any e && e.on == j) || (o.after.toList.any fun e => Region.binds .any e && decide (j < e.on) && reach ops k e.on j)
/-- Each two operations that meet are ordered, as they stand. -/
def okDraw (q : List Nat) (ops : Array Oper) : Bool :=
  (List.range ops.size).all fun i => match ops[i]? with
    | none => true
    | some oi => (oi.after.toList.all fun e => !Region.binds .any e || decide (e.on < i)) && (List.range i).all fun j => match ops[j]? with
      | none => true
      | some oj => !meets q ops oi oj || reach ops ops.size i j

def Dn (ops : Array Oper) (listed : Array Bool) : Prop := ∀ (i : Nat) o, listed.getD i false = true → ops[i]? = some o → ∀ e ∈ o.after, Region.binds .any e = true → listed.getD e.on false = true
theorem reach_listed {ops : Array Oper} {listed : Array Bool} (hd : Dn ops listed) : ∀ (k i j : Nat) o, reach ops k i j = true → ops[i]? = some o → (∀ e ∈ o.after, Region.binds .any e = true → listed.getD e.on false = true) → listed.getD j false = true
  | 0, _, _, _, h, _, _ => by simp [reach] at h
  | k + 1, i, j, o, h, ho, hl => by
    unfold reach at h
    rw [ho] at h
    simp only [Bool.or_eq_true, List.any_eq_true, Bool.and_eq_true, decide_eq_true_eq, beq_iff_eq] at h
    rcases h with ⟨e, he, h1, h2⟩ | ⟨e, he, ⟨h1, h2⟩, h3⟩
    · rw [← h2]; exact hl e (by simpa using he) h1
    · have hle := hl e (by simpa using he) h1
      cases hoe : ops[e.on]? with
      | none =>
        cases k with
        | zero => simp [reach] at h3
        | succ k => unfold reach at h3; rw [hoe] at h3; cases h3
      | some oe => exact reach_listed hd k e.on j oe h3 hoe (hd _ _ hle hoe)

theorem okDraw_spec {q : List Nat} {ops : Array Oper} (h : okDraw q ops = true) {i : Nat} {oi : Oper} (hi : ops[i]? = some oi) : (∀ e ∈ oi.after, Region.binds .any e = true → e.on < i) ∧ ∀ (j : Nat) oj, j < i → ops[j]? = some oj → meets q ops oi oj = true → reach ops ops.size i j = true := by
  have hlt : i < ops.size := (Array.getElem?_eq_some_iff.1 hi).1
  unfold okDraw at h
  have h1 := List.all_eq_true.1 h i (List.mem_range.2 hlt)
  simp only [hi, Bool.and_eq_true, List.all_eq_true, Bool.or_eq_true, Bool.not_eq_true', decide_eq_true_eq, List.mem_range] at h1
  obtain ⟨h2, h3⟩ := h1
  refine ⟨fun e he hb => ?_, fun j oj hj hoj hm => ?_⟩
  · rcases h2 e (by simpa using he) with h4 | h4
    · rw [hb] at h4; cases h4
    · exact h4
  · have h4 := h3 j hj
    simp only [hoj, Bool.or_eq_true, Bool.not_eq_true'] at h4
    rcases h4 with h4 | h4
    · rw [hm] at h4; cases h4
    · exact h4

/-- What is not yet listed, as it stands. -/
def remIdx (n : Nat) (listed : Array Bool) : List Nat := (List.range n).filter fun i => !listed.getD i true
def rem (ops : Array Oper) (listed : Array Bool) : List Oper := (remIdx ops.size listed).filterMap (ops[·]?)
theorem range_split {n i : Nat} (h : i < n) : List.range n = List.range i ++ i :: List.range' (i + 1) (n - i - 1) := by
  rw [List.range_eq_range', List.range_eq_range']
  have h1 : List.range' 0 n = List.range' 0 i ++ List.range' (0 + 1 * i) (n - i) := by rw [List.range'_append]; congr 1; omega
  rw [h1]
  congr 1
  have h2 : n - i = (n - i - 1) + 1 := by omega
  rw [h2, List.range'_succ]
  simp
theorem remIdx_split {n i : Nat} {listed : Array Bool} (h : i < n) (hl : listed.getD i true = false) (hs : listed.size = n) : ∃ A B, remIdx n listed = A ++ i :: B ∧ remIdx n (listed.setIfInBounds i true) = A ++ B ∧ ∀ j ∈ A, j < i ∧ listed.getD j true = false := by
  refine ⟨(List.range i).filter fun j => !listed.getD j true, (List.range' (i + 1) (n - i - 1)).filter fun j => !listed.getD j true, ?_, ?_, ?_⟩
  · unfold remIdx
    rw [range_split h, List.filter_append, List.filter_cons, hl]
    rfl
  · unfold remIdx
    rw [range_split h, List.filter_append, List.filter_cons]
    have hi : (listed.setIfInBounds i true).getD i true = true := by simp [hs, h]
    rw [hi]
    simp only [Bool.not_true, Bool.false_eq_true, if_false]
    congr 1
    · refine List.filter_congr fun j hj => ?_
      rw [getD_set_ne true]
      have := List.mem_range.1 hj
      omega
    · refine List.filter_congr fun j hj => ?_
      rw [getD_set_ne true]
      have := (List.mem_range'_1.1 hj).1
      omega
  · intro j hj
    obtain ⟨h1, h2⟩ := List.mem_filter.1 hj
    exact ⟨List.mem_range.1 h1, by simpa using h2⟩
theorem rem_split {ops : Array Oper} {i : Nat} {oi : Oper} {listed : Array Bool} (hi : ops[i]? = some oi) (hl : listed.getD i true = false) (hs : listed.size = ops.size) : ∃ A B, rem ops listed = A ++ oi :: B ∧ rem ops (listed.setIfInBounds i true) = A ++ B ∧ ∀ oj ∈ A, ∃ j, j < i ∧ listed.getD j true = false ∧ ops[j]? = some oj := by
  obtain ⟨A, B, h1, h2, h3⟩ := remIdx_split (Array.getElem?_eq_some_iff.1 hi).1 hl hs
  refine ⟨A.filterMap (ops[·]?), B.filterMap (ops[·]?), ?_, ?_, ?_⟩
  · unfold rem; rw [h1, List.filterMap_append, List.filterMap_cons, hi]
  · unfold rem; rw [h2, List.filterMap_append]
  · intro oj hj
    obtain ⟨j, k1, k2⟩ := List.mem_filterMap.1 hj
    exact ⟨j, (h3 j k1).1, (h3 j k1).2, k2⟩
theorem rem_mem {ops : Array Oper} {listed : Array Bool} {o : Oper} (h : o ∈ rem ops listed) : ∃ j : Nat, ops[j]? = some o := by
  obtain ⟨j, _, h2⟩ := List.mem_filterMap.1 h
  exact ⟨j, h2⟩

/-- What is left is ready where it is least. -/
theorem ready_least {q : List Nat} {ops : Array Oper} {listed : Array Bool} (hok : okDraw q ops = true) (hs : listed.size = ops.size) (hr : Region.ready .any ops listed = []) : remIdx ops.size listed = [] := by
  have key : ∀ i, i < ops.size → listed.getD i true = true := by
    intro i
    induction i using Nat.strongRecOn with
    | _ i ih =>
      intro hi
      cases hl : listed.getD i true with
      | true => rfl
      | false =>
        exfalso
        have hmem : i ∈ Region.ready .any ops listed := by
          rw [mem_ready]
          have ho : ops[i]? = some ops[i] := Array.getElem?_eq_getElem hi
          refine ⟨hl, _, ho, fun e he hb => ?_⟩
          have hlt := (okDraw_spec hok ho).1 e he hb
          have h1 := ih e.on hlt (by omega)
          have hb2 : e.on < listed.size := by omega
          simpa [Array.getD, hb2] using h1
        rw [hr] at hmem
        cases hmem
  unfold remIdx
  rw [List.filter_eq_nil_iff]
  intro i hi
  rw [key i (List.mem_range.1 hi)]
  simp

theorem op_machine {q : List Nat} {ops : Array Oper} {o : Oper} {env : Env} {H H' : Heap} {r : AV} (h : dstep P C q ops o env H r H') (hok : okOp C.nG o = true) {m : Places} {w : World} {a : Act} (hH : RepH C m w H) (hE : RepE m w env a) {i : Nat} (hi : ops[i]? = some o) {K : Act → World → Prop} {Q : Exit → Act → World → Prop}
    (hK : ∀ m' w' a', Fwd C m w m' w' H' → RepE m' w' (setD env o.dst r) a' → K a' w') : wpOp P ops Q i K a w := by
  unfold wpOp
  rw [hi]
  simp only
  rcases h with ⟨hw, rfl, rfl⟩ | ⟨hw, ⟨c, f, args, ho, hcl, h1, h2⟩ | ⟨hcl, hs⟩⟩
  · rw [if_neg (by rw [wantA_wanted hw hE]; simp)]
    exact hK m w _ ⟨List.prefix_refl m, Szs.refl w, hH⟩ (hE.put o.dst rfl)
  · rw [if_pos (wantA_wanted hw hE)]
    left
    obtain ⟨vals, h3, h4⟩ := callOf_run hcl ho hH hE hok h1.1
    unfold Oper.wp
    rw [h3, Oper.upon_enter]
    refine (h1.2 m w vals hH h4).mono ?_
    rintro e w' ⟨rv, m', H2, r', rfl, k1, k2, rfl, rfl⟩
    exact hK m' w' _ k1 ((hE.more k1.pre k1.szs).put o.dst k2)
  · rw [if_pos (wantA_wanted hw hE)]
    left
    obtain ⟨nxt, m', w', h1, h2, h3⟩ := astep_run hs hH hE hok
    unfold Oper.wp
    rw [h1]
    have hE' := hE.more h3.pre h3.szs
    rcases h2 with ⟨u, rfl, hu⟩ | ⟨rfl, rfl⟩
    · exact hK m' w' _ h3 (hE'.put o.dst hu)
    · exact hK m' w' _ h3 (hE'.put o.dst (v := undef) trivial)

theorem any_sound {q : List Nat} {ops : Array Oper} (hok : okDraw q ops = true) (hops : ops.toList.all (okOp C.nG) = true) {K : Env → Heap → Prop} {Q : Exit → Act → World → Prop} {m0 : Places} {w0 : World} (hQ : ∀ m' w' a' env' H', Fwd C m0 w0 m' w' H' → RepE m' w' env' a' → K env' H' → Q .normal a' w') :
    ∀ (fuel : Nat) (listed : Array Bool) (m : Places) (w : World) (a : Act) (env : Env) (H : Heap), listed.size = ops.size → (remIdx ops.size listed).length ≤ fuel → Dn ops listed → Fwd C m0 w0 m w H → RepE m w env a → aops P C (some q) ops (rem ops listed) env H K → wpAny P .any ops Q fuel listed a w
  | 0, listed, m, w, a, env, H, hs, hf, hd, hH, hE, h => by
    have h0 : remIdx ops.size listed = [] := List.eq_nil_of_length_eq_zero (by omega)
    unfold wpAny
    unfold rem at h
    rw [h0] at h
    refine ⟨?_, hQ m w a env H hH hE h⟩
    refine List.eq_nil_iff_forall_not_mem.2 fun i hi => ?_
    obtain ⟨k1, o, k2, _⟩ := mem_ready.1 hi
    have : i ∈ remIdx ops.size listed := List.mem_filter.2 ⟨List.mem_range.2 (Array.getElem?_eq_some_iff.1 k2).1, by rw [k1]; rfl⟩
    rw [h0] at this
    cases this
  | fuel + 1, listed, m, w, a, env, H, hs, hf, hd, hH, hE, h => by
    unfold wpAny
    refine ⟨fun hr => ?_, fun i hi => ?_⟩
    · unfold rem at h
      rw [ready_least hok hs hr] at h
      exact hQ m w a env H hH hE h
    · obtain ⟨k1, oi, k2, k3⟩ := mem_ready.1 hi
      obtain ⟨A, B, q1, q2, q3⟩ := rem_split k2 k1 hs
      have hoks : ∀ o : Oper, (∃ j : Nat, ops[j]? = some o) → okOp C.nG o = true := fun o ⟨j, hj⟩ => List.all_eq_true.1 hops o (by rw [Array.mem_toList_iff]; exact Array.mem_of_getElem? hj)
      rw [q1] at h
      obtain ⟨r, H', h1, h2⟩ := aops_ahead (hoks oi ⟨i, k2⟩) (fun oj hoj => by
        obtain ⟨j, j1, j2, j3⟩ := q3 oj hoj
        cases hm : meets q ops oi oj with
        | false => rfl
        | true =>
          exfalso
          have h5 := reach_listed hd _ _ _ _ ((okDraw_spec hok k2).2 j oj j1 j3 hm) k2 k3
          have hjs : j < listed.size := by rw [hs]; exact (Array.getElem?_eq_some_iff.1 j3).1
          simp [Array.getD, hjs] at h5 j2
          rw [h5] at j2
          cases j2) (fun oj hoj => by
        obtain ⟨j, _, _, j3⟩ := q3 oj hoj
        exact hoks oj ⟨j, j3⟩) ⟨m, w, a, hH.rep, hE⟩ h
      refine op_machine h1 (hoks oi ⟨i, k2⟩) hH.rep hE k2 fun m' w' a' e1 e2 => any_sound hok hops hQ fuel _ m' w' a' _ H' (by simp [hs]) ?_ ?_ (hH.trans e1) e2 (by rw [q2]; exact h2)
      · obtain ⟨A', B', p1, p2, _⟩ := remIdx_split (Array.getElem?_eq_some_iff.1 k2).1 k1 hs
        rw [p2]; rw [p1] at hf
        simp only [List.length_append, List.length_cons] at hf ⊢
        omega
      · intro j oj hj hoj e he hb
        by_cases hij : i = j
        · subst hij
          rw [k2] at hoj
          cases hoj
          exact getD_set_true (k3 e he hb)
        · rw [getD_set_ne false hij] at hj
          exact getD_set_true (hd j oj hj hoj e he hb)

theorem remIdx_start (n : Nat) : remIdx n (Array.replicate n false) = List.range n := by
  unfold remIdx
  rw [List.filter_eq_self]
  intro i hi
  have := List.mem_range.1 hi
  simp [Array.getD, this]
theorem filterMap_range {α : Type} (l : List α) : ∀ n, (List.range n).filterMap (l[·]?) = l.take n
  | 0 => by simp
  | n + 1 => by
    rw [List.range_succ, List.filterMap_append, filterMap_range l n, List.take_add_one]
    cases h : l[n]? <;> simp [h]
theorem rem_start (ops : Array Oper) : rem ops (Array.replicate ops.size false) = ops.toList := by
  unfold rem
  rw [remIdx_start]
  have h := filterMap_range ops.toList ops.size
  simp only [Array.getElem?_toList] at h
  rw [h, ← Array.length_toList, List.take_length]

/-- THE RULE FOR A REGION THAT DRAWS ITS ORDER. -/
theorem A_draw {id : Nat} {q : List Nat} {ops : Array Oper} {env : Env} {H : Heap} {Q : Exit → Env → Heap → Prop} (hm : P.follows .mixedOrders = true) (hok : okDraw q ops = true) (hops : ops.toList.all (okOp C.nG) = true) (h : aops P C (some q) ops ops.toList env H fun e h => Q .normal e h) : AWp P C (.region id ops true) env H Q := by
  intro m w a hH hE
  refine wp_region_any hm ?_
  have hH1 : RepH C m { w with drawn := w.drawn + 1 } H := hH.drewN 1
  refine any_sound hok hops (fun m' w' a' env' H' k1 k2 k3 => ⟨m', env', H', ⟨k1.pre, (szs_drewN w 1).trans k1.szs, k1.rep⟩, k2, k3⟩) ops.size _ m _ a env H (by simp) (by rw [remIdx_start]; simp) (fun i o hi => by
    exfalso
    rcases Nat.lt_or_ge i ops.size with hlt | hlt <;> simp [Array.getD, hlt] at hi) ⟨List.prefix_refl m, Szs.refl _, hH1⟩ (hE.more (List.prefix_refl m) (szs_drewN w 1)) (by rw [rem_start]; exact h)
end Go.Proofs.YtlfpjdcogkcjlaaGreatDoor.AL
