/-
  The operations over abstract states: what each gives, and that the machine's operation does that.
-/
import Derived.Test.YtlfpjdcogkcjlaaGreatDoorAL1
namespace Go.Proofs.YtlfpjdcogkcjlaaGreatDoor.AL
open Go.RowKit
set_option linter.unusedVariables false
set_option linter.unusedSimpArgs false

/-- A computation that touches no memory. -/
def pureRun (P : Program) {α : Type} : Sem α → Option α
  | .pure a => some a
  | .program k => pureRun P (k P)
  | _ => none
theorem pureRun_run {P : Program} {α : Type} : ∀ {s : Sem α} {v : α}, pureRun P s = some v → ∀ w, s.run P w = .ok v w
  | .pure a, v, h, w => by simp only [pureRun, Option.some.injEq] at h; subst h; rfl
  | .program k, v, h, w => by simp only [pureRun] at h; simp only [Sem.run]; exact pureRun_run h w
  | .load .., _, h, _ => by simp [pureRun] at h
  | .store .., _, h, _ => by simp [pureRun] at h
  | .new .., _, h, _ => by simp [pureRun] at h
  | .shape .., _, h, _ => by simp [pureRun] at h
  | .freeze .., _, h, _ => by simp [pureRun] at h
  | .frozen .., _, h, _ => by simp [pureRun] at h
  | .getObj .., _, h, _ => by simp [pureRun] at h
  | .setObj .., _, h, _ => by simp [pureRun] at h
  | .choose .., _, h, _ => by simp [pureRun] at h
  | .sys .., _, h, _ => by simp [pureRun] at h
  | .mark .., _, h, _ => by simp [pureRun] at h
  | .halt .., _, h, _ => by simp [pureRun] at h

/-- What types say: the number of cells of a struct or an array (none: one cell, by itself). -/
inductive Kind where
  | one
  | many (n : Nat)
  deriving DecidableEq
def kd (P : Program) (t : TypeId) : Option Kind :=
  match P.underlying t, P.info? t with
  | some (.struct _), some i => some (.many i.size)
  | some (.array ..), some i => some (.many i.size)
  | some _, some i => if i.size = 1 then some .one else none
  | _, _ => none
/-- A struct's field: its first cell (fields without cells are left out). -/
def fo (P : Program) (t : TypeId) (f : Nat) : Option Nat :=
  match P.underlying t with
  | some (.struct fs) => match fs[f]? with
    | some x => match P.info? x.type with
      | some i => if i.size = 0 then none else some x.offset
      | none => none
    | none => none
  | _ => none
/-- A slice type's element: its type, cells, bytes, zero. -/
def el (P : Program) (t : TypeId) : Option (TypeId × Nat × Nat × List Value) :=
  match P.underlying t with
  | some (.slice e) => match P.info? e with
    | some i => match i.zero with
      | some z => if z.cells.size = i.size ∧ 0 < i.size ∧ (z.cells.all fun u => u.oneCell') then some (e, i.size, i.bytes, z.cells.toList) else none
      | none => none
    | none => none
  | _ => none
/-- A type's zero cells. -/
def zc (P : Program) (t : TypeId) : Option (List Value) :=
  match P.info? t with
  | some i => match i.zero with
    | some z => if z.cells.size = i.size then some z.cells.toList else none
    | none => none
  | none => none

def opA (env : Env) : Operand → AV
  | .tmp t => env.getD t .any
  | .const v => .val v
  | .global g => .ptr g 0
  | .func f => .fn (.func f) [] []

mutual
/-- A value that leads to no object, as the machine has it. -/
def plain : AV → Option Value
  | .val v => some v
  | .agg l => (plains l).map fun vs => .agg vs.toArray
  | .tup l => (plains l).map fun vs => .tuple vs.toArray
  | .ifc t c => (plain c).map (.iface t)
  | _ => none
def plains : List AV → Option (List Value)
  | [] => some []
  | c :: l => (plain c).bind fun v => (plains l).map (v :: ·)
end
mutual
theorem plain_rel {m : Places} {w : World} : ∀ {c : AV} {v x : Value}, plain c = some v → rel m w c x → x = v
  | .val u, v, x, h, hr => by simp only [plain, Option.some.injEq] at h; subst h; exact hr
  | .agg l, v, x, h, hr => by
    simp only [plain, Option.map_eq_some_iff] at h
    obtain ⟨vs, h1, rfl⟩ := h
    obtain ⟨us, rfl, h2⟩ := hr
    rw [← plains_rel h1 h2]
  | .tup l, v, x, h, hr => by
    simp only [plain, Option.map_eq_some_iff] at h
    obtain ⟨vs, h1, rfl⟩ := h
    obtain ⟨us, rfl, h2⟩ := hr
    rw [← plains_rel h1 h2]
  | .ifc t c, v, x, h, hr => by
    simp only [plain, Option.map_eq_some_iff] at h
    obtain ⟨u, h1, rfl⟩ := h
    obtain ⟨y, rfl, h2⟩ := hr
    rw [plain_rel h1 h2]
  | .ptr .., _, _, h, _ => by simp [plain] at h
  | .sl .., _, _, h, _ => by simp [plain] at h
  | .mp .., _, _, h, _ => by simp [plain] at h
  | .fn .., _, _, h, _ => by simp [plain] at h
  | .any, _, _, h, _ => by simp [plain] at h
theorem plains_rel {m : Places} {w : World} : ∀ {l : List AV} {vs us : List Value}, plains l = some vs → rels m w l us → us = vs
  | [], vs, us, h, hr => by
    simp only [plains, Option.some.injEq] at h
    subst h
    cases us with
    | nil => rfl
    | cons _ _ => exact hr.elim
  | c :: l, vs, us, h, hr => by
    simp only [plains, Option.bind_eq_some_iff, Option.map_eq_some_iff] at h
    obtain ⟨v, h1, vs', h2, rfl⟩ := h
    cases us with
    | nil => exact hr.elim
    | cons u us => rw [plain_rel h1 hr.1, plains_rel h2 hr.2]
end

def cellsOf (H : Heap) (o : Nat) : Option (List AV) :=
  match H[o]? with
  | some (.ro cs) => some cs
  | some (.own _ cs) => some cs
  | _ => none
/-- Does it lie in one cell? -/
def AV.one : AV → Bool
  | .val v => v.oneCell'
  | .agg _ => false
  | .tup _ => false
  | .any => false
  | _ => true
theorem one_rel {m : Places} {w : World} {c : AV} {v : Value} (h : c.one = true) (hr : rel m w c v) : v.oneCell' = true := by
  cases c with
  | val u => rw [show v = u from hr]; exact h
  | ptr o off => obtain ⟨b, _, rfl⟩ := hr; rfl
  | sl a o off len st => obtain ⟨b, a, cap, _, rfl, _⟩ := hr; rfl
  | mp o => obtain ⟨b, _, rfl⟩ := hr; rfl
  | ifc t c => obtain ⟨u, rfl, _⟩ := hr; rfl
  | fn f a c => obtain ⟨us, vs, rfl, _⟩ := hr; rfl
  | agg _ => simp [AV.one] at h
  | tup _ => simp [AV.one] at h
  | any => simp [AV.one] at h
/-- The cells that a value is. -/
def avCells : AV → Option (List AV)
  | .agg l => if l.all AV.one then some l else none
  | .val v => if v.oneCell' then some [.val v] else match v with | .agg vs => if vs.toList.all Value.oneCell' then some (vs.toList.map .val) else none | _ => none
  | .any => none
  | .tup _ => none
  | c => some [c]
theorem rels_val (m : Places) (w : World) : ∀ vs : List Value, rels m w (vs.map .val) vs
  | [] => trivial
  | v :: vs => ⟨rfl, rels_val m w vs⟩
theorem rels_one {m : Places} {w : World} : ∀ {l : List AV} {vs : List Value}, l.all AV.one = true → rels m w l vs → ∀ v ∈ vs, v.oneCell' = true
  | [], [], _, _ => by simp
  | c :: l, v :: vs, h, hr => by
    simp only [List.all_cons, Bool.and_eq_true] at h
    intro u hu
    rcases List.mem_cons.1 hu with rfl | hu
    · exact one_rel h.1 hr.1
    · exact rels_one h.2 hr.2 u hu
  | [], _ :: _, _, hr => hr.elim
  | _ :: _, [], _, hr => hr.elim
theorem cells_one {v : Value} (h : v.oneCell' = true) : v.cells = #[v] := by cases v <;> first | rfl | simp [Value.oneCell'] at h
theorem avCells_rel {m : Places} {w : World} {c : AV} {v : Value} {l : List AV} (h : avCells c = some l) (hr : rel m w c v) :
    rels m w l v.cells.toList ∧ ∀ u ∈ v.cells.toList, u.oneCell' = true := by
  have lone : ∀ c : AV, c.one = true → rel m w c v → avCells c = some [c] → avCells c = some l → rels m w l v.cells.toList ∧ ∀ u ∈ v.cells.toList, u.oneCell' = true := by
    intro c h1 hr h2 h3
    rw [h2] at h3
    obtain rfl := Option.some.inj h3
    have h4 := one_rel h1 hr
    rw [cells_one h4]
    exact ⟨⟨hr, trivial⟩, by simpa using h4⟩
  cases c with
  | agg l' =>
    simp only [avCells] at h
    split at h
    · rename_i ha
      obtain rfl := Option.some.inj h
      obtain ⟨vs, rfl, h2⟩ := hr
      exact ⟨h2, rels_one ha h2⟩
    · cases h
  | val u =>
    have hu : v = u := hr
    subst hu
    simp only [avCells] at h
    split at h
    · rename_i h1
      obtain rfl := Option.some.inj h
      rw [cells_one h1]
      exact ⟨⟨rfl, trivial⟩, by simpa using h1⟩
    · split at h
      · split at h
        · rename_i vs _ ha
          obtain rfl := Option.some.inj h
          exact ⟨rels_val m w _, fun u hu => List.all_eq_true.1 ha u (by simpa [Value.cells] using hu)⟩
        · cases h
      · cases h
  | any => simp [avCells] at h
  | tup _ => simp [avCells] at h
  | ptr o off => exact lone _ rfl hr rfl h
  | sl a o off len st => exact lone _ rfl hr rfl h
  | mp o => exact lone _ rfl hr rfl h
  | ifc t c => exact lone _ rfl hr rfl h
  | fn f a c => exact lone _ rfl hr rfl h

/-- A step's answer: the value that it yields (none: nothing is yielded), the objects behind it. -/
abbrev Ans := Option (AV × Heap)

def loadA (P : Program) (t : TypeId) (x : AV) (H : Heap) : Ans :=
  match x with
  | .ptr o off => match cellsOf H o, kd P t with
    | some cs, some .one => (cs[off]?).map fun c => (c, H)
    | some cs, some (.many n) => if off + n ≤ cs.length then some (.agg ((cs.drop off).take n), H) else none
    | _, _ => none
  | _ => none
/-- cells put from place i on -/
def putCells (cs : List AV) (i : Nat) (l : List AV) : List AV := cs.take i ++ l ++ cs.drop (i + l.length)
def storeA (P : Program) (t : TypeId) (x v : AV) (H : Heap) : Option Heap :=
  match x, avCells v with
  | .ptr o off, some l => match H[o]? with
    | some (.own e cs) => if (P.info? t).map (·.size) = some l.length ∧ off + l.length ≤ cs.length then some (H.set o (.own e (putCells cs off l))) else none
    | _ => none
  | _, _ => none
def natOf (i : Int) (n : Nat) : Option Nat := if 0 ≤ i ∧ i ≤ n then some i.toNat else none

end Go.Proofs.YtlfpjdcogkcjlaaGreatDoor.AL
